import JvmDerived
import JvmDerived.Pilot.@@N@@Statement
import JvmDerived.Pilot.@@N@@Code
set_option linter.unusedVariables false
set_option linter.unusedSimpArgs false
namespace Jvm.Pilot.@@N@@
open Jvm Jvm.ClassFile Sem Op Lib Jvm.Free Jvm.Stand Jvm.LawKit Jvm.RoadKit Bundle Jvm.Pilot.@@N@@.Jvm.D
/-- from the state st the run ends, of which Q says what it leaves -/
def own_Ends (tb : Tables) (e : Env) (below : List Frame) (s : State) (Q : Option Value → Heap → List Loc → Prop) (C S : Nat) (st : State) : Prop :=
  ∃ t o, Steps tb e below st t ∧ t.status = .running ∧ Ended t below o ∧ ∃ v L, o = .returned v ∧ Q v t.heap L ∧ FrameEnd s o t L C S
theorem own_step {tb : Tables} {e : Env} {below : List Frame} {s : State} {Q : Option Value → Heap → List Loc → Prop} {C S : Nat} {st st' : State}
    (h : ∀ t, Steps tb e below st' t → Steps tb e below st t) (k : own_Ends tb e below s Q C S st') : own_Ends tb e below s Q C S st := by
  obtain ⟨t, o, h1, h2⟩ := k
  exact ⟨t, o, h t h1, h2⟩
section OwnRet
variable {p : Program} {l : Launch} {e : Env} {R : Room} {s : State} {m : MethodId} {args : Array Value} {below : List Frame} {meth : Method} {c : Code} {T : State} {locs : List Loc} {cells slots : Nat} {Q : Option Value → Heap → List Loc → Prop} {C S : Nat} {pc : Nat} {Ls : Array Slot} {rest : List Value}
theorem own_retW (X : Stand p l e R s m args below meth c T locs cells slots) (hx : p.tables.exec = Jvm.exec) {w : Value} {t : FieldType} {i : Instr} (hret : meth.sig.returnType = some t) (hn : narrow t w = w)
    (hi : (i = .ireturn ∧ (t = .int ∨ t = .boolean ∨ t = .byte ∨ t = .char ∨ t = .short) ∧ ∃ z, w = .int z) ∨ (i = .lreturn ∧ t = .long ∧ ∃ z, w = .long z) ∨ (i = .dreturn ∧ t = .double ∧ ∃ z, w = .double z) ∨ (i = .freturn ∧ t = .float ∧ ∃ z, w = .float z) ∨ (i = .areturn ∧ t.isReference = true ∧ w.isRef = true))
    (hd : decode c.code pc = .ok (i, 1)) (hlocks : meth.locks = false) (hq : Q (some w) T.heap locs) (hc : cells ≤ C) (hs : slots ≤ S) :
    own_Ends p.tables e below s Q C S (T.setTop (mkF m pc Ls (w :: rest))) := by
  obtain ⟨fs, hr, hrun, hended, hW, hsame⟩ := X.leave (v := some w) (fun h => by rw [hret] at h; cases h) hlocks
  exact ⟨_, _, retOut X hx hret hn hi hd hr, hrun, hended, _, _, rfl, hq, ⟨_, rfl⟩, hW, hsame.mono hc hs⟩
theorem own_retI (X : Stand p l e R s m args below meth c T locs cells slots) (hx : p.tables.exec = Jvm.exec) {z : Int32} (hret : meth.sig.returnType = some .int)
    (hd : decode c.code pc = .ok (.ireturn, 1)) (hlocks : meth.locks = false) (hq : Q (some (.int z)) T.heap locs) (hc : cells ≤ C) (hs : slots ≤ S) :
    own_Ends p.tables e below s Q C S (T.setTop (mkF m pc Ls (.int z :: rest))) :=
  own_retW X hx hret rfl (Or.inl ⟨rfl, Or.inl rfl, z, rfl⟩) hd hlocks hq hc hs
theorem own_retJ (X : Stand p l e R s m args below meth c T locs cells slots) (hx : p.tables.exec = Jvm.exec) {z : Int64} (hret : meth.sig.returnType = some .long)
    (hd : decode c.code pc = .ok (.lreturn, 1)) (hlocks : meth.locks = false) (hq : Q (some (.long z)) T.heap locs) (hc : cells ≤ C) (hs : slots ≤ S) :
    own_Ends p.tables e below s Q C S (T.setTop (mkF m pc Ls (.long z :: rest))) :=
  own_retW X hx hret rfl (Or.inr (Or.inl ⟨rfl, rfl, z, rfl⟩)) hd hlocks hq hc hs
theorem own_retR (X : Stand p l e R s m args below meth c T locs cells slots) (hx : p.tables.exec = Jvm.exec) {w : Value} {t : FieldType} (hret : meth.sig.returnType = some t) (ht : t.isReference = true) (hw : w.isRef = true) (hn : narrow t w = w)
    (hd : decode c.code pc = .ok (.areturn, 1)) (hlocks : meth.locks = false) (hq : Q (some w) T.heap locs) (hc : cells ≤ C) (hs : slots ≤ S) :
    own_Ends p.tables e below s Q C S (T.setTop (mkF m pc Ls (w :: rest))) :=
  own_retW X hx hret hn (Or.inr (Or.inr (Or.inr (Or.inr ⟨rfl, ht, hw⟩)))) hd hlocks hq hc hs
theorem own_retN (X : Stand p l e R s m args below meth c T locs cells slots) (hx : p.tables.exec = Jvm.exec) {z : Int32} {t : FieldType} (hret : meth.sig.returnType = some t) (ht : t = .boolean ∨ t = .byte ∨ t = .char ∨ t = .short)
    (hd : decode c.code pc = .ok (.ireturn, 1)) (hlocks : meth.locks = false) (hq : Q (some (.int (nar t z))) T.heap locs) (hc : cells ≤ C) (hs : slots ≤ S) :
    own_Ends p.tables e below s Q C S (T.setTop (mkF m pc Ls (.int z :: rest))) := by
  obtain ⟨fs, hr, hrun, hended, hW, hsame⟩ := X.leave (v := some (.int (nar t z))) (fun h => by rw [hret] at h; cases h) hlocks
  exact ⟨_, _, retN X hx hret ht hd hr, hrun, hended, _, _, rfl, hq, ⟨_, rfl⟩, hW, hsame.mono hc hs⟩
theorem own_ret0 (X : Stand p l e R s m args below meth c T locs cells slots) (hx : p.tables.exec = Jvm.exec) (hret : meth.sig.returnType = none)
    (hd : decode c.code pc = .ok (.return_, 1)) (hlocks : meth.locks = false) (hq : Q none T.heap locs) (hc : cells ≤ C) (hs : slots ≤ S) :
    own_Ends p.tables e below s Q C S (T.setTop (mkF m pc Ls [])) := by
  obtain ⟨fs, hr, hrun, hended, hW, hsame⟩ := X.leave (v := none) (fun _ => rfl) hlocks
  exact ⟨_, _, X.returnOut hx hret hd hr, hrun, hended, _, _, rfl, hq, ⟨_, rfl⟩, hW, hsame.mono hc hs⟩
end OwnRet
theorem own_idx (b n : Int32) (hn : 0 < n.toInt) : ¬ ((b &&& 2147483647) % n) < 0 ∧ ((b &&& 2147483647) % n) < n := by
  have h1 := c_and b 2147483647 (by decide)
  have h2 := (c_iremV (b &&& 2147483647) n).1 h1.1 hn
  constructor
  · rw [Int32.lt_iff_toInt_lt]; show ¬ _ < (0 : Int); omega
  · rw [Int32.lt_iff_toInt_lt]; omega
theorem own_small (v : Int32) (k : Nat) (hk : k < 2147483648) (h1 : ¬ v < 0) (h2 : v < Int32.ofNat k) : ∃ n : Fin k, v = Int32.ofNat n.1 := by
  rw [Int32.lt_iff_toInt_lt] at h1 h2
  rw [Int32.toInt_ofNat_of_lt hk] at h2
  have a : 0 ≤ v.toInt := by simpa using h1
  refine ⟨⟨v.toInt.toNat, by omega⟩, ?_⟩
  apply Int32.toInt_inj.mp
  rw [Int32.toInt_ofNat_of_lt (by show v.toInt.toNat < _; omega)]
  show v.toInt = ((v.toInt.toNat : Nat) : Int)
  omega
def own_EndsW (tb : Tables) (e : Env) (below : List Frame) (s : State) (Q : Option Value → Heap → List Loc → Prop) (C S : Nat) (st : State) : Prop :=
  ∃ t o, Steps tb e below st t ∧ t.status = .running ∧ Ended t below o ∧ ∃ v L, o = .returned v ∧ Q v t.heap L ∧ ReturnedEndW s o t L C S
theorem own_stepW {tb : Tables} {e : Env} {below : List Frame} {s : State} {Q : Option Value → Heap → List Loc → Prop} {C S : Nat} {st st' : State}
    (h : ∀ t, Steps tb e below st' t → Steps tb e below st t) (k : own_EndsW tb e below s Q C S st') : own_EndsW tb e below s Q C S st := by
  obtain ⟨t, o, h1, h2⟩ := k
  exact ⟨t, o, h t h1, h2⟩
theorem own_retNW {p : Program} {l : Launch} {e : Env} {R : Room} {s : State} {m : MethodId} {args : Array Value} {below : List Frame} {meth : Method} {c : Code} {T : State} {locs : List Loc} {cells slots : Nat} {Q : Option Value → Heap → List Loc → Prop} {C S : Nat} {pc : Nat} {Ls : Array Slot} {rest : List Value} {vm₁ : Vm}
    (X : Stand p l e R (s.setVm vm₁) m args below meth c T locs cells slots) (hx : p.tables.exec = Jvm.exec) {n : Nat} (hS : s.Since vm₁ n) (hn : n ≤ T.heap.size) {z : Int32} {t : FieldType} (hret : meth.sig.returnType = some t) (ht : t = .boolean ∨ t = .byte ∨ t = .char ∨ t = .short)
    (hd : decode c.code pc = .ok (.ireturn, 1)) (hlocks : meth.locks = false) (hq : Q (some (.int (nar t z))) T.heap locs) (hc : cells ≤ C) (hs : slots ≤ S) :
    own_EndsW p.tables e below s Q C S (T.setTop (mkF m pc Ls (.int z :: rest))) := by
  obtain ⟨fs, hr, hrun, hended, hR⟩ := X.leaveW hS hn (v := some (.int (nar t z))) (fun h => by rw [hret] at h; cases h) hlocks
  exact ⟨_, _, retN X hx hret ht hd hr, hrun, hended, _, _, rfl, hq, hR.1, hR.2.1, hR.2.2.1, hR.2.2.2.mono hc hs⟩
theorem own_selPriv {Z s : State} {a0 args : Array Value} {y : MethodName} {n : Nat} (hZ : Z.Warmed39 s.vm) (wi : (Jvm.Cond.instantiable y.cls n).before a0 Z = true) (wp : (Jvm.Cond.privateMethod y).before a0 Z = true) (wm : (Jvm.Cond.instanceMethod y).before a0 Z = true)
    (hy : y.cls ≠ "java/lang/invoke/MethodHandle" ∧ y.cls ≠ "java/lang/invoke/VarHandle") : (Jvm.Cond.selects y.cls y y).before args s = true := by
  obtain ⟨c, k, h1, h2, -, h4, -⟩ := Cond.instantiable_spec (mvT (args := args) hZ wi)
  exact selects_self_of_private h1 h2 (Bool.or_eq_false_iff.mp h4).1 (Cond.privateMethod_at (mvP (args := args) hZ wp)) (mvT hZ wm) hy
theorem d2_0 : decode prog_24_method_2_code 0 = .ok (.aload_n 0, 1) := by decide +kernel
theorem d2_1 : decode prog_24_method_2_code 1 = .ok (.invokespecial 7, 3) := by decide +kernel
theorem d2_4 : decode prog_24_method_2_code 4 = .ok (.aload_n 0, 1) := by decide +kernel
theorem d2_5 : decode prog_24_method_2_code 5 = .ok (.aload_n 1, 1) := by decide +kernel
theorem d2_6 : decode prog_24_method_2_code 6 = .ok (.putfield 12, 3) := by decide +kernel
theorem d2_9 : decode prog_24_method_2_code 9 = .ok (.aload_n 0, 1) := by decide +kernel
theorem d2_10 : decode prog_24_method_2_code 10 = .ok (.iload_n 2, 1) := by decide +kernel
theorem d2_11 : decode prog_24_method_2_code 11 = .ok (.putfield 16, 3) := by decide +kernel
theorem d2_14 : decode prog_24_method_2_code 14 = .ok (.aload_n 0, 1) := by decide +kernel
theorem d2_15 : decode prog_24_method_2_code 15 = .ok (.iload_n 3, 1) := by decide +kernel
theorem d2_16 : decode prog_24_method_2_code 16 = .ok (.putfield 20, 3) := by decide +kernel
theorem d2_19 : decode prog_24_method_2_code 19 = .ok (.return_, 1) := by decide +kernel
theorem pn_0 : plainName "com/example/proofwright/proofwright/cryptoconditions/DerReader" = true := by first | (simp [plainName, overriddenIn]; done) | decide +kernel
theorem ef_2 (m : MethodId) (o0_2 : Addr) (o1_2 : Addr) (x2_2 : Int32) (x3_2 : Int32) : entryFrame m #[(.ref o0_2), (.ref o1_2), (.int x2_2), (.int x3_2)] 4 = mkF m 0 #[.val (.ref o0_2), .val (.ref o1_2), .val (.int x2_2), .val (.int x3_2)] [] := by first | (simp [entryFrame, mkF, argsToLocals, Value.category]; done) | rfl
def Q2 (Z : State) (o0_2 : Addr) (o1_2 : Addr) (x2_2 : Int32) (x3_2 : Int32) (u_bytes_o0_2 : Value) (u_position_o0_2 : Value) (u_end_o0_2 : Value) (h0 : Heap) (n0 : Nat) (v : Option Value) (h : Heap) (L : List Loc) : Prop := v = none ∧ Fr n0 L ∧ Keep h0 h [o0_2] ∧ Exa Z h o0_2 "com/example/proofwright/proofwright/cryptoconditions/DerReader" ∧ Fld Z h o0_2 "com/example/proofwright/proofwright/cryptoconditions/DerReader" "bytes" "[B" (.ref o1_2) ∧ Fld Z h o0_2 "com/example/proofwright/proofwright/cryptoconditions/DerReader" "position" "I" (.int x2_2) ∧ Fld Z h o0_2 "com/example/proofwright/proofwright/cryptoconditions/DerReader" "end" "I" (.int x3_2)
set_option maxRecDepth 65536 in
set_option maxHeartbeats 40000000 in
theorem rm2 (l : Launch) (Z : State) (a0 : Array Value) (hw : ∀ d ∈ tables_1, d.before a0 Z = true) (ws : List Jvm.Cond) (o0_2 : Addr) (o1_2 : Addr) (x2_2 : Int32) (x3_2 : Int32) (u_bytes_o0_2 : Value) (u_position_o0_2 : Value) (u_end_o0_2 : Value) (h0 : Heap) (n0 : Nat) (O0 : Old Z n0 h0) (E_o0_2 : Exa Z h0 o0_2 "com/example/proofwright/proofwright/cryptoconditions/DerReader") (F_bytes_o0_2 : Fld Z h0 o0_2 "com/example/proofwright/proofwright/cryptoconditions/DerReader" "bytes" "[B" u_bytes_o0_2) (g_o0_2 : n0 ≤ o0_2) (F_position_o0_2 : Fld Z h0 o0_2 "com/example/proofwright/proofwright/cryptoconditions/DerReader" "position" "I" u_position_o0_2) (F_end_o0_2 : Fld Z h0 o0_2 "com/example/proofwright/proofwright/cryptoconditions/DerReader" "end" "I" u_end_o0_2) :
    MetFree l (⟨"com/example/proofwright/proofwright/cryptoconditions/DerReader", "<init>", "([BII)V"⟩ : MethodName) (head1 (Jvm.Cond.code (⟨"com/example/proofwright/proofwright/cryptoconditions/DerReader", "<init>", "([BII)V"⟩ : MethodName) prog_24_method_2_code 4 none :: ws) ({ frames := 1, cells := 0, slots := 0, locals := 12 } : Room)) (fun a U => a = #[(.ref o0_2), (.ref o1_2), (.int x2_2), (.int x3_2)] ∧ Z.Warmed39 U.vm ∧ U.heap = h0) (fun _ _ _ _ _ => True) (fun _ U o U' => ∃ v L, o = .returned v ∧ Q2 Z o0_2 o1_2 x2_2 x3_2 u_bytes_o0_2 u_position_o0_2 u_end_o0_2 h0 n0 v U'.heap L ∧ FrameEnd U o U' L ({ frames := 1, cells := 0, slots := 0, locals := 12 } : Room).cells ({ frames := 1, cells := 0, slots := 0, locals := 12 } : Room).slots) := by
  refine MetFree.of_bodySF (plainFor_of_name pn_0) hisR ?_
  intro p e s m args below meth c s₁ Bd hml0 hP hK
  obtain ⟨rfl, hZ, hh⟩ := hP
  have hx := Bd.exec
  have hby := Bd.bytes
  have hnl := BodyLoose.notSynchronized Bd
  have hml : c.maxLocals = 4 := hml0
  have hown : s.vm.findClass "com/example/proofwright/proofwright/cryptoconditions/DerReader" = some m.cls := findClass_of_methodNamed Bd.named
  have hnm := (name_of_methodNamed Bd.named Bd.method).1
  have X0 : Stand p l e ({ frames := 1, cells := 0, slots := 0, locals := 12 } : Room) s m #[(.ref o0_2), (.ref o1_2), (.int x2_2), (.int x3_2)] below meth c s₁ [] 0 0 := Stand.of_body Bd
  have e0 : s₁.heap = h0 := by rw [← hh, Bd.state]; rfl
  have N0 := Fr.nil n0
  show own_Ends p.tables e below s (Q2 Z o0_2 o1_2 x2_2 x3_2 u_bytes_o0_2 u_position_o0_2 u_end_o0_2 h0 n0) 0 0 (s₁.setTop (entryFrame m #[(.ref o0_2), (.ref o1_2), (.int x2_2), (.int x3_2)] 4))
  rw [ef_2 m o0_2 o1_2 x2_2 x3_2]
  show own_Ends p.tables e below s _ _ _ (s₁.setTop (mkF m 0 #[.val (.ref o0_2), .val (.ref o1_2), .val (.int x2_2), .val (.int x3_2)] []))
  refine own_step (fun t k => XS.aloadN X0.here hx rfl (hb hby d2_0) rfl rfl k) ?_
  show own_Ends p.tables e below s _ _ _ (s₁.setTop (mkF m 1 #[.val (.ref o0_2), .val (.ref o1_2), .val (.int x2_2), .val (.int x3_2)] [(.ref o0_2)]))
  obtain ⟨T1, X1, e1, st1⟩ := initO X0 hx hZ hown (hw _ (List.mem_of_getElem? (i := 10) rfl)) (hw _ (List.mem_of_getElem? (i := 11) rfl)) (hw _ (List.mem_of_getElem? (i := 12) rfl)) e0 (g := (mkF m 1 #[.val (.ref o0_2), .val (.ref o1_2), .val (.int x2_2), .val (.int x3_2)] [(.ref o0_2)])) rfl (by rw [hml]; rfl) rfl (hb hby d2_1) (by decide) (W := 0) (by show 2 * 0 + _ ≤ _; exact Nat.le_of_eq rfl) (by decide)
  refine own_step (fun t k => st1 _ k) ?_
  show own_Ends p.tables e below s _ _ _ (T1.setTop (mkF m 4 #[.val (.ref o0_2), .val (.ref o1_2), .val (.int x2_2), .val (.int x3_2)] []))
  refine own_step (fun t k => XS.aloadN X1.here hx rfl (hb hby d2_4) rfl rfl k) ?_
  show own_Ends p.tables e below s _ _ _ (T1.setTop (mkF m 5 #[.val (.ref o0_2), .val (.ref o1_2), .val (.int x2_2), .val (.int x3_2)] [(.ref o0_2)]))
  refine own_step (fun t k => XS.aloadN X1.here hx rfl (hb hby d2_5) rfl rfl k) ?_
  show own_Ends p.tables e below s _ _ _ (T1.setTop (mkF m 6 #[.val (.ref o0_2), .val (.ref o1_2), .val (.int x2_2), .val (.int x3_2)] [(.ref o1_2), (.ref o0_2)]))
  obtain ⟨T2, h2, X2, e2, W2, st2⟩ := putF X1 hx hZ hown (host := "") (Or.inl (hw _ (List.mem_of_getElem? (i := 13) rfl))) Via.refl e1 F_bytes_o0_2 E_o0_2 (Or.inr ⟨(hw _ (List.mem_of_getElem? (i := 14) rfl)), rfl, hnm⟩) (hw _ (List.mem_of_getElem? (i := 1) rfl)) (ty := (.array .byte)) (by decide) rfl rfl (g := (mkF m 6 #[.val (.ref o0_2), .val (.ref o1_2), .val (.int x2_2), .val (.int x3_2)] [(.ref o1_2), (.ref o0_2)])) rfl rfl (hb hby d2_6)
  refine own_step (fun t k => st2 _ k) ?_
  have F3 : Fld Z h2 o0_2 "com/example/proofwright/proofwright/cryptoconditions/DerReader" "bytes" "[B" (.ref o1_2) := F_bytes_o0_2.same W2
  have K4 : Keep h0 h2 [o0_2] := (Keep.refl h0 [o0_2]).wr W2 (Or.inl (List.mem_of_getElem? (i := 0) rfl))
  have N5 := Fr.snoc X2 N0 g_o0_2
  show own_Ends p.tables e below s _ _ _ (T2.setTop (mkF m 9 #[.val (.ref o0_2), .val (.ref o1_2), .val (.int x2_2), .val (.int x3_2)] []))
  refine own_step (fun t k => XS.aloadN X2.here hx rfl (hb hby d2_9) rfl rfl k) ?_
  show own_Ends p.tables e below s _ _ _ (T2.setTop (mkF m 10 #[.val (.ref o0_2), .val (.ref o1_2), .val (.int x2_2), .val (.int x3_2)] [(.ref o0_2)]))
  refine own_step (fun t k => XS.iloadN X2.here hx rfl (hb hby d2_10) rfl k) ?_
  show own_Ends p.tables e below s _ _ _ (T2.setTop (mkF m 11 #[.val (.ref o0_2), .val (.ref o1_2), .val (.int x2_2), .val (.int x3_2)] [(.int x2_2), (.ref o0_2)]))
  have F6 : Exa Z h2 o0_2 "com/example/proofwright/proofwright/cryptoconditions/DerReader" := (E_o0_2.wr W2)
  have F7 : Fld Z h2 o0_2 "com/example/proofwright/proofwright/cryptoconditions/DerReader" "position" "I" u_position_o0_2 := (F_position_o0_2.other W2 (Or.inr (slot_ne (Or.inl (hw _ (List.mem_of_getElem? (i := 16) rfl))) (Or.inr (hw _ (List.mem_of_getElem? (i := 14) rfl))) (by decide) (t := .int) (t' := (.array .byte)) (by decide) (by decide))))
  obtain ⟨T8, h8, X8, e8, W8, st8⟩ := putF X2 hx hZ hown (host := "") (Or.inl (hw _ (List.mem_of_getElem? (i := 15) rfl))) Via.refl e2 F7 F6 (Or.inl (hw _ (List.mem_of_getElem? (i := 16) rfl))) (hw _ (List.mem_of_getElem? (i := 1) rfl)) (ty := .int) (by decide) rfl rfl (g := (mkF m 11 #[.val (.ref o0_2), .val (.ref o1_2), .val (.int x2_2), .val (.int x3_2)] [(.int x2_2), (.ref o0_2)])) rfl rfl (hb hby d2_11)
  refine own_step (fun t k => st8 _ k) ?_
  have F9 : Fld Z h8 o0_2 "com/example/proofwright/proofwright/cryptoconditions/DerReader" "position" "I" (.int x2_2) := F7.same W8
  have K10 : Keep h0 h8 [o0_2] := K4.wr W8 (Or.inl (List.mem_of_getElem? (i := 0) rfl))
  have N11 := Fr.snoc X8 N5 g_o0_2
  show own_Ends p.tables e below s _ _ _ (T8.setTop (mkF m 14 #[.val (.ref o0_2), .val (.ref o1_2), .val (.int x2_2), .val (.int x3_2)] []))
  refine own_step (fun t k => XS.aloadN X8.here hx rfl (hb hby d2_14) rfl rfl k) ?_
  show own_Ends p.tables e below s _ _ _ (T8.setTop (mkF m 15 #[.val (.ref o0_2), .val (.ref o1_2), .val (.int x2_2), .val (.int x3_2)] [(.ref o0_2)]))
  refine own_step (fun t k => XS.iloadN X8.here hx rfl (hb hby d2_15) rfl k) ?_
  show own_Ends p.tables e below s _ _ _ (T8.setTop (mkF m 16 #[.val (.ref o0_2), .val (.ref o1_2), .val (.int x2_2), .val (.int x3_2)] [(.int x3_2), (.ref o0_2)]))
  have F12 : Exa Z h8 o0_2 "com/example/proofwright/proofwright/cryptoconditions/DerReader" := (F6.wr W8)
  have F13 : Fld Z h8 o0_2 "com/example/proofwright/proofwright/cryptoconditions/DerReader" "end" "I" u_end_o0_2 := ((F_end_o0_2.other W2 (Or.inr (slot_ne (Or.inr (hw _ (List.mem_of_getElem? (i := 18) rfl))) (Or.inr (hw _ (List.mem_of_getElem? (i := 14) rfl))) (by decide) (t := .int) (t' := (.array .byte)) (by decide) (by decide)))).other W8 (Or.inr (slot_ne (Or.inr (hw _ (List.mem_of_getElem? (i := 18) rfl))) (Or.inl (hw _ (List.mem_of_getElem? (i := 16) rfl))) (by decide) (t := .int) (t' := .int) (by decide) (by decide))))
  obtain ⟨T14, h14, X14, e14, W14, st14⟩ := putF X8 hx hZ hown (host := "") (Or.inl (hw _ (List.mem_of_getElem? (i := 17) rfl))) Via.refl e8 F13 F12 (Or.inr ⟨(hw _ (List.mem_of_getElem? (i := 18) rfl)), rfl, hnm⟩) (hw _ (List.mem_of_getElem? (i := 1) rfl)) (ty := .int) (by decide) rfl rfl (g := (mkF m 16 #[.val (.ref o0_2), .val (.ref o1_2), .val (.int x2_2), .val (.int x3_2)] [(.int x3_2), (.ref o0_2)])) rfl rfl (hb hby d2_16)
  refine own_step (fun t k => st14 _ k) ?_
  have F15 : Fld Z h14 o0_2 "com/example/proofwright/proofwright/cryptoconditions/DerReader" "end" "I" (.int x3_2) := F13.same W14
  have K16 : Keep h0 h14 [o0_2] := K10.wr W14 (Or.inl (List.mem_of_getElem? (i := 0) rfl))
  have N17 := Fr.snoc X14 N11 g_o0_2
  show own_Ends p.tables e below s _ _ _ (T14.setTop (mkF m 19 #[.val (.ref o0_2), .val (.ref o1_2), .val (.int x2_2), .val (.int x3_2)] []))
  have F18 : Exa Z h14 o0_2 "com/example/proofwright/proofwright/cryptoconditions/DerReader" := (F12.wr W14)
  have F19 : Fld Z h14 o0_2 "com/example/proofwright/proofwright/cryptoconditions/DerReader" "bytes" "[B" (.ref o1_2) := ((F3.other W8 (Or.inr (slot_ne (Or.inr (hw _ (List.mem_of_getElem? (i := 14) rfl))) (Or.inl (hw _ (List.mem_of_getElem? (i := 16) rfl))) (by decide) (t := (.array .byte)) (t' := .int) (by decide) (by decide)))).other W14 (Or.inr (slot_ne (Or.inr (hw _ (List.mem_of_getElem? (i := 14) rfl))) (Or.inr (hw _ (List.mem_of_getElem? (i := 18) rfl))) (by decide) (t := (.array .byte)) (t' := .int) (by decide) (by decide))))
  have F20 : Fld Z h14 o0_2 "com/example/proofwright/proofwright/cryptoconditions/DerReader" "position" "I" (.int x2_2) := (F9.other W14 (Or.inr (slot_ne (Or.inl (hw _ (List.mem_of_getElem? (i := 16) rfl))) (Or.inr (hw _ (List.mem_of_getElem? (i := 18) rfl))) (by decide) (t := .int) (t' := .int) (by decide) (by decide))))
  exact own_ret0 X14 hx Bd.returns (hb hby d2_19) hnl (by rw [e14]; exact ⟨rfl, N17, K16, F18, F19, F20, F15⟩) (by decide) (by decide)
theorem pd_0 : parseMethodDescriptor "([BII)V" = some ⟨[(.array .byte), .int, .int], none⟩ := by decide +kernel
theorem d1_0 : decode prog_24_method_1_code 0 = .ok (.aload_n 0, 1) := by decide +kernel
theorem d1_1 : decode prog_24_method_1_code 1 = .ok (.aload_n 1, 1) := by decide +kernel
theorem d1_2 : decode prog_24_method_1_code 2 = .ok (.iconst 0, 1) := by decide +kernel
theorem d1_3 : decode prog_24_method_1_code 3 = .ok (.aload_n 1, 1) := by decide +kernel
theorem d1_4 : decode prog_24_method_1_code 4 = .ok (.arraylength, 1) := by decide +kernel
theorem d1_5 : decode prog_24_method_1_code 5 = .ok (.invokespecial 1, 3) := by decide +kernel
theorem d1_8 : decode prog_24_method_1_code 8 = .ok (.return_, 1) := by decide +kernel
theorem ef_1 (m : MethodId) (o0_1 : Addr) (o1_1 : Addr) : entryFrame m #[(.ref o0_1), (.ref o1_1)] 2 = mkF m 0 #[.val (.ref o0_1), .val (.ref o1_1)] [] := by first | (simp [entryFrame, mkF, argsToLocals, Value.category]; done) | rfl
def Q1 (Z : State) (o0_1 : Addr) (o1_1 : Addr) (k_o1_1 : ClassId) (n_o1_1 : Int32) (vs_o1_1 : List Value) (dv_o1_1 : Value) (u_bytes_o0_1 : Value) (u_position_o0_1 : Value) (u_end_o0_1 : Value) (h0 : Heap) (n0 : Nat) (v : Option Value) (h : Heap) (L : List Loc) : Prop := v = none ∧ Fr n0 L ∧ Keep h0 h [o0_1] ∧ Exa Z h o0_1 "com/example/proofwright/proofwright/cryptoconditions/DerReader" ∧ Fld Z h o0_1 "com/example/proofwright/proofwright/cryptoconditions/DerReader" "bytes" "[B" (.ref o1_1) ∧ Fld Z h o0_1 "com/example/proofwright/proofwright/cryptoconditions/DerReader" "position" "I" (.int (0 : Int32)) ∧ Fld Z h o0_1 "com/example/proofwright/proofwright/cryptoconditions/DerReader" "end" "I" (.int n_o1_1)
set_option maxRecDepth 65536 in
set_option maxHeartbeats 40000000 in
theorem rm1 (l : Launch) (Z : State) (a0 : Array Value) (hw : ∀ d ∈ tables_1, d.before a0 Z = true) (ws : List Jvm.Cond) (o0_1 : Addr) (o1_1 : Addr) (k_o1_1 : ClassId) (n_o1_1 : Int32) (vs_o1_1 : List Value) (dv_o1_1 : Value) (u_bytes_o0_1 : Value) (u_position_o0_1 : Value) (u_end_o0_1 : Value) (h0 : Heap) (n0 : Nat) (O0 : Old Z n0 h0) (V_o1_1 : Arv Z h0 o1_1 k_o1_1 .byte n_o1_1 vs_o1_1 dv_o1_1) (E_o0_1 : Exa Z h0 o0_1 "com/example/proofwright/proofwright/cryptoconditions/DerReader") (F_bytes_o0_1 : Fld Z h0 o0_1 "com/example/proofwright/proofwright/cryptoconditions/DerReader" "bytes" "[B" u_bytes_o0_1) (g_o0_1 : n0 ≤ o0_1) (F_position_o0_1 : Fld Z h0 o0_1 "com/example/proofwright/proofwright/cryptoconditions/DerReader" "position" "I" u_position_o0_1) (F_end_o0_1 : Fld Z h0 o0_1 "com/example/proofwright/proofwright/cryptoconditions/DerReader" "end" "I" u_end_o0_1) :
    MetFree l (⟨"com/example/proofwright/proofwright/cryptoconditions/DerReader", "<init>", "([B)V"⟩ : MethodName) (head1 (Jvm.Cond.code (⟨"com/example/proofwright/proofwright/cryptoconditions/DerReader", "<init>", "([B)V"⟩ : MethodName) prog_24_method_1_code 2 none :: ws) ({ frames := 2, cells := 0, slots := 0, locals := 27 } : Room)) (fun a U => a = #[(.ref o0_1), (.ref o1_1)] ∧ Z.Warmed39 U.vm ∧ U.heap = h0) (fun _ _ _ _ _ => True) (fun _ U o U' => ∃ v L, o = .returned v ∧ Q1 Z o0_1 o1_1 k_o1_1 n_o1_1 vs_o1_1 dv_o1_1 u_bytes_o0_1 u_position_o0_1 u_end_o0_1 h0 n0 v U'.heap L ∧ FrameEnd U o U' L ({ frames := 2, cells := 0, slots := 0, locals := 27 } : Room).cells ({ frames := 2, cells := 0, slots := 0, locals := 27 } : Room).slots) := by
  refine MetFree.of_bodySF (plainFor_of_name pn_0) hisR ?_
  intro p e s m args below meth c s₁ Bd hml0 hP hK
  obtain ⟨rfl, hZ, hh⟩ := hP
  have hx := Bd.exec
  have hby := Bd.bytes
  have hnl := BodyLoose.notSynchronized Bd
  have hml : c.maxLocals = 2 := hml0
  have hown : s.vm.findClass "com/example/proofwright/proofwright/cryptoconditions/DerReader" = some m.cls := findClass_of_methodNamed Bd.named
  have hnm := (name_of_methodNamed Bd.named Bd.method).1
  have X0 : Stand p l e ({ frames := 2, cells := 0, slots := 0, locals := 27 } : Room) s m #[(.ref o0_1), (.ref o1_1)] below meth c s₁ [] 0 0 := Stand.of_body Bd
  have e0 : s₁.heap = h0 := by rw [← hh, Bd.state]; rfl
  have N0 := Fr.nil n0
  show own_Ends p.tables e below s (Q1 Z o0_1 o1_1 k_o1_1 n_o1_1 vs_o1_1 dv_o1_1 u_bytes_o0_1 u_position_o0_1 u_end_o0_1 h0 n0) 0 0 (s₁.setTop (entryFrame m #[(.ref o0_1), (.ref o1_1)] 2))
  rw [ef_1 m o0_1 o1_1]
  show own_Ends p.tables e below s _ _ _ (s₁.setTop (mkF m 0 #[.val (.ref o0_1), .val (.ref o1_1)] []))
  refine own_step (fun t k => XS.aloadN X0.here hx rfl (hb hby d1_0) rfl rfl k) ?_
  show own_Ends p.tables e below s _ _ _ (s₁.setTop (mkF m 1 #[.val (.ref o0_1), .val (.ref o1_1)] [(.ref o0_1)]))
  refine own_step (fun t k => XS.aloadN X0.here hx rfl (hb hby d1_1) rfl rfl k) ?_
  show own_Ends p.tables e below s _ _ _ (s₁.setTop (mkF m 2 #[.val (.ref o0_1), .val (.ref o1_1)] [(.ref o1_1), (.ref o0_1)]))
  refine own_step (fun t k => XS.iconst X0.here hx rfl (hb hby d1_2) k) ?_
  show own_Ends p.tables e below s _ _ _ (s₁.setTop (mkF m 3 #[.val (.ref o0_1), .val (.ref o1_1)] [(.int (0 : Int32)), (.ref o1_1), (.ref o0_1)]))
  refine own_step (fun t k => XS.aloadN X0.here hx rfl (hb hby d1_3) rfl rfl k) ?_
  show own_Ends p.tables e below s _ _ _ (s₁.setTop (mkF m 4 #[.val (.ref o0_1), .val (.ref o1_1)] [(.ref o1_1), (.int (0 : Int32)), (.ref o1_1), (.ref o0_1)]))
  obtain ⟨cl1, Ar1, q1, S1, N1, H1, G1⟩ := id V_o1_1
  have hl1 := len_of S1 N1
  refine own_step (fun t k => X0.arraylength hx (by rw [e0]; exact Ar1.1) (State.isArrayOf_alike hZ.alike Ar1.2.1) (g := (mkF m 4 #[.val (.ref o0_1), .val (.ref o1_1)] [(.ref o1_1), (.int (0 : Int32)), (.ref o1_1), (.ref o0_1)])) rfl rfl (hb hby d1_4) _ (hl1.symm ▸ k)) ?_
  show own_Ends p.tables e below s _ _ _ (s₁.setTop (mkF m 5 #[.val (.ref o0_1), .val (.ref o1_1)] [(.int n_o1_1), (.int (0 : Int32)), (.ref o1_1), (.ref o0_1)]))
  obtain ⟨_, _, ⟨T2, L2, k2, n2⟩, -, X2, ⟨Lc2, hQ2, l2, y2, z2⟩, st2⟩ := X0.specialBack hx (y := (⟨"com/example/proofwright/proofwright/cryptoconditions/DerReader", "<init>", "([BII)V"⟩ : MethodName)) rfl hown (mvT hZ (hw _ (List.mem_of_getElem? (i := 7) rfl))) (mvT hZ (hw _ (List.mem_of_getElem? (i := 8) rfl))) (mvT hZ (hw _ (List.mem_of_getElem? (i := 9) rfl))) (by decide) (backOf (W := 0) (rm2 l Z a0 hw [] o0_1 o1_1 (0 : Int32) n_o1_1 u_bytes_o0_1 u_position_o0_1 u_end_o0_1 h0 n0 O0 E_o0_1 F_bytes_o0_1 g_o0_1 F_position_o0_1 F_end_o0_1) hZ (hw _ (List.mem_of_getElem? (i := 9) rfl)) (hw _ (List.mem_of_getElem? (i := 2) rfl)) (by decide) (by decide)) (g := (mkF m 5 #[.val (.ref o0_1), .val (.ref o1_1)] [(.int n_o1_1), (.int (0 : Int32)), (.ref o1_1), (.ref o0_1)])) rfl (by rw [hml]; rfl) (Steps.refl _) (a := o0_1) (argsL := [(.ref o1_1), (.int (0 : Int32)), (.int n_o1_1)]) (rest := []) (lenOf pd_0 rfl) rfl (by show 2 * 0 + _ ≤ _; exact Nat.le_of_eq rfl) (hb hby d1_5) (fun _ _ => ⟨rfl, e0, (by decide : 0 + 0 ≤ _), (by decide : 0 + 0 ≤ _)⟩)
  dsimp only [Pt.U, Pt.locs, Pt.cells, Pt.slots] at X2 l2 y2 z2 st2 hQ2
  subst y2 z2
  obtain ⟨rfl, N2q, K2q, p2_0, p2_1, p2_2, p2_3⟩ := hQ2
  refine own_step (fun t k => st2.trans k) ?_
  have N3 : Fr n0 L2 := by rw [l2]; exact Fr.app N0 N2q
  have K4 : Keep h0 T2.heap [o0_1] := (Keep.refl h0 [o0_1]).trans K2q (allS (Or.inl (List.mem_of_getElem? (i := 0) rfl)) all0)
  show own_Ends p.tables e below s _ _ _ (T2.setTop (mkF m 8 #[.val (.ref o0_1), .val (.ref o1_1)] []))
  exact own_ret0 X2 hx Bd.returns (hb hby d1_8) hnl ⟨rfl, N3, K4, p2_0, p2_1, p2_2, p2_3⟩ (by decide) (by decide)
def own_r4 (w_position_o0_4 : Int32) (w_end_o0_4 : Int32) : Int32 := (if w_position_o0_4 < w_end_o0_4 then (1 : Int32) else (0 : Int32))
theorem d4_0 : decode prog_24_method_3_code 0 = .ok (.aload_n 0, 1) := by decide +kernel
theorem d4_1 : decode prog_24_method_3_code 1 = .ok (.getfield 16, 3) := by decide +kernel
theorem d4_4 : decode prog_24_method_3_code 4 = .ok (.aload_n 0, 1) := by decide +kernel
theorem d4_5 : decode prog_24_method_3_code 5 = .ok (.getfield 20, 3) := by decide +kernel
theorem d4_8 : decode prog_24_method_3_code 8 = .ok (.if_icmp .ge 7, 3) := by decide +kernel
theorem d4_11 : decode prog_24_method_3_code 11 = .ok (.iconst 1, 1) := by decide +kernel
theorem d4_12 : decode prog_24_method_3_code 12 = .ok (.goto 4, 3) := by decide +kernel
theorem d4_15 : decode prog_24_method_3_code 15 = .ok (.iconst 0, 1) := by decide +kernel
theorem d4_16 : decode prog_24_method_3_code 16 = .ok (.ireturn, 1) := by decide +kernel
theorem ef_4 (m : MethodId) (o0_4 : Addr) : entryFrame m #[(.ref o0_4)] 1 = mkF m 0 #[.val (.ref o0_4)] [] := by first | (simp [entryFrame, mkF, argsToLocals, Value.category]; done) | rfl
def Q4 (Z : State) (o0_4 : Addr) (w_position_o0_4 : Int32) (w_end_o0_4 : Int32) (h0 : Heap) (n0 : Nat) (v : Option Value) (h : Heap) (L : List Loc) : Prop := v = some (.int (own_r4 w_position_o0_4 w_end_o0_4)) ∧ Fr n0 L ∧ h = h0
set_option maxRecDepth 65536 in
set_option maxHeartbeats 40000000 in
theorem rm4 (l : Launch) (Z : State) (a0 : Array Value) (hw : ∀ d ∈ tables_1, d.before a0 Z = true) (ws : List Jvm.Cond) (o0_4 : Addr) (w_position_o0_4 : Int32) (w_end_o0_4 : Int32) (h0 : Heap) (n0 : Nat) (O0 : Old Z n0 h0) (F_position_o0_4 : Fld Z h0 o0_4 "com/example/proofwright/proofwright/cryptoconditions/DerReader" "position" "I" (.int w_position_o0_4)) (F_end_o0_4 : Fld Z h0 o0_4 "com/example/proofwright/proofwright/cryptoconditions/DerReader" "end" "I" (.int w_end_o0_4)) :
    MetFree l (⟨"com/example/proofwright/proofwright/cryptoconditions/DerReader", "hasMore", "()Z"⟩ : MethodName) (head1 (Jvm.Cond.code (⟨"com/example/proofwright/proofwright/cryptoconditions/DerReader", "hasMore", "()Z"⟩ : MethodName) prog_24_method_3_code 1 (some .boolean) :: ws) ({ frames := 0, cells := 0, slots := 0, locals := 0 } : Room)) (fun a U => a = #[(.ref o0_4)] ∧ Z.Warmed39 U.vm ∧ U.heap = h0) (fun _ _ _ _ _ => True) (fun _ U o U' => ∃ v L, o = .returned v ∧ Q4 Z o0_4 w_position_o0_4 w_end_o0_4 h0 n0 v U'.heap L ∧ FrameEnd U o U' L ({ frames := 0, cells := 0, slots := 0, locals := 0 } : Room).cells ({ frames := 0, cells := 0, slots := 0, locals := 0 } : Room).slots) := by
  refine MetFree.of_bodySF (plainFor_of_name pn_0) hisR ?_
  intro p e s m args below meth c s₁ Bd hml0 hP hK
  obtain ⟨rfl, hZ, hh⟩ := hP
  have hx := Bd.exec
  have hby := Bd.bytes
  have hnl := BodyLoose.notSynchronized Bd
  have hml : c.maxLocals = 1 := hml0
  have hown : s.vm.findClass "com/example/proofwright/proofwright/cryptoconditions/DerReader" = some m.cls := findClass_of_methodNamed Bd.named
  have hnm := (name_of_methodNamed Bd.named Bd.method).1
  have X0 : Stand p l e ({ frames := 0, cells := 0, slots := 0, locals := 0 } : Room) s m #[(.ref o0_4)] below meth c s₁ [] 0 0 := Stand.of_body Bd
  have e0 : s₁.heap = h0 := by rw [← hh, Bd.state]; rfl
  have N0 := Fr.nil n0
  show own_Ends p.tables e below s (Q4 Z o0_4 w_position_o0_4 w_end_o0_4 h0 n0) 0 0 (s₁.setTop (entryFrame m #[(.ref o0_4)] 1))
  rw [ef_4 m o0_4]
  show own_Ends p.tables e below s _ _ _ (s₁.setTop (mkF m 0 #[.val (.ref o0_4)] []))
  refine own_step (fun t k => XS.aloadN X0.here hx rfl (hb hby d4_0) rfl rfl k) ?_
  show own_Ends p.tables e below s _ _ _ (s₁.setTop (mkF m 1 #[.val (.ref o0_4)] [(.ref o0_4)]))
  obtain ⟨T1, X1, e1, st1⟩ := getF X0 hx hZ hown (host := "") (Or.inl (hw _ (List.mem_of_getElem? (i := 15) rfl))) Via.refl e0 F_position_o0_4 (g := (mkF m 1 #[.val (.ref o0_4)] [(.ref o0_4)])) rfl rfl (hb hby d4_1)
  refine own_step (fun t k => st1 _ k) ?_
  show own_Ends p.tables e below s _ _ _ (T1.setTop (mkF m 4 #[.val (.ref o0_4)] [(.int w_position_o0_4)]))
  refine own_step (fun t k => XS.aloadN X1.here hx rfl (hb hby d4_4) rfl rfl k) ?_
  show own_Ends p.tables e below s _ _ _ (T1.setTop (mkF m 5 #[.val (.ref o0_4)] [(.ref o0_4), (.int w_position_o0_4)]))
  obtain ⟨T2, X2, e2, st2⟩ := getF X1 hx hZ hown (host := "") (Or.inl (hw _ (List.mem_of_getElem? (i := 17) rfl))) Via.refl e1 F_end_o0_4 (g := (mkF m 5 #[.val (.ref o0_4)] [(.ref o0_4), (.int w_position_o0_4)])) rfl rfl (hb hby d4_5)
  refine own_step (fun t k => st2 _ k) ?_
  show own_Ends p.tables e below s _ _ _ (T2.setTop (mkF m 8 #[.val (.ref o0_4)] [(.int w_end_o0_4), (.int w_position_o0_4)]))
  by_cases hc8_3 : w_position_o0_4 < w_end_o0_4
  · skip
    refine own_step (fun t k => XS.icmpNo X2.here hx rfl (hb hby d4_8) rfl (tlt hc8_3).2.1 k) ?_
    show own_Ends p.tables e below s _ _ _ (T2.setTop (mkF m 11 #[.val (.ref o0_4)] []))
    refine own_step (fun t k => XS.iconst X2.here hx rfl (hb hby d4_11) k) ?_
    show own_Ends p.tables e below s _ _ _ (T2.setTop (mkF m 12 #[.val (.ref o0_4)] [(.int (1 : Int32))]))
    refine own_step (fun t k => XS.goto X2.here hx rfl (pc0 := 12) (pc' := 16) rfl (hb hby d4_12) (by decide) (by decide) k) ?_
    show own_Ends p.tables e below s _ _ _ (T2.setTop (mkF m 16 #[.val (.ref o0_4)] [(.int (1 : Int32))]))
    exact own_retN X2 hx (t := .boolean) Bd.returns (by simp) (hb hby d4_16) hnl (by rw [e2]; exact ⟨(congrArg (fun z => some (Value.int z)) (Eq.symm (show (own_r4 w_position_o0_4 w_end_o0_4) = (1 : Int32) from by unfold own_r4; rw [if_pos hc8_3]))), N0, rfl⟩) (by decide) (by decide)
  · skip
    refine own_step (fun t k => XS.icmpYes X2.here hx rfl (pc0 := 8) (pc' := 15) rfl (hb hby d4_8) rfl (flt hc8_3).2.1 (by decide) (by decide) k) ?_
    show own_Ends p.tables e below s _ _ _ (T2.setTop (mkF m 15 #[.val (.ref o0_4)] []))
    refine own_step (fun t k => XS.iconst X2.here hx rfl (hb hby d4_15) k) ?_
    show own_Ends p.tables e below s _ _ _ (T2.setTop (mkF m 16 #[.val (.ref o0_4)] [(.int (0 : Int32))]))
    exact own_retN X2 hx (t := .boolean) Bd.returns (by simp) (hb hby d4_16) hnl (by rw [e2]; exact ⟨(congrArg (fun z => some (Value.int z)) (Eq.symm (show (own_r4 w_position_o0_4 w_end_o0_4) = (0 : Int32) from by unfold own_r4; rw [if_neg hc8_3]))), N0, rfl⟩) (by decide) (by decide)
theorem pd_1 : parseMethodDescriptor "()Z" = some ⟨[], some .boolean⟩ := by decide +kernel
theorem d6_0 : decode prog_24_method_13_code 0 = .ok (.aload_n 0, 1) := by decide +kernel
theorem d6_1 : decode prog_24_method_13_code 1 = .ok (.invokevirtual 23, 3) := by decide +kernel
theorem d6_4 : decode prog_24_method_13_code 4 = .ok (.ifCond .ne 17, 3) := by decide +kernel
theorem d6_21 : decode prog_24_method_13_code 21 = .ok (.aload_n 0, 1) := by decide +kernel
theorem d6_22 : decode prog_24_method_13_code 22 = .ok (.getfield 12, 3) := by decide +kernel
theorem d6_25 : decode prog_24_method_13_code 25 = .ok (.aload_n 0, 1) := by decide +kernel
theorem d6_26 : decode prog_24_method_13_code 26 = .ok (.getfield 16, 3) := by decide +kernel
theorem d6_29 : decode prog_24_method_13_code 29 = .ok (.baload, 1) := by decide +kernel
theorem d6_30 : decode prog_24_method_13_code 30 = .ok (.sipush 255, 3) := by decide +kernel
theorem d6_33 : decode prog_24_method_13_code 33 = .ok (.iand, 1) := by decide +kernel
theorem d6_34 : decode prog_24_method_13_code 34 = .ok (.istore_n 3, 1) := by decide +kernel
theorem d6_35 : decode prog_24_method_13_code 35 = .ok (.iload_n 3, 1) := by decide +kernel
theorem d6_36 : decode prog_24_method_13_code 36 = .ok (.iload_n 1, 1) := by decide +kernel
theorem d6_37 : decode prog_24_method_13_code 37 = .ok (.if_icmp .eq 25, 3) := by decide +kernel
theorem d6_62 : decode prog_24_method_13_code 62 = .ok (.aload_n 0, 1) := by decide +kernel
theorem d6_63 : decode prog_24_method_13_code 63 = .ok (.dup, 1) := by decide +kernel
theorem d6_64 : decode prog_24_method_13_code 64 = .ok (.getfield 16, 3) := by decide +kernel
theorem d6_67 : decode prog_24_method_13_code 67 = .ok (.iconst 1, 1) := by decide +kernel
theorem d6_68 : decode prog_24_method_13_code 68 = .ok (.iadd, 1) := by decide +kernel
theorem d6_69 : decode prog_24_method_13_code 69 = .ok (.putfield 16, 3) := by decide +kernel
theorem d6_72 : decode prog_24_method_13_code 72 = .ok (.aload_n 0, 1) := by decide +kernel
theorem d6_73 : decode prog_24_method_13_code 73 = .ok (.invokevirtual 23, 3) := by decide +kernel
theorem d6_76 : decode prog_24_method_13_code 76 = .ok (.ifCond .ne 17, 3) := by decide +kernel
theorem d6_93 : decode prog_24_method_13_code 93 = .ok (.aload_n 0, 1) := by decide +kernel
theorem d6_94 : decode prog_24_method_13_code 94 = .ok (.getfield 12, 3) := by decide +kernel
theorem d6_97 : decode prog_24_method_13_code 97 = .ok (.aload_n 0, 1) := by decide +kernel
theorem d6_98 : decode prog_24_method_13_code 98 = .ok (.dup, 1) := by decide +kernel
theorem d6_99 : decode prog_24_method_13_code 99 = .ok (.getfield 16, 3) := by decide +kernel
theorem d6_102 : decode prog_24_method_13_code 102 = .ok (.dup_x1, 1) := by decide +kernel
theorem d6_103 : decode prog_24_method_13_code 103 = .ok (.iconst 1, 1) := by decide +kernel
theorem d6_104 : decode prog_24_method_13_code 104 = .ok (.iadd, 1) := by decide +kernel
theorem d6_105 : decode prog_24_method_13_code 105 = .ok (.putfield 16, 3) := by decide +kernel
theorem d6_108 : decode prog_24_method_13_code 108 = .ok (.baload, 1) := by decide +kernel
theorem d6_109 : decode prog_24_method_13_code 109 = .ok (.sipush 255, 3) := by decide +kernel
theorem d6_112 : decode prog_24_method_13_code 112 = .ok (.iand, 1) := by decide +kernel
theorem d6_113 : decode prog_24_method_13_code 113 = .ok (.istore 4, 2) := by decide +kernel
theorem d6_115 : decode prog_24_method_13_code 115 = .ok (.iload 4, 2) := by decide +kernel
theorem d6_117 : decode prog_24_method_13_code 117 = .ok (.sipush 128, 3) := by decide +kernel
theorem d6_120 : decode prog_24_method_13_code 120 = .ok (.if_icmp .ne 17, 3) := by decide +kernel
theorem d6_137 : decode prog_24_method_13_code 137 = .ok (.iload 4, 2) := by decide +kernel
theorem d6_139 : decode prog_24_method_13_code 139 = .ok (.sipush 128, 3) := by decide +kernel
theorem d6_142 : decode prog_24_method_13_code 142 = .ok (.if_icmp .ge 9, 3) := by decide +kernel
theorem d6_145 : decode prog_24_method_13_code 145 = .ok (.iload 4, 2) := by decide +kernel
theorem d6_147 : decode prog_24_method_13_code 147 = .ok (.i2l, 1) := by decide +kernel
theorem d6_148 : decode prog_24_method_13_code 148 = .ok (.goto 13, 3) := by decide +kernel
theorem d6_161 : decode prog_24_method_13_code 161 = .ok (.lstore 5, 2) := by decide +kernel
theorem d6_163 : decode prog_24_method_13_code 163 = .ok (.lload 5, 2) := by decide +kernel
theorem d6_165 : decode prog_24_method_13_code 165 = .ok (.aload_n 0, 1) := by decide +kernel
theorem d6_166 : decode prog_24_method_13_code 166 = .ok (.getfield 20, 3) := by decide +kernel
theorem d6_169 : decode prog_24_method_13_code 169 = .ok (.aload_n 0, 1) := by decide +kernel
theorem d6_170 : decode prog_24_method_13_code 170 = .ok (.getfield 16, 3) := by decide +kernel
theorem d6_173 : decode prog_24_method_13_code 173 = .ok (.isub, 1) := by decide +kernel
theorem d6_174 : decode prog_24_method_13_code 174 = .ok (.i2l, 1) := by decide +kernel
theorem d6_175 : decode prog_24_method_13_code 175 = .ok (.lcmp, 1) := by decide +kernel
theorem d6_176 : decode prog_24_method_13_code 176 = .ok (.ifCond .le 28, 3) := by decide +kernel
theorem d6_204 : decode prog_24_method_13_code 204 = .ok (.lload 5, 2) := by decide +kernel
theorem d6_206 : decode prog_24_method_13_code 206 = .ok (.l2i, 1) := by decide +kernel
theorem d6_207 : decode prog_24_method_13_code 207 = .ok (.ireturn, 1) := by decide +kernel
theorem ef_6 (m : MethodId) (o0_6 : Addr) (x1_6 : Int32) (o2_6 : Addr) : entryFrame m #[(.ref o0_6), (.int x1_6), (.ref o2_6)] 7 = mkF m 0 #[.val (.ref o0_6), .val (.int x1_6), .val (.ref o2_6), .unset, .unset, .unset, .unset] [] := by first | (simp [entryFrame, mkF, argsToLocals, Value.category]; done) | rfl
def Q6 (Z : State) (o0_6 : Addr) (x1_6 : Int32) (o2_6 : Addr) (w_end_o0_6 : Int32) (w_bytes_o0_6 : Addr) (k_w_bytes_o0_6 : ClassId) (n_w_bytes_o0_6 : Int32) (vs_w_bytes_o0_6 : List Value) (dv_w_bytes_o0_6 : Value) (r0_w_bytes_o0_6 : Int32) (r1_w_bytes_o0_6 : Int32) (h0 : Heap) (n0 : Nat) (v : Option Value) (h : Heap) (L : List Loc) : Prop := v = some (.int (((r1_w_bytes_o0_6 &&& (255 : Int32)).toInt64).toInt32)) ∧ Fr n0 L ∧ Keep h0 h [o0_6] ∧ Fld Z h o0_6 "com/example/proofwright/proofwright/cryptoconditions/DerReader" "position" "I" (.int (2 : Int32)) ∧ Fld Z h o0_6 "com/example/proofwright/proofwright/cryptoconditions/DerReader" "end" "I" (.int w_end_o0_6) ∧ Exa Z h o0_6 "com/example/proofwright/proofwright/cryptoconditions/DerReader" ∧ Fld Z h o0_6 "com/example/proofwright/proofwright/cryptoconditions/DerReader" "bytes" "[B" (.ref w_bytes_o0_6)
set_option maxRecDepth 65536 in
set_option maxHeartbeats 40000000 in
theorem rm6 (l : Launch) (Z : State) (a0 : Array Value) (hw : ∀ d ∈ tables_1, d.before a0 Z = true) (ws : List Jvm.Cond) (o0_6 : Addr) (x1_6 : Int32) (o2_6 : Addr) (w_end_o0_6 : Int32) (w_bytes_o0_6 : Addr) (k_w_bytes_o0_6 : ClassId) (n_w_bytes_o0_6 : Int32) (vs_w_bytes_o0_6 : List Value) (dv_w_bytes_o0_6 : Value) (r0_w_bytes_o0_6 : Int32) (r1_w_bytes_o0_6 : Int32) (h0 : Heap) (n0 : Nat) (O0 : Old Z n0 h0) (h1 : ¬ (own_r4 (0 : Int32) w_end_o0_6) = (0 : Int32)) (h2 : ¬ (own_r4 (1 : Int32) w_end_o0_6) = (0 : Int32)) (h3 : (r0_w_bytes_o0_6 &&& (255 : Int32)) = x1_6) (h4 : ¬ (r1_w_bytes_o0_6 &&& (255 : Int32)) = (128 : Int32)) (h5 : (r1_w_bytes_o0_6 &&& (255 : Int32)) < (128 : Int32)) (h6 : ¬ (0 : Int32) < (lcmpW ((r1_w_bytes_o0_6 &&& (255 : Int32)).toInt64) ((w_end_o0_6 - (2 : Int32)).toInt64))) (F_position_o0_6 : Fld Z h0 o0_6 "com/example/proofwright/proofwright/cryptoconditions/DerReader" "position" "I" (.int (0 : Int32))) (F_end_o0_6 : Fld Z h0 o0_6 "com/example/proofwright/proofwright/cryptoconditions/DerReader" "end" "I" (.int w_end_o0_6)) (E_o0_6 : Exa Z h0 o0_6 "com/example/proofwright/proofwright/cryptoconditions/DerReader") (F_bytes_o0_6 : Fld Z h0 o0_6 "com/example/proofwright/proofwright/cryptoconditions/DerReader" "bytes" "[B" (.ref w_bytes_o0_6)) (V_w_bytes_o0_6 : Arv Z h0 w_bytes_o0_6 k_w_bytes_o0_6 .byte n_w_bytes_o0_6 vs_w_bytes_o0_6 dv_w_bytes_o0_6) (hin0_w_bytes_o0_6 : ¬ (0 : Int32) < 0 ∧ (0 : Int32) < n_w_bytes_o0_6) (hat0_w_bytes_o0_6 : vs_w_bytes_o0_6.getD 0 dv_w_bytes_o0_6 = (.int r0_w_bytes_o0_6)) (g_o0_6 : n0 ≤ o0_6) (ne_w_bytes_o0_6_o0_6 : w_bytes_o0_6 ≠ o0_6) (hin1_w_bytes_o0_6 : ¬ (1 : Int32) < 0 ∧ (1 : Int32) < n_w_bytes_o0_6) (hat1_w_bytes_o0_6 : vs_w_bytes_o0_6.getD 1 dv_w_bytes_o0_6 = (.int r1_w_bytes_o0_6)) :
    MetFree l (⟨"com/example/proofwright/proofwright/cryptoconditions/DerReader", "readHeader", "(ILjava/lang/String;)I"⟩ : MethodName) (head1 (Jvm.Cond.code (⟨"com/example/proofwright/proofwright/cryptoconditions/DerReader", "readHeader", "(ILjava/lang/String;)I"⟩ : MethodName) prog_24_method_13_code 7 (some .int) :: ws) ({ frames := 1, cells := 0, slots := 0, locals := 12 } : Room)) (fun a U => a = #[(.ref o0_6), (.int x1_6), (.ref o2_6)] ∧ Z.Warmed39 U.vm ∧ U.heap = h0) (fun _ _ _ _ _ => True) (fun _ U o U' => ∃ v L, o = .returned v ∧ Q6 Z o0_6 x1_6 o2_6 w_end_o0_6 w_bytes_o0_6 k_w_bytes_o0_6 n_w_bytes_o0_6 vs_w_bytes_o0_6 dv_w_bytes_o0_6 r0_w_bytes_o0_6 r1_w_bytes_o0_6 h0 n0 v U'.heap L ∧ FrameEnd U o U' L ({ frames := 1, cells := 0, slots := 0, locals := 12 } : Room).cells ({ frames := 1, cells := 0, slots := 0, locals := 12 } : Room).slots) := by
  refine MetFree.of_bodySF (plainFor_of_name pn_0) hisR ?_
  intro p e s m args below meth c s₁ Bd hml0 hP hK
  obtain ⟨rfl, hZ, hh⟩ := hP
  have hx := Bd.exec
  have hby := Bd.bytes
  have hnl := BodyLoose.notSynchronized Bd
  have hml : c.maxLocals = 7 := hml0
  have hown : s.vm.findClass "com/example/proofwright/proofwright/cryptoconditions/DerReader" = some m.cls := findClass_of_methodNamed Bd.named
  have hnm := (name_of_methodNamed Bd.named Bd.method).1
  have X0 : Stand p l e ({ frames := 1, cells := 0, slots := 0, locals := 12 } : Room) s m #[(.ref o0_6), (.int x1_6), (.ref o2_6)] below meth c s₁ [] 0 0 := Stand.of_body Bd
  have e0 : s₁.heap = h0 := by rw [← hh, Bd.state]; rfl
  have N0 := Fr.nil n0
  show own_Ends p.tables e below s (Q6 Z o0_6 x1_6 o2_6 w_end_o0_6 w_bytes_o0_6 k_w_bytes_o0_6 n_w_bytes_o0_6 vs_w_bytes_o0_6 dv_w_bytes_o0_6 r0_w_bytes_o0_6 r1_w_bytes_o0_6 h0 n0) 0 0 (s₁.setTop (entryFrame m #[(.ref o0_6), (.int x1_6), (.ref o2_6)] 7))
  rw [ef_6 m o0_6 x1_6 o2_6]
  show own_Ends p.tables e below s _ _ _ (s₁.setTop (mkF m 0 #[.val (.ref o0_6), .val (.int x1_6), .val (.ref o2_6), .unset, .unset, .unset, .unset] []))
  refine own_step (fun t k => XS.aloadN X0.here hx rfl (hb hby d6_0) rfl rfl k) ?_
  show own_Ends p.tables e below s _ _ _ (s₁.setTop (mkF m 1 #[.val (.ref o0_6), .val (.int x1_6), .val (.ref o2_6), .unset, .unset, .unset, .unset] [(.ref o0_6)]))
  obtain ⟨cq1, kq1, q1a, q1b, q1c⟩ := isOf hZ e0 E_o0_6
  obtain ⟨_, _, ⟨T1, L1, k1, n1⟩, -, X1, ⟨Lc1, hQ1, l1, y1, z1⟩, st1⟩ := X0.virtualBack hx (y := (⟨"com/example/proofwright/proofwright/cryptoconditions/DerReader", "hasMore", "()Z"⟩ : MethodName)) (z := (⟨"com/example/proofwright/proofwright/cryptoconditions/DerReader", "hasMore", "()Z"⟩ : MethodName)) hown (mvT hZ (hw _ (List.mem_of_getElem? (i := 40) rfl))) (mvT hZ (hw _ (List.mem_of_getElem? (i := 20) rfl))) (notFace_of_selects (args := #[]) (mvT hZ (hw _ (List.mem_of_getElem? (i := 22) rfl)))) (mvT hZ (hw _ (List.mem_of_getElem? (i := 22) rfl))) (mvT hZ (hw _ (List.mem_of_getElem? (i := 21) rfl))) (by decide) (backOf (W := 0) (rm4 l Z a0 hw [] o0_6 (0 : Int32) w_end_o0_6 h0 n0 O0 F_position_o0_6 F_end_o0_6) hZ (hw _ (List.mem_of_getElem? (i := 23) rfl)) (hw _ (List.mem_of_getElem? (i := 2) rfl)) (by decide) (by decide)) q1a q1c (g := (mkF m 1 #[.val (.ref o0_6), .val (.int x1_6), .val (.ref o2_6), .unset, .unset, .unset, .unset] [(.ref o0_6)])) rfl (by rw [hml]; rfl) (Steps.refl _) (argsL := []) (rest := []) (lenOf pd_1 rfl) rfl (by show 2 * 0 + _ ≤ _; exact Nat.le_of_eq rfl) (hb hby d6_1) (fun _ _ => ⟨rfl, e0, (by decide : 0 + 0 ≤ _), (by decide : 0 + 0 ≤ _)⟩)
  dsimp only [Pt.U, Pt.locs, Pt.cells, Pt.slots] at X1 l1 y1 z1 st1 hQ1
  subst y1 z1
  obtain ⟨rfl, N1q, e1⟩ := hQ1
  refine own_step (fun t k => st1.trans k) ?_
  have N2 : Fr n0 L1 := by rw [l1]; exact Fr.app N0 N1q
  show own_Ends p.tables e below s _ _ _ (T1.setTop (mkF m 4 #[.val (.ref o0_6), .val (.int x1_6), .val (.ref o2_6), .unset, .unset, .unset, .unset] [(.int (own_r4 (0 : Int32) w_end_o0_6))]))
  have hc3 : ¬ ((own_r4 (0 : Int32) w_end_o0_6) = (0 : Int32)) := h1
  refine own_step (fun t k => XS.ifYes X1.here hx rfl (pc0 := 4) (pc' := 21) rfl (hb hby d6_4) rfl ((if0 _ _).trans (feq hc3).2) (by decide) (by decide) k) ?_
  show own_Ends p.tables e below s _ _ _ (T1.setTop (mkF m 21 #[.val (.ref o0_6), .val (.int x1_6), .val (.ref o2_6), .unset, .unset, .unset, .unset] []))
  refine own_step (fun t k => XS.aloadN X1.here hx rfl (hb hby d6_21) rfl rfl k) ?_
  show own_Ends p.tables e below s _ _ _ (T1.setTop (mkF m 22 #[.val (.ref o0_6), .val (.int x1_6), .val (.ref o2_6), .unset, .unset, .unset, .unset] [(.ref o0_6)]))
  obtain ⟨T4, X4, e4, st4⟩ := getF X1 hx hZ hown (host := "") (Or.inl (hw _ (List.mem_of_getElem? (i := 13) rfl))) Via.refl e1 F_bytes_o0_6 (g := (mkF m 22 #[.val (.ref o0_6), .val (.int x1_6), .val (.ref o2_6), .unset, .unset, .unset, .unset] [(.ref o0_6)])) rfl rfl (hb hby d6_22)
  refine own_step (fun t k => st4 _ k) ?_
  show own_Ends p.tables e below s _ _ _ (T4.setTop (mkF m 25 #[.val (.ref o0_6), .val (.int x1_6), .val (.ref o2_6), .unset, .unset, .unset, .unset] [(.ref w_bytes_o0_6)]))
  refine own_step (fun t k => XS.aloadN X4.here hx rfl (hb hby d6_25) rfl rfl k) ?_
  show own_Ends p.tables e below s _ _ _ (T4.setTop (mkF m 26 #[.val (.ref o0_6), .val (.int x1_6), .val (.ref o2_6), .unset, .unset, .unset, .unset] [(.ref o0_6), (.ref w_bytes_o0_6)]))
  obtain ⟨T5, X5, e5, st5⟩ := getF X4 hx hZ hown (host := "") (Or.inl (hw _ (List.mem_of_getElem? (i := 15) rfl))) Via.refl e4 F_position_o0_6 (g := (mkF m 26 #[.val (.ref o0_6), .val (.int x1_6), .val (.ref o2_6), .unset, .unset, .unset, .unset] [(.ref o0_6), (.ref w_bytes_o0_6)])) rfl rfl (hb hby d6_26)
  refine own_step (fun t k => st5 _ k) ?_
  show own_Ends p.tables e below s _ _ _ (T5.setTop (mkF m 29 #[.val (.ref o0_6), .val (.int x1_6), .val (.ref o2_6), .unset, .unset, .unset, .unset] [(.int (0 : Int32)), (.ref w_bytes_o0_6)]))
  obtain ⟨cl6, Ar6, q6, S6, N6, H6, G6⟩ := id V_w_bytes_o0_6
  have hin6 : ¬ ((0 : Int32) < 0 ∨ cl6.slots.size ≤ ((0 : Int32)).toNatClampNeg) := inb_of S6 hin0_w_bytes_o0_6
  have hat6 : cl6.slots[((0 : Int32)).toNatClampNeg]? = some (.int r0_w_bytes_o0_6) := H6.at hin6 hat0_w_bytes_o0_6
  refine own_step (fun t k => X5.baloadBytes hx (j := (0 : Int32)) (v := (.int r0_w_bytes_o0_6)) (by rw [e5]; exact Ar6.1) (State.isArrayOf_alike hZ.alike Ar6.2.1) Ar6.2.2 hin6 hat6 (g := (mkF m 29 #[.val (.ref o0_6), .val (.int x1_6), .val (.ref o2_6), .unset, .unset, .unset, .unset] [(.int (0 : Int32)), (.ref w_bytes_o0_6)])) rfl rfl (hb hby d6_29) _ k) ?_
  show own_Ends p.tables e below s _ _ _ (T5.setTop (mkF m 30 #[.val (.ref o0_6), .val (.int x1_6), .val (.ref o2_6), .unset, .unset, .unset, .unset] [(.int r0_w_bytes_o0_6)]))
  refine own_step (fun t k => XS.sipush X5.here hx rfl (hb hby d6_30) k) ?_
  show own_Ends p.tables e below s _ _ _ (T5.setTop (mkF m 33 #[.val (.ref o0_6), .val (.int x1_6), .val (.ref o2_6), .unset, .unset, .unset, .unset] [(.int (255 : Int32)), (.int r0_w_bytes_o0_6)]))
  refine own_step (fun t k => XS.iand X5.here hx rfl (hb hby d6_33) rfl k) ?_
  show own_Ends p.tables e below s _ _ _ (T5.setTop (mkF m 34 #[.val (.ref o0_6), .val (.int x1_6), .val (.ref o2_6), .unset, .unset, .unset, .unset] [(.int (r0_w_bytes_o0_6 &&& (255 : Int32)))]))
  refine own_step (fun t k => XS.istoreN X5.here hx rfl (hb hby d6_34) rfl (l' := #[.val (.ref o0_6), .val (.int x1_6), .val (.ref o2_6), .val (.int (r0_w_bytes_o0_6 &&& (255 : Int32))), .unset, .unset, .unset]) rfl k) ?_
  show own_Ends p.tables e below s _ _ _ (T5.setTop (mkF m 35 #[.val (.ref o0_6), .val (.int x1_6), .val (.ref o2_6), .val (.int (r0_w_bytes_o0_6 &&& (255 : Int32))), .unset, .unset, .unset] []))
  refine own_step (fun t k => XS.iloadN X5.here hx rfl (hb hby d6_35) rfl k) ?_
  show own_Ends p.tables e below s _ _ _ (T5.setTop (mkF m 36 #[.val (.ref o0_6), .val (.int x1_6), .val (.ref o2_6), .val (.int (r0_w_bytes_o0_6 &&& (255 : Int32))), .unset, .unset, .unset] [(.int (r0_w_bytes_o0_6 &&& (255 : Int32)))]))
  refine own_step (fun t k => XS.iloadN X5.here hx rfl (hb hby d6_36) rfl k) ?_
  show own_Ends p.tables e below s _ _ _ (T5.setTop (mkF m 37 #[.val (.ref o0_6), .val (.int x1_6), .val (.ref o2_6), .val (.int (r0_w_bytes_o0_6 &&& (255 : Int32))), .unset, .unset, .unset] [(.int x1_6), (.int (r0_w_bytes_o0_6 &&& (255 : Int32)))]))
  have hc7 : (r0_w_bytes_o0_6 &&& (255 : Int32)) = x1_6 := h3
  refine own_step (fun t k => XS.icmpYes X5.here hx rfl (pc0 := 37) (pc' := 62) rfl (hb hby d6_37) rfl (teq hc7).1 (by decide) (by decide) k) ?_
  show own_Ends p.tables e below s _ _ _ (T5.setTop (mkF m 62 #[.val (.ref o0_6), .val (.int x1_6), .val (.ref o2_6), .val (.int (r0_w_bytes_o0_6 &&& (255 : Int32))), .unset, .unset, .unset] []))
  refine own_step (fun t k => XS.aloadN X5.here hx rfl (hb hby d6_62) rfl rfl k) ?_
  show own_Ends p.tables e below s _ _ _ (T5.setTop (mkF m 63 #[.val (.ref o0_6), .val (.int x1_6), .val (.ref o2_6), .val (.int (r0_w_bytes_o0_6 &&& (255 : Int32))), .unset, .unset, .unset] [(.ref o0_6)]))
  refine own_step (fun t k => XS.dup X5.here hx rfl (hb hby d6_63) rfl rfl k) ?_
  show own_Ends p.tables e below s _ _ _ (T5.setTop (mkF m 64 #[.val (.ref o0_6), .val (.int x1_6), .val (.ref o2_6), .val (.int (r0_w_bytes_o0_6 &&& (255 : Int32))), .unset, .unset, .unset] [(.ref o0_6), (.ref o0_6)]))
  obtain ⟨T8, X8, e8, st8⟩ := getF X5 hx hZ hown (host := "") (Or.inl (hw _ (List.mem_of_getElem? (i := 15) rfl))) Via.refl e5 F_position_o0_6 (g := (mkF m 64 #[.val (.ref o0_6), .val (.int x1_6), .val (.ref o2_6), .val (.int (r0_w_bytes_o0_6 &&& (255 : Int32))), .unset, .unset, .unset] [(.ref o0_6), (.ref o0_6)])) rfl rfl (hb hby d6_64)
  refine own_step (fun t k => st8 _ k) ?_
  show own_Ends p.tables e below s _ _ _ (T8.setTop (mkF m 67 #[.val (.ref o0_6), .val (.int x1_6), .val (.ref o2_6), .val (.int (r0_w_bytes_o0_6 &&& (255 : Int32))), .unset, .unset, .unset] [(.int (0 : Int32)), (.ref o0_6)]))
  refine own_step (fun t k => XS.iconst X8.here hx rfl (hb hby d6_67) k) ?_
  show own_Ends p.tables e below s _ _ _ (T8.setTop (mkF m 68 #[.val (.ref o0_6), .val (.int x1_6), .val (.ref o2_6), .val (.int (r0_w_bytes_o0_6 &&& (255 : Int32))), .unset, .unset, .unset] [(.int (1 : Int32)), (.int (0 : Int32)), (.ref o0_6)]))
  refine own_step (fun t k => XS.iadd X8.here hx rfl (hb hby d6_68) rfl k) ?_
  show own_Ends p.tables e below s _ _ _ (T8.setTop (mkF m 69 #[.val (.ref o0_6), .val (.int x1_6), .val (.ref o2_6), .val (.int (r0_w_bytes_o0_6 &&& (255 : Int32))), .unset, .unset, .unset] [(.int (1 : Int32)), (.ref o0_6)]))
  obtain ⟨T9, h9, X9, e9, W9, st9⟩ := putF X8 hx hZ hown (host := "") (Or.inl (hw _ (List.mem_of_getElem? (i := 15) rfl))) Via.refl e8 F_position_o0_6 E_o0_6 (Or.inl (hw _ (List.mem_of_getElem? (i := 16) rfl))) (hw _ (List.mem_of_getElem? (i := 1) rfl)) (ty := .int) (by decide) rfl rfl (g := (mkF m 69 #[.val (.ref o0_6), .val (.int x1_6), .val (.ref o2_6), .val (.int (r0_w_bytes_o0_6 &&& (255 : Int32))), .unset, .unset, .unset] [(.int (1 : Int32)), (.ref o0_6)])) rfl rfl (hb hby d6_69)
  refine own_step (fun t k => st9 _ k) ?_
  have F10 : Fld Z h9 o0_6 "com/example/proofwright/proofwright/cryptoconditions/DerReader" "position" "I" (.int (1 : Int32)) := F_position_o0_6.same W9
  have K11 : Keep h0 h9 [o0_6] := (Keep.refl h0 [o0_6]).wr W9 (Or.inl (List.mem_of_getElem? (i := 0) rfl))
  have N12 := Fr.snoc X9 N2 g_o0_6
  show own_Ends p.tables e below s _ _ _ (T9.setTop (mkF m 72 #[.val (.ref o0_6), .val (.int x1_6), .val (.ref o2_6), .val (.int (r0_w_bytes_o0_6 &&& (255 : Int32))), .unset, .unset, .unset] []))
  refine own_step (fun t k => XS.aloadN X9.here hx rfl (hb hby d6_72) rfl rfl k) ?_
  show own_Ends p.tables e below s _ _ _ (T9.setTop (mkF m 73 #[.val (.ref o0_6), .val (.int x1_6), .val (.ref o2_6), .val (.int (r0_w_bytes_o0_6 &&& (255 : Int32))), .unset, .unset, .unset] [(.ref o0_6)]))
  have F13 : Fld Z h9 o0_6 "com/example/proofwright/proofwright/cryptoconditions/DerReader" "end" "I" (.int w_end_o0_6) := (F_end_o0_6.other W9 (Or.inr (slot_ne (Or.inr (hw _ (List.mem_of_getElem? (i := 18) rfl))) (Or.inl (hw _ (List.mem_of_getElem? (i := 16) rfl))) (by decide) (t := .int) (t' := .int) (by decide) (by decide))))
  have O14 : Old Z n0 h9 := (O0.wr W9 g_o0_6)
  have F16 : Exa Z h9 o0_6 "com/example/proofwright/proofwright/cryptoconditions/DerReader" := (E_o0_6.wr W9)
  obtain ⟨cq15, kq15, q15a, q15b, q15c⟩ := isOf hZ e9 F16
  obtain ⟨_, _, ⟨T15, L15, k15, n15⟩, -, X15, ⟨Lc15, hQ15, l15, y15, z15⟩, st15⟩ := X9.virtualBack hx (y := (⟨"com/example/proofwright/proofwright/cryptoconditions/DerReader", "hasMore", "()Z"⟩ : MethodName)) (z := (⟨"com/example/proofwright/proofwright/cryptoconditions/DerReader", "hasMore", "()Z"⟩ : MethodName)) hown (mvT hZ (hw _ (List.mem_of_getElem? (i := 40) rfl))) (mvT hZ (hw _ (List.mem_of_getElem? (i := 20) rfl))) (notFace_of_selects (args := #[]) (mvT hZ (hw _ (List.mem_of_getElem? (i := 22) rfl)))) (mvT hZ (hw _ (List.mem_of_getElem? (i := 22) rfl))) (mvT hZ (hw _ (List.mem_of_getElem? (i := 21) rfl))) (by decide) (backOf (W := 0) (rm4 l Z a0 hw [] o0_6 (1 : Int32) w_end_o0_6 h9 n0 O14 F10 F13) hZ (hw _ (List.mem_of_getElem? (i := 23) rfl)) (hw _ (List.mem_of_getElem? (i := 2) rfl)) (by decide) (by decide)) q15a q15c (g := (mkF m 73 #[.val (.ref o0_6), .val (.int x1_6), .val (.ref o2_6), .val (.int (r0_w_bytes_o0_6 &&& (255 : Int32))), .unset, .unset, .unset] [(.ref o0_6)])) rfl (by rw [hml]; rfl) (Steps.refl _) (argsL := []) (rest := []) (lenOf pd_1 rfl) rfl (by show 2 * 0 + _ ≤ _; exact Nat.le_of_eq rfl) (hb hby d6_73) (fun _ _ => ⟨rfl, e9, (by decide : 0 + 0 ≤ _), (by decide : 0 + 0 ≤ _)⟩)
  dsimp only [Pt.U, Pt.locs, Pt.cells, Pt.slots] at X15 l15 y15 z15 st15 hQ15
  subst y15 z15
  obtain ⟨rfl, N15q, e15⟩ := hQ15
  refine own_step (fun t k => st15.trans k) ?_
  have N17 : Fr n0 L15 := by rw [l15]; exact Fr.app N12 N15q
  show own_Ends p.tables e below s _ _ _ (T15.setTop (mkF m 76 #[.val (.ref o0_6), .val (.int x1_6), .val (.ref o2_6), .val (.int (r0_w_bytes_o0_6 &&& (255 : Int32))), .unset, .unset, .unset] [(.int (own_r4 (1 : Int32) w_end_o0_6))]))
  have hc18 : ¬ ((own_r4 (1 : Int32) w_end_o0_6) = (0 : Int32)) := h2
  refine own_step (fun t k => XS.ifYes X15.here hx rfl (pc0 := 76) (pc' := 93) rfl (hb hby d6_76) rfl ((if0 _ _).trans (feq hc18).2) (by decide) (by decide) k) ?_
  show own_Ends p.tables e below s _ _ _ (T15.setTop (mkF m 93 #[.val (.ref o0_6), .val (.int x1_6), .val (.ref o2_6), .val (.int (r0_w_bytes_o0_6 &&& (255 : Int32))), .unset, .unset, .unset] []))
  refine own_step (fun t k => XS.aloadN X15.here hx rfl (hb hby d6_93) rfl rfl k) ?_
  show own_Ends p.tables e below s _ _ _ (T15.setTop (mkF m 94 #[.val (.ref o0_6), .val (.int x1_6), .val (.ref o2_6), .val (.int (r0_w_bytes_o0_6 &&& (255 : Int32))), .unset, .unset, .unset] [(.ref o0_6)]))
  have F19 : Fld Z h9 o0_6 "com/example/proofwright/proofwright/cryptoconditions/DerReader" "bytes" "[B" (.ref w_bytes_o0_6) := (F_bytes_o0_6.other W9 (Or.inr (slot_ne (Or.inr (hw _ (List.mem_of_getElem? (i := 14) rfl))) (Or.inl (hw _ (List.mem_of_getElem? (i := 16) rfl))) (by decide) (t := (.array .byte)) (t' := .int) (by decide) (by decide))))
  obtain ⟨T20, X20, e20, st20⟩ := getF X15 hx hZ hown (host := "") (Or.inl (hw _ (List.mem_of_getElem? (i := 13) rfl))) Via.refl e15 F19 (g := (mkF m 94 #[.val (.ref o0_6), .val (.int x1_6), .val (.ref o2_6), .val (.int (r0_w_bytes_o0_6 &&& (255 : Int32))), .unset, .unset, .unset] [(.ref o0_6)])) rfl rfl (hb hby d6_94)
  refine own_step (fun t k => st20 _ k) ?_
  show own_Ends p.tables e below s _ _ _ (T20.setTop (mkF m 97 #[.val (.ref o0_6), .val (.int x1_6), .val (.ref o2_6), .val (.int (r0_w_bytes_o0_6 &&& (255 : Int32))), .unset, .unset, .unset] [(.ref w_bytes_o0_6)]))
  refine own_step (fun t k => XS.aloadN X20.here hx rfl (hb hby d6_97) rfl rfl k) ?_
  show own_Ends p.tables e below s _ _ _ (T20.setTop (mkF m 98 #[.val (.ref o0_6), .val (.int x1_6), .val (.ref o2_6), .val (.int (r0_w_bytes_o0_6 &&& (255 : Int32))), .unset, .unset, .unset] [(.ref o0_6), (.ref w_bytes_o0_6)]))
  refine own_step (fun t k => XS.dup X20.here hx rfl (hb hby d6_98) rfl rfl k) ?_
  show own_Ends p.tables e below s _ _ _ (T20.setTop (mkF m 99 #[.val (.ref o0_6), .val (.int x1_6), .val (.ref o2_6), .val (.int (r0_w_bytes_o0_6 &&& (255 : Int32))), .unset, .unset, .unset] [(.ref o0_6), (.ref o0_6), (.ref w_bytes_o0_6)]))
  obtain ⟨T21, X21, e21, st21⟩ := getF X20 hx hZ hown (host := "") (Or.inl (hw _ (List.mem_of_getElem? (i := 15) rfl))) Via.refl e20 F10 (g := (mkF m 99 #[.val (.ref o0_6), .val (.int x1_6), .val (.ref o2_6), .val (.int (r0_w_bytes_o0_6 &&& (255 : Int32))), .unset, .unset, .unset] [(.ref o0_6), (.ref o0_6), (.ref w_bytes_o0_6)])) rfl rfl (hb hby d6_99)
  refine own_step (fun t k => st21 _ k) ?_
  show own_Ends p.tables e below s _ _ _ (T21.setTop (mkF m 102 #[.val (.ref o0_6), .val (.int x1_6), .val (.ref o2_6), .val (.int (r0_w_bytes_o0_6 &&& (255 : Int32))), .unset, .unset, .unset] [(.int (1 : Int32)), (.ref o0_6), (.ref w_bytes_o0_6)]))
  refine own_step (fun t k => XS.dupX1 X21.here hx rfl (hb hby d6_102) rfl rfl rfl k) ?_
  show own_Ends p.tables e below s _ _ _ (T21.setTop (mkF m 103 #[.val (.ref o0_6), .val (.int x1_6), .val (.ref o2_6), .val (.int (r0_w_bytes_o0_6 &&& (255 : Int32))), .unset, .unset, .unset] [(.int (1 : Int32)), (.ref o0_6), (.int (1 : Int32)), (.ref w_bytes_o0_6)]))
  refine own_step (fun t k => XS.iconst X21.here hx rfl (hb hby d6_103) k) ?_
  show own_Ends p.tables e below s _ _ _ (T21.setTop (mkF m 104 #[.val (.ref o0_6), .val (.int x1_6), .val (.ref o2_6), .val (.int (r0_w_bytes_o0_6 &&& (255 : Int32))), .unset, .unset, .unset] [(.int (1 : Int32)), (.int (1 : Int32)), (.ref o0_6), (.int (1 : Int32)), (.ref w_bytes_o0_6)]))
  refine own_step (fun t k => XS.iadd X21.here hx rfl (hb hby d6_104) rfl k) ?_
  show own_Ends p.tables e below s _ _ _ (T21.setTop (mkF m 105 #[.val (.ref o0_6), .val (.int x1_6), .val (.ref o2_6), .val (.int (r0_w_bytes_o0_6 &&& (255 : Int32))), .unset, .unset, .unset] [(.int (2 : Int32)), (.ref o0_6), (.int (1 : Int32)), (.ref w_bytes_o0_6)]))
  obtain ⟨T22, h22, X22, e22, W22, st22⟩ := putF X21 hx hZ hown (host := "") (Or.inl (hw _ (List.mem_of_getElem? (i := 15) rfl))) Via.refl e21 F10 F16 (Or.inl (hw _ (List.mem_of_getElem? (i := 16) rfl))) (hw _ (List.mem_of_getElem? (i := 1) rfl)) (ty := .int) (by decide) rfl rfl (g := (mkF m 105 #[.val (.ref o0_6), .val (.int x1_6), .val (.ref o2_6), .val (.int (r0_w_bytes_o0_6 &&& (255 : Int32))), .unset, .unset, .unset] [(.int (2 : Int32)), (.ref o0_6), (.int (1 : Int32)), (.ref w_bytes_o0_6)])) rfl rfl (hb hby d6_105)
  refine own_step (fun t k => st22 _ k) ?_
  have F23 : Fld Z h22 o0_6 "com/example/proofwright/proofwright/cryptoconditions/DerReader" "position" "I" (.int (2 : Int32)) := F10.same W22
  have K24 : Keep h0 h22 [o0_6] := K11.wr W22 (Or.inl (List.mem_of_getElem? (i := 0) rfl))
  have N25 := Fr.snoc X22 N17 g_o0_6
  show own_Ends p.tables e below s _ _ _ (T22.setTop (mkF m 108 #[.val (.ref o0_6), .val (.int x1_6), .val (.ref o2_6), .val (.int (r0_w_bytes_o0_6 &&& (255 : Int32))), .unset, .unset, .unset] [(.int (1 : Int32)), (.ref w_bytes_o0_6)]))
  have F26 : Arv Z h22 w_bytes_o0_6 k_w_bytes_o0_6 .byte n_w_bytes_o0_6 vs_w_bytes_o0_6 dv_w_bytes_o0_6 := ((V_w_bytes_o0_6.other W9 ne_w_bytes_o0_6_o0_6).other W22 ne_w_bytes_o0_6_o0_6)
  obtain ⟨cl27, Ar27, q27, S27, N27, H27, G27⟩ := id F26
  have hin27 : ¬ ((1 : Int32) < 0 ∨ cl27.slots.size ≤ ((1 : Int32)).toNatClampNeg) := inb_of S27 hin1_w_bytes_o0_6
  have hat27 : cl27.slots[((1 : Int32)).toNatClampNeg]? = some (.int r1_w_bytes_o0_6) := H27.at hin27 hat1_w_bytes_o0_6
  refine own_step (fun t k => X22.baloadBytes hx (j := (1 : Int32)) (v := (.int r1_w_bytes_o0_6)) (by rw [e22]; exact Ar27.1) (State.isArrayOf_alike hZ.alike Ar27.2.1) Ar27.2.2 hin27 hat27 (g := (mkF m 108 #[.val (.ref o0_6), .val (.int x1_6), .val (.ref o2_6), .val (.int (r0_w_bytes_o0_6 &&& (255 : Int32))), .unset, .unset, .unset] [(.int (1 : Int32)), (.ref w_bytes_o0_6)])) rfl rfl (hb hby d6_108) _ k) ?_
  show own_Ends p.tables e below s _ _ _ (T22.setTop (mkF m 109 #[.val (.ref o0_6), .val (.int x1_6), .val (.ref o2_6), .val (.int (r0_w_bytes_o0_6 &&& (255 : Int32))), .unset, .unset, .unset] [(.int r1_w_bytes_o0_6)]))
  refine own_step (fun t k => XS.sipush X22.here hx rfl (hb hby d6_109) k) ?_
  show own_Ends p.tables e below s _ _ _ (T22.setTop (mkF m 112 #[.val (.ref o0_6), .val (.int x1_6), .val (.ref o2_6), .val (.int (r0_w_bytes_o0_6 &&& (255 : Int32))), .unset, .unset, .unset] [(.int (255 : Int32)), (.int r1_w_bytes_o0_6)]))
  refine own_step (fun t k => XS.iand X22.here hx rfl (hb hby d6_112) rfl k) ?_
  show own_Ends p.tables e below s _ _ _ (T22.setTop (mkF m 113 #[.val (.ref o0_6), .val (.int x1_6), .val (.ref o2_6), .val (.int (r0_w_bytes_o0_6 &&& (255 : Int32))), .unset, .unset, .unset] [(.int (r1_w_bytes_o0_6 &&& (255 : Int32)))]))
  refine own_step (fun t k => XS.istore X22.here hx rfl (hb hby d6_113) rfl (l' := #[.val (.ref o0_6), .val (.int x1_6), .val (.ref o2_6), .val (.int (r0_w_bytes_o0_6 &&& (255 : Int32))), .val (.int (r1_w_bytes_o0_6 &&& (255 : Int32))), .unset, .unset]) rfl k) ?_
  show own_Ends p.tables e below s _ _ _ (T22.setTop (mkF m 115 #[.val (.ref o0_6), .val (.int x1_6), .val (.ref o2_6), .val (.int (r0_w_bytes_o0_6 &&& (255 : Int32))), .val (.int (r1_w_bytes_o0_6 &&& (255 : Int32))), .unset, .unset] []))
  refine own_step (fun t k => XS.iload X22.here hx rfl (hb hby d6_115) rfl k) ?_
  show own_Ends p.tables e below s _ _ _ (T22.setTop (mkF m 117 #[.val (.ref o0_6), .val (.int x1_6), .val (.ref o2_6), .val (.int (r0_w_bytes_o0_6 &&& (255 : Int32))), .val (.int (r1_w_bytes_o0_6 &&& (255 : Int32))), .unset, .unset] [(.int (r1_w_bytes_o0_6 &&& (255 : Int32)))]))
  refine own_step (fun t k => XS.sipush X22.here hx rfl (hb hby d6_117) k) ?_
  show own_Ends p.tables e below s _ _ _ (T22.setTop (mkF m 120 #[.val (.ref o0_6), .val (.int x1_6), .val (.ref o2_6), .val (.int (r0_w_bytes_o0_6 &&& (255 : Int32))), .val (.int (r1_w_bytes_o0_6 &&& (255 : Int32))), .unset, .unset] [(.int (128 : Int32)), (.int (r1_w_bytes_o0_6 &&& (255 : Int32)))]))
  have hc28 : ¬ ((r1_w_bytes_o0_6 &&& (255 : Int32)) = (128 : Int32)) := h4
  refine own_step (fun t k => XS.icmpYes X22.here hx rfl (pc0 := 120) (pc' := 137) rfl (hb hby d6_120) rfl (feq hc28).2 (by decide) (by decide) k) ?_
  show own_Ends p.tables e below s _ _ _ (T22.setTop (mkF m 137 #[.val (.ref o0_6), .val (.int x1_6), .val (.ref o2_6), .val (.int (r0_w_bytes_o0_6 &&& (255 : Int32))), .val (.int (r1_w_bytes_o0_6 &&& (255 : Int32))), .unset, .unset] []))
  refine own_step (fun t k => XS.iload X22.here hx rfl (hb hby d6_137) rfl k) ?_
  show own_Ends p.tables e below s _ _ _ (T22.setTop (mkF m 139 #[.val (.ref o0_6), .val (.int x1_6), .val (.ref o2_6), .val (.int (r0_w_bytes_o0_6 &&& (255 : Int32))), .val (.int (r1_w_bytes_o0_6 &&& (255 : Int32))), .unset, .unset] [(.int (r1_w_bytes_o0_6 &&& (255 : Int32)))]))
  refine own_step (fun t k => XS.sipush X22.here hx rfl (hb hby d6_139) k) ?_
  show own_Ends p.tables e below s _ _ _ (T22.setTop (mkF m 142 #[.val (.ref o0_6), .val (.int x1_6), .val (.ref o2_6), .val (.int (r0_w_bytes_o0_6 &&& (255 : Int32))), .val (.int (r1_w_bytes_o0_6 &&& (255 : Int32))), .unset, .unset] [(.int (128 : Int32)), (.int (r1_w_bytes_o0_6 &&& (255 : Int32)))]))
  have hc29 : (r1_w_bytes_o0_6 &&& (255 : Int32)) < (128 : Int32) := h5
  refine own_step (fun t k => XS.icmpNo X22.here hx rfl (hb hby d6_142) rfl (tlt hc29).2.1 k) ?_
  show own_Ends p.tables e below s _ _ _ (T22.setTop (mkF m 145 #[.val (.ref o0_6), .val (.int x1_6), .val (.ref o2_6), .val (.int (r0_w_bytes_o0_6 &&& (255 : Int32))), .val (.int (r1_w_bytes_o0_6 &&& (255 : Int32))), .unset, .unset] []))
  refine own_step (fun t k => XS.iload X22.here hx rfl (hb hby d6_145) rfl k) ?_
  show own_Ends p.tables e below s _ _ _ (T22.setTop (mkF m 147 #[.val (.ref o0_6), .val (.int x1_6), .val (.ref o2_6), .val (.int (r0_w_bytes_o0_6 &&& (255 : Int32))), .val (.int (r1_w_bytes_o0_6 &&& (255 : Int32))), .unset, .unset] [(.int (r1_w_bytes_o0_6 &&& (255 : Int32)))]))
  refine own_step (fun t k => XS.i2l X22.here hx rfl (hb hby d6_147) rfl k) ?_
  show own_Ends p.tables e below s _ _ _ (T22.setTop (mkF m 148 #[.val (.ref o0_6), .val (.int x1_6), .val (.ref o2_6), .val (.int (r0_w_bytes_o0_6 &&& (255 : Int32))), .val (.int (r1_w_bytes_o0_6 &&& (255 : Int32))), .unset, .unset] [(.long ((r1_w_bytes_o0_6 &&& (255 : Int32)).toInt64))]))
  refine own_step (fun t k => XS.goto X22.here hx rfl (pc0 := 148) (pc' := 161) rfl (hb hby d6_148) (by decide) (by decide) k) ?_
  show own_Ends p.tables e below s _ _ _ (T22.setTop (mkF m 161 #[.val (.ref o0_6), .val (.int x1_6), .val (.ref o2_6), .val (.int (r0_w_bytes_o0_6 &&& (255 : Int32))), .val (.int (r1_w_bytes_o0_6 &&& (255 : Int32))), .unset, .unset] [(.long ((r1_w_bytes_o0_6 &&& (255 : Int32)).toInt64))]))
  refine own_step (fun t k => XS.lstore X22.here hx rfl (hb hby d6_161) rfl (l' := #[.val (.ref o0_6), .val (.int x1_6), .val (.ref o2_6), .val (.int (r0_w_bytes_o0_6 &&& (255 : Int32))), .val (.int (r1_w_bytes_o0_6 &&& (255 : Int32))), .val (.long ((r1_w_bytes_o0_6 &&& (255 : Int32)).toInt64)), .second]) rfl k) ?_
  show own_Ends p.tables e below s _ _ _ (T22.setTop (mkF m 163 #[.val (.ref o0_6), .val (.int x1_6), .val (.ref o2_6), .val (.int (r0_w_bytes_o0_6 &&& (255 : Int32))), .val (.int (r1_w_bytes_o0_6 &&& (255 : Int32))), .val (.long ((r1_w_bytes_o0_6 &&& (255 : Int32)).toInt64)), .second] []))
  refine own_step (fun t k => XS.lload X22.here hx rfl (hb hby d6_163) rfl k) ?_
  show own_Ends p.tables e below s _ _ _ (T22.setTop (mkF m 165 #[.val (.ref o0_6), .val (.int x1_6), .val (.ref o2_6), .val (.int (r0_w_bytes_o0_6 &&& (255 : Int32))), .val (.int (r1_w_bytes_o0_6 &&& (255 : Int32))), .val (.long ((r1_w_bytes_o0_6 &&& (255 : Int32)).toInt64)), .second] [(.long ((r1_w_bytes_o0_6 &&& (255 : Int32)).toInt64))]))
  refine own_step (fun t k => XS.aloadN X22.here hx rfl (hb hby d6_165) rfl rfl k) ?_
  show own_Ends p.tables e below s _ _ _ (T22.setTop (mkF m 166 #[.val (.ref o0_6), .val (.int x1_6), .val (.ref o2_6), .val (.int (r0_w_bytes_o0_6 &&& (255 : Int32))), .val (.int (r1_w_bytes_o0_6 &&& (255 : Int32))), .val (.long ((r1_w_bytes_o0_6 &&& (255 : Int32)).toInt64)), .second] [(.ref o0_6), (.long ((r1_w_bytes_o0_6 &&& (255 : Int32)).toInt64))]))
  have F30 : Fld Z h22 o0_6 "com/example/proofwright/proofwright/cryptoconditions/DerReader" "end" "I" (.int w_end_o0_6) := (F13.other W22 (Or.inr (slot_ne (Or.inr (hw _ (List.mem_of_getElem? (i := 18) rfl))) (Or.inl (hw _ (List.mem_of_getElem? (i := 16) rfl))) (by decide) (t := .int) (t' := .int) (by decide) (by decide))))
  obtain ⟨T31, X31, e31, st31⟩ := getF X22 hx hZ hown (host := "") (Or.inl (hw _ (List.mem_of_getElem? (i := 17) rfl))) Via.refl e22 F30 (g := (mkF m 166 #[.val (.ref o0_6), .val (.int x1_6), .val (.ref o2_6), .val (.int (r0_w_bytes_o0_6 &&& (255 : Int32))), .val (.int (r1_w_bytes_o0_6 &&& (255 : Int32))), .val (.long ((r1_w_bytes_o0_6 &&& (255 : Int32)).toInt64)), .second] [(.ref o0_6), (.long ((r1_w_bytes_o0_6 &&& (255 : Int32)).toInt64))])) rfl rfl (hb hby d6_166)
  refine own_step (fun t k => st31 _ k) ?_
  show own_Ends p.tables e below s _ _ _ (T31.setTop (mkF m 169 #[.val (.ref o0_6), .val (.int x1_6), .val (.ref o2_6), .val (.int (r0_w_bytes_o0_6 &&& (255 : Int32))), .val (.int (r1_w_bytes_o0_6 &&& (255 : Int32))), .val (.long ((r1_w_bytes_o0_6 &&& (255 : Int32)).toInt64)), .second] [(.int w_end_o0_6), (.long ((r1_w_bytes_o0_6 &&& (255 : Int32)).toInt64))]))
  refine own_step (fun t k => XS.aloadN X31.here hx rfl (hb hby d6_169) rfl rfl k) ?_
  show own_Ends p.tables e below s _ _ _ (T31.setTop (mkF m 170 #[.val (.ref o0_6), .val (.int x1_6), .val (.ref o2_6), .val (.int (r0_w_bytes_o0_6 &&& (255 : Int32))), .val (.int (r1_w_bytes_o0_6 &&& (255 : Int32))), .val (.long ((r1_w_bytes_o0_6 &&& (255 : Int32)).toInt64)), .second] [(.ref o0_6), (.int w_end_o0_6), (.long ((r1_w_bytes_o0_6 &&& (255 : Int32)).toInt64))]))
  obtain ⟨T32, X32, e32, st32⟩ := getF X31 hx hZ hown (host := "") (Or.inl (hw _ (List.mem_of_getElem? (i := 15) rfl))) Via.refl e31 F23 (g := (mkF m 170 #[.val (.ref o0_6), .val (.int x1_6), .val (.ref o2_6), .val (.int (r0_w_bytes_o0_6 &&& (255 : Int32))), .val (.int (r1_w_bytes_o0_6 &&& (255 : Int32))), .val (.long ((r1_w_bytes_o0_6 &&& (255 : Int32)).toInt64)), .second] [(.ref o0_6), (.int w_end_o0_6), (.long ((r1_w_bytes_o0_6 &&& (255 : Int32)).toInt64))])) rfl rfl (hb hby d6_170)
  refine own_step (fun t k => st32 _ k) ?_
  show own_Ends p.tables e below s _ _ _ (T32.setTop (mkF m 173 #[.val (.ref o0_6), .val (.int x1_6), .val (.ref o2_6), .val (.int (r0_w_bytes_o0_6 &&& (255 : Int32))), .val (.int (r1_w_bytes_o0_6 &&& (255 : Int32))), .val (.long ((r1_w_bytes_o0_6 &&& (255 : Int32)).toInt64)), .second] [(.int (2 : Int32)), (.int w_end_o0_6), (.long ((r1_w_bytes_o0_6 &&& (255 : Int32)).toInt64))]))
  refine own_step (fun t k => XS.isub X32.here hx rfl (hb hby d6_173) rfl k) ?_
  show own_Ends p.tables e below s _ _ _ (T32.setTop (mkF m 174 #[.val (.ref o0_6), .val (.int x1_6), .val (.ref o2_6), .val (.int (r0_w_bytes_o0_6 &&& (255 : Int32))), .val (.int (r1_w_bytes_o0_6 &&& (255 : Int32))), .val (.long ((r1_w_bytes_o0_6 &&& (255 : Int32)).toInt64)), .second] [(.int (w_end_o0_6 - (2 : Int32))), (.long ((r1_w_bytes_o0_6 &&& (255 : Int32)).toInt64))]))
  refine own_step (fun t k => XS.i2l X32.here hx rfl (hb hby d6_174) rfl k) ?_
  show own_Ends p.tables e below s _ _ _ (T32.setTop (mkF m 175 #[.val (.ref o0_6), .val (.int x1_6), .val (.ref o2_6), .val (.int (r0_w_bytes_o0_6 &&& (255 : Int32))), .val (.int (r1_w_bytes_o0_6 &&& (255 : Int32))), .val (.long ((r1_w_bytes_o0_6 &&& (255 : Int32)).toInt64)), .second] [(.long ((w_end_o0_6 - (2 : Int32)).toInt64)), (.long ((r1_w_bytes_o0_6 &&& (255 : Int32)).toInt64))]))
  refine own_step (fun t k => XS.lcmp X32.here hx rfl (hb hby d6_175) rfl k) ?_
  show own_Ends p.tables e below s _ _ _ (T32.setTop (mkF m 176 #[.val (.ref o0_6), .val (.int x1_6), .val (.ref o2_6), .val (.int (r0_w_bytes_o0_6 &&& (255 : Int32))), .val (.int (r1_w_bytes_o0_6 &&& (255 : Int32))), .val (.long ((r1_w_bytes_o0_6 &&& (255 : Int32)).toInt64)), .second] [(.int (lcmpW ((r1_w_bytes_o0_6 &&& (255 : Int32)).toInt64) ((w_end_o0_6 - (2 : Int32)).toInt64)))]))
  have hc33 : ¬ ((0 : Int32) < (lcmpW ((r1_w_bytes_o0_6 &&& (255 : Int32)).toInt64) ((w_end_o0_6 - (2 : Int32)).toInt64))) := h6
  refine own_step (fun t k => XS.ifYes X32.here hx rfl (pc0 := 176) (pc' := 204) rfl (hb hby d6_176) rfl ((if0 _ _).trans (flt hc33).2.2.2) (by decide) (by decide) k) ?_
  show own_Ends p.tables e below s _ _ _ (T32.setTop (mkF m 204 #[.val (.ref o0_6), .val (.int x1_6), .val (.ref o2_6), .val (.int (r0_w_bytes_o0_6 &&& (255 : Int32))), .val (.int (r1_w_bytes_o0_6 &&& (255 : Int32))), .val (.long ((r1_w_bytes_o0_6 &&& (255 : Int32)).toInt64)), .second] []))
  refine own_step (fun t k => XS.lload X32.here hx rfl (hb hby d6_204) rfl k) ?_
  show own_Ends p.tables e below s _ _ _ (T32.setTop (mkF m 206 #[.val (.ref o0_6), .val (.int x1_6), .val (.ref o2_6), .val (.int (r0_w_bytes_o0_6 &&& (255 : Int32))), .val (.int (r1_w_bytes_o0_6 &&& (255 : Int32))), .val (.long ((r1_w_bytes_o0_6 &&& (255 : Int32)).toInt64)), .second] [(.long ((r1_w_bytes_o0_6 &&& (255 : Int32)).toInt64))]))
  refine own_step (fun t k => XS.l2i X32.here hx rfl (hb hby d6_206) rfl k) ?_
  show own_Ends p.tables e below s _ _ _ (T32.setTop (mkF m 207 #[.val (.ref o0_6), .val (.int x1_6), .val (.ref o2_6), .val (.int (r0_w_bytes_o0_6 &&& (255 : Int32))), .val (.int (r1_w_bytes_o0_6 &&& (255 : Int32))), .val (.long ((r1_w_bytes_o0_6 &&& (255 : Int32)).toInt64)), .second] [(.int (((r1_w_bytes_o0_6 &&& (255 : Int32)).toInt64).toInt32))]))
  have F34 : Exa Z h22 o0_6 "com/example/proofwright/proofwright/cryptoconditions/DerReader" := (F16.wr W22)
  have F35 : Fld Z h22 o0_6 "com/example/proofwright/proofwright/cryptoconditions/DerReader" "bytes" "[B" (.ref w_bytes_o0_6) := (F19.other W22 (Or.inr (slot_ne (Or.inr (hw _ (List.mem_of_getElem? (i := 14) rfl))) (Or.inl (hw _ (List.mem_of_getElem? (i := 16) rfl))) (by decide) (t := (.array .byte)) (t' := .int) (by decide) (by decide))))
  exact own_retI X32 hx Bd.returns (hb hby d6_207) hnl (by rw [e32]; exact ⟨rfl, N25, K24, F23, F30, F34, F35⟩) (by decide) (by decide)
def own_r10 (x0_10 : Int32) (x1_10 : Int32) : Int32 := (if x1_10 < x0_10 then x1_10 else x0_10)
theorem d10_0 : decode jdk_29_method_69_code 0 = .ok (.iload_n 0, 1) := by decide +kernel
theorem d10_1 : decode jdk_29_method_69_code 1 = .ok (.iload_n 1, 1) := by decide +kernel
theorem d10_2 : decode jdk_29_method_69_code 2 = .ok (.if_icmp .gt 7, 3) := by decide +kernel
theorem d10_5 : decode jdk_29_method_69_code 5 = .ok (.iload_n 0, 1) := by decide +kernel
theorem d10_6 : decode jdk_29_method_69_code 6 = .ok (.goto 4, 3) := by decide +kernel
theorem d10_9 : decode jdk_29_method_69_code 9 = .ok (.iload_n 1, 1) := by decide +kernel
theorem d10_10 : decode jdk_29_method_69_code 10 = .ok (.ireturn, 1) := by decide +kernel
theorem ef_10 (m : MethodId) (x0_10 : Int32) (x1_10 : Int32) : entryFrame m #[(.int x0_10), (.int x1_10)] 2 = mkF m 0 #[.val (.int x0_10), .val (.int x1_10)] [] := by first | (simp [entryFrame, mkF, argsToLocals, Value.category]; done) | rfl
def Q10 (Z : State) (x0_10 : Int32) (x1_10 : Int32) (h0 : Heap) (n0 : Nat) (v : Option Value) (h : Heap) (L : List Loc) : Prop := v = some (.int (own_r10 x0_10 x1_10)) ∧ Fr n0 L ∧ h = h0
set_option maxRecDepth 65536 in
set_option maxHeartbeats 40000000 in
theorem rm10 (l : Launch) (Z : State) (a0 : Array Value) (hw : ∀ d ∈ tables_1, d.before a0 Z = true) (ws : List Jvm.Cond) (x0_10 : Int32) (x1_10 : Int32) (h0 : Heap) (n0 : Nat) (O0 : Old Z n0 h0) :
    MetFree l (⟨"java/lang/Math", "min", "(II)I"⟩ : MethodName) (head1 (Jvm.Cond.code (⟨"java/lang/Math", "min", "(II)I"⟩ : MethodName) jdk_29_method_69_code 2 (some .int) :: ws) ({ frames := 0, cells := 0, slots := 0, locals := 0 } : Room)) (fun a U => a = #[(.int x0_10), (.int x1_10)] ∧ Z.Warmed39 U.vm ∧ U.heap = h0) (fun _ _ _ _ _ => True) (fun _ U o U' => ∃ v L, o = .returned v ∧ Q10 Z x0_10 x1_10 h0 n0 v U'.heap L ∧ FrameEnd U o U' L ({ frames := 0, cells := 0, slots := 0, locals := 0 } : Room).cells ({ frames := 0, cells := 0, slots := 0, locals := 0 } : Room).slots) := by
  refine MetFree.of_bodySF (Jvm.Free.JP.mathPlain rfl (by decide +kernel)) hisR ?_
  intro p e s m args below meth c s₁ Bd hml0 hP hK
  obtain ⟨rfl, hZ, hh⟩ := hP
  have hx := Bd.exec
  have hby := Bd.bytes
  have hnl := BodyLoose.notSynchronized Bd
  have hml : c.maxLocals = 2 := hml0
  have hown : s.vm.findClass "java/lang/Math" = some m.cls := findClass_of_methodNamed Bd.named
  have hnm := (name_of_methodNamed Bd.named Bd.method).1
  have X0 : Stand p l e ({ frames := 0, cells := 0, slots := 0, locals := 0 } : Room) s m #[(.int x0_10), (.int x1_10)] below meth c s₁ [] 0 0 := Stand.of_body Bd
  have e0 : s₁.heap = h0 := by rw [← hh, Bd.state]; rfl
  have N0 := Fr.nil n0
  show own_Ends p.tables e below s (Q10 Z x0_10 x1_10 h0 n0) 0 0 (s₁.setTop (entryFrame m #[(.int x0_10), (.int x1_10)] 2))
  rw [ef_10 m x0_10 x1_10]
  show own_Ends p.tables e below s _ _ _ (s₁.setTop (mkF m 0 #[.val (.int x0_10), .val (.int x1_10)] []))
  refine own_step (fun t k => XS.iloadN X0.here hx rfl (hb hby d10_0) rfl k) ?_
  show own_Ends p.tables e below s _ _ _ (s₁.setTop (mkF m 1 #[.val (.int x0_10), .val (.int x1_10)] [(.int x0_10)]))
  refine own_step (fun t k => XS.iloadN X0.here hx rfl (hb hby d10_1) rfl k) ?_
  show own_Ends p.tables e below s _ _ _ (s₁.setTop (mkF m 2 #[.val (.int x0_10), .val (.int x1_10)] [(.int x1_10), (.int x0_10)]))
  by_cases hc2_1 : x1_10 < x0_10
  · skip
    refine own_step (fun t k => XS.icmpYes X0.here hx rfl (pc0 := 2) (pc' := 9) rfl (hb hby d10_2) rfl (tlt hc2_1).2.2.1 (by decide) (by decide) k) ?_
    show own_Ends p.tables e below s _ _ _ (s₁.setTop (mkF m 9 #[.val (.int x0_10), .val (.int x1_10)] []))
    refine own_step (fun t k => XS.iloadN X0.here hx rfl (hb hby d10_9) rfl k) ?_
    show own_Ends p.tables e below s _ _ _ (s₁.setTop (mkF m 10 #[.val (.int x0_10), .val (.int x1_10)] [(.int x1_10)]))
    exact own_retI X0 hx Bd.returns (hb hby d10_10) hnl (by rw [e0]; exact ⟨(congrArg (fun z => some (Value.int z)) (Eq.symm (show (own_r10 x0_10 x1_10) = x1_10 from by unfold own_r10; rw [if_pos hc2_1]))), N0, rfl⟩) (by decide) (by decide)
  · skip
    refine own_step (fun t k => XS.icmpNo X0.here hx rfl (hb hby d10_2) rfl (flt hc2_1).2.2.1 k) ?_
    show own_Ends p.tables e below s _ _ _ (s₁.setTop (mkF m 5 #[.val (.int x0_10), .val (.int x1_10)] []))
    refine own_step (fun t k => XS.iloadN X0.here hx rfl (hb hby d10_5) rfl k) ?_
    show own_Ends p.tables e below s _ _ _ (s₁.setTop (mkF m 6 #[.val (.int x0_10), .val (.int x1_10)] [(.int x0_10)]))
    refine own_step (fun t k => XS.goto X0.here hx rfl (pc0 := 6) (pc' := 10) rfl (hb hby d10_6) (by decide) (by decide) k) ?_
    show own_Ends p.tables e below s _ _ _ (s₁.setTop (mkF m 10 #[.val (.int x0_10), .val (.int x1_10)] [(.int x0_10)]))
    exact own_retI X0 hx Bd.returns (hb hby d10_10) hnl (by rw [e0]; exact ⟨(congrArg (fun z => some (Value.int z)) (Eq.symm (show (own_r10 x0_10 x1_10) = x0_10 from by unfold own_r10; rw [if_neg hc2_1]))), N0, rfl⟩) (by decide) (by decide)
theorem d9_0 : decode jdk_65_method_131_code 0 = .ok (.iload_n 1, 1) := by decide +kernel
theorem d9_1 : decode jdk_65_method_131_code 1 = .ok (.iload_n 0, 1) := by decide +kernel
theorem d9_2 : decode jdk_65_method_131_code 2 = .ok (.if_icmp .ge 35, 3) := by decide +kernel
theorem d9_37 : decode jdk_65_method_131_code 37 = .ok (.return_, 1) := by decide +kernel
theorem pn_1 : plainName "java/util/Arrays" = true := by first | (simp [plainName, overriddenIn]; done) | decide +kernel
theorem ef_9 (m : MethodId) (x0_9 : Int32) (x1_9 : Int32) : entryFrame m #[(.int x0_9), (.int x1_9)] 2 = mkF m 0 #[.val (.int x0_9), .val (.int x1_9)] [] := by first | (simp [entryFrame, mkF, argsToLocals, Value.category]; done) | rfl
def Q9 (Z : State) (x0_9 : Int32) (x1_9 : Int32) (h0 : Heap) (n0 : Nat) (v : Option Value) (h : Heap) (L : List Loc) : Prop := v = none ∧ Fr n0 L ∧ h = h0
set_option maxRecDepth 65536 in
set_option maxHeartbeats 40000000 in
theorem rm9 (l : Launch) (Z : State) (a0 : Array Value) (hw : ∀ d ∈ tables_1, d.before a0 Z = true) (ws : List Jvm.Cond) (x0_9 : Int32) (x1_9 : Int32) (h0 : Heap) (n0 : Nat) (O0 : Old Z n0 h0) (hle : ¬ x1_9 < x0_9) :
    MetFree l (⟨"java/util/Arrays", "checkLength", "(II)V"⟩ : MethodName) (head1 (Jvm.Cond.code (⟨"java/util/Arrays", "checkLength", "(II)V"⟩ : MethodName) jdk_65_method_131_code 2 none :: ws) ({ frames := 0, cells := 0, slots := 0, locals := 0 } : Room)) (fun a U => a = #[(.int x0_9), (.int x1_9)] ∧ Z.Warmed39 U.vm ∧ U.heap = h0) (fun _ _ _ _ _ => True) (fun _ U o U' => ∃ v L, o = .returned v ∧ Q9 Z x0_9 x1_9 h0 n0 v U'.heap L ∧ FrameEnd U o U' L ({ frames := 0, cells := 0, slots := 0, locals := 0 } : Room).cells ({ frames := 0, cells := 0, slots := 0, locals := 0 } : Room).slots) := by
  refine MetFree.of_bodySF (plainFor_of_name pn_1) hisR ?_
  intro p e s m args below meth c s₁ Bd hml0 hP hK
  obtain ⟨rfl, hZ, hh⟩ := hP
  have hx := Bd.exec
  have hby := Bd.bytes
  have hnl := BodyLoose.notSynchronized Bd
  have hml : c.maxLocals = 2 := hml0
  have hown : s.vm.findClass "java/util/Arrays" = some m.cls := findClass_of_methodNamed Bd.named
  have hnm := (name_of_methodNamed Bd.named Bd.method).1
  have X0 : Stand p l e ({ frames := 0, cells := 0, slots := 0, locals := 0 } : Room) s m #[(.int x0_9), (.int x1_9)] below meth c s₁ [] 0 0 := Stand.of_body Bd
  have e0 : s₁.heap = h0 := by rw [← hh, Bd.state]; rfl
  have N0 := Fr.nil n0
  show own_Ends p.tables e below s (Q9 Z x0_9 x1_9 h0 n0) 0 0 (s₁.setTop (entryFrame m #[(.int x0_9), (.int x1_9)] 2))
  rw [ef_9 m x0_9 x1_9]
  show own_Ends p.tables e below s _ _ _ (s₁.setTop (mkF m 0 #[.val (.int x0_9), .val (.int x1_9)] []))
  refine own_step (fun t k => XS.iloadN X0.here hx rfl (hb hby d9_0) rfl k) ?_
  show own_Ends p.tables e below s _ _ _ (s₁.setTop (mkF m 1 #[.val (.int x0_9), .val (.int x1_9)] [(.int x1_9)]))
  refine own_step (fun t k => XS.iloadN X0.here hx rfl (hb hby d9_1) rfl k) ?_
  show own_Ends p.tables e below s _ _ _ (s₁.setTop (mkF m 2 #[.val (.int x0_9), .val (.int x1_9)] [(.int x0_9), (.int x1_9)]))
  have hc1 : ¬ (x1_9 < x0_9) := hle
  refine own_step (fun t k => XS.icmpYes X0.here hx rfl (pc0 := 2) (pc' := 37) rfl (hb hby d9_2) rfl (flt hc1).2.1 (by decide) (by decide) k) ?_
  show own_Ends p.tables e below s _ _ _ (s₁.setTop (mkF m 37 #[.val (.int x0_9), .val (.int x1_9)] []))
  exact own_ret0 X0 hx Bd.returns (hb hby d9_37) hnl (by rw [e0]; exact ⟨rfl, N0, rfl⟩) (by decide) (by decide)
theorem pd_2 : parseMethodDescriptor "(II)V" = some ⟨[.int, .int], none⟩ := by decide +kernel
theorem pd_3 : parseMethodDescriptor "(II)I" = some ⟨[.int, .int], some .int⟩ := by decide +kernel
theorem d8_0 : decode jdk_65_method_133_code 0 = .ok (.iload_n 1, 1) := by decide +kernel
theorem d8_1 : decode jdk_65_method_133_code 1 = .ok (.iload_n 2, 1) := by decide +kernel
theorem d8_2 : decode jdk_65_method_133_code 2 = .ok (.invokestatic 343, 3) := by decide +kernel
theorem d8_5 : decode jdk_65_method_133_code 5 = .ok (.iload_n 2, 1) := by decide +kernel
theorem d8_6 : decode jdk_65_method_133_code 6 = .ok (.iload_n 1, 1) := by decide +kernel
theorem d8_7 : decode jdk_65_method_133_code 7 = .ok (.isub, 1) := by decide +kernel
theorem d8_8 : decode jdk_65_method_133_code 8 = .ok (.istore_n 3, 1) := by decide +kernel
theorem d8_9 : decode jdk_65_method_133_code 9 = .ok (.iload_n 3, 1) := by decide +kernel
theorem d8_10 : decode jdk_65_method_133_code 10 = .ok (.newarray .byte, 2) := by decide +kernel
theorem d8_12 : decode jdk_65_method_133_code 12 = .ok (.astore 4, 2) := by decide +kernel
theorem d8_14 : decode jdk_65_method_133_code 14 = .ok (.aload_n 0, 1) := by decide +kernel
theorem d8_15 : decode jdk_65_method_133_code 15 = .ok (.iload_n 1, 1) := by decide +kernel
theorem d8_16 : decode jdk_65_method_133_code 16 = .ok (.aload 4, 2) := by decide +kernel
theorem d8_18 : decode jdk_65_method_133_code 18 = .ok (.iconst 0, 1) := by decide +kernel
theorem d8_19 : decode jdk_65_method_133_code 19 = .ok (.aload_n 0, 1) := by decide +kernel
theorem d8_20 : decode jdk_65_method_133_code 20 = .ok (.arraylength, 1) := by decide +kernel
theorem d8_21 : decode jdk_65_method_133_code 21 = .ok (.iload_n 1, 1) := by decide +kernel
theorem d8_22 : decode jdk_65_method_133_code 22 = .ok (.isub, 1) := by decide +kernel
theorem d8_23 : decode jdk_65_method_133_code 23 = .ok (.iload_n 3, 1) := by decide +kernel
theorem d8_24 : decode jdk_65_method_133_code 24 = .ok (.invokestatic 304, 3) := by decide +kernel
theorem d8_27 : decode jdk_65_method_133_code 27 = .ok (.invokestatic 150, 3) := by decide +kernel
theorem d8_30 : decode jdk_65_method_133_code 30 = .ok (.aload 4, 2) := by decide +kernel
theorem d8_32 : decode jdk_65_method_133_code 32 = .ok (.areturn, 1) := by decide +kernel
theorem ef_8 (m : MethodId) (o0_8 : Addr) (x2_8 : Int32) : entryFrame m #[(.ref o0_8), (.int (2 : Int32)), (.int x2_8)] 5 = mkF m 0 #[.val (.ref o0_8), .val (.int (2 : Int32)), .val (.int x2_8), .unset, .unset] [] := by first | (simp [entryFrame, mkF, argsToLocals, Value.category]; done) | rfl
def Q8 (Z : State) (o0_8 : Addr) (x2_8 : Int32) (k_o0_8 : ClassId) (n_o0_8 : Int32) (vs_o0_8 : List Value) (dv_o0_8 : Value) (h0 : Heap) (n0 : Nat) (v : Option Value) (h : Heap) (L : List Loc) : Prop := ∃ (b3 : Addr), ∃ (k3 : ClassId), ∃ (us8 : List Value), v = some (.ref b3) ∧ Fr n0 L ∧ Keep h0 h [] ∧ h0.size ≤ b3 ∧ Arv Z h b3 k3 .byte (x2_8 - (2 : Int32)) us8 (.int (0 : Int32))
set_option maxRecDepth 65536 in
set_option maxHeartbeats 40000000 in
theorem rm8 (l : Launch) (Z : State) (a0 : Array Value) (hw : ∀ d ∈ tables_1, d.before a0 Z = true) (ws : List Jvm.Cond) (o0_8 : Addr) (x2_8 : Int32) (k_o0_8 : ClassId) (n_o0_8 : Int32) (vs_o0_8 : List Value) (dv_o0_8 : Value) (h0 : Heap) (n0 : Nat) (O0 : Old Z n0 h0) (hle : ¬ x2_8 < (2 : Int32)) (hnn : ¬ (x2_8 - (2 : Int32)) < 0) (hcap : ((x2_8 - (2 : Int32))).toNatClampNeg ≤ 3) (hcp1 : ¬ (own_r10 (n_o0_8 - (2 : Int32)) (x2_8 - (2 : Int32))) < 0) (hcp2 : (2 : Int32).toNatClampNeg + ((own_r10 (n_o0_8 - (2 : Int32)) (x2_8 - (2 : Int32)))).toNatClampNeg ≤ (n_o0_8).toNatClampNeg) (hcp3 : (0 : Int32).toNatClampNeg + ((own_r10 (n_o0_8 - (2 : Int32)) (x2_8 - (2 : Int32)))).toNatClampNeg ≤ ((x2_8 - (2 : Int32))).toNatClampNeg) (hcp4 : (0 : Int32).toNatClampNeg + ((own_r10 (n_o0_8 - (2 : Int32)) (x2_8 - (2 : Int32)))).toNatClampNeg ≤ 3) (V_o0_8 : Arv Z h0 o0_8 k_o0_8 .byte n_o0_8 vs_o0_8 dv_o0_8) :
    MetFree l (⟨"java/util/Arrays", "copyOfRangeByte", "([BII)[B"⟩ : MethodName) (head1 (Jvm.Cond.code (⟨"java/util/Arrays", "copyOfRangeByte", "([BII)[B"⟩ : MethodName) jdk_65_method_133_code 5 (some (.array .byte)) :: ws) ({ frames := 1, cells := 1, slots := 3, locals := 18 } : Room)) (fun a U => a = #[(.ref o0_8), (.int (2 : Int32)), (.int x2_8)] ∧ Z.Warmed39 U.vm ∧ U.heap = h0) (fun _ _ _ _ _ => True) (fun _ U o U' => ∃ v L, o = .returned v ∧ Q8 Z o0_8 x2_8 k_o0_8 n_o0_8 vs_o0_8 dv_o0_8 h0 n0 v U'.heap L ∧ FrameEnd U o U' L ({ frames := 1, cells := 1, slots := 3, locals := 18 } : Room).cells ({ frames := 1, cells := 1, slots := 3, locals := 18 } : Room).slots) := by
  refine MetFree.of_bodySF (plainFor_of_name pn_1) hisR ?_
  intro p e s m args below meth c s₁ Bd hml0 hP hK
  obtain ⟨rfl, hZ, hh⟩ := hP
  have hx := Bd.exec
  have hby := Bd.bytes
  have hnl := BodyLoose.notSynchronized Bd
  have hml : c.maxLocals = 5 := hml0
  have hown : s.vm.findClass "java/util/Arrays" = some m.cls := findClass_of_methodNamed Bd.named
  have hnm := (name_of_methodNamed Bd.named Bd.method).1
  have X0 : Stand p l e ({ frames := 1, cells := 1, slots := 3, locals := 18 } : Room) s m #[(.ref o0_8), (.int (2 : Int32)), (.int x2_8)] below meth c s₁ [] 0 0 := Stand.of_body Bd
  have e0 : s₁.heap = h0 := by rw [← hh, Bd.state]; rfl
  have N0 := Fr.nil n0
  show own_Ends p.tables e below s (Q8 Z o0_8 x2_8 k_o0_8 n_o0_8 vs_o0_8 dv_o0_8 h0 n0) 1 3 (s₁.setTop (entryFrame m #[(.ref o0_8), (.int (2 : Int32)), (.int x2_8)] 5))
  rw [ef_8 m o0_8 x2_8]
  show own_Ends p.tables e below s _ _ _ (s₁.setTop (mkF m 0 #[.val (.ref o0_8), .val (.int (2 : Int32)), .val (.int x2_8), .unset, .unset] []))
  refine own_step (fun t k => XS.iloadN X0.here hx rfl (hb hby d8_0) rfl k) ?_
  show own_Ends p.tables e below s _ _ _ (s₁.setTop (mkF m 1 #[.val (.ref o0_8), .val (.int (2 : Int32)), .val (.int x2_8), .unset, .unset] [(.int (2 : Int32))]))
  refine own_step (fun t k => XS.iloadN X0.here hx rfl (hb hby d8_1) rfl k) ?_
  show own_Ends p.tables e below s _ _ _ (s₁.setTop (mkF m 2 #[.val (.ref o0_8), .val (.int (2 : Int32)), .val (.int x2_8), .unset, .unset] [(.int x2_8), (.int (2 : Int32))]))
  obtain ⟨_, _, ⟨T1, L1, k1, n1⟩, -, X1, ⟨Lc1, hQ1, l1, y1, z1⟩, st1⟩ := Jvm.LawKit.callS X0 hx (y := (⟨"java/util/Arrays", "checkLength", "(II)V"⟩ : MethodName)) hown (mvT hZ (hw _ (List.mem_of_getElem? (i := 48) rfl))) (mvT hZ (hw _ (List.mem_of_getElem? (i := 49) rfl))) (mvT hZ (hw _ (List.mem_of_getElem? (i := 43) rfl))) (mvT hZ (hw _ (List.mem_of_getElem? (i := 50) rfl))) (by decide) (backOf (W := 0) (rm9 l Z a0 hw [] (2 : Int32) x2_8 h0 n0 O0 hle) hZ (hw _ (List.mem_of_getElem? (i := 50) rfl)) (hw _ (List.mem_of_getElem? (i := 43) rfl)) (by decide) (by decide)) (g := (mkF m 2 #[.val (.ref o0_8), .val (.int (2 : Int32)), .val (.int x2_8), .unset, .unset] [(.int x2_8), (.int (2 : Int32))])) rfl (by rw [hml]; rfl) (argsL := [(.int (2 : Int32)), (.int x2_8)]) (rest := []) (lenOf pd_2 rfl) rfl (by show 2 * 0 + _ ≤ _; exact Nat.le_of_eq rfl) (hb hby d8_2) (fun _ _ => ⟨rfl, e0, (by decide : 0 + 0 ≤ _), (by decide : 0 + 0 ≤ _)⟩)
  dsimp only [Pt.U, Pt.locs, Pt.cells, Pt.slots] at X1 l1 y1 z1 st1 hQ1
  subst y1 z1
  obtain ⟨rfl, N1q, e1⟩ := hQ1
  refine own_step (fun t k => st1 _ k) ?_
  have N2 : Fr n0 L1 := by rw [l1]; exact Fr.app N0 N1q
  show own_Ends p.tables e below s _ _ _ (T1.setTop (mkF m 5 #[.val (.ref o0_8), .val (.int (2 : Int32)), .val (.int x2_8), .unset, .unset] []))
  refine own_step (fun t k => XS.iloadN X1.here hx rfl (hb hby d8_5) rfl k) ?_
  show own_Ends p.tables e below s _ _ _ (T1.setTop (mkF m 6 #[.val (.ref o0_8), .val (.int (2 : Int32)), .val (.int x2_8), .unset, .unset] [(.int x2_8)]))
  refine own_step (fun t k => XS.iloadN X1.here hx rfl (hb hby d8_6) rfl k) ?_
  show own_Ends p.tables e below s _ _ _ (T1.setTop (mkF m 7 #[.val (.ref o0_8), .val (.int (2 : Int32)), .val (.int x2_8), .unset, .unset] [(.int (2 : Int32)), (.int x2_8)]))
  refine own_step (fun t k => XS.isub X1.here hx rfl (hb hby d8_7) rfl k) ?_
  show own_Ends p.tables e below s _ _ _ (T1.setTop (mkF m 8 #[.val (.ref o0_8), .val (.int (2 : Int32)), .val (.int x2_8), .unset, .unset] [(.int (x2_8 - (2 : Int32)))]))
  refine own_step (fun t k => XS.istoreN X1.here hx rfl (hb hby d8_8) rfl (l' := #[.val (.ref o0_8), .val (.int (2 : Int32)), .val (.int x2_8), .val (.int (x2_8 - (2 : Int32))), .unset]) rfl k) ?_
  show own_Ends p.tables e below s _ _ _ (T1.setTop (mkF m 9 #[.val (.ref o0_8), .val (.int (2 : Int32)), .val (.int x2_8), .val (.int (x2_8 - (2 : Int32))), .unset] []))
  refine own_step (fun t k => XS.iloadN X1.here hx rfl (hb hby d8_9) rfl k) ?_
  show own_Ends p.tables e below s _ _ _ (T1.setTop (mkF m 10 #[.val (.ref o0_8), .val (.int (2 : Int32)), .val (.int x2_8), .val (.int (x2_8 - (2 : Int32))), .unset] [(.int (x2_8 - (2 : Int32)))]))
  obtain ⟨T3, h3, k3, X3, e3, E3, A3, st3⟩ := newP X1 hx hZ (hw _ (List.mem_of_getElem? (i := 3) rfl)) e1 (g := (mkF m 10 #[.val (.ref o0_8), .val (.int (2 : Int32)), .val (.int x2_8), .val (.int (x2_8 - (2 : Int32))), .unset] [(.int (x2_8 - (2 : Int32)))])) rfl (hb hby d8_10) rfl hnn (cap := 3) hcap (by decide) (by decide) (by decide)
  obtain ⟨b3, g3⟩ : ∃ z, z = h0.size := ⟨_, rfl⟩
  rw [← g3] at A3 st3
  have g_b3 : n0 ≤ b3 := Nat.le_trans (Nat.le_trans (Nat.le_of_eq O0.1.symm) O0.2.1) (Nat.le_of_eq g3.symm)
  have sz_b3 : h0.size ≤ b3 := Nat.le_trans (Keep.refl h0 []).1 (Nat.le_of_eq g3.symm)
  have V3 : Arv Z h3 b3 k3 .byte (x2_8 - (2 : Int32)) [] (.int (0 : Int32)) := Arv.new A3 hnn
  have V3p : Arv Z h3 b3 k3 .byte (x2_8 - (2 : Int32)) [(.int (0 : Int32)), (.int (0 : Int32)), (.int (0 : Int32))] (.int (0 : Int32)) := V3.pad (pad_rep [] (.int (0 : Int32)) 3)
  refine own_step (fun t k => st3 _ k) ?_
  have K4 : Keep h0 h3 [] := (Keep.refl h0 []).ext E3
  show own_Ends p.tables e below s _ _ _ (T3.setTop (mkF m 12 #[.val (.ref o0_8), .val (.int (2 : Int32)), .val (.int x2_8), .val (.int (x2_8 - (2 : Int32))), .unset] [(.ref b3)]))
  refine own_step (fun t k => XS.astore X3.here hx rfl (hb hby d8_12) rfl rfl (l' := #[.val (.ref o0_8), .val (.int (2 : Int32)), .val (.int x2_8), .val (.int (x2_8 - (2 : Int32))), .val (.ref b3)]) rfl k) ?_
  show own_Ends p.tables e below s _ _ _ (T3.setTop (mkF m 14 #[.val (.ref o0_8), .val (.int (2 : Int32)), .val (.int x2_8), .val (.int (x2_8 - (2 : Int32))), .val (.ref b3)] []))
  refine own_step (fun t k => XS.aloadN X3.here hx rfl (hb hby d8_14) rfl rfl k) ?_
  show own_Ends p.tables e below s _ _ _ (T3.setTop (mkF m 15 #[.val (.ref o0_8), .val (.int (2 : Int32)), .val (.int x2_8), .val (.int (x2_8 - (2 : Int32))), .val (.ref b3)] [(.ref o0_8)]))
  refine own_step (fun t k => XS.iloadN X3.here hx rfl (hb hby d8_15) rfl k) ?_
  show own_Ends p.tables e below s _ _ _ (T3.setTop (mkF m 16 #[.val (.ref o0_8), .val (.int (2 : Int32)), .val (.int x2_8), .val (.int (x2_8 - (2 : Int32))), .val (.ref b3)] [(.int (2 : Int32)), (.ref o0_8)]))
  refine own_step (fun t k => XS.aload X3.here hx rfl (hb hby d8_16) rfl rfl k) ?_
  show own_Ends p.tables e below s _ _ _ (T3.setTop (mkF m 18 #[.val (.ref o0_8), .val (.int (2 : Int32)), .val (.int x2_8), .val (.int (x2_8 - (2 : Int32))), .val (.ref b3)] [(.ref b3), (.int (2 : Int32)), (.ref o0_8)]))
  refine own_step (fun t k => XS.iconst X3.here hx rfl (hb hby d8_18) k) ?_
  show own_Ends p.tables e below s _ _ _ (T3.setTop (mkF m 19 #[.val (.ref o0_8), .val (.int (2 : Int32)), .val (.int x2_8), .val (.int (x2_8 - (2 : Int32))), .val (.ref b3)] [(.int (0 : Int32)), (.ref b3), (.int (2 : Int32)), (.ref o0_8)]))
  refine own_step (fun t k => XS.aloadN X3.here hx rfl (hb hby d8_19) rfl rfl k) ?_
  show own_Ends p.tables e below s _ _ _ (T3.setTop (mkF m 20 #[.val (.ref o0_8), .val (.int (2 : Int32)), .val (.int x2_8), .val (.int (x2_8 - (2 : Int32))), .val (.ref b3)] [(.ref o0_8), (.int (0 : Int32)), (.ref b3), (.int (2 : Int32)), (.ref o0_8)]))
  have F5 : Arv Z h3 o0_8 k_o0_8 .byte n_o0_8 vs_o0_8 dv_o0_8 := (V_o0_8.ext E3)
  obtain ⟨cl6, Ar6, q6, S6, N6, H6, G6⟩ := id F5
  have hl6 := len_of S6 N6
  refine own_step (fun t k => X3.arraylength hx (by rw [e3]; exact Ar6.1) (State.isArrayOf_alike hZ.alike Ar6.2.1) (g := (mkF m 20 #[.val (.ref o0_8), .val (.int (2 : Int32)), .val (.int x2_8), .val (.int (x2_8 - (2 : Int32))), .val (.ref b3)] [(.ref o0_8), (.int (0 : Int32)), (.ref b3), (.int (2 : Int32)), (.ref o0_8)])) rfl rfl (hb hby d8_20) _ (hl6.symm ▸ k)) ?_
  show own_Ends p.tables e below s _ _ _ (T3.setTop (mkF m 21 #[.val (.ref o0_8), .val (.int (2 : Int32)), .val (.int x2_8), .val (.int (x2_8 - (2 : Int32))), .val (.ref b3)] [(.int n_o0_8), (.int (0 : Int32)), (.ref b3), (.int (2 : Int32)), (.ref o0_8)]))
  refine own_step (fun t k => XS.iloadN X3.here hx rfl (hb hby d8_21) rfl k) ?_
  show own_Ends p.tables e below s _ _ _ (T3.setTop (mkF m 22 #[.val (.ref o0_8), .val (.int (2 : Int32)), .val (.int x2_8), .val (.int (x2_8 - (2 : Int32))), .val (.ref b3)] [(.int (2 : Int32)), (.int n_o0_8), (.int (0 : Int32)), (.ref b3), (.int (2 : Int32)), (.ref o0_8)]))
  refine own_step (fun t k => XS.isub X3.here hx rfl (hb hby d8_22) rfl k) ?_
  show own_Ends p.tables e below s _ _ _ (T3.setTop (mkF m 23 #[.val (.ref o0_8), .val (.int (2 : Int32)), .val (.int x2_8), .val (.int (x2_8 - (2 : Int32))), .val (.ref b3)] [(.int (n_o0_8 - (2 : Int32))), (.int (0 : Int32)), (.ref b3), (.int (2 : Int32)), (.ref o0_8)]))
  refine own_step (fun t k => XS.iloadN X3.here hx rfl (hb hby d8_23) rfl k) ?_
  show own_Ends p.tables e below s _ _ _ (T3.setTop (mkF m 24 #[.val (.ref o0_8), .val (.int (2 : Int32)), .val (.int x2_8), .val (.int (x2_8 - (2 : Int32))), .val (.ref b3)] [(.int (x2_8 - (2 : Int32))), (.int (n_o0_8 - (2 : Int32))), (.int (0 : Int32)), (.ref b3), (.int (2 : Int32)), (.ref o0_8)]))
  have O7 : Old Z n0 h3 := (O0.ext E3)
  obtain ⟨_, _, ⟨T8, L8, k8, n8⟩, -, X8, ⟨Lc8, hQ8, l8, y8, z8⟩, st8⟩ := Jvm.LawKit.callS X3 hx (y := (⟨"java/lang/Math", "min", "(II)I"⟩ : MethodName)) hown (mvT hZ (hw _ (List.mem_of_getElem? (i := 51) rfl))) (mvT hZ (hw _ (List.mem_of_getElem? (i := 52) rfl))) (mvT hZ (hw _ (List.mem_of_getElem? (i := 53) rfl))) (mvT hZ (hw _ (List.mem_of_getElem? (i := 54) rfl))) (by decide) (backOf (W := 4) (rm10 l Z a0 hw [] (n_o0_8 - (2 : Int32)) (x2_8 - (2 : Int32)) h3 n0 O7 ) hZ (hw _ (List.mem_of_getElem? (i := 54) rfl)) (hw _ (List.mem_of_getElem? (i := 53) rfl)) (by decide) (by decide)) (g := (mkF m 24 #[.val (.ref o0_8), .val (.int (2 : Int32)), .val (.int x2_8), .val (.int (x2_8 - (2 : Int32))), .val (.ref b3)] [(.int (x2_8 - (2 : Int32))), (.int (n_o0_8 - (2 : Int32))), (.int (0 : Int32)), (.ref b3), (.int (2 : Int32)), (.ref o0_8)])) rfl (by rw [hml]; rfl) (argsL := [(.int (n_o0_8 - (2 : Int32))), (.int (x2_8 - (2 : Int32)))]) (rest := [(.int (0 : Int32)), (.ref b3), (.int (2 : Int32)), (.ref o0_8)]) (lenOf pd_3 rfl) rfl (by show 2 * 0 + _ ≤ _; exact Nat.le_of_eq rfl) (hb hby d8_24) (fun _ _ => ⟨rfl, e3, (by decide : 1 + 0 ≤ _), (by decide : 3 + 0 ≤ _)⟩)
  dsimp only [Pt.U, Pt.locs, Pt.cells, Pt.slots] at X8 l8 y8 z8 st8 hQ8
  subst y8 z8
  obtain ⟨rfl, N8q, e8⟩ := hQ8
  refine own_step (fun t k => st8 _ k) ?_
  have N9 : Fr n0 L8 := by rw [l8]; exact Fr.app N2 N8q
  show own_Ends p.tables e below s _ _ _ (T8.setTop (mkF m 27 #[.val (.ref o0_8), .val (.int (2 : Int32)), .val (.int x2_8), .val (.int (x2_8 - (2 : Int32))), .val (.ref b3)] [(.int (own_r10 (n_o0_8 - (2 : Int32)) (x2_8 - (2 : Int32)))), (.int (0 : Int32)), (.ref b3), (.int (2 : Int32)), (.ref o0_8)]))
  obtain ⟨T10, h10, L10, X10, e10, N10q, K10q, V10, st10⟩ := cpA X8 hx hZ hown (hw _ (List.mem_of_getElem? (i := 55) rfl)) (hw _ (List.mem_of_getElem? (i := 58) rfl)) (hw _ (List.mem_of_getElem? (i := 56) rfl)) (hw _ (List.mem_of_getElem? (i := 57) rfl)) e8 F5 V3p (Or.inl ⟨rfl, rfl⟩) (by decide) (by decide) hcp1 hcp2 hcp3 rfl hcp4 N9 g_b3 (g := (mkF m 27 #[.val (.ref o0_8), .val (.int (2 : Int32)), .val (.int x2_8), .val (.int (x2_8 - (2 : Int32))), .val (.ref b3)] [(.int (own_r10 (n_o0_8 - (2 : Int32)) (x2_8 - (2 : Int32)))), (.int (0 : Int32)), (.ref b3), (.int (2 : Int32)), (.ref o0_8)])) rfl (by rw [hml]; rfl) rfl (hb hby d8_27) (by decide) (W := 0) (by show 2 * 0 + _ ≤ _; exact Nat.le_of_eq rfl) (by decide)
  refine own_step (fun t k => st10 _ k) ?_
  have K11 : Keep h0 h10 [] := K4.trans K10q (allS (Or.inr sz_b3) all0)
  obtain ⟨us10, V10x⟩ : ∃ us, Arv Z h10 b3 k3 .byte (x2_8 - (2 : Int32)) us (.int (0 : Int32)) := ⟨_, V10⟩
  show own_Ends p.tables e below s _ _ _ (T10.setTop (mkF m 30 #[.val (.ref o0_8), .val (.int (2 : Int32)), .val (.int x2_8), .val (.int (x2_8 - (2 : Int32))), .val (.ref b3)] []))
  refine own_step (fun t k => XS.aload X10.here hx rfl (hb hby d8_30) rfl rfl k) ?_
  show own_Ends p.tables e below s _ _ _ (T10.setTop (mkF m 32 #[.val (.ref o0_8), .val (.int (2 : Int32)), .val (.int x2_8), .val (.int (x2_8 - (2 : Int32))), .val (.ref b3)] [(.ref b3)]))
  exact own_retR X10 hx Bd.returns rfl rfl rfl (hb hby d8_32) hnl (by rw [e10]; exact ⟨b3, k3, us10, rfl, N10q, K11, sz_b3, V10x⟩) (by decide) (by decide)
theorem pd_4 : parseMethodDescriptor "([BII)[B" = some ⟨[(.array .byte), .int, .int], some (.array .byte)⟩ := by decide +kernel
theorem d7_0 : decode jdk_65_method_132_code 0 = .ok (.iload_n 1, 1) := by decide +kernel
theorem d7_1 : decode jdk_65_method_132_code 1 = .ok (.ifCond .ne 9, 3) := by decide +kernel
theorem d7_10 : decode jdk_65_method_132_code 10 = .ok (.aload_n 0, 1) := by decide +kernel
theorem d7_11 : decode jdk_65_method_132_code 11 = .ok (.iload_n 1, 1) := by decide +kernel
theorem d7_12 : decode jdk_65_method_132_code 12 = .ok (.iload_n 2, 1) := by decide +kernel
theorem d7_13 : decode jdk_65_method_132_code 13 = .ok (.invokestatic 339, 3) := by decide +kernel
theorem d7_16 : decode jdk_65_method_132_code 16 = .ok (.areturn, 1) := by decide +kernel
theorem ef_7 (m : MethodId) (o0_7 : Addr) (x2_7 : Int32) : entryFrame m #[(.ref o0_7), (.int (2 : Int32)), (.int x2_7)] 3 = mkF m 0 #[.val (.ref o0_7), .val (.int (2 : Int32)), .val (.int x2_7)] [] := by first | (simp [entryFrame, mkF, argsToLocals, Value.category]; done) | rfl
def Q7 (Z : State) (o0_7 : Addr) (x2_7 : Int32) (k_o0_7 : ClassId) (n_o0_7 : Int32) (vs_o0_7 : List Value) (dv_o0_7 : Value) (h0 : Heap) (n0 : Nat) (v : Option Value) (h : Heap) (L : List Loc) : Prop := ∃ (b3_1 : Addr), ∃ (k3_1 : ClassId), ∃ (us8_1 : List Value), v = some (.ref b3_1) ∧ Fr n0 L ∧ Keep h0 h [] ∧ h0.size ≤ b3_1 ∧ Arv Z h b3_1 k3_1 .byte (x2_7 - (2 : Int32)) us8_1 (.int (0 : Int32))
set_option maxRecDepth 65536 in
set_option maxHeartbeats 40000000 in
theorem rm7 (l : Launch) (Z : State) (a0 : Array Value) (hw : ∀ d ∈ tables_1, d.before a0 Z = true) (ws : List Jvm.Cond) (o0_7 : Addr) (x2_7 : Int32) (k_o0_7 : ClassId) (n_o0_7 : Int32) (vs_o0_7 : List Value) (dv_o0_7 : Value) (h0 : Heap) (n0 : Nat) (O0 : Old Z n0 h0) (V_o0_7 : Arv Z h0 o0_7 k_o0_7 .byte n_o0_7 vs_o0_7 dv_o0_7) (hle : ¬ x2_7 < (2 : Int32)) (hnn : ¬ (x2_7 - (2 : Int32)) < 0) (hcap : ((x2_7 - (2 : Int32))).toNatClampNeg ≤ 3) (hcp1 : ¬ (own_r10 (n_o0_7 - (2 : Int32)) (x2_7 - (2 : Int32))) < 0) (hcp2 : (2 : Int32).toNatClampNeg + ((own_r10 (n_o0_7 - (2 : Int32)) (x2_7 - (2 : Int32)))).toNatClampNeg ≤ (n_o0_7).toNatClampNeg) (hcp3 : (0 : Int32).toNatClampNeg + ((own_r10 (n_o0_7 - (2 : Int32)) (x2_7 - (2 : Int32)))).toNatClampNeg ≤ ((x2_7 - (2 : Int32))).toNatClampNeg) (hcp4 : (0 : Int32).toNatClampNeg + ((own_r10 (n_o0_7 - (2 : Int32)) (x2_7 - (2 : Int32)))).toNatClampNeg ≤ 3) :
    MetFree l (⟨"java/util/Arrays", "copyOfRange", "([BII)[B"⟩ : MethodName) (head1 (Jvm.Cond.code (⟨"java/util/Arrays", "copyOfRange", "([BII)[B"⟩ : MethodName) jdk_65_method_132_code 3 (some (.array .byte)) :: ws) ({ frames := 2, cells := 1, slots := 3, locals := 34 } : Room)) (fun a U => a = #[(.ref o0_7), (.int (2 : Int32)), (.int x2_7)] ∧ Z.Warmed39 U.vm ∧ U.heap = h0) (fun _ _ _ _ _ => True) (fun _ U o U' => ∃ v L, o = .returned v ∧ Q7 Z o0_7 x2_7 k_o0_7 n_o0_7 vs_o0_7 dv_o0_7 h0 n0 v U'.heap L ∧ FrameEnd U o U' L ({ frames := 2, cells := 1, slots := 3, locals := 34 } : Room).cells ({ frames := 2, cells := 1, slots := 3, locals := 34 } : Room).slots) := by
  refine MetFree.of_bodySF (plainFor_of_name pn_1) hisR ?_
  intro p e s m args below meth c s₁ Bd hml0 hP hK
  obtain ⟨rfl, hZ, hh⟩ := hP
  have hx := Bd.exec
  have hby := Bd.bytes
  have hnl := BodyLoose.notSynchronized Bd
  have hml : c.maxLocals = 3 := hml0
  have hown : s.vm.findClass "java/util/Arrays" = some m.cls := findClass_of_methodNamed Bd.named
  have hnm := (name_of_methodNamed Bd.named Bd.method).1
  have X0 : Stand p l e ({ frames := 2, cells := 1, slots := 3, locals := 34 } : Room) s m #[(.ref o0_7), (.int (2 : Int32)), (.int x2_7)] below meth c s₁ [] 0 0 := Stand.of_body Bd
  have e0 : s₁.heap = h0 := by rw [← hh, Bd.state]; rfl
  have N0 := Fr.nil n0
  show own_Ends p.tables e below s (Q7 Z o0_7 x2_7 k_o0_7 n_o0_7 vs_o0_7 dv_o0_7 h0 n0) 1 3 (s₁.setTop (entryFrame m #[(.ref o0_7), (.int (2 : Int32)), (.int x2_7)] 3))
  rw [ef_7 m o0_7 x2_7]
  show own_Ends p.tables e below s _ _ _ (s₁.setTop (mkF m 0 #[.val (.ref o0_7), .val (.int (2 : Int32)), .val (.int x2_7)] []))
  refine own_step (fun t k => XS.iloadN X0.here hx rfl (hb hby d7_0) rfl k) ?_
  show own_Ends p.tables e below s _ _ _ (s₁.setTop (mkF m 1 #[.val (.ref o0_7), .val (.int (2 : Int32)), .val (.int x2_7)] [(.int (2 : Int32))]))
  refine own_step (fun t k => XS.ifYes X0.here hx rfl (pc0 := 1) (pc' := 10) rfl (hb hby d7_1) rfl ((if0 _ _).trans (feq (by decide : ¬ ((2 : Int32) = (0 : Int32)))).2) (by decide) (by decide) k) ?_
  show own_Ends p.tables e below s _ _ _ (s₁.setTop (mkF m 10 #[.val (.ref o0_7), .val (.int (2 : Int32)), .val (.int x2_7)] []))
  refine own_step (fun t k => XS.aloadN X0.here hx rfl (hb hby d7_10) rfl rfl k) ?_
  show own_Ends p.tables e below s _ _ _ (s₁.setTop (mkF m 11 #[.val (.ref o0_7), .val (.int (2 : Int32)), .val (.int x2_7)] [(.ref o0_7)]))
  refine own_step (fun t k => XS.iloadN X0.here hx rfl (hb hby d7_11) rfl k) ?_
  show own_Ends p.tables e below s _ _ _ (s₁.setTop (mkF m 12 #[.val (.ref o0_7), .val (.int (2 : Int32)), .val (.int x2_7)] [(.int (2 : Int32)), (.ref o0_7)]))
  refine own_step (fun t k => XS.iloadN X0.here hx rfl (hb hby d7_12) rfl k) ?_
  show own_Ends p.tables e below s _ _ _ (s₁.setTop (mkF m 13 #[.val (.ref o0_7), .val (.int (2 : Int32)), .val (.int x2_7)] [(.int x2_7), (.int (2 : Int32)), (.ref o0_7)]))
  obtain ⟨_, _, ⟨T1, L1, k1, n1⟩, -, X1, ⟨Lc1, hQ1, l1, y1, z1⟩, st1⟩ := Jvm.LawKit.callS X0 hx (y := (⟨"java/util/Arrays", "copyOfRangeByte", "([BII)[B"⟩ : MethodName)) hown (mvT hZ (hw _ (List.mem_of_getElem? (i := 45) rfl))) (mvT hZ (hw _ (List.mem_of_getElem? (i := 46) rfl))) (mvT hZ (hw _ (List.mem_of_getElem? (i := 43) rfl))) (mvT hZ (hw _ (List.mem_of_getElem? (i := 47) rfl))) (by decide) (backOf (W := 0) (rm8 l Z a0 hw [] o0_7 x2_7 k_o0_7 n_o0_7 vs_o0_7 dv_o0_7 h0 n0 O0 hle hnn hcap hcp1 hcp2 hcp3 hcp4 V_o0_7) hZ (hw _ (List.mem_of_getElem? (i := 47) rfl)) (hw _ (List.mem_of_getElem? (i := 43) rfl)) (by decide) (by decide)) (g := (mkF m 13 #[.val (.ref o0_7), .val (.int (2 : Int32)), .val (.int x2_7)] [(.int x2_7), (.int (2 : Int32)), (.ref o0_7)])) rfl (by rw [hml]; rfl) (argsL := [(.ref o0_7), (.int (2 : Int32)), (.int x2_7)]) (rest := []) (lenOf pd_4 rfl) rfl (by show 2 * 0 + _ ≤ _; exact Nat.le_of_eq rfl) (hb hby d7_13) (fun _ _ => ⟨rfl, e0, (by decide : 0 + 1 ≤ _), (by decide : 0 + 3 ≤ _)⟩)
  dsimp only [Pt.U, Pt.locs, Pt.cells, Pt.slots] at X1 l1 y1 z1 st1 hQ1
  subst y1 z1
  obtain ⟨b3_1, k3_1, us8_1, rfl, N1q, K1q, p1_0, p1_1⟩ := hQ1
  refine own_step (fun t k => st1 _ k) ?_
  have N2 : Fr n0 L1 := by rw [l1]; exact Fr.app N0 N1q
  have sz_b3_1 : h0.size ≤ b3_1 := Nat.le_trans (Keep.refl h0 []).1 p1_0
  have g_b3_1 : n0 ≤ b3_1 := Nat.le_trans (Nat.le_trans (Nat.le_of_eq O0.1.symm) O0.2.1) p1_0
  have ne_o0_7_b3_1 : o0_7 ≠ b3_1 := Nat.ne_of_lt (Nat.lt_of_lt_of_le V_o0_7.lt p1_0)
  have K3 : Keep h0 T1.heap [] := (Keep.refl h0 []).trans K1q all0
  show own_Ends p.tables e below s _ _ _ (T1.setTop (mkF m 16 #[.val (.ref o0_7), .val (.int (2 : Int32)), .val (.int x2_7)] [(.ref b3_1)]))
  exact own_retR X1 hx Bd.returns rfl rfl rfl (hb hby d7_16) hnl ⟨b3_1, k3_1, us8_1, rfl, N2, K3, sz_b3_1, p1_1⟩ (by decide) (by decide)
theorem pd_5 : parseMethodDescriptor "(ILjava/lang/String;)I" = some ⟨[.int, (.object "java/lang/String")], some .int⟩ := by decide +kernel
theorem d5_0 : decode prog_24_method_6_code 0 = .ok (.aload_n 0, 1) := by decide +kernel
theorem d5_1 : decode prog_24_method_6_code 1 = .ok (.sipush 128, 3) := by decide +kernel
theorem d5_4 : decode prog_24_method_6_code 4 = .ok (.iload_n 1, 1) := by decide +kernel
theorem d5_5 : decode prog_24_method_6_code 5 = .ok (.ior, 1) := by decide +kernel
theorem d5_6 : decode prog_24_method_6_code 6 = .ok (.aload_n 2, 1) := by decide +kernel
theorem d5_7 : decode prog_24_method_6_code 7 = .ok (.invokevirtual 38, 3) := by decide +kernel
theorem d5_10 : decode prog_24_method_6_code 10 = .ok (.istore_n 3, 1) := by decide +kernel
theorem d5_11 : decode prog_24_method_6_code 11 = .ok (.aload_n 0, 1) := by decide +kernel
theorem d5_12 : decode prog_24_method_6_code 12 = .ok (.getfield 12, 3) := by decide +kernel
theorem d5_15 : decode prog_24_method_6_code 15 = .ok (.aload_n 0, 1) := by decide +kernel
theorem d5_16 : decode prog_24_method_6_code 16 = .ok (.getfield 16, 3) := by decide +kernel
theorem d5_19 : decode prog_24_method_6_code 19 = .ok (.aload_n 0, 1) := by decide +kernel
theorem d5_20 : decode prog_24_method_6_code 20 = .ok (.getfield 16, 3) := by decide +kernel
theorem d5_23 : decode prog_24_method_6_code 23 = .ok (.iload_n 3, 1) := by decide +kernel
theorem d5_24 : decode prog_24_method_6_code 24 = .ok (.iadd, 1) := by decide +kernel
theorem d5_25 : decode prog_24_method_6_code 25 = .ok (.invokestatic 42, 3) := by decide +kernel
theorem d5_28 : decode prog_24_method_6_code 28 = .ok (.astore 4, 2) := by decide +kernel
theorem d5_30 : decode prog_24_method_6_code 30 = .ok (.aload_n 0, 1) := by decide +kernel
theorem d5_31 : decode prog_24_method_6_code 31 = .ok (.dup, 1) := by decide +kernel
theorem d5_32 : decode prog_24_method_6_code 32 = .ok (.getfield 16, 3) := by decide +kernel
theorem d5_35 : decode prog_24_method_6_code 35 = .ok (.iload_n 3, 1) := by decide +kernel
theorem d5_36 : decode prog_24_method_6_code 36 = .ok (.iadd, 1) := by decide +kernel
theorem d5_37 : decode prog_24_method_6_code 37 = .ok (.putfield 16, 3) := by decide +kernel
theorem d5_40 : decode prog_24_method_6_code 40 = .ok (.aload 4, 2) := by decide +kernel
theorem d5_42 : decode prog_24_method_6_code 42 = .ok (.areturn, 1) := by decide +kernel
theorem ef_5 (m : MethodId) (o0_5 : Addr) (x1_5 : Int32) (o2_5 : Addr) : entryFrame m #[(.ref o0_5), (.int x1_5), (.ref o2_5)] 5 = mkF m 0 #[.val (.ref o0_5), .val (.int x1_5), .val (.ref o2_5), .unset, .unset] [] := by first | (simp [entryFrame, mkF, argsToLocals, Value.category]; done) | rfl
def Q5 (Z : State) (o0_5 : Addr) (x1_5 : Int32) (o2_5 : Addr) (w_end_o0_5 : Int32) (w_bytes_o0_5 : Addr) (k_w_bytes_o0_5 : ClassId) (n_w_bytes_o0_5 : Int32) (vs_w_bytes_o0_5 : List Value) (dv_w_bytes_o0_5 : Value) (r0_w_bytes_o0_5 : Int32) (r1_w_bytes_o0_5 : Int32) (h0 : Heap) (n0 : Nat) (v : Option Value) (h : Heap) (L : List Loc) : Prop := ∃ (b3_1_9 : Addr), ∃ (k3_1_9 : ClassId), ∃ (us8_1_9 : List Value), v = some (.ref b3_1_9) ∧ Fr n0 L ∧ Keep h0 h [o0_5] ∧ h0.size ≤ b3_1_9 ∧ Fld Z h o0_5 "com/example/proofwright/proofwright/cryptoconditions/DerReader" "position" "I" (.int ((2 : Int32) + (((r1_w_bytes_o0_5 &&& (255 : Int32)).toInt64).toInt32))) ∧ Fld Z h o0_5 "com/example/proofwright/proofwright/cryptoconditions/DerReader" "end" "I" (.int w_end_o0_5) ∧ Exa Z h o0_5 "com/example/proofwright/proofwright/cryptoconditions/DerReader" ∧ Fld Z h o0_5 "com/example/proofwright/proofwright/cryptoconditions/DerReader" "bytes" "[B" (.ref w_bytes_o0_5) ∧ Arv Z h b3_1_9 k3_1_9 .byte (((2 : Int32) + (((r1_w_bytes_o0_5 &&& (255 : Int32)).toInt64).toInt32)) - (2 : Int32)) us8_1_9 (.int (0 : Int32))
set_option maxRecDepth 65536 in
set_option maxHeartbeats 40000000 in
theorem rm5 (l : Launch) (Z : State) (a0 : Array Value) (hw : ∀ d ∈ tables_1, d.before a0 Z = true) (ws : List Jvm.Cond) (o0_5 : Addr) (x1_5 : Int32) (o2_5 : Addr) (w_end_o0_5 : Int32) (w_bytes_o0_5 : Addr) (k_w_bytes_o0_5 : ClassId) (n_w_bytes_o0_5 : Int32) (vs_w_bytes_o0_5 : List Value) (dv_w_bytes_o0_5 : Value) (r0_w_bytes_o0_5 : Int32) (r1_w_bytes_o0_5 : Int32) (h0 : Heap) (n0 : Nat) (O0 : Old Z n0 h0) (F_position_o0_5 : Fld Z h0 o0_5 "com/example/proofwright/proofwright/cryptoconditions/DerReader" "position" "I" (.int (0 : Int32))) (F_end_o0_5 : Fld Z h0 o0_5 "com/example/proofwright/proofwright/cryptoconditions/DerReader" "end" "I" (.int w_end_o0_5)) (E_o0_5 : Exa Z h0 o0_5 "com/example/proofwright/proofwright/cryptoconditions/DerReader") (F_bytes_o0_5 : Fld Z h0 o0_5 "com/example/proofwright/proofwright/cryptoconditions/DerReader" "bytes" "[B" (.ref w_bytes_o0_5)) (V_w_bytes_o0_5 : Arv Z h0 w_bytes_o0_5 k_w_bytes_o0_5 .byte n_w_bytes_o0_5 vs_w_bytes_o0_5 dv_w_bytes_o0_5) (hin0_w_bytes_o0_5 : ¬ (0 : Int32) < 0 ∧ (0 : Int32) < n_w_bytes_o0_5) (hat0_w_bytes_o0_5 : vs_w_bytes_o0_5.getD 0 dv_w_bytes_o0_5 = (.int r0_w_bytes_o0_5)) (g_o0_5 : n0 ≤ o0_5) (ne_w_bytes_o0_5_o0_5 : w_bytes_o0_5 ≠ o0_5) (hin1_w_bytes_o0_5 : ¬ (1 : Int32) < 0 ∧ (1 : Int32) < n_w_bytes_o0_5) (hat1_w_bytes_o0_5 : vs_w_bytes_o0_5.getD 1 dv_w_bytes_o0_5 = (.int r1_w_bytes_o0_5)) (h1 : ¬ (own_r4 (0 : Int32) w_end_o0_5) = (0 : Int32)) (h2 : ¬ (own_r4 (1 : Int32) w_end_o0_5) = (0 : Int32)) (h3 : (r0_w_bytes_o0_5 &&& (255 : Int32)) = ((128 : Int32) ||| x1_5)) (h4 : ¬ (r1_w_bytes_o0_5 &&& (255 : Int32)) = (128 : Int32)) (h5 : (r1_w_bytes_o0_5 &&& (255 : Int32)) < (128 : Int32)) (h6 : ¬ (0 : Int32) < (lcmpW ((r1_w_bytes_o0_5 &&& (255 : Int32)).toInt64) ((w_end_o0_5 - (2 : Int32)).toInt64))) (hle : ¬ ((2 : Int32) + (((r1_w_bytes_o0_5 &&& (255 : Int32)).toInt64).toInt32)) < (2 : Int32)) (hnn : ¬ (((2 : Int32) + (((r1_w_bytes_o0_5 &&& (255 : Int32)).toInt64).toInt32)) - (2 : Int32)) < 0) (hcap : ((((2 : Int32) + (((r1_w_bytes_o0_5 &&& (255 : Int32)).toInt64).toInt32)) - (2 : Int32))).toNatClampNeg ≤ 3) (hcp1 : ¬ (own_r10 (n_w_bytes_o0_5 - (2 : Int32)) (((2 : Int32) + (((r1_w_bytes_o0_5 &&& (255 : Int32)).toInt64).toInt32)) - (2 : Int32))) < 0) (hcp2 : (2 : Int32).toNatClampNeg + ((own_r10 (n_w_bytes_o0_5 - (2 : Int32)) (((2 : Int32) + (((r1_w_bytes_o0_5 &&& (255 : Int32)).toInt64).toInt32)) - (2 : Int32)))).toNatClampNeg ≤ (n_w_bytes_o0_5).toNatClampNeg) (hcp3 : (0 : Int32).toNatClampNeg + ((own_r10 (n_w_bytes_o0_5 - (2 : Int32)) (((2 : Int32) + (((r1_w_bytes_o0_5 &&& (255 : Int32)).toInt64).toInt32)) - (2 : Int32)))).toNatClampNeg ≤ ((((2 : Int32) + (((r1_w_bytes_o0_5 &&& (255 : Int32)).toInt64).toInt32)) - (2 : Int32))).toNatClampNeg) (hcp4 : (0 : Int32).toNatClampNeg + ((own_r10 (n_w_bytes_o0_5 - (2 : Int32)) (((2 : Int32) + (((r1_w_bytes_o0_5 &&& (255 : Int32)).toInt64).toInt32)) - (2 : Int32)))).toNatClampNeg ≤ 3) :
    MetFree l (⟨"com/example/proofwright/proofwright/cryptoconditions/DerReader", "primitive", "(ILjava/lang/String;)[B"⟩ : MethodName) (head1 (Jvm.Cond.code (⟨"com/example/proofwright/proofwright/cryptoconditions/DerReader", "primitive", "(ILjava/lang/String;)[B"⟩ : MethodName) prog_24_method_6_code 5 (some (.array .byte)) :: ws) ({ frames := 3, cells := 1, slots := 3, locals := 48 } : Room)) (fun a U => a = #[(.ref o0_5), (.int x1_5), (.ref o2_5)] ∧ Z.Warmed39 U.vm ∧ U.heap = h0) (fun _ _ _ _ _ => True) (fun _ U o U' => ∃ v L, o = .returned v ∧ Q5 Z o0_5 x1_5 o2_5 w_end_o0_5 w_bytes_o0_5 k_w_bytes_o0_5 n_w_bytes_o0_5 vs_w_bytes_o0_5 dv_w_bytes_o0_5 r0_w_bytes_o0_5 r1_w_bytes_o0_5 h0 n0 v U'.heap L ∧ FrameEnd U o U' L ({ frames := 3, cells := 1, slots := 3, locals := 48 } : Room).cells ({ frames := 3, cells := 1, slots := 3, locals := 48 } : Room).slots) := by
  refine MetFree.of_bodySF (plainFor_of_name pn_0) hisR ?_
  intro p e s m args below meth c s₁ Bd hml0 hP hK
  obtain ⟨rfl, hZ, hh⟩ := hP
  have hx := Bd.exec
  have hby := Bd.bytes
  have hnl := BodyLoose.notSynchronized Bd
  have hml : c.maxLocals = 5 := hml0
  have hown : s.vm.findClass "com/example/proofwright/proofwright/cryptoconditions/DerReader" = some m.cls := findClass_of_methodNamed Bd.named
  have hnm := (name_of_methodNamed Bd.named Bd.method).1
  have X0 : Stand p l e ({ frames := 3, cells := 1, slots := 3, locals := 48 } : Room) s m #[(.ref o0_5), (.int x1_5), (.ref o2_5)] below meth c s₁ [] 0 0 := Stand.of_body Bd
  have e0 : s₁.heap = h0 := by rw [← hh, Bd.state]; rfl
  have N0 := Fr.nil n0
  show own_Ends p.tables e below s (Q5 Z o0_5 x1_5 o2_5 w_end_o0_5 w_bytes_o0_5 k_w_bytes_o0_5 n_w_bytes_o0_5 vs_w_bytes_o0_5 dv_w_bytes_o0_5 r0_w_bytes_o0_5 r1_w_bytes_o0_5 h0 n0) 1 3 (s₁.setTop (entryFrame m #[(.ref o0_5), (.int x1_5), (.ref o2_5)] 5))
  rw [ef_5 m o0_5 x1_5 o2_5]
  show own_Ends p.tables e below s _ _ _ (s₁.setTop (mkF m 0 #[.val (.ref o0_5), .val (.int x1_5), .val (.ref o2_5), .unset, .unset] []))
  refine own_step (fun t k => XS.aloadN X0.here hx rfl (hb hby d5_0) rfl rfl k) ?_
  show own_Ends p.tables e below s _ _ _ (s₁.setTop (mkF m 1 #[.val (.ref o0_5), .val (.int x1_5), .val (.ref o2_5), .unset, .unset] [(.ref o0_5)]))
  refine own_step (fun t k => XS.sipush X0.here hx rfl (hb hby d5_1) k) ?_
  show own_Ends p.tables e below s _ _ _ (s₁.setTop (mkF m 4 #[.val (.ref o0_5), .val (.int x1_5), .val (.ref o2_5), .unset, .unset] [(.int (128 : Int32)), (.ref o0_5)]))
  refine own_step (fun t k => XS.iloadN X0.here hx rfl (hb hby d5_4) rfl k) ?_
  show own_Ends p.tables e below s _ _ _ (s₁.setTop (mkF m 5 #[.val (.ref o0_5), .val (.int x1_5), .val (.ref o2_5), .unset, .unset] [(.int x1_5), (.int (128 : Int32)), (.ref o0_5)]))
  refine own_step (fun t k => XS.ior X0.here hx rfl (hb hby d5_5) rfl k) ?_
  show own_Ends p.tables e below s _ _ _ (s₁.setTop (mkF m 6 #[.val (.ref o0_5), .val (.int x1_5), .val (.ref o2_5), .unset, .unset] [(.int ((128 : Int32) ||| x1_5)), (.ref o0_5)]))
  refine own_step (fun t k => XS.aloadN X0.here hx rfl (hb hby d5_6) rfl rfl k) ?_
  show own_Ends p.tables e below s _ _ _ (s₁.setTop (mkF m 7 #[.val (.ref o0_5), .val (.int x1_5), .val (.ref o2_5), .unset, .unset] [(.ref o2_5), (.int ((128 : Int32) ||| x1_5)), (.ref o0_5)]))
  obtain ⟨cq1, q1, q1'⟩ := E_o0_5.cell
  obtain ⟨_, _, ⟨T1, L1, k1, n1⟩, -, X1, ⟨Lc1, hQ1, l1, y1, z1⟩, st1⟩ := X0.privateBack hx (y := (⟨"com/example/proofwright/proofwright/cryptoconditions/DerReader", "readHeader", "(ILjava/lang/String;)I"⟩ : MethodName)) hown (mvT hZ (hw _ (List.mem_of_getElem? (i := 36) rfl))) (mvT hZ (hw _ (List.mem_of_getElem? (i := 37) rfl))) (own_selPriv hZ (hw _ (List.mem_of_getElem? (i := 1) rfl)) (hw _ (List.mem_of_getElem? (i := 38) rfl)) (hw _ (List.mem_of_getElem? (i := 37) rfl)) (by decide)) (Cond.privateMethod_at (mvP hZ (hw _ (List.mem_of_getElem? (i := 38) rfl)) (args := #[]))) (mvT hZ (hw _ (List.mem_of_getElem? (i := 39) rfl))) (by decide) (backOf (W := 0) (rm6 l Z a0 hw [] o0_5 ((128 : Int32) ||| x1_5) o2_5 w_end_o0_5 w_bytes_o0_5 k_w_bytes_o0_5 n_w_bytes_o0_5 vs_w_bytes_o0_5 dv_w_bytes_o0_5 r0_w_bytes_o0_5 r1_w_bytes_o0_5 h0 n0 O0 h1 h2 h3 h4 h5 h6 F_position_o0_5 F_end_o0_5 E_o0_5 F_bytes_o0_5 V_w_bytes_o0_5 hin0_w_bytes_o0_5 hat0_w_bytes_o0_5 g_o0_5 ne_w_bytes_o0_5_o0_5 hin1_w_bytes_o0_5 hat1_w_bytes_o0_5) hZ (hw _ (List.mem_of_getElem? (i := 39) rfl)) (hw _ (List.mem_of_getElem? (i := 2) rfl)) (by decide) (by decide)) (g := (mkF m 7 #[.val (.ref o0_5), .val (.int x1_5), .val (.ref o2_5), .unset, .unset] [(.ref o2_5), (.int ((128 : Int32) ||| x1_5)), (.ref o0_5)])) rfl (by rw [hml]; rfl) (Steps.refl _) (a := o0_5) (by rw [e0]; exact q1) q1' (argsL := [(.int ((128 : Int32) ||| x1_5)), (.ref o2_5)]) (rest := []) (lenOf pd_5 rfl) rfl (by show 2 * 0 + _ ≤ _; exact Nat.le_of_eq rfl) (hb hby d5_7) (fun _ _ => ⟨rfl, e0, (by decide : 0 + 0 ≤ _), (by decide : 0 + 0 ≤ _)⟩)
  dsimp only [Pt.U, Pt.locs, Pt.cells, Pt.slots] at X1 l1 y1 z1 st1 hQ1
  subst y1 z1
  obtain ⟨rfl, N1q, K1q, p1_0, p1_1, p1_2, p1_3⟩ := hQ1
  refine own_step (fun t k => st1.trans k) ?_
  have N2 : Fr n0 L1 := by rw [l1]; exact Fr.app N0 N1q
  have K3 : Keep h0 T1.heap [o0_5] := (Keep.refl h0 [o0_5]).trans K1q (allS (Or.inl (List.mem_of_getElem? (i := 0) rfl)) all0)
  show own_Ends p.tables e below s _ _ _ (T1.setTop (mkF m 10 #[.val (.ref o0_5), .val (.int x1_5), .val (.ref o2_5), .unset, .unset] [(.int (((r1_w_bytes_o0_5 &&& (255 : Int32)).toInt64).toInt32))]))
  refine own_step (fun t k => XS.istoreN X1.here hx rfl (hb hby d5_10) rfl (l' := #[.val (.ref o0_5), .val (.int x1_5), .val (.ref o2_5), .val (.int (((r1_w_bytes_o0_5 &&& (255 : Int32)).toInt64).toInt32)), .unset]) rfl k) ?_
  show own_Ends p.tables e below s _ _ _ (T1.setTop (mkF m 11 #[.val (.ref o0_5), .val (.int x1_5), .val (.ref o2_5), .val (.int (((r1_w_bytes_o0_5 &&& (255 : Int32)).toInt64).toInt32)), .unset] []))
  refine own_step (fun t k => XS.aloadN X1.here hx rfl (hb hby d5_11) rfl rfl k) ?_
  show own_Ends p.tables e below s _ _ _ (T1.setTop (mkF m 12 #[.val (.ref o0_5), .val (.int x1_5), .val (.ref o2_5), .val (.int (((r1_w_bytes_o0_5 &&& (255 : Int32)).toInt64).toInt32)), .unset] [(.ref o0_5)]))
  obtain ⟨T4, X4, e4, st4⟩ := getF X1 hx hZ hown (host := "") (Or.inl (hw _ (List.mem_of_getElem? (i := 13) rfl))) Via.refl rfl p1_3 (g := (mkF m 12 #[.val (.ref o0_5), .val (.int x1_5), .val (.ref o2_5), .val (.int (((r1_w_bytes_o0_5 &&& (255 : Int32)).toInt64).toInt32)), .unset] [(.ref o0_5)])) rfl rfl (hb hby d5_12)
  refine own_step (fun t k => st4 _ k) ?_
  show own_Ends p.tables e below s _ _ _ (T4.setTop (mkF m 15 #[.val (.ref o0_5), .val (.int x1_5), .val (.ref o2_5), .val (.int (((r1_w_bytes_o0_5 &&& (255 : Int32)).toInt64).toInt32)), .unset] [(.ref w_bytes_o0_5)]))
  refine own_step (fun t k => XS.aloadN X4.here hx rfl (hb hby d5_15) rfl rfl k) ?_
  show own_Ends p.tables e below s _ _ _ (T4.setTop (mkF m 16 #[.val (.ref o0_5), .val (.int x1_5), .val (.ref o2_5), .val (.int (((r1_w_bytes_o0_5 &&& (255 : Int32)).toInt64).toInt32)), .unset] [(.ref o0_5), (.ref w_bytes_o0_5)]))
  obtain ⟨T5, X5, e5, st5⟩ := getF X4 hx hZ hown (host := "") (Or.inl (hw _ (List.mem_of_getElem? (i := 15) rfl))) Via.refl e4 p1_0 (g := (mkF m 16 #[.val (.ref o0_5), .val (.int x1_5), .val (.ref o2_5), .val (.int (((r1_w_bytes_o0_5 &&& (255 : Int32)).toInt64).toInt32)), .unset] [(.ref o0_5), (.ref w_bytes_o0_5)])) rfl rfl (hb hby d5_16)
  refine own_step (fun t k => st5 _ k) ?_
  show own_Ends p.tables e below s _ _ _ (T5.setTop (mkF m 19 #[.val (.ref o0_5), .val (.int x1_5), .val (.ref o2_5), .val (.int (((r1_w_bytes_o0_5 &&& (255 : Int32)).toInt64).toInt32)), .unset] [(.int (2 : Int32)), (.ref w_bytes_o0_5)]))
  refine own_step (fun t k => XS.aloadN X5.here hx rfl (hb hby d5_19) rfl rfl k) ?_
  show own_Ends p.tables e below s _ _ _ (T5.setTop (mkF m 20 #[.val (.ref o0_5), .val (.int x1_5), .val (.ref o2_5), .val (.int (((r1_w_bytes_o0_5 &&& (255 : Int32)).toInt64).toInt32)), .unset] [(.ref o0_5), (.int (2 : Int32)), (.ref w_bytes_o0_5)]))
  obtain ⟨T6, X6, e6, st6⟩ := getF X5 hx hZ hown (host := "") (Or.inl (hw _ (List.mem_of_getElem? (i := 15) rfl))) Via.refl e5 p1_0 (g := (mkF m 20 #[.val (.ref o0_5), .val (.int x1_5), .val (.ref o2_5), .val (.int (((r1_w_bytes_o0_5 &&& (255 : Int32)).toInt64).toInt32)), .unset] [(.ref o0_5), (.int (2 : Int32)), (.ref w_bytes_o0_5)])) rfl rfl (hb hby d5_20)
  refine own_step (fun t k => st6 _ k) ?_
  show own_Ends p.tables e below s _ _ _ (T6.setTop (mkF m 23 #[.val (.ref o0_5), .val (.int x1_5), .val (.ref o2_5), .val (.int (((r1_w_bytes_o0_5 &&& (255 : Int32)).toInt64).toInt32)), .unset] [(.int (2 : Int32)), (.int (2 : Int32)), (.ref w_bytes_o0_5)]))
  refine own_step (fun t k => XS.iloadN X6.here hx rfl (hb hby d5_23) rfl k) ?_
  show own_Ends p.tables e below s _ _ _ (T6.setTop (mkF m 24 #[.val (.ref o0_5), .val (.int x1_5), .val (.ref o2_5), .val (.int (((r1_w_bytes_o0_5 &&& (255 : Int32)).toInt64).toInt32)), .unset] [(.int (((r1_w_bytes_o0_5 &&& (255 : Int32)).toInt64).toInt32)), (.int (2 : Int32)), (.int (2 : Int32)), (.ref w_bytes_o0_5)]))
  refine own_step (fun t k => XS.iadd X6.here hx rfl (hb hby d5_24) rfl k) ?_
  show own_Ends p.tables e below s _ _ _ (T6.setTop (mkF m 25 #[.val (.ref o0_5), .val (.int x1_5), .val (.ref o2_5), .val (.int (((r1_w_bytes_o0_5 &&& (255 : Int32)).toInt64).toInt32)), .unset] [(.int ((2 : Int32) + (((r1_w_bytes_o0_5 &&& (255 : Int32)).toInt64).toInt32))), (.int (2 : Int32)), (.ref w_bytes_o0_5)]))
  have F7 : Arv Z T1.heap w_bytes_o0_5 k_w_bytes_o0_5 .byte n_w_bytes_o0_5 vs_w_bytes_o0_5 dv_w_bytes_o0_5 := (V_w_bytes_o0_5.keep K1q (ninS ne_w_bytes_o0_5_o0_5 nin0))
  have O8 : Old Z n0 T1.heap := (O0.keep K1q (allS g_o0_5 all0))
  obtain ⟨_, _, ⟨T9, L9, k9, n9⟩, -, X9, ⟨Lc9, hQ9, l9, y9, z9⟩, st9⟩ := Jvm.LawKit.callS X6 hx (y := (⟨"java/util/Arrays", "copyOfRange", "([BII)[B"⟩ : MethodName)) hown (mvT hZ (hw _ (List.mem_of_getElem? (i := 41) rfl))) (mvT hZ (hw _ (List.mem_of_getElem? (i := 42) rfl))) (mvT hZ (hw _ (List.mem_of_getElem? (i := 43) rfl))) (mvT hZ (hw _ (List.mem_of_getElem? (i := 44) rfl))) (by decide) (backOf (W := 0) (rm7 l Z a0 hw [] w_bytes_o0_5 ((2 : Int32) + (((r1_w_bytes_o0_5 &&& (255 : Int32)).toInt64).toInt32)) k_w_bytes_o0_5 n_w_bytes_o0_5 vs_w_bytes_o0_5 dv_w_bytes_o0_5 T1.heap n0 O8 F7 hle hnn hcap hcp1 hcp2 hcp3 hcp4) hZ (hw _ (List.mem_of_getElem? (i := 44) rfl)) (hw _ (List.mem_of_getElem? (i := 43) rfl)) (by decide) (by decide)) (g := (mkF m 25 #[.val (.ref o0_5), .val (.int x1_5), .val (.ref o2_5), .val (.int (((r1_w_bytes_o0_5 &&& (255 : Int32)).toInt64).toInt32)), .unset] [(.int ((2 : Int32) + (((r1_w_bytes_o0_5 &&& (255 : Int32)).toInt64).toInt32))), (.int (2 : Int32)), (.ref w_bytes_o0_5)])) rfl (by rw [hml]; rfl) (argsL := [(.ref w_bytes_o0_5), (.int (2 : Int32)), (.int ((2 : Int32) + (((r1_w_bytes_o0_5 &&& (255 : Int32)).toInt64).toInt32)))]) (rest := []) (lenOf pd_4 rfl) rfl (by show 2 * 0 + _ ≤ _; exact Nat.le_of_eq rfl) (hb hby d5_25) (fun _ _ => ⟨rfl, e6, (by decide : 0 + 1 ≤ _), (by decide : 0 + 3 ≤ _)⟩)
  dsimp only [Pt.U, Pt.locs, Pt.cells, Pt.slots] at X9 l9 y9 z9 st9 hQ9
  subst y9 z9
  obtain ⟨b3_1_9, k3_1_9, us8_1_9, rfl, N9q, K9q, p9_0, p9_1⟩ := hQ9
  refine own_step (fun t k => st9 _ k) ?_
  have N10 : Fr n0 L9 := by rw [l9]; exact Fr.app N2 N9q
  have sz_b3_1_9 : h0.size ≤ b3_1_9 := Nat.le_trans K3.1 p9_0
  have g_b3_1_9 : n0 ≤ b3_1_9 := Nat.le_trans (Nat.le_trans (Nat.le_of_eq O8.1.symm) O8.2.1) p9_0
  have ne_o0_5_b3_1_9 : o0_5 ≠ b3_1_9 := Nat.ne_of_lt (Nat.lt_of_lt_of_le p1_0.lt p9_0)
  have ne_w_bytes_o0_5_b3_1_9 : w_bytes_o0_5 ≠ b3_1_9 := Nat.ne_of_lt (Nat.lt_of_lt_of_le F7.lt p9_0)
  have K11 : Keep h0 T9.heap [o0_5] := K3.trans K9q all0
  show own_Ends p.tables e below s _ _ _ (T9.setTop (mkF m 28 #[.val (.ref o0_5), .val (.int x1_5), .val (.ref o2_5), .val (.int (((r1_w_bytes_o0_5 &&& (255 : Int32)).toInt64).toInt32)), .unset] [(.ref b3_1_9)]))
  refine own_step (fun t k => XS.astore X9.here hx rfl (hb hby d5_28) rfl rfl (l' := #[.val (.ref o0_5), .val (.int x1_5), .val (.ref o2_5), .val (.int (((r1_w_bytes_o0_5 &&& (255 : Int32)).toInt64).toInt32)), .val (.ref b3_1_9)]) rfl k) ?_
  show own_Ends p.tables e below s _ _ _ (T9.setTop (mkF m 30 #[.val (.ref o0_5), .val (.int x1_5), .val (.ref o2_5), .val (.int (((r1_w_bytes_o0_5 &&& (255 : Int32)).toInt64).toInt32)), .val (.ref b3_1_9)] []))
  refine own_step (fun t k => XS.aloadN X9.here hx rfl (hb hby d5_30) rfl rfl k) ?_
  show own_Ends p.tables e below s _ _ _ (T9.setTop (mkF m 31 #[.val (.ref o0_5), .val (.int x1_5), .val (.ref o2_5), .val (.int (((r1_w_bytes_o0_5 &&& (255 : Int32)).toInt64).toInt32)), .val (.ref b3_1_9)] [(.ref o0_5)]))
  refine own_step (fun t k => XS.dup X9.here hx rfl (hb hby d5_31) rfl rfl k) ?_
  show own_Ends p.tables e below s _ _ _ (T9.setTop (mkF m 32 #[.val (.ref o0_5), .val (.int x1_5), .val (.ref o2_5), .val (.int (((r1_w_bytes_o0_5 &&& (255 : Int32)).toInt64).toInt32)), .val (.ref b3_1_9)] [(.ref o0_5), (.ref o0_5)]))
  have F12 : Fld Z T9.heap o0_5 "com/example/proofwright/proofwright/cryptoconditions/DerReader" "position" "I" (.int (2 : Int32)) := (p1_0.keep K9q nin0)
  obtain ⟨T13, X13, e13, st13⟩ := getF X9 hx hZ hown (host := "") (Or.inl (hw _ (List.mem_of_getElem? (i := 15) rfl))) Via.refl rfl F12 (g := (mkF m 32 #[.val (.ref o0_5), .val (.int x1_5), .val (.ref o2_5), .val (.int (((r1_w_bytes_o0_5 &&& (255 : Int32)).toInt64).toInt32)), .val (.ref b3_1_9)] [(.ref o0_5), (.ref o0_5)])) rfl rfl (hb hby d5_32)
  refine own_step (fun t k => st13 _ k) ?_
  show own_Ends p.tables e below s _ _ _ (T13.setTop (mkF m 35 #[.val (.ref o0_5), .val (.int x1_5), .val (.ref o2_5), .val (.int (((r1_w_bytes_o0_5 &&& (255 : Int32)).toInt64).toInt32)), .val (.ref b3_1_9)] [(.int (2 : Int32)), (.ref o0_5)]))
  refine own_step (fun t k => XS.iloadN X13.here hx rfl (hb hby d5_35) rfl k) ?_
  show own_Ends p.tables e below s _ _ _ (T13.setTop (mkF m 36 #[.val (.ref o0_5), .val (.int x1_5), .val (.ref o2_5), .val (.int (((r1_w_bytes_o0_5 &&& (255 : Int32)).toInt64).toInt32)), .val (.ref b3_1_9)] [(.int (((r1_w_bytes_o0_5 &&& (255 : Int32)).toInt64).toInt32)), (.int (2 : Int32)), (.ref o0_5)]))
  refine own_step (fun t k => XS.iadd X13.here hx rfl (hb hby d5_36) rfl k) ?_
  show own_Ends p.tables e below s _ _ _ (T13.setTop (mkF m 37 #[.val (.ref o0_5), .val (.int x1_5), .val (.ref o2_5), .val (.int (((r1_w_bytes_o0_5 &&& (255 : Int32)).toInt64).toInt32)), .val (.ref b3_1_9)] [(.int ((2 : Int32) + (((r1_w_bytes_o0_5 &&& (255 : Int32)).toInt64).toInt32))), (.ref o0_5)]))
  have F14 : Exa Z T9.heap o0_5 "com/example/proofwright/proofwright/cryptoconditions/DerReader" := (p1_2.keep K9q)
  obtain ⟨T15, h15, X15, e15, W15, st15⟩ := putF X13 hx hZ hown (host := "") (Or.inl (hw _ (List.mem_of_getElem? (i := 15) rfl))) Via.refl e13 F12 F14 (Or.inl (hw _ (List.mem_of_getElem? (i := 16) rfl))) (hw _ (List.mem_of_getElem? (i := 1) rfl)) (ty := .int) (by decide) rfl rfl (g := (mkF m 37 #[.val (.ref o0_5), .val (.int x1_5), .val (.ref o2_5), .val (.int (((r1_w_bytes_o0_5 &&& (255 : Int32)).toInt64).toInt32)), .val (.ref b3_1_9)] [(.int ((2 : Int32) + (((r1_w_bytes_o0_5 &&& (255 : Int32)).toInt64).toInt32))), (.ref o0_5)])) rfl rfl (hb hby d5_37)
  refine own_step (fun t k => st15 _ k) ?_
  have F16 : Fld Z h15 o0_5 "com/example/proofwright/proofwright/cryptoconditions/DerReader" "position" "I" (.int ((2 : Int32) + (((r1_w_bytes_o0_5 &&& (255 : Int32)).toInt64).toInt32))) := F12.same W15
  have K17 : Keep h0 h15 [o0_5] := K11.wr W15 (Or.inl (List.mem_of_getElem? (i := 0) rfl))
  have N18 := Fr.snoc X15 N10 g_o0_5
  show own_Ends p.tables e below s _ _ _ (T15.setTop (mkF m 40 #[.val (.ref o0_5), .val (.int x1_5), .val (.ref o2_5), .val (.int (((r1_w_bytes_o0_5 &&& (255 : Int32)).toInt64).toInt32)), .val (.ref b3_1_9)] []))
  refine own_step (fun t k => XS.aload X15.here hx rfl (hb hby d5_40) rfl rfl k) ?_
  show own_Ends p.tables e below s _ _ _ (T15.setTop (mkF m 42 #[.val (.ref o0_5), .val (.int x1_5), .val (.ref o2_5), .val (.int (((r1_w_bytes_o0_5 &&& (255 : Int32)).toInt64).toInt32)), .val (.ref b3_1_9)] [(.ref b3_1_9)]))
  have F19 : Fld Z h15 o0_5 "com/example/proofwright/proofwright/cryptoconditions/DerReader" "end" "I" (.int w_end_o0_5) := ((p1_1.keep K9q nin0).other W15 (Or.inr (slot_ne (Or.inr (hw _ (List.mem_of_getElem? (i := 18) rfl))) (Or.inl (hw _ (List.mem_of_getElem? (i := 16) rfl))) (by decide) (t := .int) (t' := .int) (by decide) (by decide))))
  have F20 : Exa Z h15 o0_5 "com/example/proofwright/proofwright/cryptoconditions/DerReader" := (F14.wr W15)
  have F21 : Fld Z h15 o0_5 "com/example/proofwright/proofwright/cryptoconditions/DerReader" "bytes" "[B" (.ref w_bytes_o0_5) := ((p1_3.keep K9q nin0).other W15 (Or.inr (slot_ne (Or.inr (hw _ (List.mem_of_getElem? (i := 14) rfl))) (Or.inl (hw _ (List.mem_of_getElem? (i := 16) rfl))) (by decide) (t := (.array .byte)) (t' := .int) (by decide) (by decide))))
  have F22 : Arv Z h15 b3_1_9 k3_1_9 .byte (((2 : Int32) + (((r1_w_bytes_o0_5 &&& (255 : Int32)).toInt64).toInt32)) - (2 : Int32)) us8_1_9 (.int (0 : Int32)) := (p9_1.other W15 (Ne.symm ne_o0_5_b3_1_9))
  exact own_retR X15 hx Bd.returns rfl rfl rfl (hb hby d5_42) hnl (by rw [e15]; exact ⟨b3_1_9, k3_1_9, us8_1_9, rfl, N18, K17, sz_b3_1_9, F16, F19, F20, F21, F22⟩) (by decide) (by decide)
theorem d11_0 : decode prog_24_method_5_code 0 = .ok (.aload_n 0, 1) := by decide +kernel
theorem d11_1 : decode prog_24_method_5_code 1 = .ok (.sipush 160, 3) := by decide +kernel
theorem d11_4 : decode prog_24_method_5_code 4 = .ok (.iload_n 1, 1) := by decide +kernel
theorem d11_5 : decode prog_24_method_5_code 5 = .ok (.ior, 1) := by decide +kernel
theorem d11_6 : decode prog_24_method_5_code 6 = .ok (.aload_n 2, 1) := by decide +kernel
theorem d11_7 : decode prog_24_method_5_code 7 = .ok (.invokevirtual 38, 3) := by decide +kernel
theorem d11_10 : decode prog_24_method_5_code 10 = .ok (.istore_n 3, 1) := by decide +kernel
theorem d11_11 : decode prog_24_method_5_code 11 = .ok (.new 2, 3) := by decide +kernel
theorem d11_14 : decode prog_24_method_5_code 14 = .ok (.dup, 1) := by decide +kernel
theorem d11_15 : decode prog_24_method_5_code 15 = .ok (.aload_n 0, 1) := by decide +kernel
theorem d11_16 : decode prog_24_method_5_code 16 = .ok (.getfield 12, 3) := by decide +kernel
theorem d11_19 : decode prog_24_method_5_code 19 = .ok (.aload_n 0, 1) := by decide +kernel
theorem d11_20 : decode prog_24_method_5_code 20 = .ok (.getfield 16, 3) := by decide +kernel
theorem d11_23 : decode prog_24_method_5_code 23 = .ok (.aload_n 0, 1) := by decide +kernel
theorem d11_24 : decode prog_24_method_5_code 24 = .ok (.getfield 16, 3) := by decide +kernel
theorem d11_27 : decode prog_24_method_5_code 27 = .ok (.iload_n 3, 1) := by decide +kernel
theorem d11_28 : decode prog_24_method_5_code 28 = .ok (.iadd, 1) := by decide +kernel
theorem d11_29 : decode prog_24_method_5_code 29 = .ok (.invokespecial 1, 3) := by decide +kernel
theorem d11_32 : decode prog_24_method_5_code 32 = .ok (.astore 4, 2) := by decide +kernel
theorem d11_34 : decode prog_24_method_5_code 34 = .ok (.aload_n 0, 1) := by decide +kernel
theorem d11_35 : decode prog_24_method_5_code 35 = .ok (.dup, 1) := by decide +kernel
theorem d11_36 : decode prog_24_method_5_code 36 = .ok (.getfield 16, 3) := by decide +kernel
theorem d11_39 : decode prog_24_method_5_code 39 = .ok (.iload_n 3, 1) := by decide +kernel
theorem d11_40 : decode prog_24_method_5_code 40 = .ok (.iadd, 1) := by decide +kernel
theorem d11_41 : decode prog_24_method_5_code 41 = .ok (.putfield 16, 3) := by decide +kernel
theorem d11_44 : decode prog_24_method_5_code 44 = .ok (.aload 4, 2) := by decide +kernel
theorem d11_46 : decode prog_24_method_5_code 46 = .ok (.areturn, 1) := by decide +kernel
theorem ef_11 (m : MethodId) (o0_11 : Addr) (x1_11 : Int32) (o2_11 : Addr) : entryFrame m #[(.ref o0_11), (.int x1_11), (.ref o2_11)] 5 = mkF m 0 #[.val (.ref o0_11), .val (.int x1_11), .val (.ref o2_11), .unset, .unset] [] := by first | (simp [entryFrame, mkF, argsToLocals, Value.category]; done) | rfl
def Q11 (Z : State) (o0_11 : Addr) (x1_11 : Int32) (o2_11 : Addr) (w_end_o0_11 : Int32) (w_bytes_o0_11 : Addr) (k_w_bytes_o0_11 : ClassId) (n_w_bytes_o0_11 : Int32) (vs_w_bytes_o0_11 : List Value) (dv_w_bytes_o0_11 : Value) (r0_w_bytes_o0_11 : Int32) (r1_w_bytes_o0_11 : Int32) (h0 : Heap) (n0 : Nat) (v : Option Value) (h : Heap) (L : List Loc) : Prop := ∃ (b6 : Addr), v = some (.ref b6) ∧ Fr n0 L ∧ Keep h0 h [o0_11] ∧ h0.size ≤ b6 ∧ Fld Z h o0_11 "com/example/proofwright/proofwright/cryptoconditions/DerReader" "position" "I" (.int ((2 : Int32) + (((r1_w_bytes_o0_11 &&& (255 : Int32)).toInt64).toInt32))) ∧ Fld Z h o0_11 "com/example/proofwright/proofwright/cryptoconditions/DerReader" "end" "I" (.int w_end_o0_11) ∧ Exa Z h o0_11 "com/example/proofwright/proofwright/cryptoconditions/DerReader" ∧ Fld Z h o0_11 "com/example/proofwright/proofwright/cryptoconditions/DerReader" "bytes" "[B" (.ref w_bytes_o0_11) ∧ Exa Z h b6 "com/example/proofwright/proofwright/cryptoconditions/DerReader" ∧ Fld Z h b6 "com/example/proofwright/proofwright/cryptoconditions/DerReader" "bytes" "[B" (.ref w_bytes_o0_11) ∧ Fld Z h b6 "com/example/proofwright/proofwright/cryptoconditions/DerReader" "position" "I" (.int (2 : Int32)) ∧ Fld Z h b6 "com/example/proofwright/proofwright/cryptoconditions/DerReader" "end" "I" (.int ((2 : Int32) + (((r1_w_bytes_o0_11 &&& (255 : Int32)).toInt64).toInt32)))
set_option maxRecDepth 65536 in
set_option maxHeartbeats 40000000 in
theorem rm11 (l : Launch) (Z : State) (a0 : Array Value) (hw : ∀ d ∈ tables_1, d.before a0 Z = true) (ws : List Jvm.Cond) (o0_11 : Addr) (x1_11 : Int32) (o2_11 : Addr) (w_end_o0_11 : Int32) (w_bytes_o0_11 : Addr) (k_w_bytes_o0_11 : ClassId) (n_w_bytes_o0_11 : Int32) (vs_w_bytes_o0_11 : List Value) (dv_w_bytes_o0_11 : Value) (r0_w_bytes_o0_11 : Int32) (r1_w_bytes_o0_11 : Int32) (h0 : Heap) (n0 : Nat) (O0 : Old Z n0 h0) (F_position_o0_11 : Fld Z h0 o0_11 "com/example/proofwright/proofwright/cryptoconditions/DerReader" "position" "I" (.int (0 : Int32))) (F_end_o0_11 : Fld Z h0 o0_11 "com/example/proofwright/proofwright/cryptoconditions/DerReader" "end" "I" (.int w_end_o0_11)) (E_o0_11 : Exa Z h0 o0_11 "com/example/proofwright/proofwright/cryptoconditions/DerReader") (F_bytes_o0_11 : Fld Z h0 o0_11 "com/example/proofwright/proofwright/cryptoconditions/DerReader" "bytes" "[B" (.ref w_bytes_o0_11)) (V_w_bytes_o0_11 : Arv Z h0 w_bytes_o0_11 k_w_bytes_o0_11 .byte n_w_bytes_o0_11 vs_w_bytes_o0_11 dv_w_bytes_o0_11) (hin0_w_bytes_o0_11 : ¬ (0 : Int32) < 0 ∧ (0 : Int32) < n_w_bytes_o0_11) (hat0_w_bytes_o0_11 : vs_w_bytes_o0_11.getD 0 dv_w_bytes_o0_11 = (.int r0_w_bytes_o0_11)) (g_o0_11 : n0 ≤ o0_11) (ne_w_bytes_o0_11_o0_11 : w_bytes_o0_11 ≠ o0_11) (hin1_w_bytes_o0_11 : ¬ (1 : Int32) < 0 ∧ (1 : Int32) < n_w_bytes_o0_11) (hat1_w_bytes_o0_11 : vs_w_bytes_o0_11.getD 1 dv_w_bytes_o0_11 = (.int r1_w_bytes_o0_11)) (h1 : ¬ (own_r4 (0 : Int32) w_end_o0_11) = (0 : Int32)) (h2 : ¬ (own_r4 (1 : Int32) w_end_o0_11) = (0 : Int32)) (h3 : (r0_w_bytes_o0_11 &&& (255 : Int32)) = ((160 : Int32) ||| x1_11)) (h4 : ¬ (r1_w_bytes_o0_11 &&& (255 : Int32)) = (128 : Int32)) (h5 : (r1_w_bytes_o0_11 &&& (255 : Int32)) < (128 : Int32)) (h6 : ¬ (0 : Int32) < (lcmpW ((r1_w_bytes_o0_11 &&& (255 : Int32)).toInt64) ((w_end_o0_11 - (2 : Int32)).toInt64))) :
    MetFree l (⟨"com/example/proofwright/proofwright/cryptoconditions/DerReader", "constructed", "(ILjava/lang/String;)Lcom/example/proofwright/proofwright/cryptoconditions/DerReader;"⟩ : MethodName) (head1 (Jvm.Cond.code (⟨"com/example/proofwright/proofwright/cryptoconditions/DerReader", "constructed", "(ILjava/lang/String;)Lcom/example/proofwright/proofwright/cryptoconditions/DerReader;"⟩ : MethodName) prog_24_method_5_code 5 (some (.object "com/example/proofwright/proofwright/cryptoconditions/DerReader")) :: ws) ({ frames := 2, cells := 1, slots := 3, locals := 30 } : Room)) (fun a U => a = #[(.ref o0_11), (.int x1_11), (.ref o2_11)] ∧ Z.Warmed39 U.vm ∧ U.heap = h0) (fun _ _ _ _ _ => True) (fun _ U o U' => ∃ v L, o = .returned v ∧ Q11 Z o0_11 x1_11 o2_11 w_end_o0_11 w_bytes_o0_11 k_w_bytes_o0_11 n_w_bytes_o0_11 vs_w_bytes_o0_11 dv_w_bytes_o0_11 r0_w_bytes_o0_11 r1_w_bytes_o0_11 h0 n0 v U'.heap L ∧ FrameEnd U o U' L ({ frames := 2, cells := 1, slots := 3, locals := 30 } : Room).cells ({ frames := 2, cells := 1, slots := 3, locals := 30 } : Room).slots) := by
  refine MetFree.of_bodySF (plainFor_of_name pn_0) hisR ?_
  intro p e s m args below meth c s₁ Bd hml0 hP hK
  obtain ⟨rfl, hZ, hh⟩ := hP
  have hx := Bd.exec
  have hby := Bd.bytes
  have hnl := BodyLoose.notSynchronized Bd
  have hml : c.maxLocals = 5 := hml0
  have hown : s.vm.findClass "com/example/proofwright/proofwright/cryptoconditions/DerReader" = some m.cls := findClass_of_methodNamed Bd.named
  have hnm := (name_of_methodNamed Bd.named Bd.method).1
  have X0 : Stand p l e ({ frames := 2, cells := 1, slots := 3, locals := 30 } : Room) s m #[(.ref o0_11), (.int x1_11), (.ref o2_11)] below meth c s₁ [] 0 0 := Stand.of_body Bd
  have e0 : s₁.heap = h0 := by rw [← hh, Bd.state]; rfl
  have N0 := Fr.nil n0
  show own_Ends p.tables e below s (Q11 Z o0_11 x1_11 o2_11 w_end_o0_11 w_bytes_o0_11 k_w_bytes_o0_11 n_w_bytes_o0_11 vs_w_bytes_o0_11 dv_w_bytes_o0_11 r0_w_bytes_o0_11 r1_w_bytes_o0_11 h0 n0) 1 3 (s₁.setTop (entryFrame m #[(.ref o0_11), (.int x1_11), (.ref o2_11)] 5))
  rw [ef_11 m o0_11 x1_11 o2_11]
  show own_Ends p.tables e below s _ _ _ (s₁.setTop (mkF m 0 #[.val (.ref o0_11), .val (.int x1_11), .val (.ref o2_11), .unset, .unset] []))
  refine own_step (fun t k => XS.aloadN X0.here hx rfl (hb hby d11_0) rfl rfl k) ?_
  show own_Ends p.tables e below s _ _ _ (s₁.setTop (mkF m 1 #[.val (.ref o0_11), .val (.int x1_11), .val (.ref o2_11), .unset, .unset] [(.ref o0_11)]))
  refine own_step (fun t k => XS.sipush X0.here hx rfl (hb hby d11_1) k) ?_
  show own_Ends p.tables e below s _ _ _ (s₁.setTop (mkF m 4 #[.val (.ref o0_11), .val (.int x1_11), .val (.ref o2_11), .unset, .unset] [(.int (160 : Int32)), (.ref o0_11)]))
  refine own_step (fun t k => XS.iloadN X0.here hx rfl (hb hby d11_4) rfl k) ?_
  show own_Ends p.tables e below s _ _ _ (s₁.setTop (mkF m 5 #[.val (.ref o0_11), .val (.int x1_11), .val (.ref o2_11), .unset, .unset] [(.int x1_11), (.int (160 : Int32)), (.ref o0_11)]))
  refine own_step (fun t k => XS.ior X0.here hx rfl (hb hby d11_5) rfl k) ?_
  show own_Ends p.tables e below s _ _ _ (s₁.setTop (mkF m 6 #[.val (.ref o0_11), .val (.int x1_11), .val (.ref o2_11), .unset, .unset] [(.int ((160 : Int32) ||| x1_11)), (.ref o0_11)]))
  refine own_step (fun t k => XS.aloadN X0.here hx rfl (hb hby d11_6) rfl rfl k) ?_
  show own_Ends p.tables e below s _ _ _ (s₁.setTop (mkF m 7 #[.val (.ref o0_11), .val (.int x1_11), .val (.ref o2_11), .unset, .unset] [(.ref o2_11), (.int ((160 : Int32) ||| x1_11)), (.ref o0_11)]))
  obtain ⟨cq1, q1, q1'⟩ := E_o0_11.cell
  obtain ⟨_, _, ⟨T1, L1, k1, n1⟩, -, X1, ⟨Lc1, hQ1, l1, y1, z1⟩, st1⟩ := X0.privateBack hx (y := (⟨"com/example/proofwright/proofwright/cryptoconditions/DerReader", "readHeader", "(ILjava/lang/String;)I"⟩ : MethodName)) hown (mvT hZ (hw _ (List.mem_of_getElem? (i := 36) rfl))) (mvT hZ (hw _ (List.mem_of_getElem? (i := 37) rfl))) (own_selPriv hZ (hw _ (List.mem_of_getElem? (i := 1) rfl)) (hw _ (List.mem_of_getElem? (i := 38) rfl)) (hw _ (List.mem_of_getElem? (i := 37) rfl)) (by decide)) (Cond.privateMethod_at (mvP hZ (hw _ (List.mem_of_getElem? (i := 38) rfl)) (args := #[]))) (mvT hZ (hw _ (List.mem_of_getElem? (i := 39) rfl))) (by decide) (backOf (W := 0) (rm6 l Z a0 hw [] o0_11 ((160 : Int32) ||| x1_11) o2_11 w_end_o0_11 w_bytes_o0_11 k_w_bytes_o0_11 n_w_bytes_o0_11 vs_w_bytes_o0_11 dv_w_bytes_o0_11 r0_w_bytes_o0_11 r1_w_bytes_o0_11 h0 n0 O0 h1 h2 h3 h4 h5 h6 F_position_o0_11 F_end_o0_11 E_o0_11 F_bytes_o0_11 V_w_bytes_o0_11 hin0_w_bytes_o0_11 hat0_w_bytes_o0_11 g_o0_11 ne_w_bytes_o0_11_o0_11 hin1_w_bytes_o0_11 hat1_w_bytes_o0_11) hZ (hw _ (List.mem_of_getElem? (i := 39) rfl)) (hw _ (List.mem_of_getElem? (i := 2) rfl)) (by decide) (by decide)) (g := (mkF m 7 #[.val (.ref o0_11), .val (.int x1_11), .val (.ref o2_11), .unset, .unset] [(.ref o2_11), (.int ((160 : Int32) ||| x1_11)), (.ref o0_11)])) rfl (by rw [hml]; rfl) (Steps.refl _) (a := o0_11) (by rw [e0]; exact q1) q1' (argsL := [(.int ((160 : Int32) ||| x1_11)), (.ref o2_11)]) (rest := []) (lenOf pd_5 rfl) rfl (by show 2 * 0 + _ ≤ _; exact Nat.le_of_eq rfl) (hb hby d11_7) (fun _ _ => ⟨rfl, e0, (by decide : 0 + 0 ≤ _), (by decide : 0 + 0 ≤ _)⟩)
  dsimp only [Pt.U, Pt.locs, Pt.cells, Pt.slots] at X1 l1 y1 z1 st1 hQ1
  subst y1 z1
  obtain ⟨rfl, N1q, K1q, p1_0, p1_1, p1_2, p1_3⟩ := hQ1
  refine own_step (fun t k => st1.trans k) ?_
  have N2 : Fr n0 L1 := by rw [l1]; exact Fr.app N0 N1q
  have K3 : Keep h0 T1.heap [o0_11] := (Keep.refl h0 [o0_11]).trans K1q (allS (Or.inl (List.mem_of_getElem? (i := 0) rfl)) all0)
  show own_Ends p.tables e below s _ _ _ (T1.setTop (mkF m 10 #[.val (.ref o0_11), .val (.int x1_11), .val (.ref o2_11), .unset, .unset] [(.int (((r1_w_bytes_o0_11 &&& (255 : Int32)).toInt64).toInt32))]))
  refine own_step (fun t k => XS.istoreN X1.here hx rfl (hb hby d11_10) rfl (l' := #[.val (.ref o0_11), .val (.int x1_11), .val (.ref o2_11), .val (.int (((r1_w_bytes_o0_11 &&& (255 : Int32)).toInt64).toInt32)), .unset]) rfl k) ?_
  show own_Ends p.tables e below s _ _ _ (T1.setTop (mkF m 11 #[.val (.ref o0_11), .val (.int x1_11), .val (.ref o2_11), .val (.int (((r1_w_bytes_o0_11 &&& (255 : Int32)).toInt64).toInt32)), .unset] []))
  have O4 : Old Z n0 T1.heap := (O0.keep K1q (allS g_o0_11 all0))
  have F5 : Arv Z T1.heap w_bytes_o0_11 k_w_bytes_o0_11 .byte n_w_bytes_o0_11 vs_w_bytes_o0_11 dv_w_bytes_o0_11 := (V_w_bytes_o0_11.keep K1q (ninS ne_w_bytes_o0_11_o0_11 nin0))
  obtain ⟨T6, h6, X6, e6, E6, A6, D6, -, st6⟩ := newO X1 hx hZ hown (hw _ (List.mem_of_getElem? (i := 64) rfl)) (hw _ (List.mem_of_getElem? (i := 1) rfl)) (hw _ (List.mem_of_getElem? (i := 2) rfl)) rfl (g := (mkF m 11 #[.val (.ref o0_11), .val (.int x1_11), .val (.ref o2_11), .val (.int (((r1_w_bytes_o0_11 &&& (255 : Int32)).toInt64).toInt32)), .unset] [])) rfl (hb hby d11_11) (by decide) (by decide)
  obtain ⟨b6, g6⟩ : ∃ z, z = T1.heap.size := ⟨_, rfl⟩
  rw [← g6] at A6 D6 st6
  have g_b6 : n0 ≤ b6 := Nat.le_trans (Nat.le_trans (Nat.le_of_eq O4.1.symm) O4.2.1) (Nat.le_of_eq g6.symm)
  have sz_b6 : h0.size ≤ b6 := Nat.le_trans K3.1 (Nat.le_of_eq g6.symm)
  have ne_o0_11_b6 : o0_11 ≠ b6 := Nat.ne_of_lt (Nat.lt_of_lt_of_le p1_0.lt (Nat.le_of_eq g6.symm))
  have ne_w_bytes_o0_11_b6 : w_bytes_o0_11 ≠ b6 := Nat.ne_of_lt (Nat.lt_of_lt_of_le F5.lt (Nat.le_of_eq g6.symm))
  have F6_bytes : Fld Z h6 b6 "com/example/proofwright/proofwright/cryptoconditions/DerReader" "bytes" "[B" .null := D6 (Or.inr (hw _ (List.mem_of_getElem? (i := 14) rfl))) (ty := (.array .byte)) (by decide)
  have F6_position : Fld Z h6 b6 "com/example/proofwright/proofwright/cryptoconditions/DerReader" "position" "I" (.int (0 : Int32)) := D6 (Or.inl (hw _ (List.mem_of_getElem? (i := 16) rfl))) (ty := .int) (by decide)
  have F6_end : Fld Z h6 b6 "com/example/proofwright/proofwright/cryptoconditions/DerReader" "end" "I" (.int (0 : Int32)) := D6 (Or.inr (hw _ (List.mem_of_getElem? (i := 18) rfl))) (ty := .int) (by decide)
  refine own_step (fun t k => st6 _ k) ?_
  have K7 : Keep h0 h6 [o0_11] := K3.ext E6
  show own_Ends p.tables e below s _ _ _ (T6.setTop (mkF m 14 #[.val (.ref o0_11), .val (.int x1_11), .val (.ref o2_11), .val (.int (((r1_w_bytes_o0_11 &&& (255 : Int32)).toInt64).toInt32)), .unset] [(.ref b6)]))
  refine own_step (fun t k => XS.dup X6.here hx rfl (hb hby d11_14) rfl rfl k) ?_
  show own_Ends p.tables e below s _ _ _ (T6.setTop (mkF m 15 #[.val (.ref o0_11), .val (.int x1_11), .val (.ref o2_11), .val (.int (((r1_w_bytes_o0_11 &&& (255 : Int32)).toInt64).toInt32)), .unset] [(.ref b6), (.ref b6)]))
  refine own_step (fun t k => XS.aloadN X6.here hx rfl (hb hby d11_15) rfl rfl k) ?_
  show own_Ends p.tables e below s _ _ _ (T6.setTop (mkF m 16 #[.val (.ref o0_11), .val (.int x1_11), .val (.ref o2_11), .val (.int (((r1_w_bytes_o0_11 &&& (255 : Int32)).toInt64).toInt32)), .unset] [(.ref o0_11), (.ref b6), (.ref b6)]))
  have F8 : Fld Z h6 o0_11 "com/example/proofwright/proofwright/cryptoconditions/DerReader" "bytes" "[B" (.ref w_bytes_o0_11) := (p1_3.ext E6)
  obtain ⟨T9, X9, e9, st9⟩ := getF X6 hx hZ hown (host := "") (Or.inl (hw _ (List.mem_of_getElem? (i := 13) rfl))) Via.refl e6 F8 (g := (mkF m 16 #[.val (.ref o0_11), .val (.int x1_11), .val (.ref o2_11), .val (.int (((r1_w_bytes_o0_11 &&& (255 : Int32)).toInt64).toInt32)), .unset] [(.ref o0_11), (.ref b6), (.ref b6)])) rfl rfl (hb hby d11_16)
  refine own_step (fun t k => st9 _ k) ?_
  show own_Ends p.tables e below s _ _ _ (T9.setTop (mkF m 19 #[.val (.ref o0_11), .val (.int x1_11), .val (.ref o2_11), .val (.int (((r1_w_bytes_o0_11 &&& (255 : Int32)).toInt64).toInt32)), .unset] [(.ref w_bytes_o0_11), (.ref b6), (.ref b6)]))
  refine own_step (fun t k => XS.aloadN X9.here hx rfl (hb hby d11_19) rfl rfl k) ?_
  show own_Ends p.tables e below s _ _ _ (T9.setTop (mkF m 20 #[.val (.ref o0_11), .val (.int x1_11), .val (.ref o2_11), .val (.int (((r1_w_bytes_o0_11 &&& (255 : Int32)).toInt64).toInt32)), .unset] [(.ref o0_11), (.ref w_bytes_o0_11), (.ref b6), (.ref b6)]))
  have F10 : Fld Z h6 o0_11 "com/example/proofwright/proofwright/cryptoconditions/DerReader" "position" "I" (.int (2 : Int32)) := (p1_0.ext E6)
  obtain ⟨T11, X11, e11, st11⟩ := getF X9 hx hZ hown (host := "") (Or.inl (hw _ (List.mem_of_getElem? (i := 15) rfl))) Via.refl e9 F10 (g := (mkF m 20 #[.val (.ref o0_11), .val (.int x1_11), .val (.ref o2_11), .val (.int (((r1_w_bytes_o0_11 &&& (255 : Int32)).toInt64).toInt32)), .unset] [(.ref o0_11), (.ref w_bytes_o0_11), (.ref b6), (.ref b6)])) rfl rfl (hb hby d11_20)
  refine own_step (fun t k => st11 _ k) ?_
  show own_Ends p.tables e below s _ _ _ (T11.setTop (mkF m 23 #[.val (.ref o0_11), .val (.int x1_11), .val (.ref o2_11), .val (.int (((r1_w_bytes_o0_11 &&& (255 : Int32)).toInt64).toInt32)), .unset] [(.int (2 : Int32)), (.ref w_bytes_o0_11), (.ref b6), (.ref b6)]))
  refine own_step (fun t k => XS.aloadN X11.here hx rfl (hb hby d11_23) rfl rfl k) ?_
  show own_Ends p.tables e below s _ _ _ (T11.setTop (mkF m 24 #[.val (.ref o0_11), .val (.int x1_11), .val (.ref o2_11), .val (.int (((r1_w_bytes_o0_11 &&& (255 : Int32)).toInt64).toInt32)), .unset] [(.ref o0_11), (.int (2 : Int32)), (.ref w_bytes_o0_11), (.ref b6), (.ref b6)]))
  obtain ⟨T12, X12, e12, st12⟩ := getF X11 hx hZ hown (host := "") (Or.inl (hw _ (List.mem_of_getElem? (i := 15) rfl))) Via.refl e11 F10 (g := (mkF m 24 #[.val (.ref o0_11), .val (.int x1_11), .val (.ref o2_11), .val (.int (((r1_w_bytes_o0_11 &&& (255 : Int32)).toInt64).toInt32)), .unset] [(.ref o0_11), (.int (2 : Int32)), (.ref w_bytes_o0_11), (.ref b6), (.ref b6)])) rfl rfl (hb hby d11_24)
  refine own_step (fun t k => st12 _ k) ?_
  show own_Ends p.tables e below s _ _ _ (T12.setTop (mkF m 27 #[.val (.ref o0_11), .val (.int x1_11), .val (.ref o2_11), .val (.int (((r1_w_bytes_o0_11 &&& (255 : Int32)).toInt64).toInt32)), .unset] [(.int (2 : Int32)), (.int (2 : Int32)), (.ref w_bytes_o0_11), (.ref b6), (.ref b6)]))
  refine own_step (fun t k => XS.iloadN X12.here hx rfl (hb hby d11_27) rfl k) ?_
  show own_Ends p.tables e below s _ _ _ (T12.setTop (mkF m 28 #[.val (.ref o0_11), .val (.int x1_11), .val (.ref o2_11), .val (.int (((r1_w_bytes_o0_11 &&& (255 : Int32)).toInt64).toInt32)), .unset] [(.int (((r1_w_bytes_o0_11 &&& (255 : Int32)).toInt64).toInt32)), (.int (2 : Int32)), (.int (2 : Int32)), (.ref w_bytes_o0_11), (.ref b6), (.ref b6)]))
  refine own_step (fun t k => XS.iadd X12.here hx rfl (hb hby d11_28) rfl k) ?_
  show own_Ends p.tables e below s _ _ _ (T12.setTop (mkF m 29 #[.val (.ref o0_11), .val (.int x1_11), .val (.ref o2_11), .val (.int (((r1_w_bytes_o0_11 &&& (255 : Int32)).toInt64).toInt32)), .unset] [(.int ((2 : Int32) + (((r1_w_bytes_o0_11 &&& (255 : Int32)).toInt64).toInt32))), (.int (2 : Int32)), (.ref w_bytes_o0_11), (.ref b6), (.ref b6)]))
  have O13 : Old Z n0 h6 := (O4.ext E6)
  obtain ⟨_, _, ⟨T14, L14, k14, n14⟩, -, X14, ⟨Lc14, hQ14, l14, y14, z14⟩, st14⟩ := X12.specialBack hx (y := (⟨"com/example/proofwright/proofwright/cryptoconditions/DerReader", "<init>", "([BII)V"⟩ : MethodName)) rfl hown (mvT hZ (hw _ (List.mem_of_getElem? (i := 7) rfl))) (mvT hZ (hw _ (List.mem_of_getElem? (i := 8) rfl))) (mvT hZ (hw _ (List.mem_of_getElem? (i := 9) rfl))) (by decide) (backOf (W := 1) (rm2 l Z a0 hw [] b6 w_bytes_o0_11 (2 : Int32) ((2 : Int32) + (((r1_w_bytes_o0_11 &&& (255 : Int32)).toInt64).toInt32)) .null (.int (0 : Int32)) (.int (0 : Int32)) h6 n0 O13 A6 F6_bytes g_b6 F6_position F6_end) hZ (hw _ (List.mem_of_getElem? (i := 9) rfl)) (hw _ (List.mem_of_getElem? (i := 2) rfl)) (by decide) (by decide)) (g := (mkF m 29 #[.val (.ref o0_11), .val (.int x1_11), .val (.ref o2_11), .val (.int (((r1_w_bytes_o0_11 &&& (255 : Int32)).toInt64).toInt32)), .unset] [(.int ((2 : Int32) + (((r1_w_bytes_o0_11 &&& (255 : Int32)).toInt64).toInt32))), (.int (2 : Int32)), (.ref w_bytes_o0_11), (.ref b6), (.ref b6)])) rfl (by rw [hml]; rfl) (Steps.refl _) (a := b6) (argsL := [(.ref w_bytes_o0_11), (.int (2 : Int32)), (.int ((2 : Int32) + (((r1_w_bytes_o0_11 &&& (255 : Int32)).toInt64).toInt32)))]) (rest := [(.ref b6)]) (lenOf pd_0 rfl) rfl (by show 2 * 0 + _ ≤ _; exact Nat.le_of_eq rfl) (hb hby d11_29) (fun _ _ => ⟨rfl, e12, (by decide : 1 + 0 ≤ _), (by decide : 3 + 0 ≤ _)⟩)
  dsimp only [Pt.U, Pt.locs, Pt.cells, Pt.slots] at X14 l14 y14 z14 st14 hQ14
  subst y14 z14
  obtain ⟨rfl, N14q, K14q, p14_0, p14_1, p14_2, p14_3⟩ := hQ14
  refine own_step (fun t k => st14.trans k) ?_
  have N15 : Fr n0 L14 := by rw [l14]; exact Fr.app N2 N14q
  have K16 : Keep h0 T14.heap [o0_11] := K7.trans K14q (allS (Or.inr sz_b6) all0)
  show own_Ends p.tables e below s _ _ _ (T14.setTop (mkF m 32 #[.val (.ref o0_11), .val (.int x1_11), .val (.ref o2_11), .val (.int (((r1_w_bytes_o0_11 &&& (255 : Int32)).toInt64).toInt32)), .unset] [(.ref b6)]))
  refine own_step (fun t k => XS.astore X14.here hx rfl (hb hby d11_32) rfl rfl (l' := #[.val (.ref o0_11), .val (.int x1_11), .val (.ref o2_11), .val (.int (((r1_w_bytes_o0_11 &&& (255 : Int32)).toInt64).toInt32)), .val (.ref b6)]) rfl k) ?_
  show own_Ends p.tables e below s _ _ _ (T14.setTop (mkF m 34 #[.val (.ref o0_11), .val (.int x1_11), .val (.ref o2_11), .val (.int (((r1_w_bytes_o0_11 &&& (255 : Int32)).toInt64).toInt32)), .val (.ref b6)] []))
  refine own_step (fun t k => XS.aloadN X14.here hx rfl (hb hby d11_34) rfl rfl k) ?_
  show own_Ends p.tables e below s _ _ _ (T14.setTop (mkF m 35 #[.val (.ref o0_11), .val (.int x1_11), .val (.ref o2_11), .val (.int (((r1_w_bytes_o0_11 &&& (255 : Int32)).toInt64).toInt32)), .val (.ref b6)] [(.ref o0_11)]))
  refine own_step (fun t k => XS.dup X14.here hx rfl (hb hby d11_35) rfl rfl k) ?_
  show own_Ends p.tables e below s _ _ _ (T14.setTop (mkF m 36 #[.val (.ref o0_11), .val (.int x1_11), .val (.ref o2_11), .val (.int (((r1_w_bytes_o0_11 &&& (255 : Int32)).toInt64).toInt32)), .val (.ref b6)] [(.ref o0_11), (.ref o0_11)]))
  have F17 : Fld Z T14.heap o0_11 "com/example/proofwright/proofwright/cryptoconditions/DerReader" "position" "I" (.int (2 : Int32)) := (F10.keep K14q (ninS ne_o0_11_b6 nin0))
  obtain ⟨T18, X18, e18, st18⟩ := getF X14 hx hZ hown (host := "") (Or.inl (hw _ (List.mem_of_getElem? (i := 15) rfl))) Via.refl rfl F17 (g := (mkF m 36 #[.val (.ref o0_11), .val (.int x1_11), .val (.ref o2_11), .val (.int (((r1_w_bytes_o0_11 &&& (255 : Int32)).toInt64).toInt32)), .val (.ref b6)] [(.ref o0_11), (.ref o0_11)])) rfl rfl (hb hby d11_36)
  refine own_step (fun t k => st18 _ k) ?_
  show own_Ends p.tables e below s _ _ _ (T18.setTop (mkF m 39 #[.val (.ref o0_11), .val (.int x1_11), .val (.ref o2_11), .val (.int (((r1_w_bytes_o0_11 &&& (255 : Int32)).toInt64).toInt32)), .val (.ref b6)] [(.int (2 : Int32)), (.ref o0_11)]))
  refine own_step (fun t k => XS.iloadN X18.here hx rfl (hb hby d11_39) rfl k) ?_
  show own_Ends p.tables e below s _ _ _ (T18.setTop (mkF m 40 #[.val (.ref o0_11), .val (.int x1_11), .val (.ref o2_11), .val (.int (((r1_w_bytes_o0_11 &&& (255 : Int32)).toInt64).toInt32)), .val (.ref b6)] [(.int (((r1_w_bytes_o0_11 &&& (255 : Int32)).toInt64).toInt32)), (.int (2 : Int32)), (.ref o0_11)]))
  refine own_step (fun t k => XS.iadd X18.here hx rfl (hb hby d11_40) rfl k) ?_
  show own_Ends p.tables e below s _ _ _ (T18.setTop (mkF m 41 #[.val (.ref o0_11), .val (.int x1_11), .val (.ref o2_11), .val (.int (((r1_w_bytes_o0_11 &&& (255 : Int32)).toInt64).toInt32)), .val (.ref b6)] [(.int ((2 : Int32) + (((r1_w_bytes_o0_11 &&& (255 : Int32)).toInt64).toInt32))), (.ref o0_11)]))
  have F19 : Exa Z T14.heap o0_11 "com/example/proofwright/proofwright/cryptoconditions/DerReader" := ((p1_2.ext E6).keep K14q)
  obtain ⟨T20, h20, X20, e20, W20, st20⟩ := putF X18 hx hZ hown (host := "") (Or.inl (hw _ (List.mem_of_getElem? (i := 15) rfl))) Via.refl e18 F17 F19 (Or.inl (hw _ (List.mem_of_getElem? (i := 16) rfl))) (hw _ (List.mem_of_getElem? (i := 1) rfl)) (ty := .int) (by decide) rfl rfl (g := (mkF m 41 #[.val (.ref o0_11), .val (.int x1_11), .val (.ref o2_11), .val (.int (((r1_w_bytes_o0_11 &&& (255 : Int32)).toInt64).toInt32)), .val (.ref b6)] [(.int ((2 : Int32) + (((r1_w_bytes_o0_11 &&& (255 : Int32)).toInt64).toInt32))), (.ref o0_11)])) rfl rfl (hb hby d11_41)
  refine own_step (fun t k => st20 _ k) ?_
  have F21 : Fld Z h20 o0_11 "com/example/proofwright/proofwright/cryptoconditions/DerReader" "position" "I" (.int ((2 : Int32) + (((r1_w_bytes_o0_11 &&& (255 : Int32)).toInt64).toInt32))) := F17.same W20
  have K22 : Keep h0 h20 [o0_11] := K16.wr W20 (Or.inl (List.mem_of_getElem? (i := 0) rfl))
  have N23 := Fr.snoc X20 N15 g_o0_11
  show own_Ends p.tables e below s _ _ _ (T20.setTop (mkF m 44 #[.val (.ref o0_11), .val (.int x1_11), .val (.ref o2_11), .val (.int (((r1_w_bytes_o0_11 &&& (255 : Int32)).toInt64).toInt32)), .val (.ref b6)] []))
  refine own_step (fun t k => XS.aload X20.here hx rfl (hb hby d11_44) rfl rfl k) ?_
  show own_Ends p.tables e below s _ _ _ (T20.setTop (mkF m 46 #[.val (.ref o0_11), .val (.int x1_11), .val (.ref o2_11), .val (.int (((r1_w_bytes_o0_11 &&& (255 : Int32)).toInt64).toInt32)), .val (.ref b6)] [(.ref b6)]))
  have F24 : Fld Z h20 o0_11 "com/example/proofwright/proofwright/cryptoconditions/DerReader" "end" "I" (.int w_end_o0_11) := (((p1_1.ext E6).keep K14q (ninS ne_o0_11_b6 nin0)).other W20 (Or.inr (slot_ne (Or.inr (hw _ (List.mem_of_getElem? (i := 18) rfl))) (Or.inl (hw _ (List.mem_of_getElem? (i := 16) rfl))) (by decide) (t := .int) (t' := .int) (by decide) (by decide))))
  have F25 : Exa Z h20 o0_11 "com/example/proofwright/proofwright/cryptoconditions/DerReader" := (F19.wr W20)
  have F26 : Fld Z h20 o0_11 "com/example/proofwright/proofwright/cryptoconditions/DerReader" "bytes" "[B" (.ref w_bytes_o0_11) := ((F8.keep K14q (ninS ne_o0_11_b6 nin0)).other W20 (Or.inr (slot_ne (Or.inr (hw _ (List.mem_of_getElem? (i := 14) rfl))) (Or.inl (hw _ (List.mem_of_getElem? (i := 16) rfl))) (by decide) (t := (.array .byte)) (t' := .int) (by decide) (by decide))))
  have F27 : Exa Z h20 b6 "com/example/proofwright/proofwright/cryptoconditions/DerReader" := (p14_0.wr W20)
  have F28 : Fld Z h20 b6 "com/example/proofwright/proofwright/cryptoconditions/DerReader" "bytes" "[B" (.ref w_bytes_o0_11) := (p14_1.other W20 (Or.inl (Ne.symm ne_o0_11_b6)))
  have F29 : Fld Z h20 b6 "com/example/proofwright/proofwright/cryptoconditions/DerReader" "position" "I" (.int (2 : Int32)) := (p14_2.other W20 (Or.inl (Ne.symm ne_o0_11_b6)))
  have F30 : Fld Z h20 b6 "com/example/proofwright/proofwright/cryptoconditions/DerReader" "end" "I" (.int ((2 : Int32) + (((r1_w_bytes_o0_11 &&& (255 : Int32)).toInt64).toInt32))) := (p14_3.other W20 (Or.inl (Ne.symm ne_o0_11_b6)))
  exact own_retR X20 hx Bd.returns rfl rfl rfl (hb hby d11_46) hnl (by rw [e20]; exact ⟨b6, rfl, N23, K22, sz_b6, F21, F24, F25, F26, F27, F28, F29, F30⟩) (by decide) (by decide)
theorem own_cases4 (v : Int32) (h : ¬ v < 0 ∧ v < 4) : v = 0 ∨ v = 1 ∨ v = 2 ∨ v = 3 := by
  obtain ⟨n, rfl⟩ := own_small v 4 (by decide) h.1 h.2
  revert n; decide
theorem own_m3 (a : Int32) : ¬ (a &&& 3) < 0 ∧ (a &&& 3) < 4 := by
  have h := c_and a 3 (by decide)
  have h7 : (3 : Int32).toInt = 3 := rfl
  constructor
  · rw [Int32.lt_iff_toInt_lt]; show ¬ _ < (0 : Int); omega
  · rw [Int32.lt_iff_toInt_lt]; show _ < (4 : Int); omega
theorem own_m3n (m : Int32) (h : ¬ m < 0 ∧ m < 4) : m.toNatClampNeg ≤ 3 := by
  rcases own_cases4 m h with rfl | rfl | rfl | rfl <;> decide
theorem own_m31 (a : Int32) : ∃ n : Fin 32, (a &&& 31) = Int32.ofNat n.1 := by
  have h := c_and a 31 (by decide)
  have h7 : (31 : Int32).toInt = 31 := rfl
  apply own_small _ 32 (by decide)
  · rw [Int32.lt_iff_toInt_lt]; show ¬ _ < (0 : Int); omega
  · rw [Int32.lt_iff_toInt_lt]; show _ < (32 : Int); omega
theorem own_tagA (n : Fin 32) : (nar .byte (((160 : Int32) ||| Int32.ofNat n.1).toInt8.toInt32) &&& (255 : Int32)) = ((160 : Int32) ||| Int32.ofNat n.1) := by revert n; decide +kernel
theorem own_tagB (n : Fin 32) : (nar .byte (((128 : Int32) ||| Int32.ofNat n.1).toInt8.toInt32) &&& (255 : Int32)) = ((128 : Int32) ||| Int32.ofNat n.1) := by revert n; decide +kernel
theorem own_tag160 (a nu : Int32) (h : a &&& 31 = nu) : (nar .byte (((160 : Int32) ||| nu).toInt8.toInt32) &&& (255 : Int32)) = ((160 : Int32) ||| nu) := by
  obtain ⟨n, e⟩ := own_m31 a; rw [← h, e]; exact own_tagA n
theorem own_tag128 (a nu : Int32) (h : a &&& 31 = nu) : (nar .byte (((128 : Int32) ||| nu).toInt8.toInt32) &&& (255 : Int32)) = ((128 : Int32) ||| nu) := by
  obtain ⟨n, e⟩ := own_m31 a; rw [← h, e]; exact own_tagB n
set_option maxHeartbeats 4000000 in
theorem own_B (ln ex nb : Int32) (hl : ¬ ln < 0 ∧ ln < 4) (he : ¬ ex < 0 ∧ ex < 4) (hnb : ((2 : Int32) + ln) + ex = nb) :
    (¬ nb < 0) ∧ (nb.toNatClampNeg ≤ 8) ∧ ((0 : Int32) < nb) ∧ ((1 : Int32) < nb) ∧ (¬ own_r4 (0 : Int32) nb = 0) ∧ (¬ own_r4 (1 : Int32) nb = 0) ∧ (¬ ((nar .byte (ln.toInt8.toInt32)) &&& (255 : Int32)) = (128 : Int32)) ∧ (((nar .byte (ln.toInt8.toInt32)) &&& (255 : Int32)) < (128 : Int32)) ∧ (¬ (0 : Int32) < (lcmpW (((nar .byte (ln.toInt8.toInt32)) &&& (255 : Int32)).toInt64) ((nb - (2 : Int32)).toInt64))) ∧ (¬ ((2 : Int32) + ((((nar .byte (ln.toInt8.toInt32)) &&& (255 : Int32)).toInt64).toInt32)) < (2 : Int32)) ∧ (¬ (((2 : Int32) + ((((nar .byte (ln.toInt8.toInt32)) &&& (255 : Int32)).toInt64).toInt32)) - (2 : Int32)) < 0) ∧ ((((2 : Int32) + ((((nar .byte (ln.toInt8.toInt32)) &&& (255 : Int32)).toInt64).toInt32)) - (2 : Int32)).toNatClampNeg ≤ 3) ∧ (¬ (own_r10 (nb - (2 : Int32)) (((2 : Int32) + ((((nar .byte (ln.toInt8.toInt32)) &&& (255 : Int32)).toInt64).toInt32)) - (2 : Int32))) < 0) ∧ ((2 : Int32).toNatClampNeg + ((own_r10 (nb - (2 : Int32)) (((2 : Int32) + ((((nar .byte (ln.toInt8.toInt32)) &&& (255 : Int32)).toInt64).toInt32)) - (2 : Int32)))).toNatClampNeg ≤ (nb).toNatClampNeg) ∧ ((0 : Int32).toNatClampNeg + ((own_r10 (nb - (2 : Int32)) (((2 : Int32) + ((((nar .byte (ln.toInt8.toInt32)) &&& (255 : Int32)).toInt64).toInt32)) - (2 : Int32)))).toNatClampNeg ≤ (((2 : Int32) + ((((nar .byte (ln.toInt8.toInt32)) &&& (255 : Int32)).toInt64).toInt32)) - (2 : Int32)).toNatClampNeg) ∧ ((0 : Int32).toNatClampNeg + ((own_r10 (nb - (2 : Int32)) (((2 : Int32) + ((((nar .byte (ln.toInt8.toInt32)) &&& (255 : Int32)).toInt64).toInt32)) - (2 : Int32)))).toNatClampNeg ≤ 3) ∧ (own_r4 (2 : Int32) ((2 : Int32) + ((((nar .byte (ln.toInt8.toInt32)) &&& (255 : Int32)).toInt64).toInt32)) = if (0 : Int32) < ln then 1 else 0) ∧ ((((2 : Int32) + ((((nar .byte (ln.toInt8.toInt32)) &&& (255 : Int32)).toInt64).toInt32)) - (2 : Int32)) = ln) ∧ (own_r4 ((2 : Int32) + ((((nar .byte (ln.toInt8.toInt32)) &&& (255 : Int32)).toInt64).toInt32)) nb = if (0 : Int32) < ex then 1 else 0) := by
  subst hnb
  rcases own_cases4 ln hl with rfl | rfl | rfl | rfl <;> rcases own_cases4 ex he with rfl | rfl | rfl | rfl <;> decide +kernel

theorem pd_6 : parseMethodDescriptor "([B)V" = some ⟨[(.array .byte)], none⟩ := by decide +kernel
theorem own_strAtoms : ∀ d ∈ Bundle.stringAtoms, d ∈ tables_1 := by
  intro d hd
  simp only [Bundle.stringAtoms, List.mem_cons, List.not_mem_nil, or_false] at hd
  rcases hd with rfl | rfl | rfl | rfl | rfl | rfl | rfl <;> first | exact List.mem_of_getElem? (i := 3) rfl | exact List.mem_of_getElem? (i := 25) rfl | exact List.mem_of_getElem? (i := 26) rfl | exact List.mem_of_getElem? (i := 27) rfl | exact List.mem_of_getElem? (i := 28) rfl | exact List.mem_of_getElem? (i := 29) rfl | exact List.mem_of_getElem? (i := 30) rfl | exact List.mem_of_getElem? (i := 31) rfl | exact List.mem_of_getElem? (i := 32) rfl | exact List.mem_of_getElem? (i := 33) rfl | exact List.mem_of_getElem? (i := 34) rfl | exact List.mem_of_getElem? (i := 35) rfl | exact List.mem_of_getElem? (i := 36) rfl | exact List.mem_of_getElem? (i := 37) rfl | exact List.mem_of_getElem? (i := 38) rfl | exact List.mem_of_getElem? (i := 39) rfl | exact List.mem_of_getElem? (i := 59) rfl | exact List.mem_of_getElem? (i := 60) rfl | exact List.mem_of_getElem? (i := 61) rfl | exact List.mem_of_getElem? (i := 62) rfl | exact List.mem_of_getElem? (i := 63) rfl
theorem pd_7 : parseMethodDescriptor "(ILjava/lang/String;)[B" = some ⟨[.int, (.object "java/lang/String")], some (.array .byte)⟩ := by decide +kernel
theorem pd_8 : parseMethodDescriptor "(ILjava/lang/String;)Lcom/example/proofwright/proofwright/cryptoconditions/DerReader;" = some ⟨[.int, (.object "java/lang/String")], some (.object "com/example/proofwright/proofwright/cryptoconditions/DerReader")⟩ := by decide +kernel
theorem pn_2 : plainName "com/example/proofwright/proofwright/cryptoconditions/DerReaderHasMorePinLaw" = true := by first | (simp [plainName, overriddenIn]; done) | decide +kernel
theorem ef_0 (m : MethodId) (x0_0 : Int32) (x1_0 : Int32) (x2_0 : Int32) : entryFrame m #[(.int x0_0), (.int x1_0), (.int x2_0)] maxLocals = mkF m 0 #[.val (.int x0_0), .val (.int x1_0), .val (.int x2_0), .unset, .unset, .unset, .unset, .unset, .unset, .unset, .unset, .unset, .unset, .unset] [] := by first | (simp [entryFrame, mkF, argsToLocals, Value.category, maxLocals]; done) | rfl
def Q0 (Z : State) (x0_0 : Int32) (x1_0 : Int32) (x2_0 : Int32) (h0 : Heap) (n0 : Nat) (v : Option Value) (h : Heap) (L : List Loc) : Prop := v = some (.int 1) ∧ Fr n0 L
set_option maxRecDepth 65536 in
set_option maxHeartbeats 40000000 in
theorem rm0 (l : Launch) (Z : State) (a0 : Array Value) (hw : ∀ d ∈ tables_1, d.before a0 Z = true) (ws : List Jvm.Cond) (x0_0 : Int32) (x1_0 : Int32) (x2_0 : Int32) (h0 : Heap) (n0 : Nat) (O0 : Old Z n0 h0) :
    MetFree l x (head1 (Jvm.Cond.code x code maxLocals ret :: ws) room_1) (fun a U => a = #[(.int x0_0), (.int x1_0), (.int x2_0)] ∧ Z.Warmed39 U.vm ∧ U.heap = h0) (fun _ _ _ _ _ => True) (fun _ U o U' => ∃ v L, o = .returned v ∧ Q0 Z x0_0 x1_0 x2_0 h0 n0 v U'.heap L ∧ ReturnedEndW U o U' L 7 28) := by
  refine MetFree.of_bodySF (plainFor_of_name pn_2) hisR ?_
  intro p e s m args below meth c s₁ Bd hml0 hP hK
  obtain ⟨rfl, hZ, hh⟩ := hP
  have hx := Bd.exec
  have hby := Bd.bytes
  have hnl := BodyLoose.notSynchronized Bd
  have hml : c.maxLocals = 14 := hml0
  have hown : s.vm.findClass "com/example/proofwright/proofwright/cryptoconditions/DerReaderHasMorePinLaw" = some m.cls := findClass_of_methodNamed Bd.named
  have hnm := (name_of_methodNamed Bd.named Bd.method).1
  have X0 : Stand p l e room_1 s m #[(.int x0_0), (.int x1_0), (.int x2_0)] below meth c s₁ [] 0 0 := Stand.of_body Bd
  have e0 : s₁.heap = h0 := by rw [← hh, Bd.state]; rfl
  have N0 := Fr.nil n0
  show own_EndsW p.tables e below s (Q0 Z x0_0 x1_0 x2_0 h0 n0) 7 28 (s₁.setTop (entryFrame m #[(.int x0_0), (.int x1_0), (.int x2_0)] maxLocals))
  rw [ef_0 m x0_0 x1_0 x2_0]
  show own_EndsW p.tables e below s _ _ _ (s₁.setTop (mkF m 0 #[.val (.int x0_0), .val (.int x1_0), .val (.int x2_0), .unset, .unset, .unset, .unset, .unset, .unset, .unset, .unset, .unset, .unset, .unset] []))
  refine own_stepW (fun t k => XS.iloadN X0.here hx rfl (hb hby at_0) rfl k) ?_
  show own_EndsW p.tables e below s _ _ _ (s₁.setTop (mkF m 1 #[.val (.int x0_0), .val (.int x1_0), .val (.int x2_0), .unset, .unset, .unset, .unset, .unset, .unset, .unset, .unset, .unset, .unset, .unset] [(.int x2_0)]))
  refine own_stepW (fun t k => XS.iconst X0.here hx rfl (hb hby at_1) k) ?_
  show own_EndsW p.tables e below s _ _ _ (s₁.setTop (mkF m 2 #[.val (.int x0_0), .val (.int x1_0), .val (.int x2_0), .unset, .unset, .unset, .unset, .unset, .unset, .unset, .unset, .unset, .unset, .unset] [(.int (3 : Int32)), (.int x2_0)]))
  refine own_stepW (fun t k => XS.iand X0.here hx rfl (hb hby at_2) rfl k) ?_
  show own_EndsW p.tables e below s _ _ _ (s₁.setTop (mkF m 3 #[.val (.int x0_0), .val (.int x1_0), .val (.int x2_0), .unset, .unset, .unset, .unset, .unset, .unset, .unset, .unset, .unset, .unset, .unset] [(.int (x2_0 &&& (3 : Int32)))]))
  generalize hm3 : (x2_0 &&& (3 : Int32)) = m3
  show own_EndsW p.tables e below s _ _ _ (s₁.setTop (mkF m 3 #[.val (.int x0_0), .val (.int x1_0), .val (.int x2_0), .unset, .unset, .unset, .unset, .unset, .unset, .unset, .unset, .unset, .unset, .unset] [(.int m3)]))
  refine own_stepW (fun t k => XS.istoreN X0.here hx rfl (hb hby at_3) rfl (l' := #[.val (.int x0_0), .val (.int x1_0), .val (.int x2_0), .val (.int m3), .unset, .unset, .unset, .unset, .unset, .unset, .unset, .unset, .unset, .unset]) rfl k) ?_
  show own_EndsW p.tables e below s _ _ _ (s₁.setTop (mkF m 4 #[.val (.int x0_0), .val (.int x1_0), .val (.int x2_0), .val (.int m3), .unset, .unset, .unset, .unset, .unset, .unset, .unset, .unset, .unset, .unset] []))
  obtain ⟨T1, h1, X1, e1, E1, A1, D1, -, st1⟩ := newO X0 hx hZ hown (hw _ (List.mem_of_getElem? (i := 0) rfl)) (hw _ (List.mem_of_getElem? (i := 1) rfl)) (hw _ (List.mem_of_getElem? (i := 2) rfl)) e0 (g := (mkF m 4 #[.val (.int x0_0), .val (.int x1_0), .val (.int x2_0), .val (.int m3), .unset, .unset, .unset, .unset, .unset, .unset, .unset, .unset, .unset, .unset] [])) rfl (hb hby at_4) (by decide) (by decide)
  obtain ⟨b1, g1⟩ : ∃ z, z = h0.size := ⟨_, rfl⟩
  rw [← g1] at A1 D1 st1
  have g_b1 : n0 ≤ b1 := Nat.le_trans (Nat.le_trans (Nat.le_of_eq O0.1.symm) O0.2.1) (Nat.le_of_eq g1.symm)
  have sz_b1 : h0.size ≤ b1 := Nat.le_trans (Keep.refl h0 []).1 (Nat.le_of_eq g1.symm)
  have F1_bytes : Fld Z h1 b1 "com/example/proofwright/proofwright/cryptoconditions/DerReader" "bytes" "[B" .null := D1 (Or.inr (hw _ (List.mem_of_getElem? (i := 14) rfl))) (ty := (.array .byte)) (by decide)
  have F1_position : Fld Z h1 b1 "com/example/proofwright/proofwright/cryptoconditions/DerReader" "position" "I" (.int (0 : Int32)) := D1 (Or.inl (hw _ (List.mem_of_getElem? (i := 16) rfl))) (ty := .int) (by decide)
  have F1_end : Fld Z h1 b1 "com/example/proofwright/proofwright/cryptoconditions/DerReader" "end" "I" (.int (0 : Int32)) := D1 (Or.inr (hw _ (List.mem_of_getElem? (i := 18) rfl))) (ty := .int) (by decide)
  refine own_stepW (fun t k => st1 _ k) ?_
  have K2 : Keep h0 h1 [] := (Keep.refl h0 []).ext E1
  show own_EndsW p.tables e below s _ _ _ (T1.setTop (mkF m 7 #[.val (.int x0_0), .val (.int x1_0), .val (.int x2_0), .val (.int m3), .unset, .unset, .unset, .unset, .unset, .unset, .unset, .unset, .unset, .unset] [(.ref b1)]))
  refine own_stepW (fun t k => XS.dup X1.here hx rfl (hb hby at_7) rfl rfl k) ?_
  show own_EndsW p.tables e below s _ _ _ (T1.setTop (mkF m 8 #[.val (.int x0_0), .val (.int x1_0), .val (.int x2_0), .val (.int m3), .unset, .unset, .unset, .unset, .unset, .unset, .unset, .unset, .unset, .unset] [(.ref b1), (.ref b1)]))
  refine own_stepW (fun t k => XS.iloadN X1.here hx rfl (hb hby at_8) rfl k) ?_
  show own_EndsW p.tables e below s _ _ _ (T1.setTop (mkF m 9 #[.val (.int x0_0), .val (.int x1_0), .val (.int x2_0), .val (.int m3), .unset, .unset, .unset, .unset, .unset, .unset, .unset, .unset, .unset, .unset] [(.int m3), (.ref b1), (.ref b1)]))
  have O3 : Old Z n0 h1 := (O0.ext E1)
  obtain ⟨T4, h4, k4, X4, e4, E4, A4, st4⟩ := newP X1 hx hZ (hw _ (List.mem_of_getElem? (i := 3) rfl)) e1 (g := (mkF m 9 #[.val (.int x0_0), .val (.int x1_0), .val (.int x2_0), .val (.int m3), .unset, .unset, .unset, .unset, .unset, .unset, .unset, .unset, .unset, .unset] [(.int m3), (.ref b1), (.ref b1)])) rfl (hb hby at_9) rfl (hm3 ▸ (own_m3 _).1) (cap := 3) (own_m3n _ (hm3 ▸ own_m3 _)) (by decide) (by decide) (by decide)
  obtain ⟨b4, g4⟩ : ∃ z, z = h1.size := ⟨_, rfl⟩
  rw [← g4] at A4 st4
  have g_b4 : n0 ≤ b4 := Nat.le_trans (Nat.le_trans (Nat.le_of_eq O3.1.symm) O3.2.1) (Nat.le_of_eq g4.symm)
  have sz_b4 : h0.size ≤ b4 := Nat.le_trans K2.1 (Nat.le_of_eq g4.symm)
  have ne_b1_b4 : b1 ≠ b4 := Nat.ne_of_lt (Nat.lt_of_lt_of_le A1.lt (Nat.le_of_eq g4.symm))
  have V4 : Arv Z h4 b4 k4 .byte m3 [] (.int (0 : Int32)) := Arv.new A4 (hm3 ▸ (own_m3 _).1)
  refine own_stepW (fun t k => st4 _ k) ?_
  have K5 : Keep h0 h4 [] := K2.ext E4
  show own_EndsW p.tables e below s _ _ _ (T4.setTop (mkF m 11 #[.val (.int x0_0), .val (.int x1_0), .val (.int x2_0), .val (.int m3), .unset, .unset, .unset, .unset, .unset, .unset, .unset, .unset, .unset, .unset] [(.ref b4), (.ref b1), (.ref b1)]))
  have F6 : Exa Z h4 b1 "com/example/proofwright/proofwright/cryptoconditions/DerReader" := (A1.ext E4)
  have F7 : Fld Z h4 b1 "com/example/proofwright/proofwright/cryptoconditions/DerReader" "bytes" "[B" .null := (F1_bytes.ext E4)
  have F8 : Fld Z h4 b1 "com/example/proofwright/proofwright/cryptoconditions/DerReader" "position" "I" (.int (0 : Int32)) := (F1_position.ext E4)
  have F9 : Fld Z h4 b1 "com/example/proofwright/proofwright/cryptoconditions/DerReader" "end" "I" (.int (0 : Int32)) := (F1_end.ext E4)
  have O10 : Old Z n0 h4 := (O3.ext E4)
  obtain ⟨_, _, ⟨T11, L11, k11, n11⟩, -, X11, ⟨Lc11, hQ11, l11, y11, z11⟩, st11⟩ := X4.specialBack hx (y := (⟨"com/example/proofwright/proofwright/cryptoconditions/DerReader", "<init>", "([B)V"⟩ : MethodName)) rfl hown (mvT hZ (hw _ (List.mem_of_getElem? (i := 4) rfl))) (mvT hZ (hw _ (List.mem_of_getElem? (i := 5) rfl))) (mvT hZ (hw _ (List.mem_of_getElem? (i := 6) rfl))) (by decide) (backOf (W := 1) (rm1 l Z a0 hw [] b1 b4 k4 m3 [] (.int (0 : Int32)) .null (.int (0 : Int32)) (.int (0 : Int32)) h4 n0 O10 V4 F6 F7 g_b1 F8 F9) hZ (hw _ (List.mem_of_getElem? (i := 6) rfl)) (hw _ (List.mem_of_getElem? (i := 2) rfl)) (by decide) (by decide)) (g := (mkF m 11 #[.val (.int x0_0), .val (.int x1_0), .val (.int x2_0), .val (.int m3), .unset, .unset, .unset, .unset, .unset, .unset, .unset, .unset, .unset, .unset] [(.ref b4), (.ref b1), (.ref b1)])) rfl (by rw [hml]; rfl) (Steps.refl _) (a := b1) (argsL := [(.ref b4)]) (rest := [(.ref b1)]) (lenOf pd_6 rfl) rfl (by show 2 * 0 + _ ≤ _; exact Nat.le_of_eq rfl) (hb hby at_11) (fun _ _ => ⟨rfl, e4, (by decide : 2 + 0 ≤ _), (by decide : 6 + 0 ≤ _)⟩)
  dsimp only [Pt.U, Pt.locs, Pt.cells, Pt.slots] at X11 l11 y11 z11 st11 hQ11
  subst y11 z11
  obtain ⟨rfl, N11q, K11q, p11_0, p11_1, p11_2, p11_3⟩ := hQ11
  refine own_stepW (fun t k => st11.trans k) ?_
  have N12 : Fr n0 L11 := by rw [l11]; exact Fr.app N0 N11q
  have K13 : Keep h0 T11.heap [] := K5.trans K11q (allS (Or.inr sz_b1) all0)
  show own_EndsW p.tables e below s _ _ _ (T11.setTop (mkF m 14 #[.val (.int x0_0), .val (.int x1_0), .val (.int x2_0), .val (.int m3), .unset, .unset, .unset, .unset, .unset, .unset, .unset, .unset, .unset, .unset] [(.ref b1)]))
  have O14 : Old Z n0 T11.heap := (O10.keep K11q (allS g_b1 all0))
  obtain ⟨cq15, kq15, q15a, q15b, q15c⟩ := isOf hZ rfl p11_0
  obtain ⟨_, _, ⟨T15, L15, k15, n15⟩, -, X15, ⟨Lc15, hQ15, l15, y15, z15⟩, st15⟩ := X11.virtualBack hx (y := (⟨"com/example/proofwright/proofwright/cryptoconditions/DerReader", "hasMore", "()Z"⟩ : MethodName)) (z := (⟨"com/example/proofwright/proofwright/cryptoconditions/DerReader", "hasMore", "()Z"⟩ : MethodName)) hown (mvT hZ (hw _ (List.mem_of_getElem? (i := 19) rfl))) (mvT hZ (hw _ (List.mem_of_getElem? (i := 20) rfl))) (notFace_of_selects (args := #[]) (mvT hZ (hw _ (List.mem_of_getElem? (i := 22) rfl)))) (mvT hZ (hw _ (List.mem_of_getElem? (i := 22) rfl))) (mvT hZ (hw _ (List.mem_of_getElem? (i := 21) rfl))) (by decide) (backOf (W := 0) (rm4 l Z a0 hw [] b1 (0 : Int32) m3 T11.heap n0 O14 p11_2 p11_3) hZ (hw _ (List.mem_of_getElem? (i := 23) rfl)) (hw _ (List.mem_of_getElem? (i := 2) rfl)) (by decide) (by decide)) q15a q15c (g := (mkF m 14 #[.val (.int x0_0), .val (.int x1_0), .val (.int x2_0), .val (.int m3), .unset, .unset, .unset, .unset, .unset, .unset, .unset, .unset, .unset, .unset] [(.ref b1)])) rfl (by rw [hml]; rfl) (Steps.refl _) (argsL := []) (rest := []) (lenOf pd_1 rfl) rfl (by show 2 * 0 + _ ≤ _; exact Nat.le_of_eq rfl) (hb hby at_14) (fun _ _ => ⟨rfl, rfl, (by decide : 2 + 0 ≤ _), (by decide : 6 + 0 ≤ _)⟩)
  dsimp only [Pt.U, Pt.locs, Pt.cells, Pt.slots] at X15 l15 y15 z15 st15 hQ15
  subst y15 z15
  obtain ⟨rfl, N15q, e15⟩ := hQ15
  refine own_stepW (fun t k => st15.trans k) ?_
  have N16 : Fr n0 L15 := by rw [l15]; exact Fr.app N12 N15q
  have J17 : own_EndsW p.tables e below s (Q0 Z x0_0 x1_0 x2_0 h0 n0) 7 28 (T15.setTop (mkF m 34 #[.val (.int x0_0), .val (.int x1_0), .val (.int x2_0), .val (.int m3), .unset, .unset, .unset, .unset, .unset, .unset, .unset, .unset, .unset, .unset] [(.int (1 : Int32))])) := by
    show own_EndsW p.tables e below s _ _ _ (T15.setTop (mkF m 34 #[.val (.int x0_0), .val (.int x1_0), .val (.int x2_0), .val (.int m3), .unset, .unset, .unset, .unset, .unset, .unset, .unset, .unset, .unset, .unset] [(.int (1 : Int32))]))
    refine own_stepW (fun t k => XS.istore X15.here hx rfl (hb hby at_34) rfl (l' := #[.val (.int x0_0), .val (.int x1_0), .val (.int x2_0), .val (.int m3), .val (.int (1 : Int32)), .unset, .unset, .unset, .unset, .unset, .unset, .unset, .unset, .unset]) rfl k) ?_
    show own_EndsW p.tables e below s _ _ _ (T15.setTop (mkF m 36 #[.val (.int x0_0), .val (.int x1_0), .val (.int x2_0), .val (.int m3), .val (.int (1 : Int32)), .unset, .unset, .unset, .unset, .unset, .unset, .unset, .unset, .unset] []))
    refine own_stepW (fun t k => XS.iloadN X15.here hx rfl (hb hby at_36) rfl k) ?_
    show own_EndsW p.tables e below s _ _ _ (T15.setTop (mkF m 37 #[.val (.int x0_0), .val (.int x1_0), .val (.int x2_0), .val (.int m3), .val (.int (1 : Int32)), .unset, .unset, .unset, .unset, .unset, .unset, .unset, .unset, .unset] [(.int x0_0)]))
    refine own_stepW (fun t k => XS.iconst X15.here hx rfl (hb hby at_37) k) ?_
    show own_EndsW p.tables e below s _ _ _ (T15.setTop (mkF m 38 #[.val (.int x0_0), .val (.int x1_0), .val (.int x2_0), .val (.int m3), .val (.int (1 : Int32)), .unset, .unset, .unset, .unset, .unset, .unset, .unset, .unset, .unset] [(.int (3 : Int32)), (.int x0_0)]))
    refine own_stepW (fun t k => XS.iand X15.here hx rfl (hb hby at_38) rfl k) ?_
    show own_EndsW p.tables e below s _ _ _ (T15.setTop (mkF m 39 #[.val (.int x0_0), .val (.int x1_0), .val (.int x2_0), .val (.int m3), .val (.int (1 : Int32)), .unset, .unset, .unset, .unset, .unset, .unset, .unset, .unset, .unset] [(.int (x0_0 &&& (3 : Int32)))]))
    generalize hln : (x0_0 &&& (3 : Int32)) = ln
    show own_EndsW p.tables e below s _ _ _ (T15.setTop (mkF m 39 #[.val (.int x0_0), .val (.int x1_0), .val (.int x2_0), .val (.int m3), .val (.int (1 : Int32)), .unset, .unset, .unset, .unset, .unset, .unset, .unset, .unset, .unset] [(.int ln)]))
    refine own_stepW (fun t k => XS.istore X15.here hx rfl (hb hby at_39) rfl (l' := #[.val (.int x0_0), .val (.int x1_0), .val (.int x2_0), .val (.int m3), .val (.int (1 : Int32)), .val (.int ln), .unset, .unset, .unset, .unset, .unset, .unset, .unset, .unset]) rfl k) ?_
    show own_EndsW p.tables e below s _ _ _ (T15.setTop (mkF m 41 #[.val (.int x0_0), .val (.int x1_0), .val (.int x2_0), .val (.int m3), .val (.int (1 : Int32)), .val (.int ln), .unset, .unset, .unset, .unset, .unset, .unset, .unset, .unset] []))
    refine own_stepW (fun t k => XS.iloadN X15.here hx rfl (hb hby at_41) rfl k) ?_
    show own_EndsW p.tables e below s _ _ _ (T15.setTop (mkF m 42 #[.val (.int x0_0), .val (.int x1_0), .val (.int x2_0), .val (.int m3), .val (.int (1 : Int32)), .val (.int ln), .unset, .unset, .unset, .unset, .unset, .unset, .unset, .unset] [(.int x0_0)]))
    refine own_stepW (fun t k => XS.iconst X15.here hx rfl (hb hby at_42) k) ?_
    show own_EndsW p.tables e below s _ _ _ (T15.setTop (mkF m 43 #[.val (.int x0_0), .val (.int x1_0), .val (.int x2_0), .val (.int m3), .val (.int (1 : Int32)), .val (.int ln), .unset, .unset, .unset, .unset, .unset, .unset, .unset, .unset] [(.int (2 : Int32)), (.int x0_0)]))
    refine own_stepW (fun t k => XS.iushr X15.here hx rfl (hb hby at_43) rfl k) ?_
    show own_EndsW p.tables e below s _ _ _ (T15.setTop (mkF m 44 #[.val (.int x0_0), .val (.int x1_0), .val (.int x2_0), .val (.int m3), .val (.int (1 : Int32)), .val (.int ln), .unset, .unset, .unset, .unset, .unset, .unset, .unset, .unset] [(.int ((x0_0.toUInt32 >>> ((2 : Int32) &&& 31).toUInt32).toInt32))]))
    refine own_stepW (fun t k => XS.iconst X15.here hx rfl (hb hby at_44) k) ?_
    show own_EndsW p.tables e below s _ _ _ (T15.setTop (mkF m 45 #[.val (.int x0_0), .val (.int x1_0), .val (.int x2_0), .val (.int m3), .val (.int (1 : Int32)), .val (.int ln), .unset, .unset, .unset, .unset, .unset, .unset, .unset, .unset] [(.int (3 : Int32)), (.int ((x0_0.toUInt32 >>> ((2 : Int32) &&& 31).toUInt32).toInt32))]))
    refine own_stepW (fun t k => XS.iand X15.here hx rfl (hb hby at_45) rfl k) ?_
    show own_EndsW p.tables e below s _ _ _ (T15.setTop (mkF m 46 #[.val (.int x0_0), .val (.int x1_0), .val (.int x2_0), .val (.int m3), .val (.int (1 : Int32)), .val (.int ln), .unset, .unset, .unset, .unset, .unset, .unset, .unset, .unset] [(.int (((x0_0.toUInt32 >>> ((2 : Int32) &&& 31).toUInt32).toInt32) &&& (3 : Int32)))]))
    generalize hex : (((x0_0.toUInt32 >>> ((2 : Int32) &&& 31).toUInt32).toInt32) &&& (3 : Int32)) = ex
    show own_EndsW p.tables e below s _ _ _ (T15.setTop (mkF m 46 #[.val (.int x0_0), .val (.int x1_0), .val (.int x2_0), .val (.int m3), .val (.int (1 : Int32)), .val (.int ln), .unset, .unset, .unset, .unset, .unset, .unset, .unset, .unset] [(.int ex)]))
    refine own_stepW (fun t k => XS.istore X15.here hx rfl (hb hby at_46) rfl (l' := #[.val (.int x0_0), .val (.int x1_0), .val (.int x2_0), .val (.int m3), .val (.int (1 : Int32)), .val (.int ln), .val (.int ex), .unset, .unset, .unset, .unset, .unset, .unset, .unset]) rfl k) ?_
    show own_EndsW p.tables e below s _ _ _ (T15.setTop (mkF m 48 #[.val (.int x0_0), .val (.int x1_0), .val (.int x2_0), .val (.int m3), .val (.int (1 : Int32)), .val (.int ln), .val (.int ex), .unset, .unset, .unset, .unset, .unset, .unset, .unset] []))
    refine own_stepW (fun t k => XS.iloadN X15.here hx rfl (hb hby at_48) rfl k) ?_
    show own_EndsW p.tables e below s _ _ _ (T15.setTop (mkF m 49 #[.val (.int x0_0), .val (.int x1_0), .val (.int x2_0), .val (.int m3), .val (.int (1 : Int32)), .val (.int ln), .val (.int ex), .unset, .unset, .unset, .unset, .unset, .unset, .unset] [(.int x1_0)]))
    refine own_stepW (fun t k => XS.bipush X15.here hx rfl (hb hby at_49) k) ?_
    show own_EndsW p.tables e below s _ _ _ (T15.setTop (mkF m 51 #[.val (.int x0_0), .val (.int x1_0), .val (.int x2_0), .val (.int m3), .val (.int (1 : Int32)), .val (.int ln), .val (.int ex), .unset, .unset, .unset, .unset, .unset, .unset, .unset] [(.int (31 : Int32)), (.int x1_0)]))
    refine own_stepW (fun t k => XS.iand X15.here hx rfl (hb hby at_51) rfl k) ?_
    show own_EndsW p.tables e below s _ _ _ (T15.setTop (mkF m 52 #[.val (.int x0_0), .val (.int x1_0), .val (.int x2_0), .val (.int m3), .val (.int (1 : Int32)), .val (.int ln), .val (.int ex), .unset, .unset, .unset, .unset, .unset, .unset, .unset] [(.int (x1_0 &&& (31 : Int32)))]))
    generalize hnu : (x1_0 &&& (31 : Int32)) = nu
    show own_EndsW p.tables e below s _ _ _ (T15.setTop (mkF m 52 #[.val (.int x0_0), .val (.int x1_0), .val (.int x2_0), .val (.int m3), .val (.int (1 : Int32)), .val (.int ln), .val (.int ex), .unset, .unset, .unset, .unset, .unset, .unset, .unset] [(.int nu)]))
    refine own_stepW (fun t k => XS.istore X15.here hx rfl (hb hby at_52) rfl (l' := #[.val (.int x0_0), .val (.int x1_0), .val (.int x2_0), .val (.int m3), .val (.int (1 : Int32)), .val (.int ln), .val (.int ex), .val (.int nu), .unset, .unset, .unset, .unset, .unset, .unset]) rfl k) ?_
    show own_EndsW p.tables e below s _ _ _ (T15.setTop (mkF m 54 #[.val (.int x0_0), .val (.int x1_0), .val (.int x2_0), .val (.int m3), .val (.int (1 : Int32)), .val (.int ln), .val (.int ex), .val (.int nu), .unset, .unset, .unset, .unset, .unset, .unset] []))
    refine own_stepW (fun t k => XS.iloadN X15.here hx rfl (hb hby at_54) rfl k) ?_
    show own_EndsW p.tables e below s _ _ _ (T15.setTop (mkF m 55 #[.val (.int x0_0), .val (.int x1_0), .val (.int x2_0), .val (.int m3), .val (.int (1 : Int32)), .val (.int ln), .val (.int ex), .val (.int nu), .unset, .unset, .unset, .unset, .unset, .unset] [(.int x1_0)]))
    refine own_stepW (fun t k => XS.iconst X15.here hx rfl (hb hby at_55) k) ?_
    show own_EndsW p.tables e below s _ _ _ (T15.setTop (mkF m 56 #[.val (.int x0_0), .val (.int x1_0), .val (.int x2_0), .val (.int m3), .val (.int (1 : Int32)), .val (.int ln), .val (.int ex), .val (.int nu), .unset, .unset, .unset, .unset, .unset, .unset] [(.int (5 : Int32)), (.int x1_0)]))
    refine own_stepW (fun t k => XS.iushr X15.here hx rfl (hb hby at_56) rfl k) ?_
    show own_EndsW p.tables e below s _ _ _ (T15.setTop (mkF m 57 #[.val (.int x0_0), .val (.int x1_0), .val (.int x2_0), .val (.int m3), .val (.int (1 : Int32)), .val (.int ln), .val (.int ex), .val (.int nu), .unset, .unset, .unset, .unset, .unset, .unset] [(.int ((x1_0.toUInt32 >>> ((5 : Int32) &&& 31).toUInt32).toInt32))]))
    refine own_stepW (fun t k => XS.iconst X15.here hx rfl (hb hby at_57) k) ?_
    show own_EndsW p.tables e below s _ _ _ (T15.setTop (mkF m 58 #[.val (.int x0_0), .val (.int x1_0), .val (.int x2_0), .val (.int m3), .val (.int (1 : Int32)), .val (.int ln), .val (.int ex), .val (.int nu), .unset, .unset, .unset, .unset, .unset, .unset] [(.int (1 : Int32)), (.int ((x1_0.toUInt32 >>> ((5 : Int32) &&& 31).toUInt32).toInt32))]))
    refine own_stepW (fun t k => XS.iand X15.here hx rfl (hb hby at_58) rfl k) ?_
    show own_EndsW p.tables e below s _ _ _ (T15.setTop (mkF m 59 #[.val (.int x0_0), .val (.int x1_0), .val (.int x2_0), .val (.int m3), .val (.int (1 : Int32)), .val (.int ln), .val (.int ex), .val (.int nu), .unset, .unset, .unset, .unset, .unset, .unset] [(.int (((x1_0.toUInt32 >>> ((5 : Int32) &&& 31).toUInt32).toInt32) &&& (1 : Int32)))]))
    by_cases hc59_18 : (((x1_0.toUInt32 >>> ((5 : Int32) &&& 31).toUInt32).toInt32) &&& (1 : Int32)) = (0 : Int32)
    · skip
      refine own_stepW (fun t k => XS.ifYes X15.here hx rfl (pc0 := 59) (pc' := 66) rfl (hb hby at_59) rfl ((if0 _ _).trans (teq hc59_18).1) (by decide) (by decide) k) ?_
      show own_EndsW p.tables e below s _ _ _ (T15.setTop (mkF m 66 #[.val (.int x0_0), .val (.int x1_0), .val (.int x2_0), .val (.int m3), .val (.int (1 : Int32)), .val (.int ln), .val (.int ex), .val (.int nu), .unset, .unset, .unset, .unset, .unset, .unset] []))
      refine own_stepW (fun t k => XS.iconst X15.here hx rfl (hb hby at_66) k) ?_
      show own_EndsW p.tables e below s _ _ _ (T15.setTop (mkF m 67 #[.val (.int x0_0), .val (.int x1_0), .val (.int x2_0), .val (.int m3), .val (.int (1 : Int32)), .val (.int ln), .val (.int ex), .val (.int nu), .unset, .unset, .unset, .unset, .unset, .unset] [(.int (0 : Int32))]))
      refine own_stepW (fun t k => XS.istore X15.here hx rfl (hb hby at_67) rfl (l' := #[.val (.int x0_0), .val (.int x1_0), .val (.int x2_0), .val (.int m3), .val (.int (1 : Int32)), .val (.int ln), .val (.int ex), .val (.int nu), .val (.int (0 : Int32)), .unset, .unset, .unset, .unset, .unset]) rfl k) ?_
      show own_EndsW p.tables e below s _ _ _ (T15.setTop (mkF m 69 #[.val (.int x0_0), .val (.int x1_0), .val (.int x2_0), .val (.int m3), .val (.int (1 : Int32)), .val (.int ln), .val (.int ex), .val (.int nu), .val (.int (0 : Int32)), .unset, .unset, .unset, .unset, .unset] []))
      refine own_stepW (fun t k => XS.iconst X15.here hx rfl (hb hby at_69) k) ?_
      show own_EndsW p.tables e below s _ _ _ (T15.setTop (mkF m 70 #[.val (.int x0_0), .val (.int x1_0), .val (.int x2_0), .val (.int m3), .val (.int (1 : Int32)), .val (.int ln), .val (.int ex), .val (.int nu), .val (.int (0 : Int32)), .unset, .unset, .unset, .unset, .unset] [(.int (2 : Int32))]))
      refine own_stepW (fun t k => XS.iload X15.here hx rfl (hb hby at_70) rfl k) ?_
      show own_EndsW p.tables e below s _ _ _ (T15.setTop (mkF m 72 #[.val (.int x0_0), .val (.int x1_0), .val (.int x2_0), .val (.int m3), .val (.int (1 : Int32)), .val (.int ln), .val (.int ex), .val (.int nu), .val (.int (0 : Int32)), .unset, .unset, .unset, .unset, .unset] [(.int ln), (.int (2 : Int32))]))
      refine own_stepW (fun t k => XS.iadd X15.here hx rfl (hb hby at_72) rfl k) ?_
      show own_EndsW p.tables e below s _ _ _ (T15.setTop (mkF m 73 #[.val (.int x0_0), .val (.int x1_0), .val (.int x2_0), .val (.int m3), .val (.int (1 : Int32)), .val (.int ln), .val (.int ex), .val (.int nu), .val (.int (0 : Int32)), .unset, .unset, .unset, .unset, .unset] [(.int ((2 : Int32) + ln))]))
      refine own_stepW (fun t k => XS.iload X15.here hx rfl (hb hby at_73) rfl k) ?_
      show own_EndsW p.tables e below s _ _ _ (T15.setTop (mkF m 75 #[.val (.int x0_0), .val (.int x1_0), .val (.int x2_0), .val (.int m3), .val (.int (1 : Int32)), .val (.int ln), .val (.int ex), .val (.int nu), .val (.int (0 : Int32)), .unset, .unset, .unset, .unset, .unset] [(.int ex), (.int ((2 : Int32) + ln))]))
      refine own_stepW (fun t k => XS.iadd X15.here hx rfl (hb hby at_75) rfl k) ?_
      show own_EndsW p.tables e below s _ _ _ (T15.setTop (mkF m 76 #[.val (.int x0_0), .val (.int x1_0), .val (.int x2_0), .val (.int m3), .val (.int (1 : Int32)), .val (.int ln), .val (.int ex), .val (.int nu), .val (.int (0 : Int32)), .unset, .unset, .unset, .unset, .unset] [(.int (((2 : Int32) + ln) + ex))]))
      generalize hnb : (((2 : Int32) + ln) + ex) = nb
      obtain ⟨pb_1, pb_2, pb_3, pb_4, pb_h1, pb_h2, pb_h4, pb_h5, pb_h6, pb_hle, pb_hnn, pb_hcap, pb_hcp1, pb_hcp2, pb_hcp3, pb_hcp4, pb_i1, pb_i2, pb_a1⟩ := own_B ln ex nb (hln ▸ own_m3 _) (hex ▸ own_m3 _) hnb
      show own_EndsW p.tables e below s _ _ _ (T15.setTop (mkF m 76 #[.val (.int x0_0), .val (.int x1_0), .val (.int x2_0), .val (.int m3), .val (.int (1 : Int32)), .val (.int ln), .val (.int ex), .val (.int nu), .val (.int (0 : Int32)), .unset, .unset, .unset, .unset, .unset] [(.int nb)]))
      have F19 : Arv Z T11.heap b4 k4 .byte m3 [] (.int (0 : Int32)) := (V4.keep K11q (ninS (Ne.symm ne_b1_b4) nin0))
      obtain ⟨T20, h20, k20, X20, e20, E20, A20, st20⟩ := newP X15 hx hZ (hw _ (List.mem_of_getElem? (i := 3) rfl)) e15 (g := (mkF m 76 #[.val (.int x0_0), .val (.int x1_0), .val (.int x2_0), .val (.int m3), .val (.int (1 : Int32)), .val (.int ln), .val (.int ex), .val (.int nu), .val (.int (0 : Int32)), .unset, .unset, .unset, .unset, .unset] [(.int nb)])) rfl (hb hby at_76) rfl pb_1 (cap := 8) pb_2 (by decide) (by decide) (by decide)
      obtain ⟨b20, g20⟩ : ∃ z, z = T11.heap.size := ⟨_, rfl⟩
      rw [← g20] at A20 st20
      have g_b20 : n0 ≤ b20 := Nat.le_trans (Nat.le_trans (Nat.le_of_eq O14.1.symm) O14.2.1) (Nat.le_of_eq g20.symm)
      have sz_b20 : h0.size ≤ b20 := Nat.le_trans K13.1 (Nat.le_of_eq g20.symm)
      have ne_b1_b20 : b1 ≠ b20 := Nat.ne_of_lt (Nat.lt_of_lt_of_le p11_0.lt (Nat.le_of_eq g20.symm))
      have ne_b4_b20 : b4 ≠ b20 := Nat.ne_of_lt (Nat.lt_of_lt_of_le F19.lt (Nat.le_of_eq g20.symm))
      have V20 : Arv Z h20 b20 k20 .byte nb [] (.int (0 : Int32)) := Arv.new A20 pb_1
      have V20p : Arv Z h20 b20 k20 .byte nb [(.int (0 : Int32)), (.int (0 : Int32))] (.int (0 : Int32)) := V20.pad (pad_rep [] (.int (0 : Int32)) 2)
      refine own_stepW (fun t k => st20 _ k) ?_
      have K21 : Keep h0 h20 [] := K13.ext E20
      show own_EndsW p.tables e below s _ _ _ (T20.setTop (mkF m 78 #[.val (.int x0_0), .val (.int x1_0), .val (.int x2_0), .val (.int m3), .val (.int (1 : Int32)), .val (.int ln), .val (.int ex), .val (.int nu), .val (.int (0 : Int32)), .unset, .unset, .unset, .unset, .unset] [(.ref b20)]))
      refine own_stepW (fun t k => XS.astore X20.here hx rfl (hb hby at_78) rfl rfl (l' := #[.val (.int x0_0), .val (.int x1_0), .val (.int x2_0), .val (.int m3), .val (.int (1 : Int32)), .val (.int ln), .val (.int ex), .val (.int nu), .val (.int (0 : Int32)), .val (.ref b20), .unset, .unset, .unset, .unset]) rfl k) ?_
      show own_EndsW p.tables e below s _ _ _ (T20.setTop (mkF m 80 #[.val (.int x0_0), .val (.int x1_0), .val (.int x2_0), .val (.int m3), .val (.int (1 : Int32)), .val (.int ln), .val (.int ex), .val (.int nu), .val (.int (0 : Int32)), .val (.ref b20), .unset, .unset, .unset, .unset] []))
      refine own_stepW (fun t k => XS.aload X20.here hx rfl (hb hby at_80) rfl rfl k) ?_
      show own_EndsW p.tables e below s _ _ _ (T20.setTop (mkF m 82 #[.val (.int x0_0), .val (.int x1_0), .val (.int x2_0), .val (.int m3), .val (.int (1 : Int32)), .val (.int ln), .val (.int ex), .val (.int nu), .val (.int (0 : Int32)), .val (.ref b20), .unset, .unset, .unset, .unset] [(.ref b20)]))
      refine own_stepW (fun t k => XS.iconst X20.here hx rfl (hb hby at_82) k) ?_
      show own_EndsW p.tables e below s _ _ _ (T20.setTop (mkF m 83 #[.val (.int x0_0), .val (.int x1_0), .val (.int x2_0), .val (.int m3), .val (.int (1 : Int32)), .val (.int ln), .val (.int ex), .val (.int nu), .val (.int (0 : Int32)), .val (.ref b20), .unset, .unset, .unset, .unset] [(.int (0 : Int32)), (.ref b20)]))
      refine own_stepW (fun t k => XS.iload X20.here hx rfl (hb hby at_83) rfl k) ?_
      show own_EndsW p.tables e below s _ _ _ (T20.setTop (mkF m 85 #[.val (.int x0_0), .val (.int x1_0), .val (.int x2_0), .val (.int m3), .val (.int (1 : Int32)), .val (.int ln), .val (.int ex), .val (.int nu), .val (.int (0 : Int32)), .val (.ref b20), .unset, .unset, .unset, .unset] [(.int (0 : Int32)), (.int (0 : Int32)), (.ref b20)]))
      refine own_stepW (fun t k => XS.ifYes X20.here hx rfl (pc0 := 85) (pc' := 94) rfl (hb hby at_85) rfl ((if0 _ _).trans (teq (by decide : (0 : Int32) = (0 : Int32))).1) (by decide) (by decide) k) ?_
      show own_EndsW p.tables e below s _ _ _ (T20.setTop (mkF m 94 #[.val (.int x0_0), .val (.int x1_0), .val (.int x2_0), .val (.int m3), .val (.int (1 : Int32)), .val (.int ln), .val (.int ex), .val (.int nu), .val (.int (0 : Int32)), .val (.ref b20), .unset, .unset, .unset, .unset] [(.int (0 : Int32)), (.ref b20)]))
      refine own_stepW (fun t k => XS.sipush X20.here hx rfl (hb hby at_94) k) ?_
      show own_EndsW p.tables e below s _ _ _ (T20.setTop (mkF m 97 #[.val (.int x0_0), .val (.int x1_0), .val (.int x2_0), .val (.int m3), .val (.int (1 : Int32)), .val (.int ln), .val (.int ex), .val (.int nu), .val (.int (0 : Int32)), .val (.ref b20), .unset, .unset, .unset, .unset] [(.int (128 : Int32)), (.int (0 : Int32)), (.ref b20)]))
      refine own_stepW (fun t k => XS.iload X20.here hx rfl (hb hby at_97) rfl k) ?_
      show own_EndsW p.tables e below s _ _ _ (T20.setTop (mkF m 99 #[.val (.int x0_0), .val (.int x1_0), .val (.int x2_0), .val (.int m3), .val (.int (1 : Int32)), .val (.int ln), .val (.int ex), .val (.int nu), .val (.int (0 : Int32)), .val (.ref b20), .unset, .unset, .unset, .unset] [(.int nu), (.int (128 : Int32)), (.int (0 : Int32)), (.ref b20)]))
      refine own_stepW (fun t k => XS.ior X20.here hx rfl (hb hby at_99) rfl k) ?_
      show own_EndsW p.tables e below s _ _ _ (T20.setTop (mkF m 100 #[.val (.int x0_0), .val (.int x1_0), .val (.int x2_0), .val (.int m3), .val (.int (1 : Int32)), .val (.int ln), .val (.int ex), .val (.int nu), .val (.int (0 : Int32)), .val (.ref b20), .unset, .unset, .unset, .unset] [(.int ((128 : Int32) ||| nu)), (.int (0 : Int32)), (.ref b20)]))
      refine own_stepW (fun t k => XS.i2b X20.here hx rfl (hb hby at_100) rfl k) ?_
      show own_EndsW p.tables e below s _ _ _ (T20.setTop (mkF m 101 #[.val (.int x0_0), .val (.int x1_0), .val (.int x2_0), .val (.int m3), .val (.int (1 : Int32)), .val (.int ln), .val (.int ex), .val (.int nu), .val (.int (0 : Int32)), .val (.ref b20), .unset, .unset, .unset, .unset] [(.int (((128 : Int32) ||| nu).toInt8.toInt32)), (.int (0 : Int32)), (.ref b20)]))
      obtain ⟨cl22, Ar22, q22, S22, N22, H22, G22⟩ := id V20p
      have hin22 : ¬ ((0 : Int32) < 0 ∨ cl22.slots.size ≤ ((0 : Int32)).toNatClampNeg) := inb_of S22 ⟨by decide, pb_3⟩
      obtain ⟨T23, h23, X23, e23, W23, st23⟩ := stB X20 hx hZ e20 Ar22 (j := (0 : Int32)) hin22 (g := (mkF m 101 #[.val (.int x0_0), .val (.int x1_0), .val (.int x2_0), .val (.int m3), .val (.int (1 : Int32)), .val (.int ln), .val (.int ex), .val (.int nu), .val (.int (0 : Int32)), .val (.ref b20), .unset, .unset, .unset, .unset] [(.int (((128 : Int32) ||| nu).toInt8.toInt32)), (.int (0 : Int32)), (.ref b20)])) rfl rfl (hb hby at_101)
      refine own_stepW (fun t k => st23 _ k) ?_
      have V23 : Arv Z h23 b20 k20 .byte nb [(.int (nar .byte (((128 : Int32) ||| nu).toInt8.toInt32))), (.int (0 : Int32))] (.int (0 : Int32)) := Arv.set Ar22 q22 S22 N22 H22 G22 (fits_nar_byte _) W23 0 rfl (Nat.le_of_ble_eq_true rfl)
      have K24 : Keep h0 h23 [] := K21.wr W23 (Or.inr sz_b20)
      have N25 := Fr.snoc X23 N16 g_b20
      show own_EndsW p.tables e below s _ _ _ (T23.setTop (mkF m 102 #[.val (.int x0_0), .val (.int x1_0), .val (.int x2_0), .val (.int m3), .val (.int (1 : Int32)), .val (.int ln), .val (.int ex), .val (.int nu), .val (.int (0 : Int32)), .val (.ref b20), .unset, .unset, .unset, .unset] []))
      refine own_stepW (fun t k => XS.aload X23.here hx rfl (hb hby at_102) rfl rfl k) ?_
      show own_EndsW p.tables e below s _ _ _ (T23.setTop (mkF m 104 #[.val (.int x0_0), .val (.int x1_0), .val (.int x2_0), .val (.int m3), .val (.int (1 : Int32)), .val (.int ln), .val (.int ex), .val (.int nu), .val (.int (0 : Int32)), .val (.ref b20), .unset, .unset, .unset, .unset] [(.ref b20)]))
      refine own_stepW (fun t k => XS.iconst X23.here hx rfl (hb hby at_104) k) ?_
      show own_EndsW p.tables e below s _ _ _ (T23.setTop (mkF m 105 #[.val (.int x0_0), .val (.int x1_0), .val (.int x2_0), .val (.int m3), .val (.int (1 : Int32)), .val (.int ln), .val (.int ex), .val (.int nu), .val (.int (0 : Int32)), .val (.ref b20), .unset, .unset, .unset, .unset] [(.int (1 : Int32)), (.ref b20)]))
      refine own_stepW (fun t k => XS.iload X23.here hx rfl (hb hby at_105) rfl k) ?_
      show own_EndsW p.tables e below s _ _ _ (T23.setTop (mkF m 107 #[.val (.int x0_0), .val (.int x1_0), .val (.int x2_0), .val (.int m3), .val (.int (1 : Int32)), .val (.int ln), .val (.int ex), .val (.int nu), .val (.int (0 : Int32)), .val (.ref b20), .unset, .unset, .unset, .unset] [(.int ln), (.int (1 : Int32)), (.ref b20)]))
      refine own_stepW (fun t k => XS.i2b X23.here hx rfl (hb hby at_107) rfl k) ?_
      show own_EndsW p.tables e below s _ _ _ (T23.setTop (mkF m 108 #[.val (.int x0_0), .val (.int x1_0), .val (.int x2_0), .val (.int m3), .val (.int (1 : Int32)), .val (.int ln), .val (.int ex), .val (.int nu), .val (.int (0 : Int32)), .val (.ref b20), .unset, .unset, .unset, .unset] [(.int (ln.toInt8.toInt32)), (.int (1 : Int32)), (.ref b20)]))
      obtain ⟨cl26, Ar26, q26, S26, N26, H26, G26⟩ := id V23
      have hin26 : ¬ ((1 : Int32) < 0 ∨ cl26.slots.size ≤ ((1 : Int32)).toNatClampNeg) := inb_of S26 ⟨by decide, pb_4⟩
      obtain ⟨T27, h27, X27, e27, W27, st27⟩ := stB X23 hx hZ e23 Ar26 (j := (1 : Int32)) hin26 (g := (mkF m 108 #[.val (.int x0_0), .val (.int x1_0), .val (.int x2_0), .val (.int m3), .val (.int (1 : Int32)), .val (.int ln), .val (.int ex), .val (.int nu), .val (.int (0 : Int32)), .val (.ref b20), .unset, .unset, .unset, .unset] [(.int (ln.toInt8.toInt32)), (.int (1 : Int32)), (.ref b20)])) rfl rfl (hb hby at_108)
      refine own_stepW (fun t k => st27 _ k) ?_
      have V27 : Arv Z h27 b20 k20 .byte nb [(.int (nar .byte (((128 : Int32) ||| nu).toInt8.toInt32))), (.int (nar .byte (ln.toInt8.toInt32)))] (.int (0 : Int32)) := Arv.set Ar26 q26 S26 N26 H26 G26 (fits_nar_byte _) W27 1 rfl (Nat.le_of_ble_eq_true rfl)
      have K28 : Keep h0 h27 [] := K24.wr W27 (Or.inr sz_b20)
      have N29 := Fr.snoc X27 N25 g_b20
      show own_EndsW p.tables e below s _ _ _ (T27.setTop (mkF m 109 #[.val (.int x0_0), .val (.int x1_0), .val (.int x2_0), .val (.int m3), .val (.int (1 : Int32)), .val (.int ln), .val (.int ex), .val (.int nu), .val (.int (0 : Int32)), .val (.ref b20), .unset, .unset, .unset, .unset] []))
      have O30 : Old Z n0 h27 := (((O14.ext E20).wr W23 g_b20).wr W27 g_b20)
      have F31 : Exa Z h27 b1 "com/example/proofwright/proofwright/cryptoconditions/DerReader" := (((p11_0.ext E20).wr W23).wr W27)
      have F32 : Arv Z h27 b4 k4 .byte m3 [] (.int (0 : Int32)) := (((F19.ext E20).other W23 ne_b4_b20).other W27 ne_b4_b20)
      obtain ⟨T33, h33, X33, e33, E33, A33, D33, -, st33⟩ := newO X27 hx hZ hown (hw _ (List.mem_of_getElem? (i := 0) rfl)) (hw _ (List.mem_of_getElem? (i := 1) rfl)) (hw _ (List.mem_of_getElem? (i := 2) rfl)) e27 (g := (mkF m 109 #[.val (.int x0_0), .val (.int x1_0), .val (.int x2_0), .val (.int m3), .val (.int (1 : Int32)), .val (.int ln), .val (.int ex), .val (.int nu), .val (.int (0 : Int32)), .val (.ref b20), .unset, .unset, .unset, .unset] [])) rfl (hb hby at_109) (by decide) (by decide)
      obtain ⟨b33, g33⟩ : ∃ z, z = h27.size := ⟨_, rfl⟩
      rw [← g33] at A33 D33 st33
      have g_b33 : n0 ≤ b33 := Nat.le_trans (Nat.le_trans (Nat.le_of_eq O30.1.symm) O30.2.1) (Nat.le_of_eq g33.symm)
      have sz_b33 : h0.size ≤ b33 := Nat.le_trans K28.1 (Nat.le_of_eq g33.symm)
      have ne_b1_b33 : b1 ≠ b33 := Nat.ne_of_lt (Nat.lt_of_lt_of_le F31.lt (Nat.le_of_eq g33.symm))
      have ne_b4_b33 : b4 ≠ b33 := Nat.ne_of_lt (Nat.lt_of_lt_of_le F32.lt (Nat.le_of_eq g33.symm))
      have ne_b20_b33 : b20 ≠ b33 := Nat.ne_of_lt (Nat.lt_of_lt_of_le V27.lt (Nat.le_of_eq g33.symm))
      have F33_bytes : Fld Z h33 b33 "com/example/proofwright/proofwright/cryptoconditions/DerReader" "bytes" "[B" .null := D33 (Or.inr (hw _ (List.mem_of_getElem? (i := 14) rfl))) (ty := (.array .byte)) (by decide)
      have F33_position : Fld Z h33 b33 "com/example/proofwright/proofwright/cryptoconditions/DerReader" "position" "I" (.int (0 : Int32)) := D33 (Or.inl (hw _ (List.mem_of_getElem? (i := 16) rfl))) (ty := .int) (by decide)
      have F33_end : Fld Z h33 b33 "com/example/proofwright/proofwright/cryptoconditions/DerReader" "end" "I" (.int (0 : Int32)) := D33 (Or.inr (hw _ (List.mem_of_getElem? (i := 18) rfl))) (ty := .int) (by decide)
      refine own_stepW (fun t k => st33 _ k) ?_
      have K34 : Keep h0 h33 [] := K28.ext E33
      show own_EndsW p.tables e below s _ _ _ (T33.setTop (mkF m 112 #[.val (.int x0_0), .val (.int x1_0), .val (.int x2_0), .val (.int m3), .val (.int (1 : Int32)), .val (.int ln), .val (.int ex), .val (.int nu), .val (.int (0 : Int32)), .val (.ref b20), .unset, .unset, .unset, .unset] [(.ref b33)]))
      refine own_stepW (fun t k => XS.dup X33.here hx rfl (hb hby at_112) rfl rfl k) ?_
      show own_EndsW p.tables e below s _ _ _ (T33.setTop (mkF m 113 #[.val (.int x0_0), .val (.int x1_0), .val (.int x2_0), .val (.int m3), .val (.int (1 : Int32)), .val (.int ln), .val (.int ex), .val (.int nu), .val (.int (0 : Int32)), .val (.ref b20), .unset, .unset, .unset, .unset] [(.ref b33), (.ref b33)]))
      refine own_stepW (fun t k => XS.aload X33.here hx rfl (hb hby at_113) rfl rfl k) ?_
      show own_EndsW p.tables e below s _ _ _ (T33.setTop (mkF m 115 #[.val (.int x0_0), .val (.int x1_0), .val (.int x2_0), .val (.int m3), .val (.int (1 : Int32)), .val (.int ln), .val (.int ex), .val (.int nu), .val (.int (0 : Int32)), .val (.ref b20), .unset, .unset, .unset, .unset] [(.ref b20), (.ref b33), (.ref b33)]))
      have F35 : Arv Z h33 b20 k20 .byte nb [(.int (nar .byte (((128 : Int32) ||| nu).toInt8.toInt32))), (.int (nar .byte (ln.toInt8.toInt32)))] (.int (0 : Int32)) := (V27.ext E33)
      have O36 : Old Z n0 h33 := (O30.ext E33)
      obtain ⟨_, _, ⟨T37, L37, k37, n37⟩, -, X37, ⟨Lc37, hQ37, l37, y37, z37⟩, st37⟩ := X33.specialBack hx (y := (⟨"com/example/proofwright/proofwright/cryptoconditions/DerReader", "<init>", "([B)V"⟩ : MethodName)) rfl hown (mvT hZ (hw _ (List.mem_of_getElem? (i := 4) rfl))) (mvT hZ (hw _ (List.mem_of_getElem? (i := 5) rfl))) (mvT hZ (hw _ (List.mem_of_getElem? (i := 6) rfl))) (by decide) (backOf (W := 1) (rm1 l Z a0 hw [] b33 b20 k20 nb [(.int (nar .byte (((128 : Int32) ||| nu).toInt8.toInt32))), (.int (nar .byte (ln.toInt8.toInt32)))] (.int (0 : Int32)) .null (.int (0 : Int32)) (.int (0 : Int32)) h33 n0 O36 F35 A33 F33_bytes g_b33 F33_position F33_end) hZ (hw _ (List.mem_of_getElem? (i := 6) rfl)) (hw _ (List.mem_of_getElem? (i := 2) rfl)) (by decide) (by decide)) (g := (mkF m 115 #[.val (.int x0_0), .val (.int x1_0), .val (.int x2_0), .val (.int m3), .val (.int (1 : Int32)), .val (.int ln), .val (.int ex), .val (.int nu), .val (.int (0 : Int32)), .val (.ref b20), .unset, .unset, .unset, .unset] [(.ref b20), (.ref b33), (.ref b33)])) rfl (by rw [hml]; rfl) (Steps.refl _) (a := b33) (argsL := [(.ref b20)]) (rest := [(.ref b33)]) (lenOf pd_6 rfl) rfl (by show 2 * 0 + _ ≤ _; exact Nat.le_of_eq rfl) (hb hby at_115) (fun _ _ => ⟨rfl, e33, (by decide : 4 + 0 ≤ _), (by decide : 17 + 0 ≤ _)⟩)
      dsimp only [Pt.U, Pt.locs, Pt.cells, Pt.slots] at X37 l37 y37 z37 st37 hQ37
      subst y37 z37
      obtain ⟨rfl, N37q, K37q, p37_0, p37_1, p37_2, p37_3⟩ := hQ37
      refine own_stepW (fun t k => st37.trans k) ?_
      have N38 : Fr n0 L37 := by rw [l37]; exact Fr.app N29 N37q
      have K39 : Keep h0 T37.heap [] := K34.trans K37q (allS (Or.inr sz_b33) all0)
      show own_EndsW p.tables e below s _ _ _ (T37.setTop (mkF m 118 #[.val (.int x0_0), .val (.int x1_0), .val (.int x2_0), .val (.int m3), .val (.int (1 : Int32)), .val (.int ln), .val (.int ex), .val (.int nu), .val (.int (0 : Int32)), .val (.ref b20), .unset, .unset, .unset, .unset] [(.ref b33)]))
      refine own_stepW (fun t k => XS.astore X37.here hx rfl (hb hby at_118) rfl rfl (l' := #[.val (.int x0_0), .val (.int x1_0), .val (.int x2_0), .val (.int m3), .val (.int (1 : Int32)), .val (.int ln), .val (.int ex), .val (.int nu), .val (.int (0 : Int32)), .val (.ref b20), .val (.ref b33), .unset, .unset, .unset]) rfl k) ?_
      show own_EndsW p.tables e below s _ _ _ (T37.setTop (mkF m 120 #[.val (.int x0_0), .val (.int x1_0), .val (.int x2_0), .val (.int m3), .val (.int (1 : Int32)), .val (.int ln), .val (.int ex), .val (.int nu), .val (.int (0 : Int32)), .val (.ref b20), .val (.ref b33), .unset, .unset, .unset] []))
      refine own_stepW (fun t k => XS.aload X37.here hx rfl (hb hby at_120) rfl rfl k) ?_
      show own_EndsW p.tables e below s _ _ _ (T37.setTop (mkF m 122 #[.val (.int x0_0), .val (.int x1_0), .val (.int x2_0), .val (.int m3), .val (.int (1 : Int32)), .val (.int ln), .val (.int ex), .val (.int nu), .val (.int (0 : Int32)), .val (.ref b20), .val (.ref b33), .unset, .unset, .unset] [(.ref b33)]))
      have O40 : Old Z n0 T37.heap := (O36.keep K37q (allS g_b33 all0))
      obtain ⟨cq41, kq41, q41a, q41b, q41c⟩ := isOf hZ rfl p37_0
      obtain ⟨_, _, ⟨T41, L41, k41, n41⟩, -, X41, ⟨Lc41, hQ41, l41, y41, z41⟩, st41⟩ := X37.virtualBack hx (y := (⟨"com/example/proofwright/proofwright/cryptoconditions/DerReader", "hasMore", "()Z"⟩ : MethodName)) (z := (⟨"com/example/proofwright/proofwright/cryptoconditions/DerReader", "hasMore", "()Z"⟩ : MethodName)) hown (mvT hZ (hw _ (List.mem_of_getElem? (i := 19) rfl))) (mvT hZ (hw _ (List.mem_of_getElem? (i := 20) rfl))) (notFace_of_selects (args := #[]) (mvT hZ (hw _ (List.mem_of_getElem? (i := 22) rfl)))) (mvT hZ (hw _ (List.mem_of_getElem? (i := 22) rfl))) (mvT hZ (hw _ (List.mem_of_getElem? (i := 21) rfl))) (by decide) (backOf (W := 0) (rm4 l Z a0 hw [] b33 (0 : Int32) nb T37.heap n0 O40 p37_2 p37_3) hZ (hw _ (List.mem_of_getElem? (i := 23) rfl)) (hw _ (List.mem_of_getElem? (i := 2) rfl)) (by decide) (by decide)) q41a q41c (g := (mkF m 122 #[.val (.int x0_0), .val (.int x1_0), .val (.int x2_0), .val (.int m3), .val (.int (1 : Int32)), .val (.int ln), .val (.int ex), .val (.int nu), .val (.int (0 : Int32)), .val (.ref b20), .val (.ref b33), .unset, .unset, .unset] [(.ref b33)])) rfl (by rw [hml]; rfl) (Steps.refl _) (argsL := []) (rest := []) (lenOf pd_1 rfl) rfl (by show 2 * 0 + _ ≤ _; exact Nat.le_of_eq rfl) (hb hby at_122) (fun _ _ => ⟨rfl, rfl, (by decide : 4 + 0 ≤ _), (by decide : 17 + 0 ≤ _)⟩)
      dsimp only [Pt.U, Pt.locs, Pt.cells, Pt.slots] at X41 l41 y41 z41 st41 hQ41
      subst y41 z41
      obtain ⟨rfl, N41q, e41⟩ := hQ41
      refine own_stepW (fun t k => st41.trans k) ?_
      have N42 : Fr n0 L41 := by rw [l41]; exact Fr.app N38 N41q
      show own_EndsW p.tables e below s _ _ _ (T41.setTop (mkF m 125 #[.val (.int x0_0), .val (.int x1_0), .val (.int x2_0), .val (.int m3), .val (.int (1 : Int32)), .val (.int ln), .val (.int ex), .val (.int nu), .val (.int (0 : Int32)), .val (.ref b20), .val (.ref b33), .unset, .unset, .unset] [(.int (own_r4 (0 : Int32) nb))]))
      refine own_stepW (fun t k => XS.istore X41.here hx rfl (hb hby at_125) rfl (l' := #[.val (.int x0_0), .val (.int x1_0), .val (.int x2_0), .val (.int m3), .val (.int (1 : Int32)), .val (.int ln), .val (.int ex), .val (.int nu), .val (.int (0 : Int32)), .val (.ref b20), .val (.ref b33), .val (.int (own_r4 (0 : Int32) nb)), .unset, .unset]) rfl k) ?_
      show own_EndsW p.tables e below s _ _ _ (T41.setTop (mkF m 127 #[.val (.int x0_0), .val (.int x1_0), .val (.int x2_0), .val (.int m3), .val (.int (1 : Int32)), .val (.int ln), .val (.int ex), .val (.int nu), .val (.int (0 : Int32)), .val (.ref b20), .val (.ref b33), .val (.int (own_r4 (0 : Int32) nb)), .unset, .unset] []))
      refine own_stepW (fun t k => XS.iload X41.here hx rfl (hb hby at_127) rfl k) ?_
      show own_EndsW p.tables e below s _ _ _ (T41.setTop (mkF m 129 #[.val (.int x0_0), .val (.int x1_0), .val (.int x2_0), .val (.int m3), .val (.int (1 : Int32)), .val (.int ln), .val (.int ex), .val (.int nu), .val (.int (0 : Int32)), .val (.ref b20), .val (.ref b33), .val (.int (own_r4 (0 : Int32) nb)), .unset, .unset] [(.int (0 : Int32))]))
      refine own_stepW (fun t k => XS.ifYes X41.here hx rfl (pc0 := 129) (pc' := 171) rfl (hb hby at_129) rfl ((if0 _ _).trans (teq (by decide : (0 : Int32) = (0 : Int32))).1) (by decide) (by decide) k) ?_
      show own_EndsW p.tables e below s _ _ _ (T41.setTop (mkF m 171 #[.val (.int x0_0), .val (.int x1_0), .val (.int x2_0), .val (.int m3), .val (.int (1 : Int32)), .val (.int ln), .val (.int ex), .val (.int nu), .val (.int (0 : Int32)), .val (.ref b20), .val (.ref b33), .val (.int (own_r4 (0 : Int32) nb)), .unset, .unset] []))
      refine own_stepW (fun t k => XS.aload X41.here hx rfl (hb hby at_171) rfl rfl k) ?_
      show own_EndsW p.tables e below s _ _ _ (T41.setTop (mkF m 173 #[.val (.int x0_0), .val (.int x1_0), .val (.int x2_0), .val (.int m3), .val (.int (1 : Int32)), .val (.int ln), .val (.int ex), .val (.int nu), .val (.int (0 : Int32)), .val (.ref b20), .val (.ref b33), .val (.int (own_r4 (0 : Int32) nb)), .unset, .unset] [(.ref b33)]))
      refine own_stepW (fun t k => XS.iload X41.here hx rfl (hb hby at_173) rfl k) ?_
      show own_EndsW p.tables e below s _ _ _ (T41.setTop (mkF m 175 #[.val (.int x0_0), .val (.int x1_0), .val (.int x2_0), .val (.int m3), .val (.int (1 : Int32)), .val (.int ln), .val (.int ex), .val (.int nu), .val (.int (0 : Int32)), .val (.ref b20), .val (.ref b33), .val (.int (own_r4 (0 : Int32) nb)), .unset, .unset] [(.int nu), (.ref b33)]))
      have hS0 := (State.WarmedH.refl s).since 0
      obtain ⟨a43, T43, h43, k43, X43, e43, E43, hS43, hk43, hZ, hown, st43⟩ := ldcS (s := s) (vm0 := s.vm) X41 hx hZ hown (hw _ (List.mem_of_getElem? (i := 24) rfl)) (fun d hd => hw d (own_strAtoms d hd)) e41 hS0 (Nat.zero_le _) (g := (mkF m 175 #[.val (.int x0_0), .val (.int x1_0), .val (.int x2_0), .val (.int m3), .val (.int (1 : Int32)), .val (.int ln), .val (.int ex), .val (.int nu), .val (.int (0 : Int32)), .val (.ref b20), .val (.ref b33), .val (.int (own_r4 (0 : Int32) nb)), .unset, .unset] [(.int nu), (.ref b33)])) rfl (hb hby at_175) (n := 4) (by decide) (by decide) (by decide) (by decide)
      refine own_stepW (fun t k => st43 _ k) ?_
      have K44 : Keep h0 h43 [] := K39.ext E43
      show own_EndsW p.tables e below s _ _ _ (T43.setTop (mkF m 177 #[.val (.int x0_0), .val (.int x1_0), .val (.int x2_0), .val (.int m3), .val (.int (1 : Int32)), .val (.int ln), .val (.int ex), .val (.int nu), .val (.int (0 : Int32)), .val (.ref b20), .val (.ref b33), .val (.int (own_r4 (0 : Int32) nb)), .unset, .unset] [(.ref a43), (.int nu), (.ref b33)]))
      have F45 : Fld Z h43 b33 "com/example/proofwright/proofwright/cryptoconditions/DerReader" "position" "I" (.int (0 : Int32)) := (p37_2.ext E43)
      have F46 : Fld Z h43 b33 "com/example/proofwright/proofwright/cryptoconditions/DerReader" "end" "I" (.int nb) := (p37_3.ext E43)
      have F47 : Exa Z h43 b33 "com/example/proofwright/proofwright/cryptoconditions/DerReader" := (p37_0.ext E43)
      have F48 : Fld Z h43 b33 "com/example/proofwright/proofwright/cryptoconditions/DerReader" "bytes" "[B" (.ref b20) := (p37_1.ext E43)
      have F49 : Arv Z h43 b20 k20 .byte nb [(.int (nar .byte (((128 : Int32) ||| nu).toInt8.toInt32))), (.int (nar .byte (ln.toInt8.toInt32)))] (.int (0 : Int32)) := ((F35.keep K37q (ninS ne_b20_b33 nin0)).ext E43)
      have O50 : Old Z n0 h43 := (O40.ext E43)
      obtain ⟨cq51, kq51, q51a, q51b, q51c⟩ := isOf hZ e43 F47
      obtain ⟨_, _, ⟨T51, L51, k51, n51⟩, -, X51, ⟨Lc51, hQ51, l51, y51, z51⟩, st51⟩ := X43.virtualBack hx (y := (⟨"com/example/proofwright/proofwright/cryptoconditions/DerReader", "primitive", "(ILjava/lang/String;)[B"⟩ : MethodName)) (z := (⟨"com/example/proofwright/proofwright/cryptoconditions/DerReader", "primitive", "(ILjava/lang/String;)[B"⟩ : MethodName)) hown (mvT hZ (hw _ (List.mem_of_getElem? (i := 31) rfl))) (mvT hZ (hw _ (List.mem_of_getElem? (i := 32) rfl))) (notFace_of_selects (args := #[]) (mvT hZ (hw _ (List.mem_of_getElem? (i := 34) rfl)))) (mvT hZ (hw _ (List.mem_of_getElem? (i := 34) rfl))) (mvT hZ (hw _ (List.mem_of_getElem? (i := 33) rfl))) (by decide) (backOf (W := 0) (rm5 l Z a0 hw [] b33 nu a43 nb b20 k20 nb [(.int (nar .byte (((128 : Int32) ||| nu).toInt8.toInt32))), (.int (nar .byte (ln.toInt8.toInt32)))] (.int (0 : Int32)) (nar .byte (((128 : Int32) ||| nu).toInt8.toInt32)) (nar .byte (ln.toInt8.toInt32)) h43 n0 O50 F45 F46 F47 F48 F49 ⟨by decide, pb_3⟩ rfl g_b33 ne_b20_b33 ⟨by decide, pb_4⟩ rfl pb_h1 pb_h2 (own_tag128 _ _ hnu) pb_h4 pb_h5 pb_h6 pb_hle pb_hnn pb_hcap pb_hcp1 pb_hcp2 pb_hcp3 pb_hcp4) hZ (hw _ (List.mem_of_getElem? (i := 35) rfl)) (hw _ (List.mem_of_getElem? (i := 2) rfl)) (by decide) (by decide)) q51a q51c (g := (mkF m 177 #[.val (.int x0_0), .val (.int x1_0), .val (.int x2_0), .val (.int m3), .val (.int (1 : Int32)), .val (.int ln), .val (.int ex), .val (.int nu), .val (.int (0 : Int32)), .val (.ref b20), .val (.ref b33), .val (.int (own_r4 (0 : Int32) nb)), .unset, .unset] [(.ref a43), (.int nu), (.ref b33)])) rfl (by rw [hml]; rfl) (Steps.refl _) (argsL := [(.int nu), (.ref a43)]) (rest := []) (lenOf pd_7 rfl) rfl (by show 2 * 0 + _ ≤ _; exact Nat.le_of_eq rfl) (hb hby at_177) (fun _ _ => ⟨rfl, e43, (by decide : 6 + 1 ≤ _), (by decide : 25 + 3 ≤ _)⟩)
      dsimp only [Pt.U, Pt.locs, Pt.cells, Pt.slots] at X51 l51 y51 z51 st51 hQ51
      subst y51 z51
      have F52 : Exa Z h43 b1 "com/example/proofwright/proofwright/cryptoconditions/DerReader" := (((F31.ext E33).keep K37q).ext E43)
      have F53 : Arv Z h43 b4 k4 .byte m3 [] (.int (0 : Int32)) := (((F32.ext E33).keep K37q (ninS ne_b4_b33 nin0)).ext E43)
      obtain ⟨b3_1_9_51, k3_1_9_51, us8_1_9_51, rfl, N51q, K51q, p51_0, p51_1, p51_2, p51_3, p51_4, p51_5⟩ := hQ51
      refine own_stepW (fun t k => st51.trans k) ?_
      have N54 : Fr n0 L51 := by rw [l51]; exact Fr.app N42 N51q
      have sz_b3_1_9_51 : h0.size ≤ b3_1_9_51 := Nat.le_trans K44.1 p51_0
      have g_b3_1_9_51 : n0 ≤ b3_1_9_51 := Nat.le_trans (Nat.le_trans (Nat.le_of_eq O50.1.symm) O50.2.1) p51_0
      have ne_b1_b3_1_9_51 : b1 ≠ b3_1_9_51 := Nat.ne_of_lt (Nat.lt_of_lt_of_le F52.lt p51_0)
      have ne_b4_b3_1_9_51 : b4 ≠ b3_1_9_51 := Nat.ne_of_lt (Nat.lt_of_lt_of_le F53.lt p51_0)
      have ne_b20_b3_1_9_51 : b20 ≠ b3_1_9_51 := Nat.ne_of_lt (Nat.lt_of_lt_of_le F49.lt p51_0)
      have ne_b33_b3_1_9_51 : b33 ≠ b3_1_9_51 := Nat.ne_of_lt (Nat.lt_of_lt_of_le F47.lt p51_0)
      have K55 : Keep h0 T51.heap [] := K44.trans K51q (allS (Or.inr sz_b33) all0)
      show own_EndsW p.tables e below s _ _ _ (T51.setTop (mkF m 180 #[.val (.int x0_0), .val (.int x1_0), .val (.int x2_0), .val (.int m3), .val (.int (1 : Int32)), .val (.int ln), .val (.int ex), .val (.int nu), .val (.int (0 : Int32)), .val (.ref b20), .val (.ref b33), .val (.int (own_r4 (0 : Int32) nb)), .unset, .unset] [(.ref b3_1_9_51)]))
      refine own_stepW (fun t k => XS.astore X51.here hx rfl (hb hby at_180) rfl rfl (l' := #[.val (.int x0_0), .val (.int x1_0), .val (.int x2_0), .val (.int m3), .val (.int (1 : Int32)), .val (.int ln), .val (.int ex), .val (.int nu), .val (.int (0 : Int32)), .val (.ref b20), .val (.ref b33), .val (.int (own_r4 (0 : Int32) nb)), .unset, .val (.ref b3_1_9_51)]) rfl k) ?_
      have J56 : own_EndsW p.tables e below s (Q0 Z x0_0 x1_0 x2_0 h0 n0) 7 28 (T51.setTop (mkF m 195 #[.val (.int x0_0), .val (.int x1_0), .val (.int x2_0), .val (.int m3), .val (.int (1 : Int32)), .val (.int ln), .val (.int ex), .val (.int nu), .val (.int (0 : Int32)), .val (.ref b20), .val (.ref b33), .val (.int (own_r4 (0 : Int32) nb)), .unset, .val (.ref b3_1_9_51)] [(.int (1 : Int32))])) := by
        show own_EndsW p.tables e below s _ _ _ (T51.setTop (mkF m 195 #[.val (.int x0_0), .val (.int x1_0), .val (.int x2_0), .val (.int m3), .val (.int (1 : Int32)), .val (.int ln), .val (.int ex), .val (.int nu), .val (.int (0 : Int32)), .val (.ref b20), .val (.ref b33), .val (.int (own_r4 (0 : Int32) nb)), .unset, .val (.ref b3_1_9_51)] [(.int (1 : Int32))]))
        refine own_stepW (fun t k => XS.istore X51.here hx rfl (hb hby at_195) rfl (l' := #[.val (.int x0_0), .val (.int x1_0), .val (.int x2_0), .val (.int m3), .val (.int (1 : Int32)), .val (.int ln), .val (.int ex), .val (.int nu), .val (.int (0 : Int32)), .val (.ref b20), .val (.ref b33), .val (.int (own_r4 (0 : Int32) nb)), .val (.int (1 : Int32)), .val (.ref b3_1_9_51)]) rfl k) ?_
        show own_EndsW p.tables e below s _ _ _ (T51.setTop (mkF m 197 #[.val (.int x0_0), .val (.int x1_0), .val (.int x2_0), .val (.int m3), .val (.int (1 : Int32)), .val (.int ln), .val (.int ex), .val (.int nu), .val (.int (0 : Int32)), .val (.ref b20), .val (.ref b33), .val (.int (own_r4 (0 : Int32) nb)), .val (.int (1 : Int32)), .val (.ref b3_1_9_51)] []))
        refine own_stepW (fun t k => XS.aload X51.here hx rfl (hb hby at_197) rfl rfl k) ?_
        show own_EndsW p.tables e below s _ _ _ (T51.setTop (mkF m 199 #[.val (.int x0_0), .val (.int x1_0), .val (.int x2_0), .val (.int m3), .val (.int (1 : Int32)), .val (.int ln), .val (.int ex), .val (.int nu), .val (.int (0 : Int32)), .val (.ref b20), .val (.ref b33), .val (.int (own_r4 (0 : Int32) nb)), .val (.int (1 : Int32)), .val (.ref b3_1_9_51)] [(.ref b33)]))
        have O57 : Old Z n0 T51.heap := (O50.keep K51q (allS g_b33 all0))
        obtain ⟨cq58, kq58, q58a, q58b, q58c⟩ := isOf hZ rfl p51_3
        obtain ⟨_, _, ⟨T58, L58, k58, n58⟩, -, X58, ⟨Lc58, hQ58, l58, y58, z58⟩, st58⟩ := X51.virtualBack hx (y := (⟨"com/example/proofwright/proofwright/cryptoconditions/DerReader", "hasMore", "()Z"⟩ : MethodName)) (z := (⟨"com/example/proofwright/proofwright/cryptoconditions/DerReader", "hasMore", "()Z"⟩ : MethodName)) hown (mvT hZ (hw _ (List.mem_of_getElem? (i := 19) rfl))) (mvT hZ (hw _ (List.mem_of_getElem? (i := 20) rfl))) (notFace_of_selects (args := #[]) (mvT hZ (hw _ (List.mem_of_getElem? (i := 22) rfl)))) (mvT hZ (hw _ (List.mem_of_getElem? (i := 22) rfl))) (mvT hZ (hw _ (List.mem_of_getElem? (i := 21) rfl))) (by decide) (backOf (W := 0) (rm4 l Z a0 hw [] b33 ((2 : Int32) + ((((nar .byte (ln.toInt8.toInt32)) &&& (255 : Int32)).toInt64).toInt32)) nb T51.heap n0 O57 p51_1 p51_2) hZ (hw _ (List.mem_of_getElem? (i := 23) rfl)) (hw _ (List.mem_of_getElem? (i := 2) rfl)) (by decide) (by decide)) q58a q58c (g := (mkF m 199 #[.val (.int x0_0), .val (.int x1_0), .val (.int x2_0), .val (.int m3), .val (.int (1 : Int32)), .val (.int ln), .val (.int ex), .val (.int nu), .val (.int (0 : Int32)), .val (.ref b20), .val (.ref b33), .val (.int (own_r4 (0 : Int32) nb)), .val (.int (1 : Int32)), .val (.ref b3_1_9_51)] [(.ref b33)])) rfl (by rw [hml]; rfl) (Steps.refl _) (argsL := []) (rest := []) (lenOf pd_1 rfl) rfl (by show 2 * 0 + _ ≤ _; exact Nat.le_of_eq rfl) (hb hby at_199) (fun _ _ => ⟨rfl, rfl, (by decide : 7 + 0 ≤ _), (by decide : 28 + 0 ≤ _)⟩)
        dsimp only [Pt.U, Pt.locs, Pt.cells, Pt.slots] at X58 l58 y58 z58 st58 hQ58
        subst y58 z58
        obtain ⟨rfl, N58q, e58⟩ := hQ58
        refine own_stepW (fun t k => st58.trans k) ?_
        have N59 : Fr n0 L58 := by rw [l58]; exact Fr.app N54 N58q
        have J60 : own_EndsW p.tables e below s (Q0 Z x0_0 x1_0 x2_0 h0 n0) 7 28 (T58.setTop (mkF m 220 #[.val (.int x0_0), .val (.int x1_0), .val (.int x2_0), .val (.int m3), .val (.int (1 : Int32)), .val (.int ln), .val (.int ex), .val (.int nu), .val (.int (0 : Int32)), .val (.ref b20), .val (.ref b33), .val (.int (own_r4 (0 : Int32) nb)), .val (.int (1 : Int32)), .val (.ref b3_1_9_51)] [(.int (1 : Int32))])) := by
          show own_EndsW p.tables e below s _ _ _ (T58.setTop (mkF m 220 #[.val (.int x0_0), .val (.int x1_0), .val (.int x2_0), .val (.int m3), .val (.int (1 : Int32)), .val (.int ln), .val (.int ex), .val (.int nu), .val (.int (0 : Int32)), .val (.ref b20), .val (.ref b33), .val (.int (own_r4 (0 : Int32) nb)), .val (.int (1 : Int32)), .val (.ref b3_1_9_51)] [(.int (1 : Int32))]))
          refine own_stepW (fun t k => XS.istore X58.here hx rfl (hb hby at_220) rfl (l' := #[.val (.int x0_0), .val (.int x1_0), .val (.int x2_0), .val (.int m3), .val (.int (1 : Int32)), .val (.int ln), .val (.int ex), .val (.int nu), .val (.int (0 : Int32)), .val (.ref b20), .val (.ref b33), .val (.int (own_r4 (0 : Int32) nb)), .val (.int (1 : Int32)), .val (.int (1 : Int32))]) rfl k) ?_
          show own_EndsW p.tables e below s _ _ _ (T58.setTop (mkF m 222 #[.val (.int x0_0), .val (.int x1_0), .val (.int x2_0), .val (.int m3), .val (.int (1 : Int32)), .val (.int ln), .val (.int ex), .val (.int nu), .val (.int (0 : Int32)), .val (.ref b20), .val (.ref b33), .val (.int (own_r4 (0 : Int32) nb)), .val (.int (1 : Int32)), .val (.int (1 : Int32))] []))
          refine own_stepW (fun t k => XS.iload X58.here hx rfl (hb hby at_222) rfl k) ?_
          show own_EndsW p.tables e below s _ _ _ (T58.setTop (mkF m 224 #[.val (.int x0_0), .val (.int x1_0), .val (.int x2_0), .val (.int m3), .val (.int (1 : Int32)), .val (.int ln), .val (.int ex), .val (.int nu), .val (.int (0 : Int32)), .val (.ref b20), .val (.ref b33), .val (.int (own_r4 (0 : Int32) nb)), .val (.int (1 : Int32)), .val (.int (1 : Int32))] [(.int (1 : Int32))]))
          refine own_stepW (fun t k => XS.ifNo X58.here hx rfl (hb hby at_224) rfl ((if0 _ _).trans (feq (by decide : ¬ ((1 : Int32) = (0 : Int32)))).1) k) ?_
          show own_EndsW p.tables e below s _ _ _ (T58.setTop (mkF m 227 #[.val (.int x0_0), .val (.int x1_0), .val (.int x2_0), .val (.int m3), .val (.int (1 : Int32)), .val (.int ln), .val (.int ex), .val (.int nu), .val (.int (0 : Int32)), .val (.ref b20), .val (.ref b33), .val (.int (own_r4 (0 : Int32) nb)), .val (.int (1 : Int32)), .val (.int (1 : Int32))] []))
          refine own_stepW (fun t k => XS.iload X58.here hx rfl (hb hby at_227) rfl k) ?_
          show own_EndsW p.tables e below s _ _ _ (T58.setTop (mkF m 229 #[.val (.int x0_0), .val (.int x1_0), .val (.int x2_0), .val (.int m3), .val (.int (1 : Int32)), .val (.int ln), .val (.int ex), .val (.int nu), .val (.int (0 : Int32)), .val (.ref b20), .val (.ref b33), .val (.int (own_r4 (0 : Int32) nb)), .val (.int (1 : Int32)), .val (.int (1 : Int32))] [(.int (own_r4 (0 : Int32) nb))]))
          have hc61 : ¬ ((own_r4 (0 : Int32) nb) = (0 : Int32)) := pb_h1
          refine own_stepW (fun t k => XS.ifNo X58.here hx rfl (hb hby at_229) rfl ((if0 _ _).trans (feq hc61).1) k) ?_
          show own_EndsW p.tables e below s _ _ _ (T58.setTop (mkF m 232 #[.val (.int x0_0), .val (.int x1_0), .val (.int x2_0), .val (.int m3), .val (.int (1 : Int32)), .val (.int ln), .val (.int ex), .val (.int nu), .val (.int (0 : Int32)), .val (.ref b20), .val (.ref b33), .val (.int (own_r4 (0 : Int32) nb)), .val (.int (1 : Int32)), .val (.int (1 : Int32))] []))
          refine own_stepW (fun t k => XS.iload X58.here hx rfl (hb hby at_232) rfl k) ?_
          show own_EndsW p.tables e below s _ _ _ (T58.setTop (mkF m 234 #[.val (.int x0_0), .val (.int x1_0), .val (.int x2_0), .val (.int m3), .val (.int (1 : Int32)), .val (.int ln), .val (.int ex), .val (.int nu), .val (.int (0 : Int32)), .val (.ref b20), .val (.ref b33), .val (.int (own_r4 (0 : Int32) nb)), .val (.int (1 : Int32)), .val (.int (1 : Int32))] [(.int (1 : Int32))]))
          refine own_stepW (fun t k => XS.ifNo X58.here hx rfl (hb hby at_234) rfl ((if0 _ _).trans (feq (by decide : ¬ ((1 : Int32) = (0 : Int32)))).1) k) ?_
          show own_EndsW p.tables e below s _ _ _ (T58.setTop (mkF m 237 #[.val (.int x0_0), .val (.int x1_0), .val (.int x2_0), .val (.int m3), .val (.int (1 : Int32)), .val (.int ln), .val (.int ex), .val (.int nu), .val (.int (0 : Int32)), .val (.ref b20), .val (.ref b33), .val (.int (own_r4 (0 : Int32) nb)), .val (.int (1 : Int32)), .val (.int (1 : Int32))] []))
          refine own_stepW (fun t k => XS.iload X58.here hx rfl (hb hby at_237) rfl k) ?_
          show own_EndsW p.tables e below s _ _ _ (T58.setTop (mkF m 239 #[.val (.int x0_0), .val (.int x1_0), .val (.int x2_0), .val (.int m3), .val (.int (1 : Int32)), .val (.int ln), .val (.int ex), .val (.int nu), .val (.int (0 : Int32)), .val (.ref b20), .val (.ref b33), .val (.int (own_r4 (0 : Int32) nb)), .val (.int (1 : Int32)), .val (.int (1 : Int32))] [(.int (1 : Int32))]))
          refine own_stepW (fun t k => XS.ifNo X58.here hx rfl (hb hby at_239) rfl ((if0 _ _).trans (feq (by decide : ¬ ((1 : Int32) = (0 : Int32)))).1) k) ?_
          show own_EndsW p.tables e below s _ _ _ (T58.setTop (mkF m 242 #[.val (.int x0_0), .val (.int x1_0), .val (.int x2_0), .val (.int m3), .val (.int (1 : Int32)), .val (.int ln), .val (.int ex), .val (.int nu), .val (.int (0 : Int32)), .val (.ref b20), .val (.ref b33), .val (.int (own_r4 (0 : Int32) nb)), .val (.int (1 : Int32)), .val (.int (1 : Int32))] []))
          refine own_stepW (fun t k => XS.iconst X58.here hx rfl (hb hby at_242) k) ?_
          show own_EndsW p.tables e below s _ _ _ (T58.setTop (mkF m 243 #[.val (.int x0_0), .val (.int x1_0), .val (.int x2_0), .val (.int m3), .val (.int (1 : Int32)), .val (.int ln), .val (.int ex), .val (.int nu), .val (.int (0 : Int32)), .val (.ref b20), .val (.ref b33), .val (.int (own_r4 (0 : Int32) nb)), .val (.int (1 : Int32)), .val (.int (1 : Int32))] [(.int (1 : Int32))]))
          refine own_stepW (fun t k => XS.goto X58.here hx rfl (pc0 := 243) (pc' := 247) rfl (hb hby at_243) (by decide) (by decide) k) ?_
          show own_EndsW p.tables e below s _ _ _ (T58.setTop (mkF m 247 #[.val (.int x0_0), .val (.int x1_0), .val (.int x2_0), .val (.int m3), .val (.int (1 : Int32)), .val (.int ln), .val (.int ex), .val (.int nu), .val (.int (0 : Int32)), .val (.ref b20), .val (.ref b33), .val (.int (own_r4 (0 : Int32) nb)), .val (.int (1 : Int32)), .val (.int (1 : Int32))] [(.int (1 : Int32))]))
          exact own_retNW (s := s) X58 hx hS43 (by rw [e58]; exact (Nat.le_trans hk43 K51q.1)) (t := .boolean) Bd.returns (by simp) (hb hby at_247) hnl (by rw [e58]; exact ⟨rfl, N59⟩) (by decide) (by decide)
        show own_EndsW p.tables e below s _ _ _ (T58.setTop (mkF m 202 #[.val (.int x0_0), .val (.int x1_0), .val (.int x2_0), .val (.int m3), .val (.int (1 : Int32)), .val (.int ln), .val (.int ex), .val (.int nu), .val (.int (0 : Int32)), .val (.ref b20), .val (.ref b33), .val (.int (own_r4 (0 : Int32) nb)), .val (.int (1 : Int32)), .val (.ref b3_1_9_51)] [(.int (own_r4 ((2 : Int32) + ((((nar .byte (ln.toInt8.toInt32)) &&& (255 : Int32)).toInt64).toInt32)) nb))]))
        refine own_stepW (fun t k => XS.iload X58.here hx rfl (hb hby at_202) rfl k) ?_
        show own_EndsW p.tables e below s _ _ _ (T58.setTop (mkF m 204 #[.val (.int x0_0), .val (.int x1_0), .val (.int x2_0), .val (.int m3), .val (.int (1 : Int32)), .val (.int ln), .val (.int ex), .val (.int nu), .val (.int (0 : Int32)), .val (.ref b20), .val (.ref b33), .val (.int (own_r4 (0 : Int32) nb)), .val (.int (1 : Int32)), .val (.ref b3_1_9_51)] [(.int ex), (.int (own_r4 ((2 : Int32) + ((((nar .byte (ln.toInt8.toInt32)) &&& (255 : Int32)).toInt64).toInt32)) nb))]))
        by_cases hc204_62 : (0 : Int32) < ex
        · skip
          refine own_stepW (fun t k => XS.ifNo X58.here hx rfl (hb hby at_204) rfl ((if0 _ _).trans (tlt hc204_62).2.2.2) k) ?_
          show own_EndsW p.tables e below s _ _ _ (T58.setTop (mkF m 207 #[.val (.int x0_0), .val (.int x1_0), .val (.int x2_0), .val (.int m3), .val (.int (1 : Int32)), .val (.int ln), .val (.int ex), .val (.int nu), .val (.int (0 : Int32)), .val (.ref b20), .val (.ref b33), .val (.int (own_r4 (0 : Int32) nb)), .val (.int (1 : Int32)), .val (.ref b3_1_9_51)] [(.int (own_r4 ((2 : Int32) + ((((nar .byte (ln.toInt8.toInt32)) &&& (255 : Int32)).toInt64).toInt32)) nb))]))
          refine own_stepW (fun t k => XS.iconst X58.here hx rfl (hb hby at_207) k) ?_
          show own_EndsW p.tables e below s _ _ _ (T58.setTop (mkF m 208 #[.val (.int x0_0), .val (.int x1_0), .val (.int x2_0), .val (.int m3), .val (.int (1 : Int32)), .val (.int ln), .val (.int ex), .val (.int nu), .val (.int (0 : Int32)), .val (.ref b20), .val (.ref b33), .val (.int (own_r4 (0 : Int32) nb)), .val (.int (1 : Int32)), .val (.ref b3_1_9_51)] [(.int (1 : Int32)), (.int (own_r4 ((2 : Int32) + ((((nar .byte (ln.toInt8.toInt32)) &&& (255 : Int32)).toInt64).toInt32)) nb))]))
          refine own_stepW (fun t k => XS.goto X58.here hx rfl (pc0 := 208) (pc' := 212) rfl (hb hby at_208) (by decide) (by decide) k) ?_
          show own_EndsW p.tables e below s _ _ _ (T58.setTop (mkF m 212 #[.val (.int x0_0), .val (.int x1_0), .val (.int x2_0), .val (.int m3), .val (.int (1 : Int32)), .val (.int ln), .val (.int ex), .val (.int nu), .val (.int (0 : Int32)), .val (.ref b20), .val (.ref b33), .val (.int (own_r4 (0 : Int32) nb)), .val (.int (1 : Int32)), .val (.ref b3_1_9_51)] [(.int (1 : Int32)), (.int (own_r4 ((2 : Int32) + ((((nar .byte (ln.toInt8.toInt32)) &&& (255 : Int32)).toInt64).toInt32)) nb))]))
          have hc63 : (own_r4 ((2 : Int32) + ((((nar .byte (ln.toInt8.toInt32)) &&& (255 : Int32)).toInt64).toInt32)) nb) = (1 : Int32) := (pb_a1.trans (if_pos hc204_62))
          refine own_stepW (fun t k => XS.icmpNo X58.here hx rfl (hb hby at_212) rfl (teq hc63).2 k) ?_
          show own_EndsW p.tables e below s _ _ _ (T58.setTop (mkF m 215 #[.val (.int x0_0), .val (.int x1_0), .val (.int x2_0), .val (.int m3), .val (.int (1 : Int32)), .val (.int ln), .val (.int ex), .val (.int nu), .val (.int (0 : Int32)), .val (.ref b20), .val (.ref b33), .val (.int (own_r4 (0 : Int32) nb)), .val (.int (1 : Int32)), .val (.ref b3_1_9_51)] []))
          refine own_stepW (fun t k => XS.iconst X58.here hx rfl (hb hby at_215) k) ?_
          show own_EndsW p.tables e below s _ _ _ (T58.setTop (mkF m 216 #[.val (.int x0_0), .val (.int x1_0), .val (.int x2_0), .val (.int m3), .val (.int (1 : Int32)), .val (.int ln), .val (.int ex), .val (.int nu), .val (.int (0 : Int32)), .val (.ref b20), .val (.ref b33), .val (.int (own_r4 (0 : Int32) nb)), .val (.int (1 : Int32)), .val (.ref b3_1_9_51)] [(.int (1 : Int32))]))
          refine own_stepW (fun t k => XS.goto X58.here hx rfl (pc0 := 216) (pc' := 220) rfl (hb hby at_216) (by decide) (by decide) k) ?_
          show own_EndsW p.tables e below s _ _ _ (T58.setTop (mkF m 220 #[.val (.int x0_0), .val (.int x1_0), .val (.int x2_0), .val (.int m3), .val (.int (1 : Int32)), .val (.int ln), .val (.int ex), .val (.int nu), .val (.int (0 : Int32)), .val (.ref b20), .val (.ref b33), .val (.int (own_r4 (0 : Int32) nb)), .val (.int (1 : Int32)), .val (.ref b3_1_9_51)] [(.int (1 : Int32))]))
          exact J60
        · skip
          refine own_stepW (fun t k => XS.ifYes X58.here hx rfl (pc0 := 204) (pc' := 211) rfl (hb hby at_204) rfl ((if0 _ _).trans (flt hc204_62).2.2.2) (by decide) (by decide) k) ?_
          show own_EndsW p.tables e below s _ _ _ (T58.setTop (mkF m 211 #[.val (.int x0_0), .val (.int x1_0), .val (.int x2_0), .val (.int m3), .val (.int (1 : Int32)), .val (.int ln), .val (.int ex), .val (.int nu), .val (.int (0 : Int32)), .val (.ref b20), .val (.ref b33), .val (.int (own_r4 (0 : Int32) nb)), .val (.int (1 : Int32)), .val (.ref b3_1_9_51)] [(.int (own_r4 ((2 : Int32) + ((((nar .byte (ln.toInt8.toInt32)) &&& (255 : Int32)).toInt64).toInt32)) nb))]))
          refine own_stepW (fun t k => XS.iconst X58.here hx rfl (hb hby at_211) k) ?_
          show own_EndsW p.tables e below s _ _ _ (T58.setTop (mkF m 212 #[.val (.int x0_0), .val (.int x1_0), .val (.int x2_0), .val (.int m3), .val (.int (1 : Int32)), .val (.int ln), .val (.int ex), .val (.int nu), .val (.int (0 : Int32)), .val (.ref b20), .val (.ref b33), .val (.int (own_r4 (0 : Int32) nb)), .val (.int (1 : Int32)), .val (.ref b3_1_9_51)] [(.int (0 : Int32)), (.int (own_r4 ((2 : Int32) + ((((nar .byte (ln.toInt8.toInt32)) &&& (255 : Int32)).toInt64).toInt32)) nb))]))
          have hc64 : (own_r4 ((2 : Int32) + ((((nar .byte (ln.toInt8.toInt32)) &&& (255 : Int32)).toInt64).toInt32)) nb) = (0 : Int32) := (pb_a1.trans (if_neg hc204_62))
          refine own_stepW (fun t k => XS.icmpNo X58.here hx rfl (hb hby at_212) rfl (teq hc64).2 k) ?_
          show own_EndsW p.tables e below s _ _ _ (T58.setTop (mkF m 215 #[.val (.int x0_0), .val (.int x1_0), .val (.int x2_0), .val (.int m3), .val (.int (1 : Int32)), .val (.int ln), .val (.int ex), .val (.int nu), .val (.int (0 : Int32)), .val (.ref b20), .val (.ref b33), .val (.int (own_r4 (0 : Int32) nb)), .val (.int (1 : Int32)), .val (.ref b3_1_9_51)] []))
          refine own_stepW (fun t k => XS.iconst X58.here hx rfl (hb hby at_215) k) ?_
          show own_EndsW p.tables e below s _ _ _ (T58.setTop (mkF m 216 #[.val (.int x0_0), .val (.int x1_0), .val (.int x2_0), .val (.int m3), .val (.int (1 : Int32)), .val (.int ln), .val (.int ex), .val (.int nu), .val (.int (0 : Int32)), .val (.ref b20), .val (.ref b33), .val (.int (own_r4 (0 : Int32) nb)), .val (.int (1 : Int32)), .val (.ref b3_1_9_51)] [(.int (1 : Int32))]))
          refine own_stepW (fun t k => XS.goto X58.here hx rfl (pc0 := 216) (pc' := 220) rfl (hb hby at_216) (by decide) (by decide) k) ?_
          show own_EndsW p.tables e below s _ _ _ (T58.setTop (mkF m 220 #[.val (.int x0_0), .val (.int x1_0), .val (.int x2_0), .val (.int m3), .val (.int (1 : Int32)), .val (.int ln), .val (.int ex), .val (.int nu), .val (.int (0 : Int32)), .val (.ref b20), .val (.ref b33), .val (.int (own_r4 (0 : Int32) nb)), .val (.int (1 : Int32)), .val (.ref b3_1_9_51)] [(.int (1 : Int32))]))
          exact J60
      show own_EndsW p.tables e below s _ _ _ (T51.setTop (mkF m 182 #[.val (.int x0_0), .val (.int x1_0), .val (.int x2_0), .val (.int m3), .val (.int (1 : Int32)), .val (.int ln), .val (.int ex), .val (.int nu), .val (.int (0 : Int32)), .val (.ref b20), .val (.ref b33), .val (.int (own_r4 (0 : Int32) nb)), .unset, .val (.ref b3_1_9_51)] []))
      refine own_stepW (fun t k => XS.aload X51.here hx rfl (hb hby at_182) rfl rfl k) ?_
      show own_EndsW p.tables e below s _ _ _ (T51.setTop (mkF m 184 #[.val (.int x0_0), .val (.int x1_0), .val (.int x2_0), .val (.int m3), .val (.int (1 : Int32)), .val (.int ln), .val (.int ex), .val (.int nu), .val (.int (0 : Int32)), .val (.ref b20), .val (.ref b33), .val (.int (own_r4 (0 : Int32) nb)), .unset, .val (.ref b3_1_9_51)] [(.ref b3_1_9_51)]))
      obtain ⟨cl65, Ar65, q65, S65, N65, H65, G65⟩ := id p51_5
      have hl65 := len_of S65 N65
      refine own_stepW (fun t k => X51.arraylength hx Ar65.1 (State.isArrayOf_alike hZ.alike Ar65.2.1) (g := (mkF m 184 #[.val (.int x0_0), .val (.int x1_0), .val (.int x2_0), .val (.int m3), .val (.int (1 : Int32)), .val (.int ln), .val (.int ex), .val (.int nu), .val (.int (0 : Int32)), .val (.ref b20), .val (.ref b33), .val (.int (own_r4 (0 : Int32) nb)), .unset, .val (.ref b3_1_9_51)] [(.ref b3_1_9_51)])) rfl rfl (hb hby at_184) _ (hl65.symm ▸ k)) ?_
      show own_EndsW p.tables e below s _ _ _ (T51.setTop (mkF m 185 #[.val (.int x0_0), .val (.int x1_0), .val (.int x2_0), .val (.int m3), .val (.int (1 : Int32)), .val (.int ln), .val (.int ex), .val (.int nu), .val (.int (0 : Int32)), .val (.ref b20), .val (.ref b33), .val (.int (own_r4 (0 : Int32) nb)), .unset, .val (.ref b3_1_9_51)] [(.int (((2 : Int32) + ((((nar .byte (ln.toInt8.toInt32)) &&& (255 : Int32)).toInt64).toInt32)) - (2 : Int32)))]))
      refine own_stepW (fun t k => XS.iload X51.here hx rfl (hb hby at_185) rfl k) ?_
      show own_EndsW p.tables e below s _ _ _ (T51.setTop (mkF m 187 #[.val (.int x0_0), .val (.int x1_0), .val (.int x2_0), .val (.int m3), .val (.int (1 : Int32)), .val (.int ln), .val (.int ex), .val (.int nu), .val (.int (0 : Int32)), .val (.ref b20), .val (.ref b33), .val (.int (own_r4 (0 : Int32) nb)), .unset, .val (.ref b3_1_9_51)] [(.int ln), (.int (((2 : Int32) + ((((nar .byte (ln.toInt8.toInt32)) &&& (255 : Int32)).toInt64).toInt32)) - (2 : Int32)))]))
      have hc66 : (((2 : Int32) + ((((nar .byte (ln.toInt8.toInt32)) &&& (255 : Int32)).toInt64).toInt32)) - (2 : Int32)) = ln := pb_i2
      refine own_stepW (fun t k => XS.icmpNo X51.here hx rfl (hb hby at_187) rfl (teq hc66).2 k) ?_
      show own_EndsW p.tables e below s _ _ _ (T51.setTop (mkF m 190 #[.val (.int x0_0), .val (.int x1_0), .val (.int x2_0), .val (.int m3), .val (.int (1 : Int32)), .val (.int ln), .val (.int ex), .val (.int nu), .val (.int (0 : Int32)), .val (.ref b20), .val (.ref b33), .val (.int (own_r4 (0 : Int32) nb)), .unset, .val (.ref b3_1_9_51)] []))
      refine own_stepW (fun t k => XS.iconst X51.here hx rfl (hb hby at_190) k) ?_
      show own_EndsW p.tables e below s _ _ _ (T51.setTop (mkF m 191 #[.val (.int x0_0), .val (.int x1_0), .val (.int x2_0), .val (.int m3), .val (.int (1 : Int32)), .val (.int ln), .val (.int ex), .val (.int nu), .val (.int (0 : Int32)), .val (.ref b20), .val (.ref b33), .val (.int (own_r4 (0 : Int32) nb)), .unset, .val (.ref b3_1_9_51)] [(.int (1 : Int32))]))
      refine own_stepW (fun t k => XS.goto X51.here hx rfl (pc0 := 191) (pc' := 195) rfl (hb hby at_191) (by decide) (by decide) k) ?_
      show own_EndsW p.tables e below s _ _ _ (T51.setTop (mkF m 195 #[.val (.int x0_0), .val (.int x1_0), .val (.int x2_0), .val (.int m3), .val (.int (1 : Int32)), .val (.int ln), .val (.int ex), .val (.int nu), .val (.int (0 : Int32)), .val (.ref b20), .val (.ref b33), .val (.int (own_r4 (0 : Int32) nb)), .unset, .val (.ref b3_1_9_51)] [(.int (1 : Int32))]))
      exact J56
    · skip
      refine own_stepW (fun t k => XS.ifNo X15.here hx rfl (hb hby at_59) rfl ((if0 _ _).trans (feq hc59_18).1) k) ?_
      show own_EndsW p.tables e below s _ _ _ (T15.setTop (mkF m 62 #[.val (.int x0_0), .val (.int x1_0), .val (.int x2_0), .val (.int m3), .val (.int (1 : Int32)), .val (.int ln), .val (.int ex), .val (.int nu), .unset, .unset, .unset, .unset, .unset, .unset] []))
      refine own_stepW (fun t k => XS.iconst X15.here hx rfl (hb hby at_62) k) ?_
      show own_EndsW p.tables e below s _ _ _ (T15.setTop (mkF m 63 #[.val (.int x0_0), .val (.int x1_0), .val (.int x2_0), .val (.int m3), .val (.int (1 : Int32)), .val (.int ln), .val (.int ex), .val (.int nu), .unset, .unset, .unset, .unset, .unset, .unset] [(.int (1 : Int32))]))
      refine own_stepW (fun t k => XS.goto X15.here hx rfl (pc0 := 63) (pc' := 67) rfl (hb hby at_63) (by decide) (by decide) k) ?_
      show own_EndsW p.tables e below s _ _ _ (T15.setTop (mkF m 67 #[.val (.int x0_0), .val (.int x1_0), .val (.int x2_0), .val (.int m3), .val (.int (1 : Int32)), .val (.int ln), .val (.int ex), .val (.int nu), .unset, .unset, .unset, .unset, .unset, .unset] [(.int (1 : Int32))]))
      refine own_stepW (fun t k => XS.istore X15.here hx rfl (hb hby at_67) rfl (l' := #[.val (.int x0_0), .val (.int x1_0), .val (.int x2_0), .val (.int m3), .val (.int (1 : Int32)), .val (.int ln), .val (.int ex), .val (.int nu), .val (.int (1 : Int32)), .unset, .unset, .unset, .unset, .unset]) rfl k) ?_
      show own_EndsW p.tables e below s _ _ _ (T15.setTop (mkF m 69 #[.val (.int x0_0), .val (.int x1_0), .val (.int x2_0), .val (.int m3), .val (.int (1 : Int32)), .val (.int ln), .val (.int ex), .val (.int nu), .val (.int (1 : Int32)), .unset, .unset, .unset, .unset, .unset] []))
      refine own_stepW (fun t k => XS.iconst X15.here hx rfl (hb hby at_69) k) ?_
      show own_EndsW p.tables e below s _ _ _ (T15.setTop (mkF m 70 #[.val (.int x0_0), .val (.int x1_0), .val (.int x2_0), .val (.int m3), .val (.int (1 : Int32)), .val (.int ln), .val (.int ex), .val (.int nu), .val (.int (1 : Int32)), .unset, .unset, .unset, .unset, .unset] [(.int (2 : Int32))]))
      refine own_stepW (fun t k => XS.iload X15.here hx rfl (hb hby at_70) rfl k) ?_
      show own_EndsW p.tables e below s _ _ _ (T15.setTop (mkF m 72 #[.val (.int x0_0), .val (.int x1_0), .val (.int x2_0), .val (.int m3), .val (.int (1 : Int32)), .val (.int ln), .val (.int ex), .val (.int nu), .val (.int (1 : Int32)), .unset, .unset, .unset, .unset, .unset] [(.int ln), (.int (2 : Int32))]))
      refine own_stepW (fun t k => XS.iadd X15.here hx rfl (hb hby at_72) rfl k) ?_
      show own_EndsW p.tables e below s _ _ _ (T15.setTop (mkF m 73 #[.val (.int x0_0), .val (.int x1_0), .val (.int x2_0), .val (.int m3), .val (.int (1 : Int32)), .val (.int ln), .val (.int ex), .val (.int nu), .val (.int (1 : Int32)), .unset, .unset, .unset, .unset, .unset] [(.int ((2 : Int32) + ln))]))
      refine own_stepW (fun t k => XS.iload X15.here hx rfl (hb hby at_73) rfl k) ?_
      show own_EndsW p.tables e below s _ _ _ (T15.setTop (mkF m 75 #[.val (.int x0_0), .val (.int x1_0), .val (.int x2_0), .val (.int m3), .val (.int (1 : Int32)), .val (.int ln), .val (.int ex), .val (.int nu), .val (.int (1 : Int32)), .unset, .unset, .unset, .unset, .unset] [(.int ex), (.int ((2 : Int32) + ln))]))
      refine own_stepW (fun t k => XS.iadd X15.here hx rfl (hb hby at_75) rfl k) ?_
      show own_EndsW p.tables e below s _ _ _ (T15.setTop (mkF m 76 #[.val (.int x0_0), .val (.int x1_0), .val (.int x2_0), .val (.int m3), .val (.int (1 : Int32)), .val (.int ln), .val (.int ex), .val (.int nu), .val (.int (1 : Int32)), .unset, .unset, .unset, .unset, .unset] [(.int (((2 : Int32) + ln) + ex))]))
      generalize hnb : (((2 : Int32) + ln) + ex) = nb
      obtain ⟨pb_1, pb_2, pb_3, pb_4, pb_h1, pb_h2, pb_h4, pb_h5, pb_h6, pb_hle, pb_hnn, pb_hcap, pb_hcp1, pb_hcp2, pb_hcp3, pb_hcp4, pb_i1, pb_i2, pb_a1⟩ := own_B ln ex nb (hln ▸ own_m3 _) (hex ▸ own_m3 _) hnb
      show own_EndsW p.tables e below s _ _ _ (T15.setTop (mkF m 76 #[.val (.int x0_0), .val (.int x1_0), .val (.int x2_0), .val (.int m3), .val (.int (1 : Int32)), .val (.int ln), .val (.int ex), .val (.int nu), .val (.int (1 : Int32)), .unset, .unset, .unset, .unset, .unset] [(.int nb)]))
      have F67 : Arv Z T11.heap b4 k4 .byte m3 [] (.int (0 : Int32)) := (V4.keep K11q (ninS (Ne.symm ne_b1_b4) nin0))
      obtain ⟨T68, h68, k68, X68, e68, E68, A68, st68⟩ := newP X15 hx hZ (hw _ (List.mem_of_getElem? (i := 3) rfl)) e15 (g := (mkF m 76 #[.val (.int x0_0), .val (.int x1_0), .val (.int x2_0), .val (.int m3), .val (.int (1 : Int32)), .val (.int ln), .val (.int ex), .val (.int nu), .val (.int (1 : Int32)), .unset, .unset, .unset, .unset, .unset] [(.int nb)])) rfl (hb hby at_76) rfl pb_1 (cap := 8) pb_2 (by decide) (by decide) (by decide)
      obtain ⟨b68, g68⟩ : ∃ z, z = T11.heap.size := ⟨_, rfl⟩
      rw [← g68] at A68 st68
      have g_b68 : n0 ≤ b68 := Nat.le_trans (Nat.le_trans (Nat.le_of_eq O14.1.symm) O14.2.1) (Nat.le_of_eq g68.symm)
      have sz_b68 : h0.size ≤ b68 := Nat.le_trans K13.1 (Nat.le_of_eq g68.symm)
      have ne_b1_b68 : b1 ≠ b68 := Nat.ne_of_lt (Nat.lt_of_lt_of_le p11_0.lt (Nat.le_of_eq g68.symm))
      have ne_b4_b68 : b4 ≠ b68 := Nat.ne_of_lt (Nat.lt_of_lt_of_le F67.lt (Nat.le_of_eq g68.symm))
      have V68 : Arv Z h68 b68 k68 .byte nb [] (.int (0 : Int32)) := Arv.new A68 pb_1
      have V68p : Arv Z h68 b68 k68 .byte nb [(.int (0 : Int32)), (.int (0 : Int32))] (.int (0 : Int32)) := V68.pad (pad_rep [] (.int (0 : Int32)) 2)
      refine own_stepW (fun t k => st68 _ k) ?_
      have K69 : Keep h0 h68 [] := K13.ext E68
      show own_EndsW p.tables e below s _ _ _ (T68.setTop (mkF m 78 #[.val (.int x0_0), .val (.int x1_0), .val (.int x2_0), .val (.int m3), .val (.int (1 : Int32)), .val (.int ln), .val (.int ex), .val (.int nu), .val (.int (1 : Int32)), .unset, .unset, .unset, .unset, .unset] [(.ref b68)]))
      refine own_stepW (fun t k => XS.astore X68.here hx rfl (hb hby at_78) rfl rfl (l' := #[.val (.int x0_0), .val (.int x1_0), .val (.int x2_0), .val (.int m3), .val (.int (1 : Int32)), .val (.int ln), .val (.int ex), .val (.int nu), .val (.int (1 : Int32)), .val (.ref b68), .unset, .unset, .unset, .unset]) rfl k) ?_
      show own_EndsW p.tables e below s _ _ _ (T68.setTop (mkF m 80 #[.val (.int x0_0), .val (.int x1_0), .val (.int x2_0), .val (.int m3), .val (.int (1 : Int32)), .val (.int ln), .val (.int ex), .val (.int nu), .val (.int (1 : Int32)), .val (.ref b68), .unset, .unset, .unset, .unset] []))
      refine own_stepW (fun t k => XS.aload X68.here hx rfl (hb hby at_80) rfl rfl k) ?_
      show own_EndsW p.tables e below s _ _ _ (T68.setTop (mkF m 82 #[.val (.int x0_0), .val (.int x1_0), .val (.int x2_0), .val (.int m3), .val (.int (1 : Int32)), .val (.int ln), .val (.int ex), .val (.int nu), .val (.int (1 : Int32)), .val (.ref b68), .unset, .unset, .unset, .unset] [(.ref b68)]))
      refine own_stepW (fun t k => XS.iconst X68.here hx rfl (hb hby at_82) k) ?_
      show own_EndsW p.tables e below s _ _ _ (T68.setTop (mkF m 83 #[.val (.int x0_0), .val (.int x1_0), .val (.int x2_0), .val (.int m3), .val (.int (1 : Int32)), .val (.int ln), .val (.int ex), .val (.int nu), .val (.int (1 : Int32)), .val (.ref b68), .unset, .unset, .unset, .unset] [(.int (0 : Int32)), (.ref b68)]))
      refine own_stepW (fun t k => XS.iload X68.here hx rfl (hb hby at_83) rfl k) ?_
      show own_EndsW p.tables e below s _ _ _ (T68.setTop (mkF m 85 #[.val (.int x0_0), .val (.int x1_0), .val (.int x2_0), .val (.int m3), .val (.int (1 : Int32)), .val (.int ln), .val (.int ex), .val (.int nu), .val (.int (1 : Int32)), .val (.ref b68), .unset, .unset, .unset, .unset] [(.int (1 : Int32)), (.int (0 : Int32)), (.ref b68)]))
      refine own_stepW (fun t k => XS.ifNo X68.here hx rfl (hb hby at_85) rfl ((if0 _ _).trans (feq (by decide : ¬ ((1 : Int32) = (0 : Int32)))).1) k) ?_
      show own_EndsW p.tables e below s _ _ _ (T68.setTop (mkF m 88 #[.val (.int x0_0), .val (.int x1_0), .val (.int x2_0), .val (.int m3), .val (.int (1 : Int32)), .val (.int ln), .val (.int ex), .val (.int nu), .val (.int (1 : Int32)), .val (.ref b68), .unset, .unset, .unset, .unset] [(.int (0 : Int32)), (.ref b68)]))
      refine own_stepW (fun t k => XS.sipush X68.here hx rfl (hb hby at_88) k) ?_
      show own_EndsW p.tables e below s _ _ _ (T68.setTop (mkF m 91 #[.val (.int x0_0), .val (.int x1_0), .val (.int x2_0), .val (.int m3), .val (.int (1 : Int32)), .val (.int ln), .val (.int ex), .val (.int nu), .val (.int (1 : Int32)), .val (.ref b68), .unset, .unset, .unset, .unset] [(.int (160 : Int32)), (.int (0 : Int32)), (.ref b68)]))
      refine own_stepW (fun t k => XS.goto X68.here hx rfl (pc0 := 91) (pc' := 97) rfl (hb hby at_91) (by decide) (by decide) k) ?_
      show own_EndsW p.tables e below s _ _ _ (T68.setTop (mkF m 97 #[.val (.int x0_0), .val (.int x1_0), .val (.int x2_0), .val (.int m3), .val (.int (1 : Int32)), .val (.int ln), .val (.int ex), .val (.int nu), .val (.int (1 : Int32)), .val (.ref b68), .unset, .unset, .unset, .unset] [(.int (160 : Int32)), (.int (0 : Int32)), (.ref b68)]))
      refine own_stepW (fun t k => XS.iload X68.here hx rfl (hb hby at_97) rfl k) ?_
      show own_EndsW p.tables e below s _ _ _ (T68.setTop (mkF m 99 #[.val (.int x0_0), .val (.int x1_0), .val (.int x2_0), .val (.int m3), .val (.int (1 : Int32)), .val (.int ln), .val (.int ex), .val (.int nu), .val (.int (1 : Int32)), .val (.ref b68), .unset, .unset, .unset, .unset] [(.int nu), (.int (160 : Int32)), (.int (0 : Int32)), (.ref b68)]))
      refine own_stepW (fun t k => XS.ior X68.here hx rfl (hb hby at_99) rfl k) ?_
      show own_EndsW p.tables e below s _ _ _ (T68.setTop (mkF m 100 #[.val (.int x0_0), .val (.int x1_0), .val (.int x2_0), .val (.int m3), .val (.int (1 : Int32)), .val (.int ln), .val (.int ex), .val (.int nu), .val (.int (1 : Int32)), .val (.ref b68), .unset, .unset, .unset, .unset] [(.int ((160 : Int32) ||| nu)), (.int (0 : Int32)), (.ref b68)]))
      refine own_stepW (fun t k => XS.i2b X68.here hx rfl (hb hby at_100) rfl k) ?_
      show own_EndsW p.tables e below s _ _ _ (T68.setTop (mkF m 101 #[.val (.int x0_0), .val (.int x1_0), .val (.int x2_0), .val (.int m3), .val (.int (1 : Int32)), .val (.int ln), .val (.int ex), .val (.int nu), .val (.int (1 : Int32)), .val (.ref b68), .unset, .unset, .unset, .unset] [(.int (((160 : Int32) ||| nu).toInt8.toInt32)), (.int (0 : Int32)), (.ref b68)]))
      obtain ⟨cl70, Ar70, q70, S70, N70, H70, G70⟩ := id V68p
      have hin70 : ¬ ((0 : Int32) < 0 ∨ cl70.slots.size ≤ ((0 : Int32)).toNatClampNeg) := inb_of S70 ⟨by decide, pb_3⟩
      obtain ⟨T71, h71, X71, e71, W71, st71⟩ := stB X68 hx hZ e68 Ar70 (j := (0 : Int32)) hin70 (g := (mkF m 101 #[.val (.int x0_0), .val (.int x1_0), .val (.int x2_0), .val (.int m3), .val (.int (1 : Int32)), .val (.int ln), .val (.int ex), .val (.int nu), .val (.int (1 : Int32)), .val (.ref b68), .unset, .unset, .unset, .unset] [(.int (((160 : Int32) ||| nu).toInt8.toInt32)), (.int (0 : Int32)), (.ref b68)])) rfl rfl (hb hby at_101)
      refine own_stepW (fun t k => st71 _ k) ?_
      have V71 : Arv Z h71 b68 k68 .byte nb [(.int (nar .byte (((160 : Int32) ||| nu).toInt8.toInt32))), (.int (0 : Int32))] (.int (0 : Int32)) := Arv.set Ar70 q70 S70 N70 H70 G70 (fits_nar_byte _) W71 0 rfl (Nat.le_of_ble_eq_true rfl)
      have K72 : Keep h0 h71 [] := K69.wr W71 (Or.inr sz_b68)
      have N73 := Fr.snoc X71 N16 g_b68
      show own_EndsW p.tables e below s _ _ _ (T71.setTop (mkF m 102 #[.val (.int x0_0), .val (.int x1_0), .val (.int x2_0), .val (.int m3), .val (.int (1 : Int32)), .val (.int ln), .val (.int ex), .val (.int nu), .val (.int (1 : Int32)), .val (.ref b68), .unset, .unset, .unset, .unset] []))
      refine own_stepW (fun t k => XS.aload X71.here hx rfl (hb hby at_102) rfl rfl k) ?_
      show own_EndsW p.tables e below s _ _ _ (T71.setTop (mkF m 104 #[.val (.int x0_0), .val (.int x1_0), .val (.int x2_0), .val (.int m3), .val (.int (1 : Int32)), .val (.int ln), .val (.int ex), .val (.int nu), .val (.int (1 : Int32)), .val (.ref b68), .unset, .unset, .unset, .unset] [(.ref b68)]))
      refine own_stepW (fun t k => XS.iconst X71.here hx rfl (hb hby at_104) k) ?_
      show own_EndsW p.tables e below s _ _ _ (T71.setTop (mkF m 105 #[.val (.int x0_0), .val (.int x1_0), .val (.int x2_0), .val (.int m3), .val (.int (1 : Int32)), .val (.int ln), .val (.int ex), .val (.int nu), .val (.int (1 : Int32)), .val (.ref b68), .unset, .unset, .unset, .unset] [(.int (1 : Int32)), (.ref b68)]))
      refine own_stepW (fun t k => XS.iload X71.here hx rfl (hb hby at_105) rfl k) ?_
      show own_EndsW p.tables e below s _ _ _ (T71.setTop (mkF m 107 #[.val (.int x0_0), .val (.int x1_0), .val (.int x2_0), .val (.int m3), .val (.int (1 : Int32)), .val (.int ln), .val (.int ex), .val (.int nu), .val (.int (1 : Int32)), .val (.ref b68), .unset, .unset, .unset, .unset] [(.int ln), (.int (1 : Int32)), (.ref b68)]))
      refine own_stepW (fun t k => XS.i2b X71.here hx rfl (hb hby at_107) rfl k) ?_
      show own_EndsW p.tables e below s _ _ _ (T71.setTop (mkF m 108 #[.val (.int x0_0), .val (.int x1_0), .val (.int x2_0), .val (.int m3), .val (.int (1 : Int32)), .val (.int ln), .val (.int ex), .val (.int nu), .val (.int (1 : Int32)), .val (.ref b68), .unset, .unset, .unset, .unset] [(.int (ln.toInt8.toInt32)), (.int (1 : Int32)), (.ref b68)]))
      obtain ⟨cl74, Ar74, q74, S74, N74, H74, G74⟩ := id V71
      have hin74 : ¬ ((1 : Int32) < 0 ∨ cl74.slots.size ≤ ((1 : Int32)).toNatClampNeg) := inb_of S74 ⟨by decide, pb_4⟩
      obtain ⟨T75, h75, X75, e75, W75, st75⟩ := stB X71 hx hZ e71 Ar74 (j := (1 : Int32)) hin74 (g := (mkF m 108 #[.val (.int x0_0), .val (.int x1_0), .val (.int x2_0), .val (.int m3), .val (.int (1 : Int32)), .val (.int ln), .val (.int ex), .val (.int nu), .val (.int (1 : Int32)), .val (.ref b68), .unset, .unset, .unset, .unset] [(.int (ln.toInt8.toInt32)), (.int (1 : Int32)), (.ref b68)])) rfl rfl (hb hby at_108)
      refine own_stepW (fun t k => st75 _ k) ?_
      have V75 : Arv Z h75 b68 k68 .byte nb [(.int (nar .byte (((160 : Int32) ||| nu).toInt8.toInt32))), (.int (nar .byte (ln.toInt8.toInt32)))] (.int (0 : Int32)) := Arv.set Ar74 q74 S74 N74 H74 G74 (fits_nar_byte _) W75 1 rfl (Nat.le_of_ble_eq_true rfl)
      have K76 : Keep h0 h75 [] := K72.wr W75 (Or.inr sz_b68)
      have N77 := Fr.snoc X75 N73 g_b68
      show own_EndsW p.tables e below s _ _ _ (T75.setTop (mkF m 109 #[.val (.int x0_0), .val (.int x1_0), .val (.int x2_0), .val (.int m3), .val (.int (1 : Int32)), .val (.int ln), .val (.int ex), .val (.int nu), .val (.int (1 : Int32)), .val (.ref b68), .unset, .unset, .unset, .unset] []))
      have O78 : Old Z n0 h75 := (((O14.ext E68).wr W71 g_b68).wr W75 g_b68)
      have F79 : Exa Z h75 b1 "com/example/proofwright/proofwright/cryptoconditions/DerReader" := (((p11_0.ext E68).wr W71).wr W75)
      have F80 : Arv Z h75 b4 k4 .byte m3 [] (.int (0 : Int32)) := (((F67.ext E68).other W71 ne_b4_b68).other W75 ne_b4_b68)
      obtain ⟨T81, h81, X81, e81, E81, A81, D81, -, st81⟩ := newO X75 hx hZ hown (hw _ (List.mem_of_getElem? (i := 0) rfl)) (hw _ (List.mem_of_getElem? (i := 1) rfl)) (hw _ (List.mem_of_getElem? (i := 2) rfl)) e75 (g := (mkF m 109 #[.val (.int x0_0), .val (.int x1_0), .val (.int x2_0), .val (.int m3), .val (.int (1 : Int32)), .val (.int ln), .val (.int ex), .val (.int nu), .val (.int (1 : Int32)), .val (.ref b68), .unset, .unset, .unset, .unset] [])) rfl (hb hby at_109) (by decide) (by decide)
      obtain ⟨b81, g81⟩ : ∃ z, z = h75.size := ⟨_, rfl⟩
      rw [← g81] at A81 D81 st81
      have g_b81 : n0 ≤ b81 := Nat.le_trans (Nat.le_trans (Nat.le_of_eq O78.1.symm) O78.2.1) (Nat.le_of_eq g81.symm)
      have sz_b81 : h0.size ≤ b81 := Nat.le_trans K76.1 (Nat.le_of_eq g81.symm)
      have ne_b1_b81 : b1 ≠ b81 := Nat.ne_of_lt (Nat.lt_of_lt_of_le F79.lt (Nat.le_of_eq g81.symm))
      have ne_b4_b81 : b4 ≠ b81 := Nat.ne_of_lt (Nat.lt_of_lt_of_le F80.lt (Nat.le_of_eq g81.symm))
      have ne_b68_b81 : b68 ≠ b81 := Nat.ne_of_lt (Nat.lt_of_lt_of_le V75.lt (Nat.le_of_eq g81.symm))
      have F81_bytes : Fld Z h81 b81 "com/example/proofwright/proofwright/cryptoconditions/DerReader" "bytes" "[B" .null := D81 (Or.inr (hw _ (List.mem_of_getElem? (i := 14) rfl))) (ty := (.array .byte)) (by decide)
      have F81_position : Fld Z h81 b81 "com/example/proofwright/proofwright/cryptoconditions/DerReader" "position" "I" (.int (0 : Int32)) := D81 (Or.inl (hw _ (List.mem_of_getElem? (i := 16) rfl))) (ty := .int) (by decide)
      have F81_end : Fld Z h81 b81 "com/example/proofwright/proofwright/cryptoconditions/DerReader" "end" "I" (.int (0 : Int32)) := D81 (Or.inr (hw _ (List.mem_of_getElem? (i := 18) rfl))) (ty := .int) (by decide)
      refine own_stepW (fun t k => st81 _ k) ?_
      have K82 : Keep h0 h81 [] := K76.ext E81
      show own_EndsW p.tables e below s _ _ _ (T81.setTop (mkF m 112 #[.val (.int x0_0), .val (.int x1_0), .val (.int x2_0), .val (.int m3), .val (.int (1 : Int32)), .val (.int ln), .val (.int ex), .val (.int nu), .val (.int (1 : Int32)), .val (.ref b68), .unset, .unset, .unset, .unset] [(.ref b81)]))
      refine own_stepW (fun t k => XS.dup X81.here hx rfl (hb hby at_112) rfl rfl k) ?_
      show own_EndsW p.tables e below s _ _ _ (T81.setTop (mkF m 113 #[.val (.int x0_0), .val (.int x1_0), .val (.int x2_0), .val (.int m3), .val (.int (1 : Int32)), .val (.int ln), .val (.int ex), .val (.int nu), .val (.int (1 : Int32)), .val (.ref b68), .unset, .unset, .unset, .unset] [(.ref b81), (.ref b81)]))
      refine own_stepW (fun t k => XS.aload X81.here hx rfl (hb hby at_113) rfl rfl k) ?_
      show own_EndsW p.tables e below s _ _ _ (T81.setTop (mkF m 115 #[.val (.int x0_0), .val (.int x1_0), .val (.int x2_0), .val (.int m3), .val (.int (1 : Int32)), .val (.int ln), .val (.int ex), .val (.int nu), .val (.int (1 : Int32)), .val (.ref b68), .unset, .unset, .unset, .unset] [(.ref b68), (.ref b81), (.ref b81)]))
      have F83 : Arv Z h81 b68 k68 .byte nb [(.int (nar .byte (((160 : Int32) ||| nu).toInt8.toInt32))), (.int (nar .byte (ln.toInt8.toInt32)))] (.int (0 : Int32)) := (V75.ext E81)
      have O84 : Old Z n0 h81 := (O78.ext E81)
      obtain ⟨_, _, ⟨T85, L85, k85, n85⟩, -, X85, ⟨Lc85, hQ85, l85, y85, z85⟩, st85⟩ := X81.specialBack hx (y := (⟨"com/example/proofwright/proofwright/cryptoconditions/DerReader", "<init>", "([B)V"⟩ : MethodName)) rfl hown (mvT hZ (hw _ (List.mem_of_getElem? (i := 4) rfl))) (mvT hZ (hw _ (List.mem_of_getElem? (i := 5) rfl))) (mvT hZ (hw _ (List.mem_of_getElem? (i := 6) rfl))) (by decide) (backOf (W := 1) (rm1 l Z a0 hw [] b81 b68 k68 nb [(.int (nar .byte (((160 : Int32) ||| nu).toInt8.toInt32))), (.int (nar .byte (ln.toInt8.toInt32)))] (.int (0 : Int32)) .null (.int (0 : Int32)) (.int (0 : Int32)) h81 n0 O84 F83 A81 F81_bytes g_b81 F81_position F81_end) hZ (hw _ (List.mem_of_getElem? (i := 6) rfl)) (hw _ (List.mem_of_getElem? (i := 2) rfl)) (by decide) (by decide)) (g := (mkF m 115 #[.val (.int x0_0), .val (.int x1_0), .val (.int x2_0), .val (.int m3), .val (.int (1 : Int32)), .val (.int ln), .val (.int ex), .val (.int nu), .val (.int (1 : Int32)), .val (.ref b68), .unset, .unset, .unset, .unset] [(.ref b68), (.ref b81), (.ref b81)])) rfl (by rw [hml]; rfl) (Steps.refl _) (a := b81) (argsL := [(.ref b68)]) (rest := [(.ref b81)]) (lenOf pd_6 rfl) rfl (by show 2 * 0 + _ ≤ _; exact Nat.le_of_eq rfl) (hb hby at_115) (fun _ _ => ⟨rfl, e81, (by decide : 4 + 0 ≤ _), (by decide : 17 + 0 ≤ _)⟩)
      dsimp only [Pt.U, Pt.locs, Pt.cells, Pt.slots] at X85 l85 y85 z85 st85 hQ85
      subst y85 z85
      obtain ⟨rfl, N85q, K85q, p85_0, p85_1, p85_2, p85_3⟩ := hQ85
      refine own_stepW (fun t k => st85.trans k) ?_
      have N86 : Fr n0 L85 := by rw [l85]; exact Fr.app N77 N85q
      have K87 : Keep h0 T85.heap [] := K82.trans K85q (allS (Or.inr sz_b81) all0)
      show own_EndsW p.tables e below s _ _ _ (T85.setTop (mkF m 118 #[.val (.int x0_0), .val (.int x1_0), .val (.int x2_0), .val (.int m3), .val (.int (1 : Int32)), .val (.int ln), .val (.int ex), .val (.int nu), .val (.int (1 : Int32)), .val (.ref b68), .unset, .unset, .unset, .unset] [(.ref b81)]))
      refine own_stepW (fun t k => XS.astore X85.here hx rfl (hb hby at_118) rfl rfl (l' := #[.val (.int x0_0), .val (.int x1_0), .val (.int x2_0), .val (.int m3), .val (.int (1 : Int32)), .val (.int ln), .val (.int ex), .val (.int nu), .val (.int (1 : Int32)), .val (.ref b68), .val (.ref b81), .unset, .unset, .unset]) rfl k) ?_
      show own_EndsW p.tables e below s _ _ _ (T85.setTop (mkF m 120 #[.val (.int x0_0), .val (.int x1_0), .val (.int x2_0), .val (.int m3), .val (.int (1 : Int32)), .val (.int ln), .val (.int ex), .val (.int nu), .val (.int (1 : Int32)), .val (.ref b68), .val (.ref b81), .unset, .unset, .unset] []))
      refine own_stepW (fun t k => XS.aload X85.here hx rfl (hb hby at_120) rfl rfl k) ?_
      show own_EndsW p.tables e below s _ _ _ (T85.setTop (mkF m 122 #[.val (.int x0_0), .val (.int x1_0), .val (.int x2_0), .val (.int m3), .val (.int (1 : Int32)), .val (.int ln), .val (.int ex), .val (.int nu), .val (.int (1 : Int32)), .val (.ref b68), .val (.ref b81), .unset, .unset, .unset] [(.ref b81)]))
      have O88 : Old Z n0 T85.heap := (O84.keep K85q (allS g_b81 all0))
      obtain ⟨cq89, kq89, q89a, q89b, q89c⟩ := isOf hZ rfl p85_0
      obtain ⟨_, _, ⟨T89, L89, k89, n89⟩, -, X89, ⟨Lc89, hQ89, l89, y89, z89⟩, st89⟩ := X85.virtualBack hx (y := (⟨"com/example/proofwright/proofwright/cryptoconditions/DerReader", "hasMore", "()Z"⟩ : MethodName)) (z := (⟨"com/example/proofwright/proofwright/cryptoconditions/DerReader", "hasMore", "()Z"⟩ : MethodName)) hown (mvT hZ (hw _ (List.mem_of_getElem? (i := 19) rfl))) (mvT hZ (hw _ (List.mem_of_getElem? (i := 20) rfl))) (notFace_of_selects (args := #[]) (mvT hZ (hw _ (List.mem_of_getElem? (i := 22) rfl)))) (mvT hZ (hw _ (List.mem_of_getElem? (i := 22) rfl))) (mvT hZ (hw _ (List.mem_of_getElem? (i := 21) rfl))) (by decide) (backOf (W := 0) (rm4 l Z a0 hw [] b81 (0 : Int32) nb T85.heap n0 O88 p85_2 p85_3) hZ (hw _ (List.mem_of_getElem? (i := 23) rfl)) (hw _ (List.mem_of_getElem? (i := 2) rfl)) (by decide) (by decide)) q89a q89c (g := (mkF m 122 #[.val (.int x0_0), .val (.int x1_0), .val (.int x2_0), .val (.int m3), .val (.int (1 : Int32)), .val (.int ln), .val (.int ex), .val (.int nu), .val (.int (1 : Int32)), .val (.ref b68), .val (.ref b81), .unset, .unset, .unset] [(.ref b81)])) rfl (by rw [hml]; rfl) (Steps.refl _) (argsL := []) (rest := []) (lenOf pd_1 rfl) rfl (by show 2 * 0 + _ ≤ _; exact Nat.le_of_eq rfl) (hb hby at_122) (fun _ _ => ⟨rfl, rfl, (by decide : 4 + 0 ≤ _), (by decide : 17 + 0 ≤ _)⟩)
      dsimp only [Pt.U, Pt.locs, Pt.cells, Pt.slots] at X89 l89 y89 z89 st89 hQ89
      subst y89 z89
      obtain ⟨rfl, N89q, e89⟩ := hQ89
      refine own_stepW (fun t k => st89.trans k) ?_
      have N90 : Fr n0 L89 := by rw [l89]; exact Fr.app N86 N89q
      show own_EndsW p.tables e below s _ _ _ (T89.setTop (mkF m 125 #[.val (.int x0_0), .val (.int x1_0), .val (.int x2_0), .val (.int m3), .val (.int (1 : Int32)), .val (.int ln), .val (.int ex), .val (.int nu), .val (.int (1 : Int32)), .val (.ref b68), .val (.ref b81), .unset, .unset, .unset] [(.int (own_r4 (0 : Int32) nb))]))
      refine own_stepW (fun t k => XS.istore X89.here hx rfl (hb hby at_125) rfl (l' := #[.val (.int x0_0), .val (.int x1_0), .val (.int x2_0), .val (.int m3), .val (.int (1 : Int32)), .val (.int ln), .val (.int ex), .val (.int nu), .val (.int (1 : Int32)), .val (.ref b68), .val (.ref b81), .val (.int (own_r4 (0 : Int32) nb)), .unset, .unset]) rfl k) ?_
      show own_EndsW p.tables e below s _ _ _ (T89.setTop (mkF m 127 #[.val (.int x0_0), .val (.int x1_0), .val (.int x2_0), .val (.int m3), .val (.int (1 : Int32)), .val (.int ln), .val (.int ex), .val (.int nu), .val (.int (1 : Int32)), .val (.ref b68), .val (.ref b81), .val (.int (own_r4 (0 : Int32) nb)), .unset, .unset] []))
      refine own_stepW (fun t k => XS.iload X89.here hx rfl (hb hby at_127) rfl k) ?_
      show own_EndsW p.tables e below s _ _ _ (T89.setTop (mkF m 129 #[.val (.int x0_0), .val (.int x1_0), .val (.int x2_0), .val (.int m3), .val (.int (1 : Int32)), .val (.int ln), .val (.int ex), .val (.int nu), .val (.int (1 : Int32)), .val (.ref b68), .val (.ref b81), .val (.int (own_r4 (0 : Int32) nb)), .unset, .unset] [(.int (1 : Int32))]))
      refine own_stepW (fun t k => XS.ifNo X89.here hx rfl (hb hby at_129) rfl ((if0 _ _).trans (feq (by decide : ¬ ((1 : Int32) = (0 : Int32)))).1) k) ?_
      show own_EndsW p.tables e below s _ _ _ (T89.setTop (mkF m 132 #[.val (.int x0_0), .val (.int x1_0), .val (.int x2_0), .val (.int m3), .val (.int (1 : Int32)), .val (.int ln), .val (.int ex), .val (.int nu), .val (.int (1 : Int32)), .val (.ref b68), .val (.ref b81), .val (.int (own_r4 (0 : Int32) nb)), .unset, .unset] []))
      refine own_stepW (fun t k => XS.aload X89.here hx rfl (hb hby at_132) rfl rfl k) ?_
      show own_EndsW p.tables e below s _ _ _ (T89.setTop (mkF m 134 #[.val (.int x0_0), .val (.int x1_0), .val (.int x2_0), .val (.int m3), .val (.int (1 : Int32)), .val (.int ln), .val (.int ex), .val (.int nu), .val (.int (1 : Int32)), .val (.ref b68), .val (.ref b81), .val (.int (own_r4 (0 : Int32) nb)), .unset, .unset] [(.ref b81)]))
      refine own_stepW (fun t k => XS.iload X89.here hx rfl (hb hby at_134) rfl k) ?_
      show own_EndsW p.tables e below s _ _ _ (T89.setTop (mkF m 136 #[.val (.int x0_0), .val (.int x1_0), .val (.int x2_0), .val (.int m3), .val (.int (1 : Int32)), .val (.int ln), .val (.int ex), .val (.int nu), .val (.int (1 : Int32)), .val (.ref b68), .val (.ref b81), .val (.int (own_r4 (0 : Int32) nb)), .unset, .unset] [(.int nu), (.ref b81)]))
      have hS0 := (State.WarmedH.refl s).since 0
      obtain ⟨a91, T91, h91, k91, X91, e91, E91, hS91, hk91, hZ, hown, st91⟩ := ldcS (s := s) (vm0 := s.vm) X89 hx hZ hown (hw _ (List.mem_of_getElem? (i := 24) rfl)) (fun d hd => hw d (own_strAtoms d hd)) e89 hS0 (Nat.zero_le _) (g := (mkF m 136 #[.val (.int x0_0), .val (.int x1_0), .val (.int x2_0), .val (.int m3), .val (.int (1 : Int32)), .val (.int ln), .val (.int ex), .val (.int nu), .val (.int (1 : Int32)), .val (.ref b68), .val (.ref b81), .val (.int (own_r4 (0 : Int32) nb)), .unset, .unset] [(.int nu), (.ref b81)])) rfl (hb hby at_136) (n := 4) (by decide) (by decide) (by decide) (by decide)
      refine own_stepW (fun t k => st91 _ k) ?_
      have K92 : Keep h0 h91 [] := K87.ext E91
      show own_EndsW p.tables e below s _ _ _ (T91.setTop (mkF m 138 #[.val (.int x0_0), .val (.int x1_0), .val (.int x2_0), .val (.int m3), .val (.int (1 : Int32)), .val (.int ln), .val (.int ex), .val (.int nu), .val (.int (1 : Int32)), .val (.ref b68), .val (.ref b81), .val (.int (own_r4 (0 : Int32) nb)), .unset, .unset] [(.ref a91), (.int nu), (.ref b81)]))
      have F93 : Fld Z h91 b81 "com/example/proofwright/proofwright/cryptoconditions/DerReader" "position" "I" (.int (0 : Int32)) := (p85_2.ext E91)
      have F94 : Fld Z h91 b81 "com/example/proofwright/proofwright/cryptoconditions/DerReader" "end" "I" (.int nb) := (p85_3.ext E91)
      have F95 : Exa Z h91 b81 "com/example/proofwright/proofwright/cryptoconditions/DerReader" := (p85_0.ext E91)
      have F96 : Fld Z h91 b81 "com/example/proofwright/proofwright/cryptoconditions/DerReader" "bytes" "[B" (.ref b68) := (p85_1.ext E91)
      have F97 : Arv Z h91 b68 k68 .byte nb [(.int (nar .byte (((160 : Int32) ||| nu).toInt8.toInt32))), (.int (nar .byte (ln.toInt8.toInt32)))] (.int (0 : Int32)) := ((F83.keep K85q (ninS ne_b68_b81 nin0)).ext E91)
      have O98 : Old Z n0 h91 := (O88.ext E91)
      obtain ⟨cq99, kq99, q99a, q99b, q99c⟩ := isOf hZ e91 F95
      obtain ⟨_, _, ⟨T99, L99, k99, n99⟩, -, X99, ⟨Lc99, hQ99, l99, y99, z99⟩, st99⟩ := X91.virtualBack hx (y := (⟨"com/example/proofwright/proofwright/cryptoconditions/DerReader", "constructed", "(ILjava/lang/String;)Lcom/example/proofwright/proofwright/cryptoconditions/DerReader;"⟩ : MethodName)) (z := (⟨"com/example/proofwright/proofwright/cryptoconditions/DerReader", "constructed", "(ILjava/lang/String;)Lcom/example/proofwright/proofwright/cryptoconditions/DerReader;"⟩ : MethodName)) hown (mvT hZ (hw _ (List.mem_of_getElem? (i := 59) rfl))) (mvT hZ (hw _ (List.mem_of_getElem? (i := 60) rfl))) (notFace_of_selects (args := #[]) (mvT hZ (hw _ (List.mem_of_getElem? (i := 62) rfl)))) (mvT hZ (hw _ (List.mem_of_getElem? (i := 62) rfl))) (mvT hZ (hw _ (List.mem_of_getElem? (i := 61) rfl))) (by decide) (backOf (W := 0) (rm11 l Z a0 hw [] b81 nu a91 nb b68 k68 nb [(.int (nar .byte (((160 : Int32) ||| nu).toInt8.toInt32))), (.int (nar .byte (ln.toInt8.toInt32)))] (.int (0 : Int32)) (nar .byte (((160 : Int32) ||| nu).toInt8.toInt32)) (nar .byte (ln.toInt8.toInt32)) h91 n0 O98 F93 F94 F95 F96 F97 ⟨by decide, pb_3⟩ rfl g_b81 ne_b68_b81 ⟨by decide, pb_4⟩ rfl pb_h1 pb_h2 (own_tag160 _ _ hnu) pb_h4 pb_h5 pb_h6) hZ (hw _ (List.mem_of_getElem? (i := 63) rfl)) (hw _ (List.mem_of_getElem? (i := 2) rfl)) (by decide) (by decide)) q99a q99c (g := (mkF m 138 #[.val (.int x0_0), .val (.int x1_0), .val (.int x2_0), .val (.int m3), .val (.int (1 : Int32)), .val (.int ln), .val (.int ex), .val (.int nu), .val (.int (1 : Int32)), .val (.ref b68), .val (.ref b81), .val (.int (own_r4 (0 : Int32) nb)), .unset, .unset] [(.ref a91), (.int nu), (.ref b81)])) rfl (by rw [hml]; rfl) (Steps.refl _) (argsL := [(.int nu), (.ref a91)]) (rest := []) (lenOf pd_8 rfl) rfl (by show 2 * 0 + _ ≤ _; exact Nat.le_of_eq rfl) (hb hby at_138) (fun _ _ => ⟨rfl, e91, (by decide : 6 + 1 ≤ _), (by decide : 25 + 3 ≤ _)⟩)
      dsimp only [Pt.U, Pt.locs, Pt.cells, Pt.slots] at X99 l99 y99 z99 st99 hQ99
      subst y99 z99
      have F100 : Exa Z h91 b1 "com/example/proofwright/proofwright/cryptoconditions/DerReader" := (((F79.ext E81).keep K85q).ext E91)
      have F101 : Arv Z h91 b4 k4 .byte m3 [] (.int (0 : Int32)) := (((F80.ext E81).keep K85q (ninS ne_b4_b81 nin0)).ext E91)
      obtain ⟨b6_99, rfl, N99q, K99q, p99_0, p99_1, p99_2, p99_3, p99_4, p99_5, p99_6, p99_7, p99_8⟩ := hQ99
      refine own_stepW (fun t k => st99.trans k) ?_
      have N102 : Fr n0 L99 := by rw [l99]; exact Fr.app N90 N99q
      have sz_b6_99 : h0.size ≤ b6_99 := Nat.le_trans K92.1 p99_0
      have g_b6_99 : n0 ≤ b6_99 := Nat.le_trans (Nat.le_trans (Nat.le_of_eq O98.1.symm) O98.2.1) p99_0
      have ne_b1_b6_99 : b1 ≠ b6_99 := Nat.ne_of_lt (Nat.lt_of_lt_of_le F100.lt p99_0)
      have ne_b4_b6_99 : b4 ≠ b6_99 := Nat.ne_of_lt (Nat.lt_of_lt_of_le F101.lt p99_0)
      have ne_b68_b6_99 : b68 ≠ b6_99 := Nat.ne_of_lt (Nat.lt_of_lt_of_le F97.lt p99_0)
      have ne_b81_b6_99 : b81 ≠ b6_99 := Nat.ne_of_lt (Nat.lt_of_lt_of_le F95.lt p99_0)
      have K103 : Keep h0 T99.heap [] := K92.trans K99q (allS (Or.inr sz_b81) all0)
      show own_EndsW p.tables e below s _ _ _ (T99.setTop (mkF m 141 #[.val (.int x0_0), .val (.int x1_0), .val (.int x2_0), .val (.int m3), .val (.int (1 : Int32)), .val (.int ln), .val (.int ex), .val (.int nu), .val (.int (1 : Int32)), .val (.ref b68), .val (.ref b81), .val (.int (own_r4 (0 : Int32) nb)), .unset, .unset] [(.ref b6_99)]))
      refine own_stepW (fun t k => XS.astore X99.here hx rfl (hb hby at_141) rfl rfl (l' := #[.val (.int x0_0), .val (.int x1_0), .val (.int x2_0), .val (.int m3), .val (.int (1 : Int32)), .val (.int ln), .val (.int ex), .val (.int nu), .val (.int (1 : Int32)), .val (.ref b68), .val (.ref b81), .val (.int (own_r4 (0 : Int32) nb)), .unset, .val (.ref b6_99)]) rfl k) ?_
      show own_EndsW p.tables e below s _ _ _ (T99.setTop (mkF m 143 #[.val (.int x0_0), .val (.int x1_0), .val (.int x2_0), .val (.int m3), .val (.int (1 : Int32)), .val (.int ln), .val (.int ex), .val (.int nu), .val (.int (1 : Int32)), .val (.ref b68), .val (.ref b81), .val (.int (own_r4 (0 : Int32) nb)), .unset, .val (.ref b6_99)] []))
      refine own_stepW (fun t k => XS.aload X99.here hx rfl (hb hby at_143) rfl rfl k) ?_
      show own_EndsW p.tables e below s _ _ _ (T99.setTop (mkF m 145 #[.val (.int x0_0), .val (.int x1_0), .val (.int x2_0), .val (.int m3), .val (.int (1 : Int32)), .val (.int ln), .val (.int ex), .val (.int nu), .val (.int (1 : Int32)), .val (.ref b68), .val (.ref b81), .val (.int (own_r4 (0 : Int32) nb)), .unset, .val (.ref b6_99)] [(.ref b6_99)]))
      have O104 : Old Z n0 T99.heap := (O98.keep K99q (allS g_b81 all0))
      obtain ⟨cq105, kq105, q105a, q105b, q105c⟩ := isOf hZ rfl p99_5
      obtain ⟨_, _, ⟨T105, L105, k105, n105⟩, -, X105, ⟨Lc105, hQ105, l105, y105, z105⟩, st105⟩ := X99.virtualBack hx (y := (⟨"com/example/proofwright/proofwright/cryptoconditions/DerReader", "hasMore", "()Z"⟩ : MethodName)) (z := (⟨"com/example/proofwright/proofwright/cryptoconditions/DerReader", "hasMore", "()Z"⟩ : MethodName)) hown (mvT hZ (hw _ (List.mem_of_getElem? (i := 19) rfl))) (mvT hZ (hw _ (List.mem_of_getElem? (i := 20) rfl))) (notFace_of_selects (args := #[]) (mvT hZ (hw _ (List.mem_of_getElem? (i := 22) rfl)))) (mvT hZ (hw _ (List.mem_of_getElem? (i := 22) rfl))) (mvT hZ (hw _ (List.mem_of_getElem? (i := 21) rfl))) (by decide) (backOf (W := 0) (rm4 l Z a0 hw [] b6_99 (2 : Int32) ((2 : Int32) + ((((nar .byte (ln.toInt8.toInt32)) &&& (255 : Int32)).toInt64).toInt32)) T99.heap n0 O104 p99_7 p99_8) hZ (hw _ (List.mem_of_getElem? (i := 23) rfl)) (hw _ (List.mem_of_getElem? (i := 2) rfl)) (by decide) (by decide)) q105a q105c (g := (mkF m 145 #[.val (.int x0_0), .val (.int x1_0), .val (.int x2_0), .val (.int m3), .val (.int (1 : Int32)), .val (.int ln), .val (.int ex), .val (.int nu), .val (.int (1 : Int32)), .val (.ref b68), .val (.ref b81), .val (.int (own_r4 (0 : Int32) nb)), .unset, .val (.ref b6_99)] [(.ref b6_99)])) rfl (by rw [hml]; rfl) (Steps.refl _) (argsL := []) (rest := []) (lenOf pd_1 rfl) rfl (by show 2 * 0 + _ ≤ _; exact Nat.le_of_eq rfl) (hb hby at_145) (fun _ _ => ⟨rfl, rfl, (by decide : 7 + 0 ≤ _), (by decide : 28 + 0 ≤ _)⟩)
      dsimp only [Pt.U, Pt.locs, Pt.cells, Pt.slots] at X105 l105 y105 z105 st105 hQ105
      subst y105 z105
      obtain ⟨rfl, N105q, e105⟩ := hQ105
      refine own_stepW (fun t k => st105.trans k) ?_
      have N106 : Fr n0 L105 := by rw [l105]; exact Fr.app N102 N105q
      have J107 : own_EndsW p.tables e below s (Q0 Z x0_0 x1_0 x2_0 h0 n0) 7 28 (T105.setTop (mkF m 166 #[.val (.int x0_0), .val (.int x1_0), .val (.int x2_0), .val (.int m3), .val (.int (1 : Int32)), .val (.int ln), .val (.int ex), .val (.int nu), .val (.int (1 : Int32)), .val (.ref b68), .val (.ref b81), .val (.int (own_r4 (0 : Int32) nb)), .unset, .val (.ref b6_99)] [(.int (1 : Int32))])) := by
        show own_EndsW p.tables e below s _ _ _ (T105.setTop (mkF m 166 #[.val (.int x0_0), .val (.int x1_0), .val (.int x2_0), .val (.int m3), .val (.int (1 : Int32)), .val (.int ln), .val (.int ex), .val (.int nu), .val (.int (1 : Int32)), .val (.ref b68), .val (.ref b81), .val (.int (own_r4 (0 : Int32) nb)), .unset, .val (.ref b6_99)] [(.int (1 : Int32))]))
        refine own_stepW (fun t k => XS.istore X105.here hx rfl (hb hby at_166) rfl (l' := #[.val (.int x0_0), .val (.int x1_0), .val (.int x2_0), .val (.int m3), .val (.int (1 : Int32)), .val (.int ln), .val (.int ex), .val (.int nu), .val (.int (1 : Int32)), .val (.ref b68), .val (.ref b81), .val (.int (own_r4 (0 : Int32) nb)), .val (.int (1 : Int32)), .val (.ref b6_99)]) rfl k) ?_
        show own_EndsW p.tables e below s _ _ _ (T105.setTop (mkF m 168 #[.val (.int x0_0), .val (.int x1_0), .val (.int x2_0), .val (.int m3), .val (.int (1 : Int32)), .val (.int ln), .val (.int ex), .val (.int nu), .val (.int (1 : Int32)), .val (.ref b68), .val (.ref b81), .val (.int (own_r4 (0 : Int32) nb)), .val (.int (1 : Int32)), .val (.ref b6_99)] []))
        refine own_stepW (fun t k => XS.goto X105.here hx rfl (pc0 := 168) (pc' := 197) rfl (hb hby at_168) (by decide) (by decide) k) ?_
        show own_EndsW p.tables e below s _ _ _ (T105.setTop (mkF m 197 #[.val (.int x0_0), .val (.int x1_0), .val (.int x2_0), .val (.int m3), .val (.int (1 : Int32)), .val (.int ln), .val (.int ex), .val (.int nu), .val (.int (1 : Int32)), .val (.ref b68), .val (.ref b81), .val (.int (own_r4 (0 : Int32) nb)), .val (.int (1 : Int32)), .val (.ref b6_99)] []))
        refine own_stepW (fun t k => XS.aload X105.here hx rfl (hb hby at_197) rfl rfl k) ?_
        show own_EndsW p.tables e below s _ _ _ (T105.setTop (mkF m 199 #[.val (.int x0_0), .val (.int x1_0), .val (.int x2_0), .val (.int m3), .val (.int (1 : Int32)), .val (.int ln), .val (.int ex), .val (.int nu), .val (.int (1 : Int32)), .val (.ref b68), .val (.ref b81), .val (.int (own_r4 (0 : Int32) nb)), .val (.int (1 : Int32)), .val (.ref b6_99)] [(.ref b81)]))
        obtain ⟨cq108, kq108, q108a, q108b, q108c⟩ := isOf hZ e105 p99_3
        obtain ⟨_, _, ⟨T108, L108, k108, n108⟩, -, X108, ⟨Lc108, hQ108, l108, y108, z108⟩, st108⟩ := X105.virtualBack hx (y := (⟨"com/example/proofwright/proofwright/cryptoconditions/DerReader", "hasMore", "()Z"⟩ : MethodName)) (z := (⟨"com/example/proofwright/proofwright/cryptoconditions/DerReader", "hasMore", "()Z"⟩ : MethodName)) hown (mvT hZ (hw _ (List.mem_of_getElem? (i := 19) rfl))) (mvT hZ (hw _ (List.mem_of_getElem? (i := 20) rfl))) (notFace_of_selects (args := #[]) (mvT hZ (hw _ (List.mem_of_getElem? (i := 22) rfl)))) (mvT hZ (hw _ (List.mem_of_getElem? (i := 22) rfl))) (mvT hZ (hw _ (List.mem_of_getElem? (i := 21) rfl))) (by decide) (backOf (W := 0) (rm4 l Z a0 hw [] b81 ((2 : Int32) + ((((nar .byte (ln.toInt8.toInt32)) &&& (255 : Int32)).toInt64).toInt32)) nb T99.heap n0 O104 p99_1 p99_2) hZ (hw _ (List.mem_of_getElem? (i := 23) rfl)) (hw _ (List.mem_of_getElem? (i := 2) rfl)) (by decide) (by decide)) q108a q108c (g := (mkF m 199 #[.val (.int x0_0), .val (.int x1_0), .val (.int x2_0), .val (.int m3), .val (.int (1 : Int32)), .val (.int ln), .val (.int ex), .val (.int nu), .val (.int (1 : Int32)), .val (.ref b68), .val (.ref b81), .val (.int (own_r4 (0 : Int32) nb)), .val (.int (1 : Int32)), .val (.ref b6_99)] [(.ref b81)])) rfl (by rw [hml]; rfl) (Steps.refl _) (argsL := []) (rest := []) (lenOf pd_1 rfl) rfl (by show 2 * 0 + _ ≤ _; exact Nat.le_of_eq rfl) (hb hby at_199) (fun _ _ => ⟨rfl, e105, (by decide : 7 + 0 ≤ _), (by decide : 28 + 0 ≤ _)⟩)
        dsimp only [Pt.U, Pt.locs, Pt.cells, Pt.slots] at X108 l108 y108 z108 st108 hQ108
        subst y108 z108
        obtain ⟨rfl, N108q, e108⟩ := hQ108
        refine own_stepW (fun t k => st108.trans k) ?_
        have N109 : Fr n0 L108 := by rw [l108]; exact Fr.app N106 N108q
        have J110 : own_EndsW p.tables e below s (Q0 Z x0_0 x1_0 x2_0 h0 n0) 7 28 (T108.setTop (mkF m 220 #[.val (.int x0_0), .val (.int x1_0), .val (.int x2_0), .val (.int m3), .val (.int (1 : Int32)), .val (.int ln), .val (.int ex), .val (.int nu), .val (.int (1 : Int32)), .val (.ref b68), .val (.ref b81), .val (.int (own_r4 (0 : Int32) nb)), .val (.int (1 : Int32)), .val (.ref b6_99)] [(.int (1 : Int32))])) := by
          show own_EndsW p.tables e below s _ _ _ (T108.setTop (mkF m 220 #[.val (.int x0_0), .val (.int x1_0), .val (.int x2_0), .val (.int m3), .val (.int (1 : Int32)), .val (.int ln), .val (.int ex), .val (.int nu), .val (.int (1 : Int32)), .val (.ref b68), .val (.ref b81), .val (.int (own_r4 (0 : Int32) nb)), .val (.int (1 : Int32)), .val (.ref b6_99)] [(.int (1 : Int32))]))
          refine own_stepW (fun t k => XS.istore X108.here hx rfl (hb hby at_220) rfl (l' := #[.val (.int x0_0), .val (.int x1_0), .val (.int x2_0), .val (.int m3), .val (.int (1 : Int32)), .val (.int ln), .val (.int ex), .val (.int nu), .val (.int (1 : Int32)), .val (.ref b68), .val (.ref b81), .val (.int (own_r4 (0 : Int32) nb)), .val (.int (1 : Int32)), .val (.int (1 : Int32))]) rfl k) ?_
          show own_EndsW p.tables e below s _ _ _ (T108.setTop (mkF m 222 #[.val (.int x0_0), .val (.int x1_0), .val (.int x2_0), .val (.int m3), .val (.int (1 : Int32)), .val (.int ln), .val (.int ex), .val (.int nu), .val (.int (1 : Int32)), .val (.ref b68), .val (.ref b81), .val (.int (own_r4 (0 : Int32) nb)), .val (.int (1 : Int32)), .val (.int (1 : Int32))] []))
          refine own_stepW (fun t k => XS.iload X108.here hx rfl (hb hby at_222) rfl k) ?_
          show own_EndsW p.tables e below s _ _ _ (T108.setTop (mkF m 224 #[.val (.int x0_0), .val (.int x1_0), .val (.int x2_0), .val (.int m3), .val (.int (1 : Int32)), .val (.int ln), .val (.int ex), .val (.int nu), .val (.int (1 : Int32)), .val (.ref b68), .val (.ref b81), .val (.int (own_r4 (0 : Int32) nb)), .val (.int (1 : Int32)), .val (.int (1 : Int32))] [(.int (1 : Int32))]))
          refine own_stepW (fun t k => XS.ifNo X108.here hx rfl (hb hby at_224) rfl ((if0 _ _).trans (feq (by decide : ¬ ((1 : Int32) = (0 : Int32)))).1) k) ?_
          show own_EndsW p.tables e below s _ _ _ (T108.setTop (mkF m 227 #[.val (.int x0_0), .val (.int x1_0), .val (.int x2_0), .val (.int m3), .val (.int (1 : Int32)), .val (.int ln), .val (.int ex), .val (.int nu), .val (.int (1 : Int32)), .val (.ref b68), .val (.ref b81), .val (.int (own_r4 (0 : Int32) nb)), .val (.int (1 : Int32)), .val (.int (1 : Int32))] []))
          refine own_stepW (fun t k => XS.iload X108.here hx rfl (hb hby at_227) rfl k) ?_
          show own_EndsW p.tables e below s _ _ _ (T108.setTop (mkF m 229 #[.val (.int x0_0), .val (.int x1_0), .val (.int x2_0), .val (.int m3), .val (.int (1 : Int32)), .val (.int ln), .val (.int ex), .val (.int nu), .val (.int (1 : Int32)), .val (.ref b68), .val (.ref b81), .val (.int (own_r4 (0 : Int32) nb)), .val (.int (1 : Int32)), .val (.int (1 : Int32))] [(.int (own_r4 (0 : Int32) nb))]))
          have hc111 : ¬ ((own_r4 (0 : Int32) nb) = (0 : Int32)) := pb_h1
          refine own_stepW (fun t k => XS.ifNo X108.here hx rfl (hb hby at_229) rfl ((if0 _ _).trans (feq hc111).1) k) ?_
          show own_EndsW p.tables e below s _ _ _ (T108.setTop (mkF m 232 #[.val (.int x0_0), .val (.int x1_0), .val (.int x2_0), .val (.int m3), .val (.int (1 : Int32)), .val (.int ln), .val (.int ex), .val (.int nu), .val (.int (1 : Int32)), .val (.ref b68), .val (.ref b81), .val (.int (own_r4 (0 : Int32) nb)), .val (.int (1 : Int32)), .val (.int (1 : Int32))] []))
          refine own_stepW (fun t k => XS.iload X108.here hx rfl (hb hby at_232) rfl k) ?_
          show own_EndsW p.tables e below s _ _ _ (T108.setTop (mkF m 234 #[.val (.int x0_0), .val (.int x1_0), .val (.int x2_0), .val (.int m3), .val (.int (1 : Int32)), .val (.int ln), .val (.int ex), .val (.int nu), .val (.int (1 : Int32)), .val (.ref b68), .val (.ref b81), .val (.int (own_r4 (0 : Int32) nb)), .val (.int (1 : Int32)), .val (.int (1 : Int32))] [(.int (1 : Int32))]))
          refine own_stepW (fun t k => XS.ifNo X108.here hx rfl (hb hby at_234) rfl ((if0 _ _).trans (feq (by decide : ¬ ((1 : Int32) = (0 : Int32)))).1) k) ?_
          show own_EndsW p.tables e below s _ _ _ (T108.setTop (mkF m 237 #[.val (.int x0_0), .val (.int x1_0), .val (.int x2_0), .val (.int m3), .val (.int (1 : Int32)), .val (.int ln), .val (.int ex), .val (.int nu), .val (.int (1 : Int32)), .val (.ref b68), .val (.ref b81), .val (.int (own_r4 (0 : Int32) nb)), .val (.int (1 : Int32)), .val (.int (1 : Int32))] []))
          refine own_stepW (fun t k => XS.iload X108.here hx rfl (hb hby at_237) rfl k) ?_
          show own_EndsW p.tables e below s _ _ _ (T108.setTop (mkF m 239 #[.val (.int x0_0), .val (.int x1_0), .val (.int x2_0), .val (.int m3), .val (.int (1 : Int32)), .val (.int ln), .val (.int ex), .val (.int nu), .val (.int (1 : Int32)), .val (.ref b68), .val (.ref b81), .val (.int (own_r4 (0 : Int32) nb)), .val (.int (1 : Int32)), .val (.int (1 : Int32))] [(.int (1 : Int32))]))
          refine own_stepW (fun t k => XS.ifNo X108.here hx rfl (hb hby at_239) rfl ((if0 _ _).trans (feq (by decide : ¬ ((1 : Int32) = (0 : Int32)))).1) k) ?_
          show own_EndsW p.tables e below s _ _ _ (T108.setTop (mkF m 242 #[.val (.int x0_0), .val (.int x1_0), .val (.int x2_0), .val (.int m3), .val (.int (1 : Int32)), .val (.int ln), .val (.int ex), .val (.int nu), .val (.int (1 : Int32)), .val (.ref b68), .val (.ref b81), .val (.int (own_r4 (0 : Int32) nb)), .val (.int (1 : Int32)), .val (.int (1 : Int32))] []))
          refine own_stepW (fun t k => XS.iconst X108.here hx rfl (hb hby at_242) k) ?_
          show own_EndsW p.tables e below s _ _ _ (T108.setTop (mkF m 243 #[.val (.int x0_0), .val (.int x1_0), .val (.int x2_0), .val (.int m3), .val (.int (1 : Int32)), .val (.int ln), .val (.int ex), .val (.int nu), .val (.int (1 : Int32)), .val (.ref b68), .val (.ref b81), .val (.int (own_r4 (0 : Int32) nb)), .val (.int (1 : Int32)), .val (.int (1 : Int32))] [(.int (1 : Int32))]))
          refine own_stepW (fun t k => XS.goto X108.here hx rfl (pc0 := 243) (pc' := 247) rfl (hb hby at_243) (by decide) (by decide) k) ?_
          show own_EndsW p.tables e below s _ _ _ (T108.setTop (mkF m 247 #[.val (.int x0_0), .val (.int x1_0), .val (.int x2_0), .val (.int m3), .val (.int (1 : Int32)), .val (.int ln), .val (.int ex), .val (.int nu), .val (.int (1 : Int32)), .val (.ref b68), .val (.ref b81), .val (.int (own_r4 (0 : Int32) nb)), .val (.int (1 : Int32)), .val (.int (1 : Int32))] [(.int (1 : Int32))]))
          exact own_retNW (s := s) X108 hx hS91 (by rw [e108]; exact (Nat.le_trans hk91 K99q.1)) (t := .boolean) Bd.returns (by simp) (hb hby at_247) hnl (by rw [e108]; exact ⟨rfl, N109⟩) (by decide) (by decide)
        show own_EndsW p.tables e below s _ _ _ (T108.setTop (mkF m 202 #[.val (.int x0_0), .val (.int x1_0), .val (.int x2_0), .val (.int m3), .val (.int (1 : Int32)), .val (.int ln), .val (.int ex), .val (.int nu), .val (.int (1 : Int32)), .val (.ref b68), .val (.ref b81), .val (.int (own_r4 (0 : Int32) nb)), .val (.int (1 : Int32)), .val (.ref b6_99)] [(.int (own_r4 ((2 : Int32) + ((((nar .byte (ln.toInt8.toInt32)) &&& (255 : Int32)).toInt64).toInt32)) nb))]))
        refine own_stepW (fun t k => XS.iload X108.here hx rfl (hb hby at_202) rfl k) ?_
        show own_EndsW p.tables e below s _ _ _ (T108.setTop (mkF m 204 #[.val (.int x0_0), .val (.int x1_0), .val (.int x2_0), .val (.int m3), .val (.int (1 : Int32)), .val (.int ln), .val (.int ex), .val (.int nu), .val (.int (1 : Int32)), .val (.ref b68), .val (.ref b81), .val (.int (own_r4 (0 : Int32) nb)), .val (.int (1 : Int32)), .val (.ref b6_99)] [(.int ex), (.int (own_r4 ((2 : Int32) + ((((nar .byte (ln.toInt8.toInt32)) &&& (255 : Int32)).toInt64).toInt32)) nb))]))
        by_cases hc204_112 : (0 : Int32) < ex
        · skip
          refine own_stepW (fun t k => XS.ifNo X108.here hx rfl (hb hby at_204) rfl ((if0 _ _).trans (tlt hc204_112).2.2.2) k) ?_
          show own_EndsW p.tables e below s _ _ _ (T108.setTop (mkF m 207 #[.val (.int x0_0), .val (.int x1_0), .val (.int x2_0), .val (.int m3), .val (.int (1 : Int32)), .val (.int ln), .val (.int ex), .val (.int nu), .val (.int (1 : Int32)), .val (.ref b68), .val (.ref b81), .val (.int (own_r4 (0 : Int32) nb)), .val (.int (1 : Int32)), .val (.ref b6_99)] [(.int (own_r4 ((2 : Int32) + ((((nar .byte (ln.toInt8.toInt32)) &&& (255 : Int32)).toInt64).toInt32)) nb))]))
          refine own_stepW (fun t k => XS.iconst X108.here hx rfl (hb hby at_207) k) ?_
          show own_EndsW p.tables e below s _ _ _ (T108.setTop (mkF m 208 #[.val (.int x0_0), .val (.int x1_0), .val (.int x2_0), .val (.int m3), .val (.int (1 : Int32)), .val (.int ln), .val (.int ex), .val (.int nu), .val (.int (1 : Int32)), .val (.ref b68), .val (.ref b81), .val (.int (own_r4 (0 : Int32) nb)), .val (.int (1 : Int32)), .val (.ref b6_99)] [(.int (1 : Int32)), (.int (own_r4 ((2 : Int32) + ((((nar .byte (ln.toInt8.toInt32)) &&& (255 : Int32)).toInt64).toInt32)) nb))]))
          refine own_stepW (fun t k => XS.goto X108.here hx rfl (pc0 := 208) (pc' := 212) rfl (hb hby at_208) (by decide) (by decide) k) ?_
          show own_EndsW p.tables e below s _ _ _ (T108.setTop (mkF m 212 #[.val (.int x0_0), .val (.int x1_0), .val (.int x2_0), .val (.int m3), .val (.int (1 : Int32)), .val (.int ln), .val (.int ex), .val (.int nu), .val (.int (1 : Int32)), .val (.ref b68), .val (.ref b81), .val (.int (own_r4 (0 : Int32) nb)), .val (.int (1 : Int32)), .val (.ref b6_99)] [(.int (1 : Int32)), (.int (own_r4 ((2 : Int32) + ((((nar .byte (ln.toInt8.toInt32)) &&& (255 : Int32)).toInt64).toInt32)) nb))]))
          have hc113 : (own_r4 ((2 : Int32) + ((((nar .byte (ln.toInt8.toInt32)) &&& (255 : Int32)).toInt64).toInt32)) nb) = (1 : Int32) := (pb_a1.trans (if_pos hc204_112))
          refine own_stepW (fun t k => XS.icmpNo X108.here hx rfl (hb hby at_212) rfl (teq hc113).2 k) ?_
          show own_EndsW p.tables e below s _ _ _ (T108.setTop (mkF m 215 #[.val (.int x0_0), .val (.int x1_0), .val (.int x2_0), .val (.int m3), .val (.int (1 : Int32)), .val (.int ln), .val (.int ex), .val (.int nu), .val (.int (1 : Int32)), .val (.ref b68), .val (.ref b81), .val (.int (own_r4 (0 : Int32) nb)), .val (.int (1 : Int32)), .val (.ref b6_99)] []))
          refine own_stepW (fun t k => XS.iconst X108.here hx rfl (hb hby at_215) k) ?_
          show own_EndsW p.tables e below s _ _ _ (T108.setTop (mkF m 216 #[.val (.int x0_0), .val (.int x1_0), .val (.int x2_0), .val (.int m3), .val (.int (1 : Int32)), .val (.int ln), .val (.int ex), .val (.int nu), .val (.int (1 : Int32)), .val (.ref b68), .val (.ref b81), .val (.int (own_r4 (0 : Int32) nb)), .val (.int (1 : Int32)), .val (.ref b6_99)] [(.int (1 : Int32))]))
          refine own_stepW (fun t k => XS.goto X108.here hx rfl (pc0 := 216) (pc' := 220) rfl (hb hby at_216) (by decide) (by decide) k) ?_
          show own_EndsW p.tables e below s _ _ _ (T108.setTop (mkF m 220 #[.val (.int x0_0), .val (.int x1_0), .val (.int x2_0), .val (.int m3), .val (.int (1 : Int32)), .val (.int ln), .val (.int ex), .val (.int nu), .val (.int (1 : Int32)), .val (.ref b68), .val (.ref b81), .val (.int (own_r4 (0 : Int32) nb)), .val (.int (1 : Int32)), .val (.ref b6_99)] [(.int (1 : Int32))]))
          exact J110
        · skip
          refine own_stepW (fun t k => XS.ifYes X108.here hx rfl (pc0 := 204) (pc' := 211) rfl (hb hby at_204) rfl ((if0 _ _).trans (flt hc204_112).2.2.2) (by decide) (by decide) k) ?_
          show own_EndsW p.tables e below s _ _ _ (T108.setTop (mkF m 211 #[.val (.int x0_0), .val (.int x1_0), .val (.int x2_0), .val (.int m3), .val (.int (1 : Int32)), .val (.int ln), .val (.int ex), .val (.int nu), .val (.int (1 : Int32)), .val (.ref b68), .val (.ref b81), .val (.int (own_r4 (0 : Int32) nb)), .val (.int (1 : Int32)), .val (.ref b6_99)] [(.int (own_r4 ((2 : Int32) + ((((nar .byte (ln.toInt8.toInt32)) &&& (255 : Int32)).toInt64).toInt32)) nb))]))
          refine own_stepW (fun t k => XS.iconst X108.here hx rfl (hb hby at_211) k) ?_
          show own_EndsW p.tables e below s _ _ _ (T108.setTop (mkF m 212 #[.val (.int x0_0), .val (.int x1_0), .val (.int x2_0), .val (.int m3), .val (.int (1 : Int32)), .val (.int ln), .val (.int ex), .val (.int nu), .val (.int (1 : Int32)), .val (.ref b68), .val (.ref b81), .val (.int (own_r4 (0 : Int32) nb)), .val (.int (1 : Int32)), .val (.ref b6_99)] [(.int (0 : Int32)), (.int (own_r4 ((2 : Int32) + ((((nar .byte (ln.toInt8.toInt32)) &&& (255 : Int32)).toInt64).toInt32)) nb))]))
          have hc114 : (own_r4 ((2 : Int32) + ((((nar .byte (ln.toInt8.toInt32)) &&& (255 : Int32)).toInt64).toInt32)) nb) = (0 : Int32) := (pb_a1.trans (if_neg hc204_112))
          refine own_stepW (fun t k => XS.icmpNo X108.here hx rfl (hb hby at_212) rfl (teq hc114).2 k) ?_
          show own_EndsW p.tables e below s _ _ _ (T108.setTop (mkF m 215 #[.val (.int x0_0), .val (.int x1_0), .val (.int x2_0), .val (.int m3), .val (.int (1 : Int32)), .val (.int ln), .val (.int ex), .val (.int nu), .val (.int (1 : Int32)), .val (.ref b68), .val (.ref b81), .val (.int (own_r4 (0 : Int32) nb)), .val (.int (1 : Int32)), .val (.ref b6_99)] []))
          refine own_stepW (fun t k => XS.iconst X108.here hx rfl (hb hby at_215) k) ?_
          show own_EndsW p.tables e below s _ _ _ (T108.setTop (mkF m 216 #[.val (.int x0_0), .val (.int x1_0), .val (.int x2_0), .val (.int m3), .val (.int (1 : Int32)), .val (.int ln), .val (.int ex), .val (.int nu), .val (.int (1 : Int32)), .val (.ref b68), .val (.ref b81), .val (.int (own_r4 (0 : Int32) nb)), .val (.int (1 : Int32)), .val (.ref b6_99)] [(.int (1 : Int32))]))
          refine own_stepW (fun t k => XS.goto X108.here hx rfl (pc0 := 216) (pc' := 220) rfl (hb hby at_216) (by decide) (by decide) k) ?_
          show own_EndsW p.tables e below s _ _ _ (T108.setTop (mkF m 220 #[.val (.int x0_0), .val (.int x1_0), .val (.int x2_0), .val (.int m3), .val (.int (1 : Int32)), .val (.int ln), .val (.int ex), .val (.int nu), .val (.int (1 : Int32)), .val (.ref b68), .val (.ref b81), .val (.int (own_r4 (0 : Int32) nb)), .val (.int (1 : Int32)), .val (.ref b6_99)] [(.int (1 : Int32))]))
          exact J110
      show own_EndsW p.tables e below s _ _ _ (T105.setTop (mkF m 148 #[.val (.int x0_0), .val (.int x1_0), .val (.int x2_0), .val (.int m3), .val (.int (1 : Int32)), .val (.int ln), .val (.int ex), .val (.int nu), .val (.int (1 : Int32)), .val (.ref b68), .val (.ref b81), .val (.int (own_r4 (0 : Int32) nb)), .unset, .val (.ref b6_99)] [(.int (own_r4 (2 : Int32) ((2 : Int32) + ((((nar .byte (ln.toInt8.toInt32)) &&& (255 : Int32)).toInt64).toInt32))))]))
      refine own_stepW (fun t k => XS.iload X105.here hx rfl (hb hby at_148) rfl k) ?_
      show own_EndsW p.tables e below s _ _ _ (T105.setTop (mkF m 150 #[.val (.int x0_0), .val (.int x1_0), .val (.int x2_0), .val (.int m3), .val (.int (1 : Int32)), .val (.int ln), .val (.int ex), .val (.int nu), .val (.int (1 : Int32)), .val (.ref b68), .val (.ref b81), .val (.int (own_r4 (0 : Int32) nb)), .unset, .val (.ref b6_99)] [(.int ln), (.int (own_r4 (2 : Int32) ((2 : Int32) + ((((nar .byte (ln.toInt8.toInt32)) &&& (255 : Int32)).toInt64).toInt32))))]))
      by_cases hc150_115 : (0 : Int32) < ln
      · skip
        refine own_stepW (fun t k => XS.ifNo X105.here hx rfl (hb hby at_150) rfl ((if0 _ _).trans (tlt hc150_115).2.2.2) k) ?_
        show own_EndsW p.tables e below s _ _ _ (T105.setTop (mkF m 153 #[.val (.int x0_0), .val (.int x1_0), .val (.int x2_0), .val (.int m3), .val (.int (1 : Int32)), .val (.int ln), .val (.int ex), .val (.int nu), .val (.int (1 : Int32)), .val (.ref b68), .val (.ref b81), .val (.int (own_r4 (0 : Int32) nb)), .unset, .val (.ref b6_99)] [(.int (own_r4 (2 : Int32) ((2 : Int32) + ((((nar .byte (ln.toInt8.toInt32)) &&& (255 : Int32)).toInt64).toInt32))))]))
        refine own_stepW (fun t k => XS.iconst X105.here hx rfl (hb hby at_153) k) ?_
        show own_EndsW p.tables e below s _ _ _ (T105.setTop (mkF m 154 #[.val (.int x0_0), .val (.int x1_0), .val (.int x2_0), .val (.int m3), .val (.int (1 : Int32)), .val (.int ln), .val (.int ex), .val (.int nu), .val (.int (1 : Int32)), .val (.ref b68), .val (.ref b81), .val (.int (own_r4 (0 : Int32) nb)), .unset, .val (.ref b6_99)] [(.int (1 : Int32)), (.int (own_r4 (2 : Int32) ((2 : Int32) + ((((nar .byte (ln.toInt8.toInt32)) &&& (255 : Int32)).toInt64).toInt32))))]))
        refine own_stepW (fun t k => XS.goto X105.here hx rfl (pc0 := 154) (pc' := 158) rfl (hb hby at_154) (by decide) (by decide) k) ?_
        show own_EndsW p.tables e below s _ _ _ (T105.setTop (mkF m 158 #[.val (.int x0_0), .val (.int x1_0), .val (.int x2_0), .val (.int m3), .val (.int (1 : Int32)), .val (.int ln), .val (.int ex), .val (.int nu), .val (.int (1 : Int32)), .val (.ref b68), .val (.ref b81), .val (.int (own_r4 (0 : Int32) nb)), .unset, .val (.ref b6_99)] [(.int (1 : Int32)), (.int (own_r4 (2 : Int32) ((2 : Int32) + ((((nar .byte (ln.toInt8.toInt32)) &&& (255 : Int32)).toInt64).toInt32))))]))
        have hc116 : (own_r4 (2 : Int32) ((2 : Int32) + ((((nar .byte (ln.toInt8.toInt32)) &&& (255 : Int32)).toInt64).toInt32))) = (1 : Int32) := (pb_i1.trans (if_pos hc150_115))
        refine own_stepW (fun t k => XS.icmpNo X105.here hx rfl (hb hby at_158) rfl (teq hc116).2 k) ?_
        show own_EndsW p.tables e below s _ _ _ (T105.setTop (mkF m 161 #[.val (.int x0_0), .val (.int x1_0), .val (.int x2_0), .val (.int m3), .val (.int (1 : Int32)), .val (.int ln), .val (.int ex), .val (.int nu), .val (.int (1 : Int32)), .val (.ref b68), .val (.ref b81), .val (.int (own_r4 (0 : Int32) nb)), .unset, .val (.ref b6_99)] []))
        refine own_stepW (fun t k => XS.iconst X105.here hx rfl (hb hby at_161) k) ?_
        show own_EndsW p.tables e below s _ _ _ (T105.setTop (mkF m 162 #[.val (.int x0_0), .val (.int x1_0), .val (.int x2_0), .val (.int m3), .val (.int (1 : Int32)), .val (.int ln), .val (.int ex), .val (.int nu), .val (.int (1 : Int32)), .val (.ref b68), .val (.ref b81), .val (.int (own_r4 (0 : Int32) nb)), .unset, .val (.ref b6_99)] [(.int (1 : Int32))]))
        refine own_stepW (fun t k => XS.goto X105.here hx rfl (pc0 := 162) (pc' := 166) rfl (hb hby at_162) (by decide) (by decide) k) ?_
        show own_EndsW p.tables e below s _ _ _ (T105.setTop (mkF m 166 #[.val (.int x0_0), .val (.int x1_0), .val (.int x2_0), .val (.int m3), .val (.int (1 : Int32)), .val (.int ln), .val (.int ex), .val (.int nu), .val (.int (1 : Int32)), .val (.ref b68), .val (.ref b81), .val (.int (own_r4 (0 : Int32) nb)), .unset, .val (.ref b6_99)] [(.int (1 : Int32))]))
        exact J107
      · skip
        refine own_stepW (fun t k => XS.ifYes X105.here hx rfl (pc0 := 150) (pc' := 157) rfl (hb hby at_150) rfl ((if0 _ _).trans (flt hc150_115).2.2.2) (by decide) (by decide) k) ?_
        show own_EndsW p.tables e below s _ _ _ (T105.setTop (mkF m 157 #[.val (.int x0_0), .val (.int x1_0), .val (.int x2_0), .val (.int m3), .val (.int (1 : Int32)), .val (.int ln), .val (.int ex), .val (.int nu), .val (.int (1 : Int32)), .val (.ref b68), .val (.ref b81), .val (.int (own_r4 (0 : Int32) nb)), .unset, .val (.ref b6_99)] [(.int (own_r4 (2 : Int32) ((2 : Int32) + ((((nar .byte (ln.toInt8.toInt32)) &&& (255 : Int32)).toInt64).toInt32))))]))
        refine own_stepW (fun t k => XS.iconst X105.here hx rfl (hb hby at_157) k) ?_
        show own_EndsW p.tables e below s _ _ _ (T105.setTop (mkF m 158 #[.val (.int x0_0), .val (.int x1_0), .val (.int x2_0), .val (.int m3), .val (.int (1 : Int32)), .val (.int ln), .val (.int ex), .val (.int nu), .val (.int (1 : Int32)), .val (.ref b68), .val (.ref b81), .val (.int (own_r4 (0 : Int32) nb)), .unset, .val (.ref b6_99)] [(.int (0 : Int32)), (.int (own_r4 (2 : Int32) ((2 : Int32) + ((((nar .byte (ln.toInt8.toInt32)) &&& (255 : Int32)).toInt64).toInt32))))]))
        have hc117 : (own_r4 (2 : Int32) ((2 : Int32) + ((((nar .byte (ln.toInt8.toInt32)) &&& (255 : Int32)).toInt64).toInt32))) = (0 : Int32) := (pb_i1.trans (if_neg hc150_115))
        refine own_stepW (fun t k => XS.icmpNo X105.here hx rfl (hb hby at_158) rfl (teq hc117).2 k) ?_
        show own_EndsW p.tables e below s _ _ _ (T105.setTop (mkF m 161 #[.val (.int x0_0), .val (.int x1_0), .val (.int x2_0), .val (.int m3), .val (.int (1 : Int32)), .val (.int ln), .val (.int ex), .val (.int nu), .val (.int (1 : Int32)), .val (.ref b68), .val (.ref b81), .val (.int (own_r4 (0 : Int32) nb)), .unset, .val (.ref b6_99)] []))
        refine own_stepW (fun t k => XS.iconst X105.here hx rfl (hb hby at_161) k) ?_
        show own_EndsW p.tables e below s _ _ _ (T105.setTop (mkF m 162 #[.val (.int x0_0), .val (.int x1_0), .val (.int x2_0), .val (.int m3), .val (.int (1 : Int32)), .val (.int ln), .val (.int ex), .val (.int nu), .val (.int (1 : Int32)), .val (.ref b68), .val (.ref b81), .val (.int (own_r4 (0 : Int32) nb)), .unset, .val (.ref b6_99)] [(.int (1 : Int32))]))
        refine own_stepW (fun t k => XS.goto X105.here hx rfl (pc0 := 162) (pc' := 166) rfl (hb hby at_162) (by decide) (by decide) k) ?_
        show own_EndsW p.tables e below s _ _ _ (T105.setTop (mkF m 166 #[.val (.int x0_0), .val (.int x1_0), .val (.int x2_0), .val (.int m3), .val (.int (1 : Int32)), .val (.int ln), .val (.int ex), .val (.int nu), .val (.int (1 : Int32)), .val (.ref b68), .val (.ref b81), .val (.int (own_r4 (0 : Int32) nb)), .unset, .val (.ref b6_99)] [(.int (1 : Int32))]))
        exact J107
  show own_EndsW p.tables e below s _ _ _ (T15.setTop (mkF m 17 #[.val (.int x0_0), .val (.int x1_0), .val (.int x2_0), .val (.int m3), .unset, .unset, .unset, .unset, .unset, .unset, .unset, .unset, .unset, .unset] [(.int (own_r4 (0 : Int32) m3))]))
  refine own_stepW (fun t k => XS.iloadN X15.here hx rfl (hb hby at_17) rfl k) ?_
  show own_EndsW p.tables e below s _ _ _ (T15.setTop (mkF m 18 #[.val (.int x0_0), .val (.int x1_0), .val (.int x2_0), .val (.int m3), .unset, .unset, .unset, .unset, .unset, .unset, .unset, .unset, .unset, .unset] [(.int m3), (.int (own_r4 (0 : Int32) m3))]))
  by_cases hc18_118 : (0 : Int32) < m3
  · skip
    refine own_stepW (fun t k => XS.ifNo X15.here hx rfl (hb hby at_18) rfl ((if0 _ _).trans (tlt hc18_118).2.2.2) k) ?_
    show own_EndsW p.tables e below s _ _ _ (T15.setTop (mkF m 21 #[.val (.int x0_0), .val (.int x1_0), .val (.int x2_0), .val (.int m3), .unset, .unset, .unset, .unset, .unset, .unset, .unset, .unset, .unset, .unset] [(.int (own_r4 (0 : Int32) m3))]))
    refine own_stepW (fun t k => XS.iconst X15.here hx rfl (hb hby at_21) k) ?_
    show own_EndsW p.tables e below s _ _ _ (T15.setTop (mkF m 22 #[.val (.int x0_0), .val (.int x1_0), .val (.int x2_0), .val (.int m3), .unset, .unset, .unset, .unset, .unset, .unset, .unset, .unset, .unset, .unset] [(.int (1 : Int32)), (.int (own_r4 (0 : Int32) m3))]))
    refine own_stepW (fun t k => XS.goto X15.here hx rfl (pc0 := 22) (pc' := 26) rfl (hb hby at_22) (by decide) (by decide) k) ?_
    show own_EndsW p.tables e below s _ _ _ (T15.setTop (mkF m 26 #[.val (.int x0_0), .val (.int x1_0), .val (.int x2_0), .val (.int m3), .unset, .unset, .unset, .unset, .unset, .unset, .unset, .unset, .unset, .unset] [(.int (1 : Int32)), (.int (own_r4 (0 : Int32) m3))]))
    have hc119 : (own_r4 (0 : Int32) m3) = (1 : Int32) := (by unfold own_r4; rw [if_pos hc18_118])
    refine own_stepW (fun t k => XS.icmpNo X15.here hx rfl (hb hby at_26) rfl (teq hc119).2 k) ?_
    show own_EndsW p.tables e below s _ _ _ (T15.setTop (mkF m 29 #[.val (.int x0_0), .val (.int x1_0), .val (.int x2_0), .val (.int m3), .unset, .unset, .unset, .unset, .unset, .unset, .unset, .unset, .unset, .unset] []))
    refine own_stepW (fun t k => XS.iconst X15.here hx rfl (hb hby at_29) k) ?_
    show own_EndsW p.tables e below s _ _ _ (T15.setTop (mkF m 30 #[.val (.int x0_0), .val (.int x1_0), .val (.int x2_0), .val (.int m3), .unset, .unset, .unset, .unset, .unset, .unset, .unset, .unset, .unset, .unset] [(.int (1 : Int32))]))
    refine own_stepW (fun t k => XS.goto X15.here hx rfl (pc0 := 30) (pc' := 34) rfl (hb hby at_30) (by decide) (by decide) k) ?_
    show own_EndsW p.tables e below s _ _ _ (T15.setTop (mkF m 34 #[.val (.int x0_0), .val (.int x1_0), .val (.int x2_0), .val (.int m3), .unset, .unset, .unset, .unset, .unset, .unset, .unset, .unset, .unset, .unset] [(.int (1 : Int32))]))
    exact J17
  · skip
    refine own_stepW (fun t k => XS.ifYes X15.here hx rfl (pc0 := 18) (pc' := 25) rfl (hb hby at_18) rfl ((if0 _ _).trans (flt hc18_118).2.2.2) (by decide) (by decide) k) ?_
    show own_EndsW p.tables e below s _ _ _ (T15.setTop (mkF m 25 #[.val (.int x0_0), .val (.int x1_0), .val (.int x2_0), .val (.int m3), .unset, .unset, .unset, .unset, .unset, .unset, .unset, .unset, .unset, .unset] [(.int (own_r4 (0 : Int32) m3))]))
    refine own_stepW (fun t k => XS.iconst X15.here hx rfl (hb hby at_25) k) ?_
    show own_EndsW p.tables e below s _ _ _ (T15.setTop (mkF m 26 #[.val (.int x0_0), .val (.int x1_0), .val (.int x2_0), .val (.int m3), .unset, .unset, .unset, .unset, .unset, .unset, .unset, .unset, .unset, .unset] [(.int (0 : Int32)), (.int (own_r4 (0 : Int32) m3))]))
    have hc120 : (own_r4 (0 : Int32) m3) = (0 : Int32) := (by unfold own_r4; rw [if_neg hc18_118])
    refine own_stepW (fun t k => XS.icmpNo X15.here hx rfl (hb hby at_26) rfl (teq hc120).2 k) ?_
    show own_EndsW p.tables e below s _ _ _ (T15.setTop (mkF m 29 #[.val (.int x0_0), .val (.int x1_0), .val (.int x2_0), .val (.int m3), .unset, .unset, .unset, .unset, .unset, .unset, .unset, .unset, .unset, .unset] []))
    refine own_stepW (fun t k => XS.iconst X15.here hx rfl (hb hby at_29) k) ?_
    show own_EndsW p.tables e below s _ _ _ (T15.setTop (mkF m 30 #[.val (.int x0_0), .val (.int x1_0), .val (.int x2_0), .val (.int m3), .unset, .unset, .unset, .unset, .unset, .unset, .unset, .unset, .unset, .unset] [(.int (1 : Int32))]))
    refine own_stepW (fun t k => XS.goto X15.here hx rfl (pc0 := 30) (pc' := 34) rfl (hb hby at_30) (by decide) (by decide) k) ?_
    show own_EndsW p.tables e below s _ _ _ (T15.setTop (mkF m 34 #[.val (.int x0_0), .val (.int x1_0), .val (.int x2_0), .val (.int m3), .unset, .unset, .unset, .unset, .unset, .unset, .unset, .unset, .unset, .unset] [(.int (1 : Int32))]))
    exact J17
set_option maxRecDepth 65536 in
set_option maxHeartbeats 40000000 in
theorem comes_1 {Post : Tables → Env → Array Value → State → Outcome → State → Prop} (hpost : ∀ tb e args s v u, (limb_1_1.after args s (.returned v) u = true ∧ limb_1_2.after args s (.returned v) u = true ∧ True) → ReturnedEndW s (.returned v) u (Jvm.fieldLocs frame_1_writes args s ++ Jvm.arrayLocs frame_1_arrays args s ++ Jvm.staticLocs frame_1_statics s) 24 1152 → Post tb e args s (.returned v) u) :
    ArmFor flags0 classFile x code maxLocals ret World_1 tables_1 room_1 Calls_1 rest_1 Pre_1 Post := by
  intro l hfl _ _ p e ha hc hk s m args below hf hA hF happ hP
  obtain ⟨hcalls, hrest, hpre⟩ := hP
  obtain ⟨-, -, -, hnamed, -, -, -, hat⟩ := (Spec.applies_iff hf).mp happ
  obtain ⟨hg, hn⟩ := and_e (Cond.before_iff.mp (show (Jvm.Cond.and given_1 narrow_1).before args s = true from hpre))
  obtain ⟨hh1a, hh1b⟩ := and_e hg
  obtain ⟨hh2a, hh2b⟩ := and_e hh1b
  obtain ⟨hh3a, hh3b⟩ := and_e hh2b
  obtain ⟨w0, w1, w2, rfl⟩ : ∃ w0 w1 w2 : Value, args = #[w0, w1, w2] := by
    have hs : args.size = 3 := by simpa [Cond.value, given_1] using hh1a
    obtain ⟨L⟩ := args
    match L, hs with
    | [w0, w1, w2], _ => exact ⟨w0, w1, w2, rfl⟩
  have hw := fun d (hd : d ∈ tables_1) => atoms_spec (ws := Jvm.Cond.code x code maxLocals ret :: tables_1) hat d (List.mem_cons_of_mem _ hd)
  have hfit : Fit s := fun {y c} hc i hi => by
    obtain ⟨ha, rfl⟩ := Array.getElem?_eq_some_iff.mp hc
    have q := List.all_eq_true.mp ((Array.all_eq_true_iff_forall_mem.mp hF) _ (Array.getElem_mem ha)) i (List.mem_range.mpr hi)
    simpa [Array.getElem?_eq_getElem hi] using q
  obtain ⟨i0, ei0⟩ := is_v hh2a
  obtain rfl : w0 = (.int i0) := Option.some.inj ei0
  obtain ⟨i1, ei1⟩ := is_v hh3a
  obtain rfl : w1 = (.int i1) := Option.some.inj ei1
  obtain ⟨i2, ei2⟩ := is_v hh3b
  obtain rfl : w2 = (.int i2) := Option.some.inj ei2
  obtain ⟨n, o, h1, h2, h3, _, L, rfl, ⟨rfl, N⟩, hq⟩ := rm0 l s _ hw tables_1 i0 i1 i2 s.heap s.heap.size (Old.start s) p e ha hc hk s m _ below hf ((Spec.applies_iff_loose hf).mp happ).1 ⟨rfl, State.Warmed39.refl s, rfl⟩ trivial
  refine ⟨n, _, h1, h2, h3, hpost _ _ _ _ _ _ ⟨Cond.after_iff.mpr rfl, Cond.after_iff.mpr (eq_i res_at (Term.int_eval (1)) rfl), trivial⟩ ⟨hq.1, hq.2.1, hq.2.2.1, (hq.2.2.2.sift fun y hy => Or.inr (N y hy)).mono (by decide) (by decide)⟩⟩
theorem main_1_1 : Claimed_1_1 := comes_1 fun _ _ _ _ _ _ h hF => ⟨h.1, hF⟩
theorem main_1_2 : Claimed_1_2 := comes_1 fun _ _ _ _ _ _ h hF => ⟨h.2.1, hF⟩
end Jvm.Pilot.@@N@@
