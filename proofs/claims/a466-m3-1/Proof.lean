import JvmDerived
import JvmDerived.Pilot.@@N@@Statement
import JvmDerived.Pilot.@@N@@Code
set_option linter.unusedVariables false
set_option linter.unusedSimpArgs false
namespace Jvm.Pilot.@@N@@
open Jvm Jvm.ClassFile Sem Op Lib Jvm.Free Jvm.Stand Jvm.LawKit Jvm.RoadKit Bundle Jvm.Pilot.@@N@@.Jvm.D
/-- from the state st the run ends, of which Q says what it leaves -/
def own_Ends (tb : Tables) (e : Env) (below : List Frame) (s : State) (Q : Option Value → Heap → List Loc → Prop) (C S : Nat) (st : State) : Prop :=
  ∃ t o, Steps tb e below st t ∧ t.status = .running ∧ Ended t below o ∧ ∃ v L, o = .returned v ∧ Q v t.heap L ∧ FrameEnd s o t L C S
theorem own_step {tb : Tables} {e : Env} {below : List Frame} {s : State} {Q : Option Value → Heap → List Loc → Prop} {C S : Nat} {st st' : State}
    (h : ∀ t, Steps tb e below st' t → Steps tb e below st t) (k : own_Ends tb e below s Q C S st') : own_Ends tb e below s Q C S st := by
  obtain ⟨t, o, h1, h2⟩ := k
  exact ⟨t, o, h t h1, h2⟩
section OwnRet
variable {p : Program} {l : Launch} {e : Env} {R : Room} {s : State} {m : MethodId} {args : Array Value} {below : List Frame} {meth : Method} {c : Code} {T : State} {locs : List Loc} {cells slots : Nat} {Q : Option Value → Heap → List Loc → Prop} {C S : Nat} {pc : Nat} {Ls : Array Slot} {rest : List Value}
theorem own_retW (X : Stand p l e R s m args below meth c T locs cells slots) (hx : p.tables.exec = Jvm.exec) {w : Value} {t : FieldType} {i : Instr} (hret : meth.sig.returnType = some t) (hn : narrow t w = w)
    (hi : (i = .ireturn ∧ (t = .int ∨ t = .boolean ∨ t = .byte ∨ t = .char ∨ t = .short) ∧ ∃ z, w = .int z) ∨ (i = .lreturn ∧ t = .long ∧ ∃ z, w = .long z) ∨ (i = .dreturn ∧ t = .double ∧ ∃ z, w = .double z) ∨ (i = .freturn ∧ t = .float ∧ ∃ z, w = .float z) ∨ (i = .areturn ∧ t.isReference = true ∧ w.isRef = true))
    (hd : decode c.code pc = .ok (i, 1)) (hlocks : meth.locks = false) (hq : Q (some w) T.heap locs) (hc : cells ≤ C) (hs : slots ≤ S) :
    own_Ends p.tables e below s Q C S (T.setTop (mkF m pc Ls (w :: rest))) := by
  obtain ⟨fs, hr, hrun, hended, hW, hsame⟩ := X.leave (v := some w) (fun h => by rw [hret] at h; cases h) hlocks
  exact ⟨_, _, retOut X hx hret hn hi hd hr, hrun, hended, _, _, rfl, hq, ⟨_, rfl⟩, hW, hsame.mono hc hs⟩
theorem own_retI (X : Stand p l e R s m args below meth c T locs cells slots) (hx : p.tables.exec = Jvm.exec) {z : Int32} (hret : meth.sig.returnType = some .int)
    (hd : decode c.code pc = .ok (.ireturn, 1)) (hlocks : meth.locks = false) (hq : Q (some (.int z)) T.heap locs) (hc : cells ≤ C) (hs : slots ≤ S) :
    own_Ends p.tables e below s Q C S (T.setTop (mkF m pc Ls (.int z :: rest))) :=
  own_retW X hx hret rfl (Or.inl ⟨rfl, Or.inl rfl, z, rfl⟩) hd hlocks hq hc hs
theorem own_retJ (X : Stand p l e R s m args below meth c T locs cells slots) (hx : p.tables.exec = Jvm.exec) {z : Int64} (hret : meth.sig.returnType = some .long)
    (hd : decode c.code pc = .ok (.lreturn, 1)) (hlocks : meth.locks = false) (hq : Q (some (.long z)) T.heap locs) (hc : cells ≤ C) (hs : slots ≤ S) :
    own_Ends p.tables e below s Q C S (T.setTop (mkF m pc Ls (.long z :: rest))) :=
  own_retW X hx hret rfl (Or.inr (Or.inl ⟨rfl, rfl, z, rfl⟩)) hd hlocks hq hc hs
theorem own_retR (X : Stand p l e R s m args below meth c T locs cells slots) (hx : p.tables.exec = Jvm.exec) {w : Value} {t : FieldType} (hret : meth.sig.returnType = some t) (ht : t.isReference = true) (hw : w.isRef = true) (hn : narrow t w = w)
    (hd : decode c.code pc = .ok (.areturn, 1)) (hlocks : meth.locks = false) (hq : Q (some w) T.heap locs) (hc : cells ≤ C) (hs : slots ≤ S) :
    own_Ends p.tables e below s Q C S (T.setTop (mkF m pc Ls (w :: rest))) :=
  own_retW X hx hret hn (Or.inr (Or.inr (Or.inr (Or.inr ⟨rfl, ht, hw⟩)))) hd hlocks hq hc hs
theorem own_retN (X : Stand p l e R s m args below meth c T locs cells slots) (hx : p.tables.exec = Jvm.exec) {z : Int32} {t : FieldType} (hret : meth.sig.returnType = some t) (ht : t = .boolean ∨ t = .byte ∨ t = .char ∨ t = .short)
    (hd : decode c.code pc = .ok (.ireturn, 1)) (hlocks : meth.locks = false) (hq : Q (some (.int (nar t z))) T.heap locs) (hc : cells ≤ C) (hs : slots ≤ S) :
    own_Ends p.tables e below s Q C S (T.setTop (mkF m pc Ls (.int z :: rest))) := by
  obtain ⟨fs, hr, hrun, hended, hW, hsame⟩ := X.leave (v := some (.int (nar t z))) (fun h => by rw [hret] at h; cases h) hlocks
  exact ⟨_, _, retN X hx hret ht hd hr, hrun, hended, _, _, rfl, hq, ⟨_, rfl⟩, hW, hsame.mono hc hs⟩
theorem own_ret0 (X : Stand p l e R s m args below meth c T locs cells slots) (hx : p.tables.exec = Jvm.exec) (hret : meth.sig.returnType = none)
    (hd : decode c.code pc = .ok (.return_, 1)) (hlocks : meth.locks = false) (hq : Q none T.heap locs) (hc : cells ≤ C) (hs : slots ≤ S) :
    own_Ends p.tables e below s Q C S (T.setTop (mkF m pc Ls [])) := by
  obtain ⟨fs, hr, hrun, hended, hW, hsame⟩ := X.leave (v := none) (fun _ => rfl) hlocks
  exact ⟨_, _, X.returnOut hx hret hd hr, hrun, hended, _, _, rfl, hq, ⟨_, rfl⟩, hW, hsame.mono hc hs⟩
end OwnRet
theorem own_idx (b n : Int32) (hn : 0 < n.toInt) : ¬ ((b &&& 2147483647) % n) < 0 ∧ ((b &&& 2147483647) % n) < n := by
  have h1 := c_and b 2147483647 (by decide)
  have h2 := (c_iremV (b &&& 2147483647) n).1 h1.1 hn
  constructor
  · rw [Int32.lt_iff_toInt_lt]; show ¬ _ < (0 : Int); omega
  · rw [Int32.lt_iff_toInt_lt]; omega
theorem own_small (v : Int32) (k : Nat) (hk : k < 2147483648) (h1 : ¬ v < 0) (h2 : v < Int32.ofNat k) : ∃ n : Fin k, v = Int32.ofNat n.1 := by
  rw [Int32.lt_iff_toInt_lt] at h1 h2
  rw [Int32.toInt_ofNat_of_lt hk] at h2
  have a : 0 ≤ v.toInt := by simpa using h1
  refine ⟨⟨v.toInt.toNat, by omega⟩, ?_⟩
  apply Int32.toInt_inj.mp
  rw [Int32.toInt_ofNat_of_lt (by show v.toInt.toNat < _; omega)]
  show v.toInt = ((v.toInt.toNat : Nat) : Int)
  omega
theorem d1_0 : decode prog_4_method_1_code 0 = .ok (.aload_n 0, 1) := by decide +kernel
theorem d1_1 : decode prog_4_method_1_code 1 = .ok (.invokespecial 1, 3) := by decide +kernel
theorem d1_4 : decode prog_4_method_1_code 4 = .ok (.aload_n 0, 1) := by decide +kernel
theorem d1_5 : decode prog_4_method_1_code 5 = .ok (.sipush 256, 3) := by decide +kernel
theorem d1_8 : decode prog_4_method_1_code 8 = .ok (.newarray .int, 2) := by decide +kernel
theorem d1_10 : decode prog_4_method_1_code 10 = .ok (.putfield 7, 3) := by decide +kernel
theorem d1_13 : decode prog_4_method_1_code 13 = .ok (.aload_n 0, 1) := by decide +kernel
theorem d1_14 : decode prog_4_method_1_code 14 = .ok (.bipush 64, 2) := by decide +kernel
theorem d1_16 : decode prog_4_method_1_code 16 = .ok (.newarray .int, 2) := by decide +kernel
theorem d1_18 : decode prog_4_method_1_code 18 = .ok (.putfield 13, 3) := by decide +kernel
theorem d1_21 : decode prog_4_method_1_code 21 = .ok (.return_, 1) := by decide +kernel
theorem pn_0 : plainName "com/example/untl/untl/Cnf" = true := by first | (simp [plainName, overriddenIn]; done) | decide +kernel
theorem ef_1 (m : MethodId) (o0_1 : Addr) : entryFrame m #[(.ref o0_1)] 1 = mkF m 0 #[.val (.ref o0_1)] [] := by first | (simp [entryFrame, mkF, argsToLocals, Value.category]; done) | rfl
def Q1 (Z : State) (o0_1 : Addr) (u_variables_o0_1 : Value) (u_clauses_o0_1 : Value) (u_literals_o0_1 : Value) (u_clauseStarts_o0_1 : Value) (h0 : Heap) (n0 : Nat) (v : Option Value) (h : Heap) (L : List Loc) : Prop := ∃ (b2 : Addr), ∃ (k2 : ClassId), ∃ (b13 : Addr), ∃ (k13 : ClassId), v = none ∧ Fr n0 L ∧ Keep h0 h [o0_1] ∧ h0.size ≤ b2 ∧ h0.size ≤ b13 ∧ Fld Z h o0_1 "com/example/untl/untl/Cnf" "variables" "I" u_variables_o0_1 ∧ Fld Z h o0_1 "com/example/untl/untl/Cnf" "clauses" "I" u_clauses_o0_1 ∧ Exa Z h o0_1 "com/example/untl/untl/Cnf" ∧ Fld Z h o0_1 "com/example/untl/untl/Cnf" "literals" "[I" (.ref b2) ∧ Fld Z h o0_1 "com/example/untl/untl/Cnf" "clauseStarts" "[I" (.ref b13) ∧ Arv Z h b2 k2 .int (256 : Int32) [] (.int (0 : Int32)) ∧ Arv Z h b13 k13 .int (64 : Int32) [] (.int (0 : Int32)) ∧ b2 ≠ b13
set_option maxRecDepth 65536 in
set_option maxHeartbeats 40000000 in
theorem rm1 (l : Launch) (Z : State) (a0 : Array Value) (hw : ∀ d ∈ tables_1, d.before a0 Z = true) (ws : List Jvm.Cond) (o0_1 : Addr) (u_variables_o0_1 : Value) (u_clauses_o0_1 : Value) (u_literals_o0_1 : Value) (u_clauseStarts_o0_1 : Value) (h0 : Heap) (n0 : Nat) (O0 : Old Z n0 h0) (F_variables_o0_1 : Fld Z h0 o0_1 "com/example/untl/untl/Cnf" "variables" "I" u_variables_o0_1) (F_clauses_o0_1 : Fld Z h0 o0_1 "com/example/untl/untl/Cnf" "clauses" "I" u_clauses_o0_1) (E_o0_1 : Exa Z h0 o0_1 "com/example/untl/untl/Cnf") (F_literals_o0_1 : Fld Z h0 o0_1 "com/example/untl/untl/Cnf" "literals" "[I" u_literals_o0_1) (g_o0_1 : n0 ≤ o0_1) (F_clauseStarts_o0_1 : Fld Z h0 o0_1 "com/example/untl/untl/Cnf" "clauseStarts" "[I" u_clauseStarts_o0_1) :
    MetFree l (⟨"com/example/untl/untl/Cnf", "<init>", "()V"⟩ : MethodName) (head1 (Jvm.Cond.code (⟨"com/example/untl/untl/Cnf", "<init>", "()V"⟩ : MethodName) prog_4_method_1_code 1 none :: ws) ({ frames := 1, cells := 2, slots := 320, locals := 12 } : Room)) (fun a U => a = #[(.ref o0_1)] ∧ Z.Warmed39 U.vm ∧ U.heap = h0) (fun _ _ _ _ _ => True) (fun _ U o U' => ∃ v L, o = .returned v ∧ Q1 Z o0_1 u_variables_o0_1 u_clauses_o0_1 u_literals_o0_1 u_clauseStarts_o0_1 h0 n0 v U'.heap L ∧ FrameEnd U o U' L ({ frames := 1, cells := 2, slots := 320, locals := 12 } : Room).cells ({ frames := 1, cells := 2, slots := 320, locals := 12 } : Room).slots) := by
  refine MetFree.of_bodySF (plainFor_of_name pn_0) hisR ?_
  intro p e s m args below meth c s₁ Bd hml0 hP hK
  obtain ⟨rfl, hZ, hh⟩ := hP
  have hx := Bd.exec
  have hby := Bd.bytes
  have hnl := BodyLoose.notSynchronized Bd
  have hml : c.maxLocals = 1 := hml0
  have hown : s.vm.findClass "com/example/untl/untl/Cnf" = some m.cls := findClass_of_methodNamed Bd.named
  have hnm := (name_of_methodNamed Bd.named Bd.method).1
  have X0 : Stand p l e ({ frames := 1, cells := 2, slots := 320, locals := 12 } : Room) s m #[(.ref o0_1)] below meth c s₁ [] 0 0 := Stand.of_body Bd
  have e0 : s₁.heap = h0 := by rw [← hh, Bd.state]; rfl
  have N0 := Fr.nil n0
  show own_Ends p.tables e below s (Q1 Z o0_1 u_variables_o0_1 u_clauses_o0_1 u_literals_o0_1 u_clauseStarts_o0_1 h0 n0) 2 320 (s₁.setTop (entryFrame m #[(.ref o0_1)] 1))
  rw [ef_1 m o0_1]
  show own_Ends p.tables e below s _ _ _ (s₁.setTop (mkF m 0 #[.val (.ref o0_1)] []))
  refine own_step (fun t k => XS.aloadN X0.here hx rfl (hb hby d1_0) rfl rfl k) ?_
  show own_Ends p.tables e below s _ _ _ (s₁.setTop (mkF m 1 #[.val (.ref o0_1)] [(.ref o0_1)]))
  obtain ⟨T1, X1, e1, st1⟩ := initO X0 hx hZ hown (hw _ (List.mem_of_getElem? (i := 6) rfl)) (hw _ (List.mem_of_getElem? (i := 7) rfl)) (hw _ (List.mem_of_getElem? (i := 8) rfl)) e0 (g := (mkF m 1 #[.val (.ref o0_1)] [(.ref o0_1)])) rfl (by rw [hml]; rfl) rfl (hb hby d1_1) (by decide) (W := 0) (by show 2 * 0 + _ ≤ _; exact Nat.le_of_eq rfl) (by decide)
  refine own_step (fun t k => st1 _ k) ?_
  show own_Ends p.tables e below s _ _ _ (T1.setTop (mkF m 4 #[.val (.ref o0_1)] []))
  refine own_step (fun t k => XS.aloadN X1.here hx rfl (hb hby d1_4) rfl rfl k) ?_
  show own_Ends p.tables e below s _ _ _ (T1.setTop (mkF m 5 #[.val (.ref o0_1)] [(.ref o0_1)]))
  refine own_step (fun t k => XS.sipush X1.here hx rfl (hb hby d1_5) k) ?_
  show own_Ends p.tables e below s _ _ _ (T1.setTop (mkF m 8 #[.val (.ref o0_1)] [(.int (256 : Int32)), (.ref o0_1)]))
  obtain ⟨T2, h2, k2, X2, e2, E2, A2, st2⟩ := newP X1 hx hZ (hw _ (List.mem_of_getElem? (i := 9) rfl)) e1 (g := (mkF m 8 #[.val (.ref o0_1)] [(.int (256 : Int32)), (.ref o0_1)])) rfl (hb hby d1_8) rfl (by decide) (cap := 256) (by decide) (by decide) (by decide) (by decide)
  obtain ⟨b2, g2⟩ : ∃ z, z = h0.size := ⟨_, rfl⟩
  rw [← g2] at A2 st2
  have g_b2 : n0 ≤ b2 := Nat.le_trans (Nat.le_trans (Nat.le_of_eq O0.1.symm) O0.2.1) (Nat.le_of_eq g2.symm)
  have sz_b2 : h0.size ≤ b2 := Nat.le_trans (Keep.refl h0 [o0_1]).1 (Nat.le_of_eq g2.symm)
  have ne_o0_1_b2 : o0_1 ≠ b2 := Nat.ne_of_lt (Nat.lt_of_lt_of_le F_variables_o0_1.lt (Nat.le_of_eq g2.symm))
  have V2 : Arv Z h2 b2 k2 .int (256 : Int32) [] (.int (0 : Int32)) := Arv.new A2 (by decide)
  refine own_step (fun t k => st2 _ k) ?_
  have K3 : Keep h0 h2 [o0_1] := (Keep.refl h0 [o0_1]).ext E2
  show own_Ends p.tables e below s _ _ _ (T2.setTop (mkF m 10 #[.val (.ref o0_1)] [(.ref b2), (.ref o0_1)]))
  have F4 : Exa Z h2 o0_1 "com/example/untl/untl/Cnf" := (E_o0_1.ext E2)
  have F5 : Fld Z h2 o0_1 "com/example/untl/untl/Cnf" "literals" "[I" u_literals_o0_1 := (F_literals_o0_1.ext E2)
  obtain ⟨T6, h6, X6, e6, W6, st6⟩ := putF X2 hx hZ hown (host := "") (Or.inl (hw _ (List.mem_of_getElem? (i := 10) rfl))) Via.refl e2 F5 F4 (Or.inl (hw _ (List.mem_of_getElem? (i := 11) rfl))) (hw _ (List.mem_of_getElem? (i := 1) rfl)) (ty := (.array .int)) (by decide) rfl rfl (g := (mkF m 10 #[.val (.ref o0_1)] [(.ref b2), (.ref o0_1)])) rfl rfl (hb hby d1_10)
  refine own_step (fun t k => st6 _ k) ?_
  have F7 : Fld Z h6 o0_1 "com/example/untl/untl/Cnf" "literals" "[I" (.ref b2) := F5.same W6
  have K8 : Keep h0 h6 [o0_1] := K3.wr W6 (Or.inl (List.mem_of_getElem? (i := 0) rfl))
  have N9 := Fr.snoc X6 N0 g_o0_1
  show own_Ends p.tables e below s _ _ _ (T6.setTop (mkF m 13 #[.val (.ref o0_1)] []))
  refine own_step (fun t k => XS.aloadN X6.here hx rfl (hb hby d1_13) rfl rfl k) ?_
  show own_Ends p.tables e below s _ _ _ (T6.setTop (mkF m 14 #[.val (.ref o0_1)] [(.ref o0_1)]))
  refine own_step (fun t k => XS.bipush X6.here hx rfl (hb hby d1_14) k) ?_
  show own_Ends p.tables e below s _ _ _ (T6.setTop (mkF m 16 #[.val (.ref o0_1)] [(.int (64 : Int32)), (.ref o0_1)]))
  have O10 : Old Z n0 h6 := ((O0.ext E2).wr W6 g_o0_1)
  have F11 : Fld Z h6 o0_1 "com/example/untl/untl/Cnf" "variables" "I" u_variables_o0_1 := ((F_variables_o0_1.ext E2).other W6 (Or.inr (slot_ne (Or.inl (hw _ (List.mem_of_getElem? (i := 20) rfl))) (Or.inl (hw _ (List.mem_of_getElem? (i := 11) rfl))) (by decide) (t := .int) (t' := (.array .int)) (by decide) (by decide))))
  have F12 : Arv Z h6 b2 k2 .int (256 : Int32) [] (.int (0 : Int32)) := (V2.other W6 (Ne.symm ne_o0_1_b2))
  obtain ⟨T13, h13, k13, X13, e13, E13, A13, st13⟩ := newP X6 hx hZ (hw _ (List.mem_of_getElem? (i := 9) rfl)) e6 (g := (mkF m 16 #[.val (.ref o0_1)] [(.int (64 : Int32)), (.ref o0_1)])) rfl (hb hby d1_16) rfl (by decide) (cap := 64) (by decide) (by decide) (by decide) (by decide)
  obtain ⟨b13, g13⟩ : ∃ z, z = h6.size := ⟨_, rfl⟩
  rw [← g13] at A13 st13
  have g_b13 : n0 ≤ b13 := Nat.le_trans (Nat.le_trans (Nat.le_of_eq O10.1.symm) O10.2.1) (Nat.le_of_eq g13.symm)
  have sz_b13 : h0.size ≤ b13 := Nat.le_trans K8.1 (Nat.le_of_eq g13.symm)
  have ne_o0_1_b13 : o0_1 ≠ b13 := Nat.ne_of_lt (Nat.lt_of_lt_of_le F11.lt (Nat.le_of_eq g13.symm))
  have ne_b2_b13 : b2 ≠ b13 := Nat.ne_of_lt (Nat.lt_of_lt_of_le F12.lt (Nat.le_of_eq g13.symm))
  have V13 : Arv Z h13 b13 k13 .int (64 : Int32) [] (.int (0 : Int32)) := Arv.new A13 (by decide)
  refine own_step (fun t k => st13 _ k) ?_
  have K14 : Keep h0 h13 [o0_1] := K8.ext E13
  show own_Ends p.tables e below s _ _ _ (T13.setTop (mkF m 18 #[.val (.ref o0_1)] [(.ref b13), (.ref o0_1)]))
  have F15 : Exa Z h13 o0_1 "com/example/untl/untl/Cnf" := ((F4.wr W6).ext E13)
  have F16 : Fld Z h13 o0_1 "com/example/untl/untl/Cnf" "clauseStarts" "[I" u_clauseStarts_o0_1 := (((F_clauseStarts_o0_1.ext E2).other W6 (Or.inr (slot_ne (Or.inl (hw _ (List.mem_of_getElem? (i := 13) rfl))) (Or.inl (hw _ (List.mem_of_getElem? (i := 11) rfl))) (by decide) (t := (.array .int)) (t' := (.array .int)) (by decide) (by decide)))).ext E13)
  obtain ⟨T17, h17, X17, e17, W17, st17⟩ := putF X13 hx hZ hown (host := "") (Or.inl (hw _ (List.mem_of_getElem? (i := 12) rfl))) Via.refl e13 F16 F15 (Or.inl (hw _ (List.mem_of_getElem? (i := 13) rfl))) (hw _ (List.mem_of_getElem? (i := 1) rfl)) (ty := (.array .int)) (by decide) rfl rfl (g := (mkF m 18 #[.val (.ref o0_1)] [(.ref b13), (.ref o0_1)])) rfl rfl (hb hby d1_18)
  refine own_step (fun t k => st17 _ k) ?_
  have F18 : Fld Z h17 o0_1 "com/example/untl/untl/Cnf" "clauseStarts" "[I" (.ref b13) := F16.same W17
  have K19 : Keep h0 h17 [o0_1] := K14.wr W17 (Or.inl (List.mem_of_getElem? (i := 0) rfl))
  have N20 := Fr.snoc X17 N9 g_o0_1
  show own_Ends p.tables e below s _ _ _ (T17.setTop (mkF m 21 #[.val (.ref o0_1)] []))
  have F21 : Fld Z h17 o0_1 "com/example/untl/untl/Cnf" "variables" "I" u_variables_o0_1 := ((F11.ext E13).other W17 (Or.inr (slot_ne (Or.inl (hw _ (List.mem_of_getElem? (i := 20) rfl))) (Or.inl (hw _ (List.mem_of_getElem? (i := 13) rfl))) (by decide) (t := .int) (t' := (.array .int)) (by decide) (by decide))))
  have F22 : Fld Z h17 o0_1 "com/example/untl/untl/Cnf" "clauses" "I" u_clauses_o0_1 := ((((F_clauses_o0_1.ext E2).other W6 (Or.inr (slot_ne (Or.inl (hw _ (List.mem_of_getElem? (i := 32) rfl))) (Or.inl (hw _ (List.mem_of_getElem? (i := 11) rfl))) (by decide) (t := .int) (t' := (.array .int)) (by decide) (by decide)))).ext E13).other W17 (Or.inr (slot_ne (Or.inl (hw _ (List.mem_of_getElem? (i := 32) rfl))) (Or.inl (hw _ (List.mem_of_getElem? (i := 13) rfl))) (by decide) (t := .int) (t' := (.array .int)) (by decide) (by decide))))
  have F23 : Exa Z h17 o0_1 "com/example/untl/untl/Cnf" := (F15.wr W17)
  have F24 : Fld Z h17 o0_1 "com/example/untl/untl/Cnf" "literals" "[I" (.ref b2) := ((F7.ext E13).other W17 (Or.inr (slot_ne (Or.inl (hw _ (List.mem_of_getElem? (i := 11) rfl))) (Or.inl (hw _ (List.mem_of_getElem? (i := 13) rfl))) (by decide) (t := (.array .int)) (t' := (.array .int)) (by decide) (by decide))))
  have F25 : Arv Z h17 b2 k2 .int (256 : Int32) [] (.int (0 : Int32)) := ((F12.ext E13).other W17 (Ne.symm ne_o0_1_b2))
  have F26 : Arv Z h17 b13 k13 .int (64 : Int32) [] (.int (0 : Int32)) := (V13.other W17 (Ne.symm ne_o0_1_b13))
  exact own_ret0 X17 hx Bd.returns (hb hby d1_21) hnl (by rw [e17]; exact ⟨b2, k2, b13, k13, rfl, N20, K19, sz_b2, sz_b13, F21, F22, F23, F24, F18, F25, F26, ne_b2_b13⟩) (by decide) (by decide)
theorem d3_0 : decode prog_4_method_4_code 0 = .ok (.aload_n 0, 1) := by decide +kernel
theorem d3_1 : decode prog_4_method_4_code 1 = .ok (.getfield 16, 3) := by decide +kernel
theorem d3_4 : decode prog_4_method_4_code 4 = .ok (.ireturn, 1) := by decide +kernel
theorem ef_3 (m : MethodId) (o0_3 : Addr) : entryFrame m #[(.ref o0_3)] 1 = mkF m 0 #[.val (.ref o0_3)] [] := by first | (simp [entryFrame, mkF, argsToLocals, Value.category]; done) | rfl
def Q3 (Z : State) (o0_3 : Addr) (w_variables_o0_3 : Int32) (h0 : Heap) (n0 : Nat) (v : Option Value) (h : Heap) (L : List Loc) : Prop := v = some (.int w_variables_o0_3) ∧ Fr n0 L ∧ h = h0
set_option maxRecDepth 65536 in
set_option maxHeartbeats 40000000 in
theorem rm3 (l : Launch) (Z : State) (a0 : Array Value) (hw : ∀ d ∈ tables_1, d.before a0 Z = true) (ws : List Jvm.Cond) (o0_3 : Addr) (w_variables_o0_3 : Int32) (h0 : Heap) (n0 : Nat) (O0 : Old Z n0 h0) (F_variables_o0_3 : Fld Z h0 o0_3 "com/example/untl/untl/Cnf" "variables" "I" (.int w_variables_o0_3)) :
    MetFree l (⟨"com/example/untl/untl/Cnf", "variables", "()I"⟩ : MethodName) (head1 (Jvm.Cond.code (⟨"com/example/untl/untl/Cnf", "variables", "()I"⟩ : MethodName) prog_4_method_4_code 1 (some .int) :: ws) ({ frames := 0, cells := 0, slots := 0, locals := 0 } : Room)) (fun a U => a = #[(.ref o0_3)] ∧ Z.Warmed39 U.vm ∧ U.heap = h0) (fun _ _ _ _ _ => True) (fun _ U o U' => ∃ v L, o = .returned v ∧ Q3 Z o0_3 w_variables_o0_3 h0 n0 v U'.heap L ∧ FrameEnd U o U' L ({ frames := 0, cells := 0, slots := 0, locals := 0 } : Room).cells ({ frames := 0, cells := 0, slots := 0, locals := 0 } : Room).slots) := by
  refine MetFree.of_bodySF (plainFor_of_name pn_0) hisR ?_
  intro p e s m args below meth c s₁ Bd hml0 hP hK
  obtain ⟨rfl, hZ, hh⟩ := hP
  have hx := Bd.exec
  have hby := Bd.bytes
  have hnl := BodyLoose.notSynchronized Bd
  have hml : c.maxLocals = 1 := hml0
  have hown : s.vm.findClass "com/example/untl/untl/Cnf" = some m.cls := findClass_of_methodNamed Bd.named
  have hnm := (name_of_methodNamed Bd.named Bd.method).1
  have X0 : Stand p l e ({ frames := 0, cells := 0, slots := 0, locals := 0 } : Room) s m #[(.ref o0_3)] below meth c s₁ [] 0 0 := Stand.of_body Bd
  have e0 : s₁.heap = h0 := by rw [← hh, Bd.state]; rfl
  have N0 := Fr.nil n0
  show own_Ends p.tables e below s (Q3 Z o0_3 w_variables_o0_3 h0 n0) 0 0 (s₁.setTop (entryFrame m #[(.ref o0_3)] 1))
  rw [ef_3 m o0_3]
  show own_Ends p.tables e below s _ _ _ (s₁.setTop (mkF m 0 #[.val (.ref o0_3)] []))
  refine own_step (fun t k => XS.aloadN X0.here hx rfl (hb hby d3_0) rfl rfl k) ?_
  show own_Ends p.tables e below s _ _ _ (s₁.setTop (mkF m 1 #[.val (.ref o0_3)] [(.ref o0_3)]))
  obtain ⟨T1, X1, e1, st1⟩ := getF X0 hx hZ hown (host := "") (Or.inl (hw _ (List.mem_of_getElem? (i := 19) rfl))) Via.refl e0 F_variables_o0_3 (g := (mkF m 1 #[.val (.ref o0_3)] [(.ref o0_3)])) rfl rfl (hb hby d3_1)
  refine own_step (fun t k => st1 _ k) ?_
  show own_Ends p.tables e below s _ _ _ (T1.setTop (mkF m 4 #[.val (.ref o0_3)] [(.int w_variables_o0_3)]))
  exact own_retI X1 hx Bd.returns (hb hby d3_4) hnl (by rw [e1]; exact ⟨rfl, N0, rfl⟩) (by decide) (by decide)
theorem d4_0 : decode prog_4_method_2_code 0 = .ok (.aload_n 0, 1) := by decide +kernel
theorem d4_1 : decode prog_4_method_2_code 1 = .ok (.dup, 1) := by decide +kernel
theorem d4_2 : decode prog_4_method_2_code 2 = .ok (.getfield 16, 3) := by decide +kernel
theorem d4_5 : decode prog_4_method_2_code 5 = .ok (.iconst 1, 1) := by decide +kernel
theorem d4_6 : decode prog_4_method_2_code 6 = .ok (.iadd, 1) := by decide +kernel
theorem d4_7 : decode prog_4_method_2_code 7 = .ok (.putfield 16, 3) := by decide +kernel
theorem d4_10 : decode prog_4_method_2_code 10 = .ok (.aload_n 0, 1) := by decide +kernel
theorem d4_11 : decode prog_4_method_2_code 11 = .ok (.getfield 16, 3) := by decide +kernel
theorem d4_14 : decode prog_4_method_2_code 14 = .ok (.ireturn, 1) := by decide +kernel
theorem ef_4 (m : MethodId) (o0_4 : Addr) : entryFrame m #[(.ref o0_4)] 1 = mkF m 0 #[.val (.ref o0_4)] [] := by first | (simp [entryFrame, mkF, argsToLocals, Value.category]; done) | rfl
def Q4 (Z : State) (o0_4 : Addr) (u_literals_o0_4 : Value) (u_clauseStarts_o0_4 : Value) (u_clauses_o0_4 : Value) (w_variables_o0_4 : Int32) (h0 : Heap) (n0 : Nat) (v : Option Value) (h : Heap) (L : List Loc) : Prop := v = some (.int (w_variables_o0_4 + (1 : Int32))) ∧ Fr n0 L ∧ Keep h0 h [o0_4] ∧ Fld Z h o0_4 "com/example/untl/untl/Cnf" "literals" "[I" u_literals_o0_4 ∧ Fld Z h o0_4 "com/example/untl/untl/Cnf" "clauseStarts" "[I" u_clauseStarts_o0_4 ∧ Fld Z h o0_4 "com/example/untl/untl/Cnf" "clauses" "I" u_clauses_o0_4 ∧ Fld Z h o0_4 "com/example/untl/untl/Cnf" "variables" "I" (.int (w_variables_o0_4 + (1 : Int32))) ∧ Exa Z h o0_4 "com/example/untl/untl/Cnf"
set_option maxRecDepth 65536 in
set_option maxHeartbeats 40000000 in
theorem rm4 (l : Launch) (Z : State) (a0 : Array Value) (hw : ∀ d ∈ tables_1, d.before a0 Z = true) (ws : List Jvm.Cond) (o0_4 : Addr) (u_literals_o0_4 : Value) (u_clauseStarts_o0_4 : Value) (u_clauses_o0_4 : Value) (w_variables_o0_4 : Int32) (h0 : Heap) (n0 : Nat) (O0 : Old Z n0 h0) (F_literals_o0_4 : Fld Z h0 o0_4 "com/example/untl/untl/Cnf" "literals" "[I" u_literals_o0_4) (F_clauseStarts_o0_4 : Fld Z h0 o0_4 "com/example/untl/untl/Cnf" "clauseStarts" "[I" u_clauseStarts_o0_4) (F_clauses_o0_4 : Fld Z h0 o0_4 "com/example/untl/untl/Cnf" "clauses" "I" u_clauses_o0_4) (F_variables_o0_4 : Fld Z h0 o0_4 "com/example/untl/untl/Cnf" "variables" "I" (.int w_variables_o0_4)) (E_o0_4 : Exa Z h0 o0_4 "com/example/untl/untl/Cnf") (g_o0_4 : n0 ≤ o0_4) :
    MetFree l (⟨"com/example/untl/untl/Cnf", "newVariable", "()I"⟩ : MethodName) (head1 (Jvm.Cond.code (⟨"com/example/untl/untl/Cnf", "newVariable", "()I"⟩ : MethodName) prog_4_method_2_code 1 (some .int) :: ws) ({ frames := 0, cells := 0, slots := 0, locals := 0 } : Room)) (fun a U => a = #[(.ref o0_4)] ∧ Z.Warmed39 U.vm ∧ U.heap = h0) (fun _ _ _ _ _ => True) (fun _ U o U' => ∃ v L, o = .returned v ∧ Q4 Z o0_4 u_literals_o0_4 u_clauseStarts_o0_4 u_clauses_o0_4 w_variables_o0_4 h0 n0 v U'.heap L ∧ FrameEnd U o U' L ({ frames := 0, cells := 0, slots := 0, locals := 0 } : Room).cells ({ frames := 0, cells := 0, slots := 0, locals := 0 } : Room).slots) := by
  refine MetFree.of_bodySF (plainFor_of_name pn_0) hisR ?_
  intro p e s m args below meth c s₁ Bd hml0 hP hK
  obtain ⟨rfl, hZ, hh⟩ := hP
  have hx := Bd.exec
  have hby := Bd.bytes
  have hnl := BodyLoose.notSynchronized Bd
  have hml : c.maxLocals = 1 := hml0
  have hown : s.vm.findClass "com/example/untl/untl/Cnf" = some m.cls := findClass_of_methodNamed Bd.named
  have hnm := (name_of_methodNamed Bd.named Bd.method).1
  have X0 : Stand p l e ({ frames := 0, cells := 0, slots := 0, locals := 0 } : Room) s m #[(.ref o0_4)] below meth c s₁ [] 0 0 := Stand.of_body Bd
  have e0 : s₁.heap = h0 := by rw [← hh, Bd.state]; rfl
  have N0 := Fr.nil n0
  show own_Ends p.tables e below s (Q4 Z o0_4 u_literals_o0_4 u_clauseStarts_o0_4 u_clauses_o0_4 w_variables_o0_4 h0 n0) 0 0 (s₁.setTop (entryFrame m #[(.ref o0_4)] 1))
  rw [ef_4 m o0_4]
  show own_Ends p.tables e below s _ _ _ (s₁.setTop (mkF m 0 #[.val (.ref o0_4)] []))
  refine own_step (fun t k => XS.aloadN X0.here hx rfl (hb hby d4_0) rfl rfl k) ?_
  show own_Ends p.tables e below s _ _ _ (s₁.setTop (mkF m 1 #[.val (.ref o0_4)] [(.ref o0_4)]))
  refine own_step (fun t k => XS.dup X0.here hx rfl (hb hby d4_1) rfl rfl k) ?_
  show own_Ends p.tables e below s _ _ _ (s₁.setTop (mkF m 2 #[.val (.ref o0_4)] [(.ref o0_4), (.ref o0_4)]))
  obtain ⟨T1, X1, e1, st1⟩ := getF X0 hx hZ hown (host := "") (Or.inl (hw _ (List.mem_of_getElem? (i := 19) rfl))) Via.refl e0 F_variables_o0_4 (g := (mkF m 2 #[.val (.ref o0_4)] [(.ref o0_4), (.ref o0_4)])) rfl rfl (hb hby d4_2)
  refine own_step (fun t k => st1 _ k) ?_
  show own_Ends p.tables e below s _ _ _ (T1.setTop (mkF m 5 #[.val (.ref o0_4)] [(.int w_variables_o0_4), (.ref o0_4)]))
  refine own_step (fun t k => XS.iconst X1.here hx rfl (hb hby d4_5) k) ?_
  show own_Ends p.tables e below s _ _ _ (T1.setTop (mkF m 6 #[.val (.ref o0_4)] [(.int (1 : Int32)), (.int w_variables_o0_4), (.ref o0_4)]))
  refine own_step (fun t k => XS.iadd X1.here hx rfl (hb hby d4_6) rfl k) ?_
  show own_Ends p.tables e below s _ _ _ (T1.setTop (mkF m 7 #[.val (.ref o0_4)] [(.int (w_variables_o0_4 + (1 : Int32))), (.ref o0_4)]))
  obtain ⟨T2, h2, X2, e2, W2, st2⟩ := putF X1 hx hZ hown (host := "") (Or.inl (hw _ (List.mem_of_getElem? (i := 19) rfl))) Via.refl e1 F_variables_o0_4 E_o0_4 (Or.inl (hw _ (List.mem_of_getElem? (i := 20) rfl))) (hw _ (List.mem_of_getElem? (i := 1) rfl)) (ty := .int) (by decide) rfl rfl (g := (mkF m 7 #[.val (.ref o0_4)] [(.int (w_variables_o0_4 + (1 : Int32))), (.ref o0_4)])) rfl rfl (hb hby d4_7)
  refine own_step (fun t k => st2 _ k) ?_
  have F3 : Fld Z h2 o0_4 "com/example/untl/untl/Cnf" "variables" "I" (.int (w_variables_o0_4 + (1 : Int32))) := F_variables_o0_4.same W2
  have K4 : Keep h0 h2 [o0_4] := (Keep.refl h0 [o0_4]).wr W2 (Or.inl (List.mem_of_getElem? (i := 0) rfl))
  have N5 := Fr.snoc X2 N0 g_o0_4
  show own_Ends p.tables e below s _ _ _ (T2.setTop (mkF m 10 #[.val (.ref o0_4)] []))
  refine own_step (fun t k => XS.aloadN X2.here hx rfl (hb hby d4_10) rfl rfl k) ?_
  show own_Ends p.tables e below s _ _ _ (T2.setTop (mkF m 11 #[.val (.ref o0_4)] [(.ref o0_4)]))
  obtain ⟨T6, X6, e6, st6⟩ := getF X2 hx hZ hown (host := "") (Or.inl (hw _ (List.mem_of_getElem? (i := 19) rfl))) Via.refl e2 F3 (g := (mkF m 11 #[.val (.ref o0_4)] [(.ref o0_4)])) rfl rfl (hb hby d4_11)
  refine own_step (fun t k => st6 _ k) ?_
  show own_Ends p.tables e below s _ _ _ (T6.setTop (mkF m 14 #[.val (.ref o0_4)] [(.int (w_variables_o0_4 + (1 : Int32)))]))
  have F7 : Fld Z h2 o0_4 "com/example/untl/untl/Cnf" "literals" "[I" u_literals_o0_4 := (F_literals_o0_4.other W2 (Or.inr (slot_ne (Or.inl (hw _ (List.mem_of_getElem? (i := 11) rfl))) (Or.inl (hw _ (List.mem_of_getElem? (i := 20) rfl))) (by decide) (t := (.array .int)) (t' := .int) (by decide) (by decide))))
  have F8 : Fld Z h2 o0_4 "com/example/untl/untl/Cnf" "clauseStarts" "[I" u_clauseStarts_o0_4 := (F_clauseStarts_o0_4.other W2 (Or.inr (slot_ne (Or.inl (hw _ (List.mem_of_getElem? (i := 13) rfl))) (Or.inl (hw _ (List.mem_of_getElem? (i := 20) rfl))) (by decide) (t := (.array .int)) (t' := .int) (by decide) (by decide))))
  have F9 : Fld Z h2 o0_4 "com/example/untl/untl/Cnf" "clauses" "I" u_clauses_o0_4 := (F_clauses_o0_4.other W2 (Or.inr (slot_ne (Or.inl (hw _ (List.mem_of_getElem? (i := 32) rfl))) (Or.inl (hw _ (List.mem_of_getElem? (i := 20) rfl))) (by decide) (t := .int) (t' := .int) (by decide) (by decide))))
  have F10 : Exa Z h2 o0_4 "com/example/untl/untl/Cnf" := (E_o0_4.wr W2)
  exact own_retI X6 hx Bd.returns (hb hby d4_14) hnl (by rw [e6]; exact ⟨rfl, N5, K4, F7, F8, F9, F3, F10⟩) (by decide) (by decide)
theorem d5_0 : decode prog_4_method_5_code 0 = .ok (.aload_n 0, 1) := by decide +kernel
theorem d5_1 : decode prog_4_method_5_code 1 = .ok (.getfield 48, 3) := by decide +kernel
theorem d5_4 : decode prog_4_method_5_code 4 = .ok (.ireturn, 1) := by decide +kernel
theorem ef_5 (m : MethodId) (o0_5 : Addr) : entryFrame m #[(.ref o0_5)] 1 = mkF m 0 #[.val (.ref o0_5)] [] := by first | (simp [entryFrame, mkF, argsToLocals, Value.category]; done) | rfl
def Q5 (Z : State) (o0_5 : Addr) (w_clauses_o0_5 : Int32) (h0 : Heap) (n0 : Nat) (v : Option Value) (h : Heap) (L : List Loc) : Prop := v = some (.int w_clauses_o0_5) ∧ Fr n0 L ∧ h = h0
set_option maxRecDepth 65536 in
set_option maxHeartbeats 40000000 in
theorem rm5 (l : Launch) (Z : State) (a0 : Array Value) (hw : ∀ d ∈ tables_1, d.before a0 Z = true) (ws : List Jvm.Cond) (o0_5 : Addr) (w_clauses_o0_5 : Int32) (h0 : Heap) (n0 : Nat) (O0 : Old Z n0 h0) (F_clauses_o0_5 : Fld Z h0 o0_5 "com/example/untl/untl/Cnf" "clauses" "I" (.int w_clauses_o0_5)) :
    MetFree l (⟨"com/example/untl/untl/Cnf", "clauses", "()I"⟩ : MethodName) (head1 (Jvm.Cond.code (⟨"com/example/untl/untl/Cnf", "clauses", "()I"⟩ : MethodName) prog_4_method_5_code 1 (some .int) :: ws) ({ frames := 0, cells := 0, slots := 0, locals := 0 } : Room)) (fun a U => a = #[(.ref o0_5)] ∧ Z.Warmed39 U.vm ∧ U.heap = h0) (fun _ _ _ _ _ => True) (fun _ U o U' => ∃ v L, o = .returned v ∧ Q5 Z o0_5 w_clauses_o0_5 h0 n0 v U'.heap L ∧ FrameEnd U o U' L ({ frames := 0, cells := 0, slots := 0, locals := 0 } : Room).cells ({ frames := 0, cells := 0, slots := 0, locals := 0 } : Room).slots) := by
  refine MetFree.of_bodySF (plainFor_of_name pn_0) hisR ?_
  intro p e s m args below meth c s₁ Bd hml0 hP hK
  obtain ⟨rfl, hZ, hh⟩ := hP
  have hx := Bd.exec
  have hby := Bd.bytes
  have hnl := BodyLoose.notSynchronized Bd
  have hml : c.maxLocals = 1 := hml0
  have hown : s.vm.findClass "com/example/untl/untl/Cnf" = some m.cls := findClass_of_methodNamed Bd.named
  have hnm := (name_of_methodNamed Bd.named Bd.method).1
  have X0 : Stand p l e ({ frames := 0, cells := 0, slots := 0, locals := 0 } : Room) s m #[(.ref o0_5)] below meth c s₁ [] 0 0 := Stand.of_body Bd
  have e0 : s₁.heap = h0 := by rw [← hh, Bd.state]; rfl
  have N0 := Fr.nil n0
  show own_Ends p.tables e below s (Q5 Z o0_5 w_clauses_o0_5 h0 n0) 0 0 (s₁.setTop (entryFrame m #[(.ref o0_5)] 1))
  rw [ef_5 m o0_5]
  show own_Ends p.tables e below s _ _ _ (s₁.setTop (mkF m 0 #[.val (.ref o0_5)] []))
  refine own_step (fun t k => XS.aloadN X0.here hx rfl (hb hby d5_0) rfl rfl k) ?_
  show own_Ends p.tables e below s _ _ _ (s₁.setTop (mkF m 1 #[.val (.ref o0_5)] [(.ref o0_5)]))
  obtain ⟨T1, X1, e1, st1⟩ := getF X0 hx hZ hown (host := "") (Or.inl (hw _ (List.mem_of_getElem? (i := 31) rfl))) Via.refl e0 F_clauses_o0_5 (g := (mkF m 1 #[.val (.ref o0_5)] [(.ref o0_5)])) rfl rfl (hb hby d5_1)
  refine own_step (fun t k => st1 _ k) ?_
  show own_Ends p.tables e below s _ _ _ (T1.setTop (mkF m 4 #[.val (.ref o0_5)] [(.int w_clauses_o0_5)]))
  exact own_retI X1 hx Bd.returns (hb hby d5_4) hnl (by rw [e1]; exact ⟨rfl, N0, rfl⟩) (by decide) (by decide)
theorem pd_0 : parseMethodDescriptor "()V" = some ⟨[], none⟩ := by decide +kernel
theorem pd_1 : parseMethodDescriptor "()I" = some ⟨[], some .int⟩ := by decide +kernel
theorem pn_1 : plainName "com/example/untl/untl/CnfNewVariablePinLaw" = true := by first | (simp [plainName, overriddenIn]; done) | decide +kernel
theorem ef_0 (m : MethodId) (x0_0 : Int32) : entryFrame m #[(.int x0_0)] maxLocals = mkF m 0 #[.val (.int x0_0), .unset, .unset, .unset, .unset, .unset] [] := by first | (simp [entryFrame, mkF, argsToLocals, Value.category, maxLocals]; done) | rfl
def Q0 (Z : State) (x0_0 : Int32) (h0 : Heap) (n0 : Nat) (v : Option Value) (h : Heap) (L : List Loc) : Prop := v = some (.int 1) ∧ Fr n0 L
set_option maxRecDepth 65536 in
set_option maxHeartbeats 40000000 in
theorem rm0 (l : Launch) (Z : State) (a0 : Array Value) (hw : ∀ d ∈ tables_1, d.before a0 Z = true) (ws : List Jvm.Cond) (x0_0 : Int32) (h0 : Heap) (n0 : Nat) (O0 : Old Z n0 h0) :
    MetFree l x (head1 (Jvm.Cond.code x code maxLocals ret :: ws) room_1) (fun a U => a = #[(.int x0_0)] ∧ Z.Warmed39 U.vm ∧ U.heap = h0) (fun _ _ _ _ _ => True) (fun _ U o U' => ∃ v L, o = .returned v ∧ Q0 Z x0_0 h0 n0 v U'.heap L ∧ FrameEnd U o U' L 3 325) := by
  refine MetFree.of_bodySF (plainFor_of_name pn_1) hisR ?_
  intro p e s m args below meth c s₁ Bd hml0 hP hK
  obtain ⟨rfl, hZ, hh⟩ := hP
  have hx := Bd.exec
  have hby := Bd.bytes
  have hnl := BodyLoose.notSynchronized Bd
  have hml : c.maxLocals = 6 := hml0
  have hown : s.vm.findClass "com/example/untl/untl/CnfNewVariablePinLaw" = some m.cls := findClass_of_methodNamed Bd.named
  have hnm := (name_of_methodNamed Bd.named Bd.method).1
  have X0 : Stand p l e room_1 s m #[(.int x0_0)] below meth c s₁ [] 0 0 := Stand.of_body Bd
  have e0 : s₁.heap = h0 := by rw [← hh, Bd.state]; rfl
  have N0 := Fr.nil n0
  show own_Ends p.tables e below s (Q0 Z x0_0 h0 n0) 3 325 (s₁.setTop (entryFrame m #[(.int x0_0)] maxLocals))
  rw [ef_0 m x0_0]
  show own_Ends p.tables e below s _ _ _ (s₁.setTop (mkF m 0 #[.val (.int x0_0), .unset, .unset, .unset, .unset, .unset] []))
  obtain ⟨T1, h1, X1, e1, E1, A1, D1, -, st1⟩ := newO X0 hx hZ hown (hw _ (List.mem_of_getElem? (i := 0) rfl)) (hw _ (List.mem_of_getElem? (i := 1) rfl)) (hw _ (List.mem_of_getElem? (i := 2) rfl)) e0 (g := (mkF m 0 #[.val (.int x0_0), .unset, .unset, .unset, .unset, .unset] [])) rfl (hb hby at_0) (by decide) (by decide)
  obtain ⟨b1, g1⟩ : ∃ z, z = h0.size := ⟨_, rfl⟩
  rw [← g1] at A1 D1 st1
  have g_b1 : n0 ≤ b1 := Nat.le_trans (Nat.le_trans (Nat.le_of_eq O0.1.symm) O0.2.1) (Nat.le_of_eq g1.symm)
  have sz_b1 : h0.size ≤ b1 := Nat.le_trans (Keep.refl h0 []).1 (Nat.le_of_eq g1.symm)
  have F1_literals : Fld Z h1 b1 "com/example/untl/untl/Cnf" "literals" "[I" .null := D1 (Or.inl (hw _ (List.mem_of_getElem? (i := 11) rfl))) (ty := (.array .int)) (by decide)
  have F1_clauseStarts : Fld Z h1 b1 "com/example/untl/untl/Cnf" "clauseStarts" "[I" .null := D1 (Or.inl (hw _ (List.mem_of_getElem? (i := 13) rfl))) (ty := (.array .int)) (by decide)
  have F1_variables : Fld Z h1 b1 "com/example/untl/untl/Cnf" "variables" "I" (.int (0 : Int32)) := D1 (Or.inl (hw _ (List.mem_of_getElem? (i := 20) rfl))) (ty := .int) (by decide)
  have F1_clauses : Fld Z h1 b1 "com/example/untl/untl/Cnf" "clauses" "I" (.int (0 : Int32)) := D1 (Or.inl (hw _ (List.mem_of_getElem? (i := 32) rfl))) (ty := .int) (by decide)
  refine own_step (fun t k => st1 _ k) ?_
  have K2 : Keep h0 h1 [] := (Keep.refl h0 []).ext E1
  show own_Ends p.tables e below s _ _ _ (T1.setTop (mkF m 3 #[.val (.int x0_0), .unset, .unset, .unset, .unset, .unset] [(.ref b1)]))
  refine own_step (fun t k => XS.dup X1.here hx rfl (hb hby at_3) rfl rfl k) ?_
  show own_Ends p.tables e below s _ _ _ (T1.setTop (mkF m 4 #[.val (.int x0_0), .unset, .unset, .unset, .unset, .unset] [(.ref b1), (.ref b1)]))
  have O3 : Old Z n0 h1 := (O0.ext E1)
  obtain ⟨_, _, ⟨T4, L4, k4, n4⟩, -, X4, ⟨Lc4, hQ4, l4, y4, z4⟩, st4⟩ := X1.specialBack hx (y := (⟨"com/example/untl/untl/Cnf", "<init>", "()V"⟩ : MethodName)) rfl hown (mvT hZ (hw _ (List.mem_of_getElem? (i := 3) rfl))) (mvT hZ (hw _ (List.mem_of_getElem? (i := 4) rfl))) (mvT hZ (hw _ (List.mem_of_getElem? (i := 5) rfl))) (by decide) (backOf (W := 1) (rm1 l Z a0 hw [] b1 (.int (0 : Int32)) (.int (0 : Int32)) .null .null h1 n0 O3 F1_variables F1_clauses A1 F1_literals g_b1 F1_clauseStarts) hZ (hw _ (List.mem_of_getElem? (i := 5) rfl)) (hw _ (List.mem_of_getElem? (i := 2) rfl)) (by decide) (by decide)) (g := (mkF m 4 #[.val (.int x0_0), .unset, .unset, .unset, .unset, .unset] [(.ref b1), (.ref b1)])) rfl (by rw [hml]; rfl) (Steps.refl _) (a := b1) (argsL := []) (rest := [(.ref b1)]) (lenOf pd_0 rfl) rfl (by show 2 * 0 + _ ≤ _; exact Nat.le_of_eq rfl) (hb hby at_4) (fun _ _ => ⟨rfl, e1, (by decide : 1 + 2 ≤ _), (by decide : 5 + 320 ≤ _)⟩)
  dsimp only [Pt.U, Pt.locs, Pt.cells, Pt.slots] at X4 l4 y4 z4 st4 hQ4
  subst l4 y4 z4
  obtain ⟨b2_4, k2_4, b13_4, k13_4, rfl, N4q, K4q, p4_0, p4_1, p4_2, p4_3, p4_4, p4_5, p4_6, p4_7, p4_8, p4_9⟩ := hQ4
  refine own_step (fun t k => st4.trans k) ?_
  have N5 := Fr.app N0 N4q
  have sz_b2_4 : h0.size ≤ b2_4 := Nat.le_trans K2.1 p4_0
  have g_b2_4 : n0 ≤ b2_4 := Nat.le_trans (Nat.le_trans (Nat.le_of_eq O3.1.symm) O3.2.1) p4_0
  have ne_b1_b2_4 : b1 ≠ b2_4 := Nat.ne_of_lt (Nat.lt_of_lt_of_le A1.lt p4_0)
  have sz_b13_4 : h0.size ≤ b13_4 := Nat.le_trans K2.1 p4_1
  have g_b13_4 : n0 ≤ b13_4 := Nat.le_trans (Nat.le_trans (Nat.le_of_eq O3.1.symm) O3.2.1) p4_1
  have ne_b1_b13_4 : b1 ≠ b13_4 := Nat.ne_of_lt (Nat.lt_of_lt_of_le A1.lt p4_1)
  have K6 : Keep h0 T4.heap [] := K2.trans K4q (allS (Or.inr sz_b1) all0)
  show own_Ends p.tables e below s _ _ _ (T4.setTop (mkF m 7 #[.val (.int x0_0), .unset, .unset, .unset, .unset, .unset] [(.ref b1)]))
  refine own_step (fun t k => XS.astoreN X4.here hx rfl (hb hby at_7) rfl rfl (l' := #[.val (.int x0_0), .val (.ref b1), .unset, .unset, .unset, .unset]) rfl k) ?_
  show own_Ends p.tables e below s _ _ _ (T4.setTop (mkF m 8 #[.val (.int x0_0), .val (.ref b1), .unset, .unset, .unset, .unset] []))
  refine own_step (fun t k => XS.iloadN X4.here hx rfl (hb hby at_8) rfl k) ?_
  show own_Ends p.tables e below s _ _ _ (T4.setTop (mkF m 9 #[.val (.int x0_0), .val (.ref b1), .unset, .unset, .unset, .unset] [(.int x0_0)]))
  refine own_step (fun t k => XS.iconst X4.here hx rfl (hb hby at_9) k) ?_
  show own_Ends p.tables e below s _ _ _ (T4.setTop (mkF m 10 #[.val (.int x0_0), .val (.ref b1), .unset, .unset, .unset, .unset] [(.int (3 : Int32)), (.int x0_0)]))
  refine own_step (fun t k => XS.iand X4.here hx rfl (hb hby at_10) rfl k) ?_
  show own_Ends p.tables e below s _ _ _ (T4.setTop (mkF m 11 #[.val (.int x0_0), .val (.ref b1), .unset, .unset, .unset, .unset] [(.int (x0_0 &&& (3 : Int32)))]))
  generalize hm3 : (x0_0 &&& (3 : Int32)) = m3
  show own_Ends p.tables e below s _ _ _ (T4.setTop (mkF m 11 #[.val (.int x0_0), .val (.ref b1), .unset, .unset, .unset, .unset] [(.int m3)]))
  refine own_step (fun t k => XS.istoreN X4.here hx rfl (hb hby at_11) rfl (l' := #[.val (.int x0_0), .val (.ref b1), .val (.int m3), .unset, .unset, .unset]) rfl k) ?_
  show own_Ends p.tables e below s _ _ _ (T4.setTop (mkF m 12 #[.val (.int x0_0), .val (.ref b1), .val (.int m3), .unset, .unset, .unset] []))
  refine own_step (fun t k => XS.iconst X4.here hx rfl (hb hby at_12) k) ?_
  show own_Ends p.tables e below s _ _ _ (T4.setTop (mkF m 13 #[.val (.int x0_0), .val (.ref b1), .val (.int m3), .unset, .unset, .unset] [(.int (0 : Int32))]))
  refine own_step (fun t k => XS.istoreN X4.here hx rfl (hb hby at_13) rfl (l' := #[.val (.int x0_0), .val (.ref b1), .val (.int m3), .val (.int (0 : Int32)), .unset, .unset]) rfl k) ?_
  show own_Ends p.tables e below s _ _ _ (T4.setTop (mkF m 14 #[.val (.int x0_0), .val (.ref b1), .val (.int m3), .val (.int (0 : Int32)), .unset, .unset] []))
  refine own_step (fun t k => XS.iloadN X4.here hx rfl (hb hby at_14) rfl k) ?_
  show own_Ends p.tables e below s _ _ _ (T4.setTop (mkF m 15 #[.val (.int x0_0), .val (.ref b1), .val (.int m3), .val (.int (0 : Int32)), .unset, .unset] [(.int m3)]))
  refine own_step (fun t k => XS.iconst X4.here hx rfl (hb hby at_15) k) ?_
  show own_Ends p.tables e below s _ _ _ (T4.setTop (mkF m 16 #[.val (.int x0_0), .val (.ref b1), .val (.int m3), .val (.int (0 : Int32)), .unset, .unset] [(.int (1 : Int32)), (.int m3)]))
  by_cases hc16_7 : m3 < (1 : Int32)
  · skip
    refine own_step (fun t k => XS.icmpYes X4.here hx rfl (pc0 := 16) (pc' := 31) rfl (hb hby at_16) rfl (tlt hc16_7).1 (by decide) (by decide) k) ?_
    show own_Ends p.tables e below s _ _ _ (T4.setTop (mkF m 31 #[.val (.int x0_0), .val (.ref b1), .val (.int m3), .val (.int (0 : Int32)), .unset, .unset] []))
    refine own_step (fun t k => XS.iloadN X4.here hx rfl (hb hby at_31) rfl k) ?_
    show own_Ends p.tables e below s _ _ _ (T4.setTop (mkF m 32 #[.val (.int x0_0), .val (.ref b1), .val (.int m3), .val (.int (0 : Int32)), .unset, .unset] [(.int m3)]))
    refine own_step (fun t k => XS.iconst X4.here hx rfl (hb hby at_32) k) ?_
    show own_Ends p.tables e below s _ _ _ (T4.setTop (mkF m 33 #[.val (.int x0_0), .val (.ref b1), .val (.int m3), .val (.int (0 : Int32)), .unset, .unset] [(.int (2 : Int32)), (.int m3)]))
    by_cases hc33_8 : m3 < (2 : Int32)
    · skip
      refine own_step (fun t k => XS.icmpYes X4.here hx rfl (pc0 := 33) (pc' := 48) rfl (hb hby at_33) rfl (tlt hc33_8).1 (by decide) (by decide) k) ?_
      show own_Ends p.tables e below s _ _ _ (T4.setTop (mkF m 48 #[.val (.int x0_0), .val (.ref b1), .val (.int m3), .val (.int (0 : Int32)), .unset, .unset] []))
      refine own_step (fun t k => XS.iloadN X4.here hx rfl (hb hby at_48) rfl k) ?_
      show own_Ends p.tables e below s _ _ _ (T4.setTop (mkF m 49 #[.val (.int x0_0), .val (.ref b1), .val (.int m3), .val (.int (0 : Int32)), .unset, .unset] [(.int m3)]))
      refine own_step (fun t k => XS.iconst X4.here hx rfl (hb hby at_49) k) ?_
      show own_Ends p.tables e below s _ _ _ (T4.setTop (mkF m 50 #[.val (.int x0_0), .val (.ref b1), .val (.int m3), .val (.int (0 : Int32)), .unset, .unset] [(.int (3 : Int32)), (.int m3)]))
      by_cases hc50_9 : m3 < (3 : Int32)
      · skip
        refine own_step (fun t k => XS.icmpYes X4.here hx rfl (pc0 := 50) (pc' := 65) rfl (hb hby at_50) rfl (tlt hc50_9).1 (by decide) (by decide) k) ?_
        show own_Ends p.tables e below s _ _ _ (T4.setTop (mkF m 65 #[.val (.int x0_0), .val (.ref b1), .val (.int m3), .val (.int (0 : Int32)), .unset, .unset] []))
        refine own_step (fun t k => XS.aloadN X4.here hx rfl (hb hby at_65) rfl rfl k) ?_
        show own_Ends p.tables e below s _ _ _ (T4.setTop (mkF m 66 #[.val (.int x0_0), .val (.ref b1), .val (.int m3), .val (.int (0 : Int32)), .unset, .unset] [(.ref b1)]))
        have O10 : Old Z n0 T4.heap := (O3.keep K4q (allS g_b1 all0))
        obtain ⟨cq11, kq11, q11a, q11b, q11c⟩ := isOf hZ rfl p4_4
        obtain ⟨_, _, ⟨T11, L11, k11, n11⟩, -, X11, ⟨Lc11, hQ11, l11, y11, z11⟩, st11⟩ := X4.virtualBack hx (y := (⟨"com/example/untl/untl/Cnf", "variables", "()I"⟩ : MethodName)) (z := (⟨"com/example/untl/untl/Cnf", "variables", "()I"⟩ : MethodName)) hown (mvT hZ (hw _ (List.mem_of_getElem? (i := 14) rfl))) (mvT hZ (hw _ (List.mem_of_getElem? (i := 15) rfl))) (notFace_of_selects (args := #[]) (mvT hZ (hw _ (List.mem_of_getElem? (i := 17) rfl)))) (mvT hZ (hw _ (List.mem_of_getElem? (i := 17) rfl))) (mvT hZ (hw _ (List.mem_of_getElem? (i := 16) rfl))) (by decide) (backOf (W := 0) (rm3 l Z a0 hw [] b1 (0 : Int32) T4.heap n0 O10 p4_2) hZ (hw _ (List.mem_of_getElem? (i := 18) rfl)) (hw _ (List.mem_of_getElem? (i := 2) rfl)) (by decide) (by decide)) q11a q11c (g := (mkF m 66 #[.val (.int x0_0), .val (.ref b1), .val (.int m3), .val (.int (0 : Int32)), .unset, .unset] [(.ref b1)])) rfl (by rw [hml]; rfl) (Steps.refl _) (argsL := []) (rest := []) (lenOf pd_1 rfl) rfl (by show 2 * 0 + _ ≤ _; exact Nat.le_of_eq rfl) (hb hby at_66) (fun _ _ => ⟨rfl, rfl, (by decide : 3 + 0 ≤ _), (by decide : 325 + 0 ≤ _)⟩)
        dsimp only [Pt.U, Pt.locs, Pt.cells, Pt.slots] at X11 l11 y11 z11 st11 hQ11
        subst l11 y11 z11
        obtain ⟨rfl, N11q, e11⟩ := hQ11
        refine own_step (fun t k => st11.trans k) ?_
        have N12 := Fr.app N5 N11q
        show own_Ends p.tables e below s _ _ _ (T11.setTop (mkF m 69 #[.val (.int x0_0), .val (.ref b1), .val (.int m3), .val (.int (0 : Int32)), .unset, .unset] [(.int (0 : Int32))]))
        refine own_step (fun t k => XS.iloadN X11.here hx rfl (hb hby at_69) rfl k) ?_
        show own_Ends p.tables e below s _ _ _ (T11.setTop (mkF m 70 #[.val (.int x0_0), .val (.ref b1), .val (.int m3), .val (.int (0 : Int32)), .unset, .unset] [(.int (0 : Int32)), (.int (0 : Int32))]))
        refine own_step (fun t k => XS.icmpYes X11.here hx rfl (pc0 := 70) (pc' := 75) rfl (hb hby at_70) rfl (teq (by decide : (0 : Int32) = (0 : Int32))).1 (by decide) (by decide) k) ?_
        show own_Ends p.tables e below s _ _ _ (T11.setTop (mkF m 75 #[.val (.int x0_0), .val (.ref b1), .val (.int m3), .val (.int (0 : Int32)), .unset, .unset] []))
        refine own_step (fun t k => XS.aloadN X11.here hx rfl (hb hby at_75) rfl rfl k) ?_
        show own_Ends p.tables e below s _ _ _ (T11.setTop (mkF m 76 #[.val (.int x0_0), .val (.ref b1), .val (.int m3), .val (.int (0 : Int32)), .unset, .unset] [(.ref b1)]))
        obtain ⟨cq13, kq13, q13a, q13b, q13c⟩ := isOf hZ e11 p4_4
        obtain ⟨_, _, ⟨T13, L13, k13, n13⟩, -, X13, ⟨Lc13, hQ13, l13, y13, z13⟩, st13⟩ := X11.virtualBack hx (y := (⟨"com/example/untl/untl/Cnf", "newVariable", "()I"⟩ : MethodName)) (z := (⟨"com/example/untl/untl/Cnf", "newVariable", "()I"⟩ : MethodName)) hown (mvT hZ (hw _ (List.mem_of_getElem? (i := 21) rfl))) (mvT hZ (hw _ (List.mem_of_getElem? (i := 22) rfl))) (notFace_of_selects (args := #[]) (mvT hZ (hw _ (List.mem_of_getElem? (i := 24) rfl)))) (mvT hZ (hw _ (List.mem_of_getElem? (i := 24) rfl))) (mvT hZ (hw _ (List.mem_of_getElem? (i := 23) rfl))) (by decide) (backOf (W := 0) (rm4 l Z a0 hw [] b1 (.ref b2_4) (.ref b13_4) (.int (0 : Int32)) (0 : Int32) T4.heap n0 O10 p4_5 p4_6 p4_3 p4_2 p4_4 g_b1) hZ (hw _ (List.mem_of_getElem? (i := 25) rfl)) (hw _ (List.mem_of_getElem? (i := 2) rfl)) (by decide) (by decide)) q13a q13c (g := (mkF m 76 #[.val (.int x0_0), .val (.ref b1), .val (.int m3), .val (.int (0 : Int32)), .unset, .unset] [(.ref b1)])) rfl (by rw [hml]; rfl) (Steps.refl _) (argsL := []) (rest := []) (lenOf pd_1 rfl) rfl (by show 2 * 0 + _ ≤ _; exact Nat.le_of_eq rfl) (hb hby at_76) (fun _ _ => ⟨rfl, e11, (by decide : 3 + 0 ≤ _), (by decide : 325 + 0 ≤ _)⟩)
        dsimp only [Pt.U, Pt.locs, Pt.cells, Pt.slots] at X13 l13 y13 z13 st13 hQ13
        subst l13 y13 z13
        obtain ⟨rfl, N13q, K13q, p13_0, p13_1, p13_2, p13_3, p13_4⟩ := hQ13
        refine own_step (fun t k => st13.trans k) ?_
        have N14 := Fr.app N12 N13q
        have K15 : Keep h0 T13.heap [] := K6.trans K13q (allS (Or.inr sz_b1) all0)
        show own_Ends p.tables e below s _ _ _ (T13.setTop (mkF m 79 #[.val (.int x0_0), .val (.ref b1), .val (.int m3), .val (.int (0 : Int32)), .unset, .unset] [(.int (1 : Int32))]))
        refine own_step (fun t k => XS.istore X13.here hx rfl (hb hby at_79) rfl (l' := #[.val (.int x0_0), .val (.ref b1), .val (.int m3), .val (.int (0 : Int32)), .val (.int (1 : Int32)), .unset]) rfl k) ?_
        show own_Ends p.tables e below s _ _ _ (T13.setTop (mkF m 81 #[.val (.int x0_0), .val (.ref b1), .val (.int m3), .val (.int (0 : Int32)), .val (.int (1 : Int32)), .unset] []))
        refine own_step (fun t k => XS.aloadN X13.here hx rfl (hb hby at_81) rfl rfl k) ?_
        show own_Ends p.tables e below s _ _ _ (T13.setTop (mkF m 82 #[.val (.int x0_0), .val (.ref b1), .val (.int m3), .val (.int (0 : Int32)), .val (.int (1 : Int32)), .unset] [(.ref b1)]))
        have O16 : Old Z n0 T13.heap := (O10.keep K13q (allS g_b1 all0))
        obtain ⟨cq17, kq17, q17a, q17b, q17c⟩ := isOf hZ rfl p13_4
        obtain ⟨_, _, ⟨T17, L17, k17, n17⟩, -, X17, ⟨Lc17, hQ17, l17, y17, z17⟩, st17⟩ := X13.virtualBack hx (y := (⟨"com/example/untl/untl/Cnf", "newVariable", "()I"⟩ : MethodName)) (z := (⟨"com/example/untl/untl/Cnf", "newVariable", "()I"⟩ : MethodName)) hown (mvT hZ (hw _ (List.mem_of_getElem? (i := 21) rfl))) (mvT hZ (hw _ (List.mem_of_getElem? (i := 22) rfl))) (notFace_of_selects (args := #[]) (mvT hZ (hw _ (List.mem_of_getElem? (i := 24) rfl)))) (mvT hZ (hw _ (List.mem_of_getElem? (i := 24) rfl))) (mvT hZ (hw _ (List.mem_of_getElem? (i := 23) rfl))) (by decide) (backOf (W := 0) (rm4 l Z a0 hw [] b1 (.ref b2_4) (.ref b13_4) (.int (0 : Int32)) (1 : Int32) T13.heap n0 O16 p13_0 p13_1 p13_2 p13_3 p13_4 g_b1) hZ (hw _ (List.mem_of_getElem? (i := 25) rfl)) (hw _ (List.mem_of_getElem? (i := 2) rfl)) (by decide) (by decide)) q17a q17c (g := (mkF m 82 #[.val (.int x0_0), .val (.ref b1), .val (.int m3), .val (.int (0 : Int32)), .val (.int (1 : Int32)), .unset] [(.ref b1)])) rfl (by rw [hml]; rfl) (Steps.refl _) (argsL := []) (rest := []) (lenOf pd_1 rfl) rfl (by show 2 * 0 + _ ≤ _; exact Nat.le_of_eq rfl) (hb hby at_82) (fun _ _ => ⟨rfl, rfl, (by decide : 3 + 0 ≤ _), (by decide : 325 + 0 ≤ _)⟩)
        dsimp only [Pt.U, Pt.locs, Pt.cells, Pt.slots] at X17 l17 y17 z17 st17 hQ17
        subst l17 y17 z17
        obtain ⟨rfl, N17q, K17q, p17_0, p17_1, p17_2, p17_3, p17_4⟩ := hQ17
        refine own_step (fun t k => st17.trans k) ?_
        have N18 := Fr.app N14 N17q
        have K19 : Keep h0 T17.heap [] := K15.trans K17q (allS (Or.inr sz_b1) all0)
        show own_Ends p.tables e below s _ _ _ (T17.setTop (mkF m 85 #[.val (.int x0_0), .val (.ref b1), .val (.int m3), .val (.int (0 : Int32)), .val (.int (1 : Int32)), .unset] [(.int (2 : Int32))]))
        refine own_step (fun t k => XS.istore X17.here hx rfl (hb hby at_85) rfl (l' := #[.val (.int x0_0), .val (.ref b1), .val (.int m3), .val (.int (0 : Int32)), .val (.int (1 : Int32)), .val (.int (2 : Int32))]) rfl k) ?_
        show own_Ends p.tables e below s _ _ _ (T17.setTop (mkF m 87 #[.val (.int x0_0), .val (.ref b1), .val (.int m3), .val (.int (0 : Int32)), .val (.int (1 : Int32)), .val (.int (2 : Int32))] []))
        refine own_step (fun t k => XS.iload X17.here hx rfl (hb hby at_87) rfl k) ?_
        show own_Ends p.tables e below s _ _ _ (T17.setTop (mkF m 89 #[.val (.int x0_0), .val (.ref b1), .val (.int m3), .val (.int (0 : Int32)), .val (.int (1 : Int32)), .val (.int (2 : Int32))] [(.int (1 : Int32))]))
        refine own_step (fun t k => XS.iloadN X17.here hx rfl (hb hby at_89) rfl k) ?_
        show own_Ends p.tables e below s _ _ _ (T17.setTop (mkF m 90 #[.val (.int x0_0), .val (.ref b1), .val (.int m3), .val (.int (0 : Int32)), .val (.int (1 : Int32)), .val (.int (2 : Int32))] [(.int (0 : Int32)), (.int (1 : Int32))]))
        refine own_step (fun t k => XS.iconst X17.here hx rfl (hb hby at_90) k) ?_
        show own_Ends p.tables e below s _ _ _ (T17.setTop (mkF m 91 #[.val (.int x0_0), .val (.ref b1), .val (.int m3), .val (.int (0 : Int32)), .val (.int (1 : Int32)), .val (.int (2 : Int32))] [(.int (1 : Int32)), (.int (0 : Int32)), (.int (1 : Int32))]))
        refine own_step (fun t k => XS.iadd X17.here hx rfl (hb hby at_91) rfl k) ?_
        show own_Ends p.tables e below s _ _ _ (T17.setTop (mkF m 92 #[.val (.int x0_0), .val (.ref b1), .val (.int m3), .val (.int (0 : Int32)), .val (.int (1 : Int32)), .val (.int (2 : Int32))] [(.int (1 : Int32)), (.int (1 : Int32))]))
        refine own_step (fun t k => XS.icmpNo X17.here hx rfl (hb hby at_92) rfl (teq (by decide : (1 : Int32) = (1 : Int32))).2 k) ?_
        show own_Ends p.tables e below s _ _ _ (T17.setTop (mkF m 95 #[.val (.int x0_0), .val (.ref b1), .val (.int m3), .val (.int (0 : Int32)), .val (.int (1 : Int32)), .val (.int (2 : Int32))] []))
        refine own_step (fun t k => XS.iload X17.here hx rfl (hb hby at_95) rfl k) ?_
        show own_Ends p.tables e below s _ _ _ (T17.setTop (mkF m 97 #[.val (.int x0_0), .val (.ref b1), .val (.int m3), .val (.int (0 : Int32)), .val (.int (1 : Int32)), .val (.int (2 : Int32))] [(.int (2 : Int32))]))
        refine own_step (fun t k => XS.iloadN X17.here hx rfl (hb hby at_97) rfl k) ?_
        show own_Ends p.tables e below s _ _ _ (T17.setTop (mkF m 98 #[.val (.int x0_0), .val (.ref b1), .val (.int m3), .val (.int (0 : Int32)), .val (.int (1 : Int32)), .val (.int (2 : Int32))] [(.int (0 : Int32)), (.int (2 : Int32))]))
        refine own_step (fun t k => XS.iconst X17.here hx rfl (hb hby at_98) k) ?_
        show own_Ends p.tables e below s _ _ _ (T17.setTop (mkF m 99 #[.val (.int x0_0), .val (.ref b1), .val (.int m3), .val (.int (0 : Int32)), .val (.int (1 : Int32)), .val (.int (2 : Int32))] [(.int (2 : Int32)), (.int (0 : Int32)), (.int (2 : Int32))]))
        refine own_step (fun t k => XS.iadd X17.here hx rfl (hb hby at_99) rfl k) ?_
        show own_Ends p.tables e below s _ _ _ (T17.setTop (mkF m 100 #[.val (.int x0_0), .val (.ref b1), .val (.int m3), .val (.int (0 : Int32)), .val (.int (1 : Int32)), .val (.int (2 : Int32))] [(.int (2 : Int32)), (.int (2 : Int32))]))
        refine own_step (fun t k => XS.icmpNo X17.here hx rfl (hb hby at_100) rfl (teq (by decide : (2 : Int32) = (2 : Int32))).2 k) ?_
        show own_Ends p.tables e below s _ _ _ (T17.setTop (mkF m 103 #[.val (.int x0_0), .val (.ref b1), .val (.int m3), .val (.int (0 : Int32)), .val (.int (1 : Int32)), .val (.int (2 : Int32))] []))
        refine own_step (fun t k => XS.aloadN X17.here hx rfl (hb hby at_103) rfl rfl k) ?_
        show own_Ends p.tables e below s _ _ _ (T17.setTop (mkF m 104 #[.val (.int x0_0), .val (.ref b1), .val (.int m3), .val (.int (0 : Int32)), .val (.int (1 : Int32)), .val (.int (2 : Int32))] [(.ref b1)]))
        have O20 : Old Z n0 T17.heap := (O16.keep K17q (allS g_b1 all0))
        obtain ⟨cq21, kq21, q21a, q21b, q21c⟩ := isOf hZ rfl p17_4
        obtain ⟨_, _, ⟨T21, L21, k21, n21⟩, -, X21, ⟨Lc21, hQ21, l21, y21, z21⟩, st21⟩ := X17.virtualBack hx (y := (⟨"com/example/untl/untl/Cnf", "variables", "()I"⟩ : MethodName)) (z := (⟨"com/example/untl/untl/Cnf", "variables", "()I"⟩ : MethodName)) hown (mvT hZ (hw _ (List.mem_of_getElem? (i := 14) rfl))) (mvT hZ (hw _ (List.mem_of_getElem? (i := 15) rfl))) (notFace_of_selects (args := #[]) (mvT hZ (hw _ (List.mem_of_getElem? (i := 17) rfl)))) (mvT hZ (hw _ (List.mem_of_getElem? (i := 17) rfl))) (mvT hZ (hw _ (List.mem_of_getElem? (i := 16) rfl))) (by decide) (backOf (W := 0) (rm3 l Z a0 hw [] b1 (2 : Int32) T17.heap n0 O20 p17_3) hZ (hw _ (List.mem_of_getElem? (i := 18) rfl)) (hw _ (List.mem_of_getElem? (i := 2) rfl)) (by decide) (by decide)) q21a q21c (g := (mkF m 104 #[.val (.int x0_0), .val (.ref b1), .val (.int m3), .val (.int (0 : Int32)), .val (.int (1 : Int32)), .val (.int (2 : Int32))] [(.ref b1)])) rfl (by rw [hml]; rfl) (Steps.refl _) (argsL := []) (rest := []) (lenOf pd_1 rfl) rfl (by show 2 * 0 + _ ≤ _; exact Nat.le_of_eq rfl) (hb hby at_104) (fun _ _ => ⟨rfl, rfl, (by decide : 3 + 0 ≤ _), (by decide : 325 + 0 ≤ _)⟩)
        dsimp only [Pt.U, Pt.locs, Pt.cells, Pt.slots] at X21 l21 y21 z21 st21 hQ21
        subst l21 y21 z21
        obtain ⟨rfl, N21q, e21⟩ := hQ21
        refine own_step (fun t k => st21.trans k) ?_
        have N22 := Fr.app N18 N21q
        show own_Ends p.tables e below s _ _ _ (T21.setTop (mkF m 107 #[.val (.int x0_0), .val (.ref b1), .val (.int m3), .val (.int (0 : Int32)), .val (.int (1 : Int32)), .val (.int (2 : Int32))] [(.int (2 : Int32))]))
        refine own_step (fun t k => XS.iload X21.here hx rfl (hb hby at_107) rfl k) ?_
        show own_Ends p.tables e below s _ _ _ (T21.setTop (mkF m 109 #[.val (.int x0_0), .val (.ref b1), .val (.int m3), .val (.int (0 : Int32)), .val (.int (1 : Int32)), .val (.int (2 : Int32))] [(.int (2 : Int32)), (.int (2 : Int32))]))
        refine own_step (fun t k => XS.icmpNo X21.here hx rfl (hb hby at_109) rfl (teq (by decide : (2 : Int32) = (2 : Int32))).2 k) ?_
        show own_Ends p.tables e below s _ _ _ (T21.setTop (mkF m 112 #[.val (.int x0_0), .val (.ref b1), .val (.int m3), .val (.int (0 : Int32)), .val (.int (1 : Int32)), .val (.int (2 : Int32))] []))
        refine own_step (fun t k => XS.aloadN X21.here hx rfl (hb hby at_112) rfl rfl k) ?_
        show own_Ends p.tables e below s _ _ _ (T21.setTop (mkF m 113 #[.val (.int x0_0), .val (.ref b1), .val (.int m3), .val (.int (0 : Int32)), .val (.int (1 : Int32)), .val (.int (2 : Int32))] [(.ref b1)]))
        obtain ⟨cq23, kq23, q23a, q23b, q23c⟩ := isOf hZ e21 p17_4
        obtain ⟨_, _, ⟨T23, L23, k23, n23⟩, -, X23, ⟨Lc23, hQ23, l23, y23, z23⟩, st23⟩ := X21.virtualBack hx (y := (⟨"com/example/untl/untl/Cnf", "clauses", "()I"⟩ : MethodName)) (z := (⟨"com/example/untl/untl/Cnf", "clauses", "()I"⟩ : MethodName)) hown (mvT hZ (hw _ (List.mem_of_getElem? (i := 26) rfl))) (mvT hZ (hw _ (List.mem_of_getElem? (i := 27) rfl))) (notFace_of_selects (args := #[]) (mvT hZ (hw _ (List.mem_of_getElem? (i := 29) rfl)))) (mvT hZ (hw _ (List.mem_of_getElem? (i := 29) rfl))) (mvT hZ (hw _ (List.mem_of_getElem? (i := 28) rfl))) (by decide) (backOf (W := 0) (rm5 l Z a0 hw [] b1 (0 : Int32) T17.heap n0 O20 p17_2) hZ (hw _ (List.mem_of_getElem? (i := 30) rfl)) (hw _ (List.mem_of_getElem? (i := 2) rfl)) (by decide) (by decide)) q23a q23c (g := (mkF m 113 #[.val (.int x0_0), .val (.ref b1), .val (.int m3), .val (.int (0 : Int32)), .val (.int (1 : Int32)), .val (.int (2 : Int32))] [(.ref b1)])) rfl (by rw [hml]; rfl) (Steps.refl _) (argsL := []) (rest := []) (lenOf pd_1 rfl) rfl (by show 2 * 0 + _ ≤ _; exact Nat.le_of_eq rfl) (hb hby at_113) (fun _ _ => ⟨rfl, e21, (by decide : 3 + 0 ≤ _), (by decide : 325 + 0 ≤ _)⟩)
        dsimp only [Pt.U, Pt.locs, Pt.cells, Pt.slots] at X23 l23 y23 z23 st23 hQ23
        subst l23 y23 z23
        obtain ⟨rfl, N23q, e23⟩ := hQ23
        refine own_step (fun t k => st23.trans k) ?_
        have N24 := Fr.app N22 N23q
        show own_Ends p.tables e below s _ _ _ (T23.setTop (mkF m 116 #[.val (.int x0_0), .val (.ref b1), .val (.int m3), .val (.int (0 : Int32)), .val (.int (1 : Int32)), .val (.int (2 : Int32))] [(.int (0 : Int32))]))
        refine own_step (fun t k => XS.ifNo X23.here hx rfl (hb hby at_116) rfl ((if0 _ _).trans (teq (by decide : (0 : Int32) = (0 : Int32))).2) k) ?_
        show own_Ends p.tables e below s _ _ _ (T23.setTop (mkF m 119 #[.val (.int x0_0), .val (.ref b1), .val (.int m3), .val (.int (0 : Int32)), .val (.int (1 : Int32)), .val (.int (2 : Int32))] []))
        refine own_step (fun t k => XS.iconst X23.here hx rfl (hb hby at_119) k) ?_
        show own_Ends p.tables e below s _ _ _ (T23.setTop (mkF m 120 #[.val (.int x0_0), .val (.ref b1), .val (.int m3), .val (.int (0 : Int32)), .val (.int (1 : Int32)), .val (.int (2 : Int32))] [(.int (1 : Int32))]))
        refine own_step (fun t k => XS.goto X23.here hx rfl (pc0 := 120) (pc' := 124) rfl (hb hby at_120) (by decide) (by decide) k) ?_
        show own_Ends p.tables e below s _ _ _ (T23.setTop (mkF m 124 #[.val (.int x0_0), .val (.ref b1), .val (.int m3), .val (.int (0 : Int32)), .val (.int (1 : Int32)), .val (.int (2 : Int32))] [(.int (1 : Int32))]))
        exact own_retN X23 hx (t := .boolean) Bd.returns (by simp) (hb hby at_124) hnl (by rw [e23]; exact ⟨rfl, N24⟩) (by decide) (by decide)
      · skip
        refine own_step (fun t k => XS.icmpNo X4.here hx rfl (hb hby at_50) rfl (flt hc50_9).1 k) ?_
        show own_Ends p.tables e below s _ _ _ (T4.setTop (mkF m 53 #[.val (.int x0_0), .val (.ref b1), .val (.int m3), .val (.int (0 : Int32)), .unset, .unset] []))
        refine own_step (fun t k => XS.aloadN X4.here hx rfl (hb hby at_53) rfl rfl k) ?_
        show own_Ends p.tables e below s _ _ _ (T4.setTop (mkF m 54 #[.val (.int x0_0), .val (.ref b1), .val (.int m3), .val (.int (0 : Int32)), .unset, .unset] [(.ref b1)]))
        have O25 : Old Z n0 T4.heap := (O3.keep K4q (allS g_b1 all0))
        obtain ⟨cq26, kq26, q26a, q26b, q26c⟩ := isOf hZ rfl p4_4
        obtain ⟨_, _, ⟨T26, L26, k26, n26⟩, -, X26, ⟨Lc26, hQ26, l26, y26, z26⟩, st26⟩ := X4.virtualBack hx (y := (⟨"com/example/untl/untl/Cnf", "newVariable", "()I"⟩ : MethodName)) (z := (⟨"com/example/untl/untl/Cnf", "newVariable", "()I"⟩ : MethodName)) hown (mvT hZ (hw _ (List.mem_of_getElem? (i := 21) rfl))) (mvT hZ (hw _ (List.mem_of_getElem? (i := 22) rfl))) (notFace_of_selects (args := #[]) (mvT hZ (hw _ (List.mem_of_getElem? (i := 24) rfl)))) (mvT hZ (hw _ (List.mem_of_getElem? (i := 24) rfl))) (mvT hZ (hw _ (List.mem_of_getElem? (i := 23) rfl))) (by decide) (backOf (W := 0) (rm4 l Z a0 hw [] b1 (.ref b2_4) (.ref b13_4) (.int (0 : Int32)) (0 : Int32) T4.heap n0 O25 p4_5 p4_6 p4_3 p4_2 p4_4 g_b1) hZ (hw _ (List.mem_of_getElem? (i := 25) rfl)) (hw _ (List.mem_of_getElem? (i := 2) rfl)) (by decide) (by decide)) q26a q26c (g := (mkF m 54 #[.val (.int x0_0), .val (.ref b1), .val (.int m3), .val (.int (0 : Int32)), .unset, .unset] [(.ref b1)])) rfl (by rw [hml]; rfl) (Steps.refl _) (argsL := []) (rest := []) (lenOf pd_1 rfl) rfl (by show 2 * 0 + _ ≤ _; exact Nat.le_of_eq rfl) (hb hby at_54) (fun _ _ => ⟨rfl, rfl, (by decide : 3 + 0 ≤ _), (by decide : 325 + 0 ≤ _)⟩)
        dsimp only [Pt.U, Pt.locs, Pt.cells, Pt.slots] at X26 l26 y26 z26 st26 hQ26
        subst l26 y26 z26
        obtain ⟨rfl, N26q, K26q, p26_0, p26_1, p26_2, p26_3, p26_4⟩ := hQ26
        refine own_step (fun t k => st26.trans k) ?_
        have N27 := Fr.app N5 N26q
        have K28 : Keep h0 T26.heap [] := K6.trans K26q (allS (Or.inr sz_b1) all0)
        show own_Ends p.tables e below s _ _ _ (T26.setTop (mkF m 57 #[.val (.int x0_0), .val (.ref b1), .val (.int m3), .val (.int (0 : Int32)), .unset, .unset] [(.int (1 : Int32))]))
        refine own_step (fun t k => XS.iconst X26.here hx rfl (hb hby at_57) k) ?_
        show own_Ends p.tables e below s _ _ _ (T26.setTop (mkF m 58 #[.val (.int x0_0), .val (.ref b1), .val (.int m3), .val (.int (0 : Int32)), .unset, .unset] [(.int (3 : Int32)), (.int (1 : Int32))]))
        refine own_step (fun t k => XS.icmpNo X26.here hx rfl (hb hby at_58) rfl (feq (by decide : ¬ ((1 : Int32) = (3 : Int32)))).1 k) ?_
        show own_Ends p.tables e below s _ _ _ (T26.setTop (mkF m 61 #[.val (.int x0_0), .val (.ref b1), .val (.int m3), .val (.int (0 : Int32)), .unset, .unset] []))
        refine own_step (fun t k => XS.iconst X26.here hx rfl (hb hby at_61) k) ?_
        show own_Ends p.tables e below s _ _ _ (T26.setTop (mkF m 62 #[.val (.int x0_0), .val (.ref b1), .val (.int m3), .val (.int (0 : Int32)), .unset, .unset] [(.int (0 : Int32))]))
        exfalso
        simp only [Int32.lt_iff_toInt_lt] at hc16_7 hc33_8 hc50_9
        simp at hc16_7 hc33_8 hc50_9
        omega
    · skip
      refine own_step (fun t k => XS.icmpNo X4.here hx rfl (hb hby at_33) rfl (flt hc33_8).1 k) ?_
      show own_Ends p.tables e below s _ _ _ (T4.setTop (mkF m 36 #[.val (.int x0_0), .val (.ref b1), .val (.int m3), .val (.int (0 : Int32)), .unset, .unset] []))
      refine own_step (fun t k => XS.aloadN X4.here hx rfl (hb hby at_36) rfl rfl k) ?_
      show own_Ends p.tables e below s _ _ _ (T4.setTop (mkF m 37 #[.val (.int x0_0), .val (.ref b1), .val (.int m3), .val (.int (0 : Int32)), .unset, .unset] [(.ref b1)]))
      have O29 : Old Z n0 T4.heap := (O3.keep K4q (allS g_b1 all0))
      obtain ⟨cq30, kq30, q30a, q30b, q30c⟩ := isOf hZ rfl p4_4
      obtain ⟨_, _, ⟨T30, L30, k30, n30⟩, -, X30, ⟨Lc30, hQ30, l30, y30, z30⟩, st30⟩ := X4.virtualBack hx (y := (⟨"com/example/untl/untl/Cnf", "newVariable", "()I"⟩ : MethodName)) (z := (⟨"com/example/untl/untl/Cnf", "newVariable", "()I"⟩ : MethodName)) hown (mvT hZ (hw _ (List.mem_of_getElem? (i := 21) rfl))) (mvT hZ (hw _ (List.mem_of_getElem? (i := 22) rfl))) (notFace_of_selects (args := #[]) (mvT hZ (hw _ (List.mem_of_getElem? (i := 24) rfl)))) (mvT hZ (hw _ (List.mem_of_getElem? (i := 24) rfl))) (mvT hZ (hw _ (List.mem_of_getElem? (i := 23) rfl))) (by decide) (backOf (W := 0) (rm4 l Z a0 hw [] b1 (.ref b2_4) (.ref b13_4) (.int (0 : Int32)) (0 : Int32) T4.heap n0 O29 p4_5 p4_6 p4_3 p4_2 p4_4 g_b1) hZ (hw _ (List.mem_of_getElem? (i := 25) rfl)) (hw _ (List.mem_of_getElem? (i := 2) rfl)) (by decide) (by decide)) q30a q30c (g := (mkF m 37 #[.val (.int x0_0), .val (.ref b1), .val (.int m3), .val (.int (0 : Int32)), .unset, .unset] [(.ref b1)])) rfl (by rw [hml]; rfl) (Steps.refl _) (argsL := []) (rest := []) (lenOf pd_1 rfl) rfl (by show 2 * 0 + _ ≤ _; exact Nat.le_of_eq rfl) (hb hby at_37) (fun _ _ => ⟨rfl, rfl, (by decide : 3 + 0 ≤ _), (by decide : 325 + 0 ≤ _)⟩)
      dsimp only [Pt.U, Pt.locs, Pt.cells, Pt.slots] at X30 l30 y30 z30 st30 hQ30
      subst l30 y30 z30
      obtain ⟨rfl, N30q, K30q, p30_0, p30_1, p30_2, p30_3, p30_4⟩ := hQ30
      refine own_step (fun t k => st30.trans k) ?_
      have N31 := Fr.app N5 N30q
      have K32 : Keep h0 T30.heap [] := K6.trans K30q (allS (Or.inr sz_b1) all0)
      show own_Ends p.tables e below s _ _ _ (T30.setTop (mkF m 40 #[.val (.int x0_0), .val (.ref b1), .val (.int m3), .val (.int (0 : Int32)), .unset, .unset] [(.int (1 : Int32))]))
      refine own_step (fun t k => XS.iconst X30.here hx rfl (hb hby at_40) k) ?_
      show own_Ends p.tables e below s _ _ _ (T30.setTop (mkF m 41 #[.val (.int x0_0), .val (.ref b1), .val (.int m3), .val (.int (0 : Int32)), .unset, .unset] [(.int (2 : Int32)), (.int (1 : Int32))]))
      refine own_step (fun t k => XS.icmpNo X30.here hx rfl (hb hby at_41) rfl (feq (by decide : ¬ ((1 : Int32) = (2 : Int32)))).1 k) ?_
      show own_Ends p.tables e below s _ _ _ (T30.setTop (mkF m 44 #[.val (.int x0_0), .val (.ref b1), .val (.int m3), .val (.int (0 : Int32)), .unset, .unset] []))
      refine own_step (fun t k => XS.iconst X30.here hx rfl (hb hby at_44) k) ?_
      show own_Ends p.tables e below s _ _ _ (T30.setTop (mkF m 45 #[.val (.int x0_0), .val (.ref b1), .val (.int m3), .val (.int (0 : Int32)), .unset, .unset] [(.int (0 : Int32))]))
      exfalso
      simp only [Int32.lt_iff_toInt_lt] at hc16_7 hc33_8
      simp at hc16_7 hc33_8
      omega
  · skip
    refine own_step (fun t k => XS.icmpNo X4.here hx rfl (hb hby at_16) rfl (flt hc16_7).1 k) ?_
    show own_Ends p.tables e below s _ _ _ (T4.setTop (mkF m 19 #[.val (.int x0_0), .val (.ref b1), .val (.int m3), .val (.int (0 : Int32)), .unset, .unset] []))
    refine own_step (fun t k => XS.aloadN X4.here hx rfl (hb hby at_19) rfl rfl k) ?_
    show own_Ends p.tables e below s _ _ _ (T4.setTop (mkF m 20 #[.val (.int x0_0), .val (.ref b1), .val (.int m3), .val (.int (0 : Int32)), .unset, .unset] [(.ref b1)]))
    have O33 : Old Z n0 T4.heap := (O3.keep K4q (allS g_b1 all0))
    obtain ⟨cq34, kq34, q34a, q34b, q34c⟩ := isOf hZ rfl p4_4
    obtain ⟨_, _, ⟨T34, L34, k34, n34⟩, -, X34, ⟨Lc34, hQ34, l34, y34, z34⟩, st34⟩ := X4.virtualBack hx (y := (⟨"com/example/untl/untl/Cnf", "newVariable", "()I"⟩ : MethodName)) (z := (⟨"com/example/untl/untl/Cnf", "newVariable", "()I"⟩ : MethodName)) hown (mvT hZ (hw _ (List.mem_of_getElem? (i := 21) rfl))) (mvT hZ (hw _ (List.mem_of_getElem? (i := 22) rfl))) (notFace_of_selects (args := #[]) (mvT hZ (hw _ (List.mem_of_getElem? (i := 24) rfl)))) (mvT hZ (hw _ (List.mem_of_getElem? (i := 24) rfl))) (mvT hZ (hw _ (List.mem_of_getElem? (i := 23) rfl))) (by decide) (backOf (W := 0) (rm4 l Z a0 hw [] b1 (.ref b2_4) (.ref b13_4) (.int (0 : Int32)) (0 : Int32) T4.heap n0 O33 p4_5 p4_6 p4_3 p4_2 p4_4 g_b1) hZ (hw _ (List.mem_of_getElem? (i := 25) rfl)) (hw _ (List.mem_of_getElem? (i := 2) rfl)) (by decide) (by decide)) q34a q34c (g := (mkF m 20 #[.val (.int x0_0), .val (.ref b1), .val (.int m3), .val (.int (0 : Int32)), .unset, .unset] [(.ref b1)])) rfl (by rw [hml]; rfl) (Steps.refl _) (argsL := []) (rest := []) (lenOf pd_1 rfl) rfl (by show 2 * 0 + _ ≤ _; exact Nat.le_of_eq rfl) (hb hby at_20) (fun _ _ => ⟨rfl, rfl, (by decide : 3 + 0 ≤ _), (by decide : 325 + 0 ≤ _)⟩)
    dsimp only [Pt.U, Pt.locs, Pt.cells, Pt.slots] at X34 l34 y34 z34 st34 hQ34
    subst l34 y34 z34
    obtain ⟨rfl, N34q, K34q, p34_0, p34_1, p34_2, p34_3, p34_4⟩ := hQ34
    refine own_step (fun t k => st34.trans k) ?_
    have N35 := Fr.app N5 N34q
    have K36 : Keep h0 T34.heap [] := K6.trans K34q (allS (Or.inr sz_b1) all0)
    show own_Ends p.tables e below s _ _ _ (T34.setTop (mkF m 23 #[.val (.int x0_0), .val (.ref b1), .val (.int m3), .val (.int (0 : Int32)), .unset, .unset] [(.int (1 : Int32))]))
    refine own_step (fun t k => XS.iconst X34.here hx rfl (hb hby at_23) k) ?_
    show own_Ends p.tables e below s _ _ _ (T34.setTop (mkF m 24 #[.val (.int x0_0), .val (.ref b1), .val (.int m3), .val (.int (0 : Int32)), .unset, .unset] [(.int (1 : Int32)), (.int (1 : Int32))]))
    refine own_step (fun t k => XS.icmpYes X34.here hx rfl (pc0 := 24) (pc' := 29) rfl (hb hby at_24) rfl (teq (by decide : (1 : Int32) = (1 : Int32))).1 (by decide) (by decide) k) ?_
    show own_Ends p.tables e below s _ _ _ (T34.setTop (mkF m 29 #[.val (.int x0_0), .val (.ref b1), .val (.int m3), .val (.int (0 : Int32)), .unset, .unset] []))
    refine own_step (fun t k => XS.iconst X34.here hx rfl (hb hby at_29) k) ?_
    show own_Ends p.tables e below s _ _ _ (T34.setTop (mkF m 30 #[.val (.int x0_0), .val (.ref b1), .val (.int m3), .val (.int (0 : Int32)), .unset, .unset] [(.int (1 : Int32))]))
    refine own_step (fun t k => XS.istoreN X34.here hx rfl (hb hby at_30) rfl (l' := #[.val (.int x0_0), .val (.ref b1), .val (.int m3), .val (.int (1 : Int32)), .unset, .unset]) rfl k) ?_
    show own_Ends p.tables e below s _ _ _ (T34.setTop (mkF m 31 #[.val (.int x0_0), .val (.ref b1), .val (.int m3), .val (.int (1 : Int32)), .unset, .unset] []))
    refine own_step (fun t k => XS.iloadN X34.here hx rfl (hb hby at_31) rfl k) ?_
    show own_Ends p.tables e below s _ _ _ (T34.setTop (mkF m 32 #[.val (.int x0_0), .val (.ref b1), .val (.int m3), .val (.int (1 : Int32)), .unset, .unset] [(.int m3)]))
    refine own_step (fun t k => XS.iconst X34.here hx rfl (hb hby at_32) k) ?_
    show own_Ends p.tables e below s _ _ _ (T34.setTop (mkF m 33 #[.val (.int x0_0), .val (.ref b1), .val (.int m3), .val (.int (1 : Int32)), .unset, .unset] [(.int (2 : Int32)), (.int m3)]))
    by_cases hc33_37 : m3 < (2 : Int32)
    · skip
      refine own_step (fun t k => XS.icmpYes X34.here hx rfl (pc0 := 33) (pc' := 48) rfl (hb hby at_33) rfl (tlt hc33_37).1 (by decide) (by decide) k) ?_
      show own_Ends p.tables e below s _ _ _ (T34.setTop (mkF m 48 #[.val (.int x0_0), .val (.ref b1), .val (.int m3), .val (.int (1 : Int32)), .unset, .unset] []))
      refine own_step (fun t k => XS.iloadN X34.here hx rfl (hb hby at_48) rfl k) ?_
      show own_Ends p.tables e below s _ _ _ (T34.setTop (mkF m 49 #[.val (.int x0_0), .val (.ref b1), .val (.int m3), .val (.int (1 : Int32)), .unset, .unset] [(.int m3)]))
      refine own_step (fun t k => XS.iconst X34.here hx rfl (hb hby at_49) k) ?_
      show own_Ends p.tables e below s _ _ _ (T34.setTop (mkF m 50 #[.val (.int x0_0), .val (.ref b1), .val (.int m3), .val (.int (1 : Int32)), .unset, .unset] [(.int (3 : Int32)), (.int m3)]))
      by_cases hc50_38 : m3 < (3 : Int32)
      · skip
        refine own_step (fun t k => XS.icmpYes X34.here hx rfl (pc0 := 50) (pc' := 65) rfl (hb hby at_50) rfl (tlt hc50_38).1 (by decide) (by decide) k) ?_
        show own_Ends p.tables e below s _ _ _ (T34.setTop (mkF m 65 #[.val (.int x0_0), .val (.ref b1), .val (.int m3), .val (.int (1 : Int32)), .unset, .unset] []))
        refine own_step (fun t k => XS.aloadN X34.here hx rfl (hb hby at_65) rfl rfl k) ?_
        show own_Ends p.tables e below s _ _ _ (T34.setTop (mkF m 66 #[.val (.int x0_0), .val (.ref b1), .val (.int m3), .val (.int (1 : Int32)), .unset, .unset] [(.ref b1)]))
        have O39 : Old Z n0 T34.heap := (O33.keep K34q (allS g_b1 all0))
        obtain ⟨cq40, kq40, q40a, q40b, q40c⟩ := isOf hZ rfl p34_4
        obtain ⟨_, _, ⟨T40, L40, k40, n40⟩, -, X40, ⟨Lc40, hQ40, l40, y40, z40⟩, st40⟩ := X34.virtualBack hx (y := (⟨"com/example/untl/untl/Cnf", "variables", "()I"⟩ : MethodName)) (z := (⟨"com/example/untl/untl/Cnf", "variables", "()I"⟩ : MethodName)) hown (mvT hZ (hw _ (List.mem_of_getElem? (i := 14) rfl))) (mvT hZ (hw _ (List.mem_of_getElem? (i := 15) rfl))) (notFace_of_selects (args := #[]) (mvT hZ (hw _ (List.mem_of_getElem? (i := 17) rfl)))) (mvT hZ (hw _ (List.mem_of_getElem? (i := 17) rfl))) (mvT hZ (hw _ (List.mem_of_getElem? (i := 16) rfl))) (by decide) (backOf (W := 0) (rm3 l Z a0 hw [] b1 (1 : Int32) T34.heap n0 O39 p34_3) hZ (hw _ (List.mem_of_getElem? (i := 18) rfl)) (hw _ (List.mem_of_getElem? (i := 2) rfl)) (by decide) (by decide)) q40a q40c (g := (mkF m 66 #[.val (.int x0_0), .val (.ref b1), .val (.int m3), .val (.int (1 : Int32)), .unset, .unset] [(.ref b1)])) rfl (by rw [hml]; rfl) (Steps.refl _) (argsL := []) (rest := []) (lenOf pd_1 rfl) rfl (by show 2 * 0 + _ ≤ _; exact Nat.le_of_eq rfl) (hb hby at_66) (fun _ _ => ⟨rfl, rfl, (by decide : 3 + 0 ≤ _), (by decide : 325 + 0 ≤ _)⟩)
        dsimp only [Pt.U, Pt.locs, Pt.cells, Pt.slots] at X40 l40 y40 z40 st40 hQ40
        subst l40 y40 z40
        obtain ⟨rfl, N40q, e40⟩ := hQ40
        refine own_step (fun t k => st40.trans k) ?_
        have N41 := Fr.app N35 N40q
        show own_Ends p.tables e below s _ _ _ (T40.setTop (mkF m 69 #[.val (.int x0_0), .val (.ref b1), .val (.int m3), .val (.int (1 : Int32)), .unset, .unset] [(.int (1 : Int32))]))
        refine own_step (fun t k => XS.iloadN X40.here hx rfl (hb hby at_69) rfl k) ?_
        show own_Ends p.tables e below s _ _ _ (T40.setTop (mkF m 70 #[.val (.int x0_0), .val (.ref b1), .val (.int m3), .val (.int (1 : Int32)), .unset, .unset] [(.int (1 : Int32)), (.int (1 : Int32))]))
        refine own_step (fun t k => XS.icmpYes X40.here hx rfl (pc0 := 70) (pc' := 75) rfl (hb hby at_70) rfl (teq (by decide : (1 : Int32) = (1 : Int32))).1 (by decide) (by decide) k) ?_
        show own_Ends p.tables e below s _ _ _ (T40.setTop (mkF m 75 #[.val (.int x0_0), .val (.ref b1), .val (.int m3), .val (.int (1 : Int32)), .unset, .unset] []))
        refine own_step (fun t k => XS.aloadN X40.here hx rfl (hb hby at_75) rfl rfl k) ?_
        show own_Ends p.tables e below s _ _ _ (T40.setTop (mkF m 76 #[.val (.int x0_0), .val (.ref b1), .val (.int m3), .val (.int (1 : Int32)), .unset, .unset] [(.ref b1)]))
        obtain ⟨cq42, kq42, q42a, q42b, q42c⟩ := isOf hZ e40 p34_4
        obtain ⟨_, _, ⟨T42, L42, k42, n42⟩, -, X42, ⟨Lc42, hQ42, l42, y42, z42⟩, st42⟩ := X40.virtualBack hx (y := (⟨"com/example/untl/untl/Cnf", "newVariable", "()I"⟩ : MethodName)) (z := (⟨"com/example/untl/untl/Cnf", "newVariable", "()I"⟩ : MethodName)) hown (mvT hZ (hw _ (List.mem_of_getElem? (i := 21) rfl))) (mvT hZ (hw _ (List.mem_of_getElem? (i := 22) rfl))) (notFace_of_selects (args := #[]) (mvT hZ (hw _ (List.mem_of_getElem? (i := 24) rfl)))) (mvT hZ (hw _ (List.mem_of_getElem? (i := 24) rfl))) (mvT hZ (hw _ (List.mem_of_getElem? (i := 23) rfl))) (by decide) (backOf (W := 0) (rm4 l Z a0 hw [] b1 (.ref b2_4) (.ref b13_4) (.int (0 : Int32)) (1 : Int32) T34.heap n0 O39 p34_0 p34_1 p34_2 p34_3 p34_4 g_b1) hZ (hw _ (List.mem_of_getElem? (i := 25) rfl)) (hw _ (List.mem_of_getElem? (i := 2) rfl)) (by decide) (by decide)) q42a q42c (g := (mkF m 76 #[.val (.int x0_0), .val (.ref b1), .val (.int m3), .val (.int (1 : Int32)), .unset, .unset] [(.ref b1)])) rfl (by rw [hml]; rfl) (Steps.refl _) (argsL := []) (rest := []) (lenOf pd_1 rfl) rfl (by show 2 * 0 + _ ≤ _; exact Nat.le_of_eq rfl) (hb hby at_76) (fun _ _ => ⟨rfl, e40, (by decide : 3 + 0 ≤ _), (by decide : 325 + 0 ≤ _)⟩)
        dsimp only [Pt.U, Pt.locs, Pt.cells, Pt.slots] at X42 l42 y42 z42 st42 hQ42
        subst l42 y42 z42
        obtain ⟨rfl, N42q, K42q, p42_0, p42_1, p42_2, p42_3, p42_4⟩ := hQ42
        refine own_step (fun t k => st42.trans k) ?_
        have N43 := Fr.app N41 N42q
        have K44 : Keep h0 T42.heap [] := K36.trans K42q (allS (Or.inr sz_b1) all0)
        show own_Ends p.tables e below s _ _ _ (T42.setTop (mkF m 79 #[.val (.int x0_0), .val (.ref b1), .val (.int m3), .val (.int (1 : Int32)), .unset, .unset] [(.int (2 : Int32))]))
        refine own_step (fun t k => XS.istore X42.here hx rfl (hb hby at_79) rfl (l' := #[.val (.int x0_0), .val (.ref b1), .val (.int m3), .val (.int (1 : Int32)), .val (.int (2 : Int32)), .unset]) rfl k) ?_
        show own_Ends p.tables e below s _ _ _ (T42.setTop (mkF m 81 #[.val (.int x0_0), .val (.ref b1), .val (.int m3), .val (.int (1 : Int32)), .val (.int (2 : Int32)), .unset] []))
        refine own_step (fun t k => XS.aloadN X42.here hx rfl (hb hby at_81) rfl rfl k) ?_
        show own_Ends p.tables e below s _ _ _ (T42.setTop (mkF m 82 #[.val (.int x0_0), .val (.ref b1), .val (.int m3), .val (.int (1 : Int32)), .val (.int (2 : Int32)), .unset] [(.ref b1)]))
        have O45 : Old Z n0 T42.heap := (O39.keep K42q (allS g_b1 all0))
        obtain ⟨cq46, kq46, q46a, q46b, q46c⟩ := isOf hZ rfl p42_4
        obtain ⟨_, _, ⟨T46, L46, k46, n46⟩, -, X46, ⟨Lc46, hQ46, l46, y46, z46⟩, st46⟩ := X42.virtualBack hx (y := (⟨"com/example/untl/untl/Cnf", "newVariable", "()I"⟩ : MethodName)) (z := (⟨"com/example/untl/untl/Cnf", "newVariable", "()I"⟩ : MethodName)) hown (mvT hZ (hw _ (List.mem_of_getElem? (i := 21) rfl))) (mvT hZ (hw _ (List.mem_of_getElem? (i := 22) rfl))) (notFace_of_selects (args := #[]) (mvT hZ (hw _ (List.mem_of_getElem? (i := 24) rfl)))) (mvT hZ (hw _ (List.mem_of_getElem? (i := 24) rfl))) (mvT hZ (hw _ (List.mem_of_getElem? (i := 23) rfl))) (by decide) (backOf (W := 0) (rm4 l Z a0 hw [] b1 (.ref b2_4) (.ref b13_4) (.int (0 : Int32)) (2 : Int32) T42.heap n0 O45 p42_0 p42_1 p42_2 p42_3 p42_4 g_b1) hZ (hw _ (List.mem_of_getElem? (i := 25) rfl)) (hw _ (List.mem_of_getElem? (i := 2) rfl)) (by decide) (by decide)) q46a q46c (g := (mkF m 82 #[.val (.int x0_0), .val (.ref b1), .val (.int m3), .val (.int (1 : Int32)), .val (.int (2 : Int32)), .unset] [(.ref b1)])) rfl (by rw [hml]; rfl) (Steps.refl _) (argsL := []) (rest := []) (lenOf pd_1 rfl) rfl (by show 2 * 0 + _ ≤ _; exact Nat.le_of_eq rfl) (hb hby at_82) (fun _ _ => ⟨rfl, rfl, (by decide : 3 + 0 ≤ _), (by decide : 325 + 0 ≤ _)⟩)
        dsimp only [Pt.U, Pt.locs, Pt.cells, Pt.slots] at X46 l46 y46 z46 st46 hQ46
        subst l46 y46 z46
        obtain ⟨rfl, N46q, K46q, p46_0, p46_1, p46_2, p46_3, p46_4⟩ := hQ46
        refine own_step (fun t k => st46.trans k) ?_
        have N47 := Fr.app N43 N46q
        have K48 : Keep h0 T46.heap [] := K44.trans K46q (allS (Or.inr sz_b1) all0)
        show own_Ends p.tables e below s _ _ _ (T46.setTop (mkF m 85 #[.val (.int x0_0), .val (.ref b1), .val (.int m3), .val (.int (1 : Int32)), .val (.int (2 : Int32)), .unset] [(.int (3 : Int32))]))
        refine own_step (fun t k => XS.istore X46.here hx rfl (hb hby at_85) rfl (l' := #[.val (.int x0_0), .val (.ref b1), .val (.int m3), .val (.int (1 : Int32)), .val (.int (2 : Int32)), .val (.int (3 : Int32))]) rfl k) ?_
        show own_Ends p.tables e below s _ _ _ (T46.setTop (mkF m 87 #[.val (.int x0_0), .val (.ref b1), .val (.int m3), .val (.int (1 : Int32)), .val (.int (2 : Int32)), .val (.int (3 : Int32))] []))
        refine own_step (fun t k => XS.iload X46.here hx rfl (hb hby at_87) rfl k) ?_
        show own_Ends p.tables e below s _ _ _ (T46.setTop (mkF m 89 #[.val (.int x0_0), .val (.ref b1), .val (.int m3), .val (.int (1 : Int32)), .val (.int (2 : Int32)), .val (.int (3 : Int32))] [(.int (2 : Int32))]))
        refine own_step (fun t k => XS.iloadN X46.here hx rfl (hb hby at_89) rfl k) ?_
        show own_Ends p.tables e below s _ _ _ (T46.setTop (mkF m 90 #[.val (.int x0_0), .val (.ref b1), .val (.int m3), .val (.int (1 : Int32)), .val (.int (2 : Int32)), .val (.int (3 : Int32))] [(.int (1 : Int32)), (.int (2 : Int32))]))
        refine own_step (fun t k => XS.iconst X46.here hx rfl (hb hby at_90) k) ?_
        show own_Ends p.tables e below s _ _ _ (T46.setTop (mkF m 91 #[.val (.int x0_0), .val (.ref b1), .val (.int m3), .val (.int (1 : Int32)), .val (.int (2 : Int32)), .val (.int (3 : Int32))] [(.int (1 : Int32)), (.int (1 : Int32)), (.int (2 : Int32))]))
        refine own_step (fun t k => XS.iadd X46.here hx rfl (hb hby at_91) rfl k) ?_
        show own_Ends p.tables e below s _ _ _ (T46.setTop (mkF m 92 #[.val (.int x0_0), .val (.ref b1), .val (.int m3), .val (.int (1 : Int32)), .val (.int (2 : Int32)), .val (.int (3 : Int32))] [(.int (2 : Int32)), (.int (2 : Int32))]))
        refine own_step (fun t k => XS.icmpNo X46.here hx rfl (hb hby at_92) rfl (teq (by decide : (2 : Int32) = (2 : Int32))).2 k) ?_
        show own_Ends p.tables e below s _ _ _ (T46.setTop (mkF m 95 #[.val (.int x0_0), .val (.ref b1), .val (.int m3), .val (.int (1 : Int32)), .val (.int (2 : Int32)), .val (.int (3 : Int32))] []))
        refine own_step (fun t k => XS.iload X46.here hx rfl (hb hby at_95) rfl k) ?_
        show own_Ends p.tables e below s _ _ _ (T46.setTop (mkF m 97 #[.val (.int x0_0), .val (.ref b1), .val (.int m3), .val (.int (1 : Int32)), .val (.int (2 : Int32)), .val (.int (3 : Int32))] [(.int (3 : Int32))]))
        refine own_step (fun t k => XS.iloadN X46.here hx rfl (hb hby at_97) rfl k) ?_
        show own_Ends p.tables e below s _ _ _ (T46.setTop (mkF m 98 #[.val (.int x0_0), .val (.ref b1), .val (.int m3), .val (.int (1 : Int32)), .val (.int (2 : Int32)), .val (.int (3 : Int32))] [(.int (1 : Int32)), (.int (3 : Int32))]))
        refine own_step (fun t k => XS.iconst X46.here hx rfl (hb hby at_98) k) ?_
        show own_Ends p.tables e below s _ _ _ (T46.setTop (mkF m 99 #[.val (.int x0_0), .val (.ref b1), .val (.int m3), .val (.int (1 : Int32)), .val (.int (2 : Int32)), .val (.int (3 : Int32))] [(.int (2 : Int32)), (.int (1 : Int32)), (.int (3 : Int32))]))
        refine own_step (fun t k => XS.iadd X46.here hx rfl (hb hby at_99) rfl k) ?_
        show own_Ends p.tables e below s _ _ _ (T46.setTop (mkF m 100 #[.val (.int x0_0), .val (.ref b1), .val (.int m3), .val (.int (1 : Int32)), .val (.int (2 : Int32)), .val (.int (3 : Int32))] [(.int (3 : Int32)), (.int (3 : Int32))]))
        refine own_step (fun t k => XS.icmpNo X46.here hx rfl (hb hby at_100) rfl (teq (by decide : (3 : Int32) = (3 : Int32))).2 k) ?_
        show own_Ends p.tables e below s _ _ _ (T46.setTop (mkF m 103 #[.val (.int x0_0), .val (.ref b1), .val (.int m3), .val (.int (1 : Int32)), .val (.int (2 : Int32)), .val (.int (3 : Int32))] []))
        refine own_step (fun t k => XS.aloadN X46.here hx rfl (hb hby at_103) rfl rfl k) ?_
        show own_Ends p.tables e below s _ _ _ (T46.setTop (mkF m 104 #[.val (.int x0_0), .val (.ref b1), .val (.int m3), .val (.int (1 : Int32)), .val (.int (2 : Int32)), .val (.int (3 : Int32))] [(.ref b1)]))
        have O49 : Old Z n0 T46.heap := (O45.keep K46q (allS g_b1 all0))
        obtain ⟨cq50, kq50, q50a, q50b, q50c⟩ := isOf hZ rfl p46_4
        obtain ⟨_, _, ⟨T50, L50, k50, n50⟩, -, X50, ⟨Lc50, hQ50, l50, y50, z50⟩, st50⟩ := X46.virtualBack hx (y := (⟨"com/example/untl/untl/Cnf", "variables", "()I"⟩ : MethodName)) (z := (⟨"com/example/untl/untl/Cnf", "variables", "()I"⟩ : MethodName)) hown (mvT hZ (hw _ (List.mem_of_getElem? (i := 14) rfl))) (mvT hZ (hw _ (List.mem_of_getElem? (i := 15) rfl))) (notFace_of_selects (args := #[]) (mvT hZ (hw _ (List.mem_of_getElem? (i := 17) rfl)))) (mvT hZ (hw _ (List.mem_of_getElem? (i := 17) rfl))) (mvT hZ (hw _ (List.mem_of_getElem? (i := 16) rfl))) (by decide) (backOf (W := 0) (rm3 l Z a0 hw [] b1 (3 : Int32) T46.heap n0 O49 p46_3) hZ (hw _ (List.mem_of_getElem? (i := 18) rfl)) (hw _ (List.mem_of_getElem? (i := 2) rfl)) (by decide) (by decide)) q50a q50c (g := (mkF m 104 #[.val (.int x0_0), .val (.ref b1), .val (.int m3), .val (.int (1 : Int32)), .val (.int (2 : Int32)), .val (.int (3 : Int32))] [(.ref b1)])) rfl (by rw [hml]; rfl) (Steps.refl _) (argsL := []) (rest := []) (lenOf pd_1 rfl) rfl (by show 2 * 0 + _ ≤ _; exact Nat.le_of_eq rfl) (hb hby at_104) (fun _ _ => ⟨rfl, rfl, (by decide : 3 + 0 ≤ _), (by decide : 325 + 0 ≤ _)⟩)
        dsimp only [Pt.U, Pt.locs, Pt.cells, Pt.slots] at X50 l50 y50 z50 st50 hQ50
        subst l50 y50 z50
        obtain ⟨rfl, N50q, e50⟩ := hQ50
        refine own_step (fun t k => st50.trans k) ?_
        have N51 := Fr.app N47 N50q
        show own_Ends p.tables e below s _ _ _ (T50.setTop (mkF m 107 #[.val (.int x0_0), .val (.ref b1), .val (.int m3), .val (.int (1 : Int32)), .val (.int (2 : Int32)), .val (.int (3 : Int32))] [(.int (3 : Int32))]))
        refine own_step (fun t k => XS.iload X50.here hx rfl (hb hby at_107) rfl k) ?_
        show own_Ends p.tables e below s _ _ _ (T50.setTop (mkF m 109 #[.val (.int x0_0), .val (.ref b1), .val (.int m3), .val (.int (1 : Int32)), .val (.int (2 : Int32)), .val (.int (3 : Int32))] [(.int (3 : Int32)), (.int (3 : Int32))]))
        refine own_step (fun t k => XS.icmpNo X50.here hx rfl (hb hby at_109) rfl (teq (by decide : (3 : Int32) = (3 : Int32))).2 k) ?_
        show own_Ends p.tables e below s _ _ _ (T50.setTop (mkF m 112 #[.val (.int x0_0), .val (.ref b1), .val (.int m3), .val (.int (1 : Int32)), .val (.int (2 : Int32)), .val (.int (3 : Int32))] []))
        refine own_step (fun t k => XS.aloadN X50.here hx rfl (hb hby at_112) rfl rfl k) ?_
        show own_Ends p.tables e below s _ _ _ (T50.setTop (mkF m 113 #[.val (.int x0_0), .val (.ref b1), .val (.int m3), .val (.int (1 : Int32)), .val (.int (2 : Int32)), .val (.int (3 : Int32))] [(.ref b1)]))
        obtain ⟨cq52, kq52, q52a, q52b, q52c⟩ := isOf hZ e50 p46_4
        obtain ⟨_, _, ⟨T52, L52, k52, n52⟩, -, X52, ⟨Lc52, hQ52, l52, y52, z52⟩, st52⟩ := X50.virtualBack hx (y := (⟨"com/example/untl/untl/Cnf", "clauses", "()I"⟩ : MethodName)) (z := (⟨"com/example/untl/untl/Cnf", "clauses", "()I"⟩ : MethodName)) hown (mvT hZ (hw _ (List.mem_of_getElem? (i := 26) rfl))) (mvT hZ (hw _ (List.mem_of_getElem? (i := 27) rfl))) (notFace_of_selects (args := #[]) (mvT hZ (hw _ (List.mem_of_getElem? (i := 29) rfl)))) (mvT hZ (hw _ (List.mem_of_getElem? (i := 29) rfl))) (mvT hZ (hw _ (List.mem_of_getElem? (i := 28) rfl))) (by decide) (backOf (W := 0) (rm5 l Z a0 hw [] b1 (0 : Int32) T46.heap n0 O49 p46_2) hZ (hw _ (List.mem_of_getElem? (i := 30) rfl)) (hw _ (List.mem_of_getElem? (i := 2) rfl)) (by decide) (by decide)) q52a q52c (g := (mkF m 113 #[.val (.int x0_0), .val (.ref b1), .val (.int m3), .val (.int (1 : Int32)), .val (.int (2 : Int32)), .val (.int (3 : Int32))] [(.ref b1)])) rfl (by rw [hml]; rfl) (Steps.refl _) (argsL := []) (rest := []) (lenOf pd_1 rfl) rfl (by show 2 * 0 + _ ≤ _; exact Nat.le_of_eq rfl) (hb hby at_113) (fun _ _ => ⟨rfl, e50, (by decide : 3 + 0 ≤ _), (by decide : 325 + 0 ≤ _)⟩)
        dsimp only [Pt.U, Pt.locs, Pt.cells, Pt.slots] at X52 l52 y52 z52 st52 hQ52
        subst l52 y52 z52
        obtain ⟨rfl, N52q, e52⟩ := hQ52
        refine own_step (fun t k => st52.trans k) ?_
        have N53 := Fr.app N51 N52q
        show own_Ends p.tables e below s _ _ _ (T52.setTop (mkF m 116 #[.val (.int x0_0), .val (.ref b1), .val (.int m3), .val (.int (1 : Int32)), .val (.int (2 : Int32)), .val (.int (3 : Int32))] [(.int (0 : Int32))]))
        refine own_step (fun t k => XS.ifNo X52.here hx rfl (hb hby at_116) rfl ((if0 _ _).trans (teq (by decide : (0 : Int32) = (0 : Int32))).2) k) ?_
        show own_Ends p.tables e below s _ _ _ (T52.setTop (mkF m 119 #[.val (.int x0_0), .val (.ref b1), .val (.int m3), .val (.int (1 : Int32)), .val (.int (2 : Int32)), .val (.int (3 : Int32))] []))
        refine own_step (fun t k => XS.iconst X52.here hx rfl (hb hby at_119) k) ?_
        show own_Ends p.tables e below s _ _ _ (T52.setTop (mkF m 120 #[.val (.int x0_0), .val (.ref b1), .val (.int m3), .val (.int (1 : Int32)), .val (.int (2 : Int32)), .val (.int (3 : Int32))] [(.int (1 : Int32))]))
        refine own_step (fun t k => XS.goto X52.here hx rfl (pc0 := 120) (pc' := 124) rfl (hb hby at_120) (by decide) (by decide) k) ?_
        show own_Ends p.tables e below s _ _ _ (T52.setTop (mkF m 124 #[.val (.int x0_0), .val (.ref b1), .val (.int m3), .val (.int (1 : Int32)), .val (.int (2 : Int32)), .val (.int (3 : Int32))] [(.int (1 : Int32))]))
        exact own_retN X52 hx (t := .boolean) Bd.returns (by simp) (hb hby at_124) hnl (by rw [e52]; exact ⟨rfl, N53⟩) (by decide) (by decide)
      · skip
        refine own_step (fun t k => XS.icmpNo X34.here hx rfl (hb hby at_50) rfl (flt hc50_38).1 k) ?_
        show own_Ends p.tables e below s _ _ _ (T34.setTop (mkF m 53 #[.val (.int x0_0), .val (.ref b1), .val (.int m3), .val (.int (1 : Int32)), .unset, .unset] []))
        refine own_step (fun t k => XS.aloadN X34.here hx rfl (hb hby at_53) rfl rfl k) ?_
        show own_Ends p.tables e below s _ _ _ (T34.setTop (mkF m 54 #[.val (.int x0_0), .val (.ref b1), .val (.int m3), .val (.int (1 : Int32)), .unset, .unset] [(.ref b1)]))
        have O54 : Old Z n0 T34.heap := (O33.keep K34q (allS g_b1 all0))
        obtain ⟨cq55, kq55, q55a, q55b, q55c⟩ := isOf hZ rfl p34_4
        obtain ⟨_, _, ⟨T55, L55, k55, n55⟩, -, X55, ⟨Lc55, hQ55, l55, y55, z55⟩, st55⟩ := X34.virtualBack hx (y := (⟨"com/example/untl/untl/Cnf", "newVariable", "()I"⟩ : MethodName)) (z := (⟨"com/example/untl/untl/Cnf", "newVariable", "()I"⟩ : MethodName)) hown (mvT hZ (hw _ (List.mem_of_getElem? (i := 21) rfl))) (mvT hZ (hw _ (List.mem_of_getElem? (i := 22) rfl))) (notFace_of_selects (args := #[]) (mvT hZ (hw _ (List.mem_of_getElem? (i := 24) rfl)))) (mvT hZ (hw _ (List.mem_of_getElem? (i := 24) rfl))) (mvT hZ (hw _ (List.mem_of_getElem? (i := 23) rfl))) (by decide) (backOf (W := 0) (rm4 l Z a0 hw [] b1 (.ref b2_4) (.ref b13_4) (.int (0 : Int32)) (1 : Int32) T34.heap n0 O54 p34_0 p34_1 p34_2 p34_3 p34_4 g_b1) hZ (hw _ (List.mem_of_getElem? (i := 25) rfl)) (hw _ (List.mem_of_getElem? (i := 2) rfl)) (by decide) (by decide)) q55a q55c (g := (mkF m 54 #[.val (.int x0_0), .val (.ref b1), .val (.int m3), .val (.int (1 : Int32)), .unset, .unset] [(.ref b1)])) rfl (by rw [hml]; rfl) (Steps.refl _) (argsL := []) (rest := []) (lenOf pd_1 rfl) rfl (by show 2 * 0 + _ ≤ _; exact Nat.le_of_eq rfl) (hb hby at_54) (fun _ _ => ⟨rfl, rfl, (by decide : 3 + 0 ≤ _), (by decide : 325 + 0 ≤ _)⟩)
        dsimp only [Pt.U, Pt.locs, Pt.cells, Pt.slots] at X55 l55 y55 z55 st55 hQ55
        subst l55 y55 z55
        obtain ⟨rfl, N55q, K55q, p55_0, p55_1, p55_2, p55_3, p55_4⟩ := hQ55
        refine own_step (fun t k => st55.trans k) ?_
        have N56 := Fr.app N35 N55q
        have K57 : Keep h0 T55.heap [] := K36.trans K55q (allS (Or.inr sz_b1) all0)
        show own_Ends p.tables e below s _ _ _ (T55.setTop (mkF m 57 #[.val (.int x0_0), .val (.ref b1), .val (.int m3), .val (.int (1 : Int32)), .unset, .unset] [(.int (2 : Int32))]))
        refine own_step (fun t k => XS.iconst X55.here hx rfl (hb hby at_57) k) ?_
        show own_Ends p.tables e below s _ _ _ (T55.setTop (mkF m 58 #[.val (.int x0_0), .val (.ref b1), .val (.int m3), .val (.int (1 : Int32)), .unset, .unset] [(.int (3 : Int32)), (.int (2 : Int32))]))
        refine own_step (fun t k => XS.icmpNo X55.here hx rfl (hb hby at_58) rfl (feq (by decide : ¬ ((2 : Int32) = (3 : Int32)))).1 k) ?_
        show own_Ends p.tables e below s _ _ _ (T55.setTop (mkF m 61 #[.val (.int x0_0), .val (.ref b1), .val (.int m3), .val (.int (1 : Int32)), .unset, .unset] []))
        refine own_step (fun t k => XS.iconst X55.here hx rfl (hb hby at_61) k) ?_
        show own_Ends p.tables e below s _ _ _ (T55.setTop (mkF m 62 #[.val (.int x0_0), .val (.ref b1), .val (.int m3), .val (.int (1 : Int32)), .unset, .unset] [(.int (0 : Int32))]))
        exfalso
        simp only [Int32.lt_iff_toInt_lt] at hc16_7 hc33_37 hc50_38
        simp at hc16_7 hc33_37 hc50_38
        omega
    · skip
      refine own_step (fun t k => XS.icmpNo X34.here hx rfl (hb hby at_33) rfl (flt hc33_37).1 k) ?_
      show own_Ends p.tables e below s _ _ _ (T34.setTop (mkF m 36 #[.val (.int x0_0), .val (.ref b1), .val (.int m3), .val (.int (1 : Int32)), .unset, .unset] []))
      refine own_step (fun t k => XS.aloadN X34.here hx rfl (hb hby at_36) rfl rfl k) ?_
      show own_Ends p.tables e below s _ _ _ (T34.setTop (mkF m 37 #[.val (.int x0_0), .val (.ref b1), .val (.int m3), .val (.int (1 : Int32)), .unset, .unset] [(.ref b1)]))
      have O58 : Old Z n0 T34.heap := (O33.keep K34q (allS g_b1 all0))
      obtain ⟨cq59, kq59, q59a, q59b, q59c⟩ := isOf hZ rfl p34_4
      obtain ⟨_, _, ⟨T59, L59, k59, n59⟩, -, X59, ⟨Lc59, hQ59, l59, y59, z59⟩, st59⟩ := X34.virtualBack hx (y := (⟨"com/example/untl/untl/Cnf", "newVariable", "()I"⟩ : MethodName)) (z := (⟨"com/example/untl/untl/Cnf", "newVariable", "()I"⟩ : MethodName)) hown (mvT hZ (hw _ (List.mem_of_getElem? (i := 21) rfl))) (mvT hZ (hw _ (List.mem_of_getElem? (i := 22) rfl))) (notFace_of_selects (args := #[]) (mvT hZ (hw _ (List.mem_of_getElem? (i := 24) rfl)))) (mvT hZ (hw _ (List.mem_of_getElem? (i := 24) rfl))) (mvT hZ (hw _ (List.mem_of_getElem? (i := 23) rfl))) (by decide) (backOf (W := 0) (rm4 l Z a0 hw [] b1 (.ref b2_4) (.ref b13_4) (.int (0 : Int32)) (1 : Int32) T34.heap n0 O58 p34_0 p34_1 p34_2 p34_3 p34_4 g_b1) hZ (hw _ (List.mem_of_getElem? (i := 25) rfl)) (hw _ (List.mem_of_getElem? (i := 2) rfl)) (by decide) (by decide)) q59a q59c (g := (mkF m 37 #[.val (.int x0_0), .val (.ref b1), .val (.int m3), .val (.int (1 : Int32)), .unset, .unset] [(.ref b1)])) rfl (by rw [hml]; rfl) (Steps.refl _) (argsL := []) (rest := []) (lenOf pd_1 rfl) rfl (by show 2 * 0 + _ ≤ _; exact Nat.le_of_eq rfl) (hb hby at_37) (fun _ _ => ⟨rfl, rfl, (by decide : 3 + 0 ≤ _), (by decide : 325 + 0 ≤ _)⟩)
      dsimp only [Pt.U, Pt.locs, Pt.cells, Pt.slots] at X59 l59 y59 z59 st59 hQ59
      subst l59 y59 z59
      obtain ⟨rfl, N59q, K59q, p59_0, p59_1, p59_2, p59_3, p59_4⟩ := hQ59
      refine own_step (fun t k => st59.trans k) ?_
      have N60 := Fr.app N35 N59q
      have K61 : Keep h0 T59.heap [] := K36.trans K59q (allS (Or.inr sz_b1) all0)
      show own_Ends p.tables e below s _ _ _ (T59.setTop (mkF m 40 #[.val (.int x0_0), .val (.ref b1), .val (.int m3), .val (.int (1 : Int32)), .unset, .unset] [(.int (2 : Int32))]))
      refine own_step (fun t k => XS.iconst X59.here hx rfl (hb hby at_40) k) ?_
      show own_Ends p.tables e below s _ _ _ (T59.setTop (mkF m 41 #[.val (.int x0_0), .val (.ref b1), .val (.int m3), .val (.int (1 : Int32)), .unset, .unset] [(.int (2 : Int32)), (.int (2 : Int32))]))
      refine own_step (fun t k => XS.icmpYes X59.here hx rfl (pc0 := 41) (pc' := 46) rfl (hb hby at_41) rfl (teq (by decide : (2 : Int32) = (2 : Int32))).1 (by decide) (by decide) k) ?_
      show own_Ends p.tables e below s _ _ _ (T59.setTop (mkF m 46 #[.val (.int x0_0), .val (.ref b1), .val (.int m3), .val (.int (1 : Int32)), .unset, .unset] []))
      refine own_step (fun t k => XS.iconst X59.here hx rfl (hb hby at_46) k) ?_
      show own_Ends p.tables e below s _ _ _ (T59.setTop (mkF m 47 #[.val (.int x0_0), .val (.ref b1), .val (.int m3), .val (.int (1 : Int32)), .unset, .unset] [(.int (2 : Int32))]))
      refine own_step (fun t k => XS.istoreN X59.here hx rfl (hb hby at_47) rfl (l' := #[.val (.int x0_0), .val (.ref b1), .val (.int m3), .val (.int (2 : Int32)), .unset, .unset]) rfl k) ?_
      show own_Ends p.tables e below s _ _ _ (T59.setTop (mkF m 48 #[.val (.int x0_0), .val (.ref b1), .val (.int m3), .val (.int (2 : Int32)), .unset, .unset] []))
      refine own_step (fun t k => XS.iloadN X59.here hx rfl (hb hby at_48) rfl k) ?_
      show own_Ends p.tables e below s _ _ _ (T59.setTop (mkF m 49 #[.val (.int x0_0), .val (.ref b1), .val (.int m3), .val (.int (2 : Int32)), .unset, .unset] [(.int m3)]))
      refine own_step (fun t k => XS.iconst X59.here hx rfl (hb hby at_49) k) ?_
      show own_Ends p.tables e below s _ _ _ (T59.setTop (mkF m 50 #[.val (.int x0_0), .val (.ref b1), .val (.int m3), .val (.int (2 : Int32)), .unset, .unset] [(.int (3 : Int32)), (.int m3)]))
      by_cases hc50_62 : m3 < (3 : Int32)
      · skip
        refine own_step (fun t k => XS.icmpYes X59.here hx rfl (pc0 := 50) (pc' := 65) rfl (hb hby at_50) rfl (tlt hc50_62).1 (by decide) (by decide) k) ?_
        show own_Ends p.tables e below s _ _ _ (T59.setTop (mkF m 65 #[.val (.int x0_0), .val (.ref b1), .val (.int m3), .val (.int (2 : Int32)), .unset, .unset] []))
        refine own_step (fun t k => XS.aloadN X59.here hx rfl (hb hby at_65) rfl rfl k) ?_
        show own_Ends p.tables e below s _ _ _ (T59.setTop (mkF m 66 #[.val (.int x0_0), .val (.ref b1), .val (.int m3), .val (.int (2 : Int32)), .unset, .unset] [(.ref b1)]))
        have O63 : Old Z n0 T59.heap := (O58.keep K59q (allS g_b1 all0))
        obtain ⟨cq64, kq64, q64a, q64b, q64c⟩ := isOf hZ rfl p59_4
        obtain ⟨_, _, ⟨T64, L64, k64, n64⟩, -, X64, ⟨Lc64, hQ64, l64, y64, z64⟩, st64⟩ := X59.virtualBack hx (y := (⟨"com/example/untl/untl/Cnf", "variables", "()I"⟩ : MethodName)) (z := (⟨"com/example/untl/untl/Cnf", "variables", "()I"⟩ : MethodName)) hown (mvT hZ (hw _ (List.mem_of_getElem? (i := 14) rfl))) (mvT hZ (hw _ (List.mem_of_getElem? (i := 15) rfl))) (notFace_of_selects (args := #[]) (mvT hZ (hw _ (List.mem_of_getElem? (i := 17) rfl)))) (mvT hZ (hw _ (List.mem_of_getElem? (i := 17) rfl))) (mvT hZ (hw _ (List.mem_of_getElem? (i := 16) rfl))) (by decide) (backOf (W := 0) (rm3 l Z a0 hw [] b1 (2 : Int32) T59.heap n0 O63 p59_3) hZ (hw _ (List.mem_of_getElem? (i := 18) rfl)) (hw _ (List.mem_of_getElem? (i := 2) rfl)) (by decide) (by decide)) q64a q64c (g := (mkF m 66 #[.val (.int x0_0), .val (.ref b1), .val (.int m3), .val (.int (2 : Int32)), .unset, .unset] [(.ref b1)])) rfl (by rw [hml]; rfl) (Steps.refl _) (argsL := []) (rest := []) (lenOf pd_1 rfl) rfl (by show 2 * 0 + _ ≤ _; exact Nat.le_of_eq rfl) (hb hby at_66) (fun _ _ => ⟨rfl, rfl, (by decide : 3 + 0 ≤ _), (by decide : 325 + 0 ≤ _)⟩)
        dsimp only [Pt.U, Pt.locs, Pt.cells, Pt.slots] at X64 l64 y64 z64 st64 hQ64
        subst l64 y64 z64
        obtain ⟨rfl, N64q, e64⟩ := hQ64
        refine own_step (fun t k => st64.trans k) ?_
        have N65 := Fr.app N60 N64q
        show own_Ends p.tables e below s _ _ _ (T64.setTop (mkF m 69 #[.val (.int x0_0), .val (.ref b1), .val (.int m3), .val (.int (2 : Int32)), .unset, .unset] [(.int (2 : Int32))]))
        refine own_step (fun t k => XS.iloadN X64.here hx rfl (hb hby at_69) rfl k) ?_
        show own_Ends p.tables e below s _ _ _ (T64.setTop (mkF m 70 #[.val (.int x0_0), .val (.ref b1), .val (.int m3), .val (.int (2 : Int32)), .unset, .unset] [(.int (2 : Int32)), (.int (2 : Int32))]))
        refine own_step (fun t k => XS.icmpYes X64.here hx rfl (pc0 := 70) (pc' := 75) rfl (hb hby at_70) rfl (teq (by decide : (2 : Int32) = (2 : Int32))).1 (by decide) (by decide) k) ?_
        show own_Ends p.tables e below s _ _ _ (T64.setTop (mkF m 75 #[.val (.int x0_0), .val (.ref b1), .val (.int m3), .val (.int (2 : Int32)), .unset, .unset] []))
        refine own_step (fun t k => XS.aloadN X64.here hx rfl (hb hby at_75) rfl rfl k) ?_
        show own_Ends p.tables e below s _ _ _ (T64.setTop (mkF m 76 #[.val (.int x0_0), .val (.ref b1), .val (.int m3), .val (.int (2 : Int32)), .unset, .unset] [(.ref b1)]))
        obtain ⟨cq66, kq66, q66a, q66b, q66c⟩ := isOf hZ e64 p59_4
        obtain ⟨_, _, ⟨T66, L66, k66, n66⟩, -, X66, ⟨Lc66, hQ66, l66, y66, z66⟩, st66⟩ := X64.virtualBack hx (y := (⟨"com/example/untl/untl/Cnf", "newVariable", "()I"⟩ : MethodName)) (z := (⟨"com/example/untl/untl/Cnf", "newVariable", "()I"⟩ : MethodName)) hown (mvT hZ (hw _ (List.mem_of_getElem? (i := 21) rfl))) (mvT hZ (hw _ (List.mem_of_getElem? (i := 22) rfl))) (notFace_of_selects (args := #[]) (mvT hZ (hw _ (List.mem_of_getElem? (i := 24) rfl)))) (mvT hZ (hw _ (List.mem_of_getElem? (i := 24) rfl))) (mvT hZ (hw _ (List.mem_of_getElem? (i := 23) rfl))) (by decide) (backOf (W := 0) (rm4 l Z a0 hw [] b1 (.ref b2_4) (.ref b13_4) (.int (0 : Int32)) (2 : Int32) T59.heap n0 O63 p59_0 p59_1 p59_2 p59_3 p59_4 g_b1) hZ (hw _ (List.mem_of_getElem? (i := 25) rfl)) (hw _ (List.mem_of_getElem? (i := 2) rfl)) (by decide) (by decide)) q66a q66c (g := (mkF m 76 #[.val (.int x0_0), .val (.ref b1), .val (.int m3), .val (.int (2 : Int32)), .unset, .unset] [(.ref b1)])) rfl (by rw [hml]; rfl) (Steps.refl _) (argsL := []) (rest := []) (lenOf pd_1 rfl) rfl (by show 2 * 0 + _ ≤ _; exact Nat.le_of_eq rfl) (hb hby at_76) (fun _ _ => ⟨rfl, e64, (by decide : 3 + 0 ≤ _), (by decide : 325 + 0 ≤ _)⟩)
        dsimp only [Pt.U, Pt.locs, Pt.cells, Pt.slots] at X66 l66 y66 z66 st66 hQ66
        subst l66 y66 z66
        obtain ⟨rfl, N66q, K66q, p66_0, p66_1, p66_2, p66_3, p66_4⟩ := hQ66
        refine own_step (fun t k => st66.trans k) ?_
        have N67 := Fr.app N65 N66q
        have K68 : Keep h0 T66.heap [] := K61.trans K66q (allS (Or.inr sz_b1) all0)
        show own_Ends p.tables e below s _ _ _ (T66.setTop (mkF m 79 #[.val (.int x0_0), .val (.ref b1), .val (.int m3), .val (.int (2 : Int32)), .unset, .unset] [(.int (3 : Int32))]))
        refine own_step (fun t k => XS.istore X66.here hx rfl (hb hby at_79) rfl (l' := #[.val (.int x0_0), .val (.ref b1), .val (.int m3), .val (.int (2 : Int32)), .val (.int (3 : Int32)), .unset]) rfl k) ?_
        show own_Ends p.tables e below s _ _ _ (T66.setTop (mkF m 81 #[.val (.int x0_0), .val (.ref b1), .val (.int m3), .val (.int (2 : Int32)), .val (.int (3 : Int32)), .unset] []))
        refine own_step (fun t k => XS.aloadN X66.here hx rfl (hb hby at_81) rfl rfl k) ?_
        show own_Ends p.tables e below s _ _ _ (T66.setTop (mkF m 82 #[.val (.int x0_0), .val (.ref b1), .val (.int m3), .val (.int (2 : Int32)), .val (.int (3 : Int32)), .unset] [(.ref b1)]))
        have O69 : Old Z n0 T66.heap := (O63.keep K66q (allS g_b1 all0))
        obtain ⟨cq70, kq70, q70a, q70b, q70c⟩ := isOf hZ rfl p66_4
        obtain ⟨_, _, ⟨T70, L70, k70, n70⟩, -, X70, ⟨Lc70, hQ70, l70, y70, z70⟩, st70⟩ := X66.virtualBack hx (y := (⟨"com/example/untl/untl/Cnf", "newVariable", "()I"⟩ : MethodName)) (z := (⟨"com/example/untl/untl/Cnf", "newVariable", "()I"⟩ : MethodName)) hown (mvT hZ (hw _ (List.mem_of_getElem? (i := 21) rfl))) (mvT hZ (hw _ (List.mem_of_getElem? (i := 22) rfl))) (notFace_of_selects (args := #[]) (mvT hZ (hw _ (List.mem_of_getElem? (i := 24) rfl)))) (mvT hZ (hw _ (List.mem_of_getElem? (i := 24) rfl))) (mvT hZ (hw _ (List.mem_of_getElem? (i := 23) rfl))) (by decide) (backOf (W := 0) (rm4 l Z a0 hw [] b1 (.ref b2_4) (.ref b13_4) (.int (0 : Int32)) (3 : Int32) T66.heap n0 O69 p66_0 p66_1 p66_2 p66_3 p66_4 g_b1) hZ (hw _ (List.mem_of_getElem? (i := 25) rfl)) (hw _ (List.mem_of_getElem? (i := 2) rfl)) (by decide) (by decide)) q70a q70c (g := (mkF m 82 #[.val (.int x0_0), .val (.ref b1), .val (.int m3), .val (.int (2 : Int32)), .val (.int (3 : Int32)), .unset] [(.ref b1)])) rfl (by rw [hml]; rfl) (Steps.refl _) (argsL := []) (rest := []) (lenOf pd_1 rfl) rfl (by show 2 * 0 + _ ≤ _; exact Nat.le_of_eq rfl) (hb hby at_82) (fun _ _ => ⟨rfl, rfl, (by decide : 3 + 0 ≤ _), (by decide : 325 + 0 ≤ _)⟩)
        dsimp only [Pt.U, Pt.locs, Pt.cells, Pt.slots] at X70 l70 y70 z70 st70 hQ70
        subst l70 y70 z70
        obtain ⟨rfl, N70q, K70q, p70_0, p70_1, p70_2, p70_3, p70_4⟩ := hQ70
        refine own_step (fun t k => st70.trans k) ?_
        have N71 := Fr.app N67 N70q
        have K72 : Keep h0 T70.heap [] := K68.trans K70q (allS (Or.inr sz_b1) all0)
        show own_Ends p.tables e below s _ _ _ (T70.setTop (mkF m 85 #[.val (.int x0_0), .val (.ref b1), .val (.int m3), .val (.int (2 : Int32)), .val (.int (3 : Int32)), .unset] [(.int (4 : Int32))]))
        refine own_step (fun t k => XS.istore X70.here hx rfl (hb hby at_85) rfl (l' := #[.val (.int x0_0), .val (.ref b1), .val (.int m3), .val (.int (2 : Int32)), .val (.int (3 : Int32)), .val (.int (4 : Int32))]) rfl k) ?_
        show own_Ends p.tables e below s _ _ _ (T70.setTop (mkF m 87 #[.val (.int x0_0), .val (.ref b1), .val (.int m3), .val (.int (2 : Int32)), .val (.int (3 : Int32)), .val (.int (4 : Int32))] []))
        refine own_step (fun t k => XS.iload X70.here hx rfl (hb hby at_87) rfl k) ?_
        show own_Ends p.tables e below s _ _ _ (T70.setTop (mkF m 89 #[.val (.int x0_0), .val (.ref b1), .val (.int m3), .val (.int (2 : Int32)), .val (.int (3 : Int32)), .val (.int (4 : Int32))] [(.int (3 : Int32))]))
        refine own_step (fun t k => XS.iloadN X70.here hx rfl (hb hby at_89) rfl k) ?_
        show own_Ends p.tables e below s _ _ _ (T70.setTop (mkF m 90 #[.val (.int x0_0), .val (.ref b1), .val (.int m3), .val (.int (2 : Int32)), .val (.int (3 : Int32)), .val (.int (4 : Int32))] [(.int (2 : Int32)), (.int (3 : Int32))]))
        refine own_step (fun t k => XS.iconst X70.here hx rfl (hb hby at_90) k) ?_
        show own_Ends p.tables e below s _ _ _ (T70.setTop (mkF m 91 #[.val (.int x0_0), .val (.ref b1), .val (.int m3), .val (.int (2 : Int32)), .val (.int (3 : Int32)), .val (.int (4 : Int32))] [(.int (1 : Int32)), (.int (2 : Int32)), (.int (3 : Int32))]))
        refine own_step (fun t k => XS.iadd X70.here hx rfl (hb hby at_91) rfl k) ?_
        show own_Ends p.tables e below s _ _ _ (T70.setTop (mkF m 92 #[.val (.int x0_0), .val (.ref b1), .val (.int m3), .val (.int (2 : Int32)), .val (.int (3 : Int32)), .val (.int (4 : Int32))] [(.int (3 : Int32)), (.int (3 : Int32))]))
        refine own_step (fun t k => XS.icmpNo X70.here hx rfl (hb hby at_92) rfl (teq (by decide : (3 : Int32) = (3 : Int32))).2 k) ?_
        show own_Ends p.tables e below s _ _ _ (T70.setTop (mkF m 95 #[.val (.int x0_0), .val (.ref b1), .val (.int m3), .val (.int (2 : Int32)), .val (.int (3 : Int32)), .val (.int (4 : Int32))] []))
        refine own_step (fun t k => XS.iload X70.here hx rfl (hb hby at_95) rfl k) ?_
        show own_Ends p.tables e below s _ _ _ (T70.setTop (mkF m 97 #[.val (.int x0_0), .val (.ref b1), .val (.int m3), .val (.int (2 : Int32)), .val (.int (3 : Int32)), .val (.int (4 : Int32))] [(.int (4 : Int32))]))
        refine own_step (fun t k => XS.iloadN X70.here hx rfl (hb hby at_97) rfl k) ?_
        show own_Ends p.tables e below s _ _ _ (T70.setTop (mkF m 98 #[.val (.int x0_0), .val (.ref b1), .val (.int m3), .val (.int (2 : Int32)), .val (.int (3 : Int32)), .val (.int (4 : Int32))] [(.int (2 : Int32)), (.int (4 : Int32))]))
        refine own_step (fun t k => XS.iconst X70.here hx rfl (hb hby at_98) k) ?_
        show own_Ends p.tables e below s _ _ _ (T70.setTop (mkF m 99 #[.val (.int x0_0), .val (.ref b1), .val (.int m3), .val (.int (2 : Int32)), .val (.int (3 : Int32)), .val (.int (4 : Int32))] [(.int (2 : Int32)), (.int (2 : Int32)), (.int (4 : Int32))]))
        refine own_step (fun t k => XS.iadd X70.here hx rfl (hb hby at_99) rfl k) ?_
        show own_Ends p.tables e below s _ _ _ (T70.setTop (mkF m 100 #[.val (.int x0_0), .val (.ref b1), .val (.int m3), .val (.int (2 : Int32)), .val (.int (3 : Int32)), .val (.int (4 : Int32))] [(.int (4 : Int32)), (.int (4 : Int32))]))
        refine own_step (fun t k => XS.icmpNo X70.here hx rfl (hb hby at_100) rfl (teq (by decide : (4 : Int32) = (4 : Int32))).2 k) ?_
        show own_Ends p.tables e below s _ _ _ (T70.setTop (mkF m 103 #[.val (.int x0_0), .val (.ref b1), .val (.int m3), .val (.int (2 : Int32)), .val (.int (3 : Int32)), .val (.int (4 : Int32))] []))
        refine own_step (fun t k => XS.aloadN X70.here hx rfl (hb hby at_103) rfl rfl k) ?_
        show own_Ends p.tables e below s _ _ _ (T70.setTop (mkF m 104 #[.val (.int x0_0), .val (.ref b1), .val (.int m3), .val (.int (2 : Int32)), .val (.int (3 : Int32)), .val (.int (4 : Int32))] [(.ref b1)]))
        have O73 : Old Z n0 T70.heap := (O69.keep K70q (allS g_b1 all0))
        obtain ⟨cq74, kq74, q74a, q74b, q74c⟩ := isOf hZ rfl p70_4
        obtain ⟨_, _, ⟨T74, L74, k74, n74⟩, -, X74, ⟨Lc74, hQ74, l74, y74, z74⟩, st74⟩ := X70.virtualBack hx (y := (⟨"com/example/untl/untl/Cnf", "variables", "()I"⟩ : MethodName)) (z := (⟨"com/example/untl/untl/Cnf", "variables", "()I"⟩ : MethodName)) hown (mvT hZ (hw _ (List.mem_of_getElem? (i := 14) rfl))) (mvT hZ (hw _ (List.mem_of_getElem? (i := 15) rfl))) (notFace_of_selects (args := #[]) (mvT hZ (hw _ (List.mem_of_getElem? (i := 17) rfl)))) (mvT hZ (hw _ (List.mem_of_getElem? (i := 17) rfl))) (mvT hZ (hw _ (List.mem_of_getElem? (i := 16) rfl))) (by decide) (backOf (W := 0) (rm3 l Z a0 hw [] b1 (4 : Int32) T70.heap n0 O73 p70_3) hZ (hw _ (List.mem_of_getElem? (i := 18) rfl)) (hw _ (List.mem_of_getElem? (i := 2) rfl)) (by decide) (by decide)) q74a q74c (g := (mkF m 104 #[.val (.int x0_0), .val (.ref b1), .val (.int m3), .val (.int (2 : Int32)), .val (.int (3 : Int32)), .val (.int (4 : Int32))] [(.ref b1)])) rfl (by rw [hml]; rfl) (Steps.refl _) (argsL := []) (rest := []) (lenOf pd_1 rfl) rfl (by show 2 * 0 + _ ≤ _; exact Nat.le_of_eq rfl) (hb hby at_104) (fun _ _ => ⟨rfl, rfl, (by decide : 3 + 0 ≤ _), (by decide : 325 + 0 ≤ _)⟩)
        dsimp only [Pt.U, Pt.locs, Pt.cells, Pt.slots] at X74 l74 y74 z74 st74 hQ74
        subst l74 y74 z74
        obtain ⟨rfl, N74q, e74⟩ := hQ74
        refine own_step (fun t k => st74.trans k) ?_
        have N75 := Fr.app N71 N74q
        show own_Ends p.tables e below s _ _ _ (T74.setTop (mkF m 107 #[.val (.int x0_0), .val (.ref b1), .val (.int m3), .val (.int (2 : Int32)), .val (.int (3 : Int32)), .val (.int (4 : Int32))] [(.int (4 : Int32))]))
        refine own_step (fun t k => XS.iload X74.here hx rfl (hb hby at_107) rfl k) ?_
        show own_Ends p.tables e below s _ _ _ (T74.setTop (mkF m 109 #[.val (.int x0_0), .val (.ref b1), .val (.int m3), .val (.int (2 : Int32)), .val (.int (3 : Int32)), .val (.int (4 : Int32))] [(.int (4 : Int32)), (.int (4 : Int32))]))
        refine own_step (fun t k => XS.icmpNo X74.here hx rfl (hb hby at_109) rfl (teq (by decide : (4 : Int32) = (4 : Int32))).2 k) ?_
        show own_Ends p.tables e below s _ _ _ (T74.setTop (mkF m 112 #[.val (.int x0_0), .val (.ref b1), .val (.int m3), .val (.int (2 : Int32)), .val (.int (3 : Int32)), .val (.int (4 : Int32))] []))
        refine own_step (fun t k => XS.aloadN X74.here hx rfl (hb hby at_112) rfl rfl k) ?_
        show own_Ends p.tables e below s _ _ _ (T74.setTop (mkF m 113 #[.val (.int x0_0), .val (.ref b1), .val (.int m3), .val (.int (2 : Int32)), .val (.int (3 : Int32)), .val (.int (4 : Int32))] [(.ref b1)]))
        obtain ⟨cq76, kq76, q76a, q76b, q76c⟩ := isOf hZ e74 p70_4
        obtain ⟨_, _, ⟨T76, L76, k76, n76⟩, -, X76, ⟨Lc76, hQ76, l76, y76, z76⟩, st76⟩ := X74.virtualBack hx (y := (⟨"com/example/untl/untl/Cnf", "clauses", "()I"⟩ : MethodName)) (z := (⟨"com/example/untl/untl/Cnf", "clauses", "()I"⟩ : MethodName)) hown (mvT hZ (hw _ (List.mem_of_getElem? (i := 26) rfl))) (mvT hZ (hw _ (List.mem_of_getElem? (i := 27) rfl))) (notFace_of_selects (args := #[]) (mvT hZ (hw _ (List.mem_of_getElem? (i := 29) rfl)))) (mvT hZ (hw _ (List.mem_of_getElem? (i := 29) rfl))) (mvT hZ (hw _ (List.mem_of_getElem? (i := 28) rfl))) (by decide) (backOf (W := 0) (rm5 l Z a0 hw [] b1 (0 : Int32) T70.heap n0 O73 p70_2) hZ (hw _ (List.mem_of_getElem? (i := 30) rfl)) (hw _ (List.mem_of_getElem? (i := 2) rfl)) (by decide) (by decide)) q76a q76c (g := (mkF m 113 #[.val (.int x0_0), .val (.ref b1), .val (.int m3), .val (.int (2 : Int32)), .val (.int (3 : Int32)), .val (.int (4 : Int32))] [(.ref b1)])) rfl (by rw [hml]; rfl) (Steps.refl _) (argsL := []) (rest := []) (lenOf pd_1 rfl) rfl (by show 2 * 0 + _ ≤ _; exact Nat.le_of_eq rfl) (hb hby at_113) (fun _ _ => ⟨rfl, e74, (by decide : 3 + 0 ≤ _), (by decide : 325 + 0 ≤ _)⟩)
        dsimp only [Pt.U, Pt.locs, Pt.cells, Pt.slots] at X76 l76 y76 z76 st76 hQ76
        subst l76 y76 z76
        obtain ⟨rfl, N76q, e76⟩ := hQ76
        refine own_step (fun t k => st76.trans k) ?_
        have N77 := Fr.app N75 N76q
        show own_Ends p.tables e below s _ _ _ (T76.setTop (mkF m 116 #[.val (.int x0_0), .val (.ref b1), .val (.int m3), .val (.int (2 : Int32)), .val (.int (3 : Int32)), .val (.int (4 : Int32))] [(.int (0 : Int32))]))
        refine own_step (fun t k => XS.ifNo X76.here hx rfl (hb hby at_116) rfl ((if0 _ _).trans (teq (by decide : (0 : Int32) = (0 : Int32))).2) k) ?_
        show own_Ends p.tables e below s _ _ _ (T76.setTop (mkF m 119 #[.val (.int x0_0), .val (.ref b1), .val (.int m3), .val (.int (2 : Int32)), .val (.int (3 : Int32)), .val (.int (4 : Int32))] []))
        refine own_step (fun t k => XS.iconst X76.here hx rfl (hb hby at_119) k) ?_
        show own_Ends p.tables e below s _ _ _ (T76.setTop (mkF m 120 #[.val (.int x0_0), .val (.ref b1), .val (.int m3), .val (.int (2 : Int32)), .val (.int (3 : Int32)), .val (.int (4 : Int32))] [(.int (1 : Int32))]))
        refine own_step (fun t k => XS.goto X76.here hx rfl (pc0 := 120) (pc' := 124) rfl (hb hby at_120) (by decide) (by decide) k) ?_
        show own_Ends p.tables e below s _ _ _ (T76.setTop (mkF m 124 #[.val (.int x0_0), .val (.ref b1), .val (.int m3), .val (.int (2 : Int32)), .val (.int (3 : Int32)), .val (.int (4 : Int32))] [(.int (1 : Int32))]))
        exact own_retN X76 hx (t := .boolean) Bd.returns (by simp) (hb hby at_124) hnl (by rw [e76]; exact ⟨rfl, N77⟩) (by decide) (by decide)
      · skip
        refine own_step (fun t k => XS.icmpNo X59.here hx rfl (hb hby at_50) rfl (flt hc50_62).1 k) ?_
        show own_Ends p.tables e below s _ _ _ (T59.setTop (mkF m 53 #[.val (.int x0_0), .val (.ref b1), .val (.int m3), .val (.int (2 : Int32)), .unset, .unset] []))
        refine own_step (fun t k => XS.aloadN X59.here hx rfl (hb hby at_53) rfl rfl k) ?_
        show own_Ends p.tables e below s _ _ _ (T59.setTop (mkF m 54 #[.val (.int x0_0), .val (.ref b1), .val (.int m3), .val (.int (2 : Int32)), .unset, .unset] [(.ref b1)]))
        have O78 : Old Z n0 T59.heap := (O58.keep K59q (allS g_b1 all0))
        obtain ⟨cq79, kq79, q79a, q79b, q79c⟩ := isOf hZ rfl p59_4
        obtain ⟨_, _, ⟨T79, L79, k79, n79⟩, -, X79, ⟨Lc79, hQ79, l79, y79, z79⟩, st79⟩ := X59.virtualBack hx (y := (⟨"com/example/untl/untl/Cnf", "newVariable", "()I"⟩ : MethodName)) (z := (⟨"com/example/untl/untl/Cnf", "newVariable", "()I"⟩ : MethodName)) hown (mvT hZ (hw _ (List.mem_of_getElem? (i := 21) rfl))) (mvT hZ (hw _ (List.mem_of_getElem? (i := 22) rfl))) (notFace_of_selects (args := #[]) (mvT hZ (hw _ (List.mem_of_getElem? (i := 24) rfl)))) (mvT hZ (hw _ (List.mem_of_getElem? (i := 24) rfl))) (mvT hZ (hw _ (List.mem_of_getElem? (i := 23) rfl))) (by decide) (backOf (W := 0) (rm4 l Z a0 hw [] b1 (.ref b2_4) (.ref b13_4) (.int (0 : Int32)) (2 : Int32) T59.heap n0 O78 p59_0 p59_1 p59_2 p59_3 p59_4 g_b1) hZ (hw _ (List.mem_of_getElem? (i := 25) rfl)) (hw _ (List.mem_of_getElem? (i := 2) rfl)) (by decide) (by decide)) q79a q79c (g := (mkF m 54 #[.val (.int x0_0), .val (.ref b1), .val (.int m3), .val (.int (2 : Int32)), .unset, .unset] [(.ref b1)])) rfl (by rw [hml]; rfl) (Steps.refl _) (argsL := []) (rest := []) (lenOf pd_1 rfl) rfl (by show 2 * 0 + _ ≤ _; exact Nat.le_of_eq rfl) (hb hby at_54) (fun _ _ => ⟨rfl, rfl, (by decide : 3 + 0 ≤ _), (by decide : 325 + 0 ≤ _)⟩)
        dsimp only [Pt.U, Pt.locs, Pt.cells, Pt.slots] at X79 l79 y79 z79 st79 hQ79
        subst l79 y79 z79
        obtain ⟨rfl, N79q, K79q, p79_0, p79_1, p79_2, p79_3, p79_4⟩ := hQ79
        refine own_step (fun t k => st79.trans k) ?_
        have N80 := Fr.app N60 N79q
        have K81 : Keep h0 T79.heap [] := K61.trans K79q (allS (Or.inr sz_b1) all0)
        show own_Ends p.tables e below s _ _ _ (T79.setTop (mkF m 57 #[.val (.int x0_0), .val (.ref b1), .val (.int m3), .val (.int (2 : Int32)), .unset, .unset] [(.int (3 : Int32))]))
        refine own_step (fun t k => XS.iconst X79.here hx rfl (hb hby at_57) k) ?_
        show own_Ends p.tables e below s _ _ _ (T79.setTop (mkF m 58 #[.val (.int x0_0), .val (.ref b1), .val (.int m3), .val (.int (2 : Int32)), .unset, .unset] [(.int (3 : Int32)), (.int (3 : Int32))]))
        refine own_step (fun t k => XS.icmpYes X79.here hx rfl (pc0 := 58) (pc' := 63) rfl (hb hby at_58) rfl (teq (by decide : (3 : Int32) = (3 : Int32))).1 (by decide) (by decide) k) ?_
        show own_Ends p.tables e below s _ _ _ (T79.setTop (mkF m 63 #[.val (.int x0_0), .val (.ref b1), .val (.int m3), .val (.int (2 : Int32)), .unset, .unset] []))
        refine own_step (fun t k => XS.iconst X79.here hx rfl (hb hby at_63) k) ?_
        show own_Ends p.tables e below s _ _ _ (T79.setTop (mkF m 64 #[.val (.int x0_0), .val (.ref b1), .val (.int m3), .val (.int (2 : Int32)), .unset, .unset] [(.int (3 : Int32))]))
        refine own_step (fun t k => XS.istoreN X79.here hx rfl (hb hby at_64) rfl (l' := #[.val (.int x0_0), .val (.ref b1), .val (.int m3), .val (.int (3 : Int32)), .unset, .unset]) rfl k) ?_
        show own_Ends p.tables e below s _ _ _ (T79.setTop (mkF m 65 #[.val (.int x0_0), .val (.ref b1), .val (.int m3), .val (.int (3 : Int32)), .unset, .unset] []))
        refine own_step (fun t k => XS.aloadN X79.here hx rfl (hb hby at_65) rfl rfl k) ?_
        show own_Ends p.tables e below s _ _ _ (T79.setTop (mkF m 66 #[.val (.int x0_0), .val (.ref b1), .val (.int m3), .val (.int (3 : Int32)), .unset, .unset] [(.ref b1)]))
        have O82 : Old Z n0 T79.heap := (O78.keep K79q (allS g_b1 all0))
        obtain ⟨cq83, kq83, q83a, q83b, q83c⟩ := isOf hZ rfl p79_4
        obtain ⟨_, _, ⟨T83, L83, k83, n83⟩, -, X83, ⟨Lc83, hQ83, l83, y83, z83⟩, st83⟩ := X79.virtualBack hx (y := (⟨"com/example/untl/untl/Cnf", "variables", "()I"⟩ : MethodName)) (z := (⟨"com/example/untl/untl/Cnf", "variables", "()I"⟩ : MethodName)) hown (mvT hZ (hw _ (List.mem_of_getElem? (i := 14) rfl))) (mvT hZ (hw _ (List.mem_of_getElem? (i := 15) rfl))) (notFace_of_selects (args := #[]) (mvT hZ (hw _ (List.mem_of_getElem? (i := 17) rfl)))) (mvT hZ (hw _ (List.mem_of_getElem? (i := 17) rfl))) (mvT hZ (hw _ (List.mem_of_getElem? (i := 16) rfl))) (by decide) (backOf (W := 0) (rm3 l Z a0 hw [] b1 (3 : Int32) T79.heap n0 O82 p79_3) hZ (hw _ (List.mem_of_getElem? (i := 18) rfl)) (hw _ (List.mem_of_getElem? (i := 2) rfl)) (by decide) (by decide)) q83a q83c (g := (mkF m 66 #[.val (.int x0_0), .val (.ref b1), .val (.int m3), .val (.int (3 : Int32)), .unset, .unset] [(.ref b1)])) rfl (by rw [hml]; rfl) (Steps.refl _) (argsL := []) (rest := []) (lenOf pd_1 rfl) rfl (by show 2 * 0 + _ ≤ _; exact Nat.le_of_eq rfl) (hb hby at_66) (fun _ _ => ⟨rfl, rfl, (by decide : 3 + 0 ≤ _), (by decide : 325 + 0 ≤ _)⟩)
        dsimp only [Pt.U, Pt.locs, Pt.cells, Pt.slots] at X83 l83 y83 z83 st83 hQ83
        subst l83 y83 z83
        obtain ⟨rfl, N83q, e83⟩ := hQ83
        refine own_step (fun t k => st83.trans k) ?_
        have N84 := Fr.app N80 N83q
        show own_Ends p.tables e below s _ _ _ (T83.setTop (mkF m 69 #[.val (.int x0_0), .val (.ref b1), .val (.int m3), .val (.int (3 : Int32)), .unset, .unset] [(.int (3 : Int32))]))
        refine own_step (fun t k => XS.iloadN X83.here hx rfl (hb hby at_69) rfl k) ?_
        show own_Ends p.tables e below s _ _ _ (T83.setTop (mkF m 70 #[.val (.int x0_0), .val (.ref b1), .val (.int m3), .val (.int (3 : Int32)), .unset, .unset] [(.int (3 : Int32)), (.int (3 : Int32))]))
        refine own_step (fun t k => XS.icmpYes X83.here hx rfl (pc0 := 70) (pc' := 75) rfl (hb hby at_70) rfl (teq (by decide : (3 : Int32) = (3 : Int32))).1 (by decide) (by decide) k) ?_
        show own_Ends p.tables e below s _ _ _ (T83.setTop (mkF m 75 #[.val (.int x0_0), .val (.ref b1), .val (.int m3), .val (.int (3 : Int32)), .unset, .unset] []))
        refine own_step (fun t k => XS.aloadN X83.here hx rfl (hb hby at_75) rfl rfl k) ?_
        show own_Ends p.tables e below s _ _ _ (T83.setTop (mkF m 76 #[.val (.int x0_0), .val (.ref b1), .val (.int m3), .val (.int (3 : Int32)), .unset, .unset] [(.ref b1)]))
        obtain ⟨cq85, kq85, q85a, q85b, q85c⟩ := isOf hZ e83 p79_4
        obtain ⟨_, _, ⟨T85, L85, k85, n85⟩, -, X85, ⟨Lc85, hQ85, l85, y85, z85⟩, st85⟩ := X83.virtualBack hx (y := (⟨"com/example/untl/untl/Cnf", "newVariable", "()I"⟩ : MethodName)) (z := (⟨"com/example/untl/untl/Cnf", "newVariable", "()I"⟩ : MethodName)) hown (mvT hZ (hw _ (List.mem_of_getElem? (i := 21) rfl))) (mvT hZ (hw _ (List.mem_of_getElem? (i := 22) rfl))) (notFace_of_selects (args := #[]) (mvT hZ (hw _ (List.mem_of_getElem? (i := 24) rfl)))) (mvT hZ (hw _ (List.mem_of_getElem? (i := 24) rfl))) (mvT hZ (hw _ (List.mem_of_getElem? (i := 23) rfl))) (by decide) (backOf (W := 0) (rm4 l Z a0 hw [] b1 (.ref b2_4) (.ref b13_4) (.int (0 : Int32)) (3 : Int32) T79.heap n0 O82 p79_0 p79_1 p79_2 p79_3 p79_4 g_b1) hZ (hw _ (List.mem_of_getElem? (i := 25) rfl)) (hw _ (List.mem_of_getElem? (i := 2) rfl)) (by decide) (by decide)) q85a q85c (g := (mkF m 76 #[.val (.int x0_0), .val (.ref b1), .val (.int m3), .val (.int (3 : Int32)), .unset, .unset] [(.ref b1)])) rfl (by rw [hml]; rfl) (Steps.refl _) (argsL := []) (rest := []) (lenOf pd_1 rfl) rfl (by show 2 * 0 + _ ≤ _; exact Nat.le_of_eq rfl) (hb hby at_76) (fun _ _ => ⟨rfl, e83, (by decide : 3 + 0 ≤ _), (by decide : 325 + 0 ≤ _)⟩)
        dsimp only [Pt.U, Pt.locs, Pt.cells, Pt.slots] at X85 l85 y85 z85 st85 hQ85
        subst l85 y85 z85
        obtain ⟨rfl, N85q, K85q, p85_0, p85_1, p85_2, p85_3, p85_4⟩ := hQ85
        refine own_step (fun t k => st85.trans k) ?_
        have N86 := Fr.app N84 N85q
        have K87 : Keep h0 T85.heap [] := K81.trans K85q (allS (Or.inr sz_b1) all0)
        show own_Ends p.tables e below s _ _ _ (T85.setTop (mkF m 79 #[.val (.int x0_0), .val (.ref b1), .val (.int m3), .val (.int (3 : Int32)), .unset, .unset] [(.int (4 : Int32))]))
        refine own_step (fun t k => XS.istore X85.here hx rfl (hb hby at_79) rfl (l' := #[.val (.int x0_0), .val (.ref b1), .val (.int m3), .val (.int (3 : Int32)), .val (.int (4 : Int32)), .unset]) rfl k) ?_
        show own_Ends p.tables e below s _ _ _ (T85.setTop (mkF m 81 #[.val (.int x0_0), .val (.ref b1), .val (.int m3), .val (.int (3 : Int32)), .val (.int (4 : Int32)), .unset] []))
        refine own_step (fun t k => XS.aloadN X85.here hx rfl (hb hby at_81) rfl rfl k) ?_
        show own_Ends p.tables e below s _ _ _ (T85.setTop (mkF m 82 #[.val (.int x0_0), .val (.ref b1), .val (.int m3), .val (.int (3 : Int32)), .val (.int (4 : Int32)), .unset] [(.ref b1)]))
        have O88 : Old Z n0 T85.heap := (O82.keep K85q (allS g_b1 all0))
        obtain ⟨cq89, kq89, q89a, q89b, q89c⟩ := isOf hZ rfl p85_4
        obtain ⟨_, _, ⟨T89, L89, k89, n89⟩, -, X89, ⟨Lc89, hQ89, l89, y89, z89⟩, st89⟩ := X85.virtualBack hx (y := (⟨"com/example/untl/untl/Cnf", "newVariable", "()I"⟩ : MethodName)) (z := (⟨"com/example/untl/untl/Cnf", "newVariable", "()I"⟩ : MethodName)) hown (mvT hZ (hw _ (List.mem_of_getElem? (i := 21) rfl))) (mvT hZ (hw _ (List.mem_of_getElem? (i := 22) rfl))) (notFace_of_selects (args := #[]) (mvT hZ (hw _ (List.mem_of_getElem? (i := 24) rfl)))) (mvT hZ (hw _ (List.mem_of_getElem? (i := 24) rfl))) (mvT hZ (hw _ (List.mem_of_getElem? (i := 23) rfl))) (by decide) (backOf (W := 0) (rm4 l Z a0 hw [] b1 (.ref b2_4) (.ref b13_4) (.int (0 : Int32)) (4 : Int32) T85.heap n0 O88 p85_0 p85_1 p85_2 p85_3 p85_4 g_b1) hZ (hw _ (List.mem_of_getElem? (i := 25) rfl)) (hw _ (List.mem_of_getElem? (i := 2) rfl)) (by decide) (by decide)) q89a q89c (g := (mkF m 82 #[.val (.int x0_0), .val (.ref b1), .val (.int m3), .val (.int (3 : Int32)), .val (.int (4 : Int32)), .unset] [(.ref b1)])) rfl (by rw [hml]; rfl) (Steps.refl _) (argsL := []) (rest := []) (lenOf pd_1 rfl) rfl (by show 2 * 0 + _ ≤ _; exact Nat.le_of_eq rfl) (hb hby at_82) (fun _ _ => ⟨rfl, rfl, (by decide : 3 + 0 ≤ _), (by decide : 325 + 0 ≤ _)⟩)
        dsimp only [Pt.U, Pt.locs, Pt.cells, Pt.slots] at X89 l89 y89 z89 st89 hQ89
        subst l89 y89 z89
        obtain ⟨rfl, N89q, K89q, p89_0, p89_1, p89_2, p89_3, p89_4⟩ := hQ89
        refine own_step (fun t k => st89.trans k) ?_
        have N90 := Fr.app N86 N89q
        have K91 : Keep h0 T89.heap [] := K87.trans K89q (allS (Or.inr sz_b1) all0)
        show own_Ends p.tables e below s _ _ _ (T89.setTop (mkF m 85 #[.val (.int x0_0), .val (.ref b1), .val (.int m3), .val (.int (3 : Int32)), .val (.int (4 : Int32)), .unset] [(.int (5 : Int32))]))
        refine own_step (fun t k => XS.istore X89.here hx rfl (hb hby at_85) rfl (l' := #[.val (.int x0_0), .val (.ref b1), .val (.int m3), .val (.int (3 : Int32)), .val (.int (4 : Int32)), .val (.int (5 : Int32))]) rfl k) ?_
        show own_Ends p.tables e below s _ _ _ (T89.setTop (mkF m 87 #[.val (.int x0_0), .val (.ref b1), .val (.int m3), .val (.int (3 : Int32)), .val (.int (4 : Int32)), .val (.int (5 : Int32))] []))
        refine own_step (fun t k => XS.iload X89.here hx rfl (hb hby at_87) rfl k) ?_
        show own_Ends p.tables e below s _ _ _ (T89.setTop (mkF m 89 #[.val (.int x0_0), .val (.ref b1), .val (.int m3), .val (.int (3 : Int32)), .val (.int (4 : Int32)), .val (.int (5 : Int32))] [(.int (4 : Int32))]))
        refine own_step (fun t k => XS.iloadN X89.here hx rfl (hb hby at_89) rfl k) ?_
        show own_Ends p.tables e below s _ _ _ (T89.setTop (mkF m 90 #[.val (.int x0_0), .val (.ref b1), .val (.int m3), .val (.int (3 : Int32)), .val (.int (4 : Int32)), .val (.int (5 : Int32))] [(.int (3 : Int32)), (.int (4 : Int32))]))
        refine own_step (fun t k => XS.iconst X89.here hx rfl (hb hby at_90) k) ?_
        show own_Ends p.tables e below s _ _ _ (T89.setTop (mkF m 91 #[.val (.int x0_0), .val (.ref b1), .val (.int m3), .val (.int (3 : Int32)), .val (.int (4 : Int32)), .val (.int (5 : Int32))] [(.int (1 : Int32)), (.int (3 : Int32)), (.int (4 : Int32))]))
        refine own_step (fun t k => XS.iadd X89.here hx rfl (hb hby at_91) rfl k) ?_
        show own_Ends p.tables e below s _ _ _ (T89.setTop (mkF m 92 #[.val (.int x0_0), .val (.ref b1), .val (.int m3), .val (.int (3 : Int32)), .val (.int (4 : Int32)), .val (.int (5 : Int32))] [(.int (4 : Int32)), (.int (4 : Int32))]))
        refine own_step (fun t k => XS.icmpNo X89.here hx rfl (hb hby at_92) rfl (teq (by decide : (4 : Int32) = (4 : Int32))).2 k) ?_
        show own_Ends p.tables e below s _ _ _ (T89.setTop (mkF m 95 #[.val (.int x0_0), .val (.ref b1), .val (.int m3), .val (.int (3 : Int32)), .val (.int (4 : Int32)), .val (.int (5 : Int32))] []))
        refine own_step (fun t k => XS.iload X89.here hx rfl (hb hby at_95) rfl k) ?_
        show own_Ends p.tables e below s _ _ _ (T89.setTop (mkF m 97 #[.val (.int x0_0), .val (.ref b1), .val (.int m3), .val (.int (3 : Int32)), .val (.int (4 : Int32)), .val (.int (5 : Int32))] [(.int (5 : Int32))]))
        refine own_step (fun t k => XS.iloadN X89.here hx rfl (hb hby at_97) rfl k) ?_
        show own_Ends p.tables e below s _ _ _ (T89.setTop (mkF m 98 #[.val (.int x0_0), .val (.ref b1), .val (.int m3), .val (.int (3 : Int32)), .val (.int (4 : Int32)), .val (.int (5 : Int32))] [(.int (3 : Int32)), (.int (5 : Int32))]))
        refine own_step (fun t k => XS.iconst X89.here hx rfl (hb hby at_98) k) ?_
        show own_Ends p.tables e below s _ _ _ (T89.setTop (mkF m 99 #[.val (.int x0_0), .val (.ref b1), .val (.int m3), .val (.int (3 : Int32)), .val (.int (4 : Int32)), .val (.int (5 : Int32))] [(.int (2 : Int32)), (.int (3 : Int32)), (.int (5 : Int32))]))
        refine own_step (fun t k => XS.iadd X89.here hx rfl (hb hby at_99) rfl k) ?_
        show own_Ends p.tables e below s _ _ _ (T89.setTop (mkF m 100 #[.val (.int x0_0), .val (.ref b1), .val (.int m3), .val (.int (3 : Int32)), .val (.int (4 : Int32)), .val (.int (5 : Int32))] [(.int (5 : Int32)), (.int (5 : Int32))]))
        refine own_step (fun t k => XS.icmpNo X89.here hx rfl (hb hby at_100) rfl (teq (by decide : (5 : Int32) = (5 : Int32))).2 k) ?_
        show own_Ends p.tables e below s _ _ _ (T89.setTop (mkF m 103 #[.val (.int x0_0), .val (.ref b1), .val (.int m3), .val (.int (3 : Int32)), .val (.int (4 : Int32)), .val (.int (5 : Int32))] []))
        refine own_step (fun t k => XS.aloadN X89.here hx rfl (hb hby at_103) rfl rfl k) ?_
        show own_Ends p.tables e below s _ _ _ (T89.setTop (mkF m 104 #[.val (.int x0_0), .val (.ref b1), .val (.int m3), .val (.int (3 : Int32)), .val (.int (4 : Int32)), .val (.int (5 : Int32))] [(.ref b1)]))
        have O92 : Old Z n0 T89.heap := (O88.keep K89q (allS g_b1 all0))
        obtain ⟨cq93, kq93, q93a, q93b, q93c⟩ := isOf hZ rfl p89_4
        obtain ⟨_, _, ⟨T93, L93, k93, n93⟩, -, X93, ⟨Lc93, hQ93, l93, y93, z93⟩, st93⟩ := X89.virtualBack hx (y := (⟨"com/example/untl/untl/Cnf", "variables", "()I"⟩ : MethodName)) (z := (⟨"com/example/untl/untl/Cnf", "variables", "()I"⟩ : MethodName)) hown (mvT hZ (hw _ (List.mem_of_getElem? (i := 14) rfl))) (mvT hZ (hw _ (List.mem_of_getElem? (i := 15) rfl))) (notFace_of_selects (args := #[]) (mvT hZ (hw _ (List.mem_of_getElem? (i := 17) rfl)))) (mvT hZ (hw _ (List.mem_of_getElem? (i := 17) rfl))) (mvT hZ (hw _ (List.mem_of_getElem? (i := 16) rfl))) (by decide) (backOf (W := 0) (rm3 l Z a0 hw [] b1 (5 : Int32) T89.heap n0 O92 p89_3) hZ (hw _ (List.mem_of_getElem? (i := 18) rfl)) (hw _ (List.mem_of_getElem? (i := 2) rfl)) (by decide) (by decide)) q93a q93c (g := (mkF m 104 #[.val (.int x0_0), .val (.ref b1), .val (.int m3), .val (.int (3 : Int32)), .val (.int (4 : Int32)), .val (.int (5 : Int32))] [(.ref b1)])) rfl (by rw [hml]; rfl) (Steps.refl _) (argsL := []) (rest := []) (lenOf pd_1 rfl) rfl (by show 2 * 0 + _ ≤ _; exact Nat.le_of_eq rfl) (hb hby at_104) (fun _ _ => ⟨rfl, rfl, (by decide : 3 + 0 ≤ _), (by decide : 325 + 0 ≤ _)⟩)
        dsimp only [Pt.U, Pt.locs, Pt.cells, Pt.slots] at X93 l93 y93 z93 st93 hQ93
        subst l93 y93 z93
        obtain ⟨rfl, N93q, e93⟩ := hQ93
        refine own_step (fun t k => st93.trans k) ?_
        have N94 := Fr.app N90 N93q
        show own_Ends p.tables e below s _ _ _ (T93.setTop (mkF m 107 #[.val (.int x0_0), .val (.ref b1), .val (.int m3), .val (.int (3 : Int32)), .val (.int (4 : Int32)), .val (.int (5 : Int32))] [(.int (5 : Int32))]))
        refine own_step (fun t k => XS.iload X93.here hx rfl (hb hby at_107) rfl k) ?_
        show own_Ends p.tables e below s _ _ _ (T93.setTop (mkF m 109 #[.val (.int x0_0), .val (.ref b1), .val (.int m3), .val (.int (3 : Int32)), .val (.int (4 : Int32)), .val (.int (5 : Int32))] [(.int (5 : Int32)), (.int (5 : Int32))]))
        refine own_step (fun t k => XS.icmpNo X93.here hx rfl (hb hby at_109) rfl (teq (by decide : (5 : Int32) = (5 : Int32))).2 k) ?_
        show own_Ends p.tables e below s _ _ _ (T93.setTop (mkF m 112 #[.val (.int x0_0), .val (.ref b1), .val (.int m3), .val (.int (3 : Int32)), .val (.int (4 : Int32)), .val (.int (5 : Int32))] []))
        refine own_step (fun t k => XS.aloadN X93.here hx rfl (hb hby at_112) rfl rfl k) ?_
        show own_Ends p.tables e below s _ _ _ (T93.setTop (mkF m 113 #[.val (.int x0_0), .val (.ref b1), .val (.int m3), .val (.int (3 : Int32)), .val (.int (4 : Int32)), .val (.int (5 : Int32))] [(.ref b1)]))
        obtain ⟨cq95, kq95, q95a, q95b, q95c⟩ := isOf hZ e93 p89_4
        obtain ⟨_, _, ⟨T95, L95, k95, n95⟩, -, X95, ⟨Lc95, hQ95, l95, y95, z95⟩, st95⟩ := X93.virtualBack hx (y := (⟨"com/example/untl/untl/Cnf", "clauses", "()I"⟩ : MethodName)) (z := (⟨"com/example/untl/untl/Cnf", "clauses", "()I"⟩ : MethodName)) hown (mvT hZ (hw _ (List.mem_of_getElem? (i := 26) rfl))) (mvT hZ (hw _ (List.mem_of_getElem? (i := 27) rfl))) (notFace_of_selects (args := #[]) (mvT hZ (hw _ (List.mem_of_getElem? (i := 29) rfl)))) (mvT hZ (hw _ (List.mem_of_getElem? (i := 29) rfl))) (mvT hZ (hw _ (List.mem_of_getElem? (i := 28) rfl))) (by decide) (backOf (W := 0) (rm5 l Z a0 hw [] b1 (0 : Int32) T89.heap n0 O92 p89_2) hZ (hw _ (List.mem_of_getElem? (i := 30) rfl)) (hw _ (List.mem_of_getElem? (i := 2) rfl)) (by decide) (by decide)) q95a q95c (g := (mkF m 113 #[.val (.int x0_0), .val (.ref b1), .val (.int m3), .val (.int (3 : Int32)), .val (.int (4 : Int32)), .val (.int (5 : Int32))] [(.ref b1)])) rfl (by rw [hml]; rfl) (Steps.refl _) (argsL := []) (rest := []) (lenOf pd_1 rfl) rfl (by show 2 * 0 + _ ≤ _; exact Nat.le_of_eq rfl) (hb hby at_113) (fun _ _ => ⟨rfl, e93, (by decide : 3 + 0 ≤ _), (by decide : 325 + 0 ≤ _)⟩)
        dsimp only [Pt.U, Pt.locs, Pt.cells, Pt.slots] at X95 l95 y95 z95 st95 hQ95
        subst l95 y95 z95
        obtain ⟨rfl, N95q, e95⟩ := hQ95
        refine own_step (fun t k => st95.trans k) ?_
        have N96 := Fr.app N94 N95q
        show own_Ends p.tables e below s _ _ _ (T95.setTop (mkF m 116 #[.val (.int x0_0), .val (.ref b1), .val (.int m3), .val (.int (3 : Int32)), .val (.int (4 : Int32)), .val (.int (5 : Int32))] [(.int (0 : Int32))]))
        refine own_step (fun t k => XS.ifNo X95.here hx rfl (hb hby at_116) rfl ((if0 _ _).trans (teq (by decide : (0 : Int32) = (0 : Int32))).2) k) ?_
        show own_Ends p.tables e below s _ _ _ (T95.setTop (mkF m 119 #[.val (.int x0_0), .val (.ref b1), .val (.int m3), .val (.int (3 : Int32)), .val (.int (4 : Int32)), .val (.int (5 : Int32))] []))
        refine own_step (fun t k => XS.iconst X95.here hx rfl (hb hby at_119) k) ?_
        show own_Ends p.tables e below s _ _ _ (T95.setTop (mkF m 120 #[.val (.int x0_0), .val (.ref b1), .val (.int m3), .val (.int (3 : Int32)), .val (.int (4 : Int32)), .val (.int (5 : Int32))] [(.int (1 : Int32))]))
        refine own_step (fun t k => XS.goto X95.here hx rfl (pc0 := 120) (pc' := 124) rfl (hb hby at_120) (by decide) (by decide) k) ?_
        show own_Ends p.tables e below s _ _ _ (T95.setTop (mkF m 124 #[.val (.int x0_0), .val (.ref b1), .val (.int m3), .val (.int (3 : Int32)), .val (.int (4 : Int32)), .val (.int (5 : Int32))] [(.int (1 : Int32))]))
        exact own_retN X95 hx (t := .boolean) Bd.returns (by simp) (hb hby at_124) hnl (by rw [e95]; exact ⟨rfl, N96⟩) (by decide) (by decide)
set_option maxRecDepth 65536 in
set_option maxHeartbeats 40000000 in
theorem comes_1 {Post : Tables → Env → Array Value → State → Outcome → State → Prop} (hpost : ∀ tb e args s v u, (limb_1_1.after args s (.returned v) u = true ∧ limb_1_2.after args s (.returned v) u = true ∧ True) → FrameEnd s (.returned v) u (Jvm.fieldLocs frame_1_writes args s ++ Jvm.arrayLocs frame_1_arrays args s ++ Jvm.staticLocs frame_1_statics s) 16 768 → Post tb e args s (.returned v) u) :
    ArmFor flags0 classFile x code maxLocals ret World_1 tables_1 room_1 Calls_1 rest_1 Pre_1 Post := by
  intro l hfl _ _ p e ha hc hk s m args below hf hA hF happ hP
  obtain ⟨hcalls, hrest, hpre⟩ := hP
  obtain ⟨-, -, -, hnamed, -, -, -, hat⟩ := (Spec.applies_iff hf).mp happ
  obtain ⟨hg, hn⟩ := and_e (Cond.before_iff.mp (show (Jvm.Cond.and given_1 narrow_1).before args s = true from hpre))
  obtain ⟨hh1a, hh1b⟩ := and_e hg
  obtain ⟨w0, rfl⟩ : ∃ w0 : Value, args = #[w0] := by
    have hs : args.size = 1 := by simpa [Cond.value, given_1] using hh1a
    obtain ⟨L⟩ := args
    match L, hs with
    | [w0], _ => exact ⟨w0, rfl⟩
  have hw := fun d (hd : d ∈ tables_1) => atoms_spec (ws := Jvm.Cond.code x code maxLocals ret :: tables_1) hat d (List.mem_cons_of_mem _ hd)
  have hfit : Fit s := fun {y c} hc i hi => by
    obtain ⟨ha, rfl⟩ := Array.getElem?_eq_some_iff.mp hc
    have q := List.all_eq_true.mp ((Array.all_eq_true_iff_forall_mem.mp hF) _ (Array.getElem_mem ha)) i (List.mem_range.mpr hi)
    simpa [Array.getElem?_eq_getElem hi] using q
  obtain ⟨i0, ei0⟩ := is_v hh1b
  obtain rfl : w0 = (.int i0) := Option.some.inj ei0
  obtain ⟨n, o, h1, h2, h3, _, L, rfl, ⟨rfl, N⟩, hq⟩ := rm0 l s _ hw tables_1 i0 s.heap s.heap.size (Old.start s) p e ha hc hk s m _ below hf ((Spec.applies_iff_loose hf).mp happ).1 ⟨rfl, State.Warmed39.refl s, rfl⟩ trivial
  refine ⟨n, _, h1, h2, h3, hpost _ _ _ _ _ _ ⟨Cond.after_iff.mpr rfl, Cond.after_iff.mpr (eq_i res_at (Term.int_eval (1)) rfl), trivial⟩ ⟨hq.1, hq.2.1, (hq.2.2.sift fun y hy => Or.inr (N y hy)).mono (by decide) (by decide)⟩⟩
theorem main_1_1 : Claimed_1_1 := comes_1 fun _ _ _ _ _ _ h hF => ⟨h.1, hF⟩
theorem main_1_2 : Claimed_1_2 := comes_1 fun _ _ _ _ _ _ h hF => ⟨h.2.1, hF⟩
end Jvm.Pilot.@@N@@
namespace Jvm.Pilot.@@N@@
open Jvm Jvm.ClassFile Sem Op Lib Jvm.Free Jvm.Stand Jvm.Pilot.@@N@@.Jvm.D
/-! MADE BY PROGRAM (witnessworld.py) out of the Statement's table words and the real class files: 9 classes; the members and pool entries that the words name. The judged class is class 1, her method 1. -/
namespace start1
open Jvm.ClassFile
def u (s : String) : CpInfo := .utf8 (stringToUtf16 s)
/-- a pool by its gaps: so many unusable entries, then the entry; so many at the end -/
def gap : Nat → List CpInfo → List CpInfo
  | 0, r => r
  | n + 1, r => .unusable :: gap n r
def poolList (es : List (Nat × CpInfo)) (last : Nat) : List CpInfo := es.foldr (fun e r => gap e.1 (e.2 :: r)) (gap last [])
def pool (es : List (Nat × CpInfo)) (last : Nat) : Array CpInfo := ⟨poolList es last⟩
def fileOf (pool : Array CpInfo) (this : Nat) (attrs : Array Attribute := #[]) (ms : Array MethodInfo := #[]) (fl : Nat := 33) (sup : Nat := 0) (ifs : Array Nat := #[]) (fds : Array FieldInfo := #[]) : ClassFile where
  minorVersion := 0
  majorVersion := 65
  constantPool := pool
  accessFlags := fl
  thisClass := this
  superClass := sup
  interfaces := ifs
  fields := fds
  methods := ms
  attributes := attrs
def plain (name : String) (sup : Option ClassId) : Class where
  name := name
  kind := .ordinary
  loader := none
  accessFlags := 33
  super := sup
  interfaces := #[]
  cf := none
  fields := #[]
  methods := #[]
  instanceTypes := #[]
  staticTypes := #[]
  resolved := #[]
  callSites := []
  init := .initialized
  statics := none
  mirror := none

def pool0 : Array CpInfo := pool [(5, u "<init>"), (0, u "()V"), (1, .class_ 10), (1, u "java/lang/Object")] 113

def k0c0 : Code := { maxStack := 0, maxLocals := 1, code := object_method_1_code, exceptionTable := #[], attributes := #[] }
def k0m0 : Method := { name := "<init>", desc := "()V", sig := { parameters := [], returnType := none }, accessFlags := 1, code := some k0c0 }
/-- java/lang/Object -/
def k0 : Class := { plain "java/lang/Object" none with
  accessFlags := 33
  interfaces := #[]
  cf := some (fileOf pool0 8 #[] #[{ accessFlags := 1, nameIndex := 5, descriptorIndex := 6, attributes := #[] }] 33 0 #[] #[])
  fields := #[]
  methods := #[k0m0]
  instanceTypes := #[]
  staticTypes := #[]
  resolved := Array.replicate 124 none
  statics := none }

def pool1 : Array CpInfo := pool [(2, .class_ 4), (0, .nameAndType 5 6), (0, u "java/lang/Object"), (0, u "<init>"), (0, u "()V"), (0, .class_ 8), (0, u "com/example/untl/untl/Cnf"), (0, .methodref 7 3), (0, .methodref 7 11), (0, .nameAndType 12 13), (0, u "newVariable"), (0, u "()I"), (0, .methodref 7 15), (0, .nameAndType 16 13), (0, u "variables"), (0, .methodref 7 18), (0, .nameAndType 19 13), (0, u "clauses"), (0, .class_ 21), (0, u "com/example/untl/untl/CnfNewVariablePinLaw"), (2, u "law"), (0, u "(I)Z")] 3

def k1m0 : Method := { name := "<init>", desc := "()V", sig := { parameters := [], returnType := none }, accessFlags := 1, code := none }
def k1c1 : Code := { maxStack := 3, maxLocals := 6, code := code, exceptionTable := #[], attributes := #[] }
def k1m1 : Method := { name := "law", desc := "(I)Z", sig := { parameters := [.int], returnType := some .boolean }, accessFlags := 9, code := some k1c1 }
/-- com/example/untl/untl/CnfNewVariablePinLaw -/
def k1 : Class := { plain "com/example/untl/untl/CnfNewVariablePinLaw" (some 0) with
  accessFlags := 49
  interfaces := #[]
  cf := some (fileOf pool1 20 #[] #[{ accessFlags := 1, nameIndex := 5, descriptorIndex := 6, attributes := #[] }, { accessFlags := 9, nameIndex := 24, descriptorIndex := 25, attributes := #[] }] 49 2 #[] #[])
  fields := #[]
  methods := #[k1m0, k1m1]
  instanceTypes := #[]
  staticTypes := #[]
  resolved := Array.replicate 29 none
  statics := none }

def pool2 : Array CpInfo := pool [(1, .methodref 2 3), (0, .class_ 4), (0, .nameAndType 5 6), (0, u "java/lang/Object"), (0, u "<init>"), (0, u "()V"), (0, .fieldref 8 9), (0, .class_ 10), (0, .nameAndType 11 12), (0, u "com/example/untl/untl/Cnf"), (0, u "literals"), (0, u "[I"), (0, .fieldref 8 14), (0, .nameAndType 15 12), (0, u "clauseStarts"), (0, .fieldref 8 17), (0, .nameAndType 18 19), (0, u "variables"), (0, u "I"), (17, u "literalCount"), (10, .fieldref 8 49), (0, .nameAndType 50 19), (0, u "clauses"), (118, u "CLAUSES_BETWEEN_CHECKS"), (3, u "newVariable"), (0, u "()I")] 53

def k2c0 : Code := { maxStack := 2, maxLocals := 1, code := prog_4_method_1_code, exceptionTable := #[], attributes := #[] }
def k2m0 : Method := { name := "<init>", desc := "()V", sig := { parameters := [], returnType := none }, accessFlags := 1, code := some k2c0 }
def k2c1 : Code := { maxStack := 3, maxLocals := 1, code := prog_4_method_2_code, exceptionTable := #[], attributes := #[] }
def k2m1 : Method := { name := "newVariable", desc := "()I", sig := { parameters := [], returnType := some .int }, accessFlags := 1, code := some k2c1 }
def k2c2 : Code := { maxStack := 1, maxLocals := 1, code := prog_4_method_4_code, exceptionTable := #[], attributes := #[] }
def k2m2 : Method := { name := "variables", desc := "()I", sig := { parameters := [], returnType := some .int }, accessFlags := 1, code := some k2c2 }
def k2c3 : Code := { maxStack := 1, maxLocals := 1, code := prog_4_method_5_code, exceptionTable := #[], attributes := #[] }
def k2m3 : Method := { name := "clauses", desc := "()I", sig := { parameters := [], returnType := some .int }, accessFlags := 1, code := some k2c3 }
/-- com/example/untl/untl/Cnf -/
def k2 : Class := { plain "com/example/untl/untl/Cnf" (some 0) with
  accessFlags := 33
  interfaces := #[]
  cf := some (fileOf pool2 8 #[] #[{ accessFlags := 1, nameIndex := 5, descriptorIndex := 6, attributes := #[] }, { accessFlags := 1, nameIndex := 173, descriptorIndex := 174, attributes := #[] }, { accessFlags := 1, nameIndex := 18, descriptorIndex := 174, attributes := #[] }, { accessFlags := 1, nameIndex := 50, descriptorIndex := 174, attributes := #[] }] 33 2 #[] #[{ accessFlags := 24, nameIndex := 169, descriptorIndex := 19, attributes := #[] }, { accessFlags := 2, nameIndex := 18, descriptorIndex := 19, attributes := #[] }, { accessFlags := 2, nameIndex := 50, descriptorIndex := 19, attributes := #[] }, { accessFlags := 2, nameIndex := 11, descriptorIndex := 12, attributes := #[] }, { accessFlags := 2, nameIndex := 37, descriptorIndex := 19, attributes := #[] }, { accessFlags := 2, nameIndex := 15, descriptorIndex := 12, attributes := #[] }])
  fields := #[{ name := "CLAUSES_BETWEEN_CHECKS", type := .int, accessFlags := 24, slot := 0, constantValue := 0 }, { name := "variables", type := .int, accessFlags := 2, slot := 0, constantValue := 0 }, { name := "clauses", type := .int, accessFlags := 2, slot := 1, constantValue := 0 }, { name := "literals", type := (.array .int), accessFlags := 2, slot := 2, constantValue := 0 }, { name := "literalCount", type := .int, accessFlags := 2, slot := 3, constantValue := 0 }, { name := "clauseStarts", type := (.array .int), accessFlags := 2, slot := 4, constantValue := 0 }]
  methods := #[k2m0, k2m1, k2m2, k2m3]
  instanceTypes := #[.int, .int, (.array .int), .int, (.array .int)]
  staticTypes := #[.int]
  resolved := Array.replicate 228 none
  statics := none }

def pool3 : Array CpInfo := pool [(1, u "java/lang/Cloneable"), (0, .class_ 1), (0, u "java/lang/Object"), (0, .class_ 3)] 3

/-- java/lang/Cloneable -/
def k3 : Class := { plain "java/lang/Cloneable" (some 0) with
  accessFlags := 1537
  interfaces := #[]
  cf := some (fileOf pool3 2 #[] #[] 1537 4 #[] #[])
  fields := #[]
  methods := #[]
  instanceTypes := #[]
  staticTypes := #[]
  resolved := Array.replicate 8 none
  statics := none }

def pool4 : Array CpInfo := pool [(1, u "java/io/Serializable"), (0, .class_ 1), (0, u "java/lang/Object"), (0, .class_ 3)] 3

/-- java/io/Serializable -/
def k4 : Class := { plain "java/io/Serializable" (some 0) with
  accessFlags := 1537
  interfaces := #[]
  cf := some (fileOf pool4 2 #[] #[] 1537 4 #[] #[])
  fields := #[]
  methods := #[]
  instanceTypes := #[]
  staticTypes := #[]
  resolved := Array.replicate 8 none
  statics := none }

/-- the primitive byte -/
def k5 : Class := { plain "byte" none with kind := .primitive 'B', accessFlags := 0x411 }
/-- [B -/
def k6 : Class := { plain "[B" (some 0) with kind := .array 5 .byte, interfaces := #[3, 4], accessFlags := 1041 }

/-- the primitive int -/
def k7 : Class := { plain "int" none with kind := .primitive 'I', accessFlags := 0x411 }
/-- [I -/
def k8 : Class := { plain "[I" (some 0) with kind := .array 7 .int, interfaces := #[3, 4], accessFlags := 1041 }

def heap : Heap := #[]
def classes : Array Class := #[k0, k1, k2, k3, k4, k5, k6, k7, k8]
def interned : List (Array UInt16 × Addr) := []
def slotsUsed : Nat := 0
def theMethod : MethodId := ⟨1, 1⟩
def args0 : Array Value := #[.int 5]
def aboutOver (below : List Frame) : State where
  vm := { classes := classes, interned := interned.toArray }
  heap := heap
  slotsUsed := slotsUsed
  threads := #[{ frames := .invoking theMethod args0 :: below }]
def below0 : List Frame := [.native { method := ⟨0, 0⟩, args := #[] }]
def about1 : State := aboutOver below0
def p0 : Program := .bare "" "" ""
def e0 : Env := launch0.env 0 0 0
theorem w_frames : about1.frames = Frame.invoking theMethod args0 :: below0 := rfl
set_option maxRecDepth 65536 in
theorem w_args : argsFit about1.vm theMethod args0 = true := by decide +kernel
set_option maxRecDepth 65536 in
theorem w_heap : heapFits about1 = true := by decide +kernel
set_option maxRecDepth 65536 in
theorem w_runnable : about1.curStatus? = some .runnable := by decide +kernel
set_option maxRecDepth 65536 in
theorem w_alone : about1.alone = true := by decide +kernel
set_option maxRecDepth 65536 in
theorem w_named : about1.methodNamed? x = some theMethod := by decide +kernel
set_option maxRecDepth 65536 in
theorem w_hears : about1.hears theMethod below0 = true := by decide +kernel
set_option maxRecDepth 65536 in
theorem w_ripe : about1.ripe theMethod args0 below0 = true := by decide +kernel
theorem w_running : about1.status = .running := rfl
set_option maxRecDepth 65536 in
theorem w_room : about1.hasRoom e0.platform room_1 = true :=
  launch0.hasRoom_least _ room_1 (by decide +kernel) (by decide +kernel) (by decide +kernel) (by decide +kernel) (by decide +kernel) (by decide +kernel)
theorem allAtoms_all (ts : List Jvm.Cond) (a : Array Jvm.Value) (st : Jvm.State) : (allAtoms ts).before a st = ts.all (fun c => c.before a st) := by
  induction ts with
  | nil => rfl
  | cons c t ih =>
    show (Jvm.Cond.and c (allAtoms t)).before a st = _
    rw [Jvm.Cond.before_and, ih, List.all_cons]
def words1 : List Jvm.Cond := Jvm.Cond.code x code maxLocals ret :: tables_1
/-- a 'code' word, met by the world's own term for the bytes: nothing is compared byte by byte -/
theorem code_word {y : MethodName} {bytes : ByteArray} {mx : Nat} {rt : Option FieldType} {a : Array Value} {s : State} {m : MethodId} {meth : Method} {c : Code} (h1 : s.methodNamed? y = some m) (h2 : s.vm.method? m = some meth) (h3 : meth.code = some c) (h4 : c.code = bytes)
    (h5 : (c.maxLocals == mx && c.exceptionTable.isEmpty && decide (c.maxStack ≤ mostOperands) && decide (meth.sig.returnType = rt) && !meth.locks && decide (parseMethodDescriptor y.desc = some meth.sig)) = true) : (Jvm.Cond.code y bytes mx rt).before a s = true := by
  simp only [Bool.and_eq_true, beq_iff_eq, Bool.not_eq_true', decide_eq_true_eq] at h5
  obtain ⟨⟨⟨⟨⟨g1, g2⟩, g3⟩, g4⟩, g5⟩, g6⟩ := h5
  simp [Cond.before, Cond.holds, Cond.value, h1, h2, h3, h4, g1, g2, g3, g4, g5, g6]
def isCode : Jvm.Cond → Bool
  | .code _ _ _ _ => true
  | _ => false
theorem all_split {L : List Jvm.Cond} {P : Jvm.Cond → Bool} (h1 : L.all (fun c => isCode c || P c) = true) (h2 : ∀ c ∈ L.filter isCode, P c = true) : L.all P = true := by
  refine List.all_eq_true.mpr fun c hc => ?_
  have h := List.all_eq_true.mp h1 c hc
  rcases Bool.eq_false_or_eq_true (isCode c) with hi | hi
  · exact h2 c (List.mem_filter.mpr ⟨hc, hi⟩)
  · simpa [hi] using h
set_option maxRecDepth 65536 in
theorem w_c0 : (Jvm.Cond.code x code maxLocals ret).before args0 about1 = true := code_word (m := ⟨1, 1⟩) (meth := k1m1) (c := k1c1) (by decide +kernel) rfl rfl rfl (by decide +kernel)
set_option maxRecDepth 65536 in
theorem w_c1 : (Jvm.Cond.code ({ cls := "com/example/untl/untl/Cnf", name := "<init>", desc := "()V" } : Jvm.MethodName) prog_4_method_1_code (1 : Nat) (Option.none : Option Jvm.ClassFile.FieldType)).before args0 about1 = true := code_word (m := ⟨2, 0⟩) (meth := k2m0) (c := k2c0) (by decide +kernel) rfl rfl rfl (by decide +kernel)
set_option maxRecDepth 65536 in
theorem w_c2 : (Jvm.Cond.code ({ cls := "java/lang/Object", name := "<init>", desc := "()V" } : Jvm.MethodName) object_method_1_code (1 : Nat) (Option.none : Option Jvm.ClassFile.FieldType)).before args0 about1 = true := code_word (m := ⟨0, 0⟩) (meth := k0m0) (c := k0c0) (by decide +kernel) rfl rfl rfl (by decide +kernel)
set_option maxRecDepth 65536 in
theorem w_c3 : (Jvm.Cond.code ({ cls := "com/example/untl/untl/Cnf", name := "variables", desc := "()I" } : Jvm.MethodName) prog_4_method_4_code (1 : Nat) (Option.some Jvm.ClassFile.FieldType.int)).before args0 about1 = true := code_word (m := ⟨2, 2⟩) (meth := k2m2) (c := k2c2) (by decide +kernel) rfl rfl rfl (by decide +kernel)
set_option maxRecDepth 65536 in
theorem w_c4 : (Jvm.Cond.code ({ cls := "com/example/untl/untl/Cnf", name := "newVariable", desc := "()I" } : Jvm.MethodName) prog_4_method_2_code (1 : Nat) (Option.some Jvm.ClassFile.FieldType.int)).before args0 about1 = true := code_word (m := ⟨2, 1⟩) (meth := k2m1) (c := k2c1) (by decide +kernel) rfl rfl rfl (by decide +kernel)
set_option maxRecDepth 65536 in
theorem w_c5 : (Jvm.Cond.code ({ cls := "com/example/untl/untl/Cnf", name := "clauses", desc := "()I" } : Jvm.MethodName) prog_4_method_5_code (1 : Nat) (Option.some Jvm.ClassFile.FieldType.int)).before args0 about1 = true := code_word (m := ⟨2, 3⟩) (meth := k2m3) (c := k2c3) (by decide +kernel) rfl rfl rfl (by decide +kernel)
def codes1 : List Jvm.Cond := [Jvm.Cond.code x code maxLocals ret, Jvm.Cond.code ({ cls := "com/example/untl/untl/Cnf", name := "<init>", desc := "()V" } : Jvm.MethodName) prog_4_method_1_code (1 : Nat) (Option.none : Option Jvm.ClassFile.FieldType), Jvm.Cond.code ({ cls := "java/lang/Object", name := "<init>", desc := "()V" } : Jvm.MethodName) object_method_1_code (1 : Nat) (Option.none : Option Jvm.ClassFile.FieldType), Jvm.Cond.code ({ cls := "com/example/untl/untl/Cnf", name := "variables", desc := "()I" } : Jvm.MethodName) prog_4_method_4_code (1 : Nat) (Option.some Jvm.ClassFile.FieldType.int), Jvm.Cond.code ({ cls := "com/example/untl/untl/Cnf", name := "newVariable", desc := "()I" } : Jvm.MethodName) prog_4_method_2_code (1 : Nat) (Option.some Jvm.ClassFile.FieldType.int), Jvm.Cond.code ({ cls := "com/example/untl/untl/Cnf", name := "clauses", desc := "()I" } : Jvm.MethodName) prog_4_method_5_code (1 : Nat) (Option.some Jvm.ClassFile.FieldType.int)]
set_option maxRecDepth 65536 in
theorem codes_eq : words1.filter isCode = codes1 := rfl
theorem w_codes : ∀ c ∈ words1.filter isCode, c.before args0 about1 = true := by
  rw [codes_eq]
  intro c hc
  simp only [codes1, List.mem_cons, List.not_mem_nil, or_false] at hc
  rcases hc with rfl | rfl | rfl | rfl | rfl | rfl
  · exact w_c0
  · exact w_c1
  · exact w_c2
  · exact w_c3
  · exact w_c4
  · exact w_c5
set_option maxRecDepth 65536 in
theorem w_t1 : (words1.take 24).all (fun c => isCode c || c.before args0 about1) = true := by decide +kernel
set_option maxRecDepth 65536 in
theorem w_t2 : (words1.drop 24).all (fun c => isCode c || c.before args0 about1) = true := by decide +kernel
theorem w_tables : (allAtoms (Jvm.Cond.code x code maxLocals ret :: tables_1)).before args0 about1 = true := by
  rw [allAtoms_all]
  show words1.all (fun c => c.before args0 about1) = true
  refine all_split ?_ w_codes
  rw [← List.take_append_drop 24 words1, List.all_append, w_t1, w_t2]
  rfl
set_option maxRecDepth 65536 in
theorem w_case : (Jvm.Cond.and given_1 narrow_1).before args0 about1 = true := by decide +kernel
theorem w_applies : (headSpec (Jvm.Cond.code x code maxLocals ret :: tables_1) room_1).applies x e0.platform about1 = true :=
  (Spec.applies_iff w_frames).mpr ⟨w_running, w_runnable, w_alone, w_named, w_hears, w_ripe, w_room, w_tables⟩
theorem atStart : AtStart classFile x code maxLocals ret World_1 tables_1 room_1 Calls_1 rest_1 Pre_1 launch0 p0 e0 about1 theMethod args0 below0 :=
  ⟨lists_1, trivial, launch0.admits_env _ _ _, launch0.least_env, fairChoices_fair.cas, fairChoices_fair.clock, w_frames, w_args, w_heap, w_applies, trivial, trivial, w_case⟩
end start1
theorem witness_1 : WitnessClaimed_1 := ⟨start1.p0, start1.e0, start1.about1, start1.theMethod, start1.args0, start1.below0, start1.atStart⟩
end Jvm.Pilot.@@N@@
