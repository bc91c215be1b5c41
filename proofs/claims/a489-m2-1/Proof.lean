import JvmDerived
import JvmDerived.Pilot.@@N@@Statement
import JvmDerived.Pilot.@@N@@Code
set_option linter.unusedVariables false
set_option linter.unusedSimpArgs false
namespace Jvm.Pilot.@@N@@
open Jvm Jvm.ClassFile Sem Op Lib Jvm.Free Jvm.Stand Jvm.LawKit Jvm.RoadKit Bundle Jvm.Pilot.@@N@@.Jvm.D
/-- from the state st the run ends, of which Q says what it leaves -/
def own_Ends (tb : Tables) (e : Env) (below : List Frame) (s : State) (Q : Option Value → Heap → List Loc → Prop) (C S : Nat) (st : State) : Prop :=
  ∃ t o, Steps tb e below st t ∧ t.status = .running ∧ Ended t below o ∧ ∃ v L, o = .returned v ∧ Q v t.heap L ∧ FrameEnd s o t L C S
theorem own_step {tb : Tables} {e : Env} {below : List Frame} {s : State} {Q : Option Value → Heap → List Loc → Prop} {C S : Nat} {st st' : State}
    (h : ∀ t, Steps tb e below st' t → Steps tb e below st t) (k : own_Ends tb e below s Q C S st') : own_Ends tb e below s Q C S st := by
  obtain ⟨t, o, h1, h2⟩ := k
  exact ⟨t, o, h t h1, h2⟩
section OwnRet
variable {p : Program} {l : Launch} {e : Env} {R : Room} {s : State} {m : MethodId} {args : Array Value} {below : List Frame} {meth : Method} {c : Code} {T : State} {locs : List Loc} {cells slots : Nat} {Q : Option Value → Heap → List Loc → Prop} {C S : Nat} {pc : Nat} {Ls : Array Slot} {rest : List Value}
theorem own_retW (X : Stand p l e R s m args below meth c T locs cells slots) (hx : p.tables.exec = Jvm.exec) {w : Value} {t : FieldType} {i : Instr} (hret : meth.sig.returnType = some t) (hn : narrow t w = w)
    (hi : (i = .ireturn ∧ (t = .int ∨ t = .boolean ∨ t = .byte ∨ t = .char ∨ t = .short) ∧ ∃ z, w = .int z) ∨ (i = .lreturn ∧ t = .long ∧ ∃ z, w = .long z) ∨ (i = .dreturn ∧ t = .double ∧ ∃ z, w = .double z) ∨ (i = .freturn ∧ t = .float ∧ ∃ z, w = .float z) ∨ (i = .areturn ∧ t.isReference = true ∧ w.isRef = true))
    (hd : decode c.code pc = .ok (i, 1)) (hlocks : meth.locks = false) (hq : Q (some w) T.heap locs) (hc : cells ≤ C) (hs : slots ≤ S) :
    own_Ends p.tables e below s Q C S (T.setTop (mkF m pc Ls (w :: rest))) := by
  obtain ⟨fs, hr, hrun, hended, hW, hsame⟩ := X.leave (v := some w) (fun h => by rw [hret] at h; cases h) hlocks
  exact ⟨_, _, retOut X hx hret hn hi hd hr, hrun, hended, _, _, rfl, hq, ⟨_, rfl⟩, hW, hsame.mono hc hs⟩
theorem own_retI (X : Stand p l e R s m args below meth c T locs cells slots) (hx : p.tables.exec = Jvm.exec) {z : Int32} (hret : meth.sig.returnType = some .int)
    (hd : decode c.code pc = .ok (.ireturn, 1)) (hlocks : meth.locks = false) (hq : Q (some (.int z)) T.heap locs) (hc : cells ≤ C) (hs : slots ≤ S) :
    own_Ends p.tables e below s Q C S (T.setTop (mkF m pc Ls (.int z :: rest))) :=
  own_retW X hx hret rfl (Or.inl ⟨rfl, Or.inl rfl, z, rfl⟩) hd hlocks hq hc hs
theorem own_retJ (X : Stand p l e R s m args below meth c T locs cells slots) (hx : p.tables.exec = Jvm.exec) {z : Int64} (hret : meth.sig.returnType = some .long)
    (hd : decode c.code pc = .ok (.lreturn, 1)) (hlocks : meth.locks = false) (hq : Q (some (.long z)) T.heap locs) (hc : cells ≤ C) (hs : slots ≤ S) :
    own_Ends p.tables e below s Q C S (T.setTop (mkF m pc Ls (.long z :: rest))) :=
  own_retW X hx hret rfl (Or.inr (Or.inl ⟨rfl, rfl, z, rfl⟩)) hd hlocks hq hc hs
theorem own_retR (X : Stand p l e R s m args below meth c T locs cells slots) (hx : p.tables.exec = Jvm.exec) {w : Value} {t : FieldType} (hret : meth.sig.returnType = some t) (ht : t.isReference = true) (hw : w.isRef = true) (hn : narrow t w = w)
    (hd : decode c.code pc = .ok (.areturn, 1)) (hlocks : meth.locks = false) (hq : Q (some w) T.heap locs) (hc : cells ≤ C) (hs : slots ≤ S) :
    own_Ends p.tables e below s Q C S (T.setTop (mkF m pc Ls (w :: rest))) :=
  own_retW X hx hret hn (Or.inr (Or.inr (Or.inr (Or.inr ⟨rfl, ht, hw⟩)))) hd hlocks hq hc hs
theorem own_retN (X : Stand p l e R s m args below meth c T locs cells slots) (hx : p.tables.exec = Jvm.exec) {z : Int32} {t : FieldType} (hret : meth.sig.returnType = some t) (ht : t = .boolean ∨ t = .byte ∨ t = .char ∨ t = .short)
    (hd : decode c.code pc = .ok (.ireturn, 1)) (hlocks : meth.locks = false) (hq : Q (some (.int (nar t z))) T.heap locs) (hc : cells ≤ C) (hs : slots ≤ S) :
    own_Ends p.tables e below s Q C S (T.setTop (mkF m pc Ls (.int z :: rest))) := by
  obtain ⟨fs, hr, hrun, hended, hW, hsame⟩ := X.leave (v := some (.int (nar t z))) (fun h => by rw [hret] at h; cases h) hlocks
  exact ⟨_, _, retN X hx hret ht hd hr, hrun, hended, _, _, rfl, hq, ⟨_, rfl⟩, hW, hsame.mono hc hs⟩
theorem own_ret0 (X : Stand p l e R s m args below meth c T locs cells slots) (hx : p.tables.exec = Jvm.exec) (hret : meth.sig.returnType = none)
    (hd : decode c.code pc = .ok (.return_, 1)) (hlocks : meth.locks = false) (hq : Q none T.heap locs) (hc : cells ≤ C) (hs : slots ≤ S) :
    own_Ends p.tables e below s Q C S (T.setTop (mkF m pc Ls [])) := by
  obtain ⟨fs, hr, hrun, hended, hW, hsame⟩ := X.leave (v := none) (fun _ => rfl) hlocks
  exact ⟨_, _, X.returnOut hx hret hd hr, hrun, hended, _, _, rfl, hq, ⟨_, rfl⟩, hW, hsame.mono hc hs⟩
end OwnRet
theorem own_idx (b n : Int32) (hn : 0 < n.toInt) : ¬ ((b &&& 2147483647) % n) < 0 ∧ ((b &&& 2147483647) % n) < n := by
  have h1 := c_and b 2147483647 (by decide)
  have h2 := (c_iremV (b &&& 2147483647) n).1 h1.1 hn
  constructor
  · rw [Int32.lt_iff_toInt_lt]; show ¬ _ < (0 : Int); omega
  · rw [Int32.lt_iff_toInt_lt]; omega
theorem own_small (v : Int32) (k : Nat) (hk : k < 2147483648) (h1 : ¬ v < 0) (h2 : v < Int32.ofNat k) : ∃ n : Fin k, v = Int32.ofNat n.1 := by
  rw [Int32.lt_iff_toInt_lt] at h1 h2
  rw [Int32.toInt_ofNat_of_lt hk] at h2
  have a : 0 ≤ v.toInt := by simpa using h1
  refine ⟨⟨v.toInt.toNat, by omega⟩, ?_⟩
  apply Int32.toInt_inj.mp
  rw [Int32.toInt_ofNat_of_lt (by show v.toInt.toNat < _; omega)]
  show v.toInt = ((v.toInt.toNat : Nat) : Int)
  omega
theorem d1_0 : decode prog_34_method_2_code 0 = .ok (.aload_n 0, 1) := by decide +kernel
theorem d1_1 : decode prog_34_method_2_code 1 = .ok (.invokespecial 7, 3) := by decide +kernel
theorem d1_4 : decode prog_34_method_2_code 4 = .ok (.aload_n 0, 1) := by decide +kernel
theorem d1_5 : decode prog_34_method_2_code 5 = .ok (.aload_n 1, 1) := by decide +kernel
theorem d1_6 : decode prog_34_method_2_code 6 = .ok (.putfield 12, 3) := by decide +kernel
theorem d1_9 : decode prog_34_method_2_code 9 = .ok (.aload_n 0, 1) := by decide +kernel
theorem d1_10 : decode prog_34_method_2_code 10 = .ok (.iload_n 2, 1) := by decide +kernel
theorem d1_11 : decode prog_34_method_2_code 11 = .ok (.putfield 16, 3) := by decide +kernel
theorem d1_14 : decode prog_34_method_2_code 14 = .ok (.return_, 1) := by decide +kernel
theorem pn_0 : plainName "com/example/proofwright/proofwright/multisig/VarintReader" = true := by first | (simp [plainName, overriddenIn]; done) | decide +kernel
theorem ef_1 (m : MethodId) (o0_1 : Addr) (o1_1 : Addr) (x2_1 : Int32) : entryFrame m #[(.ref o0_1), (.ref o1_1), (.int x2_1)] 3 = mkF m 0 #[.val (.ref o0_1), .val (.ref o1_1), .val (.int x2_1)] [] := by first | (simp [entryFrame, mkF, argsToLocals, Value.category]; done) | rfl
def Q1 (Z : State) (o0_1 : Addr) (o1_1 : Addr) (x2_1 : Int32) (u_bytes_o0_1 : Value) (u_position_o0_1 : Value) (h0 : Heap) (n0 : Nat) (v : Option Value) (h : Heap) (L : List Loc) : Prop := v = none ∧ Fr n0 L ∧ Keep h0 h [o0_1] ∧ Exa Z h o0_1 "com/example/proofwright/proofwright/multisig/VarintReader" ∧ Fld Z h o0_1 "com/example/proofwright/proofwright/multisig/VarintReader" "bytes" "[B" (.ref o1_1) ∧ Fld Z h o0_1 "com/example/proofwright/proofwright/multisig/VarintReader" "position" "I" (.int x2_1)
set_option maxRecDepth 65536 in
set_option maxHeartbeats 40000000 in
theorem rm1 (l : Launch) (Z : State) (a0 : Array Value) (hw : ∀ d ∈ tables_1, d.before a0 Z = true) (ws : List Jvm.Cond) (o0_1 : Addr) (o1_1 : Addr) (x2_1 : Int32) (u_bytes_o0_1 : Value) (u_position_o0_1 : Value) (h0 : Heap) (n0 : Nat) (O0 : Old Z n0 h0) (E_o0_1 : Exa Z h0 o0_1 "com/example/proofwright/proofwright/multisig/VarintReader") (F_bytes_o0_1 : Fld Z h0 o0_1 "com/example/proofwright/proofwright/multisig/VarintReader" "bytes" "[B" u_bytes_o0_1) (g_o0_1 : n0 ≤ o0_1) (F_position_o0_1 : Fld Z h0 o0_1 "com/example/proofwright/proofwright/multisig/VarintReader" "position" "I" u_position_o0_1) :
    MetFree l (⟨"com/example/proofwright/proofwright/multisig/VarintReader", "<init>", "([BI)V"⟩ : MethodName) (head1 (Jvm.Cond.code (⟨"com/example/proofwright/proofwright/multisig/VarintReader", "<init>", "([BI)V"⟩ : MethodName) prog_34_method_2_code 3 none :: ws) ({ frames := 1, cells := 0, slots := 0, locals := 12 } : Room)) (fun a U => a = #[(.ref o0_1), (.ref o1_1), (.int x2_1)] ∧ Z.Warmed39 U.vm ∧ U.heap = h0) (fun _ _ _ _ _ => True) (fun _ U o U' => ∃ v L, o = .returned v ∧ Q1 Z o0_1 o1_1 x2_1 u_bytes_o0_1 u_position_o0_1 h0 n0 v U'.heap L ∧ FrameEnd U o U' L ({ frames := 1, cells := 0, slots := 0, locals := 12 } : Room).cells ({ frames := 1, cells := 0, slots := 0, locals := 12 } : Room).slots) := by
  refine MetFree.of_bodySF (plainFor_of_name pn_0) hisR ?_
  intro p e s m args below meth c s₁ Bd hml0 hP hK
  obtain ⟨rfl, hZ, hh⟩ := hP
  have hx := Bd.exec
  have hby := Bd.bytes
  have hnl := BodyLoose.notSynchronized Bd
  have hml : c.maxLocals = 3 := hml0
  have hown : s.vm.findClass "com/example/proofwright/proofwright/multisig/VarintReader" = some m.cls := findClass_of_methodNamed Bd.named
  have hnm := (name_of_methodNamed Bd.named Bd.method).1
  have X0 : Stand p l e ({ frames := 1, cells := 0, slots := 0, locals := 12 } : Room) s m #[(.ref o0_1), (.ref o1_1), (.int x2_1)] below meth c s₁ [] 0 0 := Stand.of_body Bd
  have e0 : s₁.heap = h0 := by rw [← hh, Bd.state]; rfl
  have N0 := Fr.nil n0
  show own_Ends p.tables e below s (Q1 Z o0_1 o1_1 x2_1 u_bytes_o0_1 u_position_o0_1 h0 n0) 0 0 (s₁.setTop (entryFrame m #[(.ref o0_1), (.ref o1_1), (.int x2_1)] 3))
  rw [ef_1 m o0_1 o1_1 x2_1]
  show own_Ends p.tables e below s _ _ _ (s₁.setTop (mkF m 0 #[.val (.ref o0_1), .val (.ref o1_1), .val (.int x2_1)] []))
  refine own_step (fun t k => XS.aloadN X0.here hx rfl (hb hby d1_0) rfl rfl k) ?_
  show own_Ends p.tables e below s _ _ _ (s₁.setTop (mkF m 1 #[.val (.ref o0_1), .val (.ref o1_1), .val (.int x2_1)] [(.ref o0_1)]))
  obtain ⟨T1, X1, e1, st1⟩ := initO X0 hx hZ hown (hw _ (List.mem_of_getElem? (i := 8) rfl)) (hw _ (List.mem_of_getElem? (i := 9) rfl)) (hw _ (List.mem_of_getElem? (i := 10) rfl)) e0 (g := (mkF m 1 #[.val (.ref o0_1), .val (.ref o1_1), .val (.int x2_1)] [(.ref o0_1)])) rfl (by rw [hml]; rfl) rfl (hb hby d1_1) (by decide) (W := 0) (by show 2 * 0 + _ ≤ _; exact Nat.le_of_eq rfl) (by decide)
  refine own_step (fun t k => st1 _ k) ?_
  show own_Ends p.tables e below s _ _ _ (T1.setTop (mkF m 4 #[.val (.ref o0_1), .val (.ref o1_1), .val (.int x2_1)] []))
  refine own_step (fun t k => XS.aloadN X1.here hx rfl (hb hby d1_4) rfl rfl k) ?_
  show own_Ends p.tables e below s _ _ _ (T1.setTop (mkF m 5 #[.val (.ref o0_1), .val (.ref o1_1), .val (.int x2_1)] [(.ref o0_1)]))
  refine own_step (fun t k => XS.aloadN X1.here hx rfl (hb hby d1_5) rfl rfl k) ?_
  show own_Ends p.tables e below s _ _ _ (T1.setTop (mkF m 6 #[.val (.ref o0_1), .val (.ref o1_1), .val (.int x2_1)] [(.ref o1_1), (.ref o0_1)]))
  obtain ⟨T2, h2, X2, e2, W2, st2⟩ := putF X1 hx hZ hown (host := "") (Or.inl (hw _ (List.mem_of_getElem? (i := 11) rfl))) Via.refl e1 F_bytes_o0_1 E_o0_1 (Or.inr ⟨(hw _ (List.mem_of_getElem? (i := 12) rfl)), rfl, hnm⟩) (hw _ (List.mem_of_getElem? (i := 3) rfl)) (ty := (.array .byte)) (by decide) rfl rfl (g := (mkF m 6 #[.val (.ref o0_1), .val (.ref o1_1), .val (.int x2_1)] [(.ref o1_1), (.ref o0_1)])) rfl rfl (hb hby d1_6)
  refine own_step (fun t k => st2 _ k) ?_
  have F3 : Fld Z h2 o0_1 "com/example/proofwright/proofwright/multisig/VarintReader" "bytes" "[B" (.ref o1_1) := F_bytes_o0_1.same W2
  have K4 : Keep h0 h2 [o0_1] := (Keep.refl h0 [o0_1]).wr W2 (Or.inl (List.mem_of_getElem? (i := 0) rfl))
  have N5 := Fr.snoc X2 N0 g_o0_1
  show own_Ends p.tables e below s _ _ _ (T2.setTop (mkF m 9 #[.val (.ref o0_1), .val (.ref o1_1), .val (.int x2_1)] []))
  refine own_step (fun t k => XS.aloadN X2.here hx rfl (hb hby d1_9) rfl rfl k) ?_
  show own_Ends p.tables e below s _ _ _ (T2.setTop (mkF m 10 #[.val (.ref o0_1), .val (.ref o1_1), .val (.int x2_1)] [(.ref o0_1)]))
  refine own_step (fun t k => XS.iloadN X2.here hx rfl (hb hby d1_10) rfl k) ?_
  show own_Ends p.tables e below s _ _ _ (T2.setTop (mkF m 11 #[.val (.ref o0_1), .val (.ref o1_1), .val (.int x2_1)] [(.int x2_1), (.ref o0_1)]))
  have F6 : Exa Z h2 o0_1 "com/example/proofwright/proofwright/multisig/VarintReader" := (E_o0_1.wr W2)
  have F7 : Fld Z h2 o0_1 "com/example/proofwright/proofwright/multisig/VarintReader" "position" "I" u_position_o0_1 := (F_position_o0_1.other W2 (Or.inr (slot_ne (Or.inl (hw _ (List.mem_of_getElem? (i := 14) rfl))) (Or.inr (hw _ (List.mem_of_getElem? (i := 12) rfl))) (by decide) (t := .int) (t' := (.array .byte)) (by decide) (by decide))))
  obtain ⟨T8, h8, X8, e8, W8, st8⟩ := putF X2 hx hZ hown (host := "") (Or.inl (hw _ (List.mem_of_getElem? (i := 13) rfl))) Via.refl e2 F7 F6 (Or.inl (hw _ (List.mem_of_getElem? (i := 14) rfl))) (hw _ (List.mem_of_getElem? (i := 3) rfl)) (ty := .int) (by decide) rfl rfl (g := (mkF m 11 #[.val (.ref o0_1), .val (.ref o1_1), .val (.int x2_1)] [(.int x2_1), (.ref o0_1)])) rfl rfl (hb hby d1_11)
  refine own_step (fun t k => st8 _ k) ?_
  have F9 : Fld Z h8 o0_1 "com/example/proofwright/proofwright/multisig/VarintReader" "position" "I" (.int x2_1) := F7.same W8
  have K10 : Keep h0 h8 [o0_1] := K4.wr W8 (Or.inl (List.mem_of_getElem? (i := 0) rfl))
  have N11 := Fr.snoc X8 N5 g_o0_1
  show own_Ends p.tables e below s _ _ _ (T8.setTop (mkF m 14 #[.val (.ref o0_1), .val (.ref o1_1), .val (.int x2_1)] []))
  have F12 : Exa Z h8 o0_1 "com/example/proofwright/proofwright/multisig/VarintReader" := (F6.wr W8)
  have F13 : Fld Z h8 o0_1 "com/example/proofwright/proofwright/multisig/VarintReader" "bytes" "[B" (.ref o1_1) := (F3.other W8 (Or.inr (slot_ne (Or.inr (hw _ (List.mem_of_getElem? (i := 12) rfl))) (Or.inl (hw _ (List.mem_of_getElem? (i := 14) rfl))) (by decide) (t := (.array .byte)) (t' := .int) (by decide) (by decide))))
  exact own_ret0 X8 hx Bd.returns (hb hby d1_14) hnl (by rw [e8]; exact ⟨rfl, N11, K10, F12, F13, F9⟩) (by decide) (by decide)
theorem d4_0 : decode prog_34_method_8_code 0 = .ok (.aload_n 0, 1) := by decide +kernel
theorem d4_1 : decode prog_34_method_8_code 1 = .ok (.getfield 12, 3) := by decide +kernel
theorem d4_4 : decode prog_34_method_8_code 4 = .ok (.arraylength, 1) := by decide +kernel
theorem d4_5 : decode prog_34_method_8_code 5 = .ok (.aload_n 0, 1) := by decide +kernel
theorem d4_6 : decode prog_34_method_8_code 6 = .ok (.getfield 16, 3) := by decide +kernel
theorem d4_9 : decode prog_34_method_8_code 9 = .ok (.isub, 1) := by decide +kernel
theorem d4_10 : decode prog_34_method_8_code 10 = .ok (.ireturn, 1) := by decide +kernel
theorem ef_4 (m : MethodId) (o0_4 : Addr) : entryFrame m #[(.ref o0_4)] 1 = mkF m 0 #[.val (.ref o0_4)] [] := by first | (simp [entryFrame, mkF, argsToLocals, Value.category]; done) | rfl
def Q4 (Z : State) (o0_4 : Addr) (w_bytes_o0_4 : Addr) (k_w_bytes_o0_4 : ClassId) (n_w_bytes_o0_4 : Int32) (vs_w_bytes_o0_4 : List Value) (dv_w_bytes_o0_4 : Value) (w_position_o0_4 : Int32) (h0 : Heap) (n0 : Nat) (v : Option Value) (h : Heap) (L : List Loc) : Prop := v = some (.int (n_w_bytes_o0_4 - w_position_o0_4)) ∧ Fr n0 L ∧ h = h0
set_option maxRecDepth 65536 in
set_option maxHeartbeats 40000000 in
theorem rm4 (l : Launch) (Z : State) (a0 : Array Value) (hw : ∀ d ∈ tables_1, d.before a0 Z = true) (ws : List Jvm.Cond) (o0_4 : Addr) (w_bytes_o0_4 : Addr) (k_w_bytes_o0_4 : ClassId) (n_w_bytes_o0_4 : Int32) (vs_w_bytes_o0_4 : List Value) (dv_w_bytes_o0_4 : Value) (w_position_o0_4 : Int32) (h0 : Heap) (n0 : Nat) (O0 : Old Z n0 h0) (F_bytes_o0_4 : Fld Z h0 o0_4 "com/example/proofwright/proofwright/multisig/VarintReader" "bytes" "[B" (.ref w_bytes_o0_4)) (V_w_bytes_o0_4 : Arv Z h0 w_bytes_o0_4 k_w_bytes_o0_4 .byte n_w_bytes_o0_4 vs_w_bytes_o0_4 dv_w_bytes_o0_4) (F_position_o0_4 : Fld Z h0 o0_4 "com/example/proofwright/proofwright/multisig/VarintReader" "position" "I" (.int w_position_o0_4)) :
    MetFree l (⟨"com/example/proofwright/proofwright/multisig/VarintReader", "left", "()I"⟩ : MethodName) (head1 (Jvm.Cond.code (⟨"com/example/proofwright/proofwright/multisig/VarintReader", "left", "()I"⟩ : MethodName) prog_34_method_8_code 1 (some .int) :: ws) ({ frames := 0, cells := 0, slots := 0, locals := 0 } : Room)) (fun a U => a = #[(.ref o0_4)] ∧ Z.Warmed39 U.vm ∧ U.heap = h0) (fun _ _ _ _ _ => True) (fun _ U o U' => ∃ v L, o = .returned v ∧ Q4 Z o0_4 w_bytes_o0_4 k_w_bytes_o0_4 n_w_bytes_o0_4 vs_w_bytes_o0_4 dv_w_bytes_o0_4 w_position_o0_4 h0 n0 v U'.heap L ∧ FrameEnd U o U' L ({ frames := 0, cells := 0, slots := 0, locals := 0 } : Room).cells ({ frames := 0, cells := 0, slots := 0, locals := 0 } : Room).slots) := by
  refine MetFree.of_bodySF (plainFor_of_name pn_0) hisR ?_
  intro p e s m args below meth c s₁ Bd hml0 hP hK
  obtain ⟨rfl, hZ, hh⟩ := hP
  have hx := Bd.exec
  have hby := Bd.bytes
  have hnl := BodyLoose.notSynchronized Bd
  have hml : c.maxLocals = 1 := hml0
  have hown : s.vm.findClass "com/example/proofwright/proofwright/multisig/VarintReader" = some m.cls := findClass_of_methodNamed Bd.named
  have hnm := (name_of_methodNamed Bd.named Bd.method).1
  have X0 : Stand p l e ({ frames := 0, cells := 0, slots := 0, locals := 0 } : Room) s m #[(.ref o0_4)] below meth c s₁ [] 0 0 := Stand.of_body Bd
  have e0 : s₁.heap = h0 := by rw [← hh, Bd.state]; rfl
  have N0 := Fr.nil n0
  show own_Ends p.tables e below s (Q4 Z o0_4 w_bytes_o0_4 k_w_bytes_o0_4 n_w_bytes_o0_4 vs_w_bytes_o0_4 dv_w_bytes_o0_4 w_position_o0_4 h0 n0) 0 0 (s₁.setTop (entryFrame m #[(.ref o0_4)] 1))
  rw [ef_4 m o0_4]
  show own_Ends p.tables e below s _ _ _ (s₁.setTop (mkF m 0 #[.val (.ref o0_4)] []))
  refine own_step (fun t k => XS.aloadN X0.here hx rfl (hb hby d4_0) rfl rfl k) ?_
  show own_Ends p.tables e below s _ _ _ (s₁.setTop (mkF m 1 #[.val (.ref o0_4)] [(.ref o0_4)]))
  obtain ⟨T1, X1, e1, st1⟩ := getF X0 hx hZ hown (host := "") (Or.inl (hw _ (List.mem_of_getElem? (i := 11) rfl))) Via.refl e0 F_bytes_o0_4 (g := (mkF m 1 #[.val (.ref o0_4)] [(.ref o0_4)])) rfl rfl (hb hby d4_1)
  refine own_step (fun t k => st1 _ k) ?_
  show own_Ends p.tables e below s _ _ _ (T1.setTop (mkF m 4 #[.val (.ref o0_4)] [(.ref w_bytes_o0_4)]))
  obtain ⟨cl2, Ar2, q2, S2, N2, H2, G2⟩ := V_w_bytes_o0_4
  have hl2 := len_of S2 N2
  refine own_step (fun t k => X1.arraylength hx (by rw [e1]; exact Ar2.1) (State.isArrayOf_alike hZ.alike Ar2.2.1) (g := (mkF m 4 #[.val (.ref o0_4)] [(.ref w_bytes_o0_4)])) rfl rfl (hb hby d4_4) _ (hl2.symm ▸ k)) ?_
  show own_Ends p.tables e below s _ _ _ (T1.setTop (mkF m 5 #[.val (.ref o0_4)] [(.int n_w_bytes_o0_4)]))
  refine own_step (fun t k => XS.aloadN X1.here hx rfl (hb hby d4_5) rfl rfl k) ?_
  show own_Ends p.tables e below s _ _ _ (T1.setTop (mkF m 6 #[.val (.ref o0_4)] [(.ref o0_4), (.int n_w_bytes_o0_4)]))
  obtain ⟨T3, X3, e3, st3⟩ := getF X1 hx hZ hown (host := "") (Or.inl (hw _ (List.mem_of_getElem? (i := 13) rfl))) Via.refl e1 F_position_o0_4 (g := (mkF m 6 #[.val (.ref o0_4)] [(.ref o0_4), (.int n_w_bytes_o0_4)])) rfl rfl (hb hby d4_6)
  refine own_step (fun t k => st3 _ k) ?_
  show own_Ends p.tables e below s _ _ _ (T3.setTop (mkF m 9 #[.val (.ref o0_4)] [(.int w_position_o0_4), (.int n_w_bytes_o0_4)]))
  refine own_step (fun t k => XS.isub X3.here hx rfl (hb hby d4_9) rfl k) ?_
  show own_Ends p.tables e below s _ _ _ (T3.setTop (mkF m 10 #[.val (.ref o0_4)] [(.int (n_w_bytes_o0_4 - w_position_o0_4))]))
  exact own_retI X3 hx Bd.returns (hb hby d4_10) hnl (by rw [e3]; exact ⟨rfl, N0, rfl⟩) (by decide) (by decide)
theorem pd_0 : parseMethodDescriptor "()I" = some ⟨[], some .int⟩ := by decide +kernel
def own_r3 (n_w_bytes_o0_3 : Int32) (w_position_o0_3 : Int32) : Int32 := (if (0 : Int32) < (n_w_bytes_o0_3 - w_position_o0_3) then (1 : Int32) else (0 : Int32))
theorem d3_0 : decode prog_34_method_3_code 0 = .ok (.aload_n 0, 1) := by decide +kernel
theorem d3_1 : decode prog_34_method_3_code 1 = .ok (.invokevirtual 20, 3) := by decide +kernel
theorem d3_4 : decode prog_34_method_3_code 4 = .ok (.ifCond .le 7, 3) := by decide +kernel
theorem d3_7 : decode prog_34_method_3_code 7 = .ok (.iconst 1, 1) := by decide +kernel
theorem d3_8 : decode prog_34_method_3_code 8 = .ok (.goto 4, 3) := by decide +kernel
theorem d3_11 : decode prog_34_method_3_code 11 = .ok (.iconst 0, 1) := by decide +kernel
theorem d3_12 : decode prog_34_method_3_code 12 = .ok (.ireturn, 1) := by decide +kernel
theorem ef_3 (m : MethodId) (o0_3 : Addr) : entryFrame m #[(.ref o0_3)] 1 = mkF m 0 #[.val (.ref o0_3)] [] := by first | (simp [entryFrame, mkF, argsToLocals, Value.category]; done) | rfl
def Q3 (Z : State) (o0_3 : Addr) (w_bytes_o0_3 : Addr) (k_w_bytes_o0_3 : ClassId) (n_w_bytes_o0_3 : Int32) (vs_w_bytes_o0_3 : List Value) (dv_w_bytes_o0_3 : Value) (w_position_o0_3 : Int32) (h0 : Heap) (n0 : Nat) (v : Option Value) (h : Heap) (L : List Loc) : Prop := v = some (.int (own_r3 n_w_bytes_o0_3 w_position_o0_3)) ∧ Fr n0 L ∧ h = h0
set_option maxRecDepth 65536 in
set_option maxHeartbeats 40000000 in
theorem rm3 (l : Launch) (Z : State) (a0 : Array Value) (hw : ∀ d ∈ tables_1, d.before a0 Z = true) (ws : List Jvm.Cond) (o0_3 : Addr) (w_bytes_o0_3 : Addr) (k_w_bytes_o0_3 : ClassId) (n_w_bytes_o0_3 : Int32) (vs_w_bytes_o0_3 : List Value) (dv_w_bytes_o0_3 : Value) (w_position_o0_3 : Int32) (h0 : Heap) (n0 : Nat) (O0 : Old Z n0 h0) (F_bytes_o0_3 : Fld Z h0 o0_3 "com/example/proofwright/proofwright/multisig/VarintReader" "bytes" "[B" (.ref w_bytes_o0_3)) (V_w_bytes_o0_3 : Arv Z h0 w_bytes_o0_3 k_w_bytes_o0_3 .byte n_w_bytes_o0_3 vs_w_bytes_o0_3 dv_w_bytes_o0_3) (F_position_o0_3 : Fld Z h0 o0_3 "com/example/proofwright/proofwright/multisig/VarintReader" "position" "I" (.int w_position_o0_3)) (E_o0_3 : Exa Z h0 o0_3 "com/example/proofwright/proofwright/multisig/VarintReader") :
    MetFree l (⟨"com/example/proofwright/proofwright/multisig/VarintReader", "hasMore", "()Z"⟩ : MethodName) (head1 (Jvm.Cond.code (⟨"com/example/proofwright/proofwright/multisig/VarintReader", "hasMore", "()Z"⟩ : MethodName) prog_34_method_3_code 1 (some .boolean) :: ws) ({ frames := 1, cells := 0, slots := 0, locals := 12 } : Room)) (fun a U => a = #[(.ref o0_3)] ∧ Z.Warmed39 U.vm ∧ U.heap = h0) (fun _ _ _ _ _ => True) (fun _ U o U' => ∃ v L, o = .returned v ∧ Q3 Z o0_3 w_bytes_o0_3 k_w_bytes_o0_3 n_w_bytes_o0_3 vs_w_bytes_o0_3 dv_w_bytes_o0_3 w_position_o0_3 h0 n0 v U'.heap L ∧ FrameEnd U o U' L ({ frames := 1, cells := 0, slots := 0, locals := 12 } : Room).cells ({ frames := 1, cells := 0, slots := 0, locals := 12 } : Room).slots) := by
  refine MetFree.of_bodySF (plainFor_of_name pn_0) hisR ?_
  intro p e s m args below meth c s₁ Bd hml0 hP hK
  obtain ⟨rfl, hZ, hh⟩ := hP
  have hx := Bd.exec
  have hby := Bd.bytes
  have hnl := BodyLoose.notSynchronized Bd
  have hml : c.maxLocals = 1 := hml0
  have hown : s.vm.findClass "com/example/proofwright/proofwright/multisig/VarintReader" = some m.cls := findClass_of_methodNamed Bd.named
  have hnm := (name_of_methodNamed Bd.named Bd.method).1
  have X0 : Stand p l e ({ frames := 1, cells := 0, slots := 0, locals := 12 } : Room) s m #[(.ref o0_3)] below meth c s₁ [] 0 0 := Stand.of_body Bd
  have e0 : s₁.heap = h0 := by rw [← hh, Bd.state]; rfl
  have N0 := Fr.nil n0
  show own_Ends p.tables e below s (Q3 Z o0_3 w_bytes_o0_3 k_w_bytes_o0_3 n_w_bytes_o0_3 vs_w_bytes_o0_3 dv_w_bytes_o0_3 w_position_o0_3 h0 n0) 0 0 (s₁.setTop (entryFrame m #[(.ref o0_3)] 1))
  rw [ef_3 m o0_3]
  show own_Ends p.tables e below s _ _ _ (s₁.setTop (mkF m 0 #[.val (.ref o0_3)] []))
  refine own_step (fun t k => XS.aloadN X0.here hx rfl (hb hby d3_0) rfl rfl k) ?_
  show own_Ends p.tables e below s _ _ _ (s₁.setTop (mkF m 1 #[.val (.ref o0_3)] [(.ref o0_3)]))
  obtain ⟨cq1, kq1, q1a, q1b, q1c⟩ := isOf hZ e0 E_o0_3
  obtain ⟨_, _, ⟨T1, L1, k1, n1⟩, -, X1, ⟨Lc1, hQ1, l1, y1, z1⟩, st1⟩ := X0.virtualBack hx (y := (⟨"com/example/proofwright/proofwright/multisig/VarintReader", "left", "()I"⟩ : MethodName)) (z := (⟨"com/example/proofwright/proofwright/multisig/VarintReader", "left", "()I"⟩ : MethodName)) hown (mvT hZ (hw _ (List.mem_of_getElem? (i := 20) rfl))) (mvT hZ (hw _ (List.mem_of_getElem? (i := 21) rfl))) (notFace_of_selects (args := #[]) (mvT hZ (hw _ (List.mem_of_getElem? (i := 23) rfl)))) (mvT hZ (hw _ (List.mem_of_getElem? (i := 23) rfl))) (mvT hZ (hw _ (List.mem_of_getElem? (i := 22) rfl))) (by decide) (backOf (W := 0) (rm4 l Z a0 hw [] o0_3 w_bytes_o0_3 k_w_bytes_o0_3 n_w_bytes_o0_3 vs_w_bytes_o0_3 dv_w_bytes_o0_3 w_position_o0_3 h0 n0 O0 F_bytes_o0_3 V_w_bytes_o0_3 F_position_o0_3) hZ (hw _ (List.mem_of_getElem? (i := 24) rfl)) (hw _ (List.mem_of_getElem? (i := 4) rfl)) (by decide) (by decide)) q1a q1c (g := (mkF m 1 #[.val (.ref o0_3)] [(.ref o0_3)])) rfl (by rw [hml]; rfl) (Steps.refl _) (argsL := []) (rest := []) (lenOf pd_0 rfl) rfl (by show 2 * 0 + _ ≤ _; exact Nat.le_of_eq rfl) (hb hby d3_1) (fun _ _ => ⟨rfl, e0, (by decide : 0 + 0 ≤ _), (by decide : 0 + 0 ≤ _)⟩)
  dsimp only [Pt.U, Pt.locs, Pt.cells, Pt.slots] at X1 l1 y1 z1 st1 hQ1
  subst l1 y1 z1
  obtain ⟨rfl, N1q, e1⟩ := hQ1
  refine own_step (fun t k => st1.trans k) ?_
  have N2 := Fr.app N0 N1q
  show own_Ends p.tables e below s _ _ _ (T1.setTop (mkF m 4 #[.val (.ref o0_3)] [(.int (n_w_bytes_o0_3 - w_position_o0_3))]))
  by_cases hc4_3 : (0 : Int32) < (n_w_bytes_o0_3 - w_position_o0_3)
  · skip
    refine own_step (fun t k => XS.ifNo X1.here hx rfl (hb hby d3_4) rfl ((if0 _ _).trans (tlt hc4_3).2.2.2) k) ?_
    show own_Ends p.tables e below s _ _ _ (T1.setTop (mkF m 7 #[.val (.ref o0_3)] []))
    refine own_step (fun t k => XS.iconst X1.here hx rfl (hb hby d3_7) k) ?_
    show own_Ends p.tables e below s _ _ _ (T1.setTop (mkF m 8 #[.val (.ref o0_3)] [(.int (1 : Int32))]))
    refine own_step (fun t k => XS.goto X1.here hx rfl (pc0 := 8) (pc' := 12) rfl (hb hby d3_8) (by decide) (by decide) k) ?_
    show own_Ends p.tables e below s _ _ _ (T1.setTop (mkF m 12 #[.val (.ref o0_3)] [(.int (1 : Int32))]))
    exact own_retN X1 hx (t := .boolean) Bd.returns (by simp) (hb hby d3_12) hnl (by rw [e1]; exact ⟨(congrArg (fun z => some (Value.int z)) (Eq.symm (show (own_r3 n_w_bytes_o0_3 w_position_o0_3) = (1 : Int32) from by unfold own_r3; rw [if_pos hc4_3]))), N2, rfl⟩) (by decide) (by decide)
  · skip
    refine own_step (fun t k => XS.ifYes X1.here hx rfl (pc0 := 4) (pc' := 11) rfl (hb hby d3_4) rfl ((if0 _ _).trans (flt hc4_3).2.2.2) (by decide) (by decide) k) ?_
    show own_Ends p.tables e below s _ _ _ (T1.setTop (mkF m 11 #[.val (.ref o0_3)] []))
    refine own_step (fun t k => XS.iconst X1.here hx rfl (hb hby d3_11) k) ?_
    show own_Ends p.tables e below s _ _ _ (T1.setTop (mkF m 12 #[.val (.ref o0_3)] [(.int (0 : Int32))]))
    exact own_retN X1 hx (t := .boolean) Bd.returns (by simp) (hb hby d3_12) hnl (by rw [e1]; exact ⟨(congrArg (fun z => some (Value.int z)) (Eq.symm (show (own_r3 n_w_bytes_o0_3 w_position_o0_3) = (0 : Int32) from by unfold own_r3; rw [if_neg hc4_3]))), N2, rfl⟩) (by decide) (by decide)
theorem d5_0 : decode prog_34_method_7_code 0 = .ok (.aload_n 0, 1) := by decide +kernel
theorem d5_1 : decode prog_34_method_7_code 1 = .ok (.getfield 16, 3) := by decide +kernel
theorem d5_4 : decode prog_34_method_7_code 4 = .ok (.ireturn, 1) := by decide +kernel
theorem ef_5 (m : MethodId) (o0_5 : Addr) : entryFrame m #[(.ref o0_5)] 1 = mkF m 0 #[.val (.ref o0_5)] [] := by first | (simp [entryFrame, mkF, argsToLocals, Value.category]; done) | rfl
def Q5 (Z : State) (o0_5 : Addr) (w_position_o0_5 : Int32) (h0 : Heap) (n0 : Nat) (v : Option Value) (h : Heap) (L : List Loc) : Prop := v = some (.int w_position_o0_5) ∧ Fr n0 L ∧ h = h0
set_option maxRecDepth 65536 in
set_option maxHeartbeats 40000000 in
theorem rm5 (l : Launch) (Z : State) (a0 : Array Value) (hw : ∀ d ∈ tables_1, d.before a0 Z = true) (ws : List Jvm.Cond) (o0_5 : Addr) (w_position_o0_5 : Int32) (h0 : Heap) (n0 : Nat) (O0 : Old Z n0 h0) (F_position_o0_5 : Fld Z h0 o0_5 "com/example/proofwright/proofwright/multisig/VarintReader" "position" "I" (.int w_position_o0_5)) :
    MetFree l (⟨"com/example/proofwright/proofwright/multisig/VarintReader", "position", "()I"⟩ : MethodName) (head1 (Jvm.Cond.code (⟨"com/example/proofwright/proofwright/multisig/VarintReader", "position", "()I"⟩ : MethodName) prog_34_method_7_code 1 (some .int) :: ws) ({ frames := 0, cells := 0, slots := 0, locals := 0 } : Room)) (fun a U => a = #[(.ref o0_5)] ∧ Z.Warmed39 U.vm ∧ U.heap = h0) (fun _ _ _ _ _ => True) (fun _ U o U' => ∃ v L, o = .returned v ∧ Q5 Z o0_5 w_position_o0_5 h0 n0 v U'.heap L ∧ FrameEnd U o U' L ({ frames := 0, cells := 0, slots := 0, locals := 0 } : Room).cells ({ frames := 0, cells := 0, slots := 0, locals := 0 } : Room).slots) := by
  refine MetFree.of_bodySF (plainFor_of_name pn_0) hisR ?_
  intro p e s m args below meth c s₁ Bd hml0 hP hK
  obtain ⟨rfl, hZ, hh⟩ := hP
  have hx := Bd.exec
  have hby := Bd.bytes
  have hnl := BodyLoose.notSynchronized Bd
  have hml : c.maxLocals = 1 := hml0
  have hown : s.vm.findClass "com/example/proofwright/proofwright/multisig/VarintReader" = some m.cls := findClass_of_methodNamed Bd.named
  have hnm := (name_of_methodNamed Bd.named Bd.method).1
  have X0 : Stand p l e ({ frames := 0, cells := 0, slots := 0, locals := 0 } : Room) s m #[(.ref o0_5)] below meth c s₁ [] 0 0 := Stand.of_body Bd
  have e0 : s₁.heap = h0 := by rw [← hh, Bd.state]; rfl
  have N0 := Fr.nil n0
  show own_Ends p.tables e below s (Q5 Z o0_5 w_position_o0_5 h0 n0) 0 0 (s₁.setTop (entryFrame m #[(.ref o0_5)] 1))
  rw [ef_5 m o0_5]
  show own_Ends p.tables e below s _ _ _ (s₁.setTop (mkF m 0 #[.val (.ref o0_5)] []))
  refine own_step (fun t k => XS.aloadN X0.here hx rfl (hb hby d5_0) rfl rfl k) ?_
  show own_Ends p.tables e below s _ _ _ (s₁.setTop (mkF m 1 #[.val (.ref o0_5)] [(.ref o0_5)]))
  obtain ⟨T1, X1, e1, st1⟩ := getF X0 hx hZ hown (host := "") (Or.inl (hw _ (List.mem_of_getElem? (i := 13) rfl))) Via.refl e0 F_position_o0_5 (g := (mkF m 1 #[.val (.ref o0_5)] [(.ref o0_5)])) rfl rfl (hb hby d5_1)
  refine own_step (fun t k => st1 _ k) ?_
  show own_Ends p.tables e below s _ _ _ (T1.setTop (mkF m 4 #[.val (.ref o0_5)] [(.int w_position_o0_5)]))
  exact own_retI X1 hx Bd.returns (hb hby d5_4) hnl (by rw [e1]; exact ⟨rfl, N0, rfl⟩) (by decide) (by decide)
theorem own_m7 (a : Int32) : ¬ (a &&& 7) < 0 ∧ (a &&& 7).toNatClampNeg ≤ 7 ∧ 0 ≤ (a &&& 7).toInt ∧ (a &&& 7).toInt ≤ 7 := by
  have h := c_and a 7 (by decide)
  have h7 : (7 : Int32).toInt = 7 := rfl
  have hn : ¬ (a &&& 7) < 0 := by rw [Int32.lt_iff_toInt_lt]; show ¬ _ < (0 : Int); omega
  have := nat_of hn
  refine ⟨hn, by omega, by omega, by omega⟩
theorem own_pge (b : Int32) : 0 ≤ (b &&& 2147483647).toInt ∧ 0 ≤ ((b &&& 2147483647) % 10).toInt := by
  have h1 := c_and b 2147483647 (by decide)
  have h2 := (c_iremV (b &&& 2147483647) 10).1 h1.1 (by decide)
  omega
theorem own_more (n q : Int32) (h1 : 0 ≤ n.toInt) (h2 : n.toInt ≤ 7) (h3 : 0 ≤ q.toInt) : (0 : Int32) < n - q ↔ q < n := by
  have a := c_isub n q
  have := q.toInt_lt; have := q.le_toInt; have := (n - q).toInt_lt; have := (n - q).le_toInt
  rw [Int32.lt_iff_toInt_lt, Int32.lt_iff_toInt_lt]
  show (0 : Int) < _ ↔ _
  omega

theorem pd_1 : parseMethodDescriptor "([BI)V" = some ⟨[(.array .byte), .int], none⟩ := by decide +kernel
theorem pd_2 : parseMethodDescriptor "()Z" = some ⟨[], some .boolean⟩ := by decide +kernel
theorem pn_1 : plainName "com/example/proofwright/proofwright/multisig/VarintReaderHasMorePinLaw" = true := by first | (simp [plainName, overriddenIn]; done) | decide +kernel
theorem ef_0 (m : MethodId) (x0_0 : Int32) (x1_0 : Int32) (x2_0 : Int32) : entryFrame m #[(.int x0_0), (.int x1_0), (.int x2_0)] maxLocals = mkF m 0 #[.val (.int x0_0), .val (.int x1_0), .val (.int x2_0), .unset, .unset, .unset, .unset, .unset, .unset, .unset, .unset] [] := by first | (simp [entryFrame, mkF, argsToLocals, Value.category, maxLocals]; done) | rfl
def Q0 (Z : State) (x0_0 : Int32) (x1_0 : Int32) (x2_0 : Int32) (h0 : Heap) (n0 : Nat) (v : Option Value) (h : Heap) (L : List Loc) : Prop := v = some (.int 1) ∧ Fr n0 L
set_option maxRecDepth 65536 in
set_option maxHeartbeats 40000000 in
theorem rm0 (l : Launch) (Z : State) (a0 : Array Value) (hw : ∀ d ∈ tables_1, d.before a0 Z = true) (ws : List Jvm.Cond) (x0_0 : Int32) (x1_0 : Int32) (x2_0 : Int32) (h0 : Heap) (n0 : Nat) (O0 : Old Z n0 h0) :
    MetFree l x (head1 (Jvm.Cond.code x code maxLocals ret :: ws) room_1) (fun a U => a = #[(.int x0_0), (.int x1_0), (.int x2_0)] ∧ Z.Warmed39 U.vm ∧ U.heap = h0) (fun _ _ _ _ _ => True) (fun _ U o U' => ∃ v L, o = .returned v ∧ Q0 Z x0_0 x1_0 x2_0 h0 n0 v U'.heap L ∧ FrameEnd U o U' L 2 9) := by
  refine MetFree.of_bodySF (plainFor_of_name pn_1) hisR ?_
  intro p e s m args below meth c s₁ Bd hml0 hP hK
  obtain ⟨rfl, hZ, hh⟩ := hP
  have hx := Bd.exec
  have hby := Bd.bytes
  have hnl := BodyLoose.notSynchronized Bd
  have hml : c.maxLocals = 11 := hml0
  have hown : s.vm.findClass "com/example/proofwright/proofwright/multisig/VarintReaderHasMorePinLaw" = some m.cls := findClass_of_methodNamed Bd.named
  have hnm := (name_of_methodNamed Bd.named Bd.method).1
  have X0 : Stand p l e room_1 s m #[(.int x0_0), (.int x1_0), (.int x2_0)] below meth c s₁ [] 0 0 := Stand.of_body Bd
  have e0 : s₁.heap = h0 := by rw [← hh, Bd.state]; rfl
  have N0 := Fr.nil n0
  show own_Ends p.tables e below s (Q0 Z x0_0 x1_0 x2_0 h0 n0) 2 9 (s₁.setTop (entryFrame m #[(.int x0_0), (.int x1_0), (.int x2_0)] maxLocals))
  rw [ef_0 m x0_0 x1_0 x2_0]
  show own_Ends p.tables e below s _ _ _ (s₁.setTop (mkF m 0 #[.val (.int x0_0), .val (.int x1_0), .val (.int x2_0), .unset, .unset, .unset, .unset, .unset, .unset, .unset, .unset] []))
  refine own_step (fun t k => XS.iloadN X0.here hx rfl (hb hby at_0) rfl k) ?_
  show own_Ends p.tables e below s _ _ _ (s₁.setTop (mkF m 1 #[.val (.int x0_0), .val (.int x1_0), .val (.int x2_0), .unset, .unset, .unset, .unset, .unset, .unset, .unset, .unset] [(.int x0_0)]))
  refine own_step (fun t k => XS.bipush X0.here hx rfl (hb hby at_1) k) ?_
  show own_Ends p.tables e below s _ _ _ (s₁.setTop (mkF m 3 #[.val (.int x0_0), .val (.int x1_0), .val (.int x2_0), .unset, .unset, .unset, .unset, .unset, .unset, .unset, .unset] [(.int (7 : Int32)), (.int x0_0)]))
  refine own_step (fun t k => XS.iand X0.here hx rfl (hb hby at_3) rfl k) ?_
  show own_Ends p.tables e below s _ _ _ (s₁.setTop (mkF m 4 #[.val (.int x0_0), .val (.int x1_0), .val (.int x2_0), .unset, .unset, .unset, .unset, .unset, .unset, .unset, .unset] [(.int (x0_0 &&& (7 : Int32)))]))
  generalize hn7 : (x0_0 &&& (7 : Int32)) = n7
  show own_Ends p.tables e below s _ _ _ (s₁.setTop (mkF m 4 #[.val (.int x0_0), .val (.int x1_0), .val (.int x2_0), .unset, .unset, .unset, .unset, .unset, .unset, .unset, .unset] [(.int n7)]))
  refine own_step (fun t k => XS.istoreN X0.here hx rfl (hb hby at_4) rfl (l' := #[.val (.int x0_0), .val (.int x1_0), .val (.int x2_0), .val (.int n7), .unset, .unset, .unset, .unset, .unset, .unset, .unset]) rfl k) ?_
  show own_Ends p.tables e below s _ _ _ (s₁.setTop (mkF m 5 #[.val (.int x0_0), .val (.int x1_0), .val (.int x2_0), .val (.int n7), .unset, .unset, .unset, .unset, .unset, .unset, .unset] []))
  refine own_step (fun t k => XS.iloadN X0.here hx rfl (hb hby at_5) rfl k) ?_
  show own_Ends p.tables e below s _ _ _ (s₁.setTop (mkF m 6 #[.val (.int x0_0), .val (.int x1_0), .val (.int x2_0), .val (.int n7), .unset, .unset, .unset, .unset, .unset, .unset, .unset] [(.int x1_0)]))
  refine own_step (fun t k => X0.ldcInt hx hown (mvT hZ (hw _ (List.mem_of_getElem? (i := 0) rfl))) (g := (mkF m 6 #[.val (.int x0_0), .val (.int x1_0), .val (.int x2_0), .val (.int n7), .unset, .unset, .unset, .unset, .unset, .unset, .unset] [(.int x1_0)])) rfl (hb hby at_6) _ k) ?_
  show own_Ends p.tables e below s _ _ _ (s₁.setTop (mkF m 8 #[.val (.int x0_0), .val (.int x1_0), .val (.int x2_0), .val (.int n7), .unset, .unset, .unset, .unset, .unset, .unset, .unset] [(.int (2147483647 : Int32)), (.int x1_0)]))
  refine own_step (fun t k => XS.iand X0.here hx rfl (hb hby at_8) rfl k) ?_
  show own_Ends p.tables e below s _ _ _ (s₁.setTop (mkF m 9 #[.val (.int x0_0), .val (.int x1_0), .val (.int x2_0), .val (.int n7), .unset, .unset, .unset, .unset, .unset, .unset, .unset] [(.int (x1_0 &&& (2147483647 : Int32)))]))
  generalize hpp0 : (x1_0 &&& (2147483647 : Int32)) = pp0
  show own_Ends p.tables e below s _ _ _ (s₁.setTop (mkF m 9 #[.val (.int x0_0), .val (.int x1_0), .val (.int x2_0), .val (.int n7), .unset, .unset, .unset, .unset, .unset, .unset, .unset] [(.int pp0)]))
  refine own_step (fun t k => XS.istore X0.here hx rfl (hb hby at_9) rfl (l' := #[.val (.int x0_0), .val (.int x1_0), .val (.int x2_0), .val (.int n7), .val (.int pp0), .unset, .unset, .unset, .unset, .unset, .unset]) rfl k) ?_
  show own_Ends p.tables e below s _ _ _ (s₁.setTop (mkF m 11 #[.val (.int x0_0), .val (.int x1_0), .val (.int x2_0), .val (.int n7), .val (.int pp0), .unset, .unset, .unset, .unset, .unset, .unset] []))
  refine own_step (fun t k => XS.iloadN X0.here hx rfl (hb hby at_11) rfl k) ?_
  show own_Ends p.tables e below s _ _ _ (s₁.setTop (mkF m 12 #[.val (.int x0_0), .val (.int x1_0), .val (.int x2_0), .val (.int n7), .val (.int pp0), .unset, .unset, .unset, .unset, .unset, .unset] [(.int x2_0)]))
  refine own_step (fun t k => XS.iconst X0.here hx rfl (hb hby at_12) k) ?_
  show own_Ends p.tables e below s _ _ _ (s₁.setTop (mkF m 13 #[.val (.int x0_0), .val (.int x1_0), .val (.int x2_0), .val (.int n7), .val (.int pp0), .unset, .unset, .unset, .unset, .unset, .unset] [(.int (1 : Int32)), (.int x2_0)]))
  refine own_step (fun t k => XS.iand X0.here hx rfl (hb hby at_13) rfl k) ?_
  show own_Ends p.tables e below s _ _ _ (s₁.setTop (mkF m 14 #[.val (.int x0_0), .val (.int x1_0), .val (.int x2_0), .val (.int n7), .val (.int pp0), .unset, .unset, .unset, .unset, .unset, .unset] [(.int (x2_0 &&& (1 : Int32)))]))
  by_cases hc14_1 : (x2_0 &&& (1 : Int32)) = (0 : Int32)
  · skip
    refine own_step (fun t k => XS.ifYes X0.here hx rfl (pc0 := 14) (pc' := 22) rfl (hb hby at_14) rfl ((if0 _ _).trans (teq hc14_1).1) (by decide) (by decide) k) ?_
    show own_Ends p.tables e below s _ _ _ (s₁.setTop (mkF m 22 #[.val (.int x0_0), .val (.int x1_0), .val (.int x2_0), .val (.int n7), .val (.int pp0), .unset, .unset, .unset, .unset, .unset, .unset] []))
    refine own_step (fun t k => XS.iload X0.here hx rfl (hb hby at_22) rfl k) ?_
    show own_Ends p.tables e below s _ _ _ (s₁.setTop (mkF m 24 #[.val (.int x0_0), .val (.int x1_0), .val (.int x2_0), .val (.int n7), .val (.int pp0), .unset, .unset, .unset, .unset, .unset, .unset] [(.int pp0)]))
    refine own_step (fun t k => XS.bipush X0.here hx rfl (hb hby at_24) k) ?_
    show own_Ends p.tables e below s _ _ _ (s₁.setTop (mkF m 26 #[.val (.int x0_0), .val (.int x1_0), .val (.int x2_0), .val (.int n7), .val (.int pp0), .unset, .unset, .unset, .unset, .unset, .unset] [(.int (10 : Int32)), (.int pp0)]))
    refine own_step (fun t k => iremM X0 hx rfl (hb hby at_26) rfl (by decide) k) ?_
    show own_Ends p.tables e below s _ _ _ (s₁.setTop (mkF m 27 #[.val (.int x0_0), .val (.int x1_0), .val (.int x2_0), .val (.int n7), .val (.int pp0), .unset, .unset, .unset, .unset, .unset, .unset] [(.int (pp0 % (10 : Int32)))]))
    generalize hpp : (pp0 % (10 : Int32)) = pp
    show own_Ends p.tables e below s _ _ _ (s₁.setTop (mkF m 27 #[.val (.int x0_0), .val (.int x1_0), .val (.int x2_0), .val (.int n7), .val (.int pp0), .unset, .unset, .unset, .unset, .unset, .unset] [(.int pp)]))
    refine own_step (fun t k => XS.istore X0.here hx rfl (hb hby at_27) rfl (l' := #[.val (.int x0_0), .val (.int x1_0), .val (.int x2_0), .val (.int n7), .val (.int pp0), .val (.int pp), .unset, .unset, .unset, .unset, .unset]) rfl k) ?_
    show own_Ends p.tables e below s _ _ _ (s₁.setTop (mkF m 29 #[.val (.int x0_0), .val (.int x1_0), .val (.int x2_0), .val (.int n7), .val (.int pp0), .val (.int pp), .unset, .unset, .unset, .unset, .unset] []))
    refine own_step (fun t k => XS.iloadN X0.here hx rfl (hb hby at_29) rfl k) ?_
    show own_Ends p.tables e below s _ _ _ (s₁.setTop (mkF m 30 #[.val (.int x0_0), .val (.int x1_0), .val (.int x2_0), .val (.int n7), .val (.int pp0), .val (.int pp), .unset, .unset, .unset, .unset, .unset] [(.int n7)]))
    obtain ⟨T2, h2, k2, X2, e2, E2, A2, st2⟩ := newP X0 hx hZ (hw _ (List.mem_of_getElem? (i := 1) rfl)) e0 (g := (mkF m 30 #[.val (.int x0_0), .val (.int x1_0), .val (.int x2_0), .val (.int n7), .val (.int pp0), .val (.int pp), .unset, .unset, .unset, .unset, .unset] [(.int n7)])) rfl (hb hby at_30) rfl (hn7 ▸ (own_m7 _).1) (cap := 7) (hn7 ▸ (own_m7 _).2.1) (by decide) (by decide) (by decide)
    obtain ⟨b2, g2⟩ : ∃ z, z = h0.size := ⟨_, rfl⟩
    rw [← g2] at A2 st2
    have g_b2 : n0 ≤ b2 := Nat.le_trans (Nat.le_trans (Nat.le_of_eq O0.1.symm) O0.2.1) (Nat.le_of_eq g2.symm)
    have sz_b2 : h0.size ≤ b2 := Nat.le_trans (Keep.refl h0 []).1 (Nat.le_of_eq g2.symm)
    have V2 : Arv Z h2 b2 k2 .byte n7 [] (.int (0 : Int32)) := Arv.new A2 (hn7 ▸ (own_m7 _).1)
    refine own_step (fun t k => st2 _ k) ?_
    have K3 : Keep h0 h2 [] := (Keep.refl h0 []).ext E2
    show own_Ends p.tables e below s _ _ _ (T2.setTop (mkF m 32 #[.val (.int x0_0), .val (.int x1_0), .val (.int x2_0), .val (.int n7), .val (.int pp0), .val (.int pp), .unset, .unset, .unset, .unset, .unset] [(.ref b2)]))
    refine own_step (fun t k => XS.astore X2.here hx rfl (hb hby at_32) rfl rfl (l' := #[.val (.int x0_0), .val (.int x1_0), .val (.int x2_0), .val (.int n7), .val (.int pp0), .val (.int pp), .val (.ref b2), .unset, .unset, .unset, .unset]) rfl k) ?_
    show own_Ends p.tables e below s _ _ _ (T2.setTop (mkF m 34 #[.val (.int x0_0), .val (.int x1_0), .val (.int x2_0), .val (.int n7), .val (.int pp0), .val (.int pp), .val (.ref b2), .unset, .unset, .unset, .unset] []))
    have O4 : Old Z n0 h2 := (O0.ext E2)
    obtain ⟨T5, h5, X5, e5, E5, A5, D5, -, st5⟩ := newO X2 hx hZ hown (hw _ (List.mem_of_getElem? (i := 2) rfl)) (hw _ (List.mem_of_getElem? (i := 3) rfl)) (hw _ (List.mem_of_getElem? (i := 4) rfl)) e2 (g := (mkF m 34 #[.val (.int x0_0), .val (.int x1_0), .val (.int x2_0), .val (.int n7), .val (.int pp0), .val (.int pp), .val (.ref b2), .unset, .unset, .unset, .unset] [])) rfl (hb hby at_34) (by decide) (by decide)
    obtain ⟨b5, g5⟩ : ∃ z, z = h2.size := ⟨_, rfl⟩
    rw [← g5] at A5 D5 st5
    have g_b5 : n0 ≤ b5 := Nat.le_trans (Nat.le_trans (Nat.le_of_eq O4.1.symm) O4.2.1) (Nat.le_of_eq g5.symm)
    have sz_b5 : h0.size ≤ b5 := Nat.le_trans K3.1 (Nat.le_of_eq g5.symm)
    have ne_b2_b5 : b2 ≠ b5 := Nat.ne_of_lt (Nat.lt_of_lt_of_le V2.lt (Nat.le_of_eq g5.symm))
    have F5_bytes : Fld Z h5 b5 "com/example/proofwright/proofwright/multisig/VarintReader" "bytes" "[B" .null := D5 (Or.inr (hw _ (List.mem_of_getElem? (i := 12) rfl))) (ty := (.array .byte)) (by decide)
    have F5_position : Fld Z h5 b5 "com/example/proofwright/proofwright/multisig/VarintReader" "position" "I" (.int (0 : Int32)) := D5 (Or.inl (hw _ (List.mem_of_getElem? (i := 14) rfl))) (ty := .int) (by decide)
    refine own_step (fun t k => st5 _ k) ?_
    have K6 : Keep h0 h5 [] := K3.ext E5
    show own_Ends p.tables e below s _ _ _ (T5.setTop (mkF m 37 #[.val (.int x0_0), .val (.int x1_0), .val (.int x2_0), .val (.int n7), .val (.int pp0), .val (.int pp), .val (.ref b2), .unset, .unset, .unset, .unset] [(.ref b5)]))
    refine own_step (fun t k => XS.dup X5.here hx rfl (hb hby at_37) rfl rfl k) ?_
    show own_Ends p.tables e below s _ _ _ (T5.setTop (mkF m 38 #[.val (.int x0_0), .val (.int x1_0), .val (.int x2_0), .val (.int n7), .val (.int pp0), .val (.int pp), .val (.ref b2), .unset, .unset, .unset, .unset] [(.ref b5), (.ref b5)]))
    refine own_step (fun t k => XS.aload X5.here hx rfl (hb hby at_38) rfl rfl k) ?_
    show own_Ends p.tables e below s _ _ _ (T5.setTop (mkF m 40 #[.val (.int x0_0), .val (.int x1_0), .val (.int x2_0), .val (.int n7), .val (.int pp0), .val (.int pp), .val (.ref b2), .unset, .unset, .unset, .unset] [(.ref b2), (.ref b5), (.ref b5)]))
    refine own_step (fun t k => XS.iload X5.here hx rfl (hb hby at_40) rfl k) ?_
    show own_Ends p.tables e below s _ _ _ (T5.setTop (mkF m 42 #[.val (.int x0_0), .val (.int x1_0), .val (.int x2_0), .val (.int n7), .val (.int pp0), .val (.int pp), .val (.ref b2), .unset, .unset, .unset, .unset] [(.int pp), (.ref b2), (.ref b5), (.ref b5)]))
    have O7 : Old Z n0 h5 := (O4.ext E5)
    obtain ⟨_, _, ⟨T8, L8, k8, n8⟩, -, X8, ⟨Lc8, hQ8, l8, y8, z8⟩, st8⟩ := X5.specialBack hx (y := (⟨"com/example/proofwright/proofwright/multisig/VarintReader", "<init>", "([BI)V"⟩ : MethodName)) rfl hown (mvT hZ (hw _ (List.mem_of_getElem? (i := 5) rfl))) (mvT hZ (hw _ (List.mem_of_getElem? (i := 6) rfl))) (mvT hZ (hw _ (List.mem_of_getElem? (i := 7) rfl))) (by decide) (backOf (W := 1) (rm1 l Z a0 hw [] b5 b2 pp .null (.int (0 : Int32)) h5 n0 O7 A5 F5_bytes g_b5 F5_position) hZ (hw _ (List.mem_of_getElem? (i := 7) rfl)) (hw _ (List.mem_of_getElem? (i := 4) rfl)) (by decide) (by decide)) (g := (mkF m 42 #[.val (.int x0_0), .val (.int x1_0), .val (.int x2_0), .val (.int n7), .val (.int pp0), .val (.int pp), .val (.ref b2), .unset, .unset, .unset, .unset] [(.int pp), (.ref b2), (.ref b5), (.ref b5)])) rfl (by rw [hml]; rfl) (Steps.refl _) (a := b5) (argsL := [(.ref b2), (.int pp)]) (rest := [(.ref b5)]) (lenOf pd_1 rfl) rfl (by show 2 * 0 + _ ≤ _; exact Nat.le_of_eq rfl) (hb hby at_42) (fun _ _ => ⟨rfl, e5, (by decide : 2 + 0 ≤ _), (by decide : 9 + 0 ≤ _)⟩)
    dsimp only [Pt.U, Pt.locs, Pt.cells, Pt.slots] at X8 l8 y8 z8 st8 hQ8
    subst l8 y8 z8
    obtain ⟨rfl, N8q, K8q, p8_0, p8_1, p8_2⟩ := hQ8
    refine own_step (fun t k => st8.trans k) ?_
    have N9 := Fr.app N0 N8q
    have K10 : Keep h0 T8.heap [] := K6.trans K8q (allS (Or.inr sz_b5) all0)
    show own_Ends p.tables e below s _ _ _ (T8.setTop (mkF m 45 #[.val (.int x0_0), .val (.int x1_0), .val (.int x2_0), .val (.int n7), .val (.int pp0), .val (.int pp), .val (.ref b2), .unset, .unset, .unset, .unset] [(.ref b5)]))
    refine own_step (fun t k => XS.astore X8.here hx rfl (hb hby at_45) rfl rfl (l' := #[.val (.int x0_0), .val (.int x1_0), .val (.int x2_0), .val (.int n7), .val (.int pp0), .val (.int pp), .val (.ref b2), .val (.ref b5), .unset, .unset, .unset]) rfl k) ?_
    show own_Ends p.tables e below s _ _ _ (T8.setTop (mkF m 47 #[.val (.int x0_0), .val (.int x1_0), .val (.int x2_0), .val (.int n7), .val (.int pp0), .val (.int pp), .val (.ref b2), .val (.ref b5), .unset, .unset, .unset] []))
    refine own_step (fun t k => XS.aload X8.here hx rfl (hb hby at_47) rfl rfl k) ?_
    show own_Ends p.tables e below s _ _ _ (T8.setTop (mkF m 49 #[.val (.int x0_0), .val (.int x1_0), .val (.int x2_0), .val (.int n7), .val (.int pp0), .val (.int pp), .val (.ref b2), .val (.ref b5), .unset, .unset, .unset] [(.ref b5)]))
    have F11 : Arv Z T8.heap b2 k2 .byte n7 [] (.int (0 : Int32)) := ((V2.ext E5).keep K8q (ninS ne_b2_b5 nin0))
    have O12 : Old Z n0 T8.heap := (O7.keep K8q (allS g_b5 all0))
    obtain ⟨cq13, kq13, q13a, q13b, q13c⟩ := isOf hZ rfl p8_0
    obtain ⟨_, _, ⟨T13, L13, k13, n13⟩, -, X13, ⟨Lc13, hQ13, l13, y13, z13⟩, st13⟩ := X8.virtualBack hx (y := (⟨"com/example/proofwright/proofwright/multisig/VarintReader", "hasMore", "()Z"⟩ : MethodName)) (z := (⟨"com/example/proofwright/proofwright/multisig/VarintReader", "hasMore", "()Z"⟩ : MethodName)) hown (mvT hZ (hw _ (List.mem_of_getElem? (i := 15) rfl))) (mvT hZ (hw _ (List.mem_of_getElem? (i := 16) rfl))) (notFace_of_selects (args := #[]) (mvT hZ (hw _ (List.mem_of_getElem? (i := 18) rfl)))) (mvT hZ (hw _ (List.mem_of_getElem? (i := 18) rfl))) (mvT hZ (hw _ (List.mem_of_getElem? (i := 17) rfl))) (by decide) (backOf (W := 0) (rm3 l Z a0 hw [] b5 b2 k2 n7 [] (.int (0 : Int32)) pp T8.heap n0 O12 p8_1 F11 p8_2 p8_0) hZ (hw _ (List.mem_of_getElem? (i := 19) rfl)) (hw _ (List.mem_of_getElem? (i := 4) rfl)) (by decide) (by decide)) q13a q13c (g := (mkF m 49 #[.val (.int x0_0), .val (.int x1_0), .val (.int x2_0), .val (.int n7), .val (.int pp0), .val (.int pp), .val (.ref b2), .val (.ref b5), .unset, .unset, .unset] [(.ref b5)])) rfl (by rw [hml]; rfl) (Steps.refl _) (argsL := []) (rest := []) (lenOf pd_2 rfl) rfl (by show 2 * 0 + _ ≤ _; exact Nat.le_of_eq rfl) (hb hby at_49) (fun _ _ => ⟨rfl, rfl, (by decide : 2 + 0 ≤ _), (by decide : 9 + 0 ≤ _)⟩)
    dsimp only [Pt.U, Pt.locs, Pt.cells, Pt.slots] at X13 l13 y13 z13 st13 hQ13
    subst l13 y13 z13
    obtain ⟨rfl, N13q, e13⟩ := hQ13
    refine own_step (fun t k => st13.trans k) ?_
    have N14 := Fr.app N9 N13q
    show own_Ends p.tables e below s _ _ _ (T13.setTop (mkF m 52 #[.val (.int x0_0), .val (.int x1_0), .val (.int x2_0), .val (.int n7), .val (.int pp0), .val (.int pp), .val (.ref b2), .val (.ref b5), .unset, .unset, .unset] [(.int (own_r3 n7 pp))]))
    refine own_step (fun t k => XS.istore X13.here hx rfl (hb hby at_52) rfl (l' := #[.val (.int x0_0), .val (.int x1_0), .val (.int x2_0), .val (.int n7), .val (.int pp0), .val (.int pp), .val (.ref b2), .val (.ref b5), .val (.int (own_r3 n7 pp)), .unset, .unset]) rfl k) ?_
    show own_Ends p.tables e below s _ _ _ (T13.setTop (mkF m 54 #[.val (.int x0_0), .val (.int x1_0), .val (.int x2_0), .val (.int n7), .val (.int pp0), .val (.int pp), .val (.ref b2), .val (.ref b5), .val (.int (own_r3 n7 pp)), .unset, .unset] []))
    refine own_step (fun t k => XS.aload X13.here hx rfl (hb hby at_54) rfl rfl k) ?_
    show own_Ends p.tables e below s _ _ _ (T13.setTop (mkF m 56 #[.val (.int x0_0), .val (.int x1_0), .val (.int x2_0), .val (.int n7), .val (.int pp0), .val (.int pp), .val (.ref b2), .val (.ref b5), .val (.int (own_r3 n7 pp)), .unset, .unset] [(.ref b5)]))
    obtain ⟨cq15, kq15, q15a, q15b, q15c⟩ := isOf hZ e13 p8_0
    obtain ⟨_, _, ⟨T15, L15, k15, n15⟩, -, X15, ⟨Lc15, hQ15, l15, y15, z15⟩, st15⟩ := X13.virtualBack hx (y := (⟨"com/example/proofwright/proofwright/multisig/VarintReader", "hasMore", "()Z"⟩ : MethodName)) (z := (⟨"com/example/proofwright/proofwright/multisig/VarintReader", "hasMore", "()Z"⟩ : MethodName)) hown (mvT hZ (hw _ (List.mem_of_getElem? (i := 15) rfl))) (mvT hZ (hw _ (List.mem_of_getElem? (i := 16) rfl))) (notFace_of_selects (args := #[]) (mvT hZ (hw _ (List.mem_of_getElem? (i := 18) rfl)))) (mvT hZ (hw _ (List.mem_of_getElem? (i := 18) rfl))) (mvT hZ (hw _ (List.mem_of_getElem? (i := 17) rfl))) (by decide) (backOf (W := 0) (rm3 l Z a0 hw [] b5 b2 k2 n7 [] (.int (0 : Int32)) pp T8.heap n0 O12 p8_1 F11 p8_2 p8_0) hZ (hw _ (List.mem_of_getElem? (i := 19) rfl)) (hw _ (List.mem_of_getElem? (i := 4) rfl)) (by decide) (by decide)) q15a q15c (g := (mkF m 56 #[.val (.int x0_0), .val (.int x1_0), .val (.int x2_0), .val (.int n7), .val (.int pp0), .val (.int pp), .val (.ref b2), .val (.ref b5), .val (.int (own_r3 n7 pp)), .unset, .unset] [(.ref b5)])) rfl (by rw [hml]; rfl) (Steps.refl _) (argsL := []) (rest := []) (lenOf pd_2 rfl) rfl (by show 2 * 0 + _ ≤ _; exact Nat.le_of_eq rfl) (hb hby at_56) (fun _ _ => ⟨rfl, e13, (by decide : 2 + 0 ≤ _), (by decide : 9 + 0 ≤ _)⟩)
    dsimp only [Pt.U, Pt.locs, Pt.cells, Pt.slots] at X15 l15 y15 z15 st15 hQ15
    subst l15 y15 z15
    obtain ⟨rfl, N15q, e15⟩ := hQ15
    refine own_step (fun t k => st15.trans k) ?_
    have N16 := Fr.app N14 N15q
    show own_Ends p.tables e below s _ _ _ (T15.setTop (mkF m 59 #[.val (.int x0_0), .val (.int x1_0), .val (.int x2_0), .val (.int n7), .val (.int pp0), .val (.int pp), .val (.ref b2), .val (.ref b5), .val (.int (own_r3 n7 pp)), .unset, .unset] [(.int (own_r3 n7 pp))]))
    refine own_step (fun t k => XS.istore X15.here hx rfl (hb hby at_59) rfl (l' := #[.val (.int x0_0), .val (.int x1_0), .val (.int x2_0), .val (.int n7), .val (.int pp0), .val (.int pp), .val (.ref b2), .val (.ref b5), .val (.int (own_r3 n7 pp)), .val (.int (own_r3 n7 pp)), .unset]) rfl k) ?_
    show own_Ends p.tables e below s _ _ _ (T15.setTop (mkF m 61 #[.val (.int x0_0), .val (.int x1_0), .val (.int x2_0), .val (.int n7), .val (.int pp0), .val (.int pp), .val (.ref b2), .val (.ref b5), .val (.int (own_r3 n7 pp)), .val (.int (own_r3 n7 pp)), .unset] []))
    refine own_step (fun t k => XS.aload X15.here hx rfl (hb hby at_61) rfl rfl k) ?_
    show own_Ends p.tables e below s _ _ _ (T15.setTop (mkF m 63 #[.val (.int x0_0), .val (.int x1_0), .val (.int x2_0), .val (.int n7), .val (.int pp0), .val (.int pp), .val (.ref b2), .val (.ref b5), .val (.int (own_r3 n7 pp)), .val (.int (own_r3 n7 pp)), .unset] [(.ref b5)]))
    obtain ⟨cq17, kq17, q17a, q17b, q17c⟩ := isOf hZ e15 p8_0
    obtain ⟨_, _, ⟨T17, L17, k17, n17⟩, -, X17, ⟨Lc17, hQ17, l17, y17, z17⟩, st17⟩ := X15.virtualBack hx (y := (⟨"com/example/proofwright/proofwright/multisig/VarintReader", "position", "()I"⟩ : MethodName)) (z := (⟨"com/example/proofwright/proofwright/multisig/VarintReader", "position", "()I"⟩ : MethodName)) hown (mvT hZ (hw _ (List.mem_of_getElem? (i := 25) rfl))) (mvT hZ (hw _ (List.mem_of_getElem? (i := 26) rfl))) (notFace_of_selects (args := #[]) (mvT hZ (hw _ (List.mem_of_getElem? (i := 28) rfl)))) (mvT hZ (hw _ (List.mem_of_getElem? (i := 28) rfl))) (mvT hZ (hw _ (List.mem_of_getElem? (i := 27) rfl))) (by decide) (backOf (W := 0) (rm5 l Z a0 hw [] b5 pp T8.heap n0 O12 p8_2) hZ (hw _ (List.mem_of_getElem? (i := 29) rfl)) (hw _ (List.mem_of_getElem? (i := 4) rfl)) (by decide) (by decide)) q17a q17c (g := (mkF m 63 #[.val (.int x0_0), .val (.int x1_0), .val (.int x2_0), .val (.int n7), .val (.int pp0), .val (.int pp), .val (.ref b2), .val (.ref b5), .val (.int (own_r3 n7 pp)), .val (.int (own_r3 n7 pp)), .unset] [(.ref b5)])) rfl (by rw [hml]; rfl) (Steps.refl _) (argsL := []) (rest := []) (lenOf pd_0 rfl) rfl (by show 2 * 0 + _ ≤ _; exact Nat.le_of_eq rfl) (hb hby at_63) (fun _ _ => ⟨rfl, e15, (by decide : 2 + 0 ≤ _), (by decide : 9 + 0 ≤ _)⟩)
    dsimp only [Pt.U, Pt.locs, Pt.cells, Pt.slots] at X17 l17 y17 z17 st17 hQ17
    subst l17 y17 z17
    obtain ⟨rfl, N17q, e17⟩ := hQ17
    refine own_step (fun t k => st17.trans k) ?_
    have N18 := Fr.app N16 N17q
    show own_Ends p.tables e below s _ _ _ (T17.setTop (mkF m 66 #[.val (.int x0_0), .val (.int x1_0), .val (.int x2_0), .val (.int n7), .val (.int pp0), .val (.int pp), .val (.ref b2), .val (.ref b5), .val (.int (own_r3 n7 pp)), .val (.int (own_r3 n7 pp)), .unset] [(.int pp)]))
    refine own_step (fun t k => XS.istore X17.here hx rfl (hb hby at_66) rfl (l' := #[.val (.int x0_0), .val (.int x1_0), .val (.int x2_0), .val (.int n7), .val (.int pp0), .val (.int pp), .val (.ref b2), .val (.ref b5), .val (.int (own_r3 n7 pp)), .val (.int (own_r3 n7 pp)), .val (.int pp)]) rfl k) ?_
    show own_Ends p.tables e below s _ _ _ (T17.setTop (mkF m 68 #[.val (.int x0_0), .val (.int x1_0), .val (.int x2_0), .val (.int n7), .val (.int pp0), .val (.int pp), .val (.ref b2), .val (.ref b5), .val (.int (own_r3 n7 pp)), .val (.int (own_r3 n7 pp)), .val (.int pp)] []))
    refine own_step (fun t k => XS.iload X17.here hx rfl (hb hby at_68) rfl k) ?_
    show own_Ends p.tables e below s _ _ _ (T17.setTop (mkF m 70 #[.val (.int x0_0), .val (.int x1_0), .val (.int x2_0), .val (.int n7), .val (.int pp0), .val (.int pp), .val (.ref b2), .val (.ref b5), .val (.int (own_r3 n7 pp)), .val (.int (own_r3 n7 pp)), .val (.int pp)] [(.int (own_r3 n7 pp))]))
    refine own_step (fun t k => XS.iload X17.here hx rfl (hb hby at_70) rfl k) ?_
    show own_Ends p.tables e below s _ _ _ (T17.setTop (mkF m 72 #[.val (.int x0_0), .val (.int x1_0), .val (.int x2_0), .val (.int n7), .val (.int pp0), .val (.int pp), .val (.ref b2), .val (.ref b5), .val (.int (own_r3 n7 pp)), .val (.int (own_r3 n7 pp)), .val (.int pp)] [(.int pp), (.int (own_r3 n7 pp))]))
    refine own_step (fun t k => XS.iloadN X17.here hx rfl (hb hby at_72) rfl k) ?_
    show own_Ends p.tables e below s _ _ _ (T17.setTop (mkF m 73 #[.val (.int x0_0), .val (.int x1_0), .val (.int x2_0), .val (.int n7), .val (.int pp0), .val (.int pp), .val (.ref b2), .val (.ref b5), .val (.int (own_r3 n7 pp)), .val (.int (own_r3 n7 pp)), .val (.int pp)] [(.int n7), (.int pp), (.int (own_r3 n7 pp))]))
    by_cases hc73_19 : pp < n7
    · skip
      refine own_step (fun t k => XS.icmpNo X17.here hx rfl (hb hby at_73) rfl (tlt hc73_19).2.1 k) ?_
      show own_Ends p.tables e below s _ _ _ (T17.setTop (mkF m 76 #[.val (.int x0_0), .val (.int x1_0), .val (.int x2_0), .val (.int n7), .val (.int pp0), .val (.int pp), .val (.ref b2), .val (.ref b5), .val (.int (own_r3 n7 pp)), .val (.int (own_r3 n7 pp)), .val (.int pp)] [(.int (own_r3 n7 pp))]))
      refine own_step (fun t k => XS.iconst X17.here hx rfl (hb hby at_76) k) ?_
      show own_Ends p.tables e below s _ _ _ (T17.setTop (mkF m 77 #[.val (.int x0_0), .val (.int x1_0), .val (.int x2_0), .val (.int n7), .val (.int pp0), .val (.int pp), .val (.ref b2), .val (.ref b5), .val (.int (own_r3 n7 pp)), .val (.int (own_r3 n7 pp)), .val (.int pp)] [(.int (1 : Int32)), (.int (own_r3 n7 pp))]))
      refine own_step (fun t k => XS.goto X17.here hx rfl (pc0 := 77) (pc' := 81) rfl (hb hby at_77) (by decide) (by decide) k) ?_
      show own_Ends p.tables e below s _ _ _ (T17.setTop (mkF m 81 #[.val (.int x0_0), .val (.int x1_0), .val (.int x2_0), .val (.int n7), .val (.int pp0), .val (.int pp), .val (.ref b2), .val (.ref b5), .val (.int (own_r3 n7 pp)), .val (.int (own_r3 n7 pp)), .val (.int pp)] [(.int (1 : Int32)), (.int (own_r3 n7 pp))]))
      by_cases hc81_20 : (own_r3 n7 pp) = (1 : Int32)
      · skip
        refine own_step (fun t k => XS.icmpNo X17.here hx rfl (hb hby at_81) rfl (teq hc81_20).2 k) ?_
        show own_Ends p.tables e below s _ _ _ (T17.setTop (mkF m 84 #[.val (.int x0_0), .val (.int x1_0), .val (.int x2_0), .val (.int n7), .val (.int pp0), .val (.int pp), .val (.ref b2), .val (.ref b5), .val (.int (own_r3 n7 pp)), .val (.int (own_r3 n7 pp)), .val (.int pp)] []))
        refine own_step (fun t k => XS.iload X17.here hx rfl (hb hby at_84) rfl k) ?_
        show own_Ends p.tables e below s _ _ _ (T17.setTop (mkF m 86 #[.val (.int x0_0), .val (.int x1_0), .val (.int x2_0), .val (.int n7), .val (.int pp0), .val (.int pp), .val (.ref b2), .val (.ref b5), .val (.int (own_r3 n7 pp)), .val (.int (own_r3 n7 pp)), .val (.int pp)] [(.int (own_r3 n7 pp))]))
        refine own_step (fun t k => XS.iload X17.here hx rfl (hb hby at_86) rfl k) ?_
        show own_Ends p.tables e below s _ _ _ (T17.setTop (mkF m 88 #[.val (.int x0_0), .val (.int x1_0), .val (.int x2_0), .val (.int n7), .val (.int pp0), .val (.int pp), .val (.ref b2), .val (.ref b5), .val (.int (own_r3 n7 pp)), .val (.int (own_r3 n7 pp)), .val (.int pp)] [(.int (own_r3 n7 pp)), (.int (own_r3 n7 pp))]))
        refine own_step (fun t k => XS.icmpNo X17.here hx rfl (hb hby at_88) rfl (teq (rfl : (own_r3 n7 pp) = (own_r3 n7 pp))).2 k) ?_
        show own_Ends p.tables e below s _ _ _ (T17.setTop (mkF m 91 #[.val (.int x0_0), .val (.int x1_0), .val (.int x2_0), .val (.int n7), .val (.int pp0), .val (.int pp), .val (.ref b2), .val (.ref b5), .val (.int (own_r3 n7 pp)), .val (.int (own_r3 n7 pp)), .val (.int pp)] []))
        refine own_step (fun t k => XS.iload X17.here hx rfl (hb hby at_91) rfl k) ?_
        show own_Ends p.tables e below s _ _ _ (T17.setTop (mkF m 93 #[.val (.int x0_0), .val (.int x1_0), .val (.int x2_0), .val (.int n7), .val (.int pp0), .val (.int pp), .val (.ref b2), .val (.ref b5), .val (.int (own_r3 n7 pp)), .val (.int (own_r3 n7 pp)), .val (.int pp)] [(.int pp)]))
        refine own_step (fun t k => XS.iload X17.here hx rfl (hb hby at_93) rfl k) ?_
        show own_Ends p.tables e below s _ _ _ (T17.setTop (mkF m 95 #[.val (.int x0_0), .val (.int x1_0), .val (.int x2_0), .val (.int n7), .val (.int pp0), .val (.int pp), .val (.ref b2), .val (.ref b5), .val (.int (own_r3 n7 pp)), .val (.int (own_r3 n7 pp)), .val (.int pp)] [(.int pp), (.int pp)]))
        refine own_step (fun t k => XS.icmpNo X17.here hx rfl (hb hby at_95) rfl (teq (rfl : pp = pp)).2 k) ?_
        show own_Ends p.tables e below s _ _ _ (T17.setTop (mkF m 98 #[.val (.int x0_0), .val (.int x1_0), .val (.int x2_0), .val (.int n7), .val (.int pp0), .val (.int pp), .val (.ref b2), .val (.ref b5), .val (.int (own_r3 n7 pp)), .val (.int (own_r3 n7 pp)), .val (.int pp)] []))
        refine own_step (fun t k => XS.iconst X17.here hx rfl (hb hby at_98) k) ?_
        show own_Ends p.tables e below s _ _ _ (T17.setTop (mkF m 99 #[.val (.int x0_0), .val (.int x1_0), .val (.int x2_0), .val (.int n7), .val (.int pp0), .val (.int pp), .val (.ref b2), .val (.ref b5), .val (.int (own_r3 n7 pp)), .val (.int (own_r3 n7 pp)), .val (.int pp)] [(.int (1 : Int32))]))
        refine own_step (fun t k => XS.goto X17.here hx rfl (pc0 := 99) (pc' := 103) rfl (hb hby at_99) (by decide) (by decide) k) ?_
        show own_Ends p.tables e below s _ _ _ (T17.setTop (mkF m 103 #[.val (.int x0_0), .val (.int x1_0), .val (.int x2_0), .val (.int n7), .val (.int pp0), .val (.int pp), .val (.ref b2), .val (.ref b5), .val (.int (own_r3 n7 pp)), .val (.int (own_r3 n7 pp)), .val (.int pp)] [(.int (1 : Int32))]))
        exact own_retN X17 hx (t := .boolean) Bd.returns (by simp) (hb hby at_103) hnl (by rw [e17]; exact ⟨rfl, N18⟩) (by decide) (by decide)
      · skip
        refine own_step (fun t k => XS.icmpYes X17.here hx rfl (pc0 := 81) (pc' := 102) rfl (hb hby at_81) rfl (feq hc81_20).2 (by decide) (by decide) k) ?_
        show own_Ends p.tables e below s _ _ _ (T17.setTop (mkF m 102 #[.val (.int x0_0), .val (.int x1_0), .val (.int x2_0), .val (.int n7), .val (.int pp0), .val (.int pp), .val (.ref b2), .val (.ref b5), .val (.int (own_r3 n7 pp)), .val (.int (own_r3 n7 pp)), .val (.int pp)] []))
        refine own_step (fun t k => XS.iconst X17.here hx rfl (hb hby at_102) k) ?_
        show own_Ends p.tables e below s _ _ _ (T17.setTop (mkF m 103 #[.val (.int x0_0), .val (.int x1_0), .val (.int x2_0), .val (.int n7), .val (.int pp0), .val (.int pp), .val (.ref b2), .val (.ref b5), .val (.int (own_r3 n7 pp)), .val (.int (own_r3 n7 pp)), .val (.int pp)] [(.int (0 : Int32))]))
        exfalso
        have hm := own_more n7 pp (hn7 ▸ (own_m7 _).2.2.1) (hn7 ▸ (own_m7 _).2.2.2) (by subst hpp; subst hpp0; exact (own_pge _).2)
        apply hc81_20
        unfold own_r3
        rw [if_pos (hm.mpr hc73_19)]
    · skip
      refine own_step (fun t k => XS.icmpYes X17.here hx rfl (pc0 := 73) (pc' := 80) rfl (hb hby at_73) rfl (flt hc73_19).2.1 (by decide) (by decide) k) ?_
      show own_Ends p.tables e below s _ _ _ (T17.setTop (mkF m 80 #[.val (.int x0_0), .val (.int x1_0), .val (.int x2_0), .val (.int n7), .val (.int pp0), .val (.int pp), .val (.ref b2), .val (.ref b5), .val (.int (own_r3 n7 pp)), .val (.int (own_r3 n7 pp)), .val (.int pp)] [(.int (own_r3 n7 pp))]))
      refine own_step (fun t k => XS.iconst X17.here hx rfl (hb hby at_80) k) ?_
      show own_Ends p.tables e below s _ _ _ (T17.setTop (mkF m 81 #[.val (.int x0_0), .val (.int x1_0), .val (.int x2_0), .val (.int n7), .val (.int pp0), .val (.int pp), .val (.ref b2), .val (.ref b5), .val (.int (own_r3 n7 pp)), .val (.int (own_r3 n7 pp)), .val (.int pp)] [(.int (0 : Int32)), (.int (own_r3 n7 pp))]))
      by_cases hc81_21 : (own_r3 n7 pp) = (0 : Int32)
      · skip
        refine own_step (fun t k => XS.icmpNo X17.here hx rfl (hb hby at_81) rfl (teq hc81_21).2 k) ?_
        show own_Ends p.tables e below s _ _ _ (T17.setTop (mkF m 84 #[.val (.int x0_0), .val (.int x1_0), .val (.int x2_0), .val (.int n7), .val (.int pp0), .val (.int pp), .val (.ref b2), .val (.ref b5), .val (.int (own_r3 n7 pp)), .val (.int (own_r3 n7 pp)), .val (.int pp)] []))
        refine own_step (fun t k => XS.iload X17.here hx rfl (hb hby at_84) rfl k) ?_
        show own_Ends p.tables e below s _ _ _ (T17.setTop (mkF m 86 #[.val (.int x0_0), .val (.int x1_0), .val (.int x2_0), .val (.int n7), .val (.int pp0), .val (.int pp), .val (.ref b2), .val (.ref b5), .val (.int (own_r3 n7 pp)), .val (.int (own_r3 n7 pp)), .val (.int pp)] [(.int (own_r3 n7 pp))]))
        refine own_step (fun t k => XS.iload X17.here hx rfl (hb hby at_86) rfl k) ?_
        show own_Ends p.tables e below s _ _ _ (T17.setTop (mkF m 88 #[.val (.int x0_0), .val (.int x1_0), .val (.int x2_0), .val (.int n7), .val (.int pp0), .val (.int pp), .val (.ref b2), .val (.ref b5), .val (.int (own_r3 n7 pp)), .val (.int (own_r3 n7 pp)), .val (.int pp)] [(.int (own_r3 n7 pp)), (.int (own_r3 n7 pp))]))
        refine own_step (fun t k => XS.icmpNo X17.here hx rfl (hb hby at_88) rfl (teq (rfl : (own_r3 n7 pp) = (own_r3 n7 pp))).2 k) ?_
        show own_Ends p.tables e below s _ _ _ (T17.setTop (mkF m 91 #[.val (.int x0_0), .val (.int x1_0), .val (.int x2_0), .val (.int n7), .val (.int pp0), .val (.int pp), .val (.ref b2), .val (.ref b5), .val (.int (own_r3 n7 pp)), .val (.int (own_r3 n7 pp)), .val (.int pp)] []))
        refine own_step (fun t k => XS.iload X17.here hx rfl (hb hby at_91) rfl k) ?_
        show own_Ends p.tables e below s _ _ _ (T17.setTop (mkF m 93 #[.val (.int x0_0), .val (.int x1_0), .val (.int x2_0), .val (.int n7), .val (.int pp0), .val (.int pp), .val (.ref b2), .val (.ref b5), .val (.int (own_r3 n7 pp)), .val (.int (own_r3 n7 pp)), .val (.int pp)] [(.int pp)]))
        refine own_step (fun t k => XS.iload X17.here hx rfl (hb hby at_93) rfl k) ?_
        show own_Ends p.tables e below s _ _ _ (T17.setTop (mkF m 95 #[.val (.int x0_0), .val (.int x1_0), .val (.int x2_0), .val (.int n7), .val (.int pp0), .val (.int pp), .val (.ref b2), .val (.ref b5), .val (.int (own_r3 n7 pp)), .val (.int (own_r3 n7 pp)), .val (.int pp)] [(.int pp), (.int pp)]))
        refine own_step (fun t k => XS.icmpNo X17.here hx rfl (hb hby at_95) rfl (teq (rfl : pp = pp)).2 k) ?_
        show own_Ends p.tables e below s _ _ _ (T17.setTop (mkF m 98 #[.val (.int x0_0), .val (.int x1_0), .val (.int x2_0), .val (.int n7), .val (.int pp0), .val (.int pp), .val (.ref b2), .val (.ref b5), .val (.int (own_r3 n7 pp)), .val (.int (own_r3 n7 pp)), .val (.int pp)] []))
        refine own_step (fun t k => XS.iconst X17.here hx rfl (hb hby at_98) k) ?_
        show own_Ends p.tables e below s _ _ _ (T17.setTop (mkF m 99 #[.val (.int x0_0), .val (.int x1_0), .val (.int x2_0), .val (.int n7), .val (.int pp0), .val (.int pp), .val (.ref b2), .val (.ref b5), .val (.int (own_r3 n7 pp)), .val (.int (own_r3 n7 pp)), .val (.int pp)] [(.int (1 : Int32))]))
        refine own_step (fun t k => XS.goto X17.here hx rfl (pc0 := 99) (pc' := 103) rfl (hb hby at_99) (by decide) (by decide) k) ?_
        show own_Ends p.tables e below s _ _ _ (T17.setTop (mkF m 103 #[.val (.int x0_0), .val (.int x1_0), .val (.int x2_0), .val (.int n7), .val (.int pp0), .val (.int pp), .val (.ref b2), .val (.ref b5), .val (.int (own_r3 n7 pp)), .val (.int (own_r3 n7 pp)), .val (.int pp)] [(.int (1 : Int32))]))
        exact own_retN X17 hx (t := .boolean) Bd.returns (by simp) (hb hby at_103) hnl (by rw [e17]; exact ⟨rfl, N18⟩) (by decide) (by decide)
      · skip
        refine own_step (fun t k => XS.icmpYes X17.here hx rfl (pc0 := 81) (pc' := 102) rfl (hb hby at_81) rfl (feq hc81_21).2 (by decide) (by decide) k) ?_
        show own_Ends p.tables e below s _ _ _ (T17.setTop (mkF m 102 #[.val (.int x0_0), .val (.int x1_0), .val (.int x2_0), .val (.int n7), .val (.int pp0), .val (.int pp), .val (.ref b2), .val (.ref b5), .val (.int (own_r3 n7 pp)), .val (.int (own_r3 n7 pp)), .val (.int pp)] []))
        refine own_step (fun t k => XS.iconst X17.here hx rfl (hb hby at_102) k) ?_
        show own_Ends p.tables e below s _ _ _ (T17.setTop (mkF m 103 #[.val (.int x0_0), .val (.int x1_0), .val (.int x2_0), .val (.int n7), .val (.int pp0), .val (.int pp), .val (.ref b2), .val (.ref b5), .val (.int (own_r3 n7 pp)), .val (.int (own_r3 n7 pp)), .val (.int pp)] [(.int (0 : Int32))]))
        exfalso
        have hm := own_more n7 pp (hn7 ▸ (own_m7 _).2.2.1) (hn7 ▸ (own_m7 _).2.2.2) (by subst hpp; subst hpp0; exact (own_pge _).2)
        apply hc81_21
        unfold own_r3
        rw [if_neg (fun q => hc73_19 (hm.mp q))]
  · skip
    refine own_step (fun t k => XS.ifNo X0.here hx rfl (hb hby at_14) rfl ((if0 _ _).trans (feq hc14_1).1) k) ?_
    show own_Ends p.tables e below s _ _ _ (s₁.setTop (mkF m 17 #[.val (.int x0_0), .val (.int x1_0), .val (.int x2_0), .val (.int n7), .val (.int pp0), .unset, .unset, .unset, .unset, .unset, .unset] []))
    refine own_step (fun t k => XS.iload X0.here hx rfl (hb hby at_17) rfl k) ?_
    show own_Ends p.tables e below s _ _ _ (s₁.setTop (mkF m 19 #[.val (.int x0_0), .val (.int x1_0), .val (.int x2_0), .val (.int n7), .val (.int pp0), .unset, .unset, .unset, .unset, .unset, .unset] [(.int pp0)]))
    refine own_step (fun t k => XS.goto X0.here hx rfl (pc0 := 19) (pc' := 27) rfl (hb hby at_19) (by decide) (by decide) k) ?_
    show own_Ends p.tables e below s _ _ _ (s₁.setTop (mkF m 27 #[.val (.int x0_0), .val (.int x1_0), .val (.int x2_0), .val (.int n7), .val (.int pp0), .unset, .unset, .unset, .unset, .unset, .unset] [(.int pp0)]))
    refine own_step (fun t k => XS.istore X0.here hx rfl (hb hby at_27) rfl (l' := #[.val (.int x0_0), .val (.int x1_0), .val (.int x2_0), .val (.int n7), .val (.int pp0), .val (.int pp0), .unset, .unset, .unset, .unset, .unset]) rfl k) ?_
    show own_Ends p.tables e below s _ _ _ (s₁.setTop (mkF m 29 #[.val (.int x0_0), .val (.int x1_0), .val (.int x2_0), .val (.int n7), .val (.int pp0), .val (.int pp0), .unset, .unset, .unset, .unset, .unset] []))
    refine own_step (fun t k => XS.iloadN X0.here hx rfl (hb hby at_29) rfl k) ?_
    show own_Ends p.tables e below s _ _ _ (s₁.setTop (mkF m 30 #[.val (.int x0_0), .val (.int x1_0), .val (.int x2_0), .val (.int n7), .val (.int pp0), .val (.int pp0), .unset, .unset, .unset, .unset, .unset] [(.int n7)]))
    obtain ⟨T22, h22, k22, X22, e22, E22, A22, st22⟩ := newP X0 hx hZ (hw _ (List.mem_of_getElem? (i := 1) rfl)) e0 (g := (mkF m 30 #[.val (.int x0_0), .val (.int x1_0), .val (.int x2_0), .val (.int n7), .val (.int pp0), .val (.int pp0), .unset, .unset, .unset, .unset, .unset] [(.int n7)])) rfl (hb hby at_30) rfl (hn7 ▸ (own_m7 _).1) (cap := 7) (hn7 ▸ (own_m7 _).2.1) (by decide) (by decide) (by decide)
    obtain ⟨b22, g22⟩ : ∃ z, z = h0.size := ⟨_, rfl⟩
    rw [← g22] at A22 st22
    have g_b22 : n0 ≤ b22 := Nat.le_trans (Nat.le_trans (Nat.le_of_eq O0.1.symm) O0.2.1) (Nat.le_of_eq g22.symm)
    have sz_b22 : h0.size ≤ b22 := Nat.le_trans (Keep.refl h0 []).1 (Nat.le_of_eq g22.symm)
    have V22 : Arv Z h22 b22 k22 .byte n7 [] (.int (0 : Int32)) := Arv.new A22 (hn7 ▸ (own_m7 _).1)
    refine own_step (fun t k => st22 _ k) ?_
    have K23 : Keep h0 h22 [] := (Keep.refl h0 []).ext E22
    show own_Ends p.tables e below s _ _ _ (T22.setTop (mkF m 32 #[.val (.int x0_0), .val (.int x1_0), .val (.int x2_0), .val (.int n7), .val (.int pp0), .val (.int pp0), .unset, .unset, .unset, .unset, .unset] [(.ref b22)]))
    refine own_step (fun t k => XS.astore X22.here hx rfl (hb hby at_32) rfl rfl (l' := #[.val (.int x0_0), .val (.int x1_0), .val (.int x2_0), .val (.int n7), .val (.int pp0), .val (.int pp0), .val (.ref b22), .unset, .unset, .unset, .unset]) rfl k) ?_
    show own_Ends p.tables e below s _ _ _ (T22.setTop (mkF m 34 #[.val (.int x0_0), .val (.int x1_0), .val (.int x2_0), .val (.int n7), .val (.int pp0), .val (.int pp0), .val (.ref b22), .unset, .unset, .unset, .unset] []))
    have O24 : Old Z n0 h22 := (O0.ext E22)
    obtain ⟨T25, h25, X25, e25, E25, A25, D25, -, st25⟩ := newO X22 hx hZ hown (hw _ (List.mem_of_getElem? (i := 2) rfl)) (hw _ (List.mem_of_getElem? (i := 3) rfl)) (hw _ (List.mem_of_getElem? (i := 4) rfl)) e22 (g := (mkF m 34 #[.val (.int x0_0), .val (.int x1_0), .val (.int x2_0), .val (.int n7), .val (.int pp0), .val (.int pp0), .val (.ref b22), .unset, .unset, .unset, .unset] [])) rfl (hb hby at_34) (by decide) (by decide)
    obtain ⟨b25, g25⟩ : ∃ z, z = h22.size := ⟨_, rfl⟩
    rw [← g25] at A25 D25 st25
    have g_b25 : n0 ≤ b25 := Nat.le_trans (Nat.le_trans (Nat.le_of_eq O24.1.symm) O24.2.1) (Nat.le_of_eq g25.symm)
    have sz_b25 : h0.size ≤ b25 := Nat.le_trans K23.1 (Nat.le_of_eq g25.symm)
    have ne_b22_b25 : b22 ≠ b25 := Nat.ne_of_lt (Nat.lt_of_lt_of_le V22.lt (Nat.le_of_eq g25.symm))
    have F25_bytes : Fld Z h25 b25 "com/example/proofwright/proofwright/multisig/VarintReader" "bytes" "[B" .null := D25 (Or.inr (hw _ (List.mem_of_getElem? (i := 12) rfl))) (ty := (.array .byte)) (by decide)
    have F25_position : Fld Z h25 b25 "com/example/proofwright/proofwright/multisig/VarintReader" "position" "I" (.int (0 : Int32)) := D25 (Or.inl (hw _ (List.mem_of_getElem? (i := 14) rfl))) (ty := .int) (by decide)
    refine own_step (fun t k => st25 _ k) ?_
    have K26 : Keep h0 h25 [] := K23.ext E25
    show own_Ends p.tables e below s _ _ _ (T25.setTop (mkF m 37 #[.val (.int x0_0), .val (.int x1_0), .val (.int x2_0), .val (.int n7), .val (.int pp0), .val (.int pp0), .val (.ref b22), .unset, .unset, .unset, .unset] [(.ref b25)]))
    refine own_step (fun t k => XS.dup X25.here hx rfl (hb hby at_37) rfl rfl k) ?_
    show own_Ends p.tables e below s _ _ _ (T25.setTop (mkF m 38 #[.val (.int x0_0), .val (.int x1_0), .val (.int x2_0), .val (.int n7), .val (.int pp0), .val (.int pp0), .val (.ref b22), .unset, .unset, .unset, .unset] [(.ref b25), (.ref b25)]))
    refine own_step (fun t k => XS.aload X25.here hx rfl (hb hby at_38) rfl rfl k) ?_
    show own_Ends p.tables e below s _ _ _ (T25.setTop (mkF m 40 #[.val (.int x0_0), .val (.int x1_0), .val (.int x2_0), .val (.int n7), .val (.int pp0), .val (.int pp0), .val (.ref b22), .unset, .unset, .unset, .unset] [(.ref b22), (.ref b25), (.ref b25)]))
    refine own_step (fun t k => XS.iload X25.here hx rfl (hb hby at_40) rfl k) ?_
    show own_Ends p.tables e below s _ _ _ (T25.setTop (mkF m 42 #[.val (.int x0_0), .val (.int x1_0), .val (.int x2_0), .val (.int n7), .val (.int pp0), .val (.int pp0), .val (.ref b22), .unset, .unset, .unset, .unset] [(.int pp0), (.ref b22), (.ref b25), (.ref b25)]))
    have O27 : Old Z n0 h25 := (O24.ext E25)
    obtain ⟨_, _, ⟨T28, L28, k28, n28⟩, -, X28, ⟨Lc28, hQ28, l28, y28, z28⟩, st28⟩ := X25.specialBack hx (y := (⟨"com/example/proofwright/proofwright/multisig/VarintReader", "<init>", "([BI)V"⟩ : MethodName)) rfl hown (mvT hZ (hw _ (List.mem_of_getElem? (i := 5) rfl))) (mvT hZ (hw _ (List.mem_of_getElem? (i := 6) rfl))) (mvT hZ (hw _ (List.mem_of_getElem? (i := 7) rfl))) (by decide) (backOf (W := 1) (rm1 l Z a0 hw [] b25 b22 pp0 .null (.int (0 : Int32)) h25 n0 O27 A25 F25_bytes g_b25 F25_position) hZ (hw _ (List.mem_of_getElem? (i := 7) rfl)) (hw _ (List.mem_of_getElem? (i := 4) rfl)) (by decide) (by decide)) (g := (mkF m 42 #[.val (.int x0_0), .val (.int x1_0), .val (.int x2_0), .val (.int n7), .val (.int pp0), .val (.int pp0), .val (.ref b22), .unset, .unset, .unset, .unset] [(.int pp0), (.ref b22), (.ref b25), (.ref b25)])) rfl (by rw [hml]; rfl) (Steps.refl _) (a := b25) (argsL := [(.ref b22), (.int pp0)]) (rest := [(.ref b25)]) (lenOf pd_1 rfl) rfl (by show 2 * 0 + _ ≤ _; exact Nat.le_of_eq rfl) (hb hby at_42) (fun _ _ => ⟨rfl, e25, (by decide : 2 + 0 ≤ _), (by decide : 9 + 0 ≤ _)⟩)
    dsimp only [Pt.U, Pt.locs, Pt.cells, Pt.slots] at X28 l28 y28 z28 st28 hQ28
    subst l28 y28 z28
    obtain ⟨rfl, N28q, K28q, p28_0, p28_1, p28_2⟩ := hQ28
    refine own_step (fun t k => st28.trans k) ?_
    have N29 := Fr.app N0 N28q
    have K30 : Keep h0 T28.heap [] := K26.trans K28q (allS (Or.inr sz_b25) all0)
    show own_Ends p.tables e below s _ _ _ (T28.setTop (mkF m 45 #[.val (.int x0_0), .val (.int x1_0), .val (.int x2_0), .val (.int n7), .val (.int pp0), .val (.int pp0), .val (.ref b22), .unset, .unset, .unset, .unset] [(.ref b25)]))
    refine own_step (fun t k => XS.astore X28.here hx rfl (hb hby at_45) rfl rfl (l' := #[.val (.int x0_0), .val (.int x1_0), .val (.int x2_0), .val (.int n7), .val (.int pp0), .val (.int pp0), .val (.ref b22), .val (.ref b25), .unset, .unset, .unset]) rfl k) ?_
    show own_Ends p.tables e below s _ _ _ (T28.setTop (mkF m 47 #[.val (.int x0_0), .val (.int x1_0), .val (.int x2_0), .val (.int n7), .val (.int pp0), .val (.int pp0), .val (.ref b22), .val (.ref b25), .unset, .unset, .unset] []))
    refine own_step (fun t k => XS.aload X28.here hx rfl (hb hby at_47) rfl rfl k) ?_
    show own_Ends p.tables e below s _ _ _ (T28.setTop (mkF m 49 #[.val (.int x0_0), .val (.int x1_0), .val (.int x2_0), .val (.int n7), .val (.int pp0), .val (.int pp0), .val (.ref b22), .val (.ref b25), .unset, .unset, .unset] [(.ref b25)]))
    have F31 : Arv Z T28.heap b22 k22 .byte n7 [] (.int (0 : Int32)) := ((V22.ext E25).keep K28q (ninS ne_b22_b25 nin0))
    have O32 : Old Z n0 T28.heap := (O27.keep K28q (allS g_b25 all0))
    obtain ⟨cq33, kq33, q33a, q33b, q33c⟩ := isOf hZ rfl p28_0
    obtain ⟨_, _, ⟨T33, L33, k33, n33⟩, -, X33, ⟨Lc33, hQ33, l33, y33, z33⟩, st33⟩ := X28.virtualBack hx (y := (⟨"com/example/proofwright/proofwright/multisig/VarintReader", "hasMore", "()Z"⟩ : MethodName)) (z := (⟨"com/example/proofwright/proofwright/multisig/VarintReader", "hasMore", "()Z"⟩ : MethodName)) hown (mvT hZ (hw _ (List.mem_of_getElem? (i := 15) rfl))) (mvT hZ (hw _ (List.mem_of_getElem? (i := 16) rfl))) (notFace_of_selects (args := #[]) (mvT hZ (hw _ (List.mem_of_getElem? (i := 18) rfl)))) (mvT hZ (hw _ (List.mem_of_getElem? (i := 18) rfl))) (mvT hZ (hw _ (List.mem_of_getElem? (i := 17) rfl))) (by decide) (backOf (W := 0) (rm3 l Z a0 hw [] b25 b22 k22 n7 [] (.int (0 : Int32)) pp0 T28.heap n0 O32 p28_1 F31 p28_2 p28_0) hZ (hw _ (List.mem_of_getElem? (i := 19) rfl)) (hw _ (List.mem_of_getElem? (i := 4) rfl)) (by decide) (by decide)) q33a q33c (g := (mkF m 49 #[.val (.int x0_0), .val (.int x1_0), .val (.int x2_0), .val (.int n7), .val (.int pp0), .val (.int pp0), .val (.ref b22), .val (.ref b25), .unset, .unset, .unset] [(.ref b25)])) rfl (by rw [hml]; rfl) (Steps.refl _) (argsL := []) (rest := []) (lenOf pd_2 rfl) rfl (by show 2 * 0 + _ ≤ _; exact Nat.le_of_eq rfl) (hb hby at_49) (fun _ _ => ⟨rfl, rfl, (by decide : 2 + 0 ≤ _), (by decide : 9 + 0 ≤ _)⟩)
    dsimp only [Pt.U, Pt.locs, Pt.cells, Pt.slots] at X33 l33 y33 z33 st33 hQ33
    subst l33 y33 z33
    obtain ⟨rfl, N33q, e33⟩ := hQ33
    refine own_step (fun t k => st33.trans k) ?_
    have N34 := Fr.app N29 N33q
    show own_Ends p.tables e below s _ _ _ (T33.setTop (mkF m 52 #[.val (.int x0_0), .val (.int x1_0), .val (.int x2_0), .val (.int n7), .val (.int pp0), .val (.int pp0), .val (.ref b22), .val (.ref b25), .unset, .unset, .unset] [(.int (own_r3 n7 pp0))]))
    refine own_step (fun t k => XS.istore X33.here hx rfl (hb hby at_52) rfl (l' := #[.val (.int x0_0), .val (.int x1_0), .val (.int x2_0), .val (.int n7), .val (.int pp0), .val (.int pp0), .val (.ref b22), .val (.ref b25), .val (.int (own_r3 n7 pp0)), .unset, .unset]) rfl k) ?_
    show own_Ends p.tables e below s _ _ _ (T33.setTop (mkF m 54 #[.val (.int x0_0), .val (.int x1_0), .val (.int x2_0), .val (.int n7), .val (.int pp0), .val (.int pp0), .val (.ref b22), .val (.ref b25), .val (.int (own_r3 n7 pp0)), .unset, .unset] []))
    refine own_step (fun t k => XS.aload X33.here hx rfl (hb hby at_54) rfl rfl k) ?_
    show own_Ends p.tables e below s _ _ _ (T33.setTop (mkF m 56 #[.val (.int x0_0), .val (.int x1_0), .val (.int x2_0), .val (.int n7), .val (.int pp0), .val (.int pp0), .val (.ref b22), .val (.ref b25), .val (.int (own_r3 n7 pp0)), .unset, .unset] [(.ref b25)]))
    obtain ⟨cq35, kq35, q35a, q35b, q35c⟩ := isOf hZ e33 p28_0
    obtain ⟨_, _, ⟨T35, L35, k35, n35⟩, -, X35, ⟨Lc35, hQ35, l35, y35, z35⟩, st35⟩ := X33.virtualBack hx (y := (⟨"com/example/proofwright/proofwright/multisig/VarintReader", "hasMore", "()Z"⟩ : MethodName)) (z := (⟨"com/example/proofwright/proofwright/multisig/VarintReader", "hasMore", "()Z"⟩ : MethodName)) hown (mvT hZ (hw _ (List.mem_of_getElem? (i := 15) rfl))) (mvT hZ (hw _ (List.mem_of_getElem? (i := 16) rfl))) (notFace_of_selects (args := #[]) (mvT hZ (hw _ (List.mem_of_getElem? (i := 18) rfl)))) (mvT hZ (hw _ (List.mem_of_getElem? (i := 18) rfl))) (mvT hZ (hw _ (List.mem_of_getElem? (i := 17) rfl))) (by decide) (backOf (W := 0) (rm3 l Z a0 hw [] b25 b22 k22 n7 [] (.int (0 : Int32)) pp0 T28.heap n0 O32 p28_1 F31 p28_2 p28_0) hZ (hw _ (List.mem_of_getElem? (i := 19) rfl)) (hw _ (List.mem_of_getElem? (i := 4) rfl)) (by decide) (by decide)) q35a q35c (g := (mkF m 56 #[.val (.int x0_0), .val (.int x1_0), .val (.int x2_0), .val (.int n7), .val (.int pp0), .val (.int pp0), .val (.ref b22), .val (.ref b25), .val (.int (own_r3 n7 pp0)), .unset, .unset] [(.ref b25)])) rfl (by rw [hml]; rfl) (Steps.refl _) (argsL := []) (rest := []) (lenOf pd_2 rfl) rfl (by show 2 * 0 + _ ≤ _; exact Nat.le_of_eq rfl) (hb hby at_56) (fun _ _ => ⟨rfl, e33, (by decide : 2 + 0 ≤ _), (by decide : 9 + 0 ≤ _)⟩)
    dsimp only [Pt.U, Pt.locs, Pt.cells, Pt.slots] at X35 l35 y35 z35 st35 hQ35
    subst l35 y35 z35
    obtain ⟨rfl, N35q, e35⟩ := hQ35
    refine own_step (fun t k => st35.trans k) ?_
    have N36 := Fr.app N34 N35q
    show own_Ends p.tables e below s _ _ _ (T35.setTop (mkF m 59 #[.val (.int x0_0), .val (.int x1_0), .val (.int x2_0), .val (.int n7), .val (.int pp0), .val (.int pp0), .val (.ref b22), .val (.ref b25), .val (.int (own_r3 n7 pp0)), .unset, .unset] [(.int (own_r3 n7 pp0))]))
    refine own_step (fun t k => XS.istore X35.here hx rfl (hb hby at_59) rfl (l' := #[.val (.int x0_0), .val (.int x1_0), .val (.int x2_0), .val (.int n7), .val (.int pp0), .val (.int pp0), .val (.ref b22), .val (.ref b25), .val (.int (own_r3 n7 pp0)), .val (.int (own_r3 n7 pp0)), .unset]) rfl k) ?_
    show own_Ends p.tables e below s _ _ _ (T35.setTop (mkF m 61 #[.val (.int x0_0), .val (.int x1_0), .val (.int x2_0), .val (.int n7), .val (.int pp0), .val (.int pp0), .val (.ref b22), .val (.ref b25), .val (.int (own_r3 n7 pp0)), .val (.int (own_r3 n7 pp0)), .unset] []))
    refine own_step (fun t k => XS.aload X35.here hx rfl (hb hby at_61) rfl rfl k) ?_
    show own_Ends p.tables e below s _ _ _ (T35.setTop (mkF m 63 #[.val (.int x0_0), .val (.int x1_0), .val (.int x2_0), .val (.int n7), .val (.int pp0), .val (.int pp0), .val (.ref b22), .val (.ref b25), .val (.int (own_r3 n7 pp0)), .val (.int (own_r3 n7 pp0)), .unset] [(.ref b25)]))
    obtain ⟨cq37, kq37, q37a, q37b, q37c⟩ := isOf hZ e35 p28_0
    obtain ⟨_, _, ⟨T37, L37, k37, n37⟩, -, X37, ⟨Lc37, hQ37, l37, y37, z37⟩, st37⟩ := X35.virtualBack hx (y := (⟨"com/example/proofwright/proofwright/multisig/VarintReader", "position", "()I"⟩ : MethodName)) (z := (⟨"com/example/proofwright/proofwright/multisig/VarintReader", "position", "()I"⟩ : MethodName)) hown (mvT hZ (hw _ (List.mem_of_getElem? (i := 25) rfl))) (mvT hZ (hw _ (List.mem_of_getElem? (i := 26) rfl))) (notFace_of_selects (args := #[]) (mvT hZ (hw _ (List.mem_of_getElem? (i := 28) rfl)))) (mvT hZ (hw _ (List.mem_of_getElem? (i := 28) rfl))) (mvT hZ (hw _ (List.mem_of_getElem? (i := 27) rfl))) (by decide) (backOf (W := 0) (rm5 l Z a0 hw [] b25 pp0 T28.heap n0 O32 p28_2) hZ (hw _ (List.mem_of_getElem? (i := 29) rfl)) (hw _ (List.mem_of_getElem? (i := 4) rfl)) (by decide) (by decide)) q37a q37c (g := (mkF m 63 #[.val (.int x0_0), .val (.int x1_0), .val (.int x2_0), .val (.int n7), .val (.int pp0), .val (.int pp0), .val (.ref b22), .val (.ref b25), .val (.int (own_r3 n7 pp0)), .val (.int (own_r3 n7 pp0)), .unset] [(.ref b25)])) rfl (by rw [hml]; rfl) (Steps.refl _) (argsL := []) (rest := []) (lenOf pd_0 rfl) rfl (by show 2 * 0 + _ ≤ _; exact Nat.le_of_eq rfl) (hb hby at_63) (fun _ _ => ⟨rfl, e35, (by decide : 2 + 0 ≤ _), (by decide : 9 + 0 ≤ _)⟩)
    dsimp only [Pt.U, Pt.locs, Pt.cells, Pt.slots] at X37 l37 y37 z37 st37 hQ37
    subst l37 y37 z37
    obtain ⟨rfl, N37q, e37⟩ := hQ37
    refine own_step (fun t k => st37.trans k) ?_
    have N38 := Fr.app N36 N37q
    show own_Ends p.tables e below s _ _ _ (T37.setTop (mkF m 66 #[.val (.int x0_0), .val (.int x1_0), .val (.int x2_0), .val (.int n7), .val (.int pp0), .val (.int pp0), .val (.ref b22), .val (.ref b25), .val (.int (own_r3 n7 pp0)), .val (.int (own_r3 n7 pp0)), .unset] [(.int pp0)]))
    refine own_step (fun t k => XS.istore X37.here hx rfl (hb hby at_66) rfl (l' := #[.val (.int x0_0), .val (.int x1_0), .val (.int x2_0), .val (.int n7), .val (.int pp0), .val (.int pp0), .val (.ref b22), .val (.ref b25), .val (.int (own_r3 n7 pp0)), .val (.int (own_r3 n7 pp0)), .val (.int pp0)]) rfl k) ?_
    show own_Ends p.tables e below s _ _ _ (T37.setTop (mkF m 68 #[.val (.int x0_0), .val (.int x1_0), .val (.int x2_0), .val (.int n7), .val (.int pp0), .val (.int pp0), .val (.ref b22), .val (.ref b25), .val (.int (own_r3 n7 pp0)), .val (.int (own_r3 n7 pp0)), .val (.int pp0)] []))
    refine own_step (fun t k => XS.iload X37.here hx rfl (hb hby at_68) rfl k) ?_
    show own_Ends p.tables e below s _ _ _ (T37.setTop (mkF m 70 #[.val (.int x0_0), .val (.int x1_0), .val (.int x2_0), .val (.int n7), .val (.int pp0), .val (.int pp0), .val (.ref b22), .val (.ref b25), .val (.int (own_r3 n7 pp0)), .val (.int (own_r3 n7 pp0)), .val (.int pp0)] [(.int (own_r3 n7 pp0))]))
    refine own_step (fun t k => XS.iload X37.here hx rfl (hb hby at_70) rfl k) ?_
    show own_Ends p.tables e below s _ _ _ (T37.setTop (mkF m 72 #[.val (.int x0_0), .val (.int x1_0), .val (.int x2_0), .val (.int n7), .val (.int pp0), .val (.int pp0), .val (.ref b22), .val (.ref b25), .val (.int (own_r3 n7 pp0)), .val (.int (own_r3 n7 pp0)), .val (.int pp0)] [(.int pp0), (.int (own_r3 n7 pp0))]))
    refine own_step (fun t k => XS.iloadN X37.here hx rfl (hb hby at_72) rfl k) ?_
    show own_Ends p.tables e below s _ _ _ (T37.setTop (mkF m 73 #[.val (.int x0_0), .val (.int x1_0), .val (.int x2_0), .val (.int n7), .val (.int pp0), .val (.int pp0), .val (.ref b22), .val (.ref b25), .val (.int (own_r3 n7 pp0)), .val (.int (own_r3 n7 pp0)), .val (.int pp0)] [(.int n7), (.int pp0), (.int (own_r3 n7 pp0))]))
    by_cases hc73_39 : pp0 < n7
    · skip
      refine own_step (fun t k => XS.icmpNo X37.here hx rfl (hb hby at_73) rfl (tlt hc73_39).2.1 k) ?_
      show own_Ends p.tables e below s _ _ _ (T37.setTop (mkF m 76 #[.val (.int x0_0), .val (.int x1_0), .val (.int x2_0), .val (.int n7), .val (.int pp0), .val (.int pp0), .val (.ref b22), .val (.ref b25), .val (.int (own_r3 n7 pp0)), .val (.int (own_r3 n7 pp0)), .val (.int pp0)] [(.int (own_r3 n7 pp0))]))
      refine own_step (fun t k => XS.iconst X37.here hx rfl (hb hby at_76) k) ?_
      show own_Ends p.tables e below s _ _ _ (T37.setTop (mkF m 77 #[.val (.int x0_0), .val (.int x1_0), .val (.int x2_0), .val (.int n7), .val (.int pp0), .val (.int pp0), .val (.ref b22), .val (.ref b25), .val (.int (own_r3 n7 pp0)), .val (.int (own_r3 n7 pp0)), .val (.int pp0)] [(.int (1 : Int32)), (.int (own_r3 n7 pp0))]))
      refine own_step (fun t k => XS.goto X37.here hx rfl (pc0 := 77) (pc' := 81) rfl (hb hby at_77) (by decide) (by decide) k) ?_
      show own_Ends p.tables e below s _ _ _ (T37.setTop (mkF m 81 #[.val (.int x0_0), .val (.int x1_0), .val (.int x2_0), .val (.int n7), .val (.int pp0), .val (.int pp0), .val (.ref b22), .val (.ref b25), .val (.int (own_r3 n7 pp0)), .val (.int (own_r3 n7 pp0)), .val (.int pp0)] [(.int (1 : Int32)), (.int (own_r3 n7 pp0))]))
      by_cases hc81_40 : (own_r3 n7 pp0) = (1 : Int32)
      · skip
        refine own_step (fun t k => XS.icmpNo X37.here hx rfl (hb hby at_81) rfl (teq hc81_40).2 k) ?_
        show own_Ends p.tables e below s _ _ _ (T37.setTop (mkF m 84 #[.val (.int x0_0), .val (.int x1_0), .val (.int x2_0), .val (.int n7), .val (.int pp0), .val (.int pp0), .val (.ref b22), .val (.ref b25), .val (.int (own_r3 n7 pp0)), .val (.int (own_r3 n7 pp0)), .val (.int pp0)] []))
        refine own_step (fun t k => XS.iload X37.here hx rfl (hb hby at_84) rfl k) ?_
        show own_Ends p.tables e below s _ _ _ (T37.setTop (mkF m 86 #[.val (.int x0_0), .val (.int x1_0), .val (.int x2_0), .val (.int n7), .val (.int pp0), .val (.int pp0), .val (.ref b22), .val (.ref b25), .val (.int (own_r3 n7 pp0)), .val (.int (own_r3 n7 pp0)), .val (.int pp0)] [(.int (own_r3 n7 pp0))]))
        refine own_step (fun t k => XS.iload X37.here hx rfl (hb hby at_86) rfl k) ?_
        show own_Ends p.tables e below s _ _ _ (T37.setTop (mkF m 88 #[.val (.int x0_0), .val (.int x1_0), .val (.int x2_0), .val (.int n7), .val (.int pp0), .val (.int pp0), .val (.ref b22), .val (.ref b25), .val (.int (own_r3 n7 pp0)), .val (.int (own_r3 n7 pp0)), .val (.int pp0)] [(.int (own_r3 n7 pp0)), (.int (own_r3 n7 pp0))]))
        refine own_step (fun t k => XS.icmpNo X37.here hx rfl (hb hby at_88) rfl (teq (rfl : (own_r3 n7 pp0) = (own_r3 n7 pp0))).2 k) ?_
        show own_Ends p.tables e below s _ _ _ (T37.setTop (mkF m 91 #[.val (.int x0_0), .val (.int x1_0), .val (.int x2_0), .val (.int n7), .val (.int pp0), .val (.int pp0), .val (.ref b22), .val (.ref b25), .val (.int (own_r3 n7 pp0)), .val (.int (own_r3 n7 pp0)), .val (.int pp0)] []))
        refine own_step (fun t k => XS.iload X37.here hx rfl (hb hby at_91) rfl k) ?_
        show own_Ends p.tables e below s _ _ _ (T37.setTop (mkF m 93 #[.val (.int x0_0), .val (.int x1_0), .val (.int x2_0), .val (.int n7), .val (.int pp0), .val (.int pp0), .val (.ref b22), .val (.ref b25), .val (.int (own_r3 n7 pp0)), .val (.int (own_r3 n7 pp0)), .val (.int pp0)] [(.int pp0)]))
        refine own_step (fun t k => XS.iload X37.here hx rfl (hb hby at_93) rfl k) ?_
        show own_Ends p.tables e below s _ _ _ (T37.setTop (mkF m 95 #[.val (.int x0_0), .val (.int x1_0), .val (.int x2_0), .val (.int n7), .val (.int pp0), .val (.int pp0), .val (.ref b22), .val (.ref b25), .val (.int (own_r3 n7 pp0)), .val (.int (own_r3 n7 pp0)), .val (.int pp0)] [(.int pp0), (.int pp0)]))
        refine own_step (fun t k => XS.icmpNo X37.here hx rfl (hb hby at_95) rfl (teq (rfl : pp0 = pp0)).2 k) ?_
        show own_Ends p.tables e below s _ _ _ (T37.setTop (mkF m 98 #[.val (.int x0_0), .val (.int x1_0), .val (.int x2_0), .val (.int n7), .val (.int pp0), .val (.int pp0), .val (.ref b22), .val (.ref b25), .val (.int (own_r3 n7 pp0)), .val (.int (own_r3 n7 pp0)), .val (.int pp0)] []))
        refine own_step (fun t k => XS.iconst X37.here hx rfl (hb hby at_98) k) ?_
        show own_Ends p.tables e below s _ _ _ (T37.setTop (mkF m 99 #[.val (.int x0_0), .val (.int x1_0), .val (.int x2_0), .val (.int n7), .val (.int pp0), .val (.int pp0), .val (.ref b22), .val (.ref b25), .val (.int (own_r3 n7 pp0)), .val (.int (own_r3 n7 pp0)), .val (.int pp0)] [(.int (1 : Int32))]))
        refine own_step (fun t k => XS.goto X37.here hx rfl (pc0 := 99) (pc' := 103) rfl (hb hby at_99) (by decide) (by decide) k) ?_
        show own_Ends p.tables e below s _ _ _ (T37.setTop (mkF m 103 #[.val (.int x0_0), .val (.int x1_0), .val (.int x2_0), .val (.int n7), .val (.int pp0), .val (.int pp0), .val (.ref b22), .val (.ref b25), .val (.int (own_r3 n7 pp0)), .val (.int (own_r3 n7 pp0)), .val (.int pp0)] [(.int (1 : Int32))]))
        exact own_retN X37 hx (t := .boolean) Bd.returns (by simp) (hb hby at_103) hnl (by rw [e37]; exact ⟨rfl, N38⟩) (by decide) (by decide)
      · skip
        refine own_step (fun t k => XS.icmpYes X37.here hx rfl (pc0 := 81) (pc' := 102) rfl (hb hby at_81) rfl (feq hc81_40).2 (by decide) (by decide) k) ?_
        show own_Ends p.tables e below s _ _ _ (T37.setTop (mkF m 102 #[.val (.int x0_0), .val (.int x1_0), .val (.int x2_0), .val (.int n7), .val (.int pp0), .val (.int pp0), .val (.ref b22), .val (.ref b25), .val (.int (own_r3 n7 pp0)), .val (.int (own_r3 n7 pp0)), .val (.int pp0)] []))
        refine own_step (fun t k => XS.iconst X37.here hx rfl (hb hby at_102) k) ?_
        show own_Ends p.tables e below s _ _ _ (T37.setTop (mkF m 103 #[.val (.int x0_0), .val (.int x1_0), .val (.int x2_0), .val (.int n7), .val (.int pp0), .val (.int pp0), .val (.ref b22), .val (.ref b25), .val (.int (own_r3 n7 pp0)), .val (.int (own_r3 n7 pp0)), .val (.int pp0)] [(.int (0 : Int32))]))
        exfalso
        have hm := own_more n7 pp0 (hn7 ▸ (own_m7 _).2.2.1) (hn7 ▸ (own_m7 _).2.2.2) (hpp0 ▸ (own_pge _).1)
        apply hc81_40
        unfold own_r3
        rw [if_pos (hm.mpr hc73_39)]
    · skip
      refine own_step (fun t k => XS.icmpYes X37.here hx rfl (pc0 := 73) (pc' := 80) rfl (hb hby at_73) rfl (flt hc73_39).2.1 (by decide) (by decide) k) ?_
      show own_Ends p.tables e below s _ _ _ (T37.setTop (mkF m 80 #[.val (.int x0_0), .val (.int x1_0), .val (.int x2_0), .val (.int n7), .val (.int pp0), .val (.int pp0), .val (.ref b22), .val (.ref b25), .val (.int (own_r3 n7 pp0)), .val (.int (own_r3 n7 pp0)), .val (.int pp0)] [(.int (own_r3 n7 pp0))]))
      refine own_step (fun t k => XS.iconst X37.here hx rfl (hb hby at_80) k) ?_
      show own_Ends p.tables e below s _ _ _ (T37.setTop (mkF m 81 #[.val (.int x0_0), .val (.int x1_0), .val (.int x2_0), .val (.int n7), .val (.int pp0), .val (.int pp0), .val (.ref b22), .val (.ref b25), .val (.int (own_r3 n7 pp0)), .val (.int (own_r3 n7 pp0)), .val (.int pp0)] [(.int (0 : Int32)), (.int (own_r3 n7 pp0))]))
      by_cases hc81_41 : (own_r3 n7 pp0) = (0 : Int32)
      · skip
        refine own_step (fun t k => XS.icmpNo X37.here hx rfl (hb hby at_81) rfl (teq hc81_41).2 k) ?_
        show own_Ends p.tables e below s _ _ _ (T37.setTop (mkF m 84 #[.val (.int x0_0), .val (.int x1_0), .val (.int x2_0), .val (.int n7), .val (.int pp0), .val (.int pp0), .val (.ref b22), .val (.ref b25), .val (.int (own_r3 n7 pp0)), .val (.int (own_r3 n7 pp0)), .val (.int pp0)] []))
        refine own_step (fun t k => XS.iload X37.here hx rfl (hb hby at_84) rfl k) ?_
        show own_Ends p.tables e below s _ _ _ (T37.setTop (mkF m 86 #[.val (.int x0_0), .val (.int x1_0), .val (.int x2_0), .val (.int n7), .val (.int pp0), .val (.int pp0), .val (.ref b22), .val (.ref b25), .val (.int (own_r3 n7 pp0)), .val (.int (own_r3 n7 pp0)), .val (.int pp0)] [(.int (own_r3 n7 pp0))]))
        refine own_step (fun t k => XS.iload X37.here hx rfl (hb hby at_86) rfl k) ?_
        show own_Ends p.tables e below s _ _ _ (T37.setTop (mkF m 88 #[.val (.int x0_0), .val (.int x1_0), .val (.int x2_0), .val (.int n7), .val (.int pp0), .val (.int pp0), .val (.ref b22), .val (.ref b25), .val (.int (own_r3 n7 pp0)), .val (.int (own_r3 n7 pp0)), .val (.int pp0)] [(.int (own_r3 n7 pp0)), (.int (own_r3 n7 pp0))]))
        refine own_step (fun t k => XS.icmpNo X37.here hx rfl (hb hby at_88) rfl (teq (rfl : (own_r3 n7 pp0) = (own_r3 n7 pp0))).2 k) ?_
        show own_Ends p.tables e below s _ _ _ (T37.setTop (mkF m 91 #[.val (.int x0_0), .val (.int x1_0), .val (.int x2_0), .val (.int n7), .val (.int pp0), .val (.int pp0), .val (.ref b22), .val (.ref b25), .val (.int (own_r3 n7 pp0)), .val (.int (own_r3 n7 pp0)), .val (.int pp0)] []))
        refine own_step (fun t k => XS.iload X37.here hx rfl (hb hby at_91) rfl k) ?_
        show own_Ends p.tables e below s _ _ _ (T37.setTop (mkF m 93 #[.val (.int x0_0), .val (.int x1_0), .val (.int x2_0), .val (.int n7), .val (.int pp0), .val (.int pp0), .val (.ref b22), .val (.ref b25), .val (.int (own_r3 n7 pp0)), .val (.int (own_r3 n7 pp0)), .val (.int pp0)] [(.int pp0)]))
        refine own_step (fun t k => XS.iload X37.here hx rfl (hb hby at_93) rfl k) ?_
        show own_Ends p.tables e below s _ _ _ (T37.setTop (mkF m 95 #[.val (.int x0_0), .val (.int x1_0), .val (.int x2_0), .val (.int n7), .val (.int pp0), .val (.int pp0), .val (.ref b22), .val (.ref b25), .val (.int (own_r3 n7 pp0)), .val (.int (own_r3 n7 pp0)), .val (.int pp0)] [(.int pp0), (.int pp0)]))
        refine own_step (fun t k => XS.icmpNo X37.here hx rfl (hb hby at_95) rfl (teq (rfl : pp0 = pp0)).2 k) ?_
        show own_Ends p.tables e below s _ _ _ (T37.setTop (mkF m 98 #[.val (.int x0_0), .val (.int x1_0), .val (.int x2_0), .val (.int n7), .val (.int pp0), .val (.int pp0), .val (.ref b22), .val (.ref b25), .val (.int (own_r3 n7 pp0)), .val (.int (own_r3 n7 pp0)), .val (.int pp0)] []))
        refine own_step (fun t k => XS.iconst X37.here hx rfl (hb hby at_98) k) ?_
        show own_Ends p.tables e below s _ _ _ (T37.setTop (mkF m 99 #[.val (.int x0_0), .val (.int x1_0), .val (.int x2_0), .val (.int n7), .val (.int pp0), .val (.int pp0), .val (.ref b22), .val (.ref b25), .val (.int (own_r3 n7 pp0)), .val (.int (own_r3 n7 pp0)), .val (.int pp0)] [(.int (1 : Int32))]))
        refine own_step (fun t k => XS.goto X37.here hx rfl (pc0 := 99) (pc' := 103) rfl (hb hby at_99) (by decide) (by decide) k) ?_
        show own_Ends p.tables e below s _ _ _ (T37.setTop (mkF m 103 #[.val (.int x0_0), .val (.int x1_0), .val (.int x2_0), .val (.int n7), .val (.int pp0), .val (.int pp0), .val (.ref b22), .val (.ref b25), .val (.int (own_r3 n7 pp0)), .val (.int (own_r3 n7 pp0)), .val (.int pp0)] [(.int (1 : Int32))]))
        exact own_retN X37 hx (t := .boolean) Bd.returns (by simp) (hb hby at_103) hnl (by rw [e37]; exact ⟨rfl, N38⟩) (by decide) (by decide)
      · skip
        refine own_step (fun t k => XS.icmpYes X37.here hx rfl (pc0 := 81) (pc' := 102) rfl (hb hby at_81) rfl (feq hc81_41).2 (by decide) (by decide) k) ?_
        show own_Ends p.tables e below s _ _ _ (T37.setTop (mkF m 102 #[.val (.int x0_0), .val (.int x1_0), .val (.int x2_0), .val (.int n7), .val (.int pp0), .val (.int pp0), .val (.ref b22), .val (.ref b25), .val (.int (own_r3 n7 pp0)), .val (.int (own_r3 n7 pp0)), .val (.int pp0)] []))
        refine own_step (fun t k => XS.iconst X37.here hx rfl (hb hby at_102) k) ?_
        show own_Ends p.tables e below s _ _ _ (T37.setTop (mkF m 103 #[.val (.int x0_0), .val (.int x1_0), .val (.int x2_0), .val (.int n7), .val (.int pp0), .val (.int pp0), .val (.ref b22), .val (.ref b25), .val (.int (own_r3 n7 pp0)), .val (.int (own_r3 n7 pp0)), .val (.int pp0)] [(.int (0 : Int32))]))
        exfalso
        have hm := own_more n7 pp0 (hn7 ▸ (own_m7 _).2.2.1) (hn7 ▸ (own_m7 _).2.2.2) (hpp0 ▸ (own_pge _).1)
        apply hc81_41
        unfold own_r3
        rw [if_neg (fun q => hc73_39 (hm.mp q))]
set_option maxRecDepth 65536 in
set_option maxHeartbeats 40000000 in
theorem comes_1 {Post : Tables → Env → Array Value → State → Outcome → State → Prop} (hpost : ∀ tb e args s v u, (limb_1_1.after args s (.returned v) u = true ∧ limb_1_2.after args s (.returned v) u = true ∧ True) → FrameEnd s (.returned v) u (Jvm.fieldLocs frame_1_writes args s ++ Jvm.arrayLocs frame_1_arrays args s ++ Jvm.staticLocs frame_1_statics s) 16 128 → Post tb e args s (.returned v) u) :
    ArmFor flags0 classFile x code maxLocals ret World_1 tables_1 room_1 Calls_1 rest_1 Pre_1 Post := by
  intro l hfl _ _ p e ha hc hk s m args below hf hA hF happ hP
  obtain ⟨hcalls, hrest, hpre⟩ := hP
  obtain ⟨-, -, -, hnamed, -, -, -, hat⟩ := (Spec.applies_iff hf).mp happ
  obtain ⟨hg, hn⟩ := and_e (Cond.before_iff.mp (show (Jvm.Cond.and given_1 narrow_1).before args s = true from hpre))
  obtain ⟨hh1a, hh1b⟩ := and_e hg
  obtain ⟨hh2a, hh2b⟩ := and_e hh1b
  obtain ⟨hh3a, hh3b⟩ := and_e hh2b
  obtain ⟨w0, w1, w2, rfl⟩ : ∃ w0 w1 w2 : Value, args = #[w0, w1, w2] := by
    have hs : args.size = 3 := by simpa [Cond.value, given_1] using hh1a
    obtain ⟨L⟩ := args
    match L, hs with
    | [w0, w1, w2], _ => exact ⟨w0, w1, w2, rfl⟩
  have hw := fun d (hd : d ∈ tables_1) => atoms_spec (ws := Jvm.Cond.code x code maxLocals ret :: tables_1) hat d (List.mem_cons_of_mem _ hd)
  have hfit : Fit s := fun {y c} hc i hi => by
    obtain ⟨ha, rfl⟩ := Array.getElem?_eq_some_iff.mp hc
    have q := List.all_eq_true.mp ((Array.all_eq_true_iff_forall_mem.mp hF) _ (Array.getElem_mem ha)) i (List.mem_range.mpr hi)
    simpa [Array.getElem?_eq_getElem hi] using q
  obtain ⟨i0, ei0⟩ := is_v hh2a
  obtain rfl : w0 = (.int i0) := Option.some.inj ei0
  obtain ⟨i1, ei1⟩ := is_v hh3a
  obtain rfl : w1 = (.int i1) := Option.some.inj ei1
  obtain ⟨i2, ei2⟩ := is_v hh3b
  obtain rfl : w2 = (.int i2) := Option.some.inj ei2
  obtain ⟨n, o, h1, h2, h3, _, L, rfl, ⟨rfl, N⟩, hq⟩ := rm0 l s _ hw tables_1 i0 i1 i2 s.heap s.heap.size (Old.start s) p e ha hc hk s m _ below hf ((Spec.applies_iff_loose hf).mp happ).1 ⟨rfl, State.Warmed39.refl s, rfl⟩ trivial
  refine ⟨n, _, h1, h2, h3, hpost _ _ _ _ _ _ ⟨Cond.after_iff.mpr rfl, Cond.after_iff.mpr (eq_i res_at (Term.int_eval (1)) rfl), trivial⟩ ⟨hq.1, hq.2.1, (hq.2.2.sift fun y hy => Or.inr (N y hy)).mono (by decide) (by decide)⟩⟩
theorem main_1_1 : Claimed_1_1 := comes_1 fun _ _ _ _ _ _ h hF => ⟨h.1, hF⟩
theorem main_1_2 : Claimed_1_2 := comes_1 fun _ _ _ _ _ _ h hF => ⟨h.2.1, hF⟩
end Jvm.Pilot.@@N@@
namespace Jvm.Pilot.@@N@@
open Jvm Jvm.ClassFile Sem Op Lib Jvm.Free Jvm.Stand Jvm.Pilot.@@N@@.Jvm.D
/-! MADE BY PROGRAM (witnessworld.py) out of the Statement's table words and the real class files: 9 classes; the members and pool entries that the words name. The judged class is class 1, her method 1. -/
namespace start1
open Jvm.ClassFile
def u (s : String) : CpInfo := .utf8 (stringToUtf16 s)
/-- a pool by its gaps: so many unusable entries, then the entry; so many at the end -/
def gap : Nat → List CpInfo → List CpInfo
  | 0, r => r
  | n + 1, r => .unusable :: gap n r
def poolList (es : List (Nat × CpInfo)) (last : Nat) : List CpInfo := es.foldr (fun e r => gap e.1 (e.2 :: r)) (gap last [])
def pool (es : List (Nat × CpInfo)) (last : Nat) : Array CpInfo := ⟨poolList es last⟩
def fileOf (pool : Array CpInfo) (this : Nat) (attrs : Array Attribute := #[]) (ms : Array MethodInfo := #[]) (fl : Nat := 33) (sup : Nat := 0) (ifs : Array Nat := #[]) (fds : Array FieldInfo := #[]) : ClassFile where
  minorVersion := 0
  majorVersion := 65
  constantPool := pool
  accessFlags := fl
  thisClass := this
  superClass := sup
  interfaces := ifs
  fields := fds
  methods := ms
  attributes := attrs
def plain (name : String) (sup : Option ClassId) : Class where
  name := name
  kind := .ordinary
  loader := none
  accessFlags := 33
  super := sup
  interfaces := #[]
  cf := none
  fields := #[]
  methods := #[]
  instanceTypes := #[]
  staticTypes := #[]
  resolved := #[]
  callSites := []
  init := .initialized
  statics := none
  mirror := none

def pool0 : Array CpInfo := pool [(5, u "<init>"), (0, u "()V"), (1, .class_ 10), (1, u "java/lang/Object")] 113

def k0c0 : Code := { maxStack := 0, maxLocals := 1, code := object_method_1_code, exceptionTable := #[], attributes := #[] }
def k0m0 : Method := { name := "<init>", desc := "()V", sig := { parameters := [], returnType := none }, accessFlags := 1, code := some k0c0 }
/-- java/lang/Object -/
def k0 : Class := { plain "java/lang/Object" none with
  accessFlags := 33
  interfaces := #[]
  cf := some (fileOf pool0 8 #[] #[{ accessFlags := 1, nameIndex := 5, descriptorIndex := 6, attributes := #[] }] 33 0 #[] #[])
  fields := #[]
  methods := #[k0m0]
  instanceTypes := #[]
  staticTypes := #[]
  resolved := Array.replicate 124 none
  statics := none }

def pool1 : Array CpInfo := pool [(2, .class_ 4), (1, u "java/lang/Object"), (0, u "<init>"), (0, u "()V"), (0, .integer 2147483647), (0, .class_ 9), (0, u "com/example/proofwright/proofwright/multisig/VarintReader"), (0, .methodref 8 11), (0, .nameAndType 5 12), (0, u "([BI)V"), (0, .methodref 8 14), (0, .nameAndType 15 16), (0, u "hasMore"), (0, u "()Z"), (0, .methodref 8 18), (0, .nameAndType 19 20), (0, u "position"), (0, u "()I"), (0, .class_ 22), (0, u "com/example/proofwright/proofwright/multisig/VarintReaderHasMorePinLaw"), (2, u "law"), (0, u "(III)Z")] 5

def k1m0 : Method := { name := "<init>", desc := "()V", sig := { parameters := [], returnType := none }, accessFlags := 1, code := none }
def k1c1 : Code := { maxStack := 4, maxLocals := 11, code := code, exceptionTable := #[], attributes := #[] }
def k1m1 : Method := { name := "law", desc := "(III)Z", sig := { parameters := [.int, .int, .int], returnType := some .boolean }, accessFlags := 9, code := some k1c1 }
/-- com/example/proofwright/proofwright/multisig/VarintReaderHasMorePinLaw -/
def k1 : Class := { plain "com/example/proofwright/proofwright/multisig/VarintReaderHasMorePinLaw" (some 0) with
  accessFlags := 49
  interfaces := #[]
  cf := some (fileOf pool1 21 #[] #[{ accessFlags := 1, nameIndex := 5, descriptorIndex := 6, attributes := #[] }, { accessFlags := 9, nameIndex := 25, descriptorIndex := 26, attributes := #[] }] 49 2 #[] #[])
  fields := #[]
  methods := #[k1m0, k1m1]
  instanceTypes := #[]
  staticTypes := #[]
  resolved := Array.replicate 32 none
  statics := none }

def pool2 : Array CpInfo := pool [(2, .class_ 4), (1, u "com/example/proofwright/proofwright/multisig/VarintReader"), (0, u "<init>"), (0, u "([BI)V"), (0, .methodref 8 9), (0, .class_ 10), (0, .nameAndType 5 11), (0, u "java/lang/Object"), (0, u "()V"), (0, .fieldref 2 13), (0, .nameAndType 14 15), (0, u "bytes"), (0, u "[B"), (0, .fieldref 2 17), (0, .nameAndType 18 19), (0, u "position"), (0, u "I"), (0, .methodref 2 21), (0, .nameAndType 22 23), (0, u "left"), (0, u "()I"), (11, u "hasMore"), (0, u "()Z"), (29, u "MAX_VARINT_BYTES"), (2, u "VALUE_BITS_PER_BYTE"), (1, u "VALUE_BITS"), (1, u "CONTINUATION")] 38

def k2c0 : Code := { maxStack := 2, maxLocals := 3, code := prog_34_method_2_code, exceptionTable := #[], attributes := #[] }
def k2m0 : Method := { name := "<init>", desc := "([BI)V", sig := { parameters := [(.array .byte), .int], returnType := none }, accessFlags := 0, code := some k2c0 }
def k2c1 : Code := { maxStack := 1, maxLocals := 1, code := prog_34_method_3_code, exceptionTable := #[], attributes := #[] }
def k2m1 : Method := { name := "hasMore", desc := "()Z", sig := { parameters := [], returnType := some .boolean }, accessFlags := 0, code := some k2c1 }
def k2c2 : Code := { maxStack := 1, maxLocals := 1, code := prog_34_method_7_code, exceptionTable := #[], attributes := #[] }
def k2m2 : Method := { name := "position", desc := "()I", sig := { parameters := [], returnType := some .int }, accessFlags := 0, code := some k2c2 }
def k2c3 : Code := { maxStack := 2, maxLocals := 1, code := prog_34_method_8_code, exceptionTable := #[], attributes := #[] }
def k2m3 : Method := { name := "left", desc := "()I", sig := { parameters := [], returnType := some .int }, accessFlags := 0, code := some k2c3 }
/-- com/example/proofwright/proofwright/multisig/VarintReader -/
def k2 : Class := { plain "com/example/proofwright/proofwright/multisig/VarintReader" (some 0) with
  accessFlags := 48
  interfaces := #[]
  cf := some (fileOf pool2 2 #[] #[{ accessFlags := 0, nameIndex := 5, descriptorIndex := 6, attributes := #[] }, { accessFlags := 0, nameIndex := 35, descriptorIndex := 36, attributes := #[] }, { accessFlags := 0, nameIndex := 18, descriptorIndex := 23, attributes := #[] }, { accessFlags := 0, nameIndex := 22, descriptorIndex := 23, attributes := #[] }] 48 8 #[] #[{ accessFlags := 24, nameIndex := 66, descriptorIndex := 19, attributes := #[] }, { accessFlags := 26, nameIndex := 69, descriptorIndex := 19, attributes := #[] }, { accessFlags := 26, nameIndex := 71, descriptorIndex := 19, attributes := #[] }, { accessFlags := 26, nameIndex := 73, descriptorIndex := 19, attributes := #[] }, { accessFlags := 18, nameIndex := 14, descriptorIndex := 15, attributes := #[] }, { accessFlags := 2, nameIndex := 18, descriptorIndex := 19, attributes := #[] }])
  fields := #[{ name := "MAX_VARINT_BYTES", type := .int, accessFlags := 24, slot := 0, constantValue := 0 }, { name := "VALUE_BITS_PER_BYTE", type := .int, accessFlags := 26, slot := 1, constantValue := 0 }, { name := "VALUE_BITS", type := .int, accessFlags := 26, slot := 2, constantValue := 0 }, { name := "CONTINUATION", type := .int, accessFlags := 26, slot := 3, constantValue := 0 }, { name := "bytes", type := (.array .byte), accessFlags := 18, slot := 0, constantValue := 0 }, { name := "position", type := .int, accessFlags := 2, slot := 1, constantValue := 0 }]
  methods := #[k2m0, k2m1, k2m2, k2m3]
  instanceTypes := #[(.array .byte), .int]
  staticTypes := #[.int, .int, .int, .int]
  resolved := Array.replicate 112 none
  statics := none }

def pool3 : Array CpInfo := pool [(1, u "java/lang/Cloneable"), (0, .class_ 1), (0, u "java/lang/Object"), (0, .class_ 3)] 3

/-- java/lang/Cloneable -/
def k3 : Class := { plain "java/lang/Cloneable" (some 0) with
  accessFlags := 1537
  interfaces := #[]
  cf := some (fileOf pool3 2 #[] #[] 1537 4 #[] #[])
  fields := #[]
  methods := #[]
  instanceTypes := #[]
  staticTypes := #[]
  resolved := Array.replicate 8 none
  statics := none }

def pool4 : Array CpInfo := pool [(1, u "java/io/Serializable"), (0, .class_ 1), (0, u "java/lang/Object"), (0, .class_ 3)] 3

/-- java/io/Serializable -/
def k4 : Class := { plain "java/io/Serializable" (some 0) with
  accessFlags := 1537
  interfaces := #[]
  cf := some (fileOf pool4 2 #[] #[] 1537 4 #[] #[])
  fields := #[]
  methods := #[]
  instanceTypes := #[]
  staticTypes := #[]
  resolved := Array.replicate 8 none
  statics := none }

/-- the primitive byte -/
def k5 : Class := { plain "byte" none with kind := .primitive 'B', accessFlags := 0x411 }
/-- [B -/
def k6 : Class := { plain "[B" (some 0) with kind := .array 5 .byte, interfaces := #[3, 4], accessFlags := 1041 }

/-- the primitive int -/
def k7 : Class := { plain "int" none with kind := .primitive 'I', accessFlags := 0x411 }
/-- [I -/
def k8 : Class := { plain "[I" (some 0) with kind := .array 7 .int, interfaces := #[3, 4], accessFlags := 1041 }

def heap : Heap := #[]
def classes : Array Class := #[k0, k1, k2, k3, k4, k5, k6, k7, k8]
def interned : List (Array UInt16 × Addr) := []
def slotsUsed : Nat := 0
def theMethod : MethodId := ⟨1, 1⟩
def args0 : Array Value := #[.int 5, .int 5, .int 5]
def aboutOver (below : List Frame) : State where
  vm := { classes := classes, interned := interned.toArray }
  heap := heap
  slotsUsed := slotsUsed
  threads := #[{ frames := .invoking theMethod args0 :: below }]
def below0 : List Frame := [.native { method := ⟨0, 0⟩, args := #[] }]
def about1 : State := aboutOver below0
def p0 : Program := .bare "" "" ""
def e0 : Env := launch0.env 0 0 0
theorem w_frames : about1.frames = Frame.invoking theMethod args0 :: below0 := rfl
set_option maxRecDepth 65536 in
theorem w_args : argsFit about1.vm theMethod args0 = true := by decide +kernel
set_option maxRecDepth 65536 in
theorem w_heap : heapFits about1 = true := by decide +kernel
set_option maxRecDepth 65536 in
theorem w_runnable : about1.curStatus? = some .runnable := by decide +kernel
set_option maxRecDepth 65536 in
theorem w_alone : about1.alone = true := by decide +kernel
set_option maxRecDepth 65536 in
theorem w_named : about1.methodNamed? x = some theMethod := by decide +kernel
set_option maxRecDepth 65536 in
theorem w_hears : about1.hears theMethod below0 = true := by decide +kernel
set_option maxRecDepth 65536 in
theorem w_ripe : about1.ripe theMethod args0 below0 = true := by decide +kernel
theorem w_running : about1.status = .running := rfl
set_option maxRecDepth 65536 in
theorem w_room : about1.hasRoom e0.platform room_1 = true :=
  launch0.hasRoom_least _ room_1 (by decide +kernel) (by decide +kernel) (by decide +kernel) (by decide +kernel) (by decide +kernel) (by decide +kernel)
theorem allAtoms_all (ts : List Jvm.Cond) (a : Array Jvm.Value) (st : Jvm.State) : (allAtoms ts).before a st = ts.all (fun c => c.before a st) := by
  induction ts with
  | nil => rfl
  | cons c t ih =>
    show (Jvm.Cond.and c (allAtoms t)).before a st = _
    rw [Jvm.Cond.before_and, ih, List.all_cons]
def words1 : List Jvm.Cond := Jvm.Cond.code x code maxLocals ret :: tables_1
/-- a 'code' word, met by the world's own term for the bytes: nothing is compared byte by byte -/
theorem code_word {y : MethodName} {bytes : ByteArray} {mx : Nat} {rt : Option FieldType} {a : Array Value} {s : State} {m : MethodId} {meth : Method} {c : Code} (h1 : s.methodNamed? y = some m) (h2 : s.vm.method? m = some meth) (h3 : meth.code = some c) (h4 : c.code = bytes)
    (h5 : (c.maxLocals == mx && c.exceptionTable.isEmpty && decide (c.maxStack ≤ mostOperands) && decide (meth.sig.returnType = rt) && !meth.locks && decide (parseMethodDescriptor y.desc = some meth.sig)) = true) : (Jvm.Cond.code y bytes mx rt).before a s = true := by
  simp only [Bool.and_eq_true, beq_iff_eq, Bool.not_eq_true', decide_eq_true_eq] at h5
  obtain ⟨⟨⟨⟨⟨g1, g2⟩, g3⟩, g4⟩, g5⟩, g6⟩ := h5
  simp [Cond.before, Cond.holds, Cond.value, h1, h2, h3, h4, g1, g2, g3, g4, g5, g6]
def isCode : Jvm.Cond → Bool
  | .code _ _ _ _ => true
  | _ => false
theorem all_split {L : List Jvm.Cond} {P : Jvm.Cond → Bool} (h1 : L.all (fun c => isCode c || P c) = true) (h2 : ∀ c ∈ L.filter isCode, P c = true) : L.all P = true := by
  refine List.all_eq_true.mpr fun c hc => ?_
  have h := List.all_eq_true.mp h1 c hc
  rcases Bool.eq_false_or_eq_true (isCode c) with hi | hi
  · exact h2 c (List.mem_filter.mpr ⟨hc, hi⟩)
  · simpa [hi] using h
set_option maxRecDepth 65536 in
theorem w_c0 : (Jvm.Cond.code x code maxLocals ret).before args0 about1 = true := code_word (m := ⟨1, 1⟩) (meth := k1m1) (c := k1c1) (by decide +kernel) rfl rfl rfl (by decide +kernel)
set_option maxRecDepth 65536 in
theorem w_c1 : (Jvm.Cond.code ({ cls := "com/example/proofwright/proofwright/multisig/VarintReader", name := "<init>", desc := "([BI)V" } : Jvm.MethodName) prog_34_method_2_code (3 : Nat) (Option.none : Option Jvm.ClassFile.FieldType)).before args0 about1 = true := code_word (m := ⟨2, 0⟩) (meth := k2m0) (c := k2c0) (by decide +kernel) rfl rfl rfl (by decide +kernel)
set_option maxRecDepth 65536 in
theorem w_c2 : (Jvm.Cond.code ({ cls := "java/lang/Object", name := "<init>", desc := "()V" } : Jvm.MethodName) object_method_1_code (1 : Nat) (Option.none : Option Jvm.ClassFile.FieldType)).before args0 about1 = true := code_word (m := ⟨0, 0⟩) (meth := k0m0) (c := k0c0) (by decide +kernel) rfl rfl rfl (by decide +kernel)
set_option maxRecDepth 65536 in
theorem w_c3 : (Jvm.Cond.code ({ cls := "com/example/proofwright/proofwright/multisig/VarintReader", name := "hasMore", desc := "()Z" } : Jvm.MethodName) prog_34_method_3_code (1 : Nat) (Option.some Jvm.ClassFile.FieldType.boolean)).before args0 about1 = true := code_word (m := ⟨2, 1⟩) (meth := k2m1) (c := k2c1) (by decide +kernel) rfl rfl rfl (by decide +kernel)
set_option maxRecDepth 65536 in
theorem w_c4 : (Jvm.Cond.code ({ cls := "com/example/proofwright/proofwright/multisig/VarintReader", name := "left", desc := "()I" } : Jvm.MethodName) prog_34_method_8_code (1 : Nat) (Option.some Jvm.ClassFile.FieldType.int)).before args0 about1 = true := code_word (m := ⟨2, 3⟩) (meth := k2m3) (c := k2c3) (by decide +kernel) rfl rfl rfl (by decide +kernel)
set_option maxRecDepth 65536 in
theorem w_c5 : (Jvm.Cond.code ({ cls := "com/example/proofwright/proofwright/multisig/VarintReader", name := "position", desc := "()I" } : Jvm.MethodName) prog_34_method_7_code (1 : Nat) (Option.some Jvm.ClassFile.FieldType.int)).before args0 about1 = true := code_word (m := ⟨2, 2⟩) (meth := k2m2) (c := k2c2) (by decide +kernel) rfl rfl rfl (by decide +kernel)
def codes1 : List Jvm.Cond := [Jvm.Cond.code x code maxLocals ret, Jvm.Cond.code ({ cls := "com/example/proofwright/proofwright/multisig/VarintReader", name := "<init>", desc := "([BI)V" } : Jvm.MethodName) prog_34_method_2_code (3 : Nat) (Option.none : Option Jvm.ClassFile.FieldType), Jvm.Cond.code ({ cls := "java/lang/Object", name := "<init>", desc := "()V" } : Jvm.MethodName) object_method_1_code (1 : Nat) (Option.none : Option Jvm.ClassFile.FieldType), Jvm.Cond.code ({ cls := "com/example/proofwright/proofwright/multisig/VarintReader", name := "hasMore", desc := "()Z" } : Jvm.MethodName) prog_34_method_3_code (1 : Nat) (Option.some Jvm.ClassFile.FieldType.boolean), Jvm.Cond.code ({ cls := "com/example/proofwright/proofwright/multisig/VarintReader", name := "left", desc := "()I" } : Jvm.MethodName) prog_34_method_8_code (1 : Nat) (Option.some Jvm.ClassFile.FieldType.int), Jvm.Cond.code ({ cls := "com/example/proofwright/proofwright/multisig/VarintReader", name := "position", desc := "()I" } : Jvm.MethodName) prog_34_method_7_code (1 : Nat) (Option.some Jvm.ClassFile.FieldType.int)]
set_option maxRecDepth 65536 in
theorem codes_eq : words1.filter isCode = codes1 := rfl
theorem w_codes : ∀ c ∈ words1.filter isCode, c.before args0 about1 = true := by
  rw [codes_eq]
  intro c hc
  simp only [codes1, List.mem_cons, List.not_mem_nil, or_false] at hc
  rcases hc with rfl | rfl | rfl | rfl | rfl | rfl
  · exact w_c0
  · exact w_c1
  · exact w_c2
  · exact w_c3
  · exact w_c4
  · exact w_c5
set_option maxRecDepth 65536 in
theorem w_t1 : (words1.take 24).all (fun c => isCode c || c.before args0 about1) = true := by decide +kernel
set_option maxRecDepth 65536 in
theorem w_t2 : (words1.drop 24).all (fun c => isCode c || c.before args0 about1) = true := by decide +kernel
theorem w_tables : (allAtoms (Jvm.Cond.code x code maxLocals ret :: tables_1)).before args0 about1 = true := by
  rw [allAtoms_all]
  show words1.all (fun c => c.before args0 about1) = true
  refine all_split ?_ w_codes
  rw [← List.take_append_drop 24 words1, List.all_append, w_t1, w_t2]
  rfl
set_option maxRecDepth 65536 in
theorem w_case : (Jvm.Cond.and given_1 narrow_1).before args0 about1 = true := by decide +kernel
theorem w_applies : (headSpec (Jvm.Cond.code x code maxLocals ret :: tables_1) room_1).applies x e0.platform about1 = true :=
  (Spec.applies_iff w_frames).mpr ⟨w_running, w_runnable, w_alone, w_named, w_hears, w_ripe, w_room, w_tables⟩
theorem atStart : AtStart classFile x code maxLocals ret World_1 tables_1 room_1 Calls_1 rest_1 Pre_1 launch0 p0 e0 about1 theMethod args0 below0 :=
  ⟨lists_1, trivial, launch0.admits_env _ _ _, launch0.least_env, fairChoices_fair.cas, fairChoices_fair.clock, w_frames, w_args, w_heap, w_applies, trivial, trivial, w_case⟩
end start1
theorem witness_1 : WitnessClaimed_1 := ⟨start1.p0, start1.e0, start1.about1, start1.theMethod, start1.args0, start1.below0, start1.atStart⟩
end Jvm.Pilot.@@N@@
