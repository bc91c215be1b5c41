import JvmDerived
import JvmDerived.Pilot.@@N@@Statement
import JvmDerived.Pilot.@@N@@Code
set_option linter.unusedVariables false
set_option linter.unusedSimpArgs false
namespace Jvm.Pilot.@@N@@
open Jvm Jvm.ClassFile Sem Op Lib Jvm.Free Jvm.Stand Jvm.LawKit Jvm.RoadKit Bundle Jvm.Pilot.@@N@@.Jvm.D
/-- from the state st the run ends, of which Q says what it leaves -/
def own_Ends (tb : Tables) (e : Env) (below : List Frame) (s : State) (Q : Option Value → Heap → List Loc → Prop) (C S : Nat) (st : State) : Prop :=
  ∃ t o, Steps tb e below st t ∧ t.status = .running ∧ Ended t below o ∧ ∃ v L, o = .returned v ∧ Q v t.heap L ∧ FrameEnd s o t L C S
theorem own_step {tb : Tables} {e : Env} {below : List Frame} {s : State} {Q : Option Value → Heap → List Loc → Prop} {C S : Nat} {st st' : State}
    (h : ∀ t, Steps tb e below st' t → Steps tb e below st t) (k : own_Ends tb e below s Q C S st') : own_Ends tb e below s Q C S st := by
  obtain ⟨t, o, h1, h2⟩ := k
  exact ⟨t, o, h t h1, h2⟩
section OwnRet
variable {p : Program} {l : Launch} {e : Env} {R : Room} {s : State} {m : MethodId} {args : Array Value} {below : List Frame} {meth : Method} {c : Code} {T : State} {locs : List Loc} {cells slots : Nat} {Q : Option Value → Heap → List Loc → Prop} {C S : Nat} {pc : Nat} {Ls : Array Slot} {rest : List Value}
theorem own_retW (X : Stand p l e R s m args below meth c T locs cells slots) (hx : p.tables.exec = Jvm.exec) {w : Value} {t : FieldType} {i : Instr} (hret : meth.sig.returnType = some t) (hn : narrow t w = w)
    (hi : (i = .ireturn ∧ (t = .int ∨ t = .boolean ∨ t = .byte ∨ t = .char ∨ t = .short) ∧ ∃ z, w = .int z) ∨ (i = .lreturn ∧ t = .long ∧ ∃ z, w = .long z) ∨ (i = .dreturn ∧ t = .double ∧ ∃ z, w = .double z) ∨ (i = .freturn ∧ t = .float ∧ ∃ z, w = .float z) ∨ (i = .areturn ∧ t.isReference = true ∧ w.isRef = true))
    (hd : decode c.code pc = .ok (i, 1)) (hlocks : meth.locks = false) (hq : Q (some w) T.heap locs) (hc : cells ≤ C) (hs : slots ≤ S) :
    own_Ends p.tables e below s Q C S (T.setTop (mkF m pc Ls (w :: rest))) := by
  obtain ⟨fs, hr, hrun, hended, hW, hsame⟩ := X.leave (v := some w) (fun h => by rw [hret] at h; cases h) hlocks
  exact ⟨_, _, retOut X hx hret hn hi hd hr, hrun, hended, _, _, rfl, hq, ⟨_, rfl⟩, hW, hsame.mono hc hs⟩
theorem own_retI (X : Stand p l e R s m args below meth c T locs cells slots) (hx : p.tables.exec = Jvm.exec) {z : Int32} (hret : meth.sig.returnType = some .int)
    (hd : decode c.code pc = .ok (.ireturn, 1)) (hlocks : meth.locks = false) (hq : Q (some (.int z)) T.heap locs) (hc : cells ≤ C) (hs : slots ≤ S) :
    own_Ends p.tables e below s Q C S (T.setTop (mkF m pc Ls (.int z :: rest))) :=
  own_retW X hx hret rfl (Or.inl ⟨rfl, Or.inl rfl, z, rfl⟩) hd hlocks hq hc hs
theorem own_retJ (X : Stand p l e R s m args below meth c T locs cells slots) (hx : p.tables.exec = Jvm.exec) {z : Int64} (hret : meth.sig.returnType = some .long)
    (hd : decode c.code pc = .ok (.lreturn, 1)) (hlocks : meth.locks = false) (hq : Q (some (.long z)) T.heap locs) (hc : cells ≤ C) (hs : slots ≤ S) :
    own_Ends p.tables e below s Q C S (T.setTop (mkF m pc Ls (.long z :: rest))) :=
  own_retW X hx hret rfl (Or.inr (Or.inl ⟨rfl, rfl, z, rfl⟩)) hd hlocks hq hc hs
theorem own_retR (X : Stand p l e R s m args below meth c T locs cells slots) (hx : p.tables.exec = Jvm.exec) {w : Value} {t : FieldType} (hret : meth.sig.returnType = some t) (ht : t.isReference = true) (hw : w.isRef = true) (hn : narrow t w = w)
    (hd : decode c.code pc = .ok (.areturn, 1)) (hlocks : meth.locks = false) (hq : Q (some w) T.heap locs) (hc : cells ≤ C) (hs : slots ≤ S) :
    own_Ends p.tables e below s Q C S (T.setTop (mkF m pc Ls (w :: rest))) :=
  own_retW X hx hret hn (Or.inr (Or.inr (Or.inr (Or.inr ⟨rfl, ht, hw⟩)))) hd hlocks hq hc hs
theorem own_retN (X : Stand p l e R s m args below meth c T locs cells slots) (hx : p.tables.exec = Jvm.exec) {z : Int32} {t : FieldType} (hret : meth.sig.returnType = some t) (ht : t = .boolean ∨ t = .byte ∨ t = .char ∨ t = .short)
    (hd : decode c.code pc = .ok (.ireturn, 1)) (hlocks : meth.locks = false) (hq : Q (some (.int (nar t z))) T.heap locs) (hc : cells ≤ C) (hs : slots ≤ S) :
    own_Ends p.tables e below s Q C S (T.setTop (mkF m pc Ls (.int z :: rest))) := by
  obtain ⟨fs, hr, hrun, hended, hW, hsame⟩ := X.leave (v := some (.int (nar t z))) (fun h => by rw [hret] at h; cases h) hlocks
  exact ⟨_, _, retN X hx hret ht hd hr, hrun, hended, _, _, rfl, hq, ⟨_, rfl⟩, hW, hsame.mono hc hs⟩
theorem own_ret0 (X : Stand p l e R s m args below meth c T locs cells slots) (hx : p.tables.exec = Jvm.exec) (hret : meth.sig.returnType = none)
    (hd : decode c.code pc = .ok (.return_, 1)) (hlocks : meth.locks = false) (hq : Q none T.heap locs) (hc : cells ≤ C) (hs : slots ≤ S) :
    own_Ends p.tables e below s Q C S (T.setTop (mkF m pc Ls [])) := by
  obtain ⟨fs, hr, hrun, hended, hW, hsame⟩ := X.leave (v := none) (fun _ => rfl) hlocks
  exact ⟨_, _, X.returnOut hx hret hd hr, hrun, hended, _, _, rfl, hq, ⟨_, rfl⟩, hW, hsame.mono hc hs⟩
end OwnRet
theorem own_idx (b n : Int32) (hn : 0 < n.toInt) : ¬ ((b &&& 2147483647) % n) < 0 ∧ ((b &&& 2147483647) % n) < n := by
  have h1 := c_and b 2147483647 (by decide)
  have h2 := (c_iremV (b &&& 2147483647) n).1 h1.1 hn
  constructor
  · rw [Int32.lt_iff_toInt_lt]; show ¬ _ < (0 : Int); omega
  · rw [Int32.lt_iff_toInt_lt]; omega
theorem own_small (v : Int32) (k : Nat) (hk : k < 2147483648) (h1 : ¬ v < 0) (h2 : v < Int32.ofNat k) : ∃ n : Fin k, v = Int32.ofNat n.1 := by
  rw [Int32.lt_iff_toInt_lt] at h1 h2
  rw [Int32.toInt_ofNat_of_lt hk] at h2
  have a : 0 ≤ v.toInt := by simpa using h1
  refine ⟨⟨v.toInt.toNat, by omega⟩, ?_⟩
  apply Int32.toInt_inj.mp
  rw [Int32.toInt_ofNat_of_lt (by show v.toInt.toNat < _; omega)]
  show v.toInt = ((v.toInt.toNat : Nat) : Int)
  omega
theorem own_fld {s : State} {args : Array Value} {t : Term} {a : Addr} {C n d : String} {k : Int32} (ev : t.eval args s none [] s = some (.ref a)) (h : (Jvm.Cond.eq (.field t C n d) (.int k)).value args s none s [] = some true) : Fld s s.heap a C n d (.int k) := by
  obtain ⟨x, y, h1, h2, h3, h4⟩ := cmp_v (Or.inl h)
  rw [fld_at ev] at h1
  have h5 : y = .int k := by have := h2.symm.trans (Term.int_eval k); exact Option.some.inj this
  subst h5
  obtain ⟨z, rfl⟩ := h4
  have q : (Jvm.Cond.eq (.field t C n d) (.int k)).value args s none s [] = some (decide (z = k)) := Cond.eq_ints ((fld_at ev).trans h1) (Term.int_eval k)
  have : z = k := gotT q h
  subst this
  exact Fld.start h1
def own_r1 (o0_1 : Addr) (w_READ : Addr) (w_WRITE : Addr) : Int32 := (if o0_1 = w_READ then (1 : Int32) else (if o0_1 = w_WRITE then (1 : Int32) else (0 : Int32)))
theorem d1_0 : decode prog_23_method_5_code 0 = .ok (.aload_n 0, 1) := by decide +kernel
theorem d1_1 : decode prog_23_method_5_code 1 = .ok (.getstatic 3, 3) := by decide +kernel
theorem d1_4 : decode prog_23_method_5_code 4 = .ok (.if_acmp .eq 10, 3) := by decide +kernel
theorem d1_7 : decode prog_23_method_5_code 7 = .ok (.aload_n 0, 1) := by decide +kernel
theorem d1_8 : decode prog_23_method_5_code 8 = .ok (.getstatic 7, 3) := by decide +kernel
theorem d1_11 : decode prog_23_method_5_code 11 = .ok (.if_acmp .ne 7, 3) := by decide +kernel
theorem d1_14 : decode prog_23_method_5_code 14 = .ok (.iconst 1, 1) := by decide +kernel
theorem d1_15 : decode prog_23_method_5_code 15 = .ok (.goto 4, 3) := by decide +kernel
theorem d1_18 : decode prog_23_method_5_code 18 = .ok (.iconst 0, 1) := by decide +kernel
theorem d1_19 : decode prog_23_method_5_code 19 = .ok (.ireturn, 1) := by decide +kernel
theorem pn_0 : plainName "com/example/serigraph/serigraph/history/OperationKind" = true := by first | (simp [plainName, overriddenIn]; done) | decide +kernel
theorem ef_1 (m : MethodId) (o0_1 : Addr) : entryFrame m #[(.ref o0_1)] 1 = mkF m 0 #[.val (.ref o0_1)] [] := by first | (simp [entryFrame, mkF, argsToLocals, Value.category]; done) | rfl
def Q1 (Z : State) (o0_1 : Addr) (w_READ : Addr) (w_WRITE : Addr) (h0 : Heap) (n0 : Nat) (v : Option Value) (h : Heap) (L : List Loc) : Prop := v = some (.int (own_r1 o0_1 w_READ w_WRITE)) ∧ Fr n0 L ∧ h = h0
set_option maxRecDepth 65536 in
set_option maxHeartbeats 40000000 in
theorem rm1 (l : Launch) (Z : State) (a0 : Array Value) (hw : ∀ d ∈ tables_1, d.before a0 Z = true) (ws : List Jvm.Cond) (o0_1 : Addr) (w_READ : Addr) (w_WRITE : Addr) (h0 : Heap) (n0 : Nat) (O0 : Old Z n0 h0) (S_READ : Sta Z Z.heap "com/example/serigraph/serigraph/history/OperationKind" "READ" "Lcom/example/serigraph/serigraph/history/OperationKind;" (.ref w_READ)) (S_WRITE : Sta Z Z.heap "com/example/serigraph/serigraph/history/OperationKind" "WRITE" "Lcom/example/serigraph/serigraph/history/OperationKind;" (.ref w_WRITE)) :
    MetFree l (⟨"com/example/serigraph/serigraph/history/OperationKind", "hasItem", "()Z"⟩ : MethodName) (head1 (Jvm.Cond.code (⟨"com/example/serigraph/serigraph/history/OperationKind", "hasItem", "()Z"⟩ : MethodName) prog_23_method_5_code 1 (some .boolean) :: ws) ({ frames := 0, cells := 0, slots := 0, locals := 0 } : Room)) (fun a U => a = #[(.ref o0_1)] ∧ Z.Warmed39 U.vm ∧ U.heap = h0) (fun _ _ _ _ _ => True) (fun _ U o U' => ∃ v L, o = .returned v ∧ Q1 Z o0_1 w_READ w_WRITE h0 n0 v U'.heap L ∧ FrameEnd U o U' L ({ frames := 0, cells := 0, slots := 0, locals := 0 } : Room).cells ({ frames := 0, cells := 0, slots := 0, locals := 0 } : Room).slots) := by
  refine MetFree.of_bodySF (plainFor_of_name pn_0) hisR ?_
  intro p e s m args below meth c s₁ Bd hml0 hP hK
  obtain ⟨rfl, hZ, hh⟩ := hP
  have hx := Bd.exec
  have hby := Bd.bytes
  have hnl := BodyLoose.notSynchronized Bd
  have hml : c.maxLocals = 1 := hml0
  have hown : s.vm.findClass "com/example/serigraph/serigraph/history/OperationKind" = some m.cls := findClass_of_methodNamed Bd.named
  have hnm := (name_of_methodNamed Bd.named Bd.method).1
  have X0 : Stand p l e ({ frames := 0, cells := 0, slots := 0, locals := 0 } : Room) s m #[(.ref o0_1)] below meth c s₁ [] 0 0 := Stand.of_body Bd
  have e0 : s₁.heap = h0 := by rw [← hh, Bd.state]; rfl
  have N0 := Fr.nil n0
  show own_Ends p.tables e below s (Q1 Z o0_1 w_READ w_WRITE h0 n0) 0 0 (s₁.setTop (entryFrame m #[(.ref o0_1)] 1))
  rw [ef_1 m o0_1]
  show own_Ends p.tables e below s _ _ _ (s₁.setTop (mkF m 0 #[.val (.ref o0_1)] []))
  refine own_step (fun t k => XS.aloadN X0.here hx rfl (hb hby d1_0) rfl rfl k) ?_
  show own_Ends p.tables e below s _ _ _ (s₁.setTop (mkF m 1 #[.val (.ref o0_1)] [(.ref o0_1)]))
  obtain ⟨T1, X1, e1, st1⟩ := getS2 X0 hx hZ hown (host := "") (Or.inl (hw _ (List.mem_of_getElem? (i := 8) rfl))) Via.refl e0 (S_READ.ext O0.2) (g := (mkF m 1 #[.val (.ref o0_1)] [(.ref o0_1)])) rfl (hb hby d1_1)
  refine own_step (fun t k => st1 _ k) ?_
  show own_Ends p.tables e below s _ _ _ (T1.setTop (mkF m 4 #[.val (.ref o0_1)] [(.ref w_READ), (.ref o0_1)]))
  by_cases ha4_2 : o0_1 = w_READ
  · skip
    refine own_step (fun t k => Jvm.RoadKit.acmp (g := (mkF m 4 #[.val (.ref o0_1)] [(.ref w_READ), (.ref o0_1)])) X1 hx rfl rfl rfl (pc0 := 4) (pc' := 14) (same := true) rfl (hb hby d1_4) rfl (decide_eq_true (congrArg Value.ref ha4_2)) (by decide) (by decide) k) ?_
    show own_Ends p.tables e below s _ _ _ (T1.setTop (mkF m 14 #[.val (.ref o0_1)] []))
    refine own_step (fun t k => XS.iconst X1.here hx rfl (hb hby d1_14) k) ?_
    show own_Ends p.tables e below s _ _ _ (T1.setTop (mkF m 15 #[.val (.ref o0_1)] [(.int (1 : Int32))]))
    refine own_step (fun t k => XS.goto X1.here hx rfl (pc0 := 15) (pc' := 19) rfl (hb hby d1_15) (by decide) (by decide) k) ?_
    show own_Ends p.tables e below s _ _ _ (T1.setTop (mkF m 19 #[.val (.ref o0_1)] [(.int (1 : Int32))]))
    exact own_retN X1 hx (t := .boolean) Bd.returns (by simp) (hb hby d1_19) hnl (by rw [e1]; exact ⟨(congrArg (fun z => some (Value.int z)) (Eq.symm (show (own_r1 o0_1 w_READ w_WRITE) = (1 : Int32) from by unfold own_r1; rw [if_pos ha4_2]))), N0, rfl⟩) (by decide) (by decide)
  · skip
    refine own_step (fun t k => Jvm.RoadKit.acmp (g := (mkF m 4 #[.val (.ref o0_1)] [(.ref w_READ), (.ref o0_1)])) X1 hx rfl rfl rfl (pc0 := 4) (pc' := 7) (same := false) rfl (hb hby d1_4) rfl (decide_eq_false fun q => ha4_2 (Value.ref.inj q)) (by decide) (by decide) k) ?_
    show own_Ends p.tables e below s _ _ _ (T1.setTop (mkF m 7 #[.val (.ref o0_1)] []))
    refine own_step (fun t k => XS.aloadN X1.here hx rfl (hb hby d1_7) rfl rfl k) ?_
    show own_Ends p.tables e below s _ _ _ (T1.setTop (mkF m 8 #[.val (.ref o0_1)] [(.ref o0_1)]))
    obtain ⟨T3, X3, e3, st3⟩ := getS2 X1 hx hZ hown (host := "") (Or.inl (hw _ (List.mem_of_getElem? (i := 11) rfl))) Via.refl e1 (S_WRITE.ext O0.2) (g := (mkF m 8 #[.val (.ref o0_1)] [(.ref o0_1)])) rfl (hb hby d1_8)
    refine own_step (fun t k => st3 _ k) ?_
    show own_Ends p.tables e below s _ _ _ (T3.setTop (mkF m 11 #[.val (.ref o0_1)] [(.ref w_WRITE), (.ref o0_1)]))
    by_cases ha11_4 : o0_1 = w_WRITE
    · skip
      refine own_step (fun t k => Jvm.RoadKit.acmp (g := (mkF m 11 #[.val (.ref o0_1)] [(.ref w_WRITE), (.ref o0_1)])) X3 hx rfl rfl rfl (pc0 := 11) (pc' := 14) (same := true) rfl (hb hby d1_11) rfl (decide_eq_true (congrArg Value.ref ha11_4)) (by decide) (by decide) k) ?_
      show own_Ends p.tables e below s _ _ _ (T3.setTop (mkF m 14 #[.val (.ref o0_1)] []))
      refine own_step (fun t k => XS.iconst X3.here hx rfl (hb hby d1_14) k) ?_
      show own_Ends p.tables e below s _ _ _ (T3.setTop (mkF m 15 #[.val (.ref o0_1)] [(.int (1 : Int32))]))
      refine own_step (fun t k => XS.goto X3.here hx rfl (pc0 := 15) (pc' := 19) rfl (hb hby d1_15) (by decide) (by decide) k) ?_
      show own_Ends p.tables e below s _ _ _ (T3.setTop (mkF m 19 #[.val (.ref o0_1)] [(.int (1 : Int32))]))
      exact own_retN X3 hx (t := .boolean) Bd.returns (by simp) (hb hby d1_19) hnl (by rw [e3]; exact ⟨(congrArg (fun z => some (Value.int z)) (Eq.symm (show (own_r1 o0_1 w_READ w_WRITE) = (1 : Int32) from by unfold own_r1; rw [if_neg ha4_2, if_pos ha11_4]))), N0, rfl⟩) (by decide) (by decide)
    · skip
      refine own_step (fun t k => Jvm.RoadKit.acmp (g := (mkF m 11 #[.val (.ref o0_1)] [(.ref w_WRITE), (.ref o0_1)])) X3 hx rfl rfl rfl (pc0 := 11) (pc' := 18) (same := false) rfl (hb hby d1_11) rfl (decide_eq_false fun q => ha11_4 (Value.ref.inj q)) (by decide) (by decide) k) ?_
      show own_Ends p.tables e below s _ _ _ (T3.setTop (mkF m 18 #[.val (.ref o0_1)] []))
      refine own_step (fun t k => XS.iconst X3.here hx rfl (hb hby d1_18) k) ?_
      show own_Ends p.tables e below s _ _ _ (T3.setTop (mkF m 19 #[.val (.ref o0_1)] [(.int (0 : Int32))]))
      exact own_retN X3 hx (t := .boolean) Bd.returns (by simp) (hb hby d1_19) hnl (by rw [e3]; exact ⟨(congrArg (fun z => some (Value.int z)) (Eq.symm (show (own_r1 o0_1 w_READ w_WRITE) = (0 : Int32) from by unfold own_r1; rw [if_neg ha4_2, if_neg ha11_4]))), N0, rfl⟩) (by decide) (by decide)
theorem pd_0 : parseMethodDescriptor "()Z" = some ⟨[], some .boolean⟩ := by decide +kernel
theorem pn_1 : plainName "com/example/serigraph/serigraph/history/OperationKindHasItemPinLaw" = true := by first | (simp [plainName, overriddenIn]; done) | decide +kernel
theorem ef_0 (m : MethodId) (x0_0 : Int32) : entryFrame m #[(.int x0_0)] maxLocals = mkF m 0 #[.val (.int x0_0), .unset, .unset, .unset] [] := by first | (simp [entryFrame, mkF, argsToLocals, Value.category, maxLocals]; done) | rfl
def Q0 (Z : State) (w_READ : Addr) (w_WRITE : Addr) (w_COMMIT : Addr) (w_ABORT : Addr) (x0_0 : Int32) (h0 : Heap) (n0 : Nat) (v : Option Value) (h : Heap) (L : List Loc) : Prop := v = some (.int 1) ∧ Fr n0 L
set_option maxRecDepth 65536 in
set_option maxHeartbeats 40000000 in
theorem rm0 (l : Launch) (Z : State) (a0 : Array Value) (hw : ∀ d ∈ tables_1, d.before a0 Z = true) (ws : List Jvm.Cond) (w_READ : Addr) (w_WRITE : Addr) (w_COMMIT : Addr) (w_ABORT : Addr) (x0_0 : Int32) (h0 : Heap) (n0 : Nat) (O0 : Old Z n0 h0) (ne_w_COMMIT_w_READ : w_COMMIT ≠ w_READ) (ne_w_COMMIT_w_WRITE : w_COMMIT ≠ w_WRITE) (ne_w_ABORT_w_READ : w_ABORT ≠ w_READ) (ne_w_ABORT_w_WRITE : w_ABORT ≠ w_WRITE) (S_READ : Sta Z Z.heap "com/example/serigraph/serigraph/history/OperationKind" "READ" "Lcom/example/serigraph/serigraph/history/OperationKind;" (.ref w_READ)) (S_WRITE : Sta Z Z.heap "com/example/serigraph/serigraph/history/OperationKind" "WRITE" "Lcom/example/serigraph/serigraph/history/OperationKind;" (.ref w_WRITE)) (E_w_READ : Exa Z h0 w_READ "com/example/serigraph/serigraph/history/OperationKind") (E_w_WRITE : Exa Z h0 w_WRITE "com/example/serigraph/serigraph/history/OperationKind") (S_COMMIT : Sta Z Z.heap "com/example/serigraph/serigraph/history/OperationKind" "COMMIT" "Lcom/example/serigraph/serigraph/history/OperationKind;" (.ref w_COMMIT)) (E_w_COMMIT : Exa Z h0 w_COMMIT "com/example/serigraph/serigraph/history/OperationKind") (S_ABORT : Sta Z Z.heap "com/example/serigraph/serigraph/history/OperationKind" "ABORT" "Lcom/example/serigraph/serigraph/history/OperationKind;" (.ref w_ABORT)) (E_w_ABORT : Exa Z h0 w_ABORT "com/example/serigraph/serigraph/history/OperationKind") :
    MetFree l x (head1 (Jvm.Cond.code x code maxLocals ret :: ws) room_1) (fun a U => a = #[(.int x0_0)] ∧ Z.Warmed39 U.vm ∧ U.heap = h0) (fun _ _ _ _ _ => True) (fun _ U o U' => ∃ v L, o = .returned v ∧ Q0 Z w_READ w_WRITE w_COMMIT w_ABORT x0_0 h0 n0 v U'.heap L ∧ FrameEnd U o U' L 0 0) := by
  refine MetFree.of_bodySF (plainFor_of_name pn_1) hisR ?_
  intro p e s m args below meth c s₁ Bd hml0 hP hK
  obtain ⟨rfl, hZ, hh⟩ := hP
  have hx := Bd.exec
  have hby := Bd.bytes
  have hnl := BodyLoose.notSynchronized Bd
  have hml : c.maxLocals = 4 := hml0
  have hown : s.vm.findClass "com/example/serigraph/serigraph/history/OperationKindHasItemPinLaw" = some m.cls := findClass_of_methodNamed Bd.named
  have hnm := (name_of_methodNamed Bd.named Bd.method).1
  have X0 : Stand p l e room_1 s m #[(.int x0_0)] below meth c s₁ [] 0 0 := Stand.of_body Bd
  have e0 : s₁.heap = h0 := by rw [← hh, Bd.state]; rfl
  have N0 := Fr.nil n0
  show own_Ends p.tables e below s (Q0 Z w_READ w_WRITE w_COMMIT w_ABORT x0_0 h0 n0) 0 0 (s₁.setTop (entryFrame m #[(.int x0_0)] maxLocals))
  rw [ef_0 m x0_0]
  show own_Ends p.tables e below s _ _ _ (s₁.setTop (mkF m 0 #[.val (.int x0_0), .unset, .unset, .unset] []))
  refine own_step (fun t k => XS.iloadN X0.here hx rfl (hb hby at_0) rfl k) ?_
  show own_Ends p.tables e below s _ _ _ (s₁.setTop (mkF m 1 #[.val (.int x0_0), .unset, .unset, .unset] [(.int x0_0)]))
  refine own_step (fun t k => XS.iconst X0.here hx rfl (hb hby at_1) k) ?_
  show own_Ends p.tables e below s _ _ _ (s₁.setTop (mkF m 2 #[.val (.int x0_0), .unset, .unset, .unset] [(.int (3 : Int32)), (.int x0_0)]))
  refine own_step (fun t k => XS.iand X0.here hx rfl (hb hby at_2) rfl k) ?_
  show own_Ends p.tables e below s _ _ _ (s₁.setTop (mkF m 3 #[.val (.int x0_0), .unset, .unset, .unset] [(.int (x0_0 &&& (3 : Int32)))]))
  refine own_step (fun t k => XS.istoreN X0.here hx rfl (hb hby at_3) rfl (l' := #[.val (.int x0_0), .val (.int (x0_0 &&& (3 : Int32))), .unset, .unset]) rfl k) ?_
  show own_Ends p.tables e below s _ _ _ (s₁.setTop (mkF m 4 #[.val (.int x0_0), .val (.int (x0_0 &&& (3 : Int32))), .unset, .unset] []))
  refine own_step (fun t k => XS.iloadN X0.here hx rfl (hb hby at_4) rfl k) ?_
  show own_Ends p.tables e below s _ _ _ (s₁.setTop (mkF m 5 #[.val (.int x0_0), .val (.int (x0_0 &&& (3 : Int32))), .unset, .unset] [(.int (x0_0 &&& (3 : Int32)))]))
  by_cases hc5_1 : (x0_0 &&& (3 : Int32)) = (0 : Int32)
  · skip
    refine own_step (fun t k => XS.ifNo X0.here hx rfl (hb hby at_5) rfl ((if0 _ _).trans (teq hc5_1).2) k) ?_
    show own_Ends p.tables e below s _ _ _ (s₁.setTop (mkF m 8 #[.val (.int x0_0), .val (.int (x0_0 &&& (3 : Int32))), .unset, .unset] []))
    obtain ⟨T2, X2, e2, st2⟩ := getS2 X0 hx hZ hown (host := "") (Or.inl (hw _ (List.mem_of_getElem? (i := 0) rfl))) Via.refl e0 (S_READ.ext O0.2) (g := (mkF m 8 #[.val (.int x0_0), .val (.int (x0_0 &&& (3 : Int32))), .unset, .unset] [])) rfl (hb hby at_8)
    refine own_step (fun t k => st2 _ k) ?_
    show own_Ends p.tables e below s _ _ _ (T2.setTop (mkF m 11 #[.val (.int x0_0), .val (.int (x0_0 &&& (3 : Int32))), .unset, .unset] [(.ref w_READ)]))
    refine own_step (fun t k => XS.astoreN X2.here hx rfl (hb hby at_11) rfl rfl (l' := #[.val (.int x0_0), .val (.int (x0_0 &&& (3 : Int32))), .val (.ref w_READ), .unset]) rfl k) ?_
    show own_Ends p.tables e below s _ _ _ (T2.setTop (mkF m 12 #[.val (.int x0_0), .val (.int (x0_0 &&& (3 : Int32))), .val (.ref w_READ), .unset] []))
    refine own_step (fun t k => XS.iconst X2.here hx rfl (hb hby at_12) k) ?_
    show own_Ends p.tables e below s _ _ _ (T2.setTop (mkF m 13 #[.val (.int x0_0), .val (.int (x0_0 &&& (3 : Int32))), .val (.ref w_READ), .unset] [(.int (1 : Int32))]))
    refine own_step (fun t k => XS.istoreN X2.here hx rfl (hb hby at_13) rfl (l' := #[.val (.int x0_0), .val (.int (x0_0 &&& (3 : Int32))), .val (.ref w_READ), .val (.int (1 : Int32))]) rfl k) ?_
    show own_Ends p.tables e below s _ _ _ (T2.setTop (mkF m 14 #[.val (.int x0_0), .val (.int (x0_0 &&& (3 : Int32))), .val (.ref w_READ), .val (.int (1 : Int32))] []))
    refine own_step (fun t k => XS.goto X2.here hx rfl (pc0 := 14) (pc' := 51) rfl (hb hby at_14) (by decide) (by decide) k) ?_
    show own_Ends p.tables e below s _ _ _ (T2.setTop (mkF m 51 #[.val (.int x0_0), .val (.int (x0_0 &&& (3 : Int32))), .val (.ref w_READ), .val (.int (1 : Int32))] []))
    refine own_step (fun t k => XS.aloadN X2.here hx rfl (hb hby at_51) rfl rfl k) ?_
    show own_Ends p.tables e below s _ _ _ (T2.setTop (mkF m 52 #[.val (.int x0_0), .val (.int (x0_0 &&& (3 : Int32))), .val (.ref w_READ), .val (.int (1 : Int32))] [(.ref w_READ)]))
    obtain ⟨cq3, kq3, q3a, q3b, q3c⟩ := isOf hZ e2 E_w_READ
    obtain ⟨_, _, ⟨T3, L3, k3, n3⟩, -, X3, ⟨Lc3, hQ3, l3, y3, z3⟩, st3⟩ := X2.virtualBack hx (y := (⟨"com/example/serigraph/serigraph/history/OperationKind", "hasItem", "()Z"⟩ : MethodName)) (z := (⟨"com/example/serigraph/serigraph/history/OperationKind", "hasItem", "()Z"⟩ : MethodName)) hown (mvT hZ (hw _ (List.mem_of_getElem? (i := 3) rfl))) (mvT hZ (hw _ (List.mem_of_getElem? (i := 4) rfl))) (notFace_of_selects (args := #[]) (mvT hZ (hw _ (List.mem_of_getElem? (i := 6) rfl)))) (mvT hZ (hw _ (List.mem_of_getElem? (i := 6) rfl))) (mvT hZ (hw _ (List.mem_of_getElem? (i := 5) rfl))) (by decide) (backOf (W := 0) (rm1 l Z a0 hw [] w_READ w_READ w_WRITE h0 n0 O0 S_READ S_WRITE) hZ (hw _ (List.mem_of_getElem? (i := 7) rfl)) (hw _ (List.mem_of_getElem? (i := 1) rfl)) (by decide) (by decide)) q3a q3c (g := (mkF m 52 #[.val (.int x0_0), .val (.int (x0_0 &&& (3 : Int32))), .val (.ref w_READ), .val (.int (1 : Int32))] [(.ref w_READ)])) rfl (by rw [hml]; rfl) (Steps.refl _) (argsL := []) (rest := []) (lenOf pd_0 rfl) rfl (by show 2 * 0 + _ ≤ _; exact Nat.le_of_eq rfl) (hb hby at_52) (fun _ _ => ⟨rfl, e2, (by decide : 0 + 0 ≤ _), (by decide : 0 + 0 ≤ _)⟩)
    dsimp only [Pt.U, Pt.locs, Pt.cells, Pt.slots] at X3 l3 y3 z3 st3 hQ3
    subst l3 y3 z3
    obtain ⟨rfl, N3q, e3⟩ := hQ3
    refine own_step (fun t k => st3.trans k) ?_
    have N4 := Fr.app N0 N3q
    show own_Ends p.tables e below s _ _ _ (T3.setTop (mkF m 55 #[.val (.int x0_0), .val (.int (x0_0 &&& (3 : Int32))), .val (.ref w_READ), .val (.int (1 : Int32))] [(.int (own_r1 w_READ w_READ w_WRITE))]))
    refine own_step (fun t k => XS.iloadN X3.here hx rfl (hb hby at_55) rfl k) ?_
    show own_Ends p.tables e below s _ _ _ (T3.setTop (mkF m 56 #[.val (.int x0_0), .val (.int (x0_0 &&& (3 : Int32))), .val (.ref w_READ), .val (.int (1 : Int32))] [(.int (1 : Int32)), (.int (own_r1 w_READ w_READ w_WRITE))]))
    by_cases hc56_5 : (own_r1 w_READ w_READ w_WRITE) = (1 : Int32)
    · skip
      refine own_step (fun t k => XS.icmpNo X3.here hx rfl (hb hby at_56) rfl (teq hc56_5).2 k) ?_
      show own_Ends p.tables e below s _ _ _ (T3.setTop (mkF m 59 #[.val (.int x0_0), .val (.int (x0_0 &&& (3 : Int32))), .val (.ref w_READ), .val (.int (1 : Int32))] []))
      refine own_step (fun t k => XS.iconst X3.here hx rfl (hb hby at_59) k) ?_
      show own_Ends p.tables e below s _ _ _ (T3.setTop (mkF m 60 #[.val (.int x0_0), .val (.int (x0_0 &&& (3 : Int32))), .val (.ref w_READ), .val (.int (1 : Int32))] [(.int (1 : Int32))]))
      refine own_step (fun t k => XS.goto X3.here hx rfl (pc0 := 60) (pc' := 64) rfl (hb hby at_60) (by decide) (by decide) k) ?_
      show own_Ends p.tables e below s _ _ _ (T3.setTop (mkF m 64 #[.val (.int x0_0), .val (.int (x0_0 &&& (3 : Int32))), .val (.ref w_READ), .val (.int (1 : Int32))] [(.int (1 : Int32))]))
      exact own_retN X3 hx (t := .boolean) Bd.returns (by simp) (hb hby at_64) hnl (by rw [e3]; exact ⟨rfl, N4⟩) (by decide) (by decide)
    · skip
      refine own_step (fun t k => XS.icmpYes X3.here hx rfl (pc0 := 56) (pc' := 63) rfl (hb hby at_56) rfl (feq hc56_5).2 (by decide) (by decide) k) ?_
      show own_Ends p.tables e below s _ _ _ (T3.setTop (mkF m 63 #[.val (.int x0_0), .val (.int (x0_0 &&& (3 : Int32))), .val (.ref w_READ), .val (.int (1 : Int32))] []))
      refine own_step (fun t k => XS.iconst X3.here hx rfl (hb hby at_63) k) ?_
      show own_Ends p.tables e below s _ _ _ (T3.setTop (mkF m 64 #[.val (.int x0_0), .val (.int (x0_0 &&& (3 : Int32))), .val (.ref w_READ), .val (.int (1 : Int32))] [(.int (0 : Int32))]))
      exfalso
      apply hc56_5
      simp [own_r1, ne_w_COMMIT_w_READ, ne_w_COMMIT_w_WRITE, ne_w_ABORT_w_READ, ne_w_ABORT_w_WRITE]
  · skip
    refine own_step (fun t k => XS.ifYes X0.here hx rfl (pc0 := 5) (pc' := 17) rfl (hb hby at_5) rfl ((if0 _ _).trans (feq hc5_1).2) (by decide) (by decide) k) ?_
    show own_Ends p.tables e below s _ _ _ (s₁.setTop (mkF m 17 #[.val (.int x0_0), .val (.int (x0_0 &&& (3 : Int32))), .unset, .unset] []))
    refine own_step (fun t k => XS.iloadN X0.here hx rfl (hb hby at_17) rfl k) ?_
    show own_Ends p.tables e below s _ _ _ (s₁.setTop (mkF m 18 #[.val (.int x0_0), .val (.int (x0_0 &&& (3 : Int32))), .unset, .unset] [(.int (x0_0 &&& (3 : Int32)))]))
    refine own_step (fun t k => XS.iconst X0.here hx rfl (hb hby at_18) k) ?_
    show own_Ends p.tables e below s _ _ _ (s₁.setTop (mkF m 19 #[.val (.int x0_0), .val (.int (x0_0 &&& (3 : Int32))), .unset, .unset] [(.int (1 : Int32)), (.int (x0_0 &&& (3 : Int32)))]))
    by_cases hc19_6 : (x0_0 &&& (3 : Int32)) = (1 : Int32)
    · skip
      refine own_step (fun t k => XS.icmpNo X0.here hx rfl (hb hby at_19) rfl (teq hc19_6).2 k) ?_
      show own_Ends p.tables e below s _ _ _ (s₁.setTop (mkF m 22 #[.val (.int x0_0), .val (.int (x0_0 &&& (3 : Int32))), .unset, .unset] []))
      obtain ⟨T7, X7, e7, st7⟩ := getS2 X0 hx hZ hown (host := "") (Or.inl (hw _ (List.mem_of_getElem? (i := 15) rfl))) Via.refl e0 (S_WRITE.ext O0.2) (g := (mkF m 22 #[.val (.int x0_0), .val (.int (x0_0 &&& (3 : Int32))), .unset, .unset] [])) rfl (hb hby at_22)
      refine own_step (fun t k => st7 _ k) ?_
      show own_Ends p.tables e below s _ _ _ (T7.setTop (mkF m 25 #[.val (.int x0_0), .val (.int (x0_0 &&& (3 : Int32))), .unset, .unset] [(.ref w_WRITE)]))
      refine own_step (fun t k => XS.astoreN X7.here hx rfl (hb hby at_25) rfl rfl (l' := #[.val (.int x0_0), .val (.int (x0_0 &&& (3 : Int32))), .val (.ref w_WRITE), .unset]) rfl k) ?_
      show own_Ends p.tables e below s _ _ _ (T7.setTop (mkF m 26 #[.val (.int x0_0), .val (.int (x0_0 &&& (3 : Int32))), .val (.ref w_WRITE), .unset] []))
      refine own_step (fun t k => XS.iconst X7.here hx rfl (hb hby at_26) k) ?_
      show own_Ends p.tables e below s _ _ _ (T7.setTop (mkF m 27 #[.val (.int x0_0), .val (.int (x0_0 &&& (3 : Int32))), .val (.ref w_WRITE), .unset] [(.int (1 : Int32))]))
      refine own_step (fun t k => XS.istoreN X7.here hx rfl (hb hby at_27) rfl (l' := #[.val (.int x0_0), .val (.int (x0_0 &&& (3 : Int32))), .val (.ref w_WRITE), .val (.int (1 : Int32))]) rfl k) ?_
      show own_Ends p.tables e below s _ _ _ (T7.setTop (mkF m 28 #[.val (.int x0_0), .val (.int (x0_0 &&& (3 : Int32))), .val (.ref w_WRITE), .val (.int (1 : Int32))] []))
      refine own_step (fun t k => XS.goto X7.here hx rfl (pc0 := 28) (pc' := 51) rfl (hb hby at_28) (by decide) (by decide) k) ?_
      show own_Ends p.tables e below s _ _ _ (T7.setTop (mkF m 51 #[.val (.int x0_0), .val (.int (x0_0 &&& (3 : Int32))), .val (.ref w_WRITE), .val (.int (1 : Int32))] []))
      refine own_step (fun t k => XS.aloadN X7.here hx rfl (hb hby at_51) rfl rfl k) ?_
      show own_Ends p.tables e below s _ _ _ (T7.setTop (mkF m 52 #[.val (.int x0_0), .val (.int (x0_0 &&& (3 : Int32))), .val (.ref w_WRITE), .val (.int (1 : Int32))] [(.ref w_WRITE)]))
      obtain ⟨cq8, kq8, q8a, q8b, q8c⟩ := isOf hZ e7 E_w_WRITE
      obtain ⟨_, _, ⟨T8, L8, k8, n8⟩, -, X8, ⟨Lc8, hQ8, l8, y8, z8⟩, st8⟩ := X7.virtualBack hx (y := (⟨"com/example/serigraph/serigraph/history/OperationKind", "hasItem", "()Z"⟩ : MethodName)) (z := (⟨"com/example/serigraph/serigraph/history/OperationKind", "hasItem", "()Z"⟩ : MethodName)) hown (mvT hZ (hw _ (List.mem_of_getElem? (i := 3) rfl))) (mvT hZ (hw _ (List.mem_of_getElem? (i := 4) rfl))) (notFace_of_selects (args := #[]) (mvT hZ (hw _ (List.mem_of_getElem? (i := 6) rfl)))) (mvT hZ (hw _ (List.mem_of_getElem? (i := 6) rfl))) (mvT hZ (hw _ (List.mem_of_getElem? (i := 5) rfl))) (by decide) (backOf (W := 0) (rm1 l Z a0 hw [] w_WRITE w_READ w_WRITE h0 n0 O0 S_READ S_WRITE) hZ (hw _ (List.mem_of_getElem? (i := 7) rfl)) (hw _ (List.mem_of_getElem? (i := 1) rfl)) (by decide) (by decide)) q8a q8c (g := (mkF m 52 #[.val (.int x0_0), .val (.int (x0_0 &&& (3 : Int32))), .val (.ref w_WRITE), .val (.int (1 : Int32))] [(.ref w_WRITE)])) rfl (by rw [hml]; rfl) (Steps.refl _) (argsL := []) (rest := []) (lenOf pd_0 rfl) rfl (by show 2 * 0 + _ ≤ _; exact Nat.le_of_eq rfl) (hb hby at_52) (fun _ _ => ⟨rfl, e7, (by decide : 0 + 0 ≤ _), (by decide : 0 + 0 ≤ _)⟩)
      dsimp only [Pt.U, Pt.locs, Pt.cells, Pt.slots] at X8 l8 y8 z8 st8 hQ8
      subst l8 y8 z8
      obtain ⟨rfl, N8q, e8⟩ := hQ8
      refine own_step (fun t k => st8.trans k) ?_
      have N9 := Fr.app N0 N8q
      show own_Ends p.tables e below s _ _ _ (T8.setTop (mkF m 55 #[.val (.int x0_0), .val (.int (x0_0 &&& (3 : Int32))), .val (.ref w_WRITE), .val (.int (1 : Int32))] [(.int (own_r1 w_WRITE w_READ w_WRITE))]))
      refine own_step (fun t k => XS.iloadN X8.here hx rfl (hb hby at_55) rfl k) ?_
      show own_Ends p.tables e below s _ _ _ (T8.setTop (mkF m 56 #[.val (.int x0_0), .val (.int (x0_0 &&& (3 : Int32))), .val (.ref w_WRITE), .val (.int (1 : Int32))] [(.int (1 : Int32)), (.int (own_r1 w_WRITE w_READ w_WRITE))]))
      by_cases hc56_10 : (own_r1 w_WRITE w_READ w_WRITE) = (1 : Int32)
      · skip
        refine own_step (fun t k => XS.icmpNo X8.here hx rfl (hb hby at_56) rfl (teq hc56_10).2 k) ?_
        show own_Ends p.tables e below s _ _ _ (T8.setTop (mkF m 59 #[.val (.int x0_0), .val (.int (x0_0 &&& (3 : Int32))), .val (.ref w_WRITE), .val (.int (1 : Int32))] []))
        refine own_step (fun t k => XS.iconst X8.here hx rfl (hb hby at_59) k) ?_
        show own_Ends p.tables e below s _ _ _ (T8.setTop (mkF m 60 #[.val (.int x0_0), .val (.int (x0_0 &&& (3 : Int32))), .val (.ref w_WRITE), .val (.int (1 : Int32))] [(.int (1 : Int32))]))
        refine own_step (fun t k => XS.goto X8.here hx rfl (pc0 := 60) (pc' := 64) rfl (hb hby at_60) (by decide) (by decide) k) ?_
        show own_Ends p.tables e below s _ _ _ (T8.setTop (mkF m 64 #[.val (.int x0_0), .val (.int (x0_0 &&& (3 : Int32))), .val (.ref w_WRITE), .val (.int (1 : Int32))] [(.int (1 : Int32))]))
        exact own_retN X8 hx (t := .boolean) Bd.returns (by simp) (hb hby at_64) hnl (by rw [e8]; exact ⟨rfl, N9⟩) (by decide) (by decide)
      · skip
        refine own_step (fun t k => XS.icmpYes X8.here hx rfl (pc0 := 56) (pc' := 63) rfl (hb hby at_56) rfl (feq hc56_10).2 (by decide) (by decide) k) ?_
        show own_Ends p.tables e below s _ _ _ (T8.setTop (mkF m 63 #[.val (.int x0_0), .val (.int (x0_0 &&& (3 : Int32))), .val (.ref w_WRITE), .val (.int (1 : Int32))] []))
        refine own_step (fun t k => XS.iconst X8.here hx rfl (hb hby at_63) k) ?_
        show own_Ends p.tables e below s _ _ _ (T8.setTop (mkF m 64 #[.val (.int x0_0), .val (.int (x0_0 &&& (3 : Int32))), .val (.ref w_WRITE), .val (.int (1 : Int32))] [(.int (0 : Int32))]))
        exfalso
        apply hc56_10
        simp [own_r1, ne_w_COMMIT_w_READ, ne_w_COMMIT_w_WRITE, ne_w_ABORT_w_READ, ne_w_ABORT_w_WRITE]
    · skip
      refine own_step (fun t k => XS.icmpYes X0.here hx rfl (pc0 := 19) (pc' := 31) rfl (hb hby at_19) rfl (feq hc19_6).2 (by decide) (by decide) k) ?_
      show own_Ends p.tables e below s _ _ _ (s₁.setTop (mkF m 31 #[.val (.int x0_0), .val (.int (x0_0 &&& (3 : Int32))), .unset, .unset] []))
      refine own_step (fun t k => XS.iloadN X0.here hx rfl (hb hby at_31) rfl k) ?_
      show own_Ends p.tables e below s _ _ _ (s₁.setTop (mkF m 32 #[.val (.int x0_0), .val (.int (x0_0 &&& (3 : Int32))), .unset, .unset] [(.int (x0_0 &&& (3 : Int32)))]))
      refine own_step (fun t k => XS.iconst X0.here hx rfl (hb hby at_32) k) ?_
      show own_Ends p.tables e below s _ _ _ (s₁.setTop (mkF m 33 #[.val (.int x0_0), .val (.int (x0_0 &&& (3 : Int32))), .unset, .unset] [(.int (2 : Int32)), (.int (x0_0 &&& (3 : Int32)))]))
      by_cases hc33_11 : (x0_0 &&& (3 : Int32)) = (2 : Int32)
      · skip
        refine own_step (fun t k => XS.icmpNo X0.here hx rfl (hb hby at_33) rfl (teq hc33_11).2 k) ?_
        show own_Ends p.tables e below s _ _ _ (s₁.setTop (mkF m 36 #[.val (.int x0_0), .val (.int (x0_0 &&& (3 : Int32))), .unset, .unset] []))
        obtain ⟨T12, X12, e12, st12⟩ := getS2 X0 hx hZ hown (host := "") (Or.inl (hw _ (List.mem_of_getElem? (i := 13) rfl))) Via.refl e0 (S_COMMIT.ext O0.2) (g := (mkF m 36 #[.val (.int x0_0), .val (.int (x0_0 &&& (3 : Int32))), .unset, .unset] [])) rfl (hb hby at_36)
        refine own_step (fun t k => st12 _ k) ?_
        show own_Ends p.tables e below s _ _ _ (T12.setTop (mkF m 39 #[.val (.int x0_0), .val (.int (x0_0 &&& (3 : Int32))), .unset, .unset] [(.ref w_COMMIT)]))
        refine own_step (fun t k => XS.astoreN X12.here hx rfl (hb hby at_39) rfl rfl (l' := #[.val (.int x0_0), .val (.int (x0_0 &&& (3 : Int32))), .val (.ref w_COMMIT), .unset]) rfl k) ?_
        show own_Ends p.tables e below s _ _ _ (T12.setTop (mkF m 40 #[.val (.int x0_0), .val (.int (x0_0 &&& (3 : Int32))), .val (.ref w_COMMIT), .unset] []))
        refine own_step (fun t k => XS.iconst X12.here hx rfl (hb hby at_40) k) ?_
        show own_Ends p.tables e below s _ _ _ (T12.setTop (mkF m 41 #[.val (.int x0_0), .val (.int (x0_0 &&& (3 : Int32))), .val (.ref w_COMMIT), .unset] [(.int (0 : Int32))]))
        refine own_step (fun t k => XS.istoreN X12.here hx rfl (hb hby at_41) rfl (l' := #[.val (.int x0_0), .val (.int (x0_0 &&& (3 : Int32))), .val (.ref w_COMMIT), .val (.int (0 : Int32))]) rfl k) ?_
        show own_Ends p.tables e below s _ _ _ (T12.setTop (mkF m 42 #[.val (.int x0_0), .val (.int (x0_0 &&& (3 : Int32))), .val (.ref w_COMMIT), .val (.int (0 : Int32))] []))
        refine own_step (fun t k => XS.goto X12.here hx rfl (pc0 := 42) (pc' := 51) rfl (hb hby at_42) (by decide) (by decide) k) ?_
        show own_Ends p.tables e below s _ _ _ (T12.setTop (mkF m 51 #[.val (.int x0_0), .val (.int (x0_0 &&& (3 : Int32))), .val (.ref w_COMMIT), .val (.int (0 : Int32))] []))
        refine own_step (fun t k => XS.aloadN X12.here hx rfl (hb hby at_51) rfl rfl k) ?_
        show own_Ends p.tables e below s _ _ _ (T12.setTop (mkF m 52 #[.val (.int x0_0), .val (.int (x0_0 &&& (3 : Int32))), .val (.ref w_COMMIT), .val (.int (0 : Int32))] [(.ref w_COMMIT)]))
        obtain ⟨cq13, kq13, q13a, q13b, q13c⟩ := isOf hZ e12 E_w_COMMIT
        obtain ⟨_, _, ⟨T13, L13, k13, n13⟩, -, X13, ⟨Lc13, hQ13, l13, y13, z13⟩, st13⟩ := X12.virtualBack hx (y := (⟨"com/example/serigraph/serigraph/history/OperationKind", "hasItem", "()Z"⟩ : MethodName)) (z := (⟨"com/example/serigraph/serigraph/history/OperationKind", "hasItem", "()Z"⟩ : MethodName)) hown (mvT hZ (hw _ (List.mem_of_getElem? (i := 3) rfl))) (mvT hZ (hw _ (List.mem_of_getElem? (i := 4) rfl))) (notFace_of_selects (args := #[]) (mvT hZ (hw _ (List.mem_of_getElem? (i := 6) rfl)))) (mvT hZ (hw _ (List.mem_of_getElem? (i := 6) rfl))) (mvT hZ (hw _ (List.mem_of_getElem? (i := 5) rfl))) (by decide) (backOf (W := 0) (rm1 l Z a0 hw [] w_COMMIT w_READ w_WRITE h0 n0 O0 S_READ S_WRITE) hZ (hw _ (List.mem_of_getElem? (i := 7) rfl)) (hw _ (List.mem_of_getElem? (i := 1) rfl)) (by decide) (by decide)) q13a q13c (g := (mkF m 52 #[.val (.int x0_0), .val (.int (x0_0 &&& (3 : Int32))), .val (.ref w_COMMIT), .val (.int (0 : Int32))] [(.ref w_COMMIT)])) rfl (by rw [hml]; rfl) (Steps.refl _) (argsL := []) (rest := []) (lenOf pd_0 rfl) rfl (by show 2 * 0 + _ ≤ _; exact Nat.le_of_eq rfl) (hb hby at_52) (fun _ _ => ⟨rfl, e12, (by decide : 0 + 0 ≤ _), (by decide : 0 + 0 ≤ _)⟩)
        dsimp only [Pt.U, Pt.locs, Pt.cells, Pt.slots] at X13 l13 y13 z13 st13 hQ13
        subst l13 y13 z13
        obtain ⟨rfl, N13q, e13⟩ := hQ13
        refine own_step (fun t k => st13.trans k) ?_
        have N14 := Fr.app N0 N13q
        show own_Ends p.tables e below s _ _ _ (T13.setTop (mkF m 55 #[.val (.int x0_0), .val (.int (x0_0 &&& (3 : Int32))), .val (.ref w_COMMIT), .val (.int (0 : Int32))] [(.int (own_r1 w_COMMIT w_READ w_WRITE))]))
        refine own_step (fun t k => XS.iloadN X13.here hx rfl (hb hby at_55) rfl k) ?_
        show own_Ends p.tables e below s _ _ _ (T13.setTop (mkF m 56 #[.val (.int x0_0), .val (.int (x0_0 &&& (3 : Int32))), .val (.ref w_COMMIT), .val (.int (0 : Int32))] [(.int (0 : Int32)), (.int (own_r1 w_COMMIT w_READ w_WRITE))]))
        by_cases hc56_15 : (own_r1 w_COMMIT w_READ w_WRITE) = (0 : Int32)
        · skip
          refine own_step (fun t k => XS.icmpNo X13.here hx rfl (hb hby at_56) rfl (teq hc56_15).2 k) ?_
          show own_Ends p.tables e below s _ _ _ (T13.setTop (mkF m 59 #[.val (.int x0_0), .val (.int (x0_0 &&& (3 : Int32))), .val (.ref w_COMMIT), .val (.int (0 : Int32))] []))
          refine own_step (fun t k => XS.iconst X13.here hx rfl (hb hby at_59) k) ?_
          show own_Ends p.tables e below s _ _ _ (T13.setTop (mkF m 60 #[.val (.int x0_0), .val (.int (x0_0 &&& (3 : Int32))), .val (.ref w_COMMIT), .val (.int (0 : Int32))] [(.int (1 : Int32))]))
          refine own_step (fun t k => XS.goto X13.here hx rfl (pc0 := 60) (pc' := 64) rfl (hb hby at_60) (by decide) (by decide) k) ?_
          show own_Ends p.tables e below s _ _ _ (T13.setTop (mkF m 64 #[.val (.int x0_0), .val (.int (x0_0 &&& (3 : Int32))), .val (.ref w_COMMIT), .val (.int (0 : Int32))] [(.int (1 : Int32))]))
          exact own_retN X13 hx (t := .boolean) Bd.returns (by simp) (hb hby at_64) hnl (by rw [e13]; exact ⟨rfl, N14⟩) (by decide) (by decide)
        · skip
          refine own_step (fun t k => XS.icmpYes X13.here hx rfl (pc0 := 56) (pc' := 63) rfl (hb hby at_56) rfl (feq hc56_15).2 (by decide) (by decide) k) ?_
          show own_Ends p.tables e below s _ _ _ (T13.setTop (mkF m 63 #[.val (.int x0_0), .val (.int (x0_0 &&& (3 : Int32))), .val (.ref w_COMMIT), .val (.int (0 : Int32))] []))
          refine own_step (fun t k => XS.iconst X13.here hx rfl (hb hby at_63) k) ?_
          show own_Ends p.tables e below s _ _ _ (T13.setTop (mkF m 64 #[.val (.int x0_0), .val (.int (x0_0 &&& (3 : Int32))), .val (.ref w_COMMIT), .val (.int (0 : Int32))] [(.int (0 : Int32))]))
          exfalso
          apply hc56_15
          simp [own_r1, ne_w_COMMIT_w_READ, ne_w_COMMIT_w_WRITE, ne_w_ABORT_w_READ, ne_w_ABORT_w_WRITE]
      · skip
        refine own_step (fun t k => XS.icmpYes X0.here hx rfl (pc0 := 33) (pc' := 45) rfl (hb hby at_33) rfl (feq hc33_11).2 (by decide) (by decide) k) ?_
        show own_Ends p.tables e below s _ _ _ (s₁.setTop (mkF m 45 #[.val (.int x0_0), .val (.int (x0_0 &&& (3 : Int32))), .unset, .unset] []))
        obtain ⟨T16, X16, e16, st16⟩ := getS2 X0 hx hZ hown (host := "") (Or.inl (hw _ (List.mem_of_getElem? (i := 9) rfl))) Via.refl e0 (S_ABORT.ext O0.2) (g := (mkF m 45 #[.val (.int x0_0), .val (.int (x0_0 &&& (3 : Int32))), .unset, .unset] [])) rfl (hb hby at_45)
        refine own_step (fun t k => st16 _ k) ?_
        show own_Ends p.tables e below s _ _ _ (T16.setTop (mkF m 48 #[.val (.int x0_0), .val (.int (x0_0 &&& (3 : Int32))), .unset, .unset] [(.ref w_ABORT)]))
        refine own_step (fun t k => XS.astoreN X16.here hx rfl (hb hby at_48) rfl rfl (l' := #[.val (.int x0_0), .val (.int (x0_0 &&& (3 : Int32))), .val (.ref w_ABORT), .unset]) rfl k) ?_
        show own_Ends p.tables e below s _ _ _ (T16.setTop (mkF m 49 #[.val (.int x0_0), .val (.int (x0_0 &&& (3 : Int32))), .val (.ref w_ABORT), .unset] []))
        refine own_step (fun t k => XS.iconst X16.here hx rfl (hb hby at_49) k) ?_
        show own_Ends p.tables e below s _ _ _ (T16.setTop (mkF m 50 #[.val (.int x0_0), .val (.int (x0_0 &&& (3 : Int32))), .val (.ref w_ABORT), .unset] [(.int (0 : Int32))]))
        refine own_step (fun t k => XS.istoreN X16.here hx rfl (hb hby at_50) rfl (l' := #[.val (.int x0_0), .val (.int (x0_0 &&& (3 : Int32))), .val (.ref w_ABORT), .val (.int (0 : Int32))]) rfl k) ?_
        show own_Ends p.tables e below s _ _ _ (T16.setTop (mkF m 51 #[.val (.int x0_0), .val (.int (x0_0 &&& (3 : Int32))), .val (.ref w_ABORT), .val (.int (0 : Int32))] []))
        refine own_step (fun t k => XS.aloadN X16.here hx rfl (hb hby at_51) rfl rfl k) ?_
        show own_Ends p.tables e below s _ _ _ (T16.setTop (mkF m 52 #[.val (.int x0_0), .val (.int (x0_0 &&& (3 : Int32))), .val (.ref w_ABORT), .val (.int (0 : Int32))] [(.ref w_ABORT)]))
        obtain ⟨cq17, kq17, q17a, q17b, q17c⟩ := isOf hZ e16 E_w_ABORT
        obtain ⟨_, _, ⟨T17, L17, k17, n17⟩, -, X17, ⟨Lc17, hQ17, l17, y17, z17⟩, st17⟩ := X16.virtualBack hx (y := (⟨"com/example/serigraph/serigraph/history/OperationKind", "hasItem", "()Z"⟩ : MethodName)) (z := (⟨"com/example/serigraph/serigraph/history/OperationKind", "hasItem", "()Z"⟩ : MethodName)) hown (mvT hZ (hw _ (List.mem_of_getElem? (i := 3) rfl))) (mvT hZ (hw _ (List.mem_of_getElem? (i := 4) rfl))) (notFace_of_selects (args := #[]) (mvT hZ (hw _ (List.mem_of_getElem? (i := 6) rfl)))) (mvT hZ (hw _ (List.mem_of_getElem? (i := 6) rfl))) (mvT hZ (hw _ (List.mem_of_getElem? (i := 5) rfl))) (by decide) (backOf (W := 0) (rm1 l Z a0 hw [] w_ABORT w_READ w_WRITE h0 n0 O0 S_READ S_WRITE) hZ (hw _ (List.mem_of_getElem? (i := 7) rfl)) (hw _ (List.mem_of_getElem? (i := 1) rfl)) (by decide) (by decide)) q17a q17c (g := (mkF m 52 #[.val (.int x0_0), .val (.int (x0_0 &&& (3 : Int32))), .val (.ref w_ABORT), .val (.int (0 : Int32))] [(.ref w_ABORT)])) rfl (by rw [hml]; rfl) (Steps.refl _) (argsL := []) (rest := []) (lenOf pd_0 rfl) rfl (by show 2 * 0 + _ ≤ _; exact Nat.le_of_eq rfl) (hb hby at_52) (fun _ _ => ⟨rfl, e16, (by decide : 0 + 0 ≤ _), (by decide : 0 + 0 ≤ _)⟩)
        dsimp only [Pt.U, Pt.locs, Pt.cells, Pt.slots] at X17 l17 y17 z17 st17 hQ17
        subst l17 y17 z17
        obtain ⟨rfl, N17q, e17⟩ := hQ17
        refine own_step (fun t k => st17.trans k) ?_
        have N18 := Fr.app N0 N17q
        show own_Ends p.tables e below s _ _ _ (T17.setTop (mkF m 55 #[.val (.int x0_0), .val (.int (x0_0 &&& (3 : Int32))), .val (.ref w_ABORT), .val (.int (0 : Int32))] [(.int (own_r1 w_ABORT w_READ w_WRITE))]))
        refine own_step (fun t k => XS.iloadN X17.here hx rfl (hb hby at_55) rfl k) ?_
        show own_Ends p.tables e below s _ _ _ (T17.setTop (mkF m 56 #[.val (.int x0_0), .val (.int (x0_0 &&& (3 : Int32))), .val (.ref w_ABORT), .val (.int (0 : Int32))] [(.int (0 : Int32)), (.int (own_r1 w_ABORT w_READ w_WRITE))]))
        by_cases hc56_19 : (own_r1 w_ABORT w_READ w_WRITE) = (0 : Int32)
        · skip
          refine own_step (fun t k => XS.icmpNo X17.here hx rfl (hb hby at_56) rfl (teq hc56_19).2 k) ?_
          show own_Ends p.tables e below s _ _ _ (T17.setTop (mkF m 59 #[.val (.int x0_0), .val (.int (x0_0 &&& (3 : Int32))), .val (.ref w_ABORT), .val (.int (0 : Int32))] []))
          refine own_step (fun t k => XS.iconst X17.here hx rfl (hb hby at_59) k) ?_
          show own_Ends p.tables e below s _ _ _ (T17.setTop (mkF m 60 #[.val (.int x0_0), .val (.int (x0_0 &&& (3 : Int32))), .val (.ref w_ABORT), .val (.int (0 : Int32))] [(.int (1 : Int32))]))
          refine own_step (fun t k => XS.goto X17.here hx rfl (pc0 := 60) (pc' := 64) rfl (hb hby at_60) (by decide) (by decide) k) ?_
          show own_Ends p.tables e below s _ _ _ (T17.setTop (mkF m 64 #[.val (.int x0_0), .val (.int (x0_0 &&& (3 : Int32))), .val (.ref w_ABORT), .val (.int (0 : Int32))] [(.int (1 : Int32))]))
          exact own_retN X17 hx (t := .boolean) Bd.returns (by simp) (hb hby at_64) hnl (by rw [e17]; exact ⟨rfl, N18⟩) (by decide) (by decide)
        · skip
          refine own_step (fun t k => XS.icmpYes X17.here hx rfl (pc0 := 56) (pc' := 63) rfl (hb hby at_56) rfl (feq hc56_19).2 (by decide) (by decide) k) ?_
          show own_Ends p.tables e below s _ _ _ (T17.setTop (mkF m 63 #[.val (.int x0_0), .val (.int (x0_0 &&& (3 : Int32))), .val (.ref w_ABORT), .val (.int (0 : Int32))] []))
          refine own_step (fun t k => XS.iconst X17.here hx rfl (hb hby at_63) k) ?_
          show own_Ends p.tables e below s _ _ _ (T17.setTop (mkF m 64 #[.val (.int x0_0), .val (.int (x0_0 &&& (3 : Int32))), .val (.ref w_ABORT), .val (.int (0 : Int32))] [(.int (0 : Int32))]))
          exfalso
          apply hc56_19
          simp [own_r1, ne_w_COMMIT_w_READ, ne_w_COMMIT_w_WRITE, ne_w_ABORT_w_READ, ne_w_ABORT_w_WRITE]
set_option maxRecDepth 65536 in
set_option maxHeartbeats 40000000 in
theorem comes_1 {Post : Tables → Env → Array Value → State → Outcome → State → Prop} (hpost : ∀ tb e args s v u, (limb_1_1.after args s (.returned v) u = true ∧ limb_1_2.after args s (.returned v) u = true ∧ True) → FrameEnd s (.returned v) u (Jvm.fieldLocs frame_1_writes args s ++ Jvm.arrayLocs frame_1_arrays args s ++ Jvm.staticLocs frame_1_statics s) 0 0 → Post tb e args s (.returned v) u) :
    ArmFor flags0 classFile x code maxLocals ret World_1 tables_1 room_1 Calls_1 rest_1 Pre_1 Post := by
  intro l hfl _ _ p e ha hc hk s m args below hf hA hF happ hP
  obtain ⟨hcalls, hrest, hpre⟩ := hP
  obtain ⟨-, -, -, hnamed, -, -, -, hat⟩ := (Spec.applies_iff hf).mp happ
  obtain ⟨hg, hn⟩ := and_e (Cond.before_iff.mp (show (Jvm.Cond.and given_1 narrow_1).before args s = true from hpre))
  obtain ⟨hh1a, hh1b⟩ := and_e hg
  obtain ⟨hh2a, hh2b⟩ := and_e hn
  obtain ⟨hh3a, hh3b⟩ := and_e hh2b
  obtain ⟨hh4a, hh4b⟩ := and_e hh3b
  obtain ⟨hh5a, hh5b⟩ := and_e hh4b
  obtain ⟨hh6a, hh6b⟩ := and_e hh5b
  obtain ⟨hh7a, hh7b⟩ := and_e hh6b
  obtain ⟨hh8a, hh8b⟩ := and_e hh7b
  obtain ⟨w0, rfl⟩ : ∃ w0 : Value, args = #[w0] := by
    have hs : args.size = 1 := by simpa [Cond.value, given_1] using hh1a
    obtain ⟨L⟩ := args
    match L, hs with
    | [w0], _ => exact ⟨w0, rfl⟩
  have hw := fun d (hd : d ∈ tables_1) => atoms_spec (ws := Jvm.Cond.code x code maxLocals ret :: tables_1) hat d (List.mem_cons_of_mem _ hd)
  have hfit : Fit s := fun {y c} hc i hi => by
    obtain ⟨ha, rfl⟩ := Array.getElem?_eq_some_iff.mp hc
    have q := List.all_eq_true.mp ((Array.all_eq_true_iff_forall_mem.mp hF) _ (Array.getElem_mem ha)) i (List.mem_range.mpr hi)
    simpa [Array.getElem?_eq_getElem hi] using q
  obtain ⟨i0, ei0⟩ := is_v hh1b
  obtain rfl : w0 = (.int i0) := Option.some.inj ei0
  obtain ⟨w_READ, ev_READ⟩ := exa_v hh2a
  have S_READ : Sta s s.heap "com/example/serigraph/serigraph/history/OperationKind" "READ" "Lcom/example/serigraph/serigraph/history/OperationKind;" (.ref w_READ) := Sta.start ev_READ (Or.inr ⟨(hw _ (List.mem_of_getElem? (i := 1) rfl)), (hw _ (List.mem_of_getElem? (i := 2) rfl))⟩)
  have E_w_READ : Exa s s.heap w_READ "com/example/serigraph/serigraph/history/OperationKind" := Exa.start ev_READ hh2a
  obtain ⟨w_ABORT, ev_ABORT⟩ := exa_v hh3a
  have S_ABORT : Sta s s.heap "com/example/serigraph/serigraph/history/OperationKind" "ABORT" "Lcom/example/serigraph/serigraph/history/OperationKind;" (.ref w_ABORT) := Sta.start ev_ABORT (Or.inr ⟨(hw _ (List.mem_of_getElem? (i := 1) rfl)), (hw _ (List.mem_of_getElem? (i := 10) rfl))⟩)
  have E_w_ABORT : Exa s s.heap w_ABORT "com/example/serigraph/serigraph/history/OperationKind" := Exa.start ev_ABORT hh3a
  obtain ⟨w_WRITE, ev_WRITE⟩ := exa_v hh6a
  have S_WRITE : Sta s s.heap "com/example/serigraph/serigraph/history/OperationKind" "WRITE" "Lcom/example/serigraph/serigraph/history/OperationKind;" (.ref w_WRITE) := Sta.start ev_WRITE (Or.inr ⟨(hw _ (List.mem_of_getElem? (i := 1) rfl)), (hw _ (List.mem_of_getElem? (i := 12) rfl))⟩)
  have E_w_WRITE : Exa s s.heap w_WRITE "com/example/serigraph/serigraph/history/OperationKind" := Exa.start ev_WRITE hh6a
  obtain ⟨w_COMMIT, ev_COMMIT⟩ := exa_v hh8a
  have S_COMMIT : Sta s s.heap "com/example/serigraph/serigraph/history/OperationKind" "COMMIT" "Lcom/example/serigraph/serigraph/history/OperationKind;" (.ref w_COMMIT) := Sta.start ev_COMMIT (Or.inr ⟨(hw _ (List.mem_of_getElem? (i := 1) rfl)), (hw _ (List.mem_of_getElem? (i := 14) rfl))⟩)
  have E_w_COMMIT : Exa s s.heap w_COMMIT "com/example/serigraph/serigraph/history/OperationKind" := Exa.start ev_COMMIT hh8a
  have F_ordinal_w_ABORT : Fld s s.heap w_ABORT "java/lang/Enum" "ordinal" "I" (.int (3 : Int32)) := own_fld ev_ABORT hh4a
  have F_ordinal_w_READ : Fld s s.heap w_READ "java/lang/Enum" "ordinal" "I" (.int (0 : Int32)) := own_fld ev_READ hh5a
  have F_ordinal_w_WRITE : Fld s s.heap w_WRITE "java/lang/Enum" "ordinal" "I" (.int (1 : Int32)) := own_fld ev_WRITE hh7a
  have F_ordinal_w_COMMIT : Fld s s.heap w_COMMIT "java/lang/Enum" "ordinal" "I" (.int (2 : Int32)) := own_fld ev_COMMIT hh8b
  obtain ⟨n, o, h1, h2, h3, _, L, rfl, ⟨rfl, N⟩, hq⟩ := rm0 l s _ hw tables_1 w_READ w_WRITE w_COMMIT w_ABORT i0 s.heap s.heap.size (Old.start s) (Fld.ne F_ordinal_w_COMMIT F_ordinal_w_READ (by decide)) (Fld.ne F_ordinal_w_COMMIT F_ordinal_w_WRITE (by decide)) (Fld.ne F_ordinal_w_ABORT F_ordinal_w_READ (by decide)) (Fld.ne F_ordinal_w_ABORT F_ordinal_w_WRITE (by decide)) S_READ S_WRITE E_w_READ E_w_WRITE S_COMMIT E_w_COMMIT S_ABORT E_w_ABORT p e ha hc hk s m _ below hf ((Spec.applies_iff_loose hf).mp happ).1 ⟨rfl, State.Warmed39.refl s, rfl⟩ trivial
  refine ⟨n, _, h1, h2, h3, hpost _ _ _ _ _ _ ⟨Cond.after_iff.mpr rfl, Cond.after_iff.mpr (eq_i res_at (Term.int_eval (1)) rfl), trivial⟩ ⟨hq.1, hq.2.1, (hq.2.2.sift fun y hy => Or.inr (N y hy)).mono (by decide) (by decide)⟩⟩
theorem main_1_1 : Claimed_1_1 := comes_1 fun _ _ _ _ _ _ h hF => ⟨h.1, hF⟩
theorem main_1_2 : Claimed_1_2 := comes_1 fun _ _ _ _ _ _ h hF => ⟨h.2.1, hF⟩
end Jvm.Pilot.@@N@@
namespace Jvm.Pilot.@@N@@
open Jvm Jvm.ClassFile Sem Op Lib Jvm.Free Jvm.Stand Jvm.Pilot.@@N@@.Jvm.D
/-! MADE BY PROGRAM (witnessworld.py) out of the Statement's table words and the real class files: 12 classes; the members and pool entries that the words name. The judged class is class 1, her method 1. -/
namespace start1
open Jvm.ClassFile
def u (s : String) : CpInfo := .utf8 (stringToUtf16 s)
/-- a pool by its gaps: so many unusable entries, then the entry; so many at the end -/
def gap : Nat → List CpInfo → List CpInfo
  | 0, r => r
  | n + 1, r => .unusable :: gap n r
def poolList (es : List (Nat × CpInfo)) (last : Nat) : List CpInfo := es.foldr (fun e r => gap e.1 (e.2 :: r)) (gap last [])
def pool (es : List (Nat × CpInfo)) (last : Nat) : Array CpInfo := ⟨poolList es last⟩
def fileOf (pool : Array CpInfo) (this : Nat) (attrs : Array Attribute := #[]) (ms : Array MethodInfo := #[]) (fl : Nat := 33) (sup : Nat := 0) (ifs : Array Nat := #[]) (fds : Array FieldInfo := #[]) : ClassFile where
  minorVersion := 0
  majorVersion := 65
  constantPool := pool
  accessFlags := fl
  thisClass := this
  superClass := sup
  interfaces := ifs
  fields := fds
  methods := ms
  attributes := attrs
def plain (name : String) (sup : Option ClassId) : Class where
  name := name
  kind := .ordinary
  loader := none
  accessFlags := 33
  super := sup
  interfaces := #[]
  cf := none
  fields := #[]
  methods := #[]
  instanceTypes := #[]
  staticTypes := #[]
  resolved := #[]
  callSites := []
  init := .initialized
  statics := none
  mirror := none

def pool0 : Array CpInfo := pool [(5, u "<init>"), (0, u "()V"), (1, .class_ 10), (1, u "java/lang/Object")] 113

def k0m0 : Method := { name := "<init>", desc := "()V", sig := { parameters := [], returnType := none }, accessFlags := 1, code := none }
/-- java/lang/Object -/
def k0 : Class := { plain "java/lang/Object" none with
  accessFlags := 33
  interfaces := #[]
  cf := some (fileOf pool0 8 #[] #[{ accessFlags := 1, nameIndex := 5, descriptorIndex := 6, attributes := #[] }] 33 0 #[] #[])
  fields := #[]
  methods := #[k0m0]
  instanceTypes := #[]
  staticTypes := #[]
  resolved := Array.replicate 124 none
  statics := none }

def pool1 : Array CpInfo := pool [(2, .class_ 4), (1, u "java/lang/Object"), (0, u "<init>"), (0, u "()V"), (0, .fieldref 8 9), (0, .class_ 10), (0, .nameAndType 11 12), (0, u "com/example/serigraph/serigraph/history/OperationKind"), (0, u "READ"), (0, u "Lcom/example/serigraph/serigraph/history/OperationKind;"), (0, .fieldref 8 14), (0, .nameAndType 15 12), (0, u "WRITE"), (0, .fieldref 8 17), (0, .nameAndType 18 12), (0, u "COMMIT"), (0, .fieldref 8 20), (0, .nameAndType 21 12), (0, u "ABORT"), (0, .methodref 8 23), (0, .nameAndType 24 25), (0, u "hasItem"), (0, u "()Z"), (0, .class_ 27), (0, u "com/example/serigraph/serigraph/history/OperationKindHasItemPinLaw"), (2, u "law"), (0, u "(I)Z")] 3

def k1m0 : Method := { name := "<init>", desc := "()V", sig := { parameters := [], returnType := none }, accessFlags := 1, code := none }
def k1c1 : Code := { maxStack := 2, maxLocals := 4, code := code, exceptionTable := #[], attributes := #[] }
def k1m1 : Method := { name := "law", desc := "(I)Z", sig := { parameters := [.int], returnType := some .boolean }, accessFlags := 9, code := some k1c1 }
/-- com/example/serigraph/serigraph/history/OperationKindHasItemPinLaw -/
def k1 : Class := { plain "com/example/serigraph/serigraph/history/OperationKindHasItemPinLaw" (some 0) with
  accessFlags := 49
  interfaces := #[]
  cf := some (fileOf pool1 26 #[] #[{ accessFlags := 1, nameIndex := 5, descriptorIndex := 6, attributes := #[] }, { accessFlags := 9, nameIndex := 30, descriptorIndex := 31, attributes := #[] }] 49 2 #[] #[])
  fields := #[]
  methods := #[k1m0, k1m1]
  instanceTypes := #[]
  staticTypes := #[]
  resolved := Array.replicate 35 none
  statics := none }

def pool2 : Array CpInfo := pool [(1, .class_ 2), (0, u "java/lang/constant/Constable"), (0, .class_ 4), (0, u "java/lang/Object")] 6

/-- java/lang/constant/Constable -/
def k2 : Class := { plain "java/lang/constant/Constable" (some 0) with
  accessFlags := 1537
  interfaces := #[]
  cf := some (fileOf pool2 1 #[] #[] 1537 3 #[] #[])
  fields := #[]
  methods := #[]
  instanceTypes := #[]
  staticTypes := #[]
  resolved := Array.replicate 11 none
  statics := none }

def pool3 : Array CpInfo := pool [(1, .class_ 2), (0, u "java/lang/Comparable"), (0, .class_ 4), (0, u "java/lang/Object")] 7

/-- java/lang/Comparable -/
def k3 : Class := { plain "java/lang/Comparable" (some 0) with
  accessFlags := 1537
  interfaces := #[]
  cf := some (fileOf pool3 1 #[] #[] 1537 3 #[] #[])
  fields := #[]
  methods := #[]
  instanceTypes := #[]
  staticTypes := #[]
  resolved := Array.replicate 12 none
  statics := none }

def pool4 : Array CpInfo := pool [(1, .class_ 2), (0, u "java/io/Serializable"), (0, .class_ 4), (0, u "java/lang/Object")] 2

/-- java/io/Serializable -/
def k4 : Class := { plain "java/io/Serializable" (some 0) with
  accessFlags := 1537
  interfaces := #[]
  cf := some (fileOf pool4 1 #[] #[] 1537 3 #[] #[])
  fields := #[]
  methods := #[]
  instanceTypes := #[]
  staticTypes := #[]
  resolved := Array.replicate 7 none
  statics := none }

def pool5 : Array CpInfo := pool [(2, .class_ 4), (1, u "java/lang/Enum"), (0, u "name"), (0, u "Ljava/lang/String;"), (2, u "ordinal"), (0, u "I"), (1, .class_ 14), (1, u "java/lang/Object"), (4, u "hash"), (86, .class_ 108), (1, u "java/lang/Enum$EnumDesc"), (2, .class_ 112), (0, u "java/lang/constant/Constable"), (0, .class_ 114), (0, u "java/lang/Comparable"), (0, .class_ 116), (0, u "java/io/Serializable")] 87

/-- java/lang/Enum -/
def k5 : Class := { plain "java/lang/Enum" (some 0) with
  accessFlags := 1057
  interfaces := #[2, 3, 4]
  cf := some (fileOf pool5 2 #[.nestMembers #[106]] #[] 1057 12 #[111, 113, 115] #[{ accessFlags := 18, nameIndex := 5, descriptorIndex := 6, attributes := #[] }, { accessFlags := 18, nameIndex := 9, descriptorIndex := 10, attributes := #[] }, { accessFlags := 2, nameIndex := 19, descriptorIndex := 10, attributes := #[] }])
  fields := #[{ name := "name", type := (.object "java/lang/String"), accessFlags := 18, slot := 0, constantValue := 0 }, { name := "ordinal", type := .int, accessFlags := 18, slot := 1, constantValue := 0 }, { name := "hash", type := .int, accessFlags := 2, slot := 2, constantValue := 0 }]
  methods := #[]
  instanceTypes := #[(.object "java/lang/String"), .int, .int]
  staticTypes := #[]
  resolved := Array.replicate 204 none
  statics := none }

def pool6 : Array CpInfo := pool [(1, .class_ 2), (0, u "com/example/serigraph/serigraph/history/OperationKind"), (0, .fieldref 1 4), (0, .nameAndType 5 6), (0, u "READ"), (0, u "Lcom/example/serigraph/serigraph/history/OperationKind;"), (0, .fieldref 1 8), (0, .nameAndType 9 6), (0, u "WRITE"), (2, u "COMMIT"), (2, u "ABORT"), (2, u "$VALUES"), (0, u "[Lcom/example/serigraph/serigraph/history/OperationKind;"), (6, .class_ 28), (1, u "java/lang/Enum"), (8, u "symbol"), (0, u "C"), (21, u "hasItem"), (0, u "()Z")] 8

def k6c0 : Code := { maxStack := 2, maxLocals := 1, code := prog_23_method_5_code, exceptionTable := #[], attributes := #[] }
def k6m0 : Method := { name := "hasItem", desc := "()Z", sig := { parameters := [], returnType := some .boolean }, accessFlags := 1, code := some k6c0 }
/-- com/example/serigraph/serigraph/history/OperationKind -/
def k6 : Class := { plain "com/example/serigraph/serigraph/history/OperationKind" (some 5) with
  accessFlags := 16433
  interfaces := #[]
  cf := some (fileOf pool6 1 #[] #[{ accessFlags := 1, nameIndex := 60, descriptorIndex := 61, attributes := #[] }] 16433 26 #[] #[{ accessFlags := 16409, nameIndex := 5, descriptorIndex := 6, attributes := #[] }, { accessFlags := 16409, nameIndex := 9, descriptorIndex := 6, attributes := #[] }, { accessFlags := 16409, nameIndex := 12, descriptorIndex := 6, attributes := #[] }, { accessFlags := 16409, nameIndex := 15, descriptorIndex := 6, attributes := #[] }, { accessFlags := 18, nameIndex := 37, descriptorIndex := 38, attributes := #[] }, { accessFlags := 4122, nameIndex := 18, descriptorIndex := 19, attributes := #[] }])
  fields := #[{ name := "READ", type := (.object "com/example/serigraph/serigraph/history/OperationKind"), accessFlags := 16409, slot := 0, constantValue := 0 }, { name := "WRITE", type := (.object "com/example/serigraph/serigraph/history/OperationKind"), accessFlags := 16409, slot := 1, constantValue := 0 }, { name := "COMMIT", type := (.object "com/example/serigraph/serigraph/history/OperationKind"), accessFlags := 16409, slot := 2, constantValue := 0 }, { name := "ABORT", type := (.object "com/example/serigraph/serigraph/history/OperationKind"), accessFlags := 16409, slot := 3, constantValue := 0 }, { name := "symbol", type := .char, accessFlags := 18, slot := 3, constantValue := 0 }, { name := "$VALUES", type := (.array (.object "com/example/serigraph/serigraph/history/OperationKind")), accessFlags := 4122, slot := 4, constantValue := 0 }]
  methods := #[k6m0]
  instanceTypes := #[(.object "java/lang/String"), .int, .int, .char]
  staticTypes := #[(.object "com/example/serigraph/serigraph/history/OperationKind"), (.object "com/example/serigraph/serigraph/history/OperationKind"), (.object "com/example/serigraph/serigraph/history/OperationKind"), (.object "com/example/serigraph/serigraph/history/OperationKind"), (.array (.object "com/example/serigraph/serigraph/history/OperationKind"))]
  resolved := Array.replicate 70 none
  statics := some 0 }

def pool7 : Array CpInfo := pool [(1, u "java/lang/Cloneable"), (0, .class_ 1), (0, u "java/lang/Object"), (0, .class_ 3)] 3

/-- java/lang/Cloneable -/
def k7 : Class := { plain "java/lang/Cloneable" (some 0) with
  accessFlags := 1537
  interfaces := #[]
  cf := some (fileOf pool7 2 #[] #[] 1537 4 #[] #[])
  fields := #[]
  methods := #[]
  instanceTypes := #[]
  staticTypes := #[]
  resolved := Array.replicate 8 none
  statics := none }

/-- the primitive byte -/
def k8 : Class := { plain "byte" none with kind := .primitive 'B', accessFlags := 0x411 }
/-- [B -/
def k9 : Class := { plain "[B" (some 0) with kind := .array 8 .byte, interfaces := #[7, 4], accessFlags := 1041 }

/-- the primitive int -/
def k10 : Class := { plain "int" none with kind := .primitive 'I', accessFlags := 0x411 }
/-- [I -/
def k11 : Class := { plain "[I" (some 0) with kind := .array 10 .int, interfaces := #[7, 4], accessFlags := 1041 }

def heap : Heap := #[{ cls := 6, slots := #[.ref 1, .ref 2, .ref 3, .ref 4, .null], vm := .statics 6 },
  { cls := 6, slots := #[.null, .int 0, .int 0, .int 0], vm := .none },
  { cls := 6, slots := #[.null, .int 1, .int 0, .int 0], vm := .none },
  { cls := 6, slots := #[.null, .int 2, .int 0, .int 0], vm := .none },
  { cls := 6, slots := #[.null, .int 3, .int 0, .int 0], vm := .none }]
def classes : Array Class := #[k0, k1, k2, k3, k4, k5, k6, k7, k8, k9, k10, k11]
def interned : List (Array UInt16 × Addr) := []
def slotsUsed : Nat := 21
def theMethod : MethodId := ⟨1, 1⟩
def args0 : Array Value := #[.int 5]
def aboutOver (below : List Frame) : State where
  vm := { classes := classes, interned := interned.toArray }
  heap := heap
  slotsUsed := slotsUsed
  threads := #[{ frames := .invoking theMethod args0 :: below }]
def below0 : List Frame := [.native { method := ⟨0, 0⟩, args := #[] }]
def about1 : State := aboutOver below0
def p0 : Program := .bare "" "" ""
def e0 : Env := launch0.env 0 0 0
theorem w_frames : about1.frames = Frame.invoking theMethod args0 :: below0 := rfl
set_option maxRecDepth 65536 in
theorem w_args : argsFit about1.vm theMethod args0 = true := by decide +kernel
set_option maxRecDepth 65536 in
theorem w_heap : heapFits about1 = true := by decide +kernel
set_option maxRecDepth 65536 in
theorem w_runnable : about1.curStatus? = some .runnable := by decide +kernel
set_option maxRecDepth 65536 in
theorem w_alone : about1.alone = true := by decide +kernel
set_option maxRecDepth 65536 in
theorem w_named : about1.methodNamed? x = some theMethod := by decide +kernel
set_option maxRecDepth 65536 in
theorem w_hears : about1.hears theMethod below0 = true := by decide +kernel
set_option maxRecDepth 65536 in
theorem w_ripe : about1.ripe theMethod args0 below0 = true := by decide +kernel
theorem w_running : about1.status = .running := rfl
set_option maxRecDepth 65536 in
theorem w_room : about1.hasRoom e0.platform room_1 = true :=
  launch0.hasRoom_least _ room_1 (by decide +kernel) (by decide +kernel) (by decide +kernel) (by decide +kernel) (by decide +kernel) (by decide +kernel)
theorem allAtoms_all (ts : List Jvm.Cond) (a : Array Jvm.Value) (st : Jvm.State) : (allAtoms ts).before a st = ts.all (fun c => c.before a st) := by
  induction ts with
  | nil => rfl
  | cons c t ih =>
    show (Jvm.Cond.and c (allAtoms t)).before a st = _
    rw [Jvm.Cond.before_and, ih, List.all_cons]
def words1 : List Jvm.Cond := Jvm.Cond.code x code maxLocals ret :: tables_1
/-- a 'code' word, met by the world's own term for the bytes: nothing is compared byte by byte -/
theorem code_word {y : MethodName} {bytes : ByteArray} {mx : Nat} {rt : Option FieldType} {a : Array Value} {s : State} {m : MethodId} {meth : Method} {c : Code} (h1 : s.methodNamed? y = some m) (h2 : s.vm.method? m = some meth) (h3 : meth.code = some c) (h4 : c.code = bytes)
    (h5 : (c.maxLocals == mx && c.exceptionTable.isEmpty && decide (c.maxStack ≤ mostOperands) && decide (meth.sig.returnType = rt) && !meth.locks && decide (parseMethodDescriptor y.desc = some meth.sig)) = true) : (Jvm.Cond.code y bytes mx rt).before a s = true := by
  simp only [Bool.and_eq_true, beq_iff_eq, Bool.not_eq_true', decide_eq_true_eq] at h5
  obtain ⟨⟨⟨⟨⟨g1, g2⟩, g3⟩, g4⟩, g5⟩, g6⟩ := h5
  simp [Cond.before, Cond.holds, Cond.value, h1, h2, h3, h4, g1, g2, g3, g4, g5, g6]
def isCode : Jvm.Cond → Bool
  | .code _ _ _ _ => true
  | _ => false
theorem all_split {L : List Jvm.Cond} {P : Jvm.Cond → Bool} (h1 : L.all (fun c => isCode c || P c) = true) (h2 : ∀ c ∈ L.filter isCode, P c = true) : L.all P = true := by
  refine List.all_eq_true.mpr fun c hc => ?_
  have h := List.all_eq_true.mp h1 c hc
  rcases Bool.eq_false_or_eq_true (isCode c) with hi | hi
  · exact h2 c (List.mem_filter.mpr ⟨hc, hi⟩)
  · simpa [hi] using h
set_option maxRecDepth 65536 in
theorem w_c0 : (Jvm.Cond.code x code maxLocals ret).before args0 about1 = true := code_word (m := ⟨1, 1⟩) (meth := k1m1) (c := k1c1) (by decide +kernel) rfl rfl rfl (by decide +kernel)
set_option maxRecDepth 65536 in
theorem w_c1 : (Jvm.Cond.code ({ cls := "com/example/serigraph/serigraph/history/OperationKind", name := "hasItem", desc := "()Z" } : Jvm.MethodName) prog_23_method_5_code (1 : Nat) (Option.some Jvm.ClassFile.FieldType.boolean)).before args0 about1 = true := code_word (m := ⟨6, 0⟩) (meth := k6m0) (c := k6c0) (by decide +kernel) rfl rfl rfl (by decide +kernel)
def codes1 : List Jvm.Cond := [Jvm.Cond.code x code maxLocals ret, Jvm.Cond.code ({ cls := "com/example/serigraph/serigraph/history/OperationKind", name := "hasItem", desc := "()Z" } : Jvm.MethodName) prog_23_method_5_code (1 : Nat) (Option.some Jvm.ClassFile.FieldType.boolean)]
set_option maxRecDepth 65536 in
theorem codes_eq : words1.filter isCode = codes1 := rfl
theorem w_codes : ∀ c ∈ words1.filter isCode, c.before args0 about1 = true := by
  rw [codes_eq]
  intro c hc
  simp only [codes1, List.mem_cons, List.not_mem_nil, or_false] at hc
  rcases hc with rfl | rfl
  · exact w_c0
  · exact w_c1
set_option maxRecDepth 65536 in
theorem w_t1 : words1.all (fun c => isCode c || c.before args0 about1) = true := by decide +kernel
theorem w_tables : (allAtoms (Jvm.Cond.code x code maxLocals ret :: tables_1)).before args0 about1 = true := by
  rw [allAtoms_all]
  show words1.all (fun c => c.before args0 about1) = true
  refine all_split ?_ w_codes
  rw [w_t1]
set_option maxRecDepth 65536 in
theorem w_case : (Jvm.Cond.and given_1 narrow_1).before args0 about1 = true := by decide +kernel
theorem w_applies : (headSpec (Jvm.Cond.code x code maxLocals ret :: tables_1) room_1).applies x e0.platform about1 = true :=
  (Spec.applies_iff w_frames).mpr ⟨w_running, w_runnable, w_alone, w_named, w_hears, w_ripe, w_room, w_tables⟩
theorem atStart : AtStart classFile x code maxLocals ret World_1 tables_1 room_1 Calls_1 rest_1 Pre_1 launch0 p0 e0 about1 theMethod args0 below0 :=
  ⟨lists_1, trivial, launch0.admits_env _ _ _, launch0.least_env, fairChoices_fair.cas, fairChoices_fair.clock, w_frames, w_args, w_heap, w_applies, trivial, trivial, w_case⟩
end start1
theorem witness_1 : WitnessClaimed_1 := ⟨start1.p0, start1.e0, start1.about1, start1.theMethod, start1.args0, start1.below0, start1.atStart⟩
end Jvm.Pilot.@@N@@
