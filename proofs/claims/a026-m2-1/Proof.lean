import JvmDerived
import JvmDerived.Pilot.@@N@@Statement
import JvmDerived.Pilot.@@N@@Code
set_option linter.unusedVariables false
set_option linter.unusedSimpArgs false
namespace Jvm.Pilot.@@N@@
open Jvm Jvm.ClassFile Sem Op Lib Jvm.Free Jvm.Stand Jvm.LawKit Jvm.RoadKit Bundle Jvm.Pilot.@@N@@.Jvm.D
/-- from the state st the run ends, of which Q says what it leaves -/
def own_Ends (tb : Tables) (e : Env) (below : List Frame) (s : State) (Q : Option Value → Heap → List Loc → Prop) (C S : Nat) (st : State) : Prop :=
  ∃ t o, Steps tb e below st t ∧ t.status = .running ∧ Ended t below o ∧ ∃ v L, o = .returned v ∧ Q v t.heap L ∧ FrameEnd s o t L C S
theorem own_step {tb : Tables} {e : Env} {below : List Frame} {s : State} {Q : Option Value → Heap → List Loc → Prop} {C S : Nat} {st st' : State}
    (h : ∀ t, Steps tb e below st' t → Steps tb e below st t) (k : own_Ends tb e below s Q C S st') : own_Ends tb e below s Q C S st := by
  obtain ⟨t, o, h1, h2⟩ := k
  exact ⟨t, o, h t h1, h2⟩
section OwnRet
variable {p : Program} {l : Launch} {e : Env} {R : Room} {s : State} {m : MethodId} {args : Array Value} {below : List Frame} {meth : Method} {c : Code} {T : State} {locs : List Loc} {cells slots : Nat} {Q : Option Value → Heap → List Loc → Prop} {C S : Nat} {pc : Nat} {Ls : Array Slot} {rest : List Value}
theorem own_retW (X : Stand p l e R s m args below meth c T locs cells slots) (hx : p.tables.exec = Jvm.exec) {w : Value} {t : FieldType} {i : Instr} (hret : meth.sig.returnType = some t) (hn : narrow t w = w)
    (hi : (i = .ireturn ∧ (t = .int ∨ t = .boolean ∨ t = .byte ∨ t = .char ∨ t = .short) ∧ ∃ z, w = .int z) ∨ (i = .lreturn ∧ t = .long ∧ ∃ z, w = .long z) ∨ (i = .dreturn ∧ t = .double ∧ ∃ z, w = .double z) ∨ (i = .freturn ∧ t = .float ∧ ∃ z, w = .float z) ∨ (i = .areturn ∧ t.isReference = true ∧ w.isRef = true))
    (hd : decode c.code pc = .ok (i, 1)) (hlocks : meth.locks = false) (hq : Q (some w) T.heap locs) (hc : cells ≤ C) (hs : slots ≤ S) :
    own_Ends p.tables e below s Q C S (T.setTop (mkF m pc Ls (w :: rest))) := by
  obtain ⟨fs, hr, hrun, hended, hW, hsame⟩ := X.leave (v := some w) (fun h => by rw [hret] at h; cases h) hlocks
  exact ⟨_, _, retOut X hx hret hn hi hd hr, hrun, hended, _, _, rfl, hq, ⟨_, rfl⟩, hW, hsame.mono hc hs⟩
theorem own_retI (X : Stand p l e R s m args below meth c T locs cells slots) (hx : p.tables.exec = Jvm.exec) {z : Int32} (hret : meth.sig.returnType = some .int)
    (hd : decode c.code pc = .ok (.ireturn, 1)) (hlocks : meth.locks = false) (hq : Q (some (.int z)) T.heap locs) (hc : cells ≤ C) (hs : slots ≤ S) :
    own_Ends p.tables e below s Q C S (T.setTop (mkF m pc Ls (.int z :: rest))) :=
  own_retW X hx hret rfl (Or.inl ⟨rfl, Or.inl rfl, z, rfl⟩) hd hlocks hq hc hs
theorem own_retJ (X : Stand p l e R s m args below meth c T locs cells slots) (hx : p.tables.exec = Jvm.exec) {z : Int64} (hret : meth.sig.returnType = some .long)
    (hd : decode c.code pc = .ok (.lreturn, 1)) (hlocks : meth.locks = false) (hq : Q (some (.long z)) T.heap locs) (hc : cells ≤ C) (hs : slots ≤ S) :
    own_Ends p.tables e below s Q C S (T.setTop (mkF m pc Ls (.long z :: rest))) :=
  own_retW X hx hret rfl (Or.inr (Or.inl ⟨rfl, rfl, z, rfl⟩)) hd hlocks hq hc hs
theorem own_retR (X : Stand p l e R s m args below meth c T locs cells slots) (hx : p.tables.exec = Jvm.exec) {w : Value} {t : FieldType} (hret : meth.sig.returnType = some t) (ht : t.isReference = true) (hw : w.isRef = true) (hn : narrow t w = w)
    (hd : decode c.code pc = .ok (.areturn, 1)) (hlocks : meth.locks = false) (hq : Q (some w) T.heap locs) (hc : cells ≤ C) (hs : slots ≤ S) :
    own_Ends p.tables e below s Q C S (T.setTop (mkF m pc Ls (w :: rest))) :=
  own_retW X hx hret hn (Or.inr (Or.inr (Or.inr (Or.inr ⟨rfl, ht, hw⟩)))) hd hlocks hq hc hs
theorem own_retN (X : Stand p l e R s m args below meth c T locs cells slots) (hx : p.tables.exec = Jvm.exec) {z : Int32} {t : FieldType} (hret : meth.sig.returnType = some t) (ht : t = .boolean ∨ t = .byte ∨ t = .char ∨ t = .short)
    (hd : decode c.code pc = .ok (.ireturn, 1)) (hlocks : meth.locks = false) (hq : Q (some (.int (nar t z))) T.heap locs) (hc : cells ≤ C) (hs : slots ≤ S) :
    own_Ends p.tables e below s Q C S (T.setTop (mkF m pc Ls (.int z :: rest))) := by
  obtain ⟨fs, hr, hrun, hended, hW, hsame⟩ := X.leave (v := some (.int (nar t z))) (fun h => by rw [hret] at h; cases h) hlocks
  exact ⟨_, _, retN X hx hret ht hd hr, hrun, hended, _, _, rfl, hq, ⟨_, rfl⟩, hW, hsame.mono hc hs⟩
theorem own_ret0 (X : Stand p l e R s m args below meth c T locs cells slots) (hx : p.tables.exec = Jvm.exec) (hret : meth.sig.returnType = none)
    (hd : decode c.code pc = .ok (.return_, 1)) (hlocks : meth.locks = false) (hq : Q none T.heap locs) (hc : cells ≤ C) (hs : slots ≤ S) :
    own_Ends p.tables e below s Q C S (T.setTop (mkF m pc Ls [])) := by
  obtain ⟨fs, hr, hrun, hended, hW, hsame⟩ := X.leave (v := none) (fun _ => rfl) hlocks
  exact ⟨_, _, X.returnOut hx hret hd hr, hrun, hended, _, _, rfl, hq, ⟨_, rfl⟩, hW, hsame.mono hc hs⟩
end OwnRet
theorem own_idx (b n : Int32) (hn : 0 < n.toInt) : ¬ ((b &&& 2147483647) % n) < 0 ∧ ((b &&& 2147483647) % n) < n := by
  have h1 := c_and b 2147483647 (by decide)
  have h2 := (c_iremV (b &&& 2147483647) n).1 h1.1 hn
  constructor
  · rw [Int32.lt_iff_toInt_lt]; show ¬ _ < (0 : Int); omega
  · rw [Int32.lt_iff_toInt_lt]; omega
theorem own_small (v : Int32) (k : Nat) (hk : k < 2147483648) (h1 : ¬ v < 0) (h2 : v < Int32.ofNat k) : ∃ n : Fin k, v = Int32.ofNat n.1 := by
  rw [Int32.lt_iff_toInt_lt] at h1 h2
  rw [Int32.toInt_ofNat_of_lt hk] at h2
  have a : 0 ≤ v.toInt := by simpa using h1
  refine ⟨⟨v.toInt.toNat, by omega⟩, ?_⟩
  apply Int32.toInt_inj.mp
  rw [Int32.toInt_ofNat_of_lt (by show v.toInt.toNat < _; omega)]
  show v.toInt = ((v.toInt.toNat : Nat) : Int)
  omega
theorem own_fld {s : State} {args : Array Value} {t : Term} {a : Addr} {C n d : String} {k : Int32} (ev : t.eval args s none [] s = some (.ref a)) (h : (Jvm.Cond.eq (.field t C n d) (.int k)).value args s none s [] = some true) : Fld s s.heap a C n d (.int k) := by
  obtain ⟨x, y, h1, h2, h3, h4⟩ := cmp_v (Or.inl h)
  rw [fld_at ev] at h1
  have h5 : y = .int k := by have := h2.symm.trans (Term.int_eval k); exact Option.some.inj this
  subst h5
  obtain ⟨z, rfl⟩ := h4
  have q : (Jvm.Cond.eq (.field t C n d) (.int k)).value args s none s [] = some (decide (z = k)) := Cond.eq_ints ((fld_at ev).trans h1) (Term.int_eval k)
  have : z = k := gotT q h
  subst this
  exact Fld.start h1
def own_r1 (o0_1 : Addr) (w_INTEGER : Addr) (w_DECIMAL : Addr) (w_DOUBLE : Addr) : Int32 := (if o0_1 = w_INTEGER then (1 : Int32) else (if o0_1 = w_DECIMAL then (1 : Int32) else (if o0_1 = w_DOUBLE then (1 : Int32) else (0 : Int32))))
theorem d1_0 : decode prog_1_method_6_code 0 = .ok (.aload_n 0, 1) := by decide +kernel
theorem d1_1 : decode prog_1_method_6_code 1 = .ok (.getstatic 10, 3) := by decide +kernel
theorem d1_4 : decode prog_1_method_6_code 4 = .ok (.if_acmp .eq 17, 3) := by decide +kernel
theorem d1_7 : decode prog_1_method_6_code 7 = .ok (.aload_n 0, 1) := by decide +kernel
theorem d1_8 : decode prog_1_method_6_code 8 = .ok (.getstatic 13, 3) := by decide +kernel
theorem d1_11 : decode prog_1_method_6_code 11 = .ok (.if_acmp .eq 10, 3) := by decide +kernel
theorem d1_14 : decode prog_1_method_6_code 14 = .ok (.aload_n 0, 1) := by decide +kernel
theorem d1_15 : decode prog_1_method_6_code 15 = .ok (.getstatic 16, 3) := by decide +kernel
theorem d1_18 : decode prog_1_method_6_code 18 = .ok (.if_acmp .ne 7, 3) := by decide +kernel
theorem d1_21 : decode prog_1_method_6_code 21 = .ok (.iconst 1, 1) := by decide +kernel
theorem d1_22 : decode prog_1_method_6_code 22 = .ok (.goto 4, 3) := by decide +kernel
theorem d1_25 : decode prog_1_method_6_code 25 = .ok (.iconst 0, 1) := by decide +kernel
theorem d1_26 : decode prog_1_method_6_code 26 = .ok (.ireturn, 1) := by decide +kernel
theorem pn_0 : plainName "com/example/flwor/flwor/compiler/AtomicType" = true := by first | (simp [plainName, overriddenIn]; done) | decide +kernel
theorem ef_1 (m : MethodId) (o0_1 : Addr) : entryFrame m #[(.ref o0_1)] 1 = mkF m 0 #[.val (.ref o0_1)] [] := by first | (simp [entryFrame, mkF, argsToLocals, Value.category]; done) | rfl
def Q1 (Z : State) (o0_1 : Addr) (w_INTEGER : Addr) (w_DECIMAL : Addr) (w_DOUBLE : Addr) (h0 : Heap) (n0 : Nat) (v : Option Value) (h : Heap) (L : List Loc) : Prop := v = some (.int (own_r1 o0_1 w_INTEGER w_DECIMAL w_DOUBLE)) ∧ Fr n0 L ∧ h = h0
set_option maxRecDepth 65536 in
set_option maxHeartbeats 40000000 in
theorem rm1 (l : Launch) (Z : State) (a0 : Array Value) (hw : ∀ d ∈ tables_1, d.before a0 Z = true) (ws : List Jvm.Cond) (o0_1 : Addr) (w_INTEGER : Addr) (w_DECIMAL : Addr) (w_DOUBLE : Addr) (h0 : Heap) (n0 : Nat) (O0 : Old Z n0 h0) (S_INTEGER : Sta Z Z.heap "com/example/flwor/flwor/compiler/AtomicType" "INTEGER" "Lcom/example/flwor/flwor/compiler/AtomicType;" (.ref w_INTEGER)) (S_DECIMAL : Sta Z Z.heap "com/example/flwor/flwor/compiler/AtomicType" "DECIMAL" "Lcom/example/flwor/flwor/compiler/AtomicType;" (.ref w_DECIMAL)) (S_DOUBLE : Sta Z Z.heap "com/example/flwor/flwor/compiler/AtomicType" "DOUBLE" "Lcom/example/flwor/flwor/compiler/AtomicType;" (.ref w_DOUBLE)) :
    MetFree l (⟨"com/example/flwor/flwor/compiler/AtomicType", "numeric", "()Z"⟩ : MethodName) (head1 (Jvm.Cond.code (⟨"com/example/flwor/flwor/compiler/AtomicType", "numeric", "()Z"⟩ : MethodName) prog_1_method_6_code 1 (some .boolean) :: ws) ({ frames := 0, cells := 0, slots := 0, locals := 0 } : Room)) (fun a U => a = #[(.ref o0_1)] ∧ Z.Warmed39 U.vm ∧ U.heap = h0) (fun _ _ _ _ _ => True) (fun _ U o U' => ∃ v L, o = .returned v ∧ Q1 Z o0_1 w_INTEGER w_DECIMAL w_DOUBLE h0 n0 v U'.heap L ∧ FrameEnd U o U' L ({ frames := 0, cells := 0, slots := 0, locals := 0 } : Room).cells ({ frames := 0, cells := 0, slots := 0, locals := 0 } : Room).slots) := by
  refine MetFree.of_bodySF (plainFor_of_name pn_0) hisR ?_
  intro p e s m args below meth c s₁ Bd hml0 hP hK
  obtain ⟨rfl, hZ, hh⟩ := hP
  have hx := Bd.exec
  have hby := Bd.bytes
  have hnl := BodyLoose.notSynchronized Bd
  have hml : c.maxLocals = 1 := hml0
  have hown : s.vm.findClass "com/example/flwor/flwor/compiler/AtomicType" = some m.cls := findClass_of_methodNamed Bd.named
  have hnm := (name_of_methodNamed Bd.named Bd.method).1
  have X0 : Stand p l e ({ frames := 0, cells := 0, slots := 0, locals := 0 } : Room) s m #[(.ref o0_1)] below meth c s₁ [] 0 0 := Stand.of_body Bd
  have e0 : s₁.heap = h0 := by rw [← hh, Bd.state]; rfl
  have N0 := Fr.nil n0
  show own_Ends p.tables e below s (Q1 Z o0_1 w_INTEGER w_DECIMAL w_DOUBLE h0 n0) 0 0 (s₁.setTop (entryFrame m #[(.ref o0_1)] 1))
  rw [ef_1 m o0_1]
  show own_Ends p.tables e below s _ _ _ (s₁.setTop (mkF m 0 #[.val (.ref o0_1)] []))
  refine own_step (fun t k => XS.aloadN X0.here hx rfl (hb hby d1_0) rfl rfl k) ?_
  show own_Ends p.tables e below s _ _ _ (s₁.setTop (mkF m 1 #[.val (.ref o0_1)] [(.ref o0_1)]))
  obtain ⟨T1, X1, e1, st1⟩ := getS2 X0 hx hZ hown (host := "") (Or.inl (hw _ (List.mem_of_getElem? (i := 24) rfl))) Via.refl e0 (S_INTEGER.ext O0.2) (g := (mkF m 1 #[.val (.ref o0_1)] [(.ref o0_1)])) rfl (hb hby d1_1)
  refine own_step (fun t k => st1 _ k) ?_
  show own_Ends p.tables e below s _ _ _ (T1.setTop (mkF m 4 #[.val (.ref o0_1)] [(.ref w_INTEGER), (.ref o0_1)]))
  by_cases ha4_2 : o0_1 = w_INTEGER
  · skip
    refine own_step (fun t k => Jvm.RoadKit.acmp (g := (mkF m 4 #[.val (.ref o0_1)] [(.ref w_INTEGER), (.ref o0_1)])) X1 hx rfl rfl rfl (pc0 := 4) (pc' := 21) (same := true) rfl (hb hby d1_4) rfl (decide_eq_true (congrArg Value.ref ha4_2)) (by decide) (by decide) k) ?_
    show own_Ends p.tables e below s _ _ _ (T1.setTop (mkF m 21 #[.val (.ref o0_1)] []))
    refine own_step (fun t k => XS.iconst X1.here hx rfl (hb hby d1_21) k) ?_
    show own_Ends p.tables e below s _ _ _ (T1.setTop (mkF m 22 #[.val (.ref o0_1)] [(.int (1 : Int32))]))
    refine own_step (fun t k => XS.goto X1.here hx rfl (pc0 := 22) (pc' := 26) rfl (hb hby d1_22) (by decide) (by decide) k) ?_
    show own_Ends p.tables e below s _ _ _ (T1.setTop (mkF m 26 #[.val (.ref o0_1)] [(.int (1 : Int32))]))
    exact own_retN X1 hx (t := .boolean) Bd.returns (by simp) (hb hby d1_26) hnl (by rw [e1]; exact ⟨(congrArg (fun z => some (Value.int z)) (Eq.symm (show (own_r1 o0_1 w_INTEGER w_DECIMAL w_DOUBLE) = (1 : Int32) from by unfold own_r1; rw [if_pos ha4_2]))), N0, rfl⟩) (by decide) (by decide)
  · skip
    refine own_step (fun t k => Jvm.RoadKit.acmp (g := (mkF m 4 #[.val (.ref o0_1)] [(.ref w_INTEGER), (.ref o0_1)])) X1 hx rfl rfl rfl (pc0 := 4) (pc' := 7) (same := false) rfl (hb hby d1_4) rfl (decide_eq_false fun q => ha4_2 (Value.ref.inj q)) (by decide) (by decide) k) ?_
    show own_Ends p.tables e below s _ _ _ (T1.setTop (mkF m 7 #[.val (.ref o0_1)] []))
    refine own_step (fun t k => XS.aloadN X1.here hx rfl (hb hby d1_7) rfl rfl k) ?_
    show own_Ends p.tables e below s _ _ _ (T1.setTop (mkF m 8 #[.val (.ref o0_1)] [(.ref o0_1)]))
    obtain ⟨T3, X3, e3, st3⟩ := getS2 X1 hx hZ hown (host := "") (Or.inl (hw _ (List.mem_of_getElem? (i := 25) rfl))) Via.refl e1 (S_DECIMAL.ext O0.2) (g := (mkF m 8 #[.val (.ref o0_1)] [(.ref o0_1)])) rfl (hb hby d1_8)
    refine own_step (fun t k => st3 _ k) ?_
    show own_Ends p.tables e below s _ _ _ (T3.setTop (mkF m 11 #[.val (.ref o0_1)] [(.ref w_DECIMAL), (.ref o0_1)]))
    by_cases ha11_4 : o0_1 = w_DECIMAL
    · skip
      refine own_step (fun t k => Jvm.RoadKit.acmp (g := (mkF m 11 #[.val (.ref o0_1)] [(.ref w_DECIMAL), (.ref o0_1)])) X3 hx rfl rfl rfl (pc0 := 11) (pc' := 21) (same := true) rfl (hb hby d1_11) rfl (decide_eq_true (congrArg Value.ref ha11_4)) (by decide) (by decide) k) ?_
      show own_Ends p.tables e below s _ _ _ (T3.setTop (mkF m 21 #[.val (.ref o0_1)] []))
      refine own_step (fun t k => XS.iconst X3.here hx rfl (hb hby d1_21) k) ?_
      show own_Ends p.tables e below s _ _ _ (T3.setTop (mkF m 22 #[.val (.ref o0_1)] [(.int (1 : Int32))]))
      refine own_step (fun t k => XS.goto X3.here hx rfl (pc0 := 22) (pc' := 26) rfl (hb hby d1_22) (by decide) (by decide) k) ?_
      show own_Ends p.tables e below s _ _ _ (T3.setTop (mkF m 26 #[.val (.ref o0_1)] [(.int (1 : Int32))]))
      exact own_retN X3 hx (t := .boolean) Bd.returns (by simp) (hb hby d1_26) hnl (by rw [e3]; exact ⟨(congrArg (fun z => some (Value.int z)) (Eq.symm (show (own_r1 o0_1 w_INTEGER w_DECIMAL w_DOUBLE) = (1 : Int32) from by unfold own_r1; rw [if_neg ha4_2, if_pos ha11_4]))), N0, rfl⟩) (by decide) (by decide)
    · skip
      refine own_step (fun t k => Jvm.RoadKit.acmp (g := (mkF m 11 #[.val (.ref o0_1)] [(.ref w_DECIMAL), (.ref o0_1)])) X3 hx rfl rfl rfl (pc0 := 11) (pc' := 14) (same := false) rfl (hb hby d1_11) rfl (decide_eq_false fun q => ha11_4 (Value.ref.inj q)) (by decide) (by decide) k) ?_
      show own_Ends p.tables e below s _ _ _ (T3.setTop (mkF m 14 #[.val (.ref o0_1)] []))
      refine own_step (fun t k => XS.aloadN X3.here hx rfl (hb hby d1_14) rfl rfl k) ?_
      show own_Ends p.tables e below s _ _ _ (T3.setTop (mkF m 15 #[.val (.ref o0_1)] [(.ref o0_1)]))
      obtain ⟨T5, X5, e5, st5⟩ := getS2 X3 hx hZ hown (host := "") (Or.inl (hw _ (List.mem_of_getElem? (i := 26) rfl))) Via.refl e3 (S_DOUBLE.ext O0.2) (g := (mkF m 15 #[.val (.ref o0_1)] [(.ref o0_1)])) rfl (hb hby d1_15)
      refine own_step (fun t k => st5 _ k) ?_
      show own_Ends p.tables e below s _ _ _ (T5.setTop (mkF m 18 #[.val (.ref o0_1)] [(.ref w_DOUBLE), (.ref o0_1)]))
      by_cases ha18_6 : o0_1 = w_DOUBLE
      · skip
        refine own_step (fun t k => Jvm.RoadKit.acmp (g := (mkF m 18 #[.val (.ref o0_1)] [(.ref w_DOUBLE), (.ref o0_1)])) X5 hx rfl rfl rfl (pc0 := 18) (pc' := 21) (same := true) rfl (hb hby d1_18) rfl (decide_eq_true (congrArg Value.ref ha18_6)) (by decide) (by decide) k) ?_
        show own_Ends p.tables e below s _ _ _ (T5.setTop (mkF m 21 #[.val (.ref o0_1)] []))
        refine own_step (fun t k => XS.iconst X5.here hx rfl (hb hby d1_21) k) ?_
        show own_Ends p.tables e below s _ _ _ (T5.setTop (mkF m 22 #[.val (.ref o0_1)] [(.int (1 : Int32))]))
        refine own_step (fun t k => XS.goto X5.here hx rfl (pc0 := 22) (pc' := 26) rfl (hb hby d1_22) (by decide) (by decide) k) ?_
        show own_Ends p.tables e below s _ _ _ (T5.setTop (mkF m 26 #[.val (.ref o0_1)] [(.int (1 : Int32))]))
        exact own_retN X5 hx (t := .boolean) Bd.returns (by simp) (hb hby d1_26) hnl (by rw [e5]; exact ⟨(congrArg (fun z => some (Value.int z)) (Eq.symm (show (own_r1 o0_1 w_INTEGER w_DECIMAL w_DOUBLE) = (1 : Int32) from by unfold own_r1; rw [if_neg ha4_2, if_neg ha11_4, if_pos ha18_6]))), N0, rfl⟩) (by decide) (by decide)
      · skip
        refine own_step (fun t k => Jvm.RoadKit.acmp (g := (mkF m 18 #[.val (.ref o0_1)] [(.ref w_DOUBLE), (.ref o0_1)])) X5 hx rfl rfl rfl (pc0 := 18) (pc' := 25) (same := false) rfl (hb hby d1_18) rfl (decide_eq_false fun q => ha18_6 (Value.ref.inj q)) (by decide) (by decide) k) ?_
        show own_Ends p.tables e below s _ _ _ (T5.setTop (mkF m 25 #[.val (.ref o0_1)] []))
        refine own_step (fun t k => XS.iconst X5.here hx rfl (hb hby d1_25) k) ?_
        show own_Ends p.tables e below s _ _ _ (T5.setTop (mkF m 26 #[.val (.ref o0_1)] [(.int (0 : Int32))]))
        exact own_retN X5 hx (t := .boolean) Bd.returns (by simp) (hb hby d1_26) hnl (by rw [e5]; exact ⟨(congrArg (fun z => some (Value.int z)) (Eq.symm (show (own_r1 o0_1 w_INTEGER w_DECIMAL w_DOUBLE) = (0 : Int32) from by unfold own_r1; rw [if_neg ha4_2, if_neg ha11_4, if_neg ha18_6]))), N0, rfl⟩) (by decide) (by decide)
theorem own_cases7 (v : Int32) (h : ¬ v < 0 ∧ v < 7) : v = 0 ∨ v = 1 ∨ v = 2 ∨ v = 3 ∨ v = 4 ∨ v = 5 ∨ v = 6 := by
  obtain ⟨n, rfl⟩ := own_small v 7 (by decide) h.1 h.2
  revert n; decide

theorem pd_0 : parseMethodDescriptor "()Z" = some ⟨[], some .boolean⟩ := by decide +kernel
theorem pn_1 : plainName "com/example/flwor/flwor/compiler/AtomicTypeNumericPinLaw" = true := by first | (simp [plainName, overriddenIn]; done) | decide +kernel
theorem ef_0 (m : MethodId) (x0_0 : Int32) : entryFrame m #[(.int x0_0)] maxLocals = mkF m 0 #[.val (.int x0_0), .unset, .unset, .unset, .unset] [] := by first | (simp [entryFrame, mkF, argsToLocals, Value.category, maxLocals]; done) | rfl
def Q0 (Z : State) (w_UNTYPED : Addr) (w_STRING : Addr) (w_INTEGER : Addr) (w_DECIMAL : Addr) (w_DOUBLE : Addr) (w_DATE : Addr) (w_BOOLEAN : Addr) (x0_0 : Int32) (h0 : Heap) (n0 : Nat) (v : Option Value) (h : Heap) (L : List Loc) : Prop := v = some (.int 1) ∧ Fr n0 L
set_option maxRecDepth 65536 in
set_option maxHeartbeats 40000000 in
theorem rm0 (l : Launch) (Z : State) (a0 : Array Value) (hw : ∀ d ∈ tables_1, d.before a0 Z = true) (ws : List Jvm.Cond) (w_UNTYPED : Addr) (w_STRING : Addr) (w_INTEGER : Addr) (w_DECIMAL : Addr) (w_DOUBLE : Addr) (w_DATE : Addr) (w_BOOLEAN : Addr) (x0_0 : Int32) (h0 : Heap) (n0 : Nat) (O0 : Old Z n0 h0) (ne_w_UNTYPED_w_INTEGER : w_UNTYPED ≠ w_INTEGER) (ne_w_UNTYPED_w_DECIMAL : w_UNTYPED ≠ w_DECIMAL) (ne_w_UNTYPED_w_DOUBLE : w_UNTYPED ≠ w_DOUBLE) (ne_w_STRING_w_INTEGER : w_STRING ≠ w_INTEGER) (ne_w_STRING_w_DECIMAL : w_STRING ≠ w_DECIMAL) (ne_w_STRING_w_DOUBLE : w_STRING ≠ w_DOUBLE) (ne_w_INTEGER_w_DECIMAL : w_INTEGER ≠ w_DECIMAL) (ne_w_INTEGER_w_DOUBLE : w_INTEGER ≠ w_DOUBLE) (ne_w_DECIMAL_w_DOUBLE : w_DECIMAL ≠ w_DOUBLE) (ne_w_DATE_w_INTEGER : w_DATE ≠ w_INTEGER) (ne_w_DATE_w_DECIMAL : w_DATE ≠ w_DECIMAL) (ne_w_DATE_w_DOUBLE : w_DATE ≠ w_DOUBLE) (ne_w_BOOLEAN_w_INTEGER : w_BOOLEAN ≠ w_INTEGER) (ne_w_BOOLEAN_w_DECIMAL : w_BOOLEAN ≠ w_DECIMAL) (ne_w_BOOLEAN_w_DOUBLE : w_BOOLEAN ≠ w_DOUBLE) (S_UNTYPED : Sta Z Z.heap "com/example/flwor/flwor/compiler/AtomicType" "UNTYPED" "Lcom/example/flwor/flwor/compiler/AtomicType;" (.ref w_UNTYPED)) (E_w_UNTYPED : Exa Z h0 w_UNTYPED "com/example/flwor/flwor/compiler/AtomicType") (S_STRING : Sta Z Z.heap "com/example/flwor/flwor/compiler/AtomicType" "STRING" "Lcom/example/flwor/flwor/compiler/AtomicType;" (.ref w_STRING)) (E_w_STRING : Exa Z h0 w_STRING "com/example/flwor/flwor/compiler/AtomicType") (S_INTEGER : Sta Z Z.heap "com/example/flwor/flwor/compiler/AtomicType" "INTEGER" "Lcom/example/flwor/flwor/compiler/AtomicType;" (.ref w_INTEGER)) (E_w_INTEGER : Exa Z h0 w_INTEGER "com/example/flwor/flwor/compiler/AtomicType") (S_DECIMAL : Sta Z Z.heap "com/example/flwor/flwor/compiler/AtomicType" "DECIMAL" "Lcom/example/flwor/flwor/compiler/AtomicType;" (.ref w_DECIMAL)) (E_w_DECIMAL : Exa Z h0 w_DECIMAL "com/example/flwor/flwor/compiler/AtomicType") (S_DOUBLE : Sta Z Z.heap "com/example/flwor/flwor/compiler/AtomicType" "DOUBLE" "Lcom/example/flwor/flwor/compiler/AtomicType;" (.ref w_DOUBLE)) (E_w_DOUBLE : Exa Z h0 w_DOUBLE "com/example/flwor/flwor/compiler/AtomicType") (S_DATE : Sta Z Z.heap "com/example/flwor/flwor/compiler/AtomicType" "DATE" "Lcom/example/flwor/flwor/compiler/AtomicType;" (.ref w_DATE)) (E_w_DATE : Exa Z h0 w_DATE "com/example/flwor/flwor/compiler/AtomicType") (S_BOOLEAN : Sta Z Z.heap "com/example/flwor/flwor/compiler/AtomicType" "BOOLEAN" "Lcom/example/flwor/flwor/compiler/AtomicType;" (.ref w_BOOLEAN)) (E_w_BOOLEAN : Exa Z h0 w_BOOLEAN "com/example/flwor/flwor/compiler/AtomicType") :
    MetFree l x (head1 (Jvm.Cond.code x code maxLocals ret :: ws) room_1) (fun a U => a = #[(.int x0_0)] ∧ Z.Warmed39 U.vm ∧ U.heap = h0) (fun _ _ _ _ _ => True) (fun _ U o U' => ∃ v L, o = .returned v ∧ Q0 Z w_UNTYPED w_STRING w_INTEGER w_DECIMAL w_DOUBLE w_DATE w_BOOLEAN x0_0 h0 n0 v U'.heap L ∧ FrameEnd U o U' L 1 7) := by
  refine MetFree.of_bodySF (plainFor_of_name pn_1) hisR ?_
  intro p e s m args below meth c s₁ Bd hml0 hP hK
  obtain ⟨rfl, hZ, hh⟩ := hP
  have hx := Bd.exec
  have hby := Bd.bytes
  have hnl := BodyLoose.notSynchronized Bd
  have hml : c.maxLocals = 5 := hml0
  have hown : s.vm.findClass "com/example/flwor/flwor/compiler/AtomicTypeNumericPinLaw" = some m.cls := findClass_of_methodNamed Bd.named
  have hnm := (name_of_methodNamed Bd.named Bd.method).1
  have X0 : Stand p l e room_1 s m #[(.int x0_0)] below meth c s₁ [] 0 0 := Stand.of_body Bd
  have e0 : s₁.heap = h0 := by rw [← hh, Bd.state]; rfl
  have N0 := Fr.nil n0
  show own_Ends p.tables e below s (Q0 Z w_UNTYPED w_STRING w_INTEGER w_DECIMAL w_DOUBLE w_DATE w_BOOLEAN x0_0 h0 n0) 1 7 (s₁.setTop (entryFrame m #[(.int x0_0)] maxLocals))
  rw [ef_0 m x0_0]
  show own_Ends p.tables e below s _ _ _ (s₁.setTop (mkF m 0 #[.val (.int x0_0), .unset, .unset, .unset, .unset] []))
  refine own_step (fun t k => XS.iloadN X0.here hx rfl (hb hby at_0) rfl k) ?_
  show own_Ends p.tables e below s _ _ _ (s₁.setTop (mkF m 1 #[.val (.int x0_0), .unset, .unset, .unset, .unset] [(.int x0_0)]))
  refine own_step (fun t k => X0.ldcInt hx hown (mvT hZ (hw _ (List.mem_of_getElem? (i := 0) rfl))) (g := (mkF m 1 #[.val (.int x0_0), .unset, .unset, .unset, .unset] [(.int x0_0)])) rfl (hb hby at_1) _ k) ?_
  show own_Ends p.tables e below s _ _ _ (s₁.setTop (mkF m 3 #[.val (.int x0_0), .unset, .unset, .unset, .unset] [(.int (2147483647 : Int32)), (.int x0_0)]))
  refine own_step (fun t k => XS.iand X0.here hx rfl (hb hby at_3) rfl k) ?_
  show own_Ends p.tables e below s _ _ _ (s₁.setTop (mkF m 4 #[.val (.int x0_0), .unset, .unset, .unset, .unset] [(.int (x0_0 &&& (2147483647 : Int32)))]))
  refine own_step (fun t k => XS.bipush X0.here hx rfl (hb hby at_4) k) ?_
  show own_Ends p.tables e below s _ _ _ (s₁.setTop (mkF m 6 #[.val (.int x0_0), .unset, .unset, .unset, .unset] [(.int (7 : Int32)), (.int (x0_0 &&& (2147483647 : Int32)))]))
  refine own_step (fun t k => iremM X0 hx rfl (hb hby at_6) rfl (by decide) k) ?_
  show own_Ends p.tables e below s _ _ _ (s₁.setTop (mkF m 7 #[.val (.int x0_0), .unset, .unset, .unset, .unset] [(.int ((x0_0 &&& (2147483647 : Int32)) % (7 : Int32)))]))
  generalize hk7 : ((x0_0 &&& (2147483647 : Int32)) % (7 : Int32)) = k7
  show own_Ends p.tables e below s _ _ _ (s₁.setTop (mkF m 7 #[.val (.int x0_0), .unset, .unset, .unset, .unset] [(.int k7)]))
  refine own_step (fun t k => XS.istoreN X0.here hx rfl (hb hby at_7) rfl (l' := #[.val (.int x0_0), .val (.int k7), .unset, .unset, .unset]) rfl k) ?_
  show own_Ends p.tables e below s _ _ _ (s₁.setTop (mkF m 8 #[.val (.int x0_0), .val (.int k7), .unset, .unset, .unset] []))
  refine own_step (fun t k => XS.bipush X0.here hx rfl (hb hby at_8) k) ?_
  show own_Ends p.tables e below s _ _ _ (s₁.setTop (mkF m 10 #[.val (.int x0_0), .val (.int k7), .unset, .unset, .unset] [(.int (7 : Int32))]))
  obtain ⟨T1, h1, k1, X1, e1, E1, A1, O1, st1⟩ := newR X0 hx hZ hown (hw _ (List.mem_of_getElem? (i := 1) rfl)) (hw _ (List.mem_of_getElem? (i := 2) rfl)) e0 (g := (mkF m 10 #[.val (.int x0_0), .val (.int k7), .unset, .unset, .unset] [(.int (7 : Int32))])) rfl (hb hby at_10) rfl (by decide) (cap := 7) (by decide) (by decide) (by decide) (by decide)
  obtain ⟨b1, g1⟩ : ∃ z, z = h0.size := ⟨_, rfl⟩
  rw [← g1] at A1 st1
  have g_b1 : n0 ≤ b1 := Nat.le_trans (Nat.le_trans (Nat.le_of_eq O0.1.symm) O0.2.1) (Nat.le_of_eq g1.symm)
  have sz_b1 : h0.size ≤ b1 := Nat.le_trans (Keep.refl h0 []).1 (Nat.le_of_eq g1.symm)
  have V1 : Arv Z h1 b1 k1 (.object "com/example/flwor/flwor/compiler/AtomicType") (7 : Int32) [] .null := Arv.new A1 (by decide)
  have V1p : Arv Z h1 b1 k1 (.object "com/example/flwor/flwor/compiler/AtomicType") (7 : Int32) [.null, .null, .null, .null, .null, .null, .null] .null := V1.pad (pad_rep [] .null 7)
  refine own_step (fun t k => st1 _ k) ?_
  have K2 : Keep h0 h1 [] := (Keep.refl h0 []).ext E1
  show own_Ends p.tables e below s _ _ _ (T1.setTop (mkF m 13 #[.val (.int x0_0), .val (.int k7), .unset, .unset, .unset] [(.ref b1)]))
  refine own_step (fun t k => XS.dup X1.here hx rfl (hb hby at_13) rfl rfl k) ?_
  show own_Ends p.tables e below s _ _ _ (T1.setTop (mkF m 14 #[.val (.int x0_0), .val (.int k7), .unset, .unset, .unset] [(.ref b1), (.ref b1)]))
  refine own_step (fun t k => XS.iconst X1.here hx rfl (hb hby at_14) k) ?_
  show own_Ends p.tables e below s _ _ _ (T1.setTop (mkF m 15 #[.val (.int x0_0), .val (.int k7), .unset, .unset, .unset] [(.int (0 : Int32)), (.ref b1), (.ref b1)]))
  have O3 : Old Z n0 h1 := (O0.ext E1)
  obtain ⟨T4, X4, e4, st4⟩ := getS2 X1 hx hZ hown (host := "") (Or.inl (hw _ (List.mem_of_getElem? (i := 3) rfl))) Via.refl e1 (S_UNTYPED.ext O3.2) (g := (mkF m 15 #[.val (.int x0_0), .val (.int k7), .unset, .unset, .unset] [(.int (0 : Int32)), (.ref b1), (.ref b1)])) rfl (hb hby at_15)
  refine own_step (fun t k => st4 _ k) ?_
  show own_Ends p.tables e below s _ _ _ (T4.setTop (mkF m 18 #[.val (.int x0_0), .val (.int k7), .unset, .unset, .unset] [(.ref w_UNTYPED), (.int (0 : Int32)), (.ref b1), (.ref b1)]))
  obtain ⟨cl5, Ar5, q5, S5, N5, H5, G5⟩ := V1p
  have hin5 : ¬ ((0 : Int32) < 0 ∨ cl5.slots.size ≤ ((0 : Int32)).toNatClampNeg) := inb_of S5 ⟨by decide, by decide⟩
  have F6 : Exa Z h1 w_UNTYPED "com/example/flwor/flwor/compiler/AtomicType" := (E_w_UNTYPED.ext E1)
  obtain ⟨T7, h7, X7, e7, W7, st7⟩ := stR X4 hx hZ e4 Ar5 (j := (0 : Int32)) hin5 rfl (Sto.ofV Ar5 q5 O1 (Ins.self F6)) (g := (mkF m 18 #[.val (.int x0_0), .val (.int k7), .unset, .unset, .unset] [(.ref w_UNTYPED), (.int (0 : Int32)), (.ref b1), (.ref b1)])) rfl rfl (hb hby at_18)
  refine own_step (fun t k => st7 _ k) ?_
  have V7 : Arv Z h7 b1 k1 (.object "com/example/flwor/flwor/compiler/AtomicType") (7 : Int32) [(.ref w_UNTYPED), .null, .null, .null, .null, .null, .null] .null := Arv.set Ar5 q5 S5 N5 H5 G5 rfl W7 0 rfl (Nat.le_of_ble_eq_true rfl)
  have K8 : Keep h0 h7 [] := K2.wr W7 (Or.inr sz_b1)
  have N9 := Fr.snoc X7 N0 g_b1
  show own_Ends p.tables e below s _ _ _ (T7.setTop (mkF m 19 #[.val (.int x0_0), .val (.int k7), .unset, .unset, .unset] [(.ref b1)]))
  refine own_step (fun t k => XS.dup X7.here hx rfl (hb hby at_19) rfl rfl k) ?_
  show own_Ends p.tables e below s _ _ _ (T7.setTop (mkF m 20 #[.val (.int x0_0), .val (.int k7), .unset, .unset, .unset] [(.ref b1), (.ref b1)]))
  refine own_step (fun t k => XS.iconst X7.here hx rfl (hb hby at_20) k) ?_
  show own_Ends p.tables e below s _ _ _ (T7.setTop (mkF m 21 #[.val (.int x0_0), .val (.int k7), .unset, .unset, .unset] [(.int (1 : Int32)), (.ref b1), (.ref b1)]))
  have O10 : Old Z n0 h7 := (O3.wr W7 g_b1)
  obtain ⟨T11, X11, e11, st11⟩ := getS2 X7 hx hZ hown (host := "") (Or.inl (hw _ (List.mem_of_getElem? (i := 7) rfl))) Via.refl e7 (S_STRING.ext O10.2) (g := (mkF m 21 #[.val (.int x0_0), .val (.int k7), .unset, .unset, .unset] [(.int (1 : Int32)), (.ref b1), (.ref b1)])) rfl (hb hby at_21)
  refine own_step (fun t k => st11 _ k) ?_
  show own_Ends p.tables e below s _ _ _ (T11.setTop (mkF m 24 #[.val (.int x0_0), .val (.int k7), .unset, .unset, .unset] [(.ref w_STRING), (.int (1 : Int32)), (.ref b1), (.ref b1)]))
  obtain ⟨cl12, Ar12, q12, S12, N12, H12, G12⟩ := V7
  have hin12 : ¬ ((1 : Int32) < 0 ∨ cl12.slots.size ≤ ((1 : Int32)).toNatClampNeg) := inb_of S12 ⟨by decide, by decide⟩
  have F13 : Exa Z h7 w_STRING "com/example/flwor/flwor/compiler/AtomicType" := ((E_w_STRING.ext E1).wr W7)
  obtain ⟨T14, h14, X14, e14, W14, st14⟩ := stR X11 hx hZ e11 Ar12 (j := (1 : Int32)) hin12 rfl (Sto.ofV Ar12 q12 O1 (Ins.self F13)) (g := (mkF m 24 #[.val (.int x0_0), .val (.int k7), .unset, .unset, .unset] [(.ref w_STRING), (.int (1 : Int32)), (.ref b1), (.ref b1)])) rfl rfl (hb hby at_24)
  refine own_step (fun t k => st14 _ k) ?_
  have V14 : Arv Z h14 b1 k1 (.object "com/example/flwor/flwor/compiler/AtomicType") (7 : Int32) [(.ref w_UNTYPED), (.ref w_STRING), .null, .null, .null, .null, .null] .null := Arv.set Ar12 q12 S12 N12 H12 G12 rfl W14 1 rfl (Nat.le_of_ble_eq_true rfl)
  have K15 : Keep h0 h14 [] := K8.wr W14 (Or.inr sz_b1)
  have N16 := Fr.snoc X14 N9 g_b1
  show own_Ends p.tables e below s _ _ _ (T14.setTop (mkF m 25 #[.val (.int x0_0), .val (.int k7), .unset, .unset, .unset] [(.ref b1)]))
  refine own_step (fun t k => XS.dup X14.here hx rfl (hb hby at_25) rfl rfl k) ?_
  show own_Ends p.tables e below s _ _ _ (T14.setTop (mkF m 26 #[.val (.int x0_0), .val (.int k7), .unset, .unset, .unset] [(.ref b1), (.ref b1)]))
  refine own_step (fun t k => XS.iconst X14.here hx rfl (hb hby at_26) k) ?_
  show own_Ends p.tables e below s _ _ _ (T14.setTop (mkF m 27 #[.val (.int x0_0), .val (.int k7), .unset, .unset, .unset] [(.int (2 : Int32)), (.ref b1), (.ref b1)]))
  have O17 : Old Z n0 h14 := (O10.wr W14 g_b1)
  obtain ⟨T18, X18, e18, st18⟩ := getS2 X14 hx hZ hown (host := "") (Or.inl (hw _ (List.mem_of_getElem? (i := 9) rfl))) Via.refl e14 (S_INTEGER.ext O17.2) (g := (mkF m 27 #[.val (.int x0_0), .val (.int k7), .unset, .unset, .unset] [(.int (2 : Int32)), (.ref b1), (.ref b1)])) rfl (hb hby at_27)
  refine own_step (fun t k => st18 _ k) ?_
  show own_Ends p.tables e below s _ _ _ (T18.setTop (mkF m 30 #[.val (.int x0_0), .val (.int k7), .unset, .unset, .unset] [(.ref w_INTEGER), (.int (2 : Int32)), (.ref b1), (.ref b1)]))
  obtain ⟨cl19, Ar19, q19, S19, N19, H19, G19⟩ := V14
  have hin19 : ¬ ((2 : Int32) < 0 ∨ cl19.slots.size ≤ ((2 : Int32)).toNatClampNeg) := inb_of S19 ⟨by decide, by decide⟩
  have F20 : Exa Z h14 w_INTEGER "com/example/flwor/flwor/compiler/AtomicType" := (((E_w_INTEGER.ext E1).wr W7).wr W14)
  obtain ⟨T21, h21, X21, e21, W21, st21⟩ := stR X18 hx hZ e18 Ar19 (j := (2 : Int32)) hin19 rfl (Sto.ofV Ar19 q19 O1 (Ins.self F20)) (g := (mkF m 30 #[.val (.int x0_0), .val (.int k7), .unset, .unset, .unset] [(.ref w_INTEGER), (.int (2 : Int32)), (.ref b1), (.ref b1)])) rfl rfl (hb hby at_30)
  refine own_step (fun t k => st21 _ k) ?_
  have V21 : Arv Z h21 b1 k1 (.object "com/example/flwor/flwor/compiler/AtomicType") (7 : Int32) [(.ref w_UNTYPED), (.ref w_STRING), (.ref w_INTEGER), .null, .null, .null, .null] .null := Arv.set Ar19 q19 S19 N19 H19 G19 rfl W21 2 rfl (Nat.le_of_ble_eq_true rfl)
  have K22 : Keep h0 h21 [] := K15.wr W21 (Or.inr sz_b1)
  have N23 := Fr.snoc X21 N16 g_b1
  show own_Ends p.tables e below s _ _ _ (T21.setTop (mkF m 31 #[.val (.int x0_0), .val (.int k7), .unset, .unset, .unset] [(.ref b1)]))
  refine own_step (fun t k => XS.dup X21.here hx rfl (hb hby at_31) rfl rfl k) ?_
  show own_Ends p.tables e below s _ _ _ (T21.setTop (mkF m 32 #[.val (.int x0_0), .val (.int k7), .unset, .unset, .unset] [(.ref b1), (.ref b1)]))
  refine own_step (fun t k => XS.iconst X21.here hx rfl (hb hby at_32) k) ?_
  show own_Ends p.tables e below s _ _ _ (T21.setTop (mkF m 33 #[.val (.int x0_0), .val (.int k7), .unset, .unset, .unset] [(.int (3 : Int32)), (.ref b1), (.ref b1)]))
  have O24 : Old Z n0 h21 := (O17.wr W21 g_b1)
  obtain ⟨T25, X25, e25, st25⟩ := getS2 X21 hx hZ hown (host := "") (Or.inl (hw _ (List.mem_of_getElem? (i := 11) rfl))) Via.refl e21 (S_DECIMAL.ext O24.2) (g := (mkF m 33 #[.val (.int x0_0), .val (.int k7), .unset, .unset, .unset] [(.int (3 : Int32)), (.ref b1), (.ref b1)])) rfl (hb hby at_33)
  refine own_step (fun t k => st25 _ k) ?_
  show own_Ends p.tables e below s _ _ _ (T25.setTop (mkF m 36 #[.val (.int x0_0), .val (.int k7), .unset, .unset, .unset] [(.ref w_DECIMAL), (.int (3 : Int32)), (.ref b1), (.ref b1)]))
  obtain ⟨cl26, Ar26, q26, S26, N26, H26, G26⟩ := V21
  have hin26 : ¬ ((3 : Int32) < 0 ∨ cl26.slots.size ≤ ((3 : Int32)).toNatClampNeg) := inb_of S26 ⟨by decide, by decide⟩
  have F27 : Exa Z h21 w_DECIMAL "com/example/flwor/flwor/compiler/AtomicType" := ((((E_w_DECIMAL.ext E1).wr W7).wr W14).wr W21)
  obtain ⟨T28, h28, X28, e28, W28, st28⟩ := stR X25 hx hZ e25 Ar26 (j := (3 : Int32)) hin26 rfl (Sto.ofV Ar26 q26 O1 (Ins.self F27)) (g := (mkF m 36 #[.val (.int x0_0), .val (.int k7), .unset, .unset, .unset] [(.ref w_DECIMAL), (.int (3 : Int32)), (.ref b1), (.ref b1)])) rfl rfl (hb hby at_36)
  refine own_step (fun t k => st28 _ k) ?_
  have V28 : Arv Z h28 b1 k1 (.object "com/example/flwor/flwor/compiler/AtomicType") (7 : Int32) [(.ref w_UNTYPED), (.ref w_STRING), (.ref w_INTEGER), (.ref w_DECIMAL), .null, .null, .null] .null := Arv.set Ar26 q26 S26 N26 H26 G26 rfl W28 3 rfl (Nat.le_of_ble_eq_true rfl)
  have K29 : Keep h0 h28 [] := K22.wr W28 (Or.inr sz_b1)
  have N30 := Fr.snoc X28 N23 g_b1
  show own_Ends p.tables e below s _ _ _ (T28.setTop (mkF m 37 #[.val (.int x0_0), .val (.int k7), .unset, .unset, .unset] [(.ref b1)]))
  refine own_step (fun t k => XS.dup X28.here hx rfl (hb hby at_37) rfl rfl k) ?_
  show own_Ends p.tables e below s _ _ _ (T28.setTop (mkF m 38 #[.val (.int x0_0), .val (.int k7), .unset, .unset, .unset] [(.ref b1), (.ref b1)]))
  refine own_step (fun t k => XS.iconst X28.here hx rfl (hb hby at_38) k) ?_
  show own_Ends p.tables e below s _ _ _ (T28.setTop (mkF m 39 #[.val (.int x0_0), .val (.int k7), .unset, .unset, .unset] [(.int (4 : Int32)), (.ref b1), (.ref b1)]))
  have O31 : Old Z n0 h28 := (O24.wr W28 g_b1)
  obtain ⟨T32, X32, e32, st32⟩ := getS2 X28 hx hZ hown (host := "") (Or.inl (hw _ (List.mem_of_getElem? (i := 13) rfl))) Via.refl e28 (S_DOUBLE.ext O31.2) (g := (mkF m 39 #[.val (.int x0_0), .val (.int k7), .unset, .unset, .unset] [(.int (4 : Int32)), (.ref b1), (.ref b1)])) rfl (hb hby at_39)
  refine own_step (fun t k => st32 _ k) ?_
  show own_Ends p.tables e below s _ _ _ (T32.setTop (mkF m 42 #[.val (.int x0_0), .val (.int k7), .unset, .unset, .unset] [(.ref w_DOUBLE), (.int (4 : Int32)), (.ref b1), (.ref b1)]))
  obtain ⟨cl33, Ar33, q33, S33, N33, H33, G33⟩ := V28
  have hin33 : ¬ ((4 : Int32) < 0 ∨ cl33.slots.size ≤ ((4 : Int32)).toNatClampNeg) := inb_of S33 ⟨by decide, by decide⟩
  have F34 : Exa Z h28 w_DOUBLE "com/example/flwor/flwor/compiler/AtomicType" := (((((E_w_DOUBLE.ext E1).wr W7).wr W14).wr W21).wr W28)
  obtain ⟨T35, h35, X35, e35, W35, st35⟩ := stR X32 hx hZ e32 Ar33 (j := (4 : Int32)) hin33 rfl (Sto.ofV Ar33 q33 O1 (Ins.self F34)) (g := (mkF m 42 #[.val (.int x0_0), .val (.int k7), .unset, .unset, .unset] [(.ref w_DOUBLE), (.int (4 : Int32)), (.ref b1), (.ref b1)])) rfl rfl (hb hby at_42)
  refine own_step (fun t k => st35 _ k) ?_
  have V35 : Arv Z h35 b1 k1 (.object "com/example/flwor/flwor/compiler/AtomicType") (7 : Int32) [(.ref w_UNTYPED), (.ref w_STRING), (.ref w_INTEGER), (.ref w_DECIMAL), (.ref w_DOUBLE), .null, .null] .null := Arv.set Ar33 q33 S33 N33 H33 G33 rfl W35 4 rfl (Nat.le_of_ble_eq_true rfl)
  have K36 : Keep h0 h35 [] := K29.wr W35 (Or.inr sz_b1)
  have N37 := Fr.snoc X35 N30 g_b1
  show own_Ends p.tables e below s _ _ _ (T35.setTop (mkF m 43 #[.val (.int x0_0), .val (.int k7), .unset, .unset, .unset] [(.ref b1)]))
  refine own_step (fun t k => XS.dup X35.here hx rfl (hb hby at_43) rfl rfl k) ?_
  show own_Ends p.tables e below s _ _ _ (T35.setTop (mkF m 44 #[.val (.int x0_0), .val (.int k7), .unset, .unset, .unset] [(.ref b1), (.ref b1)]))
  refine own_step (fun t k => XS.iconst X35.here hx rfl (hb hby at_44) k) ?_
  show own_Ends p.tables e below s _ _ _ (T35.setTop (mkF m 45 #[.val (.int x0_0), .val (.int k7), .unset, .unset, .unset] [(.int (5 : Int32)), (.ref b1), (.ref b1)]))
  have O38 : Old Z n0 h35 := (O31.wr W35 g_b1)
  obtain ⟨T39, X39, e39, st39⟩ := getS2 X35 hx hZ hown (host := "") (Or.inl (hw _ (List.mem_of_getElem? (i := 15) rfl))) Via.refl e35 (S_DATE.ext O38.2) (g := (mkF m 45 #[.val (.int x0_0), .val (.int k7), .unset, .unset, .unset] [(.int (5 : Int32)), (.ref b1), (.ref b1)])) rfl (hb hby at_45)
  refine own_step (fun t k => st39 _ k) ?_
  show own_Ends p.tables e below s _ _ _ (T39.setTop (mkF m 48 #[.val (.int x0_0), .val (.int k7), .unset, .unset, .unset] [(.ref w_DATE), (.int (5 : Int32)), (.ref b1), (.ref b1)]))
  obtain ⟨cl40, Ar40, q40, S40, N40, H40, G40⟩ := V35
  have hin40 : ¬ ((5 : Int32) < 0 ∨ cl40.slots.size ≤ ((5 : Int32)).toNatClampNeg) := inb_of S40 ⟨by decide, by decide⟩
  have F41 : Exa Z h35 w_DATE "com/example/flwor/flwor/compiler/AtomicType" := ((((((E_w_DATE.ext E1).wr W7).wr W14).wr W21).wr W28).wr W35)
  obtain ⟨T42, h42, X42, e42, W42, st42⟩ := stR X39 hx hZ e39 Ar40 (j := (5 : Int32)) hin40 rfl (Sto.ofV Ar40 q40 O1 (Ins.self F41)) (g := (mkF m 48 #[.val (.int x0_0), .val (.int k7), .unset, .unset, .unset] [(.ref w_DATE), (.int (5 : Int32)), (.ref b1), (.ref b1)])) rfl rfl (hb hby at_48)
  refine own_step (fun t k => st42 _ k) ?_
  have V42 : Arv Z h42 b1 k1 (.object "com/example/flwor/flwor/compiler/AtomicType") (7 : Int32) [(.ref w_UNTYPED), (.ref w_STRING), (.ref w_INTEGER), (.ref w_DECIMAL), (.ref w_DOUBLE), (.ref w_DATE), .null] .null := Arv.set Ar40 q40 S40 N40 H40 G40 rfl W42 5 rfl (Nat.le_of_ble_eq_true rfl)
  have K43 : Keep h0 h42 [] := K36.wr W42 (Or.inr sz_b1)
  have N44 := Fr.snoc X42 N37 g_b1
  show own_Ends p.tables e below s _ _ _ (T42.setTop (mkF m 49 #[.val (.int x0_0), .val (.int k7), .unset, .unset, .unset] [(.ref b1)]))
  refine own_step (fun t k => XS.dup X42.here hx rfl (hb hby at_49) rfl rfl k) ?_
  show own_Ends p.tables e below s _ _ _ (T42.setTop (mkF m 50 #[.val (.int x0_0), .val (.int k7), .unset, .unset, .unset] [(.ref b1), (.ref b1)]))
  refine own_step (fun t k => XS.bipush X42.here hx rfl (hb hby at_50) k) ?_
  show own_Ends p.tables e below s _ _ _ (T42.setTop (mkF m 52 #[.val (.int x0_0), .val (.int k7), .unset, .unset, .unset] [(.int (6 : Int32)), (.ref b1), (.ref b1)]))
  have O45 : Old Z n0 h42 := (O38.wr W42 g_b1)
  obtain ⟨T46, X46, e46, st46⟩ := getS2 X42 hx hZ hown (host := "") (Or.inl (hw _ (List.mem_of_getElem? (i := 17) rfl))) Via.refl e42 (S_BOOLEAN.ext O45.2) (g := (mkF m 52 #[.val (.int x0_0), .val (.int k7), .unset, .unset, .unset] [(.int (6 : Int32)), (.ref b1), (.ref b1)])) rfl (hb hby at_52)
  refine own_step (fun t k => st46 _ k) ?_
  show own_Ends p.tables e below s _ _ _ (T46.setTop (mkF m 55 #[.val (.int x0_0), .val (.int k7), .unset, .unset, .unset] [(.ref w_BOOLEAN), (.int (6 : Int32)), (.ref b1), (.ref b1)]))
  obtain ⟨cl47, Ar47, q47, S47, N47, H47, G47⟩ := V42
  have hin47 : ¬ ((6 : Int32) < 0 ∨ cl47.slots.size ≤ ((6 : Int32)).toNatClampNeg) := inb_of S47 ⟨by decide, by decide⟩
  have F48 : Exa Z h42 w_BOOLEAN "com/example/flwor/flwor/compiler/AtomicType" := (((((((E_w_BOOLEAN.ext E1).wr W7).wr W14).wr W21).wr W28).wr W35).wr W42)
  obtain ⟨T49, h49, X49, e49, W49, st49⟩ := stR X46 hx hZ e46 Ar47 (j := (6 : Int32)) hin47 rfl (Sto.ofV Ar47 q47 O1 (Ins.self F48)) (g := (mkF m 55 #[.val (.int x0_0), .val (.int k7), .unset, .unset, .unset] [(.ref w_BOOLEAN), (.int (6 : Int32)), (.ref b1), (.ref b1)])) rfl rfl (hb hby at_55)
  refine own_step (fun t k => st49 _ k) ?_
  have V49 : Arv Z h49 b1 k1 (.object "com/example/flwor/flwor/compiler/AtomicType") (7 : Int32) [(.ref w_UNTYPED), (.ref w_STRING), (.ref w_INTEGER), (.ref w_DECIMAL), (.ref w_DOUBLE), (.ref w_DATE), (.ref w_BOOLEAN)] .null := Arv.set Ar47 q47 S47 N47 H47 G47 rfl W49 6 rfl (Nat.le_of_ble_eq_true rfl)
  have K50 : Keep h0 h49 [] := K43.wr W49 (Or.inr sz_b1)
  have N51 := Fr.snoc X49 N44 g_b1
  show own_Ends p.tables e below s _ _ _ (T49.setTop (mkF m 56 #[.val (.int x0_0), .val (.int k7), .unset, .unset, .unset] [(.ref b1)]))
  refine own_step (fun t k => XS.astoreN X49.here hx rfl (hb hby at_56) rfl rfl (l' := #[.val (.int x0_0), .val (.int k7), .val (.ref b1), .unset, .unset]) rfl k) ?_
  rcases own_cases7 k7 (hk7 ▸ own_idx _ 7 (by decide)) with hk52 | hk52 | hk52 | hk52 | hk52 | hk52 | hk52
  · subst hk52
    show own_Ends p.tables e below s _ _ _ (T49.setTop (mkF m 57 #[.val (.int x0_0), .val (.int (0 : Int32)), .val (.ref b1), .unset, .unset] []))
    refine own_step (fun t k => XS.aloadN X49.here hx rfl (hb hby at_57) rfl rfl k) ?_
    show own_Ends p.tables e below s _ _ _ (T49.setTop (mkF m 58 #[.val (.int x0_0), .val (.int (0 : Int32)), .val (.ref b1), .unset, .unset] [(.ref b1)]))
    refine own_step (fun t k => XS.iloadN X49.here hx rfl (hb hby at_58) rfl k) ?_
    show own_Ends p.tables e below s _ _ _ (T49.setTop (mkF m 59 #[.val (.int x0_0), .val (.int (0 : Int32)), .val (.ref b1), .unset, .unset] [(.int (0 : Int32)), (.ref b1)]))
    obtain ⟨cl53, Ar53, q53, S53, N53, H53, G53⟩ := V49
    have hin53 : ¬ ((0 : Int32) < 0 ∨ cl53.slots.size ≤ ((0 : Int32)).toNatClampNeg) := inb_of S53 ⟨by decide, by decide⟩
    have hat53 : cl53.slots[((0 : Int32)).toNatClampNeg]? = some (.ref w_UNTYPED) := H53.at hin53 rfl
    refine own_step (fun t k => X49.aaload hx (j := (0 : Int32)) (v := (.ref w_UNTYPED)) (by rw [e49]; exact Ar53.1) (State.isArrayOf_alike hZ.alike Ar53.2.1) rfl Ar53.2.2 hin53 hat53 (g := (mkF m 59 #[.val (.int x0_0), .val (.int (0 : Int32)), .val (.ref b1), .unset, .unset] [(.int (0 : Int32)), (.ref b1)])) rfl rfl (hb hby at_59) _ k) ?_
    show own_Ends p.tables e below s _ _ _ (T49.setTop (mkF m 60 #[.val (.int x0_0), .val (.int (0 : Int32)), .val (.ref b1), .unset, .unset] [(.ref w_UNTYPED)]))
    refine own_step (fun t k => XS.astoreN X49.here hx rfl (hb hby at_60) rfl rfl (l' := #[.val (.int x0_0), .val (.int (0 : Int32)), .val (.ref b1), .val (.ref w_UNTYPED), .unset]) rfl k) ?_
    show own_Ends p.tables e below s _ _ _ (T49.setTop (mkF m 61 #[.val (.int x0_0), .val (.int (0 : Int32)), .val (.ref b1), .val (.ref w_UNTYPED), .unset] []))
    refine own_step (fun t k => XS.iloadN X49.here hx rfl (hb hby at_61) rfl k) ?_
    show own_Ends p.tables e below s _ _ _ (T49.setTop (mkF m 62 #[.val (.int x0_0), .val (.int (0 : Int32)), .val (.ref b1), .val (.ref w_UNTYPED), .unset] [(.int (0 : Int32))]))
    refine own_step (fun t k => XS.iconst X49.here hx rfl (hb hby at_62) k) ?_
    show own_Ends p.tables e below s _ _ _ (T49.setTop (mkF m 63 #[.val (.int x0_0), .val (.int (0 : Int32)), .val (.ref b1), .val (.ref w_UNTYPED), .unset] [(.int (2 : Int32)), (.int (0 : Int32))]))
    refine own_step (fun t k => XS.icmpNo X49.here hx rfl (hb hby at_63) rfl (feq (by decide : ¬ ((0 : Int32) = (2 : Int32)))).1 k) ?_
    show own_Ends p.tables e below s _ _ _ (T49.setTop (mkF m 66 #[.val (.int x0_0), .val (.int (0 : Int32)), .val (.ref b1), .val (.ref w_UNTYPED), .unset] []))
    refine own_step (fun t k => XS.iloadN X49.here hx rfl (hb hby at_66) rfl k) ?_
    show own_Ends p.tables e below s _ _ _ (T49.setTop (mkF m 67 #[.val (.int x0_0), .val (.int (0 : Int32)), .val (.ref b1), .val (.ref w_UNTYPED), .unset] [(.int (0 : Int32))]))
    refine own_step (fun t k => XS.iconst X49.here hx rfl (hb hby at_67) k) ?_
    show own_Ends p.tables e below s _ _ _ (T49.setTop (mkF m 68 #[.val (.int x0_0), .val (.int (0 : Int32)), .val (.ref b1), .val (.ref w_UNTYPED), .unset] [(.int (3 : Int32)), (.int (0 : Int32))]))
    refine own_step (fun t k => XS.icmpNo X49.here hx rfl (hb hby at_68) rfl (feq (by decide : ¬ ((0 : Int32) = (3 : Int32)))).1 k) ?_
    show own_Ends p.tables e below s _ _ _ (T49.setTop (mkF m 71 #[.val (.int x0_0), .val (.int (0 : Int32)), .val (.ref b1), .val (.ref w_UNTYPED), .unset] []))
    refine own_step (fun t k => XS.iloadN X49.here hx rfl (hb hby at_71) rfl k) ?_
    show own_Ends p.tables e below s _ _ _ (T49.setTop (mkF m 72 #[.val (.int x0_0), .val (.int (0 : Int32)), .val (.ref b1), .val (.ref w_UNTYPED), .unset] [(.int (0 : Int32))]))
    refine own_step (fun t k => XS.iconst X49.here hx rfl (hb hby at_72) k) ?_
    show own_Ends p.tables e below s _ _ _ (T49.setTop (mkF m 73 #[.val (.int x0_0), .val (.int (0 : Int32)), .val (.ref b1), .val (.ref w_UNTYPED), .unset] [(.int (4 : Int32)), (.int (0 : Int32))]))
    refine own_step (fun t k => XS.icmpYes X49.here hx rfl (pc0 := 73) (pc' := 80) rfl (hb hby at_73) rfl (feq (by decide : ¬ ((0 : Int32) = (4 : Int32)))).2 (by decide) (by decide) k) ?_
    show own_Ends p.tables e below s _ _ _ (T49.setTop (mkF m 80 #[.val (.int x0_0), .val (.int (0 : Int32)), .val (.ref b1), .val (.ref w_UNTYPED), .unset] []))
    refine own_step (fun t k => XS.iconst X49.here hx rfl (hb hby at_80) k) ?_
    show own_Ends p.tables e below s _ _ _ (T49.setTop (mkF m 81 #[.val (.int x0_0), .val (.int (0 : Int32)), .val (.ref b1), .val (.ref w_UNTYPED), .unset] [(.int (0 : Int32))]))
    refine own_step (fun t k => XS.istore X49.here hx rfl (hb hby at_81) rfl (l' := #[.val (.int x0_0), .val (.int (0 : Int32)), .val (.ref b1), .val (.ref w_UNTYPED), .val (.int (0 : Int32))]) rfl k) ?_
    show own_Ends p.tables e below s _ _ _ (T49.setTop (mkF m 83 #[.val (.int x0_0), .val (.int (0 : Int32)), .val (.ref b1), .val (.ref w_UNTYPED), .val (.int (0 : Int32))] []))
    refine own_step (fun t k => XS.aloadN X49.here hx rfl (hb hby at_83) rfl rfl k) ?_
    show own_Ends p.tables e below s _ _ _ (T49.setTop (mkF m 84 #[.val (.int x0_0), .val (.int (0 : Int32)), .val (.ref b1), .val (.ref w_UNTYPED), .val (.int (0 : Int32))] [(.ref w_UNTYPED)]))
    have O54 : Old Z n0 h49 := (O45.wr W49 g_b1)
    have F56 : Exa Z h49 w_UNTYPED "com/example/flwor/flwor/compiler/AtomicType" := (((((((F6.wr W7).wr W14).wr W21).wr W28).wr W35).wr W42).wr W49)
    obtain ⟨cq55, kq55, q55a, q55b, q55c⟩ := isOf hZ e49 F56
    obtain ⟨_, _, ⟨T55, L55, k55, n55⟩, -, X55, ⟨Lc55, hQ55, l55, y55, z55⟩, st55⟩ := X49.virtualBack hx (y := (⟨"com/example/flwor/flwor/compiler/AtomicType", "numeric", "()Z"⟩ : MethodName)) (z := (⟨"com/example/flwor/flwor/compiler/AtomicType", "numeric", "()Z"⟩ : MethodName)) hown (mvT hZ (hw _ (List.mem_of_getElem? (i := 19) rfl))) (mvT hZ (hw _ (List.mem_of_getElem? (i := 20) rfl))) (notFace_of_selects (args := #[]) (mvT hZ (hw _ (List.mem_of_getElem? (i := 22) rfl)))) (mvT hZ (hw _ (List.mem_of_getElem? (i := 22) rfl))) (mvT hZ (hw _ (List.mem_of_getElem? (i := 21) rfl))) (by decide) (backOf (W := 0) (rm1 l Z a0 hw [] w_UNTYPED w_INTEGER w_DECIMAL w_DOUBLE h49 n0 O54 S_INTEGER S_DECIMAL S_DOUBLE) hZ (hw _ (List.mem_of_getElem? (i := 23) rfl)) (hw _ (List.mem_of_getElem? (i := 4) rfl)) (by decide) (by decide)) q55a q55c (g := (mkF m 84 #[.val (.int x0_0), .val (.int (0 : Int32)), .val (.ref b1), .val (.ref w_UNTYPED), .val (.int (0 : Int32))] [(.ref w_UNTYPED)])) rfl (by rw [hml]; rfl) (Steps.refl _) (argsL := []) (rest := []) (lenOf pd_0 rfl) rfl (by show 2 * 0 + _ ≤ _; exact Nat.le_of_eq rfl) (hb hby at_84) (fun _ _ => ⟨rfl, e49, (by decide : 1 + 0 ≤ _), (by decide : 7 + 0 ≤ _)⟩)
    dsimp only [Pt.U, Pt.locs, Pt.cells, Pt.slots] at X55 l55 y55 z55 st55 hQ55
    subst l55 y55 z55
    obtain ⟨rfl, N55q, e55⟩ := hQ55
    refine own_step (fun t k => st55.trans k) ?_
    have N57 := Fr.app N51 N55q
    show own_Ends p.tables e below s _ _ _ (T55.setTop (mkF m 87 #[.val (.int x0_0), .val (.int (0 : Int32)), .val (.ref b1), .val (.ref w_UNTYPED), .val (.int (0 : Int32))] [(.int (own_r1 w_UNTYPED w_INTEGER w_DECIMAL w_DOUBLE))]))
    refine own_step (fun t k => XS.iload X55.here hx rfl (hb hby at_87) rfl k) ?_
    show own_Ends p.tables e below s _ _ _ (T55.setTop (mkF m 89 #[.val (.int x0_0), .val (.int (0 : Int32)), .val (.ref b1), .val (.ref w_UNTYPED), .val (.int (0 : Int32))] [(.int (0 : Int32)), (.int (own_r1 w_UNTYPED w_INTEGER w_DECIMAL w_DOUBLE))]))
    by_cases hc89_58 : (own_r1 w_UNTYPED w_INTEGER w_DECIMAL w_DOUBLE) = (0 : Int32)
    · skip
      refine own_step (fun t k => XS.icmpNo X55.here hx rfl (hb hby at_89) rfl (teq hc89_58).2 k) ?_
      show own_Ends p.tables e below s _ _ _ (T55.setTop (mkF m 92 #[.val (.int x0_0), .val (.int (0 : Int32)), .val (.ref b1), .val (.ref w_UNTYPED), .val (.int (0 : Int32))] []))
      refine own_step (fun t k => XS.iconst X55.here hx rfl (hb hby at_92) k) ?_
      show own_Ends p.tables e below s _ _ _ (T55.setTop (mkF m 93 #[.val (.int x0_0), .val (.int (0 : Int32)), .val (.ref b1), .val (.ref w_UNTYPED), .val (.int (0 : Int32))] [(.int (1 : Int32))]))
      refine own_step (fun t k => XS.goto X55.here hx rfl (pc0 := 93) (pc' := 97) rfl (hb hby at_93) (by decide) (by decide) k) ?_
      show own_Ends p.tables e below s _ _ _ (T55.setTop (mkF m 97 #[.val (.int x0_0), .val (.int (0 : Int32)), .val (.ref b1), .val (.ref w_UNTYPED), .val (.int (0 : Int32))] [(.int (1 : Int32))]))
      exact own_retN X55 hx (t := .boolean) Bd.returns (by simp) (hb hby at_97) hnl (by rw [e55]; exact ⟨rfl, N57⟩) (by decide) (by decide)
    · skip
      refine own_step (fun t k => XS.icmpYes X55.here hx rfl (pc0 := 89) (pc' := 96) rfl (hb hby at_89) rfl (feq hc89_58).2 (by decide) (by decide) k) ?_
      show own_Ends p.tables e below s _ _ _ (T55.setTop (mkF m 96 #[.val (.int x0_0), .val (.int (0 : Int32)), .val (.ref b1), .val (.ref w_UNTYPED), .val (.int (0 : Int32))] []))
      refine own_step (fun t k => XS.iconst X55.here hx rfl (hb hby at_96) k) ?_
      show own_Ends p.tables e below s _ _ _ (T55.setTop (mkF m 97 #[.val (.int x0_0), .val (.int (0 : Int32)), .val (.ref b1), .val (.ref w_UNTYPED), .val (.int (0 : Int32))] [(.int (0 : Int32))]))
      exfalso
      apply hc89_58
      simp [own_r1, ne_w_UNTYPED_w_INTEGER, ne_w_UNTYPED_w_DECIMAL, ne_w_UNTYPED_w_DOUBLE, ne_w_STRING_w_INTEGER, ne_w_STRING_w_DECIMAL, ne_w_STRING_w_DOUBLE, ne_w_INTEGER_w_DECIMAL, ne_w_INTEGER_w_DOUBLE, ne_w_DECIMAL_w_DOUBLE, ne_w_DATE_w_INTEGER, ne_w_DATE_w_DECIMAL, ne_w_DATE_w_DOUBLE, ne_w_BOOLEAN_w_INTEGER, ne_w_BOOLEAN_w_DECIMAL, ne_w_BOOLEAN_w_DOUBLE, Ne.symm ne_w_INTEGER_w_DECIMAL, Ne.symm ne_w_INTEGER_w_DOUBLE, Ne.symm ne_w_DECIMAL_w_DOUBLE]
  · subst hk52
    show own_Ends p.tables e below s _ _ _ (T49.setTop (mkF m 57 #[.val (.int x0_0), .val (.int (1 : Int32)), .val (.ref b1), .unset, .unset] []))
    refine own_step (fun t k => XS.aloadN X49.here hx rfl (hb hby at_57) rfl rfl k) ?_
    show own_Ends p.tables e below s _ _ _ (T49.setTop (mkF m 58 #[.val (.int x0_0), .val (.int (1 : Int32)), .val (.ref b1), .unset, .unset] [(.ref b1)]))
    refine own_step (fun t k => XS.iloadN X49.here hx rfl (hb hby at_58) rfl k) ?_
    show own_Ends p.tables e below s _ _ _ (T49.setTop (mkF m 59 #[.val (.int x0_0), .val (.int (1 : Int32)), .val (.ref b1), .unset, .unset] [(.int (1 : Int32)), (.ref b1)]))
    obtain ⟨cl59, Ar59, q59, S59, N59, H59, G59⟩ := V49
    have hin59 : ¬ ((1 : Int32) < 0 ∨ cl59.slots.size ≤ ((1 : Int32)).toNatClampNeg) := inb_of S59 ⟨by decide, by decide⟩
    have hat59 : cl59.slots[((1 : Int32)).toNatClampNeg]? = some (.ref w_STRING) := H59.at hin59 rfl
    refine own_step (fun t k => X49.aaload hx (j := (1 : Int32)) (v := (.ref w_STRING)) (by rw [e49]; exact Ar59.1) (State.isArrayOf_alike hZ.alike Ar59.2.1) rfl Ar59.2.2 hin59 hat59 (g := (mkF m 59 #[.val (.int x0_0), .val (.int (1 : Int32)), .val (.ref b1), .unset, .unset] [(.int (1 : Int32)), (.ref b1)])) rfl rfl (hb hby at_59) _ k) ?_
    show own_Ends p.tables e below s _ _ _ (T49.setTop (mkF m 60 #[.val (.int x0_0), .val (.int (1 : Int32)), .val (.ref b1), .unset, .unset] [(.ref w_STRING)]))
    refine own_step (fun t k => XS.astoreN X49.here hx rfl (hb hby at_60) rfl rfl (l' := #[.val (.int x0_0), .val (.int (1 : Int32)), .val (.ref b1), .val (.ref w_STRING), .unset]) rfl k) ?_
    show own_Ends p.tables e below s _ _ _ (T49.setTop (mkF m 61 #[.val (.int x0_0), .val (.int (1 : Int32)), .val (.ref b1), .val (.ref w_STRING), .unset] []))
    refine own_step (fun t k => XS.iloadN X49.here hx rfl (hb hby at_61) rfl k) ?_
    show own_Ends p.tables e below s _ _ _ (T49.setTop (mkF m 62 #[.val (.int x0_0), .val (.int (1 : Int32)), .val (.ref b1), .val (.ref w_STRING), .unset] [(.int (1 : Int32))]))
    refine own_step (fun t k => XS.iconst X49.here hx rfl (hb hby at_62) k) ?_
    show own_Ends p.tables e below s _ _ _ (T49.setTop (mkF m 63 #[.val (.int x0_0), .val (.int (1 : Int32)), .val (.ref b1), .val (.ref w_STRING), .unset] [(.int (2 : Int32)), (.int (1 : Int32))]))
    refine own_step (fun t k => XS.icmpNo X49.here hx rfl (hb hby at_63) rfl (feq (by decide : ¬ ((1 : Int32) = (2 : Int32)))).1 k) ?_
    show own_Ends p.tables e below s _ _ _ (T49.setTop (mkF m 66 #[.val (.int x0_0), .val (.int (1 : Int32)), .val (.ref b1), .val (.ref w_STRING), .unset] []))
    refine own_step (fun t k => XS.iloadN X49.here hx rfl (hb hby at_66) rfl k) ?_
    show own_Ends p.tables e below s _ _ _ (T49.setTop (mkF m 67 #[.val (.int x0_0), .val (.int (1 : Int32)), .val (.ref b1), .val (.ref w_STRING), .unset] [(.int (1 : Int32))]))
    refine own_step (fun t k => XS.iconst X49.here hx rfl (hb hby at_67) k) ?_
    show own_Ends p.tables e below s _ _ _ (T49.setTop (mkF m 68 #[.val (.int x0_0), .val (.int (1 : Int32)), .val (.ref b1), .val (.ref w_STRING), .unset] [(.int (3 : Int32)), (.int (1 : Int32))]))
    refine own_step (fun t k => XS.icmpNo X49.here hx rfl (hb hby at_68) rfl (feq (by decide : ¬ ((1 : Int32) = (3 : Int32)))).1 k) ?_
    show own_Ends p.tables e below s _ _ _ (T49.setTop (mkF m 71 #[.val (.int x0_0), .val (.int (1 : Int32)), .val (.ref b1), .val (.ref w_STRING), .unset] []))
    refine own_step (fun t k => XS.iloadN X49.here hx rfl (hb hby at_71) rfl k) ?_
    show own_Ends p.tables e below s _ _ _ (T49.setTop (mkF m 72 #[.val (.int x0_0), .val (.int (1 : Int32)), .val (.ref b1), .val (.ref w_STRING), .unset] [(.int (1 : Int32))]))
    refine own_step (fun t k => XS.iconst X49.here hx rfl (hb hby at_72) k) ?_
    show own_Ends p.tables e below s _ _ _ (T49.setTop (mkF m 73 #[.val (.int x0_0), .val (.int (1 : Int32)), .val (.ref b1), .val (.ref w_STRING), .unset] [(.int (4 : Int32)), (.int (1 : Int32))]))
    refine own_step (fun t k => XS.icmpYes X49.here hx rfl (pc0 := 73) (pc' := 80) rfl (hb hby at_73) rfl (feq (by decide : ¬ ((1 : Int32) = (4 : Int32)))).2 (by decide) (by decide) k) ?_
    show own_Ends p.tables e below s _ _ _ (T49.setTop (mkF m 80 #[.val (.int x0_0), .val (.int (1 : Int32)), .val (.ref b1), .val (.ref w_STRING), .unset] []))
    refine own_step (fun t k => XS.iconst X49.here hx rfl (hb hby at_80) k) ?_
    show own_Ends p.tables e below s _ _ _ (T49.setTop (mkF m 81 #[.val (.int x0_0), .val (.int (1 : Int32)), .val (.ref b1), .val (.ref w_STRING), .unset] [(.int (0 : Int32))]))
    refine own_step (fun t k => XS.istore X49.here hx rfl (hb hby at_81) rfl (l' := #[.val (.int x0_0), .val (.int (1 : Int32)), .val (.ref b1), .val (.ref w_STRING), .val (.int (0 : Int32))]) rfl k) ?_
    show own_Ends p.tables e below s _ _ _ (T49.setTop (mkF m 83 #[.val (.int x0_0), .val (.int (1 : Int32)), .val (.ref b1), .val (.ref w_STRING), .val (.int (0 : Int32))] []))
    refine own_step (fun t k => XS.aloadN X49.here hx rfl (hb hby at_83) rfl rfl k) ?_
    show own_Ends p.tables e below s _ _ _ (T49.setTop (mkF m 84 #[.val (.int x0_0), .val (.int (1 : Int32)), .val (.ref b1), .val (.ref w_STRING), .val (.int (0 : Int32))] [(.ref w_STRING)]))
    have O60 : Old Z n0 h49 := (O45.wr W49 g_b1)
    have F62 : Exa Z h49 w_STRING "com/example/flwor/flwor/compiler/AtomicType" := ((((((F13.wr W14).wr W21).wr W28).wr W35).wr W42).wr W49)
    obtain ⟨cq61, kq61, q61a, q61b, q61c⟩ := isOf hZ e49 F62
    obtain ⟨_, _, ⟨T61, L61, k61, n61⟩, -, X61, ⟨Lc61, hQ61, l61, y61, z61⟩, st61⟩ := X49.virtualBack hx (y := (⟨"com/example/flwor/flwor/compiler/AtomicType", "numeric", "()Z"⟩ : MethodName)) (z := (⟨"com/example/flwor/flwor/compiler/AtomicType", "numeric", "()Z"⟩ : MethodName)) hown (mvT hZ (hw _ (List.mem_of_getElem? (i := 19) rfl))) (mvT hZ (hw _ (List.mem_of_getElem? (i := 20) rfl))) (notFace_of_selects (args := #[]) (mvT hZ (hw _ (List.mem_of_getElem? (i := 22) rfl)))) (mvT hZ (hw _ (List.mem_of_getElem? (i := 22) rfl))) (mvT hZ (hw _ (List.mem_of_getElem? (i := 21) rfl))) (by decide) (backOf (W := 0) (rm1 l Z a0 hw [] w_STRING w_INTEGER w_DECIMAL w_DOUBLE h49 n0 O60 S_INTEGER S_DECIMAL S_DOUBLE) hZ (hw _ (List.mem_of_getElem? (i := 23) rfl)) (hw _ (List.mem_of_getElem? (i := 4) rfl)) (by decide) (by decide)) q61a q61c (g := (mkF m 84 #[.val (.int x0_0), .val (.int (1 : Int32)), .val (.ref b1), .val (.ref w_STRING), .val (.int (0 : Int32))] [(.ref w_STRING)])) rfl (by rw [hml]; rfl) (Steps.refl _) (argsL := []) (rest := []) (lenOf pd_0 rfl) rfl (by show 2 * 0 + _ ≤ _; exact Nat.le_of_eq rfl) (hb hby at_84) (fun _ _ => ⟨rfl, e49, (by decide : 1 + 0 ≤ _), (by decide : 7 + 0 ≤ _)⟩)
    dsimp only [Pt.U, Pt.locs, Pt.cells, Pt.slots] at X61 l61 y61 z61 st61 hQ61
    subst l61 y61 z61
    obtain ⟨rfl, N61q, e61⟩ := hQ61
    refine own_step (fun t k => st61.trans k) ?_
    have N63 := Fr.app N51 N61q
    show own_Ends p.tables e below s _ _ _ (T61.setTop (mkF m 87 #[.val (.int x0_0), .val (.int (1 : Int32)), .val (.ref b1), .val (.ref w_STRING), .val (.int (0 : Int32))] [(.int (own_r1 w_STRING w_INTEGER w_DECIMAL w_DOUBLE))]))
    refine own_step (fun t k => XS.iload X61.here hx rfl (hb hby at_87) rfl k) ?_
    show own_Ends p.tables e below s _ _ _ (T61.setTop (mkF m 89 #[.val (.int x0_0), .val (.int (1 : Int32)), .val (.ref b1), .val (.ref w_STRING), .val (.int (0 : Int32))] [(.int (0 : Int32)), (.int (own_r1 w_STRING w_INTEGER w_DECIMAL w_DOUBLE))]))
    by_cases hc89_64 : (own_r1 w_STRING w_INTEGER w_DECIMAL w_DOUBLE) = (0 : Int32)
    · skip
      refine own_step (fun t k => XS.icmpNo X61.here hx rfl (hb hby at_89) rfl (teq hc89_64).2 k) ?_
      show own_Ends p.tables e below s _ _ _ (T61.setTop (mkF m 92 #[.val (.int x0_0), .val (.int (1 : Int32)), .val (.ref b1), .val (.ref w_STRING), .val (.int (0 : Int32))] []))
      refine own_step (fun t k => XS.iconst X61.here hx rfl (hb hby at_92) k) ?_
      show own_Ends p.tables e below s _ _ _ (T61.setTop (mkF m 93 #[.val (.int x0_0), .val (.int (1 : Int32)), .val (.ref b1), .val (.ref w_STRING), .val (.int (0 : Int32))] [(.int (1 : Int32))]))
      refine own_step (fun t k => XS.goto X61.here hx rfl (pc0 := 93) (pc' := 97) rfl (hb hby at_93) (by decide) (by decide) k) ?_
      show own_Ends p.tables e below s _ _ _ (T61.setTop (mkF m 97 #[.val (.int x0_0), .val (.int (1 : Int32)), .val (.ref b1), .val (.ref w_STRING), .val (.int (0 : Int32))] [(.int (1 : Int32))]))
      exact own_retN X61 hx (t := .boolean) Bd.returns (by simp) (hb hby at_97) hnl (by rw [e61]; exact ⟨rfl, N63⟩) (by decide) (by decide)
    · skip
      refine own_step (fun t k => XS.icmpYes X61.here hx rfl (pc0 := 89) (pc' := 96) rfl (hb hby at_89) rfl (feq hc89_64).2 (by decide) (by decide) k) ?_
      show own_Ends p.tables e below s _ _ _ (T61.setTop (mkF m 96 #[.val (.int x0_0), .val (.int (1 : Int32)), .val (.ref b1), .val (.ref w_STRING), .val (.int (0 : Int32))] []))
      refine own_step (fun t k => XS.iconst X61.here hx rfl (hb hby at_96) k) ?_
      show own_Ends p.tables e below s _ _ _ (T61.setTop (mkF m 97 #[.val (.int x0_0), .val (.int (1 : Int32)), .val (.ref b1), .val (.ref w_STRING), .val (.int (0 : Int32))] [(.int (0 : Int32))]))
      exfalso
      apply hc89_64
      simp [own_r1, ne_w_UNTYPED_w_INTEGER, ne_w_UNTYPED_w_DECIMAL, ne_w_UNTYPED_w_DOUBLE, ne_w_STRING_w_INTEGER, ne_w_STRING_w_DECIMAL, ne_w_STRING_w_DOUBLE, ne_w_INTEGER_w_DECIMAL, ne_w_INTEGER_w_DOUBLE, ne_w_DECIMAL_w_DOUBLE, ne_w_DATE_w_INTEGER, ne_w_DATE_w_DECIMAL, ne_w_DATE_w_DOUBLE, ne_w_BOOLEAN_w_INTEGER, ne_w_BOOLEAN_w_DECIMAL, ne_w_BOOLEAN_w_DOUBLE, Ne.symm ne_w_INTEGER_w_DECIMAL, Ne.symm ne_w_INTEGER_w_DOUBLE, Ne.symm ne_w_DECIMAL_w_DOUBLE]
  · subst hk52
    show own_Ends p.tables e below s _ _ _ (T49.setTop (mkF m 57 #[.val (.int x0_0), .val (.int (2 : Int32)), .val (.ref b1), .unset, .unset] []))
    refine own_step (fun t k => XS.aloadN X49.here hx rfl (hb hby at_57) rfl rfl k) ?_
    show own_Ends p.tables e below s _ _ _ (T49.setTop (mkF m 58 #[.val (.int x0_0), .val (.int (2 : Int32)), .val (.ref b1), .unset, .unset] [(.ref b1)]))
    refine own_step (fun t k => XS.iloadN X49.here hx rfl (hb hby at_58) rfl k) ?_
    show own_Ends p.tables e below s _ _ _ (T49.setTop (mkF m 59 #[.val (.int x0_0), .val (.int (2 : Int32)), .val (.ref b1), .unset, .unset] [(.int (2 : Int32)), (.ref b1)]))
    obtain ⟨cl65, Ar65, q65, S65, N65, H65, G65⟩ := V49
    have hin65 : ¬ ((2 : Int32) < 0 ∨ cl65.slots.size ≤ ((2 : Int32)).toNatClampNeg) := inb_of S65 ⟨by decide, by decide⟩
    have hat65 : cl65.slots[((2 : Int32)).toNatClampNeg]? = some (.ref w_INTEGER) := H65.at hin65 rfl
    refine own_step (fun t k => X49.aaload hx (j := (2 : Int32)) (v := (.ref w_INTEGER)) (by rw [e49]; exact Ar65.1) (State.isArrayOf_alike hZ.alike Ar65.2.1) rfl Ar65.2.2 hin65 hat65 (g := (mkF m 59 #[.val (.int x0_0), .val (.int (2 : Int32)), .val (.ref b1), .unset, .unset] [(.int (2 : Int32)), (.ref b1)])) rfl rfl (hb hby at_59) _ k) ?_
    show own_Ends p.tables e below s _ _ _ (T49.setTop (mkF m 60 #[.val (.int x0_0), .val (.int (2 : Int32)), .val (.ref b1), .unset, .unset] [(.ref w_INTEGER)]))
    refine own_step (fun t k => XS.astoreN X49.here hx rfl (hb hby at_60) rfl rfl (l' := #[.val (.int x0_0), .val (.int (2 : Int32)), .val (.ref b1), .val (.ref w_INTEGER), .unset]) rfl k) ?_
    show own_Ends p.tables e below s _ _ _ (T49.setTop (mkF m 61 #[.val (.int x0_0), .val (.int (2 : Int32)), .val (.ref b1), .val (.ref w_INTEGER), .unset] []))
    refine own_step (fun t k => XS.iloadN X49.here hx rfl (hb hby at_61) rfl k) ?_
    show own_Ends p.tables e below s _ _ _ (T49.setTop (mkF m 62 #[.val (.int x0_0), .val (.int (2 : Int32)), .val (.ref b1), .val (.ref w_INTEGER), .unset] [(.int (2 : Int32))]))
    refine own_step (fun t k => XS.iconst X49.here hx rfl (hb hby at_62) k) ?_
    show own_Ends p.tables e below s _ _ _ (T49.setTop (mkF m 63 #[.val (.int x0_0), .val (.int (2 : Int32)), .val (.ref b1), .val (.ref w_INTEGER), .unset] [(.int (2 : Int32)), (.int (2 : Int32))]))
    refine own_step (fun t k => XS.icmpYes X49.here hx rfl (pc0 := 63) (pc' := 76) rfl (hb hby at_63) rfl (teq (by decide : (2 : Int32) = (2 : Int32))).1 (by decide) (by decide) k) ?_
    show own_Ends p.tables e below s _ _ _ (T49.setTop (mkF m 76 #[.val (.int x0_0), .val (.int (2 : Int32)), .val (.ref b1), .val (.ref w_INTEGER), .unset] []))
    refine own_step (fun t k => XS.iconst X49.here hx rfl (hb hby at_76) k) ?_
    show own_Ends p.tables e below s _ _ _ (T49.setTop (mkF m 77 #[.val (.int x0_0), .val (.int (2 : Int32)), .val (.ref b1), .val (.ref w_INTEGER), .unset] [(.int (1 : Int32))]))
    refine own_step (fun t k => XS.goto X49.here hx rfl (pc0 := 77) (pc' := 81) rfl (hb hby at_77) (by decide) (by decide) k) ?_
    show own_Ends p.tables e below s _ _ _ (T49.setTop (mkF m 81 #[.val (.int x0_0), .val (.int (2 : Int32)), .val (.ref b1), .val (.ref w_INTEGER), .unset] [(.int (1 : Int32))]))
    refine own_step (fun t k => XS.istore X49.here hx rfl (hb hby at_81) rfl (l' := #[.val (.int x0_0), .val (.int (2 : Int32)), .val (.ref b1), .val (.ref w_INTEGER), .val (.int (1 : Int32))]) rfl k) ?_
    show own_Ends p.tables e below s _ _ _ (T49.setTop (mkF m 83 #[.val (.int x0_0), .val (.int (2 : Int32)), .val (.ref b1), .val (.ref w_INTEGER), .val (.int (1 : Int32))] []))
    refine own_step (fun t k => XS.aloadN X49.here hx rfl (hb hby at_83) rfl rfl k) ?_
    show own_Ends p.tables e below s _ _ _ (T49.setTop (mkF m 84 #[.val (.int x0_0), .val (.int (2 : Int32)), .val (.ref b1), .val (.ref w_INTEGER), .val (.int (1 : Int32))] [(.ref w_INTEGER)]))
    have O66 : Old Z n0 h49 := (O45.wr W49 g_b1)
    have F68 : Exa Z h49 w_INTEGER "com/example/flwor/flwor/compiler/AtomicType" := (((((F20.wr W21).wr W28).wr W35).wr W42).wr W49)
    obtain ⟨cq67, kq67, q67a, q67b, q67c⟩ := isOf hZ e49 F68
    obtain ⟨_, _, ⟨T67, L67, k67, n67⟩, -, X67, ⟨Lc67, hQ67, l67, y67, z67⟩, st67⟩ := X49.virtualBack hx (y := (⟨"com/example/flwor/flwor/compiler/AtomicType", "numeric", "()Z"⟩ : MethodName)) (z := (⟨"com/example/flwor/flwor/compiler/AtomicType", "numeric", "()Z"⟩ : MethodName)) hown (mvT hZ (hw _ (List.mem_of_getElem? (i := 19) rfl))) (mvT hZ (hw _ (List.mem_of_getElem? (i := 20) rfl))) (notFace_of_selects (args := #[]) (mvT hZ (hw _ (List.mem_of_getElem? (i := 22) rfl)))) (mvT hZ (hw _ (List.mem_of_getElem? (i := 22) rfl))) (mvT hZ (hw _ (List.mem_of_getElem? (i := 21) rfl))) (by decide) (backOf (W := 0) (rm1 l Z a0 hw [] w_INTEGER w_INTEGER w_DECIMAL w_DOUBLE h49 n0 O66 S_INTEGER S_DECIMAL S_DOUBLE) hZ (hw _ (List.mem_of_getElem? (i := 23) rfl)) (hw _ (List.mem_of_getElem? (i := 4) rfl)) (by decide) (by decide)) q67a q67c (g := (mkF m 84 #[.val (.int x0_0), .val (.int (2 : Int32)), .val (.ref b1), .val (.ref w_INTEGER), .val (.int (1 : Int32))] [(.ref w_INTEGER)])) rfl (by rw [hml]; rfl) (Steps.refl _) (argsL := []) (rest := []) (lenOf pd_0 rfl) rfl (by show 2 * 0 + _ ≤ _; exact Nat.le_of_eq rfl) (hb hby at_84) (fun _ _ => ⟨rfl, e49, (by decide : 1 + 0 ≤ _), (by decide : 7 + 0 ≤ _)⟩)
    dsimp only [Pt.U, Pt.locs, Pt.cells, Pt.slots] at X67 l67 y67 z67 st67 hQ67
    subst l67 y67 z67
    obtain ⟨rfl, N67q, e67⟩ := hQ67
    refine own_step (fun t k => st67.trans k) ?_
    have N69 := Fr.app N51 N67q
    show own_Ends p.tables e below s _ _ _ (T67.setTop (mkF m 87 #[.val (.int x0_0), .val (.int (2 : Int32)), .val (.ref b1), .val (.ref w_INTEGER), .val (.int (1 : Int32))] [(.int (own_r1 w_INTEGER w_INTEGER w_DECIMAL w_DOUBLE))]))
    refine own_step (fun t k => XS.iload X67.here hx rfl (hb hby at_87) rfl k) ?_
    show own_Ends p.tables e below s _ _ _ (T67.setTop (mkF m 89 #[.val (.int x0_0), .val (.int (2 : Int32)), .val (.ref b1), .val (.ref w_INTEGER), .val (.int (1 : Int32))] [(.int (1 : Int32)), (.int (own_r1 w_INTEGER w_INTEGER w_DECIMAL w_DOUBLE))]))
    by_cases hc89_70 : (own_r1 w_INTEGER w_INTEGER w_DECIMAL w_DOUBLE) = (1 : Int32)
    · skip
      refine own_step (fun t k => XS.icmpNo X67.here hx rfl (hb hby at_89) rfl (teq hc89_70).2 k) ?_
      show own_Ends p.tables e below s _ _ _ (T67.setTop (mkF m 92 #[.val (.int x0_0), .val (.int (2 : Int32)), .val (.ref b1), .val (.ref w_INTEGER), .val (.int (1 : Int32))] []))
      refine own_step (fun t k => XS.iconst X67.here hx rfl (hb hby at_92) k) ?_
      show own_Ends p.tables e below s _ _ _ (T67.setTop (mkF m 93 #[.val (.int x0_0), .val (.int (2 : Int32)), .val (.ref b1), .val (.ref w_INTEGER), .val (.int (1 : Int32))] [(.int (1 : Int32))]))
      refine own_step (fun t k => XS.goto X67.here hx rfl (pc0 := 93) (pc' := 97) rfl (hb hby at_93) (by decide) (by decide) k) ?_
      show own_Ends p.tables e below s _ _ _ (T67.setTop (mkF m 97 #[.val (.int x0_0), .val (.int (2 : Int32)), .val (.ref b1), .val (.ref w_INTEGER), .val (.int (1 : Int32))] [(.int (1 : Int32))]))
      exact own_retN X67 hx (t := .boolean) Bd.returns (by simp) (hb hby at_97) hnl (by rw [e67]; exact ⟨rfl, N69⟩) (by decide) (by decide)
    · skip
      refine own_step (fun t k => XS.icmpYes X67.here hx rfl (pc0 := 89) (pc' := 96) rfl (hb hby at_89) rfl (feq hc89_70).2 (by decide) (by decide) k) ?_
      show own_Ends p.tables e below s _ _ _ (T67.setTop (mkF m 96 #[.val (.int x0_0), .val (.int (2 : Int32)), .val (.ref b1), .val (.ref w_INTEGER), .val (.int (1 : Int32))] []))
      refine own_step (fun t k => XS.iconst X67.here hx rfl (hb hby at_96) k) ?_
      show own_Ends p.tables e below s _ _ _ (T67.setTop (mkF m 97 #[.val (.int x0_0), .val (.int (2 : Int32)), .val (.ref b1), .val (.ref w_INTEGER), .val (.int (1 : Int32))] [(.int (0 : Int32))]))
      exfalso
      apply hc89_70
      simp [own_r1, ne_w_UNTYPED_w_INTEGER, ne_w_UNTYPED_w_DECIMAL, ne_w_UNTYPED_w_DOUBLE, ne_w_STRING_w_INTEGER, ne_w_STRING_w_DECIMAL, ne_w_STRING_w_DOUBLE, ne_w_INTEGER_w_DECIMAL, ne_w_INTEGER_w_DOUBLE, ne_w_DECIMAL_w_DOUBLE, ne_w_DATE_w_INTEGER, ne_w_DATE_w_DECIMAL, ne_w_DATE_w_DOUBLE, ne_w_BOOLEAN_w_INTEGER, ne_w_BOOLEAN_w_DECIMAL, ne_w_BOOLEAN_w_DOUBLE, Ne.symm ne_w_INTEGER_w_DECIMAL, Ne.symm ne_w_INTEGER_w_DOUBLE, Ne.symm ne_w_DECIMAL_w_DOUBLE]
  · subst hk52
    show own_Ends p.tables e below s _ _ _ (T49.setTop (mkF m 57 #[.val (.int x0_0), .val (.int (3 : Int32)), .val (.ref b1), .unset, .unset] []))
    refine own_step (fun t k => XS.aloadN X49.here hx rfl (hb hby at_57) rfl rfl k) ?_
    show own_Ends p.tables e below s _ _ _ (T49.setTop (mkF m 58 #[.val (.int x0_0), .val (.int (3 : Int32)), .val (.ref b1), .unset, .unset] [(.ref b1)]))
    refine own_step (fun t k => XS.iloadN X49.here hx rfl (hb hby at_58) rfl k) ?_
    show own_Ends p.tables e below s _ _ _ (T49.setTop (mkF m 59 #[.val (.int x0_0), .val (.int (3 : Int32)), .val (.ref b1), .unset, .unset] [(.int (3 : Int32)), (.ref b1)]))
    obtain ⟨cl71, Ar71, q71, S71, N71, H71, G71⟩ := V49
    have hin71 : ¬ ((3 : Int32) < 0 ∨ cl71.slots.size ≤ ((3 : Int32)).toNatClampNeg) := inb_of S71 ⟨by decide, by decide⟩
    have hat71 : cl71.slots[((3 : Int32)).toNatClampNeg]? = some (.ref w_DECIMAL) := H71.at hin71 rfl
    refine own_step (fun t k => X49.aaload hx (j := (3 : Int32)) (v := (.ref w_DECIMAL)) (by rw [e49]; exact Ar71.1) (State.isArrayOf_alike hZ.alike Ar71.2.1) rfl Ar71.2.2 hin71 hat71 (g := (mkF m 59 #[.val (.int x0_0), .val (.int (3 : Int32)), .val (.ref b1), .unset, .unset] [(.int (3 : Int32)), (.ref b1)])) rfl rfl (hb hby at_59) _ k) ?_
    show own_Ends p.tables e below s _ _ _ (T49.setTop (mkF m 60 #[.val (.int x0_0), .val (.int (3 : Int32)), .val (.ref b1), .unset, .unset] [(.ref w_DECIMAL)]))
    refine own_step (fun t k => XS.astoreN X49.here hx rfl (hb hby at_60) rfl rfl (l' := #[.val (.int x0_0), .val (.int (3 : Int32)), .val (.ref b1), .val (.ref w_DECIMAL), .unset]) rfl k) ?_
    show own_Ends p.tables e below s _ _ _ (T49.setTop (mkF m 61 #[.val (.int x0_0), .val (.int (3 : Int32)), .val (.ref b1), .val (.ref w_DECIMAL), .unset] []))
    refine own_step (fun t k => XS.iloadN X49.here hx rfl (hb hby at_61) rfl k) ?_
    show own_Ends p.tables e below s _ _ _ (T49.setTop (mkF m 62 #[.val (.int x0_0), .val (.int (3 : Int32)), .val (.ref b1), .val (.ref w_DECIMAL), .unset] [(.int (3 : Int32))]))
    refine own_step (fun t k => XS.iconst X49.here hx rfl (hb hby at_62) k) ?_
    show own_Ends p.tables e below s _ _ _ (T49.setTop (mkF m 63 #[.val (.int x0_0), .val (.int (3 : Int32)), .val (.ref b1), .val (.ref w_DECIMAL), .unset] [(.int (2 : Int32)), (.int (3 : Int32))]))
    refine own_step (fun t k => XS.icmpNo X49.here hx rfl (hb hby at_63) rfl (feq (by decide : ¬ ((3 : Int32) = (2 : Int32)))).1 k) ?_
    show own_Ends p.tables e below s _ _ _ (T49.setTop (mkF m 66 #[.val (.int x0_0), .val (.int (3 : Int32)), .val (.ref b1), .val (.ref w_DECIMAL), .unset] []))
    refine own_step (fun t k => XS.iloadN X49.here hx rfl (hb hby at_66) rfl k) ?_
    show own_Ends p.tables e below s _ _ _ (T49.setTop (mkF m 67 #[.val (.int x0_0), .val (.int (3 : Int32)), .val (.ref b1), .val (.ref w_DECIMAL), .unset] [(.int (3 : Int32))]))
    refine own_step (fun t k => XS.iconst X49.here hx rfl (hb hby at_67) k) ?_
    show own_Ends p.tables e below s _ _ _ (T49.setTop (mkF m 68 #[.val (.int x0_0), .val (.int (3 : Int32)), .val (.ref b1), .val (.ref w_DECIMAL), .unset] [(.int (3 : Int32)), (.int (3 : Int32))]))
    refine own_step (fun t k => XS.icmpYes X49.here hx rfl (pc0 := 68) (pc' := 76) rfl (hb hby at_68) rfl (teq (by decide : (3 : Int32) = (3 : Int32))).1 (by decide) (by decide) k) ?_
    show own_Ends p.tables e below s _ _ _ (T49.setTop (mkF m 76 #[.val (.int x0_0), .val (.int (3 : Int32)), .val (.ref b1), .val (.ref w_DECIMAL), .unset] []))
    refine own_step (fun t k => XS.iconst X49.here hx rfl (hb hby at_76) k) ?_
    show own_Ends p.tables e below s _ _ _ (T49.setTop (mkF m 77 #[.val (.int x0_0), .val (.int (3 : Int32)), .val (.ref b1), .val (.ref w_DECIMAL), .unset] [(.int (1 : Int32))]))
    refine own_step (fun t k => XS.goto X49.here hx rfl (pc0 := 77) (pc' := 81) rfl (hb hby at_77) (by decide) (by decide) k) ?_
    show own_Ends p.tables e below s _ _ _ (T49.setTop (mkF m 81 #[.val (.int x0_0), .val (.int (3 : Int32)), .val (.ref b1), .val (.ref w_DECIMAL), .unset] [(.int (1 : Int32))]))
    refine own_step (fun t k => XS.istore X49.here hx rfl (hb hby at_81) rfl (l' := #[.val (.int x0_0), .val (.int (3 : Int32)), .val (.ref b1), .val (.ref w_DECIMAL), .val (.int (1 : Int32))]) rfl k) ?_
    show own_Ends p.tables e below s _ _ _ (T49.setTop (mkF m 83 #[.val (.int x0_0), .val (.int (3 : Int32)), .val (.ref b1), .val (.ref w_DECIMAL), .val (.int (1 : Int32))] []))
    refine own_step (fun t k => XS.aloadN X49.here hx rfl (hb hby at_83) rfl rfl k) ?_
    show own_Ends p.tables e below s _ _ _ (T49.setTop (mkF m 84 #[.val (.int x0_0), .val (.int (3 : Int32)), .val (.ref b1), .val (.ref w_DECIMAL), .val (.int (1 : Int32))] [(.ref w_DECIMAL)]))
    have O72 : Old Z n0 h49 := (O45.wr W49 g_b1)
    have F74 : Exa Z h49 w_DECIMAL "com/example/flwor/flwor/compiler/AtomicType" := ((((F27.wr W28).wr W35).wr W42).wr W49)
    obtain ⟨cq73, kq73, q73a, q73b, q73c⟩ := isOf hZ e49 F74
    obtain ⟨_, _, ⟨T73, L73, k73, n73⟩, -, X73, ⟨Lc73, hQ73, l73, y73, z73⟩, st73⟩ := X49.virtualBack hx (y := (⟨"com/example/flwor/flwor/compiler/AtomicType", "numeric", "()Z"⟩ : MethodName)) (z := (⟨"com/example/flwor/flwor/compiler/AtomicType", "numeric", "()Z"⟩ : MethodName)) hown (mvT hZ (hw _ (List.mem_of_getElem? (i := 19) rfl))) (mvT hZ (hw _ (List.mem_of_getElem? (i := 20) rfl))) (notFace_of_selects (args := #[]) (mvT hZ (hw _ (List.mem_of_getElem? (i := 22) rfl)))) (mvT hZ (hw _ (List.mem_of_getElem? (i := 22) rfl))) (mvT hZ (hw _ (List.mem_of_getElem? (i := 21) rfl))) (by decide) (backOf (W := 0) (rm1 l Z a0 hw [] w_DECIMAL w_INTEGER w_DECIMAL w_DOUBLE h49 n0 O72 S_INTEGER S_DECIMAL S_DOUBLE) hZ (hw _ (List.mem_of_getElem? (i := 23) rfl)) (hw _ (List.mem_of_getElem? (i := 4) rfl)) (by decide) (by decide)) q73a q73c (g := (mkF m 84 #[.val (.int x0_0), .val (.int (3 : Int32)), .val (.ref b1), .val (.ref w_DECIMAL), .val (.int (1 : Int32))] [(.ref w_DECIMAL)])) rfl (by rw [hml]; rfl) (Steps.refl _) (argsL := []) (rest := []) (lenOf pd_0 rfl) rfl (by show 2 * 0 + _ ≤ _; exact Nat.le_of_eq rfl) (hb hby at_84) (fun _ _ => ⟨rfl, e49, (by decide : 1 + 0 ≤ _), (by decide : 7 + 0 ≤ _)⟩)
    dsimp only [Pt.U, Pt.locs, Pt.cells, Pt.slots] at X73 l73 y73 z73 st73 hQ73
    subst l73 y73 z73
    obtain ⟨rfl, N73q, e73⟩ := hQ73
    refine own_step (fun t k => st73.trans k) ?_
    have N75 := Fr.app N51 N73q
    show own_Ends p.tables e below s _ _ _ (T73.setTop (mkF m 87 #[.val (.int x0_0), .val (.int (3 : Int32)), .val (.ref b1), .val (.ref w_DECIMAL), .val (.int (1 : Int32))] [(.int (own_r1 w_DECIMAL w_INTEGER w_DECIMAL w_DOUBLE))]))
    refine own_step (fun t k => XS.iload X73.here hx rfl (hb hby at_87) rfl k) ?_
    show own_Ends p.tables e below s _ _ _ (T73.setTop (mkF m 89 #[.val (.int x0_0), .val (.int (3 : Int32)), .val (.ref b1), .val (.ref w_DECIMAL), .val (.int (1 : Int32))] [(.int (1 : Int32)), (.int (own_r1 w_DECIMAL w_INTEGER w_DECIMAL w_DOUBLE))]))
    by_cases hc89_76 : (own_r1 w_DECIMAL w_INTEGER w_DECIMAL w_DOUBLE) = (1 : Int32)
    · skip
      refine own_step (fun t k => XS.icmpNo X73.here hx rfl (hb hby at_89) rfl (teq hc89_76).2 k) ?_
      show own_Ends p.tables e below s _ _ _ (T73.setTop (mkF m 92 #[.val (.int x0_0), .val (.int (3 : Int32)), .val (.ref b1), .val (.ref w_DECIMAL), .val (.int (1 : Int32))] []))
      refine own_step (fun t k => XS.iconst X73.here hx rfl (hb hby at_92) k) ?_
      show own_Ends p.tables e below s _ _ _ (T73.setTop (mkF m 93 #[.val (.int x0_0), .val (.int (3 : Int32)), .val (.ref b1), .val (.ref w_DECIMAL), .val (.int (1 : Int32))] [(.int (1 : Int32))]))
      refine own_step (fun t k => XS.goto X73.here hx rfl (pc0 := 93) (pc' := 97) rfl (hb hby at_93) (by decide) (by decide) k) ?_
      show own_Ends p.tables e below s _ _ _ (T73.setTop (mkF m 97 #[.val (.int x0_0), .val (.int (3 : Int32)), .val (.ref b1), .val (.ref w_DECIMAL), .val (.int (1 : Int32))] [(.int (1 : Int32))]))
      exact own_retN X73 hx (t := .boolean) Bd.returns (by simp) (hb hby at_97) hnl (by rw [e73]; exact ⟨rfl, N75⟩) (by decide) (by decide)
    · skip
      refine own_step (fun t k => XS.icmpYes X73.here hx rfl (pc0 := 89) (pc' := 96) rfl (hb hby at_89) rfl (feq hc89_76).2 (by decide) (by decide) k) ?_
      show own_Ends p.tables e below s _ _ _ (T73.setTop (mkF m 96 #[.val (.int x0_0), .val (.int (3 : Int32)), .val (.ref b1), .val (.ref w_DECIMAL), .val (.int (1 : Int32))] []))
      refine own_step (fun t k => XS.iconst X73.here hx rfl (hb hby at_96) k) ?_
      show own_Ends p.tables e below s _ _ _ (T73.setTop (mkF m 97 #[.val (.int x0_0), .val (.int (3 : Int32)), .val (.ref b1), .val (.ref w_DECIMAL), .val (.int (1 : Int32))] [(.int (0 : Int32))]))
      exfalso
      apply hc89_76
      simp [own_r1, ne_w_UNTYPED_w_INTEGER, ne_w_UNTYPED_w_DECIMAL, ne_w_UNTYPED_w_DOUBLE, ne_w_STRING_w_INTEGER, ne_w_STRING_w_DECIMAL, ne_w_STRING_w_DOUBLE, ne_w_INTEGER_w_DECIMAL, ne_w_INTEGER_w_DOUBLE, ne_w_DECIMAL_w_DOUBLE, ne_w_DATE_w_INTEGER, ne_w_DATE_w_DECIMAL, ne_w_DATE_w_DOUBLE, ne_w_BOOLEAN_w_INTEGER, ne_w_BOOLEAN_w_DECIMAL, ne_w_BOOLEAN_w_DOUBLE, Ne.symm ne_w_INTEGER_w_DECIMAL, Ne.symm ne_w_INTEGER_w_DOUBLE, Ne.symm ne_w_DECIMAL_w_DOUBLE]
  · subst hk52
    show own_Ends p.tables e below s _ _ _ (T49.setTop (mkF m 57 #[.val (.int x0_0), .val (.int (4 : Int32)), .val (.ref b1), .unset, .unset] []))
    refine own_step (fun t k => XS.aloadN X49.here hx rfl (hb hby at_57) rfl rfl k) ?_
    show own_Ends p.tables e below s _ _ _ (T49.setTop (mkF m 58 #[.val (.int x0_0), .val (.int (4 : Int32)), .val (.ref b1), .unset, .unset] [(.ref b1)]))
    refine own_step (fun t k => XS.iloadN X49.here hx rfl (hb hby at_58) rfl k) ?_
    show own_Ends p.tables e below s _ _ _ (T49.setTop (mkF m 59 #[.val (.int x0_0), .val (.int (4 : Int32)), .val (.ref b1), .unset, .unset] [(.int (4 : Int32)), (.ref b1)]))
    obtain ⟨cl77, Ar77, q77, S77, N77, H77, G77⟩ := V49
    have hin77 : ¬ ((4 : Int32) < 0 ∨ cl77.slots.size ≤ ((4 : Int32)).toNatClampNeg) := inb_of S77 ⟨by decide, by decide⟩
    have hat77 : cl77.slots[((4 : Int32)).toNatClampNeg]? = some (.ref w_DOUBLE) := H77.at hin77 rfl
    refine own_step (fun t k => X49.aaload hx (j := (4 : Int32)) (v := (.ref w_DOUBLE)) (by rw [e49]; exact Ar77.1) (State.isArrayOf_alike hZ.alike Ar77.2.1) rfl Ar77.2.2 hin77 hat77 (g := (mkF m 59 #[.val (.int x0_0), .val (.int (4 : Int32)), .val (.ref b1), .unset, .unset] [(.int (4 : Int32)), (.ref b1)])) rfl rfl (hb hby at_59) _ k) ?_
    show own_Ends p.tables e below s _ _ _ (T49.setTop (mkF m 60 #[.val (.int x0_0), .val (.int (4 : Int32)), .val (.ref b1), .unset, .unset] [(.ref w_DOUBLE)]))
    refine own_step (fun t k => XS.astoreN X49.here hx rfl (hb hby at_60) rfl rfl (l' := #[.val (.int x0_0), .val (.int (4 : Int32)), .val (.ref b1), .val (.ref w_DOUBLE), .unset]) rfl k) ?_
    show own_Ends p.tables e below s _ _ _ (T49.setTop (mkF m 61 #[.val (.int x0_0), .val (.int (4 : Int32)), .val (.ref b1), .val (.ref w_DOUBLE), .unset] []))
    refine own_step (fun t k => XS.iloadN X49.here hx rfl (hb hby at_61) rfl k) ?_
    show own_Ends p.tables e below s _ _ _ (T49.setTop (mkF m 62 #[.val (.int x0_0), .val (.int (4 : Int32)), .val (.ref b1), .val (.ref w_DOUBLE), .unset] [(.int (4 : Int32))]))
    refine own_step (fun t k => XS.iconst X49.here hx rfl (hb hby at_62) k) ?_
    show own_Ends p.tables e below s _ _ _ (T49.setTop (mkF m 63 #[.val (.int x0_0), .val (.int (4 : Int32)), .val (.ref b1), .val (.ref w_DOUBLE), .unset] [(.int (2 : Int32)), (.int (4 : Int32))]))
    refine own_step (fun t k => XS.icmpNo X49.here hx rfl (hb hby at_63) rfl (feq (by decide : ¬ ((4 : Int32) = (2 : Int32)))).1 k) ?_
    show own_Ends p.tables e below s _ _ _ (T49.setTop (mkF m 66 #[.val (.int x0_0), .val (.int (4 : Int32)), .val (.ref b1), .val (.ref w_DOUBLE), .unset] []))
    refine own_step (fun t k => XS.iloadN X49.here hx rfl (hb hby at_66) rfl k) ?_
    show own_Ends p.tables e below s _ _ _ (T49.setTop (mkF m 67 #[.val (.int x0_0), .val (.int (4 : Int32)), .val (.ref b1), .val (.ref w_DOUBLE), .unset] [(.int (4 : Int32))]))
    refine own_step (fun t k => XS.iconst X49.here hx rfl (hb hby at_67) k) ?_
    show own_Ends p.tables e below s _ _ _ (T49.setTop (mkF m 68 #[.val (.int x0_0), .val (.int (4 : Int32)), .val (.ref b1), .val (.ref w_DOUBLE), .unset] [(.int (3 : Int32)), (.int (4 : Int32))]))
    refine own_step (fun t k => XS.icmpNo X49.here hx rfl (hb hby at_68) rfl (feq (by decide : ¬ ((4 : Int32) = (3 : Int32)))).1 k) ?_
    show own_Ends p.tables e below s _ _ _ (T49.setTop (mkF m 71 #[.val (.int x0_0), .val (.int (4 : Int32)), .val (.ref b1), .val (.ref w_DOUBLE), .unset] []))
    refine own_step (fun t k => XS.iloadN X49.here hx rfl (hb hby at_71) rfl k) ?_
    show own_Ends p.tables e below s _ _ _ (T49.setTop (mkF m 72 #[.val (.int x0_0), .val (.int (4 : Int32)), .val (.ref b1), .val (.ref w_DOUBLE), .unset] [(.int (4 : Int32))]))
    refine own_step (fun t k => XS.iconst X49.here hx rfl (hb hby at_72) k) ?_
    show own_Ends p.tables e below s _ _ _ (T49.setTop (mkF m 73 #[.val (.int x0_0), .val (.int (4 : Int32)), .val (.ref b1), .val (.ref w_DOUBLE), .unset] [(.int (4 : Int32)), (.int (4 : Int32))]))
    refine own_step (fun t k => XS.icmpNo X49.here hx rfl (hb hby at_73) rfl (teq (by decide : (4 : Int32) = (4 : Int32))).2 k) ?_
    show own_Ends p.tables e below s _ _ _ (T49.setTop (mkF m 76 #[.val (.int x0_0), .val (.int (4 : Int32)), .val (.ref b1), .val (.ref w_DOUBLE), .unset] []))
    refine own_step (fun t k => XS.iconst X49.here hx rfl (hb hby at_76) k) ?_
    show own_Ends p.tables e below s _ _ _ (T49.setTop (mkF m 77 #[.val (.int x0_0), .val (.int (4 : Int32)), .val (.ref b1), .val (.ref w_DOUBLE), .unset] [(.int (1 : Int32))]))
    refine own_step (fun t k => XS.goto X49.here hx rfl (pc0 := 77) (pc' := 81) rfl (hb hby at_77) (by decide) (by decide) k) ?_
    show own_Ends p.tables e below s _ _ _ (T49.setTop (mkF m 81 #[.val (.int x0_0), .val (.int (4 : Int32)), .val (.ref b1), .val (.ref w_DOUBLE), .unset] [(.int (1 : Int32))]))
    refine own_step (fun t k => XS.istore X49.here hx rfl (hb hby at_81) rfl (l' := #[.val (.int x0_0), .val (.int (4 : Int32)), .val (.ref b1), .val (.ref w_DOUBLE), .val (.int (1 : Int32))]) rfl k) ?_
    show own_Ends p.tables e below s _ _ _ (T49.setTop (mkF m 83 #[.val (.int x0_0), .val (.int (4 : Int32)), .val (.ref b1), .val (.ref w_DOUBLE), .val (.int (1 : Int32))] []))
    refine own_step (fun t k => XS.aloadN X49.here hx rfl (hb hby at_83) rfl rfl k) ?_
    show own_Ends p.tables e below s _ _ _ (T49.setTop (mkF m 84 #[.val (.int x0_0), .val (.int (4 : Int32)), .val (.ref b1), .val (.ref w_DOUBLE), .val (.int (1 : Int32))] [(.ref w_DOUBLE)]))
    have O78 : Old Z n0 h49 := (O45.wr W49 g_b1)
    have F80 : Exa Z h49 w_DOUBLE "com/example/flwor/flwor/compiler/AtomicType" := (((F34.wr W35).wr W42).wr W49)
    obtain ⟨cq79, kq79, q79a, q79b, q79c⟩ := isOf hZ e49 F80
    obtain ⟨_, _, ⟨T79, L79, k79, n79⟩, -, X79, ⟨Lc79, hQ79, l79, y79, z79⟩, st79⟩ := X49.virtualBack hx (y := (⟨"com/example/flwor/flwor/compiler/AtomicType", "numeric", "()Z"⟩ : MethodName)) (z := (⟨"com/example/flwor/flwor/compiler/AtomicType", "numeric", "()Z"⟩ : MethodName)) hown (mvT hZ (hw _ (List.mem_of_getElem? (i := 19) rfl))) (mvT hZ (hw _ (List.mem_of_getElem? (i := 20) rfl))) (notFace_of_selects (args := #[]) (mvT hZ (hw _ (List.mem_of_getElem? (i := 22) rfl)))) (mvT hZ (hw _ (List.mem_of_getElem? (i := 22) rfl))) (mvT hZ (hw _ (List.mem_of_getElem? (i := 21) rfl))) (by decide) (backOf (W := 0) (rm1 l Z a0 hw [] w_DOUBLE w_INTEGER w_DECIMAL w_DOUBLE h49 n0 O78 S_INTEGER S_DECIMAL S_DOUBLE) hZ (hw _ (List.mem_of_getElem? (i := 23) rfl)) (hw _ (List.mem_of_getElem? (i := 4) rfl)) (by decide) (by decide)) q79a q79c (g := (mkF m 84 #[.val (.int x0_0), .val (.int (4 : Int32)), .val (.ref b1), .val (.ref w_DOUBLE), .val (.int (1 : Int32))] [(.ref w_DOUBLE)])) rfl (by rw [hml]; rfl) (Steps.refl _) (argsL := []) (rest := []) (lenOf pd_0 rfl) rfl (by show 2 * 0 + _ ≤ _; exact Nat.le_of_eq rfl) (hb hby at_84) (fun _ _ => ⟨rfl, e49, (by decide : 1 + 0 ≤ _), (by decide : 7 + 0 ≤ _)⟩)
    dsimp only [Pt.U, Pt.locs, Pt.cells, Pt.slots] at X79 l79 y79 z79 st79 hQ79
    subst l79 y79 z79
    obtain ⟨rfl, N79q, e79⟩ := hQ79
    refine own_step (fun t k => st79.trans k) ?_
    have N81 := Fr.app N51 N79q
    show own_Ends p.tables e below s _ _ _ (T79.setTop (mkF m 87 #[.val (.int x0_0), .val (.int (4 : Int32)), .val (.ref b1), .val (.ref w_DOUBLE), .val (.int (1 : Int32))] [(.int (own_r1 w_DOUBLE w_INTEGER w_DECIMAL w_DOUBLE))]))
    refine own_step (fun t k => XS.iload X79.here hx rfl (hb hby at_87) rfl k) ?_
    show own_Ends p.tables e below s _ _ _ (T79.setTop (mkF m 89 #[.val (.int x0_0), .val (.int (4 : Int32)), .val (.ref b1), .val (.ref w_DOUBLE), .val (.int (1 : Int32))] [(.int (1 : Int32)), (.int (own_r1 w_DOUBLE w_INTEGER w_DECIMAL w_DOUBLE))]))
    by_cases hc89_82 : (own_r1 w_DOUBLE w_INTEGER w_DECIMAL w_DOUBLE) = (1 : Int32)
    · skip
      refine own_step (fun t k => XS.icmpNo X79.here hx rfl (hb hby at_89) rfl (teq hc89_82).2 k) ?_
      show own_Ends p.tables e below s _ _ _ (T79.setTop (mkF m 92 #[.val (.int x0_0), .val (.int (4 : Int32)), .val (.ref b1), .val (.ref w_DOUBLE), .val (.int (1 : Int32))] []))
      refine own_step (fun t k => XS.iconst X79.here hx rfl (hb hby at_92) k) ?_
      show own_Ends p.tables e below s _ _ _ (T79.setTop (mkF m 93 #[.val (.int x0_0), .val (.int (4 : Int32)), .val (.ref b1), .val (.ref w_DOUBLE), .val (.int (1 : Int32))] [(.int (1 : Int32))]))
      refine own_step (fun t k => XS.goto X79.here hx rfl (pc0 := 93) (pc' := 97) rfl (hb hby at_93) (by decide) (by decide) k) ?_
      show own_Ends p.tables e below s _ _ _ (T79.setTop (mkF m 97 #[.val (.int x0_0), .val (.int (4 : Int32)), .val (.ref b1), .val (.ref w_DOUBLE), .val (.int (1 : Int32))] [(.int (1 : Int32))]))
      exact own_retN X79 hx (t := .boolean) Bd.returns (by simp) (hb hby at_97) hnl (by rw [e79]; exact ⟨rfl, N81⟩) (by decide) (by decide)
    · skip
      refine own_step (fun t k => XS.icmpYes X79.here hx rfl (pc0 := 89) (pc' := 96) rfl (hb hby at_89) rfl (feq hc89_82).2 (by decide) (by decide) k) ?_
      show own_Ends p.tables e below s _ _ _ (T79.setTop (mkF m 96 #[.val (.int x0_0), .val (.int (4 : Int32)), .val (.ref b1), .val (.ref w_DOUBLE), .val (.int (1 : Int32))] []))
      refine own_step (fun t k => XS.iconst X79.here hx rfl (hb hby at_96) k) ?_
      show own_Ends p.tables e below s _ _ _ (T79.setTop (mkF m 97 #[.val (.int x0_0), .val (.int (4 : Int32)), .val (.ref b1), .val (.ref w_DOUBLE), .val (.int (1 : Int32))] [(.int (0 : Int32))]))
      exfalso
      apply hc89_82
      simp [own_r1, ne_w_UNTYPED_w_INTEGER, ne_w_UNTYPED_w_DECIMAL, ne_w_UNTYPED_w_DOUBLE, ne_w_STRING_w_INTEGER, ne_w_STRING_w_DECIMAL, ne_w_STRING_w_DOUBLE, ne_w_INTEGER_w_DECIMAL, ne_w_INTEGER_w_DOUBLE, ne_w_DECIMAL_w_DOUBLE, ne_w_DATE_w_INTEGER, ne_w_DATE_w_DECIMAL, ne_w_DATE_w_DOUBLE, ne_w_BOOLEAN_w_INTEGER, ne_w_BOOLEAN_w_DECIMAL, ne_w_BOOLEAN_w_DOUBLE, Ne.symm ne_w_INTEGER_w_DECIMAL, Ne.symm ne_w_INTEGER_w_DOUBLE, Ne.symm ne_w_DECIMAL_w_DOUBLE]
  · subst hk52
    show own_Ends p.tables e below s _ _ _ (T49.setTop (mkF m 57 #[.val (.int x0_0), .val (.int (5 : Int32)), .val (.ref b1), .unset, .unset] []))
    refine own_step (fun t k => XS.aloadN X49.here hx rfl (hb hby at_57) rfl rfl k) ?_
    show own_Ends p.tables e below s _ _ _ (T49.setTop (mkF m 58 #[.val (.int x0_0), .val (.int (5 : Int32)), .val (.ref b1), .unset, .unset] [(.ref b1)]))
    refine own_step (fun t k => XS.iloadN X49.here hx rfl (hb hby at_58) rfl k) ?_
    show own_Ends p.tables e below s _ _ _ (T49.setTop (mkF m 59 #[.val (.int x0_0), .val (.int (5 : Int32)), .val (.ref b1), .unset, .unset] [(.int (5 : Int32)), (.ref b1)]))
    obtain ⟨cl83, Ar83, q83, S83, N83, H83, G83⟩ := V49
    have hin83 : ¬ ((5 : Int32) < 0 ∨ cl83.slots.size ≤ ((5 : Int32)).toNatClampNeg) := inb_of S83 ⟨by decide, by decide⟩
    have hat83 : cl83.slots[((5 : Int32)).toNatClampNeg]? = some (.ref w_DATE) := H83.at hin83 rfl
    refine own_step (fun t k => X49.aaload hx (j := (5 : Int32)) (v := (.ref w_DATE)) (by rw [e49]; exact Ar83.1) (State.isArrayOf_alike hZ.alike Ar83.2.1) rfl Ar83.2.2 hin83 hat83 (g := (mkF m 59 #[.val (.int x0_0), .val (.int (5 : Int32)), .val (.ref b1), .unset, .unset] [(.int (5 : Int32)), (.ref b1)])) rfl rfl (hb hby at_59) _ k) ?_
    show own_Ends p.tables e below s _ _ _ (T49.setTop (mkF m 60 #[.val (.int x0_0), .val (.int (5 : Int32)), .val (.ref b1), .unset, .unset] [(.ref w_DATE)]))
    refine own_step (fun t k => XS.astoreN X49.here hx rfl (hb hby at_60) rfl rfl (l' := #[.val (.int x0_0), .val (.int (5 : Int32)), .val (.ref b1), .val (.ref w_DATE), .unset]) rfl k) ?_
    show own_Ends p.tables e below s _ _ _ (T49.setTop (mkF m 61 #[.val (.int x0_0), .val (.int (5 : Int32)), .val (.ref b1), .val (.ref w_DATE), .unset] []))
    refine own_step (fun t k => XS.iloadN X49.here hx rfl (hb hby at_61) rfl k) ?_
    show own_Ends p.tables e below s _ _ _ (T49.setTop (mkF m 62 #[.val (.int x0_0), .val (.int (5 : Int32)), .val (.ref b1), .val (.ref w_DATE), .unset] [(.int (5 : Int32))]))
    refine own_step (fun t k => XS.iconst X49.here hx rfl (hb hby at_62) k) ?_
    show own_Ends p.tables e below s _ _ _ (T49.setTop (mkF m 63 #[.val (.int x0_0), .val (.int (5 : Int32)), .val (.ref b1), .val (.ref w_DATE), .unset] [(.int (2 : Int32)), (.int (5 : Int32))]))
    refine own_step (fun t k => XS.icmpNo X49.here hx rfl (hb hby at_63) rfl (feq (by decide : ¬ ((5 : Int32) = (2 : Int32)))).1 k) ?_
    show own_Ends p.tables e below s _ _ _ (T49.setTop (mkF m 66 #[.val (.int x0_0), .val (.int (5 : Int32)), .val (.ref b1), .val (.ref w_DATE), .unset] []))
    refine own_step (fun t k => XS.iloadN X49.here hx rfl (hb hby at_66) rfl k) ?_
    show own_Ends p.tables e below s _ _ _ (T49.setTop (mkF m 67 #[.val (.int x0_0), .val (.int (5 : Int32)), .val (.ref b1), .val (.ref w_DATE), .unset] [(.int (5 : Int32))]))
    refine own_step (fun t k => XS.iconst X49.here hx rfl (hb hby at_67) k) ?_
    show own_Ends p.tables e below s _ _ _ (T49.setTop (mkF m 68 #[.val (.int x0_0), .val (.int (5 : Int32)), .val (.ref b1), .val (.ref w_DATE), .unset] [(.int (3 : Int32)), (.int (5 : Int32))]))
    refine own_step (fun t k => XS.icmpNo X49.here hx rfl (hb hby at_68) rfl (feq (by decide : ¬ ((5 : Int32) = (3 : Int32)))).1 k) ?_
    show own_Ends p.tables e below s _ _ _ (T49.setTop (mkF m 71 #[.val (.int x0_0), .val (.int (5 : Int32)), .val (.ref b1), .val (.ref w_DATE), .unset] []))
    refine own_step (fun t k => XS.iloadN X49.here hx rfl (hb hby at_71) rfl k) ?_
    show own_Ends p.tables e below s _ _ _ (T49.setTop (mkF m 72 #[.val (.int x0_0), .val (.int (5 : Int32)), .val (.ref b1), .val (.ref w_DATE), .unset] [(.int (5 : Int32))]))
    refine own_step (fun t k => XS.iconst X49.here hx rfl (hb hby at_72) k) ?_
    show own_Ends p.tables e below s _ _ _ (T49.setTop (mkF m 73 #[.val (.int x0_0), .val (.int (5 : Int32)), .val (.ref b1), .val (.ref w_DATE), .unset] [(.int (4 : Int32)), (.int (5 : Int32))]))
    refine own_step (fun t k => XS.icmpYes X49.here hx rfl (pc0 := 73) (pc' := 80) rfl (hb hby at_73) rfl (feq (by decide : ¬ ((5 : Int32) = (4 : Int32)))).2 (by decide) (by decide) k) ?_
    show own_Ends p.tables e below s _ _ _ (T49.setTop (mkF m 80 #[.val (.int x0_0), .val (.int (5 : Int32)), .val (.ref b1), .val (.ref w_DATE), .unset] []))
    refine own_step (fun t k => XS.iconst X49.here hx rfl (hb hby at_80) k) ?_
    show own_Ends p.tables e below s _ _ _ (T49.setTop (mkF m 81 #[.val (.int x0_0), .val (.int (5 : Int32)), .val (.ref b1), .val (.ref w_DATE), .unset] [(.int (0 : Int32))]))
    refine own_step (fun t k => XS.istore X49.here hx rfl (hb hby at_81) rfl (l' := #[.val (.int x0_0), .val (.int (5 : Int32)), .val (.ref b1), .val (.ref w_DATE), .val (.int (0 : Int32))]) rfl k) ?_
    show own_Ends p.tables e below s _ _ _ (T49.setTop (mkF m 83 #[.val (.int x0_0), .val (.int (5 : Int32)), .val (.ref b1), .val (.ref w_DATE), .val (.int (0 : Int32))] []))
    refine own_step (fun t k => XS.aloadN X49.here hx rfl (hb hby at_83) rfl rfl k) ?_
    show own_Ends p.tables e below s _ _ _ (T49.setTop (mkF m 84 #[.val (.int x0_0), .val (.int (5 : Int32)), .val (.ref b1), .val (.ref w_DATE), .val (.int (0 : Int32))] [(.ref w_DATE)]))
    have O84 : Old Z n0 h49 := (O45.wr W49 g_b1)
    have F86 : Exa Z h49 w_DATE "com/example/flwor/flwor/compiler/AtomicType" := ((F41.wr W42).wr W49)
    obtain ⟨cq85, kq85, q85a, q85b, q85c⟩ := isOf hZ e49 F86
    obtain ⟨_, _, ⟨T85, L85, k85, n85⟩, -, X85, ⟨Lc85, hQ85, l85, y85, z85⟩, st85⟩ := X49.virtualBack hx (y := (⟨"com/example/flwor/flwor/compiler/AtomicType", "numeric", "()Z"⟩ : MethodName)) (z := (⟨"com/example/flwor/flwor/compiler/AtomicType", "numeric", "()Z"⟩ : MethodName)) hown (mvT hZ (hw _ (List.mem_of_getElem? (i := 19) rfl))) (mvT hZ (hw _ (List.mem_of_getElem? (i := 20) rfl))) (notFace_of_selects (args := #[]) (mvT hZ (hw _ (List.mem_of_getElem? (i := 22) rfl)))) (mvT hZ (hw _ (List.mem_of_getElem? (i := 22) rfl))) (mvT hZ (hw _ (List.mem_of_getElem? (i := 21) rfl))) (by decide) (backOf (W := 0) (rm1 l Z a0 hw [] w_DATE w_INTEGER w_DECIMAL w_DOUBLE h49 n0 O84 S_INTEGER S_DECIMAL S_DOUBLE) hZ (hw _ (List.mem_of_getElem? (i := 23) rfl)) (hw _ (List.mem_of_getElem? (i := 4) rfl)) (by decide) (by decide)) q85a q85c (g := (mkF m 84 #[.val (.int x0_0), .val (.int (5 : Int32)), .val (.ref b1), .val (.ref w_DATE), .val (.int (0 : Int32))] [(.ref w_DATE)])) rfl (by rw [hml]; rfl) (Steps.refl _) (argsL := []) (rest := []) (lenOf pd_0 rfl) rfl (by show 2 * 0 + _ ≤ _; exact Nat.le_of_eq rfl) (hb hby at_84) (fun _ _ => ⟨rfl, e49, (by decide : 1 + 0 ≤ _), (by decide : 7 + 0 ≤ _)⟩)
    dsimp only [Pt.U, Pt.locs, Pt.cells, Pt.slots] at X85 l85 y85 z85 st85 hQ85
    subst l85 y85 z85
    obtain ⟨rfl, N85q, e85⟩ := hQ85
    refine own_step (fun t k => st85.trans k) ?_
    have N87 := Fr.app N51 N85q
    show own_Ends p.tables e below s _ _ _ (T85.setTop (mkF m 87 #[.val (.int x0_0), .val (.int (5 : Int32)), .val (.ref b1), .val (.ref w_DATE), .val (.int (0 : Int32))] [(.int (own_r1 w_DATE w_INTEGER w_DECIMAL w_DOUBLE))]))
    refine own_step (fun t k => XS.iload X85.here hx rfl (hb hby at_87) rfl k) ?_
    show own_Ends p.tables e below s _ _ _ (T85.setTop (mkF m 89 #[.val (.int x0_0), .val (.int (5 : Int32)), .val (.ref b1), .val (.ref w_DATE), .val (.int (0 : Int32))] [(.int (0 : Int32)), (.int (own_r1 w_DATE w_INTEGER w_DECIMAL w_DOUBLE))]))
    by_cases hc89_88 : (own_r1 w_DATE w_INTEGER w_DECIMAL w_DOUBLE) = (0 : Int32)
    · skip
      refine own_step (fun t k => XS.icmpNo X85.here hx rfl (hb hby at_89) rfl (teq hc89_88).2 k) ?_
      show own_Ends p.tables e below s _ _ _ (T85.setTop (mkF m 92 #[.val (.int x0_0), .val (.int (5 : Int32)), .val (.ref b1), .val (.ref w_DATE), .val (.int (0 : Int32))] []))
      refine own_step (fun t k => XS.iconst X85.here hx rfl (hb hby at_92) k) ?_
      show own_Ends p.tables e below s _ _ _ (T85.setTop (mkF m 93 #[.val (.int x0_0), .val (.int (5 : Int32)), .val (.ref b1), .val (.ref w_DATE), .val (.int (0 : Int32))] [(.int (1 : Int32))]))
      refine own_step (fun t k => XS.goto X85.here hx rfl (pc0 := 93) (pc' := 97) rfl (hb hby at_93) (by decide) (by decide) k) ?_
      show own_Ends p.tables e below s _ _ _ (T85.setTop (mkF m 97 #[.val (.int x0_0), .val (.int (5 : Int32)), .val (.ref b1), .val (.ref w_DATE), .val (.int (0 : Int32))] [(.int (1 : Int32))]))
      exact own_retN X85 hx (t := .boolean) Bd.returns (by simp) (hb hby at_97) hnl (by rw [e85]; exact ⟨rfl, N87⟩) (by decide) (by decide)
    · skip
      refine own_step (fun t k => XS.icmpYes X85.here hx rfl (pc0 := 89) (pc' := 96) rfl (hb hby at_89) rfl (feq hc89_88).2 (by decide) (by decide) k) ?_
      show own_Ends p.tables e below s _ _ _ (T85.setTop (mkF m 96 #[.val (.int x0_0), .val (.int (5 : Int32)), .val (.ref b1), .val (.ref w_DATE), .val (.int (0 : Int32))] []))
      refine own_step (fun t k => XS.iconst X85.here hx rfl (hb hby at_96) k) ?_
      show own_Ends p.tables e below s _ _ _ (T85.setTop (mkF m 97 #[.val (.int x0_0), .val (.int (5 : Int32)), .val (.ref b1), .val (.ref w_DATE), .val (.int (0 : Int32))] [(.int (0 : Int32))]))
      exfalso
      apply hc89_88
      simp [own_r1, ne_w_UNTYPED_w_INTEGER, ne_w_UNTYPED_w_DECIMAL, ne_w_UNTYPED_w_DOUBLE, ne_w_STRING_w_INTEGER, ne_w_STRING_w_DECIMAL, ne_w_STRING_w_DOUBLE, ne_w_INTEGER_w_DECIMAL, ne_w_INTEGER_w_DOUBLE, ne_w_DECIMAL_w_DOUBLE, ne_w_DATE_w_INTEGER, ne_w_DATE_w_DECIMAL, ne_w_DATE_w_DOUBLE, ne_w_BOOLEAN_w_INTEGER, ne_w_BOOLEAN_w_DECIMAL, ne_w_BOOLEAN_w_DOUBLE, Ne.symm ne_w_INTEGER_w_DECIMAL, Ne.symm ne_w_INTEGER_w_DOUBLE, Ne.symm ne_w_DECIMAL_w_DOUBLE]
  · subst hk52
    show own_Ends p.tables e below s _ _ _ (T49.setTop (mkF m 57 #[.val (.int x0_0), .val (.int (6 : Int32)), .val (.ref b1), .unset, .unset] []))
    refine own_step (fun t k => XS.aloadN X49.here hx rfl (hb hby at_57) rfl rfl k) ?_
    show own_Ends p.tables e below s _ _ _ (T49.setTop (mkF m 58 #[.val (.int x0_0), .val (.int (6 : Int32)), .val (.ref b1), .unset, .unset] [(.ref b1)]))
    refine own_step (fun t k => XS.iloadN X49.here hx rfl (hb hby at_58) rfl k) ?_
    show own_Ends p.tables e below s _ _ _ (T49.setTop (mkF m 59 #[.val (.int x0_0), .val (.int (6 : Int32)), .val (.ref b1), .unset, .unset] [(.int (6 : Int32)), (.ref b1)]))
    obtain ⟨cl89, Ar89, q89, S89, N89, H89, G89⟩ := V49
    have hin89 : ¬ ((6 : Int32) < 0 ∨ cl89.slots.size ≤ ((6 : Int32)).toNatClampNeg) := inb_of S89 ⟨by decide, by decide⟩
    have hat89 : cl89.slots[((6 : Int32)).toNatClampNeg]? = some (.ref w_BOOLEAN) := H89.at hin89 rfl
    refine own_step (fun t k => X49.aaload hx (j := (6 : Int32)) (v := (.ref w_BOOLEAN)) (by rw [e49]; exact Ar89.1) (State.isArrayOf_alike hZ.alike Ar89.2.1) rfl Ar89.2.2 hin89 hat89 (g := (mkF m 59 #[.val (.int x0_0), .val (.int (6 : Int32)), .val (.ref b1), .unset, .unset] [(.int (6 : Int32)), (.ref b1)])) rfl rfl (hb hby at_59) _ k) ?_
    show own_Ends p.tables e below s _ _ _ (T49.setTop (mkF m 60 #[.val (.int x0_0), .val (.int (6 : Int32)), .val (.ref b1), .unset, .unset] [(.ref w_BOOLEAN)]))
    refine own_step (fun t k => XS.astoreN X49.here hx rfl (hb hby at_60) rfl rfl (l' := #[.val (.int x0_0), .val (.int (6 : Int32)), .val (.ref b1), .val (.ref w_BOOLEAN), .unset]) rfl k) ?_
    show own_Ends p.tables e below s _ _ _ (T49.setTop (mkF m 61 #[.val (.int x0_0), .val (.int (6 : Int32)), .val (.ref b1), .val (.ref w_BOOLEAN), .unset] []))
    refine own_step (fun t k => XS.iloadN X49.here hx rfl (hb hby at_61) rfl k) ?_
    show own_Ends p.tables e below s _ _ _ (T49.setTop (mkF m 62 #[.val (.int x0_0), .val (.int (6 : Int32)), .val (.ref b1), .val (.ref w_BOOLEAN), .unset] [(.int (6 : Int32))]))
    refine own_step (fun t k => XS.iconst X49.here hx rfl (hb hby at_62) k) ?_
    show own_Ends p.tables e below s _ _ _ (T49.setTop (mkF m 63 #[.val (.int x0_0), .val (.int (6 : Int32)), .val (.ref b1), .val (.ref w_BOOLEAN), .unset] [(.int (2 : Int32)), (.int (6 : Int32))]))
    refine own_step (fun t k => XS.icmpNo X49.here hx rfl (hb hby at_63) rfl (feq (by decide : ¬ ((6 : Int32) = (2 : Int32)))).1 k) ?_
    show own_Ends p.tables e below s _ _ _ (T49.setTop (mkF m 66 #[.val (.int x0_0), .val (.int (6 : Int32)), .val (.ref b1), .val (.ref w_BOOLEAN), .unset] []))
    refine own_step (fun t k => XS.iloadN X49.here hx rfl (hb hby at_66) rfl k) ?_
    show own_Ends p.tables e below s _ _ _ (T49.setTop (mkF m 67 #[.val (.int x0_0), .val (.int (6 : Int32)), .val (.ref b1), .val (.ref w_BOOLEAN), .unset] [(.int (6 : Int32))]))
    refine own_step (fun t k => XS.iconst X49.here hx rfl (hb hby at_67) k) ?_
    show own_Ends p.tables e below s _ _ _ (T49.setTop (mkF m 68 #[.val (.int x0_0), .val (.int (6 : Int32)), .val (.ref b1), .val (.ref w_BOOLEAN), .unset] [(.int (3 : Int32)), (.int (6 : Int32))]))
    refine own_step (fun t k => XS.icmpNo X49.here hx rfl (hb hby at_68) rfl (feq (by decide : ¬ ((6 : Int32) = (3 : Int32)))).1 k) ?_
    show own_Ends p.tables e below s _ _ _ (T49.setTop (mkF m 71 #[.val (.int x0_0), .val (.int (6 : Int32)), .val (.ref b1), .val (.ref w_BOOLEAN), .unset] []))
    refine own_step (fun t k => XS.iloadN X49.here hx rfl (hb hby at_71) rfl k) ?_
    show own_Ends p.tables e below s _ _ _ (T49.setTop (mkF m 72 #[.val (.int x0_0), .val (.int (6 : Int32)), .val (.ref b1), .val (.ref w_BOOLEAN), .unset] [(.int (6 : Int32))]))
    refine own_step (fun t k => XS.iconst X49.here hx rfl (hb hby at_72) k) ?_
    show own_Ends p.tables e below s _ _ _ (T49.setTop (mkF m 73 #[.val (.int x0_0), .val (.int (6 : Int32)), .val (.ref b1), .val (.ref w_BOOLEAN), .unset] [(.int (4 : Int32)), (.int (6 : Int32))]))
    refine own_step (fun t k => XS.icmpYes X49.here hx rfl (pc0 := 73) (pc' := 80) rfl (hb hby at_73) rfl (feq (by decide : ¬ ((6 : Int32) = (4 : Int32)))).2 (by decide) (by decide) k) ?_
    show own_Ends p.tables e below s _ _ _ (T49.setTop (mkF m 80 #[.val (.int x0_0), .val (.int (6 : Int32)), .val (.ref b1), .val (.ref w_BOOLEAN), .unset] []))
    refine own_step (fun t k => XS.iconst X49.here hx rfl (hb hby at_80) k) ?_
    show own_Ends p.tables e below s _ _ _ (T49.setTop (mkF m 81 #[.val (.int x0_0), .val (.int (6 : Int32)), .val (.ref b1), .val (.ref w_BOOLEAN), .unset] [(.int (0 : Int32))]))
    refine own_step (fun t k => XS.istore X49.here hx rfl (hb hby at_81) rfl (l' := #[.val (.int x0_0), .val (.int (6 : Int32)), .val (.ref b1), .val (.ref w_BOOLEAN), .val (.int (0 : Int32))]) rfl k) ?_
    show own_Ends p.tables e below s _ _ _ (T49.setTop (mkF m 83 #[.val (.int x0_0), .val (.int (6 : Int32)), .val (.ref b1), .val (.ref w_BOOLEAN), .val (.int (0 : Int32))] []))
    refine own_step (fun t k => XS.aloadN X49.here hx rfl (hb hby at_83) rfl rfl k) ?_
    show own_Ends p.tables e below s _ _ _ (T49.setTop (mkF m 84 #[.val (.int x0_0), .val (.int (6 : Int32)), .val (.ref b1), .val (.ref w_BOOLEAN), .val (.int (0 : Int32))] [(.ref w_BOOLEAN)]))
    have O90 : Old Z n0 h49 := (O45.wr W49 g_b1)
    have F92 : Exa Z h49 w_BOOLEAN "com/example/flwor/flwor/compiler/AtomicType" := (F48.wr W49)
    obtain ⟨cq91, kq91, q91a, q91b, q91c⟩ := isOf hZ e49 F92
    obtain ⟨_, _, ⟨T91, L91, k91, n91⟩, -, X91, ⟨Lc91, hQ91, l91, y91, z91⟩, st91⟩ := X49.virtualBack hx (y := (⟨"com/example/flwor/flwor/compiler/AtomicType", "numeric", "()Z"⟩ : MethodName)) (z := (⟨"com/example/flwor/flwor/compiler/AtomicType", "numeric", "()Z"⟩ : MethodName)) hown (mvT hZ (hw _ (List.mem_of_getElem? (i := 19) rfl))) (mvT hZ (hw _ (List.mem_of_getElem? (i := 20) rfl))) (notFace_of_selects (args := #[]) (mvT hZ (hw _ (List.mem_of_getElem? (i := 22) rfl)))) (mvT hZ (hw _ (List.mem_of_getElem? (i := 22) rfl))) (mvT hZ (hw _ (List.mem_of_getElem? (i := 21) rfl))) (by decide) (backOf (W := 0) (rm1 l Z a0 hw [] w_BOOLEAN w_INTEGER w_DECIMAL w_DOUBLE h49 n0 O90 S_INTEGER S_DECIMAL S_DOUBLE) hZ (hw _ (List.mem_of_getElem? (i := 23) rfl)) (hw _ (List.mem_of_getElem? (i := 4) rfl)) (by decide) (by decide)) q91a q91c (g := (mkF m 84 #[.val (.int x0_0), .val (.int (6 : Int32)), .val (.ref b1), .val (.ref w_BOOLEAN), .val (.int (0 : Int32))] [(.ref w_BOOLEAN)])) rfl (by rw [hml]; rfl) (Steps.refl _) (argsL := []) (rest := []) (lenOf pd_0 rfl) rfl (by show 2 * 0 + _ ≤ _; exact Nat.le_of_eq rfl) (hb hby at_84) (fun _ _ => ⟨rfl, e49, (by decide : 1 + 0 ≤ _), (by decide : 7 + 0 ≤ _)⟩)
    dsimp only [Pt.U, Pt.locs, Pt.cells, Pt.slots] at X91 l91 y91 z91 st91 hQ91
    subst l91 y91 z91
    obtain ⟨rfl, N91q, e91⟩ := hQ91
    refine own_step (fun t k => st91.trans k) ?_
    have N93 := Fr.app N51 N91q
    show own_Ends p.tables e below s _ _ _ (T91.setTop (mkF m 87 #[.val (.int x0_0), .val (.int (6 : Int32)), .val (.ref b1), .val (.ref w_BOOLEAN), .val (.int (0 : Int32))] [(.int (own_r1 w_BOOLEAN w_INTEGER w_DECIMAL w_DOUBLE))]))
    refine own_step (fun t k => XS.iload X91.here hx rfl (hb hby at_87) rfl k) ?_
    show own_Ends p.tables e below s _ _ _ (T91.setTop (mkF m 89 #[.val (.int x0_0), .val (.int (6 : Int32)), .val (.ref b1), .val (.ref w_BOOLEAN), .val (.int (0 : Int32))] [(.int (0 : Int32)), (.int (own_r1 w_BOOLEAN w_INTEGER w_DECIMAL w_DOUBLE))]))
    by_cases hc89_94 : (own_r1 w_BOOLEAN w_INTEGER w_DECIMAL w_DOUBLE) = (0 : Int32)
    · skip
      refine own_step (fun t k => XS.icmpNo X91.here hx rfl (hb hby at_89) rfl (teq hc89_94).2 k) ?_
      show own_Ends p.tables e below s _ _ _ (T91.setTop (mkF m 92 #[.val (.int x0_0), .val (.int (6 : Int32)), .val (.ref b1), .val (.ref w_BOOLEAN), .val (.int (0 : Int32))] []))
      refine own_step (fun t k => XS.iconst X91.here hx rfl (hb hby at_92) k) ?_
      show own_Ends p.tables e below s _ _ _ (T91.setTop (mkF m 93 #[.val (.int x0_0), .val (.int (6 : Int32)), .val (.ref b1), .val (.ref w_BOOLEAN), .val (.int (0 : Int32))] [(.int (1 : Int32))]))
      refine own_step (fun t k => XS.goto X91.here hx rfl (pc0 := 93) (pc' := 97) rfl (hb hby at_93) (by decide) (by decide) k) ?_
      show own_Ends p.tables e below s _ _ _ (T91.setTop (mkF m 97 #[.val (.int x0_0), .val (.int (6 : Int32)), .val (.ref b1), .val (.ref w_BOOLEAN), .val (.int (0 : Int32))] [(.int (1 : Int32))]))
      exact own_retN X91 hx (t := .boolean) Bd.returns (by simp) (hb hby at_97) hnl (by rw [e91]; exact ⟨rfl, N93⟩) (by decide) (by decide)
    · skip
      refine own_step (fun t k => XS.icmpYes X91.here hx rfl (pc0 := 89) (pc' := 96) rfl (hb hby at_89) rfl (feq hc89_94).2 (by decide) (by decide) k) ?_
      show own_Ends p.tables e below s _ _ _ (T91.setTop (mkF m 96 #[.val (.int x0_0), .val (.int (6 : Int32)), .val (.ref b1), .val (.ref w_BOOLEAN), .val (.int (0 : Int32))] []))
      refine own_step (fun t k => XS.iconst X91.here hx rfl (hb hby at_96) k) ?_
      show own_Ends p.tables e below s _ _ _ (T91.setTop (mkF m 97 #[.val (.int x0_0), .val (.int (6 : Int32)), .val (.ref b1), .val (.ref w_BOOLEAN), .val (.int (0 : Int32))] [(.int (0 : Int32))]))
      exfalso
      apply hc89_94
      simp [own_r1, ne_w_UNTYPED_w_INTEGER, ne_w_UNTYPED_w_DECIMAL, ne_w_UNTYPED_w_DOUBLE, ne_w_STRING_w_INTEGER, ne_w_STRING_w_DECIMAL, ne_w_STRING_w_DOUBLE, ne_w_INTEGER_w_DECIMAL, ne_w_INTEGER_w_DOUBLE, ne_w_DECIMAL_w_DOUBLE, ne_w_DATE_w_INTEGER, ne_w_DATE_w_DECIMAL, ne_w_DATE_w_DOUBLE, ne_w_BOOLEAN_w_INTEGER, ne_w_BOOLEAN_w_DECIMAL, ne_w_BOOLEAN_w_DOUBLE, Ne.symm ne_w_INTEGER_w_DECIMAL, Ne.symm ne_w_INTEGER_w_DOUBLE, Ne.symm ne_w_DECIMAL_w_DOUBLE]
set_option maxRecDepth 65536 in
set_option maxHeartbeats 40000000 in
theorem comes_1 {Post : Tables → Env → Array Value → State → Outcome → State → Prop} (hpost : ∀ tb e args s v u, (limb_1_1.after args s (.returned v) u = true ∧ limb_1_2.after args s (.returned v) u = true ∧ True) → FrameEnd s (.returned v) u (Jvm.fieldLocs frame_1_writes args s ++ Jvm.arrayLocs frame_1_arrays args s ++ Jvm.staticLocs frame_1_statics s) 16 128 → Post tb e args s (.returned v) u) :
    ArmFor flags0 classFile x code maxLocals ret World_1 tables_1 room_1 Calls_1 rest_1 Pre_1 Post := by
  intro l hfl _ _ p e ha hc hk s m args below hf hA hF happ hP
  obtain ⟨hcalls, hrest, hpre⟩ := hP
  obtain ⟨-, -, -, hnamed, -, -, -, hat⟩ := (Spec.applies_iff hf).mp happ
  obtain ⟨hg, hn⟩ := and_e (Cond.before_iff.mp (show (Jvm.Cond.and given_1 narrow_1).before args s = true from hpre))
  obtain ⟨hh1a, hh1b⟩ := and_e hg
  obtain ⟨hh2a, hh2b⟩ := and_e hn
  obtain ⟨hh3a, hh3b⟩ := and_e hh2b
  obtain ⟨hh4a, hh4b⟩ := and_e hh3b
  obtain ⟨hh5a, hh5b⟩ := and_e hh4b
  obtain ⟨hh6a, hh6b⟩ := and_e hh5b
  obtain ⟨hh7a, hh7b⟩ := and_e hh6b
  obtain ⟨hh8a, hh8b⟩ := and_e hh7b
  obtain ⟨hh9a, hh9b⟩ := and_e hh8b
  obtain ⟨hh10a, hh10b⟩ := and_e hh9b
  obtain ⟨hh11a, hh11b⟩ := and_e hh10b
  obtain ⟨hh12a, hh12b⟩ := and_e hh11b
  obtain ⟨hh13a, hh13b⟩ := and_e hh12b
  obtain ⟨hh14a, hh14b⟩ := and_e hh13b
  obtain ⟨w0, rfl⟩ : ∃ w0 : Value, args = #[w0] := by
    have hs : args.size = 1 := by simpa [Cond.value, given_1] using hh1a
    obtain ⟨L⟩ := args
    match L, hs with
    | [w0], _ => exact ⟨w0, rfl⟩
  have hw := fun d (hd : d ∈ tables_1) => atoms_spec (ws := Jvm.Cond.code x code maxLocals ret :: tables_1) hat d (List.mem_cons_of_mem _ hd)
  have hfit : Fit s := fun {y c} hc i hi => by
    obtain ⟨ha, rfl⟩ := Array.getElem?_eq_some_iff.mp hc
    have q := List.all_eq_true.mp ((Array.all_eq_true_iff_forall_mem.mp hF) _ (Array.getElem_mem ha)) i (List.mem_range.mpr hi)
    simpa [Array.getElem?_eq_getElem hi] using q
  obtain ⟨i0, ei0⟩ := is_v hh1b
  obtain rfl : w0 = (.int i0) := Option.some.inj ei0
  obtain ⟨w_UNTYPED, ev_UNTYPED⟩ := exa_v hh2a
  have S_UNTYPED : Sta s s.heap "com/example/flwor/flwor/compiler/AtomicType" "UNTYPED" "Lcom/example/flwor/flwor/compiler/AtomicType;" (.ref w_UNTYPED) := Sta.start ev_UNTYPED (Or.inr ⟨(hw _ (List.mem_of_getElem? (i := 4) rfl)), (hw _ (List.mem_of_getElem? (i := 5) rfl))⟩)
  have E_w_UNTYPED : Exa s s.heap w_UNTYPED "com/example/flwor/flwor/compiler/AtomicType" := Exa.start ev_UNTYPED hh2a
  obtain ⟨w_STRING, ev_STRING⟩ := exa_v hh3a
  have S_STRING : Sta s s.heap "com/example/flwor/flwor/compiler/AtomicType" "STRING" "Lcom/example/flwor/flwor/compiler/AtomicType;" (.ref w_STRING) := Sta.start ev_STRING (Or.inr ⟨(hw _ (List.mem_of_getElem? (i := 4) rfl)), (hw _ (List.mem_of_getElem? (i := 8) rfl))⟩)
  have E_w_STRING : Exa s s.heap w_STRING "com/example/flwor/flwor/compiler/AtomicType" := Exa.start ev_STRING hh3a
  obtain ⟨w_INTEGER, ev_INTEGER⟩ := exa_v hh4a
  have S_INTEGER : Sta s s.heap "com/example/flwor/flwor/compiler/AtomicType" "INTEGER" "Lcom/example/flwor/flwor/compiler/AtomicType;" (.ref w_INTEGER) := Sta.start ev_INTEGER (Or.inr ⟨(hw _ (List.mem_of_getElem? (i := 4) rfl)), (hw _ (List.mem_of_getElem? (i := 10) rfl))⟩)
  have E_w_INTEGER : Exa s s.heap w_INTEGER "com/example/flwor/flwor/compiler/AtomicType" := Exa.start ev_INTEGER hh4a
  obtain ⟨w_DECIMAL, ev_DECIMAL⟩ := exa_v hh5a
  have S_DECIMAL : Sta s s.heap "com/example/flwor/flwor/compiler/AtomicType" "DECIMAL" "Lcom/example/flwor/flwor/compiler/AtomicType;" (.ref w_DECIMAL) := Sta.start ev_DECIMAL (Or.inr ⟨(hw _ (List.mem_of_getElem? (i := 4) rfl)), (hw _ (List.mem_of_getElem? (i := 12) rfl))⟩)
  have E_w_DECIMAL : Exa s s.heap w_DECIMAL "com/example/flwor/flwor/compiler/AtomicType" := Exa.start ev_DECIMAL hh5a
  obtain ⟨w_DOUBLE, ev_DOUBLE⟩ := exa_v hh6a
  have S_DOUBLE : Sta s s.heap "com/example/flwor/flwor/compiler/AtomicType" "DOUBLE" "Lcom/example/flwor/flwor/compiler/AtomicType;" (.ref w_DOUBLE) := Sta.start ev_DOUBLE (Or.inr ⟨(hw _ (List.mem_of_getElem? (i := 4) rfl)), (hw _ (List.mem_of_getElem? (i := 14) rfl))⟩)
  have E_w_DOUBLE : Exa s s.heap w_DOUBLE "com/example/flwor/flwor/compiler/AtomicType" := Exa.start ev_DOUBLE hh6a
  obtain ⟨w_DATE, ev_DATE⟩ := exa_v hh7a
  have S_DATE : Sta s s.heap "com/example/flwor/flwor/compiler/AtomicType" "DATE" "Lcom/example/flwor/flwor/compiler/AtomicType;" (.ref w_DATE) := Sta.start ev_DATE (Or.inr ⟨(hw _ (List.mem_of_getElem? (i := 4) rfl)), (hw _ (List.mem_of_getElem? (i := 16) rfl))⟩)
  have E_w_DATE : Exa s s.heap w_DATE "com/example/flwor/flwor/compiler/AtomicType" := Exa.start ev_DATE hh7a
  obtain ⟨w_BOOLEAN, ev_BOOLEAN⟩ := exa_v hh8a
  have S_BOOLEAN : Sta s s.heap "com/example/flwor/flwor/compiler/AtomicType" "BOOLEAN" "Lcom/example/flwor/flwor/compiler/AtomicType;" (.ref w_BOOLEAN) := Sta.start ev_BOOLEAN (Or.inr ⟨(hw _ (List.mem_of_getElem? (i := 4) rfl)), (hw _ (List.mem_of_getElem? (i := 18) rfl))⟩)
  have E_w_BOOLEAN : Exa s s.heap w_BOOLEAN "com/example/flwor/flwor/compiler/AtomicType" := Exa.start ev_BOOLEAN hh8a
  have F_ordinal_w_UNTYPED : Fld s s.heap w_UNTYPED "java/lang/Enum" "ordinal" "I" (.int (0 : Int32)) := own_fld ev_UNTYPED hh9a
  have F_ordinal_w_INTEGER : Fld s s.heap w_INTEGER "java/lang/Enum" "ordinal" "I" (.int (2 : Int32)) := own_fld ev_INTEGER hh10a
  have F_ordinal_w_DECIMAL : Fld s s.heap w_DECIMAL "java/lang/Enum" "ordinal" "I" (.int (3 : Int32)) := own_fld ev_DECIMAL hh11a
  have F_ordinal_w_DOUBLE : Fld s s.heap w_DOUBLE "java/lang/Enum" "ordinal" "I" (.int (4 : Int32)) := own_fld ev_DOUBLE hh12a
  have F_ordinal_w_DATE : Fld s s.heap w_DATE "java/lang/Enum" "ordinal" "I" (.int (5 : Int32)) := own_fld ev_DATE hh13a
  have F_ordinal_w_BOOLEAN : Fld s s.heap w_BOOLEAN "java/lang/Enum" "ordinal" "I" (.int (6 : Int32)) := own_fld ev_BOOLEAN hh14a
  have F_ordinal_w_STRING : Fld s s.heap w_STRING "java/lang/Enum" "ordinal" "I" (.int (1 : Int32)) := own_fld ev_STRING hh14b
  obtain ⟨n, o, h1, h2, h3, _, L, rfl, ⟨rfl, N⟩, hq⟩ := rm0 l s _ hw tables_1 w_UNTYPED w_STRING w_INTEGER w_DECIMAL w_DOUBLE w_DATE w_BOOLEAN i0 s.heap s.heap.size (Old.start s) (Fld.ne F_ordinal_w_UNTYPED F_ordinal_w_INTEGER (by decide)) (Fld.ne F_ordinal_w_UNTYPED F_ordinal_w_DECIMAL (by decide)) (Fld.ne F_ordinal_w_UNTYPED F_ordinal_w_DOUBLE (by decide)) (Fld.ne F_ordinal_w_STRING F_ordinal_w_INTEGER (by decide)) (Fld.ne F_ordinal_w_STRING F_ordinal_w_DECIMAL (by decide)) (Fld.ne F_ordinal_w_STRING F_ordinal_w_DOUBLE (by decide)) (Fld.ne F_ordinal_w_INTEGER F_ordinal_w_DECIMAL (by decide)) (Fld.ne F_ordinal_w_INTEGER F_ordinal_w_DOUBLE (by decide)) (Fld.ne F_ordinal_w_DECIMAL F_ordinal_w_DOUBLE (by decide)) (Fld.ne F_ordinal_w_DATE F_ordinal_w_INTEGER (by decide)) (Fld.ne F_ordinal_w_DATE F_ordinal_w_DECIMAL (by decide)) (Fld.ne F_ordinal_w_DATE F_ordinal_w_DOUBLE (by decide)) (Fld.ne F_ordinal_w_BOOLEAN F_ordinal_w_INTEGER (by decide)) (Fld.ne F_ordinal_w_BOOLEAN F_ordinal_w_DECIMAL (by decide)) (Fld.ne F_ordinal_w_BOOLEAN F_ordinal_w_DOUBLE (by decide)) S_UNTYPED E_w_UNTYPED S_STRING E_w_STRING S_INTEGER E_w_INTEGER S_DECIMAL E_w_DECIMAL S_DOUBLE E_w_DOUBLE S_DATE E_w_DATE S_BOOLEAN E_w_BOOLEAN p e ha hc hk s m _ below hf ((Spec.applies_iff_loose hf).mp happ).1 ⟨rfl, State.Warmed39.refl s, rfl⟩ trivial
  refine ⟨n, _, h1, h2, h3, hpost _ _ _ _ _ _ ⟨Cond.after_iff.mpr rfl, Cond.after_iff.mpr (eq_i res_at (Term.int_eval (1)) rfl), trivial⟩ ⟨hq.1, hq.2.1, (hq.2.2.sift fun y hy => Or.inr (N y hy)).mono (by decide) (by decide)⟩⟩
theorem main_1_1 : Claimed_1_1 := comes_1 fun _ _ _ _ _ _ h hF => ⟨h.1, hF⟩
theorem main_1_2 : Claimed_1_2 := comes_1 fun _ _ _ _ _ _ h hF => ⟨h.2.1, hF⟩
end Jvm.Pilot.@@N@@
namespace Jvm.Pilot.@@N@@
open Jvm Jvm.ClassFile Sem Op Lib Jvm.Free Jvm.Stand Jvm.Pilot.@@N@@.Jvm.D
/-! MADE BY PROGRAM (witnessworld.py) out of the Statement's table words and the real class files: 13 classes; the members and pool entries that the words name. The judged class is class 1, her method 1. -/
namespace start1
open Jvm.ClassFile
def u (s : String) : CpInfo := .utf8 (stringToUtf16 s)
/-- a pool by its gaps: so many unusable entries, then the entry; so many at the end -/
def gap : Nat → List CpInfo → List CpInfo
  | 0, r => r
  | n + 1, r => .unusable :: gap n r
def poolList (es : List (Nat × CpInfo)) (last : Nat) : List CpInfo := es.foldr (fun e r => gap e.1 (e.2 :: r)) (gap last [])
def pool (es : List (Nat × CpInfo)) (last : Nat) : Array CpInfo := ⟨poolList es last⟩
def fileOf (pool : Array CpInfo) (this : Nat) (attrs : Array Attribute := #[]) (ms : Array MethodInfo := #[]) (fl : Nat := 33) (sup : Nat := 0) (ifs : Array Nat := #[]) (fds : Array FieldInfo := #[]) : ClassFile where
  minorVersion := 0
  majorVersion := 65
  constantPool := pool
  accessFlags := fl
  thisClass := this
  superClass := sup
  interfaces := ifs
  fields := fds
  methods := ms
  attributes := attrs
def plain (name : String) (sup : Option ClassId) : Class where
  name := name
  kind := .ordinary
  loader := none
  accessFlags := 33
  super := sup
  interfaces := #[]
  cf := none
  fields := #[]
  methods := #[]
  instanceTypes := #[]
  staticTypes := #[]
  resolved := #[]
  callSites := []
  init := .initialized
  statics := none
  mirror := none

def pool0 : Array CpInfo := pool [(5, u "<init>"), (0, u "()V"), (1, .class_ 10), (1, u "java/lang/Object")] 113

def k0m0 : Method := { name := "<init>", desc := "()V", sig := { parameters := [], returnType := none }, accessFlags := 1, code := none }
/-- java/lang/Object -/
def k0 : Class := { plain "java/lang/Object" none with
  accessFlags := 33
  interfaces := #[]
  cf := some (fileOf pool0 8 #[] #[{ accessFlags := 1, nameIndex := 5, descriptorIndex := 6, attributes := #[] }] 33 0 #[] #[])
  fields := #[]
  methods := #[k0m0]
  instanceTypes := #[]
  staticTypes := #[]
  resolved := Array.replicate 124 none
  statics := none }

def pool1 : Array CpInfo := pool [(2, .class_ 4), (1, u "java/lang/Object"), (0, u "<init>"), (0, u "()V"), (0, .integer 2147483647), (0, .class_ 9), (0, u "com/example/flwor/flwor/compiler/AtomicType"), (0, .fieldref 8 11), (0, .nameAndType 12 13), (0, u "UNTYPED"), (0, u "Lcom/example/flwor/flwor/compiler/AtomicType;"), (0, .fieldref 8 15), (0, .nameAndType 16 13), (0, u "STRING"), (0, .fieldref 8 18), (0, .nameAndType 19 13), (0, u "INTEGER"), (0, .fieldref 8 21), (0, .nameAndType 22 13), (0, u "DECIMAL"), (0, .fieldref 8 24), (0, .nameAndType 25 13), (0, u "DOUBLE"), (0, .fieldref 8 27), (0, .nameAndType 28 13), (0, u "DATE"), (0, .fieldref 8 30), (0, .nameAndType 31 13), (0, u "BOOLEAN"), (0, .methodref 8 33), (0, .nameAndType 34 35), (0, u "numeric"), (0, u "()Z"), (0, .class_ 37), (0, u "com/example/flwor/flwor/compiler/AtomicTypeNumericPinLaw"), (2, u "law"), (0, u "(I)Z")] 5

def k1m0 : Method := { name := "<init>", desc := "()V", sig := { parameters := [], returnType := none }, accessFlags := 1, code := none }
def k1c1 : Code := { maxStack := 4, maxLocals := 5, code := code, exceptionTable := #[], attributes := #[] }
def k1m1 : Method := { name := "law", desc := "(I)Z", sig := { parameters := [.int], returnType := some .boolean }, accessFlags := 9, code := some k1c1 }
/-- com/example/flwor/flwor/compiler/AtomicTypeNumericPinLaw -/
def k1 : Class := { plain "com/example/flwor/flwor/compiler/AtomicTypeNumericPinLaw" (some 0) with
  accessFlags := 49
  interfaces := #[]
  cf := some (fileOf pool1 36 #[] #[{ accessFlags := 1, nameIndex := 5, descriptorIndex := 6, attributes := #[] }, { accessFlags := 9, nameIndex := 40, descriptorIndex := 41, attributes := #[] }] 49 2 #[] #[])
  fields := #[]
  methods := #[k1m0, k1m1]
  instanceTypes := #[]
  staticTypes := #[]
  resolved := Array.replicate 47 none
  statics := none }

def pool2 : Array CpInfo := pool [(1, .class_ 2), (0, u "java/lang/constant/Constable"), (0, .class_ 4), (0, u "java/lang/Object")] 6

/-- java/lang/constant/Constable -/
def k2 : Class := { plain "java/lang/constant/Constable" (some 0) with
  accessFlags := 1537
  interfaces := #[]
  cf := some (fileOf pool2 1 #[] #[] 1537 3 #[] #[])
  fields := #[]
  methods := #[]
  instanceTypes := #[]
  staticTypes := #[]
  resolved := Array.replicate 11 none
  statics := none }

def pool3 : Array CpInfo := pool [(1, .class_ 2), (0, u "java/lang/Comparable"), (0, .class_ 4), (0, u "java/lang/Object")] 7

/-- java/lang/Comparable -/
def k3 : Class := { plain "java/lang/Comparable" (some 0) with
  accessFlags := 1537
  interfaces := #[]
  cf := some (fileOf pool3 1 #[] #[] 1537 3 #[] #[])
  fields := #[]
  methods := #[]
  instanceTypes := #[]
  staticTypes := #[]
  resolved := Array.replicate 12 none
  statics := none }

def pool4 : Array CpInfo := pool [(1, .class_ 2), (0, u "java/io/Serializable"), (0, .class_ 4), (0, u "java/lang/Object")] 2

/-- java/io/Serializable -/
def k4 : Class := { plain "java/io/Serializable" (some 0) with
  accessFlags := 1537
  interfaces := #[]
  cf := some (fileOf pool4 1 #[] #[] 1537 3 #[] #[])
  fields := #[]
  methods := #[]
  instanceTypes := #[]
  staticTypes := #[]
  resolved := Array.replicate 7 none
  statics := none }

def pool5 : Array CpInfo := pool [(2, .class_ 4), (1, u "java/lang/Enum"), (0, u "name"), (0, u "Ljava/lang/String;"), (2, u "ordinal"), (0, u "I"), (1, .class_ 14), (1, u "java/lang/Object"), (4, u "hash"), (86, .class_ 108), (1, u "java/lang/Enum$EnumDesc"), (2, .class_ 112), (0, u "java/lang/constant/Constable"), (0, .class_ 114), (0, u "java/lang/Comparable"), (0, .class_ 116), (0, u "java/io/Serializable")] 87

/-- java/lang/Enum -/
def k5 : Class := { plain "java/lang/Enum" (some 0) with
  accessFlags := 1057
  interfaces := #[2, 3, 4]
  cf := some (fileOf pool5 2 #[.nestMembers #[106]] #[] 1057 12 #[111, 113, 115] #[{ accessFlags := 18, nameIndex := 5, descriptorIndex := 6, attributes := #[] }, { accessFlags := 18, nameIndex := 9, descriptorIndex := 10, attributes := #[] }, { accessFlags := 2, nameIndex := 19, descriptorIndex := 10, attributes := #[] }])
  fields := #[{ name := "name", type := (.object "java/lang/String"), accessFlags := 18, slot := 0, constantValue := 0 }, { name := "ordinal", type := .int, accessFlags := 18, slot := 1, constantValue := 0 }, { name := "hash", type := .int, accessFlags := 2, slot := 2, constantValue := 0 }]
  methods := #[]
  instanceTypes := #[(.object "java/lang/String"), .int, .int]
  staticTypes := #[]
  resolved := Array.replicate 204 none
  statics := none }

def pool6 : Array CpInfo := pool [(1, .class_ 2), (0, u "com/example/flwor/flwor/compiler/AtomicType"), (2, u "UNTYPED"), (0, u "Lcom/example/flwor/flwor/compiler/AtomicType;"), (2, u "STRING"), (0, .fieldref 1 11), (0, .nameAndType 12 6), (0, u "INTEGER"), (0, .fieldref 1 14), (0, .nameAndType 15 6), (0, u "DECIMAL"), (0, .fieldref 1 17), (0, .nameAndType 18 6), (0, u "DOUBLE"), (2, u "DATE"), (2, u "BOOLEAN"), (2, u "$VALUES"), (0, u "[Lcom/example/flwor/flwor/compiler/AtomicType;"), (6, .class_ 37), (1, u "java/lang/Enum"), (8, u "typeName"), (0, u "Ljava/lang/String;"), (2, u "numeric"), (0, u "()Z")] 46

def k6c0 : Code := { maxStack := 2, maxLocals := 1, code := prog_1_method_6_code, exceptionTable := #[], attributes := #[] }
def k6m0 : Method := { name := "numeric", desc := "()Z", sig := { parameters := [], returnType := some .boolean }, accessFlags := 0, code := some k6c0 }
/-- com/example/flwor/flwor/compiler/AtomicType -/
def k6 : Class := { plain "com/example/flwor/flwor/compiler/AtomicType" (some 5) with
  accessFlags := 16432
  interfaces := #[]
  cf := some (fileOf pool6 1 #[] #[{ accessFlags := 0, nameIndex := 50, descriptorIndex := 51, attributes := #[] }] 16432 35 #[] #[{ accessFlags := 16409, nameIndex := 5, descriptorIndex := 6, attributes := #[] }, { accessFlags := 16409, nameIndex := 9, descriptorIndex := 6, attributes := #[] }, { accessFlags := 16409, nameIndex := 12, descriptorIndex := 6, attributes := #[] }, { accessFlags := 16409, nameIndex := 15, descriptorIndex := 6, attributes := #[] }, { accessFlags := 16409, nameIndex := 18, descriptorIndex := 6, attributes := #[] }, { accessFlags := 16409, nameIndex := 21, descriptorIndex := 6, attributes := #[] }, { accessFlags := 16409, nameIndex := 24, descriptorIndex := 6, attributes := #[] }, { accessFlags := 18, nameIndex := 46, descriptorIndex := 47, attributes := #[] }, { accessFlags := 4122, nameIndex := 27, descriptorIndex := 28, attributes := #[] }])
  fields := #[{ name := "UNTYPED", type := (.object "com/example/flwor/flwor/compiler/AtomicType"), accessFlags := 16409, slot := 0, constantValue := 0 }, { name := "STRING", type := (.object "com/example/flwor/flwor/compiler/AtomicType"), accessFlags := 16409, slot := 1, constantValue := 0 }, { name := "INTEGER", type := (.object "com/example/flwor/flwor/compiler/AtomicType"), accessFlags := 16409, slot := 2, constantValue := 0 }, { name := "DECIMAL", type := (.object "com/example/flwor/flwor/compiler/AtomicType"), accessFlags := 16409, slot := 3, constantValue := 0 }, { name := "DOUBLE", type := (.object "com/example/flwor/flwor/compiler/AtomicType"), accessFlags := 16409, slot := 4, constantValue := 0 }, { name := "DATE", type := (.object "com/example/flwor/flwor/compiler/AtomicType"), accessFlags := 16409, slot := 5, constantValue := 0 }, { name := "BOOLEAN", type := (.object "com/example/flwor/flwor/compiler/AtomicType"), accessFlags := 16409, slot := 6, constantValue := 0 }, { name := "typeName", type := (.object "java/lang/String"), accessFlags := 18, slot := 3, constantValue := 0 }, { name := "$VALUES", type := (.array (.object "com/example/flwor/flwor/compiler/AtomicType")), accessFlags := 4122, slot := 7, constantValue := 0 }]
  methods := #[k6m0]
  instanceTypes := #[(.object "java/lang/String"), .int, .int, (.object "java/lang/String")]
  staticTypes := #[(.object "com/example/flwor/flwor/compiler/AtomicType"), (.object "com/example/flwor/flwor/compiler/AtomicType"), (.object "com/example/flwor/flwor/compiler/AtomicType"), (.object "com/example/flwor/flwor/compiler/AtomicType"), (.object "com/example/flwor/flwor/compiler/AtomicType"), (.object "com/example/flwor/flwor/compiler/AtomicType"), (.object "com/example/flwor/flwor/compiler/AtomicType"), (.array (.object "com/example/flwor/flwor/compiler/AtomicType"))]
  resolved := Array.replicate 98 none
  statics := some 0 }

def pool7 : Array CpInfo := pool [(1, u "java/lang/Cloneable"), (0, .class_ 1), (0, u "java/lang/Object"), (0, .class_ 3)] 3

/-- java/lang/Cloneable -/
def k7 : Class := { plain "java/lang/Cloneable" (some 0) with
  accessFlags := 1537
  interfaces := #[]
  cf := some (fileOf pool7 2 #[] #[] 1537 4 #[] #[])
  fields := #[]
  methods := #[]
  instanceTypes := #[]
  staticTypes := #[]
  resolved := Array.replicate 8 none
  statics := none }

/-- the primitive byte -/
def k8 : Class := { plain "byte" none with kind := .primitive 'B', accessFlags := 0x411 }
/-- [B -/
def k9 : Class := { plain "[B" (some 0) with kind := .array 8 .byte, interfaces := #[7, 4], accessFlags := 1041 }

/-- the primitive int -/
def k10 : Class := { plain "int" none with kind := .primitive 'I', accessFlags := 0x411 }
/-- [I -/
def k11 : Class := { plain "[I" (some 0) with kind := .array 10 .int, interfaces := #[7, 4], accessFlags := 1041 }

/-- [Lcom/example/flwor/flwor/compiler/AtomicType; -/
def k12 : Class := { plain "[Lcom/example/flwor/flwor/compiler/AtomicType;" (some 0) with kind := .array 6 (.object "com/example/flwor/flwor/compiler/AtomicType"), interfaces := #[7, 4], accessFlags := 1041 }

def heap : Heap := #[{ cls := 6, slots := #[.ref 1, .ref 2, .ref 3, .ref 4, .ref 5, .ref 6, .ref 7, .null], vm := .statics 6 },
  { cls := 6, slots := #[.null, .int 0, .int 0, .null], vm := .none },
  { cls := 6, slots := #[.null, .int 1, .int 0, .null], vm := .none },
  { cls := 6, slots := #[.null, .int 2, .int 0, .null], vm := .none },
  { cls := 6, slots := #[.null, .int 3, .int 0, .null], vm := .none },
  { cls := 6, slots := #[.null, .int 4, .int 0, .null], vm := .none },
  { cls := 6, slots := #[.null, .int 5, .int 0, .null], vm := .none },
  { cls := 6, slots := #[.null, .int 6, .int 0, .null], vm := .none }]
def classes : Array Class := #[k0, k1, k2, k3, k4, k5, k6, k7, k8, k9, k10, k11, k12]
def interned : List (Array UInt16 × Addr) := []
def slotsUsed : Nat := 36
def theMethod : MethodId := ⟨1, 1⟩
def args0 : Array Value := #[.int 5]
def aboutOver (below : List Frame) : State where
  vm := { classes := classes, interned := interned.toArray }
  heap := heap
  slotsUsed := slotsUsed
  threads := #[{ frames := .invoking theMethod args0 :: below }]
def below0 : List Frame := [.native { method := ⟨0, 0⟩, args := #[] }]
def about1 : State := aboutOver below0
def p0 : Program := .bare "" "" ""
def e0 : Env := launch0.env 0 0 0
theorem w_frames : about1.frames = Frame.invoking theMethod args0 :: below0 := rfl
set_option maxRecDepth 65536 in
theorem w_args : argsFit about1.vm theMethod args0 = true := by decide +kernel
set_option maxRecDepth 65536 in
theorem w_heap : heapFits about1 = true := by decide +kernel
set_option maxRecDepth 65536 in
theorem w_runnable : about1.curStatus? = some .runnable := by decide +kernel
set_option maxRecDepth 65536 in
theorem w_alone : about1.alone = true := by decide +kernel
set_option maxRecDepth 65536 in
theorem w_named : about1.methodNamed? x = some theMethod := by decide +kernel
set_option maxRecDepth 65536 in
theorem w_hears : about1.hears theMethod below0 = true := by decide +kernel
set_option maxRecDepth 65536 in
theorem w_ripe : about1.ripe theMethod args0 below0 = true := by decide +kernel
theorem w_running : about1.status = .running := rfl
set_option maxRecDepth 65536 in
theorem w_room : about1.hasRoom e0.platform room_1 = true :=
  launch0.hasRoom_least _ room_1 (by decide +kernel) (by decide +kernel) (by decide +kernel) (by decide +kernel) (by decide +kernel) (by decide +kernel)
theorem allAtoms_all (ts : List Jvm.Cond) (a : Array Jvm.Value) (st : Jvm.State) : (allAtoms ts).before a st = ts.all (fun c => c.before a st) := by
  induction ts with
  | nil => rfl
  | cons c t ih =>
    show (Jvm.Cond.and c (allAtoms t)).before a st = _
    rw [Jvm.Cond.before_and, ih, List.all_cons]
def words1 : List Jvm.Cond := Jvm.Cond.code x code maxLocals ret :: tables_1
/-- a 'code' word, met by the world's own term for the bytes: nothing is compared byte by byte -/
theorem code_word {y : MethodName} {bytes : ByteArray} {mx : Nat} {rt : Option FieldType} {a : Array Value} {s : State} {m : MethodId} {meth : Method} {c : Code} (h1 : s.methodNamed? y = some m) (h2 : s.vm.method? m = some meth) (h3 : meth.code = some c) (h4 : c.code = bytes)
    (h5 : (c.maxLocals == mx && c.exceptionTable.isEmpty && decide (c.maxStack ≤ mostOperands) && decide (meth.sig.returnType = rt) && !meth.locks && decide (parseMethodDescriptor y.desc = some meth.sig)) = true) : (Jvm.Cond.code y bytes mx rt).before a s = true := by
  simp only [Bool.and_eq_true, beq_iff_eq, Bool.not_eq_true', decide_eq_true_eq] at h5
  obtain ⟨⟨⟨⟨⟨g1, g2⟩, g3⟩, g4⟩, g5⟩, g6⟩ := h5
  simp [Cond.before, Cond.holds, Cond.value, h1, h2, h3, h4, g1, g2, g3, g4, g5, g6]
def isCode : Jvm.Cond → Bool
  | .code _ _ _ _ => true
  | _ => false
theorem all_split {L : List Jvm.Cond} {P : Jvm.Cond → Bool} (h1 : L.all (fun c => isCode c || P c) = true) (h2 : ∀ c ∈ L.filter isCode, P c = true) : L.all P = true := by
  refine List.all_eq_true.mpr fun c hc => ?_
  have h := List.all_eq_true.mp h1 c hc
  rcases Bool.eq_false_or_eq_true (isCode c) with hi | hi
  · exact h2 c (List.mem_filter.mpr ⟨hc, hi⟩)
  · simpa [hi] using h
set_option maxRecDepth 65536 in
theorem w_c0 : (Jvm.Cond.code x code maxLocals ret).before args0 about1 = true := code_word (m := ⟨1, 1⟩) (meth := k1m1) (c := k1c1) (by decide +kernel) rfl rfl rfl (by decide +kernel)
set_option maxRecDepth 65536 in
theorem w_c1 : (Jvm.Cond.code ({ cls := "com/example/flwor/flwor/compiler/AtomicType", name := "numeric", desc := "()Z" } : Jvm.MethodName) prog_1_method_6_code (1 : Nat) (Option.some Jvm.ClassFile.FieldType.boolean)).before args0 about1 = true := code_word (m := ⟨6, 0⟩) (meth := k6m0) (c := k6c0) (by decide +kernel) rfl rfl rfl (by decide +kernel)
def codes1 : List Jvm.Cond := [Jvm.Cond.code x code maxLocals ret, Jvm.Cond.code ({ cls := "com/example/flwor/flwor/compiler/AtomicType", name := "numeric", desc := "()Z" } : Jvm.MethodName) prog_1_method_6_code (1 : Nat) (Option.some Jvm.ClassFile.FieldType.boolean)]
set_option maxRecDepth 65536 in
theorem codes_eq : words1.filter isCode = codes1 := rfl
theorem w_codes : ∀ c ∈ words1.filter isCode, c.before args0 about1 = true := by
  rw [codes_eq]
  intro c hc
  simp only [codes1, List.mem_cons, List.not_mem_nil, or_false] at hc
  rcases hc with rfl | rfl
  · exact w_c0
  · exact w_c1
set_option maxRecDepth 65536 in
theorem w_t1 : (words1.take 24).all (fun c => isCode c || c.before args0 about1) = true := by decide +kernel
set_option maxRecDepth 65536 in
theorem w_t2 : (words1.drop 24).all (fun c => isCode c || c.before args0 about1) = true := by decide +kernel
theorem w_tables : (allAtoms (Jvm.Cond.code x code maxLocals ret :: tables_1)).before args0 about1 = true := by
  rw [allAtoms_all]
  show words1.all (fun c => c.before args0 about1) = true
  refine all_split ?_ w_codes
  rw [← List.take_append_drop 24 words1, List.all_append, w_t1, w_t2]
  rfl
set_option maxRecDepth 65536 in
theorem w_case : (Jvm.Cond.and given_1 narrow_1).before args0 about1 = true := by decide +kernel
theorem w_applies : (headSpec (Jvm.Cond.code x code maxLocals ret :: tables_1) room_1).applies x e0.platform about1 = true :=
  (Spec.applies_iff w_frames).mpr ⟨w_running, w_runnable, w_alone, w_named, w_hears, w_ripe, w_room, w_tables⟩
theorem atStart : AtStart classFile x code maxLocals ret World_1 tables_1 room_1 Calls_1 rest_1 Pre_1 launch0 p0 e0 about1 theMethod args0 below0 :=
  ⟨lists_1, trivial, launch0.admits_env _ _ _, launch0.least_env, fairChoices_fair.cas, fairChoices_fair.clock, w_frames, w_args, w_heap, w_applies, trivial, trivial, w_case⟩
end start1
theorem witness_1 : WitnessClaimed_1 := ⟨start1.p0, start1.e0, start1.about1, start1.theMethod, start1.args0, start1.below0, start1.atStart⟩
end Jvm.Pilot.@@N@@
