import JvmDerived
import JvmDerived.Pilot.@@N@@Statement
import JvmDerived.Pilot.@@N@@Code
set_option linter.unusedVariables false
set_option linter.unusedSimpArgs false
namespace Jvm.Pilot.@@N@@
open Jvm Jvm.ClassFile Sem Op Lib Jvm.Free Jvm.Stand Jvm.LawKit Jvm.RoadKit Bundle Jvm.Pilot.@@N@@.Jvm.D
/-- from the state st the run ends, of which Q says what it leaves -/
def own_Ends (tb : Tables) (e : Env) (below : List Frame) (s : State) (Q : Option Value → Heap → List Loc → Prop) (C S : Nat) (st : State) : Prop :=
  ∃ t o, Steps tb e below st t ∧ t.status = .running ∧ Ended t below o ∧ ∃ v L, o = .returned v ∧ Q v t.heap L ∧ FrameEnd s o t L C S
theorem own_step {tb : Tables} {e : Env} {below : List Frame} {s : State} {Q : Option Value → Heap → List Loc → Prop} {C S : Nat} {st st' : State}
    (h : ∀ t, Steps tb e below st' t → Steps tb e below st t) (k : own_Ends tb e below s Q C S st') : own_Ends tb e below s Q C S st := by
  obtain ⟨t, o, h1, h2⟩ := k
  exact ⟨t, o, h t h1, h2⟩
section OwnRet
variable {p : Program} {l : Launch} {e : Env} {R : Room} {s : State} {m : MethodId} {args : Array Value} {below : List Frame} {meth : Method} {c : Code} {T : State} {locs : List Loc} {cells slots : Nat} {Q : Option Value → Heap → List Loc → Prop} {C S : Nat} {pc : Nat} {Ls : Array Slot} {rest : List Value}
theorem own_retW (X : Stand p l e R s m args below meth c T locs cells slots) (hx : p.tables.exec = Jvm.exec) {w : Value} {t : FieldType} {i : Instr} (hret : meth.sig.returnType = some t) (hn : narrow t w = w)
    (hi : (i = .ireturn ∧ (t = .int ∨ t = .boolean ∨ t = .byte ∨ t = .char ∨ t = .short) ∧ ∃ z, w = .int z) ∨ (i = .lreturn ∧ t = .long ∧ ∃ z, w = .long z) ∨ (i = .dreturn ∧ t = .double ∧ ∃ z, w = .double z) ∨ (i = .freturn ∧ t = .float ∧ ∃ z, w = .float z) ∨ (i = .areturn ∧ t.isReference = true ∧ w.isRef = true))
    (hd : decode c.code pc = .ok (i, 1)) (hlocks : meth.locks = false) (hq : Q (some w) T.heap locs) (hc : cells ≤ C) (hs : slots ≤ S) :
    own_Ends p.tables e below s Q C S (T.setTop (mkF m pc Ls (w :: rest))) := by
  obtain ⟨fs, hr, hrun, hended, hW, hsame⟩ := X.leave (v := some w) (fun h => by rw [hret] at h; cases h) hlocks
  exact ⟨_, _, retOut X hx hret hn hi hd hr, hrun, hended, _, _, rfl, hq, ⟨_, rfl⟩, hW, hsame.mono hc hs⟩
theorem own_retI (X : Stand p l e R s m args below meth c T locs cells slots) (hx : p.tables.exec = Jvm.exec) {z : Int32} (hret : meth.sig.returnType = some .int)
    (hd : decode c.code pc = .ok (.ireturn, 1)) (hlocks : meth.locks = false) (hq : Q (some (.int z)) T.heap locs) (hc : cells ≤ C) (hs : slots ≤ S) :
    own_Ends p.tables e below s Q C S (T.setTop (mkF m pc Ls (.int z :: rest))) :=
  own_retW X hx hret rfl (Or.inl ⟨rfl, Or.inl rfl, z, rfl⟩) hd hlocks hq hc hs
theorem own_retJ (X : Stand p l e R s m args below meth c T locs cells slots) (hx : p.tables.exec = Jvm.exec) {z : Int64} (hret : meth.sig.returnType = some .long)
    (hd : decode c.code pc = .ok (.lreturn, 1)) (hlocks : meth.locks = false) (hq : Q (some (.long z)) T.heap locs) (hc : cells ≤ C) (hs : slots ≤ S) :
    own_Ends p.tables e below s Q C S (T.setTop (mkF m pc Ls (.long z :: rest))) :=
  own_retW X hx hret rfl (Or.inr (Or.inl ⟨rfl, rfl, z, rfl⟩)) hd hlocks hq hc hs
theorem own_retR (X : Stand p l e R s m args below meth c T locs cells slots) (hx : p.tables.exec = Jvm.exec) {w : Value} {t : FieldType} (hret : meth.sig.returnType = some t) (ht : t.isReference = true) (hw : w.isRef = true) (hn : narrow t w = w)
    (hd : decode c.code pc = .ok (.areturn, 1)) (hlocks : meth.locks = false) (hq : Q (some w) T.heap locs) (hc : cells ≤ C) (hs : slots ≤ S) :
    own_Ends p.tables e below s Q C S (T.setTop (mkF m pc Ls (w :: rest))) :=
  own_retW X hx hret hn (Or.inr (Or.inr (Or.inr (Or.inr ⟨rfl, ht, hw⟩)))) hd hlocks hq hc hs
theorem own_retN (X : Stand p l e R s m args below meth c T locs cells slots) (hx : p.tables.exec = Jvm.exec) {z : Int32} {t : FieldType} (hret : meth.sig.returnType = some t) (ht : t = .boolean ∨ t = .byte ∨ t = .char ∨ t = .short)
    (hd : decode c.code pc = .ok (.ireturn, 1)) (hlocks : meth.locks = false) (hq : Q (some (.int (nar t z))) T.heap locs) (hc : cells ≤ C) (hs : slots ≤ S) :
    own_Ends p.tables e below s Q C S (T.setTop (mkF m pc Ls (.int z :: rest))) := by
  obtain ⟨fs, hr, hrun, hended, hW, hsame⟩ := X.leave (v := some (.int (nar t z))) (fun h => by rw [hret] at h; cases h) hlocks
  exact ⟨_, _, retN X hx hret ht hd hr, hrun, hended, _, _, rfl, hq, ⟨_, rfl⟩, hW, hsame.mono hc hs⟩
theorem own_ret0 (X : Stand p l e R s m args below meth c T locs cells slots) (hx : p.tables.exec = Jvm.exec) (hret : meth.sig.returnType = none)
    (hd : decode c.code pc = .ok (.return_, 1)) (hlocks : meth.locks = false) (hq : Q none T.heap locs) (hc : cells ≤ C) (hs : slots ≤ S) :
    own_Ends p.tables e below s Q C S (T.setTop (mkF m pc Ls [])) := by
  obtain ⟨fs, hr, hrun, hended, hW, hsame⟩ := X.leave (v := none) (fun _ => rfl) hlocks
  exact ⟨_, _, X.returnOut hx hret hd hr, hrun, hended, _, _, rfl, hq, ⟨_, rfl⟩, hW, hsame.mono hc hs⟩
end OwnRet
theorem own_idx (b n : Int32) (hn : 0 < n.toInt) : ¬ ((b &&& 2147483647) % n) < 0 ∧ ((b &&& 2147483647) % n) < n := by
  have h1 := c_and b 2147483647 (by decide)
  have h2 := (c_iremV (b &&& 2147483647) n).1 h1.1 hn
  constructor
  · rw [Int32.lt_iff_toInt_lt]; show ¬ _ < (0 : Int); omega
  · rw [Int32.lt_iff_toInt_lt]; omega
theorem own_small (v : Int32) (k : Nat) (hk : k < 2147483648) (h1 : ¬ v < 0) (h2 : v < Int32.ofNat k) : ∃ n : Fin k, v = Int32.ofNat n.1 := by
  rw [Int32.lt_iff_toInt_lt] at h1 h2
  rw [Int32.toInt_ofNat_of_lt hk] at h2
  have a : 0 ≤ v.toInt := by simpa using h1
  refine ⟨⟨v.toInt.toNat, by omega⟩, ?_⟩
  apply Int32.toInt_inj.mp
  rw [Int32.toInt_ofNat_of_lt (by show v.toInt.toNat < _; omega)]
  show v.toInt = ((v.toInt.toNat : Nat) : Int)
  omega
theorem own_fld {s : State} {args : Array Value} {t : Term} {a : Addr} {C n d : String} {k : Int32} (ev : t.eval args s none [] s = some (.ref a)) (h : (Jvm.Cond.eq (.field t C n d) (.int k)).value args s none s [] = some true) : Fld s s.heap a C n d (.int k) := by
  obtain ⟨x, y, h1, h2, h3, h4⟩ := cmp_v (Or.inl h)
  rw [fld_at ev] at h1
  have h5 : y = .int k := by have := h2.symm.trans (Term.int_eval k); exact Option.some.inj this
  subst h5
  obtain ⟨z, rfl⟩ := h4
  have q : (Jvm.Cond.eq (.field t C n d) (.int k)).value args s none s [] = some (decide (z = k)) := Cond.eq_ints ((fld_at ev).trans h1) (Term.int_eval k)
  have : z = k := gotT q h
  subst this
  exact Fld.start h1
def own_r1 (o0_1 : Addr) (w_INTERFACE : Addr) (w_VALUE_TYPE : Addr) (w_STRUCT : Addr) (w_UNION : Addr) : Int32 := (if o0_1 = w_INTERFACE then (1 : Int32) else (if o0_1 = w_VALUE_TYPE then (1 : Int32) else (if o0_1 = w_STRUCT then (1 : Int32) else (if o0_1 = w_UNION then (1 : Int32) else (0 : Int32)))))
theorem d1_0 : decode prog_128_method_6_code 0 = .ok (.aload_n 0, 1) := by decide +kernel
theorem d1_1 : decode prog_128_method_6_code 1 = .ok (.getstatic 10, 3) := by decide +kernel
theorem d1_4 : decode prog_128_method_6_code 4 = .ok (.if_acmp .eq 24, 3) := by decide +kernel
theorem d1_7 : decode prog_128_method_6_code 7 = .ok (.aload_n 0, 1) := by decide +kernel
theorem d1_8 : decode prog_128_method_6_code 8 = .ok (.getstatic 13, 3) := by decide +kernel
theorem d1_11 : decode prog_128_method_6_code 11 = .ok (.if_acmp .eq 17, 3) := by decide +kernel
theorem d1_14 : decode prog_128_method_6_code 14 = .ok (.aload_n 0, 1) := by decide +kernel
theorem d1_15 : decode prog_128_method_6_code 15 = .ok (.getstatic 16, 3) := by decide +kernel
theorem d1_18 : decode prog_128_method_6_code 18 = .ok (.if_acmp .eq 10, 3) := by decide +kernel
theorem d1_21 : decode prog_128_method_6_code 21 = .ok (.aload_n 0, 1) := by decide +kernel
theorem d1_22 : decode prog_128_method_6_code 22 = .ok (.getstatic 19, 3) := by decide +kernel
theorem d1_25 : decode prog_128_method_6_code 25 = .ok (.if_acmp .ne 7, 3) := by decide +kernel
theorem d1_28 : decode prog_128_method_6_code 28 = .ok (.iconst 1, 1) := by decide +kernel
theorem d1_29 : decode prog_128_method_6_code 29 = .ok (.goto 4, 3) := by decide +kernel
theorem d1_32 : decode prog_128_method_6_code 32 = .ok (.iconst 0, 1) := by decide +kernel
theorem d1_33 : decode prog_128_method_6_code 33 = .ok (.ireturn, 1) := by decide +kernel
theorem pn_0 : plainName "com/example/idlect/idlect/core/Symbol$Container$Kind" = true := by first | (simp [plainName, overriddenIn]; done) | decide +kernel
theorem ef_1 (m : MethodId) (o0_1 : Addr) : entryFrame m #[(.ref o0_1)] 1 = mkF m 0 #[.val (.ref o0_1)] [] := by first | (simp [entryFrame, mkF, argsToLocals, Value.category]; done) | rfl
def Q1 (Z : State) (o0_1 : Addr) (w_INTERFACE : Addr) (w_VALUE_TYPE : Addr) (w_STRUCT : Addr) (w_UNION : Addr) (h0 : Heap) (n0 : Nat) (v : Option Value) (h : Heap) (L : List Loc) : Prop := v = some (.int (own_r1 o0_1 w_INTERFACE w_VALUE_TYPE w_STRUCT w_UNION)) ∧ Fr n0 L ∧ h = h0
set_option maxRecDepth 65536 in
set_option maxHeartbeats 40000000 in
theorem rm1 (l : Launch) (Z : State) (a0 : Array Value) (hw : ∀ d ∈ tables_1, d.before a0 Z = true) (ws : List Jvm.Cond) (o0_1 : Addr) (w_INTERFACE : Addr) (w_VALUE_TYPE : Addr) (w_STRUCT : Addr) (w_UNION : Addr) (h0 : Heap) (n0 : Nat) (O0 : Old Z n0 h0) (S_INTERFACE : Sta Z Z.heap "com/example/idlect/idlect/core/Symbol$Container$Kind" "INTERFACE" "Lcom/example/idlect/idlect/core/Symbol$Container$Kind;" (.ref w_INTERFACE)) (S_VALUE_TYPE : Sta Z Z.heap "com/example/idlect/idlect/core/Symbol$Container$Kind" "VALUE_TYPE" "Lcom/example/idlect/idlect/core/Symbol$Container$Kind;" (.ref w_VALUE_TYPE)) (S_STRUCT : Sta Z Z.heap "com/example/idlect/idlect/core/Symbol$Container$Kind" "STRUCT" "Lcom/example/idlect/idlect/core/Symbol$Container$Kind;" (.ref w_STRUCT)) (S_UNION : Sta Z Z.heap "com/example/idlect/idlect/core/Symbol$Container$Kind" "UNION" "Lcom/example/idlect/idlect/core/Symbol$Container$Kind;" (.ref w_UNION)) :
    MetFree l (⟨"com/example/idlect/idlect/core/Symbol$Container$Kind", "isType", "()Z"⟩ : MethodName) (head1 (Jvm.Cond.code (⟨"com/example/idlect/idlect/core/Symbol$Container$Kind", "isType", "()Z"⟩ : MethodName) prog_128_method_6_code 1 (some .boolean) :: ws) ({ frames := 0, cells := 0, slots := 0, locals := 0 } : Room)) (fun a U => a = #[(.ref o0_1)] ∧ Z.Warmed39 U.vm ∧ U.heap = h0) (fun _ _ _ _ _ => True) (fun _ U o U' => ∃ v L, o = .returned v ∧ Q1 Z o0_1 w_INTERFACE w_VALUE_TYPE w_STRUCT w_UNION h0 n0 v U'.heap L ∧ FrameEnd U o U' L ({ frames := 0, cells := 0, slots := 0, locals := 0 } : Room).cells ({ frames := 0, cells := 0, slots := 0, locals := 0 } : Room).slots) := by
  refine MetFree.of_bodySF (plainFor_of_name pn_0) hisR ?_
  intro p e s m args below meth c s₁ Bd hml0 hP hK
  obtain ⟨rfl, hZ, hh⟩ := hP
  have hx := Bd.exec
  have hby := Bd.bytes
  have hnl := BodyLoose.notSynchronized Bd
  have hml : c.maxLocals = 1 := hml0
  have hown : s.vm.findClass "com/example/idlect/idlect/core/Symbol$Container$Kind" = some m.cls := findClass_of_methodNamed Bd.named
  have hnm := (name_of_methodNamed Bd.named Bd.method).1
  have X0 : Stand p l e ({ frames := 0, cells := 0, slots := 0, locals := 0 } : Room) s m #[(.ref o0_1)] below meth c s₁ [] 0 0 := Stand.of_body Bd
  have e0 : s₁.heap = h0 := by rw [← hh, Bd.state]; rfl
  have N0 := Fr.nil n0
  show own_Ends p.tables e below s (Q1 Z o0_1 w_INTERFACE w_VALUE_TYPE w_STRUCT w_UNION h0 n0) 0 0 (s₁.setTop (entryFrame m #[(.ref o0_1)] 1))
  rw [ef_1 m o0_1]
  show own_Ends p.tables e below s _ _ _ (s₁.setTop (mkF m 0 #[.val (.ref o0_1)] []))
  refine own_step (fun t k => XS.aloadN X0.here hx rfl (hb hby d1_0) rfl rfl k) ?_
  show own_Ends p.tables e below s _ _ _ (s₁.setTop (mkF m 1 #[.val (.ref o0_1)] [(.ref o0_1)]))
  obtain ⟨T1, X1, e1, st1⟩ := getS2 X0 hx hZ hown (host := "") (Or.inl (hw _ (List.mem_of_getElem? (i := 35) rfl))) Via.refl e0 (S_INTERFACE.ext O0.2) (g := (mkF m 1 #[.val (.ref o0_1)] [(.ref o0_1)])) rfl (hb hby d1_1)
  refine own_step (fun t k => st1 _ k) ?_
  show own_Ends p.tables e below s _ _ _ (T1.setTop (mkF m 4 #[.val (.ref o0_1)] [(.ref w_INTERFACE), (.ref o0_1)]))
  by_cases ha4_2 : o0_1 = w_INTERFACE
  · skip
    refine own_step (fun t k => Jvm.RoadKit.acmp (g := (mkF m 4 #[.val (.ref o0_1)] [(.ref w_INTERFACE), (.ref o0_1)])) X1 hx rfl rfl rfl (pc0 := 4) (pc' := 28) (same := true) rfl (hb hby d1_4) rfl (decide_eq_true (congrArg Value.ref ha4_2)) (by decide) (by decide) k) ?_
    show own_Ends p.tables e below s _ _ _ (T1.setTop (mkF m 28 #[.val (.ref o0_1)] []))
    refine own_step (fun t k => XS.iconst X1.here hx rfl (hb hby d1_28) k) ?_
    show own_Ends p.tables e below s _ _ _ (T1.setTop (mkF m 29 #[.val (.ref o0_1)] [(.int (1 : Int32))]))
    refine own_step (fun t k => XS.goto X1.here hx rfl (pc0 := 29) (pc' := 33) rfl (hb hby d1_29) (by decide) (by decide) k) ?_
    show own_Ends p.tables e below s _ _ _ (T1.setTop (mkF m 33 #[.val (.ref o0_1)] [(.int (1 : Int32))]))
    exact own_retN X1 hx (t := .boolean) Bd.returns (by simp) (hb hby d1_33) hnl (by rw [e1]; exact ⟨(congrArg (fun z => some (Value.int z)) (Eq.symm (show (own_r1 o0_1 w_INTERFACE w_VALUE_TYPE w_STRUCT w_UNION) = (1 : Int32) from by unfold own_r1; rw [if_pos ha4_2]))), N0, rfl⟩) (by decide) (by decide)
  · skip
    refine own_step (fun t k => Jvm.RoadKit.acmp (g := (mkF m 4 #[.val (.ref o0_1)] [(.ref w_INTERFACE), (.ref o0_1)])) X1 hx rfl rfl rfl (pc0 := 4) (pc' := 7) (same := false) rfl (hb hby d1_4) rfl (decide_eq_false fun q => ha4_2 (Value.ref.inj q)) (by decide) (by decide) k) ?_
    show own_Ends p.tables e below s _ _ _ (T1.setTop (mkF m 7 #[.val (.ref o0_1)] []))
    refine own_step (fun t k => XS.aloadN X1.here hx rfl (hb hby d1_7) rfl rfl k) ?_
    show own_Ends p.tables e below s _ _ _ (T1.setTop (mkF m 8 #[.val (.ref o0_1)] [(.ref o0_1)]))
    obtain ⟨T3, X3, e3, st3⟩ := getS2 X1 hx hZ hown (host := "") (Or.inl (hw _ (List.mem_of_getElem? (i := 36) rfl))) Via.refl e1 (S_VALUE_TYPE.ext O0.2) (g := (mkF m 8 #[.val (.ref o0_1)] [(.ref o0_1)])) rfl (hb hby d1_8)
    refine own_step (fun t k => st3 _ k) ?_
    show own_Ends p.tables e below s _ _ _ (T3.setTop (mkF m 11 #[.val (.ref o0_1)] [(.ref w_VALUE_TYPE), (.ref o0_1)]))
    by_cases ha11_4 : o0_1 = w_VALUE_TYPE
    · skip
      refine own_step (fun t k => Jvm.RoadKit.acmp (g := (mkF m 11 #[.val (.ref o0_1)] [(.ref w_VALUE_TYPE), (.ref o0_1)])) X3 hx rfl rfl rfl (pc0 := 11) (pc' := 28) (same := true) rfl (hb hby d1_11) rfl (decide_eq_true (congrArg Value.ref ha11_4)) (by decide) (by decide) k) ?_
      show own_Ends p.tables e below s _ _ _ (T3.setTop (mkF m 28 #[.val (.ref o0_1)] []))
      refine own_step (fun t k => XS.iconst X3.here hx rfl (hb hby d1_28) k) ?_
      show own_Ends p.tables e below s _ _ _ (T3.setTop (mkF m 29 #[.val (.ref o0_1)] [(.int (1 : Int32))]))
      refine own_step (fun t k => XS.goto X3.here hx rfl (pc0 := 29) (pc' := 33) rfl (hb hby d1_29) (by decide) (by decide) k) ?_
      show own_Ends p.tables e below s _ _ _ (T3.setTop (mkF m 33 #[.val (.ref o0_1)] [(.int (1 : Int32))]))
      exact own_retN X3 hx (t := .boolean) Bd.returns (by simp) (hb hby d1_33) hnl (by rw [e3]; exact ⟨(congrArg (fun z => some (Value.int z)) (Eq.symm (show (own_r1 o0_1 w_INTERFACE w_VALUE_TYPE w_STRUCT w_UNION) = (1 : Int32) from by unfold own_r1; rw [if_neg ha4_2, if_pos ha11_4]))), N0, rfl⟩) (by decide) (by decide)
    · skip
      refine own_step (fun t k => Jvm.RoadKit.acmp (g := (mkF m 11 #[.val (.ref o0_1)] [(.ref w_VALUE_TYPE), (.ref o0_1)])) X3 hx rfl rfl rfl (pc0 := 11) (pc' := 14) (same := false) rfl (hb hby d1_11) rfl (decide_eq_false fun q => ha11_4 (Value.ref.inj q)) (by decide) (by decide) k) ?_
      show own_Ends p.tables e below s _ _ _ (T3.setTop (mkF m 14 #[.val (.ref o0_1)] []))
      refine own_step (fun t k => XS.aloadN X3.here hx rfl (hb hby d1_14) rfl rfl k) ?_
      show own_Ends p.tables e below s _ _ _ (T3.setTop (mkF m 15 #[.val (.ref o0_1)] [(.ref o0_1)]))
      obtain ⟨T5, X5, e5, st5⟩ := getS2 X3 hx hZ hown (host := "") (Or.inl (hw _ (List.mem_of_getElem? (i := 37) rfl))) Via.refl e3 (S_STRUCT.ext O0.2) (g := (mkF m 15 #[.val (.ref o0_1)] [(.ref o0_1)])) rfl (hb hby d1_15)
      refine own_step (fun t k => st5 _ k) ?_
      show own_Ends p.tables e below s _ _ _ (T5.setTop (mkF m 18 #[.val (.ref o0_1)] [(.ref w_STRUCT), (.ref o0_1)]))
      by_cases ha18_6 : o0_1 = w_STRUCT
      · skip
        refine own_step (fun t k => Jvm.RoadKit.acmp (g := (mkF m 18 #[.val (.ref o0_1)] [(.ref w_STRUCT), (.ref o0_1)])) X5 hx rfl rfl rfl (pc0 := 18) (pc' := 28) (same := true) rfl (hb hby d1_18) rfl (decide_eq_true (congrArg Value.ref ha18_6)) (by decide) (by decide) k) ?_
        show own_Ends p.tables e below s _ _ _ (T5.setTop (mkF m 28 #[.val (.ref o0_1)] []))
        refine own_step (fun t k => XS.iconst X5.here hx rfl (hb hby d1_28) k) ?_
        show own_Ends p.tables e below s _ _ _ (T5.setTop (mkF m 29 #[.val (.ref o0_1)] [(.int (1 : Int32))]))
        refine own_step (fun t k => XS.goto X5.here hx rfl (pc0 := 29) (pc' := 33) rfl (hb hby d1_29) (by decide) (by decide) k) ?_
        show own_Ends p.tables e below s _ _ _ (T5.setTop (mkF m 33 #[.val (.ref o0_1)] [(.int (1 : Int32))]))
        exact own_retN X5 hx (t := .boolean) Bd.returns (by simp) (hb hby d1_33) hnl (by rw [e5]; exact ⟨(congrArg (fun z => some (Value.int z)) (Eq.symm (show (own_r1 o0_1 w_INTERFACE w_VALUE_TYPE w_STRUCT w_UNION) = (1 : Int32) from by unfold own_r1; rw [if_neg ha4_2, if_neg ha11_4, if_pos ha18_6]))), N0, rfl⟩) (by decide) (by decide)
      · skip
        refine own_step (fun t k => Jvm.RoadKit.acmp (g := (mkF m 18 #[.val (.ref o0_1)] [(.ref w_STRUCT), (.ref o0_1)])) X5 hx rfl rfl rfl (pc0 := 18) (pc' := 21) (same := false) rfl (hb hby d1_18) rfl (decide_eq_false fun q => ha18_6 (Value.ref.inj q)) (by decide) (by decide) k) ?_
        show own_Ends p.tables e below s _ _ _ (T5.setTop (mkF m 21 #[.val (.ref o0_1)] []))
        refine own_step (fun t k => XS.aloadN X5.here hx rfl (hb hby d1_21) rfl rfl k) ?_
        show own_Ends p.tables e below s _ _ _ (T5.setTop (mkF m 22 #[.val (.ref o0_1)] [(.ref o0_1)]))
        obtain ⟨T7, X7, e7, st7⟩ := getS2 X5 hx hZ hown (host := "") (Or.inl (hw _ (List.mem_of_getElem? (i := 38) rfl))) Via.refl e5 (S_UNION.ext O0.2) (g := (mkF m 22 #[.val (.ref o0_1)] [(.ref o0_1)])) rfl (hb hby d1_22)
        refine own_step (fun t k => st7 _ k) ?_
        show own_Ends p.tables e below s _ _ _ (T7.setTop (mkF m 25 #[.val (.ref o0_1)] [(.ref w_UNION), (.ref o0_1)]))
        by_cases ha25_8 : o0_1 = w_UNION
        · skip
          refine own_step (fun t k => Jvm.RoadKit.acmp (g := (mkF m 25 #[.val (.ref o0_1)] [(.ref w_UNION), (.ref o0_1)])) X7 hx rfl rfl rfl (pc0 := 25) (pc' := 28) (same := true) rfl (hb hby d1_25) rfl (decide_eq_true (congrArg Value.ref ha25_8)) (by decide) (by decide) k) ?_
          show own_Ends p.tables e below s _ _ _ (T7.setTop (mkF m 28 #[.val (.ref o0_1)] []))
          refine own_step (fun t k => XS.iconst X7.here hx rfl (hb hby d1_28) k) ?_
          show own_Ends p.tables e below s _ _ _ (T7.setTop (mkF m 29 #[.val (.ref o0_1)] [(.int (1 : Int32))]))
          refine own_step (fun t k => XS.goto X7.here hx rfl (pc0 := 29) (pc' := 33) rfl (hb hby d1_29) (by decide) (by decide) k) ?_
          show own_Ends p.tables e below s _ _ _ (T7.setTop (mkF m 33 #[.val (.ref o0_1)] [(.int (1 : Int32))]))
          exact own_retN X7 hx (t := .boolean) Bd.returns (by simp) (hb hby d1_33) hnl (by rw [e7]; exact ⟨(congrArg (fun z => some (Value.int z)) (Eq.symm (show (own_r1 o0_1 w_INTERFACE w_VALUE_TYPE w_STRUCT w_UNION) = (1 : Int32) from by unfold own_r1; rw [if_neg ha4_2, if_neg ha11_4, if_neg ha18_6, if_pos ha25_8]))), N0, rfl⟩) (by decide) (by decide)
        · skip
          refine own_step (fun t k => Jvm.RoadKit.acmp (g := (mkF m 25 #[.val (.ref o0_1)] [(.ref w_UNION), (.ref o0_1)])) X7 hx rfl rfl rfl (pc0 := 25) (pc' := 32) (same := false) rfl (hb hby d1_25) rfl (decide_eq_false fun q => ha25_8 (Value.ref.inj q)) (by decide) (by decide) k) ?_
          show own_Ends p.tables e below s _ _ _ (T7.setTop (mkF m 32 #[.val (.ref o0_1)] []))
          refine own_step (fun t k => XS.iconst X7.here hx rfl (hb hby d1_32) k) ?_
          show own_Ends p.tables e below s _ _ _ (T7.setTop (mkF m 33 #[.val (.ref o0_1)] [(.int (0 : Int32))]))
          exact own_retN X7 hx (t := .boolean) Bd.returns (by simp) (hb hby d1_33) hnl (by rw [e7]; exact ⟨(congrArg (fun z => some (Value.int z)) (Eq.symm (show (own_r1 o0_1 w_INTERFACE w_VALUE_TYPE w_STRUCT w_UNION) = (0 : Int32) from by unfold own_r1; rw [if_neg ha4_2, if_neg ha11_4, if_neg ha18_6, if_neg ha25_8]))), N0, rfl⟩) (by decide) (by decide)
theorem own_cases12 (v : Int32) (h : ¬ v < 0 ∧ v < 12) : v = 0 ∨ v = 1 ∨ v = 2 ∨ v = 3 ∨ v = 4 ∨ v = 5 ∨ v = 6 ∨ v = 7 ∨ v = 8 ∨ v = 9 ∨ v = 10 ∨ v = 11 := by
  obtain ⟨n, rfl⟩ := own_small v 12 (by decide) h.1 h.2
  revert n; decide

theorem pd_0 : parseMethodDescriptor "()Z" = some ⟨[], some .boolean⟩ := by decide +kernel
theorem pn_1 : plainName "com/example/idlect/idlect/core/KindIsTypePinLaw" = true := by first | (simp [plainName, overriddenIn]; done) | decide +kernel
theorem ef_0 (m : MethodId) (x0_0 : Int32) : entryFrame m #[(.int x0_0)] maxLocals = mkF m 0 #[.val (.int x0_0), .unset, .unset, .unset] [] := by first | (simp [entryFrame, mkF, argsToLocals, Value.category, maxLocals]; done) | rfl
def Q0 (Z : State) (w_FILE : Addr) (w_MODULE : Addr) (w_INTERFACE : Addr) (w_VALUE_TYPE : Addr) (w_STRUCT : Addr) (w_UNION : Addr) (w_EXCEPTION : Addr) (w_OPERATION : Addr) (w_FACTORY : Addr) (w_COMPONENT : Addr) (w_COMPONENT_INTERFACE : Addr) (w_IDS : Addr) (x0_0 : Int32) (h0 : Heap) (n0 : Nat) (v : Option Value) (h : Heap) (L : List Loc) : Prop := v = some (.int 1) ∧ Fr n0 L
set_option maxRecDepth 65536 in
set_option maxHeartbeats 40000000 in
theorem rm0 (l : Launch) (Z : State) (a0 : Array Value) (hw : ∀ d ∈ tables_1, d.before a0 Z = true) (ws : List Jvm.Cond) (w_FILE : Addr) (w_MODULE : Addr) (w_INTERFACE : Addr) (w_VALUE_TYPE : Addr) (w_STRUCT : Addr) (w_UNION : Addr) (w_EXCEPTION : Addr) (w_OPERATION : Addr) (w_FACTORY : Addr) (w_COMPONENT : Addr) (w_COMPONENT_INTERFACE : Addr) (w_IDS : Addr) (x0_0 : Int32) (h0 : Heap) (n0 : Nat) (O0 : Old Z n0 h0) (ne_w_FILE_w_INTERFACE : w_FILE ≠ w_INTERFACE) (ne_w_FILE_w_VALUE_TYPE : w_FILE ≠ w_VALUE_TYPE) (ne_w_FILE_w_STRUCT : w_FILE ≠ w_STRUCT) (ne_w_FILE_w_UNION : w_FILE ≠ w_UNION) (ne_w_MODULE_w_INTERFACE : w_MODULE ≠ w_INTERFACE) (ne_w_MODULE_w_VALUE_TYPE : w_MODULE ≠ w_VALUE_TYPE) (ne_w_MODULE_w_STRUCT : w_MODULE ≠ w_STRUCT) (ne_w_MODULE_w_UNION : w_MODULE ≠ w_UNION) (ne_w_INTERFACE_w_VALUE_TYPE : w_INTERFACE ≠ w_VALUE_TYPE) (ne_w_INTERFACE_w_STRUCT : w_INTERFACE ≠ w_STRUCT) (ne_w_INTERFACE_w_UNION : w_INTERFACE ≠ w_UNION) (ne_w_VALUE_TYPE_w_STRUCT : w_VALUE_TYPE ≠ w_STRUCT) (ne_w_VALUE_TYPE_w_UNION : w_VALUE_TYPE ≠ w_UNION) (ne_w_STRUCT_w_UNION : w_STRUCT ≠ w_UNION) (ne_w_EXCEPTION_w_INTERFACE : w_EXCEPTION ≠ w_INTERFACE) (ne_w_EXCEPTION_w_VALUE_TYPE : w_EXCEPTION ≠ w_VALUE_TYPE) (ne_w_EXCEPTION_w_STRUCT : w_EXCEPTION ≠ w_STRUCT) (ne_w_EXCEPTION_w_UNION : w_EXCEPTION ≠ w_UNION) (ne_w_OPERATION_w_INTERFACE : w_OPERATION ≠ w_INTERFACE) (ne_w_OPERATION_w_VALUE_TYPE : w_OPERATION ≠ w_VALUE_TYPE) (ne_w_OPERATION_w_STRUCT : w_OPERATION ≠ w_STRUCT) (ne_w_OPERATION_w_UNION : w_OPERATION ≠ w_UNION) (ne_w_FACTORY_w_INTERFACE : w_FACTORY ≠ w_INTERFACE) (ne_w_FACTORY_w_VALUE_TYPE : w_FACTORY ≠ w_VALUE_TYPE) (ne_w_FACTORY_w_STRUCT : w_FACTORY ≠ w_STRUCT) (ne_w_FACTORY_w_UNION : w_FACTORY ≠ w_UNION) (ne_w_COMPONENT_w_INTERFACE : w_COMPONENT ≠ w_INTERFACE) (ne_w_COMPONENT_w_VALUE_TYPE : w_COMPONENT ≠ w_VALUE_TYPE) (ne_w_COMPONENT_w_STRUCT : w_COMPONENT ≠ w_STRUCT) (ne_w_COMPONENT_w_UNION : w_COMPONENT ≠ w_UNION) (ne_w_COMPONENT_INTERFACE_w_INTERFACE : w_COMPONENT_INTERFACE ≠ w_INTERFACE) (ne_w_COMPONENT_INTERFACE_w_VALUE_TYPE : w_COMPONENT_INTERFACE ≠ w_VALUE_TYPE) (ne_w_COMPONENT_INTERFACE_w_STRUCT : w_COMPONENT_INTERFACE ≠ w_STRUCT) (ne_w_COMPONENT_INTERFACE_w_UNION : w_COMPONENT_INTERFACE ≠ w_UNION) (ne_w_IDS_w_INTERFACE : w_IDS ≠ w_INTERFACE) (ne_w_IDS_w_VALUE_TYPE : w_IDS ≠ w_VALUE_TYPE) (ne_w_IDS_w_STRUCT : w_IDS ≠ w_STRUCT) (ne_w_IDS_w_UNION : w_IDS ≠ w_UNION) (S_FILE : Sta Z Z.heap "com/example/idlect/idlect/core/Symbol$Container$Kind" "FILE" "Lcom/example/idlect/idlect/core/Symbol$Container$Kind;" (.ref w_FILE)) (E_w_FILE : Exa Z h0 w_FILE "com/example/idlect/idlect/core/Symbol$Container$Kind") (S_MODULE : Sta Z Z.heap "com/example/idlect/idlect/core/Symbol$Container$Kind" "MODULE" "Lcom/example/idlect/idlect/core/Symbol$Container$Kind;" (.ref w_MODULE)) (E_w_MODULE : Exa Z h0 w_MODULE "com/example/idlect/idlect/core/Symbol$Container$Kind") (S_INTERFACE : Sta Z Z.heap "com/example/idlect/idlect/core/Symbol$Container$Kind" "INTERFACE" "Lcom/example/idlect/idlect/core/Symbol$Container$Kind;" (.ref w_INTERFACE)) (E_w_INTERFACE : Exa Z h0 w_INTERFACE "com/example/idlect/idlect/core/Symbol$Container$Kind") (S_VALUE_TYPE : Sta Z Z.heap "com/example/idlect/idlect/core/Symbol$Container$Kind" "VALUE_TYPE" "Lcom/example/idlect/idlect/core/Symbol$Container$Kind;" (.ref w_VALUE_TYPE)) (E_w_VALUE_TYPE : Exa Z h0 w_VALUE_TYPE "com/example/idlect/idlect/core/Symbol$Container$Kind") (S_STRUCT : Sta Z Z.heap "com/example/idlect/idlect/core/Symbol$Container$Kind" "STRUCT" "Lcom/example/idlect/idlect/core/Symbol$Container$Kind;" (.ref w_STRUCT)) (E_w_STRUCT : Exa Z h0 w_STRUCT "com/example/idlect/idlect/core/Symbol$Container$Kind") (S_UNION : Sta Z Z.heap "com/example/idlect/idlect/core/Symbol$Container$Kind" "UNION" "Lcom/example/idlect/idlect/core/Symbol$Container$Kind;" (.ref w_UNION)) (E_w_UNION : Exa Z h0 w_UNION "com/example/idlect/idlect/core/Symbol$Container$Kind") (S_EXCEPTION : Sta Z Z.heap "com/example/idlect/idlect/core/Symbol$Container$Kind" "EXCEPTION" "Lcom/example/idlect/idlect/core/Symbol$Container$Kind;" (.ref w_EXCEPTION)) (E_w_EXCEPTION : Exa Z h0 w_EXCEPTION "com/example/idlect/idlect/core/Symbol$Container$Kind") (S_OPERATION : Sta Z Z.heap "com/example/idlect/idlect/core/Symbol$Container$Kind" "OPERATION" "Lcom/example/idlect/idlect/core/Symbol$Container$Kind;" (.ref w_OPERATION)) (E_w_OPERATION : Exa Z h0 w_OPERATION "com/example/idlect/idlect/core/Symbol$Container$Kind") (S_FACTORY : Sta Z Z.heap "com/example/idlect/idlect/core/Symbol$Container$Kind" "FACTORY" "Lcom/example/idlect/idlect/core/Symbol$Container$Kind;" (.ref w_FACTORY)) (E_w_FACTORY : Exa Z h0 w_FACTORY "com/example/idlect/idlect/core/Symbol$Container$Kind") (S_COMPONENT : Sta Z Z.heap "com/example/idlect/idlect/core/Symbol$Container$Kind" "COMPONENT" "Lcom/example/idlect/idlect/core/Symbol$Container$Kind;" (.ref w_COMPONENT)) (E_w_COMPONENT : Exa Z h0 w_COMPONENT "com/example/idlect/idlect/core/Symbol$Container$Kind") (S_COMPONENT_INTERFACE : Sta Z Z.heap "com/example/idlect/idlect/core/Symbol$Container$Kind" "COMPONENT_INTERFACE" "Lcom/example/idlect/idlect/core/Symbol$Container$Kind;" (.ref w_COMPONENT_INTERFACE)) (E_w_COMPONENT_INTERFACE : Exa Z h0 w_COMPONENT_INTERFACE "com/example/idlect/idlect/core/Symbol$Container$Kind") (S_IDS : Sta Z Z.heap "com/example/idlect/idlect/core/Symbol$Container$Kind" "IDS" "Lcom/example/idlect/idlect/core/Symbol$Container$Kind;" (.ref w_IDS)) (E_w_IDS : Exa Z h0 w_IDS "com/example/idlect/idlect/core/Symbol$Container$Kind") :
    MetFree l x (head1 (Jvm.Cond.code x code maxLocals ret :: ws) room_1) (fun a U => a = #[(.int x0_0)] ∧ Z.Warmed39 U.vm ∧ U.heap = h0) (fun _ _ _ _ _ => True) (fun _ U o U' => ∃ v L, o = .returned v ∧ Q0 Z w_FILE w_MODULE w_INTERFACE w_VALUE_TYPE w_STRUCT w_UNION w_EXCEPTION w_OPERATION w_FACTORY w_COMPONENT w_COMPONENT_INTERFACE w_IDS x0_0 h0 n0 v U'.heap L ∧ FrameEnd U o U' L 2 24) := by
  refine MetFree.of_bodySF (plainFor_of_name pn_1) hisR ?_
  intro p e s m args below meth c s₁ Bd hml0 hP hK
  obtain ⟨rfl, hZ, hh⟩ := hP
  have hx := Bd.exec
  have hby := Bd.bytes
  have hnl := BodyLoose.notSynchronized Bd
  have hml : c.maxLocals = 4 := hml0
  have hown : s.vm.findClass "com/example/idlect/idlect/core/KindIsTypePinLaw" = some m.cls := findClass_of_methodNamed Bd.named
  have hnm := (name_of_methodNamed Bd.named Bd.method).1
  have X0 : Stand p l e room_1 s m #[(.int x0_0)] below meth c s₁ [] 0 0 := Stand.of_body Bd
  have e0 : s₁.heap = h0 := by rw [← hh, Bd.state]; rfl
  have N0 := Fr.nil n0
  show own_Ends p.tables e below s (Q0 Z w_FILE w_MODULE w_INTERFACE w_VALUE_TYPE w_STRUCT w_UNION w_EXCEPTION w_OPERATION w_FACTORY w_COMPONENT w_COMPONENT_INTERFACE w_IDS x0_0 h0 n0) 2 24 (s₁.setTop (entryFrame m #[(.int x0_0)] maxLocals))
  rw [ef_0 m x0_0]
  show own_Ends p.tables e below s _ _ _ (s₁.setTop (mkF m 0 #[.val (.int x0_0), .unset, .unset, .unset] []))
  refine own_step (fun t k => XS.bipush X0.here hx rfl (hb hby at_0) k) ?_
  show own_Ends p.tables e below s _ _ _ (s₁.setTop (mkF m 2 #[.val (.int x0_0), .unset, .unset, .unset] [(.int (12 : Int32))]))
  obtain ⟨T1, h1, k1, X1, e1, E1, A1, O1, st1⟩ := newR X0 hx hZ hown (hw _ (List.mem_of_getElem? (i := 0) rfl)) (hw _ (List.mem_of_getElem? (i := 1) rfl)) e0 (g := (mkF m 2 #[.val (.int x0_0), .unset, .unset, .unset] [(.int (12 : Int32))])) rfl (hb hby at_2) rfl (by decide) (cap := 12) (by decide) (by decide) (by decide) (by decide)
  obtain ⟨b1, g1⟩ : ∃ z, z = h0.size := ⟨_, rfl⟩
  rw [← g1] at A1 st1
  have g_b1 : n0 ≤ b1 := Nat.le_trans (Nat.le_trans (Nat.le_of_eq O0.1.symm) O0.2.1) (Nat.le_of_eq g1.symm)
  have sz_b1 : h0.size ≤ b1 := Nat.le_trans (Keep.refl h0 []).1 (Nat.le_of_eq g1.symm)
  have V1 : Arv Z h1 b1 k1 (.object "com/example/idlect/idlect/core/Symbol$Container$Kind") (12 : Int32) [] .null := Arv.new A1 (by decide)
  have V1p : Arv Z h1 b1 k1 (.object "com/example/idlect/idlect/core/Symbol$Container$Kind") (12 : Int32) [.null, .null, .null, .null, .null, .null, .null, .null, .null, .null, .null, .null] .null := V1.pad (pad_rep [] .null 12)
  refine own_step (fun t k => st1 _ k) ?_
  have K2 : Keep h0 h1 [] := (Keep.refl h0 []).ext E1
  show own_Ends p.tables e below s _ _ _ (T1.setTop (mkF m 5 #[.val (.int x0_0), .unset, .unset, .unset] [(.ref b1)]))
  refine own_step (fun t k => XS.dup X1.here hx rfl (hb hby at_5) rfl rfl k) ?_
  show own_Ends p.tables e below s _ _ _ (T1.setTop (mkF m 6 #[.val (.int x0_0), .unset, .unset, .unset] [(.ref b1), (.ref b1)]))
  refine own_step (fun t k => XS.iconst X1.here hx rfl (hb hby at_6) k) ?_
  show own_Ends p.tables e below s _ _ _ (T1.setTop (mkF m 7 #[.val (.int x0_0), .unset, .unset, .unset] [(.int (0 : Int32)), (.ref b1), (.ref b1)]))
  have O3 : Old Z n0 h1 := (O0.ext E1)
  obtain ⟨T4, X4, e4, st4⟩ := getS2 X1 hx hZ hown (host := "") (Or.inl (hw _ (List.mem_of_getElem? (i := 2) rfl))) Via.refl e1 (S_FILE.ext O3.2) (g := (mkF m 7 #[.val (.int x0_0), .unset, .unset, .unset] [(.int (0 : Int32)), (.ref b1), (.ref b1)])) rfl (hb hby at_7)
  refine own_step (fun t k => st4 _ k) ?_
  show own_Ends p.tables e below s _ _ _ (T4.setTop (mkF m 10 #[.val (.int x0_0), .unset, .unset, .unset] [(.ref w_FILE), (.int (0 : Int32)), (.ref b1), (.ref b1)]))
  obtain ⟨cl5, Ar5, q5, S5, N5, H5, G5⟩ := id V1p
  have hin5 : ¬ ((0 : Int32) < 0 ∨ cl5.slots.size ≤ ((0 : Int32)).toNatClampNeg) := inb_of S5 ⟨by decide, by decide⟩
  have F6 : Exa Z h1 w_FILE "com/example/idlect/idlect/core/Symbol$Container$Kind" := (E_w_FILE.ext E1)
  obtain ⟨T7, h7, X7, e7, W7, st7⟩ := stR X4 hx hZ e4 Ar5 (j := (0 : Int32)) hin5 rfl (Sto.ofV Ar5 q5 O1 (Ins.self F6)) (g := (mkF m 10 #[.val (.int x0_0), .unset, .unset, .unset] [(.ref w_FILE), (.int (0 : Int32)), (.ref b1), (.ref b1)])) rfl rfl (hb hby at_10)
  refine own_step (fun t k => st7 _ k) ?_
  have V7 : Arv Z h7 b1 k1 (.object "com/example/idlect/idlect/core/Symbol$Container$Kind") (12 : Int32) [(.ref w_FILE), .null, .null, .null, .null, .null, .null, .null, .null, .null, .null, .null] .null := Arv.set Ar5 q5 S5 N5 H5 G5 rfl W7 0 rfl (Nat.le_of_ble_eq_true rfl)
  have K8 : Keep h0 h7 [] := K2.wr W7 (Or.inr sz_b1)
  have N9 := Fr.snoc X7 N0 g_b1
  show own_Ends p.tables e below s _ _ _ (T7.setTop (mkF m 11 #[.val (.int x0_0), .unset, .unset, .unset] [(.ref b1)]))
  refine own_step (fun t k => XS.dup X7.here hx rfl (hb hby at_11) rfl rfl k) ?_
  show own_Ends p.tables e below s _ _ _ (T7.setTop (mkF m 12 #[.val (.int x0_0), .unset, .unset, .unset] [(.ref b1), (.ref b1)]))
  refine own_step (fun t k => XS.iconst X7.here hx rfl (hb hby at_12) k) ?_
  show own_Ends p.tables e below s _ _ _ (T7.setTop (mkF m 13 #[.val (.int x0_0), .unset, .unset, .unset] [(.int (1 : Int32)), (.ref b1), (.ref b1)]))
  have O10 : Old Z n0 h7 := (O3.wr W7 g_b1)
  obtain ⟨T11, X11, e11, st11⟩ := getS2 X7 hx hZ hown (host := "") (Or.inl (hw _ (List.mem_of_getElem? (i := 6) rfl))) Via.refl e7 (S_MODULE.ext O10.2) (g := (mkF m 13 #[.val (.int x0_0), .unset, .unset, .unset] [(.int (1 : Int32)), (.ref b1), (.ref b1)])) rfl (hb hby at_13)
  refine own_step (fun t k => st11 _ k) ?_
  show own_Ends p.tables e below s _ _ _ (T11.setTop (mkF m 16 #[.val (.int x0_0), .unset, .unset, .unset] [(.ref w_MODULE), (.int (1 : Int32)), (.ref b1), (.ref b1)]))
  obtain ⟨cl12, Ar12, q12, S12, N12, H12, G12⟩ := id V7
  have hin12 : ¬ ((1 : Int32) < 0 ∨ cl12.slots.size ≤ ((1 : Int32)).toNatClampNeg) := inb_of S12 ⟨by decide, by decide⟩
  have F13 : Exa Z h7 w_MODULE "com/example/idlect/idlect/core/Symbol$Container$Kind" := ((E_w_MODULE.ext E1).wr W7)
  obtain ⟨T14, h14, X14, e14, W14, st14⟩ := stR X11 hx hZ e11 Ar12 (j := (1 : Int32)) hin12 rfl (Sto.ofV Ar12 q12 O1 (Ins.self F13)) (g := (mkF m 16 #[.val (.int x0_0), .unset, .unset, .unset] [(.ref w_MODULE), (.int (1 : Int32)), (.ref b1), (.ref b1)])) rfl rfl (hb hby at_16)
  refine own_step (fun t k => st14 _ k) ?_
  have V14 : Arv Z h14 b1 k1 (.object "com/example/idlect/idlect/core/Symbol$Container$Kind") (12 : Int32) [(.ref w_FILE), (.ref w_MODULE), .null, .null, .null, .null, .null, .null, .null, .null, .null, .null] .null := Arv.set Ar12 q12 S12 N12 H12 G12 rfl W14 1 rfl (Nat.le_of_ble_eq_true rfl)
  have K15 : Keep h0 h14 [] := K8.wr W14 (Or.inr sz_b1)
  have N16 := Fr.snoc X14 N9 g_b1
  show own_Ends p.tables e below s _ _ _ (T14.setTop (mkF m 17 #[.val (.int x0_0), .unset, .unset, .unset] [(.ref b1)]))
  refine own_step (fun t k => XS.dup X14.here hx rfl (hb hby at_17) rfl rfl k) ?_
  show own_Ends p.tables e below s _ _ _ (T14.setTop (mkF m 18 #[.val (.int x0_0), .unset, .unset, .unset] [(.ref b1), (.ref b1)]))
  refine own_step (fun t k => XS.iconst X14.here hx rfl (hb hby at_18) k) ?_
  show own_Ends p.tables e below s _ _ _ (T14.setTop (mkF m 19 #[.val (.int x0_0), .unset, .unset, .unset] [(.int (2 : Int32)), (.ref b1), (.ref b1)]))
  have O17 : Old Z n0 h14 := (O10.wr W14 g_b1)
  obtain ⟨T18, X18, e18, st18⟩ := getS2 X14 hx hZ hown (host := "") (Or.inl (hw _ (List.mem_of_getElem? (i := 8) rfl))) Via.refl e14 (S_INTERFACE.ext O17.2) (g := (mkF m 19 #[.val (.int x0_0), .unset, .unset, .unset] [(.int (2 : Int32)), (.ref b1), (.ref b1)])) rfl (hb hby at_19)
  refine own_step (fun t k => st18 _ k) ?_
  show own_Ends p.tables e below s _ _ _ (T18.setTop (mkF m 22 #[.val (.int x0_0), .unset, .unset, .unset] [(.ref w_INTERFACE), (.int (2 : Int32)), (.ref b1), (.ref b1)]))
  obtain ⟨cl19, Ar19, q19, S19, N19, H19, G19⟩ := id V14
  have hin19 : ¬ ((2 : Int32) < 0 ∨ cl19.slots.size ≤ ((2 : Int32)).toNatClampNeg) := inb_of S19 ⟨by decide, by decide⟩
  have F20 : Exa Z h14 w_INTERFACE "com/example/idlect/idlect/core/Symbol$Container$Kind" := (((E_w_INTERFACE.ext E1).wr W7).wr W14)
  obtain ⟨T21, h21, X21, e21, W21, st21⟩ := stR X18 hx hZ e18 Ar19 (j := (2 : Int32)) hin19 rfl (Sto.ofV Ar19 q19 O1 (Ins.self F20)) (g := (mkF m 22 #[.val (.int x0_0), .unset, .unset, .unset] [(.ref w_INTERFACE), (.int (2 : Int32)), (.ref b1), (.ref b1)])) rfl rfl (hb hby at_22)
  refine own_step (fun t k => st21 _ k) ?_
  have V21 : Arv Z h21 b1 k1 (.object "com/example/idlect/idlect/core/Symbol$Container$Kind") (12 : Int32) [(.ref w_FILE), (.ref w_MODULE), (.ref w_INTERFACE), .null, .null, .null, .null, .null, .null, .null, .null, .null] .null := Arv.set Ar19 q19 S19 N19 H19 G19 rfl W21 2 rfl (Nat.le_of_ble_eq_true rfl)
  have K22 : Keep h0 h21 [] := K15.wr W21 (Or.inr sz_b1)
  have N23 := Fr.snoc X21 N16 g_b1
  show own_Ends p.tables e below s _ _ _ (T21.setTop (mkF m 23 #[.val (.int x0_0), .unset, .unset, .unset] [(.ref b1)]))
  refine own_step (fun t k => XS.dup X21.here hx rfl (hb hby at_23) rfl rfl k) ?_
  show own_Ends p.tables e below s _ _ _ (T21.setTop (mkF m 24 #[.val (.int x0_0), .unset, .unset, .unset] [(.ref b1), (.ref b1)]))
  refine own_step (fun t k => XS.iconst X21.here hx rfl (hb hby at_24) k) ?_
  show own_Ends p.tables e below s _ _ _ (T21.setTop (mkF m 25 #[.val (.int x0_0), .unset, .unset, .unset] [(.int (3 : Int32)), (.ref b1), (.ref b1)]))
  have O24 : Old Z n0 h21 := (O17.wr W21 g_b1)
  obtain ⟨T25, X25, e25, st25⟩ := getS2 X21 hx hZ hown (host := "") (Or.inl (hw _ (List.mem_of_getElem? (i := 10) rfl))) Via.refl e21 (S_VALUE_TYPE.ext O24.2) (g := (mkF m 25 #[.val (.int x0_0), .unset, .unset, .unset] [(.int (3 : Int32)), (.ref b1), (.ref b1)])) rfl (hb hby at_25)
  refine own_step (fun t k => st25 _ k) ?_
  show own_Ends p.tables e below s _ _ _ (T25.setTop (mkF m 28 #[.val (.int x0_0), .unset, .unset, .unset] [(.ref w_VALUE_TYPE), (.int (3 : Int32)), (.ref b1), (.ref b1)]))
  obtain ⟨cl26, Ar26, q26, S26, N26, H26, G26⟩ := id V21
  have hin26 : ¬ ((3 : Int32) < 0 ∨ cl26.slots.size ≤ ((3 : Int32)).toNatClampNeg) := inb_of S26 ⟨by decide, by decide⟩
  have F27 : Exa Z h14 w_VALUE_TYPE "com/example/idlect/idlect/core/Symbol$Container$Kind" := (((E_w_VALUE_TYPE.ext E1).wr W7).wr W14)
  have F28 : Exa Z h21 w_VALUE_TYPE "com/example/idlect/idlect/core/Symbol$Container$Kind" := (F27.wr W21)
  obtain ⟨T29, h29, X29, e29, W29, st29⟩ := stR X25 hx hZ e25 Ar26 (j := (3 : Int32)) hin26 rfl (Sto.ofV Ar26 q26 O1 (Ins.self F28)) (g := (mkF m 28 #[.val (.int x0_0), .unset, .unset, .unset] [(.ref w_VALUE_TYPE), (.int (3 : Int32)), (.ref b1), (.ref b1)])) rfl rfl (hb hby at_28)
  refine own_step (fun t k => st29 _ k) ?_
  have V29 : Arv Z h29 b1 k1 (.object "com/example/idlect/idlect/core/Symbol$Container$Kind") (12 : Int32) [(.ref w_FILE), (.ref w_MODULE), (.ref w_INTERFACE), (.ref w_VALUE_TYPE), .null, .null, .null, .null, .null, .null, .null, .null] .null := Arv.set Ar26 q26 S26 N26 H26 G26 rfl W29 3 rfl (Nat.le_of_ble_eq_true rfl)
  have K30 : Keep h0 h29 [] := K22.wr W29 (Or.inr sz_b1)
  have N31 := Fr.snoc X29 N23 g_b1
  show own_Ends p.tables e below s _ _ _ (T29.setTop (mkF m 29 #[.val (.int x0_0), .unset, .unset, .unset] [(.ref b1)]))
  refine own_step (fun t k => XS.dup X29.here hx rfl (hb hby at_29) rfl rfl k) ?_
  show own_Ends p.tables e below s _ _ _ (T29.setTop (mkF m 30 #[.val (.int x0_0), .unset, .unset, .unset] [(.ref b1), (.ref b1)]))
  refine own_step (fun t k => XS.iconst X29.here hx rfl (hb hby at_30) k) ?_
  show own_Ends p.tables e below s _ _ _ (T29.setTop (mkF m 31 #[.val (.int x0_0), .unset, .unset, .unset] [(.int (4 : Int32)), (.ref b1), (.ref b1)]))
  have O32 : Old Z n0 h29 := (O24.wr W29 g_b1)
  obtain ⟨T33, X33, e33, st33⟩ := getS2 X29 hx hZ hown (host := "") (Or.inl (hw _ (List.mem_of_getElem? (i := 12) rfl))) Via.refl e29 (S_STRUCT.ext O32.2) (g := (mkF m 31 #[.val (.int x0_0), .unset, .unset, .unset] [(.int (4 : Int32)), (.ref b1), (.ref b1)])) rfl (hb hby at_31)
  refine own_step (fun t k => st33 _ k) ?_
  show own_Ends p.tables e below s _ _ _ (T33.setTop (mkF m 34 #[.val (.int x0_0), .unset, .unset, .unset] [(.ref w_STRUCT), (.int (4 : Int32)), (.ref b1), (.ref b1)]))
  obtain ⟨cl34, Ar34, q34, S34, N34, H34, G34⟩ := id V29
  have hin34 : ¬ ((4 : Int32) < 0 ∨ cl34.slots.size ≤ ((4 : Int32)).toNatClampNeg) := inb_of S34 ⟨by decide, by decide⟩
  have F35 : Exa Z h14 w_STRUCT "com/example/idlect/idlect/core/Symbol$Container$Kind" := (((E_w_STRUCT.ext E1).wr W7).wr W14)
  have F36 : Exa Z h29 w_STRUCT "com/example/idlect/idlect/core/Symbol$Container$Kind" := ((F35.wr W21).wr W29)
  obtain ⟨T37, h37, X37, e37, W37, st37⟩ := stR X33 hx hZ e33 Ar34 (j := (4 : Int32)) hin34 rfl (Sto.ofV Ar34 q34 O1 (Ins.self F36)) (g := (mkF m 34 #[.val (.int x0_0), .unset, .unset, .unset] [(.ref w_STRUCT), (.int (4 : Int32)), (.ref b1), (.ref b1)])) rfl rfl (hb hby at_34)
  refine own_step (fun t k => st37 _ k) ?_
  have V37 : Arv Z h37 b1 k1 (.object "com/example/idlect/idlect/core/Symbol$Container$Kind") (12 : Int32) [(.ref w_FILE), (.ref w_MODULE), (.ref w_INTERFACE), (.ref w_VALUE_TYPE), (.ref w_STRUCT), .null, .null, .null, .null, .null, .null, .null] .null := Arv.set Ar34 q34 S34 N34 H34 G34 rfl W37 4 rfl (Nat.le_of_ble_eq_true rfl)
  have K38 : Keep h0 h37 [] := K30.wr W37 (Or.inr sz_b1)
  have N39 := Fr.snoc X37 N31 g_b1
  show own_Ends p.tables e below s _ _ _ (T37.setTop (mkF m 35 #[.val (.int x0_0), .unset, .unset, .unset] [(.ref b1)]))
  refine own_step (fun t k => XS.dup X37.here hx rfl (hb hby at_35) rfl rfl k) ?_
  show own_Ends p.tables e below s _ _ _ (T37.setTop (mkF m 36 #[.val (.int x0_0), .unset, .unset, .unset] [(.ref b1), (.ref b1)]))
  refine own_step (fun t k => XS.iconst X37.here hx rfl (hb hby at_36) k) ?_
  show own_Ends p.tables e below s _ _ _ (T37.setTop (mkF m 37 #[.val (.int x0_0), .unset, .unset, .unset] [(.int (5 : Int32)), (.ref b1), (.ref b1)]))
  have O40 : Old Z n0 h37 := (O32.wr W37 g_b1)
  obtain ⟨T41, X41, e41, st41⟩ := getS2 X37 hx hZ hown (host := "") (Or.inl (hw _ (List.mem_of_getElem? (i := 14) rfl))) Via.refl e37 (S_UNION.ext O40.2) (g := (mkF m 37 #[.val (.int x0_0), .unset, .unset, .unset] [(.int (5 : Int32)), (.ref b1), (.ref b1)])) rfl (hb hby at_37)
  refine own_step (fun t k => st41 _ k) ?_
  show own_Ends p.tables e below s _ _ _ (T41.setTop (mkF m 40 #[.val (.int x0_0), .unset, .unset, .unset] [(.ref w_UNION), (.int (5 : Int32)), (.ref b1), (.ref b1)]))
  obtain ⟨cl42, Ar42, q42, S42, N42, H42, G42⟩ := id V37
  have hin42 : ¬ ((5 : Int32) < 0 ∨ cl42.slots.size ≤ ((5 : Int32)).toNatClampNeg) := inb_of S42 ⟨by decide, by decide⟩
  have F43 : Exa Z h14 w_UNION "com/example/idlect/idlect/core/Symbol$Container$Kind" := (((E_w_UNION.ext E1).wr W7).wr W14)
  have F44 : Exa Z h37 w_UNION "com/example/idlect/idlect/core/Symbol$Container$Kind" := (((F43.wr W21).wr W29).wr W37)
  obtain ⟨T45, h45, X45, e45, W45, st45⟩ := stR X41 hx hZ e41 Ar42 (j := (5 : Int32)) hin42 rfl (Sto.ofV Ar42 q42 O1 (Ins.self F44)) (g := (mkF m 40 #[.val (.int x0_0), .unset, .unset, .unset] [(.ref w_UNION), (.int (5 : Int32)), (.ref b1), (.ref b1)])) rfl rfl (hb hby at_40)
  refine own_step (fun t k => st45 _ k) ?_
  have V45 : Arv Z h45 b1 k1 (.object "com/example/idlect/idlect/core/Symbol$Container$Kind") (12 : Int32) [(.ref w_FILE), (.ref w_MODULE), (.ref w_INTERFACE), (.ref w_VALUE_TYPE), (.ref w_STRUCT), (.ref w_UNION), .null, .null, .null, .null, .null, .null] .null := Arv.set Ar42 q42 S42 N42 H42 G42 rfl W45 5 rfl (Nat.le_of_ble_eq_true rfl)
  have K46 : Keep h0 h45 [] := K38.wr W45 (Or.inr sz_b1)
  have N47 := Fr.snoc X45 N39 g_b1
  show own_Ends p.tables e below s _ _ _ (T45.setTop (mkF m 41 #[.val (.int x0_0), .unset, .unset, .unset] [(.ref b1)]))
  refine own_step (fun t k => XS.dup X45.here hx rfl (hb hby at_41) rfl rfl k) ?_
  show own_Ends p.tables e below s _ _ _ (T45.setTop (mkF m 42 #[.val (.int x0_0), .unset, .unset, .unset] [(.ref b1), (.ref b1)]))
  refine own_step (fun t k => XS.bipush X45.here hx rfl (hb hby at_42) k) ?_
  show own_Ends p.tables e below s _ _ _ (T45.setTop (mkF m 44 #[.val (.int x0_0), .unset, .unset, .unset] [(.int (6 : Int32)), (.ref b1), (.ref b1)]))
  have O48 : Old Z n0 h45 := (O40.wr W45 g_b1)
  obtain ⟨T49, X49, e49, st49⟩ := getS2 X45 hx hZ hown (host := "") (Or.inl (hw _ (List.mem_of_getElem? (i := 16) rfl))) Via.refl e45 (S_EXCEPTION.ext O48.2) (g := (mkF m 44 #[.val (.int x0_0), .unset, .unset, .unset] [(.int (6 : Int32)), (.ref b1), (.ref b1)])) rfl (hb hby at_44)
  refine own_step (fun t k => st49 _ k) ?_
  show own_Ends p.tables e below s _ _ _ (T49.setTop (mkF m 47 #[.val (.int x0_0), .unset, .unset, .unset] [(.ref w_EXCEPTION), (.int (6 : Int32)), (.ref b1), (.ref b1)]))
  obtain ⟨cl50, Ar50, q50, S50, N50, H50, G50⟩ := id V45
  have hin50 : ¬ ((6 : Int32) < 0 ∨ cl50.slots.size ≤ ((6 : Int32)).toNatClampNeg) := inb_of S50 ⟨by decide, by decide⟩
  have F51 : Exa Z h14 w_EXCEPTION "com/example/idlect/idlect/core/Symbol$Container$Kind" := (((E_w_EXCEPTION.ext E1).wr W7).wr W14)
  have F52 : Exa Z h37 w_EXCEPTION "com/example/idlect/idlect/core/Symbol$Container$Kind" := (((F51.wr W21).wr W29).wr W37)
  have F53 : Exa Z h45 w_EXCEPTION "com/example/idlect/idlect/core/Symbol$Container$Kind" := (F52.wr W45)
  obtain ⟨T54, h54, X54, e54, W54, st54⟩ := stR X49 hx hZ e49 Ar50 (j := (6 : Int32)) hin50 rfl (Sto.ofV Ar50 q50 O1 (Ins.self F53)) (g := (mkF m 47 #[.val (.int x0_0), .unset, .unset, .unset] [(.ref w_EXCEPTION), (.int (6 : Int32)), (.ref b1), (.ref b1)])) rfl rfl (hb hby at_47)
  refine own_step (fun t k => st54 _ k) ?_
  have V54 : Arv Z h54 b1 k1 (.object "com/example/idlect/idlect/core/Symbol$Container$Kind") (12 : Int32) [(.ref w_FILE), (.ref w_MODULE), (.ref w_INTERFACE), (.ref w_VALUE_TYPE), (.ref w_STRUCT), (.ref w_UNION), (.ref w_EXCEPTION), .null, .null, .null, .null, .null] .null := Arv.set Ar50 q50 S50 N50 H50 G50 rfl W54 6 rfl (Nat.le_of_ble_eq_true rfl)
  have K55 : Keep h0 h54 [] := K46.wr W54 (Or.inr sz_b1)
  have N56 := Fr.snoc X54 N47 g_b1
  show own_Ends p.tables e below s _ _ _ (T54.setTop (mkF m 48 #[.val (.int x0_0), .unset, .unset, .unset] [(.ref b1)]))
  refine own_step (fun t k => XS.dup X54.here hx rfl (hb hby at_48) rfl rfl k) ?_
  show own_Ends p.tables e below s _ _ _ (T54.setTop (mkF m 49 #[.val (.int x0_0), .unset, .unset, .unset] [(.ref b1), (.ref b1)]))
  refine own_step (fun t k => XS.bipush X54.here hx rfl (hb hby at_49) k) ?_
  show own_Ends p.tables e below s _ _ _ (T54.setTop (mkF m 51 #[.val (.int x0_0), .unset, .unset, .unset] [(.int (7 : Int32)), (.ref b1), (.ref b1)]))
  have O57 : Old Z n0 h54 := (O48.wr W54 g_b1)
  obtain ⟨T58, X58, e58, st58⟩ := getS2 X54 hx hZ hown (host := "") (Or.inl (hw _ (List.mem_of_getElem? (i := 18) rfl))) Via.refl e54 (S_OPERATION.ext O57.2) (g := (mkF m 51 #[.val (.int x0_0), .unset, .unset, .unset] [(.int (7 : Int32)), (.ref b1), (.ref b1)])) rfl (hb hby at_51)
  refine own_step (fun t k => st58 _ k) ?_
  show own_Ends p.tables e below s _ _ _ (T58.setTop (mkF m 54 #[.val (.int x0_0), .unset, .unset, .unset] [(.ref w_OPERATION), (.int (7 : Int32)), (.ref b1), (.ref b1)]))
  obtain ⟨cl59, Ar59, q59, S59, N59, H59, G59⟩ := id V54
  have hin59 : ¬ ((7 : Int32) < 0 ∨ cl59.slots.size ≤ ((7 : Int32)).toNatClampNeg) := inb_of S59 ⟨by decide, by decide⟩
  have F60 : Exa Z h14 w_OPERATION "com/example/idlect/idlect/core/Symbol$Container$Kind" := (((E_w_OPERATION.ext E1).wr W7).wr W14)
  have F61 : Exa Z h37 w_OPERATION "com/example/idlect/idlect/core/Symbol$Container$Kind" := (((F60.wr W21).wr W29).wr W37)
  have F62 : Exa Z h54 w_OPERATION "com/example/idlect/idlect/core/Symbol$Container$Kind" := ((F61.wr W45).wr W54)
  obtain ⟨T63, h63, X63, e63, W63, st63⟩ := stR X58 hx hZ e58 Ar59 (j := (7 : Int32)) hin59 rfl (Sto.ofV Ar59 q59 O1 (Ins.self F62)) (g := (mkF m 54 #[.val (.int x0_0), .unset, .unset, .unset] [(.ref w_OPERATION), (.int (7 : Int32)), (.ref b1), (.ref b1)])) rfl rfl (hb hby at_54)
  refine own_step (fun t k => st63 _ k) ?_
  have V63 : Arv Z h63 b1 k1 (.object "com/example/idlect/idlect/core/Symbol$Container$Kind") (12 : Int32) [(.ref w_FILE), (.ref w_MODULE), (.ref w_INTERFACE), (.ref w_VALUE_TYPE), (.ref w_STRUCT), (.ref w_UNION), (.ref w_EXCEPTION), (.ref w_OPERATION), .null, .null, .null, .null] .null := Arv.set Ar59 q59 S59 N59 H59 G59 rfl W63 7 rfl (Nat.le_of_ble_eq_true rfl)
  have K64 : Keep h0 h63 [] := K55.wr W63 (Or.inr sz_b1)
  have N65 := Fr.snoc X63 N56 g_b1
  show own_Ends p.tables e below s _ _ _ (T63.setTop (mkF m 55 #[.val (.int x0_0), .unset, .unset, .unset] [(.ref b1)]))
  refine own_step (fun t k => XS.dup X63.here hx rfl (hb hby at_55) rfl rfl k) ?_
  show own_Ends p.tables e below s _ _ _ (T63.setTop (mkF m 56 #[.val (.int x0_0), .unset, .unset, .unset] [(.ref b1), (.ref b1)]))
  refine own_step (fun t k => XS.bipush X63.here hx rfl (hb hby at_56) k) ?_
  show own_Ends p.tables e below s _ _ _ (T63.setTop (mkF m 58 #[.val (.int x0_0), .unset, .unset, .unset] [(.int (8 : Int32)), (.ref b1), (.ref b1)]))
  have O66 : Old Z n0 h63 := (O57.wr W63 g_b1)
  obtain ⟨T67, X67, e67, st67⟩ := getS2 X63 hx hZ hown (host := "") (Or.inl (hw _ (List.mem_of_getElem? (i := 20) rfl))) Via.refl e63 (S_FACTORY.ext O66.2) (g := (mkF m 58 #[.val (.int x0_0), .unset, .unset, .unset] [(.int (8 : Int32)), (.ref b1), (.ref b1)])) rfl (hb hby at_58)
  refine own_step (fun t k => st67 _ k) ?_
  show own_Ends p.tables e below s _ _ _ (T67.setTop (mkF m 61 #[.val (.int x0_0), .unset, .unset, .unset] [(.ref w_FACTORY), (.int (8 : Int32)), (.ref b1), (.ref b1)]))
  obtain ⟨cl68, Ar68, q68, S68, N68, H68, G68⟩ := id V63
  have hin68 : ¬ ((8 : Int32) < 0 ∨ cl68.slots.size ≤ ((8 : Int32)).toNatClampNeg) := inb_of S68 ⟨by decide, by decide⟩
  have F69 : Exa Z h14 w_FACTORY "com/example/idlect/idlect/core/Symbol$Container$Kind" := (((E_w_FACTORY.ext E1).wr W7).wr W14)
  have F70 : Exa Z h37 w_FACTORY "com/example/idlect/idlect/core/Symbol$Container$Kind" := (((F69.wr W21).wr W29).wr W37)
  have F71 : Exa Z h63 w_FACTORY "com/example/idlect/idlect/core/Symbol$Container$Kind" := (((F70.wr W45).wr W54).wr W63)
  obtain ⟨T72, h72, X72, e72, W72, st72⟩ := stR X67 hx hZ e67 Ar68 (j := (8 : Int32)) hin68 rfl (Sto.ofV Ar68 q68 O1 (Ins.self F71)) (g := (mkF m 61 #[.val (.int x0_0), .unset, .unset, .unset] [(.ref w_FACTORY), (.int (8 : Int32)), (.ref b1), (.ref b1)])) rfl rfl (hb hby at_61)
  refine own_step (fun t k => st72 _ k) ?_
  have V72 : Arv Z h72 b1 k1 (.object "com/example/idlect/idlect/core/Symbol$Container$Kind") (12 : Int32) [(.ref w_FILE), (.ref w_MODULE), (.ref w_INTERFACE), (.ref w_VALUE_TYPE), (.ref w_STRUCT), (.ref w_UNION), (.ref w_EXCEPTION), (.ref w_OPERATION), (.ref w_FACTORY), .null, .null, .null] .null := Arv.set Ar68 q68 S68 N68 H68 G68 rfl W72 8 rfl (Nat.le_of_ble_eq_true rfl)
  have K73 : Keep h0 h72 [] := K64.wr W72 (Or.inr sz_b1)
  have N74 := Fr.snoc X72 N65 g_b1
  show own_Ends p.tables e below s _ _ _ (T72.setTop (mkF m 62 #[.val (.int x0_0), .unset, .unset, .unset] [(.ref b1)]))
  refine own_step (fun t k => XS.dup X72.here hx rfl (hb hby at_62) rfl rfl k) ?_
  show own_Ends p.tables e below s _ _ _ (T72.setTop (mkF m 63 #[.val (.int x0_0), .unset, .unset, .unset] [(.ref b1), (.ref b1)]))
  refine own_step (fun t k => XS.bipush X72.here hx rfl (hb hby at_63) k) ?_
  show own_Ends p.tables e below s _ _ _ (T72.setTop (mkF m 65 #[.val (.int x0_0), .unset, .unset, .unset] [(.int (9 : Int32)), (.ref b1), (.ref b1)]))
  have O75 : Old Z n0 h72 := (O66.wr W72 g_b1)
  obtain ⟨T76, X76, e76, st76⟩ := getS2 X72 hx hZ hown (host := "") (Or.inl (hw _ (List.mem_of_getElem? (i := 22) rfl))) Via.refl e72 (S_COMPONENT.ext O75.2) (g := (mkF m 65 #[.val (.int x0_0), .unset, .unset, .unset] [(.int (9 : Int32)), (.ref b1), (.ref b1)])) rfl (hb hby at_65)
  refine own_step (fun t k => st76 _ k) ?_
  show own_Ends p.tables e below s _ _ _ (T76.setTop (mkF m 68 #[.val (.int x0_0), .unset, .unset, .unset] [(.ref w_COMPONENT), (.int (9 : Int32)), (.ref b1), (.ref b1)]))
  obtain ⟨cl77, Ar77, q77, S77, N77, H77, G77⟩ := id V72
  have hin77 : ¬ ((9 : Int32) < 0 ∨ cl77.slots.size ≤ ((9 : Int32)).toNatClampNeg) := inb_of S77 ⟨by decide, by decide⟩
  have F78 : Exa Z h14 w_COMPONENT "com/example/idlect/idlect/core/Symbol$Container$Kind" := (((E_w_COMPONENT.ext E1).wr W7).wr W14)
  have F79 : Exa Z h37 w_COMPONENT "com/example/idlect/idlect/core/Symbol$Container$Kind" := (((F78.wr W21).wr W29).wr W37)
  have F80 : Exa Z h63 w_COMPONENT "com/example/idlect/idlect/core/Symbol$Container$Kind" := (((F79.wr W45).wr W54).wr W63)
  have F81 : Exa Z h72 w_COMPONENT "com/example/idlect/idlect/core/Symbol$Container$Kind" := (F80.wr W72)
  obtain ⟨T82, h82, X82, e82, W82, st82⟩ := stR X76 hx hZ e76 Ar77 (j := (9 : Int32)) hin77 rfl (Sto.ofV Ar77 q77 O1 (Ins.self F81)) (g := (mkF m 68 #[.val (.int x0_0), .unset, .unset, .unset] [(.ref w_COMPONENT), (.int (9 : Int32)), (.ref b1), (.ref b1)])) rfl rfl (hb hby at_68)
  refine own_step (fun t k => st82 _ k) ?_
  have V82 : Arv Z h82 b1 k1 (.object "com/example/idlect/idlect/core/Symbol$Container$Kind") (12 : Int32) [(.ref w_FILE), (.ref w_MODULE), (.ref w_INTERFACE), (.ref w_VALUE_TYPE), (.ref w_STRUCT), (.ref w_UNION), (.ref w_EXCEPTION), (.ref w_OPERATION), (.ref w_FACTORY), (.ref w_COMPONENT), .null, .null] .null := Arv.set Ar77 q77 S77 N77 H77 G77 rfl W82 9 rfl (Nat.le_of_ble_eq_true rfl)
  have K83 : Keep h0 h82 [] := K73.wr W82 (Or.inr sz_b1)
  have N84 := Fr.snoc X82 N74 g_b1
  show own_Ends p.tables e below s _ _ _ (T82.setTop (mkF m 69 #[.val (.int x0_0), .unset, .unset, .unset] [(.ref b1)]))
  refine own_step (fun t k => XS.dup X82.here hx rfl (hb hby at_69) rfl rfl k) ?_
  show own_Ends p.tables e below s _ _ _ (T82.setTop (mkF m 70 #[.val (.int x0_0), .unset, .unset, .unset] [(.ref b1), (.ref b1)]))
  refine own_step (fun t k => XS.bipush X82.here hx rfl (hb hby at_70) k) ?_
  show own_Ends p.tables e below s _ _ _ (T82.setTop (mkF m 72 #[.val (.int x0_0), .unset, .unset, .unset] [(.int (10 : Int32)), (.ref b1), (.ref b1)]))
  have O85 : Old Z n0 h82 := (O75.wr W82 g_b1)
  obtain ⟨T86, X86, e86, st86⟩ := getS2 X82 hx hZ hown (host := "") (Or.inl (hw _ (List.mem_of_getElem? (i := 24) rfl))) Via.refl e82 (S_COMPONENT_INTERFACE.ext O85.2) (g := (mkF m 72 #[.val (.int x0_0), .unset, .unset, .unset] [(.int (10 : Int32)), (.ref b1), (.ref b1)])) rfl (hb hby at_72)
  refine own_step (fun t k => st86 _ k) ?_
  show own_Ends p.tables e below s _ _ _ (T86.setTop (mkF m 75 #[.val (.int x0_0), .unset, .unset, .unset] [(.ref w_COMPONENT_INTERFACE), (.int (10 : Int32)), (.ref b1), (.ref b1)]))
  obtain ⟨cl87, Ar87, q87, S87, N87, H87, G87⟩ := id V82
  have hin87 : ¬ ((10 : Int32) < 0 ∨ cl87.slots.size ≤ ((10 : Int32)).toNatClampNeg) := inb_of S87 ⟨by decide, by decide⟩
  have F88 : Exa Z h14 w_COMPONENT_INTERFACE "com/example/idlect/idlect/core/Symbol$Container$Kind" := (((E_w_COMPONENT_INTERFACE.ext E1).wr W7).wr W14)
  have F89 : Exa Z h37 w_COMPONENT_INTERFACE "com/example/idlect/idlect/core/Symbol$Container$Kind" := (((F88.wr W21).wr W29).wr W37)
  have F90 : Exa Z h63 w_COMPONENT_INTERFACE "com/example/idlect/idlect/core/Symbol$Container$Kind" := (((F89.wr W45).wr W54).wr W63)
  have F91 : Exa Z h82 w_COMPONENT_INTERFACE "com/example/idlect/idlect/core/Symbol$Container$Kind" := ((F90.wr W72).wr W82)
  obtain ⟨T92, h92, X92, e92, W92, st92⟩ := stR X86 hx hZ e86 Ar87 (j := (10 : Int32)) hin87 rfl (Sto.ofV Ar87 q87 O1 (Ins.self F91)) (g := (mkF m 75 #[.val (.int x0_0), .unset, .unset, .unset] [(.ref w_COMPONENT_INTERFACE), (.int (10 : Int32)), (.ref b1), (.ref b1)])) rfl rfl (hb hby at_75)
  refine own_step (fun t k => st92 _ k) ?_
  have V92 : Arv Z h92 b1 k1 (.object "com/example/idlect/idlect/core/Symbol$Container$Kind") (12 : Int32) [(.ref w_FILE), (.ref w_MODULE), (.ref w_INTERFACE), (.ref w_VALUE_TYPE), (.ref w_STRUCT), (.ref w_UNION), (.ref w_EXCEPTION), (.ref w_OPERATION), (.ref w_FACTORY), (.ref w_COMPONENT), (.ref w_COMPONENT_INTERFACE), .null] .null := Arv.set Ar87 q87 S87 N87 H87 G87 rfl W92 10 rfl (Nat.le_of_ble_eq_true rfl)
  have K93 : Keep h0 h92 [] := K83.wr W92 (Or.inr sz_b1)
  have N94 := Fr.snoc X92 N84 g_b1
  show own_Ends p.tables e below s _ _ _ (T92.setTop (mkF m 76 #[.val (.int x0_0), .unset, .unset, .unset] [(.ref b1)]))
  refine own_step (fun t k => XS.dup X92.here hx rfl (hb hby at_76) rfl rfl k) ?_
  show own_Ends p.tables e below s _ _ _ (T92.setTop (mkF m 77 #[.val (.int x0_0), .unset, .unset, .unset] [(.ref b1), (.ref b1)]))
  refine own_step (fun t k => XS.bipush X92.here hx rfl (hb hby at_77) k) ?_
  show own_Ends p.tables e below s _ _ _ (T92.setTop (mkF m 79 #[.val (.int x0_0), .unset, .unset, .unset] [(.int (11 : Int32)), (.ref b1), (.ref b1)]))
  have O95 : Old Z n0 h92 := (O85.wr W92 g_b1)
  obtain ⟨T96, X96, e96, st96⟩ := getS2 X92 hx hZ hown (host := "") (Or.inl (hw _ (List.mem_of_getElem? (i := 26) rfl))) Via.refl e92 (S_IDS.ext O95.2) (g := (mkF m 79 #[.val (.int x0_0), .unset, .unset, .unset] [(.int (11 : Int32)), (.ref b1), (.ref b1)])) rfl (hb hby at_79)
  refine own_step (fun t k => st96 _ k) ?_
  show own_Ends p.tables e below s _ _ _ (T96.setTop (mkF m 82 #[.val (.int x0_0), .unset, .unset, .unset] [(.ref w_IDS), (.int (11 : Int32)), (.ref b1), (.ref b1)]))
  obtain ⟨cl97, Ar97, q97, S97, N97, H97, G97⟩ := id V92
  have hin97 : ¬ ((11 : Int32) < 0 ∨ cl97.slots.size ≤ ((11 : Int32)).toNatClampNeg) := inb_of S97 ⟨by decide, by decide⟩
  have F98 : Exa Z h14 w_IDS "com/example/idlect/idlect/core/Symbol$Container$Kind" := (((E_w_IDS.ext E1).wr W7).wr W14)
  have F99 : Exa Z h37 w_IDS "com/example/idlect/idlect/core/Symbol$Container$Kind" := (((F98.wr W21).wr W29).wr W37)
  have F100 : Exa Z h63 w_IDS "com/example/idlect/idlect/core/Symbol$Container$Kind" := (((F99.wr W45).wr W54).wr W63)
  have F101 : Exa Z h92 w_IDS "com/example/idlect/idlect/core/Symbol$Container$Kind" := (((F100.wr W72).wr W82).wr W92)
  obtain ⟨T102, h102, X102, e102, W102, st102⟩ := stR X96 hx hZ e96 Ar97 (j := (11 : Int32)) hin97 rfl (Sto.ofV Ar97 q97 O1 (Ins.self F101)) (g := (mkF m 82 #[.val (.int x0_0), .unset, .unset, .unset] [(.ref w_IDS), (.int (11 : Int32)), (.ref b1), (.ref b1)])) rfl rfl (hb hby at_82)
  refine own_step (fun t k => st102 _ k) ?_
  have V102 : Arv Z h102 b1 k1 (.object "com/example/idlect/idlect/core/Symbol$Container$Kind") (12 : Int32) [(.ref w_FILE), (.ref w_MODULE), (.ref w_INTERFACE), (.ref w_VALUE_TYPE), (.ref w_STRUCT), (.ref w_UNION), (.ref w_EXCEPTION), (.ref w_OPERATION), (.ref w_FACTORY), (.ref w_COMPONENT), (.ref w_COMPONENT_INTERFACE), (.ref w_IDS)] .null := Arv.set Ar97 q97 S97 N97 H97 G97 rfl W102 11 rfl (Nat.le_of_ble_eq_true rfl)
  have K103 : Keep h0 h102 [] := K93.wr W102 (Or.inr sz_b1)
  have N104 := Fr.snoc X102 N94 g_b1
  show own_Ends p.tables e below s _ _ _ (T102.setTop (mkF m 83 #[.val (.int x0_0), .unset, .unset, .unset] [(.ref b1)]))
  refine own_step (fun t k => XS.astoreN X102.here hx rfl (hb hby at_83) rfl rfl (l' := #[.val (.int x0_0), .val (.ref b1), .unset, .unset]) rfl k) ?_
  show own_Ends p.tables e below s _ _ _ (T102.setTop (mkF m 84 #[.val (.int x0_0), .val (.ref b1), .unset, .unset] []))
  refine own_step (fun t k => XS.bipush X102.here hx rfl (hb hby at_84) k) ?_
  show own_Ends p.tables e below s _ _ _ (T102.setTop (mkF m 86 #[.val (.int x0_0), .val (.ref b1), .unset, .unset] [(.int (12 : Int32))]))
  have O105 : Old Z n0 h102 := (O95.wr W102 g_b1)
  have F106 : Exa Z h21 w_FILE "com/example/idlect/idlect/core/Symbol$Container$Kind" := (((F6.wr W7).wr W14).wr W21)
  have F107 : Exa Z h45 w_FILE "com/example/idlect/idlect/core/Symbol$Container$Kind" := (((F106.wr W29).wr W37).wr W45)
  have F108 : Exa Z h72 w_FILE "com/example/idlect/idlect/core/Symbol$Container$Kind" := (((F107.wr W54).wr W63).wr W72)
  have F109 : Exa Z h102 w_FILE "com/example/idlect/idlect/core/Symbol$Container$Kind" := (((F108.wr W82).wr W92).wr W102)
  have F110 : Exa Z h29 w_MODULE "com/example/idlect/idlect/core/Symbol$Container$Kind" := (((F13.wr W14).wr W21).wr W29)
  have F111 : Exa Z h54 w_MODULE "com/example/idlect/idlect/core/Symbol$Container$Kind" := (((F110.wr W37).wr W45).wr W54)
  have F112 : Exa Z h82 w_MODULE "com/example/idlect/idlect/core/Symbol$Container$Kind" := (((F111.wr W63).wr W72).wr W82)
  have F113 : Exa Z h102 w_MODULE "com/example/idlect/idlect/core/Symbol$Container$Kind" := ((F112.wr W92).wr W102)
  have F114 : Exa Z h37 w_INTERFACE "com/example/idlect/idlect/core/Symbol$Container$Kind" := (((F20.wr W21).wr W29).wr W37)
  have F115 : Exa Z h63 w_INTERFACE "com/example/idlect/idlect/core/Symbol$Container$Kind" := (((F114.wr W45).wr W54).wr W63)
  have F116 : Exa Z h92 w_INTERFACE "com/example/idlect/idlect/core/Symbol$Container$Kind" := (((F115.wr W72).wr W82).wr W92)
  have F117 : Exa Z h102 w_INTERFACE "com/example/idlect/idlect/core/Symbol$Container$Kind" := (F116.wr W102)
  have F118 : Exa Z h45 w_VALUE_TYPE "com/example/idlect/idlect/core/Symbol$Container$Kind" := (((F28.wr W29).wr W37).wr W45)
  have F119 : Exa Z h72 w_VALUE_TYPE "com/example/idlect/idlect/core/Symbol$Container$Kind" := (((F118.wr W54).wr W63).wr W72)
  have F120 : Exa Z h102 w_VALUE_TYPE "com/example/idlect/idlect/core/Symbol$Container$Kind" := (((F119.wr W82).wr W92).wr W102)
  have F121 : Exa Z h54 w_STRUCT "com/example/idlect/idlect/core/Symbol$Container$Kind" := (((F36.wr W37).wr W45).wr W54)
  have F122 : Exa Z h82 w_STRUCT "com/example/idlect/idlect/core/Symbol$Container$Kind" := (((F121.wr W63).wr W72).wr W82)
  have F123 : Exa Z h102 w_STRUCT "com/example/idlect/idlect/core/Symbol$Container$Kind" := ((F122.wr W92).wr W102)
  have F124 : Exa Z h63 w_UNION "com/example/idlect/idlect/core/Symbol$Container$Kind" := (((F44.wr W45).wr W54).wr W63)
  have F125 : Exa Z h92 w_UNION "com/example/idlect/idlect/core/Symbol$Container$Kind" := (((F124.wr W72).wr W82).wr W92)
  have F126 : Exa Z h102 w_UNION "com/example/idlect/idlect/core/Symbol$Container$Kind" := (F125.wr W102)
  have F127 : Exa Z h72 w_EXCEPTION "com/example/idlect/idlect/core/Symbol$Container$Kind" := (((F53.wr W54).wr W63).wr W72)
  have F128 : Exa Z h102 w_EXCEPTION "com/example/idlect/idlect/core/Symbol$Container$Kind" := (((F127.wr W82).wr W92).wr W102)
  have F129 : Exa Z h82 w_OPERATION "com/example/idlect/idlect/core/Symbol$Container$Kind" := (((F62.wr W63).wr W72).wr W82)
  have F130 : Exa Z h102 w_OPERATION "com/example/idlect/idlect/core/Symbol$Container$Kind" := ((F129.wr W92).wr W102)
  have F131 : Exa Z h92 w_FACTORY "com/example/idlect/idlect/core/Symbol$Container$Kind" := (((F71.wr W72).wr W82).wr W92)
  have F132 : Exa Z h102 w_FACTORY "com/example/idlect/idlect/core/Symbol$Container$Kind" := (F131.wr W102)
  have F133 : Exa Z h102 w_COMPONENT "com/example/idlect/idlect/core/Symbol$Container$Kind" := (((F81.wr W82).wr W92).wr W102)
  have F134 : Exa Z h102 w_COMPONENT_INTERFACE "com/example/idlect/idlect/core/Symbol$Container$Kind" := ((F91.wr W92).wr W102)
  have F135 : Exa Z h102 w_IDS "com/example/idlect/idlect/core/Symbol$Container$Kind" := (F101.wr W102)
  obtain ⟨T136, h136, k136, X136, e136, E136, A136, st136⟩ := newP X102 hx hZ (hw _ (List.mem_of_getElem? (i := 28) rfl)) e102 (g := (mkF m 86 #[.val (.int x0_0), .val (.ref b1), .unset, .unset] [(.int (12 : Int32))])) rfl (hb hby at_86) rfl (by decide) (cap := 12) (by decide) (by decide) (by decide) (by decide)
  obtain ⟨b136, g136⟩ : ∃ z, z = h102.size := ⟨_, rfl⟩
  rw [← g136] at A136 st136
  have g_b136 : n0 ≤ b136 := Nat.le_trans (Nat.le_trans (Nat.le_of_eq O105.1.symm) O105.2.1) (Nat.le_of_eq g136.symm)
  have sz_b136 : h0.size ≤ b136 := Nat.le_trans K103.1 (Nat.le_of_eq g136.symm)
  have ne_b1_b136 : b1 ≠ b136 := Nat.ne_of_lt (Nat.lt_of_lt_of_le V102.lt (Nat.le_of_eq g136.symm))
  have ne_w_FILE_b136 : w_FILE ≠ b136 := Nat.ne_of_lt (Nat.lt_of_lt_of_le F109.lt (Nat.le_of_eq g136.symm))
  have ne_w_MODULE_b136 : w_MODULE ≠ b136 := Nat.ne_of_lt (Nat.lt_of_lt_of_le F113.lt (Nat.le_of_eq g136.symm))
  have ne_w_INTERFACE_b136 : w_INTERFACE ≠ b136 := Nat.ne_of_lt (Nat.lt_of_lt_of_le F117.lt (Nat.le_of_eq g136.symm))
  have ne_w_VALUE_TYPE_b136 : w_VALUE_TYPE ≠ b136 := Nat.ne_of_lt (Nat.lt_of_lt_of_le F120.lt (Nat.le_of_eq g136.symm))
  have ne_w_STRUCT_b136 : w_STRUCT ≠ b136 := Nat.ne_of_lt (Nat.lt_of_lt_of_le F123.lt (Nat.le_of_eq g136.symm))
  have ne_w_UNION_b136 : w_UNION ≠ b136 := Nat.ne_of_lt (Nat.lt_of_lt_of_le F126.lt (Nat.le_of_eq g136.symm))
  have ne_w_EXCEPTION_b136 : w_EXCEPTION ≠ b136 := Nat.ne_of_lt (Nat.lt_of_lt_of_le F128.lt (Nat.le_of_eq g136.symm))
  have ne_w_OPERATION_b136 : w_OPERATION ≠ b136 := Nat.ne_of_lt (Nat.lt_of_lt_of_le F130.lt (Nat.le_of_eq g136.symm))
  have ne_w_FACTORY_b136 : w_FACTORY ≠ b136 := Nat.ne_of_lt (Nat.lt_of_lt_of_le F132.lt (Nat.le_of_eq g136.symm))
  have ne_w_COMPONENT_b136 : w_COMPONENT ≠ b136 := Nat.ne_of_lt (Nat.lt_of_lt_of_le F133.lt (Nat.le_of_eq g136.symm))
  have ne_w_COMPONENT_INTERFACE_b136 : w_COMPONENT_INTERFACE ≠ b136 := Nat.ne_of_lt (Nat.lt_of_lt_of_le F134.lt (Nat.le_of_eq g136.symm))
  have ne_w_IDS_b136 : w_IDS ≠ b136 := Nat.ne_of_lt (Nat.lt_of_lt_of_le F135.lt (Nat.le_of_eq g136.symm))
  have V136 : Arv Z h136 b136 k136 .boolean (12 : Int32) [] (.int (0 : Int32)) := Arv.new A136 (by decide)
  have V136p : Arv Z h136 b136 k136 .boolean (12 : Int32) [(.int (0 : Int32)), (.int (0 : Int32)), (.int (0 : Int32)), (.int (0 : Int32)), (.int (0 : Int32)), (.int (0 : Int32)), (.int (0 : Int32)), (.int (0 : Int32)), (.int (0 : Int32)), (.int (0 : Int32)), (.int (0 : Int32)), (.int (0 : Int32))] (.int (0 : Int32)) := V136.pad (pad_rep [] (.int (0 : Int32)) 12)
  refine own_step (fun t k => st136 _ k) ?_
  have K137 : Keep h0 h136 [] := K103.ext E136
  show own_Ends p.tables e below s _ _ _ (T136.setTop (mkF m 88 #[.val (.int x0_0), .val (.ref b1), .unset, .unset] [(.ref b136)]))
  refine own_step (fun t k => XS.dup X136.here hx rfl (hb hby at_88) rfl rfl k) ?_
  show own_Ends p.tables e below s _ _ _ (T136.setTop (mkF m 89 #[.val (.int x0_0), .val (.ref b1), .unset, .unset] [(.ref b136), (.ref b136)]))
  refine own_step (fun t k => XS.iconst X136.here hx rfl (hb hby at_89) k) ?_
  show own_Ends p.tables e below s _ _ _ (T136.setTop (mkF m 90 #[.val (.int x0_0), .val (.ref b1), .unset, .unset] [(.int (0 : Int32)), (.ref b136), (.ref b136)]))
  refine own_step (fun t k => XS.iconst X136.here hx rfl (hb hby at_90) k) ?_
  show own_Ends p.tables e below s _ _ _ (T136.setTop (mkF m 91 #[.val (.int x0_0), .val (.ref b1), .unset, .unset] [(.int (0 : Int32)), (.int (0 : Int32)), (.ref b136), (.ref b136)]))
  obtain ⟨cl138, Ar138, q138, S138, N138, H138, G138⟩ := id V136p
  have hin138 : ¬ ((0 : Int32) < 0 ∨ cl138.slots.size ≤ ((0 : Int32)).toNatClampNeg) := inb_of S138 ⟨by decide, by decide⟩
  obtain ⟨T139, h139, X139, e139, W139, st139⟩ := stZ X136 hx hZ e136 Ar138 (j := (0 : Int32)) hin138 (g := (mkF m 91 #[.val (.int x0_0), .val (.ref b1), .unset, .unset] [(.int (0 : Int32)), (.int (0 : Int32)), (.ref b136), (.ref b136)])) rfl rfl (hb hby at_91)
  refine own_step (fun t k => st139 _ k) ?_
  have V139 : Arv Z h139 b136 k136 .boolean (12 : Int32) [(.int (0 : Int32)), (.int (0 : Int32)), (.int (0 : Int32)), (.int (0 : Int32)), (.int (0 : Int32)), (.int (0 : Int32)), (.int (0 : Int32)), (.int (0 : Int32)), (.int (0 : Int32)), (.int (0 : Int32)), (.int (0 : Int32)), (.int (0 : Int32))] (.int (0 : Int32)) := Arv.set Ar138 q138 S138 N138 H138 G138 (fits_nar_bool _) W139 0 rfl (Nat.le_of_ble_eq_true rfl)
  have K140 : Keep h0 h139 [] := K137.wr W139 (Or.inr sz_b136)
  have N141 := Fr.snoc X139 N104 g_b136
  show own_Ends p.tables e below s _ _ _ (T139.setTop (mkF m 92 #[.val (.int x0_0), .val (.ref b1), .unset, .unset] [(.ref b136)]))
  refine own_step (fun t k => XS.dup X139.here hx rfl (hb hby at_92) rfl rfl k) ?_
  show own_Ends p.tables e below s _ _ _ (T139.setTop (mkF m 93 #[.val (.int x0_0), .val (.ref b1), .unset, .unset] [(.ref b136), (.ref b136)]))
  refine own_step (fun t k => XS.iconst X139.here hx rfl (hb hby at_93) k) ?_
  show own_Ends p.tables e below s _ _ _ (T139.setTop (mkF m 94 #[.val (.int x0_0), .val (.ref b1), .unset, .unset] [(.int (1 : Int32)), (.ref b136), (.ref b136)]))
  refine own_step (fun t k => XS.iconst X139.here hx rfl (hb hby at_94) k) ?_
  show own_Ends p.tables e below s _ _ _ (T139.setTop (mkF m 95 #[.val (.int x0_0), .val (.ref b1), .unset, .unset] [(.int (0 : Int32)), (.int (1 : Int32)), (.ref b136), (.ref b136)]))
  obtain ⟨cl142, Ar142, q142, S142, N142, H142, G142⟩ := id V139
  have hin142 : ¬ ((1 : Int32) < 0 ∨ cl142.slots.size ≤ ((1 : Int32)).toNatClampNeg) := inb_of S142 ⟨by decide, by decide⟩
  obtain ⟨T143, h143, X143, e143, W143, st143⟩ := stZ X139 hx hZ e139 Ar142 (j := (1 : Int32)) hin142 (g := (mkF m 95 #[.val (.int x0_0), .val (.ref b1), .unset, .unset] [(.int (0 : Int32)), (.int (1 : Int32)), (.ref b136), (.ref b136)])) rfl rfl (hb hby at_95)
  refine own_step (fun t k => st143 _ k) ?_
  have V143 : Arv Z h143 b136 k136 .boolean (12 : Int32) [(.int (0 : Int32)), (.int (0 : Int32)), (.int (0 : Int32)), (.int (0 : Int32)), (.int (0 : Int32)), (.int (0 : Int32)), (.int (0 : Int32)), (.int (0 : Int32)), (.int (0 : Int32)), (.int (0 : Int32)), (.int (0 : Int32)), (.int (0 : Int32))] (.int (0 : Int32)) := Arv.set Ar142 q142 S142 N142 H142 G142 (fits_nar_bool _) W143 1 rfl (Nat.le_of_ble_eq_true rfl)
  have K144 : Keep h0 h143 [] := K140.wr W143 (Or.inr sz_b136)
  have N145 := Fr.snoc X143 N141 g_b136
  show own_Ends p.tables e below s _ _ _ (T143.setTop (mkF m 96 #[.val (.int x0_0), .val (.ref b1), .unset, .unset] [(.ref b136)]))
  refine own_step (fun t k => XS.dup X143.here hx rfl (hb hby at_96) rfl rfl k) ?_
  show own_Ends p.tables e below s _ _ _ (T143.setTop (mkF m 97 #[.val (.int x0_0), .val (.ref b1), .unset, .unset] [(.ref b136), (.ref b136)]))
  refine own_step (fun t k => XS.iconst X143.here hx rfl (hb hby at_97) k) ?_
  show own_Ends p.tables e below s _ _ _ (T143.setTop (mkF m 98 #[.val (.int x0_0), .val (.ref b1), .unset, .unset] [(.int (2 : Int32)), (.ref b136), (.ref b136)]))
  refine own_step (fun t k => XS.iconst X143.here hx rfl (hb hby at_98) k) ?_
  show own_Ends p.tables e below s _ _ _ (T143.setTop (mkF m 99 #[.val (.int x0_0), .val (.ref b1), .unset, .unset] [(.int (1 : Int32)), (.int (2 : Int32)), (.ref b136), (.ref b136)]))
  obtain ⟨cl146, Ar146, q146, S146, N146, H146, G146⟩ := id V143
  have hin146 : ¬ ((2 : Int32) < 0 ∨ cl146.slots.size ≤ ((2 : Int32)).toNatClampNeg) := inb_of S146 ⟨by decide, by decide⟩
  obtain ⟨T147, h147, X147, e147, W147, st147⟩ := stZ X143 hx hZ e143 Ar146 (j := (2 : Int32)) hin146 (g := (mkF m 99 #[.val (.int x0_0), .val (.ref b1), .unset, .unset] [(.int (1 : Int32)), (.int (2 : Int32)), (.ref b136), (.ref b136)])) rfl rfl (hb hby at_99)
  refine own_step (fun t k => st147 _ k) ?_
  have V147 : Arv Z h147 b136 k136 .boolean (12 : Int32) [(.int (0 : Int32)), (.int (0 : Int32)), (.int (1 : Int32)), (.int (0 : Int32)), (.int (0 : Int32)), (.int (0 : Int32)), (.int (0 : Int32)), (.int (0 : Int32)), (.int (0 : Int32)), (.int (0 : Int32)), (.int (0 : Int32)), (.int (0 : Int32))] (.int (0 : Int32)) := Arv.set Ar146 q146 S146 N146 H146 G146 (fits_nar_bool _) W147 2 rfl (Nat.le_of_ble_eq_true rfl)
  have K148 : Keep h0 h147 [] := K144.wr W147 (Or.inr sz_b136)
  have N149 := Fr.snoc X147 N145 g_b136
  show own_Ends p.tables e below s _ _ _ (T147.setTop (mkF m 100 #[.val (.int x0_0), .val (.ref b1), .unset, .unset] [(.ref b136)]))
  refine own_step (fun t k => XS.dup X147.here hx rfl (hb hby at_100) rfl rfl k) ?_
  show own_Ends p.tables e below s _ _ _ (T147.setTop (mkF m 101 #[.val (.int x0_0), .val (.ref b1), .unset, .unset] [(.ref b136), (.ref b136)]))
  refine own_step (fun t k => XS.iconst X147.here hx rfl (hb hby at_101) k) ?_
  show own_Ends p.tables e below s _ _ _ (T147.setTop (mkF m 102 #[.val (.int x0_0), .val (.ref b1), .unset, .unset] [(.int (3 : Int32)), (.ref b136), (.ref b136)]))
  refine own_step (fun t k => XS.iconst X147.here hx rfl (hb hby at_102) k) ?_
  show own_Ends p.tables e below s _ _ _ (T147.setTop (mkF m 103 #[.val (.int x0_0), .val (.ref b1), .unset, .unset] [(.int (1 : Int32)), (.int (3 : Int32)), (.ref b136), (.ref b136)]))
  obtain ⟨cl150, Ar150, q150, S150, N150, H150, G150⟩ := id V147
  have hin150 : ¬ ((3 : Int32) < 0 ∨ cl150.slots.size ≤ ((3 : Int32)).toNatClampNeg) := inb_of S150 ⟨by decide, by decide⟩
  obtain ⟨T151, h151, X151, e151, W151, st151⟩ := stZ X147 hx hZ e147 Ar150 (j := (3 : Int32)) hin150 (g := (mkF m 103 #[.val (.int x0_0), .val (.ref b1), .unset, .unset] [(.int (1 : Int32)), (.int (3 : Int32)), (.ref b136), (.ref b136)])) rfl rfl (hb hby at_103)
  refine own_step (fun t k => st151 _ k) ?_
  have V151 : Arv Z h151 b136 k136 .boolean (12 : Int32) [(.int (0 : Int32)), (.int (0 : Int32)), (.int (1 : Int32)), (.int (1 : Int32)), (.int (0 : Int32)), (.int (0 : Int32)), (.int (0 : Int32)), (.int (0 : Int32)), (.int (0 : Int32)), (.int (0 : Int32)), (.int (0 : Int32)), (.int (0 : Int32))] (.int (0 : Int32)) := Arv.set Ar150 q150 S150 N150 H150 G150 (fits_nar_bool _) W151 3 rfl (Nat.le_of_ble_eq_true rfl)
  have K152 : Keep h0 h151 [] := K148.wr W151 (Or.inr sz_b136)
  have N153 := Fr.snoc X151 N149 g_b136
  show own_Ends p.tables e below s _ _ _ (T151.setTop (mkF m 104 #[.val (.int x0_0), .val (.ref b1), .unset, .unset] [(.ref b136)]))
  refine own_step (fun t k => XS.dup X151.here hx rfl (hb hby at_104) rfl rfl k) ?_
  show own_Ends p.tables e below s _ _ _ (T151.setTop (mkF m 105 #[.val (.int x0_0), .val (.ref b1), .unset, .unset] [(.ref b136), (.ref b136)]))
  refine own_step (fun t k => XS.iconst X151.here hx rfl (hb hby at_105) k) ?_
  show own_Ends p.tables e below s _ _ _ (T151.setTop (mkF m 106 #[.val (.int x0_0), .val (.ref b1), .unset, .unset] [(.int (4 : Int32)), (.ref b136), (.ref b136)]))
  refine own_step (fun t k => XS.iconst X151.here hx rfl (hb hby at_106) k) ?_
  show own_Ends p.tables e below s _ _ _ (T151.setTop (mkF m 107 #[.val (.int x0_0), .val (.ref b1), .unset, .unset] [(.int (1 : Int32)), (.int (4 : Int32)), (.ref b136), (.ref b136)]))
  obtain ⟨cl154, Ar154, q154, S154, N154, H154, G154⟩ := id V151
  have hin154 : ¬ ((4 : Int32) < 0 ∨ cl154.slots.size ≤ ((4 : Int32)).toNatClampNeg) := inb_of S154 ⟨by decide, by decide⟩
  obtain ⟨T155, h155, X155, e155, W155, st155⟩ := stZ X151 hx hZ e151 Ar154 (j := (4 : Int32)) hin154 (g := (mkF m 107 #[.val (.int x0_0), .val (.ref b1), .unset, .unset] [(.int (1 : Int32)), (.int (4 : Int32)), (.ref b136), (.ref b136)])) rfl rfl (hb hby at_107)
  refine own_step (fun t k => st155 _ k) ?_
  have V155 : Arv Z h155 b136 k136 .boolean (12 : Int32) [(.int (0 : Int32)), (.int (0 : Int32)), (.int (1 : Int32)), (.int (1 : Int32)), (.int (1 : Int32)), (.int (0 : Int32)), (.int (0 : Int32)), (.int (0 : Int32)), (.int (0 : Int32)), (.int (0 : Int32)), (.int (0 : Int32)), (.int (0 : Int32))] (.int (0 : Int32)) := Arv.set Ar154 q154 S154 N154 H154 G154 (fits_nar_bool _) W155 4 rfl (Nat.le_of_ble_eq_true rfl)
  have K156 : Keep h0 h155 [] := K152.wr W155 (Or.inr sz_b136)
  have N157 := Fr.snoc X155 N153 g_b136
  show own_Ends p.tables e below s _ _ _ (T155.setTop (mkF m 108 #[.val (.int x0_0), .val (.ref b1), .unset, .unset] [(.ref b136)]))
  refine own_step (fun t k => XS.dup X155.here hx rfl (hb hby at_108) rfl rfl k) ?_
  show own_Ends p.tables e below s _ _ _ (T155.setTop (mkF m 109 #[.val (.int x0_0), .val (.ref b1), .unset, .unset] [(.ref b136), (.ref b136)]))
  refine own_step (fun t k => XS.iconst X155.here hx rfl (hb hby at_109) k) ?_
  show own_Ends p.tables e below s _ _ _ (T155.setTop (mkF m 110 #[.val (.int x0_0), .val (.ref b1), .unset, .unset] [(.int (5 : Int32)), (.ref b136), (.ref b136)]))
  refine own_step (fun t k => XS.iconst X155.here hx rfl (hb hby at_110) k) ?_
  show own_Ends p.tables e below s _ _ _ (T155.setTop (mkF m 111 #[.val (.int x0_0), .val (.ref b1), .unset, .unset] [(.int (1 : Int32)), (.int (5 : Int32)), (.ref b136), (.ref b136)]))
  obtain ⟨cl158, Ar158, q158, S158, N158, H158, G158⟩ := id V155
  have hin158 : ¬ ((5 : Int32) < 0 ∨ cl158.slots.size ≤ ((5 : Int32)).toNatClampNeg) := inb_of S158 ⟨by decide, by decide⟩
  obtain ⟨T159, h159, X159, e159, W159, st159⟩ := stZ X155 hx hZ e155 Ar158 (j := (5 : Int32)) hin158 (g := (mkF m 111 #[.val (.int x0_0), .val (.ref b1), .unset, .unset] [(.int (1 : Int32)), (.int (5 : Int32)), (.ref b136), (.ref b136)])) rfl rfl (hb hby at_111)
  refine own_step (fun t k => st159 _ k) ?_
  have V159 : Arv Z h159 b136 k136 .boolean (12 : Int32) [(.int (0 : Int32)), (.int (0 : Int32)), (.int (1 : Int32)), (.int (1 : Int32)), (.int (1 : Int32)), (.int (1 : Int32)), (.int (0 : Int32)), (.int (0 : Int32)), (.int (0 : Int32)), (.int (0 : Int32)), (.int (0 : Int32)), (.int (0 : Int32))] (.int (0 : Int32)) := Arv.set Ar158 q158 S158 N158 H158 G158 (fits_nar_bool _) W159 5 rfl (Nat.le_of_ble_eq_true rfl)
  have K160 : Keep h0 h159 [] := K156.wr W159 (Or.inr sz_b136)
  have N161 := Fr.snoc X159 N157 g_b136
  show own_Ends p.tables e below s _ _ _ (T159.setTop (mkF m 112 #[.val (.int x0_0), .val (.ref b1), .unset, .unset] [(.ref b136)]))
  refine own_step (fun t k => XS.dup X159.here hx rfl (hb hby at_112) rfl rfl k) ?_
  show own_Ends p.tables e below s _ _ _ (T159.setTop (mkF m 113 #[.val (.int x0_0), .val (.ref b1), .unset, .unset] [(.ref b136), (.ref b136)]))
  refine own_step (fun t k => XS.bipush X159.here hx rfl (hb hby at_113) k) ?_
  show own_Ends p.tables e below s _ _ _ (T159.setTop (mkF m 115 #[.val (.int x0_0), .val (.ref b1), .unset, .unset] [(.int (6 : Int32)), (.ref b136), (.ref b136)]))
  refine own_step (fun t k => XS.iconst X159.here hx rfl (hb hby at_115) k) ?_
  show own_Ends p.tables e below s _ _ _ (T159.setTop (mkF m 116 #[.val (.int x0_0), .val (.ref b1), .unset, .unset] [(.int (0 : Int32)), (.int (6 : Int32)), (.ref b136), (.ref b136)]))
  obtain ⟨cl162, Ar162, q162, S162, N162, H162, G162⟩ := id V159
  have hin162 : ¬ ((6 : Int32) < 0 ∨ cl162.slots.size ≤ ((6 : Int32)).toNatClampNeg) := inb_of S162 ⟨by decide, by decide⟩
  obtain ⟨T163, h163, X163, e163, W163, st163⟩ := stZ X159 hx hZ e159 Ar162 (j := (6 : Int32)) hin162 (g := (mkF m 116 #[.val (.int x0_0), .val (.ref b1), .unset, .unset] [(.int (0 : Int32)), (.int (6 : Int32)), (.ref b136), (.ref b136)])) rfl rfl (hb hby at_116)
  refine own_step (fun t k => st163 _ k) ?_
  have V163 : Arv Z h163 b136 k136 .boolean (12 : Int32) [(.int (0 : Int32)), (.int (0 : Int32)), (.int (1 : Int32)), (.int (1 : Int32)), (.int (1 : Int32)), (.int (1 : Int32)), (.int (0 : Int32)), (.int (0 : Int32)), (.int (0 : Int32)), (.int (0 : Int32)), (.int (0 : Int32)), (.int (0 : Int32))] (.int (0 : Int32)) := Arv.set Ar162 q162 S162 N162 H162 G162 (fits_nar_bool _) W163 6 rfl (Nat.le_of_ble_eq_true rfl)
  have K164 : Keep h0 h163 [] := K160.wr W163 (Or.inr sz_b136)
  have N165 := Fr.snoc X163 N161 g_b136
  show own_Ends p.tables e below s _ _ _ (T163.setTop (mkF m 117 #[.val (.int x0_0), .val (.ref b1), .unset, .unset] [(.ref b136)]))
  refine own_step (fun t k => XS.dup X163.here hx rfl (hb hby at_117) rfl rfl k) ?_
  show own_Ends p.tables e below s _ _ _ (T163.setTop (mkF m 118 #[.val (.int x0_0), .val (.ref b1), .unset, .unset] [(.ref b136), (.ref b136)]))
  refine own_step (fun t k => XS.bipush X163.here hx rfl (hb hby at_118) k) ?_
  show own_Ends p.tables e below s _ _ _ (T163.setTop (mkF m 120 #[.val (.int x0_0), .val (.ref b1), .unset, .unset] [(.int (7 : Int32)), (.ref b136), (.ref b136)]))
  refine own_step (fun t k => XS.iconst X163.here hx rfl (hb hby at_120) k) ?_
  show own_Ends p.tables e below s _ _ _ (T163.setTop (mkF m 121 #[.val (.int x0_0), .val (.ref b1), .unset, .unset] [(.int (0 : Int32)), (.int (7 : Int32)), (.ref b136), (.ref b136)]))
  obtain ⟨cl166, Ar166, q166, S166, N166, H166, G166⟩ := id V163
  have hin166 : ¬ ((7 : Int32) < 0 ∨ cl166.slots.size ≤ ((7 : Int32)).toNatClampNeg) := inb_of S166 ⟨by decide, by decide⟩
  obtain ⟨T167, h167, X167, e167, W167, st167⟩ := stZ X163 hx hZ e163 Ar166 (j := (7 : Int32)) hin166 (g := (mkF m 121 #[.val (.int x0_0), .val (.ref b1), .unset, .unset] [(.int (0 : Int32)), (.int (7 : Int32)), (.ref b136), (.ref b136)])) rfl rfl (hb hby at_121)
  refine own_step (fun t k => st167 _ k) ?_
  have V167 : Arv Z h167 b136 k136 .boolean (12 : Int32) [(.int (0 : Int32)), (.int (0 : Int32)), (.int (1 : Int32)), (.int (1 : Int32)), (.int (1 : Int32)), (.int (1 : Int32)), (.int (0 : Int32)), (.int (0 : Int32)), (.int (0 : Int32)), (.int (0 : Int32)), (.int (0 : Int32)), (.int (0 : Int32))] (.int (0 : Int32)) := Arv.set Ar166 q166 S166 N166 H166 G166 (fits_nar_bool _) W167 7 rfl (Nat.le_of_ble_eq_true rfl)
  have K168 : Keep h0 h167 [] := K164.wr W167 (Or.inr sz_b136)
  have N169 := Fr.snoc X167 N165 g_b136
  show own_Ends p.tables e below s _ _ _ (T167.setTop (mkF m 122 #[.val (.int x0_0), .val (.ref b1), .unset, .unset] [(.ref b136)]))
  refine own_step (fun t k => XS.dup X167.here hx rfl (hb hby at_122) rfl rfl k) ?_
  show own_Ends p.tables e below s _ _ _ (T167.setTop (mkF m 123 #[.val (.int x0_0), .val (.ref b1), .unset, .unset] [(.ref b136), (.ref b136)]))
  refine own_step (fun t k => XS.bipush X167.here hx rfl (hb hby at_123) k) ?_
  show own_Ends p.tables e below s _ _ _ (T167.setTop (mkF m 125 #[.val (.int x0_0), .val (.ref b1), .unset, .unset] [(.int (8 : Int32)), (.ref b136), (.ref b136)]))
  refine own_step (fun t k => XS.iconst X167.here hx rfl (hb hby at_125) k) ?_
  show own_Ends p.tables e below s _ _ _ (T167.setTop (mkF m 126 #[.val (.int x0_0), .val (.ref b1), .unset, .unset] [(.int (0 : Int32)), (.int (8 : Int32)), (.ref b136), (.ref b136)]))
  obtain ⟨cl170, Ar170, q170, S170, N170, H170, G170⟩ := id V167
  have hin170 : ¬ ((8 : Int32) < 0 ∨ cl170.slots.size ≤ ((8 : Int32)).toNatClampNeg) := inb_of S170 ⟨by decide, by decide⟩
  obtain ⟨T171, h171, X171, e171, W171, st171⟩ := stZ X167 hx hZ e167 Ar170 (j := (8 : Int32)) hin170 (g := (mkF m 126 #[.val (.int x0_0), .val (.ref b1), .unset, .unset] [(.int (0 : Int32)), (.int (8 : Int32)), (.ref b136), (.ref b136)])) rfl rfl (hb hby at_126)
  refine own_step (fun t k => st171 _ k) ?_
  have V171 : Arv Z h171 b136 k136 .boolean (12 : Int32) [(.int (0 : Int32)), (.int (0 : Int32)), (.int (1 : Int32)), (.int (1 : Int32)), (.int (1 : Int32)), (.int (1 : Int32)), (.int (0 : Int32)), (.int (0 : Int32)), (.int (0 : Int32)), (.int (0 : Int32)), (.int (0 : Int32)), (.int (0 : Int32))] (.int (0 : Int32)) := Arv.set Ar170 q170 S170 N170 H170 G170 (fits_nar_bool _) W171 8 rfl (Nat.le_of_ble_eq_true rfl)
  have K172 : Keep h0 h171 [] := K168.wr W171 (Or.inr sz_b136)
  have N173 := Fr.snoc X171 N169 g_b136
  show own_Ends p.tables e below s _ _ _ (T171.setTop (mkF m 127 #[.val (.int x0_0), .val (.ref b1), .unset, .unset] [(.ref b136)]))
  refine own_step (fun t k => XS.dup X171.here hx rfl (hb hby at_127) rfl rfl k) ?_
  show own_Ends p.tables e below s _ _ _ (T171.setTop (mkF m 128 #[.val (.int x0_0), .val (.ref b1), .unset, .unset] [(.ref b136), (.ref b136)]))
  refine own_step (fun t k => XS.bipush X171.here hx rfl (hb hby at_128) k) ?_
  show own_Ends p.tables e below s _ _ _ (T171.setTop (mkF m 130 #[.val (.int x0_0), .val (.ref b1), .unset, .unset] [(.int (9 : Int32)), (.ref b136), (.ref b136)]))
  refine own_step (fun t k => XS.iconst X171.here hx rfl (hb hby at_130) k) ?_
  show own_Ends p.tables e below s _ _ _ (T171.setTop (mkF m 131 #[.val (.int x0_0), .val (.ref b1), .unset, .unset] [(.int (0 : Int32)), (.int (9 : Int32)), (.ref b136), (.ref b136)]))
  obtain ⟨cl174, Ar174, q174, S174, N174, H174, G174⟩ := id V171
  have hin174 : ¬ ((9 : Int32) < 0 ∨ cl174.slots.size ≤ ((9 : Int32)).toNatClampNeg) := inb_of S174 ⟨by decide, by decide⟩
  obtain ⟨T175, h175, X175, e175, W175, st175⟩ := stZ X171 hx hZ e171 Ar174 (j := (9 : Int32)) hin174 (g := (mkF m 131 #[.val (.int x0_0), .val (.ref b1), .unset, .unset] [(.int (0 : Int32)), (.int (9 : Int32)), (.ref b136), (.ref b136)])) rfl rfl (hb hby at_131)
  refine own_step (fun t k => st175 _ k) ?_
  have V175 : Arv Z h175 b136 k136 .boolean (12 : Int32) [(.int (0 : Int32)), (.int (0 : Int32)), (.int (1 : Int32)), (.int (1 : Int32)), (.int (1 : Int32)), (.int (1 : Int32)), (.int (0 : Int32)), (.int (0 : Int32)), (.int (0 : Int32)), (.int (0 : Int32)), (.int (0 : Int32)), (.int (0 : Int32))] (.int (0 : Int32)) := Arv.set Ar174 q174 S174 N174 H174 G174 (fits_nar_bool _) W175 9 rfl (Nat.le_of_ble_eq_true rfl)
  have K176 : Keep h0 h175 [] := K172.wr W175 (Or.inr sz_b136)
  have N177 := Fr.snoc X175 N173 g_b136
  show own_Ends p.tables e below s _ _ _ (T175.setTop (mkF m 132 #[.val (.int x0_0), .val (.ref b1), .unset, .unset] [(.ref b136)]))
  refine own_step (fun t k => XS.dup X175.here hx rfl (hb hby at_132) rfl rfl k) ?_
  show own_Ends p.tables e below s _ _ _ (T175.setTop (mkF m 133 #[.val (.int x0_0), .val (.ref b1), .unset, .unset] [(.ref b136), (.ref b136)]))
  refine own_step (fun t k => XS.bipush X175.here hx rfl (hb hby at_133) k) ?_
  show own_Ends p.tables e below s _ _ _ (T175.setTop (mkF m 135 #[.val (.int x0_0), .val (.ref b1), .unset, .unset] [(.int (10 : Int32)), (.ref b136), (.ref b136)]))
  refine own_step (fun t k => XS.iconst X175.here hx rfl (hb hby at_135) k) ?_
  show own_Ends p.tables e below s _ _ _ (T175.setTop (mkF m 136 #[.val (.int x0_0), .val (.ref b1), .unset, .unset] [(.int (0 : Int32)), (.int (10 : Int32)), (.ref b136), (.ref b136)]))
  obtain ⟨cl178, Ar178, q178, S178, N178, H178, G178⟩ := id V175
  have hin178 : ¬ ((10 : Int32) < 0 ∨ cl178.slots.size ≤ ((10 : Int32)).toNatClampNeg) := inb_of S178 ⟨by decide, by decide⟩
  obtain ⟨T179, h179, X179, e179, W179, st179⟩ := stZ X175 hx hZ e175 Ar178 (j := (10 : Int32)) hin178 (g := (mkF m 136 #[.val (.int x0_0), .val (.ref b1), .unset, .unset] [(.int (0 : Int32)), (.int (10 : Int32)), (.ref b136), (.ref b136)])) rfl rfl (hb hby at_136)
  refine own_step (fun t k => st179 _ k) ?_
  have V179 : Arv Z h179 b136 k136 .boolean (12 : Int32) [(.int (0 : Int32)), (.int (0 : Int32)), (.int (1 : Int32)), (.int (1 : Int32)), (.int (1 : Int32)), (.int (1 : Int32)), (.int (0 : Int32)), (.int (0 : Int32)), (.int (0 : Int32)), (.int (0 : Int32)), (.int (0 : Int32)), (.int (0 : Int32))] (.int (0 : Int32)) := Arv.set Ar178 q178 S178 N178 H178 G178 (fits_nar_bool _) W179 10 rfl (Nat.le_of_ble_eq_true rfl)
  have K180 : Keep h0 h179 [] := K176.wr W179 (Or.inr sz_b136)
  have N181 := Fr.snoc X179 N177 g_b136
  show own_Ends p.tables e below s _ _ _ (T179.setTop (mkF m 137 #[.val (.int x0_0), .val (.ref b1), .unset, .unset] [(.ref b136)]))
  refine own_step (fun t k => XS.dup X179.here hx rfl (hb hby at_137) rfl rfl k) ?_
  show own_Ends p.tables e below s _ _ _ (T179.setTop (mkF m 138 #[.val (.int x0_0), .val (.ref b1), .unset, .unset] [(.ref b136), (.ref b136)]))
  refine own_step (fun t k => XS.bipush X179.here hx rfl (hb hby at_138) k) ?_
  show own_Ends p.tables e below s _ _ _ (T179.setTop (mkF m 140 #[.val (.int x0_0), .val (.ref b1), .unset, .unset] [(.int (11 : Int32)), (.ref b136), (.ref b136)]))
  refine own_step (fun t k => XS.iconst X179.here hx rfl (hb hby at_140) k) ?_
  show own_Ends p.tables e below s _ _ _ (T179.setTop (mkF m 141 #[.val (.int x0_0), .val (.ref b1), .unset, .unset] [(.int (0 : Int32)), (.int (11 : Int32)), (.ref b136), (.ref b136)]))
  obtain ⟨cl182, Ar182, q182, S182, N182, H182, G182⟩ := id V179
  have hin182 : ¬ ((11 : Int32) < 0 ∨ cl182.slots.size ≤ ((11 : Int32)).toNatClampNeg) := inb_of S182 ⟨by decide, by decide⟩
  obtain ⟨T183, h183, X183, e183, W183, st183⟩ := stZ X179 hx hZ e179 Ar182 (j := (11 : Int32)) hin182 (g := (mkF m 141 #[.val (.int x0_0), .val (.ref b1), .unset, .unset] [(.int (0 : Int32)), (.int (11 : Int32)), (.ref b136), (.ref b136)])) rfl rfl (hb hby at_141)
  refine own_step (fun t k => st183 _ k) ?_
  have V183 : Arv Z h183 b136 k136 .boolean (12 : Int32) [(.int (0 : Int32)), (.int (0 : Int32)), (.int (1 : Int32)), (.int (1 : Int32)), (.int (1 : Int32)), (.int (1 : Int32)), (.int (0 : Int32)), (.int (0 : Int32)), (.int (0 : Int32)), (.int (0 : Int32)), (.int (0 : Int32)), (.int (0 : Int32))] (.int (0 : Int32)) := Arv.set Ar182 q182 S182 N182 H182 G182 (fits_nar_bool _) W183 11 rfl (Nat.le_of_ble_eq_true rfl)
  have K184 : Keep h0 h183 [] := K180.wr W183 (Or.inr sz_b136)
  have N185 := Fr.snoc X183 N181 g_b136
  show own_Ends p.tables e below s _ _ _ (T183.setTop (mkF m 142 #[.val (.int x0_0), .val (.ref b1), .unset, .unset] [(.ref b136)]))
  refine own_step (fun t k => XS.astoreN X183.here hx rfl (hb hby at_142) rfl rfl (l' := #[.val (.int x0_0), .val (.ref b1), .val (.ref b136), .unset]) rfl k) ?_
  show own_Ends p.tables e below s _ _ _ (T183.setTop (mkF m 143 #[.val (.int x0_0), .val (.ref b1), .val (.ref b136), .unset] []))
  refine own_step (fun t k => XS.iloadN X183.here hx rfl (hb hby at_143) rfl k) ?_
  show own_Ends p.tables e below s _ _ _ (T183.setTop (mkF m 144 #[.val (.int x0_0), .val (.ref b1), .val (.ref b136), .unset] [(.int x0_0)]))
  refine own_step (fun t k => X183.ldcInt hx hown (mvT hZ (hw _ (List.mem_of_getElem? (i := 29) rfl))) (g := (mkF m 144 #[.val (.int x0_0), .val (.ref b1), .val (.ref b136), .unset] [(.int x0_0)])) rfl (hb hby at_144) _ k) ?_
  show own_Ends p.tables e below s _ _ _ (T183.setTop (mkF m 146 #[.val (.int x0_0), .val (.ref b1), .val (.ref b136), .unset] [(.int (2147483647 : Int32)), (.int x0_0)]))
  refine own_step (fun t k => XS.iand X183.here hx rfl (hb hby at_146) rfl k) ?_
  show own_Ends p.tables e below s _ _ _ (T183.setTop (mkF m 147 #[.val (.int x0_0), .val (.ref b1), .val (.ref b136), .unset] [(.int (x0_0 &&& (2147483647 : Int32)))]))
  refine own_step (fun t k => XS.bipush X183.here hx rfl (hb hby at_147) k) ?_
  show own_Ends p.tables e below s _ _ _ (T183.setTop (mkF m 149 #[.val (.int x0_0), .val (.ref b1), .val (.ref b136), .unset] [(.int (12 : Int32)), (.int (x0_0 &&& (2147483647 : Int32)))]))
  refine own_step (fun t k => iremM X183 hx rfl (hb hby at_149) rfl (by decide) k) ?_
  show own_Ends p.tables e below s _ _ _ (T183.setTop (mkF m 150 #[.val (.int x0_0), .val (.ref b1), .val (.ref b136), .unset] [(.int ((x0_0 &&& (2147483647 : Int32)) % (12 : Int32)))]))
  generalize hk12 : ((x0_0 &&& (2147483647 : Int32)) % (12 : Int32)) = k12
  show own_Ends p.tables e below s _ _ _ (T183.setTop (mkF m 150 #[.val (.int x0_0), .val (.ref b1), .val (.ref b136), .unset] [(.int k12)]))
  refine own_step (fun t k => XS.istoreN X183.here hx rfl (hb hby at_150) rfl (l' := #[.val (.int x0_0), .val (.ref b1), .val (.ref b136), .val (.int k12)]) rfl k) ?_
  rcases own_cases12 k12 (hk12 ▸ own_idx _ 12 (by decide)) with hk186 | hk186 | hk186 | hk186 | hk186 | hk186 | hk186 | hk186 | hk186 | hk186 | hk186 | hk186
  · subst hk186
    show own_Ends p.tables e below s _ _ _ (T183.setTop (mkF m 151 #[.val (.int x0_0), .val (.ref b1), .val (.ref b136), .val (.int (0 : Int32))] []))
    refine own_step (fun t k => XS.aloadN X183.here hx rfl (hb hby at_151) rfl rfl k) ?_
    show own_Ends p.tables e below s _ _ _ (T183.setTop (mkF m 152 #[.val (.int x0_0), .val (.ref b1), .val (.ref b136), .val (.int (0 : Int32))] [(.ref b1)]))
    refine own_step (fun t k => XS.iloadN X183.here hx rfl (hb hby at_152) rfl k) ?_
    show own_Ends p.tables e below s _ _ _ (T183.setTop (mkF m 153 #[.val (.int x0_0), .val (.ref b1), .val (.ref b136), .val (.int (0 : Int32))] [(.int (0 : Int32)), (.ref b1)]))
    have F187 : Arv Z h143 b1 k1 (.object "com/example/idlect/idlect/core/Symbol$Container$Kind") (12 : Int32) [(.ref w_FILE), (.ref w_MODULE), (.ref w_INTERFACE), (.ref w_VALUE_TYPE), (.ref w_STRUCT), (.ref w_UNION), (.ref w_EXCEPTION), (.ref w_OPERATION), (.ref w_FACTORY), (.ref w_COMPONENT), (.ref w_COMPONENT_INTERFACE), (.ref w_IDS)] .null := (((V102.ext E136).other W139 ne_b1_b136).other W143 ne_b1_b136)
    have F188 : Arv Z h155 b1 k1 (.object "com/example/idlect/idlect/core/Symbol$Container$Kind") (12 : Int32) [(.ref w_FILE), (.ref w_MODULE), (.ref w_INTERFACE), (.ref w_VALUE_TYPE), (.ref w_STRUCT), (.ref w_UNION), (.ref w_EXCEPTION), (.ref w_OPERATION), (.ref w_FACTORY), (.ref w_COMPONENT), (.ref w_COMPONENT_INTERFACE), (.ref w_IDS)] .null := (((F187.other W147 ne_b1_b136).other W151 ne_b1_b136).other W155 ne_b1_b136)
    have F189 : Arv Z h167 b1 k1 (.object "com/example/idlect/idlect/core/Symbol$Container$Kind") (12 : Int32) [(.ref w_FILE), (.ref w_MODULE), (.ref w_INTERFACE), (.ref w_VALUE_TYPE), (.ref w_STRUCT), (.ref w_UNION), (.ref w_EXCEPTION), (.ref w_OPERATION), (.ref w_FACTORY), (.ref w_COMPONENT), (.ref w_COMPONENT_INTERFACE), (.ref w_IDS)] .null := (((F188.other W159 ne_b1_b136).other W163 ne_b1_b136).other W167 ne_b1_b136)
    have F190 : Arv Z h179 b1 k1 (.object "com/example/idlect/idlect/core/Symbol$Container$Kind") (12 : Int32) [(.ref w_FILE), (.ref w_MODULE), (.ref w_INTERFACE), (.ref w_VALUE_TYPE), (.ref w_STRUCT), (.ref w_UNION), (.ref w_EXCEPTION), (.ref w_OPERATION), (.ref w_FACTORY), (.ref w_COMPONENT), (.ref w_COMPONENT_INTERFACE), (.ref w_IDS)] .null := (((F189.other W171 ne_b1_b136).other W175 ne_b1_b136).other W179 ne_b1_b136)
    have F191 : Arv Z h183 b1 k1 (.object "com/example/idlect/idlect/core/Symbol$Container$Kind") (12 : Int32) [(.ref w_FILE), (.ref w_MODULE), (.ref w_INTERFACE), (.ref w_VALUE_TYPE), (.ref w_STRUCT), (.ref w_UNION), (.ref w_EXCEPTION), (.ref w_OPERATION), (.ref w_FACTORY), (.ref w_COMPONENT), (.ref w_COMPONENT_INTERFACE), (.ref w_IDS)] .null := (F190.other W183 ne_b1_b136)
    obtain ⟨cl192, Ar192, q192, S192, N192, H192, G192⟩ := id F191
    have hin192 : ¬ ((0 : Int32) < 0 ∨ cl192.slots.size ≤ ((0 : Int32)).toNatClampNeg) := inb_of S192 ⟨by decide, by decide⟩
    have hat192 : cl192.slots[((0 : Int32)).toNatClampNeg]? = some (.ref w_FILE) := H192.at hin192 rfl
    refine own_step (fun t k => X183.aaload hx (j := (0 : Int32)) (v := (.ref w_FILE)) (by rw [e183]; exact Ar192.1) (State.isArrayOf_alike hZ.alike Ar192.2.1) rfl Ar192.2.2 hin192 hat192 (g := (mkF m 153 #[.val (.int x0_0), .val (.ref b1), .val (.ref b136), .val (.int (0 : Int32))] [(.int (0 : Int32)), (.ref b1)])) rfl rfl (hb hby at_153) _ k) ?_
    show own_Ends p.tables e below s _ _ _ (T183.setTop (mkF m 154 #[.val (.int x0_0), .val (.ref b1), .val (.ref b136), .val (.int (0 : Int32))] [(.ref w_FILE)]))
    have O193 : Old Z n0 h143 := (((O105.ext E136).wr W139 g_b136).wr W143 g_b136)
    have O194 : Old Z n0 h155 := (((O193.wr W147 g_b136).wr W151 g_b136).wr W155 g_b136)
    have O195 : Old Z n0 h167 := (((O194.wr W159 g_b136).wr W163 g_b136).wr W167 g_b136)
    have O196 : Old Z n0 h179 := (((O195.wr W171 g_b136).wr W175 g_b136).wr W179 g_b136)
    have O197 : Old Z n0 h183 := (O196.wr W183 g_b136)
    have F199 : Exa Z h143 w_FILE "com/example/idlect/idlect/core/Symbol$Container$Kind" := (((F109.ext E136).wr W139).wr W143)
    have F200 : Exa Z h155 w_FILE "com/example/idlect/idlect/core/Symbol$Container$Kind" := (((F199.wr W147).wr W151).wr W155)
    have F201 : Exa Z h167 w_FILE "com/example/idlect/idlect/core/Symbol$Container$Kind" := (((F200.wr W159).wr W163).wr W167)
    have F202 : Exa Z h179 w_FILE "com/example/idlect/idlect/core/Symbol$Container$Kind" := (((F201.wr W171).wr W175).wr W179)
    have F203 : Exa Z h183 w_FILE "com/example/idlect/idlect/core/Symbol$Container$Kind" := (F202.wr W183)
    obtain ⟨cq198, kq198, q198a, q198b, q198c⟩ := isOf hZ e183 F203
    obtain ⟨_, _, ⟨T198, L198, k198, n198⟩, -, X198, ⟨Lc198, hQ198, l198, y198, z198⟩, st198⟩ := X183.virtualBack hx (y := (⟨"com/example/idlect/idlect/core/Symbol$Container$Kind", "isType", "()Z"⟩ : MethodName)) (z := (⟨"com/example/idlect/idlect/core/Symbol$Container$Kind", "isType", "()Z"⟩ : MethodName)) hown (mvT hZ (hw _ (List.mem_of_getElem? (i := 30) rfl))) (mvT hZ (hw _ (List.mem_of_getElem? (i := 31) rfl))) (notFace_of_selects (args := #[]) (mvT hZ (hw _ (List.mem_of_getElem? (i := 33) rfl)))) (mvT hZ (hw _ (List.mem_of_getElem? (i := 33) rfl))) (mvT hZ (hw _ (List.mem_of_getElem? (i := 32) rfl))) (by decide) (backOf (W := 0) (rm1 l Z a0 hw [] w_FILE w_INTERFACE w_VALUE_TYPE w_STRUCT w_UNION h183 n0 O197 S_INTERFACE S_VALUE_TYPE S_STRUCT S_UNION) hZ (hw _ (List.mem_of_getElem? (i := 34) rfl)) (hw _ (List.mem_of_getElem? (i := 3) rfl)) (by decide) (by decide)) q198a q198c (g := (mkF m 154 #[.val (.int x0_0), .val (.ref b1), .val (.ref b136), .val (.int (0 : Int32))] [(.ref w_FILE)])) rfl (by rw [hml]; rfl) (Steps.refl _) (argsL := []) (rest := []) (lenOf pd_0 rfl) rfl (by show 2 * 0 + _ ≤ _; exact Nat.le_of_eq rfl) (hb hby at_154) (fun _ _ => ⟨rfl, e183, (by decide : 2 + 0 ≤ _), (by decide : 24 + 0 ≤ _)⟩)
    dsimp only [Pt.U, Pt.locs, Pt.cells, Pt.slots] at X198 l198 y198 z198 st198 hQ198
    subst y198 z198
    obtain ⟨rfl, N198q, e198⟩ := hQ198
    refine own_step (fun t k => st198.trans k) ?_
    have N204 : Fr n0 L198 := by rw [l198]; exact Fr.app N185 N198q
    show own_Ends p.tables e below s _ _ _ (T198.setTop (mkF m 157 #[.val (.int x0_0), .val (.ref b1), .val (.ref b136), .val (.int (0 : Int32))] [(.int (own_r1 w_FILE w_INTERFACE w_VALUE_TYPE w_STRUCT w_UNION))]))
    refine own_step (fun t k => XS.aloadN X198.here hx rfl (hb hby at_157) rfl rfl k) ?_
    show own_Ends p.tables e below s _ _ _ (T198.setTop (mkF m 158 #[.val (.int x0_0), .val (.ref b1), .val (.ref b136), .val (.int (0 : Int32))] [(.ref b136), (.int (own_r1 w_FILE w_INTERFACE w_VALUE_TYPE w_STRUCT w_UNION))]))
    refine own_step (fun t k => XS.iloadN X198.here hx rfl (hb hby at_158) rfl k) ?_
    show own_Ends p.tables e below s _ _ _ (T198.setTop (mkF m 159 #[.val (.int x0_0), .val (.ref b1), .val (.ref b136), .val (.int (0 : Int32))] [(.int (0 : Int32)), (.ref b136), (.int (own_r1 w_FILE w_INTERFACE w_VALUE_TYPE w_STRUCT w_UNION))]))
    obtain ⟨cl205, Ar205, q205, S205, N205, H205, G205⟩ := id V183
    have hin205 : ¬ ((0 : Int32) < 0 ∨ cl205.slots.size ≤ ((0 : Int32)).toNatClampNeg) := inb_of S205 ⟨by decide, by decide⟩
    have hat205 : cl205.slots[((0 : Int32)).toNatClampNeg]? = some (.int (0 : Int32)) := H205.at hin205 rfl
    refine own_step (fun t k => X198.baloadBooleans hx (j := (0 : Int32)) (v := (.int (0 : Int32))) (by rw [e198]; exact Ar205.1) (State.isArrayOf_alike hZ.alike Ar205.2.1) Ar205.2.2 hin205 hat205 (g := (mkF m 159 #[.val (.int x0_0), .val (.ref b1), .val (.ref b136), .val (.int (0 : Int32))] [(.int (0 : Int32)), (.ref b136), (.int (own_r1 w_FILE w_INTERFACE w_VALUE_TYPE w_STRUCT w_UNION))])) rfl rfl (hb hby at_159) _ k) ?_
    show own_Ends p.tables e below s _ _ _ (T198.setTop (mkF m 160 #[.val (.int x0_0), .val (.ref b1), .val (.ref b136), .val (.int (0 : Int32))] [(.int (0 : Int32)), (.int (own_r1 w_FILE w_INTERFACE w_VALUE_TYPE w_STRUCT w_UNION))]))
    by_cases hc160_206 : (own_r1 w_FILE w_INTERFACE w_VALUE_TYPE w_STRUCT w_UNION) = (0 : Int32)
    · skip
      refine own_step (fun t k => XS.icmpNo X198.here hx rfl (hb hby at_160) rfl (teq hc160_206).2 k) ?_
      show own_Ends p.tables e below s _ _ _ (T198.setTop (mkF m 163 #[.val (.int x0_0), .val (.ref b1), .val (.ref b136), .val (.int (0 : Int32))] []))
      refine own_step (fun t k => XS.iconst X198.here hx rfl (hb hby at_163) k) ?_
      show own_Ends p.tables e below s _ _ _ (T198.setTop (mkF m 164 #[.val (.int x0_0), .val (.ref b1), .val (.ref b136), .val (.int (0 : Int32))] [(.int (1 : Int32))]))
      refine own_step (fun t k => XS.goto X198.here hx rfl (pc0 := 164) (pc' := 168) rfl (hb hby at_164) (by decide) (by decide) k) ?_
      show own_Ends p.tables e below s _ _ _ (T198.setTop (mkF m 168 #[.val (.int x0_0), .val (.ref b1), .val (.ref b136), .val (.int (0 : Int32))] [(.int (1 : Int32))]))
      exact own_retN X198 hx (t := .boolean) Bd.returns (by simp) (hb hby at_168) hnl (by rw [e198]; exact ⟨rfl, N204⟩) (by decide) (by decide)
    · skip
      refine own_step (fun t k => XS.icmpYes X198.here hx rfl (pc0 := 160) (pc' := 167) rfl (hb hby at_160) rfl (feq hc160_206).2 (by decide) (by decide) k) ?_
      show own_Ends p.tables e below s _ _ _ (T198.setTop (mkF m 167 #[.val (.int x0_0), .val (.ref b1), .val (.ref b136), .val (.int (0 : Int32))] []))
      refine own_step (fun t k => XS.iconst X198.here hx rfl (hb hby at_167) k) ?_
      show own_Ends p.tables e below s _ _ _ (T198.setTop (mkF m 168 #[.val (.int x0_0), .val (.ref b1), .val (.ref b136), .val (.int (0 : Int32))] [(.int (0 : Int32))]))
      exfalso
      apply hc160_206
      simp [own_r1, ne_w_FILE_w_INTERFACE, ne_w_FILE_w_VALUE_TYPE, ne_w_FILE_w_STRUCT, ne_w_FILE_w_UNION, ne_w_MODULE_w_INTERFACE, ne_w_MODULE_w_VALUE_TYPE, ne_w_MODULE_w_STRUCT, ne_w_MODULE_w_UNION, ne_w_INTERFACE_w_VALUE_TYPE, ne_w_INTERFACE_w_STRUCT, ne_w_INTERFACE_w_UNION, ne_w_VALUE_TYPE_w_STRUCT, ne_w_VALUE_TYPE_w_UNION, ne_w_STRUCT_w_UNION, ne_w_EXCEPTION_w_INTERFACE, ne_w_EXCEPTION_w_VALUE_TYPE, ne_w_EXCEPTION_w_STRUCT, ne_w_EXCEPTION_w_UNION, ne_w_OPERATION_w_INTERFACE, ne_w_OPERATION_w_VALUE_TYPE, ne_w_OPERATION_w_STRUCT, ne_w_OPERATION_w_UNION, ne_w_FACTORY_w_INTERFACE, ne_w_FACTORY_w_VALUE_TYPE, ne_w_FACTORY_w_STRUCT, ne_w_FACTORY_w_UNION, ne_w_COMPONENT_w_INTERFACE, ne_w_COMPONENT_w_VALUE_TYPE, ne_w_COMPONENT_w_STRUCT, ne_w_COMPONENT_w_UNION, ne_w_COMPONENT_INTERFACE_w_INTERFACE, ne_w_COMPONENT_INTERFACE_w_VALUE_TYPE, ne_w_COMPONENT_INTERFACE_w_STRUCT, ne_w_COMPONENT_INTERFACE_w_UNION, ne_w_IDS_w_INTERFACE, ne_w_IDS_w_VALUE_TYPE, ne_w_IDS_w_STRUCT, ne_w_IDS_w_UNION, Ne.symm ne_w_INTERFACE_w_VALUE_TYPE, Ne.symm ne_w_INTERFACE_w_STRUCT, Ne.symm ne_w_INTERFACE_w_UNION, Ne.symm ne_w_VALUE_TYPE_w_STRUCT, Ne.symm ne_w_VALUE_TYPE_w_UNION, Ne.symm ne_w_STRUCT_w_UNION]
  · subst hk186
    show own_Ends p.tables e below s _ _ _ (T183.setTop (mkF m 151 #[.val (.int x0_0), .val (.ref b1), .val (.ref b136), .val (.int (1 : Int32))] []))
    refine own_step (fun t k => XS.aloadN X183.here hx rfl (hb hby at_151) rfl rfl k) ?_
    show own_Ends p.tables e below s _ _ _ (T183.setTop (mkF m 152 #[.val (.int x0_0), .val (.ref b1), .val (.ref b136), .val (.int (1 : Int32))] [(.ref b1)]))
    refine own_step (fun t k => XS.iloadN X183.here hx rfl (hb hby at_152) rfl k) ?_
    show own_Ends p.tables e below s _ _ _ (T183.setTop (mkF m 153 #[.val (.int x0_0), .val (.ref b1), .val (.ref b136), .val (.int (1 : Int32))] [(.int (1 : Int32)), (.ref b1)]))
    have F207 : Arv Z h143 b1 k1 (.object "com/example/idlect/idlect/core/Symbol$Container$Kind") (12 : Int32) [(.ref w_FILE), (.ref w_MODULE), (.ref w_INTERFACE), (.ref w_VALUE_TYPE), (.ref w_STRUCT), (.ref w_UNION), (.ref w_EXCEPTION), (.ref w_OPERATION), (.ref w_FACTORY), (.ref w_COMPONENT), (.ref w_COMPONENT_INTERFACE), (.ref w_IDS)] .null := (((V102.ext E136).other W139 ne_b1_b136).other W143 ne_b1_b136)
    have F208 : Arv Z h155 b1 k1 (.object "com/example/idlect/idlect/core/Symbol$Container$Kind") (12 : Int32) [(.ref w_FILE), (.ref w_MODULE), (.ref w_INTERFACE), (.ref w_VALUE_TYPE), (.ref w_STRUCT), (.ref w_UNION), (.ref w_EXCEPTION), (.ref w_OPERATION), (.ref w_FACTORY), (.ref w_COMPONENT), (.ref w_COMPONENT_INTERFACE), (.ref w_IDS)] .null := (((F207.other W147 ne_b1_b136).other W151 ne_b1_b136).other W155 ne_b1_b136)
    have F209 : Arv Z h167 b1 k1 (.object "com/example/idlect/idlect/core/Symbol$Container$Kind") (12 : Int32) [(.ref w_FILE), (.ref w_MODULE), (.ref w_INTERFACE), (.ref w_VALUE_TYPE), (.ref w_STRUCT), (.ref w_UNION), (.ref w_EXCEPTION), (.ref w_OPERATION), (.ref w_FACTORY), (.ref w_COMPONENT), (.ref w_COMPONENT_INTERFACE), (.ref w_IDS)] .null := (((F208.other W159 ne_b1_b136).other W163 ne_b1_b136).other W167 ne_b1_b136)
    have F210 : Arv Z h179 b1 k1 (.object "com/example/idlect/idlect/core/Symbol$Container$Kind") (12 : Int32) [(.ref w_FILE), (.ref w_MODULE), (.ref w_INTERFACE), (.ref w_VALUE_TYPE), (.ref w_STRUCT), (.ref w_UNION), (.ref w_EXCEPTION), (.ref w_OPERATION), (.ref w_FACTORY), (.ref w_COMPONENT), (.ref w_COMPONENT_INTERFACE), (.ref w_IDS)] .null := (((F209.other W171 ne_b1_b136).other W175 ne_b1_b136).other W179 ne_b1_b136)
    have F211 : Arv Z h183 b1 k1 (.object "com/example/idlect/idlect/core/Symbol$Container$Kind") (12 : Int32) [(.ref w_FILE), (.ref w_MODULE), (.ref w_INTERFACE), (.ref w_VALUE_TYPE), (.ref w_STRUCT), (.ref w_UNION), (.ref w_EXCEPTION), (.ref w_OPERATION), (.ref w_FACTORY), (.ref w_COMPONENT), (.ref w_COMPONENT_INTERFACE), (.ref w_IDS)] .null := (F210.other W183 ne_b1_b136)
    obtain ⟨cl212, Ar212, q212, S212, N212, H212, G212⟩ := id F211
    have hin212 : ¬ ((1 : Int32) < 0 ∨ cl212.slots.size ≤ ((1 : Int32)).toNatClampNeg) := inb_of S212 ⟨by decide, by decide⟩
    have hat212 : cl212.slots[((1 : Int32)).toNatClampNeg]? = some (.ref w_MODULE) := H212.at hin212 rfl
    refine own_step (fun t k => X183.aaload hx (j := (1 : Int32)) (v := (.ref w_MODULE)) (by rw [e183]; exact Ar212.1) (State.isArrayOf_alike hZ.alike Ar212.2.1) rfl Ar212.2.2 hin212 hat212 (g := (mkF m 153 #[.val (.int x0_0), .val (.ref b1), .val (.ref b136), .val (.int (1 : Int32))] [(.int (1 : Int32)), (.ref b1)])) rfl rfl (hb hby at_153) _ k) ?_
    show own_Ends p.tables e below s _ _ _ (T183.setTop (mkF m 154 #[.val (.int x0_0), .val (.ref b1), .val (.ref b136), .val (.int (1 : Int32))] [(.ref w_MODULE)]))
    have O213 : Old Z n0 h143 := (((O105.ext E136).wr W139 g_b136).wr W143 g_b136)
    have O214 : Old Z n0 h155 := (((O213.wr W147 g_b136).wr W151 g_b136).wr W155 g_b136)
    have O215 : Old Z n0 h167 := (((O214.wr W159 g_b136).wr W163 g_b136).wr W167 g_b136)
    have O216 : Old Z n0 h179 := (((O215.wr W171 g_b136).wr W175 g_b136).wr W179 g_b136)
    have O217 : Old Z n0 h183 := (O216.wr W183 g_b136)
    have F219 : Exa Z h143 w_MODULE "com/example/idlect/idlect/core/Symbol$Container$Kind" := (((F113.ext E136).wr W139).wr W143)
    have F220 : Exa Z h155 w_MODULE "com/example/idlect/idlect/core/Symbol$Container$Kind" := (((F219.wr W147).wr W151).wr W155)
    have F221 : Exa Z h167 w_MODULE "com/example/idlect/idlect/core/Symbol$Container$Kind" := (((F220.wr W159).wr W163).wr W167)
    have F222 : Exa Z h179 w_MODULE "com/example/idlect/idlect/core/Symbol$Container$Kind" := (((F221.wr W171).wr W175).wr W179)
    have F223 : Exa Z h183 w_MODULE "com/example/idlect/idlect/core/Symbol$Container$Kind" := (F222.wr W183)
    obtain ⟨cq218, kq218, q218a, q218b, q218c⟩ := isOf hZ e183 F223
    obtain ⟨_, _, ⟨T218, L218, k218, n218⟩, -, X218, ⟨Lc218, hQ218, l218, y218, z218⟩, st218⟩ := X183.virtualBack hx (y := (⟨"com/example/idlect/idlect/core/Symbol$Container$Kind", "isType", "()Z"⟩ : MethodName)) (z := (⟨"com/example/idlect/idlect/core/Symbol$Container$Kind", "isType", "()Z"⟩ : MethodName)) hown (mvT hZ (hw _ (List.mem_of_getElem? (i := 30) rfl))) (mvT hZ (hw _ (List.mem_of_getElem? (i := 31) rfl))) (notFace_of_selects (args := #[]) (mvT hZ (hw _ (List.mem_of_getElem? (i := 33) rfl)))) (mvT hZ (hw _ (List.mem_of_getElem? (i := 33) rfl))) (mvT hZ (hw _ (List.mem_of_getElem? (i := 32) rfl))) (by decide) (backOf (W := 0) (rm1 l Z a0 hw [] w_MODULE w_INTERFACE w_VALUE_TYPE w_STRUCT w_UNION h183 n0 O217 S_INTERFACE S_VALUE_TYPE S_STRUCT S_UNION) hZ (hw _ (List.mem_of_getElem? (i := 34) rfl)) (hw _ (List.mem_of_getElem? (i := 3) rfl)) (by decide) (by decide)) q218a q218c (g := (mkF m 154 #[.val (.int x0_0), .val (.ref b1), .val (.ref b136), .val (.int (1 : Int32))] [(.ref w_MODULE)])) rfl (by rw [hml]; rfl) (Steps.refl _) (argsL := []) (rest := []) (lenOf pd_0 rfl) rfl (by show 2 * 0 + _ ≤ _; exact Nat.le_of_eq rfl) (hb hby at_154) (fun _ _ => ⟨rfl, e183, (by decide : 2 + 0 ≤ _), (by decide : 24 + 0 ≤ _)⟩)
    dsimp only [Pt.U, Pt.locs, Pt.cells, Pt.slots] at X218 l218 y218 z218 st218 hQ218
    subst y218 z218
    obtain ⟨rfl, N218q, e218⟩ := hQ218
    refine own_step (fun t k => st218.trans k) ?_
    have N224 : Fr n0 L218 := by rw [l218]; exact Fr.app N185 N218q
    show own_Ends p.tables e below s _ _ _ (T218.setTop (mkF m 157 #[.val (.int x0_0), .val (.ref b1), .val (.ref b136), .val (.int (1 : Int32))] [(.int (own_r1 w_MODULE w_INTERFACE w_VALUE_TYPE w_STRUCT w_UNION))]))
    refine own_step (fun t k => XS.aloadN X218.here hx rfl (hb hby at_157) rfl rfl k) ?_
    show own_Ends p.tables e below s _ _ _ (T218.setTop (mkF m 158 #[.val (.int x0_0), .val (.ref b1), .val (.ref b136), .val (.int (1 : Int32))] [(.ref b136), (.int (own_r1 w_MODULE w_INTERFACE w_VALUE_TYPE w_STRUCT w_UNION))]))
    refine own_step (fun t k => XS.iloadN X218.here hx rfl (hb hby at_158) rfl k) ?_
    show own_Ends p.tables e below s _ _ _ (T218.setTop (mkF m 159 #[.val (.int x0_0), .val (.ref b1), .val (.ref b136), .val (.int (1 : Int32))] [(.int (1 : Int32)), (.ref b136), (.int (own_r1 w_MODULE w_INTERFACE w_VALUE_TYPE w_STRUCT w_UNION))]))
    obtain ⟨cl225, Ar225, q225, S225, N225, H225, G225⟩ := id V183
    have hin225 : ¬ ((1 : Int32) < 0 ∨ cl225.slots.size ≤ ((1 : Int32)).toNatClampNeg) := inb_of S225 ⟨by decide, by decide⟩
    have hat225 : cl225.slots[((1 : Int32)).toNatClampNeg]? = some (.int (0 : Int32)) := H225.at hin225 rfl
    refine own_step (fun t k => X218.baloadBooleans hx (j := (1 : Int32)) (v := (.int (0 : Int32))) (by rw [e218]; exact Ar225.1) (State.isArrayOf_alike hZ.alike Ar225.2.1) Ar225.2.2 hin225 hat225 (g := (mkF m 159 #[.val (.int x0_0), .val (.ref b1), .val (.ref b136), .val (.int (1 : Int32))] [(.int (1 : Int32)), (.ref b136), (.int (own_r1 w_MODULE w_INTERFACE w_VALUE_TYPE w_STRUCT w_UNION))])) rfl rfl (hb hby at_159) _ k) ?_
    show own_Ends p.tables e below s _ _ _ (T218.setTop (mkF m 160 #[.val (.int x0_0), .val (.ref b1), .val (.ref b136), .val (.int (1 : Int32))] [(.int (0 : Int32)), (.int (own_r1 w_MODULE w_INTERFACE w_VALUE_TYPE w_STRUCT w_UNION))]))
    by_cases hc160_226 : (own_r1 w_MODULE w_INTERFACE w_VALUE_TYPE w_STRUCT w_UNION) = (0 : Int32)
    · skip
      refine own_step (fun t k => XS.icmpNo X218.here hx rfl (hb hby at_160) rfl (teq hc160_226).2 k) ?_
      show own_Ends p.tables e below s _ _ _ (T218.setTop (mkF m 163 #[.val (.int x0_0), .val (.ref b1), .val (.ref b136), .val (.int (1 : Int32))] []))
      refine own_step (fun t k => XS.iconst X218.here hx rfl (hb hby at_163) k) ?_
      show own_Ends p.tables e below s _ _ _ (T218.setTop (mkF m 164 #[.val (.int x0_0), .val (.ref b1), .val (.ref b136), .val (.int (1 : Int32))] [(.int (1 : Int32))]))
      refine own_step (fun t k => XS.goto X218.here hx rfl (pc0 := 164) (pc' := 168) rfl (hb hby at_164) (by decide) (by decide) k) ?_
      show own_Ends p.tables e below s _ _ _ (T218.setTop (mkF m 168 #[.val (.int x0_0), .val (.ref b1), .val (.ref b136), .val (.int (1 : Int32))] [(.int (1 : Int32))]))
      exact own_retN X218 hx (t := .boolean) Bd.returns (by simp) (hb hby at_168) hnl (by rw [e218]; exact ⟨rfl, N224⟩) (by decide) (by decide)
    · skip
      refine own_step (fun t k => XS.icmpYes X218.here hx rfl (pc0 := 160) (pc' := 167) rfl (hb hby at_160) rfl (feq hc160_226).2 (by decide) (by decide) k) ?_
      show own_Ends p.tables e below s _ _ _ (T218.setTop (mkF m 167 #[.val (.int x0_0), .val (.ref b1), .val (.ref b136), .val (.int (1 : Int32))] []))
      refine own_step (fun t k => XS.iconst X218.here hx rfl (hb hby at_167) k) ?_
      show own_Ends p.tables e below s _ _ _ (T218.setTop (mkF m 168 #[.val (.int x0_0), .val (.ref b1), .val (.ref b136), .val (.int (1 : Int32))] [(.int (0 : Int32))]))
      exfalso
      apply hc160_226
      simp [own_r1, ne_w_FILE_w_INTERFACE, ne_w_FILE_w_VALUE_TYPE, ne_w_FILE_w_STRUCT, ne_w_FILE_w_UNION, ne_w_MODULE_w_INTERFACE, ne_w_MODULE_w_VALUE_TYPE, ne_w_MODULE_w_STRUCT, ne_w_MODULE_w_UNION, ne_w_INTERFACE_w_VALUE_TYPE, ne_w_INTERFACE_w_STRUCT, ne_w_INTERFACE_w_UNION, ne_w_VALUE_TYPE_w_STRUCT, ne_w_VALUE_TYPE_w_UNION, ne_w_STRUCT_w_UNION, ne_w_EXCEPTION_w_INTERFACE, ne_w_EXCEPTION_w_VALUE_TYPE, ne_w_EXCEPTION_w_STRUCT, ne_w_EXCEPTION_w_UNION, ne_w_OPERATION_w_INTERFACE, ne_w_OPERATION_w_VALUE_TYPE, ne_w_OPERATION_w_STRUCT, ne_w_OPERATION_w_UNION, ne_w_FACTORY_w_INTERFACE, ne_w_FACTORY_w_VALUE_TYPE, ne_w_FACTORY_w_STRUCT, ne_w_FACTORY_w_UNION, ne_w_COMPONENT_w_INTERFACE, ne_w_COMPONENT_w_VALUE_TYPE, ne_w_COMPONENT_w_STRUCT, ne_w_COMPONENT_w_UNION, ne_w_COMPONENT_INTERFACE_w_INTERFACE, ne_w_COMPONENT_INTERFACE_w_VALUE_TYPE, ne_w_COMPONENT_INTERFACE_w_STRUCT, ne_w_COMPONENT_INTERFACE_w_UNION, ne_w_IDS_w_INTERFACE, ne_w_IDS_w_VALUE_TYPE, ne_w_IDS_w_STRUCT, ne_w_IDS_w_UNION, Ne.symm ne_w_INTERFACE_w_VALUE_TYPE, Ne.symm ne_w_INTERFACE_w_STRUCT, Ne.symm ne_w_INTERFACE_w_UNION, Ne.symm ne_w_VALUE_TYPE_w_STRUCT, Ne.symm ne_w_VALUE_TYPE_w_UNION, Ne.symm ne_w_STRUCT_w_UNION]
  · subst hk186
    show own_Ends p.tables e below s _ _ _ (T183.setTop (mkF m 151 #[.val (.int x0_0), .val (.ref b1), .val (.ref b136), .val (.int (2 : Int32))] []))
    refine own_step (fun t k => XS.aloadN X183.here hx rfl (hb hby at_151) rfl rfl k) ?_
    show own_Ends p.tables e below s _ _ _ (T183.setTop (mkF m 152 #[.val (.int x0_0), .val (.ref b1), .val (.ref b136), .val (.int (2 : Int32))] [(.ref b1)]))
    refine own_step (fun t k => XS.iloadN X183.here hx rfl (hb hby at_152) rfl k) ?_
    show own_Ends p.tables e below s _ _ _ (T183.setTop (mkF m 153 #[.val (.int x0_0), .val (.ref b1), .val (.ref b136), .val (.int (2 : Int32))] [(.int (2 : Int32)), (.ref b1)]))
    have F227 : Arv Z h143 b1 k1 (.object "com/example/idlect/idlect/core/Symbol$Container$Kind") (12 : Int32) [(.ref w_FILE), (.ref w_MODULE), (.ref w_INTERFACE), (.ref w_VALUE_TYPE), (.ref w_STRUCT), (.ref w_UNION), (.ref w_EXCEPTION), (.ref w_OPERATION), (.ref w_FACTORY), (.ref w_COMPONENT), (.ref w_COMPONENT_INTERFACE), (.ref w_IDS)] .null := (((V102.ext E136).other W139 ne_b1_b136).other W143 ne_b1_b136)
    have F228 : Arv Z h155 b1 k1 (.object "com/example/idlect/idlect/core/Symbol$Container$Kind") (12 : Int32) [(.ref w_FILE), (.ref w_MODULE), (.ref w_INTERFACE), (.ref w_VALUE_TYPE), (.ref w_STRUCT), (.ref w_UNION), (.ref w_EXCEPTION), (.ref w_OPERATION), (.ref w_FACTORY), (.ref w_COMPONENT), (.ref w_COMPONENT_INTERFACE), (.ref w_IDS)] .null := (((F227.other W147 ne_b1_b136).other W151 ne_b1_b136).other W155 ne_b1_b136)
    have F229 : Arv Z h167 b1 k1 (.object "com/example/idlect/idlect/core/Symbol$Container$Kind") (12 : Int32) [(.ref w_FILE), (.ref w_MODULE), (.ref w_INTERFACE), (.ref w_VALUE_TYPE), (.ref w_STRUCT), (.ref w_UNION), (.ref w_EXCEPTION), (.ref w_OPERATION), (.ref w_FACTORY), (.ref w_COMPONENT), (.ref w_COMPONENT_INTERFACE), (.ref w_IDS)] .null := (((F228.other W159 ne_b1_b136).other W163 ne_b1_b136).other W167 ne_b1_b136)
    have F230 : Arv Z h179 b1 k1 (.object "com/example/idlect/idlect/core/Symbol$Container$Kind") (12 : Int32) [(.ref w_FILE), (.ref w_MODULE), (.ref w_INTERFACE), (.ref w_VALUE_TYPE), (.ref w_STRUCT), (.ref w_UNION), (.ref w_EXCEPTION), (.ref w_OPERATION), (.ref w_FACTORY), (.ref w_COMPONENT), (.ref w_COMPONENT_INTERFACE), (.ref w_IDS)] .null := (((F229.other W171 ne_b1_b136).other W175 ne_b1_b136).other W179 ne_b1_b136)
    have F231 : Arv Z h183 b1 k1 (.object "com/example/idlect/idlect/core/Symbol$Container$Kind") (12 : Int32) [(.ref w_FILE), (.ref w_MODULE), (.ref w_INTERFACE), (.ref w_VALUE_TYPE), (.ref w_STRUCT), (.ref w_UNION), (.ref w_EXCEPTION), (.ref w_OPERATION), (.ref w_FACTORY), (.ref w_COMPONENT), (.ref w_COMPONENT_INTERFACE), (.ref w_IDS)] .null := (F230.other W183 ne_b1_b136)
    obtain ⟨cl232, Ar232, q232, S232, N232, H232, G232⟩ := id F231
    have hin232 : ¬ ((2 : Int32) < 0 ∨ cl232.slots.size ≤ ((2 : Int32)).toNatClampNeg) := inb_of S232 ⟨by decide, by decide⟩
    have hat232 : cl232.slots[((2 : Int32)).toNatClampNeg]? = some (.ref w_INTERFACE) := H232.at hin232 rfl
    refine own_step (fun t k => X183.aaload hx (j := (2 : Int32)) (v := (.ref w_INTERFACE)) (by rw [e183]; exact Ar232.1) (State.isArrayOf_alike hZ.alike Ar232.2.1) rfl Ar232.2.2 hin232 hat232 (g := (mkF m 153 #[.val (.int x0_0), .val (.ref b1), .val (.ref b136), .val (.int (2 : Int32))] [(.int (2 : Int32)), (.ref b1)])) rfl rfl (hb hby at_153) _ k) ?_
    show own_Ends p.tables e below s _ _ _ (T183.setTop (mkF m 154 #[.val (.int x0_0), .val (.ref b1), .val (.ref b136), .val (.int (2 : Int32))] [(.ref w_INTERFACE)]))
    have O233 : Old Z n0 h143 := (((O105.ext E136).wr W139 g_b136).wr W143 g_b136)
    have O234 : Old Z n0 h155 := (((O233.wr W147 g_b136).wr W151 g_b136).wr W155 g_b136)
    have O235 : Old Z n0 h167 := (((O234.wr W159 g_b136).wr W163 g_b136).wr W167 g_b136)
    have O236 : Old Z n0 h179 := (((O235.wr W171 g_b136).wr W175 g_b136).wr W179 g_b136)
    have O237 : Old Z n0 h183 := (O236.wr W183 g_b136)
    have F239 : Exa Z h143 w_INTERFACE "com/example/idlect/idlect/core/Symbol$Container$Kind" := (((F117.ext E136).wr W139).wr W143)
    have F240 : Exa Z h155 w_INTERFACE "com/example/idlect/idlect/core/Symbol$Container$Kind" := (((F239.wr W147).wr W151).wr W155)
    have F241 : Exa Z h167 w_INTERFACE "com/example/idlect/idlect/core/Symbol$Container$Kind" := (((F240.wr W159).wr W163).wr W167)
    have F242 : Exa Z h179 w_INTERFACE "com/example/idlect/idlect/core/Symbol$Container$Kind" := (((F241.wr W171).wr W175).wr W179)
    have F243 : Exa Z h183 w_INTERFACE "com/example/idlect/idlect/core/Symbol$Container$Kind" := (F242.wr W183)
    obtain ⟨cq238, kq238, q238a, q238b, q238c⟩ := isOf hZ e183 F243
    obtain ⟨_, _, ⟨T238, L238, k238, n238⟩, -, X238, ⟨Lc238, hQ238, l238, y238, z238⟩, st238⟩ := X183.virtualBack hx (y := (⟨"com/example/idlect/idlect/core/Symbol$Container$Kind", "isType", "()Z"⟩ : MethodName)) (z := (⟨"com/example/idlect/idlect/core/Symbol$Container$Kind", "isType", "()Z"⟩ : MethodName)) hown (mvT hZ (hw _ (List.mem_of_getElem? (i := 30) rfl))) (mvT hZ (hw _ (List.mem_of_getElem? (i := 31) rfl))) (notFace_of_selects (args := #[]) (mvT hZ (hw _ (List.mem_of_getElem? (i := 33) rfl)))) (mvT hZ (hw _ (List.mem_of_getElem? (i := 33) rfl))) (mvT hZ (hw _ (List.mem_of_getElem? (i := 32) rfl))) (by decide) (backOf (W := 0) (rm1 l Z a0 hw [] w_INTERFACE w_INTERFACE w_VALUE_TYPE w_STRUCT w_UNION h183 n0 O237 S_INTERFACE S_VALUE_TYPE S_STRUCT S_UNION) hZ (hw _ (List.mem_of_getElem? (i := 34) rfl)) (hw _ (List.mem_of_getElem? (i := 3) rfl)) (by decide) (by decide)) q238a q238c (g := (mkF m 154 #[.val (.int x0_0), .val (.ref b1), .val (.ref b136), .val (.int (2 : Int32))] [(.ref w_INTERFACE)])) rfl (by rw [hml]; rfl) (Steps.refl _) (argsL := []) (rest := []) (lenOf pd_0 rfl) rfl (by show 2 * 0 + _ ≤ _; exact Nat.le_of_eq rfl) (hb hby at_154) (fun _ _ => ⟨rfl, e183, (by decide : 2 + 0 ≤ _), (by decide : 24 + 0 ≤ _)⟩)
    dsimp only [Pt.U, Pt.locs, Pt.cells, Pt.slots] at X238 l238 y238 z238 st238 hQ238
    subst y238 z238
    obtain ⟨rfl, N238q, e238⟩ := hQ238
    refine own_step (fun t k => st238.trans k) ?_
    have N244 : Fr n0 L238 := by rw [l238]; exact Fr.app N185 N238q
    show own_Ends p.tables e below s _ _ _ (T238.setTop (mkF m 157 #[.val (.int x0_0), .val (.ref b1), .val (.ref b136), .val (.int (2 : Int32))] [(.int (own_r1 w_INTERFACE w_INTERFACE w_VALUE_TYPE w_STRUCT w_UNION))]))
    refine own_step (fun t k => XS.aloadN X238.here hx rfl (hb hby at_157) rfl rfl k) ?_
    show own_Ends p.tables e below s _ _ _ (T238.setTop (mkF m 158 #[.val (.int x0_0), .val (.ref b1), .val (.ref b136), .val (.int (2 : Int32))] [(.ref b136), (.int (own_r1 w_INTERFACE w_INTERFACE w_VALUE_TYPE w_STRUCT w_UNION))]))
    refine own_step (fun t k => XS.iloadN X238.here hx rfl (hb hby at_158) rfl k) ?_
    show own_Ends p.tables e below s _ _ _ (T238.setTop (mkF m 159 #[.val (.int x0_0), .val (.ref b1), .val (.ref b136), .val (.int (2 : Int32))] [(.int (2 : Int32)), (.ref b136), (.int (own_r1 w_INTERFACE w_INTERFACE w_VALUE_TYPE w_STRUCT w_UNION))]))
    obtain ⟨cl245, Ar245, q245, S245, N245, H245, G245⟩ := id V183
    have hin245 : ¬ ((2 : Int32) < 0 ∨ cl245.slots.size ≤ ((2 : Int32)).toNatClampNeg) := inb_of S245 ⟨by decide, by decide⟩
    have hat245 : cl245.slots[((2 : Int32)).toNatClampNeg]? = some (.int (1 : Int32)) := H245.at hin245 rfl
    refine own_step (fun t k => X238.baloadBooleans hx (j := (2 : Int32)) (v := (.int (1 : Int32))) (by rw [e238]; exact Ar245.1) (State.isArrayOf_alike hZ.alike Ar245.2.1) Ar245.2.2 hin245 hat245 (g := (mkF m 159 #[.val (.int x0_0), .val (.ref b1), .val (.ref b136), .val (.int (2 : Int32))] [(.int (2 : Int32)), (.ref b136), (.int (own_r1 w_INTERFACE w_INTERFACE w_VALUE_TYPE w_STRUCT w_UNION))])) rfl rfl (hb hby at_159) _ k) ?_
    show own_Ends p.tables e below s _ _ _ (T238.setTop (mkF m 160 #[.val (.int x0_0), .val (.ref b1), .val (.ref b136), .val (.int (2 : Int32))] [(.int (1 : Int32)), (.int (own_r1 w_INTERFACE w_INTERFACE w_VALUE_TYPE w_STRUCT w_UNION))]))
    by_cases hc160_246 : (own_r1 w_INTERFACE w_INTERFACE w_VALUE_TYPE w_STRUCT w_UNION) = (1 : Int32)
    · skip
      refine own_step (fun t k => XS.icmpNo X238.here hx rfl (hb hby at_160) rfl (teq hc160_246).2 k) ?_
      show own_Ends p.tables e below s _ _ _ (T238.setTop (mkF m 163 #[.val (.int x0_0), .val (.ref b1), .val (.ref b136), .val (.int (2 : Int32))] []))
      refine own_step (fun t k => XS.iconst X238.here hx rfl (hb hby at_163) k) ?_
      show own_Ends p.tables e below s _ _ _ (T238.setTop (mkF m 164 #[.val (.int x0_0), .val (.ref b1), .val (.ref b136), .val (.int (2 : Int32))] [(.int (1 : Int32))]))
      refine own_step (fun t k => XS.goto X238.here hx rfl (pc0 := 164) (pc' := 168) rfl (hb hby at_164) (by decide) (by decide) k) ?_
      show own_Ends p.tables e below s _ _ _ (T238.setTop (mkF m 168 #[.val (.int x0_0), .val (.ref b1), .val (.ref b136), .val (.int (2 : Int32))] [(.int (1 : Int32))]))
      exact own_retN X238 hx (t := .boolean) Bd.returns (by simp) (hb hby at_168) hnl (by rw [e238]; exact ⟨rfl, N244⟩) (by decide) (by decide)
    · skip
      refine own_step (fun t k => XS.icmpYes X238.here hx rfl (pc0 := 160) (pc' := 167) rfl (hb hby at_160) rfl (feq hc160_246).2 (by decide) (by decide) k) ?_
      show own_Ends p.tables e below s _ _ _ (T238.setTop (mkF m 167 #[.val (.int x0_0), .val (.ref b1), .val (.ref b136), .val (.int (2 : Int32))] []))
      refine own_step (fun t k => XS.iconst X238.here hx rfl (hb hby at_167) k) ?_
      show own_Ends p.tables e below s _ _ _ (T238.setTop (mkF m 168 #[.val (.int x0_0), .val (.ref b1), .val (.ref b136), .val (.int (2 : Int32))] [(.int (0 : Int32))]))
      exfalso
      apply hc160_246
      simp [own_r1, ne_w_FILE_w_INTERFACE, ne_w_FILE_w_VALUE_TYPE, ne_w_FILE_w_STRUCT, ne_w_FILE_w_UNION, ne_w_MODULE_w_INTERFACE, ne_w_MODULE_w_VALUE_TYPE, ne_w_MODULE_w_STRUCT, ne_w_MODULE_w_UNION, ne_w_INTERFACE_w_VALUE_TYPE, ne_w_INTERFACE_w_STRUCT, ne_w_INTERFACE_w_UNION, ne_w_VALUE_TYPE_w_STRUCT, ne_w_VALUE_TYPE_w_UNION, ne_w_STRUCT_w_UNION, ne_w_EXCEPTION_w_INTERFACE, ne_w_EXCEPTION_w_VALUE_TYPE, ne_w_EXCEPTION_w_STRUCT, ne_w_EXCEPTION_w_UNION, ne_w_OPERATION_w_INTERFACE, ne_w_OPERATION_w_VALUE_TYPE, ne_w_OPERATION_w_STRUCT, ne_w_OPERATION_w_UNION, ne_w_FACTORY_w_INTERFACE, ne_w_FACTORY_w_VALUE_TYPE, ne_w_FACTORY_w_STRUCT, ne_w_FACTORY_w_UNION, ne_w_COMPONENT_w_INTERFACE, ne_w_COMPONENT_w_VALUE_TYPE, ne_w_COMPONENT_w_STRUCT, ne_w_COMPONENT_w_UNION, ne_w_COMPONENT_INTERFACE_w_INTERFACE, ne_w_COMPONENT_INTERFACE_w_VALUE_TYPE, ne_w_COMPONENT_INTERFACE_w_STRUCT, ne_w_COMPONENT_INTERFACE_w_UNION, ne_w_IDS_w_INTERFACE, ne_w_IDS_w_VALUE_TYPE, ne_w_IDS_w_STRUCT, ne_w_IDS_w_UNION, Ne.symm ne_w_INTERFACE_w_VALUE_TYPE, Ne.symm ne_w_INTERFACE_w_STRUCT, Ne.symm ne_w_INTERFACE_w_UNION, Ne.symm ne_w_VALUE_TYPE_w_STRUCT, Ne.symm ne_w_VALUE_TYPE_w_UNION, Ne.symm ne_w_STRUCT_w_UNION]
  · subst hk186
    show own_Ends p.tables e below s _ _ _ (T183.setTop (mkF m 151 #[.val (.int x0_0), .val (.ref b1), .val (.ref b136), .val (.int (3 : Int32))] []))
    refine own_step (fun t k => XS.aloadN X183.here hx rfl (hb hby at_151) rfl rfl k) ?_
    show own_Ends p.tables e below s _ _ _ (T183.setTop (mkF m 152 #[.val (.int x0_0), .val (.ref b1), .val (.ref b136), .val (.int (3 : Int32))] [(.ref b1)]))
    refine own_step (fun t k => XS.iloadN X183.here hx rfl (hb hby at_152) rfl k) ?_
    show own_Ends p.tables e below s _ _ _ (T183.setTop (mkF m 153 #[.val (.int x0_0), .val (.ref b1), .val (.ref b136), .val (.int (3 : Int32))] [(.int (3 : Int32)), (.ref b1)]))
    have F247 : Arv Z h143 b1 k1 (.object "com/example/idlect/idlect/core/Symbol$Container$Kind") (12 : Int32) [(.ref w_FILE), (.ref w_MODULE), (.ref w_INTERFACE), (.ref w_VALUE_TYPE), (.ref w_STRUCT), (.ref w_UNION), (.ref w_EXCEPTION), (.ref w_OPERATION), (.ref w_FACTORY), (.ref w_COMPONENT), (.ref w_COMPONENT_INTERFACE), (.ref w_IDS)] .null := (((V102.ext E136).other W139 ne_b1_b136).other W143 ne_b1_b136)
    have F248 : Arv Z h155 b1 k1 (.object "com/example/idlect/idlect/core/Symbol$Container$Kind") (12 : Int32) [(.ref w_FILE), (.ref w_MODULE), (.ref w_INTERFACE), (.ref w_VALUE_TYPE), (.ref w_STRUCT), (.ref w_UNION), (.ref w_EXCEPTION), (.ref w_OPERATION), (.ref w_FACTORY), (.ref w_COMPONENT), (.ref w_COMPONENT_INTERFACE), (.ref w_IDS)] .null := (((F247.other W147 ne_b1_b136).other W151 ne_b1_b136).other W155 ne_b1_b136)
    have F249 : Arv Z h167 b1 k1 (.object "com/example/idlect/idlect/core/Symbol$Container$Kind") (12 : Int32) [(.ref w_FILE), (.ref w_MODULE), (.ref w_INTERFACE), (.ref w_VALUE_TYPE), (.ref w_STRUCT), (.ref w_UNION), (.ref w_EXCEPTION), (.ref w_OPERATION), (.ref w_FACTORY), (.ref w_COMPONENT), (.ref w_COMPONENT_INTERFACE), (.ref w_IDS)] .null := (((F248.other W159 ne_b1_b136).other W163 ne_b1_b136).other W167 ne_b1_b136)
    have F250 : Arv Z h179 b1 k1 (.object "com/example/idlect/idlect/core/Symbol$Container$Kind") (12 : Int32) [(.ref w_FILE), (.ref w_MODULE), (.ref w_INTERFACE), (.ref w_VALUE_TYPE), (.ref w_STRUCT), (.ref w_UNION), (.ref w_EXCEPTION), (.ref w_OPERATION), (.ref w_FACTORY), (.ref w_COMPONENT), (.ref w_COMPONENT_INTERFACE), (.ref w_IDS)] .null := (((F249.other W171 ne_b1_b136).other W175 ne_b1_b136).other W179 ne_b1_b136)
    have F251 : Arv Z h183 b1 k1 (.object "com/example/idlect/idlect/core/Symbol$Container$Kind") (12 : Int32) [(.ref w_FILE), (.ref w_MODULE), (.ref w_INTERFACE), (.ref w_VALUE_TYPE), (.ref w_STRUCT), (.ref w_UNION), (.ref w_EXCEPTION), (.ref w_OPERATION), (.ref w_FACTORY), (.ref w_COMPONENT), (.ref w_COMPONENT_INTERFACE), (.ref w_IDS)] .null := (F250.other W183 ne_b1_b136)
    obtain ⟨cl252, Ar252, q252, S252, N252, H252, G252⟩ := id F251
    have hin252 : ¬ ((3 : Int32) < 0 ∨ cl252.slots.size ≤ ((3 : Int32)).toNatClampNeg) := inb_of S252 ⟨by decide, by decide⟩
    have hat252 : cl252.slots[((3 : Int32)).toNatClampNeg]? = some (.ref w_VALUE_TYPE) := H252.at hin252 rfl
    refine own_step (fun t k => X183.aaload hx (j := (3 : Int32)) (v := (.ref w_VALUE_TYPE)) (by rw [e183]; exact Ar252.1) (State.isArrayOf_alike hZ.alike Ar252.2.1) rfl Ar252.2.2 hin252 hat252 (g := (mkF m 153 #[.val (.int x0_0), .val (.ref b1), .val (.ref b136), .val (.int (3 : Int32))] [(.int (3 : Int32)), (.ref b1)])) rfl rfl (hb hby at_153) _ k) ?_
    show own_Ends p.tables e below s _ _ _ (T183.setTop (mkF m 154 #[.val (.int x0_0), .val (.ref b1), .val (.ref b136), .val (.int (3 : Int32))] [(.ref w_VALUE_TYPE)]))
    have O253 : Old Z n0 h143 := (((O105.ext E136).wr W139 g_b136).wr W143 g_b136)
    have O254 : Old Z n0 h155 := (((O253.wr W147 g_b136).wr W151 g_b136).wr W155 g_b136)
    have O255 : Old Z n0 h167 := (((O254.wr W159 g_b136).wr W163 g_b136).wr W167 g_b136)
    have O256 : Old Z n0 h179 := (((O255.wr W171 g_b136).wr W175 g_b136).wr W179 g_b136)
    have O257 : Old Z n0 h183 := (O256.wr W183 g_b136)
    have F259 : Exa Z h143 w_VALUE_TYPE "com/example/idlect/idlect/core/Symbol$Container$Kind" := (((F120.ext E136).wr W139).wr W143)
    have F260 : Exa Z h155 w_VALUE_TYPE "com/example/idlect/idlect/core/Symbol$Container$Kind" := (((F259.wr W147).wr W151).wr W155)
    have F261 : Exa Z h167 w_VALUE_TYPE "com/example/idlect/idlect/core/Symbol$Container$Kind" := (((F260.wr W159).wr W163).wr W167)
    have F262 : Exa Z h179 w_VALUE_TYPE "com/example/idlect/idlect/core/Symbol$Container$Kind" := (((F261.wr W171).wr W175).wr W179)
    have F263 : Exa Z h183 w_VALUE_TYPE "com/example/idlect/idlect/core/Symbol$Container$Kind" := (F262.wr W183)
    obtain ⟨cq258, kq258, q258a, q258b, q258c⟩ := isOf hZ e183 F263
    obtain ⟨_, _, ⟨T258, L258, k258, n258⟩, -, X258, ⟨Lc258, hQ258, l258, y258, z258⟩, st258⟩ := X183.virtualBack hx (y := (⟨"com/example/idlect/idlect/core/Symbol$Container$Kind", "isType", "()Z"⟩ : MethodName)) (z := (⟨"com/example/idlect/idlect/core/Symbol$Container$Kind", "isType", "()Z"⟩ : MethodName)) hown (mvT hZ (hw _ (List.mem_of_getElem? (i := 30) rfl))) (mvT hZ (hw _ (List.mem_of_getElem? (i := 31) rfl))) (notFace_of_selects (args := #[]) (mvT hZ (hw _ (List.mem_of_getElem? (i := 33) rfl)))) (mvT hZ (hw _ (List.mem_of_getElem? (i := 33) rfl))) (mvT hZ (hw _ (List.mem_of_getElem? (i := 32) rfl))) (by decide) (backOf (W := 0) (rm1 l Z a0 hw [] w_VALUE_TYPE w_INTERFACE w_VALUE_TYPE w_STRUCT w_UNION h183 n0 O257 S_INTERFACE S_VALUE_TYPE S_STRUCT S_UNION) hZ (hw _ (List.mem_of_getElem? (i := 34) rfl)) (hw _ (List.mem_of_getElem? (i := 3) rfl)) (by decide) (by decide)) q258a q258c (g := (mkF m 154 #[.val (.int x0_0), .val (.ref b1), .val (.ref b136), .val (.int (3 : Int32))] [(.ref w_VALUE_TYPE)])) rfl (by rw [hml]; rfl) (Steps.refl _) (argsL := []) (rest := []) (lenOf pd_0 rfl) rfl (by show 2 * 0 + _ ≤ _; exact Nat.le_of_eq rfl) (hb hby at_154) (fun _ _ => ⟨rfl, e183, (by decide : 2 + 0 ≤ _), (by decide : 24 + 0 ≤ _)⟩)
    dsimp only [Pt.U, Pt.locs, Pt.cells, Pt.slots] at X258 l258 y258 z258 st258 hQ258
    subst y258 z258
    obtain ⟨rfl, N258q, e258⟩ := hQ258
    refine own_step (fun t k => st258.trans k) ?_
    have N264 : Fr n0 L258 := by rw [l258]; exact Fr.app N185 N258q
    show own_Ends p.tables e below s _ _ _ (T258.setTop (mkF m 157 #[.val (.int x0_0), .val (.ref b1), .val (.ref b136), .val (.int (3 : Int32))] [(.int (own_r1 w_VALUE_TYPE w_INTERFACE w_VALUE_TYPE w_STRUCT w_UNION))]))
    refine own_step (fun t k => XS.aloadN X258.here hx rfl (hb hby at_157) rfl rfl k) ?_
    show own_Ends p.tables e below s _ _ _ (T258.setTop (mkF m 158 #[.val (.int x0_0), .val (.ref b1), .val (.ref b136), .val (.int (3 : Int32))] [(.ref b136), (.int (own_r1 w_VALUE_TYPE w_INTERFACE w_VALUE_TYPE w_STRUCT w_UNION))]))
    refine own_step (fun t k => XS.iloadN X258.here hx rfl (hb hby at_158) rfl k) ?_
    show own_Ends p.tables e below s _ _ _ (T258.setTop (mkF m 159 #[.val (.int x0_0), .val (.ref b1), .val (.ref b136), .val (.int (3 : Int32))] [(.int (3 : Int32)), (.ref b136), (.int (own_r1 w_VALUE_TYPE w_INTERFACE w_VALUE_TYPE w_STRUCT w_UNION))]))
    obtain ⟨cl265, Ar265, q265, S265, N265, H265, G265⟩ := id V183
    have hin265 : ¬ ((3 : Int32) < 0 ∨ cl265.slots.size ≤ ((3 : Int32)).toNatClampNeg) := inb_of S265 ⟨by decide, by decide⟩
    have hat265 : cl265.slots[((3 : Int32)).toNatClampNeg]? = some (.int (1 : Int32)) := H265.at hin265 rfl
    refine own_step (fun t k => X258.baloadBooleans hx (j := (3 : Int32)) (v := (.int (1 : Int32))) (by rw [e258]; exact Ar265.1) (State.isArrayOf_alike hZ.alike Ar265.2.1) Ar265.2.2 hin265 hat265 (g := (mkF m 159 #[.val (.int x0_0), .val (.ref b1), .val (.ref b136), .val (.int (3 : Int32))] [(.int (3 : Int32)), (.ref b136), (.int (own_r1 w_VALUE_TYPE w_INTERFACE w_VALUE_TYPE w_STRUCT w_UNION))])) rfl rfl (hb hby at_159) _ k) ?_
    show own_Ends p.tables e below s _ _ _ (T258.setTop (mkF m 160 #[.val (.int x0_0), .val (.ref b1), .val (.ref b136), .val (.int (3 : Int32))] [(.int (1 : Int32)), (.int (own_r1 w_VALUE_TYPE w_INTERFACE w_VALUE_TYPE w_STRUCT w_UNION))]))
    by_cases hc160_266 : (own_r1 w_VALUE_TYPE w_INTERFACE w_VALUE_TYPE w_STRUCT w_UNION) = (1 : Int32)
    · skip
      refine own_step (fun t k => XS.icmpNo X258.here hx rfl (hb hby at_160) rfl (teq hc160_266).2 k) ?_
      show own_Ends p.tables e below s _ _ _ (T258.setTop (mkF m 163 #[.val (.int x0_0), .val (.ref b1), .val (.ref b136), .val (.int (3 : Int32))] []))
      refine own_step (fun t k => XS.iconst X258.here hx rfl (hb hby at_163) k) ?_
      show own_Ends p.tables e below s _ _ _ (T258.setTop (mkF m 164 #[.val (.int x0_0), .val (.ref b1), .val (.ref b136), .val (.int (3 : Int32))] [(.int (1 : Int32))]))
      refine own_step (fun t k => XS.goto X258.here hx rfl (pc0 := 164) (pc' := 168) rfl (hb hby at_164) (by decide) (by decide) k) ?_
      show own_Ends p.tables e below s _ _ _ (T258.setTop (mkF m 168 #[.val (.int x0_0), .val (.ref b1), .val (.ref b136), .val (.int (3 : Int32))] [(.int (1 : Int32))]))
      exact own_retN X258 hx (t := .boolean) Bd.returns (by simp) (hb hby at_168) hnl (by rw [e258]; exact ⟨rfl, N264⟩) (by decide) (by decide)
    · skip
      refine own_step (fun t k => XS.icmpYes X258.here hx rfl (pc0 := 160) (pc' := 167) rfl (hb hby at_160) rfl (feq hc160_266).2 (by decide) (by decide) k) ?_
      show own_Ends p.tables e below s _ _ _ (T258.setTop (mkF m 167 #[.val (.int x0_0), .val (.ref b1), .val (.ref b136), .val (.int (3 : Int32))] []))
      refine own_step (fun t k => XS.iconst X258.here hx rfl (hb hby at_167) k) ?_
      show own_Ends p.tables e below s _ _ _ (T258.setTop (mkF m 168 #[.val (.int x0_0), .val (.ref b1), .val (.ref b136), .val (.int (3 : Int32))] [(.int (0 : Int32))]))
      exfalso
      apply hc160_266
      simp [own_r1, ne_w_FILE_w_INTERFACE, ne_w_FILE_w_VALUE_TYPE, ne_w_FILE_w_STRUCT, ne_w_FILE_w_UNION, ne_w_MODULE_w_INTERFACE, ne_w_MODULE_w_VALUE_TYPE, ne_w_MODULE_w_STRUCT, ne_w_MODULE_w_UNION, ne_w_INTERFACE_w_VALUE_TYPE, ne_w_INTERFACE_w_STRUCT, ne_w_INTERFACE_w_UNION, ne_w_VALUE_TYPE_w_STRUCT, ne_w_VALUE_TYPE_w_UNION, ne_w_STRUCT_w_UNION, ne_w_EXCEPTION_w_INTERFACE, ne_w_EXCEPTION_w_VALUE_TYPE, ne_w_EXCEPTION_w_STRUCT, ne_w_EXCEPTION_w_UNION, ne_w_OPERATION_w_INTERFACE, ne_w_OPERATION_w_VALUE_TYPE, ne_w_OPERATION_w_STRUCT, ne_w_OPERATION_w_UNION, ne_w_FACTORY_w_INTERFACE, ne_w_FACTORY_w_VALUE_TYPE, ne_w_FACTORY_w_STRUCT, ne_w_FACTORY_w_UNION, ne_w_COMPONENT_w_INTERFACE, ne_w_COMPONENT_w_VALUE_TYPE, ne_w_COMPONENT_w_STRUCT, ne_w_COMPONENT_w_UNION, ne_w_COMPONENT_INTERFACE_w_INTERFACE, ne_w_COMPONENT_INTERFACE_w_VALUE_TYPE, ne_w_COMPONENT_INTERFACE_w_STRUCT, ne_w_COMPONENT_INTERFACE_w_UNION, ne_w_IDS_w_INTERFACE, ne_w_IDS_w_VALUE_TYPE, ne_w_IDS_w_STRUCT, ne_w_IDS_w_UNION, Ne.symm ne_w_INTERFACE_w_VALUE_TYPE, Ne.symm ne_w_INTERFACE_w_STRUCT, Ne.symm ne_w_INTERFACE_w_UNION, Ne.symm ne_w_VALUE_TYPE_w_STRUCT, Ne.symm ne_w_VALUE_TYPE_w_UNION, Ne.symm ne_w_STRUCT_w_UNION]
  · subst hk186
    show own_Ends p.tables e below s _ _ _ (T183.setTop (mkF m 151 #[.val (.int x0_0), .val (.ref b1), .val (.ref b136), .val (.int (4 : Int32))] []))
    refine own_step (fun t k => XS.aloadN X183.here hx rfl (hb hby at_151) rfl rfl k) ?_
    show own_Ends p.tables e below s _ _ _ (T183.setTop (mkF m 152 #[.val (.int x0_0), .val (.ref b1), .val (.ref b136), .val (.int (4 : Int32))] [(.ref b1)]))
    refine own_step (fun t k => XS.iloadN X183.here hx rfl (hb hby at_152) rfl k) ?_
    show own_Ends p.tables e below s _ _ _ (T183.setTop (mkF m 153 #[.val (.int x0_0), .val (.ref b1), .val (.ref b136), .val (.int (4 : Int32))] [(.int (4 : Int32)), (.ref b1)]))
    have F267 : Arv Z h143 b1 k1 (.object "com/example/idlect/idlect/core/Symbol$Container$Kind") (12 : Int32) [(.ref w_FILE), (.ref w_MODULE), (.ref w_INTERFACE), (.ref w_VALUE_TYPE), (.ref w_STRUCT), (.ref w_UNION), (.ref w_EXCEPTION), (.ref w_OPERATION), (.ref w_FACTORY), (.ref w_COMPONENT), (.ref w_COMPONENT_INTERFACE), (.ref w_IDS)] .null := (((V102.ext E136).other W139 ne_b1_b136).other W143 ne_b1_b136)
    have F268 : Arv Z h155 b1 k1 (.object "com/example/idlect/idlect/core/Symbol$Container$Kind") (12 : Int32) [(.ref w_FILE), (.ref w_MODULE), (.ref w_INTERFACE), (.ref w_VALUE_TYPE), (.ref w_STRUCT), (.ref w_UNION), (.ref w_EXCEPTION), (.ref w_OPERATION), (.ref w_FACTORY), (.ref w_COMPONENT), (.ref w_COMPONENT_INTERFACE), (.ref w_IDS)] .null := (((F267.other W147 ne_b1_b136).other W151 ne_b1_b136).other W155 ne_b1_b136)
    have F269 : Arv Z h167 b1 k1 (.object "com/example/idlect/idlect/core/Symbol$Container$Kind") (12 : Int32) [(.ref w_FILE), (.ref w_MODULE), (.ref w_INTERFACE), (.ref w_VALUE_TYPE), (.ref w_STRUCT), (.ref w_UNION), (.ref w_EXCEPTION), (.ref w_OPERATION), (.ref w_FACTORY), (.ref w_COMPONENT), (.ref w_COMPONENT_INTERFACE), (.ref w_IDS)] .null := (((F268.other W159 ne_b1_b136).other W163 ne_b1_b136).other W167 ne_b1_b136)
    have F270 : Arv Z h179 b1 k1 (.object "com/example/idlect/idlect/core/Symbol$Container$Kind") (12 : Int32) [(.ref w_FILE), (.ref w_MODULE), (.ref w_INTERFACE), (.ref w_VALUE_TYPE), (.ref w_STRUCT), (.ref w_UNION), (.ref w_EXCEPTION), (.ref w_OPERATION), (.ref w_FACTORY), (.ref w_COMPONENT), (.ref w_COMPONENT_INTERFACE), (.ref w_IDS)] .null := (((F269.other W171 ne_b1_b136).other W175 ne_b1_b136).other W179 ne_b1_b136)
    have F271 : Arv Z h183 b1 k1 (.object "com/example/idlect/idlect/core/Symbol$Container$Kind") (12 : Int32) [(.ref w_FILE), (.ref w_MODULE), (.ref w_INTERFACE), (.ref w_VALUE_TYPE), (.ref w_STRUCT), (.ref w_UNION), (.ref w_EXCEPTION), (.ref w_OPERATION), (.ref w_FACTORY), (.ref w_COMPONENT), (.ref w_COMPONENT_INTERFACE), (.ref w_IDS)] .null := (F270.other W183 ne_b1_b136)
    obtain ⟨cl272, Ar272, q272, S272, N272, H272, G272⟩ := id F271
    have hin272 : ¬ ((4 : Int32) < 0 ∨ cl272.slots.size ≤ ((4 : Int32)).toNatClampNeg) := inb_of S272 ⟨by decide, by decide⟩
    have hat272 : cl272.slots[((4 : Int32)).toNatClampNeg]? = some (.ref w_STRUCT) := H272.at hin272 rfl
    refine own_step (fun t k => X183.aaload hx (j := (4 : Int32)) (v := (.ref w_STRUCT)) (by rw [e183]; exact Ar272.1) (State.isArrayOf_alike hZ.alike Ar272.2.1) rfl Ar272.2.2 hin272 hat272 (g := (mkF m 153 #[.val (.int x0_0), .val (.ref b1), .val (.ref b136), .val (.int (4 : Int32))] [(.int (4 : Int32)), (.ref b1)])) rfl rfl (hb hby at_153) _ k) ?_
    show own_Ends p.tables e below s _ _ _ (T183.setTop (mkF m 154 #[.val (.int x0_0), .val (.ref b1), .val (.ref b136), .val (.int (4 : Int32))] [(.ref w_STRUCT)]))
    have O273 : Old Z n0 h143 := (((O105.ext E136).wr W139 g_b136).wr W143 g_b136)
    have O274 : Old Z n0 h155 := (((O273.wr W147 g_b136).wr W151 g_b136).wr W155 g_b136)
    have O275 : Old Z n0 h167 := (((O274.wr W159 g_b136).wr W163 g_b136).wr W167 g_b136)
    have O276 : Old Z n0 h179 := (((O275.wr W171 g_b136).wr W175 g_b136).wr W179 g_b136)
    have O277 : Old Z n0 h183 := (O276.wr W183 g_b136)
    have F279 : Exa Z h143 w_STRUCT "com/example/idlect/idlect/core/Symbol$Container$Kind" := (((F123.ext E136).wr W139).wr W143)
    have F280 : Exa Z h155 w_STRUCT "com/example/idlect/idlect/core/Symbol$Container$Kind" := (((F279.wr W147).wr W151).wr W155)
    have F281 : Exa Z h167 w_STRUCT "com/example/idlect/idlect/core/Symbol$Container$Kind" := (((F280.wr W159).wr W163).wr W167)
    have F282 : Exa Z h179 w_STRUCT "com/example/idlect/idlect/core/Symbol$Container$Kind" := (((F281.wr W171).wr W175).wr W179)
    have F283 : Exa Z h183 w_STRUCT "com/example/idlect/idlect/core/Symbol$Container$Kind" := (F282.wr W183)
    obtain ⟨cq278, kq278, q278a, q278b, q278c⟩ := isOf hZ e183 F283
    obtain ⟨_, _, ⟨T278, L278, k278, n278⟩, -, X278, ⟨Lc278, hQ278, l278, y278, z278⟩, st278⟩ := X183.virtualBack hx (y := (⟨"com/example/idlect/idlect/core/Symbol$Container$Kind", "isType", "()Z"⟩ : MethodName)) (z := (⟨"com/example/idlect/idlect/core/Symbol$Container$Kind", "isType", "()Z"⟩ : MethodName)) hown (mvT hZ (hw _ (List.mem_of_getElem? (i := 30) rfl))) (mvT hZ (hw _ (List.mem_of_getElem? (i := 31) rfl))) (notFace_of_selects (args := #[]) (mvT hZ (hw _ (List.mem_of_getElem? (i := 33) rfl)))) (mvT hZ (hw _ (List.mem_of_getElem? (i := 33) rfl))) (mvT hZ (hw _ (List.mem_of_getElem? (i := 32) rfl))) (by decide) (backOf (W := 0) (rm1 l Z a0 hw [] w_STRUCT w_INTERFACE w_VALUE_TYPE w_STRUCT w_UNION h183 n0 O277 S_INTERFACE S_VALUE_TYPE S_STRUCT S_UNION) hZ (hw _ (List.mem_of_getElem? (i := 34) rfl)) (hw _ (List.mem_of_getElem? (i := 3) rfl)) (by decide) (by decide)) q278a q278c (g := (mkF m 154 #[.val (.int x0_0), .val (.ref b1), .val (.ref b136), .val (.int (4 : Int32))] [(.ref w_STRUCT)])) rfl (by rw [hml]; rfl) (Steps.refl _) (argsL := []) (rest := []) (lenOf pd_0 rfl) rfl (by show 2 * 0 + _ ≤ _; exact Nat.le_of_eq rfl) (hb hby at_154) (fun _ _ => ⟨rfl, e183, (by decide : 2 + 0 ≤ _), (by decide : 24 + 0 ≤ _)⟩)
    dsimp only [Pt.U, Pt.locs, Pt.cells, Pt.slots] at X278 l278 y278 z278 st278 hQ278
    subst y278 z278
    obtain ⟨rfl, N278q, e278⟩ := hQ278
    refine own_step (fun t k => st278.trans k) ?_
    have N284 : Fr n0 L278 := by rw [l278]; exact Fr.app N185 N278q
    show own_Ends p.tables e below s _ _ _ (T278.setTop (mkF m 157 #[.val (.int x0_0), .val (.ref b1), .val (.ref b136), .val (.int (4 : Int32))] [(.int (own_r1 w_STRUCT w_INTERFACE w_VALUE_TYPE w_STRUCT w_UNION))]))
    refine own_step (fun t k => XS.aloadN X278.here hx rfl (hb hby at_157) rfl rfl k) ?_
    show own_Ends p.tables e below s _ _ _ (T278.setTop (mkF m 158 #[.val (.int x0_0), .val (.ref b1), .val (.ref b136), .val (.int (4 : Int32))] [(.ref b136), (.int (own_r1 w_STRUCT w_INTERFACE w_VALUE_TYPE w_STRUCT w_UNION))]))
    refine own_step (fun t k => XS.iloadN X278.here hx rfl (hb hby at_158) rfl k) ?_
    show own_Ends p.tables e below s _ _ _ (T278.setTop (mkF m 159 #[.val (.int x0_0), .val (.ref b1), .val (.ref b136), .val (.int (4 : Int32))] [(.int (4 : Int32)), (.ref b136), (.int (own_r1 w_STRUCT w_INTERFACE w_VALUE_TYPE w_STRUCT w_UNION))]))
    obtain ⟨cl285, Ar285, q285, S285, N285, H285, G285⟩ := id V183
    have hin285 : ¬ ((4 : Int32) < 0 ∨ cl285.slots.size ≤ ((4 : Int32)).toNatClampNeg) := inb_of S285 ⟨by decide, by decide⟩
    have hat285 : cl285.slots[((4 : Int32)).toNatClampNeg]? = some (.int (1 : Int32)) := H285.at hin285 rfl
    refine own_step (fun t k => X278.baloadBooleans hx (j := (4 : Int32)) (v := (.int (1 : Int32))) (by rw [e278]; exact Ar285.1) (State.isArrayOf_alike hZ.alike Ar285.2.1) Ar285.2.2 hin285 hat285 (g := (mkF m 159 #[.val (.int x0_0), .val (.ref b1), .val (.ref b136), .val (.int (4 : Int32))] [(.int (4 : Int32)), (.ref b136), (.int (own_r1 w_STRUCT w_INTERFACE w_VALUE_TYPE w_STRUCT w_UNION))])) rfl rfl (hb hby at_159) _ k) ?_
    show own_Ends p.tables e below s _ _ _ (T278.setTop (mkF m 160 #[.val (.int x0_0), .val (.ref b1), .val (.ref b136), .val (.int (4 : Int32))] [(.int (1 : Int32)), (.int (own_r1 w_STRUCT w_INTERFACE w_VALUE_TYPE w_STRUCT w_UNION))]))
    by_cases hc160_286 : (own_r1 w_STRUCT w_INTERFACE w_VALUE_TYPE w_STRUCT w_UNION) = (1 : Int32)
    · skip
      refine own_step (fun t k => XS.icmpNo X278.here hx rfl (hb hby at_160) rfl (teq hc160_286).2 k) ?_
      show own_Ends p.tables e below s _ _ _ (T278.setTop (mkF m 163 #[.val (.int x0_0), .val (.ref b1), .val (.ref b136), .val (.int (4 : Int32))] []))
      refine own_step (fun t k => XS.iconst X278.here hx rfl (hb hby at_163) k) ?_
      show own_Ends p.tables e below s _ _ _ (T278.setTop (mkF m 164 #[.val (.int x0_0), .val (.ref b1), .val (.ref b136), .val (.int (4 : Int32))] [(.int (1 : Int32))]))
      refine own_step (fun t k => XS.goto X278.here hx rfl (pc0 := 164) (pc' := 168) rfl (hb hby at_164) (by decide) (by decide) k) ?_
      show own_Ends p.tables e below s _ _ _ (T278.setTop (mkF m 168 #[.val (.int x0_0), .val (.ref b1), .val (.ref b136), .val (.int (4 : Int32))] [(.int (1 : Int32))]))
      exact own_retN X278 hx (t := .boolean) Bd.returns (by simp) (hb hby at_168) hnl (by rw [e278]; exact ⟨rfl, N284⟩) (by decide) (by decide)
    · skip
      refine own_step (fun t k => XS.icmpYes X278.here hx rfl (pc0 := 160) (pc' := 167) rfl (hb hby at_160) rfl (feq hc160_286).2 (by decide) (by decide) k) ?_
      show own_Ends p.tables e below s _ _ _ (T278.setTop (mkF m 167 #[.val (.int x0_0), .val (.ref b1), .val (.ref b136), .val (.int (4 : Int32))] []))
      refine own_step (fun t k => XS.iconst X278.here hx rfl (hb hby at_167) k) ?_
      show own_Ends p.tables e below s _ _ _ (T278.setTop (mkF m 168 #[.val (.int x0_0), .val (.ref b1), .val (.ref b136), .val (.int (4 : Int32))] [(.int (0 : Int32))]))
      exfalso
      apply hc160_286
      simp [own_r1, ne_w_FILE_w_INTERFACE, ne_w_FILE_w_VALUE_TYPE, ne_w_FILE_w_STRUCT, ne_w_FILE_w_UNION, ne_w_MODULE_w_INTERFACE, ne_w_MODULE_w_VALUE_TYPE, ne_w_MODULE_w_STRUCT, ne_w_MODULE_w_UNION, ne_w_INTERFACE_w_VALUE_TYPE, ne_w_INTERFACE_w_STRUCT, ne_w_INTERFACE_w_UNION, ne_w_VALUE_TYPE_w_STRUCT, ne_w_VALUE_TYPE_w_UNION, ne_w_STRUCT_w_UNION, ne_w_EXCEPTION_w_INTERFACE, ne_w_EXCEPTION_w_VALUE_TYPE, ne_w_EXCEPTION_w_STRUCT, ne_w_EXCEPTION_w_UNION, ne_w_OPERATION_w_INTERFACE, ne_w_OPERATION_w_VALUE_TYPE, ne_w_OPERATION_w_STRUCT, ne_w_OPERATION_w_UNION, ne_w_FACTORY_w_INTERFACE, ne_w_FACTORY_w_VALUE_TYPE, ne_w_FACTORY_w_STRUCT, ne_w_FACTORY_w_UNION, ne_w_COMPONENT_w_INTERFACE, ne_w_COMPONENT_w_VALUE_TYPE, ne_w_COMPONENT_w_STRUCT, ne_w_COMPONENT_w_UNION, ne_w_COMPONENT_INTERFACE_w_INTERFACE, ne_w_COMPONENT_INTERFACE_w_VALUE_TYPE, ne_w_COMPONENT_INTERFACE_w_STRUCT, ne_w_COMPONENT_INTERFACE_w_UNION, ne_w_IDS_w_INTERFACE, ne_w_IDS_w_VALUE_TYPE, ne_w_IDS_w_STRUCT, ne_w_IDS_w_UNION, Ne.symm ne_w_INTERFACE_w_VALUE_TYPE, Ne.symm ne_w_INTERFACE_w_STRUCT, Ne.symm ne_w_INTERFACE_w_UNION, Ne.symm ne_w_VALUE_TYPE_w_STRUCT, Ne.symm ne_w_VALUE_TYPE_w_UNION, Ne.symm ne_w_STRUCT_w_UNION]
  · subst hk186
    show own_Ends p.tables e below s _ _ _ (T183.setTop (mkF m 151 #[.val (.int x0_0), .val (.ref b1), .val (.ref b136), .val (.int (5 : Int32))] []))
    refine own_step (fun t k => XS.aloadN X183.here hx rfl (hb hby at_151) rfl rfl k) ?_
    show own_Ends p.tables e below s _ _ _ (T183.setTop (mkF m 152 #[.val (.int x0_0), .val (.ref b1), .val (.ref b136), .val (.int (5 : Int32))] [(.ref b1)]))
    refine own_step (fun t k => XS.iloadN X183.here hx rfl (hb hby at_152) rfl k) ?_
    show own_Ends p.tables e below s _ _ _ (T183.setTop (mkF m 153 #[.val (.int x0_0), .val (.ref b1), .val (.ref b136), .val (.int (5 : Int32))] [(.int (5 : Int32)), (.ref b1)]))
    have F287 : Arv Z h143 b1 k1 (.object "com/example/idlect/idlect/core/Symbol$Container$Kind") (12 : Int32) [(.ref w_FILE), (.ref w_MODULE), (.ref w_INTERFACE), (.ref w_VALUE_TYPE), (.ref w_STRUCT), (.ref w_UNION), (.ref w_EXCEPTION), (.ref w_OPERATION), (.ref w_FACTORY), (.ref w_COMPONENT), (.ref w_COMPONENT_INTERFACE), (.ref w_IDS)] .null := (((V102.ext E136).other W139 ne_b1_b136).other W143 ne_b1_b136)
    have F288 : Arv Z h155 b1 k1 (.object "com/example/idlect/idlect/core/Symbol$Container$Kind") (12 : Int32) [(.ref w_FILE), (.ref w_MODULE), (.ref w_INTERFACE), (.ref w_VALUE_TYPE), (.ref w_STRUCT), (.ref w_UNION), (.ref w_EXCEPTION), (.ref w_OPERATION), (.ref w_FACTORY), (.ref w_COMPONENT), (.ref w_COMPONENT_INTERFACE), (.ref w_IDS)] .null := (((F287.other W147 ne_b1_b136).other W151 ne_b1_b136).other W155 ne_b1_b136)
    have F289 : Arv Z h167 b1 k1 (.object "com/example/idlect/idlect/core/Symbol$Container$Kind") (12 : Int32) [(.ref w_FILE), (.ref w_MODULE), (.ref w_INTERFACE), (.ref w_VALUE_TYPE), (.ref w_STRUCT), (.ref w_UNION), (.ref w_EXCEPTION), (.ref w_OPERATION), (.ref w_FACTORY), (.ref w_COMPONENT), (.ref w_COMPONENT_INTERFACE), (.ref w_IDS)] .null := (((F288.other W159 ne_b1_b136).other W163 ne_b1_b136).other W167 ne_b1_b136)
    have F290 : Arv Z h179 b1 k1 (.object "com/example/idlect/idlect/core/Symbol$Container$Kind") (12 : Int32) [(.ref w_FILE), (.ref w_MODULE), (.ref w_INTERFACE), (.ref w_VALUE_TYPE), (.ref w_STRUCT), (.ref w_UNION), (.ref w_EXCEPTION), (.ref w_OPERATION), (.ref w_FACTORY), (.ref w_COMPONENT), (.ref w_COMPONENT_INTERFACE), (.ref w_IDS)] .null := (((F289.other W171 ne_b1_b136).other W175 ne_b1_b136).other W179 ne_b1_b136)
    have F291 : Arv Z h183 b1 k1 (.object "com/example/idlect/idlect/core/Symbol$Container$Kind") (12 : Int32) [(.ref w_FILE), (.ref w_MODULE), (.ref w_INTERFACE), (.ref w_VALUE_TYPE), (.ref w_STRUCT), (.ref w_UNION), (.ref w_EXCEPTION), (.ref w_OPERATION), (.ref w_FACTORY), (.ref w_COMPONENT), (.ref w_COMPONENT_INTERFACE), (.ref w_IDS)] .null := (F290.other W183 ne_b1_b136)
    obtain ⟨cl292, Ar292, q292, S292, N292, H292, G292⟩ := id F291
    have hin292 : ¬ ((5 : Int32) < 0 ∨ cl292.slots.size ≤ ((5 : Int32)).toNatClampNeg) := inb_of S292 ⟨by decide, by decide⟩
    have hat292 : cl292.slots[((5 : Int32)).toNatClampNeg]? = some (.ref w_UNION) := H292.at hin292 rfl
    refine own_step (fun t k => X183.aaload hx (j := (5 : Int32)) (v := (.ref w_UNION)) (by rw [e183]; exact Ar292.1) (State.isArrayOf_alike hZ.alike Ar292.2.1) rfl Ar292.2.2 hin292 hat292 (g := (mkF m 153 #[.val (.int x0_0), .val (.ref b1), .val (.ref b136), .val (.int (5 : Int32))] [(.int (5 : Int32)), (.ref b1)])) rfl rfl (hb hby at_153) _ k) ?_
    show own_Ends p.tables e below s _ _ _ (T183.setTop (mkF m 154 #[.val (.int x0_0), .val (.ref b1), .val (.ref b136), .val (.int (5 : Int32))] [(.ref w_UNION)]))
    have O293 : Old Z n0 h143 := (((O105.ext E136).wr W139 g_b136).wr W143 g_b136)
    have O294 : Old Z n0 h155 := (((O293.wr W147 g_b136).wr W151 g_b136).wr W155 g_b136)
    have O295 : Old Z n0 h167 := (((O294.wr W159 g_b136).wr W163 g_b136).wr W167 g_b136)
    have O296 : Old Z n0 h179 := (((O295.wr W171 g_b136).wr W175 g_b136).wr W179 g_b136)
    have O297 : Old Z n0 h183 := (O296.wr W183 g_b136)
    have F299 : Exa Z h143 w_UNION "com/example/idlect/idlect/core/Symbol$Container$Kind" := (((F126.ext E136).wr W139).wr W143)
    have F300 : Exa Z h155 w_UNION "com/example/idlect/idlect/core/Symbol$Container$Kind" := (((F299.wr W147).wr W151).wr W155)
    have F301 : Exa Z h167 w_UNION "com/example/idlect/idlect/core/Symbol$Container$Kind" := (((F300.wr W159).wr W163).wr W167)
    have F302 : Exa Z h179 w_UNION "com/example/idlect/idlect/core/Symbol$Container$Kind" := (((F301.wr W171).wr W175).wr W179)
    have F303 : Exa Z h183 w_UNION "com/example/idlect/idlect/core/Symbol$Container$Kind" := (F302.wr W183)
    obtain ⟨cq298, kq298, q298a, q298b, q298c⟩ := isOf hZ e183 F303
    obtain ⟨_, _, ⟨T298, L298, k298, n298⟩, -, X298, ⟨Lc298, hQ298, l298, y298, z298⟩, st298⟩ := X183.virtualBack hx (y := (⟨"com/example/idlect/idlect/core/Symbol$Container$Kind", "isType", "()Z"⟩ : MethodName)) (z := (⟨"com/example/idlect/idlect/core/Symbol$Container$Kind", "isType", "()Z"⟩ : MethodName)) hown (mvT hZ (hw _ (List.mem_of_getElem? (i := 30) rfl))) (mvT hZ (hw _ (List.mem_of_getElem? (i := 31) rfl))) (notFace_of_selects (args := #[]) (mvT hZ (hw _ (List.mem_of_getElem? (i := 33) rfl)))) (mvT hZ (hw _ (List.mem_of_getElem? (i := 33) rfl))) (mvT hZ (hw _ (List.mem_of_getElem? (i := 32) rfl))) (by decide) (backOf (W := 0) (rm1 l Z a0 hw [] w_UNION w_INTERFACE w_VALUE_TYPE w_STRUCT w_UNION h183 n0 O297 S_INTERFACE S_VALUE_TYPE S_STRUCT S_UNION) hZ (hw _ (List.mem_of_getElem? (i := 34) rfl)) (hw _ (List.mem_of_getElem? (i := 3) rfl)) (by decide) (by decide)) q298a q298c (g := (mkF m 154 #[.val (.int x0_0), .val (.ref b1), .val (.ref b136), .val (.int (5 : Int32))] [(.ref w_UNION)])) rfl (by rw [hml]; rfl) (Steps.refl _) (argsL := []) (rest := []) (lenOf pd_0 rfl) rfl (by show 2 * 0 + _ ≤ _; exact Nat.le_of_eq rfl) (hb hby at_154) (fun _ _ => ⟨rfl, e183, (by decide : 2 + 0 ≤ _), (by decide : 24 + 0 ≤ _)⟩)
    dsimp only [Pt.U, Pt.locs, Pt.cells, Pt.slots] at X298 l298 y298 z298 st298 hQ298
    subst y298 z298
    obtain ⟨rfl, N298q, e298⟩ := hQ298
    refine own_step (fun t k => st298.trans k) ?_
    have N304 : Fr n0 L298 := by rw [l298]; exact Fr.app N185 N298q
    show own_Ends p.tables e below s _ _ _ (T298.setTop (mkF m 157 #[.val (.int x0_0), .val (.ref b1), .val (.ref b136), .val (.int (5 : Int32))] [(.int (own_r1 w_UNION w_INTERFACE w_VALUE_TYPE w_STRUCT w_UNION))]))
    refine own_step (fun t k => XS.aloadN X298.here hx rfl (hb hby at_157) rfl rfl k) ?_
    show own_Ends p.tables e below s _ _ _ (T298.setTop (mkF m 158 #[.val (.int x0_0), .val (.ref b1), .val (.ref b136), .val (.int (5 : Int32))] [(.ref b136), (.int (own_r1 w_UNION w_INTERFACE w_VALUE_TYPE w_STRUCT w_UNION))]))
    refine own_step (fun t k => XS.iloadN X298.here hx rfl (hb hby at_158) rfl k) ?_
    show own_Ends p.tables e below s _ _ _ (T298.setTop (mkF m 159 #[.val (.int x0_0), .val (.ref b1), .val (.ref b136), .val (.int (5 : Int32))] [(.int (5 : Int32)), (.ref b136), (.int (own_r1 w_UNION w_INTERFACE w_VALUE_TYPE w_STRUCT w_UNION))]))
    obtain ⟨cl305, Ar305, q305, S305, N305, H305, G305⟩ := id V183
    have hin305 : ¬ ((5 : Int32) < 0 ∨ cl305.slots.size ≤ ((5 : Int32)).toNatClampNeg) := inb_of S305 ⟨by decide, by decide⟩
    have hat305 : cl305.slots[((5 : Int32)).toNatClampNeg]? = some (.int (1 : Int32)) := H305.at hin305 rfl
    refine own_step (fun t k => X298.baloadBooleans hx (j := (5 : Int32)) (v := (.int (1 : Int32))) (by rw [e298]; exact Ar305.1) (State.isArrayOf_alike hZ.alike Ar305.2.1) Ar305.2.2 hin305 hat305 (g := (mkF m 159 #[.val (.int x0_0), .val (.ref b1), .val (.ref b136), .val (.int (5 : Int32))] [(.int (5 : Int32)), (.ref b136), (.int (own_r1 w_UNION w_INTERFACE w_VALUE_TYPE w_STRUCT w_UNION))])) rfl rfl (hb hby at_159) _ k) ?_
    show own_Ends p.tables e below s _ _ _ (T298.setTop (mkF m 160 #[.val (.int x0_0), .val (.ref b1), .val (.ref b136), .val (.int (5 : Int32))] [(.int (1 : Int32)), (.int (own_r1 w_UNION w_INTERFACE w_VALUE_TYPE w_STRUCT w_UNION))]))
    by_cases hc160_306 : (own_r1 w_UNION w_INTERFACE w_VALUE_TYPE w_STRUCT w_UNION) = (1 : Int32)
    · skip
      refine own_step (fun t k => XS.icmpNo X298.here hx rfl (hb hby at_160) rfl (teq hc160_306).2 k) ?_
      show own_Ends p.tables e below s _ _ _ (T298.setTop (mkF m 163 #[.val (.int x0_0), .val (.ref b1), .val (.ref b136), .val (.int (5 : Int32))] []))
      refine own_step (fun t k => XS.iconst X298.here hx rfl (hb hby at_163) k) ?_
      show own_Ends p.tables e below s _ _ _ (T298.setTop (mkF m 164 #[.val (.int x0_0), .val (.ref b1), .val (.ref b136), .val (.int (5 : Int32))] [(.int (1 : Int32))]))
      refine own_step (fun t k => XS.goto X298.here hx rfl (pc0 := 164) (pc' := 168) rfl (hb hby at_164) (by decide) (by decide) k) ?_
      show own_Ends p.tables e below s _ _ _ (T298.setTop (mkF m 168 #[.val (.int x0_0), .val (.ref b1), .val (.ref b136), .val (.int (5 : Int32))] [(.int (1 : Int32))]))
      exact own_retN X298 hx (t := .boolean) Bd.returns (by simp) (hb hby at_168) hnl (by rw [e298]; exact ⟨rfl, N304⟩) (by decide) (by decide)
    · skip
      refine own_step (fun t k => XS.icmpYes X298.here hx rfl (pc0 := 160) (pc' := 167) rfl (hb hby at_160) rfl (feq hc160_306).2 (by decide) (by decide) k) ?_
      show own_Ends p.tables e below s _ _ _ (T298.setTop (mkF m 167 #[.val (.int x0_0), .val (.ref b1), .val (.ref b136), .val (.int (5 : Int32))] []))
      refine own_step (fun t k => XS.iconst X298.here hx rfl (hb hby at_167) k) ?_
      show own_Ends p.tables e below s _ _ _ (T298.setTop (mkF m 168 #[.val (.int x0_0), .val (.ref b1), .val (.ref b136), .val (.int (5 : Int32))] [(.int (0 : Int32))]))
      exfalso
      apply hc160_306
      simp [own_r1, ne_w_FILE_w_INTERFACE, ne_w_FILE_w_VALUE_TYPE, ne_w_FILE_w_STRUCT, ne_w_FILE_w_UNION, ne_w_MODULE_w_INTERFACE, ne_w_MODULE_w_VALUE_TYPE, ne_w_MODULE_w_STRUCT, ne_w_MODULE_w_UNION, ne_w_INTERFACE_w_VALUE_TYPE, ne_w_INTERFACE_w_STRUCT, ne_w_INTERFACE_w_UNION, ne_w_VALUE_TYPE_w_STRUCT, ne_w_VALUE_TYPE_w_UNION, ne_w_STRUCT_w_UNION, ne_w_EXCEPTION_w_INTERFACE, ne_w_EXCEPTION_w_VALUE_TYPE, ne_w_EXCEPTION_w_STRUCT, ne_w_EXCEPTION_w_UNION, ne_w_OPERATION_w_INTERFACE, ne_w_OPERATION_w_VALUE_TYPE, ne_w_OPERATION_w_STRUCT, ne_w_OPERATION_w_UNION, ne_w_FACTORY_w_INTERFACE, ne_w_FACTORY_w_VALUE_TYPE, ne_w_FACTORY_w_STRUCT, ne_w_FACTORY_w_UNION, ne_w_COMPONENT_w_INTERFACE, ne_w_COMPONENT_w_VALUE_TYPE, ne_w_COMPONENT_w_STRUCT, ne_w_COMPONENT_w_UNION, ne_w_COMPONENT_INTERFACE_w_INTERFACE, ne_w_COMPONENT_INTERFACE_w_VALUE_TYPE, ne_w_COMPONENT_INTERFACE_w_STRUCT, ne_w_COMPONENT_INTERFACE_w_UNION, ne_w_IDS_w_INTERFACE, ne_w_IDS_w_VALUE_TYPE, ne_w_IDS_w_STRUCT, ne_w_IDS_w_UNION, Ne.symm ne_w_INTERFACE_w_VALUE_TYPE, Ne.symm ne_w_INTERFACE_w_STRUCT, Ne.symm ne_w_INTERFACE_w_UNION, Ne.symm ne_w_VALUE_TYPE_w_STRUCT, Ne.symm ne_w_VALUE_TYPE_w_UNION, Ne.symm ne_w_STRUCT_w_UNION]
  · subst hk186
    show own_Ends p.tables e below s _ _ _ (T183.setTop (mkF m 151 #[.val (.int x0_0), .val (.ref b1), .val (.ref b136), .val (.int (6 : Int32))] []))
    refine own_step (fun t k => XS.aloadN X183.here hx rfl (hb hby at_151) rfl rfl k) ?_
    show own_Ends p.tables e below s _ _ _ (T183.setTop (mkF m 152 #[.val (.int x0_0), .val (.ref b1), .val (.ref b136), .val (.int (6 : Int32))] [(.ref b1)]))
    refine own_step (fun t k => XS.iloadN X183.here hx rfl (hb hby at_152) rfl k) ?_
    show own_Ends p.tables e below s _ _ _ (T183.setTop (mkF m 153 #[.val (.int x0_0), .val (.ref b1), .val (.ref b136), .val (.int (6 : Int32))] [(.int (6 : Int32)), (.ref b1)]))
    have F307 : Arv Z h143 b1 k1 (.object "com/example/idlect/idlect/core/Symbol$Container$Kind") (12 : Int32) [(.ref w_FILE), (.ref w_MODULE), (.ref w_INTERFACE), (.ref w_VALUE_TYPE), (.ref w_STRUCT), (.ref w_UNION), (.ref w_EXCEPTION), (.ref w_OPERATION), (.ref w_FACTORY), (.ref w_COMPONENT), (.ref w_COMPONENT_INTERFACE), (.ref w_IDS)] .null := (((V102.ext E136).other W139 ne_b1_b136).other W143 ne_b1_b136)
    have F308 : Arv Z h155 b1 k1 (.object "com/example/idlect/idlect/core/Symbol$Container$Kind") (12 : Int32) [(.ref w_FILE), (.ref w_MODULE), (.ref w_INTERFACE), (.ref w_VALUE_TYPE), (.ref w_STRUCT), (.ref w_UNION), (.ref w_EXCEPTION), (.ref w_OPERATION), (.ref w_FACTORY), (.ref w_COMPONENT), (.ref w_COMPONENT_INTERFACE), (.ref w_IDS)] .null := (((F307.other W147 ne_b1_b136).other W151 ne_b1_b136).other W155 ne_b1_b136)
    have F309 : Arv Z h167 b1 k1 (.object "com/example/idlect/idlect/core/Symbol$Container$Kind") (12 : Int32) [(.ref w_FILE), (.ref w_MODULE), (.ref w_INTERFACE), (.ref w_VALUE_TYPE), (.ref w_STRUCT), (.ref w_UNION), (.ref w_EXCEPTION), (.ref w_OPERATION), (.ref w_FACTORY), (.ref w_COMPONENT), (.ref w_COMPONENT_INTERFACE), (.ref w_IDS)] .null := (((F308.other W159 ne_b1_b136).other W163 ne_b1_b136).other W167 ne_b1_b136)
    have F310 : Arv Z h179 b1 k1 (.object "com/example/idlect/idlect/core/Symbol$Container$Kind") (12 : Int32) [(.ref w_FILE), (.ref w_MODULE), (.ref w_INTERFACE), (.ref w_VALUE_TYPE), (.ref w_STRUCT), (.ref w_UNION), (.ref w_EXCEPTION), (.ref w_OPERATION), (.ref w_FACTORY), (.ref w_COMPONENT), (.ref w_COMPONENT_INTERFACE), (.ref w_IDS)] .null := (((F309.other W171 ne_b1_b136).other W175 ne_b1_b136).other W179 ne_b1_b136)
    have F311 : Arv Z h183 b1 k1 (.object "com/example/idlect/idlect/core/Symbol$Container$Kind") (12 : Int32) [(.ref w_FILE), (.ref w_MODULE), (.ref w_INTERFACE), (.ref w_VALUE_TYPE), (.ref w_STRUCT), (.ref w_UNION), (.ref w_EXCEPTION), (.ref w_OPERATION), (.ref w_FACTORY), (.ref w_COMPONENT), (.ref w_COMPONENT_INTERFACE), (.ref w_IDS)] .null := (F310.other W183 ne_b1_b136)
    obtain ⟨cl312, Ar312, q312, S312, N312, H312, G312⟩ := id F311
    have hin312 : ¬ ((6 : Int32) < 0 ∨ cl312.slots.size ≤ ((6 : Int32)).toNatClampNeg) := inb_of S312 ⟨by decide, by decide⟩
    have hat312 : cl312.slots[((6 : Int32)).toNatClampNeg]? = some (.ref w_EXCEPTION) := H312.at hin312 rfl
    refine own_step (fun t k => X183.aaload hx (j := (6 : Int32)) (v := (.ref w_EXCEPTION)) (by rw [e183]; exact Ar312.1) (State.isArrayOf_alike hZ.alike Ar312.2.1) rfl Ar312.2.2 hin312 hat312 (g := (mkF m 153 #[.val (.int x0_0), .val (.ref b1), .val (.ref b136), .val (.int (6 : Int32))] [(.int (6 : Int32)), (.ref b1)])) rfl rfl (hb hby at_153) _ k) ?_
    show own_Ends p.tables e below s _ _ _ (T183.setTop (mkF m 154 #[.val (.int x0_0), .val (.ref b1), .val (.ref b136), .val (.int (6 : Int32))] [(.ref w_EXCEPTION)]))
    have O313 : Old Z n0 h143 := (((O105.ext E136).wr W139 g_b136).wr W143 g_b136)
    have O314 : Old Z n0 h155 := (((O313.wr W147 g_b136).wr W151 g_b136).wr W155 g_b136)
    have O315 : Old Z n0 h167 := (((O314.wr W159 g_b136).wr W163 g_b136).wr W167 g_b136)
    have O316 : Old Z n0 h179 := (((O315.wr W171 g_b136).wr W175 g_b136).wr W179 g_b136)
    have O317 : Old Z n0 h183 := (O316.wr W183 g_b136)
    have F319 : Exa Z h143 w_EXCEPTION "com/example/idlect/idlect/core/Symbol$Container$Kind" := (((F128.ext E136).wr W139).wr W143)
    have F320 : Exa Z h155 w_EXCEPTION "com/example/idlect/idlect/core/Symbol$Container$Kind" := (((F319.wr W147).wr W151).wr W155)
    have F321 : Exa Z h167 w_EXCEPTION "com/example/idlect/idlect/core/Symbol$Container$Kind" := (((F320.wr W159).wr W163).wr W167)
    have F322 : Exa Z h179 w_EXCEPTION "com/example/idlect/idlect/core/Symbol$Container$Kind" := (((F321.wr W171).wr W175).wr W179)
    have F323 : Exa Z h183 w_EXCEPTION "com/example/idlect/idlect/core/Symbol$Container$Kind" := (F322.wr W183)
    obtain ⟨cq318, kq318, q318a, q318b, q318c⟩ := isOf hZ e183 F323
    obtain ⟨_, _, ⟨T318, L318, k318, n318⟩, -, X318, ⟨Lc318, hQ318, l318, y318, z318⟩, st318⟩ := X183.virtualBack hx (y := (⟨"com/example/idlect/idlect/core/Symbol$Container$Kind", "isType", "()Z"⟩ : MethodName)) (z := (⟨"com/example/idlect/idlect/core/Symbol$Container$Kind", "isType", "()Z"⟩ : MethodName)) hown (mvT hZ (hw _ (List.mem_of_getElem? (i := 30) rfl))) (mvT hZ (hw _ (List.mem_of_getElem? (i := 31) rfl))) (notFace_of_selects (args := #[]) (mvT hZ (hw _ (List.mem_of_getElem? (i := 33) rfl)))) (mvT hZ (hw _ (List.mem_of_getElem? (i := 33) rfl))) (mvT hZ (hw _ (List.mem_of_getElem? (i := 32) rfl))) (by decide) (backOf (W := 0) (rm1 l Z a0 hw [] w_EXCEPTION w_INTERFACE w_VALUE_TYPE w_STRUCT w_UNION h183 n0 O317 S_INTERFACE S_VALUE_TYPE S_STRUCT S_UNION) hZ (hw _ (List.mem_of_getElem? (i := 34) rfl)) (hw _ (List.mem_of_getElem? (i := 3) rfl)) (by decide) (by decide)) q318a q318c (g := (mkF m 154 #[.val (.int x0_0), .val (.ref b1), .val (.ref b136), .val (.int (6 : Int32))] [(.ref w_EXCEPTION)])) rfl (by rw [hml]; rfl) (Steps.refl _) (argsL := []) (rest := []) (lenOf pd_0 rfl) rfl (by show 2 * 0 + _ ≤ _; exact Nat.le_of_eq rfl) (hb hby at_154) (fun _ _ => ⟨rfl, e183, (by decide : 2 + 0 ≤ _), (by decide : 24 + 0 ≤ _)⟩)
    dsimp only [Pt.U, Pt.locs, Pt.cells, Pt.slots] at X318 l318 y318 z318 st318 hQ318
    subst y318 z318
    obtain ⟨rfl, N318q, e318⟩ := hQ318
    refine own_step (fun t k => st318.trans k) ?_
    have N324 : Fr n0 L318 := by rw [l318]; exact Fr.app N185 N318q
    show own_Ends p.tables e below s _ _ _ (T318.setTop (mkF m 157 #[.val (.int x0_0), .val (.ref b1), .val (.ref b136), .val (.int (6 : Int32))] [(.int (own_r1 w_EXCEPTION w_INTERFACE w_VALUE_TYPE w_STRUCT w_UNION))]))
    refine own_step (fun t k => XS.aloadN X318.here hx rfl (hb hby at_157) rfl rfl k) ?_
    show own_Ends p.tables e below s _ _ _ (T318.setTop (mkF m 158 #[.val (.int x0_0), .val (.ref b1), .val (.ref b136), .val (.int (6 : Int32))] [(.ref b136), (.int (own_r1 w_EXCEPTION w_INTERFACE w_VALUE_TYPE w_STRUCT w_UNION))]))
    refine own_step (fun t k => XS.iloadN X318.here hx rfl (hb hby at_158) rfl k) ?_
    show own_Ends p.tables e below s _ _ _ (T318.setTop (mkF m 159 #[.val (.int x0_0), .val (.ref b1), .val (.ref b136), .val (.int (6 : Int32))] [(.int (6 : Int32)), (.ref b136), (.int (own_r1 w_EXCEPTION w_INTERFACE w_VALUE_TYPE w_STRUCT w_UNION))]))
    obtain ⟨cl325, Ar325, q325, S325, N325, H325, G325⟩ := id V183
    have hin325 : ¬ ((6 : Int32) < 0 ∨ cl325.slots.size ≤ ((6 : Int32)).toNatClampNeg) := inb_of S325 ⟨by decide, by decide⟩
    have hat325 : cl325.slots[((6 : Int32)).toNatClampNeg]? = some (.int (0 : Int32)) := H325.at hin325 rfl
    refine own_step (fun t k => X318.baloadBooleans hx (j := (6 : Int32)) (v := (.int (0 : Int32))) (by rw [e318]; exact Ar325.1) (State.isArrayOf_alike hZ.alike Ar325.2.1) Ar325.2.2 hin325 hat325 (g := (mkF m 159 #[.val (.int x0_0), .val (.ref b1), .val (.ref b136), .val (.int (6 : Int32))] [(.int (6 : Int32)), (.ref b136), (.int (own_r1 w_EXCEPTION w_INTERFACE w_VALUE_TYPE w_STRUCT w_UNION))])) rfl rfl (hb hby at_159) _ k) ?_
    show own_Ends p.tables e below s _ _ _ (T318.setTop (mkF m 160 #[.val (.int x0_0), .val (.ref b1), .val (.ref b136), .val (.int (6 : Int32))] [(.int (0 : Int32)), (.int (own_r1 w_EXCEPTION w_INTERFACE w_VALUE_TYPE w_STRUCT w_UNION))]))
    by_cases hc160_326 : (own_r1 w_EXCEPTION w_INTERFACE w_VALUE_TYPE w_STRUCT w_UNION) = (0 : Int32)
    · skip
      refine own_step (fun t k => XS.icmpNo X318.here hx rfl (hb hby at_160) rfl (teq hc160_326).2 k) ?_
      show own_Ends p.tables e below s _ _ _ (T318.setTop (mkF m 163 #[.val (.int x0_0), .val (.ref b1), .val (.ref b136), .val (.int (6 : Int32))] []))
      refine own_step (fun t k => XS.iconst X318.here hx rfl (hb hby at_163) k) ?_
      show own_Ends p.tables e below s _ _ _ (T318.setTop (mkF m 164 #[.val (.int x0_0), .val (.ref b1), .val (.ref b136), .val (.int (6 : Int32))] [(.int (1 : Int32))]))
      refine own_step (fun t k => XS.goto X318.here hx rfl (pc0 := 164) (pc' := 168) rfl (hb hby at_164) (by decide) (by decide) k) ?_
      show own_Ends p.tables e below s _ _ _ (T318.setTop (mkF m 168 #[.val (.int x0_0), .val (.ref b1), .val (.ref b136), .val (.int (6 : Int32))] [(.int (1 : Int32))]))
      exact own_retN X318 hx (t := .boolean) Bd.returns (by simp) (hb hby at_168) hnl (by rw [e318]; exact ⟨rfl, N324⟩) (by decide) (by decide)
    · skip
      refine own_step (fun t k => XS.icmpYes X318.here hx rfl (pc0 := 160) (pc' := 167) rfl (hb hby at_160) rfl (feq hc160_326).2 (by decide) (by decide) k) ?_
      show own_Ends p.tables e below s _ _ _ (T318.setTop (mkF m 167 #[.val (.int x0_0), .val (.ref b1), .val (.ref b136), .val (.int (6 : Int32))] []))
      refine own_step (fun t k => XS.iconst X318.here hx rfl (hb hby at_167) k) ?_
      show own_Ends p.tables e below s _ _ _ (T318.setTop (mkF m 168 #[.val (.int x0_0), .val (.ref b1), .val (.ref b136), .val (.int (6 : Int32))] [(.int (0 : Int32))]))
      exfalso
      apply hc160_326
      simp [own_r1, ne_w_FILE_w_INTERFACE, ne_w_FILE_w_VALUE_TYPE, ne_w_FILE_w_STRUCT, ne_w_FILE_w_UNION, ne_w_MODULE_w_INTERFACE, ne_w_MODULE_w_VALUE_TYPE, ne_w_MODULE_w_STRUCT, ne_w_MODULE_w_UNION, ne_w_INTERFACE_w_VALUE_TYPE, ne_w_INTERFACE_w_STRUCT, ne_w_INTERFACE_w_UNION, ne_w_VALUE_TYPE_w_STRUCT, ne_w_VALUE_TYPE_w_UNION, ne_w_STRUCT_w_UNION, ne_w_EXCEPTION_w_INTERFACE, ne_w_EXCEPTION_w_VALUE_TYPE, ne_w_EXCEPTION_w_STRUCT, ne_w_EXCEPTION_w_UNION, ne_w_OPERATION_w_INTERFACE, ne_w_OPERATION_w_VALUE_TYPE, ne_w_OPERATION_w_STRUCT, ne_w_OPERATION_w_UNION, ne_w_FACTORY_w_INTERFACE, ne_w_FACTORY_w_VALUE_TYPE, ne_w_FACTORY_w_STRUCT, ne_w_FACTORY_w_UNION, ne_w_COMPONENT_w_INTERFACE, ne_w_COMPONENT_w_VALUE_TYPE, ne_w_COMPONENT_w_STRUCT, ne_w_COMPONENT_w_UNION, ne_w_COMPONENT_INTERFACE_w_INTERFACE, ne_w_COMPONENT_INTERFACE_w_VALUE_TYPE, ne_w_COMPONENT_INTERFACE_w_STRUCT, ne_w_COMPONENT_INTERFACE_w_UNION, ne_w_IDS_w_INTERFACE, ne_w_IDS_w_VALUE_TYPE, ne_w_IDS_w_STRUCT, ne_w_IDS_w_UNION, Ne.symm ne_w_INTERFACE_w_VALUE_TYPE, Ne.symm ne_w_INTERFACE_w_STRUCT, Ne.symm ne_w_INTERFACE_w_UNION, Ne.symm ne_w_VALUE_TYPE_w_STRUCT, Ne.symm ne_w_VALUE_TYPE_w_UNION, Ne.symm ne_w_STRUCT_w_UNION]
  · subst hk186
    show own_Ends p.tables e below s _ _ _ (T183.setTop (mkF m 151 #[.val (.int x0_0), .val (.ref b1), .val (.ref b136), .val (.int (7 : Int32))] []))
    refine own_step (fun t k => XS.aloadN X183.here hx rfl (hb hby at_151) rfl rfl k) ?_
    show own_Ends p.tables e below s _ _ _ (T183.setTop (mkF m 152 #[.val (.int x0_0), .val (.ref b1), .val (.ref b136), .val (.int (7 : Int32))] [(.ref b1)]))
    refine own_step (fun t k => XS.iloadN X183.here hx rfl (hb hby at_152) rfl k) ?_
    show own_Ends p.tables e below s _ _ _ (T183.setTop (mkF m 153 #[.val (.int x0_0), .val (.ref b1), .val (.ref b136), .val (.int (7 : Int32))] [(.int (7 : Int32)), (.ref b1)]))
    have F327 : Arv Z h143 b1 k1 (.object "com/example/idlect/idlect/core/Symbol$Container$Kind") (12 : Int32) [(.ref w_FILE), (.ref w_MODULE), (.ref w_INTERFACE), (.ref w_VALUE_TYPE), (.ref w_STRUCT), (.ref w_UNION), (.ref w_EXCEPTION), (.ref w_OPERATION), (.ref w_FACTORY), (.ref w_COMPONENT), (.ref w_COMPONENT_INTERFACE), (.ref w_IDS)] .null := (((V102.ext E136).other W139 ne_b1_b136).other W143 ne_b1_b136)
    have F328 : Arv Z h155 b1 k1 (.object "com/example/idlect/idlect/core/Symbol$Container$Kind") (12 : Int32) [(.ref w_FILE), (.ref w_MODULE), (.ref w_INTERFACE), (.ref w_VALUE_TYPE), (.ref w_STRUCT), (.ref w_UNION), (.ref w_EXCEPTION), (.ref w_OPERATION), (.ref w_FACTORY), (.ref w_COMPONENT), (.ref w_COMPONENT_INTERFACE), (.ref w_IDS)] .null := (((F327.other W147 ne_b1_b136).other W151 ne_b1_b136).other W155 ne_b1_b136)
    have F329 : Arv Z h167 b1 k1 (.object "com/example/idlect/idlect/core/Symbol$Container$Kind") (12 : Int32) [(.ref w_FILE), (.ref w_MODULE), (.ref w_INTERFACE), (.ref w_VALUE_TYPE), (.ref w_STRUCT), (.ref w_UNION), (.ref w_EXCEPTION), (.ref w_OPERATION), (.ref w_FACTORY), (.ref w_COMPONENT), (.ref w_COMPONENT_INTERFACE), (.ref w_IDS)] .null := (((F328.other W159 ne_b1_b136).other W163 ne_b1_b136).other W167 ne_b1_b136)
    have F330 : Arv Z h179 b1 k1 (.object "com/example/idlect/idlect/core/Symbol$Container$Kind") (12 : Int32) [(.ref w_FILE), (.ref w_MODULE), (.ref w_INTERFACE), (.ref w_VALUE_TYPE), (.ref w_STRUCT), (.ref w_UNION), (.ref w_EXCEPTION), (.ref w_OPERATION), (.ref w_FACTORY), (.ref w_COMPONENT), (.ref w_COMPONENT_INTERFACE), (.ref w_IDS)] .null := (((F329.other W171 ne_b1_b136).other W175 ne_b1_b136).other W179 ne_b1_b136)
    have F331 : Arv Z h183 b1 k1 (.object "com/example/idlect/idlect/core/Symbol$Container$Kind") (12 : Int32) [(.ref w_FILE), (.ref w_MODULE), (.ref w_INTERFACE), (.ref w_VALUE_TYPE), (.ref w_STRUCT), (.ref w_UNION), (.ref w_EXCEPTION), (.ref w_OPERATION), (.ref w_FACTORY), (.ref w_COMPONENT), (.ref w_COMPONENT_INTERFACE), (.ref w_IDS)] .null := (F330.other W183 ne_b1_b136)
    obtain ⟨cl332, Ar332, q332, S332, N332, H332, G332⟩ := id F331
    have hin332 : ¬ ((7 : Int32) < 0 ∨ cl332.slots.size ≤ ((7 : Int32)).toNatClampNeg) := inb_of S332 ⟨by decide, by decide⟩
    have hat332 : cl332.slots[((7 : Int32)).toNatClampNeg]? = some (.ref w_OPERATION) := H332.at hin332 rfl
    refine own_step (fun t k => X183.aaload hx (j := (7 : Int32)) (v := (.ref w_OPERATION)) (by rw [e183]; exact Ar332.1) (State.isArrayOf_alike hZ.alike Ar332.2.1) rfl Ar332.2.2 hin332 hat332 (g := (mkF m 153 #[.val (.int x0_0), .val (.ref b1), .val (.ref b136), .val (.int (7 : Int32))] [(.int (7 : Int32)), (.ref b1)])) rfl rfl (hb hby at_153) _ k) ?_
    show own_Ends p.tables e below s _ _ _ (T183.setTop (mkF m 154 #[.val (.int x0_0), .val (.ref b1), .val (.ref b136), .val (.int (7 : Int32))] [(.ref w_OPERATION)]))
    have O333 : Old Z n0 h143 := (((O105.ext E136).wr W139 g_b136).wr W143 g_b136)
    have O334 : Old Z n0 h155 := (((O333.wr W147 g_b136).wr W151 g_b136).wr W155 g_b136)
    have O335 : Old Z n0 h167 := (((O334.wr W159 g_b136).wr W163 g_b136).wr W167 g_b136)
    have O336 : Old Z n0 h179 := (((O335.wr W171 g_b136).wr W175 g_b136).wr W179 g_b136)
    have O337 : Old Z n0 h183 := (O336.wr W183 g_b136)
    have F339 : Exa Z h143 w_OPERATION "com/example/idlect/idlect/core/Symbol$Container$Kind" := (((F130.ext E136).wr W139).wr W143)
    have F340 : Exa Z h155 w_OPERATION "com/example/idlect/idlect/core/Symbol$Container$Kind" := (((F339.wr W147).wr W151).wr W155)
    have F341 : Exa Z h167 w_OPERATION "com/example/idlect/idlect/core/Symbol$Container$Kind" := (((F340.wr W159).wr W163).wr W167)
    have F342 : Exa Z h179 w_OPERATION "com/example/idlect/idlect/core/Symbol$Container$Kind" := (((F341.wr W171).wr W175).wr W179)
    have F343 : Exa Z h183 w_OPERATION "com/example/idlect/idlect/core/Symbol$Container$Kind" := (F342.wr W183)
    obtain ⟨cq338, kq338, q338a, q338b, q338c⟩ := isOf hZ e183 F343
    obtain ⟨_, _, ⟨T338, L338, k338, n338⟩, -, X338, ⟨Lc338, hQ338, l338, y338, z338⟩, st338⟩ := X183.virtualBack hx (y := (⟨"com/example/idlect/idlect/core/Symbol$Container$Kind", "isType", "()Z"⟩ : MethodName)) (z := (⟨"com/example/idlect/idlect/core/Symbol$Container$Kind", "isType", "()Z"⟩ : MethodName)) hown (mvT hZ (hw _ (List.mem_of_getElem? (i := 30) rfl))) (mvT hZ (hw _ (List.mem_of_getElem? (i := 31) rfl))) (notFace_of_selects (args := #[]) (mvT hZ (hw _ (List.mem_of_getElem? (i := 33) rfl)))) (mvT hZ (hw _ (List.mem_of_getElem? (i := 33) rfl))) (mvT hZ (hw _ (List.mem_of_getElem? (i := 32) rfl))) (by decide) (backOf (W := 0) (rm1 l Z a0 hw [] w_OPERATION w_INTERFACE w_VALUE_TYPE w_STRUCT w_UNION h183 n0 O337 S_INTERFACE S_VALUE_TYPE S_STRUCT S_UNION) hZ (hw _ (List.mem_of_getElem? (i := 34) rfl)) (hw _ (List.mem_of_getElem? (i := 3) rfl)) (by decide) (by decide)) q338a q338c (g := (mkF m 154 #[.val (.int x0_0), .val (.ref b1), .val (.ref b136), .val (.int (7 : Int32))] [(.ref w_OPERATION)])) rfl (by rw [hml]; rfl) (Steps.refl _) (argsL := []) (rest := []) (lenOf pd_0 rfl) rfl (by show 2 * 0 + _ ≤ _; exact Nat.le_of_eq rfl) (hb hby at_154) (fun _ _ => ⟨rfl, e183, (by decide : 2 + 0 ≤ _), (by decide : 24 + 0 ≤ _)⟩)
    dsimp only [Pt.U, Pt.locs, Pt.cells, Pt.slots] at X338 l338 y338 z338 st338 hQ338
    subst y338 z338
    obtain ⟨rfl, N338q, e338⟩ := hQ338
    refine own_step (fun t k => st338.trans k) ?_
    have N344 : Fr n0 L338 := by rw [l338]; exact Fr.app N185 N338q
    show own_Ends p.tables e below s _ _ _ (T338.setTop (mkF m 157 #[.val (.int x0_0), .val (.ref b1), .val (.ref b136), .val (.int (7 : Int32))] [(.int (own_r1 w_OPERATION w_INTERFACE w_VALUE_TYPE w_STRUCT w_UNION))]))
    refine own_step (fun t k => XS.aloadN X338.here hx rfl (hb hby at_157) rfl rfl k) ?_
    show own_Ends p.tables e below s _ _ _ (T338.setTop (mkF m 158 #[.val (.int x0_0), .val (.ref b1), .val (.ref b136), .val (.int (7 : Int32))] [(.ref b136), (.int (own_r1 w_OPERATION w_INTERFACE w_VALUE_TYPE w_STRUCT w_UNION))]))
    refine own_step (fun t k => XS.iloadN X338.here hx rfl (hb hby at_158) rfl k) ?_
    show own_Ends p.tables e below s _ _ _ (T338.setTop (mkF m 159 #[.val (.int x0_0), .val (.ref b1), .val (.ref b136), .val (.int (7 : Int32))] [(.int (7 : Int32)), (.ref b136), (.int (own_r1 w_OPERATION w_INTERFACE w_VALUE_TYPE w_STRUCT w_UNION))]))
    obtain ⟨cl345, Ar345, q345, S345, N345, H345, G345⟩ := id V183
    have hin345 : ¬ ((7 : Int32) < 0 ∨ cl345.slots.size ≤ ((7 : Int32)).toNatClampNeg) := inb_of S345 ⟨by decide, by decide⟩
    have hat345 : cl345.slots[((7 : Int32)).toNatClampNeg]? = some (.int (0 : Int32)) := H345.at hin345 rfl
    refine own_step (fun t k => X338.baloadBooleans hx (j := (7 : Int32)) (v := (.int (0 : Int32))) (by rw [e338]; exact Ar345.1) (State.isArrayOf_alike hZ.alike Ar345.2.1) Ar345.2.2 hin345 hat345 (g := (mkF m 159 #[.val (.int x0_0), .val (.ref b1), .val (.ref b136), .val (.int (7 : Int32))] [(.int (7 : Int32)), (.ref b136), (.int (own_r1 w_OPERATION w_INTERFACE w_VALUE_TYPE w_STRUCT w_UNION))])) rfl rfl (hb hby at_159) _ k) ?_
    show own_Ends p.tables e below s _ _ _ (T338.setTop (mkF m 160 #[.val (.int x0_0), .val (.ref b1), .val (.ref b136), .val (.int (7 : Int32))] [(.int (0 : Int32)), (.int (own_r1 w_OPERATION w_INTERFACE w_VALUE_TYPE w_STRUCT w_UNION))]))
    by_cases hc160_346 : (own_r1 w_OPERATION w_INTERFACE w_VALUE_TYPE w_STRUCT w_UNION) = (0 : Int32)
    · skip
      refine own_step (fun t k => XS.icmpNo X338.here hx rfl (hb hby at_160) rfl (teq hc160_346).2 k) ?_
      show own_Ends p.tables e below s _ _ _ (T338.setTop (mkF m 163 #[.val (.int x0_0), .val (.ref b1), .val (.ref b136), .val (.int (7 : Int32))] []))
      refine own_step (fun t k => XS.iconst X338.here hx rfl (hb hby at_163) k) ?_
      show own_Ends p.tables e below s _ _ _ (T338.setTop (mkF m 164 #[.val (.int x0_0), .val (.ref b1), .val (.ref b136), .val (.int (7 : Int32))] [(.int (1 : Int32))]))
      refine own_step (fun t k => XS.goto X338.here hx rfl (pc0 := 164) (pc' := 168) rfl (hb hby at_164) (by decide) (by decide) k) ?_
      show own_Ends p.tables e below s _ _ _ (T338.setTop (mkF m 168 #[.val (.int x0_0), .val (.ref b1), .val (.ref b136), .val (.int (7 : Int32))] [(.int (1 : Int32))]))
      exact own_retN X338 hx (t := .boolean) Bd.returns (by simp) (hb hby at_168) hnl (by rw [e338]; exact ⟨rfl, N344⟩) (by decide) (by decide)
    · skip
      refine own_step (fun t k => XS.icmpYes X338.here hx rfl (pc0 := 160) (pc' := 167) rfl (hb hby at_160) rfl (feq hc160_346).2 (by decide) (by decide) k) ?_
      show own_Ends p.tables e below s _ _ _ (T338.setTop (mkF m 167 #[.val (.int x0_0), .val (.ref b1), .val (.ref b136), .val (.int (7 : Int32))] []))
      refine own_step (fun t k => XS.iconst X338.here hx rfl (hb hby at_167) k) ?_
      show own_Ends p.tables e below s _ _ _ (T338.setTop (mkF m 168 #[.val (.int x0_0), .val (.ref b1), .val (.ref b136), .val (.int (7 : Int32))] [(.int (0 : Int32))]))
      exfalso
      apply hc160_346
      simp [own_r1, ne_w_FILE_w_INTERFACE, ne_w_FILE_w_VALUE_TYPE, ne_w_FILE_w_STRUCT, ne_w_FILE_w_UNION, ne_w_MODULE_w_INTERFACE, ne_w_MODULE_w_VALUE_TYPE, ne_w_MODULE_w_STRUCT, ne_w_MODULE_w_UNION, ne_w_INTERFACE_w_VALUE_TYPE, ne_w_INTERFACE_w_STRUCT, ne_w_INTERFACE_w_UNION, ne_w_VALUE_TYPE_w_STRUCT, ne_w_VALUE_TYPE_w_UNION, ne_w_STRUCT_w_UNION, ne_w_EXCEPTION_w_INTERFACE, ne_w_EXCEPTION_w_VALUE_TYPE, ne_w_EXCEPTION_w_STRUCT, ne_w_EXCEPTION_w_UNION, ne_w_OPERATION_w_INTERFACE, ne_w_OPERATION_w_VALUE_TYPE, ne_w_OPERATION_w_STRUCT, ne_w_OPERATION_w_UNION, ne_w_FACTORY_w_INTERFACE, ne_w_FACTORY_w_VALUE_TYPE, ne_w_FACTORY_w_STRUCT, ne_w_FACTORY_w_UNION, ne_w_COMPONENT_w_INTERFACE, ne_w_COMPONENT_w_VALUE_TYPE, ne_w_COMPONENT_w_STRUCT, ne_w_COMPONENT_w_UNION, ne_w_COMPONENT_INTERFACE_w_INTERFACE, ne_w_COMPONENT_INTERFACE_w_VALUE_TYPE, ne_w_COMPONENT_INTERFACE_w_STRUCT, ne_w_COMPONENT_INTERFACE_w_UNION, ne_w_IDS_w_INTERFACE, ne_w_IDS_w_VALUE_TYPE, ne_w_IDS_w_STRUCT, ne_w_IDS_w_UNION, Ne.symm ne_w_INTERFACE_w_VALUE_TYPE, Ne.symm ne_w_INTERFACE_w_STRUCT, Ne.symm ne_w_INTERFACE_w_UNION, Ne.symm ne_w_VALUE_TYPE_w_STRUCT, Ne.symm ne_w_VALUE_TYPE_w_UNION, Ne.symm ne_w_STRUCT_w_UNION]
  · subst hk186
    show own_Ends p.tables e below s _ _ _ (T183.setTop (mkF m 151 #[.val (.int x0_0), .val (.ref b1), .val (.ref b136), .val (.int (8 : Int32))] []))
    refine own_step (fun t k => XS.aloadN X183.here hx rfl (hb hby at_151) rfl rfl k) ?_
    show own_Ends p.tables e below s _ _ _ (T183.setTop (mkF m 152 #[.val (.int x0_0), .val (.ref b1), .val (.ref b136), .val (.int (8 : Int32))] [(.ref b1)]))
    refine own_step (fun t k => XS.iloadN X183.here hx rfl (hb hby at_152) rfl k) ?_
    show own_Ends p.tables e below s _ _ _ (T183.setTop (mkF m 153 #[.val (.int x0_0), .val (.ref b1), .val (.ref b136), .val (.int (8 : Int32))] [(.int (8 : Int32)), (.ref b1)]))
    have F347 : Arv Z h143 b1 k1 (.object "com/example/idlect/idlect/core/Symbol$Container$Kind") (12 : Int32) [(.ref w_FILE), (.ref w_MODULE), (.ref w_INTERFACE), (.ref w_VALUE_TYPE), (.ref w_STRUCT), (.ref w_UNION), (.ref w_EXCEPTION), (.ref w_OPERATION), (.ref w_FACTORY), (.ref w_COMPONENT), (.ref w_COMPONENT_INTERFACE), (.ref w_IDS)] .null := (((V102.ext E136).other W139 ne_b1_b136).other W143 ne_b1_b136)
    have F348 : Arv Z h155 b1 k1 (.object "com/example/idlect/idlect/core/Symbol$Container$Kind") (12 : Int32) [(.ref w_FILE), (.ref w_MODULE), (.ref w_INTERFACE), (.ref w_VALUE_TYPE), (.ref w_STRUCT), (.ref w_UNION), (.ref w_EXCEPTION), (.ref w_OPERATION), (.ref w_FACTORY), (.ref w_COMPONENT), (.ref w_COMPONENT_INTERFACE), (.ref w_IDS)] .null := (((F347.other W147 ne_b1_b136).other W151 ne_b1_b136).other W155 ne_b1_b136)
    have F349 : Arv Z h167 b1 k1 (.object "com/example/idlect/idlect/core/Symbol$Container$Kind") (12 : Int32) [(.ref w_FILE), (.ref w_MODULE), (.ref w_INTERFACE), (.ref w_VALUE_TYPE), (.ref w_STRUCT), (.ref w_UNION), (.ref w_EXCEPTION), (.ref w_OPERATION), (.ref w_FACTORY), (.ref w_COMPONENT), (.ref w_COMPONENT_INTERFACE), (.ref w_IDS)] .null := (((F348.other W159 ne_b1_b136).other W163 ne_b1_b136).other W167 ne_b1_b136)
    have F350 : Arv Z h179 b1 k1 (.object "com/example/idlect/idlect/core/Symbol$Container$Kind") (12 : Int32) [(.ref w_FILE), (.ref w_MODULE), (.ref w_INTERFACE), (.ref w_VALUE_TYPE), (.ref w_STRUCT), (.ref w_UNION), (.ref w_EXCEPTION), (.ref w_OPERATION), (.ref w_FACTORY), (.ref w_COMPONENT), (.ref w_COMPONENT_INTERFACE), (.ref w_IDS)] .null := (((F349.other W171 ne_b1_b136).other W175 ne_b1_b136).other W179 ne_b1_b136)
    have F351 : Arv Z h183 b1 k1 (.object "com/example/idlect/idlect/core/Symbol$Container$Kind") (12 : Int32) [(.ref w_FILE), (.ref w_MODULE), (.ref w_INTERFACE), (.ref w_VALUE_TYPE), (.ref w_STRUCT), (.ref w_UNION), (.ref w_EXCEPTION), (.ref w_OPERATION), (.ref w_FACTORY), (.ref w_COMPONENT), (.ref w_COMPONENT_INTERFACE), (.ref w_IDS)] .null := (F350.other W183 ne_b1_b136)
    obtain ⟨cl352, Ar352, q352, S352, N352, H352, G352⟩ := id F351
    have hin352 : ¬ ((8 : Int32) < 0 ∨ cl352.slots.size ≤ ((8 : Int32)).toNatClampNeg) := inb_of S352 ⟨by decide, by decide⟩
    have hat352 : cl352.slots[((8 : Int32)).toNatClampNeg]? = some (.ref w_FACTORY) := H352.at hin352 rfl
    refine own_step (fun t k => X183.aaload hx (j := (8 : Int32)) (v := (.ref w_FACTORY)) (by rw [e183]; exact Ar352.1) (State.isArrayOf_alike hZ.alike Ar352.2.1) rfl Ar352.2.2 hin352 hat352 (g := (mkF m 153 #[.val (.int x0_0), .val (.ref b1), .val (.ref b136), .val (.int (8 : Int32))] [(.int (8 : Int32)), (.ref b1)])) rfl rfl (hb hby at_153) _ k) ?_
    show own_Ends p.tables e below s _ _ _ (T183.setTop (mkF m 154 #[.val (.int x0_0), .val (.ref b1), .val (.ref b136), .val (.int (8 : Int32))] [(.ref w_FACTORY)]))
    have O353 : Old Z n0 h143 := (((O105.ext E136).wr W139 g_b136).wr W143 g_b136)
    have O354 : Old Z n0 h155 := (((O353.wr W147 g_b136).wr W151 g_b136).wr W155 g_b136)
    have O355 : Old Z n0 h167 := (((O354.wr W159 g_b136).wr W163 g_b136).wr W167 g_b136)
    have O356 : Old Z n0 h179 := (((O355.wr W171 g_b136).wr W175 g_b136).wr W179 g_b136)
    have O357 : Old Z n0 h183 := (O356.wr W183 g_b136)
    have F359 : Exa Z h143 w_FACTORY "com/example/idlect/idlect/core/Symbol$Container$Kind" := (((F132.ext E136).wr W139).wr W143)
    have F360 : Exa Z h155 w_FACTORY "com/example/idlect/idlect/core/Symbol$Container$Kind" := (((F359.wr W147).wr W151).wr W155)
    have F361 : Exa Z h167 w_FACTORY "com/example/idlect/idlect/core/Symbol$Container$Kind" := (((F360.wr W159).wr W163).wr W167)
    have F362 : Exa Z h179 w_FACTORY "com/example/idlect/idlect/core/Symbol$Container$Kind" := (((F361.wr W171).wr W175).wr W179)
    have F363 : Exa Z h183 w_FACTORY "com/example/idlect/idlect/core/Symbol$Container$Kind" := (F362.wr W183)
    obtain ⟨cq358, kq358, q358a, q358b, q358c⟩ := isOf hZ e183 F363
    obtain ⟨_, _, ⟨T358, L358, k358, n358⟩, -, X358, ⟨Lc358, hQ358, l358, y358, z358⟩, st358⟩ := X183.virtualBack hx (y := (⟨"com/example/idlect/idlect/core/Symbol$Container$Kind", "isType", "()Z"⟩ : MethodName)) (z := (⟨"com/example/idlect/idlect/core/Symbol$Container$Kind", "isType", "()Z"⟩ : MethodName)) hown (mvT hZ (hw _ (List.mem_of_getElem? (i := 30) rfl))) (mvT hZ (hw _ (List.mem_of_getElem? (i := 31) rfl))) (notFace_of_selects (args := #[]) (mvT hZ (hw _ (List.mem_of_getElem? (i := 33) rfl)))) (mvT hZ (hw _ (List.mem_of_getElem? (i := 33) rfl))) (mvT hZ (hw _ (List.mem_of_getElem? (i := 32) rfl))) (by decide) (backOf (W := 0) (rm1 l Z a0 hw [] w_FACTORY w_INTERFACE w_VALUE_TYPE w_STRUCT w_UNION h183 n0 O357 S_INTERFACE S_VALUE_TYPE S_STRUCT S_UNION) hZ (hw _ (List.mem_of_getElem? (i := 34) rfl)) (hw _ (List.mem_of_getElem? (i := 3) rfl)) (by decide) (by decide)) q358a q358c (g := (mkF m 154 #[.val (.int x0_0), .val (.ref b1), .val (.ref b136), .val (.int (8 : Int32))] [(.ref w_FACTORY)])) rfl (by rw [hml]; rfl) (Steps.refl _) (argsL := []) (rest := []) (lenOf pd_0 rfl) rfl (by show 2 * 0 + _ ≤ _; exact Nat.le_of_eq rfl) (hb hby at_154) (fun _ _ => ⟨rfl, e183, (by decide : 2 + 0 ≤ _), (by decide : 24 + 0 ≤ _)⟩)
    dsimp only [Pt.U, Pt.locs, Pt.cells, Pt.slots] at X358 l358 y358 z358 st358 hQ358
    subst y358 z358
    obtain ⟨rfl, N358q, e358⟩ := hQ358
    refine own_step (fun t k => st358.trans k) ?_
    have N364 : Fr n0 L358 := by rw [l358]; exact Fr.app N185 N358q
    show own_Ends p.tables e below s _ _ _ (T358.setTop (mkF m 157 #[.val (.int x0_0), .val (.ref b1), .val (.ref b136), .val (.int (8 : Int32))] [(.int (own_r1 w_FACTORY w_INTERFACE w_VALUE_TYPE w_STRUCT w_UNION))]))
    refine own_step (fun t k => XS.aloadN X358.here hx rfl (hb hby at_157) rfl rfl k) ?_
    show own_Ends p.tables e below s _ _ _ (T358.setTop (mkF m 158 #[.val (.int x0_0), .val (.ref b1), .val (.ref b136), .val (.int (8 : Int32))] [(.ref b136), (.int (own_r1 w_FACTORY w_INTERFACE w_VALUE_TYPE w_STRUCT w_UNION))]))
    refine own_step (fun t k => XS.iloadN X358.here hx rfl (hb hby at_158) rfl k) ?_
    show own_Ends p.tables e below s _ _ _ (T358.setTop (mkF m 159 #[.val (.int x0_0), .val (.ref b1), .val (.ref b136), .val (.int (8 : Int32))] [(.int (8 : Int32)), (.ref b136), (.int (own_r1 w_FACTORY w_INTERFACE w_VALUE_TYPE w_STRUCT w_UNION))]))
    obtain ⟨cl365, Ar365, q365, S365, N365, H365, G365⟩ := id V183
    have hin365 : ¬ ((8 : Int32) < 0 ∨ cl365.slots.size ≤ ((8 : Int32)).toNatClampNeg) := inb_of S365 ⟨by decide, by decide⟩
    have hat365 : cl365.slots[((8 : Int32)).toNatClampNeg]? = some (.int (0 : Int32)) := H365.at hin365 rfl
    refine own_step (fun t k => X358.baloadBooleans hx (j := (8 : Int32)) (v := (.int (0 : Int32))) (by rw [e358]; exact Ar365.1) (State.isArrayOf_alike hZ.alike Ar365.2.1) Ar365.2.2 hin365 hat365 (g := (mkF m 159 #[.val (.int x0_0), .val (.ref b1), .val (.ref b136), .val (.int (8 : Int32))] [(.int (8 : Int32)), (.ref b136), (.int (own_r1 w_FACTORY w_INTERFACE w_VALUE_TYPE w_STRUCT w_UNION))])) rfl rfl (hb hby at_159) _ k) ?_
    show own_Ends p.tables e below s _ _ _ (T358.setTop (mkF m 160 #[.val (.int x0_0), .val (.ref b1), .val (.ref b136), .val (.int (8 : Int32))] [(.int (0 : Int32)), (.int (own_r1 w_FACTORY w_INTERFACE w_VALUE_TYPE w_STRUCT w_UNION))]))
    by_cases hc160_366 : (own_r1 w_FACTORY w_INTERFACE w_VALUE_TYPE w_STRUCT w_UNION) = (0 : Int32)
    · skip
      refine own_step (fun t k => XS.icmpNo X358.here hx rfl (hb hby at_160) rfl (teq hc160_366).2 k) ?_
      show own_Ends p.tables e below s _ _ _ (T358.setTop (mkF m 163 #[.val (.int x0_0), .val (.ref b1), .val (.ref b136), .val (.int (8 : Int32))] []))
      refine own_step (fun t k => XS.iconst X358.here hx rfl (hb hby at_163) k) ?_
      show own_Ends p.tables e below s _ _ _ (T358.setTop (mkF m 164 #[.val (.int x0_0), .val (.ref b1), .val (.ref b136), .val (.int (8 : Int32))] [(.int (1 : Int32))]))
      refine own_step (fun t k => XS.goto X358.here hx rfl (pc0 := 164) (pc' := 168) rfl (hb hby at_164) (by decide) (by decide) k) ?_
      show own_Ends p.tables e below s _ _ _ (T358.setTop (mkF m 168 #[.val (.int x0_0), .val (.ref b1), .val (.ref b136), .val (.int (8 : Int32))] [(.int (1 : Int32))]))
      exact own_retN X358 hx (t := .boolean) Bd.returns (by simp) (hb hby at_168) hnl (by rw [e358]; exact ⟨rfl, N364⟩) (by decide) (by decide)
    · skip
      refine own_step (fun t k => XS.icmpYes X358.here hx rfl (pc0 := 160) (pc' := 167) rfl (hb hby at_160) rfl (feq hc160_366).2 (by decide) (by decide) k) ?_
      show own_Ends p.tables e below s _ _ _ (T358.setTop (mkF m 167 #[.val (.int x0_0), .val (.ref b1), .val (.ref b136), .val (.int (8 : Int32))] []))
      refine own_step (fun t k => XS.iconst X358.here hx rfl (hb hby at_167) k) ?_
      show own_Ends p.tables e below s _ _ _ (T358.setTop (mkF m 168 #[.val (.int x0_0), .val (.ref b1), .val (.ref b136), .val (.int (8 : Int32))] [(.int (0 : Int32))]))
      exfalso
      apply hc160_366
      simp [own_r1, ne_w_FILE_w_INTERFACE, ne_w_FILE_w_VALUE_TYPE, ne_w_FILE_w_STRUCT, ne_w_FILE_w_UNION, ne_w_MODULE_w_INTERFACE, ne_w_MODULE_w_VALUE_TYPE, ne_w_MODULE_w_STRUCT, ne_w_MODULE_w_UNION, ne_w_INTERFACE_w_VALUE_TYPE, ne_w_INTERFACE_w_STRUCT, ne_w_INTERFACE_w_UNION, ne_w_VALUE_TYPE_w_STRUCT, ne_w_VALUE_TYPE_w_UNION, ne_w_STRUCT_w_UNION, ne_w_EXCEPTION_w_INTERFACE, ne_w_EXCEPTION_w_VALUE_TYPE, ne_w_EXCEPTION_w_STRUCT, ne_w_EXCEPTION_w_UNION, ne_w_OPERATION_w_INTERFACE, ne_w_OPERATION_w_VALUE_TYPE, ne_w_OPERATION_w_STRUCT, ne_w_OPERATION_w_UNION, ne_w_FACTORY_w_INTERFACE, ne_w_FACTORY_w_VALUE_TYPE, ne_w_FACTORY_w_STRUCT, ne_w_FACTORY_w_UNION, ne_w_COMPONENT_w_INTERFACE, ne_w_COMPONENT_w_VALUE_TYPE, ne_w_COMPONENT_w_STRUCT, ne_w_COMPONENT_w_UNION, ne_w_COMPONENT_INTERFACE_w_INTERFACE, ne_w_COMPONENT_INTERFACE_w_VALUE_TYPE, ne_w_COMPONENT_INTERFACE_w_STRUCT, ne_w_COMPONENT_INTERFACE_w_UNION, ne_w_IDS_w_INTERFACE, ne_w_IDS_w_VALUE_TYPE, ne_w_IDS_w_STRUCT, ne_w_IDS_w_UNION, Ne.symm ne_w_INTERFACE_w_VALUE_TYPE, Ne.symm ne_w_INTERFACE_w_STRUCT, Ne.symm ne_w_INTERFACE_w_UNION, Ne.symm ne_w_VALUE_TYPE_w_STRUCT, Ne.symm ne_w_VALUE_TYPE_w_UNION, Ne.symm ne_w_STRUCT_w_UNION]
  · subst hk186
    show own_Ends p.tables e below s _ _ _ (T183.setTop (mkF m 151 #[.val (.int x0_0), .val (.ref b1), .val (.ref b136), .val (.int (9 : Int32))] []))
    refine own_step (fun t k => XS.aloadN X183.here hx rfl (hb hby at_151) rfl rfl k) ?_
    show own_Ends p.tables e below s _ _ _ (T183.setTop (mkF m 152 #[.val (.int x0_0), .val (.ref b1), .val (.ref b136), .val (.int (9 : Int32))] [(.ref b1)]))
    refine own_step (fun t k => XS.iloadN X183.here hx rfl (hb hby at_152) rfl k) ?_
    show own_Ends p.tables e below s _ _ _ (T183.setTop (mkF m 153 #[.val (.int x0_0), .val (.ref b1), .val (.ref b136), .val (.int (9 : Int32))] [(.int (9 : Int32)), (.ref b1)]))
    have F367 : Arv Z h143 b1 k1 (.object "com/example/idlect/idlect/core/Symbol$Container$Kind") (12 : Int32) [(.ref w_FILE), (.ref w_MODULE), (.ref w_INTERFACE), (.ref w_VALUE_TYPE), (.ref w_STRUCT), (.ref w_UNION), (.ref w_EXCEPTION), (.ref w_OPERATION), (.ref w_FACTORY), (.ref w_COMPONENT), (.ref w_COMPONENT_INTERFACE), (.ref w_IDS)] .null := (((V102.ext E136).other W139 ne_b1_b136).other W143 ne_b1_b136)
    have F368 : Arv Z h155 b1 k1 (.object "com/example/idlect/idlect/core/Symbol$Container$Kind") (12 : Int32) [(.ref w_FILE), (.ref w_MODULE), (.ref w_INTERFACE), (.ref w_VALUE_TYPE), (.ref w_STRUCT), (.ref w_UNION), (.ref w_EXCEPTION), (.ref w_OPERATION), (.ref w_FACTORY), (.ref w_COMPONENT), (.ref w_COMPONENT_INTERFACE), (.ref w_IDS)] .null := (((F367.other W147 ne_b1_b136).other W151 ne_b1_b136).other W155 ne_b1_b136)
    have F369 : Arv Z h167 b1 k1 (.object "com/example/idlect/idlect/core/Symbol$Container$Kind") (12 : Int32) [(.ref w_FILE), (.ref w_MODULE), (.ref w_INTERFACE), (.ref w_VALUE_TYPE), (.ref w_STRUCT), (.ref w_UNION), (.ref w_EXCEPTION), (.ref w_OPERATION), (.ref w_FACTORY), (.ref w_COMPONENT), (.ref w_COMPONENT_INTERFACE), (.ref w_IDS)] .null := (((F368.other W159 ne_b1_b136).other W163 ne_b1_b136).other W167 ne_b1_b136)
    have F370 : Arv Z h179 b1 k1 (.object "com/example/idlect/idlect/core/Symbol$Container$Kind") (12 : Int32) [(.ref w_FILE), (.ref w_MODULE), (.ref w_INTERFACE), (.ref w_VALUE_TYPE), (.ref w_STRUCT), (.ref w_UNION), (.ref w_EXCEPTION), (.ref w_OPERATION), (.ref w_FACTORY), (.ref w_COMPONENT), (.ref w_COMPONENT_INTERFACE), (.ref w_IDS)] .null := (((F369.other W171 ne_b1_b136).other W175 ne_b1_b136).other W179 ne_b1_b136)
    have F371 : Arv Z h183 b1 k1 (.object "com/example/idlect/idlect/core/Symbol$Container$Kind") (12 : Int32) [(.ref w_FILE), (.ref w_MODULE), (.ref w_INTERFACE), (.ref w_VALUE_TYPE), (.ref w_STRUCT), (.ref w_UNION), (.ref w_EXCEPTION), (.ref w_OPERATION), (.ref w_FACTORY), (.ref w_COMPONENT), (.ref w_COMPONENT_INTERFACE), (.ref w_IDS)] .null := (F370.other W183 ne_b1_b136)
    obtain ⟨cl372, Ar372, q372, S372, N372, H372, G372⟩ := id F371
    have hin372 : ¬ ((9 : Int32) < 0 ∨ cl372.slots.size ≤ ((9 : Int32)).toNatClampNeg) := inb_of S372 ⟨by decide, by decide⟩
    have hat372 : cl372.slots[((9 : Int32)).toNatClampNeg]? = some (.ref w_COMPONENT) := H372.at hin372 rfl
    refine own_step (fun t k => X183.aaload hx (j := (9 : Int32)) (v := (.ref w_COMPONENT)) (by rw [e183]; exact Ar372.1) (State.isArrayOf_alike hZ.alike Ar372.2.1) rfl Ar372.2.2 hin372 hat372 (g := (mkF m 153 #[.val (.int x0_0), .val (.ref b1), .val (.ref b136), .val (.int (9 : Int32))] [(.int (9 : Int32)), (.ref b1)])) rfl rfl (hb hby at_153) _ k) ?_
    show own_Ends p.tables e below s _ _ _ (T183.setTop (mkF m 154 #[.val (.int x0_0), .val (.ref b1), .val (.ref b136), .val (.int (9 : Int32))] [(.ref w_COMPONENT)]))
    have O373 : Old Z n0 h143 := (((O105.ext E136).wr W139 g_b136).wr W143 g_b136)
    have O374 : Old Z n0 h155 := (((O373.wr W147 g_b136).wr W151 g_b136).wr W155 g_b136)
    have O375 : Old Z n0 h167 := (((O374.wr W159 g_b136).wr W163 g_b136).wr W167 g_b136)
    have O376 : Old Z n0 h179 := (((O375.wr W171 g_b136).wr W175 g_b136).wr W179 g_b136)
    have O377 : Old Z n0 h183 := (O376.wr W183 g_b136)
    have F379 : Exa Z h143 w_COMPONENT "com/example/idlect/idlect/core/Symbol$Container$Kind" := (((F133.ext E136).wr W139).wr W143)
    have F380 : Exa Z h155 w_COMPONENT "com/example/idlect/idlect/core/Symbol$Container$Kind" := (((F379.wr W147).wr W151).wr W155)
    have F381 : Exa Z h167 w_COMPONENT "com/example/idlect/idlect/core/Symbol$Container$Kind" := (((F380.wr W159).wr W163).wr W167)
    have F382 : Exa Z h179 w_COMPONENT "com/example/idlect/idlect/core/Symbol$Container$Kind" := (((F381.wr W171).wr W175).wr W179)
    have F383 : Exa Z h183 w_COMPONENT "com/example/idlect/idlect/core/Symbol$Container$Kind" := (F382.wr W183)
    obtain ⟨cq378, kq378, q378a, q378b, q378c⟩ := isOf hZ e183 F383
    obtain ⟨_, _, ⟨T378, L378, k378, n378⟩, -, X378, ⟨Lc378, hQ378, l378, y378, z378⟩, st378⟩ := X183.virtualBack hx (y := (⟨"com/example/idlect/idlect/core/Symbol$Container$Kind", "isType", "()Z"⟩ : MethodName)) (z := (⟨"com/example/idlect/idlect/core/Symbol$Container$Kind", "isType", "()Z"⟩ : MethodName)) hown (mvT hZ (hw _ (List.mem_of_getElem? (i := 30) rfl))) (mvT hZ (hw _ (List.mem_of_getElem? (i := 31) rfl))) (notFace_of_selects (args := #[]) (mvT hZ (hw _ (List.mem_of_getElem? (i := 33) rfl)))) (mvT hZ (hw _ (List.mem_of_getElem? (i := 33) rfl))) (mvT hZ (hw _ (List.mem_of_getElem? (i := 32) rfl))) (by decide) (backOf (W := 0) (rm1 l Z a0 hw [] w_COMPONENT w_INTERFACE w_VALUE_TYPE w_STRUCT w_UNION h183 n0 O377 S_INTERFACE S_VALUE_TYPE S_STRUCT S_UNION) hZ (hw _ (List.mem_of_getElem? (i := 34) rfl)) (hw _ (List.mem_of_getElem? (i := 3) rfl)) (by decide) (by decide)) q378a q378c (g := (mkF m 154 #[.val (.int x0_0), .val (.ref b1), .val (.ref b136), .val (.int (9 : Int32))] [(.ref w_COMPONENT)])) rfl (by rw [hml]; rfl) (Steps.refl _) (argsL := []) (rest := []) (lenOf pd_0 rfl) rfl (by show 2 * 0 + _ ≤ _; exact Nat.le_of_eq rfl) (hb hby at_154) (fun _ _ => ⟨rfl, e183, (by decide : 2 + 0 ≤ _), (by decide : 24 + 0 ≤ _)⟩)
    dsimp only [Pt.U, Pt.locs, Pt.cells, Pt.slots] at X378 l378 y378 z378 st378 hQ378
    subst y378 z378
    obtain ⟨rfl, N378q, e378⟩ := hQ378
    refine own_step (fun t k => st378.trans k) ?_
    have N384 : Fr n0 L378 := by rw [l378]; exact Fr.app N185 N378q
    show own_Ends p.tables e below s _ _ _ (T378.setTop (mkF m 157 #[.val (.int x0_0), .val (.ref b1), .val (.ref b136), .val (.int (9 : Int32))] [(.int (own_r1 w_COMPONENT w_INTERFACE w_VALUE_TYPE w_STRUCT w_UNION))]))
    refine own_step (fun t k => XS.aloadN X378.here hx rfl (hb hby at_157) rfl rfl k) ?_
    show own_Ends p.tables e below s _ _ _ (T378.setTop (mkF m 158 #[.val (.int x0_0), .val (.ref b1), .val (.ref b136), .val (.int (9 : Int32))] [(.ref b136), (.int (own_r1 w_COMPONENT w_INTERFACE w_VALUE_TYPE w_STRUCT w_UNION))]))
    refine own_step (fun t k => XS.iloadN X378.here hx rfl (hb hby at_158) rfl k) ?_
    show own_Ends p.tables e below s _ _ _ (T378.setTop (mkF m 159 #[.val (.int x0_0), .val (.ref b1), .val (.ref b136), .val (.int (9 : Int32))] [(.int (9 : Int32)), (.ref b136), (.int (own_r1 w_COMPONENT w_INTERFACE w_VALUE_TYPE w_STRUCT w_UNION))]))
    obtain ⟨cl385, Ar385, q385, S385, N385, H385, G385⟩ := id V183
    have hin385 : ¬ ((9 : Int32) < 0 ∨ cl385.slots.size ≤ ((9 : Int32)).toNatClampNeg) := inb_of S385 ⟨by decide, by decide⟩
    have hat385 : cl385.slots[((9 : Int32)).toNatClampNeg]? = some (.int (0 : Int32)) := H385.at hin385 rfl
    refine own_step (fun t k => X378.baloadBooleans hx (j := (9 : Int32)) (v := (.int (0 : Int32))) (by rw [e378]; exact Ar385.1) (State.isArrayOf_alike hZ.alike Ar385.2.1) Ar385.2.2 hin385 hat385 (g := (mkF m 159 #[.val (.int x0_0), .val (.ref b1), .val (.ref b136), .val (.int (9 : Int32))] [(.int (9 : Int32)), (.ref b136), (.int (own_r1 w_COMPONENT w_INTERFACE w_VALUE_TYPE w_STRUCT w_UNION))])) rfl rfl (hb hby at_159) _ k) ?_
    show own_Ends p.tables e below s _ _ _ (T378.setTop (mkF m 160 #[.val (.int x0_0), .val (.ref b1), .val (.ref b136), .val (.int (9 : Int32))] [(.int (0 : Int32)), (.int (own_r1 w_COMPONENT w_INTERFACE w_VALUE_TYPE w_STRUCT w_UNION))]))
    by_cases hc160_386 : (own_r1 w_COMPONENT w_INTERFACE w_VALUE_TYPE w_STRUCT w_UNION) = (0 : Int32)
    · skip
      refine own_step (fun t k => XS.icmpNo X378.here hx rfl (hb hby at_160) rfl (teq hc160_386).2 k) ?_
      show own_Ends p.tables e below s _ _ _ (T378.setTop (mkF m 163 #[.val (.int x0_0), .val (.ref b1), .val (.ref b136), .val (.int (9 : Int32))] []))
      refine own_step (fun t k => XS.iconst X378.here hx rfl (hb hby at_163) k) ?_
      show own_Ends p.tables e below s _ _ _ (T378.setTop (mkF m 164 #[.val (.int x0_0), .val (.ref b1), .val (.ref b136), .val (.int (9 : Int32))] [(.int (1 : Int32))]))
      refine own_step (fun t k => XS.goto X378.here hx rfl (pc0 := 164) (pc' := 168) rfl (hb hby at_164) (by decide) (by decide) k) ?_
      show own_Ends p.tables e below s _ _ _ (T378.setTop (mkF m 168 #[.val (.int x0_0), .val (.ref b1), .val (.ref b136), .val (.int (9 : Int32))] [(.int (1 : Int32))]))
      exact own_retN X378 hx (t := .boolean) Bd.returns (by simp) (hb hby at_168) hnl (by rw [e378]; exact ⟨rfl, N384⟩) (by decide) (by decide)
    · skip
      refine own_step (fun t k => XS.icmpYes X378.here hx rfl (pc0 := 160) (pc' := 167) rfl (hb hby at_160) rfl (feq hc160_386).2 (by decide) (by decide) k) ?_
      show own_Ends p.tables e below s _ _ _ (T378.setTop (mkF m 167 #[.val (.int x0_0), .val (.ref b1), .val (.ref b136), .val (.int (9 : Int32))] []))
      refine own_step (fun t k => XS.iconst X378.here hx rfl (hb hby at_167) k) ?_
      show own_Ends p.tables e below s _ _ _ (T378.setTop (mkF m 168 #[.val (.int x0_0), .val (.ref b1), .val (.ref b136), .val (.int (9 : Int32))] [(.int (0 : Int32))]))
      exfalso
      apply hc160_386
      simp [own_r1, ne_w_FILE_w_INTERFACE, ne_w_FILE_w_VALUE_TYPE, ne_w_FILE_w_STRUCT, ne_w_FILE_w_UNION, ne_w_MODULE_w_INTERFACE, ne_w_MODULE_w_VALUE_TYPE, ne_w_MODULE_w_STRUCT, ne_w_MODULE_w_UNION, ne_w_INTERFACE_w_VALUE_TYPE, ne_w_INTERFACE_w_STRUCT, ne_w_INTERFACE_w_UNION, ne_w_VALUE_TYPE_w_STRUCT, ne_w_VALUE_TYPE_w_UNION, ne_w_STRUCT_w_UNION, ne_w_EXCEPTION_w_INTERFACE, ne_w_EXCEPTION_w_VALUE_TYPE, ne_w_EXCEPTION_w_STRUCT, ne_w_EXCEPTION_w_UNION, ne_w_OPERATION_w_INTERFACE, ne_w_OPERATION_w_VALUE_TYPE, ne_w_OPERATION_w_STRUCT, ne_w_OPERATION_w_UNION, ne_w_FACTORY_w_INTERFACE, ne_w_FACTORY_w_VALUE_TYPE, ne_w_FACTORY_w_STRUCT, ne_w_FACTORY_w_UNION, ne_w_COMPONENT_w_INTERFACE, ne_w_COMPONENT_w_VALUE_TYPE, ne_w_COMPONENT_w_STRUCT, ne_w_COMPONENT_w_UNION, ne_w_COMPONENT_INTERFACE_w_INTERFACE, ne_w_COMPONENT_INTERFACE_w_VALUE_TYPE, ne_w_COMPONENT_INTERFACE_w_STRUCT, ne_w_COMPONENT_INTERFACE_w_UNION, ne_w_IDS_w_INTERFACE, ne_w_IDS_w_VALUE_TYPE, ne_w_IDS_w_STRUCT, ne_w_IDS_w_UNION, Ne.symm ne_w_INTERFACE_w_VALUE_TYPE, Ne.symm ne_w_INTERFACE_w_STRUCT, Ne.symm ne_w_INTERFACE_w_UNION, Ne.symm ne_w_VALUE_TYPE_w_STRUCT, Ne.symm ne_w_VALUE_TYPE_w_UNION, Ne.symm ne_w_STRUCT_w_UNION]
  · subst hk186
    show own_Ends p.tables e below s _ _ _ (T183.setTop (mkF m 151 #[.val (.int x0_0), .val (.ref b1), .val (.ref b136), .val (.int (10 : Int32))] []))
    refine own_step (fun t k => XS.aloadN X183.here hx rfl (hb hby at_151) rfl rfl k) ?_
    show own_Ends p.tables e below s _ _ _ (T183.setTop (mkF m 152 #[.val (.int x0_0), .val (.ref b1), .val (.ref b136), .val (.int (10 : Int32))] [(.ref b1)]))
    refine own_step (fun t k => XS.iloadN X183.here hx rfl (hb hby at_152) rfl k) ?_
    show own_Ends p.tables e below s _ _ _ (T183.setTop (mkF m 153 #[.val (.int x0_0), .val (.ref b1), .val (.ref b136), .val (.int (10 : Int32))] [(.int (10 : Int32)), (.ref b1)]))
    have F387 : Arv Z h143 b1 k1 (.object "com/example/idlect/idlect/core/Symbol$Container$Kind") (12 : Int32) [(.ref w_FILE), (.ref w_MODULE), (.ref w_INTERFACE), (.ref w_VALUE_TYPE), (.ref w_STRUCT), (.ref w_UNION), (.ref w_EXCEPTION), (.ref w_OPERATION), (.ref w_FACTORY), (.ref w_COMPONENT), (.ref w_COMPONENT_INTERFACE), (.ref w_IDS)] .null := (((V102.ext E136).other W139 ne_b1_b136).other W143 ne_b1_b136)
    have F388 : Arv Z h155 b1 k1 (.object "com/example/idlect/idlect/core/Symbol$Container$Kind") (12 : Int32) [(.ref w_FILE), (.ref w_MODULE), (.ref w_INTERFACE), (.ref w_VALUE_TYPE), (.ref w_STRUCT), (.ref w_UNION), (.ref w_EXCEPTION), (.ref w_OPERATION), (.ref w_FACTORY), (.ref w_COMPONENT), (.ref w_COMPONENT_INTERFACE), (.ref w_IDS)] .null := (((F387.other W147 ne_b1_b136).other W151 ne_b1_b136).other W155 ne_b1_b136)
    have F389 : Arv Z h167 b1 k1 (.object "com/example/idlect/idlect/core/Symbol$Container$Kind") (12 : Int32) [(.ref w_FILE), (.ref w_MODULE), (.ref w_INTERFACE), (.ref w_VALUE_TYPE), (.ref w_STRUCT), (.ref w_UNION), (.ref w_EXCEPTION), (.ref w_OPERATION), (.ref w_FACTORY), (.ref w_COMPONENT), (.ref w_COMPONENT_INTERFACE), (.ref w_IDS)] .null := (((F388.other W159 ne_b1_b136).other W163 ne_b1_b136).other W167 ne_b1_b136)
    have F390 : Arv Z h179 b1 k1 (.object "com/example/idlect/idlect/core/Symbol$Container$Kind") (12 : Int32) [(.ref w_FILE), (.ref w_MODULE), (.ref w_INTERFACE), (.ref w_VALUE_TYPE), (.ref w_STRUCT), (.ref w_UNION), (.ref w_EXCEPTION), (.ref w_OPERATION), (.ref w_FACTORY), (.ref w_COMPONENT), (.ref w_COMPONENT_INTERFACE), (.ref w_IDS)] .null := (((F389.other W171 ne_b1_b136).other W175 ne_b1_b136).other W179 ne_b1_b136)
    have F391 : Arv Z h183 b1 k1 (.object "com/example/idlect/idlect/core/Symbol$Container$Kind") (12 : Int32) [(.ref w_FILE), (.ref w_MODULE), (.ref w_INTERFACE), (.ref w_VALUE_TYPE), (.ref w_STRUCT), (.ref w_UNION), (.ref w_EXCEPTION), (.ref w_OPERATION), (.ref w_FACTORY), (.ref w_COMPONENT), (.ref w_COMPONENT_INTERFACE), (.ref w_IDS)] .null := (F390.other W183 ne_b1_b136)
    obtain ⟨cl392, Ar392, q392, S392, N392, H392, G392⟩ := id F391
    have hin392 : ¬ ((10 : Int32) < 0 ∨ cl392.slots.size ≤ ((10 : Int32)).toNatClampNeg) := inb_of S392 ⟨by decide, by decide⟩
    have hat392 : cl392.slots[((10 : Int32)).toNatClampNeg]? = some (.ref w_COMPONENT_INTERFACE) := H392.at hin392 rfl
    refine own_step (fun t k => X183.aaload hx (j := (10 : Int32)) (v := (.ref w_COMPONENT_INTERFACE)) (by rw [e183]; exact Ar392.1) (State.isArrayOf_alike hZ.alike Ar392.2.1) rfl Ar392.2.2 hin392 hat392 (g := (mkF m 153 #[.val (.int x0_0), .val (.ref b1), .val (.ref b136), .val (.int (10 : Int32))] [(.int (10 : Int32)), (.ref b1)])) rfl rfl (hb hby at_153) _ k) ?_
    show own_Ends p.tables e below s _ _ _ (T183.setTop (mkF m 154 #[.val (.int x0_0), .val (.ref b1), .val (.ref b136), .val (.int (10 : Int32))] [(.ref w_COMPONENT_INTERFACE)]))
    have O393 : Old Z n0 h143 := (((O105.ext E136).wr W139 g_b136).wr W143 g_b136)
    have O394 : Old Z n0 h155 := (((O393.wr W147 g_b136).wr W151 g_b136).wr W155 g_b136)
    have O395 : Old Z n0 h167 := (((O394.wr W159 g_b136).wr W163 g_b136).wr W167 g_b136)
    have O396 : Old Z n0 h179 := (((O395.wr W171 g_b136).wr W175 g_b136).wr W179 g_b136)
    have O397 : Old Z n0 h183 := (O396.wr W183 g_b136)
    have F399 : Exa Z h143 w_COMPONENT_INTERFACE "com/example/idlect/idlect/core/Symbol$Container$Kind" := (((F134.ext E136).wr W139).wr W143)
    have F400 : Exa Z h155 w_COMPONENT_INTERFACE "com/example/idlect/idlect/core/Symbol$Container$Kind" := (((F399.wr W147).wr W151).wr W155)
    have F401 : Exa Z h167 w_COMPONENT_INTERFACE "com/example/idlect/idlect/core/Symbol$Container$Kind" := (((F400.wr W159).wr W163).wr W167)
    have F402 : Exa Z h179 w_COMPONENT_INTERFACE "com/example/idlect/idlect/core/Symbol$Container$Kind" := (((F401.wr W171).wr W175).wr W179)
    have F403 : Exa Z h183 w_COMPONENT_INTERFACE "com/example/idlect/idlect/core/Symbol$Container$Kind" := (F402.wr W183)
    obtain ⟨cq398, kq398, q398a, q398b, q398c⟩ := isOf hZ e183 F403
    obtain ⟨_, _, ⟨T398, L398, k398, n398⟩, -, X398, ⟨Lc398, hQ398, l398, y398, z398⟩, st398⟩ := X183.virtualBack hx (y := (⟨"com/example/idlect/idlect/core/Symbol$Container$Kind", "isType", "()Z"⟩ : MethodName)) (z := (⟨"com/example/idlect/idlect/core/Symbol$Container$Kind", "isType", "()Z"⟩ : MethodName)) hown (mvT hZ (hw _ (List.mem_of_getElem? (i := 30) rfl))) (mvT hZ (hw _ (List.mem_of_getElem? (i := 31) rfl))) (notFace_of_selects (args := #[]) (mvT hZ (hw _ (List.mem_of_getElem? (i := 33) rfl)))) (mvT hZ (hw _ (List.mem_of_getElem? (i := 33) rfl))) (mvT hZ (hw _ (List.mem_of_getElem? (i := 32) rfl))) (by decide) (backOf (W := 0) (rm1 l Z a0 hw [] w_COMPONENT_INTERFACE w_INTERFACE w_VALUE_TYPE w_STRUCT w_UNION h183 n0 O397 S_INTERFACE S_VALUE_TYPE S_STRUCT S_UNION) hZ (hw _ (List.mem_of_getElem? (i := 34) rfl)) (hw _ (List.mem_of_getElem? (i := 3) rfl)) (by decide) (by decide)) q398a q398c (g := (mkF m 154 #[.val (.int x0_0), .val (.ref b1), .val (.ref b136), .val (.int (10 : Int32))] [(.ref w_COMPONENT_INTERFACE)])) rfl (by rw [hml]; rfl) (Steps.refl _) (argsL := []) (rest := []) (lenOf pd_0 rfl) rfl (by show 2 * 0 + _ ≤ _; exact Nat.le_of_eq rfl) (hb hby at_154) (fun _ _ => ⟨rfl, e183, (by decide : 2 + 0 ≤ _), (by decide : 24 + 0 ≤ _)⟩)
    dsimp only [Pt.U, Pt.locs, Pt.cells, Pt.slots] at X398 l398 y398 z398 st398 hQ398
    subst y398 z398
    obtain ⟨rfl, N398q, e398⟩ := hQ398
    refine own_step (fun t k => st398.trans k) ?_
    have N404 : Fr n0 L398 := by rw [l398]; exact Fr.app N185 N398q
    show own_Ends p.tables e below s _ _ _ (T398.setTop (mkF m 157 #[.val (.int x0_0), .val (.ref b1), .val (.ref b136), .val (.int (10 : Int32))] [(.int (own_r1 w_COMPONENT_INTERFACE w_INTERFACE w_VALUE_TYPE w_STRUCT w_UNION))]))
    refine own_step (fun t k => XS.aloadN X398.here hx rfl (hb hby at_157) rfl rfl k) ?_
    show own_Ends p.tables e below s _ _ _ (T398.setTop (mkF m 158 #[.val (.int x0_0), .val (.ref b1), .val (.ref b136), .val (.int (10 : Int32))] [(.ref b136), (.int (own_r1 w_COMPONENT_INTERFACE w_INTERFACE w_VALUE_TYPE w_STRUCT w_UNION))]))
    refine own_step (fun t k => XS.iloadN X398.here hx rfl (hb hby at_158) rfl k) ?_
    show own_Ends p.tables e below s _ _ _ (T398.setTop (mkF m 159 #[.val (.int x0_0), .val (.ref b1), .val (.ref b136), .val (.int (10 : Int32))] [(.int (10 : Int32)), (.ref b136), (.int (own_r1 w_COMPONENT_INTERFACE w_INTERFACE w_VALUE_TYPE w_STRUCT w_UNION))]))
    obtain ⟨cl405, Ar405, q405, S405, N405, H405, G405⟩ := id V183
    have hin405 : ¬ ((10 : Int32) < 0 ∨ cl405.slots.size ≤ ((10 : Int32)).toNatClampNeg) := inb_of S405 ⟨by decide, by decide⟩
    have hat405 : cl405.slots[((10 : Int32)).toNatClampNeg]? = some (.int (0 : Int32)) := H405.at hin405 rfl
    refine own_step (fun t k => X398.baloadBooleans hx (j := (10 : Int32)) (v := (.int (0 : Int32))) (by rw [e398]; exact Ar405.1) (State.isArrayOf_alike hZ.alike Ar405.2.1) Ar405.2.2 hin405 hat405 (g := (mkF m 159 #[.val (.int x0_0), .val (.ref b1), .val (.ref b136), .val (.int (10 : Int32))] [(.int (10 : Int32)), (.ref b136), (.int (own_r1 w_COMPONENT_INTERFACE w_INTERFACE w_VALUE_TYPE w_STRUCT w_UNION))])) rfl rfl (hb hby at_159) _ k) ?_
    show own_Ends p.tables e below s _ _ _ (T398.setTop (mkF m 160 #[.val (.int x0_0), .val (.ref b1), .val (.ref b136), .val (.int (10 : Int32))] [(.int (0 : Int32)), (.int (own_r1 w_COMPONENT_INTERFACE w_INTERFACE w_VALUE_TYPE w_STRUCT w_UNION))]))
    by_cases hc160_406 : (own_r1 w_COMPONENT_INTERFACE w_INTERFACE w_VALUE_TYPE w_STRUCT w_UNION) = (0 : Int32)
    · skip
      refine own_step (fun t k => XS.icmpNo X398.here hx rfl (hb hby at_160) rfl (teq hc160_406).2 k) ?_
      show own_Ends p.tables e below s _ _ _ (T398.setTop (mkF m 163 #[.val (.int x0_0), .val (.ref b1), .val (.ref b136), .val (.int (10 : Int32))] []))
      refine own_step (fun t k => XS.iconst X398.here hx rfl (hb hby at_163) k) ?_
      show own_Ends p.tables e below s _ _ _ (T398.setTop (mkF m 164 #[.val (.int x0_0), .val (.ref b1), .val (.ref b136), .val (.int (10 : Int32))] [(.int (1 : Int32))]))
      refine own_step (fun t k => XS.goto X398.here hx rfl (pc0 := 164) (pc' := 168) rfl (hb hby at_164) (by decide) (by decide) k) ?_
      show own_Ends p.tables e below s _ _ _ (T398.setTop (mkF m 168 #[.val (.int x0_0), .val (.ref b1), .val (.ref b136), .val (.int (10 : Int32))] [(.int (1 : Int32))]))
      exact own_retN X398 hx (t := .boolean) Bd.returns (by simp) (hb hby at_168) hnl (by rw [e398]; exact ⟨rfl, N404⟩) (by decide) (by decide)
    · skip
      refine own_step (fun t k => XS.icmpYes X398.here hx rfl (pc0 := 160) (pc' := 167) rfl (hb hby at_160) rfl (feq hc160_406).2 (by decide) (by decide) k) ?_
      show own_Ends p.tables e below s _ _ _ (T398.setTop (mkF m 167 #[.val (.int x0_0), .val (.ref b1), .val (.ref b136), .val (.int (10 : Int32))] []))
      refine own_step (fun t k => XS.iconst X398.here hx rfl (hb hby at_167) k) ?_
      show own_Ends p.tables e below s _ _ _ (T398.setTop (mkF m 168 #[.val (.int x0_0), .val (.ref b1), .val (.ref b136), .val (.int (10 : Int32))] [(.int (0 : Int32))]))
      exfalso
      apply hc160_406
      simp [own_r1, ne_w_FILE_w_INTERFACE, ne_w_FILE_w_VALUE_TYPE, ne_w_FILE_w_STRUCT, ne_w_FILE_w_UNION, ne_w_MODULE_w_INTERFACE, ne_w_MODULE_w_VALUE_TYPE, ne_w_MODULE_w_STRUCT, ne_w_MODULE_w_UNION, ne_w_INTERFACE_w_VALUE_TYPE, ne_w_INTERFACE_w_STRUCT, ne_w_INTERFACE_w_UNION, ne_w_VALUE_TYPE_w_STRUCT, ne_w_VALUE_TYPE_w_UNION, ne_w_STRUCT_w_UNION, ne_w_EXCEPTION_w_INTERFACE, ne_w_EXCEPTION_w_VALUE_TYPE, ne_w_EXCEPTION_w_STRUCT, ne_w_EXCEPTION_w_UNION, ne_w_OPERATION_w_INTERFACE, ne_w_OPERATION_w_VALUE_TYPE, ne_w_OPERATION_w_STRUCT, ne_w_OPERATION_w_UNION, ne_w_FACTORY_w_INTERFACE, ne_w_FACTORY_w_VALUE_TYPE, ne_w_FACTORY_w_STRUCT, ne_w_FACTORY_w_UNION, ne_w_COMPONENT_w_INTERFACE, ne_w_COMPONENT_w_VALUE_TYPE, ne_w_COMPONENT_w_STRUCT, ne_w_COMPONENT_w_UNION, ne_w_COMPONENT_INTERFACE_w_INTERFACE, ne_w_COMPONENT_INTERFACE_w_VALUE_TYPE, ne_w_COMPONENT_INTERFACE_w_STRUCT, ne_w_COMPONENT_INTERFACE_w_UNION, ne_w_IDS_w_INTERFACE, ne_w_IDS_w_VALUE_TYPE, ne_w_IDS_w_STRUCT, ne_w_IDS_w_UNION, Ne.symm ne_w_INTERFACE_w_VALUE_TYPE, Ne.symm ne_w_INTERFACE_w_STRUCT, Ne.symm ne_w_INTERFACE_w_UNION, Ne.symm ne_w_VALUE_TYPE_w_STRUCT, Ne.symm ne_w_VALUE_TYPE_w_UNION, Ne.symm ne_w_STRUCT_w_UNION]
  · subst hk186
    show own_Ends p.tables e below s _ _ _ (T183.setTop (mkF m 151 #[.val (.int x0_0), .val (.ref b1), .val (.ref b136), .val (.int (11 : Int32))] []))
    refine own_step (fun t k => XS.aloadN X183.here hx rfl (hb hby at_151) rfl rfl k) ?_
    show own_Ends p.tables e below s _ _ _ (T183.setTop (mkF m 152 #[.val (.int x0_0), .val (.ref b1), .val (.ref b136), .val (.int (11 : Int32))] [(.ref b1)]))
    refine own_step (fun t k => XS.iloadN X183.here hx rfl (hb hby at_152) rfl k) ?_
    show own_Ends p.tables e below s _ _ _ (T183.setTop (mkF m 153 #[.val (.int x0_0), .val (.ref b1), .val (.ref b136), .val (.int (11 : Int32))] [(.int (11 : Int32)), (.ref b1)]))
    have F407 : Arv Z h143 b1 k1 (.object "com/example/idlect/idlect/core/Symbol$Container$Kind") (12 : Int32) [(.ref w_FILE), (.ref w_MODULE), (.ref w_INTERFACE), (.ref w_VALUE_TYPE), (.ref w_STRUCT), (.ref w_UNION), (.ref w_EXCEPTION), (.ref w_OPERATION), (.ref w_FACTORY), (.ref w_COMPONENT), (.ref w_COMPONENT_INTERFACE), (.ref w_IDS)] .null := (((V102.ext E136).other W139 ne_b1_b136).other W143 ne_b1_b136)
    have F408 : Arv Z h155 b1 k1 (.object "com/example/idlect/idlect/core/Symbol$Container$Kind") (12 : Int32) [(.ref w_FILE), (.ref w_MODULE), (.ref w_INTERFACE), (.ref w_VALUE_TYPE), (.ref w_STRUCT), (.ref w_UNION), (.ref w_EXCEPTION), (.ref w_OPERATION), (.ref w_FACTORY), (.ref w_COMPONENT), (.ref w_COMPONENT_INTERFACE), (.ref w_IDS)] .null := (((F407.other W147 ne_b1_b136).other W151 ne_b1_b136).other W155 ne_b1_b136)
    have F409 : Arv Z h167 b1 k1 (.object "com/example/idlect/idlect/core/Symbol$Container$Kind") (12 : Int32) [(.ref w_FILE), (.ref w_MODULE), (.ref w_INTERFACE), (.ref w_VALUE_TYPE), (.ref w_STRUCT), (.ref w_UNION), (.ref w_EXCEPTION), (.ref w_OPERATION), (.ref w_FACTORY), (.ref w_COMPONENT), (.ref w_COMPONENT_INTERFACE), (.ref w_IDS)] .null := (((F408.other W159 ne_b1_b136).other W163 ne_b1_b136).other W167 ne_b1_b136)
    have F410 : Arv Z h179 b1 k1 (.object "com/example/idlect/idlect/core/Symbol$Container$Kind") (12 : Int32) [(.ref w_FILE), (.ref w_MODULE), (.ref w_INTERFACE), (.ref w_VALUE_TYPE), (.ref w_STRUCT), (.ref w_UNION), (.ref w_EXCEPTION), (.ref w_OPERATION), (.ref w_FACTORY), (.ref w_COMPONENT), (.ref w_COMPONENT_INTERFACE), (.ref w_IDS)] .null := (((F409.other W171 ne_b1_b136).other W175 ne_b1_b136).other W179 ne_b1_b136)
    have F411 : Arv Z h183 b1 k1 (.object "com/example/idlect/idlect/core/Symbol$Container$Kind") (12 : Int32) [(.ref w_FILE), (.ref w_MODULE), (.ref w_INTERFACE), (.ref w_VALUE_TYPE), (.ref w_STRUCT), (.ref w_UNION), (.ref w_EXCEPTION), (.ref w_OPERATION), (.ref w_FACTORY), (.ref w_COMPONENT), (.ref w_COMPONENT_INTERFACE), (.ref w_IDS)] .null := (F410.other W183 ne_b1_b136)
    obtain ⟨cl412, Ar412, q412, S412, N412, H412, G412⟩ := id F411
    have hin412 : ¬ ((11 : Int32) < 0 ∨ cl412.slots.size ≤ ((11 : Int32)).toNatClampNeg) := inb_of S412 ⟨by decide, by decide⟩
    have hat412 : cl412.slots[((11 : Int32)).toNatClampNeg]? = some (.ref w_IDS) := H412.at hin412 rfl
    refine own_step (fun t k => X183.aaload hx (j := (11 : Int32)) (v := (.ref w_IDS)) (by rw [e183]; exact Ar412.1) (State.isArrayOf_alike hZ.alike Ar412.2.1) rfl Ar412.2.2 hin412 hat412 (g := (mkF m 153 #[.val (.int x0_0), .val (.ref b1), .val (.ref b136), .val (.int (11 : Int32))] [(.int (11 : Int32)), (.ref b1)])) rfl rfl (hb hby at_153) _ k) ?_
    show own_Ends p.tables e below s _ _ _ (T183.setTop (mkF m 154 #[.val (.int x0_0), .val (.ref b1), .val (.ref b136), .val (.int (11 : Int32))] [(.ref w_IDS)]))
    have O413 : Old Z n0 h143 := (((O105.ext E136).wr W139 g_b136).wr W143 g_b136)
    have O414 : Old Z n0 h155 := (((O413.wr W147 g_b136).wr W151 g_b136).wr W155 g_b136)
    have O415 : Old Z n0 h167 := (((O414.wr W159 g_b136).wr W163 g_b136).wr W167 g_b136)
    have O416 : Old Z n0 h179 := (((O415.wr W171 g_b136).wr W175 g_b136).wr W179 g_b136)
    have O417 : Old Z n0 h183 := (O416.wr W183 g_b136)
    have F419 : Exa Z h143 w_IDS "com/example/idlect/idlect/core/Symbol$Container$Kind" := (((F135.ext E136).wr W139).wr W143)
    have F420 : Exa Z h155 w_IDS "com/example/idlect/idlect/core/Symbol$Container$Kind" := (((F419.wr W147).wr W151).wr W155)
    have F421 : Exa Z h167 w_IDS "com/example/idlect/idlect/core/Symbol$Container$Kind" := (((F420.wr W159).wr W163).wr W167)
    have F422 : Exa Z h179 w_IDS "com/example/idlect/idlect/core/Symbol$Container$Kind" := (((F421.wr W171).wr W175).wr W179)
    have F423 : Exa Z h183 w_IDS "com/example/idlect/idlect/core/Symbol$Container$Kind" := (F422.wr W183)
    obtain ⟨cq418, kq418, q418a, q418b, q418c⟩ := isOf hZ e183 F423
    obtain ⟨_, _, ⟨T418, L418, k418, n418⟩, -, X418, ⟨Lc418, hQ418, l418, y418, z418⟩, st418⟩ := X183.virtualBack hx (y := (⟨"com/example/idlect/idlect/core/Symbol$Container$Kind", "isType", "()Z"⟩ : MethodName)) (z := (⟨"com/example/idlect/idlect/core/Symbol$Container$Kind", "isType", "()Z"⟩ : MethodName)) hown (mvT hZ (hw _ (List.mem_of_getElem? (i := 30) rfl))) (mvT hZ (hw _ (List.mem_of_getElem? (i := 31) rfl))) (notFace_of_selects (args := #[]) (mvT hZ (hw _ (List.mem_of_getElem? (i := 33) rfl)))) (mvT hZ (hw _ (List.mem_of_getElem? (i := 33) rfl))) (mvT hZ (hw _ (List.mem_of_getElem? (i := 32) rfl))) (by decide) (backOf (W := 0) (rm1 l Z a0 hw [] w_IDS w_INTERFACE w_VALUE_TYPE w_STRUCT w_UNION h183 n0 O417 S_INTERFACE S_VALUE_TYPE S_STRUCT S_UNION) hZ (hw _ (List.mem_of_getElem? (i := 34) rfl)) (hw _ (List.mem_of_getElem? (i := 3) rfl)) (by decide) (by decide)) q418a q418c (g := (mkF m 154 #[.val (.int x0_0), .val (.ref b1), .val (.ref b136), .val (.int (11 : Int32))] [(.ref w_IDS)])) rfl (by rw [hml]; rfl) (Steps.refl _) (argsL := []) (rest := []) (lenOf pd_0 rfl) rfl (by show 2 * 0 + _ ≤ _; exact Nat.le_of_eq rfl) (hb hby at_154) (fun _ _ => ⟨rfl, e183, (by decide : 2 + 0 ≤ _), (by decide : 24 + 0 ≤ _)⟩)
    dsimp only [Pt.U, Pt.locs, Pt.cells, Pt.slots] at X418 l418 y418 z418 st418 hQ418
    subst y418 z418
    obtain ⟨rfl, N418q, e418⟩ := hQ418
    refine own_step (fun t k => st418.trans k) ?_
    have N424 : Fr n0 L418 := by rw [l418]; exact Fr.app N185 N418q
    show own_Ends p.tables e below s _ _ _ (T418.setTop (mkF m 157 #[.val (.int x0_0), .val (.ref b1), .val (.ref b136), .val (.int (11 : Int32))] [(.int (own_r1 w_IDS w_INTERFACE w_VALUE_TYPE w_STRUCT w_UNION))]))
    refine own_step (fun t k => XS.aloadN X418.here hx rfl (hb hby at_157) rfl rfl k) ?_
    show own_Ends p.tables e below s _ _ _ (T418.setTop (mkF m 158 #[.val (.int x0_0), .val (.ref b1), .val (.ref b136), .val (.int (11 : Int32))] [(.ref b136), (.int (own_r1 w_IDS w_INTERFACE w_VALUE_TYPE w_STRUCT w_UNION))]))
    refine own_step (fun t k => XS.iloadN X418.here hx rfl (hb hby at_158) rfl k) ?_
    show own_Ends p.tables e below s _ _ _ (T418.setTop (mkF m 159 #[.val (.int x0_0), .val (.ref b1), .val (.ref b136), .val (.int (11 : Int32))] [(.int (11 : Int32)), (.ref b136), (.int (own_r1 w_IDS w_INTERFACE w_VALUE_TYPE w_STRUCT w_UNION))]))
    obtain ⟨cl425, Ar425, q425, S425, N425, H425, G425⟩ := id V183
    have hin425 : ¬ ((11 : Int32) < 0 ∨ cl425.slots.size ≤ ((11 : Int32)).toNatClampNeg) := inb_of S425 ⟨by decide, by decide⟩
    have hat425 : cl425.slots[((11 : Int32)).toNatClampNeg]? = some (.int (0 : Int32)) := H425.at hin425 rfl
    refine own_step (fun t k => X418.baloadBooleans hx (j := (11 : Int32)) (v := (.int (0 : Int32))) (by rw [e418]; exact Ar425.1) (State.isArrayOf_alike hZ.alike Ar425.2.1) Ar425.2.2 hin425 hat425 (g := (mkF m 159 #[.val (.int x0_0), .val (.ref b1), .val (.ref b136), .val (.int (11 : Int32))] [(.int (11 : Int32)), (.ref b136), (.int (own_r1 w_IDS w_INTERFACE w_VALUE_TYPE w_STRUCT w_UNION))])) rfl rfl (hb hby at_159) _ k) ?_
    show own_Ends p.tables e below s _ _ _ (T418.setTop (mkF m 160 #[.val (.int x0_0), .val (.ref b1), .val (.ref b136), .val (.int (11 : Int32))] [(.int (0 : Int32)), (.int (own_r1 w_IDS w_INTERFACE w_VALUE_TYPE w_STRUCT w_UNION))]))
    by_cases hc160_426 : (own_r1 w_IDS w_INTERFACE w_VALUE_TYPE w_STRUCT w_UNION) = (0 : Int32)
    · skip
      refine own_step (fun t k => XS.icmpNo X418.here hx rfl (hb hby at_160) rfl (teq hc160_426).2 k) ?_
      show own_Ends p.tables e below s _ _ _ (T418.setTop (mkF m 163 #[.val (.int x0_0), .val (.ref b1), .val (.ref b136), .val (.int (11 : Int32))] []))
      refine own_step (fun t k => XS.iconst X418.here hx rfl (hb hby at_163) k) ?_
      show own_Ends p.tables e below s _ _ _ (T418.setTop (mkF m 164 #[.val (.int x0_0), .val (.ref b1), .val (.ref b136), .val (.int (11 : Int32))] [(.int (1 : Int32))]))
      refine own_step (fun t k => XS.goto X418.here hx rfl (pc0 := 164) (pc' := 168) rfl (hb hby at_164) (by decide) (by decide) k) ?_
      show own_Ends p.tables e below s _ _ _ (T418.setTop (mkF m 168 #[.val (.int x0_0), .val (.ref b1), .val (.ref b136), .val (.int (11 : Int32))] [(.int (1 : Int32))]))
      exact own_retN X418 hx (t := .boolean) Bd.returns (by simp) (hb hby at_168) hnl (by rw [e418]; exact ⟨rfl, N424⟩) (by decide) (by decide)
    · skip
      refine own_step (fun t k => XS.icmpYes X418.here hx rfl (pc0 := 160) (pc' := 167) rfl (hb hby at_160) rfl (feq hc160_426).2 (by decide) (by decide) k) ?_
      show own_Ends p.tables e below s _ _ _ (T418.setTop (mkF m 167 #[.val (.int x0_0), .val (.ref b1), .val (.ref b136), .val (.int (11 : Int32))] []))
      refine own_step (fun t k => XS.iconst X418.here hx rfl (hb hby at_167) k) ?_
      show own_Ends p.tables e below s _ _ _ (T418.setTop (mkF m 168 #[.val (.int x0_0), .val (.ref b1), .val (.ref b136), .val (.int (11 : Int32))] [(.int (0 : Int32))]))
      exfalso
      apply hc160_426
      simp [own_r1, ne_w_FILE_w_INTERFACE, ne_w_FILE_w_VALUE_TYPE, ne_w_FILE_w_STRUCT, ne_w_FILE_w_UNION, ne_w_MODULE_w_INTERFACE, ne_w_MODULE_w_VALUE_TYPE, ne_w_MODULE_w_STRUCT, ne_w_MODULE_w_UNION, ne_w_INTERFACE_w_VALUE_TYPE, ne_w_INTERFACE_w_STRUCT, ne_w_INTERFACE_w_UNION, ne_w_VALUE_TYPE_w_STRUCT, ne_w_VALUE_TYPE_w_UNION, ne_w_STRUCT_w_UNION, ne_w_EXCEPTION_w_INTERFACE, ne_w_EXCEPTION_w_VALUE_TYPE, ne_w_EXCEPTION_w_STRUCT, ne_w_EXCEPTION_w_UNION, ne_w_OPERATION_w_INTERFACE, ne_w_OPERATION_w_VALUE_TYPE, ne_w_OPERATION_w_STRUCT, ne_w_OPERATION_w_UNION, ne_w_FACTORY_w_INTERFACE, ne_w_FACTORY_w_VALUE_TYPE, ne_w_FACTORY_w_STRUCT, ne_w_FACTORY_w_UNION, ne_w_COMPONENT_w_INTERFACE, ne_w_COMPONENT_w_VALUE_TYPE, ne_w_COMPONENT_w_STRUCT, ne_w_COMPONENT_w_UNION, ne_w_COMPONENT_INTERFACE_w_INTERFACE, ne_w_COMPONENT_INTERFACE_w_VALUE_TYPE, ne_w_COMPONENT_INTERFACE_w_STRUCT, ne_w_COMPONENT_INTERFACE_w_UNION, ne_w_IDS_w_INTERFACE, ne_w_IDS_w_VALUE_TYPE, ne_w_IDS_w_STRUCT, ne_w_IDS_w_UNION, Ne.symm ne_w_INTERFACE_w_VALUE_TYPE, Ne.symm ne_w_INTERFACE_w_STRUCT, Ne.symm ne_w_INTERFACE_w_UNION, Ne.symm ne_w_VALUE_TYPE_w_STRUCT, Ne.symm ne_w_VALUE_TYPE_w_UNION, Ne.symm ne_w_STRUCT_w_UNION]
set_option maxRecDepth 65536 in
set_option maxHeartbeats 40000000 in
theorem comes_1 {Post : Tables → Env → Array Value → State → Outcome → State → Prop} (hpost : ∀ tb e args s v u, (limb_1_1.after args s (.returned v) u = true ∧ limb_1_2.after args s (.returned v) u = true ∧ True) → FrameEnd s (.returned v) u (Jvm.fieldLocs frame_1_writes args s ++ Jvm.arrayLocs frame_1_arrays args s ++ Jvm.staticLocs frame_1_statics s) 16 128 → Post tb e args s (.returned v) u) :
    ArmFor flags0 classFile x code maxLocals ret World_1 tables_1 room_1 Calls_1 rest_1 Pre_1 Post := by
  intro l hfl _ _ p e ha hc hk s m args below hf hA hF happ hP
  obtain ⟨hcalls, hrest, hpre⟩ := hP
  obtain ⟨-, -, -, hnamed, -, -, -, hat⟩ := (Spec.applies_iff hf).mp happ
  obtain ⟨hg, hn⟩ := and_e (Cond.before_iff.mp (show (Jvm.Cond.and given_1 narrow_1).before args s = true from hpre))
  obtain ⟨hh1a, hh1b⟩ := and_e hg
  obtain ⟨hh2a, hh2b⟩ := and_e hn
  obtain ⟨hh3a, hh3b⟩ := and_e hh2b
  obtain ⟨hh4a, hh4b⟩ := and_e hh3b
  obtain ⟨hh5a, hh5b⟩ := and_e hh4b
  obtain ⟨hh6a, hh6b⟩ := and_e hh5b
  obtain ⟨hh7a, hh7b⟩ := and_e hh6b
  obtain ⟨hh8a, hh8b⟩ := and_e hh7b
  obtain ⟨hh9a, hh9b⟩ := and_e hh8b
  obtain ⟨hh10a, hh10b⟩ := and_e hh9b
  obtain ⟨hh11a, hh11b⟩ := and_e hh10b
  obtain ⟨hh12a, hh12b⟩ := and_e hh11b
  obtain ⟨hh13a, hh13b⟩ := and_e hh12b
  obtain ⟨hh14a, hh14b⟩ := and_e hh13b
  obtain ⟨hh15a, hh15b⟩ := and_e hh14b
  obtain ⟨hh16a, hh16b⟩ := and_e hh15b
  obtain ⟨hh17a, hh17b⟩ := and_e hh16b
  obtain ⟨hh18a, hh18b⟩ := and_e hh17b
  obtain ⟨hh19a, hh19b⟩ := and_e hh18b
  obtain ⟨hh20a, hh20b⟩ := and_e hh19b
  obtain ⟨hh21a, hh21b⟩ := and_e hh20b
  obtain ⟨hh22a, hh22b⟩ := and_e hh21b
  obtain ⟨hh23a, hh23b⟩ := and_e hh22b
  obtain ⟨hh24a, hh24b⟩ := and_e hh23b
  obtain ⟨w0, rfl⟩ : ∃ w0 : Value, args = #[w0] := by
    have hs : args.size = 1 := by simpa [Cond.value, given_1] using hh1a
    obtain ⟨L⟩ := args
    match L, hs with
    | [w0], _ => exact ⟨w0, rfl⟩
  have hw := fun d (hd : d ∈ tables_1) => atoms_spec (ws := Jvm.Cond.code x code maxLocals ret :: tables_1) hat d (List.mem_cons_of_mem _ hd)
  have hfit : Fit s := fun {y c} hc i hi => by
    obtain ⟨ha, rfl⟩ := Array.getElem?_eq_some_iff.mp hc
    have q := List.all_eq_true.mp ((Array.all_eq_true_iff_forall_mem.mp hF) _ (Array.getElem_mem ha)) i (List.mem_range.mpr hi)
    simpa [Array.getElem?_eq_getElem hi] using q
  obtain ⟨i0, ei0⟩ := is_v hh1b
  obtain rfl : w0 = (.int i0) := Option.some.inj ei0
  obtain ⟨w_FILE, ev_FILE⟩ := exa_v hh2a
  have S_FILE : Sta s s.heap "com/example/idlect/idlect/core/Symbol$Container$Kind" "FILE" "Lcom/example/idlect/idlect/core/Symbol$Container$Kind;" (.ref w_FILE) := Sta.start ev_FILE (Or.inr ⟨(hw _ (List.mem_of_getElem? (i := 3) rfl)), (hw _ (List.mem_of_getElem? (i := 4) rfl))⟩)
  have E_w_FILE : Exa s s.heap w_FILE "com/example/idlect/idlect/core/Symbol$Container$Kind" := Exa.start ev_FILE hh2a
  obtain ⟨w_MODULE, ev_MODULE⟩ := exa_v hh3a
  have S_MODULE : Sta s s.heap "com/example/idlect/idlect/core/Symbol$Container$Kind" "MODULE" "Lcom/example/idlect/idlect/core/Symbol$Container$Kind;" (.ref w_MODULE) := Sta.start ev_MODULE (Or.inr ⟨(hw _ (List.mem_of_getElem? (i := 3) rfl)), (hw _ (List.mem_of_getElem? (i := 7) rfl))⟩)
  have E_w_MODULE : Exa s s.heap w_MODULE "com/example/idlect/idlect/core/Symbol$Container$Kind" := Exa.start ev_MODULE hh3a
  obtain ⟨w_INTERFACE, ev_INTERFACE⟩ := exa_v hh4a
  have S_INTERFACE : Sta s s.heap "com/example/idlect/idlect/core/Symbol$Container$Kind" "INTERFACE" "Lcom/example/idlect/idlect/core/Symbol$Container$Kind;" (.ref w_INTERFACE) := Sta.start ev_INTERFACE (Or.inr ⟨(hw _ (List.mem_of_getElem? (i := 3) rfl)), (hw _ (List.mem_of_getElem? (i := 9) rfl))⟩)
  have E_w_INTERFACE : Exa s s.heap w_INTERFACE "com/example/idlect/idlect/core/Symbol$Container$Kind" := Exa.start ev_INTERFACE hh4a
  obtain ⟨w_VALUE_TYPE, ev_VALUE_TYPE⟩ := exa_v hh5a
  have S_VALUE_TYPE : Sta s s.heap "com/example/idlect/idlect/core/Symbol$Container$Kind" "VALUE_TYPE" "Lcom/example/idlect/idlect/core/Symbol$Container$Kind;" (.ref w_VALUE_TYPE) := Sta.start ev_VALUE_TYPE (Or.inr ⟨(hw _ (List.mem_of_getElem? (i := 3) rfl)), (hw _ (List.mem_of_getElem? (i := 11) rfl))⟩)
  have E_w_VALUE_TYPE : Exa s s.heap w_VALUE_TYPE "com/example/idlect/idlect/core/Symbol$Container$Kind" := Exa.start ev_VALUE_TYPE hh5a
  obtain ⟨w_STRUCT, ev_STRUCT⟩ := exa_v hh6a
  have S_STRUCT : Sta s s.heap "com/example/idlect/idlect/core/Symbol$Container$Kind" "STRUCT" "Lcom/example/idlect/idlect/core/Symbol$Container$Kind;" (.ref w_STRUCT) := Sta.start ev_STRUCT (Or.inr ⟨(hw _ (List.mem_of_getElem? (i := 3) rfl)), (hw _ (List.mem_of_getElem? (i := 13) rfl))⟩)
  have E_w_STRUCT : Exa s s.heap w_STRUCT "com/example/idlect/idlect/core/Symbol$Container$Kind" := Exa.start ev_STRUCT hh6a
  obtain ⟨w_UNION, ev_UNION⟩ := exa_v hh7a
  have S_UNION : Sta s s.heap "com/example/idlect/idlect/core/Symbol$Container$Kind" "UNION" "Lcom/example/idlect/idlect/core/Symbol$Container$Kind;" (.ref w_UNION) := Sta.start ev_UNION (Or.inr ⟨(hw _ (List.mem_of_getElem? (i := 3) rfl)), (hw _ (List.mem_of_getElem? (i := 15) rfl))⟩)
  have E_w_UNION : Exa s s.heap w_UNION "com/example/idlect/idlect/core/Symbol$Container$Kind" := Exa.start ev_UNION hh7a
  obtain ⟨w_EXCEPTION, ev_EXCEPTION⟩ := exa_v hh8a
  have S_EXCEPTION : Sta s s.heap "com/example/idlect/idlect/core/Symbol$Container$Kind" "EXCEPTION" "Lcom/example/idlect/idlect/core/Symbol$Container$Kind;" (.ref w_EXCEPTION) := Sta.start ev_EXCEPTION (Or.inr ⟨(hw _ (List.mem_of_getElem? (i := 3) rfl)), (hw _ (List.mem_of_getElem? (i := 17) rfl))⟩)
  have E_w_EXCEPTION : Exa s s.heap w_EXCEPTION "com/example/idlect/idlect/core/Symbol$Container$Kind" := Exa.start ev_EXCEPTION hh8a
  obtain ⟨w_OPERATION, ev_OPERATION⟩ := exa_v hh9a
  have S_OPERATION : Sta s s.heap "com/example/idlect/idlect/core/Symbol$Container$Kind" "OPERATION" "Lcom/example/idlect/idlect/core/Symbol$Container$Kind;" (.ref w_OPERATION) := Sta.start ev_OPERATION (Or.inr ⟨(hw _ (List.mem_of_getElem? (i := 3) rfl)), (hw _ (List.mem_of_getElem? (i := 19) rfl))⟩)
  have E_w_OPERATION : Exa s s.heap w_OPERATION "com/example/idlect/idlect/core/Symbol$Container$Kind" := Exa.start ev_OPERATION hh9a
  obtain ⟨w_FACTORY, ev_FACTORY⟩ := exa_v hh10a
  have S_FACTORY : Sta s s.heap "com/example/idlect/idlect/core/Symbol$Container$Kind" "FACTORY" "Lcom/example/idlect/idlect/core/Symbol$Container$Kind;" (.ref w_FACTORY) := Sta.start ev_FACTORY (Or.inr ⟨(hw _ (List.mem_of_getElem? (i := 3) rfl)), (hw _ (List.mem_of_getElem? (i := 21) rfl))⟩)
  have E_w_FACTORY : Exa s s.heap w_FACTORY "com/example/idlect/idlect/core/Symbol$Container$Kind" := Exa.start ev_FACTORY hh10a
  obtain ⟨w_COMPONENT, ev_COMPONENT⟩ := exa_v hh11a
  have S_COMPONENT : Sta s s.heap "com/example/idlect/idlect/core/Symbol$Container$Kind" "COMPONENT" "Lcom/example/idlect/idlect/core/Symbol$Container$Kind;" (.ref w_COMPONENT) := Sta.start ev_COMPONENT (Or.inr ⟨(hw _ (List.mem_of_getElem? (i := 3) rfl)), (hw _ (List.mem_of_getElem? (i := 23) rfl))⟩)
  have E_w_COMPONENT : Exa s s.heap w_COMPONENT "com/example/idlect/idlect/core/Symbol$Container$Kind" := Exa.start ev_COMPONENT hh11a
  obtain ⟨w_COMPONENT_INTERFACE, ev_COMPONENT_INTERFACE⟩ := exa_v hh12a
  have S_COMPONENT_INTERFACE : Sta s s.heap "com/example/idlect/idlect/core/Symbol$Container$Kind" "COMPONENT_INTERFACE" "Lcom/example/idlect/idlect/core/Symbol$Container$Kind;" (.ref w_COMPONENT_INTERFACE) := Sta.start ev_COMPONENT_INTERFACE (Or.inr ⟨(hw _ (List.mem_of_getElem? (i := 3) rfl)), (hw _ (List.mem_of_getElem? (i := 25) rfl))⟩)
  have E_w_COMPONENT_INTERFACE : Exa s s.heap w_COMPONENT_INTERFACE "com/example/idlect/idlect/core/Symbol$Container$Kind" := Exa.start ev_COMPONENT_INTERFACE hh12a
  obtain ⟨w_IDS, ev_IDS⟩ := exa_v hh13a
  have S_IDS : Sta s s.heap "com/example/idlect/idlect/core/Symbol$Container$Kind" "IDS" "Lcom/example/idlect/idlect/core/Symbol$Container$Kind;" (.ref w_IDS) := Sta.start ev_IDS (Or.inr ⟨(hw _ (List.mem_of_getElem? (i := 3) rfl)), (hw _ (List.mem_of_getElem? (i := 27) rfl))⟩)
  have E_w_IDS : Exa s s.heap w_IDS "com/example/idlect/idlect/core/Symbol$Container$Kind" := Exa.start ev_IDS hh13a
  have F_ordinal_w_FILE : Fld s s.heap w_FILE "java/lang/Enum" "ordinal" "I" (.int (0 : Int32)) := own_fld ev_FILE hh14a
  have F_ordinal_w_INTERFACE : Fld s s.heap w_INTERFACE "java/lang/Enum" "ordinal" "I" (.int (2 : Int32)) := own_fld ev_INTERFACE hh15a
  have F_ordinal_w_VALUE_TYPE : Fld s s.heap w_VALUE_TYPE "java/lang/Enum" "ordinal" "I" (.int (3 : Int32)) := own_fld ev_VALUE_TYPE hh16a
  have F_ordinal_w_STRUCT : Fld s s.heap w_STRUCT "java/lang/Enum" "ordinal" "I" (.int (4 : Int32)) := own_fld ev_STRUCT hh17a
  have F_ordinal_w_UNION : Fld s s.heap w_UNION "java/lang/Enum" "ordinal" "I" (.int (5 : Int32)) := own_fld ev_UNION hh18a
  have F_ordinal_w_OPERATION : Fld s s.heap w_OPERATION "java/lang/Enum" "ordinal" "I" (.int (7 : Int32)) := own_fld ev_OPERATION hh19a
  have F_ordinal_w_IDS : Fld s s.heap w_IDS "java/lang/Enum" "ordinal" "I" (.int (11 : Int32)) := own_fld ev_IDS hh20a
  have F_ordinal_w_FACTORY : Fld s s.heap w_FACTORY "java/lang/Enum" "ordinal" "I" (.int (8 : Int32)) := own_fld ev_FACTORY hh21a
  have F_ordinal_w_MODULE : Fld s s.heap w_MODULE "java/lang/Enum" "ordinal" "I" (.int (1 : Int32)) := own_fld ev_MODULE hh22a
  have F_ordinal_w_COMPONENT_INTERFACE : Fld s s.heap w_COMPONENT_INTERFACE "java/lang/Enum" "ordinal" "I" (.int (10 : Int32)) := own_fld ev_COMPONENT_INTERFACE hh23a
  have F_ordinal_w_COMPONENT : Fld s s.heap w_COMPONENT "java/lang/Enum" "ordinal" "I" (.int (9 : Int32)) := own_fld ev_COMPONENT hh24a
  have F_ordinal_w_EXCEPTION : Fld s s.heap w_EXCEPTION "java/lang/Enum" "ordinal" "I" (.int (6 : Int32)) := own_fld ev_EXCEPTION hh24b
  obtain ⟨n, o, h1, h2, h3, _, L, rfl, ⟨rfl, N⟩, hq⟩ := rm0 l s _ hw tables_1 w_FILE w_MODULE w_INTERFACE w_VALUE_TYPE w_STRUCT w_UNION w_EXCEPTION w_OPERATION w_FACTORY w_COMPONENT w_COMPONENT_INTERFACE w_IDS i0 s.heap s.heap.size (Old.start s) (Fld.ne F_ordinal_w_FILE F_ordinal_w_INTERFACE (by decide)) (Fld.ne F_ordinal_w_FILE F_ordinal_w_VALUE_TYPE (by decide)) (Fld.ne F_ordinal_w_FILE F_ordinal_w_STRUCT (by decide)) (Fld.ne F_ordinal_w_FILE F_ordinal_w_UNION (by decide)) (Fld.ne F_ordinal_w_MODULE F_ordinal_w_INTERFACE (by decide)) (Fld.ne F_ordinal_w_MODULE F_ordinal_w_VALUE_TYPE (by decide)) (Fld.ne F_ordinal_w_MODULE F_ordinal_w_STRUCT (by decide)) (Fld.ne F_ordinal_w_MODULE F_ordinal_w_UNION (by decide)) (Fld.ne F_ordinal_w_INTERFACE F_ordinal_w_VALUE_TYPE (by decide)) (Fld.ne F_ordinal_w_INTERFACE F_ordinal_w_STRUCT (by decide)) (Fld.ne F_ordinal_w_INTERFACE F_ordinal_w_UNION (by decide)) (Fld.ne F_ordinal_w_VALUE_TYPE F_ordinal_w_STRUCT (by decide)) (Fld.ne F_ordinal_w_VALUE_TYPE F_ordinal_w_UNION (by decide)) (Fld.ne F_ordinal_w_STRUCT F_ordinal_w_UNION (by decide)) (Fld.ne F_ordinal_w_EXCEPTION F_ordinal_w_INTERFACE (by decide)) (Fld.ne F_ordinal_w_EXCEPTION F_ordinal_w_VALUE_TYPE (by decide)) (Fld.ne F_ordinal_w_EXCEPTION F_ordinal_w_STRUCT (by decide)) (Fld.ne F_ordinal_w_EXCEPTION F_ordinal_w_UNION (by decide)) (Fld.ne F_ordinal_w_OPERATION F_ordinal_w_INTERFACE (by decide)) (Fld.ne F_ordinal_w_OPERATION F_ordinal_w_VALUE_TYPE (by decide)) (Fld.ne F_ordinal_w_OPERATION F_ordinal_w_STRUCT (by decide)) (Fld.ne F_ordinal_w_OPERATION F_ordinal_w_UNION (by decide)) (Fld.ne F_ordinal_w_FACTORY F_ordinal_w_INTERFACE (by decide)) (Fld.ne F_ordinal_w_FACTORY F_ordinal_w_VALUE_TYPE (by decide)) (Fld.ne F_ordinal_w_FACTORY F_ordinal_w_STRUCT (by decide)) (Fld.ne F_ordinal_w_FACTORY F_ordinal_w_UNION (by decide)) (Fld.ne F_ordinal_w_COMPONENT F_ordinal_w_INTERFACE (by decide)) (Fld.ne F_ordinal_w_COMPONENT F_ordinal_w_VALUE_TYPE (by decide)) (Fld.ne F_ordinal_w_COMPONENT F_ordinal_w_STRUCT (by decide)) (Fld.ne F_ordinal_w_COMPONENT F_ordinal_w_UNION (by decide)) (Fld.ne F_ordinal_w_COMPONENT_INTERFACE F_ordinal_w_INTERFACE (by decide)) (Fld.ne F_ordinal_w_COMPONENT_INTERFACE F_ordinal_w_VALUE_TYPE (by decide)) (Fld.ne F_ordinal_w_COMPONENT_INTERFACE F_ordinal_w_STRUCT (by decide)) (Fld.ne F_ordinal_w_COMPONENT_INTERFACE F_ordinal_w_UNION (by decide)) (Fld.ne F_ordinal_w_IDS F_ordinal_w_INTERFACE (by decide)) (Fld.ne F_ordinal_w_IDS F_ordinal_w_VALUE_TYPE (by decide)) (Fld.ne F_ordinal_w_IDS F_ordinal_w_STRUCT (by decide)) (Fld.ne F_ordinal_w_IDS F_ordinal_w_UNION (by decide)) S_FILE E_w_FILE S_MODULE E_w_MODULE S_INTERFACE E_w_INTERFACE S_VALUE_TYPE E_w_VALUE_TYPE S_STRUCT E_w_STRUCT S_UNION E_w_UNION S_EXCEPTION E_w_EXCEPTION S_OPERATION E_w_OPERATION S_FACTORY E_w_FACTORY S_COMPONENT E_w_COMPONENT S_COMPONENT_INTERFACE E_w_COMPONENT_INTERFACE S_IDS E_w_IDS p e ha hc hk s m _ below hf ((Spec.applies_iff_loose hf).mp happ).1 ⟨rfl, State.Warmed39.refl s, rfl⟩ trivial
  refine ⟨n, _, h1, h2, h3, hpost _ _ _ _ _ _ ⟨Cond.after_iff.mpr rfl, Cond.after_iff.mpr (eq_i res_at (Term.int_eval (1)) rfl), trivial⟩ ⟨hq.1, hq.2.1, (hq.2.2.sift fun y hy => Or.inr (N y hy)).mono (by decide) (by decide)⟩⟩
theorem main_1_1 : Claimed_1_1 := comes_1 fun _ _ _ _ _ _ h hF => ⟨h.1, hF⟩
theorem main_1_2 : Claimed_1_2 := comes_1 fun _ _ _ _ _ _ h hF => ⟨h.2.1, hF⟩
end Jvm.Pilot.@@N@@
namespace Jvm.Pilot.@@N@@
open Jvm Jvm.ClassFile Sem Op Lib Jvm.Free Jvm.Stand Jvm.Pilot.@@N@@.Jvm.D
/-! MADE BY PROGRAM (witnessworld.py) out of the Statement's table words and the real class files: 15 classes; the members and pool entries that the words name. The judged class is class 1, her method 1. -/
namespace start1
open Jvm.ClassFile
def u (s : String) : CpInfo := .utf8 (stringToUtf16 s)
/-- a pool by its gaps: so many unusable entries, then the entry; so many at the end -/
def gap : Nat → List CpInfo → List CpInfo
  | 0, r => r
  | n + 1, r => .unusable :: gap n r
def poolList (es : List (Nat × CpInfo)) (last : Nat) : List CpInfo := es.foldr (fun e r => gap e.1 (e.2 :: r)) (gap last [])
def pool (es : List (Nat × CpInfo)) (last : Nat) : Array CpInfo := ⟨poolList es last⟩
def fileOf (pool : Array CpInfo) (this : Nat) (attrs : Array Attribute := #[]) (ms : Array MethodInfo := #[]) (fl : Nat := 33) (sup : Nat := 0) (ifs : Array Nat := #[]) (fds : Array FieldInfo := #[]) : ClassFile where
  minorVersion := 0
  majorVersion := 65
  constantPool := pool
  accessFlags := fl
  thisClass := this
  superClass := sup
  interfaces := ifs
  fields := fds
  methods := ms
  attributes := attrs
def plain (name : String) (sup : Option ClassId) : Class where
  name := name
  kind := .ordinary
  loader := none
  accessFlags := 33
  super := sup
  interfaces := #[]
  cf := none
  fields := #[]
  methods := #[]
  instanceTypes := #[]
  staticTypes := #[]
  resolved := #[]
  callSites := []
  init := .initialized
  statics := none
  mirror := none

def pool0 : Array CpInfo := pool [(5, u "<init>"), (0, u "()V"), (1, .class_ 10), (1, u "java/lang/Object")] 113

def k0m0 : Method := { name := "<init>", desc := "()V", sig := { parameters := [], returnType := none }, accessFlags := 1, code := none }
/-- java/lang/Object -/
def k0 : Class := { plain "java/lang/Object" none with
  accessFlags := 33
  interfaces := #[]
  cf := some (fileOf pool0 8 #[] #[{ accessFlags := 1, nameIndex := 5, descriptorIndex := 6, attributes := #[] }] 33 0 #[] #[])
  fields := #[]
  methods := #[k0m0]
  instanceTypes := #[]
  staticTypes := #[]
  resolved := Array.replicate 124 none
  statics := none }

def pool1 : Array CpInfo := pool [(2, .class_ 4), (1, u "java/lang/Object"), (0, u "<init>"), (0, u "()V"), (0, .class_ 8), (0, u "com/example/idlect/idlect/core/Symbol$Container$Kind"), (0, .fieldref 7 10), (0, .nameAndType 11 12), (0, u "FILE"), (0, u "Lcom/example/idlect/idlect/core/Symbol$Container$Kind;"), (0, .fieldref 7 14), (0, .nameAndType 15 12), (0, u "MODULE"), (0, .fieldref 7 17), (0, .nameAndType 18 12), (0, u "INTERFACE"), (0, .fieldref 7 20), (0, .nameAndType 21 12), (0, u "VALUE_TYPE"), (0, .fieldref 7 23), (0, .nameAndType 24 12), (0, u "STRUCT"), (0, .fieldref 7 26), (0, .nameAndType 27 12), (0, u "UNION"), (0, .fieldref 7 29), (0, .nameAndType 30 12), (0, u "EXCEPTION"), (0, .fieldref 7 32), (0, .nameAndType 33 12), (0, u "OPERATION"), (0, .fieldref 7 35), (0, .nameAndType 36 12), (0, u "FACTORY"), (0, .fieldref 7 38), (0, .nameAndType 39 12), (0, u "COMPONENT"), (0, .fieldref 7 41), (0, .nameAndType 42 12), (0, u "COMPONENT_INTERFACE"), (0, .fieldref 7 44), (0, .nameAndType 45 12), (0, u "IDS"), (0, .integer 2147483647), (0, .methodref 7 48), (0, .nameAndType 49 50), (0, u "isType"), (0, u "()Z"), (0, .class_ 52), (0, u "com/example/idlect/idlect/core/KindIsTypePinLaw"), (2, u "law"), (0, u "(I)Z")] 14

def k1m0 : Method := { name := "<init>", desc := "()V", sig := { parameters := [], returnType := none }, accessFlags := 1, code := none }
def k1c1 : Code := { maxStack := 4, maxLocals := 4, code := code, exceptionTable := #[], attributes := #[] }
def k1m1 : Method := { name := "law", desc := "(I)Z", sig := { parameters := [.int], returnType := some .boolean }, accessFlags := 9, code := some k1c1 }
/-- com/example/idlect/idlect/core/KindIsTypePinLaw -/
def k1 : Class := { plain "com/example/idlect/idlect/core/KindIsTypePinLaw" (some 0) with
  accessFlags := 49
  interfaces := #[]
  cf := some (fileOf pool1 51 #[] #[{ accessFlags := 1, nameIndex := 5, descriptorIndex := 6, attributes := #[] }, { accessFlags := 9, nameIndex := 55, descriptorIndex := 56, attributes := #[] }] 49 2 #[] #[])
  fields := #[]
  methods := #[k1m0, k1m1]
  instanceTypes := #[]
  staticTypes := #[]
  resolved := Array.replicate 71 none
  statics := none }

def pool2 : Array CpInfo := pool [(1, .class_ 2), (0, u "java/lang/constant/Constable"), (0, .class_ 4), (0, u "java/lang/Object")] 6

/-- java/lang/constant/Constable -/
def k2 : Class := { plain "java/lang/constant/Constable" (some 0) with
  accessFlags := 1537
  interfaces := #[]
  cf := some (fileOf pool2 1 #[] #[] 1537 3 #[] #[])
  fields := #[]
  methods := #[]
  instanceTypes := #[]
  staticTypes := #[]
  resolved := Array.replicate 11 none
  statics := none }

def pool3 : Array CpInfo := pool [(1, .class_ 2), (0, u "java/lang/Comparable"), (0, .class_ 4), (0, u "java/lang/Object")] 7

/-- java/lang/Comparable -/
def k3 : Class := { plain "java/lang/Comparable" (some 0) with
  accessFlags := 1537
  interfaces := #[]
  cf := some (fileOf pool3 1 #[] #[] 1537 3 #[] #[])
  fields := #[]
  methods := #[]
  instanceTypes := #[]
  staticTypes := #[]
  resolved := Array.replicate 12 none
  statics := none }

def pool4 : Array CpInfo := pool [(1, .class_ 2), (0, u "java/io/Serializable"), (0, .class_ 4), (0, u "java/lang/Object")] 2

/-- java/io/Serializable -/
def k4 : Class := { plain "java/io/Serializable" (some 0) with
  accessFlags := 1537
  interfaces := #[]
  cf := some (fileOf pool4 1 #[] #[] 1537 3 #[] #[])
  fields := #[]
  methods := #[]
  instanceTypes := #[]
  staticTypes := #[]
  resolved := Array.replicate 7 none
  statics := none }

def pool5 : Array CpInfo := pool [(2, .class_ 4), (1, u "java/lang/Enum"), (0, u "name"), (0, u "Ljava/lang/String;"), (2, u "ordinal"), (0, u "I"), (1, .class_ 14), (1, u "java/lang/Object"), (4, u "hash"), (86, .class_ 108), (1, u "java/lang/Enum$EnumDesc"), (2, .class_ 112), (0, u "java/lang/constant/Constable"), (0, .class_ 114), (0, u "java/lang/Comparable"), (0, .class_ 116), (0, u "java/io/Serializable")] 87

/-- java/lang/Enum -/
def k5 : Class := { plain "java/lang/Enum" (some 0) with
  accessFlags := 1057
  interfaces := #[2, 3, 4]
  cf := some (fileOf pool5 2 #[.nestMembers #[106]] #[] 1057 12 #[111, 113, 115] #[{ accessFlags := 18, nameIndex := 5, descriptorIndex := 6, attributes := #[] }, { accessFlags := 18, nameIndex := 9, descriptorIndex := 10, attributes := #[] }, { accessFlags := 2, nameIndex := 19, descriptorIndex := 10, attributes := #[] }])
  fields := #[{ name := "name", type := (.object "java/lang/String"), accessFlags := 18, slot := 0, constantValue := 0 }, { name := "ordinal", type := .int, accessFlags := 18, slot := 1, constantValue := 0 }, { name := "hash", type := .int, accessFlags := 2, slot := 2, constantValue := 0 }]
  methods := #[]
  instanceTypes := #[(.object "java/lang/String"), .int, .int]
  staticTypes := #[]
  resolved := Array.replicate 204 none
  statics := none }

def pool6 : Array CpInfo := pool [(1, .class_ 2), (0, u "com/example/idlect/idlect/core/Symbol$Container$Kind"), (2, u "FILE"), (0, u "Lcom/example/idlect/idlect/core/Symbol$Container$Kind;"), (2, u "MODULE"), (0, .fieldref 1 11), (0, .nameAndType 12 6), (0, u "INTERFACE"), (0, .fieldref 1 14), (0, .nameAndType 15 6), (0, u "VALUE_TYPE"), (0, .fieldref 1 17), (0, .nameAndType 18 6), (0, u "STRUCT"), (0, .fieldref 1 20), (0, .nameAndType 21 6), (0, u "UNION"), (2, u "EXCEPTION"), (2, u "OPERATION"), (2, u "FACTORY"), (2, u "COMPONENT"), (2, u "COMPONENT_INTERFACE"), (2, u "IDS"), (2, u "$VALUES"), (0, u "[Lcom/example/idlect/idlect/core/Symbol$Container$Kind;"), (6, .class_ 52), (1, u "java/lang/Enum"), (75, u "isType"), (0, u "()Z"), (8, .class_ 139), (0, u "com/example/idlect/idlect/core/Symbol")] 19

def k6c0 : Code := { maxStack := 2, maxLocals := 1, code := prog_128_method_6_code, exceptionTable := #[], attributes := #[] }
def k6m0 : Method := { name := "isType", desc := "()Z", sig := { parameters := [], returnType := some .boolean }, accessFlags := 0, code := some k6c0 }
/-- com/example/idlect/idlect/core/Symbol$Container$Kind -/
def k6 : Class := { plain "com/example/idlect/idlect/core/Symbol$Container$Kind" (some 5) with
  accessFlags := 16433
  interfaces := #[]
  cf := some (fileOf pool6 1 #[.nestHost 138] #[{ accessFlags := 0, nameIndex := 128, descriptorIndex := 129, attributes := #[] }] 16433 50 #[] #[{ accessFlags := 16409, nameIndex := 5, descriptorIndex := 6, attributes := #[] }, { accessFlags := 16409, nameIndex := 9, descriptorIndex := 6, attributes := #[] }, { accessFlags := 16409, nameIndex := 12, descriptorIndex := 6, attributes := #[] }, { accessFlags := 16409, nameIndex := 15, descriptorIndex := 6, attributes := #[] }, { accessFlags := 16409, nameIndex := 18, descriptorIndex := 6, attributes := #[] }, { accessFlags := 16409, nameIndex := 21, descriptorIndex := 6, attributes := #[] }, { accessFlags := 16409, nameIndex := 24, descriptorIndex := 6, attributes := #[] }, { accessFlags := 16409, nameIndex := 27, descriptorIndex := 6, attributes := #[] }, { accessFlags := 16409, nameIndex := 30, descriptorIndex := 6, attributes := #[] }, { accessFlags := 16409, nameIndex := 33, descriptorIndex := 6, attributes := #[] }, { accessFlags := 16409, nameIndex := 36, descriptorIndex := 6, attributes := #[] }, { accessFlags := 16409, nameIndex := 39, descriptorIndex := 6, attributes := #[] }, { accessFlags := 4122, nameIndex := 42, descriptorIndex := 43, attributes := #[] }])
  fields := #[{ name := "FILE", type := (.object "com/example/idlect/idlect/core/Symbol$Container$Kind"), accessFlags := 16409, slot := 0, constantValue := 0 }, { name := "MODULE", type := (.object "com/example/idlect/idlect/core/Symbol$Container$Kind"), accessFlags := 16409, slot := 1, constantValue := 0 }, { name := "INTERFACE", type := (.object "com/example/idlect/idlect/core/Symbol$Container$Kind"), accessFlags := 16409, slot := 2, constantValue := 0 }, { name := "VALUE_TYPE", type := (.object "com/example/idlect/idlect/core/Symbol$Container$Kind"), accessFlags := 16409, slot := 3, constantValue := 0 }, { name := "STRUCT", type := (.object "com/example/idlect/idlect/core/Symbol$Container$Kind"), accessFlags := 16409, slot := 4, constantValue := 0 }, { name := "UNION", type := (.object "com/example/idlect/idlect/core/Symbol$Container$Kind"), accessFlags := 16409, slot := 5, constantValue := 0 }, { name := "EXCEPTION", type := (.object "com/example/idlect/idlect/core/Symbol$Container$Kind"), accessFlags := 16409, slot := 6, constantValue := 0 }, { name := "OPERATION", type := (.object "com/example/idlect/idlect/core/Symbol$Container$Kind"), accessFlags := 16409, slot := 7, constantValue := 0 }, { name := "FACTORY", type := (.object "com/example/idlect/idlect/core/Symbol$Container$Kind"), accessFlags := 16409, slot := 8, constantValue := 0 }, { name := "COMPONENT", type := (.object "com/example/idlect/idlect/core/Symbol$Container$Kind"), accessFlags := 16409, slot := 9, constantValue := 0 }, { name := "COMPONENT_INTERFACE", type := (.object "com/example/idlect/idlect/core/Symbol$Container$Kind"), accessFlags := 16409, slot := 10, constantValue := 0 }, { name := "IDS", type := (.object "com/example/idlect/idlect/core/Symbol$Container$Kind"), accessFlags := 16409, slot := 11, constantValue := 0 }, { name := "$VALUES", type := (.array (.object "com/example/idlect/idlect/core/Symbol$Container$Kind")), accessFlags := 4122, slot := 12, constantValue := 0 }]
  methods := #[k6m0]
  instanceTypes := #[(.object "java/lang/String"), .int, .int]
  staticTypes := #[(.object "com/example/idlect/idlect/core/Symbol$Container$Kind"), (.object "com/example/idlect/idlect/core/Symbol$Container$Kind"), (.object "com/example/idlect/idlect/core/Symbol$Container$Kind"), (.object "com/example/idlect/idlect/core/Symbol$Container$Kind"), (.object "com/example/idlect/idlect/core/Symbol$Container$Kind"), (.object "com/example/idlect/idlect/core/Symbol$Container$Kind"), (.object "com/example/idlect/idlect/core/Symbol$Container$Kind"), (.object "com/example/idlect/idlect/core/Symbol$Container$Kind"), (.object "com/example/idlect/idlect/core/Symbol$Container$Kind"), (.object "com/example/idlect/idlect/core/Symbol$Container$Kind"), (.object "com/example/idlect/idlect/core/Symbol$Container$Kind"), (.object "com/example/idlect/idlect/core/Symbol$Container$Kind"), (.array (.object "com/example/idlect/idlect/core/Symbol$Container$Kind"))]
  resolved := Array.replicate 159 none
  statics := some 0 }

def pool7 : Array CpInfo := pool [(1, u "java/lang/Cloneable"), (0, .class_ 1), (0, u "java/lang/Object"), (0, .class_ 3)] 3

/-- java/lang/Cloneable -/
def k7 : Class := { plain "java/lang/Cloneable" (some 0) with
  accessFlags := 1537
  interfaces := #[]
  cf := some (fileOf pool7 2 #[] #[] 1537 4 #[] #[])
  fields := #[]
  methods := #[]
  instanceTypes := #[]
  staticTypes := #[]
  resolved := Array.replicate 8 none
  statics := none }

/-- the primitive boolean -/
def k8 : Class := { plain "boolean" none with kind := .primitive 'Z', accessFlags := 0x411 }
/-- [Z -/
def k9 : Class := { plain "[Z" (some 0) with kind := .array 8 .boolean, interfaces := #[7, 4], accessFlags := 1041 }

/-- the primitive byte -/
def k10 : Class := { plain "byte" none with kind := .primitive 'B', accessFlags := 0x411 }
/-- [B -/
def k11 : Class := { plain "[B" (some 0) with kind := .array 10 .byte, interfaces := #[7, 4], accessFlags := 1041 }

/-- the primitive int -/
def k12 : Class := { plain "int" none with kind := .primitive 'I', accessFlags := 0x411 }
/-- [I -/
def k13 : Class := { plain "[I" (some 0) with kind := .array 12 .int, interfaces := #[7, 4], accessFlags := 1041 }

/-- [Lcom/example/idlect/idlect/core/Symbol$Container$Kind; -/
def k14 : Class := { plain "[Lcom/example/idlect/idlect/core/Symbol$Container$Kind;" (some 0) with kind := .array 6 (.object "com/example/idlect/idlect/core/Symbol$Container$Kind"), interfaces := #[7, 4], accessFlags := 1041 }

def heap : Heap := #[{ cls := 6, slots := #[.ref 1, .ref 2, .ref 3, .ref 4, .ref 5, .ref 6, .ref 7, .ref 8, .ref 9, .ref 10, .ref 11, .ref 12, .null], vm := .statics 6 },
  { cls := 6, slots := #[.null, .int 0, .int 0], vm := .none },
  { cls := 6, slots := #[.null, .int 1, .int 0], vm := .none },
  { cls := 6, slots := #[.null, .int 2, .int 0], vm := .none },
  { cls := 6, slots := #[.null, .int 3, .int 0], vm := .none },
  { cls := 6, slots := #[.null, .int 4, .int 0], vm := .none },
  { cls := 6, slots := #[.null, .int 5, .int 0], vm := .none },
  { cls := 6, slots := #[.null, .int 6, .int 0], vm := .none },
  { cls := 6, slots := #[.null, .int 7, .int 0], vm := .none },
  { cls := 6, slots := #[.null, .int 8, .int 0], vm := .none },
  { cls := 6, slots := #[.null, .int 9, .int 0], vm := .none },
  { cls := 6, slots := #[.null, .int 10, .int 0], vm := .none },
  { cls := 6, slots := #[.null, .int 11, .int 0], vm := .none }]
def classes : Array Class := #[k0, k1, k2, k3, k4, k5, k6, k7, k8, k9, k10, k11, k12, k13, k14]
def interned : List (Array UInt16 × Addr) := []
def slotsUsed : Nat := 49
def theMethod : MethodId := ⟨1, 1⟩
def args0 : Array Value := #[.int 5]
def aboutOver (below : List Frame) : State where
  vm := { classes := classes, interned := interned.toArray }
  heap := heap
  slotsUsed := slotsUsed
  threads := #[{ frames := .invoking theMethod args0 :: below }]
def below0 : List Frame := [.native { method := ⟨0, 0⟩, args := #[] }]
def about1 : State := aboutOver below0
def p0 : Program := .bare "" "" ""
def e0 : Env := launch0.env 0 0 0
theorem w_frames : about1.frames = Frame.invoking theMethod args0 :: below0 := rfl
set_option maxRecDepth 65536 in
theorem w_args : argsFit about1.vm theMethod args0 = true := by decide +kernel
set_option maxRecDepth 65536 in
theorem w_heap : heapFits about1 = true := by decide +kernel
set_option maxRecDepth 65536 in
theorem w_runnable : about1.curStatus? = some .runnable := by decide +kernel
set_option maxRecDepth 65536 in
theorem w_alone : about1.alone = true := by decide +kernel
set_option maxRecDepth 65536 in
theorem w_named : about1.methodNamed? x = some theMethod := by decide +kernel
set_option maxRecDepth 65536 in
theorem w_hears : about1.hears theMethod below0 = true := by decide +kernel
set_option maxRecDepth 65536 in
theorem w_ripe : about1.ripe theMethod args0 below0 = true := by decide +kernel
theorem w_running : about1.status = .running := rfl
set_option maxRecDepth 65536 in
theorem w_room : about1.hasRoom e0.platform room_1 = true :=
  launch0.hasRoom_least _ room_1 (by decide +kernel) (by decide +kernel) (by decide +kernel) (by decide +kernel) (by decide +kernel) (by decide +kernel)
theorem allAtoms_all (ts : List Jvm.Cond) (a : Array Jvm.Value) (st : Jvm.State) : (allAtoms ts).before a st = ts.all (fun c => c.before a st) := by
  induction ts with
  | nil => rfl
  | cons c t ih =>
    show (Jvm.Cond.and c (allAtoms t)).before a st = _
    rw [Jvm.Cond.before_and, ih, List.all_cons]
def words1 : List Jvm.Cond := Jvm.Cond.code x code maxLocals ret :: tables_1
/-- a 'code' word, met by the world's own term for the bytes: nothing is compared byte by byte -/
theorem code_word {y : MethodName} {bytes : ByteArray} {mx : Nat} {rt : Option FieldType} {a : Array Value} {s : State} {m : MethodId} {meth : Method} {c : Code} (h1 : s.methodNamed? y = some m) (h2 : s.vm.method? m = some meth) (h3 : meth.code = some c) (h4 : c.code = bytes)
    (h5 : (c.maxLocals == mx && c.exceptionTable.isEmpty && decide (c.maxStack ≤ mostOperands) && decide (meth.sig.returnType = rt) && !meth.locks && decide (parseMethodDescriptor y.desc = some meth.sig)) = true) : (Jvm.Cond.code y bytes mx rt).before a s = true := by
  simp only [Bool.and_eq_true, beq_iff_eq, Bool.not_eq_true', decide_eq_true_eq] at h5
  obtain ⟨⟨⟨⟨⟨g1, g2⟩, g3⟩, g4⟩, g5⟩, g6⟩ := h5
  simp [Cond.before, Cond.holds, Cond.value, h1, h2, h3, h4, g1, g2, g3, g4, g5, g6]
def isCode : Jvm.Cond → Bool
  | .code _ _ _ _ => true
  | _ => false
theorem all_split {L : List Jvm.Cond} {P : Jvm.Cond → Bool} (h1 : L.all (fun c => isCode c || P c) = true) (h2 : ∀ c ∈ L.filter isCode, P c = true) : L.all P = true := by
  refine List.all_eq_true.mpr fun c hc => ?_
  have h := List.all_eq_true.mp h1 c hc
  rcases Bool.eq_false_or_eq_true (isCode c) with hi | hi
  · exact h2 c (List.mem_filter.mpr ⟨hc, hi⟩)
  · simpa [hi] using h
set_option maxRecDepth 65536 in
theorem w_c0 : (Jvm.Cond.code x code maxLocals ret).before args0 about1 = true := code_word (m := ⟨1, 1⟩) (meth := k1m1) (c := k1c1) (by decide +kernel) rfl rfl rfl (by decide +kernel)
set_option maxRecDepth 65536 in
theorem w_c1 : (Jvm.Cond.code ({ cls := "com/example/idlect/idlect/core/Symbol$Container$Kind", name := "isType", desc := "()Z" } : Jvm.MethodName) prog_128_method_6_code (1 : Nat) (Option.some Jvm.ClassFile.FieldType.boolean)).before args0 about1 = true := code_word (m := ⟨6, 0⟩) (meth := k6m0) (c := k6c0) (by decide +kernel) rfl rfl rfl (by decide +kernel)
def codes1 : List Jvm.Cond := [Jvm.Cond.code x code maxLocals ret, Jvm.Cond.code ({ cls := "com/example/idlect/idlect/core/Symbol$Container$Kind", name := "isType", desc := "()Z" } : Jvm.MethodName) prog_128_method_6_code (1 : Nat) (Option.some Jvm.ClassFile.FieldType.boolean)]
set_option maxRecDepth 65536 in
theorem codes_eq : words1.filter isCode = codes1 := rfl
theorem w_codes : ∀ c ∈ words1.filter isCode, c.before args0 about1 = true := by
  rw [codes_eq]
  intro c hc
  simp only [codes1, List.mem_cons, List.not_mem_nil, or_false] at hc
  rcases hc with rfl | rfl
  · exact w_c0
  · exact w_c1
set_option maxRecDepth 65536 in
theorem w_t1 : (words1.take 24).all (fun c => isCode c || c.before args0 about1) = true := by decide +kernel
set_option maxRecDepth 65536 in
theorem w_t2 : (words1.drop 24).all (fun c => isCode c || c.before args0 about1) = true := by decide +kernel
theorem w_tables : (allAtoms (Jvm.Cond.code x code maxLocals ret :: tables_1)).before args0 about1 = true := by
  rw [allAtoms_all]
  show words1.all (fun c => c.before args0 about1) = true
  refine all_split ?_ w_codes
  rw [← List.take_append_drop 24 words1, List.all_append, w_t1, w_t2]
  rfl
set_option maxRecDepth 65536 in
theorem w_case : (Jvm.Cond.and given_1 narrow_1).before args0 about1 = true := by decide +kernel
theorem w_applies : (headSpec (Jvm.Cond.code x code maxLocals ret :: tables_1) room_1).applies x e0.platform about1 = true :=
  (Spec.applies_iff w_frames).mpr ⟨w_running, w_runnable, w_alone, w_named, w_hears, w_ripe, w_room, w_tables⟩
theorem atStart : AtStart classFile x code maxLocals ret World_1 tables_1 room_1 Calls_1 rest_1 Pre_1 launch0 p0 e0 about1 theMethod args0 below0 :=
  ⟨lists_1, trivial, launch0.admits_env _ _ _, launch0.least_env, fairChoices_fair.cas, fairChoices_fair.clock, w_frames, w_args, w_heap, w_applies, trivial, trivial, w_case⟩
end start1
theorem witness_1 : WitnessClaimed_1 := ⟨start1.p0, start1.e0, start1.about1, start1.theMethod, start1.args0, start1.below0, start1.atStart⟩
end Jvm.Pilot.@@N@@
