import JvmDerived
import JvmDerived.Pilot.@@N@@Statement
import JvmDerived.Pilot.@@N@@Code
set_option linter.unusedVariables false
set_option linter.unusedSimpArgs false
namespace Jvm.Pilot.@@N@@
open Jvm Jvm.ClassFile Sem Op Lib Jvm.Free Jvm.Stand Jvm.LawKit Jvm.RoadKit Bundle Jvm.Pilot.@@N@@.Jvm.D
/-- from the state st the run ends, of which Q says what it leaves -/
def own_Ends (tb : Tables) (e : Env) (below : List Frame) (s : State) (Q : Option Value → Heap → List Loc → Prop) (C S : Nat) (st : State) : Prop :=
  ∃ t o, Steps tb e below st t ∧ t.status = .running ∧ Ended t below o ∧ ∃ v L, o = .returned v ∧ Q v t.heap L ∧ FrameEnd s o t L C S
theorem own_step {tb : Tables} {e : Env} {below : List Frame} {s : State} {Q : Option Value → Heap → List Loc → Prop} {C S : Nat} {st st' : State}
    (h : ∀ t, Steps tb e below st' t → Steps tb e below st t) (k : own_Ends tb e below s Q C S st') : own_Ends tb e below s Q C S st := by
  obtain ⟨t, o, h1, h2⟩ := k
  exact ⟨t, o, h t h1, h2⟩
section OwnRet
variable {p : Program} {l : Launch} {e : Env} {R : Room} {s : State} {m : MethodId} {args : Array Value} {below : List Frame} {meth : Method} {c : Code} {T : State} {locs : List Loc} {cells slots : Nat} {Q : Option Value → Heap → List Loc → Prop} {C S : Nat} {pc : Nat} {Ls : Array Slot} {rest : List Value}
theorem own_retW (X : Stand p l e R s m args below meth c T locs cells slots) (hx : p.tables.exec = Jvm.exec) {w : Value} {t : FieldType} {i : Instr} (hret : meth.sig.returnType = some t) (hn : narrow t w = w)
    (hi : (i = .ireturn ∧ (t = .int ∨ t = .boolean ∨ t = .byte ∨ t = .char ∨ t = .short) ∧ ∃ z, w = .int z) ∨ (i = .lreturn ∧ t = .long ∧ ∃ z, w = .long z) ∨ (i = .dreturn ∧ t = .double ∧ ∃ z, w = .double z) ∨ (i = .freturn ∧ t = .float ∧ ∃ z, w = .float z) ∨ (i = .areturn ∧ t.isReference = true ∧ w.isRef = true))
    (hd : decode c.code pc = .ok (i, 1)) (hlocks : meth.locks = false) (hq : Q (some w) T.heap locs) (hc : cells ≤ C) (hs : slots ≤ S) :
    own_Ends p.tables e below s Q C S (T.setTop (mkF m pc Ls (w :: rest))) := by
  obtain ⟨fs, hr, hrun, hended, hW, hsame⟩ := X.leave (v := some w) (fun h => by rw [hret] at h; cases h) hlocks
  exact ⟨_, _, retOut X hx hret hn hi hd hr, hrun, hended, _, _, rfl, hq, ⟨_, rfl⟩, hW, hsame.mono hc hs⟩
theorem own_retI (X : Stand p l e R s m args below meth c T locs cells slots) (hx : p.tables.exec = Jvm.exec) {z : Int32} (hret : meth.sig.returnType = some .int)
    (hd : decode c.code pc = .ok (.ireturn, 1)) (hlocks : meth.locks = false) (hq : Q (some (.int z)) T.heap locs) (hc : cells ≤ C) (hs : slots ≤ S) :
    own_Ends p.tables e below s Q C S (T.setTop (mkF m pc Ls (.int z :: rest))) :=
  own_retW X hx hret rfl (Or.inl ⟨rfl, Or.inl rfl, z, rfl⟩) hd hlocks hq hc hs
theorem own_retJ (X : Stand p l e R s m args below meth c T locs cells slots) (hx : p.tables.exec = Jvm.exec) {z : Int64} (hret : meth.sig.returnType = some .long)
    (hd : decode c.code pc = .ok (.lreturn, 1)) (hlocks : meth.locks = false) (hq : Q (some (.long z)) T.heap locs) (hc : cells ≤ C) (hs : slots ≤ S) :
    own_Ends p.tables e below s Q C S (T.setTop (mkF m pc Ls (.long z :: rest))) :=
  own_retW X hx hret rfl (Or.inr (Or.inl ⟨rfl, rfl, z, rfl⟩)) hd hlocks hq hc hs
theorem own_retR (X : Stand p l e R s m args below meth c T locs cells slots) (hx : p.tables.exec = Jvm.exec) {w : Value} {t : FieldType} (hret : meth.sig.returnType = some t) (ht : t.isReference = true) (hw : w.isRef = true) (hn : narrow t w = w)
    (hd : decode c.code pc = .ok (.areturn, 1)) (hlocks : meth.locks = false) (hq : Q (some w) T.heap locs) (hc : cells ≤ C) (hs : slots ≤ S) :
    own_Ends p.tables e below s Q C S (T.setTop (mkF m pc Ls (w :: rest))) :=
  own_retW X hx hret hn (Or.inr (Or.inr (Or.inr (Or.inr ⟨rfl, ht, hw⟩)))) hd hlocks hq hc hs
theorem own_retN (X : Stand p l e R s m args below meth c T locs cells slots) (hx : p.tables.exec = Jvm.exec) {z : Int32} {t : FieldType} (hret : meth.sig.returnType = some t) (ht : t = .boolean ∨ t = .byte ∨ t = .char ∨ t = .short)
    (hd : decode c.code pc = .ok (.ireturn, 1)) (hlocks : meth.locks = false) (hq : Q (some (.int (nar t z))) T.heap locs) (hc : cells ≤ C) (hs : slots ≤ S) :
    own_Ends p.tables e below s Q C S (T.setTop (mkF m pc Ls (.int z :: rest))) := by
  obtain ⟨fs, hr, hrun, hended, hW, hsame⟩ := X.leave (v := some (.int (nar t z))) (fun h => by rw [hret] at h; cases h) hlocks
  exact ⟨_, _, retN X hx hret ht hd hr, hrun, hended, _, _, rfl, hq, ⟨_, rfl⟩, hW, hsame.mono hc hs⟩
theorem own_ret0 (X : Stand p l e R s m args below meth c T locs cells slots) (hx : p.tables.exec = Jvm.exec) (hret : meth.sig.returnType = none)
    (hd : decode c.code pc = .ok (.return_, 1)) (hlocks : meth.locks = false) (hq : Q none T.heap locs) (hc : cells ≤ C) (hs : slots ≤ S) :
    own_Ends p.tables e below s Q C S (T.setTop (mkF m pc Ls [])) := by
  obtain ⟨fs, hr, hrun, hended, hW, hsame⟩ := X.leave (v := none) (fun _ => rfl) hlocks
  exact ⟨_, _, X.returnOut hx hret hd hr, hrun, hended, _, _, rfl, hq, ⟨_, rfl⟩, hW, hsame.mono hc hs⟩
end OwnRet
theorem own_idx (b n : Int32) (hn : 0 < n.toInt) : ¬ ((b &&& 2147483647) % n) < 0 ∧ ((b &&& 2147483647) % n) < n := by
  have h1 := c_and b 2147483647 (by decide)
  have h2 := (c_iremV (b &&& 2147483647) n).1 h1.1 hn
  constructor
  · rw [Int32.lt_iff_toInt_lt]; show ¬ _ < (0 : Int); omega
  · rw [Int32.lt_iff_toInt_lt]; omega
theorem own_small (v : Int32) (k : Nat) (hk : k < 2147483648) (h1 : ¬ v < 0) (h2 : v < Int32.ofNat k) : ∃ n : Fin k, v = Int32.ofNat n.1 := by
  rw [Int32.lt_iff_toInt_lt] at h1 h2
  rw [Int32.toInt_ofNat_of_lt hk] at h2
  have a : 0 ≤ v.toInt := by simpa using h1
  refine ⟨⟨v.toInt.toNat, by omega⟩, ?_⟩
  apply Int32.toInt_inj.mp
  rw [Int32.toInt_ofNat_of_lt (by show v.toInt.toNat < _; omega)]
  show v.toInt = ((v.toInt.toNat : Nat) : Int)
  omega
def own_r1 (x0_1 : Int32) : Int32 := (if x0_1 = (9 : Int32) then (1 : Int32) else (if x0_1 = (10 : Int32) then (1 : Int32) else (if x0_1 = (13 : Int32) then (1 : Int32) else (if x0_1 < (32 : Int32) then (if x0_1 < (57344 : Int32) then (if x0_1 < (65536 : Int32) then (0 : Int32) else (if (1114111 : Int32) < x0_1 then (0 : Int32) else (1 : Int32))) else (if (65533 : Int32) < x0_1 then (if x0_1 < (65536 : Int32) then (0 : Int32) else (if (1114111 : Int32) < x0_1 then (0 : Int32) else (1 : Int32))) else (1 : Int32))) else (if (55295 : Int32) < x0_1 then (if x0_1 < (57344 : Int32) then (if x0_1 < (65536 : Int32) then (0 : Int32) else (if (1114111 : Int32) < x0_1 then (0 : Int32) else (1 : Int32))) else (if (65533 : Int32) < x0_1 then (if x0_1 < (65536 : Int32) then (0 : Int32) else (if (1114111 : Int32) < x0_1 then (0 : Int32) else (1 : Int32))) else (1 : Int32))) else (1 : Int32))))))
theorem d1_0 : decode prog_50_method_2_code 0 = .ok (.iload_n 0, 1) := by decide +kernel
theorem d1_1 : decode prog_50_method_2_code 1 = .ok (.bipush 9, 2) := by decide +kernel
theorem d1_3 : decode prog_50_method_2_code 3 = .ok (.if_icmp .eq 51, 3) := by decide +kernel
theorem d1_6 : decode prog_50_method_2_code 6 = .ok (.iload_n 0, 1) := by decide +kernel
theorem d1_7 : decode prog_50_method_2_code 7 = .ok (.bipush 10, 2) := by decide +kernel
theorem d1_9 : decode prog_50_method_2_code 9 = .ok (.if_icmp .eq 45, 3) := by decide +kernel
theorem d1_12 : decode prog_50_method_2_code 12 = .ok (.iload_n 0, 1) := by decide +kernel
theorem d1_13 : decode prog_50_method_2_code 13 = .ok (.bipush 13, 2) := by decide +kernel
theorem d1_15 : decode prog_50_method_2_code 15 = .ok (.if_icmp .eq 39, 3) := by decide +kernel
theorem d1_18 : decode prog_50_method_2_code 18 = .ok (.iload_n 0, 1) := by decide +kernel
theorem d1_19 : decode prog_50_method_2_code 19 = .ok (.bipush 32, 2) := by decide +kernel
theorem d1_21 : decode prog_50_method_2_code 21 = .ok (.if_icmp .lt 9, 3) := by decide +kernel
theorem d1_24 : decode prog_50_method_2_code 24 = .ok (.iload_n 0, 1) := by decide +kernel
theorem d1_25 : decode prog_50_method_2_code 25 = .ok (.ldc 7, 2) := by decide +kernel
theorem d1_27 : decode prog_50_method_2_code 27 = .ok (.if_icmp .le 27, 3) := by decide +kernel
theorem d1_30 : decode prog_50_method_2_code 30 = .ok (.iload_n 0, 1) := by decide +kernel
theorem d1_31 : decode prog_50_method_2_code 31 = .ok (.ldc 8, 2) := by decide +kernel
theorem d1_33 : decode prog_50_method_2_code 33 = .ok (.if_icmp .lt 9, 3) := by decide +kernel
theorem d1_36 : decode prog_50_method_2_code 36 = .ok (.iload_n 0, 1) := by decide +kernel
theorem d1_37 : decode prog_50_method_2_code 37 = .ok (.ldc 9, 2) := by decide +kernel
theorem d1_39 : decode prog_50_method_2_code 39 = .ok (.if_icmp .le 15, 3) := by decide +kernel
theorem d1_42 : decode prog_50_method_2_code 42 = .ok (.iload_n 0, 1) := by decide +kernel
theorem d1_43 : decode prog_50_method_2_code 43 = .ok (.ldc 10, 2) := by decide +kernel
theorem d1_45 : decode prog_50_method_2_code 45 = .ok (.if_icmp .lt 13, 3) := by decide +kernel
theorem d1_48 : decode prog_50_method_2_code 48 = .ok (.iload_n 0, 1) := by decide +kernel
theorem d1_49 : decode prog_50_method_2_code 49 = .ok (.ldc 11, 2) := by decide +kernel
theorem d1_51 : decode prog_50_method_2_code 51 = .ok (.if_icmp .gt 7, 3) := by decide +kernel
theorem d1_54 : decode prog_50_method_2_code 54 = .ok (.iconst 1, 1) := by decide +kernel
theorem d1_55 : decode prog_50_method_2_code 55 = .ok (.goto 4, 3) := by decide +kernel
theorem d1_58 : decode prog_50_method_2_code 58 = .ok (.iconst 0, 1) := by decide +kernel
theorem d1_59 : decode prog_50_method_2_code 59 = .ok (.ireturn, 1) := by decide +kernel
theorem pn_0 : plainName "com/example/flwor/flwor/model/XmlChars" = true := by first | (simp [plainName, overriddenIn]; done) | decide +kernel
theorem ef_1 (m : MethodId) (x0_1 : Int32) : entryFrame m #[(.int x0_1)] 1 = mkF m 0 #[.val (.int x0_1)] [] := by first | (simp [entryFrame, mkF, argsToLocals, Value.category]; done) | rfl
def Q1 (Z : State) (x0_1 : Int32) (h0 : Heap) (n0 : Nat) (v : Option Value) (h : Heap) (L : List Loc) : Prop := v = some (.int (own_r1 x0_1)) ∧ Fr n0 L ∧ h = h0
set_option maxRecDepth 65536 in
set_option maxHeartbeats 40000000 in
theorem rm1 (l : Launch) (Z : State) (a0 : Array Value) (hw : ∀ d ∈ tables_1, d.before a0 Z = true) (ws : List Jvm.Cond) (x0_1 : Int32) (h0 : Heap) (n0 : Nat) (O0 : Old Z n0 h0) :
    MetFree l (⟨"com/example/flwor/flwor/model/XmlChars", "isChar", "(I)Z"⟩ : MethodName) (head1 (Jvm.Cond.code (⟨"com/example/flwor/flwor/model/XmlChars", "isChar", "(I)Z"⟩ : MethodName) prog_50_method_2_code 1 (some .boolean) :: ws) ({ frames := 0, cells := 0, slots := 0, locals := 0 } : Room)) (fun a U => a = #[(.int x0_1)] ∧ Z.Warmed39 U.vm ∧ U.heap = h0) (fun _ _ _ _ _ => True) (fun _ U o U' => ∃ v L, o = .returned v ∧ Q1 Z x0_1 h0 n0 v U'.heap L ∧ FrameEnd U o U' L ({ frames := 0, cells := 0, slots := 0, locals := 0 } : Room).cells ({ frames := 0, cells := 0, slots := 0, locals := 0 } : Room).slots) := by
  refine MetFree.of_bodySF (plainFor_of_name pn_0) hisR ?_
  intro p e s m args below meth c s₁ Bd hml0 hP hK
  obtain ⟨rfl, hZ, hh⟩ := hP
  have hx := Bd.exec
  have hby := Bd.bytes
  have hnl := BodyLoose.notSynchronized Bd
  have hml : c.maxLocals = 1 := hml0
  have hown : s.vm.findClass "com/example/flwor/flwor/model/XmlChars" = some m.cls := findClass_of_methodNamed Bd.named
  have hnm := (name_of_methodNamed Bd.named Bd.method).1
  have X0 : Stand p l e ({ frames := 0, cells := 0, slots := 0, locals := 0 } : Room) s m #[(.int x0_1)] below meth c s₁ [] 0 0 := Stand.of_body Bd
  have e0 : s₁.heap = h0 := by rw [← hh, Bd.state]; rfl
  have N0 := Fr.nil n0
  show own_Ends p.tables e below s (Q1 Z x0_1 h0 n0) 0 0 (s₁.setTop (entryFrame m #[(.int x0_1)] 1))
  rw [ef_1 m x0_1]
  show own_Ends p.tables e below s _ _ _ (s₁.setTop (mkF m 0 #[.val (.int x0_1)] []))
  refine own_step (fun t k => XS.iloadN X0.here hx rfl (hb hby d1_0) rfl k) ?_
  show own_Ends p.tables e below s _ _ _ (s₁.setTop (mkF m 1 #[.val (.int x0_1)] [(.int x0_1)]))
  refine own_step (fun t k => XS.bipush X0.here hx rfl (hb hby d1_1) k) ?_
  show own_Ends p.tables e below s _ _ _ (s₁.setTop (mkF m 3 #[.val (.int x0_1)] [(.int (9 : Int32)), (.int x0_1)]))
  by_cases hc3_1 : x0_1 = (9 : Int32)
  · skip
    refine own_step (fun t k => XS.icmpYes X0.here hx rfl (pc0 := 3) (pc' := 54) rfl (hb hby d1_3) rfl (teq hc3_1).1 (by decide) (by decide) k) ?_
    show own_Ends p.tables e below s _ _ _ (s₁.setTop (mkF m 54 #[.val (.int x0_1)] []))
    refine own_step (fun t k => XS.iconst X0.here hx rfl (hb hby d1_54) k) ?_
    show own_Ends p.tables e below s _ _ _ (s₁.setTop (mkF m 55 #[.val (.int x0_1)] [(.int (1 : Int32))]))
    refine own_step (fun t k => XS.goto X0.here hx rfl (pc0 := 55) (pc' := 59) rfl (hb hby d1_55) (by decide) (by decide) k) ?_
    show own_Ends p.tables e below s _ _ _ (s₁.setTop (mkF m 59 #[.val (.int x0_1)] [(.int (1 : Int32))]))
    exact own_retN X0 hx (t := .boolean) Bd.returns (by simp) (hb hby d1_59) hnl (by rw [e0]; exact ⟨(congrArg (fun z => some (Value.int z)) (Eq.symm (show (own_r1 x0_1) = (1 : Int32) from by unfold own_r1; rw [if_pos hc3_1]))), N0, rfl⟩) (by decide) (by decide)
  · skip
    refine own_step (fun t k => XS.icmpNo X0.here hx rfl (hb hby d1_3) rfl (feq hc3_1).1 k) ?_
    show own_Ends p.tables e below s _ _ _ (s₁.setTop (mkF m 6 #[.val (.int x0_1)] []))
    refine own_step (fun t k => XS.iloadN X0.here hx rfl (hb hby d1_6) rfl k) ?_
    show own_Ends p.tables e below s _ _ _ (s₁.setTop (mkF m 7 #[.val (.int x0_1)] [(.int x0_1)]))
    refine own_step (fun t k => XS.bipush X0.here hx rfl (hb hby d1_7) k) ?_
    show own_Ends p.tables e below s _ _ _ (s₁.setTop (mkF m 9 #[.val (.int x0_1)] [(.int (10 : Int32)), (.int x0_1)]))
    by_cases hc9_2 : x0_1 = (10 : Int32)
    · skip
      refine own_step (fun t k => XS.icmpYes X0.here hx rfl (pc0 := 9) (pc' := 54) rfl (hb hby d1_9) rfl (teq hc9_2).1 (by decide) (by decide) k) ?_
      show own_Ends p.tables e below s _ _ _ (s₁.setTop (mkF m 54 #[.val (.int x0_1)] []))
      refine own_step (fun t k => XS.iconst X0.here hx rfl (hb hby d1_54) k) ?_
      show own_Ends p.tables e below s _ _ _ (s₁.setTop (mkF m 55 #[.val (.int x0_1)] [(.int (1 : Int32))]))
      refine own_step (fun t k => XS.goto X0.here hx rfl (pc0 := 55) (pc' := 59) rfl (hb hby d1_55) (by decide) (by decide) k) ?_
      show own_Ends p.tables e below s _ _ _ (s₁.setTop (mkF m 59 #[.val (.int x0_1)] [(.int (1 : Int32))]))
      exact own_retN X0 hx (t := .boolean) Bd.returns (by simp) (hb hby d1_59) hnl (by rw [e0]; exact ⟨(congrArg (fun z => some (Value.int z)) (Eq.symm (show (own_r1 x0_1) = (1 : Int32) from by unfold own_r1; rw [if_neg hc3_1, if_pos hc9_2]))), N0, rfl⟩) (by decide) (by decide)
    · skip
      refine own_step (fun t k => XS.icmpNo X0.here hx rfl (hb hby d1_9) rfl (feq hc9_2).1 k) ?_
      show own_Ends p.tables e below s _ _ _ (s₁.setTop (mkF m 12 #[.val (.int x0_1)] []))
      refine own_step (fun t k => XS.iloadN X0.here hx rfl (hb hby d1_12) rfl k) ?_
      show own_Ends p.tables e below s _ _ _ (s₁.setTop (mkF m 13 #[.val (.int x0_1)] [(.int x0_1)]))
      refine own_step (fun t k => XS.bipush X0.here hx rfl (hb hby d1_13) k) ?_
      show own_Ends p.tables e below s _ _ _ (s₁.setTop (mkF m 15 #[.val (.int x0_1)] [(.int (13 : Int32)), (.int x0_1)]))
      by_cases hc15_3 : x0_1 = (13 : Int32)
      · skip
        refine own_step (fun t k => XS.icmpYes X0.here hx rfl (pc0 := 15) (pc' := 54) rfl (hb hby d1_15) rfl (teq hc15_3).1 (by decide) (by decide) k) ?_
        show own_Ends p.tables e below s _ _ _ (s₁.setTop (mkF m 54 #[.val (.int x0_1)] []))
        refine own_step (fun t k => XS.iconst X0.here hx rfl (hb hby d1_54) k) ?_
        show own_Ends p.tables e below s _ _ _ (s₁.setTop (mkF m 55 #[.val (.int x0_1)] [(.int (1 : Int32))]))
        refine own_step (fun t k => XS.goto X0.here hx rfl (pc0 := 55) (pc' := 59) rfl (hb hby d1_55) (by decide) (by decide) k) ?_
        show own_Ends p.tables e below s _ _ _ (s₁.setTop (mkF m 59 #[.val (.int x0_1)] [(.int (1 : Int32))]))
        exact own_retN X0 hx (t := .boolean) Bd.returns (by simp) (hb hby d1_59) hnl (by rw [e0]; exact ⟨(congrArg (fun z => some (Value.int z)) (Eq.symm (show (own_r1 x0_1) = (1 : Int32) from by unfold own_r1; rw [if_neg hc3_1, if_neg hc9_2, if_pos hc15_3]))), N0, rfl⟩) (by decide) (by decide)
      · skip
        refine own_step (fun t k => XS.icmpNo X0.here hx rfl (hb hby d1_15) rfl (feq hc15_3).1 k) ?_
        show own_Ends p.tables e below s _ _ _ (s₁.setTop (mkF m 18 #[.val (.int x0_1)] []))
        refine own_step (fun t k => XS.iloadN X0.here hx rfl (hb hby d1_18) rfl k) ?_
        show own_Ends p.tables e below s _ _ _ (s₁.setTop (mkF m 19 #[.val (.int x0_1)] [(.int x0_1)]))
        refine own_step (fun t k => XS.bipush X0.here hx rfl (hb hby d1_19) k) ?_
        show own_Ends p.tables e below s _ _ _ (s₁.setTop (mkF m 21 #[.val (.int x0_1)] [(.int (32 : Int32)), (.int x0_1)]))
        by_cases hc21_4 : x0_1 < (32 : Int32)
        · skip
          refine own_step (fun t k => XS.icmpYes X0.here hx rfl (pc0 := 21) (pc' := 30) rfl (hb hby d1_21) rfl (tlt hc21_4).1 (by decide) (by decide) k) ?_
          show own_Ends p.tables e below s _ _ _ (s₁.setTop (mkF m 30 #[.val (.int x0_1)] []))
          refine own_step (fun t k => XS.iloadN X0.here hx rfl (hb hby d1_30) rfl k) ?_
          show own_Ends p.tables e below s _ _ _ (s₁.setTop (mkF m 31 #[.val (.int x0_1)] [(.int x0_1)]))
          refine own_step (fun t k => X0.ldcInt hx hown (mvT hZ (hw _ (List.mem_of_getElem? (i := 17) rfl))) (g := (mkF m 31 #[.val (.int x0_1)] [(.int x0_1)])) rfl (hb hby d1_31) _ k) ?_
          show own_Ends p.tables e below s _ _ _ (s₁.setTop (mkF m 33 #[.val (.int x0_1)] [(.int (57344 : Int32)), (.int x0_1)]))
          by_cases hc33_5 : x0_1 < (57344 : Int32)
          · skip
            refine own_step (fun t k => XS.icmpYes X0.here hx rfl (pc0 := 33) (pc' := 42) rfl (hb hby d1_33) rfl (tlt hc33_5).1 (by decide) (by decide) k) ?_
            show own_Ends p.tables e below s _ _ _ (s₁.setTop (mkF m 42 #[.val (.int x0_1)] []))
            refine own_step (fun t k => XS.iloadN X0.here hx rfl (hb hby d1_42) rfl k) ?_
            show own_Ends p.tables e below s _ _ _ (s₁.setTop (mkF m 43 #[.val (.int x0_1)] [(.int x0_1)]))
            refine own_step (fun t k => X0.ldcInt hx hown (mvT hZ (hw _ (List.mem_of_getElem? (i := 18) rfl))) (g := (mkF m 43 #[.val (.int x0_1)] [(.int x0_1)])) rfl (hb hby d1_43) _ k) ?_
            show own_Ends p.tables e below s _ _ _ (s₁.setTop (mkF m 45 #[.val (.int x0_1)] [(.int (65536 : Int32)), (.int x0_1)]))
            by_cases hc45_6 : x0_1 < (65536 : Int32)
            · skip
              refine own_step (fun t k => XS.icmpYes X0.here hx rfl (pc0 := 45) (pc' := 58) rfl (hb hby d1_45) rfl (tlt hc45_6).1 (by decide) (by decide) k) ?_
              show own_Ends p.tables e below s _ _ _ (s₁.setTop (mkF m 58 #[.val (.int x0_1)] []))
              refine own_step (fun t k => XS.iconst X0.here hx rfl (hb hby d1_58) k) ?_
              show own_Ends p.tables e below s _ _ _ (s₁.setTop (mkF m 59 #[.val (.int x0_1)] [(.int (0 : Int32))]))
              exact own_retN X0 hx (t := .boolean) Bd.returns (by simp) (hb hby d1_59) hnl (by rw [e0]; exact ⟨(congrArg (fun z => some (Value.int z)) (Eq.symm (show (own_r1 x0_1) = (0 : Int32) from by unfold own_r1; rw [if_neg hc3_1, if_neg hc9_2, if_neg hc15_3, if_pos hc21_4, if_pos hc33_5, if_pos hc45_6]))), N0, rfl⟩) (by decide) (by decide)
            · skip
              refine own_step (fun t k => XS.icmpNo X0.here hx rfl (hb hby d1_45) rfl (flt hc45_6).1 k) ?_
              show own_Ends p.tables e below s _ _ _ (s₁.setTop (mkF m 48 #[.val (.int x0_1)] []))
              refine own_step (fun t k => XS.iloadN X0.here hx rfl (hb hby d1_48) rfl k) ?_
              show own_Ends p.tables e below s _ _ _ (s₁.setTop (mkF m 49 #[.val (.int x0_1)] [(.int x0_1)]))
              refine own_step (fun t k => X0.ldcInt hx hown (mvT hZ (hw _ (List.mem_of_getElem? (i := 25) rfl))) (g := (mkF m 49 #[.val (.int x0_1)] [(.int x0_1)])) rfl (hb hby d1_49) _ k) ?_
              show own_Ends p.tables e below s _ _ _ (s₁.setTop (mkF m 51 #[.val (.int x0_1)] [(.int (1114111 : Int32)), (.int x0_1)]))
              by_cases hc51_7 : (1114111 : Int32) < x0_1
              · skip
                refine own_step (fun t k => XS.icmpYes X0.here hx rfl (pc0 := 51) (pc' := 58) rfl (hb hby d1_51) rfl (tlt hc51_7).2.2.1 (by decide) (by decide) k) ?_
                show own_Ends p.tables e below s _ _ _ (s₁.setTop (mkF m 58 #[.val (.int x0_1)] []))
                refine own_step (fun t k => XS.iconst X0.here hx rfl (hb hby d1_58) k) ?_
                show own_Ends p.tables e below s _ _ _ (s₁.setTop (mkF m 59 #[.val (.int x0_1)] [(.int (0 : Int32))]))
                exact own_retN X0 hx (t := .boolean) Bd.returns (by simp) (hb hby d1_59) hnl (by rw [e0]; exact ⟨(congrArg (fun z => some (Value.int z)) (Eq.symm (show (own_r1 x0_1) = (0 : Int32) from by unfold own_r1; rw [if_neg hc3_1, if_neg hc9_2, if_neg hc15_3, if_pos hc21_4, if_pos hc33_5, if_neg hc45_6, if_pos hc51_7]))), N0, rfl⟩) (by decide) (by decide)
              · skip
                refine own_step (fun t k => XS.icmpNo X0.here hx rfl (hb hby d1_51) rfl (flt hc51_7).2.2.1 k) ?_
                show own_Ends p.tables e below s _ _ _ (s₁.setTop (mkF m 54 #[.val (.int x0_1)] []))
                refine own_step (fun t k => XS.iconst X0.here hx rfl (hb hby d1_54) k) ?_
                show own_Ends p.tables e below s _ _ _ (s₁.setTop (mkF m 55 #[.val (.int x0_1)] [(.int (1 : Int32))]))
                refine own_step (fun t k => XS.goto X0.here hx rfl (pc0 := 55) (pc' := 59) rfl (hb hby d1_55) (by decide) (by decide) k) ?_
                show own_Ends p.tables e below s _ _ _ (s₁.setTop (mkF m 59 #[.val (.int x0_1)] [(.int (1 : Int32))]))
                exact own_retN X0 hx (t := .boolean) Bd.returns (by simp) (hb hby d1_59) hnl (by rw [e0]; exact ⟨(congrArg (fun z => some (Value.int z)) (Eq.symm (show (own_r1 x0_1) = (1 : Int32) from by unfold own_r1; rw [if_neg hc3_1, if_neg hc9_2, if_neg hc15_3, if_pos hc21_4, if_pos hc33_5, if_neg hc45_6, if_neg hc51_7]))), N0, rfl⟩) (by decide) (by decide)
          · skip
            refine own_step (fun t k => XS.icmpNo X0.here hx rfl (hb hby d1_33) rfl (flt hc33_5).1 k) ?_
            show own_Ends p.tables e below s _ _ _ (s₁.setTop (mkF m 36 #[.val (.int x0_1)] []))
            refine own_step (fun t k => XS.iloadN X0.here hx rfl (hb hby d1_36) rfl k) ?_
            show own_Ends p.tables e below s _ _ _ (s₁.setTop (mkF m 37 #[.val (.int x0_1)] [(.int x0_1)]))
            refine own_step (fun t k => X0.ldcInt hx hown (mvT hZ (hw _ (List.mem_of_getElem? (i := 24) rfl))) (g := (mkF m 37 #[.val (.int x0_1)] [(.int x0_1)])) rfl (hb hby d1_37) _ k) ?_
            show own_Ends p.tables e below s _ _ _ (s₁.setTop (mkF m 39 #[.val (.int x0_1)] [(.int (65533 : Int32)), (.int x0_1)]))
            by_cases hc39_8 : (65533 : Int32) < x0_1
            · skip
              refine own_step (fun t k => XS.icmpNo X0.here hx rfl (hb hby d1_39) rfl (tlt hc39_8).2.2.2 k) ?_
              show own_Ends p.tables e below s _ _ _ (s₁.setTop (mkF m 42 #[.val (.int x0_1)] []))
              refine own_step (fun t k => XS.iloadN X0.here hx rfl (hb hby d1_42) rfl k) ?_
              show own_Ends p.tables e below s _ _ _ (s₁.setTop (mkF m 43 #[.val (.int x0_1)] [(.int x0_1)]))
              refine own_step (fun t k => X0.ldcInt hx hown (mvT hZ (hw _ (List.mem_of_getElem? (i := 18) rfl))) (g := (mkF m 43 #[.val (.int x0_1)] [(.int x0_1)])) rfl (hb hby d1_43) _ k) ?_
              show own_Ends p.tables e below s _ _ _ (s₁.setTop (mkF m 45 #[.val (.int x0_1)] [(.int (65536 : Int32)), (.int x0_1)]))
              by_cases hc45_9 : x0_1 < (65536 : Int32)
              · skip
                refine own_step (fun t k => XS.icmpYes X0.here hx rfl (pc0 := 45) (pc' := 58) rfl (hb hby d1_45) rfl (tlt hc45_9).1 (by decide) (by decide) k) ?_
                show own_Ends p.tables e below s _ _ _ (s₁.setTop (mkF m 58 #[.val (.int x0_1)] []))
                refine own_step (fun t k => XS.iconst X0.here hx rfl (hb hby d1_58) k) ?_
                show own_Ends p.tables e below s _ _ _ (s₁.setTop (mkF m 59 #[.val (.int x0_1)] [(.int (0 : Int32))]))
                exact own_retN X0 hx (t := .boolean) Bd.returns (by simp) (hb hby d1_59) hnl (by rw [e0]; exact ⟨(congrArg (fun z => some (Value.int z)) (Eq.symm (show (own_r1 x0_1) = (0 : Int32) from by unfold own_r1; rw [if_neg hc3_1, if_neg hc9_2, if_neg hc15_3, if_pos hc21_4, if_neg hc33_5, if_pos hc39_8, if_pos hc45_9]))), N0, rfl⟩) (by decide) (by decide)
              · skip
                refine own_step (fun t k => XS.icmpNo X0.here hx rfl (hb hby d1_45) rfl (flt hc45_9).1 k) ?_
                show own_Ends p.tables e below s _ _ _ (s₁.setTop (mkF m 48 #[.val (.int x0_1)] []))
                refine own_step (fun t k => XS.iloadN X0.here hx rfl (hb hby d1_48) rfl k) ?_
                show own_Ends p.tables e below s _ _ _ (s₁.setTop (mkF m 49 #[.val (.int x0_1)] [(.int x0_1)]))
                refine own_step (fun t k => X0.ldcInt hx hown (mvT hZ (hw _ (List.mem_of_getElem? (i := 25) rfl))) (g := (mkF m 49 #[.val (.int x0_1)] [(.int x0_1)])) rfl (hb hby d1_49) _ k) ?_
                show own_Ends p.tables e below s _ _ _ (s₁.setTop (mkF m 51 #[.val (.int x0_1)] [(.int (1114111 : Int32)), (.int x0_1)]))
                by_cases hc51_10 : (1114111 : Int32) < x0_1
                · skip
                  refine own_step (fun t k => XS.icmpYes X0.here hx rfl (pc0 := 51) (pc' := 58) rfl (hb hby d1_51) rfl (tlt hc51_10).2.2.1 (by decide) (by decide) k) ?_
                  show own_Ends p.tables e below s _ _ _ (s₁.setTop (mkF m 58 #[.val (.int x0_1)] []))
                  refine own_step (fun t k => XS.iconst X0.here hx rfl (hb hby d1_58) k) ?_
                  show own_Ends p.tables e below s _ _ _ (s₁.setTop (mkF m 59 #[.val (.int x0_1)] [(.int (0 : Int32))]))
                  exact own_retN X0 hx (t := .boolean) Bd.returns (by simp) (hb hby d1_59) hnl (by rw [e0]; exact ⟨(congrArg (fun z => some (Value.int z)) (Eq.symm (show (own_r1 x0_1) = (0 : Int32) from by unfold own_r1; rw [if_neg hc3_1, if_neg hc9_2, if_neg hc15_3, if_pos hc21_4, if_neg hc33_5, if_pos hc39_8, if_neg hc45_9, if_pos hc51_10]))), N0, rfl⟩) (by decide) (by decide)
                · skip
                  refine own_step (fun t k => XS.icmpNo X0.here hx rfl (hb hby d1_51) rfl (flt hc51_10).2.2.1 k) ?_
                  show own_Ends p.tables e below s _ _ _ (s₁.setTop (mkF m 54 #[.val (.int x0_1)] []))
                  refine own_step (fun t k => XS.iconst X0.here hx rfl (hb hby d1_54) k) ?_
                  show own_Ends p.tables e below s _ _ _ (s₁.setTop (mkF m 55 #[.val (.int x0_1)] [(.int (1 : Int32))]))
                  refine own_step (fun t k => XS.goto X0.here hx rfl (pc0 := 55) (pc' := 59) rfl (hb hby d1_55) (by decide) (by decide) k) ?_
                  show own_Ends p.tables e below s _ _ _ (s₁.setTop (mkF m 59 #[.val (.int x0_1)] [(.int (1 : Int32))]))
                  exact own_retN X0 hx (t := .boolean) Bd.returns (by simp) (hb hby d1_59) hnl (by rw [e0]; exact ⟨(congrArg (fun z => some (Value.int z)) (Eq.symm (show (own_r1 x0_1) = (1 : Int32) from by unfold own_r1; rw [if_neg hc3_1, if_neg hc9_2, if_neg hc15_3, if_pos hc21_4, if_neg hc33_5, if_pos hc39_8, if_neg hc45_9, if_neg hc51_10]))), N0, rfl⟩) (by decide) (by decide)
            · skip
              refine own_step (fun t k => XS.icmpYes X0.here hx rfl (pc0 := 39) (pc' := 54) rfl (hb hby d1_39) rfl (flt hc39_8).2.2.2 (by decide) (by decide) k) ?_
              show own_Ends p.tables e below s _ _ _ (s₁.setTop (mkF m 54 #[.val (.int x0_1)] []))
              refine own_step (fun t k => XS.iconst X0.here hx rfl (hb hby d1_54) k) ?_
              show own_Ends p.tables e below s _ _ _ (s₁.setTop (mkF m 55 #[.val (.int x0_1)] [(.int (1 : Int32))]))
              refine own_step (fun t k => XS.goto X0.here hx rfl (pc0 := 55) (pc' := 59) rfl (hb hby d1_55) (by decide) (by decide) k) ?_
              show own_Ends p.tables e below s _ _ _ (s₁.setTop (mkF m 59 #[.val (.int x0_1)] [(.int (1 : Int32))]))
              exact own_retN X0 hx (t := .boolean) Bd.returns (by simp) (hb hby d1_59) hnl (by rw [e0]; exact ⟨(congrArg (fun z => some (Value.int z)) (Eq.symm (show (own_r1 x0_1) = (1 : Int32) from by unfold own_r1; rw [if_neg hc3_1, if_neg hc9_2, if_neg hc15_3, if_pos hc21_4, if_neg hc33_5, if_neg hc39_8]))), N0, rfl⟩) (by decide) (by decide)
        · skip
          refine own_step (fun t k => XS.icmpNo X0.here hx rfl (hb hby d1_21) rfl (flt hc21_4).1 k) ?_
          show own_Ends p.tables e below s _ _ _ (s₁.setTop (mkF m 24 #[.val (.int x0_1)] []))
          refine own_step (fun t k => XS.iloadN X0.here hx rfl (hb hby d1_24) rfl k) ?_
          show own_Ends p.tables e below s _ _ _ (s₁.setTop (mkF m 25 #[.val (.int x0_1)] [(.int x0_1)]))
          refine own_step (fun t k => X0.ldcInt hx hown (mvT hZ (hw _ (List.mem_of_getElem? (i := 23) rfl))) (g := (mkF m 25 #[.val (.int x0_1)] [(.int x0_1)])) rfl (hb hby d1_25) _ k) ?_
          show own_Ends p.tables e below s _ _ _ (s₁.setTop (mkF m 27 #[.val (.int x0_1)] [(.int (55295 : Int32)), (.int x0_1)]))
          by_cases hc27_11 : (55295 : Int32) < x0_1
          · skip
            refine own_step (fun t k => XS.icmpNo X0.here hx rfl (hb hby d1_27) rfl (tlt hc27_11).2.2.2 k) ?_
            show own_Ends p.tables e below s _ _ _ (s₁.setTop (mkF m 30 #[.val (.int x0_1)] []))
            refine own_step (fun t k => XS.iloadN X0.here hx rfl (hb hby d1_30) rfl k) ?_
            show own_Ends p.tables e below s _ _ _ (s₁.setTop (mkF m 31 #[.val (.int x0_1)] [(.int x0_1)]))
            refine own_step (fun t k => X0.ldcInt hx hown (mvT hZ (hw _ (List.mem_of_getElem? (i := 17) rfl))) (g := (mkF m 31 #[.val (.int x0_1)] [(.int x0_1)])) rfl (hb hby d1_31) _ k) ?_
            show own_Ends p.tables e below s _ _ _ (s₁.setTop (mkF m 33 #[.val (.int x0_1)] [(.int (57344 : Int32)), (.int x0_1)]))
            by_cases hc33_12 : x0_1 < (57344 : Int32)
            · skip
              refine own_step (fun t k => XS.icmpYes X0.here hx rfl (pc0 := 33) (pc' := 42) rfl (hb hby d1_33) rfl (tlt hc33_12).1 (by decide) (by decide) k) ?_
              show own_Ends p.tables e below s _ _ _ (s₁.setTop (mkF m 42 #[.val (.int x0_1)] []))
              refine own_step (fun t k => XS.iloadN X0.here hx rfl (hb hby d1_42) rfl k) ?_
              show own_Ends p.tables e below s _ _ _ (s₁.setTop (mkF m 43 #[.val (.int x0_1)] [(.int x0_1)]))
              refine own_step (fun t k => X0.ldcInt hx hown (mvT hZ (hw _ (List.mem_of_getElem? (i := 18) rfl))) (g := (mkF m 43 #[.val (.int x0_1)] [(.int x0_1)])) rfl (hb hby d1_43) _ k) ?_
              show own_Ends p.tables e below s _ _ _ (s₁.setTop (mkF m 45 #[.val (.int x0_1)] [(.int (65536 : Int32)), (.int x0_1)]))
              by_cases hc45_13 : x0_1 < (65536 : Int32)
              · skip
                refine own_step (fun t k => XS.icmpYes X0.here hx rfl (pc0 := 45) (pc' := 58) rfl (hb hby d1_45) rfl (tlt hc45_13).1 (by decide) (by decide) k) ?_
                show own_Ends p.tables e below s _ _ _ (s₁.setTop (mkF m 58 #[.val (.int x0_1)] []))
                refine own_step (fun t k => XS.iconst X0.here hx rfl (hb hby d1_58) k) ?_
                show own_Ends p.tables e below s _ _ _ (s₁.setTop (mkF m 59 #[.val (.int x0_1)] [(.int (0 : Int32))]))
                exact own_retN X0 hx (t := .boolean) Bd.returns (by simp) (hb hby d1_59) hnl (by rw [e0]; exact ⟨(congrArg (fun z => some (Value.int z)) (Eq.symm (show (own_r1 x0_1) = (0 : Int32) from by unfold own_r1; rw [if_neg hc3_1, if_neg hc9_2, if_neg hc15_3, if_neg hc21_4, if_pos hc27_11, if_pos hc33_12, if_pos hc45_13]))), N0, rfl⟩) (by decide) (by decide)
              · skip
                refine own_step (fun t k => XS.icmpNo X0.here hx rfl (hb hby d1_45) rfl (flt hc45_13).1 k) ?_
                show own_Ends p.tables e below s _ _ _ (s₁.setTop (mkF m 48 #[.val (.int x0_1)] []))
                refine own_step (fun t k => XS.iloadN X0.here hx rfl (hb hby d1_48) rfl k) ?_
                show own_Ends p.tables e below s _ _ _ (s₁.setTop (mkF m 49 #[.val (.int x0_1)] [(.int x0_1)]))
                refine own_step (fun t k => X0.ldcInt hx hown (mvT hZ (hw _ (List.mem_of_getElem? (i := 25) rfl))) (g := (mkF m 49 #[.val (.int x0_1)] [(.int x0_1)])) rfl (hb hby d1_49) _ k) ?_
                show own_Ends p.tables e below s _ _ _ (s₁.setTop (mkF m 51 #[.val (.int x0_1)] [(.int (1114111 : Int32)), (.int x0_1)]))
                by_cases hc51_14 : (1114111 : Int32) < x0_1
                · skip
                  refine own_step (fun t k => XS.icmpYes X0.here hx rfl (pc0 := 51) (pc' := 58) rfl (hb hby d1_51) rfl (tlt hc51_14).2.2.1 (by decide) (by decide) k) ?_
                  show own_Ends p.tables e below s _ _ _ (s₁.setTop (mkF m 58 #[.val (.int x0_1)] []))
                  refine own_step (fun t k => XS.iconst X0.here hx rfl (hb hby d1_58) k) ?_
                  show own_Ends p.tables e below s _ _ _ (s₁.setTop (mkF m 59 #[.val (.int x0_1)] [(.int (0 : Int32))]))
                  exact own_retN X0 hx (t := .boolean) Bd.returns (by simp) (hb hby d1_59) hnl (by rw [e0]; exact ⟨(congrArg (fun z => some (Value.int z)) (Eq.symm (show (own_r1 x0_1) = (0 : Int32) from by unfold own_r1; rw [if_neg hc3_1, if_neg hc9_2, if_neg hc15_3, if_neg hc21_4, if_pos hc27_11, if_pos hc33_12, if_neg hc45_13, if_pos hc51_14]))), N0, rfl⟩) (by decide) (by decide)
                · skip
                  refine own_step (fun t k => XS.icmpNo X0.here hx rfl (hb hby d1_51) rfl (flt hc51_14).2.2.1 k) ?_
                  show own_Ends p.tables e below s _ _ _ (s₁.setTop (mkF m 54 #[.val (.int x0_1)] []))
                  refine own_step (fun t k => XS.iconst X0.here hx rfl (hb hby d1_54) k) ?_
                  show own_Ends p.tables e below s _ _ _ (s₁.setTop (mkF m 55 #[.val (.int x0_1)] [(.int (1 : Int32))]))
                  refine own_step (fun t k => XS.goto X0.here hx rfl (pc0 := 55) (pc' := 59) rfl (hb hby d1_55) (by decide) (by decide) k) ?_
                  show own_Ends p.tables e below s _ _ _ (s₁.setTop (mkF m 59 #[.val (.int x0_1)] [(.int (1 : Int32))]))
                  exact own_retN X0 hx (t := .boolean) Bd.returns (by simp) (hb hby d1_59) hnl (by rw [e0]; exact ⟨(congrArg (fun z => some (Value.int z)) (Eq.symm (show (own_r1 x0_1) = (1 : Int32) from by unfold own_r1; rw [if_neg hc3_1, if_neg hc9_2, if_neg hc15_3, if_neg hc21_4, if_pos hc27_11, if_pos hc33_12, if_neg hc45_13, if_neg hc51_14]))), N0, rfl⟩) (by decide) (by decide)
            · skip
              refine own_step (fun t k => XS.icmpNo X0.here hx rfl (hb hby d1_33) rfl (flt hc33_12).1 k) ?_
              show own_Ends p.tables e below s _ _ _ (s₁.setTop (mkF m 36 #[.val (.int x0_1)] []))
              refine own_step (fun t k => XS.iloadN X0.here hx rfl (hb hby d1_36) rfl k) ?_
              show own_Ends p.tables e below s _ _ _ (s₁.setTop (mkF m 37 #[.val (.int x0_1)] [(.int x0_1)]))
              refine own_step (fun t k => X0.ldcInt hx hown (mvT hZ (hw _ (List.mem_of_getElem? (i := 24) rfl))) (g := (mkF m 37 #[.val (.int x0_1)] [(.int x0_1)])) rfl (hb hby d1_37) _ k) ?_
              show own_Ends p.tables e below s _ _ _ (s₁.setTop (mkF m 39 #[.val (.int x0_1)] [(.int (65533 : Int32)), (.int x0_1)]))
              by_cases hc39_15 : (65533 : Int32) < x0_1
              · skip
                refine own_step (fun t k => XS.icmpNo X0.here hx rfl (hb hby d1_39) rfl (tlt hc39_15).2.2.2 k) ?_
                show own_Ends p.tables e below s _ _ _ (s₁.setTop (mkF m 42 #[.val (.int x0_1)] []))
                refine own_step (fun t k => XS.iloadN X0.here hx rfl (hb hby d1_42) rfl k) ?_
                show own_Ends p.tables e below s _ _ _ (s₁.setTop (mkF m 43 #[.val (.int x0_1)] [(.int x0_1)]))
                refine own_step (fun t k => X0.ldcInt hx hown (mvT hZ (hw _ (List.mem_of_getElem? (i := 18) rfl))) (g := (mkF m 43 #[.val (.int x0_1)] [(.int x0_1)])) rfl (hb hby d1_43) _ k) ?_
                show own_Ends p.tables e below s _ _ _ (s₁.setTop (mkF m 45 #[.val (.int x0_1)] [(.int (65536 : Int32)), (.int x0_1)]))
                by_cases hc45_16 : x0_1 < (65536 : Int32)
                · skip
                  refine own_step (fun t k => XS.icmpYes X0.here hx rfl (pc0 := 45) (pc' := 58) rfl (hb hby d1_45) rfl (tlt hc45_16).1 (by decide) (by decide) k) ?_
                  show own_Ends p.tables e below s _ _ _ (s₁.setTop (mkF m 58 #[.val (.int x0_1)] []))
                  refine own_step (fun t k => XS.iconst X0.here hx rfl (hb hby d1_58) k) ?_
                  show own_Ends p.tables e below s _ _ _ (s₁.setTop (mkF m 59 #[.val (.int x0_1)] [(.int (0 : Int32))]))
                  exact own_retN X0 hx (t := .boolean) Bd.returns (by simp) (hb hby d1_59) hnl (by rw [e0]; exact ⟨(congrArg (fun z => some (Value.int z)) (Eq.symm (show (own_r1 x0_1) = (0 : Int32) from by unfold own_r1; rw [if_neg hc3_1, if_neg hc9_2, if_neg hc15_3, if_neg hc21_4, if_pos hc27_11, if_neg hc33_12, if_pos hc39_15, if_pos hc45_16]))), N0, rfl⟩) (by decide) (by decide)
                · skip
                  refine own_step (fun t k => XS.icmpNo X0.here hx rfl (hb hby d1_45) rfl (flt hc45_16).1 k) ?_
                  show own_Ends p.tables e below s _ _ _ (s₁.setTop (mkF m 48 #[.val (.int x0_1)] []))
                  refine own_step (fun t k => XS.iloadN X0.here hx rfl (hb hby d1_48) rfl k) ?_
                  show own_Ends p.tables e below s _ _ _ (s₁.setTop (mkF m 49 #[.val (.int x0_1)] [(.int x0_1)]))
                  refine own_step (fun t k => X0.ldcInt hx hown (mvT hZ (hw _ (List.mem_of_getElem? (i := 25) rfl))) (g := (mkF m 49 #[.val (.int x0_1)] [(.int x0_1)])) rfl (hb hby d1_49) _ k) ?_
                  show own_Ends p.tables e below s _ _ _ (s₁.setTop (mkF m 51 #[.val (.int x0_1)] [(.int (1114111 : Int32)), (.int x0_1)]))
                  by_cases hc51_17 : (1114111 : Int32) < x0_1
                  · skip
                    refine own_step (fun t k => XS.icmpYes X0.here hx rfl (pc0 := 51) (pc' := 58) rfl (hb hby d1_51) rfl (tlt hc51_17).2.2.1 (by decide) (by decide) k) ?_
                    show own_Ends p.tables e below s _ _ _ (s₁.setTop (mkF m 58 #[.val (.int x0_1)] []))
                    refine own_step (fun t k => XS.iconst X0.here hx rfl (hb hby d1_58) k) ?_
                    show own_Ends p.tables e below s _ _ _ (s₁.setTop (mkF m 59 #[.val (.int x0_1)] [(.int (0 : Int32))]))
                    exact own_retN X0 hx (t := .boolean) Bd.returns (by simp) (hb hby d1_59) hnl (by rw [e0]; exact ⟨(congrArg (fun z => some (Value.int z)) (Eq.symm (show (own_r1 x0_1) = (0 : Int32) from by unfold own_r1; rw [if_neg hc3_1, if_neg hc9_2, if_neg hc15_3, if_neg hc21_4, if_pos hc27_11, if_neg hc33_12, if_pos hc39_15, if_neg hc45_16, if_pos hc51_17]))), N0, rfl⟩) (by decide) (by decide)
                  · skip
                    refine own_step (fun t k => XS.icmpNo X0.here hx rfl (hb hby d1_51) rfl (flt hc51_17).2.2.1 k) ?_
                    show own_Ends p.tables e below s _ _ _ (s₁.setTop (mkF m 54 #[.val (.int x0_1)] []))
                    refine own_step (fun t k => XS.iconst X0.here hx rfl (hb hby d1_54) k) ?_
                    show own_Ends p.tables e below s _ _ _ (s₁.setTop (mkF m 55 #[.val (.int x0_1)] [(.int (1 : Int32))]))
                    refine own_step (fun t k => XS.goto X0.here hx rfl (pc0 := 55) (pc' := 59) rfl (hb hby d1_55) (by decide) (by decide) k) ?_
                    show own_Ends p.tables e below s _ _ _ (s₁.setTop (mkF m 59 #[.val (.int x0_1)] [(.int (1 : Int32))]))
                    exact own_retN X0 hx (t := .boolean) Bd.returns (by simp) (hb hby d1_59) hnl (by rw [e0]; exact ⟨(congrArg (fun z => some (Value.int z)) (Eq.symm (show (own_r1 x0_1) = (1 : Int32) from by unfold own_r1; rw [if_neg hc3_1, if_neg hc9_2, if_neg hc15_3, if_neg hc21_4, if_pos hc27_11, if_neg hc33_12, if_pos hc39_15, if_neg hc45_16, if_neg hc51_17]))), N0, rfl⟩) (by decide) (by decide)
              · skip
                refine own_step (fun t k => XS.icmpYes X0.here hx rfl (pc0 := 39) (pc' := 54) rfl (hb hby d1_39) rfl (flt hc39_15).2.2.2 (by decide) (by decide) k) ?_
                show own_Ends p.tables e below s _ _ _ (s₁.setTop (mkF m 54 #[.val (.int x0_1)] []))
                refine own_step (fun t k => XS.iconst X0.here hx rfl (hb hby d1_54) k) ?_
                show own_Ends p.tables e below s _ _ _ (s₁.setTop (mkF m 55 #[.val (.int x0_1)] [(.int (1 : Int32))]))
                refine own_step (fun t k => XS.goto X0.here hx rfl (pc0 := 55) (pc' := 59) rfl (hb hby d1_55) (by decide) (by decide) k) ?_
                show own_Ends p.tables e below s _ _ _ (s₁.setTop (mkF m 59 #[.val (.int x0_1)] [(.int (1 : Int32))]))
                exact own_retN X0 hx (t := .boolean) Bd.returns (by simp) (hb hby d1_59) hnl (by rw [e0]; exact ⟨(congrArg (fun z => some (Value.int z)) (Eq.symm (show (own_r1 x0_1) = (1 : Int32) from by unfold own_r1; rw [if_neg hc3_1, if_neg hc9_2, if_neg hc15_3, if_neg hc21_4, if_pos hc27_11, if_neg hc33_12, if_neg hc39_15]))), N0, rfl⟩) (by decide) (by decide)
          · skip
            refine own_step (fun t k => XS.icmpYes X0.here hx rfl (pc0 := 27) (pc' := 54) rfl (hb hby d1_27) rfl (flt hc27_11).2.2.2 (by decide) (by decide) k) ?_
            show own_Ends p.tables e below s _ _ _ (s₁.setTop (mkF m 54 #[.val (.int x0_1)] []))
            refine own_step (fun t k => XS.iconst X0.here hx rfl (hb hby d1_54) k) ?_
            show own_Ends p.tables e below s _ _ _ (s₁.setTop (mkF m 55 #[.val (.int x0_1)] [(.int (1 : Int32))]))
            refine own_step (fun t k => XS.goto X0.here hx rfl (pc0 := 55) (pc' := 59) rfl (hb hby d1_55) (by decide) (by decide) k) ?_
            show own_Ends p.tables e below s _ _ _ (s₁.setTop (mkF m 59 #[.val (.int x0_1)] [(.int (1 : Int32))]))
            exact own_retN X0 hx (t := .boolean) Bd.returns (by simp) (hb hby d1_59) hnl (by rw [e0]; exact ⟨(congrArg (fun z => some (Value.int z)) (Eq.symm (show (own_r1 x0_1) = (1 : Int32) from by unfold own_r1; rw [if_neg hc3_1, if_neg hc9_2, if_neg hc15_3, if_neg hc21_4, if_neg hc27_11]))), N0, rfl⟩) (by decide) (by decide)
def own_r2 (x0_2 : Int32) : Int32 := (if x0_2 < (32 : Int32) then (if x0_2 = (9 : Int32) then (0 : Int32) else (if x0_2 = (10 : Int32) then (0 : Int32) else (if x0_2 = (13 : Int32) then (0 : Int32) else (1 : Int32)))) else (if x0_2 < (55296 : Int32) then (if x0_2 = (65534 : Int32) then (1 : Int32) else (if x0_2 = (65535 : Int32) then (1 : Int32) else (if (1114111 : Int32) < x0_2 then (1 : Int32) else (0 : Int32)))) else (if (57343 : Int32) < x0_2 then (if x0_2 = (65534 : Int32) then (1 : Int32) else (if x0_2 = (65535 : Int32) then (1 : Int32) else (if (1114111 : Int32) < x0_2 then (1 : Int32) else (0 : Int32)))) else (1 : Int32))))
theorem d2_0 : decode method_2_code 0 = .ok (.iload_n 0, 1) := by decide +kernel
theorem d2_1 : decode method_2_code 1 = .ok (.bipush 32, 2) := by decide +kernel
theorem d2_3 : decode method_2_code 3 = .ok (.if_icmp .ge 27, 3) := by decide +kernel
theorem d2_6 : decode method_2_code 6 = .ok (.iload_n 0, 1) := by decide +kernel
theorem d2_7 : decode method_2_code 7 = .ok (.bipush 9, 2) := by decide +kernel
theorem d2_9 : decode method_2_code 9 = .ok (.if_icmp .eq 19, 3) := by decide +kernel
theorem d2_12 : decode method_2_code 12 = .ok (.iload_n 0, 1) := by decide +kernel
theorem d2_13 : decode method_2_code 13 = .ok (.bipush 10, 2) := by decide +kernel
theorem d2_15 : decode method_2_code 15 = .ok (.if_icmp .eq 13, 3) := by decide +kernel
theorem d2_18 : decode method_2_code 18 = .ok (.iload_n 0, 1) := by decide +kernel
theorem d2_19 : decode method_2_code 19 = .ok (.bipush 13, 2) := by decide +kernel
theorem d2_21 : decode method_2_code 21 = .ok (.if_icmp .eq 7, 3) := by decide +kernel
theorem d2_24 : decode method_2_code 24 = .ok (.iconst 1, 1) := by decide +kernel
theorem d2_25 : decode method_2_code 25 = .ok (.goto 4, 3) := by decide +kernel
theorem d2_28 : decode method_2_code 28 = .ok (.iconst 0, 1) := by decide +kernel
theorem d2_29 : decode method_2_code 29 = .ok (.ireturn, 1) := by decide +kernel
theorem d2_30 : decode method_2_code 30 = .ok (.iload_n 0, 1) := by decide +kernel
theorem d2_31 : decode method_2_code 31 = .ok (.ldc 7, 2) := by decide +kernel
theorem d2_33 : decode method_2_code 33 = .ok (.if_icmp .lt 11, 3) := by decide +kernel
theorem d2_36 : decode method_2_code 36 = .ok (.iload_n 0, 1) := by decide +kernel
theorem d2_37 : decode method_2_code 37 = .ok (.ldc 8, 2) := by decide +kernel
theorem d2_39 : decode method_2_code 39 = .ok (.if_icmp .gt 5, 3) := by decide +kernel
theorem d2_42 : decode method_2_code 42 = .ok (.iconst 1, 1) := by decide +kernel
theorem d2_43 : decode method_2_code 43 = .ok (.ireturn, 1) := by decide +kernel
theorem d2_44 : decode method_2_code 44 = .ok (.iload_n 0, 1) := by decide +kernel
theorem d2_45 : decode method_2_code 45 = .ok (.ldc 9, 2) := by decide +kernel
theorem d2_47 : decode method_2_code 47 = .ok (.if_icmp .eq 9, 3) := by decide +kernel
theorem d2_50 : decode method_2_code 50 = .ok (.iload_n 0, 1) := by decide +kernel
theorem d2_51 : decode method_2_code 51 = .ok (.ldc 10, 2) := by decide +kernel
theorem d2_53 : decode method_2_code 53 = .ok (.if_icmp .ne 5, 3) := by decide +kernel
theorem d2_56 : decode method_2_code 56 = .ok (.iconst 1, 1) := by decide +kernel
theorem d2_57 : decode method_2_code 57 = .ok (.ireturn, 1) := by decide +kernel
theorem d2_58 : decode method_2_code 58 = .ok (.iload_n 0, 1) := by decide +kernel
theorem d2_59 : decode method_2_code 59 = .ok (.ldc 11, 2) := by decide +kernel
theorem d2_61 : decode method_2_code 61 = .ok (.if_icmp .le 7, 3) := by decide +kernel
theorem d2_64 : decode method_2_code 64 = .ok (.iconst 1, 1) := by decide +kernel
theorem d2_65 : decode method_2_code 65 = .ok (.goto 4, 3) := by decide +kernel
theorem d2_68 : decode method_2_code 68 = .ok (.iconst 0, 1) := by decide +kernel
theorem d2_69 : decode method_2_code 69 = .ok (.ireturn, 1) := by decide +kernel
theorem pn_1 : plainName "com/example/flwor/flwor/model/XmlCharsIsCharPinLaw" = true := by first | (simp [plainName, overriddenIn]; done) | decide +kernel
theorem ef_2 (m : MethodId) (x0_2 : Int32) : entryFrame m #[(.int x0_2)] 1 = mkF m 0 #[.val (.int x0_2)] [] := by first | (simp [entryFrame, mkF, argsToLocals, Value.category]; done) | rfl
def Q2 (Z : State) (x0_2 : Int32) (h0 : Heap) (n0 : Nat) (v : Option Value) (h : Heap) (L : List Loc) : Prop := v = some (.int (own_r2 x0_2)) ∧ Fr n0 L ∧ h = h0
set_option maxRecDepth 65536 in
set_option maxHeartbeats 40000000 in
theorem rm2 (l : Launch) (Z : State) (a0 : Array Value) (hw : ∀ d ∈ tables_1, d.before a0 Z = true) (ws : List Jvm.Cond) (x0_2 : Int32) (h0 : Heap) (n0 : Nat) (O0 : Old Z n0 h0) :
    MetFree l (⟨"com/example/flwor/flwor/model/XmlCharsIsCharPinLaw", "excluded", "(I)Z"⟩ : MethodName) (head1 (Jvm.Cond.code (⟨"com/example/flwor/flwor/model/XmlCharsIsCharPinLaw", "excluded", "(I)Z"⟩ : MethodName) method_2_code 1 (some .boolean) :: ws) ({ frames := 0, cells := 0, slots := 0, locals := 0 } : Room)) (fun a U => a = #[(.int x0_2)] ∧ Z.Warmed39 U.vm ∧ U.heap = h0) (fun _ _ _ _ _ => True) (fun _ U o U' => ∃ v L, o = .returned v ∧ Q2 Z x0_2 h0 n0 v U'.heap L ∧ FrameEnd U o U' L ({ frames := 0, cells := 0, slots := 0, locals := 0 } : Room).cells ({ frames := 0, cells := 0, slots := 0, locals := 0 } : Room).slots) := by
  refine MetFree.of_bodySF (plainFor_of_name pn_1) hisR ?_
  intro p e s m args below meth c s₁ Bd hml0 hP hK
  obtain ⟨rfl, hZ, hh⟩ := hP
  have hx := Bd.exec
  have hby := Bd.bytes
  have hnl := BodyLoose.notSynchronized Bd
  have hml : c.maxLocals = 1 := hml0
  have hown : s.vm.findClass "com/example/flwor/flwor/model/XmlCharsIsCharPinLaw" = some m.cls := findClass_of_methodNamed Bd.named
  have hnm := (name_of_methodNamed Bd.named Bd.method).1
  have X0 : Stand p l e ({ frames := 0, cells := 0, slots := 0, locals := 0 } : Room) s m #[(.int x0_2)] below meth c s₁ [] 0 0 := Stand.of_body Bd
  have e0 : s₁.heap = h0 := by rw [← hh, Bd.state]; rfl
  have N0 := Fr.nil n0
  show own_Ends p.tables e below s (Q2 Z x0_2 h0 n0) 0 0 (s₁.setTop (entryFrame m #[(.int x0_2)] 1))
  rw [ef_2 m x0_2]
  show own_Ends p.tables e below s _ _ _ (s₁.setTop (mkF m 0 #[.val (.int x0_2)] []))
  refine own_step (fun t k => XS.iloadN X0.here hx rfl (hb hby d2_0) rfl k) ?_
  show own_Ends p.tables e below s _ _ _ (s₁.setTop (mkF m 1 #[.val (.int x0_2)] [(.int x0_2)]))
  refine own_step (fun t k => XS.bipush X0.here hx rfl (hb hby d2_1) k) ?_
  show own_Ends p.tables e below s _ _ _ (s₁.setTop (mkF m 3 #[.val (.int x0_2)] [(.int (32 : Int32)), (.int x0_2)]))
  by_cases hc3_1 : x0_2 < (32 : Int32)
  · skip
    refine own_step (fun t k => XS.icmpNo X0.here hx rfl (hb hby d2_3) rfl (tlt hc3_1).2.1 k) ?_
    show own_Ends p.tables e below s _ _ _ (s₁.setTop (mkF m 6 #[.val (.int x0_2)] []))
    refine own_step (fun t k => XS.iloadN X0.here hx rfl (hb hby d2_6) rfl k) ?_
    show own_Ends p.tables e below s _ _ _ (s₁.setTop (mkF m 7 #[.val (.int x0_2)] [(.int x0_2)]))
    refine own_step (fun t k => XS.bipush X0.here hx rfl (hb hby d2_7) k) ?_
    show own_Ends p.tables e below s _ _ _ (s₁.setTop (mkF m 9 #[.val (.int x0_2)] [(.int (9 : Int32)), (.int x0_2)]))
    by_cases hc9_2 : x0_2 = (9 : Int32)
    · skip
      refine own_step (fun t k => XS.icmpYes X0.here hx rfl (pc0 := 9) (pc' := 28) rfl (hb hby d2_9) rfl (teq hc9_2).1 (by decide) (by decide) k) ?_
      show own_Ends p.tables e below s _ _ _ (s₁.setTop (mkF m 28 #[.val (.int x0_2)] []))
      refine own_step (fun t k => XS.iconst X0.here hx rfl (hb hby d2_28) k) ?_
      show own_Ends p.tables e below s _ _ _ (s₁.setTop (mkF m 29 #[.val (.int x0_2)] [(.int (0 : Int32))]))
      exact own_retN X0 hx (t := .boolean) Bd.returns (by simp) (hb hby d2_29) hnl (by rw [e0]; exact ⟨(congrArg (fun z => some (Value.int z)) (Eq.symm (show (own_r2 x0_2) = (0 : Int32) from by unfold own_r2; rw [if_pos hc3_1, if_pos hc9_2]))), N0, rfl⟩) (by decide) (by decide)
    · skip
      refine own_step (fun t k => XS.icmpNo X0.here hx rfl (hb hby d2_9) rfl (feq hc9_2).1 k) ?_
      show own_Ends p.tables e below s _ _ _ (s₁.setTop (mkF m 12 #[.val (.int x0_2)] []))
      refine own_step (fun t k => XS.iloadN X0.here hx rfl (hb hby d2_12) rfl k) ?_
      show own_Ends p.tables e below s _ _ _ (s₁.setTop (mkF m 13 #[.val (.int x0_2)] [(.int x0_2)]))
      refine own_step (fun t k => XS.bipush X0.here hx rfl (hb hby d2_13) k) ?_
      show own_Ends p.tables e below s _ _ _ (s₁.setTop (mkF m 15 #[.val (.int x0_2)] [(.int (10 : Int32)), (.int x0_2)]))
      by_cases hc15_3 : x0_2 = (10 : Int32)
      · skip
        refine own_step (fun t k => XS.icmpYes X0.here hx rfl (pc0 := 15) (pc' := 28) rfl (hb hby d2_15) rfl (teq hc15_3).1 (by decide) (by decide) k) ?_
        show own_Ends p.tables e below s _ _ _ (s₁.setTop (mkF m 28 #[.val (.int x0_2)] []))
        refine own_step (fun t k => XS.iconst X0.here hx rfl (hb hby d2_28) k) ?_
        show own_Ends p.tables e below s _ _ _ (s₁.setTop (mkF m 29 #[.val (.int x0_2)] [(.int (0 : Int32))]))
        exact own_retN X0 hx (t := .boolean) Bd.returns (by simp) (hb hby d2_29) hnl (by rw [e0]; exact ⟨(congrArg (fun z => some (Value.int z)) (Eq.symm (show (own_r2 x0_2) = (0 : Int32) from by unfold own_r2; rw [if_pos hc3_1, if_neg hc9_2, if_pos hc15_3]))), N0, rfl⟩) (by decide) (by decide)
      · skip
        refine own_step (fun t k => XS.icmpNo X0.here hx rfl (hb hby d2_15) rfl (feq hc15_3).1 k) ?_
        show own_Ends p.tables e below s _ _ _ (s₁.setTop (mkF m 18 #[.val (.int x0_2)] []))
        refine own_step (fun t k => XS.iloadN X0.here hx rfl (hb hby d2_18) rfl k) ?_
        show own_Ends p.tables e below s _ _ _ (s₁.setTop (mkF m 19 #[.val (.int x0_2)] [(.int x0_2)]))
        refine own_step (fun t k => XS.bipush X0.here hx rfl (hb hby d2_19) k) ?_
        show own_Ends p.tables e below s _ _ _ (s₁.setTop (mkF m 21 #[.val (.int x0_2)] [(.int (13 : Int32)), (.int x0_2)]))
        by_cases hc21_4 : x0_2 = (13 : Int32)
        · skip
          refine own_step (fun t k => XS.icmpYes X0.here hx rfl (pc0 := 21) (pc' := 28) rfl (hb hby d2_21) rfl (teq hc21_4).1 (by decide) (by decide) k) ?_
          show own_Ends p.tables e below s _ _ _ (s₁.setTop (mkF m 28 #[.val (.int x0_2)] []))
          refine own_step (fun t k => XS.iconst X0.here hx rfl (hb hby d2_28) k) ?_
          show own_Ends p.tables e below s _ _ _ (s₁.setTop (mkF m 29 #[.val (.int x0_2)] [(.int (0 : Int32))]))
          exact own_retN X0 hx (t := .boolean) Bd.returns (by simp) (hb hby d2_29) hnl (by rw [e0]; exact ⟨(congrArg (fun z => some (Value.int z)) (Eq.symm (show (own_r2 x0_2) = (0 : Int32) from by unfold own_r2; rw [if_pos hc3_1, if_neg hc9_2, if_neg hc15_3, if_pos hc21_4]))), N0, rfl⟩) (by decide) (by decide)
        · skip
          refine own_step (fun t k => XS.icmpNo X0.here hx rfl (hb hby d2_21) rfl (feq hc21_4).1 k) ?_
          show own_Ends p.tables e below s _ _ _ (s₁.setTop (mkF m 24 #[.val (.int x0_2)] []))
          refine own_step (fun t k => XS.iconst X0.here hx rfl (hb hby d2_24) k) ?_
          show own_Ends p.tables e below s _ _ _ (s₁.setTop (mkF m 25 #[.val (.int x0_2)] [(.int (1 : Int32))]))
          refine own_step (fun t k => XS.goto X0.here hx rfl (pc0 := 25) (pc' := 29) rfl (hb hby d2_25) (by decide) (by decide) k) ?_
          show own_Ends p.tables e below s _ _ _ (s₁.setTop (mkF m 29 #[.val (.int x0_2)] [(.int (1 : Int32))]))
          exact own_retN X0 hx (t := .boolean) Bd.returns (by simp) (hb hby d2_29) hnl (by rw [e0]; exact ⟨(congrArg (fun z => some (Value.int z)) (Eq.symm (show (own_r2 x0_2) = (1 : Int32) from by unfold own_r2; rw [if_pos hc3_1, if_neg hc9_2, if_neg hc15_3, if_neg hc21_4]))), N0, rfl⟩) (by decide) (by decide)
  · skip
    refine own_step (fun t k => XS.icmpYes X0.here hx rfl (pc0 := 3) (pc' := 30) rfl (hb hby d2_3) rfl (flt hc3_1).2.1 (by decide) (by decide) k) ?_
    show own_Ends p.tables e below s _ _ _ (s₁.setTop (mkF m 30 #[.val (.int x0_2)] []))
    refine own_step (fun t k => XS.iloadN X0.here hx rfl (hb hby d2_30) rfl k) ?_
    show own_Ends p.tables e below s _ _ _ (s₁.setTop (mkF m 31 #[.val (.int x0_2)] [(.int x0_2)]))
    refine own_step (fun t k => X0.ldcInt hx hown (mvT hZ (hw _ (List.mem_of_getElem? (i := 2) rfl))) (g := (mkF m 31 #[.val (.int x0_2)] [(.int x0_2)])) rfl (hb hby d2_31) _ k) ?_
    show own_Ends p.tables e below s _ _ _ (s₁.setTop (mkF m 33 #[.val (.int x0_2)] [(.int (55296 : Int32)), (.int x0_2)]))
    by_cases hc33_5 : x0_2 < (55296 : Int32)
    · skip
      refine own_step (fun t k => XS.icmpYes X0.here hx rfl (pc0 := 33) (pc' := 44) rfl (hb hby d2_33) rfl (tlt hc33_5).1 (by decide) (by decide) k) ?_
      show own_Ends p.tables e below s _ _ _ (s₁.setTop (mkF m 44 #[.val (.int x0_2)] []))
      refine own_step (fun t k => XS.iloadN X0.here hx rfl (hb hby d2_44) rfl k) ?_
      show own_Ends p.tables e below s _ _ _ (s₁.setTop (mkF m 45 #[.val (.int x0_2)] [(.int x0_2)]))
      refine own_step (fun t k => X0.ldcInt hx hown (mvT hZ (hw _ (List.mem_of_getElem? (i := 6) rfl))) (g := (mkF m 45 #[.val (.int x0_2)] [(.int x0_2)])) rfl (hb hby d2_45) _ k) ?_
      show own_Ends p.tables e below s _ _ _ (s₁.setTop (mkF m 47 #[.val (.int x0_2)] [(.int (65534 : Int32)), (.int x0_2)]))
      by_cases hc47_6 : x0_2 = (65534 : Int32)
      · skip
        refine own_step (fun t k => XS.icmpYes X0.here hx rfl (pc0 := 47) (pc' := 56) rfl (hb hby d2_47) rfl (teq hc47_6).1 (by decide) (by decide) k) ?_
        show own_Ends p.tables e below s _ _ _ (s₁.setTop (mkF m 56 #[.val (.int x0_2)] []))
        refine own_step (fun t k => XS.iconst X0.here hx rfl (hb hby d2_56) k) ?_
        show own_Ends p.tables e below s _ _ _ (s₁.setTop (mkF m 57 #[.val (.int x0_2)] [(.int (1 : Int32))]))
        exact own_retN X0 hx (t := .boolean) Bd.returns (by simp) (hb hby d2_57) hnl (by rw [e0]; exact ⟨(congrArg (fun z => some (Value.int z)) (Eq.symm (show (own_r2 x0_2) = (1 : Int32) from by unfold own_r2; rw [if_neg hc3_1, if_pos hc33_5, if_pos hc47_6]))), N0, rfl⟩) (by decide) (by decide)
      · skip
        refine own_step (fun t k => XS.icmpNo X0.here hx rfl (hb hby d2_47) rfl (feq hc47_6).1 k) ?_
        show own_Ends p.tables e below s _ _ _ (s₁.setTop (mkF m 50 #[.val (.int x0_2)] []))
        refine own_step (fun t k => XS.iloadN X0.here hx rfl (hb hby d2_50) rfl k) ?_
        show own_Ends p.tables e below s _ _ _ (s₁.setTop (mkF m 51 #[.val (.int x0_2)] [(.int x0_2)]))
        refine own_step (fun t k => X0.ldcInt hx hown (mvT hZ (hw _ (List.mem_of_getElem? (i := 7) rfl))) (g := (mkF m 51 #[.val (.int x0_2)] [(.int x0_2)])) rfl (hb hby d2_51) _ k) ?_
        show own_Ends p.tables e below s _ _ _ (s₁.setTop (mkF m 53 #[.val (.int x0_2)] [(.int (65535 : Int32)), (.int x0_2)]))
        by_cases hc53_7 : x0_2 = (65535 : Int32)
        · skip
          refine own_step (fun t k => XS.icmpNo X0.here hx rfl (hb hby d2_53) rfl (teq hc53_7).2 k) ?_
          show own_Ends p.tables e below s _ _ _ (s₁.setTop (mkF m 56 #[.val (.int x0_2)] []))
          refine own_step (fun t k => XS.iconst X0.here hx rfl (hb hby d2_56) k) ?_
          show own_Ends p.tables e below s _ _ _ (s₁.setTop (mkF m 57 #[.val (.int x0_2)] [(.int (1 : Int32))]))
          exact own_retN X0 hx (t := .boolean) Bd.returns (by simp) (hb hby d2_57) hnl (by rw [e0]; exact ⟨(congrArg (fun z => some (Value.int z)) (Eq.symm (show (own_r2 x0_2) = (1 : Int32) from by unfold own_r2; rw [if_neg hc3_1, if_pos hc33_5, if_neg hc47_6, if_pos hc53_7]))), N0, rfl⟩) (by decide) (by decide)
        · skip
          refine own_step (fun t k => XS.icmpYes X0.here hx rfl (pc0 := 53) (pc' := 58) rfl (hb hby d2_53) rfl (feq hc53_7).2 (by decide) (by decide) k) ?_
          show own_Ends p.tables e below s _ _ _ (s₁.setTop (mkF m 58 #[.val (.int x0_2)] []))
          refine own_step (fun t k => XS.iloadN X0.here hx rfl (hb hby d2_58) rfl k) ?_
          show own_Ends p.tables e below s _ _ _ (s₁.setTop (mkF m 59 #[.val (.int x0_2)] [(.int x0_2)]))
          refine own_step (fun t k => X0.ldcInt hx hown (mvT hZ (hw _ (List.mem_of_getElem? (i := 9) rfl))) (g := (mkF m 59 #[.val (.int x0_2)] [(.int x0_2)])) rfl (hb hby d2_59) _ k) ?_
          show own_Ends p.tables e below s _ _ _ (s₁.setTop (mkF m 61 #[.val (.int x0_2)] [(.int (1114111 : Int32)), (.int x0_2)]))
          by_cases hc61_8 : (1114111 : Int32) < x0_2
          · skip
            refine own_step (fun t k => XS.icmpNo X0.here hx rfl (hb hby d2_61) rfl (tlt hc61_8).2.2.2 k) ?_
            show own_Ends p.tables e below s _ _ _ (s₁.setTop (mkF m 64 #[.val (.int x0_2)] []))
            refine own_step (fun t k => XS.iconst X0.here hx rfl (hb hby d2_64) k) ?_
            show own_Ends p.tables e below s _ _ _ (s₁.setTop (mkF m 65 #[.val (.int x0_2)] [(.int (1 : Int32))]))
            refine own_step (fun t k => XS.goto X0.here hx rfl (pc0 := 65) (pc' := 69) rfl (hb hby d2_65) (by decide) (by decide) k) ?_
            show own_Ends p.tables e below s _ _ _ (s₁.setTop (mkF m 69 #[.val (.int x0_2)] [(.int (1 : Int32))]))
            exact own_retN X0 hx (t := .boolean) Bd.returns (by simp) (hb hby d2_69) hnl (by rw [e0]; exact ⟨(congrArg (fun z => some (Value.int z)) (Eq.symm (show (own_r2 x0_2) = (1 : Int32) from by unfold own_r2; rw [if_neg hc3_1, if_pos hc33_5, if_neg hc47_6, if_neg hc53_7, if_pos hc61_8]))), N0, rfl⟩) (by decide) (by decide)
          · skip
            refine own_step (fun t k => XS.icmpYes X0.here hx rfl (pc0 := 61) (pc' := 68) rfl (hb hby d2_61) rfl (flt hc61_8).2.2.2 (by decide) (by decide) k) ?_
            show own_Ends p.tables e below s _ _ _ (s₁.setTop (mkF m 68 #[.val (.int x0_2)] []))
            refine own_step (fun t k => XS.iconst X0.here hx rfl (hb hby d2_68) k) ?_
            show own_Ends p.tables e below s _ _ _ (s₁.setTop (mkF m 69 #[.val (.int x0_2)] [(.int (0 : Int32))]))
            exact own_retN X0 hx (t := .boolean) Bd.returns (by simp) (hb hby d2_69) hnl (by rw [e0]; exact ⟨(congrArg (fun z => some (Value.int z)) (Eq.symm (show (own_r2 x0_2) = (0 : Int32) from by unfold own_r2; rw [if_neg hc3_1, if_pos hc33_5, if_neg hc47_6, if_neg hc53_7, if_neg hc61_8]))), N0, rfl⟩) (by decide) (by decide)
    · skip
      refine own_step (fun t k => XS.icmpNo X0.here hx rfl (hb hby d2_33) rfl (flt hc33_5).1 k) ?_
      show own_Ends p.tables e below s _ _ _ (s₁.setTop (mkF m 36 #[.val (.int x0_2)] []))
      refine own_step (fun t k => XS.iloadN X0.here hx rfl (hb hby d2_36) rfl k) ?_
      show own_Ends p.tables e below s _ _ _ (s₁.setTop (mkF m 37 #[.val (.int x0_2)] [(.int x0_2)]))
      refine own_step (fun t k => X0.ldcInt hx hown (mvT hZ (hw _ (List.mem_of_getElem? (i := 3) rfl))) (g := (mkF m 37 #[.val (.int x0_2)] [(.int x0_2)])) rfl (hb hby d2_37) _ k) ?_
      show own_Ends p.tables e below s _ _ _ (s₁.setTop (mkF m 39 #[.val (.int x0_2)] [(.int (57343 : Int32)), (.int x0_2)]))
      by_cases hc39_9 : (57343 : Int32) < x0_2
      · skip
        refine own_step (fun t k => XS.icmpYes X0.here hx rfl (pc0 := 39) (pc' := 44) rfl (hb hby d2_39) rfl (tlt hc39_9).2.2.1 (by decide) (by decide) k) ?_
        show own_Ends p.tables e below s _ _ _ (s₁.setTop (mkF m 44 #[.val (.int x0_2)] []))
        refine own_step (fun t k => XS.iloadN X0.here hx rfl (hb hby d2_44) rfl k) ?_
        show own_Ends p.tables e below s _ _ _ (s₁.setTop (mkF m 45 #[.val (.int x0_2)] [(.int x0_2)]))
        refine own_step (fun t k => X0.ldcInt hx hown (mvT hZ (hw _ (List.mem_of_getElem? (i := 6) rfl))) (g := (mkF m 45 #[.val (.int x0_2)] [(.int x0_2)])) rfl (hb hby d2_45) _ k) ?_
        show own_Ends p.tables e below s _ _ _ (s₁.setTop (mkF m 47 #[.val (.int x0_2)] [(.int (65534 : Int32)), (.int x0_2)]))
        by_cases hc47_10 : x0_2 = (65534 : Int32)
        · skip
          refine own_step (fun t k => XS.icmpYes X0.here hx rfl (pc0 := 47) (pc' := 56) rfl (hb hby d2_47) rfl (teq hc47_10).1 (by decide) (by decide) k) ?_
          show own_Ends p.tables e below s _ _ _ (s₁.setTop (mkF m 56 #[.val (.int x0_2)] []))
          refine own_step (fun t k => XS.iconst X0.here hx rfl (hb hby d2_56) k) ?_
          show own_Ends p.tables e below s _ _ _ (s₁.setTop (mkF m 57 #[.val (.int x0_2)] [(.int (1 : Int32))]))
          exact own_retN X0 hx (t := .boolean) Bd.returns (by simp) (hb hby d2_57) hnl (by rw [e0]; exact ⟨(congrArg (fun z => some (Value.int z)) (Eq.symm (show (own_r2 x0_2) = (1 : Int32) from by unfold own_r2; rw [if_neg hc3_1, if_neg hc33_5, if_pos hc39_9, if_pos hc47_10]))), N0, rfl⟩) (by decide) (by decide)
        · skip
          refine own_step (fun t k => XS.icmpNo X0.here hx rfl (hb hby d2_47) rfl (feq hc47_10).1 k) ?_
          show own_Ends p.tables e below s _ _ _ (s₁.setTop (mkF m 50 #[.val (.int x0_2)] []))
          refine own_step (fun t k => XS.iloadN X0.here hx rfl (hb hby d2_50) rfl k) ?_
          show own_Ends p.tables e below s _ _ _ (s₁.setTop (mkF m 51 #[.val (.int x0_2)] [(.int x0_2)]))
          refine own_step (fun t k => X0.ldcInt hx hown (mvT hZ (hw _ (List.mem_of_getElem? (i := 7) rfl))) (g := (mkF m 51 #[.val (.int x0_2)] [(.int x0_2)])) rfl (hb hby d2_51) _ k) ?_
          show own_Ends p.tables e below s _ _ _ (s₁.setTop (mkF m 53 #[.val (.int x0_2)] [(.int (65535 : Int32)), (.int x0_2)]))
          by_cases hc53_11 : x0_2 = (65535 : Int32)
          · skip
            refine own_step (fun t k => XS.icmpNo X0.here hx rfl (hb hby d2_53) rfl (teq hc53_11).2 k) ?_
            show own_Ends p.tables e below s _ _ _ (s₁.setTop (mkF m 56 #[.val (.int x0_2)] []))
            refine own_step (fun t k => XS.iconst X0.here hx rfl (hb hby d2_56) k) ?_
            show own_Ends p.tables e below s _ _ _ (s₁.setTop (mkF m 57 #[.val (.int x0_2)] [(.int (1 : Int32))]))
            exact own_retN X0 hx (t := .boolean) Bd.returns (by simp) (hb hby d2_57) hnl (by rw [e0]; exact ⟨(congrArg (fun z => some (Value.int z)) (Eq.symm (show (own_r2 x0_2) = (1 : Int32) from by unfold own_r2; rw [if_neg hc3_1, if_neg hc33_5, if_pos hc39_9, if_neg hc47_10, if_pos hc53_11]))), N0, rfl⟩) (by decide) (by decide)
          · skip
            refine own_step (fun t k => XS.icmpYes X0.here hx rfl (pc0 := 53) (pc' := 58) rfl (hb hby d2_53) rfl (feq hc53_11).2 (by decide) (by decide) k) ?_
            show own_Ends p.tables e below s _ _ _ (s₁.setTop (mkF m 58 #[.val (.int x0_2)] []))
            refine own_step (fun t k => XS.iloadN X0.here hx rfl (hb hby d2_58) rfl k) ?_
            show own_Ends p.tables e below s _ _ _ (s₁.setTop (mkF m 59 #[.val (.int x0_2)] [(.int x0_2)]))
            refine own_step (fun t k => X0.ldcInt hx hown (mvT hZ (hw _ (List.mem_of_getElem? (i := 9) rfl))) (g := (mkF m 59 #[.val (.int x0_2)] [(.int x0_2)])) rfl (hb hby d2_59) _ k) ?_
            show own_Ends p.tables e below s _ _ _ (s₁.setTop (mkF m 61 #[.val (.int x0_2)] [(.int (1114111 : Int32)), (.int x0_2)]))
            by_cases hc61_12 : (1114111 : Int32) < x0_2
            · skip
              refine own_step (fun t k => XS.icmpNo X0.here hx rfl (hb hby d2_61) rfl (tlt hc61_12).2.2.2 k) ?_
              show own_Ends p.tables e below s _ _ _ (s₁.setTop (mkF m 64 #[.val (.int x0_2)] []))
              refine own_step (fun t k => XS.iconst X0.here hx rfl (hb hby d2_64) k) ?_
              show own_Ends p.tables e below s _ _ _ (s₁.setTop (mkF m 65 #[.val (.int x0_2)] [(.int (1 : Int32))]))
              refine own_step (fun t k => XS.goto X0.here hx rfl (pc0 := 65) (pc' := 69) rfl (hb hby d2_65) (by decide) (by decide) k) ?_
              show own_Ends p.tables e below s _ _ _ (s₁.setTop (mkF m 69 #[.val (.int x0_2)] [(.int (1 : Int32))]))
              exact own_retN X0 hx (t := .boolean) Bd.returns (by simp) (hb hby d2_69) hnl (by rw [e0]; exact ⟨(congrArg (fun z => some (Value.int z)) (Eq.symm (show (own_r2 x0_2) = (1 : Int32) from by unfold own_r2; rw [if_neg hc3_1, if_neg hc33_5, if_pos hc39_9, if_neg hc47_10, if_neg hc53_11, if_pos hc61_12]))), N0, rfl⟩) (by decide) (by decide)
            · skip
              refine own_step (fun t k => XS.icmpYes X0.here hx rfl (pc0 := 61) (pc' := 68) rfl (hb hby d2_61) rfl (flt hc61_12).2.2.2 (by decide) (by decide) k) ?_
              show own_Ends p.tables e below s _ _ _ (s₁.setTop (mkF m 68 #[.val (.int x0_2)] []))
              refine own_step (fun t k => XS.iconst X0.here hx rfl (hb hby d2_68) k) ?_
              show own_Ends p.tables e below s _ _ _ (s₁.setTop (mkF m 69 #[.val (.int x0_2)] [(.int (0 : Int32))]))
              exact own_retN X0 hx (t := .boolean) Bd.returns (by simp) (hb hby d2_69) hnl (by rw [e0]; exact ⟨(congrArg (fun z => some (Value.int z)) (Eq.symm (show (own_r2 x0_2) = (0 : Int32) from by unfold own_r2; rw [if_neg hc3_1, if_neg hc33_5, if_pos hc39_9, if_neg hc47_10, if_neg hc53_11, if_neg hc61_12]))), N0, rfl⟩) (by decide) (by decide)
      · skip
        refine own_step (fun t k => XS.icmpNo X0.here hx rfl (hb hby d2_39) rfl (flt hc39_9).2.2.1 k) ?_
        show own_Ends p.tables e below s _ _ _ (s₁.setTop (mkF m 42 #[.val (.int x0_2)] []))
        refine own_step (fun t k => XS.iconst X0.here hx rfl (hb hby d2_42) k) ?_
        show own_Ends p.tables e below s _ _ _ (s₁.setTop (mkF m 43 #[.val (.int x0_2)] [(.int (1 : Int32))]))
        exact own_retN X0 hx (t := .boolean) Bd.returns (by simp) (hb hby d2_43) hnl (by rw [e0]; exact ⟨(congrArg (fun z => some (Value.int z)) (Eq.symm (show (own_r2 x0_2) = (1 : Int32) from by unfold own_r2; rw [if_neg hc3_1, if_neg hc33_5, if_neg hc39_9]))), N0, rfl⟩) (by decide) (by decide)
set_option maxHeartbeats 8000000 in
theorem own_all (v : Int32) : (own_r2 v = 0 → own_r1 v = 1) ∧ (¬ own_r2 v = 0 → own_r1 v = 0) := by
  unfold own_r1 own_r2
  constructor
  · intro h
    repeat' (split at h)
    all_goals first | (exact absurd h (by decide)) | skip
    all_goals repeat' split
    all_goals first | rfl | (exfalso; simp only [Int32.lt_iff_toInt_lt, ← Int32.toInt_inj] at *; simp at *; omega)
  · intro h
    repeat' (split at h)
    all_goals first | (exact absurd rfl h) | skip
    all_goals repeat' split
    all_goals first | rfl | (exfalso; simp only [Int32.lt_iff_toInt_lt, ← Int32.toInt_inj] at *; simp at *; omega)

theorem pd_0 : parseMethodDescriptor "(I)Z" = some ⟨[.int], some .boolean⟩ := by decide +kernel
theorem ef_0 (m : MethodId) (x0_0 : Int32) (x1_0 : Int32) (x2_0 : Int32) : entryFrame m #[(.int x0_0), (.int x1_0), (.int x2_0)] maxLocals = mkF m 0 #[.val (.int x0_0), .val (.int x1_0), .val (.int x2_0), .unset, .unset, .unset, .unset] [] := by first | (simp [entryFrame, mkF, argsToLocals, Value.category, maxLocals]; done) | rfl
def Q0 (Z : State) (x0_0 : Int32) (x1_0 : Int32) (x2_0 : Int32) (h0 : Heap) (n0 : Nat) (v : Option Value) (h : Heap) (L : List Loc) : Prop := v = some (.int 1) ∧ Fr n0 L
set_option maxRecDepth 65536 in
set_option maxHeartbeats 40000000 in
theorem rm0 (l : Launch) (Z : State) (a0 : Array Value) (hw : ∀ d ∈ tables_1, d.before a0 Z = true) (ws : List Jvm.Cond) (x0_0 : Int32) (x1_0 : Int32) (x2_0 : Int32) (h0 : Heap) (n0 : Nat) (O0 : Old Z n0 h0) :
    MetFree l x (head1 (Jvm.Cond.code x code maxLocals ret :: ws) room_1) (fun a U => a = #[(.int x0_0), (.int x1_0), (.int x2_0)] ∧ Z.Warmed39 U.vm ∧ U.heap = h0) (fun _ _ _ _ _ => True) (fun _ U o U' => ∃ v L, o = .returned v ∧ Q0 Z x0_0 x1_0 x2_0 h0 n0 v U'.heap L ∧ FrameEnd U o U' L 1 16) := by
  refine MetFree.of_bodySF (plainFor_of_name pn_1) hisR ?_
  intro p e s m args below meth c s₁ Bd hml0 hP hK
  obtain ⟨rfl, hZ, hh⟩ := hP
  have hx := Bd.exec
  have hby := Bd.bytes
  have hnl := BodyLoose.notSynchronized Bd
  have hml : c.maxLocals = 7 := hml0
  have hown : s.vm.findClass "com/example/flwor/flwor/model/XmlCharsIsCharPinLaw" = some m.cls := findClass_of_methodNamed Bd.named
  have hnm := (name_of_methodNamed Bd.named Bd.method).1
  have X0 : Stand p l e room_1 s m #[(.int x0_0), (.int x1_0), (.int x2_0)] below meth c s₁ [] 0 0 := Stand.of_body Bd
  have e0 : s₁.heap = h0 := by rw [← hh, Bd.state]; rfl
  have N0 := Fr.nil n0
  show own_Ends p.tables e below s (Q0 Z x0_0 x1_0 x2_0 h0 n0) 1 16 (s₁.setTop (entryFrame m #[(.int x0_0), (.int x1_0), (.int x2_0)] maxLocals))
  rw [ef_0 m x0_0 x1_0 x2_0]
  show own_Ends p.tables e below s _ _ _ (s₁.setTop (mkF m 0 #[.val (.int x0_0), .val (.int x1_0), .val (.int x2_0), .unset, .unset, .unset, .unset] []))
  refine own_step (fun t k => XS.bipush X0.here hx rfl (hb hby at_0) k) ?_
  show own_Ends p.tables e below s _ _ _ (s₁.setTop (mkF m 2 #[.val (.int x0_0), .val (.int x1_0), .val (.int x2_0), .unset, .unset, .unset, .unset] [(.int (16 : Int32))]))
  obtain ⟨T1, h1, k1, X1, e1, E1, A1, st1⟩ := newP X0 hx hZ (hw _ (List.mem_of_getElem? (i := 0) rfl)) e0 (g := (mkF m 2 #[.val (.int x0_0), .val (.int x1_0), .val (.int x2_0), .unset, .unset, .unset, .unset] [(.int (16 : Int32))])) rfl (hb hby at_2) rfl (by decide) (cap := 16) (by decide) (by decide) (by decide) (by decide)
  obtain ⟨b1, g1⟩ : ∃ z, z = h0.size := ⟨_, rfl⟩
  rw [← g1] at A1 st1
  have g_b1 : n0 ≤ b1 := Nat.le_trans (Nat.le_trans (Nat.le_of_eq O0.1.symm) O0.2.1) (Nat.le_of_eq g1.symm)
  have sz_b1 : h0.size ≤ b1 := Nat.le_trans (Keep.refl h0 []).1 (Nat.le_of_eq g1.symm)
  have V1 : Arv Z h1 b1 k1 .int (16 : Int32) [] (.int (0 : Int32)) := Arv.new A1 (by decide)
  have V1p : Arv Z h1 b1 k1 .int (16 : Int32) [(.int (0 : Int32)), (.int (0 : Int32)), (.int (0 : Int32)), (.int (0 : Int32)), (.int (0 : Int32)), (.int (0 : Int32)), (.int (0 : Int32)), (.int (0 : Int32)), (.int (0 : Int32)), (.int (0 : Int32)), (.int (0 : Int32)), (.int (0 : Int32)), (.int (0 : Int32)), (.int (0 : Int32)), (.int (0 : Int32)), (.int (0 : Int32))] (.int (0 : Int32)) := V1.pad (pad_rep [] (.int (0 : Int32)) 16)
  refine own_step (fun t k => st1 _ k) ?_
  have K2 : Keep h0 h1 [] := (Keep.refl h0 []).ext E1
  show own_Ends p.tables e below s _ _ _ (T1.setTop (mkF m 4 #[.val (.int x0_0), .val (.int x1_0), .val (.int x2_0), .unset, .unset, .unset, .unset] [(.ref b1)]))
  refine own_step (fun t k => XS.dup X1.here hx rfl (hb hby at_4) rfl rfl k) ?_
  show own_Ends p.tables e below s _ _ _ (T1.setTop (mkF m 5 #[.val (.int x0_0), .val (.int x1_0), .val (.int x2_0), .unset, .unset, .unset, .unset] [(.ref b1), (.ref b1)]))
  refine own_step (fun t k => XS.iconst X1.here hx rfl (hb hby at_5) k) ?_
  show own_Ends p.tables e below s _ _ _ (T1.setTop (mkF m 6 #[.val (.int x0_0), .val (.int x1_0), .val (.int x2_0), .unset, .unset, .unset, .unset] [(.int (0 : Int32)), (.ref b1), (.ref b1)]))
  refine own_step (fun t k => XS.bipush X1.here hx rfl (hb hby at_6) k) ?_
  show own_Ends p.tables e below s _ _ _ (T1.setTop (mkF m 8 #[.val (.int x0_0), .val (.int x1_0), .val (.int x2_0), .unset, .unset, .unset, .unset] [(.int (9 : Int32)), (.int (0 : Int32)), (.ref b1), (.ref b1)]))
  obtain ⟨cl3, Ar3, q3, S3, N3, H3, G3⟩ := id V1p
  have hin3 : ¬ ((0 : Int32) < 0 ∨ cl3.slots.size ≤ ((0 : Int32)).toNatClampNeg) := inb_of S3 ⟨by decide, by decide⟩
  obtain ⟨T4, h4, X4, e4, W4, st4⟩ := stI X1 hx hZ e1 Ar3 (j := (0 : Int32)) hin3 (g := (mkF m 8 #[.val (.int x0_0), .val (.int x1_0), .val (.int x2_0), .unset, .unset, .unset, .unset] [(.int (9 : Int32)), (.int (0 : Int32)), (.ref b1), (.ref b1)])) rfl rfl (hb hby at_8)
  refine own_step (fun t k => st4 _ k) ?_
  have V4 : Arv Z h4 b1 k1 .int (16 : Int32) [(.int (9 : Int32)), (.int (0 : Int32)), (.int (0 : Int32)), (.int (0 : Int32)), (.int (0 : Int32)), (.int (0 : Int32)), (.int (0 : Int32)), (.int (0 : Int32)), (.int (0 : Int32)), (.int (0 : Int32)), (.int (0 : Int32)), (.int (0 : Int32)), (.int (0 : Int32)), (.int (0 : Int32)), (.int (0 : Int32)), (.int (0 : Int32))] (.int (0 : Int32)) := Arv.set Ar3 q3 S3 N3 H3 G3 rfl W4 0 rfl (Nat.le_of_ble_eq_true rfl)
  have K5 : Keep h0 h4 [] := K2.wr W4 (Or.inr sz_b1)
  have N6 := Fr.snoc X4 N0 g_b1
  show own_Ends p.tables e below s _ _ _ (T4.setTop (mkF m 9 #[.val (.int x0_0), .val (.int x1_0), .val (.int x2_0), .unset, .unset, .unset, .unset] [(.ref b1)]))
  refine own_step (fun t k => XS.dup X4.here hx rfl (hb hby at_9) rfl rfl k) ?_
  show own_Ends p.tables e below s _ _ _ (T4.setTop (mkF m 10 #[.val (.int x0_0), .val (.int x1_0), .val (.int x2_0), .unset, .unset, .unset, .unset] [(.ref b1), (.ref b1)]))
  refine own_step (fun t k => XS.iconst X4.here hx rfl (hb hby at_10) k) ?_
  show own_Ends p.tables e below s _ _ _ (T4.setTop (mkF m 11 #[.val (.int x0_0), .val (.int x1_0), .val (.int x2_0), .unset, .unset, .unset, .unset] [(.int (1 : Int32)), (.ref b1), (.ref b1)]))
  refine own_step (fun t k => XS.bipush X4.here hx rfl (hb hby at_11) k) ?_
  show own_Ends p.tables e below s _ _ _ (T4.setTop (mkF m 13 #[.val (.int x0_0), .val (.int x1_0), .val (.int x2_0), .unset, .unset, .unset, .unset] [(.int (10 : Int32)), (.int (1 : Int32)), (.ref b1), (.ref b1)]))
  obtain ⟨cl7, Ar7, q7, S7, N7, H7, G7⟩ := id V4
  have hin7 : ¬ ((1 : Int32) < 0 ∨ cl7.slots.size ≤ ((1 : Int32)).toNatClampNeg) := inb_of S7 ⟨by decide, by decide⟩
  obtain ⟨T8, h8, X8, e8, W8, st8⟩ := stI X4 hx hZ e4 Ar7 (j := (1 : Int32)) hin7 (g := (mkF m 13 #[.val (.int x0_0), .val (.int x1_0), .val (.int x2_0), .unset, .unset, .unset, .unset] [(.int (10 : Int32)), (.int (1 : Int32)), (.ref b1), (.ref b1)])) rfl rfl (hb hby at_13)
  refine own_step (fun t k => st8 _ k) ?_
  have V8 : Arv Z h8 b1 k1 .int (16 : Int32) [(.int (9 : Int32)), (.int (10 : Int32)), (.int (0 : Int32)), (.int (0 : Int32)), (.int (0 : Int32)), (.int (0 : Int32)), (.int (0 : Int32)), (.int (0 : Int32)), (.int (0 : Int32)), (.int (0 : Int32)), (.int (0 : Int32)), (.int (0 : Int32)), (.int (0 : Int32)), (.int (0 : Int32)), (.int (0 : Int32)), (.int (0 : Int32))] (.int (0 : Int32)) := Arv.set Ar7 q7 S7 N7 H7 G7 rfl W8 1 rfl (Nat.le_of_ble_eq_true rfl)
  have K9 : Keep h0 h8 [] := K5.wr W8 (Or.inr sz_b1)
  have N10 := Fr.snoc X8 N6 g_b1
  show own_Ends p.tables e below s _ _ _ (T8.setTop (mkF m 14 #[.val (.int x0_0), .val (.int x1_0), .val (.int x2_0), .unset, .unset, .unset, .unset] [(.ref b1)]))
  refine own_step (fun t k => XS.dup X8.here hx rfl (hb hby at_14) rfl rfl k) ?_
  show own_Ends p.tables e below s _ _ _ (T8.setTop (mkF m 15 #[.val (.int x0_0), .val (.int x1_0), .val (.int x2_0), .unset, .unset, .unset, .unset] [(.ref b1), (.ref b1)]))
  refine own_step (fun t k => XS.iconst X8.here hx rfl (hb hby at_15) k) ?_
  show own_Ends p.tables e below s _ _ _ (T8.setTop (mkF m 16 #[.val (.int x0_0), .val (.int x1_0), .val (.int x2_0), .unset, .unset, .unset, .unset] [(.int (2 : Int32)), (.ref b1), (.ref b1)]))
  refine own_step (fun t k => XS.bipush X8.here hx rfl (hb hby at_16) k) ?_
  show own_Ends p.tables e below s _ _ _ (T8.setTop (mkF m 18 #[.val (.int x0_0), .val (.int x1_0), .val (.int x2_0), .unset, .unset, .unset, .unset] [(.int (13 : Int32)), (.int (2 : Int32)), (.ref b1), (.ref b1)]))
  obtain ⟨cl11, Ar11, q11, S11, N11, H11, G11⟩ := id V8
  have hin11 : ¬ ((2 : Int32) < 0 ∨ cl11.slots.size ≤ ((2 : Int32)).toNatClampNeg) := inb_of S11 ⟨by decide, by decide⟩
  obtain ⟨T12, h12, X12, e12, W12, st12⟩ := stI X8 hx hZ e8 Ar11 (j := (2 : Int32)) hin11 (g := (mkF m 18 #[.val (.int x0_0), .val (.int x1_0), .val (.int x2_0), .unset, .unset, .unset, .unset] [(.int (13 : Int32)), (.int (2 : Int32)), (.ref b1), (.ref b1)])) rfl rfl (hb hby at_18)
  refine own_step (fun t k => st12 _ k) ?_
  have V12 : Arv Z h12 b1 k1 .int (16 : Int32) [(.int (9 : Int32)), (.int (10 : Int32)), (.int (13 : Int32)), (.int (0 : Int32)), (.int (0 : Int32)), (.int (0 : Int32)), (.int (0 : Int32)), (.int (0 : Int32)), (.int (0 : Int32)), (.int (0 : Int32)), (.int (0 : Int32)), (.int (0 : Int32)), (.int (0 : Int32)), (.int (0 : Int32)), (.int (0 : Int32)), (.int (0 : Int32))] (.int (0 : Int32)) := Arv.set Ar11 q11 S11 N11 H11 G11 rfl W12 2 rfl (Nat.le_of_ble_eq_true rfl)
  have K13 : Keep h0 h12 [] := K9.wr W12 (Or.inr sz_b1)
  have N14 := Fr.snoc X12 N10 g_b1
  show own_Ends p.tables e below s _ _ _ (T12.setTop (mkF m 19 #[.val (.int x0_0), .val (.int x1_0), .val (.int x2_0), .unset, .unset, .unset, .unset] [(.ref b1)]))
  refine own_step (fun t k => XS.dup X12.here hx rfl (hb hby at_19) rfl rfl k) ?_
  show own_Ends p.tables e below s _ _ _ (T12.setTop (mkF m 20 #[.val (.int x0_0), .val (.int x1_0), .val (.int x2_0), .unset, .unset, .unset, .unset] [(.ref b1), (.ref b1)]))
  refine own_step (fun t k => XS.iconst X12.here hx rfl (hb hby at_20) k) ?_
  show own_Ends p.tables e below s _ _ _ (T12.setTop (mkF m 21 #[.val (.int x0_0), .val (.int x1_0), .val (.int x2_0), .unset, .unset, .unset, .unset] [(.int (3 : Int32)), (.ref b1), (.ref b1)]))
  refine own_step (fun t k => XS.bipush X12.here hx rfl (hb hby at_21) k) ?_
  show own_Ends p.tables e below s _ _ _ (T12.setTop (mkF m 23 #[.val (.int x0_0), .val (.int x1_0), .val (.int x2_0), .unset, .unset, .unset, .unset] [(.int (32 : Int32)), (.int (3 : Int32)), (.ref b1), (.ref b1)]))
  obtain ⟨cl15, Ar15, q15, S15, N15, H15, G15⟩ := id V12
  have hin15 : ¬ ((3 : Int32) < 0 ∨ cl15.slots.size ≤ ((3 : Int32)).toNatClampNeg) := inb_of S15 ⟨by decide, by decide⟩
  obtain ⟨T16, h16, X16, e16, W16, st16⟩ := stI X12 hx hZ e12 Ar15 (j := (3 : Int32)) hin15 (g := (mkF m 23 #[.val (.int x0_0), .val (.int x1_0), .val (.int x2_0), .unset, .unset, .unset, .unset] [(.int (32 : Int32)), (.int (3 : Int32)), (.ref b1), (.ref b1)])) rfl rfl (hb hby at_23)
  refine own_step (fun t k => st16 _ k) ?_
  have V16 : Arv Z h16 b1 k1 .int (16 : Int32) [(.int (9 : Int32)), (.int (10 : Int32)), (.int (13 : Int32)), (.int (32 : Int32)), (.int (0 : Int32)), (.int (0 : Int32)), (.int (0 : Int32)), (.int (0 : Int32)), (.int (0 : Int32)), (.int (0 : Int32)), (.int (0 : Int32)), (.int (0 : Int32)), (.int (0 : Int32)), (.int (0 : Int32)), (.int (0 : Int32)), (.int (0 : Int32))] (.int (0 : Int32)) := Arv.set Ar15 q15 S15 N15 H15 G15 rfl W16 3 rfl (Nat.le_of_ble_eq_true rfl)
  have K17 : Keep h0 h16 [] := K13.wr W16 (Or.inr sz_b1)
  have N18 := Fr.snoc X16 N14 g_b1
  show own_Ends p.tables e below s _ _ _ (T16.setTop (mkF m 24 #[.val (.int x0_0), .val (.int x1_0), .val (.int x2_0), .unset, .unset, .unset, .unset] [(.ref b1)]))
  refine own_step (fun t k => XS.dup X16.here hx rfl (hb hby at_24) rfl rfl k) ?_
  show own_Ends p.tables e below s _ _ _ (T16.setTop (mkF m 25 #[.val (.int x0_0), .val (.int x1_0), .val (.int x2_0), .unset, .unset, .unset, .unset] [(.ref b1), (.ref b1)]))
  refine own_step (fun t k => XS.iconst X16.here hx rfl (hb hby at_25) k) ?_
  show own_Ends p.tables e below s _ _ _ (T16.setTop (mkF m 26 #[.val (.int x0_0), .val (.int x1_0), .val (.int x2_0), .unset, .unset, .unset, .unset] [(.int (4 : Int32)), (.ref b1), (.ref b1)]))
  refine own_step (fun t k => X16.ldcInt hx hown (mvT hZ (hw _ (List.mem_of_getElem? (i := 1) rfl))) (g := (mkF m 26 #[.val (.int x0_0), .val (.int x1_0), .val (.int x2_0), .unset, .unset, .unset, .unset] [(.int (4 : Int32)), (.ref b1), (.ref b1)])) rfl (hb hby at_26) _ k) ?_
  show own_Ends p.tables e below s _ _ _ (T16.setTop (mkF m 28 #[.val (.int x0_0), .val (.int x1_0), .val (.int x2_0), .unset, .unset, .unset, .unset] [(.int (55295 : Int32)), (.int (4 : Int32)), (.ref b1), (.ref b1)]))
  obtain ⟨cl19, Ar19, q19, S19, N19, H19, G19⟩ := id V16
  have hin19 : ¬ ((4 : Int32) < 0 ∨ cl19.slots.size ≤ ((4 : Int32)).toNatClampNeg) := inb_of S19 ⟨by decide, by decide⟩
  obtain ⟨T20, h20, X20, e20, W20, st20⟩ := stI X16 hx hZ e16 Ar19 (j := (4 : Int32)) hin19 (g := (mkF m 28 #[.val (.int x0_0), .val (.int x1_0), .val (.int x2_0), .unset, .unset, .unset, .unset] [(.int (55295 : Int32)), (.int (4 : Int32)), (.ref b1), (.ref b1)])) rfl rfl (hb hby at_28)
  refine own_step (fun t k => st20 _ k) ?_
  have V20 : Arv Z h20 b1 k1 .int (16 : Int32) [(.int (9 : Int32)), (.int (10 : Int32)), (.int (13 : Int32)), (.int (32 : Int32)), (.int (55295 : Int32)), (.int (0 : Int32)), (.int (0 : Int32)), (.int (0 : Int32)), (.int (0 : Int32)), (.int (0 : Int32)), (.int (0 : Int32)), (.int (0 : Int32)), (.int (0 : Int32)), (.int (0 : Int32)), (.int (0 : Int32)), (.int (0 : Int32))] (.int (0 : Int32)) := Arv.set Ar19 q19 S19 N19 H19 G19 rfl W20 4 rfl (Nat.le_of_ble_eq_true rfl)
  have K21 : Keep h0 h20 [] := K17.wr W20 (Or.inr sz_b1)
  have N22 := Fr.snoc X20 N18 g_b1
  show own_Ends p.tables e below s _ _ _ (T20.setTop (mkF m 29 #[.val (.int x0_0), .val (.int x1_0), .val (.int x2_0), .unset, .unset, .unset, .unset] [(.ref b1)]))
  refine own_step (fun t k => XS.dup X20.here hx rfl (hb hby at_29) rfl rfl k) ?_
  show own_Ends p.tables e below s _ _ _ (T20.setTop (mkF m 30 #[.val (.int x0_0), .val (.int x1_0), .val (.int x2_0), .unset, .unset, .unset, .unset] [(.ref b1), (.ref b1)]))
  refine own_step (fun t k => XS.iconst X20.here hx rfl (hb hby at_30) k) ?_
  show own_Ends p.tables e below s _ _ _ (T20.setTop (mkF m 31 #[.val (.int x0_0), .val (.int x1_0), .val (.int x2_0), .unset, .unset, .unset, .unset] [(.int (5 : Int32)), (.ref b1), (.ref b1)]))
  refine own_step (fun t k => X20.ldcInt hx hown (mvT hZ (hw _ (List.mem_of_getElem? (i := 2) rfl))) (g := (mkF m 31 #[.val (.int x0_0), .val (.int x1_0), .val (.int x2_0), .unset, .unset, .unset, .unset] [(.int (5 : Int32)), (.ref b1), (.ref b1)])) rfl (hb hby at_31) _ k) ?_
  show own_Ends p.tables e below s _ _ _ (T20.setTop (mkF m 33 #[.val (.int x0_0), .val (.int x1_0), .val (.int x2_0), .unset, .unset, .unset, .unset] [(.int (55296 : Int32)), (.int (5 : Int32)), (.ref b1), (.ref b1)]))
  obtain ⟨cl23, Ar23, q23, S23, N23, H23, G23⟩ := id V20
  have hin23 : ¬ ((5 : Int32) < 0 ∨ cl23.slots.size ≤ ((5 : Int32)).toNatClampNeg) := inb_of S23 ⟨by decide, by decide⟩
  obtain ⟨T24, h24, X24, e24, W24, st24⟩ := stI X20 hx hZ e20 Ar23 (j := (5 : Int32)) hin23 (g := (mkF m 33 #[.val (.int x0_0), .val (.int x1_0), .val (.int x2_0), .unset, .unset, .unset, .unset] [(.int (55296 : Int32)), (.int (5 : Int32)), (.ref b1), (.ref b1)])) rfl rfl (hb hby at_33)
  refine own_step (fun t k => st24 _ k) ?_
  have V24 : Arv Z h24 b1 k1 .int (16 : Int32) [(.int (9 : Int32)), (.int (10 : Int32)), (.int (13 : Int32)), (.int (32 : Int32)), (.int (55295 : Int32)), (.int (55296 : Int32)), (.int (0 : Int32)), (.int (0 : Int32)), (.int (0 : Int32)), (.int (0 : Int32)), (.int (0 : Int32)), (.int (0 : Int32)), (.int (0 : Int32)), (.int (0 : Int32)), (.int (0 : Int32)), (.int (0 : Int32))] (.int (0 : Int32)) := Arv.set Ar23 q23 S23 N23 H23 G23 rfl W24 5 rfl (Nat.le_of_ble_eq_true rfl)
  have K25 : Keep h0 h24 [] := K21.wr W24 (Or.inr sz_b1)
  have N26 := Fr.snoc X24 N22 g_b1
  show own_Ends p.tables e below s _ _ _ (T24.setTop (mkF m 34 #[.val (.int x0_0), .val (.int x1_0), .val (.int x2_0), .unset, .unset, .unset, .unset] [(.ref b1)]))
  refine own_step (fun t k => XS.dup X24.here hx rfl (hb hby at_34) rfl rfl k) ?_
  show own_Ends p.tables e below s _ _ _ (T24.setTop (mkF m 35 #[.val (.int x0_0), .val (.int x1_0), .val (.int x2_0), .unset, .unset, .unset, .unset] [(.ref b1), (.ref b1)]))
  refine own_step (fun t k => XS.bipush X24.here hx rfl (hb hby at_35) k) ?_
  show own_Ends p.tables e below s _ _ _ (T24.setTop (mkF m 37 #[.val (.int x0_0), .val (.int x1_0), .val (.int x2_0), .unset, .unset, .unset, .unset] [(.int (6 : Int32)), (.ref b1), (.ref b1)]))
  refine own_step (fun t k => X24.ldcInt hx hown (mvT hZ (hw _ (List.mem_of_getElem? (i := 3) rfl))) (g := (mkF m 37 #[.val (.int x0_0), .val (.int x1_0), .val (.int x2_0), .unset, .unset, .unset, .unset] [(.int (6 : Int32)), (.ref b1), (.ref b1)])) rfl (hb hby at_37) _ k) ?_
  show own_Ends p.tables e below s _ _ _ (T24.setTop (mkF m 39 #[.val (.int x0_0), .val (.int x1_0), .val (.int x2_0), .unset, .unset, .unset, .unset] [(.int (57343 : Int32)), (.int (6 : Int32)), (.ref b1), (.ref b1)]))
  obtain ⟨cl27, Ar27, q27, S27, N27, H27, G27⟩ := id V24
  have hin27 : ¬ ((6 : Int32) < 0 ∨ cl27.slots.size ≤ ((6 : Int32)).toNatClampNeg) := inb_of S27 ⟨by decide, by decide⟩
  obtain ⟨T28, h28, X28, e28, W28, st28⟩ := stI X24 hx hZ e24 Ar27 (j := (6 : Int32)) hin27 (g := (mkF m 39 #[.val (.int x0_0), .val (.int x1_0), .val (.int x2_0), .unset, .unset, .unset, .unset] [(.int (57343 : Int32)), (.int (6 : Int32)), (.ref b1), (.ref b1)])) rfl rfl (hb hby at_39)
  refine own_step (fun t k => st28 _ k) ?_
  have V28 : Arv Z h28 b1 k1 .int (16 : Int32) [(.int (9 : Int32)), (.int (10 : Int32)), (.int (13 : Int32)), (.int (32 : Int32)), (.int (55295 : Int32)), (.int (55296 : Int32)), (.int (57343 : Int32)), (.int (0 : Int32)), (.int (0 : Int32)), (.int (0 : Int32)), (.int (0 : Int32)), (.int (0 : Int32)), (.int (0 : Int32)), (.int (0 : Int32)), (.int (0 : Int32)), (.int (0 : Int32))] (.int (0 : Int32)) := Arv.set Ar27 q27 S27 N27 H27 G27 rfl W28 6 rfl (Nat.le_of_ble_eq_true rfl)
  have K29 : Keep h0 h28 [] := K25.wr W28 (Or.inr sz_b1)
  have N30 := Fr.snoc X28 N26 g_b1
  show own_Ends p.tables e below s _ _ _ (T28.setTop (mkF m 40 #[.val (.int x0_0), .val (.int x1_0), .val (.int x2_0), .unset, .unset, .unset, .unset] [(.ref b1)]))
  refine own_step (fun t k => XS.dup X28.here hx rfl (hb hby at_40) rfl rfl k) ?_
  show own_Ends p.tables e below s _ _ _ (T28.setTop (mkF m 41 #[.val (.int x0_0), .val (.int x1_0), .val (.int x2_0), .unset, .unset, .unset, .unset] [(.ref b1), (.ref b1)]))
  refine own_step (fun t k => XS.bipush X28.here hx rfl (hb hby at_41) k) ?_
  show own_Ends p.tables e below s _ _ _ (T28.setTop (mkF m 43 #[.val (.int x0_0), .val (.int x1_0), .val (.int x2_0), .unset, .unset, .unset, .unset] [(.int (7 : Int32)), (.ref b1), (.ref b1)]))
  refine own_step (fun t k => X28.ldcInt hx hown (mvT hZ (hw _ (List.mem_of_getElem? (i := 4) rfl))) (g := (mkF m 43 #[.val (.int x0_0), .val (.int x1_0), .val (.int x2_0), .unset, .unset, .unset, .unset] [(.int (7 : Int32)), (.ref b1), (.ref b1)])) rfl (hb hby at_43) _ k) ?_
  show own_Ends p.tables e below s _ _ _ (T28.setTop (mkF m 45 #[.val (.int x0_0), .val (.int x1_0), .val (.int x2_0), .unset, .unset, .unset, .unset] [(.int (57344 : Int32)), (.int (7 : Int32)), (.ref b1), (.ref b1)]))
  obtain ⟨cl31, Ar31, q31, S31, N31, H31, G31⟩ := id V28
  have hin31 : ¬ ((7 : Int32) < 0 ∨ cl31.slots.size ≤ ((7 : Int32)).toNatClampNeg) := inb_of S31 ⟨by decide, by decide⟩
  obtain ⟨T32, h32, X32, e32, W32, st32⟩ := stI X28 hx hZ e28 Ar31 (j := (7 : Int32)) hin31 (g := (mkF m 45 #[.val (.int x0_0), .val (.int x1_0), .val (.int x2_0), .unset, .unset, .unset, .unset] [(.int (57344 : Int32)), (.int (7 : Int32)), (.ref b1), (.ref b1)])) rfl rfl (hb hby at_45)
  refine own_step (fun t k => st32 _ k) ?_
  have V32 : Arv Z h32 b1 k1 .int (16 : Int32) [(.int (9 : Int32)), (.int (10 : Int32)), (.int (13 : Int32)), (.int (32 : Int32)), (.int (55295 : Int32)), (.int (55296 : Int32)), (.int (57343 : Int32)), (.int (57344 : Int32)), (.int (0 : Int32)), (.int (0 : Int32)), (.int (0 : Int32)), (.int (0 : Int32)), (.int (0 : Int32)), (.int (0 : Int32)), (.int (0 : Int32)), (.int (0 : Int32))] (.int (0 : Int32)) := Arv.set Ar31 q31 S31 N31 H31 G31 rfl W32 7 rfl (Nat.le_of_ble_eq_true rfl)
  have K33 : Keep h0 h32 [] := K29.wr W32 (Or.inr sz_b1)
  have N34 := Fr.snoc X32 N30 g_b1
  show own_Ends p.tables e below s _ _ _ (T32.setTop (mkF m 46 #[.val (.int x0_0), .val (.int x1_0), .val (.int x2_0), .unset, .unset, .unset, .unset] [(.ref b1)]))
  refine own_step (fun t k => XS.dup X32.here hx rfl (hb hby at_46) rfl rfl k) ?_
  show own_Ends p.tables e below s _ _ _ (T32.setTop (mkF m 47 #[.val (.int x0_0), .val (.int x1_0), .val (.int x2_0), .unset, .unset, .unset, .unset] [(.ref b1), (.ref b1)]))
  refine own_step (fun t k => XS.bipush X32.here hx rfl (hb hby at_47) k) ?_
  show own_Ends p.tables e below s _ _ _ (T32.setTop (mkF m 49 #[.val (.int x0_0), .val (.int x1_0), .val (.int x2_0), .unset, .unset, .unset, .unset] [(.int (8 : Int32)), (.ref b1), (.ref b1)]))
  refine own_step (fun t k => X32.ldcInt hx hown (mvT hZ (hw _ (List.mem_of_getElem? (i := 5) rfl))) (g := (mkF m 49 #[.val (.int x0_0), .val (.int x1_0), .val (.int x2_0), .unset, .unset, .unset, .unset] [(.int (8 : Int32)), (.ref b1), (.ref b1)])) rfl (hb hby at_49) _ k) ?_
  show own_Ends p.tables e below s _ _ _ (T32.setTop (mkF m 51 #[.val (.int x0_0), .val (.int x1_0), .val (.int x2_0), .unset, .unset, .unset, .unset] [(.int (65533 : Int32)), (.int (8 : Int32)), (.ref b1), (.ref b1)]))
  obtain ⟨cl35, Ar35, q35, S35, N35, H35, G35⟩ := id V32
  have hin35 : ¬ ((8 : Int32) < 0 ∨ cl35.slots.size ≤ ((8 : Int32)).toNatClampNeg) := inb_of S35 ⟨by decide, by decide⟩
  obtain ⟨T36, h36, X36, e36, W36, st36⟩ := stI X32 hx hZ e32 Ar35 (j := (8 : Int32)) hin35 (g := (mkF m 51 #[.val (.int x0_0), .val (.int x1_0), .val (.int x2_0), .unset, .unset, .unset, .unset] [(.int (65533 : Int32)), (.int (8 : Int32)), (.ref b1), (.ref b1)])) rfl rfl (hb hby at_51)
  refine own_step (fun t k => st36 _ k) ?_
  have V36 : Arv Z h36 b1 k1 .int (16 : Int32) [(.int (9 : Int32)), (.int (10 : Int32)), (.int (13 : Int32)), (.int (32 : Int32)), (.int (55295 : Int32)), (.int (55296 : Int32)), (.int (57343 : Int32)), (.int (57344 : Int32)), (.int (65533 : Int32)), (.int (0 : Int32)), (.int (0 : Int32)), (.int (0 : Int32)), (.int (0 : Int32)), (.int (0 : Int32)), (.int (0 : Int32)), (.int (0 : Int32))] (.int (0 : Int32)) := Arv.set Ar35 q35 S35 N35 H35 G35 rfl W36 8 rfl (Nat.le_of_ble_eq_true rfl)
  have K37 : Keep h0 h36 [] := K33.wr W36 (Or.inr sz_b1)
  have N38 := Fr.snoc X36 N34 g_b1
  show own_Ends p.tables e below s _ _ _ (T36.setTop (mkF m 52 #[.val (.int x0_0), .val (.int x1_0), .val (.int x2_0), .unset, .unset, .unset, .unset] [(.ref b1)]))
  refine own_step (fun t k => XS.dup X36.here hx rfl (hb hby at_52) rfl rfl k) ?_
  show own_Ends p.tables e below s _ _ _ (T36.setTop (mkF m 53 #[.val (.int x0_0), .val (.int x1_0), .val (.int x2_0), .unset, .unset, .unset, .unset] [(.ref b1), (.ref b1)]))
  refine own_step (fun t k => XS.bipush X36.here hx rfl (hb hby at_53) k) ?_
  show own_Ends p.tables e below s _ _ _ (T36.setTop (mkF m 55 #[.val (.int x0_0), .val (.int x1_0), .val (.int x2_0), .unset, .unset, .unset, .unset] [(.int (9 : Int32)), (.ref b1), (.ref b1)]))
  refine own_step (fun t k => X36.ldcInt hx hown (mvT hZ (hw _ (List.mem_of_getElem? (i := 6) rfl))) (g := (mkF m 55 #[.val (.int x0_0), .val (.int x1_0), .val (.int x2_0), .unset, .unset, .unset, .unset] [(.int (9 : Int32)), (.ref b1), (.ref b1)])) rfl (hb hby at_55) _ k) ?_
  show own_Ends p.tables e below s _ _ _ (T36.setTop (mkF m 57 #[.val (.int x0_0), .val (.int x1_0), .val (.int x2_0), .unset, .unset, .unset, .unset] [(.int (65534 : Int32)), (.int (9 : Int32)), (.ref b1), (.ref b1)]))
  obtain ⟨cl39, Ar39, q39, S39, N39, H39, G39⟩ := id V36
  have hin39 : ¬ ((9 : Int32) < 0 ∨ cl39.slots.size ≤ ((9 : Int32)).toNatClampNeg) := inb_of S39 ⟨by decide, by decide⟩
  obtain ⟨T40, h40, X40, e40, W40, st40⟩ := stI X36 hx hZ e36 Ar39 (j := (9 : Int32)) hin39 (g := (mkF m 57 #[.val (.int x0_0), .val (.int x1_0), .val (.int x2_0), .unset, .unset, .unset, .unset] [(.int (65534 : Int32)), (.int (9 : Int32)), (.ref b1), (.ref b1)])) rfl rfl (hb hby at_57)
  refine own_step (fun t k => st40 _ k) ?_
  have V40 : Arv Z h40 b1 k1 .int (16 : Int32) [(.int (9 : Int32)), (.int (10 : Int32)), (.int (13 : Int32)), (.int (32 : Int32)), (.int (55295 : Int32)), (.int (55296 : Int32)), (.int (57343 : Int32)), (.int (57344 : Int32)), (.int (65533 : Int32)), (.int (65534 : Int32)), (.int (0 : Int32)), (.int (0 : Int32)), (.int (0 : Int32)), (.int (0 : Int32)), (.int (0 : Int32)), (.int (0 : Int32))] (.int (0 : Int32)) := Arv.set Ar39 q39 S39 N39 H39 G39 rfl W40 9 rfl (Nat.le_of_ble_eq_true rfl)
  have K41 : Keep h0 h40 [] := K37.wr W40 (Or.inr sz_b1)
  have N42 := Fr.snoc X40 N38 g_b1
  show own_Ends p.tables e below s _ _ _ (T40.setTop (mkF m 58 #[.val (.int x0_0), .val (.int x1_0), .val (.int x2_0), .unset, .unset, .unset, .unset] [(.ref b1)]))
  refine own_step (fun t k => XS.dup X40.here hx rfl (hb hby at_58) rfl rfl k) ?_
  show own_Ends p.tables e below s _ _ _ (T40.setTop (mkF m 59 #[.val (.int x0_0), .val (.int x1_0), .val (.int x2_0), .unset, .unset, .unset, .unset] [(.ref b1), (.ref b1)]))
  refine own_step (fun t k => XS.bipush X40.here hx rfl (hb hby at_59) k) ?_
  show own_Ends p.tables e below s _ _ _ (T40.setTop (mkF m 61 #[.val (.int x0_0), .val (.int x1_0), .val (.int x2_0), .unset, .unset, .unset, .unset] [(.int (10 : Int32)), (.ref b1), (.ref b1)]))
  refine own_step (fun t k => X40.ldcInt hx hown (mvT hZ (hw _ (List.mem_of_getElem? (i := 7) rfl))) (g := (mkF m 61 #[.val (.int x0_0), .val (.int x1_0), .val (.int x2_0), .unset, .unset, .unset, .unset] [(.int (10 : Int32)), (.ref b1), (.ref b1)])) rfl (hb hby at_61) _ k) ?_
  show own_Ends p.tables e below s _ _ _ (T40.setTop (mkF m 63 #[.val (.int x0_0), .val (.int x1_0), .val (.int x2_0), .unset, .unset, .unset, .unset] [(.int (65535 : Int32)), (.int (10 : Int32)), (.ref b1), (.ref b1)]))
  obtain ⟨cl43, Ar43, q43, S43, N43, H43, G43⟩ := id V40
  have hin43 : ¬ ((10 : Int32) < 0 ∨ cl43.slots.size ≤ ((10 : Int32)).toNatClampNeg) := inb_of S43 ⟨by decide, by decide⟩
  obtain ⟨T44, h44, X44, e44, W44, st44⟩ := stI X40 hx hZ e40 Ar43 (j := (10 : Int32)) hin43 (g := (mkF m 63 #[.val (.int x0_0), .val (.int x1_0), .val (.int x2_0), .unset, .unset, .unset, .unset] [(.int (65535 : Int32)), (.int (10 : Int32)), (.ref b1), (.ref b1)])) rfl rfl (hb hby at_63)
  refine own_step (fun t k => st44 _ k) ?_
  have V44 : Arv Z h44 b1 k1 .int (16 : Int32) [(.int (9 : Int32)), (.int (10 : Int32)), (.int (13 : Int32)), (.int (32 : Int32)), (.int (55295 : Int32)), (.int (55296 : Int32)), (.int (57343 : Int32)), (.int (57344 : Int32)), (.int (65533 : Int32)), (.int (65534 : Int32)), (.int (65535 : Int32)), (.int (0 : Int32)), (.int (0 : Int32)), (.int (0 : Int32)), (.int (0 : Int32)), (.int (0 : Int32))] (.int (0 : Int32)) := Arv.set Ar43 q43 S43 N43 H43 G43 rfl W44 10 rfl (Nat.le_of_ble_eq_true rfl)
  have K45 : Keep h0 h44 [] := K41.wr W44 (Or.inr sz_b1)
  have N46 := Fr.snoc X44 N42 g_b1
  show own_Ends p.tables e below s _ _ _ (T44.setTop (mkF m 64 #[.val (.int x0_0), .val (.int x1_0), .val (.int x2_0), .unset, .unset, .unset, .unset] [(.ref b1)]))
  refine own_step (fun t k => XS.dup X44.here hx rfl (hb hby at_64) rfl rfl k) ?_
  show own_Ends p.tables e below s _ _ _ (T44.setTop (mkF m 65 #[.val (.int x0_0), .val (.int x1_0), .val (.int x2_0), .unset, .unset, .unset, .unset] [(.ref b1), (.ref b1)]))
  refine own_step (fun t k => XS.bipush X44.here hx rfl (hb hby at_65) k) ?_
  show own_Ends p.tables e below s _ _ _ (T44.setTop (mkF m 67 #[.val (.int x0_0), .val (.int x1_0), .val (.int x2_0), .unset, .unset, .unset, .unset] [(.int (11 : Int32)), (.ref b1), (.ref b1)]))
  refine own_step (fun t k => X44.ldcInt hx hown (mvT hZ (hw _ (List.mem_of_getElem? (i := 8) rfl))) (g := (mkF m 67 #[.val (.int x0_0), .val (.int x1_0), .val (.int x2_0), .unset, .unset, .unset, .unset] [(.int (11 : Int32)), (.ref b1), (.ref b1)])) rfl (hb hby at_67) _ k) ?_
  show own_Ends p.tables e below s _ _ _ (T44.setTop (mkF m 69 #[.val (.int x0_0), .val (.int x1_0), .val (.int x2_0), .unset, .unset, .unset, .unset] [(.int (65536 : Int32)), (.int (11 : Int32)), (.ref b1), (.ref b1)]))
  obtain ⟨cl47, Ar47, q47, S47, N47, H47, G47⟩ := id V44
  have hin47 : ¬ ((11 : Int32) < 0 ∨ cl47.slots.size ≤ ((11 : Int32)).toNatClampNeg) := inb_of S47 ⟨by decide, by decide⟩
  obtain ⟨T48, h48, X48, e48, W48, st48⟩ := stI X44 hx hZ e44 Ar47 (j := (11 : Int32)) hin47 (g := (mkF m 69 #[.val (.int x0_0), .val (.int x1_0), .val (.int x2_0), .unset, .unset, .unset, .unset] [(.int (65536 : Int32)), (.int (11 : Int32)), (.ref b1), (.ref b1)])) rfl rfl (hb hby at_69)
  refine own_step (fun t k => st48 _ k) ?_
  have V48 : Arv Z h48 b1 k1 .int (16 : Int32) [(.int (9 : Int32)), (.int (10 : Int32)), (.int (13 : Int32)), (.int (32 : Int32)), (.int (55295 : Int32)), (.int (55296 : Int32)), (.int (57343 : Int32)), (.int (57344 : Int32)), (.int (65533 : Int32)), (.int (65534 : Int32)), (.int (65535 : Int32)), (.int (65536 : Int32)), (.int (0 : Int32)), (.int (0 : Int32)), (.int (0 : Int32)), (.int (0 : Int32))] (.int (0 : Int32)) := Arv.set Ar47 q47 S47 N47 H47 G47 rfl W48 11 rfl (Nat.le_of_ble_eq_true rfl)
  have K49 : Keep h0 h48 [] := K45.wr W48 (Or.inr sz_b1)
  have N50 := Fr.snoc X48 N46 g_b1
  show own_Ends p.tables e below s _ _ _ (T48.setTop (mkF m 70 #[.val (.int x0_0), .val (.int x1_0), .val (.int x2_0), .unset, .unset, .unset, .unset] [(.ref b1)]))
  refine own_step (fun t k => XS.dup X48.here hx rfl (hb hby at_70) rfl rfl k) ?_
  show own_Ends p.tables e below s _ _ _ (T48.setTop (mkF m 71 #[.val (.int x0_0), .val (.int x1_0), .val (.int x2_0), .unset, .unset, .unset, .unset] [(.ref b1), (.ref b1)]))
  refine own_step (fun t k => XS.bipush X48.here hx rfl (hb hby at_71) k) ?_
  show own_Ends p.tables e below s _ _ _ (T48.setTop (mkF m 73 #[.val (.int x0_0), .val (.int x1_0), .val (.int x2_0), .unset, .unset, .unset, .unset] [(.int (12 : Int32)), (.ref b1), (.ref b1)]))
  refine own_step (fun t k => X48.ldcInt hx hown (mvT hZ (hw _ (List.mem_of_getElem? (i := 9) rfl))) (g := (mkF m 73 #[.val (.int x0_0), .val (.int x1_0), .val (.int x2_0), .unset, .unset, .unset, .unset] [(.int (12 : Int32)), (.ref b1), (.ref b1)])) rfl (hb hby at_73) _ k) ?_
  show own_Ends p.tables e below s _ _ _ (T48.setTop (mkF m 75 #[.val (.int x0_0), .val (.int x1_0), .val (.int x2_0), .unset, .unset, .unset, .unset] [(.int (1114111 : Int32)), (.int (12 : Int32)), (.ref b1), (.ref b1)]))
  obtain ⟨cl51, Ar51, q51, S51, N51, H51, G51⟩ := id V48
  have hin51 : ¬ ((12 : Int32) < 0 ∨ cl51.slots.size ≤ ((12 : Int32)).toNatClampNeg) := inb_of S51 ⟨by decide, by decide⟩
  obtain ⟨T52, h52, X52, e52, W52, st52⟩ := stI X48 hx hZ e48 Ar51 (j := (12 : Int32)) hin51 (g := (mkF m 75 #[.val (.int x0_0), .val (.int x1_0), .val (.int x2_0), .unset, .unset, .unset, .unset] [(.int (1114111 : Int32)), (.int (12 : Int32)), (.ref b1), (.ref b1)])) rfl rfl (hb hby at_75)
  refine own_step (fun t k => st52 _ k) ?_
  have V52 : Arv Z h52 b1 k1 .int (16 : Int32) [(.int (9 : Int32)), (.int (10 : Int32)), (.int (13 : Int32)), (.int (32 : Int32)), (.int (55295 : Int32)), (.int (55296 : Int32)), (.int (57343 : Int32)), (.int (57344 : Int32)), (.int (65533 : Int32)), (.int (65534 : Int32)), (.int (65535 : Int32)), (.int (65536 : Int32)), (.int (1114111 : Int32)), (.int (0 : Int32)), (.int (0 : Int32)), (.int (0 : Int32))] (.int (0 : Int32)) := Arv.set Ar51 q51 S51 N51 H51 G51 rfl W52 12 rfl (Nat.le_of_ble_eq_true rfl)
  have K53 : Keep h0 h52 [] := K49.wr W52 (Or.inr sz_b1)
  have N54 := Fr.snoc X52 N50 g_b1
  show own_Ends p.tables e below s _ _ _ (T52.setTop (mkF m 76 #[.val (.int x0_0), .val (.int x1_0), .val (.int x2_0), .unset, .unset, .unset, .unset] [(.ref b1)]))
  refine own_step (fun t k => XS.dup X52.here hx rfl (hb hby at_76) rfl rfl k) ?_
  show own_Ends p.tables e below s _ _ _ (T52.setTop (mkF m 77 #[.val (.int x0_0), .val (.int x1_0), .val (.int x2_0), .unset, .unset, .unset, .unset] [(.ref b1), (.ref b1)]))
  refine own_step (fun t k => XS.bipush X52.here hx rfl (hb hby at_77) k) ?_
  show own_Ends p.tables e below s _ _ _ (T52.setTop (mkF m 79 #[.val (.int x0_0), .val (.int x1_0), .val (.int x2_0), .unset, .unset, .unset, .unset] [(.int (13 : Int32)), (.ref b1), (.ref b1)]))
  refine own_step (fun t k => X52.ldcInt hx hown (mvT hZ (hw _ (List.mem_of_getElem? (i := 10) rfl))) (g := (mkF m 79 #[.val (.int x0_0), .val (.int x1_0), .val (.int x2_0), .unset, .unset, .unset, .unset] [(.int (13 : Int32)), (.ref b1), (.ref b1)])) rfl (hb hby at_79) _ k) ?_
  show own_Ends p.tables e below s _ _ _ (T52.setTop (mkF m 81 #[.val (.int x0_0), .val (.int x1_0), .val (.int x2_0), .unset, .unset, .unset, .unset] [(.int (1114112 : Int32)), (.int (13 : Int32)), (.ref b1), (.ref b1)]))
  obtain ⟨cl55, Ar55, q55, S55, N55, H55, G55⟩ := id V52
  have hin55 : ¬ ((13 : Int32) < 0 ∨ cl55.slots.size ≤ ((13 : Int32)).toNatClampNeg) := inb_of S55 ⟨by decide, by decide⟩
  obtain ⟨T56, h56, X56, e56, W56, st56⟩ := stI X52 hx hZ e52 Ar55 (j := (13 : Int32)) hin55 (g := (mkF m 81 #[.val (.int x0_0), .val (.int x1_0), .val (.int x2_0), .unset, .unset, .unset, .unset] [(.int (1114112 : Int32)), (.int (13 : Int32)), (.ref b1), (.ref b1)])) rfl rfl (hb hby at_81)
  refine own_step (fun t k => st56 _ k) ?_
  have V56 : Arv Z h56 b1 k1 .int (16 : Int32) [(.int (9 : Int32)), (.int (10 : Int32)), (.int (13 : Int32)), (.int (32 : Int32)), (.int (55295 : Int32)), (.int (55296 : Int32)), (.int (57343 : Int32)), (.int (57344 : Int32)), (.int (65533 : Int32)), (.int (65534 : Int32)), (.int (65535 : Int32)), (.int (65536 : Int32)), (.int (1114111 : Int32)), (.int (1114112 : Int32)), (.int (0 : Int32)), (.int (0 : Int32))] (.int (0 : Int32)) := Arv.set Ar55 q55 S55 N55 H55 G55 rfl W56 13 rfl (Nat.le_of_ble_eq_true rfl)
  have K57 : Keep h0 h56 [] := K53.wr W56 (Or.inr sz_b1)
  have N58 := Fr.snoc X56 N54 g_b1
  show own_Ends p.tables e below s _ _ _ (T56.setTop (mkF m 82 #[.val (.int x0_0), .val (.int x1_0), .val (.int x2_0), .unset, .unset, .unset, .unset] [(.ref b1)]))
  refine own_step (fun t k => XS.dup X56.here hx rfl (hb hby at_82) rfl rfl k) ?_
  show own_Ends p.tables e below s _ _ _ (T56.setTop (mkF m 83 #[.val (.int x0_0), .val (.int x1_0), .val (.int x2_0), .unset, .unset, .unset, .unset] [(.ref b1), (.ref b1)]))
  refine own_step (fun t k => XS.bipush X56.here hx rfl (hb hby at_83) k) ?_
  show own_Ends p.tables e below s _ _ _ (T56.setTop (mkF m 85 #[.val (.int x0_0), .val (.int x1_0), .val (.int x2_0), .unset, .unset, .unset, .unset] [(.int (14 : Int32)), (.ref b1), (.ref b1)]))
  refine own_step (fun t k => XS.iconst X56.here hx rfl (hb hby at_85) k) ?_
  show own_Ends p.tables e below s _ _ _ (T56.setTop (mkF m 86 #[.val (.int x0_0), .val (.int x1_0), .val (.int x2_0), .unset, .unset, .unset, .unset] [(.int (0 : Int32)), (.int (14 : Int32)), (.ref b1), (.ref b1)]))
  obtain ⟨cl59, Ar59, q59, S59, N59, H59, G59⟩ := id V56
  have hin59 : ¬ ((14 : Int32) < 0 ∨ cl59.slots.size ≤ ((14 : Int32)).toNatClampNeg) := inb_of S59 ⟨by decide, by decide⟩
  obtain ⟨T60, h60, X60, e60, W60, st60⟩ := stI X56 hx hZ e56 Ar59 (j := (14 : Int32)) hin59 (g := (mkF m 86 #[.val (.int x0_0), .val (.int x1_0), .val (.int x2_0), .unset, .unset, .unset, .unset] [(.int (0 : Int32)), (.int (14 : Int32)), (.ref b1), (.ref b1)])) rfl rfl (hb hby at_86)
  refine own_step (fun t k => st60 _ k) ?_
  have V60 : Arv Z h60 b1 k1 .int (16 : Int32) [(.int (9 : Int32)), (.int (10 : Int32)), (.int (13 : Int32)), (.int (32 : Int32)), (.int (55295 : Int32)), (.int (55296 : Int32)), (.int (57343 : Int32)), (.int (57344 : Int32)), (.int (65533 : Int32)), (.int (65534 : Int32)), (.int (65535 : Int32)), (.int (65536 : Int32)), (.int (1114111 : Int32)), (.int (1114112 : Int32)), (.int (0 : Int32)), (.int (0 : Int32))] (.int (0 : Int32)) := Arv.set Ar59 q59 S59 N59 H59 G59 rfl W60 14 rfl (Nat.le_of_ble_eq_true rfl)
  have K61 : Keep h0 h60 [] := K57.wr W60 (Or.inr sz_b1)
  have N62 := Fr.snoc X60 N58 g_b1
  show own_Ends p.tables e below s _ _ _ (T60.setTop (mkF m 87 #[.val (.int x0_0), .val (.int x1_0), .val (.int x2_0), .unset, .unset, .unset, .unset] [(.ref b1)]))
  refine own_step (fun t k => XS.dup X60.here hx rfl (hb hby at_87) rfl rfl k) ?_
  show own_Ends p.tables e below s _ _ _ (T60.setTop (mkF m 88 #[.val (.int x0_0), .val (.int x1_0), .val (.int x2_0), .unset, .unset, .unset, .unset] [(.ref b1), (.ref b1)]))
  refine own_step (fun t k => XS.bipush X60.here hx rfl (hb hby at_88) k) ?_
  show own_Ends p.tables e below s _ _ _ (T60.setTop (mkF m 90 #[.val (.int x0_0), .val (.int x1_0), .val (.int x2_0), .unset, .unset, .unset, .unset] [(.int (15 : Int32)), (.ref b1), (.ref b1)]))
  refine own_step (fun t k => X60.ldcInt hx hown (mvT hZ (hw _ (List.mem_of_getElem? (i := 11) rfl))) (g := (mkF m 90 #[.val (.int x0_0), .val (.int x1_0), .val (.int x2_0), .unset, .unset, .unset, .unset] [(.int (15 : Int32)), (.ref b1), (.ref b1)])) rfl (hb hby at_90) _ k) ?_
  show own_Ends p.tables e below s _ _ _ (T60.setTop (mkF m 92 #[.val (.int x0_0), .val (.int x1_0), .val (.int x2_0), .unset, .unset, .unset, .unset] [(.int (-2147483648 : Int32)), (.int (15 : Int32)), (.ref b1), (.ref b1)]))
  obtain ⟨cl63, Ar63, q63, S63, N63, H63, G63⟩ := id V60
  have hin63 : ¬ ((15 : Int32) < 0 ∨ cl63.slots.size ≤ ((15 : Int32)).toNatClampNeg) := inb_of S63 ⟨by decide, by decide⟩
  obtain ⟨T64, h64, X64, e64, W64, st64⟩ := stI X60 hx hZ e60 Ar63 (j := (15 : Int32)) hin63 (g := (mkF m 92 #[.val (.int x0_0), .val (.int x1_0), .val (.int x2_0), .unset, .unset, .unset, .unset] [(.int (-2147483648 : Int32)), (.int (15 : Int32)), (.ref b1), (.ref b1)])) rfl rfl (hb hby at_92)
  refine own_step (fun t k => st64 _ k) ?_
  have V64 : Arv Z h64 b1 k1 .int (16 : Int32) [(.int (9 : Int32)), (.int (10 : Int32)), (.int (13 : Int32)), (.int (32 : Int32)), (.int (55295 : Int32)), (.int (55296 : Int32)), (.int (57343 : Int32)), (.int (57344 : Int32)), (.int (65533 : Int32)), (.int (65534 : Int32)), (.int (65535 : Int32)), (.int (65536 : Int32)), (.int (1114111 : Int32)), (.int (1114112 : Int32)), (.int (0 : Int32)), (.int (-2147483648 : Int32))] (.int (0 : Int32)) := Arv.set Ar63 q63 S63 N63 H63 G63 rfl W64 15 rfl (Nat.le_of_ble_eq_true rfl)
  have K65 : Keep h0 h64 [] := K61.wr W64 (Or.inr sz_b1)
  have N66 := Fr.snoc X64 N62 g_b1
  show own_Ends p.tables e below s _ _ _ (T64.setTop (mkF m 93 #[.val (.int x0_0), .val (.int x1_0), .val (.int x2_0), .unset, .unset, .unset, .unset] [(.ref b1)]))
  refine own_step (fun t k => XS.astoreN X64.here hx rfl (hb hby at_93) rfl rfl (l' := #[.val (.int x0_0), .val (.int x1_0), .val (.int x2_0), .val (.ref b1), .unset, .unset, .unset]) rfl k) ?_
  show own_Ends p.tables e below s _ _ _ (T64.setTop (mkF m 94 #[.val (.int x0_0), .val (.int x1_0), .val (.int x2_0), .val (.ref b1), .unset, .unset, .unset] []))
  refine own_step (fun t k => XS.iloadN X64.here hx rfl (hb hby at_94) rfl k) ?_
  show own_Ends p.tables e below s _ _ _ (T64.setTop (mkF m 95 #[.val (.int x0_0), .val (.int x1_0), .val (.int x2_0), .val (.ref b1), .unset, .unset, .unset] [(.int x2_0)]))
  refine own_step (fun t k => XS.iconst X64.here hx rfl (hb hby at_95) k) ?_
  show own_Ends p.tables e below s _ _ _ (T64.setTop (mkF m 96 #[.val (.int x0_0), .val (.int x1_0), .val (.int x2_0), .val (.ref b1), .unset, .unset, .unset] [(.int (1 : Int32)), (.int x2_0)]))
  refine own_step (fun t k => XS.iand X64.here hx rfl (hb hby at_96) rfl k) ?_
  show own_Ends p.tables e below s _ _ _ (T64.setTop (mkF m 97 #[.val (.int x0_0), .val (.int x1_0), .val (.int x2_0), .val (.ref b1), .unset, .unset, .unset] [(.int (x2_0 &&& (1 : Int32)))]))
  by_cases hc97_67 : (x2_0 &&& (1 : Int32)) = (0 : Int32)
  · skip
    refine own_step (fun t k => XS.ifYes X64.here hx rfl (pc0 := 97) (pc' := 106) rfl (hb hby at_97) rfl ((if0 _ _).trans (teq hc97_67).1) (by decide) (by decide) k) ?_
    show own_Ends p.tables e below s _ _ _ (T64.setTop (mkF m 106 #[.val (.int x0_0), .val (.int x1_0), .val (.int x2_0), .val (.ref b1), .unset, .unset, .unset] []))
    refine own_step (fun t k => XS.iloadN X64.here hx rfl (hb hby at_106) rfl k) ?_
    show own_Ends p.tables e below s _ _ _ (T64.setTop (mkF m 107 #[.val (.int x0_0), .val (.int x1_0), .val (.int x2_0), .val (.ref b1), .unset, .unset, .unset] [(.int x1_0)]))
    refine own_step (fun t k => X64.ldcInt hx hown (mvT hZ (hw _ (List.mem_of_getElem? (i := 12) rfl))) (g := (mkF m 107 #[.val (.int x0_0), .val (.int x1_0), .val (.int x2_0), .val (.ref b1), .unset, .unset, .unset] [(.int x1_0)])) rfl (hb hby at_107) _ k) ?_
    show own_Ends p.tables e below s _ _ _ (T64.setTop (mkF m 109 #[.val (.int x0_0), .val (.int x1_0), .val (.int x2_0), .val (.ref b1), .unset, .unset, .unset] [(.int (2147483647 : Int32)), (.int x1_0)]))
    refine own_step (fun t k => XS.iand X64.here hx rfl (hb hby at_109) rfl k) ?_
    show own_Ends p.tables e below s _ _ _ (T64.setTop (mkF m 110 #[.val (.int x0_0), .val (.int x1_0), .val (.int x2_0), .val (.ref b1), .unset, .unset, .unset] [(.int (x1_0 &&& (2147483647 : Int32)))]))
    refine own_step (fun t k => XS.bipush X64.here hx rfl (hb hby at_110) k) ?_
    show own_Ends p.tables e below s _ _ _ (T64.setTop (mkF m 112 #[.val (.int x0_0), .val (.int x1_0), .val (.int x2_0), .val (.ref b1), .unset, .unset, .unset] [(.int (16 : Int32)), (.int (x1_0 &&& (2147483647 : Int32)))]))
    refine own_step (fun t k => iremM X64 hx rfl (hb hby at_112) rfl (by decide) k) ?_
    show own_Ends p.tables e below s _ _ _ (T64.setTop (mkF m 113 #[.val (.int x0_0), .val (.int x1_0), .val (.int x2_0), .val (.ref b1), .unset, .unset, .unset] [(.int ((x1_0 &&& (2147483647 : Int32)) % (16 : Int32)))]))
    generalize hidx : ((x1_0 &&& (2147483647 : Int32)) % (16 : Int32)) = idx
    show own_Ends p.tables e below s _ _ _ (T64.setTop (mkF m 113 #[.val (.int x0_0), .val (.int x1_0), .val (.int x2_0), .val (.ref b1), .unset, .unset, .unset] [(.int idx)]))
    refine own_step (fun t k => XS.istore X64.here hx rfl (hb hby at_113) rfl (l' := #[.val (.int x0_0), .val (.int x1_0), .val (.int x2_0), .val (.ref b1), .unset, .val (.int idx), .unset]) rfl k) ?_
    show own_Ends p.tables e below s _ _ _ (T64.setTop (mkF m 115 #[.val (.int x0_0), .val (.int x1_0), .val (.int x2_0), .val (.ref b1), .unset, .val (.int idx), .unset] []))
    refine own_step (fun t k => XS.iloadN X64.here hx rfl (hb hby at_115) rfl k) ?_
    show own_Ends p.tables e below s _ _ _ (T64.setTop (mkF m 116 #[.val (.int x0_0), .val (.int x1_0), .val (.int x2_0), .val (.ref b1), .unset, .val (.int idx), .unset] [(.int x1_0)]))
    refine own_step (fun t k => XS.iconst X64.here hx rfl (hb hby at_116) k) ?_
    show own_Ends p.tables e below s _ _ _ (T64.setTop (mkF m 117 #[.val (.int x0_0), .val (.int x1_0), .val (.int x2_0), .val (.ref b1), .unset, .val (.int idx), .unset] [(.int (4 : Int32)), (.int x1_0)]))
    refine own_step (fun t k => XS.iushr X64.here hx rfl (hb hby at_117) rfl k) ?_
    show own_Ends p.tables e below s _ _ _ (T64.setTop (mkF m 118 #[.val (.int x0_0), .val (.int x1_0), .val (.int x2_0), .val (.ref b1), .unset, .val (.int idx), .unset] [(.int ((x1_0.toUInt32 >>> ((4 : Int32) &&& 31).toUInt32).toInt32))]))
    refine own_step (fun t k => XS.bipush X64.here hx rfl (hb hby at_118) k) ?_
    show own_Ends p.tables e below s _ _ _ (T64.setTop (mkF m 120 #[.val (.int x0_0), .val (.int x1_0), .val (.int x2_0), .val (.ref b1), .unset, .val (.int idx), .unset] [(.int (7 : Int32)), (.int ((x1_0.toUInt32 >>> ((4 : Int32) &&& 31).toUInt32).toInt32))]))
    refine own_step (fun t k => XS.iand X64.here hx rfl (hb hby at_120) rfl k) ?_
    show own_Ends p.tables e below s _ _ _ (T64.setTop (mkF m 121 #[.val (.int x0_0), .val (.int x1_0), .val (.int x2_0), .val (.ref b1), .unset, .val (.int idx), .unset] [(.int (((x1_0.toUInt32 >>> ((4 : Int32) &&& 31).toUInt32).toInt32) &&& (7 : Int32)))]))
    refine own_step (fun t k => XS.iconst X64.here hx rfl (hb hby at_121) k) ?_
    show own_Ends p.tables e below s _ _ _ (T64.setTop (mkF m 122 #[.val (.int x0_0), .val (.int x1_0), .val (.int x2_0), .val (.ref b1), .unset, .val (.int idx), .unset] [(.int (5 : Int32)), (.int (((x1_0.toUInt32 >>> ((4 : Int32) &&& 31).toUInt32).toInt32) &&& (7 : Int32)))]))
    refine own_step (fun t k => iremM X64 hx rfl (hb hby at_122) rfl (by decide) k) ?_
    show own_Ends p.tables e below s _ _ _ (T64.setTop (mkF m 123 #[.val (.int x0_0), .val (.int x1_0), .val (.int x2_0), .val (.ref b1), .unset, .val (.int idx), .unset] [(.int ((((x1_0.toUInt32 >>> ((4 : Int32) &&& 31).toUInt32).toInt32) &&& (7 : Int32)) % (5 : Int32)))]))
    refine own_step (fun t k => XS.iconst X64.here hx rfl (hb hby at_123) k) ?_
    show own_Ends p.tables e below s _ _ _ (T64.setTop (mkF m 124 #[.val (.int x0_0), .val (.int x1_0), .val (.int x2_0), .val (.ref b1), .unset, .val (.int idx), .unset] [(.int (2 : Int32)), (.int ((((x1_0.toUInt32 >>> ((4 : Int32) &&& 31).toUInt32).toInt32) &&& (7 : Int32)) % (5 : Int32)))]))
    refine own_step (fun t k => XS.isub X64.here hx rfl (hb hby at_124) rfl k) ?_
    show own_Ends p.tables e below s _ _ _ (T64.setTop (mkF m 125 #[.val (.int x0_0), .val (.int x1_0), .val (.int x2_0), .val (.ref b1), .unset, .val (.int idx), .unset] [(.int (((((x1_0.toUInt32 >>> ((4 : Int32) &&& 31).toUInt32).toInt32) &&& (7 : Int32)) % (5 : Int32)) - (2 : Int32)))]))
    refine own_step (fun t k => XS.istore X64.here hx rfl (hb hby at_125) rfl (l' := #[.val (.int x0_0), .val (.int x1_0), .val (.int x2_0), .val (.ref b1), .unset, .val (.int idx), .val (.int (((((x1_0.toUInt32 >>> ((4 : Int32) &&& 31).toUInt32).toInt32) &&& (7 : Int32)) % (5 : Int32)) - (2 : Int32)))]) rfl k) ?_
    show own_Ends p.tables e below s _ _ _ (T64.setTop (mkF m 127 #[.val (.int x0_0), .val (.int x1_0), .val (.int x2_0), .val (.ref b1), .unset, .val (.int idx), .val (.int (((((x1_0.toUInt32 >>> ((4 : Int32) &&& 31).toUInt32).toInt32) &&& (7 : Int32)) % (5 : Int32)) - (2 : Int32)))] []))
    refine own_step (fun t k => XS.aloadN X64.here hx rfl (hb hby at_127) rfl rfl k) ?_
    show own_Ends p.tables e below s _ _ _ (T64.setTop (mkF m 128 #[.val (.int x0_0), .val (.int x1_0), .val (.int x2_0), .val (.ref b1), .unset, .val (.int idx), .val (.int (((((x1_0.toUInt32 >>> ((4 : Int32) &&& 31).toUInt32).toInt32) &&& (7 : Int32)) % (5 : Int32)) - (2 : Int32)))] [(.ref b1)]))
    refine own_step (fun t k => XS.iload X64.here hx rfl (hb hby at_128) rfl k) ?_
    show own_Ends p.tables e below s _ _ _ (T64.setTop (mkF m 130 #[.val (.int x0_0), .val (.int x1_0), .val (.int x2_0), .val (.ref b1), .unset, .val (.int idx), .val (.int (((((x1_0.toUInt32 >>> ((4 : Int32) &&& 31).toUInt32).toInt32) &&& (7 : Int32)) % (5 : Int32)) - (2 : Int32)))] [(.int idx), (.ref b1)]))
    obtain ⟨cl68, Ar68, q68, S68, N68, H68, G68⟩ := id V64
    have hin68 : ¬ (idx < 0 ∨ cl68.slots.size ≤ (idx).toNatClampNeg) := inb_of S68 (by rw [← hidx]; exact own_idx _ 16 (by decide))
    obtain ⟨rd, hrd⟩ := fit_I (G68 _ (Nat.lt_of_not_le (fun q => hin68 (Or.inr q)))) (Or.inl rfl)
    have hat68 : cl68.slots[(idx).toNatClampNeg]? = some (.int rd) := H68.at hin68 hrd
    refine own_step (fun t k => X64.iaload hx (j := idx) (v := (.int rd)) (by rw [e64]; exact Ar68.1) (State.isArrayOf_alike hZ.alike Ar68.2.1) Ar68.2.2 hin68 hat68 (g := (mkF m 130 #[.val (.int x0_0), .val (.int x1_0), .val (.int x2_0), .val (.ref b1), .unset, .val (.int idx), .val (.int (((((x1_0.toUInt32 >>> ((4 : Int32) &&& 31).toUInt32).toInt32) &&& (7 : Int32)) % (5 : Int32)) - (2 : Int32)))] [(.int idx), (.ref b1)])) rfl rfl (hb hby at_130) _ k) ?_
    show own_Ends p.tables e below s _ _ _ (T64.setTop (mkF m 131 #[.val (.int x0_0), .val (.int x1_0), .val (.int x2_0), .val (.ref b1), .unset, .val (.int idx), .val (.int (((((x1_0.toUInt32 >>> ((4 : Int32) &&& 31).toUInt32).toInt32) &&& (7 : Int32)) % (5 : Int32)) - (2 : Int32)))] [(.int rd)]))
    refine own_step (fun t k => XS.iload X64.here hx rfl (hb hby at_131) rfl k) ?_
    show own_Ends p.tables e below s _ _ _ (T64.setTop (mkF m 133 #[.val (.int x0_0), .val (.int x1_0), .val (.int x2_0), .val (.ref b1), .unset, .val (.int idx), .val (.int (((((x1_0.toUInt32 >>> ((4 : Int32) &&& 31).toUInt32).toInt32) &&& (7 : Int32)) % (5 : Int32)) - (2 : Int32)))] [(.int (((((x1_0.toUInt32 >>> ((4 : Int32) &&& 31).toUInt32).toInt32) &&& (7 : Int32)) % (5 : Int32)) - (2 : Int32))), (.int rd)]))
    refine own_step (fun t k => XS.iadd X64.here hx rfl (hb hby at_133) rfl k) ?_
    show own_Ends p.tables e below s _ _ _ (T64.setTop (mkF m 134 #[.val (.int x0_0), .val (.int x1_0), .val (.int x2_0), .val (.ref b1), .unset, .val (.int idx), .val (.int (((((x1_0.toUInt32 >>> ((4 : Int32) &&& 31).toUInt32).toInt32) &&& (7 : Int32)) % (5 : Int32)) - (2 : Int32)))] [(.int (rd + (((((x1_0.toUInt32 >>> ((4 : Int32) &&& 31).toUInt32).toInt32) &&& (7 : Int32)) % (5 : Int32)) - (2 : Int32))))]))
    generalize hcp : (rd + (((((x1_0.toUInt32 >>> ((4 : Int32) &&& 31).toUInt32).toInt32) &&& (7 : Int32)) % (5 : Int32)) - (2 : Int32))) = cp
    show own_Ends p.tables e below s _ _ _ (T64.setTop (mkF m 134 #[.val (.int x0_0), .val (.int x1_0), .val (.int x2_0), .val (.ref b1), .unset, .val (.int idx), .val (.int (((((x1_0.toUInt32 >>> ((4 : Int32) &&& 31).toUInt32).toInt32) &&& (7 : Int32)) % (5 : Int32)) - (2 : Int32)))] [(.int cp)]))
    refine own_step (fun t k => XS.istore X64.here hx rfl (hb hby at_134) rfl (l' := #[.val (.int x0_0), .val (.int x1_0), .val (.int x2_0), .val (.ref b1), .val (.int cp), .val (.int idx), .val (.int (((((x1_0.toUInt32 >>> ((4 : Int32) &&& 31).toUInt32).toInt32) &&& (7 : Int32)) % (5 : Int32)) - (2 : Int32)))]) rfl k) ?_
    show own_Ends p.tables e below s _ _ _ (T64.setTop (mkF m 136 #[.val (.int x0_0), .val (.int x1_0), .val (.int x2_0), .val (.ref b1), .val (.int cp), .val (.int idx), .val (.int (((((x1_0.toUInt32 >>> ((4 : Int32) &&& 31).toUInt32).toInt32) &&& (7 : Int32)) % (5 : Int32)) - (2 : Int32)))] []))
    refine own_step (fun t k => XS.iload X64.here hx rfl (hb hby at_136) rfl k) ?_
    show own_Ends p.tables e below s _ _ _ (T64.setTop (mkF m 138 #[.val (.int x0_0), .val (.int x1_0), .val (.int x2_0), .val (.ref b1), .val (.int cp), .val (.int idx), .val (.int (((((x1_0.toUInt32 >>> ((4 : Int32) &&& 31).toUInt32).toInt32) &&& (7 : Int32)) % (5 : Int32)) - (2 : Int32)))] [(.int cp)]))
    have O69 : Old Z n0 h64 := (((((((((((((((((O0.ext E1).wr W4 g_b1).wr W8 g_b1).wr W12 g_b1).wr W16 g_b1).wr W20 g_b1).wr W24 g_b1).wr W28 g_b1).wr W32 g_b1).wr W36 g_b1).wr W40 g_b1).wr W44 g_b1).wr W48 g_b1).wr W52 g_b1).wr W56 g_b1).wr W60 g_b1).wr W64 g_b1)
    obtain ⟨_, _, ⟨T70, L70, k70, n70⟩, -, X70, ⟨Lc70, hQ70, l70, y70, z70⟩, st70⟩ := Jvm.LawKit.callS X64 hx (y := (⟨"com/example/flwor/flwor/model/XmlChars", "isChar", "(I)Z"⟩ : MethodName)) hown (mvT hZ (hw _ (List.mem_of_getElem? (i := 13) rfl))) (mvT hZ (hw _ (List.mem_of_getElem? (i := 14) rfl))) (mvT hZ (hw _ (List.mem_of_getElem? (i := 15) rfl))) (mvT hZ (hw _ (List.mem_of_getElem? (i := 16) rfl))) (by decide) (backOf (W := 0) (rm1 l Z a0 hw [] cp h64 n0 O69 ) hZ (hw _ (List.mem_of_getElem? (i := 16) rfl)) (hw _ (List.mem_of_getElem? (i := 15) rfl)) (by decide) (by decide)) (g := (mkF m 138 #[.val (.int x0_0), .val (.int x1_0), .val (.int x2_0), .val (.ref b1), .val (.int cp), .val (.int idx), .val (.int (((((x1_0.toUInt32 >>> ((4 : Int32) &&& 31).toUInt32).toInt32) &&& (7 : Int32)) % (5 : Int32)) - (2 : Int32)))] [(.int cp)])) rfl (by rw [hml]; rfl) (argsL := [(.int cp)]) (rest := []) (lenOf pd_0 rfl) rfl (by show 2 * 0 + _ ≤ _; exact Nat.le_of_eq rfl) (hb hby at_138) (fun _ _ => ⟨rfl, e64, (by decide : 1 + 0 ≤ _), (by decide : 16 + 0 ≤ _)⟩)
    dsimp only [Pt.U, Pt.locs, Pt.cells, Pt.slots] at X70 l70 y70 z70 st70 hQ70
    subst l70 y70 z70
    obtain ⟨rfl, N70q, e70⟩ := hQ70
    refine own_step (fun t k => st70 _ k) ?_
    have N71 := Fr.app N66 N70q
    show own_Ends p.tables e below s _ _ _ (T70.setTop (mkF m 141 #[.val (.int x0_0), .val (.int x1_0), .val (.int x2_0), .val (.ref b1), .val (.int cp), .val (.int idx), .val (.int (((((x1_0.toUInt32 >>> ((4 : Int32) &&& 31).toUInt32).toInt32) &&& (7 : Int32)) % (5 : Int32)) - (2 : Int32)))] [(.int (own_r1 cp))]))
    refine own_step (fun t k => XS.iload X70.here hx rfl (hb hby at_141) rfl k) ?_
    show own_Ends p.tables e below s _ _ _ (T70.setTop (mkF m 143 #[.val (.int x0_0), .val (.int x1_0), .val (.int x2_0), .val (.ref b1), .val (.int cp), .val (.int idx), .val (.int (((((x1_0.toUInt32 >>> ((4 : Int32) &&& 31).toUInt32).toInt32) &&& (7 : Int32)) % (5 : Int32)) - (2 : Int32)))] [(.int cp), (.int (own_r1 cp))]))
    obtain ⟨_, _, ⟨T72, L72, k72, n72⟩, -, X72, ⟨Lc72, hQ72, l72, y72, z72⟩, st72⟩ := Jvm.LawKit.callS X70 hx (y := (⟨"com/example/flwor/flwor/model/XmlCharsIsCharPinLaw", "excluded", "(I)Z"⟩ : MethodName)) hown (mvT hZ (hw _ (List.mem_of_getElem? (i := 19) rfl))) (mvT hZ (hw _ (List.mem_of_getElem? (i := 20) rfl))) (mvT hZ (hw _ (List.mem_of_getElem? (i := 21) rfl))) (mvT hZ (hw _ (List.mem_of_getElem? (i := 22) rfl))) (by decide) (backOf (W := 1) (rm2 l Z a0 hw [] cp h64 n0 O69 ) hZ (hw _ (List.mem_of_getElem? (i := 22) rfl)) (hw _ (List.mem_of_getElem? (i := 21) rfl)) (by decide) (by decide)) (g := (mkF m 143 #[.val (.int x0_0), .val (.int x1_0), .val (.int x2_0), .val (.ref b1), .val (.int cp), .val (.int idx), .val (.int (((((x1_0.toUInt32 >>> ((4 : Int32) &&& 31).toUInt32).toInt32) &&& (7 : Int32)) % (5 : Int32)) - (2 : Int32)))] [(.int cp), (.int (own_r1 cp))])) rfl (by rw [hml]; rfl) (argsL := [(.int cp)]) (rest := [(.int (own_r1 cp))]) (lenOf pd_0 rfl) rfl (by show 2 * 0 + _ ≤ _; exact Nat.le_of_eq rfl) (hb hby at_143) (fun _ _ => ⟨rfl, e70, (by decide : 1 + 0 ≤ _), (by decide : 16 + 0 ≤ _)⟩)
    dsimp only [Pt.U, Pt.locs, Pt.cells, Pt.slots] at X72 l72 y72 z72 st72 hQ72
    subst l72 y72 z72
    obtain ⟨rfl, N72q, e72⟩ := hQ72
    refine own_step (fun t k => st72 _ k) ?_
    have N73 := Fr.app N71 N72q
    show own_Ends p.tables e below s _ _ _ (T72.setTop (mkF m 146 #[.val (.int x0_0), .val (.int x1_0), .val (.int x2_0), .val (.ref b1), .val (.int cp), .val (.int idx), .val (.int (((((x1_0.toUInt32 >>> ((4 : Int32) &&& 31).toUInt32).toInt32) &&& (7 : Int32)) % (5 : Int32)) - (2 : Int32)))] [(.int (own_r2 cp)), (.int (own_r1 cp))]))
    by_cases hc146_74 : (own_r2 cp) = (0 : Int32)
    · skip
      refine own_step (fun t k => XS.ifNo X72.here hx rfl (hb hby at_146) rfl ((if0 _ _).trans (teq hc146_74).2) k) ?_
      show own_Ends p.tables e below s _ _ _ (T72.setTop (mkF m 149 #[.val (.int x0_0), .val (.int x1_0), .val (.int x2_0), .val (.ref b1), .val (.int cp), .val (.int idx), .val (.int (((((x1_0.toUInt32 >>> ((4 : Int32) &&& 31).toUInt32).toInt32) &&& (7 : Int32)) % (5 : Int32)) - (2 : Int32)))] [(.int (own_r1 cp))]))
      refine own_step (fun t k => XS.iconst X72.here hx rfl (hb hby at_149) k) ?_
      show own_Ends p.tables e below s _ _ _ (T72.setTop (mkF m 150 #[.val (.int x0_0), .val (.int x1_0), .val (.int x2_0), .val (.ref b1), .val (.int cp), .val (.int idx), .val (.int (((((x1_0.toUInt32 >>> ((4 : Int32) &&& 31).toUInt32).toInt32) &&& (7 : Int32)) % (5 : Int32)) - (2 : Int32)))] [(.int (1 : Int32)), (.int (own_r1 cp))]))
      refine own_step (fun t k => XS.goto X72.here hx rfl (pc0 := 150) (pc' := 154) rfl (hb hby at_150) (by decide) (by decide) k) ?_
      show own_Ends p.tables e below s _ _ _ (T72.setTop (mkF m 154 #[.val (.int x0_0), .val (.int x1_0), .val (.int x2_0), .val (.ref b1), .val (.int cp), .val (.int idx), .val (.int (((((x1_0.toUInt32 >>> ((4 : Int32) &&& 31).toUInt32).toInt32) &&& (7 : Int32)) % (5 : Int32)) - (2 : Int32)))] [(.int (1 : Int32)), (.int (own_r1 cp))]))
      by_cases hc154_75 : (own_r1 cp) = (1 : Int32)
      · skip
        refine own_step (fun t k => XS.icmpNo X72.here hx rfl (hb hby at_154) rfl (teq hc154_75).2 k) ?_
        show own_Ends p.tables e below s _ _ _ (T72.setTop (mkF m 157 #[.val (.int x0_0), .val (.int x1_0), .val (.int x2_0), .val (.ref b1), .val (.int cp), .val (.int idx), .val (.int (((((x1_0.toUInt32 >>> ((4 : Int32) &&& 31).toUInt32).toInt32) &&& (7 : Int32)) % (5 : Int32)) - (2 : Int32)))] []))
        refine own_step (fun t k => XS.iconst X72.here hx rfl (hb hby at_157) k) ?_
        show own_Ends p.tables e below s _ _ _ (T72.setTop (mkF m 158 #[.val (.int x0_0), .val (.int x1_0), .val (.int x2_0), .val (.ref b1), .val (.int cp), .val (.int idx), .val (.int (((((x1_0.toUInt32 >>> ((4 : Int32) &&& 31).toUInt32).toInt32) &&& (7 : Int32)) % (5 : Int32)) - (2 : Int32)))] [(.int (1 : Int32))]))
        refine own_step (fun t k => XS.goto X72.here hx rfl (pc0 := 158) (pc' := 162) rfl (hb hby at_158) (by decide) (by decide) k) ?_
        show own_Ends p.tables e below s _ _ _ (T72.setTop (mkF m 162 #[.val (.int x0_0), .val (.int x1_0), .val (.int x2_0), .val (.ref b1), .val (.int cp), .val (.int idx), .val (.int (((((x1_0.toUInt32 >>> ((4 : Int32) &&& 31).toUInt32).toInt32) &&& (7 : Int32)) % (5 : Int32)) - (2 : Int32)))] [(.int (1 : Int32))]))
        exact own_retN X72 hx (t := .boolean) Bd.returns (by simp) (hb hby at_162) hnl (by rw [e72]; exact ⟨rfl, N73⟩) (by decide) (by decide)
      · skip
        refine own_step (fun t k => XS.icmpYes X72.here hx rfl (pc0 := 154) (pc' := 161) rfl (hb hby at_154) rfl (feq hc154_75).2 (by decide) (by decide) k) ?_
        show own_Ends p.tables e below s _ _ _ (T72.setTop (mkF m 161 #[.val (.int x0_0), .val (.int x1_0), .val (.int x2_0), .val (.ref b1), .val (.int cp), .val (.int idx), .val (.int (((((x1_0.toUInt32 >>> ((4 : Int32) &&& 31).toUInt32).toInt32) &&& (7 : Int32)) % (5 : Int32)) - (2 : Int32)))] []))
        refine own_step (fun t k => XS.iconst X72.here hx rfl (hb hby at_161) k) ?_
        show own_Ends p.tables e below s _ _ _ (T72.setTop (mkF m 162 #[.val (.int x0_0), .val (.int x1_0), .val (.int x2_0), .val (.ref b1), .val (.int cp), .val (.int idx), .val (.int (((((x1_0.toUInt32 >>> ((4 : Int32) &&& 31).toUInt32).toInt32) &&& (7 : Int32)) % (5 : Int32)) - (2 : Int32)))] [(.int (0 : Int32))]))
        exfalso
        exact hc154_75 ((own_all _).1 hc146_74)
    · skip
      refine own_step (fun t k => XS.ifYes X72.here hx rfl (pc0 := 146) (pc' := 153) rfl (hb hby at_146) rfl ((if0 _ _).trans (feq hc146_74).2) (by decide) (by decide) k) ?_
      show own_Ends p.tables e below s _ _ _ (T72.setTop (mkF m 153 #[.val (.int x0_0), .val (.int x1_0), .val (.int x2_0), .val (.ref b1), .val (.int cp), .val (.int idx), .val (.int (((((x1_0.toUInt32 >>> ((4 : Int32) &&& 31).toUInt32).toInt32) &&& (7 : Int32)) % (5 : Int32)) - (2 : Int32)))] [(.int (own_r1 cp))]))
      refine own_step (fun t k => XS.iconst X72.here hx rfl (hb hby at_153) k) ?_
      show own_Ends p.tables e below s _ _ _ (T72.setTop (mkF m 154 #[.val (.int x0_0), .val (.int x1_0), .val (.int x2_0), .val (.ref b1), .val (.int cp), .val (.int idx), .val (.int (((((x1_0.toUInt32 >>> ((4 : Int32) &&& 31).toUInt32).toInt32) &&& (7 : Int32)) % (5 : Int32)) - (2 : Int32)))] [(.int (0 : Int32)), (.int (own_r1 cp))]))
      by_cases hc154_76 : (own_r1 cp) = (0 : Int32)
      · skip
        refine own_step (fun t k => XS.icmpNo X72.here hx rfl (hb hby at_154) rfl (teq hc154_76).2 k) ?_
        show own_Ends p.tables e below s _ _ _ (T72.setTop (mkF m 157 #[.val (.int x0_0), .val (.int x1_0), .val (.int x2_0), .val (.ref b1), .val (.int cp), .val (.int idx), .val (.int (((((x1_0.toUInt32 >>> ((4 : Int32) &&& 31).toUInt32).toInt32) &&& (7 : Int32)) % (5 : Int32)) - (2 : Int32)))] []))
        refine own_step (fun t k => XS.iconst X72.here hx rfl (hb hby at_157) k) ?_
        show own_Ends p.tables e below s _ _ _ (T72.setTop (mkF m 158 #[.val (.int x0_0), .val (.int x1_0), .val (.int x2_0), .val (.ref b1), .val (.int cp), .val (.int idx), .val (.int (((((x1_0.toUInt32 >>> ((4 : Int32) &&& 31).toUInt32).toInt32) &&& (7 : Int32)) % (5 : Int32)) - (2 : Int32)))] [(.int (1 : Int32))]))
        refine own_step (fun t k => XS.goto X72.here hx rfl (pc0 := 158) (pc' := 162) rfl (hb hby at_158) (by decide) (by decide) k) ?_
        show own_Ends p.tables e below s _ _ _ (T72.setTop (mkF m 162 #[.val (.int x0_0), .val (.int x1_0), .val (.int x2_0), .val (.ref b1), .val (.int cp), .val (.int idx), .val (.int (((((x1_0.toUInt32 >>> ((4 : Int32) &&& 31).toUInt32).toInt32) &&& (7 : Int32)) % (5 : Int32)) - (2 : Int32)))] [(.int (1 : Int32))]))
        exact own_retN X72 hx (t := .boolean) Bd.returns (by simp) (hb hby at_162) hnl (by rw [e72]; exact ⟨rfl, N73⟩) (by decide) (by decide)
      · skip
        refine own_step (fun t k => XS.icmpYes X72.here hx rfl (pc0 := 154) (pc' := 161) rfl (hb hby at_154) rfl (feq hc154_76).2 (by decide) (by decide) k) ?_
        show own_Ends p.tables e below s _ _ _ (T72.setTop (mkF m 161 #[.val (.int x0_0), .val (.int x1_0), .val (.int x2_0), .val (.ref b1), .val (.int cp), .val (.int idx), .val (.int (((((x1_0.toUInt32 >>> ((4 : Int32) &&& 31).toUInt32).toInt32) &&& (7 : Int32)) % (5 : Int32)) - (2 : Int32)))] []))
        refine own_step (fun t k => XS.iconst X72.here hx rfl (hb hby at_161) k) ?_
        show own_Ends p.tables e below s _ _ _ (T72.setTop (mkF m 162 #[.val (.int x0_0), .val (.int x1_0), .val (.int x2_0), .val (.ref b1), .val (.int cp), .val (.int idx), .val (.int (((((x1_0.toUInt32 >>> ((4 : Int32) &&& 31).toUInt32).toInt32) &&& (7 : Int32)) % (5 : Int32)) - (2 : Int32)))] [(.int (0 : Int32))]))
        exfalso
        exact hc154_76 ((own_all _).2 hc146_74)
  · skip
    refine own_step (fun t k => XS.ifNo X64.here hx rfl (hb hby at_97) rfl ((if0 _ _).trans (feq hc97_67).1) k) ?_
    show own_Ends p.tables e below s _ _ _ (T64.setTop (mkF m 100 #[.val (.int x0_0), .val (.int x1_0), .val (.int x2_0), .val (.ref b1), .unset, .unset, .unset] []))
    refine own_step (fun t k => XS.iloadN X64.here hx rfl (hb hby at_100) rfl k) ?_
    show own_Ends p.tables e below s _ _ _ (T64.setTop (mkF m 101 #[.val (.int x0_0), .val (.int x1_0), .val (.int x2_0), .val (.ref b1), .unset, .unset, .unset] [(.int x0_0)]))
    refine own_step (fun t k => XS.istore X64.here hx rfl (hb hby at_101) rfl (l' := #[.val (.int x0_0), .val (.int x1_0), .val (.int x2_0), .val (.ref b1), .val (.int x0_0), .unset, .unset]) rfl k) ?_
    show own_Ends p.tables e below s _ _ _ (T64.setTop (mkF m 103 #[.val (.int x0_0), .val (.int x1_0), .val (.int x2_0), .val (.ref b1), .val (.int x0_0), .unset, .unset] []))
    refine own_step (fun t k => XS.goto X64.here hx rfl (pc0 := 103) (pc' := 136) rfl (hb hby at_103) (by decide) (by decide) k) ?_
    show own_Ends p.tables e below s _ _ _ (T64.setTop (mkF m 136 #[.val (.int x0_0), .val (.int x1_0), .val (.int x2_0), .val (.ref b1), .val (.int x0_0), .unset, .unset] []))
    refine own_step (fun t k => XS.iload X64.here hx rfl (hb hby at_136) rfl k) ?_
    show own_Ends p.tables e below s _ _ _ (T64.setTop (mkF m 138 #[.val (.int x0_0), .val (.int x1_0), .val (.int x2_0), .val (.ref b1), .val (.int x0_0), .unset, .unset] [(.int x0_0)]))
    have O77 : Old Z n0 h64 := (((((((((((((((((O0.ext E1).wr W4 g_b1).wr W8 g_b1).wr W12 g_b1).wr W16 g_b1).wr W20 g_b1).wr W24 g_b1).wr W28 g_b1).wr W32 g_b1).wr W36 g_b1).wr W40 g_b1).wr W44 g_b1).wr W48 g_b1).wr W52 g_b1).wr W56 g_b1).wr W60 g_b1).wr W64 g_b1)
    obtain ⟨_, _, ⟨T78, L78, k78, n78⟩, -, X78, ⟨Lc78, hQ78, l78, y78, z78⟩, st78⟩ := Jvm.LawKit.callS X64 hx (y := (⟨"com/example/flwor/flwor/model/XmlChars", "isChar", "(I)Z"⟩ : MethodName)) hown (mvT hZ (hw _ (List.mem_of_getElem? (i := 13) rfl))) (mvT hZ (hw _ (List.mem_of_getElem? (i := 14) rfl))) (mvT hZ (hw _ (List.mem_of_getElem? (i := 15) rfl))) (mvT hZ (hw _ (List.mem_of_getElem? (i := 16) rfl))) (by decide) (backOf (W := 0) (rm1 l Z a0 hw [] x0_0 h64 n0 O77 ) hZ (hw _ (List.mem_of_getElem? (i := 16) rfl)) (hw _ (List.mem_of_getElem? (i := 15) rfl)) (by decide) (by decide)) (g := (mkF m 138 #[.val (.int x0_0), .val (.int x1_0), .val (.int x2_0), .val (.ref b1), .val (.int x0_0), .unset, .unset] [(.int x0_0)])) rfl (by rw [hml]; rfl) (argsL := [(.int x0_0)]) (rest := []) (lenOf pd_0 rfl) rfl (by show 2 * 0 + _ ≤ _; exact Nat.le_of_eq rfl) (hb hby at_138) (fun _ _ => ⟨rfl, e64, (by decide : 1 + 0 ≤ _), (by decide : 16 + 0 ≤ _)⟩)
    dsimp only [Pt.U, Pt.locs, Pt.cells, Pt.slots] at X78 l78 y78 z78 st78 hQ78
    subst l78 y78 z78
    obtain ⟨rfl, N78q, e78⟩ := hQ78
    refine own_step (fun t k => st78 _ k) ?_
    have N79 := Fr.app N66 N78q
    show own_Ends p.tables e below s _ _ _ (T78.setTop (mkF m 141 #[.val (.int x0_0), .val (.int x1_0), .val (.int x2_0), .val (.ref b1), .val (.int x0_0), .unset, .unset] [(.int (own_r1 x0_0))]))
    refine own_step (fun t k => XS.iload X78.here hx rfl (hb hby at_141) rfl k) ?_
    show own_Ends p.tables e below s _ _ _ (T78.setTop (mkF m 143 #[.val (.int x0_0), .val (.int x1_0), .val (.int x2_0), .val (.ref b1), .val (.int x0_0), .unset, .unset] [(.int x0_0), (.int (own_r1 x0_0))]))
    obtain ⟨_, _, ⟨T80, L80, k80, n80⟩, -, X80, ⟨Lc80, hQ80, l80, y80, z80⟩, st80⟩ := Jvm.LawKit.callS X78 hx (y := (⟨"com/example/flwor/flwor/model/XmlCharsIsCharPinLaw", "excluded", "(I)Z"⟩ : MethodName)) hown (mvT hZ (hw _ (List.mem_of_getElem? (i := 19) rfl))) (mvT hZ (hw _ (List.mem_of_getElem? (i := 20) rfl))) (mvT hZ (hw _ (List.mem_of_getElem? (i := 21) rfl))) (mvT hZ (hw _ (List.mem_of_getElem? (i := 22) rfl))) (by decide) (backOf (W := 1) (rm2 l Z a0 hw [] x0_0 h64 n0 O77 ) hZ (hw _ (List.mem_of_getElem? (i := 22) rfl)) (hw _ (List.mem_of_getElem? (i := 21) rfl)) (by decide) (by decide)) (g := (mkF m 143 #[.val (.int x0_0), .val (.int x1_0), .val (.int x2_0), .val (.ref b1), .val (.int x0_0), .unset, .unset] [(.int x0_0), (.int (own_r1 x0_0))])) rfl (by rw [hml]; rfl) (argsL := [(.int x0_0)]) (rest := [(.int (own_r1 x0_0))]) (lenOf pd_0 rfl) rfl (by show 2 * 0 + _ ≤ _; exact Nat.le_of_eq rfl) (hb hby at_143) (fun _ _ => ⟨rfl, e78, (by decide : 1 + 0 ≤ _), (by decide : 16 + 0 ≤ _)⟩)
    dsimp only [Pt.U, Pt.locs, Pt.cells, Pt.slots] at X80 l80 y80 z80 st80 hQ80
    subst l80 y80 z80
    obtain ⟨rfl, N80q, e80⟩ := hQ80
    refine own_step (fun t k => st80 _ k) ?_
    have N81 := Fr.app N79 N80q
    show own_Ends p.tables e below s _ _ _ (T80.setTop (mkF m 146 #[.val (.int x0_0), .val (.int x1_0), .val (.int x2_0), .val (.ref b1), .val (.int x0_0), .unset, .unset] [(.int (own_r2 x0_0)), (.int (own_r1 x0_0))]))
    by_cases hc146_82 : (own_r2 x0_0) = (0 : Int32)
    · skip
      refine own_step (fun t k => XS.ifNo X80.here hx rfl (hb hby at_146) rfl ((if0 _ _).trans (teq hc146_82).2) k) ?_
      show own_Ends p.tables e below s _ _ _ (T80.setTop (mkF m 149 #[.val (.int x0_0), .val (.int x1_0), .val (.int x2_0), .val (.ref b1), .val (.int x0_0), .unset, .unset] [(.int (own_r1 x0_0))]))
      refine own_step (fun t k => XS.iconst X80.here hx rfl (hb hby at_149) k) ?_
      show own_Ends p.tables e below s _ _ _ (T80.setTop (mkF m 150 #[.val (.int x0_0), .val (.int x1_0), .val (.int x2_0), .val (.ref b1), .val (.int x0_0), .unset, .unset] [(.int (1 : Int32)), (.int (own_r1 x0_0))]))
      refine own_step (fun t k => XS.goto X80.here hx rfl (pc0 := 150) (pc' := 154) rfl (hb hby at_150) (by decide) (by decide) k) ?_
      show own_Ends p.tables e below s _ _ _ (T80.setTop (mkF m 154 #[.val (.int x0_0), .val (.int x1_0), .val (.int x2_0), .val (.ref b1), .val (.int x0_0), .unset, .unset] [(.int (1 : Int32)), (.int (own_r1 x0_0))]))
      by_cases hc154_83 : (own_r1 x0_0) = (1 : Int32)
      · skip
        refine own_step (fun t k => XS.icmpNo X80.here hx rfl (hb hby at_154) rfl (teq hc154_83).2 k) ?_
        show own_Ends p.tables e below s _ _ _ (T80.setTop (mkF m 157 #[.val (.int x0_0), .val (.int x1_0), .val (.int x2_0), .val (.ref b1), .val (.int x0_0), .unset, .unset] []))
        refine own_step (fun t k => XS.iconst X80.here hx rfl (hb hby at_157) k) ?_
        show own_Ends p.tables e below s _ _ _ (T80.setTop (mkF m 158 #[.val (.int x0_0), .val (.int x1_0), .val (.int x2_0), .val (.ref b1), .val (.int x0_0), .unset, .unset] [(.int (1 : Int32))]))
        refine own_step (fun t k => XS.goto X80.here hx rfl (pc0 := 158) (pc' := 162) rfl (hb hby at_158) (by decide) (by decide) k) ?_
        show own_Ends p.tables e below s _ _ _ (T80.setTop (mkF m 162 #[.val (.int x0_0), .val (.int x1_0), .val (.int x2_0), .val (.ref b1), .val (.int x0_0), .unset, .unset] [(.int (1 : Int32))]))
        exact own_retN X80 hx (t := .boolean) Bd.returns (by simp) (hb hby at_162) hnl (by rw [e80]; exact ⟨rfl, N81⟩) (by decide) (by decide)
      · skip
        refine own_step (fun t k => XS.icmpYes X80.here hx rfl (pc0 := 154) (pc' := 161) rfl (hb hby at_154) rfl (feq hc154_83).2 (by decide) (by decide) k) ?_
        show own_Ends p.tables e below s _ _ _ (T80.setTop (mkF m 161 #[.val (.int x0_0), .val (.int x1_0), .val (.int x2_0), .val (.ref b1), .val (.int x0_0), .unset, .unset] []))
        refine own_step (fun t k => XS.iconst X80.here hx rfl (hb hby at_161) k) ?_
        show own_Ends p.tables e below s _ _ _ (T80.setTop (mkF m 162 #[.val (.int x0_0), .val (.int x1_0), .val (.int x2_0), .val (.ref b1), .val (.int x0_0), .unset, .unset] [(.int (0 : Int32))]))
        exfalso
        exact hc154_83 ((own_all _).1 hc146_82)
    · skip
      refine own_step (fun t k => XS.ifYes X80.here hx rfl (pc0 := 146) (pc' := 153) rfl (hb hby at_146) rfl ((if0 _ _).trans (feq hc146_82).2) (by decide) (by decide) k) ?_
      show own_Ends p.tables e below s _ _ _ (T80.setTop (mkF m 153 #[.val (.int x0_0), .val (.int x1_0), .val (.int x2_0), .val (.ref b1), .val (.int x0_0), .unset, .unset] [(.int (own_r1 x0_0))]))
      refine own_step (fun t k => XS.iconst X80.here hx rfl (hb hby at_153) k) ?_
      show own_Ends p.tables e below s _ _ _ (T80.setTop (mkF m 154 #[.val (.int x0_0), .val (.int x1_0), .val (.int x2_0), .val (.ref b1), .val (.int x0_0), .unset, .unset] [(.int (0 : Int32)), (.int (own_r1 x0_0))]))
      by_cases hc154_84 : (own_r1 x0_0) = (0 : Int32)
      · skip
        refine own_step (fun t k => XS.icmpNo X80.here hx rfl (hb hby at_154) rfl (teq hc154_84).2 k) ?_
        show own_Ends p.tables e below s _ _ _ (T80.setTop (mkF m 157 #[.val (.int x0_0), .val (.int x1_0), .val (.int x2_0), .val (.ref b1), .val (.int x0_0), .unset, .unset] []))
        refine own_step (fun t k => XS.iconst X80.here hx rfl (hb hby at_157) k) ?_
        show own_Ends p.tables e below s _ _ _ (T80.setTop (mkF m 158 #[.val (.int x0_0), .val (.int x1_0), .val (.int x2_0), .val (.ref b1), .val (.int x0_0), .unset, .unset] [(.int (1 : Int32))]))
        refine own_step (fun t k => XS.goto X80.here hx rfl (pc0 := 158) (pc' := 162) rfl (hb hby at_158) (by decide) (by decide) k) ?_
        show own_Ends p.tables e below s _ _ _ (T80.setTop (mkF m 162 #[.val (.int x0_0), .val (.int x1_0), .val (.int x2_0), .val (.ref b1), .val (.int x0_0), .unset, .unset] [(.int (1 : Int32))]))
        exact own_retN X80 hx (t := .boolean) Bd.returns (by simp) (hb hby at_162) hnl (by rw [e80]; exact ⟨rfl, N81⟩) (by decide) (by decide)
      · skip
        refine own_step (fun t k => XS.icmpYes X80.here hx rfl (pc0 := 154) (pc' := 161) rfl (hb hby at_154) rfl (feq hc154_84).2 (by decide) (by decide) k) ?_
        show own_Ends p.tables e below s _ _ _ (T80.setTop (mkF m 161 #[.val (.int x0_0), .val (.int x1_0), .val (.int x2_0), .val (.ref b1), .val (.int x0_0), .unset, .unset] []))
        refine own_step (fun t k => XS.iconst X80.here hx rfl (hb hby at_161) k) ?_
        show own_Ends p.tables e below s _ _ _ (T80.setTop (mkF m 162 #[.val (.int x0_0), .val (.int x1_0), .val (.int x2_0), .val (.ref b1), .val (.int x0_0), .unset, .unset] [(.int (0 : Int32))]))
        exfalso
        exact hc154_84 ((own_all _).2 hc146_82)
set_option maxRecDepth 65536 in
set_option maxHeartbeats 40000000 in
theorem comes_1 {Post : Tables → Env → Array Value → State → Outcome → State → Prop} (hpost : ∀ tb e args s v u, (limb_1_1.after args s (.returned v) u = true ∧ limb_1_2.after args s (.returned v) u = true ∧ True) → FrameEnd s (.returned v) u (Jvm.fieldLocs frame_1_writes args s ++ Jvm.arrayLocs frame_1_arrays args s ++ Jvm.staticLocs frame_1_statics s) 16 128 → Post tb e args s (.returned v) u) :
    ArmFor flags0 classFile x code maxLocals ret World_1 tables_1 room_1 Calls_1 rest_1 Pre_1 Post := by
  intro l hfl _ _ p e ha hc hk s m args below hf hA hF happ hP
  obtain ⟨hcalls, hrest, hpre⟩ := hP
  obtain ⟨-, -, -, hnamed, -, -, -, hat⟩ := (Spec.applies_iff hf).mp happ
  obtain ⟨hg, hn⟩ := and_e (Cond.before_iff.mp (show (Jvm.Cond.and given_1 narrow_1).before args s = true from hpre))
  obtain ⟨hh1a, hh1b⟩ := and_e hg
  obtain ⟨hh2a, hh2b⟩ := and_e hh1b
  obtain ⟨hh3a, hh3b⟩ := and_e hh2b
  obtain ⟨w0, w1, w2, rfl⟩ : ∃ w0 w1 w2 : Value, args = #[w0, w1, w2] := by
    have hs : args.size = 3 := by simpa [Cond.value, given_1] using hh1a
    obtain ⟨L⟩ := args
    match L, hs with
    | [w0, w1, w2], _ => exact ⟨w0, w1, w2, rfl⟩
  have hw := fun d (hd : d ∈ tables_1) => atoms_spec (ws := Jvm.Cond.code x code maxLocals ret :: tables_1) hat d (List.mem_cons_of_mem _ hd)
  have hfit : Fit s := fun {y c} hc i hi => by
    obtain ⟨ha, rfl⟩ := Array.getElem?_eq_some_iff.mp hc
    have q := List.all_eq_true.mp ((Array.all_eq_true_iff_forall_mem.mp hF) _ (Array.getElem_mem ha)) i (List.mem_range.mpr hi)
    simpa [Array.getElem?_eq_getElem hi] using q
  obtain ⟨i0, ei0⟩ := is_v hh2a
  obtain rfl : w0 = (.int i0) := Option.some.inj ei0
  obtain ⟨i1, ei1⟩ := is_v hh3a
  obtain rfl : w1 = (.int i1) := Option.some.inj ei1
  obtain ⟨i2, ei2⟩ := is_v hh3b
  obtain rfl : w2 = (.int i2) := Option.some.inj ei2
  obtain ⟨n, o, h1, h2, h3, _, L, rfl, ⟨rfl, N⟩, hq⟩ := rm0 l s _ hw tables_1 i0 i1 i2 s.heap s.heap.size (Old.start s) p e ha hc hk s m _ below hf ((Spec.applies_iff_loose hf).mp happ).1 ⟨rfl, State.Warmed39.refl s, rfl⟩ trivial
  refine ⟨n, _, h1, h2, h3, hpost _ _ _ _ _ _ ⟨Cond.after_iff.mpr rfl, Cond.after_iff.mpr (eq_i res_at (Term.int_eval (1)) rfl), trivial⟩ ⟨hq.1, hq.2.1, (hq.2.2.sift fun y hy => Or.inr (N y hy)).mono (by decide) (by decide)⟩⟩
theorem main_1_1 : Claimed_1_1 := comes_1 fun _ _ _ _ _ _ h hF => ⟨h.1, hF⟩
theorem main_1_2 : Claimed_1_2 := comes_1 fun _ _ _ _ _ _ h hF => ⟨h.2.1, hF⟩
end Jvm.Pilot.@@N@@
namespace Jvm.Pilot.@@N@@
open Jvm Jvm.ClassFile Sem Op Lib Jvm.Free Jvm.Stand Jvm.Pilot.@@N@@.Jvm.D
/-! MADE BY PROGRAM (witnessworld.py) out of the Statement's table words and the real class files: 9 classes; the members and pool entries that the words name. The judged class is class 1, her method 2. -/
namespace start1
open Jvm.ClassFile
def u (s : String) : CpInfo := .utf8 (stringToUtf16 s)
/-- a pool by its gaps: so many unusable entries, then the entry; so many at the end -/
def gap : Nat → List CpInfo → List CpInfo
  | 0, r => r
  | n + 1, r => .unusable :: gap n r
def poolList (es : List (Nat × CpInfo)) (last : Nat) : List CpInfo := es.foldr (fun e r => gap e.1 (e.2 :: r)) (gap last [])
def pool (es : List (Nat × CpInfo)) (last : Nat) : Array CpInfo := ⟨poolList es last⟩
def fileOf (pool : Array CpInfo) (this : Nat) (attrs : Array Attribute := #[]) (ms : Array MethodInfo := #[]) (fl : Nat := 33) (sup : Nat := 0) (ifs : Array Nat := #[]) (fds : Array FieldInfo := #[]) : ClassFile where
  minorVersion := 0
  majorVersion := 65
  constantPool := pool
  accessFlags := fl
  thisClass := this
  superClass := sup
  interfaces := ifs
  fields := fds
  methods := ms
  attributes := attrs
def plain (name : String) (sup : Option ClassId) : Class where
  name := name
  kind := .ordinary
  loader := none
  accessFlags := 33
  super := sup
  interfaces := #[]
  cf := none
  fields := #[]
  methods := #[]
  instanceTypes := #[]
  staticTypes := #[]
  resolved := #[]
  callSites := []
  init := .initialized
  statics := none
  mirror := none

def pool0 : Array CpInfo := pool [(5, u "<init>"), (0, u "()V"), (1, .class_ 10), (1, u "java/lang/Object")] 113

def k0m0 : Method := { name := "<init>", desc := "()V", sig := { parameters := [], returnType := none }, accessFlags := 1, code := none }
/-- java/lang/Object -/
def k0 : Class := { plain "java/lang/Object" none with
  accessFlags := 33
  interfaces := #[]
  cf := some (fileOf pool0 8 #[] #[{ accessFlags := 1, nameIndex := 5, descriptorIndex := 6, attributes := #[] }] 33 0 #[] #[])
  fields := #[]
  methods := #[k0m0]
  instanceTypes := #[]
  staticTypes := #[]
  resolved := Array.replicate 124 none
  statics := none }

def pool1 : Array CpInfo := pool [(2, .class_ 4), (1, u "java/lang/Object"), (0, u "<init>"), (0, u "()V"), (0, .integer 55296), (0, .integer 57343), (0, .integer 65534), (0, .integer 65535), (0, .integer 1114111), (0, .integer 55295), (0, .integer 57344), (0, .integer 65533), (0, .integer 65536), (0, .integer 1114112), (2, .integer 2147483648), (0, .integer 2147483647), (0, .methodref 22 23), (0, .class_ 24), (0, .nameAndType 25 26), (0, u "com/example/flwor/flwor/model/XmlChars"), (0, u "isChar"), (0, u "(I)Z"), (0, .methodref 28 29), (0, .class_ 30), (0, .nameAndType 31 26), (0, u "com/example/flwor/flwor/model/XmlCharsIsCharPinLaw"), (0, u "excluded"), (3, u "law"), (0, u "(III)Z")] 4

def k1m0 : Method := { name := "<init>", desc := "()V", sig := { parameters := [], returnType := none }, accessFlags := 1, code := none }
def k1c1 : Code := { maxStack := 2, maxLocals := 1, code := method_2_code, exceptionTable := #[], attributes := #[] }
def k1m1 : Method := { name := "excluded", desc := "(I)Z", sig := { parameters := [.int], returnType := some .boolean }, accessFlags := 10, code := some k1c1 }
def k1c2 : Code := { maxStack := 4, maxLocals := 7, code := code, exceptionTable := #[], attributes := #[] }
def k1m2 : Method := { name := "law", desc := "(III)Z", sig := { parameters := [.int, .int, .int], returnType := some .boolean }, accessFlags := 9, code := some k1c2 }
/-- com/example/flwor/flwor/model/XmlCharsIsCharPinLaw -/
def k1 : Class := { plain "com/example/flwor/flwor/model/XmlCharsIsCharPinLaw" (some 0) with
  accessFlags := 49
  interfaces := #[]
  cf := some (fileOf pool1 28 #[] #[{ accessFlags := 1, nameIndex := 5, descriptorIndex := 6, attributes := #[] }, { accessFlags := 10, nameIndex := 31, descriptorIndex := 26, attributes := #[] }, { accessFlags := 9, nameIndex := 35, descriptorIndex := 36, attributes := #[] }] 49 2 #[] #[])
  fields := #[]
  methods := #[k1m0, k1m1, k1m2]
  instanceTypes := #[]
  staticTypes := #[]
  resolved := Array.replicate 41 none
  statics := none }

def pool2 : Array CpInfo := pool [(2, .class_ 4), (1, u "java/lang/Object"), (0, u "<init>"), (0, u "()V"), (0, .integer 55295), (0, .integer 57344), (0, .integer 65533), (0, .integer 65536), (0, .integer 1114111), (0, .class_ 13), (0, u "com/example/flwor/flwor/model/XmlChars"), (2, u "isChar"), (0, u "(I)Z")] 3

def k2m0 : Method := { name := "<init>", desc := "()V", sig := { parameters := [], returnType := none }, accessFlags := 2, code := none }
def k2c1 : Code := { maxStack := 2, maxLocals := 1, code := prog_50_method_2_code, exceptionTable := #[], attributes := #[] }
def k2m1 : Method := { name := "isChar", desc := "(I)Z", sig := { parameters := [.int], returnType := some .boolean }, accessFlags := 9, code := some k2c1 }
/-- com/example/flwor/flwor/model/XmlChars -/
def k2 : Class := { plain "com/example/flwor/flwor/model/XmlChars" (some 0) with
  accessFlags := 33
  interfaces := #[]
  cf := some (fileOf pool2 12 #[] #[{ accessFlags := 2, nameIndex := 5, descriptorIndex := 6, attributes := #[] }, { accessFlags := 9, nameIndex := 16, descriptorIndex := 17, attributes := #[] }] 33 2 #[] #[])
  fields := #[]
  methods := #[k2m0, k2m1]
  instanceTypes := #[]
  staticTypes := #[]
  resolved := Array.replicate 21 none
  statics := none }

def pool3 : Array CpInfo := pool [(1, u "java/lang/Cloneable"), (0, .class_ 1), (0, u "java/lang/Object"), (0, .class_ 3)] 3

/-- java/lang/Cloneable -/
def k3 : Class := { plain "java/lang/Cloneable" (some 0) with
  accessFlags := 1537
  interfaces := #[]
  cf := some (fileOf pool3 2 #[] #[] 1537 4 #[] #[])
  fields := #[]
  methods := #[]
  instanceTypes := #[]
  staticTypes := #[]
  resolved := Array.replicate 8 none
  statics := none }

def pool4 : Array CpInfo := pool [(1, u "java/io/Serializable"), (0, .class_ 1), (0, u "java/lang/Object"), (0, .class_ 3)] 3

/-- java/io/Serializable -/
def k4 : Class := { plain "java/io/Serializable" (some 0) with
  accessFlags := 1537
  interfaces := #[]
  cf := some (fileOf pool4 2 #[] #[] 1537 4 #[] #[])
  fields := #[]
  methods := #[]
  instanceTypes := #[]
  staticTypes := #[]
  resolved := Array.replicate 8 none
  statics := none }

/-- the primitive byte -/
def k5 : Class := { plain "byte" none with kind := .primitive 'B', accessFlags := 0x411 }
/-- [B -/
def k6 : Class := { plain "[B" (some 0) with kind := .array 5 .byte, interfaces := #[3, 4], accessFlags := 1041 }

/-- the primitive int -/
def k7 : Class := { plain "int" none with kind := .primitive 'I', accessFlags := 0x411 }
/-- [I -/
def k8 : Class := { plain "[I" (some 0) with kind := .array 7 .int, interfaces := #[3, 4], accessFlags := 1041 }

def heap : Heap := #[]
def classes : Array Class := #[k0, k1, k2, k3, k4, k5, k6, k7, k8]
def interned : List (Array UInt16 × Addr) := []
def slotsUsed : Nat := 0
def theMethod : MethodId := ⟨1, 2⟩
def args0 : Array Value := #[.int 5, .int 5, .int 5]
def aboutOver (below : List Frame) : State where
  vm := { classes := classes, interned := interned.toArray }
  heap := heap
  slotsUsed := slotsUsed
  threads := #[{ frames := .invoking theMethod args0 :: below }]
def below0 : List Frame := [.native { method := ⟨0, 0⟩, args := #[] }]
def about1 : State := aboutOver below0
def p0 : Program := .bare "" "" ""
def e0 : Env := launch0.env 0 0 0
theorem w_frames : about1.frames = Frame.invoking theMethod args0 :: below0 := rfl
set_option maxRecDepth 65536 in
theorem w_args : argsFit about1.vm theMethod args0 = true := by decide +kernel
set_option maxRecDepth 65536 in
theorem w_heap : heapFits about1 = true := by decide +kernel
set_option maxRecDepth 65536 in
theorem w_runnable : about1.curStatus? = some .runnable := by decide +kernel
set_option maxRecDepth 65536 in
theorem w_alone : about1.alone = true := by decide +kernel
set_option maxRecDepth 65536 in
theorem w_named : about1.methodNamed? x = some theMethod := by decide +kernel
set_option maxRecDepth 65536 in
theorem w_hears : about1.hears theMethod below0 = true := by decide +kernel
set_option maxRecDepth 65536 in
theorem w_ripe : about1.ripe theMethod args0 below0 = true := by decide +kernel
theorem w_running : about1.status = .running := rfl
set_option maxRecDepth 65536 in
theorem w_room : about1.hasRoom e0.platform room_1 = true :=
  launch0.hasRoom_least _ room_1 (by decide +kernel) (by decide +kernel) (by decide +kernel) (by decide +kernel) (by decide +kernel) (by decide +kernel)
theorem allAtoms_all (ts : List Jvm.Cond) (a : Array Jvm.Value) (st : Jvm.State) : (allAtoms ts).before a st = ts.all (fun c => c.before a st) := by
  induction ts with
  | nil => rfl
  | cons c t ih =>
    show (Jvm.Cond.and c (allAtoms t)).before a st = _
    rw [Jvm.Cond.before_and, ih, List.all_cons]
def words1 : List Jvm.Cond := Jvm.Cond.code x code maxLocals ret :: tables_1
/-- a 'code' word, met by the world's own term for the bytes: nothing is compared byte by byte -/
theorem code_word {y : MethodName} {bytes : ByteArray} {mx : Nat} {rt : Option FieldType} {a : Array Value} {s : State} {m : MethodId} {meth : Method} {c : Code} (h1 : s.methodNamed? y = some m) (h2 : s.vm.method? m = some meth) (h3 : meth.code = some c) (h4 : c.code = bytes)
    (h5 : (c.maxLocals == mx && c.exceptionTable.isEmpty && decide (c.maxStack ≤ mostOperands) && decide (meth.sig.returnType = rt) && !meth.locks && decide (parseMethodDescriptor y.desc = some meth.sig)) = true) : (Jvm.Cond.code y bytes mx rt).before a s = true := by
  simp only [Bool.and_eq_true, beq_iff_eq, Bool.not_eq_true', decide_eq_true_eq] at h5
  obtain ⟨⟨⟨⟨⟨g1, g2⟩, g3⟩, g4⟩, g5⟩, g6⟩ := h5
  simp [Cond.before, Cond.holds, Cond.value, h1, h2, h3, h4, g1, g2, g3, g4, g5, g6]
def isCode : Jvm.Cond → Bool
  | .code _ _ _ _ => true
  | _ => false
theorem all_split {L : List Jvm.Cond} {P : Jvm.Cond → Bool} (h1 : L.all (fun c => isCode c || P c) = true) (h2 : ∀ c ∈ L.filter isCode, P c = true) : L.all P = true := by
  refine List.all_eq_true.mpr fun c hc => ?_
  have h := List.all_eq_true.mp h1 c hc
  rcases Bool.eq_false_or_eq_true (isCode c) with hi | hi
  · exact h2 c (List.mem_filter.mpr ⟨hc, hi⟩)
  · simpa [hi] using h
set_option maxRecDepth 65536 in
theorem w_c0 : (Jvm.Cond.code x code maxLocals ret).before args0 about1 = true := code_word (m := ⟨1, 2⟩) (meth := k1m2) (c := k1c2) (by decide +kernel) rfl rfl rfl (by decide +kernel)
set_option maxRecDepth 65536 in
theorem w_c1 : (Jvm.Cond.code ({ cls := "com/example/flwor/flwor/model/XmlChars", name := "isChar", desc := "(I)Z" } : Jvm.MethodName) prog_50_method_2_code (1 : Nat) (Option.some Jvm.ClassFile.FieldType.boolean)).before args0 about1 = true := code_word (m := ⟨2, 1⟩) (meth := k2m1) (c := k2c1) (by decide +kernel) rfl rfl rfl (by decide +kernel)
set_option maxRecDepth 65536 in
theorem w_c2 : (Jvm.Cond.code ({ cls := "com/example/flwor/flwor/model/XmlCharsIsCharPinLaw", name := "excluded", desc := "(I)Z" } : Jvm.MethodName) method_2_code (1 : Nat) (Option.some Jvm.ClassFile.FieldType.boolean)).before args0 about1 = true := code_word (m := ⟨1, 1⟩) (meth := k1m1) (c := k1c1) (by decide +kernel) rfl rfl rfl (by decide +kernel)
def codes1 : List Jvm.Cond := [Jvm.Cond.code x code maxLocals ret, Jvm.Cond.code ({ cls := "com/example/flwor/flwor/model/XmlChars", name := "isChar", desc := "(I)Z" } : Jvm.MethodName) prog_50_method_2_code (1 : Nat) (Option.some Jvm.ClassFile.FieldType.boolean), Jvm.Cond.code ({ cls := "com/example/flwor/flwor/model/XmlCharsIsCharPinLaw", name := "excluded", desc := "(I)Z" } : Jvm.MethodName) method_2_code (1 : Nat) (Option.some Jvm.ClassFile.FieldType.boolean)]
set_option maxRecDepth 65536 in
theorem codes_eq : words1.filter isCode = codes1 := rfl
theorem w_codes : ∀ c ∈ words1.filter isCode, c.before args0 about1 = true := by
  rw [codes_eq]
  intro c hc
  simp only [codes1, List.mem_cons, List.not_mem_nil, or_false] at hc
  rcases hc with rfl | rfl | rfl
  · exact w_c0
  · exact w_c1
  · exact w_c2
set_option maxRecDepth 65536 in
theorem w_t1 : (words1.take 24).all (fun c => isCode c || c.before args0 about1) = true := by decide +kernel
set_option maxRecDepth 65536 in
theorem w_t2 : (words1.drop 24).all (fun c => isCode c || c.before args0 about1) = true := by decide +kernel
theorem w_tables : (allAtoms (Jvm.Cond.code x code maxLocals ret :: tables_1)).before args0 about1 = true := by
  rw [allAtoms_all]
  show words1.all (fun c => c.before args0 about1) = true
  refine all_split ?_ w_codes
  rw [← List.take_append_drop 24 words1, List.all_append, w_t1, w_t2]
  rfl
set_option maxRecDepth 65536 in
theorem w_case : (Jvm.Cond.and given_1 narrow_1).before args0 about1 = true := by decide +kernel
theorem w_applies : (headSpec (Jvm.Cond.code x code maxLocals ret :: tables_1) room_1).applies x e0.platform about1 = true :=
  (Spec.applies_iff w_frames).mpr ⟨w_running, w_runnable, w_alone, w_named, w_hears, w_ripe, w_room, w_tables⟩
theorem atStart : AtStart classFile x code maxLocals ret World_1 tables_1 room_1 Calls_1 rest_1 Pre_1 launch0 p0 e0 about1 theMethod args0 below0 :=
  ⟨lists_1, trivial, launch0.admits_env _ _ _, launch0.least_env, fairChoices_fair.cas, fairChoices_fair.clock, w_frames, w_args, w_heap, w_applies, trivial, trivial, w_case⟩
end start1
theorem witness_1 : WitnessClaimed_1 := ⟨start1.p0, start1.e0, start1.about1, start1.theMethod, start1.args0, start1.below0, start1.atStart⟩
end Jvm.Pilot.@@N@@
