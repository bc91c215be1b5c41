import JvmDerived
import JvmDerived.Pilot.@@N@@Statement
import JvmDerived.Pilot.@@N@@Code
set_option linter.unusedVariables false
set_option linter.unusedSimpArgs false
namespace Jvm.Pilot.@@N@@
open Jvm Jvm.ClassFile Sem Op Lib Jvm.Free Jvm.Stand Jvm.LawKit Jvm.RoadKit Bundle Jvm.Pilot.@@N@@.Jvm.D
/-- from the state st the run ends, of which Q says what it leaves -/
def own_Ends (tb : Tables) (e : Env) (below : List Frame) (s : State) (Q : Option Value → Heap → List Loc → Prop) (C S : Nat) (st : State) : Prop :=
  ∃ t o, Steps tb e below st t ∧ t.status = .running ∧ Ended t below o ∧ ∃ v L, o = .returned v ∧ Q v t.heap L ∧ FrameEnd s o t L C S
theorem own_step {tb : Tables} {e : Env} {below : List Frame} {s : State} {Q : Option Value → Heap → List Loc → Prop} {C S : Nat} {st st' : State}
    (h : ∀ t, Steps tb e below st' t → Steps tb e below st t) (k : own_Ends tb e below s Q C S st') : own_Ends tb e below s Q C S st := by
  obtain ⟨t, o, h1, h2⟩ := k
  exact ⟨t, o, h t h1, h2⟩
section OwnRet
variable {p : Program} {l : Launch} {e : Env} {R : Room} {s : State} {m : MethodId} {args : Array Value} {below : List Frame} {meth : Method} {c : Code} {T : State} {locs : List Loc} {cells slots : Nat} {Q : Option Value → Heap → List Loc → Prop} {C S : Nat} {pc : Nat} {Ls : Array Slot} {rest : List Value}
theorem own_retW (X : Stand p l e R s m args below meth c T locs cells slots) (hx : p.tables.exec = Jvm.exec) {w : Value} {t : FieldType} {i : Instr} (hret : meth.sig.returnType = some t) (hn : narrow t w = w)
    (hi : (i = .ireturn ∧ (t = .int ∨ t = .boolean ∨ t = .byte ∨ t = .char ∨ t = .short) ∧ ∃ z, w = .int z) ∨ (i = .lreturn ∧ t = .long ∧ ∃ z, w = .long z) ∨ (i = .dreturn ∧ t = .double ∧ ∃ z, w = .double z) ∨ (i = .freturn ∧ t = .float ∧ ∃ z, w = .float z) ∨ (i = .areturn ∧ t.isReference = true ∧ w.isRef = true))
    (hd : decode c.code pc = .ok (i, 1)) (hlocks : meth.locks = false) (hq : Q (some w) T.heap locs) (hc : cells ≤ C) (hs : slots ≤ S) :
    own_Ends p.tables e below s Q C S (T.setTop (mkF m pc Ls (w :: rest))) := by
  obtain ⟨fs, hr, hrun, hended, hW, hsame⟩ := X.leave (v := some w) (fun h => by rw [hret] at h; cases h) hlocks
  exact ⟨_, _, retOut X hx hret hn hi hd hr, hrun, hended, _, _, rfl, hq, ⟨_, rfl⟩, hW, hsame.mono hc hs⟩
theorem own_retI (X : Stand p l e R s m args below meth c T locs cells slots) (hx : p.tables.exec = Jvm.exec) {z : Int32} (hret : meth.sig.returnType = some .int)
    (hd : decode c.code pc = .ok (.ireturn, 1)) (hlocks : meth.locks = false) (hq : Q (some (.int z)) T.heap locs) (hc : cells ≤ C) (hs : slots ≤ S) :
    own_Ends p.tables e below s Q C S (T.setTop (mkF m pc Ls (.int z :: rest))) :=
  own_retW X hx hret rfl (Or.inl ⟨rfl, Or.inl rfl, z, rfl⟩) hd hlocks hq hc hs
theorem own_retJ (X : Stand p l e R s m args below meth c T locs cells slots) (hx : p.tables.exec = Jvm.exec) {z : Int64} (hret : meth.sig.returnType = some .long)
    (hd : decode c.code pc = .ok (.lreturn, 1)) (hlocks : meth.locks = false) (hq : Q (some (.long z)) T.heap locs) (hc : cells ≤ C) (hs : slots ≤ S) :
    own_Ends p.tables e below s Q C S (T.setTop (mkF m pc Ls (.long z :: rest))) :=
  own_retW X hx hret rfl (Or.inr (Or.inl ⟨rfl, rfl, z, rfl⟩)) hd hlocks hq hc hs
theorem own_retR (X : Stand p l e R s m args below meth c T locs cells slots) (hx : p.tables.exec = Jvm.exec) {w : Value} {t : FieldType} (hret : meth.sig.returnType = some t) (ht : t.isReference = true) (hw : w.isRef = true) (hn : narrow t w = w)
    (hd : decode c.code pc = .ok (.areturn, 1)) (hlocks : meth.locks = false) (hq : Q (some w) T.heap locs) (hc : cells ≤ C) (hs : slots ≤ S) :
    own_Ends p.tables e below s Q C S (T.setTop (mkF m pc Ls (w :: rest))) :=
  own_retW X hx hret hn (Or.inr (Or.inr (Or.inr (Or.inr ⟨rfl, ht, hw⟩)))) hd hlocks hq hc hs
theorem own_retN (X : Stand p l e R s m args below meth c T locs cells slots) (hx : p.tables.exec = Jvm.exec) {z : Int32} {t : FieldType} (hret : meth.sig.returnType = some t) (ht : t = .boolean ∨ t = .byte ∨ t = .char ∨ t = .short)
    (hd : decode c.code pc = .ok (.ireturn, 1)) (hlocks : meth.locks = false) (hq : Q (some (.int (nar t z))) T.heap locs) (hc : cells ≤ C) (hs : slots ≤ S) :
    own_Ends p.tables e below s Q C S (T.setTop (mkF m pc Ls (.int z :: rest))) := by
  obtain ⟨fs, hr, hrun, hended, hW, hsame⟩ := X.leave (v := some (.int (nar t z))) (fun h => by rw [hret] at h; cases h) hlocks
  exact ⟨_, _, retN X hx hret ht hd hr, hrun, hended, _, _, rfl, hq, ⟨_, rfl⟩, hW, hsame.mono hc hs⟩
theorem own_ret0 (X : Stand p l e R s m args below meth c T locs cells slots) (hx : p.tables.exec = Jvm.exec) (hret : meth.sig.returnType = none)
    (hd : decode c.code pc = .ok (.return_, 1)) (hlocks : meth.locks = false) (hq : Q none T.heap locs) (hc : cells ≤ C) (hs : slots ≤ S) :
    own_Ends p.tables e below s Q C S (T.setTop (mkF m pc Ls [])) := by
  obtain ⟨fs, hr, hrun, hended, hW, hsame⟩ := X.leave (v := none) (fun _ => rfl) hlocks
  exact ⟨_, _, X.returnOut hx hret hd hr, hrun, hended, _, _, rfl, hq, ⟨_, rfl⟩, hW, hsame.mono hc hs⟩
end OwnRet
theorem own_idx (b n : Int32) (hn : 0 < n.toInt) : ¬ ((b &&& 2147483647) % n) < 0 ∧ ((b &&& 2147483647) % n) < n := by
  have h1 := c_and b 2147483647 (by decide)
  have h2 := (c_iremV (b &&& 2147483647) n).1 h1.1 hn
  constructor
  · rw [Int32.lt_iff_toInt_lt]; show ¬ _ < (0 : Int); omega
  · rw [Int32.lt_iff_toInt_lt]; omega
theorem own_small (v : Int32) (k : Nat) (hk : k < 2147483648) (h1 : ¬ v < 0) (h2 : v < Int32.ofNat k) : ∃ n : Fin k, v = Int32.ofNat n.1 := by
  rw [Int32.lt_iff_toInt_lt] at h1 h2
  rw [Int32.toInt_ofNat_of_lt hk] at h2
  have a : 0 ≤ v.toInt := by simpa using h1
  refine ⟨⟨v.toInt.toNat, by omega⟩, ?_⟩
  apply Int32.toInt_inj.mp
  rw [Int32.toInt_ofNat_of_lt (by show v.toInt.toNat < _; omega)]
  show v.toInt = ((v.toInt.toNat : Nat) : Int)
  omega
def own_r1 (x0_1 : Int32) : Int32 := (if x0_1 < (65 : Int32) then (if x0_1 < (97 : Int32) then (if x0_1 = (95 : Int32) then (1 : Int32) else (0 : Int32)) else (if (122 : Int32) < x0_1 then (if x0_1 = (95 : Int32) then (1 : Int32) else (0 : Int32)) else (1 : Int32))) else (if (90 : Int32) < x0_1 then (if x0_1 < (97 : Int32) then (if x0_1 = (95 : Int32) then (1 : Int32) else (0 : Int32)) else (if (122 : Int32) < x0_1 then (if x0_1 = (95 : Int32) then (1 : Int32) else (0 : Int32)) else (1 : Int32))) else (1 : Int32)))
theorem d1_0 : decode prog_11_method_14_code 0 = .ok (.iload_n 0, 1) := by decide +kernel
theorem d1_1 : decode prog_11_method_14_code 1 = .ok (.bipush 65, 2) := by decide +kernel
theorem d1_3 : decode prog_11_method_14_code 3 = .ok (.if_icmp .lt 9, 3) := by decide +kernel
theorem d1_6 : decode prog_11_method_14_code 6 = .ok (.iload_n 0, 1) := by decide +kernel
theorem d1_7 : decode prog_11_method_14_code 7 = .ok (.bipush 90, 2) := by decide +kernel
theorem d1_9 : decode prog_11_method_14_code 9 = .ok (.if_icmp .le 21, 3) := by decide +kernel
theorem d1_12 : decode prog_11_method_14_code 12 = .ok (.iload_n 0, 1) := by decide +kernel
theorem d1_13 : decode prog_11_method_14_code 13 = .ok (.bipush 97, 2) := by decide +kernel
theorem d1_15 : decode prog_11_method_14_code 15 = .ok (.if_icmp .lt 9, 3) := by decide +kernel
theorem d1_18 : decode prog_11_method_14_code 18 = .ok (.iload_n 0, 1) := by decide +kernel
theorem d1_19 : decode prog_11_method_14_code 19 = .ok (.bipush 122, 2) := by decide +kernel
theorem d1_21 : decode prog_11_method_14_code 21 = .ok (.if_icmp .le 9, 3) := by decide +kernel
theorem d1_24 : decode prog_11_method_14_code 24 = .ok (.iload_n 0, 1) := by decide +kernel
theorem d1_25 : decode prog_11_method_14_code 25 = .ok (.bipush 95, 2) := by decide +kernel
theorem d1_27 : decode prog_11_method_14_code 27 = .ok (.if_icmp .ne 7, 3) := by decide +kernel
theorem d1_30 : decode prog_11_method_14_code 30 = .ok (.iconst 1, 1) := by decide +kernel
theorem d1_31 : decode prog_11_method_14_code 31 = .ok (.goto 4, 3) := by decide +kernel
theorem d1_34 : decode prog_11_method_14_code 34 = .ok (.iconst 0, 1) := by decide +kernel
theorem d1_35 : decode prog_11_method_14_code 35 = .ok (.ireturn, 1) := by decide +kernel
theorem pn_0 : plainName "com/example/untl/untl/Formula" = true := by first | (simp [plainName, overriddenIn]; done) | decide +kernel
theorem ef_1 (m : MethodId) (x0_1 : Int32) : entryFrame m #[(.int x0_1)] 1 = mkF m 0 #[.val (.int x0_1)] [] := by first | (simp [entryFrame, mkF, argsToLocals, Value.category]; done) | rfl
def Q1 (Z : State) (x0_1 : Int32) (h0 : Heap) (n0 : Nat) (v : Option Value) (h : Heap) (L : List Loc) : Prop := v = some (.int (own_r1 x0_1)) ∧ Fr n0 L ∧ h = h0
set_option maxRecDepth 65536 in
set_option maxHeartbeats 40000000 in
theorem rm1 (l : Launch) (Z : State) (a0 : Array Value) (hw : ∀ d ∈ tables_1, d.before a0 Z = true) (ws : List Jvm.Cond) (x0_1 : Int32) (h0 : Heap) (n0 : Nat) (O0 : Old Z n0 h0) :
    MetFree l (⟨"com/example/untl/untl/Formula", "isIdentifierStart", "(C)Z"⟩ : MethodName) (head1 (Jvm.Cond.code (⟨"com/example/untl/untl/Formula", "isIdentifierStart", "(C)Z"⟩ : MethodName) prog_11_method_14_code 1 (some .boolean) :: ws) ({ frames := 0, cells := 0, slots := 0, locals := 0 } : Room)) (fun a U => a = #[(.int x0_1)] ∧ Z.Warmed39 U.vm ∧ U.heap = h0) (fun _ _ _ _ _ => True) (fun _ U o U' => ∃ v L, o = .returned v ∧ Q1 Z x0_1 h0 n0 v U'.heap L ∧ FrameEnd U o U' L ({ frames := 0, cells := 0, slots := 0, locals := 0 } : Room).cells ({ frames := 0, cells := 0, slots := 0, locals := 0 } : Room).slots) := by
  refine MetFree.of_bodySF (plainFor_of_name pn_0) hisR ?_
  intro p e s m args below meth c s₁ Bd hml0 hP hK
  obtain ⟨rfl, hZ, hh⟩ := hP
  have hx := Bd.exec
  have hby := Bd.bytes
  have hnl := BodyLoose.notSynchronized Bd
  have hml : c.maxLocals = 1 := hml0
  have hown : s.vm.findClass "com/example/untl/untl/Formula" = some m.cls := findClass_of_methodNamed Bd.named
  have hnm := (name_of_methodNamed Bd.named Bd.method).1
  have X0 : Stand p l e ({ frames := 0, cells := 0, slots := 0, locals := 0 } : Room) s m #[(.int x0_1)] below meth c s₁ [] 0 0 := Stand.of_body Bd
  have e0 : s₁.heap = h0 := by rw [← hh, Bd.state]; rfl
  have N0 := Fr.nil n0
  show own_Ends p.tables e below s (Q1 Z x0_1 h0 n0) 0 0 (s₁.setTop (entryFrame m #[(.int x0_1)] 1))
  rw [ef_1 m x0_1]
  show own_Ends p.tables e below s _ _ _ (s₁.setTop (mkF m 0 #[.val (.int x0_1)] []))
  refine own_step (fun t k => XS.iloadN X0.here hx rfl (hb hby d1_0) rfl k) ?_
  show own_Ends p.tables e below s _ _ _ (s₁.setTop (mkF m 1 #[.val (.int x0_1)] [(.int x0_1)]))
  refine own_step (fun t k => XS.bipush X0.here hx rfl (hb hby d1_1) k) ?_
  show own_Ends p.tables e below s _ _ _ (s₁.setTop (mkF m 3 #[.val (.int x0_1)] [(.int (65 : Int32)), (.int x0_1)]))
  by_cases hc3_1 : x0_1 < (65 : Int32)
  · skip
    refine own_step (fun t k => XS.icmpYes X0.here hx rfl (pc0 := 3) (pc' := 12) rfl (hb hby d1_3) rfl (tlt hc3_1).1 (by decide) (by decide) k) ?_
    show own_Ends p.tables e below s _ _ _ (s₁.setTop (mkF m 12 #[.val (.int x0_1)] []))
    refine own_step (fun t k => XS.iloadN X0.here hx rfl (hb hby d1_12) rfl k) ?_
    show own_Ends p.tables e below s _ _ _ (s₁.setTop (mkF m 13 #[.val (.int x0_1)] [(.int x0_1)]))
    refine own_step (fun t k => XS.bipush X0.here hx rfl (hb hby d1_13) k) ?_
    show own_Ends p.tables e below s _ _ _ (s₁.setTop (mkF m 15 #[.val (.int x0_1)] [(.int (97 : Int32)), (.int x0_1)]))
    by_cases hc15_2 : x0_1 < (97 : Int32)
    · skip
      refine own_step (fun t k => XS.icmpYes X0.here hx rfl (pc0 := 15) (pc' := 24) rfl (hb hby d1_15) rfl (tlt hc15_2).1 (by decide) (by decide) k) ?_
      show own_Ends p.tables e below s _ _ _ (s₁.setTop (mkF m 24 #[.val (.int x0_1)] []))
      refine own_step (fun t k => XS.iloadN X0.here hx rfl (hb hby d1_24) rfl k) ?_
      show own_Ends p.tables e below s _ _ _ (s₁.setTop (mkF m 25 #[.val (.int x0_1)] [(.int x0_1)]))
      refine own_step (fun t k => XS.bipush X0.here hx rfl (hb hby d1_25) k) ?_
      show own_Ends p.tables e below s _ _ _ (s₁.setTop (mkF m 27 #[.val (.int x0_1)] [(.int (95 : Int32)), (.int x0_1)]))
      by_cases hc27_3 : x0_1 = (95 : Int32)
      · skip
        refine own_step (fun t k => XS.icmpNo X0.here hx rfl (hb hby d1_27) rfl (teq hc27_3).2 k) ?_
        show own_Ends p.tables e below s _ _ _ (s₁.setTop (mkF m 30 #[.val (.int x0_1)] []))
        refine own_step (fun t k => XS.iconst X0.here hx rfl (hb hby d1_30) k) ?_
        show own_Ends p.tables e below s _ _ _ (s₁.setTop (mkF m 31 #[.val (.int x0_1)] [(.int (1 : Int32))]))
        refine own_step (fun t k => XS.goto X0.here hx rfl (pc0 := 31) (pc' := 35) rfl (hb hby d1_31) (by decide) (by decide) k) ?_
        show own_Ends p.tables e below s _ _ _ (s₁.setTop (mkF m 35 #[.val (.int x0_1)] [(.int (1 : Int32))]))
        exact own_retN X0 hx (t := .boolean) Bd.returns (by simp) (hb hby d1_35) hnl (by rw [e0]; exact ⟨(congrArg (fun z => some (Value.int z)) (Eq.symm (show (own_r1 x0_1) = (1 : Int32) from by unfold own_r1; rw [if_pos hc3_1, if_pos hc15_2, if_pos hc27_3]))), N0, rfl⟩) (by decide) (by decide)
      · skip
        refine own_step (fun t k => XS.icmpYes X0.here hx rfl (pc0 := 27) (pc' := 34) rfl (hb hby d1_27) rfl (feq hc27_3).2 (by decide) (by decide) k) ?_
        show own_Ends p.tables e below s _ _ _ (s₁.setTop (mkF m 34 #[.val (.int x0_1)] []))
        refine own_step (fun t k => XS.iconst X0.here hx rfl (hb hby d1_34) k) ?_
        show own_Ends p.tables e below s _ _ _ (s₁.setTop (mkF m 35 #[.val (.int x0_1)] [(.int (0 : Int32))]))
        exact own_retN X0 hx (t := .boolean) Bd.returns (by simp) (hb hby d1_35) hnl (by rw [e0]; exact ⟨(congrArg (fun z => some (Value.int z)) (Eq.symm (show (own_r1 x0_1) = (0 : Int32) from by unfold own_r1; rw [if_pos hc3_1, if_pos hc15_2, if_neg hc27_3]))), N0, rfl⟩) (by decide) (by decide)
    · skip
      refine own_step (fun t k => XS.icmpNo X0.here hx rfl (hb hby d1_15) rfl (flt hc15_2).1 k) ?_
      show own_Ends p.tables e below s _ _ _ (s₁.setTop (mkF m 18 #[.val (.int x0_1)] []))
      refine own_step (fun t k => XS.iloadN X0.here hx rfl (hb hby d1_18) rfl k) ?_
      show own_Ends p.tables e below s _ _ _ (s₁.setTop (mkF m 19 #[.val (.int x0_1)] [(.int x0_1)]))
      refine own_step (fun t k => XS.bipush X0.here hx rfl (hb hby d1_19) k) ?_
      show own_Ends p.tables e below s _ _ _ (s₁.setTop (mkF m 21 #[.val (.int x0_1)] [(.int (122 : Int32)), (.int x0_1)]))
      by_cases hc21_4 : (122 : Int32) < x0_1
      · skip
        refine own_step (fun t k => XS.icmpNo X0.here hx rfl (hb hby d1_21) rfl (tlt hc21_4).2.2.2 k) ?_
        show own_Ends p.tables e below s _ _ _ (s₁.setTop (mkF m 24 #[.val (.int x0_1)] []))
        refine own_step (fun t k => XS.iloadN X0.here hx rfl (hb hby d1_24) rfl k) ?_
        show own_Ends p.tables e below s _ _ _ (s₁.setTop (mkF m 25 #[.val (.int x0_1)] [(.int x0_1)]))
        refine own_step (fun t k => XS.bipush X0.here hx rfl (hb hby d1_25) k) ?_
        show own_Ends p.tables e below s _ _ _ (s₁.setTop (mkF m 27 #[.val (.int x0_1)] [(.int (95 : Int32)), (.int x0_1)]))
        by_cases hc27_5 : x0_1 = (95 : Int32)
        · skip
          refine own_step (fun t k => XS.icmpNo X0.here hx rfl (hb hby d1_27) rfl (teq hc27_5).2 k) ?_
          show own_Ends p.tables e below s _ _ _ (s₁.setTop (mkF m 30 #[.val (.int x0_1)] []))
          refine own_step (fun t k => XS.iconst X0.here hx rfl (hb hby d1_30) k) ?_
          show own_Ends p.tables e below s _ _ _ (s₁.setTop (mkF m 31 #[.val (.int x0_1)] [(.int (1 : Int32))]))
          refine own_step (fun t k => XS.goto X0.here hx rfl (pc0 := 31) (pc' := 35) rfl (hb hby d1_31) (by decide) (by decide) k) ?_
          show own_Ends p.tables e below s _ _ _ (s₁.setTop (mkF m 35 #[.val (.int x0_1)] [(.int (1 : Int32))]))
          exact own_retN X0 hx (t := .boolean) Bd.returns (by simp) (hb hby d1_35) hnl (by rw [e0]; exact ⟨(congrArg (fun z => some (Value.int z)) (Eq.symm (show (own_r1 x0_1) = (1 : Int32) from by unfold own_r1; rw [if_pos hc3_1, if_neg hc15_2, if_pos hc21_4, if_pos hc27_5]))), N0, rfl⟩) (by decide) (by decide)
        · skip
          refine own_step (fun t k => XS.icmpYes X0.here hx rfl (pc0 := 27) (pc' := 34) rfl (hb hby d1_27) rfl (feq hc27_5).2 (by decide) (by decide) k) ?_
          show own_Ends p.tables e below s _ _ _ (s₁.setTop (mkF m 34 #[.val (.int x0_1)] []))
          refine own_step (fun t k => XS.iconst X0.here hx rfl (hb hby d1_34) k) ?_
          show own_Ends p.tables e below s _ _ _ (s₁.setTop (mkF m 35 #[.val (.int x0_1)] [(.int (0 : Int32))]))
          exact own_retN X0 hx (t := .boolean) Bd.returns (by simp) (hb hby d1_35) hnl (by rw [e0]; exact ⟨(congrArg (fun z => some (Value.int z)) (Eq.symm (show (own_r1 x0_1) = (0 : Int32) from by unfold own_r1; rw [if_pos hc3_1, if_neg hc15_2, if_pos hc21_4, if_neg hc27_5]))), N0, rfl⟩) (by decide) (by decide)
      · skip
        refine own_step (fun t k => XS.icmpYes X0.here hx rfl (pc0 := 21) (pc' := 30) rfl (hb hby d1_21) rfl (flt hc21_4).2.2.2 (by decide) (by decide) k) ?_
        show own_Ends p.tables e below s _ _ _ (s₁.setTop (mkF m 30 #[.val (.int x0_1)] []))
        refine own_step (fun t k => XS.iconst X0.here hx rfl (hb hby d1_30) k) ?_
        show own_Ends p.tables e below s _ _ _ (s₁.setTop (mkF m 31 #[.val (.int x0_1)] [(.int (1 : Int32))]))
        refine own_step (fun t k => XS.goto X0.here hx rfl (pc0 := 31) (pc' := 35) rfl (hb hby d1_31) (by decide) (by decide) k) ?_
        show own_Ends p.tables e below s _ _ _ (s₁.setTop (mkF m 35 #[.val (.int x0_1)] [(.int (1 : Int32))]))
        exact own_retN X0 hx (t := .boolean) Bd.returns (by simp) (hb hby d1_35) hnl (by rw [e0]; exact ⟨(congrArg (fun z => some (Value.int z)) (Eq.symm (show (own_r1 x0_1) = (1 : Int32) from by unfold own_r1; rw [if_pos hc3_1, if_neg hc15_2, if_neg hc21_4]))), N0, rfl⟩) (by decide) (by decide)
  · skip
    refine own_step (fun t k => XS.icmpNo X0.here hx rfl (hb hby d1_3) rfl (flt hc3_1).1 k) ?_
    show own_Ends p.tables e below s _ _ _ (s₁.setTop (mkF m 6 #[.val (.int x0_1)] []))
    refine own_step (fun t k => XS.iloadN X0.here hx rfl (hb hby d1_6) rfl k) ?_
    show own_Ends p.tables e below s _ _ _ (s₁.setTop (mkF m 7 #[.val (.int x0_1)] [(.int x0_1)]))
    refine own_step (fun t k => XS.bipush X0.here hx rfl (hb hby d1_7) k) ?_
    show own_Ends p.tables e below s _ _ _ (s₁.setTop (mkF m 9 #[.val (.int x0_1)] [(.int (90 : Int32)), (.int x0_1)]))
    by_cases hc9_6 : (90 : Int32) < x0_1
    · skip
      refine own_step (fun t k => XS.icmpNo X0.here hx rfl (hb hby d1_9) rfl (tlt hc9_6).2.2.2 k) ?_
      show own_Ends p.tables e below s _ _ _ (s₁.setTop (mkF m 12 #[.val (.int x0_1)] []))
      refine own_step (fun t k => XS.iloadN X0.here hx rfl (hb hby d1_12) rfl k) ?_
      show own_Ends p.tables e below s _ _ _ (s₁.setTop (mkF m 13 #[.val (.int x0_1)] [(.int x0_1)]))
      refine own_step (fun t k => XS.bipush X0.here hx rfl (hb hby d1_13) k) ?_
      show own_Ends p.tables e below s _ _ _ (s₁.setTop (mkF m 15 #[.val (.int x0_1)] [(.int (97 : Int32)), (.int x0_1)]))
      by_cases hc15_7 : x0_1 < (97 : Int32)
      · skip
        refine own_step (fun t k => XS.icmpYes X0.here hx rfl (pc0 := 15) (pc' := 24) rfl (hb hby d1_15) rfl (tlt hc15_7).1 (by decide) (by decide) k) ?_
        show own_Ends p.tables e below s _ _ _ (s₁.setTop (mkF m 24 #[.val (.int x0_1)] []))
        refine own_step (fun t k => XS.iloadN X0.here hx rfl (hb hby d1_24) rfl k) ?_
        show own_Ends p.tables e below s _ _ _ (s₁.setTop (mkF m 25 #[.val (.int x0_1)] [(.int x0_1)]))
        refine own_step (fun t k => XS.bipush X0.here hx rfl (hb hby d1_25) k) ?_
        show own_Ends p.tables e below s _ _ _ (s₁.setTop (mkF m 27 #[.val (.int x0_1)] [(.int (95 : Int32)), (.int x0_1)]))
        by_cases hc27_8 : x0_1 = (95 : Int32)
        · skip
          refine own_step (fun t k => XS.icmpNo X0.here hx rfl (hb hby d1_27) rfl (teq hc27_8).2 k) ?_
          show own_Ends p.tables e below s _ _ _ (s₁.setTop (mkF m 30 #[.val (.int x0_1)] []))
          refine own_step (fun t k => XS.iconst X0.here hx rfl (hb hby d1_30) k) ?_
          show own_Ends p.tables e below s _ _ _ (s₁.setTop (mkF m 31 #[.val (.int x0_1)] [(.int (1 : Int32))]))
          refine own_step (fun t k => XS.goto X0.here hx rfl (pc0 := 31) (pc' := 35) rfl (hb hby d1_31) (by decide) (by decide) k) ?_
          show own_Ends p.tables e below s _ _ _ (s₁.setTop (mkF m 35 #[.val (.int x0_1)] [(.int (1 : Int32))]))
          exact own_retN X0 hx (t := .boolean) Bd.returns (by simp) (hb hby d1_35) hnl (by rw [e0]; exact ⟨(congrArg (fun z => some (Value.int z)) (Eq.symm (show (own_r1 x0_1) = (1 : Int32) from by unfold own_r1; rw [if_neg hc3_1, if_pos hc9_6, if_pos hc15_7, if_pos hc27_8]))), N0, rfl⟩) (by decide) (by decide)
        · skip
          refine own_step (fun t k => XS.icmpYes X0.here hx rfl (pc0 := 27) (pc' := 34) rfl (hb hby d1_27) rfl (feq hc27_8).2 (by decide) (by decide) k) ?_
          show own_Ends p.tables e below s _ _ _ (s₁.setTop (mkF m 34 #[.val (.int x0_1)] []))
          refine own_step (fun t k => XS.iconst X0.here hx rfl (hb hby d1_34) k) ?_
          show own_Ends p.tables e below s _ _ _ (s₁.setTop (mkF m 35 #[.val (.int x0_1)] [(.int (0 : Int32))]))
          exact own_retN X0 hx (t := .boolean) Bd.returns (by simp) (hb hby d1_35) hnl (by rw [e0]; exact ⟨(congrArg (fun z => some (Value.int z)) (Eq.symm (show (own_r1 x0_1) = (0 : Int32) from by unfold own_r1; rw [if_neg hc3_1, if_pos hc9_6, if_pos hc15_7, if_neg hc27_8]))), N0, rfl⟩) (by decide) (by decide)
      · skip
        refine own_step (fun t k => XS.icmpNo X0.here hx rfl (hb hby d1_15) rfl (flt hc15_7).1 k) ?_
        show own_Ends p.tables e below s _ _ _ (s₁.setTop (mkF m 18 #[.val (.int x0_1)] []))
        refine own_step (fun t k => XS.iloadN X0.here hx rfl (hb hby d1_18) rfl k) ?_
        show own_Ends p.tables e below s _ _ _ (s₁.setTop (mkF m 19 #[.val (.int x0_1)] [(.int x0_1)]))
        refine own_step (fun t k => XS.bipush X0.here hx rfl (hb hby d1_19) k) ?_
        show own_Ends p.tables e below s _ _ _ (s₁.setTop (mkF m 21 #[.val (.int x0_1)] [(.int (122 : Int32)), (.int x0_1)]))
        by_cases hc21_9 : (122 : Int32) < x0_1
        · skip
          refine own_step (fun t k => XS.icmpNo X0.here hx rfl (hb hby d1_21) rfl (tlt hc21_9).2.2.2 k) ?_
          show own_Ends p.tables e below s _ _ _ (s₁.setTop (mkF m 24 #[.val (.int x0_1)] []))
          refine own_step (fun t k => XS.iloadN X0.here hx rfl (hb hby d1_24) rfl k) ?_
          show own_Ends p.tables e below s _ _ _ (s₁.setTop (mkF m 25 #[.val (.int x0_1)] [(.int x0_1)]))
          refine own_step (fun t k => XS.bipush X0.here hx rfl (hb hby d1_25) k) ?_
          show own_Ends p.tables e below s _ _ _ (s₁.setTop (mkF m 27 #[.val (.int x0_1)] [(.int (95 : Int32)), (.int x0_1)]))
          by_cases hc27_10 : x0_1 = (95 : Int32)
          · skip
            refine own_step (fun t k => XS.icmpNo X0.here hx rfl (hb hby d1_27) rfl (teq hc27_10).2 k) ?_
            show own_Ends p.tables e below s _ _ _ (s₁.setTop (mkF m 30 #[.val (.int x0_1)] []))
            refine own_step (fun t k => XS.iconst X0.here hx rfl (hb hby d1_30) k) ?_
            show own_Ends p.tables e below s _ _ _ (s₁.setTop (mkF m 31 #[.val (.int x0_1)] [(.int (1 : Int32))]))
            refine own_step (fun t k => XS.goto X0.here hx rfl (pc0 := 31) (pc' := 35) rfl (hb hby d1_31) (by decide) (by decide) k) ?_
            show own_Ends p.tables e below s _ _ _ (s₁.setTop (mkF m 35 #[.val (.int x0_1)] [(.int (1 : Int32))]))
            exact own_retN X0 hx (t := .boolean) Bd.returns (by simp) (hb hby d1_35) hnl (by rw [e0]; exact ⟨(congrArg (fun z => some (Value.int z)) (Eq.symm (show (own_r1 x0_1) = (1 : Int32) from by unfold own_r1; rw [if_neg hc3_1, if_pos hc9_6, if_neg hc15_7, if_pos hc21_9, if_pos hc27_10]))), N0, rfl⟩) (by decide) (by decide)
          · skip
            refine own_step (fun t k => XS.icmpYes X0.here hx rfl (pc0 := 27) (pc' := 34) rfl (hb hby d1_27) rfl (feq hc27_10).2 (by decide) (by decide) k) ?_
            show own_Ends p.tables e below s _ _ _ (s₁.setTop (mkF m 34 #[.val (.int x0_1)] []))
            refine own_step (fun t k => XS.iconst X0.here hx rfl (hb hby d1_34) k) ?_
            show own_Ends p.tables e below s _ _ _ (s₁.setTop (mkF m 35 #[.val (.int x0_1)] [(.int (0 : Int32))]))
            exact own_retN X0 hx (t := .boolean) Bd.returns (by simp) (hb hby d1_35) hnl (by rw [e0]; exact ⟨(congrArg (fun z => some (Value.int z)) (Eq.symm (show (own_r1 x0_1) = (0 : Int32) from by unfold own_r1; rw [if_neg hc3_1, if_pos hc9_6, if_neg hc15_7, if_pos hc21_9, if_neg hc27_10]))), N0, rfl⟩) (by decide) (by decide)
        · skip
          refine own_step (fun t k => XS.icmpYes X0.here hx rfl (pc0 := 21) (pc' := 30) rfl (hb hby d1_21) rfl (flt hc21_9).2.2.2 (by decide) (by decide) k) ?_
          show own_Ends p.tables e below s _ _ _ (s₁.setTop (mkF m 30 #[.val (.int x0_1)] []))
          refine own_step (fun t k => XS.iconst X0.here hx rfl (hb hby d1_30) k) ?_
          show own_Ends p.tables e below s _ _ _ (s₁.setTop (mkF m 31 #[.val (.int x0_1)] [(.int (1 : Int32))]))
          refine own_step (fun t k => XS.goto X0.here hx rfl (pc0 := 31) (pc' := 35) rfl (hb hby d1_31) (by decide) (by decide) k) ?_
          show own_Ends p.tables e below s _ _ _ (s₁.setTop (mkF m 35 #[.val (.int x0_1)] [(.int (1 : Int32))]))
          exact own_retN X0 hx (t := .boolean) Bd.returns (by simp) (hb hby d1_35) hnl (by rw [e0]; exact ⟨(congrArg (fun z => some (Value.int z)) (Eq.symm (show (own_r1 x0_1) = (1 : Int32) from by unfold own_r1; rw [if_neg hc3_1, if_pos hc9_6, if_neg hc15_7, if_neg hc21_9]))), N0, rfl⟩) (by decide) (by decide)
    · skip
      refine own_step (fun t k => XS.icmpYes X0.here hx rfl (pc0 := 9) (pc' := 30) rfl (hb hby d1_9) rfl (flt hc9_6).2.2.2 (by decide) (by decide) k) ?_
      show own_Ends p.tables e below s _ _ _ (s₁.setTop (mkF m 30 #[.val (.int x0_1)] []))
      refine own_step (fun t k => XS.iconst X0.here hx rfl (hb hby d1_30) k) ?_
      show own_Ends p.tables e below s _ _ _ (s₁.setTop (mkF m 31 #[.val (.int x0_1)] [(.int (1 : Int32))]))
      refine own_step (fun t k => XS.goto X0.here hx rfl (pc0 := 31) (pc' := 35) rfl (hb hby d1_31) (by decide) (by decide) k) ?_
      show own_Ends p.tables e below s _ _ _ (s₁.setTop (mkF m 35 #[.val (.int x0_1)] [(.int (1 : Int32))]))
      exact own_retN X0 hx (t := .boolean) Bd.returns (by simp) (hb hby d1_35) hnl (by rw [e0]; exact ⟨(congrArg (fun z => some (Value.int z)) (Eq.symm (show (own_r1 x0_1) = (1 : Int32) from by unfold own_r1; rw [if_neg hc3_1, if_neg hc9_6]))), N0, rfl⟩) (by decide) (by decide)
theorem own_low (n : Fin 128) : own_r1 (Int32.ofNat n.1) = if (¬ ((Int32.ofNat n.1 ||| 32) - 97) < 0 ∧ ((Int32.ofNat n.1 ||| 32) - 97) < 26) ∨ Int32.ofNat n.1 = 95 then 1 else 0 := by
  revert n; decide +kernel
theorem own_lowv (v : Int32) (h1 : ¬ v < 0) (h2 : v < 128) : own_r1 v = if (¬ ((v ||| 32) - 97) < 0 ∧ ((v ||| 32) - 97) < 26) ∨ v = 95 then 1 else 0 := by
  obtain ⟨n, rfl⟩ := own_small v 128 (by decide) h1 h2
  exact own_low n
theorem own_hi (v : Int32) (h2 : ¬ v < 128) : own_r1 v = 0 ∧ v ≠ 95 := by
  constructor
  · unfold own_r1
    repeat' split
    all_goals first | rfl | (exfalso; simp only [Int32.lt_iff_toInt_lt, ← Int32.toInt_inj] at *; simp at *; omega)
  · intro h; subst h; exact h2 (by decide)
theorem own_char (x : Int32) : ¬ x.toUInt32.toUInt16.toUInt32.toInt32 < 0 := by
  have := (c_i2c x).2.1
  rw [Int32.lt_iff_toInt_lt]; simpa using this

theorem pd_0 : parseMethodDescriptor "(C)Z" = some ⟨[.char], some .boolean⟩ := by decide +kernel
theorem pn_1 : plainName "com/example/untl/untl/FormulaIsIdentifierStartPinLaw" = true := by first | (simp [plainName, overriddenIn]; done) | decide +kernel
theorem ef_0 (m : MethodId) (x0_0 : Int32) : entryFrame m #[(.int x0_0)] maxLocals = mkF m 0 #[.val (.int x0_0), .unset, .unset, .unset, .unset, .unset, .unset] [] := by first | (simp [entryFrame, mkF, argsToLocals, Value.category, maxLocals]; done) | rfl
def Q0 (Z : State) (x0_0 : Int32) (h0 : Heap) (n0 : Nat) (v : Option Value) (h : Heap) (L : List Loc) : Prop := v = some (.int 1) ∧ Fr n0 L
set_option maxRecDepth 65536 in
set_option maxHeartbeats 40000000 in
theorem rm0 (l : Launch) (Z : State) (a0 : Array Value) (hw : ∀ d ∈ tables_1, d.before a0 Z = true) (ws : List Jvm.Cond) (x0_0 : Int32) (h0 : Heap) (n0 : Nat) (O0 : Old Z n0 h0) :
    MetFree l x (head1 (Jvm.Cond.code x code maxLocals ret :: ws) room_1) (fun a U => a = #[(.int x0_0)] ∧ Z.Warmed39 U.vm ∧ U.heap = h0) (fun _ _ _ _ _ => True) (fun _ U o U' => ∃ v L, o = .returned v ∧ Q0 Z x0_0 h0 n0 v U'.heap L ∧ FrameEnd U o U' L 0 0) := by
  refine MetFree.of_bodySF (plainFor_of_name pn_1) hisR ?_
  intro p e s m args below meth c s₁ Bd hml0 hP hK
  obtain ⟨rfl, hZ, hh⟩ := hP
  have hx := Bd.exec
  have hby := Bd.bytes
  have hnl := BodyLoose.notSynchronized Bd
  have hml : c.maxLocals = 7 := hml0
  have hown : s.vm.findClass "com/example/untl/untl/FormulaIsIdentifierStartPinLaw" = some m.cls := findClass_of_methodNamed Bd.named
  have hnm := (name_of_methodNamed Bd.named Bd.method).1
  have X0 : Stand p l e room_1 s m #[(.int x0_0)] below meth c s₁ [] 0 0 := Stand.of_body Bd
  have e0 : s₁.heap = h0 := by rw [← hh, Bd.state]; rfl
  have N0 := Fr.nil n0
  show own_Ends p.tables e below s (Q0 Z x0_0 h0 n0) 0 0 (s₁.setTop (entryFrame m #[(.int x0_0)] maxLocals))
  rw [ef_0 m x0_0]
  show own_Ends p.tables e below s _ _ _ (s₁.setTop (mkF m 0 #[.val (.int x0_0), .unset, .unset, .unset, .unset, .unset, .unset] []))
  refine own_step (fun t k => XS.iloadN X0.here hx rfl (hb hby at_0) rfl k) ?_
  show own_Ends p.tables e below s _ _ _ (s₁.setTop (mkF m 1 #[.val (.int x0_0), .unset, .unset, .unset, .unset, .unset, .unset] [(.int x0_0)]))
  refine own_step (fun t k => XS.i2c X0.here hx rfl (hb hby at_1) rfl k) ?_
  show own_Ends p.tables e below s _ _ _ (s₁.setTop (mkF m 2 #[.val (.int x0_0), .unset, .unset, .unset, .unset, .unset, .unset] [(.int (x0_0.toUInt32.toUInt16.toUInt32.toInt32))]))
  generalize hv : (x0_0.toUInt32.toUInt16.toUInt32.toInt32) = v
  show own_Ends p.tables e below s _ _ _ (s₁.setTop (mkF m 2 #[.val (.int x0_0), .unset, .unset, .unset, .unset, .unset, .unset] [(.int v)]))
  refine own_step (fun t k => XS.istoreN X0.here hx rfl (hb hby at_2) rfl (l' := #[.val (.int x0_0), .val (.int v), .unset, .unset, .unset, .unset, .unset]) rfl k) ?_
  show own_Ends p.tables e below s _ _ _ (s₁.setTop (mkF m 3 #[.val (.int x0_0), .val (.int v), .unset, .unset, .unset, .unset, .unset] []))
  refine own_step (fun t k => XS.iloadN X0.here hx rfl (hb hby at_3) rfl k) ?_
  show own_Ends p.tables e below s _ _ _ (s₁.setTop (mkF m 4 #[.val (.int x0_0), .val (.int v), .unset, .unset, .unset, .unset, .unset] [(.int v)]))
  refine own_step (fun t k => XS.istoreN X0.here hx rfl (hb hby at_4) rfl (l' := #[.val (.int x0_0), .val (.int v), .val (.int v), .unset, .unset, .unset, .unset]) rfl k) ?_
  show own_Ends p.tables e below s _ _ _ (s₁.setTop (mkF m 5 #[.val (.int x0_0), .val (.int v), .val (.int v), .unset, .unset, .unset, .unset] []))
  refine own_step (fun t k => XS.iloadN X0.here hx rfl (hb hby at_5) rfl k) ?_
  show own_Ends p.tables e below s _ _ _ (s₁.setTop (mkF m 6 #[.val (.int x0_0), .val (.int v), .val (.int v), .unset, .unset, .unset, .unset] [(.int v)]))
  refine own_step (fun t k => XS.sipush X0.here hx rfl (hb hby at_6) k) ?_
  show own_Ends p.tables e below s _ _ _ (s₁.setTop (mkF m 9 #[.val (.int x0_0), .val (.int v), .val (.int v), .unset, .unset, .unset, .unset] [(.int (128 : Int32)), (.int v)]))
  by_cases hc9_1 : v < (128 : Int32)
  · skip
    refine own_step (fun t k => XS.icmpNo X0.here hx rfl (hb hby at_9) rfl (tlt hc9_1).2.1 k) ?_
    show own_Ends p.tables e below s _ _ _ (s₁.setTop (mkF m 12 #[.val (.int x0_0), .val (.int v), .val (.int v), .unset, .unset, .unset, .unset] []))
    refine own_step (fun t k => XS.iconst X0.here hx rfl (hb hby at_12) k) ?_
    show own_Ends p.tables e below s _ _ _ (s₁.setTop (mkF m 13 #[.val (.int x0_0), .val (.int v), .val (.int v), .unset, .unset, .unset, .unset] [(.int (1 : Int32))]))
    refine own_step (fun t k => XS.goto X0.here hx rfl (pc0 := 13) (pc' := 17) rfl (hb hby at_13) (by decide) (by decide) k) ?_
    show own_Ends p.tables e below s _ _ _ (s₁.setTop (mkF m 17 #[.val (.int x0_0), .val (.int v), .val (.int v), .unset, .unset, .unset, .unset] [(.int (1 : Int32))]))
    refine own_step (fun t k => XS.istoreN X0.here hx rfl (hb hby at_17) rfl (l' := #[.val (.int x0_0), .val (.int v), .val (.int v), .val (.int (1 : Int32)), .unset, .unset, .unset]) rfl k) ?_
    show own_Ends p.tables e below s _ _ _ (s₁.setTop (mkF m 18 #[.val (.int x0_0), .val (.int v), .val (.int v), .val (.int (1 : Int32)), .unset, .unset, .unset] []))
    refine own_step (fun t k => XS.iloadN X0.here hx rfl (hb hby at_18) rfl k) ?_
    show own_Ends p.tables e below s _ _ _ (s₁.setTop (mkF m 19 #[.val (.int x0_0), .val (.int v), .val (.int v), .val (.int (1 : Int32)), .unset, .unset, .unset] [(.int v)]))
    refine own_step (fun t k => XS.bipush X0.here hx rfl (hb hby at_19) k) ?_
    show own_Ends p.tables e below s _ _ _ (s₁.setTop (mkF m 21 #[.val (.int x0_0), .val (.int v), .val (.int v), .val (.int (1 : Int32)), .unset, .unset, .unset] [(.int (32 : Int32)), (.int v)]))
    refine own_step (fun t k => XS.ior X0.here hx rfl (hb hby at_21) rfl k) ?_
    show own_Ends p.tables e below s _ _ _ (s₁.setTop (mkF m 22 #[.val (.int x0_0), .val (.int v), .val (.int v), .val (.int (1 : Int32)), .unset, .unset, .unset] [(.int (v ||| (32 : Int32)))]))
    refine own_step (fun t k => XS.bipush X0.here hx rfl (hb hby at_22) k) ?_
    show own_Ends p.tables e below s _ _ _ (s₁.setTop (mkF m 24 #[.val (.int x0_0), .val (.int v), .val (.int v), .val (.int (1 : Int32)), .unset, .unset, .unset] [(.int (97 : Int32)), (.int (v ||| (32 : Int32)))]))
    refine own_step (fun t k => XS.isub X0.here hx rfl (hb hby at_24) rfl k) ?_
    show own_Ends p.tables e below s _ _ _ (s₁.setTop (mkF m 25 #[.val (.int x0_0), .val (.int v), .val (.int v), .val (.int (1 : Int32)), .unset, .unset, .unset] [(.int ((v ||| (32 : Int32)) - (97 : Int32)))]))
    refine own_step (fun t k => XS.istore X0.here hx rfl (hb hby at_25) rfl (l' := #[.val (.int x0_0), .val (.int v), .val (.int v), .val (.int (1 : Int32)), .val (.int ((v ||| (32 : Int32)) - (97 : Int32))), .unset, .unset]) rfl k) ?_
    show own_Ends p.tables e below s _ _ _ (s₁.setTop (mkF m 27 #[.val (.int x0_0), .val (.int v), .val (.int v), .val (.int (1 : Int32)), .val (.int ((v ||| (32 : Int32)) - (97 : Int32))), .unset, .unset] []))
    refine own_step (fun t k => XS.iloadN X0.here hx rfl (hb hby at_27) rfl k) ?_
    show own_Ends p.tables e below s _ _ _ (s₁.setTop (mkF m 28 #[.val (.int x0_0), .val (.int v), .val (.int v), .val (.int (1 : Int32)), .val (.int ((v ||| (32 : Int32)) - (97 : Int32))), .unset, .unset] [(.int (1 : Int32))]))
    refine own_step (fun t k => XS.ifNo X0.here hx rfl (hb hby at_28) rfl ((if0 _ _).trans (feq (by decide : ¬ ((1 : Int32) = (0 : Int32)))).1) k) ?_
    show own_Ends p.tables e below s _ _ _ (s₁.setTop (mkF m 31 #[.val (.int x0_0), .val (.int v), .val (.int v), .val (.int (1 : Int32)), .val (.int ((v ||| (32 : Int32)) - (97 : Int32))), .unset, .unset] []))
    refine own_step (fun t k => XS.iload X0.here hx rfl (hb hby at_31) rfl k) ?_
    show own_Ends p.tables e below s _ _ _ (s₁.setTop (mkF m 33 #[.val (.int x0_0), .val (.int v), .val (.int v), .val (.int (1 : Int32)), .val (.int ((v ||| (32 : Int32)) - (97 : Int32))), .unset, .unset] [(.int ((v ||| (32 : Int32)) - (97 : Int32)))]))
    by_cases hc33_2 : ((v ||| (32 : Int32)) - (97 : Int32)) < (0 : Int32)
    · skip
      refine own_step (fun t k => XS.ifYes X0.here hx rfl (pc0 := 33) (pc' := 47) rfl (hb hby at_33) rfl ((if0 _ _).trans (tlt hc33_2).1) (by decide) (by decide) k) ?_
      show own_Ends p.tables e below s _ _ _ (s₁.setTop (mkF m 47 #[.val (.int x0_0), .val (.int v), .val (.int v), .val (.int (1 : Int32)), .val (.int ((v ||| (32 : Int32)) - (97 : Int32))), .unset, .unset] []))
      refine own_step (fun t k => XS.iconst X0.here hx rfl (hb hby at_47) k) ?_
      show own_Ends p.tables e below s _ _ _ (s₁.setTop (mkF m 48 #[.val (.int x0_0), .val (.int v), .val (.int v), .val (.int (1 : Int32)), .val (.int ((v ||| (32 : Int32)) - (97 : Int32))), .unset, .unset] [(.int (0 : Int32))]))
      refine own_step (fun t k => XS.istore X0.here hx rfl (hb hby at_48) rfl (l' := #[.val (.int x0_0), .val (.int v), .val (.int v), .val (.int (1 : Int32)), .val (.int ((v ||| (32 : Int32)) - (97 : Int32))), .val (.int (0 : Int32)), .unset]) rfl k) ?_
      show own_Ends p.tables e below s _ _ _ (s₁.setTop (mkF m 50 #[.val (.int x0_0), .val (.int v), .val (.int v), .val (.int (1 : Int32)), .val (.int ((v ||| (32 : Int32)) - (97 : Int32))), .val (.int (0 : Int32)), .unset] []))
      refine own_step (fun t k => XS.iload X0.here hx rfl (hb hby at_50) rfl k) ?_
      show own_Ends p.tables e below s _ _ _ (s₁.setTop (mkF m 52 #[.val (.int x0_0), .val (.int v), .val (.int v), .val (.int (1 : Int32)), .val (.int ((v ||| (32 : Int32)) - (97 : Int32))), .val (.int (0 : Int32)), .unset] [(.int (0 : Int32))]))
      refine own_step (fun t k => XS.ifNo X0.here hx rfl (hb hby at_52) rfl ((if0 _ _).trans (teq (by decide : (0 : Int32) = (0 : Int32))).2) k) ?_
      show own_Ends p.tables e below s _ _ _ (s₁.setTop (mkF m 55 #[.val (.int x0_0), .val (.int v), .val (.int v), .val (.int (1 : Int32)), .val (.int ((v ||| (32 : Int32)) - (97 : Int32))), .val (.int (0 : Int32)), .unset] []))
      refine own_step (fun t k => XS.iloadN X0.here hx rfl (hb hby at_55) rfl k) ?_
      show own_Ends p.tables e below s _ _ _ (s₁.setTop (mkF m 56 #[.val (.int x0_0), .val (.int v), .val (.int v), .val (.int (1 : Int32)), .val (.int ((v ||| (32 : Int32)) - (97 : Int32))), .val (.int (0 : Int32)), .unset] [(.int v)]))
      refine own_step (fun t k => XS.bipush X0.here hx rfl (hb hby at_56) k) ?_
      show own_Ends p.tables e below s _ _ _ (s₁.setTop (mkF m 58 #[.val (.int x0_0), .val (.int v), .val (.int v), .val (.int (1 : Int32)), .val (.int ((v ||| (32 : Int32)) - (97 : Int32))), .val (.int (0 : Int32)), .unset] [(.int (95 : Int32)), (.int v)]))
      by_cases hc58_3 : v = (95 : Int32)
      · skip
        refine own_step (fun t k => XS.icmpNo X0.here hx rfl (hb hby at_58) rfl (teq hc58_3).2 k) ?_
        show own_Ends p.tables e below s _ _ _ (s₁.setTop (mkF m 61 #[.val (.int x0_0), .val (.int v), .val (.int v), .val (.int (1 : Int32)), .val (.int ((v ||| (32 : Int32)) - (97 : Int32))), .val (.int (0 : Int32)), .unset] []))
        refine own_step (fun t k => XS.iconst X0.here hx rfl (hb hby at_61) k) ?_
        show own_Ends p.tables e below s _ _ _ (s₁.setTop (mkF m 62 #[.val (.int x0_0), .val (.int v), .val (.int v), .val (.int (1 : Int32)), .val (.int ((v ||| (32 : Int32)) - (97 : Int32))), .val (.int (0 : Int32)), .unset] [(.int (1 : Int32))]))
        refine own_step (fun t k => XS.goto X0.here hx rfl (pc0 := 62) (pc' := 66) rfl (hb hby at_62) (by decide) (by decide) k) ?_
        show own_Ends p.tables e below s _ _ _ (s₁.setTop (mkF m 66 #[.val (.int x0_0), .val (.int v), .val (.int v), .val (.int (1 : Int32)), .val (.int ((v ||| (32 : Int32)) - (97 : Int32))), .val (.int (0 : Int32)), .unset] [(.int (1 : Int32))]))
        refine own_step (fun t k => XS.istore X0.here hx rfl (hb hby at_66) rfl (l' := #[.val (.int x0_0), .val (.int v), .val (.int v), .val (.int (1 : Int32)), .val (.int ((v ||| (32 : Int32)) - (97 : Int32))), .val (.int (0 : Int32)), .val (.int (1 : Int32))]) rfl k) ?_
        show own_Ends p.tables e below s _ _ _ (s₁.setTop (mkF m 68 #[.val (.int x0_0), .val (.int v), .val (.int v), .val (.int (1 : Int32)), .val (.int ((v ||| (32 : Int32)) - (97 : Int32))), .val (.int (0 : Int32)), .val (.int (1 : Int32))] []))
        refine own_step (fun t k => XS.iloadN X0.here hx rfl (hb hby at_68) rfl k) ?_
        show own_Ends p.tables e below s _ _ _ (s₁.setTop (mkF m 69 #[.val (.int x0_0), .val (.int v), .val (.int v), .val (.int (1 : Int32)), .val (.int ((v ||| (32 : Int32)) - (97 : Int32))), .val (.int (0 : Int32)), .val (.int (1 : Int32))] [(.int v)]))
        obtain ⟨_, _, ⟨T4, L4, k4, n4⟩, -, X4, ⟨Lc4, hQ4, l4, y4, z4⟩, st4⟩ := Jvm.LawKit.callS X0 hx (y := (⟨"com/example/untl/untl/Formula", "isIdentifierStart", "(C)Z"⟩ : MethodName)) hown (mvT hZ (hw _ (List.mem_of_getElem? (i := 0) rfl))) (mvT hZ (hw _ (List.mem_of_getElem? (i := 1) rfl))) (mvT hZ (hw _ (List.mem_of_getElem? (i := 2) rfl))) (mvT hZ (hw _ (List.mem_of_getElem? (i := 3) rfl))) (by decide) (backOf (W := 0) (rm1 l Z a0 hw [] v h0 n0 O0 ) hZ (hw _ (List.mem_of_getElem? (i := 3) rfl)) (hw _ (List.mem_of_getElem? (i := 2) rfl)) (by decide) (by decide)) (g := (mkF m 69 #[.val (.int x0_0), .val (.int v), .val (.int v), .val (.int (1 : Int32)), .val (.int ((v ||| (32 : Int32)) - (97 : Int32))), .val (.int (0 : Int32)), .val (.int (1 : Int32))] [(.int v)])) rfl (by rw [hml]; rfl) (argsL := [(.int v)]) (rest := []) (lenOf pd_0 rfl) rfl (by show 2 * 0 + _ ≤ _; exact Nat.le_of_eq rfl) (hb hby at_69) (fun _ _ => ⟨rfl, e0, (by decide : 0 + 0 ≤ _), (by decide : 0 + 0 ≤ _)⟩)
        dsimp only [Pt.U, Pt.locs, Pt.cells, Pt.slots] at X4 l4 y4 z4 st4 hQ4
        subst l4 y4 z4
        obtain ⟨rfl, N4q, e4⟩ := hQ4
        refine own_step (fun t k => st4 _ k) ?_
        have N5 := Fr.app N0 N4q
        show own_Ends p.tables e below s _ _ _ (T4.setTop (mkF m 72 #[.val (.int x0_0), .val (.int v), .val (.int v), .val (.int (1 : Int32)), .val (.int ((v ||| (32 : Int32)) - (97 : Int32))), .val (.int (0 : Int32)), .val (.int (1 : Int32))] [(.int (own_r1 v))]))
        refine own_step (fun t k => XS.iload X4.here hx rfl (hb hby at_72) rfl k) ?_
        show own_Ends p.tables e below s _ _ _ (T4.setTop (mkF m 74 #[.val (.int x0_0), .val (.int v), .val (.int v), .val (.int (1 : Int32)), .val (.int ((v ||| (32 : Int32)) - (97 : Int32))), .val (.int (0 : Int32)), .val (.int (1 : Int32))] [(.int (1 : Int32)), (.int (own_r1 v))]))
        by_cases hc74_6 : (own_r1 v) = (1 : Int32)
        · skip
          refine own_step (fun t k => XS.icmpNo X4.here hx rfl (hb hby at_74) rfl (teq hc74_6).2 k) ?_
          show own_Ends p.tables e below s _ _ _ (T4.setTop (mkF m 77 #[.val (.int x0_0), .val (.int v), .val (.int v), .val (.int (1 : Int32)), .val (.int ((v ||| (32 : Int32)) - (97 : Int32))), .val (.int (0 : Int32)), .val (.int (1 : Int32))] []))
          refine own_step (fun t k => XS.iconst X4.here hx rfl (hb hby at_77) k) ?_
          show own_Ends p.tables e below s _ _ _ (T4.setTop (mkF m 78 #[.val (.int x0_0), .val (.int v), .val (.int v), .val (.int (1 : Int32)), .val (.int ((v ||| (32 : Int32)) - (97 : Int32))), .val (.int (0 : Int32)), .val (.int (1 : Int32))] [(.int (1 : Int32))]))
          refine own_step (fun t k => XS.goto X4.here hx rfl (pc0 := 78) (pc' := 82) rfl (hb hby at_78) (by decide) (by decide) k) ?_
          show own_Ends p.tables e below s _ _ _ (T4.setTop (mkF m 82 #[.val (.int x0_0), .val (.int v), .val (.int v), .val (.int (1 : Int32)), .val (.int ((v ||| (32 : Int32)) - (97 : Int32))), .val (.int (0 : Int32)), .val (.int (1 : Int32))] [(.int (1 : Int32))]))
          exact own_retN X4 hx (t := .boolean) Bd.returns (by simp) (hb hby at_82) hnl (by rw [e4]; exact ⟨rfl, N5⟩) (by decide) (by decide)
        · skip
          refine own_step (fun t k => XS.icmpYes X4.here hx rfl (pc0 := 74) (pc' := 81) rfl (hb hby at_74) rfl (feq hc74_6).2 (by decide) (by decide) k) ?_
          show own_Ends p.tables e below s _ _ _ (T4.setTop (mkF m 81 #[.val (.int x0_0), .val (.int v), .val (.int v), .val (.int (1 : Int32)), .val (.int ((v ||| (32 : Int32)) - (97 : Int32))), .val (.int (0 : Int32)), .val (.int (1 : Int32))] []))
          refine own_step (fun t k => XS.iconst X4.here hx rfl (hb hby at_81) k) ?_
          show own_Ends p.tables e below s _ _ _ (T4.setTop (mkF m 82 #[.val (.int x0_0), .val (.int v), .val (.int v), .val (.int (1 : Int32)), .val (.int ((v ||| (32 : Int32)) - (97 : Int32))), .val (.int (0 : Int32)), .val (.int (1 : Int32))] [(.int (0 : Int32))]))
          exfalso
          apply hc74_6
          rw [own_lowv v (hv ▸ own_char _) hc9_1]
          simp [hc33_2, hc58_3]
      · skip
        refine own_step (fun t k => XS.icmpYes X0.here hx rfl (pc0 := 58) (pc' := 65) rfl (hb hby at_58) rfl (feq hc58_3).2 (by decide) (by decide) k) ?_
        show own_Ends p.tables e below s _ _ _ (s₁.setTop (mkF m 65 #[.val (.int x0_0), .val (.int v), .val (.int v), .val (.int (1 : Int32)), .val (.int ((v ||| (32 : Int32)) - (97 : Int32))), .val (.int (0 : Int32)), .unset] []))
        refine own_step (fun t k => XS.iconst X0.here hx rfl (hb hby at_65) k) ?_
        show own_Ends p.tables e below s _ _ _ (s₁.setTop (mkF m 66 #[.val (.int x0_0), .val (.int v), .val (.int v), .val (.int (1 : Int32)), .val (.int ((v ||| (32 : Int32)) - (97 : Int32))), .val (.int (0 : Int32)), .unset] [(.int (0 : Int32))]))
        refine own_step (fun t k => XS.istore X0.here hx rfl (hb hby at_66) rfl (l' := #[.val (.int x0_0), .val (.int v), .val (.int v), .val (.int (1 : Int32)), .val (.int ((v ||| (32 : Int32)) - (97 : Int32))), .val (.int (0 : Int32)), .val (.int (0 : Int32))]) rfl k) ?_
        show own_Ends p.tables e below s _ _ _ (s₁.setTop (mkF m 68 #[.val (.int x0_0), .val (.int v), .val (.int v), .val (.int (1 : Int32)), .val (.int ((v ||| (32 : Int32)) - (97 : Int32))), .val (.int (0 : Int32)), .val (.int (0 : Int32))] []))
        refine own_step (fun t k => XS.iloadN X0.here hx rfl (hb hby at_68) rfl k) ?_
        show own_Ends p.tables e below s _ _ _ (s₁.setTop (mkF m 69 #[.val (.int x0_0), .val (.int v), .val (.int v), .val (.int (1 : Int32)), .val (.int ((v ||| (32 : Int32)) - (97 : Int32))), .val (.int (0 : Int32)), .val (.int (0 : Int32))] [(.int v)]))
        obtain ⟨_, _, ⟨T7, L7, k7, n7⟩, -, X7, ⟨Lc7, hQ7, l7, y7, z7⟩, st7⟩ := Jvm.LawKit.callS X0 hx (y := (⟨"com/example/untl/untl/Formula", "isIdentifierStart", "(C)Z"⟩ : MethodName)) hown (mvT hZ (hw _ (List.mem_of_getElem? (i := 0) rfl))) (mvT hZ (hw _ (List.mem_of_getElem? (i := 1) rfl))) (mvT hZ (hw _ (List.mem_of_getElem? (i := 2) rfl))) (mvT hZ (hw _ (List.mem_of_getElem? (i := 3) rfl))) (by decide) (backOf (W := 0) (rm1 l Z a0 hw [] v h0 n0 O0 ) hZ (hw _ (List.mem_of_getElem? (i := 3) rfl)) (hw _ (List.mem_of_getElem? (i := 2) rfl)) (by decide) (by decide)) (g := (mkF m 69 #[.val (.int x0_0), .val (.int v), .val (.int v), .val (.int (1 : Int32)), .val (.int ((v ||| (32 : Int32)) - (97 : Int32))), .val (.int (0 : Int32)), .val (.int (0 : Int32))] [(.int v)])) rfl (by rw [hml]; rfl) (argsL := [(.int v)]) (rest := []) (lenOf pd_0 rfl) rfl (by show 2 * 0 + _ ≤ _; exact Nat.le_of_eq rfl) (hb hby at_69) (fun _ _ => ⟨rfl, e0, (by decide : 0 + 0 ≤ _), (by decide : 0 + 0 ≤ _)⟩)
        dsimp only [Pt.U, Pt.locs, Pt.cells, Pt.slots] at X7 l7 y7 z7 st7 hQ7
        subst l7 y7 z7
        obtain ⟨rfl, N7q, e7⟩ := hQ7
        refine own_step (fun t k => st7 _ k) ?_
        have N8 := Fr.app N0 N7q
        show own_Ends p.tables e below s _ _ _ (T7.setTop (mkF m 72 #[.val (.int x0_0), .val (.int v), .val (.int v), .val (.int (1 : Int32)), .val (.int ((v ||| (32 : Int32)) - (97 : Int32))), .val (.int (0 : Int32)), .val (.int (0 : Int32))] [(.int (own_r1 v))]))
        refine own_step (fun t k => XS.iload X7.here hx rfl (hb hby at_72) rfl k) ?_
        show own_Ends p.tables e below s _ _ _ (T7.setTop (mkF m 74 #[.val (.int x0_0), .val (.int v), .val (.int v), .val (.int (1 : Int32)), .val (.int ((v ||| (32 : Int32)) - (97 : Int32))), .val (.int (0 : Int32)), .val (.int (0 : Int32))] [(.int (0 : Int32)), (.int (own_r1 v))]))
        by_cases hc74_9 : (own_r1 v) = (0 : Int32)
        · skip
          refine own_step (fun t k => XS.icmpNo X7.here hx rfl (hb hby at_74) rfl (teq hc74_9).2 k) ?_
          show own_Ends p.tables e below s _ _ _ (T7.setTop (mkF m 77 #[.val (.int x0_0), .val (.int v), .val (.int v), .val (.int (1 : Int32)), .val (.int ((v ||| (32 : Int32)) - (97 : Int32))), .val (.int (0 : Int32)), .val (.int (0 : Int32))] []))
          refine own_step (fun t k => XS.iconst X7.here hx rfl (hb hby at_77) k) ?_
          show own_Ends p.tables e below s _ _ _ (T7.setTop (mkF m 78 #[.val (.int x0_0), .val (.int v), .val (.int v), .val (.int (1 : Int32)), .val (.int ((v ||| (32 : Int32)) - (97 : Int32))), .val (.int (0 : Int32)), .val (.int (0 : Int32))] [(.int (1 : Int32))]))
          refine own_step (fun t k => XS.goto X7.here hx rfl (pc0 := 78) (pc' := 82) rfl (hb hby at_78) (by decide) (by decide) k) ?_
          show own_Ends p.tables e below s _ _ _ (T7.setTop (mkF m 82 #[.val (.int x0_0), .val (.int v), .val (.int v), .val (.int (1 : Int32)), .val (.int ((v ||| (32 : Int32)) - (97 : Int32))), .val (.int (0 : Int32)), .val (.int (0 : Int32))] [(.int (1 : Int32))]))
          exact own_retN X7 hx (t := .boolean) Bd.returns (by simp) (hb hby at_82) hnl (by rw [e7]; exact ⟨rfl, N8⟩) (by decide) (by decide)
        · skip
          refine own_step (fun t k => XS.icmpYes X7.here hx rfl (pc0 := 74) (pc' := 81) rfl (hb hby at_74) rfl (feq hc74_9).2 (by decide) (by decide) k) ?_
          show own_Ends p.tables e below s _ _ _ (T7.setTop (mkF m 81 #[.val (.int x0_0), .val (.int v), .val (.int v), .val (.int (1 : Int32)), .val (.int ((v ||| (32 : Int32)) - (97 : Int32))), .val (.int (0 : Int32)), .val (.int (0 : Int32))] []))
          refine own_step (fun t k => XS.iconst X7.here hx rfl (hb hby at_81) k) ?_
          show own_Ends p.tables e below s _ _ _ (T7.setTop (mkF m 82 #[.val (.int x0_0), .val (.int v), .val (.int v), .val (.int (1 : Int32)), .val (.int ((v ||| (32 : Int32)) - (97 : Int32))), .val (.int (0 : Int32)), .val (.int (0 : Int32))] [(.int (0 : Int32))]))
          exfalso
          apply hc74_9
          rw [own_lowv v (hv ▸ own_char _) hc9_1]
          simp [hc33_2, hc58_3]
    · skip
      refine own_step (fun t k => XS.ifNo X0.here hx rfl (hb hby at_33) rfl ((if0 _ _).trans (flt hc33_2).1) k) ?_
      show own_Ends p.tables e below s _ _ _ (s₁.setTop (mkF m 36 #[.val (.int x0_0), .val (.int v), .val (.int v), .val (.int (1 : Int32)), .val (.int ((v ||| (32 : Int32)) - (97 : Int32))), .unset, .unset] []))
      refine own_step (fun t k => XS.iload X0.here hx rfl (hb hby at_36) rfl k) ?_
      show own_Ends p.tables e below s _ _ _ (s₁.setTop (mkF m 38 #[.val (.int x0_0), .val (.int v), .val (.int v), .val (.int (1 : Int32)), .val (.int ((v ||| (32 : Int32)) - (97 : Int32))), .unset, .unset] [(.int ((v ||| (32 : Int32)) - (97 : Int32)))]))
      refine own_step (fun t k => XS.bipush X0.here hx rfl (hb hby at_38) k) ?_
      show own_Ends p.tables e below s _ _ _ (s₁.setTop (mkF m 40 #[.val (.int x0_0), .val (.int v), .val (.int v), .val (.int (1 : Int32)), .val (.int ((v ||| (32 : Int32)) - (97 : Int32))), .unset, .unset] [(.int (26 : Int32)), (.int ((v ||| (32 : Int32)) - (97 : Int32)))]))
      by_cases hc40_10 : ((v ||| (32 : Int32)) - (97 : Int32)) < (26 : Int32)
      · skip
        refine own_step (fun t k => XS.icmpNo X0.here hx rfl (hb hby at_40) rfl (tlt hc40_10).2.1 k) ?_
        show own_Ends p.tables e below s _ _ _ (s₁.setTop (mkF m 43 #[.val (.int x0_0), .val (.int v), .val (.int v), .val (.int (1 : Int32)), .val (.int ((v ||| (32 : Int32)) - (97 : Int32))), .unset, .unset] []))
        refine own_step (fun t k => XS.iconst X0.here hx rfl (hb hby at_43) k) ?_
        show own_Ends p.tables e below s _ _ _ (s₁.setTop (mkF m 44 #[.val (.int x0_0), .val (.int v), .val (.int v), .val (.int (1 : Int32)), .val (.int ((v ||| (32 : Int32)) - (97 : Int32))), .unset, .unset] [(.int (1 : Int32))]))
        refine own_step (fun t k => XS.goto X0.here hx rfl (pc0 := 44) (pc' := 48) rfl (hb hby at_44) (by decide) (by decide) k) ?_
        show own_Ends p.tables e below s _ _ _ (s₁.setTop (mkF m 48 #[.val (.int x0_0), .val (.int v), .val (.int v), .val (.int (1 : Int32)), .val (.int ((v ||| (32 : Int32)) - (97 : Int32))), .unset, .unset] [(.int (1 : Int32))]))
        refine own_step (fun t k => XS.istore X0.here hx rfl (hb hby at_48) rfl (l' := #[.val (.int x0_0), .val (.int v), .val (.int v), .val (.int (1 : Int32)), .val (.int ((v ||| (32 : Int32)) - (97 : Int32))), .val (.int (1 : Int32)), .unset]) rfl k) ?_
        show own_Ends p.tables e below s _ _ _ (s₁.setTop (mkF m 50 #[.val (.int x0_0), .val (.int v), .val (.int v), .val (.int (1 : Int32)), .val (.int ((v ||| (32 : Int32)) - (97 : Int32))), .val (.int (1 : Int32)), .unset] []))
        refine own_step (fun t k => XS.iload X0.here hx rfl (hb hby at_50) rfl k) ?_
        show own_Ends p.tables e below s _ _ _ (s₁.setTop (mkF m 52 #[.val (.int x0_0), .val (.int v), .val (.int v), .val (.int (1 : Int32)), .val (.int ((v ||| (32 : Int32)) - (97 : Int32))), .val (.int (1 : Int32)), .unset] [(.int (1 : Int32))]))
        refine own_step (fun t k => XS.ifYes X0.here hx rfl (pc0 := 52) (pc' := 61) rfl (hb hby at_52) rfl ((if0 _ _).trans (feq (by decide : ¬ ((1 : Int32) = (0 : Int32)))).2) (by decide) (by decide) k) ?_
        show own_Ends p.tables e below s _ _ _ (s₁.setTop (mkF m 61 #[.val (.int x0_0), .val (.int v), .val (.int v), .val (.int (1 : Int32)), .val (.int ((v ||| (32 : Int32)) - (97 : Int32))), .val (.int (1 : Int32)), .unset] []))
        refine own_step (fun t k => XS.iconst X0.here hx rfl (hb hby at_61) k) ?_
        show own_Ends p.tables e below s _ _ _ (s₁.setTop (mkF m 62 #[.val (.int x0_0), .val (.int v), .val (.int v), .val (.int (1 : Int32)), .val (.int ((v ||| (32 : Int32)) - (97 : Int32))), .val (.int (1 : Int32)), .unset] [(.int (1 : Int32))]))
        refine own_step (fun t k => XS.goto X0.here hx rfl (pc0 := 62) (pc' := 66) rfl (hb hby at_62) (by decide) (by decide) k) ?_
        show own_Ends p.tables e below s _ _ _ (s₁.setTop (mkF m 66 #[.val (.int x0_0), .val (.int v), .val (.int v), .val (.int (1 : Int32)), .val (.int ((v ||| (32 : Int32)) - (97 : Int32))), .val (.int (1 : Int32)), .unset] [(.int (1 : Int32))]))
        refine own_step (fun t k => XS.istore X0.here hx rfl (hb hby at_66) rfl (l' := #[.val (.int x0_0), .val (.int v), .val (.int v), .val (.int (1 : Int32)), .val (.int ((v ||| (32 : Int32)) - (97 : Int32))), .val (.int (1 : Int32)), .val (.int (1 : Int32))]) rfl k) ?_
        show own_Ends p.tables e below s _ _ _ (s₁.setTop (mkF m 68 #[.val (.int x0_0), .val (.int v), .val (.int v), .val (.int (1 : Int32)), .val (.int ((v ||| (32 : Int32)) - (97 : Int32))), .val (.int (1 : Int32)), .val (.int (1 : Int32))] []))
        refine own_step (fun t k => XS.iloadN X0.here hx rfl (hb hby at_68) rfl k) ?_
        show own_Ends p.tables e below s _ _ _ (s₁.setTop (mkF m 69 #[.val (.int x0_0), .val (.int v), .val (.int v), .val (.int (1 : Int32)), .val (.int ((v ||| (32 : Int32)) - (97 : Int32))), .val (.int (1 : Int32)), .val (.int (1 : Int32))] [(.int v)]))
        obtain ⟨_, _, ⟨T11, L11, k11, n11⟩, -, X11, ⟨Lc11, hQ11, l11, y11, z11⟩, st11⟩ := Jvm.LawKit.callS X0 hx (y := (⟨"com/example/untl/untl/Formula", "isIdentifierStart", "(C)Z"⟩ : MethodName)) hown (mvT hZ (hw _ (List.mem_of_getElem? (i := 0) rfl))) (mvT hZ (hw _ (List.mem_of_getElem? (i := 1) rfl))) (mvT hZ (hw _ (List.mem_of_getElem? (i := 2) rfl))) (mvT hZ (hw _ (List.mem_of_getElem? (i := 3) rfl))) (by decide) (backOf (W := 0) (rm1 l Z a0 hw [] v h0 n0 O0 ) hZ (hw _ (List.mem_of_getElem? (i := 3) rfl)) (hw _ (List.mem_of_getElem? (i := 2) rfl)) (by decide) (by decide)) (g := (mkF m 69 #[.val (.int x0_0), .val (.int v), .val (.int v), .val (.int (1 : Int32)), .val (.int ((v ||| (32 : Int32)) - (97 : Int32))), .val (.int (1 : Int32)), .val (.int (1 : Int32))] [(.int v)])) rfl (by rw [hml]; rfl) (argsL := [(.int v)]) (rest := []) (lenOf pd_0 rfl) rfl (by show 2 * 0 + _ ≤ _; exact Nat.le_of_eq rfl) (hb hby at_69) (fun _ _ => ⟨rfl, e0, (by decide : 0 + 0 ≤ _), (by decide : 0 + 0 ≤ _)⟩)
        dsimp only [Pt.U, Pt.locs, Pt.cells, Pt.slots] at X11 l11 y11 z11 st11 hQ11
        subst l11 y11 z11
        obtain ⟨rfl, N11q, e11⟩ := hQ11
        refine own_step (fun t k => st11 _ k) ?_
        have N12 := Fr.app N0 N11q
        show own_Ends p.tables e below s _ _ _ (T11.setTop (mkF m 72 #[.val (.int x0_0), .val (.int v), .val (.int v), .val (.int (1 : Int32)), .val (.int ((v ||| (32 : Int32)) - (97 : Int32))), .val (.int (1 : Int32)), .val (.int (1 : Int32))] [(.int (own_r1 v))]))
        refine own_step (fun t k => XS.iload X11.here hx rfl (hb hby at_72) rfl k) ?_
        show own_Ends p.tables e below s _ _ _ (T11.setTop (mkF m 74 #[.val (.int x0_0), .val (.int v), .val (.int v), .val (.int (1 : Int32)), .val (.int ((v ||| (32 : Int32)) - (97 : Int32))), .val (.int (1 : Int32)), .val (.int (1 : Int32))] [(.int (1 : Int32)), (.int (own_r1 v))]))
        by_cases hc74_13 : (own_r1 v) = (1 : Int32)
        · skip
          refine own_step (fun t k => XS.icmpNo X11.here hx rfl (hb hby at_74) rfl (teq hc74_13).2 k) ?_
          show own_Ends p.tables e below s _ _ _ (T11.setTop (mkF m 77 #[.val (.int x0_0), .val (.int v), .val (.int v), .val (.int (1 : Int32)), .val (.int ((v ||| (32 : Int32)) - (97 : Int32))), .val (.int (1 : Int32)), .val (.int (1 : Int32))] []))
          refine own_step (fun t k => XS.iconst X11.here hx rfl (hb hby at_77) k) ?_
          show own_Ends p.tables e below s _ _ _ (T11.setTop (mkF m 78 #[.val (.int x0_0), .val (.int v), .val (.int v), .val (.int (1 : Int32)), .val (.int ((v ||| (32 : Int32)) - (97 : Int32))), .val (.int (1 : Int32)), .val (.int (1 : Int32))] [(.int (1 : Int32))]))
          refine own_step (fun t k => XS.goto X11.here hx rfl (pc0 := 78) (pc' := 82) rfl (hb hby at_78) (by decide) (by decide) k) ?_
          show own_Ends p.tables e below s _ _ _ (T11.setTop (mkF m 82 #[.val (.int x0_0), .val (.int v), .val (.int v), .val (.int (1 : Int32)), .val (.int ((v ||| (32 : Int32)) - (97 : Int32))), .val (.int (1 : Int32)), .val (.int (1 : Int32))] [(.int (1 : Int32))]))
          exact own_retN X11 hx (t := .boolean) Bd.returns (by simp) (hb hby at_82) hnl (by rw [e11]; exact ⟨rfl, N12⟩) (by decide) (by decide)
        · skip
          refine own_step (fun t k => XS.icmpYes X11.here hx rfl (pc0 := 74) (pc' := 81) rfl (hb hby at_74) rfl (feq hc74_13).2 (by decide) (by decide) k) ?_
          show own_Ends p.tables e below s _ _ _ (T11.setTop (mkF m 81 #[.val (.int x0_0), .val (.int v), .val (.int v), .val (.int (1 : Int32)), .val (.int ((v ||| (32 : Int32)) - (97 : Int32))), .val (.int (1 : Int32)), .val (.int (1 : Int32))] []))
          refine own_step (fun t k => XS.iconst X11.here hx rfl (hb hby at_81) k) ?_
          show own_Ends p.tables e below s _ _ _ (T11.setTop (mkF m 82 #[.val (.int x0_0), .val (.int v), .val (.int v), .val (.int (1 : Int32)), .val (.int ((v ||| (32 : Int32)) - (97 : Int32))), .val (.int (1 : Int32)), .val (.int (1 : Int32))] [(.int (0 : Int32))]))
          exfalso
          apply hc74_13
          rw [own_lowv v (hv ▸ own_char _) hc9_1]
          simp [hc33_2, hc40_10]
      · skip
        refine own_step (fun t k => XS.icmpYes X0.here hx rfl (pc0 := 40) (pc' := 47) rfl (hb hby at_40) rfl (flt hc40_10).2.1 (by decide) (by decide) k) ?_
        show own_Ends p.tables e below s _ _ _ (s₁.setTop (mkF m 47 #[.val (.int x0_0), .val (.int v), .val (.int v), .val (.int (1 : Int32)), .val (.int ((v ||| (32 : Int32)) - (97 : Int32))), .unset, .unset] []))
        refine own_step (fun t k => XS.iconst X0.here hx rfl (hb hby at_47) k) ?_
        show own_Ends p.tables e below s _ _ _ (s₁.setTop (mkF m 48 #[.val (.int x0_0), .val (.int v), .val (.int v), .val (.int (1 : Int32)), .val (.int ((v ||| (32 : Int32)) - (97 : Int32))), .unset, .unset] [(.int (0 : Int32))]))
        refine own_step (fun t k => XS.istore X0.here hx rfl (hb hby at_48) rfl (l' := #[.val (.int x0_0), .val (.int v), .val (.int v), .val (.int (1 : Int32)), .val (.int ((v ||| (32 : Int32)) - (97 : Int32))), .val (.int (0 : Int32)), .unset]) rfl k) ?_
        show own_Ends p.tables e below s _ _ _ (s₁.setTop (mkF m 50 #[.val (.int x0_0), .val (.int v), .val (.int v), .val (.int (1 : Int32)), .val (.int ((v ||| (32 : Int32)) - (97 : Int32))), .val (.int (0 : Int32)), .unset] []))
        refine own_step (fun t k => XS.iload X0.here hx rfl (hb hby at_50) rfl k) ?_
        show own_Ends p.tables e below s _ _ _ (s₁.setTop (mkF m 52 #[.val (.int x0_0), .val (.int v), .val (.int v), .val (.int (1 : Int32)), .val (.int ((v ||| (32 : Int32)) - (97 : Int32))), .val (.int (0 : Int32)), .unset] [(.int (0 : Int32))]))
        refine own_step (fun t k => XS.ifNo X0.here hx rfl (hb hby at_52) rfl ((if0 _ _).trans (teq (by decide : (0 : Int32) = (0 : Int32))).2) k) ?_
        show own_Ends p.tables e below s _ _ _ (s₁.setTop (mkF m 55 #[.val (.int x0_0), .val (.int v), .val (.int v), .val (.int (1 : Int32)), .val (.int ((v ||| (32 : Int32)) - (97 : Int32))), .val (.int (0 : Int32)), .unset] []))
        refine own_step (fun t k => XS.iloadN X0.here hx rfl (hb hby at_55) rfl k) ?_
        show own_Ends p.tables e below s _ _ _ (s₁.setTop (mkF m 56 #[.val (.int x0_0), .val (.int v), .val (.int v), .val (.int (1 : Int32)), .val (.int ((v ||| (32 : Int32)) - (97 : Int32))), .val (.int (0 : Int32)), .unset] [(.int v)]))
        refine own_step (fun t k => XS.bipush X0.here hx rfl (hb hby at_56) k) ?_
        show own_Ends p.tables e below s _ _ _ (s₁.setTop (mkF m 58 #[.val (.int x0_0), .val (.int v), .val (.int v), .val (.int (1 : Int32)), .val (.int ((v ||| (32 : Int32)) - (97 : Int32))), .val (.int (0 : Int32)), .unset] [(.int (95 : Int32)), (.int v)]))
        by_cases hc58_14 : v = (95 : Int32)
        · skip
          refine own_step (fun t k => XS.icmpNo X0.here hx rfl (hb hby at_58) rfl (teq hc58_14).2 k) ?_
          show own_Ends p.tables e below s _ _ _ (s₁.setTop (mkF m 61 #[.val (.int x0_0), .val (.int v), .val (.int v), .val (.int (1 : Int32)), .val (.int ((v ||| (32 : Int32)) - (97 : Int32))), .val (.int (0 : Int32)), .unset] []))
          refine own_step (fun t k => XS.iconst X0.here hx rfl (hb hby at_61) k) ?_
          show own_Ends p.tables e below s _ _ _ (s₁.setTop (mkF m 62 #[.val (.int x0_0), .val (.int v), .val (.int v), .val (.int (1 : Int32)), .val (.int ((v ||| (32 : Int32)) - (97 : Int32))), .val (.int (0 : Int32)), .unset] [(.int (1 : Int32))]))
          refine own_step (fun t k => XS.goto X0.here hx rfl (pc0 := 62) (pc' := 66) rfl (hb hby at_62) (by decide) (by decide) k) ?_
          show own_Ends p.tables e below s _ _ _ (s₁.setTop (mkF m 66 #[.val (.int x0_0), .val (.int v), .val (.int v), .val (.int (1 : Int32)), .val (.int ((v ||| (32 : Int32)) - (97 : Int32))), .val (.int (0 : Int32)), .unset] [(.int (1 : Int32))]))
          refine own_step (fun t k => XS.istore X0.here hx rfl (hb hby at_66) rfl (l' := #[.val (.int x0_0), .val (.int v), .val (.int v), .val (.int (1 : Int32)), .val (.int ((v ||| (32 : Int32)) - (97 : Int32))), .val (.int (0 : Int32)), .val (.int (1 : Int32))]) rfl k) ?_
          show own_Ends p.tables e below s _ _ _ (s₁.setTop (mkF m 68 #[.val (.int x0_0), .val (.int v), .val (.int v), .val (.int (1 : Int32)), .val (.int ((v ||| (32 : Int32)) - (97 : Int32))), .val (.int (0 : Int32)), .val (.int (1 : Int32))] []))
          refine own_step (fun t k => XS.iloadN X0.here hx rfl (hb hby at_68) rfl k) ?_
          show own_Ends p.tables e below s _ _ _ (s₁.setTop (mkF m 69 #[.val (.int x0_0), .val (.int v), .val (.int v), .val (.int (1 : Int32)), .val (.int ((v ||| (32 : Int32)) - (97 : Int32))), .val (.int (0 : Int32)), .val (.int (1 : Int32))] [(.int v)]))
          obtain ⟨_, _, ⟨T15, L15, k15, n15⟩, -, X15, ⟨Lc15, hQ15, l15, y15, z15⟩, st15⟩ := Jvm.LawKit.callS X0 hx (y := (⟨"com/example/untl/untl/Formula", "isIdentifierStart", "(C)Z"⟩ : MethodName)) hown (mvT hZ (hw _ (List.mem_of_getElem? (i := 0) rfl))) (mvT hZ (hw _ (List.mem_of_getElem? (i := 1) rfl))) (mvT hZ (hw _ (List.mem_of_getElem? (i := 2) rfl))) (mvT hZ (hw _ (List.mem_of_getElem? (i := 3) rfl))) (by decide) (backOf (W := 0) (rm1 l Z a0 hw [] v h0 n0 O0 ) hZ (hw _ (List.mem_of_getElem? (i := 3) rfl)) (hw _ (List.mem_of_getElem? (i := 2) rfl)) (by decide) (by decide)) (g := (mkF m 69 #[.val (.int x0_0), .val (.int v), .val (.int v), .val (.int (1 : Int32)), .val (.int ((v ||| (32 : Int32)) - (97 : Int32))), .val (.int (0 : Int32)), .val (.int (1 : Int32))] [(.int v)])) rfl (by rw [hml]; rfl) (argsL := [(.int v)]) (rest := []) (lenOf pd_0 rfl) rfl (by show 2 * 0 + _ ≤ _; exact Nat.le_of_eq rfl) (hb hby at_69) (fun _ _ => ⟨rfl, e0, (by decide : 0 + 0 ≤ _), (by decide : 0 + 0 ≤ _)⟩)
          dsimp only [Pt.U, Pt.locs, Pt.cells, Pt.slots] at X15 l15 y15 z15 st15 hQ15
          subst l15 y15 z15
          obtain ⟨rfl, N15q, e15⟩ := hQ15
          refine own_step (fun t k => st15 _ k) ?_
          have N16 := Fr.app N0 N15q
          show own_Ends p.tables e below s _ _ _ (T15.setTop (mkF m 72 #[.val (.int x0_0), .val (.int v), .val (.int v), .val (.int (1 : Int32)), .val (.int ((v ||| (32 : Int32)) - (97 : Int32))), .val (.int (0 : Int32)), .val (.int (1 : Int32))] [(.int (own_r1 v))]))
          refine own_step (fun t k => XS.iload X15.here hx rfl (hb hby at_72) rfl k) ?_
          show own_Ends p.tables e below s _ _ _ (T15.setTop (mkF m 74 #[.val (.int x0_0), .val (.int v), .val (.int v), .val (.int (1 : Int32)), .val (.int ((v ||| (32 : Int32)) - (97 : Int32))), .val (.int (0 : Int32)), .val (.int (1 : Int32))] [(.int (1 : Int32)), (.int (own_r1 v))]))
          by_cases hc74_17 : (own_r1 v) = (1 : Int32)
          · skip
            refine own_step (fun t k => XS.icmpNo X15.here hx rfl (hb hby at_74) rfl (teq hc74_17).2 k) ?_
            show own_Ends p.tables e below s _ _ _ (T15.setTop (mkF m 77 #[.val (.int x0_0), .val (.int v), .val (.int v), .val (.int (1 : Int32)), .val (.int ((v ||| (32 : Int32)) - (97 : Int32))), .val (.int (0 : Int32)), .val (.int (1 : Int32))] []))
            refine own_step (fun t k => XS.iconst X15.here hx rfl (hb hby at_77) k) ?_
            show own_Ends p.tables e below s _ _ _ (T15.setTop (mkF m 78 #[.val (.int x0_0), .val (.int v), .val (.int v), .val (.int (1 : Int32)), .val (.int ((v ||| (32 : Int32)) - (97 : Int32))), .val (.int (0 : Int32)), .val (.int (1 : Int32))] [(.int (1 : Int32))]))
            refine own_step (fun t k => XS.goto X15.here hx rfl (pc0 := 78) (pc' := 82) rfl (hb hby at_78) (by decide) (by decide) k) ?_
            show own_Ends p.tables e below s _ _ _ (T15.setTop (mkF m 82 #[.val (.int x0_0), .val (.int v), .val (.int v), .val (.int (1 : Int32)), .val (.int ((v ||| (32 : Int32)) - (97 : Int32))), .val (.int (0 : Int32)), .val (.int (1 : Int32))] [(.int (1 : Int32))]))
            exact own_retN X15 hx (t := .boolean) Bd.returns (by simp) (hb hby at_82) hnl (by rw [e15]; exact ⟨rfl, N16⟩) (by decide) (by decide)
          · skip
            refine own_step (fun t k => XS.icmpYes X15.here hx rfl (pc0 := 74) (pc' := 81) rfl (hb hby at_74) rfl (feq hc74_17).2 (by decide) (by decide) k) ?_
            show own_Ends p.tables e below s _ _ _ (T15.setTop (mkF m 81 #[.val (.int x0_0), .val (.int v), .val (.int v), .val (.int (1 : Int32)), .val (.int ((v ||| (32 : Int32)) - (97 : Int32))), .val (.int (0 : Int32)), .val (.int (1 : Int32))] []))
            refine own_step (fun t k => XS.iconst X15.here hx rfl (hb hby at_81) k) ?_
            show own_Ends p.tables e below s _ _ _ (T15.setTop (mkF m 82 #[.val (.int x0_0), .val (.int v), .val (.int v), .val (.int (1 : Int32)), .val (.int ((v ||| (32 : Int32)) - (97 : Int32))), .val (.int (0 : Int32)), .val (.int (1 : Int32))] [(.int (0 : Int32))]))
            exfalso
            apply hc74_17
            rw [own_lowv v (hv ▸ own_char _) hc9_1]
            simp [hc33_2, hc40_10, hc58_14]
        · skip
          refine own_step (fun t k => XS.icmpYes X0.here hx rfl (pc0 := 58) (pc' := 65) rfl (hb hby at_58) rfl (feq hc58_14).2 (by decide) (by decide) k) ?_
          show own_Ends p.tables e below s _ _ _ (s₁.setTop (mkF m 65 #[.val (.int x0_0), .val (.int v), .val (.int v), .val (.int (1 : Int32)), .val (.int ((v ||| (32 : Int32)) - (97 : Int32))), .val (.int (0 : Int32)), .unset] []))
          refine own_step (fun t k => XS.iconst X0.here hx rfl (hb hby at_65) k) ?_
          show own_Ends p.tables e below s _ _ _ (s₁.setTop (mkF m 66 #[.val (.int x0_0), .val (.int v), .val (.int v), .val (.int (1 : Int32)), .val (.int ((v ||| (32 : Int32)) - (97 : Int32))), .val (.int (0 : Int32)), .unset] [(.int (0 : Int32))]))
          refine own_step (fun t k => XS.istore X0.here hx rfl (hb hby at_66) rfl (l' := #[.val (.int x0_0), .val (.int v), .val (.int v), .val (.int (1 : Int32)), .val (.int ((v ||| (32 : Int32)) - (97 : Int32))), .val (.int (0 : Int32)), .val (.int (0 : Int32))]) rfl k) ?_
          show own_Ends p.tables e below s _ _ _ (s₁.setTop (mkF m 68 #[.val (.int x0_0), .val (.int v), .val (.int v), .val (.int (1 : Int32)), .val (.int ((v ||| (32 : Int32)) - (97 : Int32))), .val (.int (0 : Int32)), .val (.int (0 : Int32))] []))
          refine own_step (fun t k => XS.iloadN X0.here hx rfl (hb hby at_68) rfl k) ?_
          show own_Ends p.tables e below s _ _ _ (s₁.setTop (mkF m 69 #[.val (.int x0_0), .val (.int v), .val (.int v), .val (.int (1 : Int32)), .val (.int ((v ||| (32 : Int32)) - (97 : Int32))), .val (.int (0 : Int32)), .val (.int (0 : Int32))] [(.int v)]))
          obtain ⟨_, _, ⟨T18, L18, k18, n18⟩, -, X18, ⟨Lc18, hQ18, l18, y18, z18⟩, st18⟩ := Jvm.LawKit.callS X0 hx (y := (⟨"com/example/untl/untl/Formula", "isIdentifierStart", "(C)Z"⟩ : MethodName)) hown (mvT hZ (hw _ (List.mem_of_getElem? (i := 0) rfl))) (mvT hZ (hw _ (List.mem_of_getElem? (i := 1) rfl))) (mvT hZ (hw _ (List.mem_of_getElem? (i := 2) rfl))) (mvT hZ (hw _ (List.mem_of_getElem? (i := 3) rfl))) (by decide) (backOf (W := 0) (rm1 l Z a0 hw [] v h0 n0 O0 ) hZ (hw _ (List.mem_of_getElem? (i := 3) rfl)) (hw _ (List.mem_of_getElem? (i := 2) rfl)) (by decide) (by decide)) (g := (mkF m 69 #[.val (.int x0_0), .val (.int v), .val (.int v), .val (.int (1 : Int32)), .val (.int ((v ||| (32 : Int32)) - (97 : Int32))), .val (.int (0 : Int32)), .val (.int (0 : Int32))] [(.int v)])) rfl (by rw [hml]; rfl) (argsL := [(.int v)]) (rest := []) (lenOf pd_0 rfl) rfl (by show 2 * 0 + _ ≤ _; exact Nat.le_of_eq rfl) (hb hby at_69) (fun _ _ => ⟨rfl, e0, (by decide : 0 + 0 ≤ _), (by decide : 0 + 0 ≤ _)⟩)
          dsimp only [Pt.U, Pt.locs, Pt.cells, Pt.slots] at X18 l18 y18 z18 st18 hQ18
          subst l18 y18 z18
          obtain ⟨rfl, N18q, e18⟩ := hQ18
          refine own_step (fun t k => st18 _ k) ?_
          have N19 := Fr.app N0 N18q
          show own_Ends p.tables e below s _ _ _ (T18.setTop (mkF m 72 #[.val (.int x0_0), .val (.int v), .val (.int v), .val (.int (1 : Int32)), .val (.int ((v ||| (32 : Int32)) - (97 : Int32))), .val (.int (0 : Int32)), .val (.int (0 : Int32))] [(.int (own_r1 v))]))
          refine own_step (fun t k => XS.iload X18.here hx rfl (hb hby at_72) rfl k) ?_
          show own_Ends p.tables e below s _ _ _ (T18.setTop (mkF m 74 #[.val (.int x0_0), .val (.int v), .val (.int v), .val (.int (1 : Int32)), .val (.int ((v ||| (32 : Int32)) - (97 : Int32))), .val (.int (0 : Int32)), .val (.int (0 : Int32))] [(.int (0 : Int32)), (.int (own_r1 v))]))
          by_cases hc74_20 : (own_r1 v) = (0 : Int32)
          · skip
            refine own_step (fun t k => XS.icmpNo X18.here hx rfl (hb hby at_74) rfl (teq hc74_20).2 k) ?_
            show own_Ends p.tables e below s _ _ _ (T18.setTop (mkF m 77 #[.val (.int x0_0), .val (.int v), .val (.int v), .val (.int (1 : Int32)), .val (.int ((v ||| (32 : Int32)) - (97 : Int32))), .val (.int (0 : Int32)), .val (.int (0 : Int32))] []))
            refine own_step (fun t k => XS.iconst X18.here hx rfl (hb hby at_77) k) ?_
            show own_Ends p.tables e below s _ _ _ (T18.setTop (mkF m 78 #[.val (.int x0_0), .val (.int v), .val (.int v), .val (.int (1 : Int32)), .val (.int ((v ||| (32 : Int32)) - (97 : Int32))), .val (.int (0 : Int32)), .val (.int (0 : Int32))] [(.int (1 : Int32))]))
            refine own_step (fun t k => XS.goto X18.here hx rfl (pc0 := 78) (pc' := 82) rfl (hb hby at_78) (by decide) (by decide) k) ?_
            show own_Ends p.tables e below s _ _ _ (T18.setTop (mkF m 82 #[.val (.int x0_0), .val (.int v), .val (.int v), .val (.int (1 : Int32)), .val (.int ((v ||| (32 : Int32)) - (97 : Int32))), .val (.int (0 : Int32)), .val (.int (0 : Int32))] [(.int (1 : Int32))]))
            exact own_retN X18 hx (t := .boolean) Bd.returns (by simp) (hb hby at_82) hnl (by rw [e18]; exact ⟨rfl, N19⟩) (by decide) (by decide)
          · skip
            refine own_step (fun t k => XS.icmpYes X18.here hx rfl (pc0 := 74) (pc' := 81) rfl (hb hby at_74) rfl (feq hc74_20).2 (by decide) (by decide) k) ?_
            show own_Ends p.tables e below s _ _ _ (T18.setTop (mkF m 81 #[.val (.int x0_0), .val (.int v), .val (.int v), .val (.int (1 : Int32)), .val (.int ((v ||| (32 : Int32)) - (97 : Int32))), .val (.int (0 : Int32)), .val (.int (0 : Int32))] []))
            refine own_step (fun t k => XS.iconst X18.here hx rfl (hb hby at_81) k) ?_
            show own_Ends p.tables e below s _ _ _ (T18.setTop (mkF m 82 #[.val (.int x0_0), .val (.int v), .val (.int v), .val (.int (1 : Int32)), .val (.int ((v ||| (32 : Int32)) - (97 : Int32))), .val (.int (0 : Int32)), .val (.int (0 : Int32))] [(.int (0 : Int32))]))
            exfalso
            apply hc74_20
            rw [own_lowv v (hv ▸ own_char _) hc9_1]
            simp [hc33_2, hc40_10, hc58_14]
  · skip
    refine own_step (fun t k => XS.icmpYes X0.here hx rfl (pc0 := 9) (pc' := 16) rfl (hb hby at_9) rfl (flt hc9_1).2.1 (by decide) (by decide) k) ?_
    show own_Ends p.tables e below s _ _ _ (s₁.setTop (mkF m 16 #[.val (.int x0_0), .val (.int v), .val (.int v), .unset, .unset, .unset, .unset] []))
    refine own_step (fun t k => XS.iconst X0.here hx rfl (hb hby at_16) k) ?_
    show own_Ends p.tables e below s _ _ _ (s₁.setTop (mkF m 17 #[.val (.int x0_0), .val (.int v), .val (.int v), .unset, .unset, .unset, .unset] [(.int (0 : Int32))]))
    refine own_step (fun t k => XS.istoreN X0.here hx rfl (hb hby at_17) rfl (l' := #[.val (.int x0_0), .val (.int v), .val (.int v), .val (.int (0 : Int32)), .unset, .unset, .unset]) rfl k) ?_
    show own_Ends p.tables e below s _ _ _ (s₁.setTop (mkF m 18 #[.val (.int x0_0), .val (.int v), .val (.int v), .val (.int (0 : Int32)), .unset, .unset, .unset] []))
    refine own_step (fun t k => XS.iloadN X0.here hx rfl (hb hby at_18) rfl k) ?_
    show own_Ends p.tables e below s _ _ _ (s₁.setTop (mkF m 19 #[.val (.int x0_0), .val (.int v), .val (.int v), .val (.int (0 : Int32)), .unset, .unset, .unset] [(.int v)]))
    refine own_step (fun t k => XS.bipush X0.here hx rfl (hb hby at_19) k) ?_
    show own_Ends p.tables e below s _ _ _ (s₁.setTop (mkF m 21 #[.val (.int x0_0), .val (.int v), .val (.int v), .val (.int (0 : Int32)), .unset, .unset, .unset] [(.int (32 : Int32)), (.int v)]))
    refine own_step (fun t k => XS.ior X0.here hx rfl (hb hby at_21) rfl k) ?_
    show own_Ends p.tables e below s _ _ _ (s₁.setTop (mkF m 22 #[.val (.int x0_0), .val (.int v), .val (.int v), .val (.int (0 : Int32)), .unset, .unset, .unset] [(.int (v ||| (32 : Int32)))]))
    refine own_step (fun t k => XS.bipush X0.here hx rfl (hb hby at_22) k) ?_
    show own_Ends p.tables e below s _ _ _ (s₁.setTop (mkF m 24 #[.val (.int x0_0), .val (.int v), .val (.int v), .val (.int (0 : Int32)), .unset, .unset, .unset] [(.int (97 : Int32)), (.int (v ||| (32 : Int32)))]))
    refine own_step (fun t k => XS.isub X0.here hx rfl (hb hby at_24) rfl k) ?_
    show own_Ends p.tables e below s _ _ _ (s₁.setTop (mkF m 25 #[.val (.int x0_0), .val (.int v), .val (.int v), .val (.int (0 : Int32)), .unset, .unset, .unset] [(.int ((v ||| (32 : Int32)) - (97 : Int32)))]))
    refine own_step (fun t k => XS.istore X0.here hx rfl (hb hby at_25) rfl (l' := #[.val (.int x0_0), .val (.int v), .val (.int v), .val (.int (0 : Int32)), .val (.int ((v ||| (32 : Int32)) - (97 : Int32))), .unset, .unset]) rfl k) ?_
    show own_Ends p.tables e below s _ _ _ (s₁.setTop (mkF m 27 #[.val (.int x0_0), .val (.int v), .val (.int v), .val (.int (0 : Int32)), .val (.int ((v ||| (32 : Int32)) - (97 : Int32))), .unset, .unset] []))
    refine own_step (fun t k => XS.iloadN X0.here hx rfl (hb hby at_27) rfl k) ?_
    show own_Ends p.tables e below s _ _ _ (s₁.setTop (mkF m 28 #[.val (.int x0_0), .val (.int v), .val (.int v), .val (.int (0 : Int32)), .val (.int ((v ||| (32 : Int32)) - (97 : Int32))), .unset, .unset] [(.int (0 : Int32))]))
    refine own_step (fun t k => XS.ifYes X0.here hx rfl (pc0 := 28) (pc' := 47) rfl (hb hby at_28) rfl ((if0 _ _).trans (teq (by decide : (0 : Int32) = (0 : Int32))).1) (by decide) (by decide) k) ?_
    show own_Ends p.tables e below s _ _ _ (s₁.setTop (mkF m 47 #[.val (.int x0_0), .val (.int v), .val (.int v), .val (.int (0 : Int32)), .val (.int ((v ||| (32 : Int32)) - (97 : Int32))), .unset, .unset] []))
    refine own_step (fun t k => XS.iconst X0.here hx rfl (hb hby at_47) k) ?_
    show own_Ends p.tables e below s _ _ _ (s₁.setTop (mkF m 48 #[.val (.int x0_0), .val (.int v), .val (.int v), .val (.int (0 : Int32)), .val (.int ((v ||| (32 : Int32)) - (97 : Int32))), .unset, .unset] [(.int (0 : Int32))]))
    refine own_step (fun t k => XS.istore X0.here hx rfl (hb hby at_48) rfl (l' := #[.val (.int x0_0), .val (.int v), .val (.int v), .val (.int (0 : Int32)), .val (.int ((v ||| (32 : Int32)) - (97 : Int32))), .val (.int (0 : Int32)), .unset]) rfl k) ?_
    show own_Ends p.tables e below s _ _ _ (s₁.setTop (mkF m 50 #[.val (.int x0_0), .val (.int v), .val (.int v), .val (.int (0 : Int32)), .val (.int ((v ||| (32 : Int32)) - (97 : Int32))), .val (.int (0 : Int32)), .unset] []))
    refine own_step (fun t k => XS.iload X0.here hx rfl (hb hby at_50) rfl k) ?_
    show own_Ends p.tables e below s _ _ _ (s₁.setTop (mkF m 52 #[.val (.int x0_0), .val (.int v), .val (.int v), .val (.int (0 : Int32)), .val (.int ((v ||| (32 : Int32)) - (97 : Int32))), .val (.int (0 : Int32)), .unset] [(.int (0 : Int32))]))
    refine own_step (fun t k => XS.ifNo X0.here hx rfl (hb hby at_52) rfl ((if0 _ _).trans (teq (by decide : (0 : Int32) = (0 : Int32))).2) k) ?_
    show own_Ends p.tables e below s _ _ _ (s₁.setTop (mkF m 55 #[.val (.int x0_0), .val (.int v), .val (.int v), .val (.int (0 : Int32)), .val (.int ((v ||| (32 : Int32)) - (97 : Int32))), .val (.int (0 : Int32)), .unset] []))
    refine own_step (fun t k => XS.iloadN X0.here hx rfl (hb hby at_55) rfl k) ?_
    show own_Ends p.tables e below s _ _ _ (s₁.setTop (mkF m 56 #[.val (.int x0_0), .val (.int v), .val (.int v), .val (.int (0 : Int32)), .val (.int ((v ||| (32 : Int32)) - (97 : Int32))), .val (.int (0 : Int32)), .unset] [(.int v)]))
    refine own_step (fun t k => XS.bipush X0.here hx rfl (hb hby at_56) k) ?_
    show own_Ends p.tables e below s _ _ _ (s₁.setTop (mkF m 58 #[.val (.int x0_0), .val (.int v), .val (.int v), .val (.int (0 : Int32)), .val (.int ((v ||| (32 : Int32)) - (97 : Int32))), .val (.int (0 : Int32)), .unset] [(.int (95 : Int32)), (.int v)]))
    by_cases hc58_21 : v = (95 : Int32)
    · skip
      refine own_step (fun t k => XS.icmpNo X0.here hx rfl (hb hby at_58) rfl (teq hc58_21).2 k) ?_
      show own_Ends p.tables e below s _ _ _ (s₁.setTop (mkF m 61 #[.val (.int x0_0), .val (.int v), .val (.int v), .val (.int (0 : Int32)), .val (.int ((v ||| (32 : Int32)) - (97 : Int32))), .val (.int (0 : Int32)), .unset] []))
      refine own_step (fun t k => XS.iconst X0.here hx rfl (hb hby at_61) k) ?_
      show own_Ends p.tables e below s _ _ _ (s₁.setTop (mkF m 62 #[.val (.int x0_0), .val (.int v), .val (.int v), .val (.int (0 : Int32)), .val (.int ((v ||| (32 : Int32)) - (97 : Int32))), .val (.int (0 : Int32)), .unset] [(.int (1 : Int32))]))
      refine own_step (fun t k => XS.goto X0.here hx rfl (pc0 := 62) (pc' := 66) rfl (hb hby at_62) (by decide) (by decide) k) ?_
      show own_Ends p.tables e below s _ _ _ (s₁.setTop (mkF m 66 #[.val (.int x0_0), .val (.int v), .val (.int v), .val (.int (0 : Int32)), .val (.int ((v ||| (32 : Int32)) - (97 : Int32))), .val (.int (0 : Int32)), .unset] [(.int (1 : Int32))]))
      refine own_step (fun t k => XS.istore X0.here hx rfl (hb hby at_66) rfl (l' := #[.val (.int x0_0), .val (.int v), .val (.int v), .val (.int (0 : Int32)), .val (.int ((v ||| (32 : Int32)) - (97 : Int32))), .val (.int (0 : Int32)), .val (.int (1 : Int32))]) rfl k) ?_
      show own_Ends p.tables e below s _ _ _ (s₁.setTop (mkF m 68 #[.val (.int x0_0), .val (.int v), .val (.int v), .val (.int (0 : Int32)), .val (.int ((v ||| (32 : Int32)) - (97 : Int32))), .val (.int (0 : Int32)), .val (.int (1 : Int32))] []))
      refine own_step (fun t k => XS.iloadN X0.here hx rfl (hb hby at_68) rfl k) ?_
      show own_Ends p.tables e below s _ _ _ (s₁.setTop (mkF m 69 #[.val (.int x0_0), .val (.int v), .val (.int v), .val (.int (0 : Int32)), .val (.int ((v ||| (32 : Int32)) - (97 : Int32))), .val (.int (0 : Int32)), .val (.int (1 : Int32))] [(.int v)]))
      obtain ⟨_, _, ⟨T22, L22, k22, n22⟩, -, X22, ⟨Lc22, hQ22, l22, y22, z22⟩, st22⟩ := Jvm.LawKit.callS X0 hx (y := (⟨"com/example/untl/untl/Formula", "isIdentifierStart", "(C)Z"⟩ : MethodName)) hown (mvT hZ (hw _ (List.mem_of_getElem? (i := 0) rfl))) (mvT hZ (hw _ (List.mem_of_getElem? (i := 1) rfl))) (mvT hZ (hw _ (List.mem_of_getElem? (i := 2) rfl))) (mvT hZ (hw _ (List.mem_of_getElem? (i := 3) rfl))) (by decide) (backOf (W := 0) (rm1 l Z a0 hw [] v h0 n0 O0 ) hZ (hw _ (List.mem_of_getElem? (i := 3) rfl)) (hw _ (List.mem_of_getElem? (i := 2) rfl)) (by decide) (by decide)) (g := (mkF m 69 #[.val (.int x0_0), .val (.int v), .val (.int v), .val (.int (0 : Int32)), .val (.int ((v ||| (32 : Int32)) - (97 : Int32))), .val (.int (0 : Int32)), .val (.int (1 : Int32))] [(.int v)])) rfl (by rw [hml]; rfl) (argsL := [(.int v)]) (rest := []) (lenOf pd_0 rfl) rfl (by show 2 * 0 + _ ≤ _; exact Nat.le_of_eq rfl) (hb hby at_69) (fun _ _ => ⟨rfl, e0, (by decide : 0 + 0 ≤ _), (by decide : 0 + 0 ≤ _)⟩)
      dsimp only [Pt.U, Pt.locs, Pt.cells, Pt.slots] at X22 l22 y22 z22 st22 hQ22
      subst l22 y22 z22
      obtain ⟨rfl, N22q, e22⟩ := hQ22
      refine own_step (fun t k => st22 _ k) ?_
      have N23 := Fr.app N0 N22q
      show own_Ends p.tables e below s _ _ _ (T22.setTop (mkF m 72 #[.val (.int x0_0), .val (.int v), .val (.int v), .val (.int (0 : Int32)), .val (.int ((v ||| (32 : Int32)) - (97 : Int32))), .val (.int (0 : Int32)), .val (.int (1 : Int32))] [(.int (own_r1 v))]))
      refine own_step (fun t k => XS.iload X22.here hx rfl (hb hby at_72) rfl k) ?_
      show own_Ends p.tables e below s _ _ _ (T22.setTop (mkF m 74 #[.val (.int x0_0), .val (.int v), .val (.int v), .val (.int (0 : Int32)), .val (.int ((v ||| (32 : Int32)) - (97 : Int32))), .val (.int (0 : Int32)), .val (.int (1 : Int32))] [(.int (1 : Int32)), (.int (own_r1 v))]))
      by_cases hc74_24 : (own_r1 v) = (1 : Int32)
      · skip
        refine own_step (fun t k => XS.icmpNo X22.here hx rfl (hb hby at_74) rfl (teq hc74_24).2 k) ?_
        show own_Ends p.tables e below s _ _ _ (T22.setTop (mkF m 77 #[.val (.int x0_0), .val (.int v), .val (.int v), .val (.int (0 : Int32)), .val (.int ((v ||| (32 : Int32)) - (97 : Int32))), .val (.int (0 : Int32)), .val (.int (1 : Int32))] []))
        refine own_step (fun t k => XS.iconst X22.here hx rfl (hb hby at_77) k) ?_
        show own_Ends p.tables e below s _ _ _ (T22.setTop (mkF m 78 #[.val (.int x0_0), .val (.int v), .val (.int v), .val (.int (0 : Int32)), .val (.int ((v ||| (32 : Int32)) - (97 : Int32))), .val (.int (0 : Int32)), .val (.int (1 : Int32))] [(.int (1 : Int32))]))
        refine own_step (fun t k => XS.goto X22.here hx rfl (pc0 := 78) (pc' := 82) rfl (hb hby at_78) (by decide) (by decide) k) ?_
        show own_Ends p.tables e below s _ _ _ (T22.setTop (mkF m 82 #[.val (.int x0_0), .val (.int v), .val (.int v), .val (.int (0 : Int32)), .val (.int ((v ||| (32 : Int32)) - (97 : Int32))), .val (.int (0 : Int32)), .val (.int (1 : Int32))] [(.int (1 : Int32))]))
        exact own_retN X22 hx (t := .boolean) Bd.returns (by simp) (hb hby at_82) hnl (by rw [e22]; exact ⟨rfl, N23⟩) (by decide) (by decide)
      · skip
        refine own_step (fun t k => XS.icmpYes X22.here hx rfl (pc0 := 74) (pc' := 81) rfl (hb hby at_74) rfl (feq hc74_24).2 (by decide) (by decide) k) ?_
        show own_Ends p.tables e below s _ _ _ (T22.setTop (mkF m 81 #[.val (.int x0_0), .val (.int v), .val (.int v), .val (.int (0 : Int32)), .val (.int ((v ||| (32 : Int32)) - (97 : Int32))), .val (.int (0 : Int32)), .val (.int (1 : Int32))] []))
        refine own_step (fun t k => XS.iconst X22.here hx rfl (hb hby at_81) k) ?_
        show own_Ends p.tables e below s _ _ _ (T22.setTop (mkF m 82 #[.val (.int x0_0), .val (.int v), .val (.int v), .val (.int (0 : Int32)), .val (.int ((v ||| (32 : Int32)) - (97 : Int32))), .val (.int (0 : Int32)), .val (.int (1 : Int32))] [(.int (0 : Int32))]))
        exfalso
        exact (own_hi v hc9_1).2 hc58_21
    · skip
      refine own_step (fun t k => XS.icmpYes X0.here hx rfl (pc0 := 58) (pc' := 65) rfl (hb hby at_58) rfl (feq hc58_21).2 (by decide) (by decide) k) ?_
      show own_Ends p.tables e below s _ _ _ (s₁.setTop (mkF m 65 #[.val (.int x0_0), .val (.int v), .val (.int v), .val (.int (0 : Int32)), .val (.int ((v ||| (32 : Int32)) - (97 : Int32))), .val (.int (0 : Int32)), .unset] []))
      refine own_step (fun t k => XS.iconst X0.here hx rfl (hb hby at_65) k) ?_
      show own_Ends p.tables e below s _ _ _ (s₁.setTop (mkF m 66 #[.val (.int x0_0), .val (.int v), .val (.int v), .val (.int (0 : Int32)), .val (.int ((v ||| (32 : Int32)) - (97 : Int32))), .val (.int (0 : Int32)), .unset] [(.int (0 : Int32))]))
      refine own_step (fun t k => XS.istore X0.here hx rfl (hb hby at_66) rfl (l' := #[.val (.int x0_0), .val (.int v), .val (.int v), .val (.int (0 : Int32)), .val (.int ((v ||| (32 : Int32)) - (97 : Int32))), .val (.int (0 : Int32)), .val (.int (0 : Int32))]) rfl k) ?_
      show own_Ends p.tables e below s _ _ _ (s₁.setTop (mkF m 68 #[.val (.int x0_0), .val (.int v), .val (.int v), .val (.int (0 : Int32)), .val (.int ((v ||| (32 : Int32)) - (97 : Int32))), .val (.int (0 : Int32)), .val (.int (0 : Int32))] []))
      refine own_step (fun t k => XS.iloadN X0.here hx rfl (hb hby at_68) rfl k) ?_
      show own_Ends p.tables e below s _ _ _ (s₁.setTop (mkF m 69 #[.val (.int x0_0), .val (.int v), .val (.int v), .val (.int (0 : Int32)), .val (.int ((v ||| (32 : Int32)) - (97 : Int32))), .val (.int (0 : Int32)), .val (.int (0 : Int32))] [(.int v)]))
      obtain ⟨_, _, ⟨T25, L25, k25, n25⟩, -, X25, ⟨Lc25, hQ25, l25, y25, z25⟩, st25⟩ := Jvm.LawKit.callS X0 hx (y := (⟨"com/example/untl/untl/Formula", "isIdentifierStart", "(C)Z"⟩ : MethodName)) hown (mvT hZ (hw _ (List.mem_of_getElem? (i := 0) rfl))) (mvT hZ (hw _ (List.mem_of_getElem? (i := 1) rfl))) (mvT hZ (hw _ (List.mem_of_getElem? (i := 2) rfl))) (mvT hZ (hw _ (List.mem_of_getElem? (i := 3) rfl))) (by decide) (backOf (W := 0) (rm1 l Z a0 hw [] v h0 n0 O0 ) hZ (hw _ (List.mem_of_getElem? (i := 3) rfl)) (hw _ (List.mem_of_getElem? (i := 2) rfl)) (by decide) (by decide)) (g := (mkF m 69 #[.val (.int x0_0), .val (.int v), .val (.int v), .val (.int (0 : Int32)), .val (.int ((v ||| (32 : Int32)) - (97 : Int32))), .val (.int (0 : Int32)), .val (.int (0 : Int32))] [(.int v)])) rfl (by rw [hml]; rfl) (argsL := [(.int v)]) (rest := []) (lenOf pd_0 rfl) rfl (by show 2 * 0 + _ ≤ _; exact Nat.le_of_eq rfl) (hb hby at_69) (fun _ _ => ⟨rfl, e0, (by decide : 0 + 0 ≤ _), (by decide : 0 + 0 ≤ _)⟩)
      dsimp only [Pt.U, Pt.locs, Pt.cells, Pt.slots] at X25 l25 y25 z25 st25 hQ25
      subst l25 y25 z25
      obtain ⟨rfl, N25q, e25⟩ := hQ25
      refine own_step (fun t k => st25 _ k) ?_
      have N26 := Fr.app N0 N25q
      show own_Ends p.tables e below s _ _ _ (T25.setTop (mkF m 72 #[.val (.int x0_0), .val (.int v), .val (.int v), .val (.int (0 : Int32)), .val (.int ((v ||| (32 : Int32)) - (97 : Int32))), .val (.int (0 : Int32)), .val (.int (0 : Int32))] [(.int (own_r1 v))]))
      refine own_step (fun t k => XS.iload X25.here hx rfl (hb hby at_72) rfl k) ?_
      show own_Ends p.tables e below s _ _ _ (T25.setTop (mkF m 74 #[.val (.int x0_0), .val (.int v), .val (.int v), .val (.int (0 : Int32)), .val (.int ((v ||| (32 : Int32)) - (97 : Int32))), .val (.int (0 : Int32)), .val (.int (0 : Int32))] [(.int (0 : Int32)), (.int (own_r1 v))]))
      by_cases hc74_27 : (own_r1 v) = (0 : Int32)
      · skip
        refine own_step (fun t k => XS.icmpNo X25.here hx rfl (hb hby at_74) rfl (teq hc74_27).2 k) ?_
        show own_Ends p.tables e below s _ _ _ (T25.setTop (mkF m 77 #[.val (.int x0_0), .val (.int v), .val (.int v), .val (.int (0 : Int32)), .val (.int ((v ||| (32 : Int32)) - (97 : Int32))), .val (.int (0 : Int32)), .val (.int (0 : Int32))] []))
        refine own_step (fun t k => XS.iconst X25.here hx rfl (hb hby at_77) k) ?_
        show own_Ends p.tables e below s _ _ _ (T25.setTop (mkF m 78 #[.val (.int x0_0), .val (.int v), .val (.int v), .val (.int (0 : Int32)), .val (.int ((v ||| (32 : Int32)) - (97 : Int32))), .val (.int (0 : Int32)), .val (.int (0 : Int32))] [(.int (1 : Int32))]))
        refine own_step (fun t k => XS.goto X25.here hx rfl (pc0 := 78) (pc' := 82) rfl (hb hby at_78) (by decide) (by decide) k) ?_
        show own_Ends p.tables e below s _ _ _ (T25.setTop (mkF m 82 #[.val (.int x0_0), .val (.int v), .val (.int v), .val (.int (0 : Int32)), .val (.int ((v ||| (32 : Int32)) - (97 : Int32))), .val (.int (0 : Int32)), .val (.int (0 : Int32))] [(.int (1 : Int32))]))
        exact own_retN X25 hx (t := .boolean) Bd.returns (by simp) (hb hby at_82) hnl (by rw [e25]; exact ⟨rfl, N26⟩) (by decide) (by decide)
      · skip
        refine own_step (fun t k => XS.icmpYes X25.here hx rfl (pc0 := 74) (pc' := 81) rfl (hb hby at_74) rfl (feq hc74_27).2 (by decide) (by decide) k) ?_
        show own_Ends p.tables e below s _ _ _ (T25.setTop (mkF m 81 #[.val (.int x0_0), .val (.int v), .val (.int v), .val (.int (0 : Int32)), .val (.int ((v ||| (32 : Int32)) - (97 : Int32))), .val (.int (0 : Int32)), .val (.int (0 : Int32))] []))
        refine own_step (fun t k => XS.iconst X25.here hx rfl (hb hby at_81) k) ?_
        show own_Ends p.tables e below s _ _ _ (T25.setTop (mkF m 82 #[.val (.int x0_0), .val (.int v), .val (.int v), .val (.int (0 : Int32)), .val (.int ((v ||| (32 : Int32)) - (97 : Int32))), .val (.int (0 : Int32)), .val (.int (0 : Int32))] [(.int (0 : Int32))]))
        exfalso
        exact hc74_27 (own_hi v hc9_1).1
set_option maxRecDepth 65536 in
set_option maxHeartbeats 40000000 in
theorem comes_1 {Post : Tables → Env → Array Value → State → Outcome → State → Prop} (hpost : ∀ tb e args s v u, (limb_1_1.after args s (.returned v) u = true ∧ limb_1_2.after args s (.returned v) u = true ∧ True) → FrameEnd s (.returned v) u (Jvm.fieldLocs frame_1_writes args s ++ Jvm.arrayLocs frame_1_arrays args s ++ Jvm.staticLocs frame_1_statics s) 0 0 → Post tb e args s (.returned v) u) :
    ArmFor flags0 classFile x code maxLocals ret World_1 tables_1 room_1 Calls_1 rest_1 Pre_1 Post := by
  intro l hfl _ _ p e ha hc hk s m args below hf hA hF happ hP
  obtain ⟨hcalls, hrest, hpre⟩ := hP
  obtain ⟨-, -, -, hnamed, -, -, -, hat⟩ := (Spec.applies_iff hf).mp happ
  obtain ⟨hg, hn⟩ := and_e (Cond.before_iff.mp (show (Jvm.Cond.and given_1 narrow_1).before args s = true from hpre))
  obtain ⟨hh1a, hh1b⟩ := and_e hg
  obtain ⟨w0, rfl⟩ : ∃ w0 : Value, args = #[w0] := by
    have hs : args.size = 1 := by simpa [Cond.value, given_1] using hh1a
    obtain ⟨L⟩ := args
    match L, hs with
    | [w0], _ => exact ⟨w0, rfl⟩
  have hw := fun d (hd : d ∈ tables_1) => atoms_spec (ws := Jvm.Cond.code x code maxLocals ret :: tables_1) hat d (List.mem_cons_of_mem _ hd)
  have hfit : Fit s := fun {y c} hc i hi => by
    obtain ⟨ha, rfl⟩ := Array.getElem?_eq_some_iff.mp hc
    have q := List.all_eq_true.mp ((Array.all_eq_true_iff_forall_mem.mp hF) _ (Array.getElem_mem ha)) i (List.mem_range.mpr hi)
    simpa [Array.getElem?_eq_getElem hi] using q
  obtain ⟨i0, ei0⟩ := is_v hh1b
  obtain rfl : w0 = (.int i0) := Option.some.inj ei0
  obtain ⟨n, o, h1, h2, h3, _, L, rfl, ⟨rfl, N⟩, hq⟩ := rm0 l s _ hw tables_1 i0 s.heap s.heap.size (Old.start s) p e ha hc hk s m _ below hf ((Spec.applies_iff_loose hf).mp happ).1 ⟨rfl, State.Warmed39.refl s, rfl⟩ trivial
  refine ⟨n, _, h1, h2, h3, hpost _ _ _ _ _ _ ⟨Cond.after_iff.mpr rfl, Cond.after_iff.mpr (eq_i res_at (Term.int_eval (1)) rfl), trivial⟩ ⟨hq.1, hq.2.1, (hq.2.2.sift fun y hy => Or.inr (N y hy)).mono (by decide) (by decide)⟩⟩
theorem main_1_1 : Claimed_1_1 := comes_1 fun _ _ _ _ _ _ h hF => ⟨h.1, hF⟩
theorem main_1_2 : Claimed_1_2 := comes_1 fun _ _ _ _ _ _ h hF => ⟨h.2.1, hF⟩
end Jvm.Pilot.@@N@@
namespace Jvm.Pilot.@@N@@
open Jvm Jvm.ClassFile Sem Op Lib Jvm.Free Jvm.Stand Jvm.Pilot.@@N@@.Jvm.D
/-! MADE BY PROGRAM (witnessworld.py) out of the Statement's table words and the real class files: 9 classes; the members and pool entries that the words name. The judged class is class 1, her method 1. -/
namespace start1
open Jvm.ClassFile
def u (s : String) : CpInfo := .utf8 (stringToUtf16 s)
/-- a pool by its gaps: so many unusable entries, then the entry; so many at the end -/
def gap : Nat → List CpInfo → List CpInfo
  | 0, r => r
  | n + 1, r => .unusable :: gap n r
def poolList (es : List (Nat × CpInfo)) (last : Nat) : List CpInfo := es.foldr (fun e r => gap e.1 (e.2 :: r)) (gap last [])
def pool (es : List (Nat × CpInfo)) (last : Nat) : Array CpInfo := ⟨poolList es last⟩
def fileOf (pool : Array CpInfo) (this : Nat) (attrs : Array Attribute := #[]) (ms : Array MethodInfo := #[]) (fl : Nat := 33) (sup : Nat := 0) (ifs : Array Nat := #[]) (fds : Array FieldInfo := #[]) : ClassFile where
  minorVersion := 0
  majorVersion := 65
  constantPool := pool
  accessFlags := fl
  thisClass := this
  superClass := sup
  interfaces := ifs
  fields := fds
  methods := ms
  attributes := attrs
def plain (name : String) (sup : Option ClassId) : Class where
  name := name
  kind := .ordinary
  loader := none
  accessFlags := 33
  super := sup
  interfaces := #[]
  cf := none
  fields := #[]
  methods := #[]
  instanceTypes := #[]
  staticTypes := #[]
  resolved := #[]
  callSites := []
  init := .initialized
  statics := none
  mirror := none

def pool0 : Array CpInfo := pool [(5, u "<init>"), (0, u "()V"), (1, .class_ 10), (1, u "java/lang/Object")] 113

def k0m0 : Method := { name := "<init>", desc := "()V", sig := { parameters := [], returnType := none }, accessFlags := 1, code := none }
/-- java/lang/Object -/
def k0 : Class := { plain "java/lang/Object" none with
  accessFlags := 33
  interfaces := #[]
  cf := some (fileOf pool0 8 #[] #[{ accessFlags := 1, nameIndex := 5, descriptorIndex := 6, attributes := #[] }] 33 0 #[] #[])
  fields := #[]
  methods := #[k0m0]
  instanceTypes := #[]
  staticTypes := #[]
  resolved := Array.replicate 124 none
  statics := none }

def pool1 : Array CpInfo := pool [(2, .class_ 4), (1, u "java/lang/Object"), (0, u "<init>"), (0, u "()V"), (0, .methodref 8 9), (0, .class_ 10), (0, .nameAndType 11 12), (0, u "com/example/untl/untl/Formula"), (0, u "isIdentifierStart"), (0, u "(C)Z"), (0, .class_ 14), (0, u "com/example/untl/untl/FormulaIsIdentifierStartPinLaw"), (2, u "law"), (0, u "(I)Z")] 3

def k1m0 : Method := { name := "<init>", desc := "()V", sig := { parameters := [], returnType := none }, accessFlags := 1, code := none }
def k1c1 : Code := { maxStack := 2, maxLocals := 7, code := code, exceptionTable := #[], attributes := #[] }
def k1m1 : Method := { name := "law", desc := "(I)Z", sig := { parameters := [.int], returnType := some .boolean }, accessFlags := 9, code := some k1c1 }
/-- com/example/untl/untl/FormulaIsIdentifierStartPinLaw -/
def k1 : Class := { plain "com/example/untl/untl/FormulaIsIdentifierStartPinLaw" (some 0) with
  accessFlags := 49
  interfaces := #[]
  cf := some (fileOf pool1 13 #[] #[{ accessFlags := 1, nameIndex := 5, descriptorIndex := 6, attributes := #[] }, { accessFlags := 9, nameIndex := 17, descriptorIndex := 18, attributes := #[] }] 49 2 #[] #[])
  fields := #[]
  methods := #[k1m0, k1m1]
  instanceTypes := #[]
  staticTypes := #[]
  resolved := Array.replicate 22 none
  statics := none }

def pool2 : Array CpInfo := pool [(2, .class_ 4), (1, u "java/lang/Object"), (3, .class_ 10), (1, u "com/example/untl/untl/Formula"), (0, u "operator"), (0, u "Lcom/example/untl/untl/Operator;"), (2, u "name"), (0, u "Ljava/lang/String;"), (2, u "first"), (0, u "Lcom/example/untl/untl/Formula;"), (2, u "second"), (16, u "hash"), (3, u "I"), (159, u "isIdentifierStart"), (0, u "(C)Z"), (29, u "INSTANCES"), (0, u "Ljava/util/Map;"), (20, u "TRUE"), (4, u "FALSE")] 43

def k2c0 : Code := { maxStack := 2, maxLocals := 1, code := prog_11_method_14_code, exceptionTable := #[], attributes := #[] }
def k2m0 : Method := { name := "isIdentifierStart", desc := "(C)Z", sig := { parameters := [.char], returnType := some .boolean }, accessFlags := 8, code := some k2c0 }
/-- com/example/untl/untl/Formula -/
def k2 : Class := { plain "com/example/untl/untl/Formula" (some 0) with
  accessFlags := 33
  interfaces := #[]
  cf := some (fileOf pool2 8 #[] #[{ accessFlags := 8, nameIndex := 204, descriptorIndex := 205, attributes := #[] }] 33 2 #[] #[{ accessFlags := 26, nameIndex := 235, descriptorIndex := 236, attributes := #[] }, { accessFlags := 25, nameIndex := 257, descriptorIndex := 20, attributes := #[] }, { accessFlags := 25, nameIndex := 262, descriptorIndex := 20, attributes := #[] }, { accessFlags := 18, nameIndex := 11, descriptorIndex := 12, attributes := #[] }, { accessFlags := 18, nameIndex := 15, descriptorIndex := 16, attributes := #[] }, { accessFlags := 18, nameIndex := 19, descriptorIndex := 20, attributes := #[] }, { accessFlags := 18, nameIndex := 23, descriptorIndex := 20, attributes := #[] }, { accessFlags := 18, nameIndex := 40, descriptorIndex := 44, attributes := #[] }])
  fields := #[{ name := "INSTANCES", type := (.object "java/util/Map"), accessFlags := 26, slot := 0, constantValue := 0 }, { name := "TRUE", type := (.object "com/example/untl/untl/Formula"), accessFlags := 25, slot := 1, constantValue := 0 }, { name := "FALSE", type := (.object "com/example/untl/untl/Formula"), accessFlags := 25, slot := 2, constantValue := 0 }, { name := "operator", type := (.object "com/example/untl/untl/Operator"), accessFlags := 18, slot := 0, constantValue := 0 }, { name := "name", type := (.object "java/lang/String"), accessFlags := 18, slot := 1, constantValue := 0 }, { name := "first", type := (.object "com/example/untl/untl/Formula"), accessFlags := 18, slot := 2, constantValue := 0 }, { name := "second", type := (.object "com/example/untl/untl/Formula"), accessFlags := 18, slot := 3, constantValue := 0 }, { name := "hash", type := .int, accessFlags := 18, slot := 4, constantValue := 0 }]
  methods := #[k2m0]
  instanceTypes := #[(.object "com/example/untl/untl/Operator"), (.object "java/lang/String"), (.object "com/example/untl/untl/Formula"), (.object "com/example/untl/untl/Formula"), .int]
  staticTypes := #[(.object "java/util/Map"), (.object "com/example/untl/untl/Formula"), (.object "com/example/untl/untl/Formula")]
  resolved := Array.replicate 306 none
  statics := none }

def pool3 : Array CpInfo := pool [(1, u "java/lang/Cloneable"), (0, .class_ 1), (0, u "java/lang/Object"), (0, .class_ 3)] 3

/-- java/lang/Cloneable -/
def k3 : Class := { plain "java/lang/Cloneable" (some 0) with
  accessFlags := 1537
  interfaces := #[]
  cf := some (fileOf pool3 2 #[] #[] 1537 4 #[] #[])
  fields := #[]
  methods := #[]
  instanceTypes := #[]
  staticTypes := #[]
  resolved := Array.replicate 8 none
  statics := none }

def pool4 : Array CpInfo := pool [(1, u "java/io/Serializable"), (0, .class_ 1), (0, u "java/lang/Object"), (0, .class_ 3)] 3

/-- java/io/Serializable -/
def k4 : Class := { plain "java/io/Serializable" (some 0) with
  accessFlags := 1537
  interfaces := #[]
  cf := some (fileOf pool4 2 #[] #[] 1537 4 #[] #[])
  fields := #[]
  methods := #[]
  instanceTypes := #[]
  staticTypes := #[]
  resolved := Array.replicate 8 none
  statics := none }

/-- the primitive byte -/
def k5 : Class := { plain "byte" none with kind := .primitive 'B', accessFlags := 0x411 }
/-- [B -/
def k6 : Class := { plain "[B" (some 0) with kind := .array 5 .byte, interfaces := #[3, 4], accessFlags := 1041 }

/-- the primitive int -/
def k7 : Class := { plain "int" none with kind := .primitive 'I', accessFlags := 0x411 }
/-- [I -/
def k8 : Class := { plain "[I" (some 0) with kind := .array 7 .int, interfaces := #[3, 4], accessFlags := 1041 }

def heap : Heap := #[]
def classes : Array Class := #[k0, k1, k2, k3, k4, k5, k6, k7, k8]
def interned : List (Array UInt16 × Addr) := []
def slotsUsed : Nat := 0
def theMethod : MethodId := ⟨1, 1⟩
def args0 : Array Value := #[.int 5]
def aboutOver (below : List Frame) : State where
  vm := { classes := classes, interned := interned.toArray }
  heap := heap
  slotsUsed := slotsUsed
  threads := #[{ frames := .invoking theMethod args0 :: below }]
def below0 : List Frame := [.native { method := ⟨0, 0⟩, args := #[] }]
def about1 : State := aboutOver below0
def p0 : Program := .bare "" "" ""
def e0 : Env := launch0.env 0 0 0
theorem w_frames : about1.frames = Frame.invoking theMethod args0 :: below0 := rfl
set_option maxRecDepth 65536 in
theorem w_args : argsFit about1.vm theMethod args0 = true := by decide +kernel
set_option maxRecDepth 65536 in
theorem w_heap : heapFits about1 = true := by decide +kernel
set_option maxRecDepth 65536 in
theorem w_runnable : about1.curStatus? = some .runnable := by decide +kernel
set_option maxRecDepth 65536 in
theorem w_alone : about1.alone = true := by decide +kernel
set_option maxRecDepth 65536 in
theorem w_named : about1.methodNamed? x = some theMethod := by decide +kernel
set_option maxRecDepth 65536 in
theorem w_hears : about1.hears theMethod below0 = true := by decide +kernel
set_option maxRecDepth 65536 in
theorem w_ripe : about1.ripe theMethod args0 below0 = true := by decide +kernel
theorem w_running : about1.status = .running := rfl
set_option maxRecDepth 65536 in
theorem w_room : about1.hasRoom e0.platform room_1 = true :=
  launch0.hasRoom_least _ room_1 (by decide +kernel) (by decide +kernel) (by decide +kernel) (by decide +kernel) (by decide +kernel) (by decide +kernel)
theorem allAtoms_all (ts : List Jvm.Cond) (a : Array Jvm.Value) (st : Jvm.State) : (allAtoms ts).before a st = ts.all (fun c => c.before a st) := by
  induction ts with
  | nil => rfl
  | cons c t ih =>
    show (Jvm.Cond.and c (allAtoms t)).before a st = _
    rw [Jvm.Cond.before_and, ih, List.all_cons]
def words1 : List Jvm.Cond := Jvm.Cond.code x code maxLocals ret :: tables_1
/-- a 'code' word, met by the world's own term for the bytes: nothing is compared byte by byte -/
theorem code_word {y : MethodName} {bytes : ByteArray} {mx : Nat} {rt : Option FieldType} {a : Array Value} {s : State} {m : MethodId} {meth : Method} {c : Code} (h1 : s.methodNamed? y = some m) (h2 : s.vm.method? m = some meth) (h3 : meth.code = some c) (h4 : c.code = bytes)
    (h5 : (c.maxLocals == mx && c.exceptionTable.isEmpty && decide (c.maxStack ≤ mostOperands) && decide (meth.sig.returnType = rt) && !meth.locks && decide (parseMethodDescriptor y.desc = some meth.sig)) = true) : (Jvm.Cond.code y bytes mx rt).before a s = true := by
  simp only [Bool.and_eq_true, beq_iff_eq, Bool.not_eq_true', decide_eq_true_eq] at h5
  obtain ⟨⟨⟨⟨⟨g1, g2⟩, g3⟩, g4⟩, g5⟩, g6⟩ := h5
  simp [Cond.before, Cond.holds, Cond.value, h1, h2, h3, h4, g1, g2, g3, g4, g5, g6]
def isCode : Jvm.Cond → Bool
  | .code _ _ _ _ => true
  | _ => false
theorem all_split {L : List Jvm.Cond} {P : Jvm.Cond → Bool} (h1 : L.all (fun c => isCode c || P c) = true) (h2 : ∀ c ∈ L.filter isCode, P c = true) : L.all P = true := by
  refine List.all_eq_true.mpr fun c hc => ?_
  have h := List.all_eq_true.mp h1 c hc
  rcases Bool.eq_false_or_eq_true (isCode c) with hi | hi
  · exact h2 c (List.mem_filter.mpr ⟨hc, hi⟩)
  · simpa [hi] using h
set_option maxRecDepth 65536 in
theorem w_c0 : (Jvm.Cond.code x code maxLocals ret).before args0 about1 = true := code_word (m := ⟨1, 1⟩) (meth := k1m1) (c := k1c1) (by decide +kernel) rfl rfl rfl (by decide +kernel)
set_option maxRecDepth 65536 in
theorem w_c1 : (Jvm.Cond.code ({ cls := "com/example/untl/untl/Formula", name := "isIdentifierStart", desc := "(C)Z" } : Jvm.MethodName) prog_11_method_14_code (1 : Nat) (Option.some Jvm.ClassFile.FieldType.boolean)).before args0 about1 = true := code_word (m := ⟨2, 0⟩) (meth := k2m0) (c := k2c0) (by decide +kernel) rfl rfl rfl (by decide +kernel)
def codes1 : List Jvm.Cond := [Jvm.Cond.code x code maxLocals ret, Jvm.Cond.code ({ cls := "com/example/untl/untl/Formula", name := "isIdentifierStart", desc := "(C)Z" } : Jvm.MethodName) prog_11_method_14_code (1 : Nat) (Option.some Jvm.ClassFile.FieldType.boolean)]
set_option maxRecDepth 65536 in
theorem codes_eq : words1.filter isCode = codes1 := rfl
theorem w_codes : ∀ c ∈ words1.filter isCode, c.before args0 about1 = true := by
  rw [codes_eq]
  intro c hc
  simp only [codes1, List.mem_cons, List.not_mem_nil, or_false] at hc
  rcases hc with rfl | rfl
  · exact w_c0
  · exact w_c1
set_option maxRecDepth 65536 in
theorem w_t1 : words1.all (fun c => isCode c || c.before args0 about1) = true := by decide +kernel
theorem w_tables : (allAtoms (Jvm.Cond.code x code maxLocals ret :: tables_1)).before args0 about1 = true := by
  rw [allAtoms_all]
  show words1.all (fun c => c.before args0 about1) = true
  refine all_split ?_ w_codes
  rw [w_t1]
set_option maxRecDepth 65536 in
theorem w_case : (Jvm.Cond.and given_1 narrow_1).before args0 about1 = true := by decide +kernel
theorem w_applies : (headSpec (Jvm.Cond.code x code maxLocals ret :: tables_1) room_1).applies x e0.platform about1 = true :=
  (Spec.applies_iff w_frames).mpr ⟨w_running, w_runnable, w_alone, w_named, w_hears, w_ripe, w_room, w_tables⟩
theorem atStart : AtStart classFile x code maxLocals ret World_1 tables_1 room_1 Calls_1 rest_1 Pre_1 launch0 p0 e0 about1 theMethod args0 below0 :=
  ⟨lists_1, trivial, launch0.admits_env _ _ _, launch0.least_env, fairChoices_fair.cas, fairChoices_fair.clock, w_frames, w_args, w_heap, w_applies, trivial, trivial, w_case⟩
end start1
theorem witness_1 : WitnessClaimed_1 := ⟨start1.p0, start1.e0, start1.about1, start1.theMethod, start1.args0, start1.below0, start1.atStart⟩
end Jvm.Pilot.@@N@@
