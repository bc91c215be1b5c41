import JvmDerived
import JvmDerived.Pilot.@@N@@Statement
import JvmDerived.Pilot.@@N@@Code
set_option linter.unusedVariables false
set_option linter.unusedSimpArgs false
namespace Jvm.Pilot.@@N@@
open Jvm Jvm.ClassFile Sem Op Lib Jvm.Free Jvm.Stand Jvm.LawKit Jvm.RoadKit Bundle Jvm.Pilot.@@N@@.Jvm.D
/-- from the state st the run ends, of which Q says what it leaves -/
def own_Ends (tb : Tables) (e : Env) (below : List Frame) (s : State) (Q : Option Value → Heap → List Loc → Prop) (C S : Nat) (st : State) : Prop :=
  ∃ t o, Steps tb e below st t ∧ t.status = .running ∧ Ended t below o ∧ ∃ v L, o = .returned v ∧ Q v t.heap L ∧ FrameEnd s o t L C S
theorem own_step {tb : Tables} {e : Env} {below : List Frame} {s : State} {Q : Option Value → Heap → List Loc → Prop} {C S : Nat} {st st' : State}
    (h : ∀ t, Steps tb e below st' t → Steps tb e below st t) (k : own_Ends tb e below s Q C S st') : own_Ends tb e below s Q C S st := by
  obtain ⟨t, o, h1, h2⟩ := k
  exact ⟨t, o, h t h1, h2⟩
section OwnRet
variable {p : Program} {l : Launch} {e : Env} {R : Room} {s : State} {m : MethodId} {args : Array Value} {below : List Frame} {meth : Method} {c : Code} {T : State} {locs : List Loc} {cells slots : Nat} {Q : Option Value → Heap → List Loc → Prop} {C S : Nat} {pc : Nat} {Ls : Array Slot} {rest : List Value}
theorem own_retW (X : Stand p l e R s m args below meth c T locs cells slots) (hx : p.tables.exec = Jvm.exec) {w : Value} {t : FieldType} {i : Instr} (hret : meth.sig.returnType = some t) (hn : narrow t w = w)
    (hi : (i = .ireturn ∧ (t = .int ∨ t = .boolean ∨ t = .byte ∨ t = .char ∨ t = .short) ∧ ∃ z, w = .int z) ∨ (i = .lreturn ∧ t = .long ∧ ∃ z, w = .long z) ∨ (i = .dreturn ∧ t = .double ∧ ∃ z, w = .double z) ∨ (i = .freturn ∧ t = .float ∧ ∃ z, w = .float z) ∨ (i = .areturn ∧ t.isReference = true ∧ w.isRef = true))
    (hd : decode c.code pc = .ok (i, 1)) (hlocks : meth.locks = false) (hq : Q (some w) T.heap locs) (hc : cells ≤ C) (hs : slots ≤ S) :
    own_Ends p.tables e below s Q C S (T.setTop (mkF m pc Ls (w :: rest))) := by
  obtain ⟨fs, hr, hrun, hended, hW, hsame⟩ := X.leave (v := some w) (fun h => by rw [hret] at h; cases h) hlocks
  exact ⟨_, _, retOut X hx hret hn hi hd hr, hrun, hended, _, _, rfl, hq, ⟨_, rfl⟩, hW, hsame.mono hc hs⟩
theorem own_retI (X : Stand p l e R s m args below meth c T locs cells slots) (hx : p.tables.exec = Jvm.exec) {z : Int32} (hret : meth.sig.returnType = some .int)
    (hd : decode c.code pc = .ok (.ireturn, 1)) (hlocks : meth.locks = false) (hq : Q (some (.int z)) T.heap locs) (hc : cells ≤ C) (hs : slots ≤ S) :
    own_Ends p.tables e below s Q C S (T.setTop (mkF m pc Ls (.int z :: rest))) :=
  own_retW X hx hret rfl (Or.inl ⟨rfl, Or.inl rfl, z, rfl⟩) hd hlocks hq hc hs
theorem own_retJ (X : Stand p l e R s m args below meth c T locs cells slots) (hx : p.tables.exec = Jvm.exec) {z : Int64} (hret : meth.sig.returnType = some .long)
    (hd : decode c.code pc = .ok (.lreturn, 1)) (hlocks : meth.locks = false) (hq : Q (some (.long z)) T.heap locs) (hc : cells ≤ C) (hs : slots ≤ S) :
    own_Ends p.tables e below s Q C S (T.setTop (mkF m pc Ls (.long z :: rest))) :=
  own_retW X hx hret rfl (Or.inr (Or.inl ⟨rfl, rfl, z, rfl⟩)) hd hlocks hq hc hs
theorem own_retR (X : Stand p l e R s m args below meth c T locs cells slots) (hx : p.tables.exec = Jvm.exec) {w : Value} {t : FieldType} (hret : meth.sig.returnType = some t) (ht : t.isReference = true) (hw : w.isRef = true) (hn : narrow t w = w)
    (hd : decode c.code pc = .ok (.areturn, 1)) (hlocks : meth.locks = false) (hq : Q (some w) T.heap locs) (hc : cells ≤ C) (hs : slots ≤ S) :
    own_Ends p.tables e below s Q C S (T.setTop (mkF m pc Ls (w :: rest))) :=
  own_retW X hx hret hn (Or.inr (Or.inr (Or.inr (Or.inr ⟨rfl, ht, hw⟩)))) hd hlocks hq hc hs
theorem own_retN (X : Stand p l e R s m args below meth c T locs cells slots) (hx : p.tables.exec = Jvm.exec) {z : Int32} {t : FieldType} (hret : meth.sig.returnType = some t) (ht : t = .boolean ∨ t = .byte ∨ t = .char ∨ t = .short)
    (hd : decode c.code pc = .ok (.ireturn, 1)) (hlocks : meth.locks = false) (hq : Q (some (.int (nar t z))) T.heap locs) (hc : cells ≤ C) (hs : slots ≤ S) :
    own_Ends p.tables e below s Q C S (T.setTop (mkF m pc Ls (.int z :: rest))) := by
  obtain ⟨fs, hr, hrun, hended, hW, hsame⟩ := X.leave (v := some (.int (nar t z))) (fun h => by rw [hret] at h; cases h) hlocks
  exact ⟨_, _, retN X hx hret ht hd hr, hrun, hended, _, _, rfl, hq, ⟨_, rfl⟩, hW, hsame.mono hc hs⟩
theorem own_ret0 (X : Stand p l e R s m args below meth c T locs cells slots) (hx : p.tables.exec = Jvm.exec) (hret : meth.sig.returnType = none)
    (hd : decode c.code pc = .ok (.return_, 1)) (hlocks : meth.locks = false) (hq : Q none T.heap locs) (hc : cells ≤ C) (hs : slots ≤ S) :
    own_Ends p.tables e below s Q C S (T.setTop (mkF m pc Ls [])) := by
  obtain ⟨fs, hr, hrun, hended, hW, hsame⟩ := X.leave (v := none) (fun _ => rfl) hlocks
  exact ⟨_, _, X.returnOut hx hret hd hr, hrun, hended, _, _, rfl, hq, ⟨_, rfl⟩, hW, hsame.mono hc hs⟩
end OwnRet
theorem own_idx (b n : Int32) (hn : 0 < n.toInt) : ¬ ((b &&& 2147483647) % n) < 0 ∧ ((b &&& 2147483647) % n) < n := by
  have h1 := c_and b 2147483647 (by decide)
  have h2 := (c_iremV (b &&& 2147483647) n).1 h1.1 hn
  constructor
  · rw [Int32.lt_iff_toInt_lt]; show ¬ _ < (0 : Int); omega
  · rw [Int32.lt_iff_toInt_lt]; omega
theorem own_small (v : Int32) (k : Nat) (hk : k < 2147483648) (h1 : ¬ v < 0) (h2 : v < Int32.ofNat k) : ∃ n : Fin k, v = Int32.ofNat n.1 := by
  rw [Int32.lt_iff_toInt_lt] at h1 h2
  rw [Int32.toInt_ofNat_of_lt hk] at h2
  have a : 0 ≤ v.toInt := by simpa using h1
  refine ⟨⟨v.toInt.toNat, by omega⟩, ?_⟩
  apply Int32.toInt_inj.mp
  rw [Int32.toInt_ofNat_of_lt (by show v.toInt.toNat < _; omega)]
  show v.toInt = ((v.toInt.toNat : Nat) : Int)
  omega
def own_r1 (x0_1 : Int32) : Int32 := (if x0_1 < (65 : Int32) then (if x0_1 < (97 : Int32) then (if x0_1 < (48 : Int32) then (if x0_1 = (45 : Int32) then (1 : Int32) else (if x0_1 = (46 : Int32) then (1 : Int32) else (if x0_1 = (95 : Int32) then (1 : Int32) else (if x0_1 = (126 : Int32) then (1 : Int32) else (0 : Int32))))) else (if (57 : Int32) < x0_1 then (if x0_1 = (45 : Int32) then (1 : Int32) else (if x0_1 = (46 : Int32) then (1 : Int32) else (if x0_1 = (95 : Int32) then (1 : Int32) else (if x0_1 = (126 : Int32) then (1 : Int32) else (0 : Int32))))) else (1 : Int32))) else (if (122 : Int32) < x0_1 then (if x0_1 < (48 : Int32) then (if x0_1 = (45 : Int32) then (1 : Int32) else (if x0_1 = (46 : Int32) then (1 : Int32) else (if x0_1 = (95 : Int32) then (1 : Int32) else (if x0_1 = (126 : Int32) then (1 : Int32) else (0 : Int32))))) else (if (57 : Int32) < x0_1 then (if x0_1 = (45 : Int32) then (1 : Int32) else (if x0_1 = (46 : Int32) then (1 : Int32) else (if x0_1 = (95 : Int32) then (1 : Int32) else (if x0_1 = (126 : Int32) then (1 : Int32) else (0 : Int32))))) else (1 : Int32))) else (1 : Int32))) else (if (90 : Int32) < x0_1 then (if x0_1 < (97 : Int32) then (if x0_1 < (48 : Int32) then (if x0_1 = (45 : Int32) then (1 : Int32) else (if x0_1 = (46 : Int32) then (1 : Int32) else (if x0_1 = (95 : Int32) then (1 : Int32) else (if x0_1 = (126 : Int32) then (1 : Int32) else (0 : Int32))))) else (if (57 : Int32) < x0_1 then (if x0_1 = (45 : Int32) then (1 : Int32) else (if x0_1 = (46 : Int32) then (1 : Int32) else (if x0_1 = (95 : Int32) then (1 : Int32) else (if x0_1 = (126 : Int32) then (1 : Int32) else (0 : Int32))))) else (1 : Int32))) else (if (122 : Int32) < x0_1 then (if x0_1 < (48 : Int32) then (if x0_1 = (45 : Int32) then (1 : Int32) else (if x0_1 = (46 : Int32) then (1 : Int32) else (if x0_1 = (95 : Int32) then (1 : Int32) else (if x0_1 = (126 : Int32) then (1 : Int32) else (0 : Int32))))) else (if (57 : Int32) < x0_1 then (if x0_1 = (45 : Int32) then (1 : Int32) else (if x0_1 = (46 : Int32) then (1 : Int32) else (if x0_1 = (95 : Int32) then (1 : Int32) else (if x0_1 = (126 : Int32) then (1 : Int32) else (0 : Int32))))) else (1 : Int32))) else (1 : Int32))) else (1 : Int32)))
theorem d1_0 : decode prog_13_method_6_code 0 = .ok (.iload_n 0, 1) := by decide +kernel
theorem d1_1 : decode prog_13_method_6_code 1 = .ok (.bipush 65, 2) := by decide +kernel
theorem d1_3 : decode prog_13_method_6_code 3 = .ok (.if_icmp .lt 9, 3) := by decide +kernel
theorem d1_6 : decode prog_13_method_6_code 6 = .ok (.iload_n 0, 1) := by decide +kernel
theorem d1_7 : decode prog_13_method_6_code 7 = .ok (.bipush 90, 2) := by decide +kernel
theorem d1_9 : decode prog_13_method_6_code 9 = .ok (.if_icmp .le 51, 3) := by decide +kernel
theorem d1_12 : decode prog_13_method_6_code 12 = .ok (.iload_n 0, 1) := by decide +kernel
theorem d1_13 : decode prog_13_method_6_code 13 = .ok (.bipush 97, 2) := by decide +kernel
theorem d1_15 : decode prog_13_method_6_code 15 = .ok (.if_icmp .lt 9, 3) := by decide +kernel
theorem d1_18 : decode prog_13_method_6_code 18 = .ok (.iload_n 0, 1) := by decide +kernel
theorem d1_19 : decode prog_13_method_6_code 19 = .ok (.bipush 122, 2) := by decide +kernel
theorem d1_21 : decode prog_13_method_6_code 21 = .ok (.if_icmp .le 39, 3) := by decide +kernel
theorem d1_24 : decode prog_13_method_6_code 24 = .ok (.iload_n 0, 1) := by decide +kernel
theorem d1_25 : decode prog_13_method_6_code 25 = .ok (.bipush 48, 2) := by decide +kernel
theorem d1_27 : decode prog_13_method_6_code 27 = .ok (.if_icmp .lt 9, 3) := by decide +kernel
theorem d1_30 : decode prog_13_method_6_code 30 = .ok (.iload_n 0, 1) := by decide +kernel
theorem d1_31 : decode prog_13_method_6_code 31 = .ok (.bipush 57, 2) := by decide +kernel
theorem d1_33 : decode prog_13_method_6_code 33 = .ok (.if_icmp .le 27, 3) := by decide +kernel
theorem d1_36 : decode prog_13_method_6_code 36 = .ok (.iload_n 0, 1) := by decide +kernel
theorem d1_37 : decode prog_13_method_6_code 37 = .ok (.bipush 45, 2) := by decide +kernel
theorem d1_39 : decode prog_13_method_6_code 39 = .ok (.if_icmp .eq 21, 3) := by decide +kernel
theorem d1_42 : decode prog_13_method_6_code 42 = .ok (.iload_n 0, 1) := by decide +kernel
theorem d1_43 : decode prog_13_method_6_code 43 = .ok (.bipush 46, 2) := by decide +kernel
theorem d1_45 : decode prog_13_method_6_code 45 = .ok (.if_icmp .eq 15, 3) := by decide +kernel
theorem d1_48 : decode prog_13_method_6_code 48 = .ok (.iload_n 0, 1) := by decide +kernel
theorem d1_49 : decode prog_13_method_6_code 49 = .ok (.bipush 95, 2) := by decide +kernel
theorem d1_51 : decode prog_13_method_6_code 51 = .ok (.if_icmp .eq 9, 3) := by decide +kernel
theorem d1_54 : decode prog_13_method_6_code 54 = .ok (.iload_n 0, 1) := by decide +kernel
theorem d1_55 : decode prog_13_method_6_code 55 = .ok (.bipush 126, 2) := by decide +kernel
theorem d1_57 : decode prog_13_method_6_code 57 = .ok (.if_icmp .ne 7, 3) := by decide +kernel
theorem d1_60 : decode prog_13_method_6_code 60 = .ok (.iconst 1, 1) := by decide +kernel
theorem d1_61 : decode prog_13_method_6_code 61 = .ok (.goto 4, 3) := by decide +kernel
theorem d1_64 : decode prog_13_method_6_code 64 = .ok (.iconst 0, 1) := by decide +kernel
theorem d1_65 : decode prog_13_method_6_code 65 = .ok (.ireturn, 1) := by decide +kernel
theorem pn_0 : plainName "com/example/navigable_rest/navigablerest/PercentEncoding" = true := by first | (simp [plainName, overriddenIn]; done) | decide +kernel
theorem ef_1 (m : MethodId) (x0_1 : Int32) : entryFrame m #[(.int x0_1)] 1 = mkF m 0 #[.val (.int x0_1)] [] := by first | (simp [entryFrame, mkF, argsToLocals, Value.category]; done) | rfl
def Q1 (Z : State) (x0_1 : Int32) (h0 : Heap) (n0 : Nat) (v : Option Value) (h : Heap) (L : List Loc) : Prop := v = some (.int (own_r1 x0_1)) ∧ Fr n0 L ∧ h = h0
set_option maxRecDepth 65536 in
set_option maxHeartbeats 40000000 in
theorem rm1 (l : Launch) (Z : State) (a0 : Array Value) (hw : ∀ d ∈ tables_1, d.before a0 Z = true) (ws : List Jvm.Cond) (x0_1 : Int32) (h0 : Heap) (n0 : Nat) (O0 : Old Z n0 h0) :
    MetFree l (⟨"com/example/navigable_rest/navigablerest/PercentEncoding", "isUnreserved", "(I)Z"⟩ : MethodName) (head1 (Jvm.Cond.code (⟨"com/example/navigable_rest/navigablerest/PercentEncoding", "isUnreserved", "(I)Z"⟩ : MethodName) prog_13_method_6_code 1 (some .boolean) :: ws) ({ frames := 0, cells := 0, slots := 0, locals := 0 } : Room)) (fun a U => a = #[(.int x0_1)] ∧ Z.Warmed39 U.vm ∧ U.heap = h0) (fun _ _ _ _ _ => True) (fun _ U o U' => ∃ v L, o = .returned v ∧ Q1 Z x0_1 h0 n0 v U'.heap L ∧ FrameEnd U o U' L ({ frames := 0, cells := 0, slots := 0, locals := 0 } : Room).cells ({ frames := 0, cells := 0, slots := 0, locals := 0 } : Room).slots) := by
  refine MetFree.of_bodySF (plainFor_of_name pn_0) hisR ?_
  intro p e s m args below meth c s₁ Bd hml0 hP hK
  obtain ⟨rfl, hZ, hh⟩ := hP
  have hx := Bd.exec
  have hby := Bd.bytes
  have hnl := BodyLoose.notSynchronized Bd
  have hml : c.maxLocals = 1 := hml0
  have hown : s.vm.findClass "com/example/navigable_rest/navigablerest/PercentEncoding" = some m.cls := findClass_of_methodNamed Bd.named
  have hnm := (name_of_methodNamed Bd.named Bd.method).1
  have X0 : Stand p l e ({ frames := 0, cells := 0, slots := 0, locals := 0 } : Room) s m #[(.int x0_1)] below meth c s₁ [] 0 0 := Stand.of_body Bd
  have e0 : s₁.heap = h0 := by rw [← hh, Bd.state]; rfl
  have N0 := Fr.nil n0
  show own_Ends p.tables e below s (Q1 Z x0_1 h0 n0) 0 0 (s₁.setTop (entryFrame m #[(.int x0_1)] 1))
  rw [ef_1 m x0_1]
  show own_Ends p.tables e below s _ _ _ (s₁.setTop (mkF m 0 #[.val (.int x0_1)] []))
  refine own_step (fun t k => XS.iloadN X0.here hx rfl (hb hby d1_0) rfl k) ?_
  show own_Ends p.tables e below s _ _ _ (s₁.setTop (mkF m 1 #[.val (.int x0_1)] [(.int x0_1)]))
  refine own_step (fun t k => XS.bipush X0.here hx rfl (hb hby d1_1) k) ?_
  show own_Ends p.tables e below s _ _ _ (s₁.setTop (mkF m 3 #[.val (.int x0_1)] [(.int (65 : Int32)), (.int x0_1)]))
  by_cases hc3_1 : x0_1 < (65 : Int32)
  · skip
    refine own_step (fun t k => XS.icmpYes X0.here hx rfl (pc0 := 3) (pc' := 12) rfl (hb hby d1_3) rfl (tlt hc3_1).1 (by decide) (by decide) k) ?_
    show own_Ends p.tables e below s _ _ _ (s₁.setTop (mkF m 12 #[.val (.int x0_1)] []))
    refine own_step (fun t k => XS.iloadN X0.here hx rfl (hb hby d1_12) rfl k) ?_
    show own_Ends p.tables e below s _ _ _ (s₁.setTop (mkF m 13 #[.val (.int x0_1)] [(.int x0_1)]))
    refine own_step (fun t k => XS.bipush X0.here hx rfl (hb hby d1_13) k) ?_
    show own_Ends p.tables e below s _ _ _ (s₁.setTop (mkF m 15 #[.val (.int x0_1)] [(.int (97 : Int32)), (.int x0_1)]))
    by_cases hc15_2 : x0_1 < (97 : Int32)
    · skip
      refine own_step (fun t k => XS.icmpYes X0.here hx rfl (pc0 := 15) (pc' := 24) rfl (hb hby d1_15) rfl (tlt hc15_2).1 (by decide) (by decide) k) ?_
      show own_Ends p.tables e below s _ _ _ (s₁.setTop (mkF m 24 #[.val (.int x0_1)] []))
      refine own_step (fun t k => XS.iloadN X0.here hx rfl (hb hby d1_24) rfl k) ?_
      show own_Ends p.tables e below s _ _ _ (s₁.setTop (mkF m 25 #[.val (.int x0_1)] [(.int x0_1)]))
      refine own_step (fun t k => XS.bipush X0.here hx rfl (hb hby d1_25) k) ?_
      show own_Ends p.tables e below s _ _ _ (s₁.setTop (mkF m 27 #[.val (.int x0_1)] [(.int (48 : Int32)), (.int x0_1)]))
      by_cases hc27_3 : x0_1 < (48 : Int32)
      · skip
        refine own_step (fun t k => XS.icmpYes X0.here hx rfl (pc0 := 27) (pc' := 36) rfl (hb hby d1_27) rfl (tlt hc27_3).1 (by decide) (by decide) k) ?_
        show own_Ends p.tables e below s _ _ _ (s₁.setTop (mkF m 36 #[.val (.int x0_1)] []))
        refine own_step (fun t k => XS.iloadN X0.here hx rfl (hb hby d1_36) rfl k) ?_
        show own_Ends p.tables e below s _ _ _ (s₁.setTop (mkF m 37 #[.val (.int x0_1)] [(.int x0_1)]))
        refine own_step (fun t k => XS.bipush X0.here hx rfl (hb hby d1_37) k) ?_
        show own_Ends p.tables e below s _ _ _ (s₁.setTop (mkF m 39 #[.val (.int x0_1)] [(.int (45 : Int32)), (.int x0_1)]))
        by_cases hc39_4 : x0_1 = (45 : Int32)
        · skip
          refine own_step (fun t k => XS.icmpYes X0.here hx rfl (pc0 := 39) (pc' := 60) rfl (hb hby d1_39) rfl (teq hc39_4).1 (by decide) (by decide) k) ?_
          show own_Ends p.tables e below s _ _ _ (s₁.setTop (mkF m 60 #[.val (.int x0_1)] []))
          refine own_step (fun t k => XS.iconst X0.here hx rfl (hb hby d1_60) k) ?_
          show own_Ends p.tables e below s _ _ _ (s₁.setTop (mkF m 61 #[.val (.int x0_1)] [(.int (1 : Int32))]))
          refine own_step (fun t k => XS.goto X0.here hx rfl (pc0 := 61) (pc' := 65) rfl (hb hby d1_61) (by decide) (by decide) k) ?_
          show own_Ends p.tables e below s _ _ _ (s₁.setTop (mkF m 65 #[.val (.int x0_1)] [(.int (1 : Int32))]))
          exact own_retN X0 hx (t := .boolean) Bd.returns (by simp) (hb hby d1_65) hnl (by rw [e0]; exact ⟨(congrArg (fun z => some (Value.int z)) (Eq.symm (show (own_r1 x0_1) = (1 : Int32) from by unfold own_r1; rw [if_pos hc3_1, if_pos hc15_2, if_pos hc27_3, if_pos hc39_4]))), N0, rfl⟩) (by decide) (by decide)
        · skip
          refine own_step (fun t k => XS.icmpNo X0.here hx rfl (hb hby d1_39) rfl (feq hc39_4).1 k) ?_
          show own_Ends p.tables e below s _ _ _ (s₁.setTop (mkF m 42 #[.val (.int x0_1)] []))
          refine own_step (fun t k => XS.iloadN X0.here hx rfl (hb hby d1_42) rfl k) ?_
          show own_Ends p.tables e below s _ _ _ (s₁.setTop (mkF m 43 #[.val (.int x0_1)] [(.int x0_1)]))
          refine own_step (fun t k => XS.bipush X0.here hx rfl (hb hby d1_43) k) ?_
          show own_Ends p.tables e below s _ _ _ (s₁.setTop (mkF m 45 #[.val (.int x0_1)] [(.int (46 : Int32)), (.int x0_1)]))
          by_cases hc45_5 : x0_1 = (46 : Int32)
          · skip
            refine own_step (fun t k => XS.icmpYes X0.here hx rfl (pc0 := 45) (pc' := 60) rfl (hb hby d1_45) rfl (teq hc45_5).1 (by decide) (by decide) k) ?_
            show own_Ends p.tables e below s _ _ _ (s₁.setTop (mkF m 60 #[.val (.int x0_1)] []))
            refine own_step (fun t k => XS.iconst X0.here hx rfl (hb hby d1_60) k) ?_
            show own_Ends p.tables e below s _ _ _ (s₁.setTop (mkF m 61 #[.val (.int x0_1)] [(.int (1 : Int32))]))
            refine own_step (fun t k => XS.goto X0.here hx rfl (pc0 := 61) (pc' := 65) rfl (hb hby d1_61) (by decide) (by decide) k) ?_
            show own_Ends p.tables e below s _ _ _ (s₁.setTop (mkF m 65 #[.val (.int x0_1)] [(.int (1 : Int32))]))
            exact own_retN X0 hx (t := .boolean) Bd.returns (by simp) (hb hby d1_65) hnl (by rw [e0]; exact ⟨(congrArg (fun z => some (Value.int z)) (Eq.symm (show (own_r1 x0_1) = (1 : Int32) from by unfold own_r1; rw [if_pos hc3_1, if_pos hc15_2, if_pos hc27_3, if_neg hc39_4, if_pos hc45_5]))), N0, rfl⟩) (by decide) (by decide)
          · skip
            refine own_step (fun t k => XS.icmpNo X0.here hx rfl (hb hby d1_45) rfl (feq hc45_5).1 k) ?_
            show own_Ends p.tables e below s _ _ _ (s₁.setTop (mkF m 48 #[.val (.int x0_1)] []))
            refine own_step (fun t k => XS.iloadN X0.here hx rfl (hb hby d1_48) rfl k) ?_
            show own_Ends p.tables e below s _ _ _ (s₁.setTop (mkF m 49 #[.val (.int x0_1)] [(.int x0_1)]))
            refine own_step (fun t k => XS.bipush X0.here hx rfl (hb hby d1_49) k) ?_
            show own_Ends p.tables e below s _ _ _ (s₁.setTop (mkF m 51 #[.val (.int x0_1)] [(.int (95 : Int32)), (.int x0_1)]))
            by_cases hc51_6 : x0_1 = (95 : Int32)
            · skip
              refine own_step (fun t k => XS.icmpYes X0.here hx rfl (pc0 := 51) (pc' := 60) rfl (hb hby d1_51) rfl (teq hc51_6).1 (by decide) (by decide) k) ?_
              show own_Ends p.tables e below s _ _ _ (s₁.setTop (mkF m 60 #[.val (.int x0_1)] []))
              refine own_step (fun t k => XS.iconst X0.here hx rfl (hb hby d1_60) k) ?_
              show own_Ends p.tables e below s _ _ _ (s₁.setTop (mkF m 61 #[.val (.int x0_1)] [(.int (1 : Int32))]))
              refine own_step (fun t k => XS.goto X0.here hx rfl (pc0 := 61) (pc' := 65) rfl (hb hby d1_61) (by decide) (by decide) k) ?_
              show own_Ends p.tables e below s _ _ _ (s₁.setTop (mkF m 65 #[.val (.int x0_1)] [(.int (1 : Int32))]))
              exact own_retN X0 hx (t := .boolean) Bd.returns (by simp) (hb hby d1_65) hnl (by rw [e0]; exact ⟨(congrArg (fun z => some (Value.int z)) (Eq.symm (show (own_r1 x0_1) = (1 : Int32) from by unfold own_r1; rw [if_pos hc3_1, if_pos hc15_2, if_pos hc27_3, if_neg hc39_4, if_neg hc45_5, if_pos hc51_6]))), N0, rfl⟩) (by decide) (by decide)
            · skip
              refine own_step (fun t k => XS.icmpNo X0.here hx rfl (hb hby d1_51) rfl (feq hc51_6).1 k) ?_
              show own_Ends p.tables e below s _ _ _ (s₁.setTop (mkF m 54 #[.val (.int x0_1)] []))
              refine own_step (fun t k => XS.iloadN X0.here hx rfl (hb hby d1_54) rfl k) ?_
              show own_Ends p.tables e below s _ _ _ (s₁.setTop (mkF m 55 #[.val (.int x0_1)] [(.int x0_1)]))
              refine own_step (fun t k => XS.bipush X0.here hx rfl (hb hby d1_55) k) ?_
              show own_Ends p.tables e below s _ _ _ (s₁.setTop (mkF m 57 #[.val (.int x0_1)] [(.int (126 : Int32)), (.int x0_1)]))
              by_cases hc57_7 : x0_1 = (126 : Int32)
              · skip
                refine own_step (fun t k => XS.icmpNo X0.here hx rfl (hb hby d1_57) rfl (teq hc57_7).2 k) ?_
                show own_Ends p.tables e below s _ _ _ (s₁.setTop (mkF m 60 #[.val (.int x0_1)] []))
                refine own_step (fun t k => XS.iconst X0.here hx rfl (hb hby d1_60) k) ?_
                show own_Ends p.tables e below s _ _ _ (s₁.setTop (mkF m 61 #[.val (.int x0_1)] [(.int (1 : Int32))]))
                refine own_step (fun t k => XS.goto X0.here hx rfl (pc0 := 61) (pc' := 65) rfl (hb hby d1_61) (by decide) (by decide) k) ?_
                show own_Ends p.tables e below s _ _ _ (s₁.setTop (mkF m 65 #[.val (.int x0_1)] [(.int (1 : Int32))]))
                exact own_retN X0 hx (t := .boolean) Bd.returns (by simp) (hb hby d1_65) hnl (by rw [e0]; exact ⟨(congrArg (fun z => some (Value.int z)) (Eq.symm (show (own_r1 x0_1) = (1 : Int32) from by unfold own_r1; rw [if_pos hc3_1, if_pos hc15_2, if_pos hc27_3, if_neg hc39_4, if_neg hc45_5, if_neg hc51_6, if_pos hc57_7]))), N0, rfl⟩) (by decide) (by decide)
              · skip
                refine own_step (fun t k => XS.icmpYes X0.here hx rfl (pc0 := 57) (pc' := 64) rfl (hb hby d1_57) rfl (feq hc57_7).2 (by decide) (by decide) k) ?_
                show own_Ends p.tables e below s _ _ _ (s₁.setTop (mkF m 64 #[.val (.int x0_1)] []))
                refine own_step (fun t k => XS.iconst X0.here hx rfl (hb hby d1_64) k) ?_
                show own_Ends p.tables e below s _ _ _ (s₁.setTop (mkF m 65 #[.val (.int x0_1)] [(.int (0 : Int32))]))
                exact own_retN X0 hx (t := .boolean) Bd.returns (by simp) (hb hby d1_65) hnl (by rw [e0]; exact ⟨(congrArg (fun z => some (Value.int z)) (Eq.symm (show (own_r1 x0_1) = (0 : Int32) from by unfold own_r1; rw [if_pos hc3_1, if_pos hc15_2, if_pos hc27_3, if_neg hc39_4, if_neg hc45_5, if_neg hc51_6, if_neg hc57_7]))), N0, rfl⟩) (by decide) (by decide)
      · skip
        refine own_step (fun t k => XS.icmpNo X0.here hx rfl (hb hby d1_27) rfl (flt hc27_3).1 k) ?_
        show own_Ends p.tables e below s _ _ _ (s₁.setTop (mkF m 30 #[.val (.int x0_1)] []))
        refine own_step (fun t k => XS.iloadN X0.here hx rfl (hb hby d1_30) rfl k) ?_
        show own_Ends p.tables e below s _ _ _ (s₁.setTop (mkF m 31 #[.val (.int x0_1)] [(.int x0_1)]))
        refine own_step (fun t k => XS.bipush X0.here hx rfl (hb hby d1_31) k) ?_
        show own_Ends p.tables e below s _ _ _ (s₁.setTop (mkF m 33 #[.val (.int x0_1)] [(.int (57 : Int32)), (.int x0_1)]))
        by_cases hc33_8 : (57 : Int32) < x0_1
        · skip
          refine own_step (fun t k => XS.icmpNo X0.here hx rfl (hb hby d1_33) rfl (tlt hc33_8).2.2.2 k) ?_
          show own_Ends p.tables e below s _ _ _ (s₁.setTop (mkF m 36 #[.val (.int x0_1)] []))
          refine own_step (fun t k => XS.iloadN X0.here hx rfl (hb hby d1_36) rfl k) ?_
          show own_Ends p.tables e below s _ _ _ (s₁.setTop (mkF m 37 #[.val (.int x0_1)] [(.int x0_1)]))
          refine own_step (fun t k => XS.bipush X0.here hx rfl (hb hby d1_37) k) ?_
          show own_Ends p.tables e below s _ _ _ (s₁.setTop (mkF m 39 #[.val (.int x0_1)] [(.int (45 : Int32)), (.int x0_1)]))
          by_cases hc39_9 : x0_1 = (45 : Int32)
          · skip
            refine own_step (fun t k => XS.icmpYes X0.here hx rfl (pc0 := 39) (pc' := 60) rfl (hb hby d1_39) rfl (teq hc39_9).1 (by decide) (by decide) k) ?_
            show own_Ends p.tables e below s _ _ _ (s₁.setTop (mkF m 60 #[.val (.int x0_1)] []))
            refine own_step (fun t k => XS.iconst X0.here hx rfl (hb hby d1_60) k) ?_
            show own_Ends p.tables e below s _ _ _ (s₁.setTop (mkF m 61 #[.val (.int x0_1)] [(.int (1 : Int32))]))
            refine own_step (fun t k => XS.goto X0.here hx rfl (pc0 := 61) (pc' := 65) rfl (hb hby d1_61) (by decide) (by decide) k) ?_
            show own_Ends p.tables e below s _ _ _ (s₁.setTop (mkF m 65 #[.val (.int x0_1)] [(.int (1 : Int32))]))
            exact own_retN X0 hx (t := .boolean) Bd.returns (by simp) (hb hby d1_65) hnl (by rw [e0]; exact ⟨(congrArg (fun z => some (Value.int z)) (Eq.symm (show (own_r1 x0_1) = (1 : Int32) from by unfold own_r1; rw [if_pos hc3_1, if_pos hc15_2, if_neg hc27_3, if_pos hc33_8, if_pos hc39_9]))), N0, rfl⟩) (by decide) (by decide)
          · skip
            refine own_step (fun t k => XS.icmpNo X0.here hx rfl (hb hby d1_39) rfl (feq hc39_9).1 k) ?_
            show own_Ends p.tables e below s _ _ _ (s₁.setTop (mkF m 42 #[.val (.int x0_1)] []))
            refine own_step (fun t k => XS.iloadN X0.here hx rfl (hb hby d1_42) rfl k) ?_
            show own_Ends p.tables e below s _ _ _ (s₁.setTop (mkF m 43 #[.val (.int x0_1)] [(.int x0_1)]))
            refine own_step (fun t k => XS.bipush X0.here hx rfl (hb hby d1_43) k) ?_
            show own_Ends p.tables e below s _ _ _ (s₁.setTop (mkF m 45 #[.val (.int x0_1)] [(.int (46 : Int32)), (.int x0_1)]))
            by_cases hc45_10 : x0_1 = (46 : Int32)
            · skip
              refine own_step (fun t k => XS.icmpYes X0.here hx rfl (pc0 := 45) (pc' := 60) rfl (hb hby d1_45) rfl (teq hc45_10).1 (by decide) (by decide) k) ?_
              show own_Ends p.tables e below s _ _ _ (s₁.setTop (mkF m 60 #[.val (.int x0_1)] []))
              refine own_step (fun t k => XS.iconst X0.here hx rfl (hb hby d1_60) k) ?_
              show own_Ends p.tables e below s _ _ _ (s₁.setTop (mkF m 61 #[.val (.int x0_1)] [(.int (1 : Int32))]))
              refine own_step (fun t k => XS.goto X0.here hx rfl (pc0 := 61) (pc' := 65) rfl (hb hby d1_61) (by decide) (by decide) k) ?_
              show own_Ends p.tables e below s _ _ _ (s₁.setTop (mkF m 65 #[.val (.int x0_1)] [(.int (1 : Int32))]))
              exact own_retN X0 hx (t := .boolean) Bd.returns (by simp) (hb hby d1_65) hnl (by rw [e0]; exact ⟨(congrArg (fun z => some (Value.int z)) (Eq.symm (show (own_r1 x0_1) = (1 : Int32) from by unfold own_r1; rw [if_pos hc3_1, if_pos hc15_2, if_neg hc27_3, if_pos hc33_8, if_neg hc39_9, if_pos hc45_10]))), N0, rfl⟩) (by decide) (by decide)
            · skip
              refine own_step (fun t k => XS.icmpNo X0.here hx rfl (hb hby d1_45) rfl (feq hc45_10).1 k) ?_
              show own_Ends p.tables e below s _ _ _ (s₁.setTop (mkF m 48 #[.val (.int x0_1)] []))
              refine own_step (fun t k => XS.iloadN X0.here hx rfl (hb hby d1_48) rfl k) ?_
              show own_Ends p.tables e below s _ _ _ (s₁.setTop (mkF m 49 #[.val (.int x0_1)] [(.int x0_1)]))
              refine own_step (fun t k => XS.bipush X0.here hx rfl (hb hby d1_49) k) ?_
              show own_Ends p.tables e below s _ _ _ (s₁.setTop (mkF m 51 #[.val (.int x0_1)] [(.int (95 : Int32)), (.int x0_1)]))
              by_cases hc51_11 : x0_1 = (95 : Int32)
              · skip
                refine own_step (fun t k => XS.icmpYes X0.here hx rfl (pc0 := 51) (pc' := 60) rfl (hb hby d1_51) rfl (teq hc51_11).1 (by decide) (by decide) k) ?_
                show own_Ends p.tables e below s _ _ _ (s₁.setTop (mkF m 60 #[.val (.int x0_1)] []))
                refine own_step (fun t k => XS.iconst X0.here hx rfl (hb hby d1_60) k) ?_
                show own_Ends p.tables e below s _ _ _ (s₁.setTop (mkF m 61 #[.val (.int x0_1)] [(.int (1 : Int32))]))
                refine own_step (fun t k => XS.goto X0.here hx rfl (pc0 := 61) (pc' := 65) rfl (hb hby d1_61) (by decide) (by decide) k) ?_
                show own_Ends p.tables e below s _ _ _ (s₁.setTop (mkF m 65 #[.val (.int x0_1)] [(.int (1 : Int32))]))
                exact own_retN X0 hx (t := .boolean) Bd.returns (by simp) (hb hby d1_65) hnl (by rw [e0]; exact ⟨(congrArg (fun z => some (Value.int z)) (Eq.symm (show (own_r1 x0_1) = (1 : Int32) from by unfold own_r1; rw [if_pos hc3_1, if_pos hc15_2, if_neg hc27_3, if_pos hc33_8, if_neg hc39_9, if_neg hc45_10, if_pos hc51_11]))), N0, rfl⟩) (by decide) (by decide)
              · skip
                refine own_step (fun t k => XS.icmpNo X0.here hx rfl (hb hby d1_51) rfl (feq hc51_11).1 k) ?_
                show own_Ends p.tables e below s _ _ _ (s₁.setTop (mkF m 54 #[.val (.int x0_1)] []))
                refine own_step (fun t k => XS.iloadN X0.here hx rfl (hb hby d1_54) rfl k) ?_
                show own_Ends p.tables e below s _ _ _ (s₁.setTop (mkF m 55 #[.val (.int x0_1)] [(.int x0_1)]))
                refine own_step (fun t k => XS.bipush X0.here hx rfl (hb hby d1_55) k) ?_
                show own_Ends p.tables e below s _ _ _ (s₁.setTop (mkF m 57 #[.val (.int x0_1)] [(.int (126 : Int32)), (.int x0_1)]))
                by_cases hc57_12 : x0_1 = (126 : Int32)
                · skip
                  refine own_step (fun t k => XS.icmpNo X0.here hx rfl (hb hby d1_57) rfl (teq hc57_12).2 k) ?_
                  show own_Ends p.tables e below s _ _ _ (s₁.setTop (mkF m 60 #[.val (.int x0_1)] []))
                  refine own_step (fun t k => XS.iconst X0.here hx rfl (hb hby d1_60) k) ?_
                  show own_Ends p.tables e below s _ _ _ (s₁.setTop (mkF m 61 #[.val (.int x0_1)] [(.int (1 : Int32))]))
                  refine own_step (fun t k => XS.goto X0.here hx rfl (pc0 := 61) (pc' := 65) rfl (hb hby d1_61) (by decide) (by decide) k) ?_
                  show own_Ends p.tables e below s _ _ _ (s₁.setTop (mkF m 65 #[.val (.int x0_1)] [(.int (1 : Int32))]))
                  exact own_retN X0 hx (t := .boolean) Bd.returns (by simp) (hb hby d1_65) hnl (by rw [e0]; exact ⟨(congrArg (fun z => some (Value.int z)) (Eq.symm (show (own_r1 x0_1) = (1 : Int32) from by unfold own_r1; rw [if_pos hc3_1, if_pos hc15_2, if_neg hc27_3, if_pos hc33_8, if_neg hc39_9, if_neg hc45_10, if_neg hc51_11, if_pos hc57_12]))), N0, rfl⟩) (by decide) (by decide)
                · skip
                  refine own_step (fun t k => XS.icmpYes X0.here hx rfl (pc0 := 57) (pc' := 64) rfl (hb hby d1_57) rfl (feq hc57_12).2 (by decide) (by decide) k) ?_
                  show own_Ends p.tables e below s _ _ _ (s₁.setTop (mkF m 64 #[.val (.int x0_1)] []))
                  refine own_step (fun t k => XS.iconst X0.here hx rfl (hb hby d1_64) k) ?_
                  show own_Ends p.tables e below s _ _ _ (s₁.setTop (mkF m 65 #[.val (.int x0_1)] [(.int (0 : Int32))]))
                  exact own_retN X0 hx (t := .boolean) Bd.returns (by simp) (hb hby d1_65) hnl (by rw [e0]; exact ⟨(congrArg (fun z => some (Value.int z)) (Eq.symm (show (own_r1 x0_1) = (0 : Int32) from by unfold own_r1; rw [if_pos hc3_1, if_pos hc15_2, if_neg hc27_3, if_pos hc33_8, if_neg hc39_9, if_neg hc45_10, if_neg hc51_11, if_neg hc57_12]))), N0, rfl⟩) (by decide) (by decide)
        · skip
          refine own_step (fun t k => XS.icmpYes X0.here hx rfl (pc0 := 33) (pc' := 60) rfl (hb hby d1_33) rfl (flt hc33_8).2.2.2 (by decide) (by decide) k) ?_
          show own_Ends p.tables e below s _ _ _ (s₁.setTop (mkF m 60 #[.val (.int x0_1)] []))
          refine own_step (fun t k => XS.iconst X0.here hx rfl (hb hby d1_60) k) ?_
          show own_Ends p.tables e below s _ _ _ (s₁.setTop (mkF m 61 #[.val (.int x0_1)] [(.int (1 : Int32))]))
          refine own_step (fun t k => XS.goto X0.here hx rfl (pc0 := 61) (pc' := 65) rfl (hb hby d1_61) (by decide) (by decide) k) ?_
          show own_Ends p.tables e below s _ _ _ (s₁.setTop (mkF m 65 #[.val (.int x0_1)] [(.int (1 : Int32))]))
          exact own_retN X0 hx (t := .boolean) Bd.returns (by simp) (hb hby d1_65) hnl (by rw [e0]; exact ⟨(congrArg (fun z => some (Value.int z)) (Eq.symm (show (own_r1 x0_1) = (1 : Int32) from by unfold own_r1; rw [if_pos hc3_1, if_pos hc15_2, if_neg hc27_3, if_neg hc33_8]))), N0, rfl⟩) (by decide) (by decide)
    · skip
      refine own_step (fun t k => XS.icmpNo X0.here hx rfl (hb hby d1_15) rfl (flt hc15_2).1 k) ?_
      show own_Ends p.tables e below s _ _ _ (s₁.setTop (mkF m 18 #[.val (.int x0_1)] []))
      refine own_step (fun t k => XS.iloadN X0.here hx rfl (hb hby d1_18) rfl k) ?_
      show own_Ends p.tables e below s _ _ _ (s₁.setTop (mkF m 19 #[.val (.int x0_1)] [(.int x0_1)]))
      refine own_step (fun t k => XS.bipush X0.here hx rfl (hb hby d1_19) k) ?_
      show own_Ends p.tables e below s _ _ _ (s₁.setTop (mkF m 21 #[.val (.int x0_1)] [(.int (122 : Int32)), (.int x0_1)]))
      by_cases hc21_13 : (122 : Int32) < x0_1
      · skip
        refine own_step (fun t k => XS.icmpNo X0.here hx rfl (hb hby d1_21) rfl (tlt hc21_13).2.2.2 k) ?_
        show own_Ends p.tables e below s _ _ _ (s₁.setTop (mkF m 24 #[.val (.int x0_1)] []))
        refine own_step (fun t k => XS.iloadN X0.here hx rfl (hb hby d1_24) rfl k) ?_
        show own_Ends p.tables e below s _ _ _ (s₁.setTop (mkF m 25 #[.val (.int x0_1)] [(.int x0_1)]))
        refine own_step (fun t k => XS.bipush X0.here hx rfl (hb hby d1_25) k) ?_
        show own_Ends p.tables e below s _ _ _ (s₁.setTop (mkF m 27 #[.val (.int x0_1)] [(.int (48 : Int32)), (.int x0_1)]))
        by_cases hc27_14 : x0_1 < (48 : Int32)
        · skip
          refine own_step (fun t k => XS.icmpYes X0.here hx rfl (pc0 := 27) (pc' := 36) rfl (hb hby d1_27) rfl (tlt hc27_14).1 (by decide) (by decide) k) ?_
          show own_Ends p.tables e below s _ _ _ (s₁.setTop (mkF m 36 #[.val (.int x0_1)] []))
          refine own_step (fun t k => XS.iloadN X0.here hx rfl (hb hby d1_36) rfl k) ?_
          show own_Ends p.tables e below s _ _ _ (s₁.setTop (mkF m 37 #[.val (.int x0_1)] [(.int x0_1)]))
          refine own_step (fun t k => XS.bipush X0.here hx rfl (hb hby d1_37) k) ?_
          show own_Ends p.tables e below s _ _ _ (s₁.setTop (mkF m 39 #[.val (.int x0_1)] [(.int (45 : Int32)), (.int x0_1)]))
          by_cases hc39_15 : x0_1 = (45 : Int32)
          · skip
            refine own_step (fun t k => XS.icmpYes X0.here hx rfl (pc0 := 39) (pc' := 60) rfl (hb hby d1_39) rfl (teq hc39_15).1 (by decide) (by decide) k) ?_
            show own_Ends p.tables e below s _ _ _ (s₁.setTop (mkF m 60 #[.val (.int x0_1)] []))
            refine own_step (fun t k => XS.iconst X0.here hx rfl (hb hby d1_60) k) ?_
            show own_Ends p.tables e below s _ _ _ (s₁.setTop (mkF m 61 #[.val (.int x0_1)] [(.int (1 : Int32))]))
            refine own_step (fun t k => XS.goto X0.here hx rfl (pc0 := 61) (pc' := 65) rfl (hb hby d1_61) (by decide) (by decide) k) ?_
            show own_Ends p.tables e below s _ _ _ (s₁.setTop (mkF m 65 #[.val (.int x0_1)] [(.int (1 : Int32))]))
            exact own_retN X0 hx (t := .boolean) Bd.returns (by simp) (hb hby d1_65) hnl (by rw [e0]; exact ⟨(congrArg (fun z => some (Value.int z)) (Eq.symm (show (own_r1 x0_1) = (1 : Int32) from by unfold own_r1; rw [if_pos hc3_1, if_neg hc15_2, if_pos hc21_13, if_pos hc27_14, if_pos hc39_15]))), N0, rfl⟩) (by decide) (by decide)
          · skip
            refine own_step (fun t k => XS.icmpNo X0.here hx rfl (hb hby d1_39) rfl (feq hc39_15).1 k) ?_
            show own_Ends p.tables e below s _ _ _ (s₁.setTop (mkF m 42 #[.val (.int x0_1)] []))
            refine own_step (fun t k => XS.iloadN X0.here hx rfl (hb hby d1_42) rfl k) ?_
            show own_Ends p.tables e below s _ _ _ (s₁.setTop (mkF m 43 #[.val (.int x0_1)] [(.int x0_1)]))
            refine own_step (fun t k => XS.bipush X0.here hx rfl (hb hby d1_43) k) ?_
            show own_Ends p.tables e below s _ _ _ (s₁.setTop (mkF m 45 #[.val (.int x0_1)] [(.int (46 : Int32)), (.int x0_1)]))
            by_cases hc45_16 : x0_1 = (46 : Int32)
            · skip
              refine own_step (fun t k => XS.icmpYes X0.here hx rfl (pc0 := 45) (pc' := 60) rfl (hb hby d1_45) rfl (teq hc45_16).1 (by decide) (by decide) k) ?_
              show own_Ends p.tables e below s _ _ _ (s₁.setTop (mkF m 60 #[.val (.int x0_1)] []))
              refine own_step (fun t k => XS.iconst X0.here hx rfl (hb hby d1_60) k) ?_
              show own_Ends p.tables e below s _ _ _ (s₁.setTop (mkF m 61 #[.val (.int x0_1)] [(.int (1 : Int32))]))
              refine own_step (fun t k => XS.goto X0.here hx rfl (pc0 := 61) (pc' := 65) rfl (hb hby d1_61) (by decide) (by decide) k) ?_
              show own_Ends p.tables e below s _ _ _ (s₁.setTop (mkF m 65 #[.val (.int x0_1)] [(.int (1 : Int32))]))
              exact own_retN X0 hx (t := .boolean) Bd.returns (by simp) (hb hby d1_65) hnl (by rw [e0]; exact ⟨(congrArg (fun z => some (Value.int z)) (Eq.symm (show (own_r1 x0_1) = (1 : Int32) from by unfold own_r1; rw [if_pos hc3_1, if_neg hc15_2, if_pos hc21_13, if_pos hc27_14, if_neg hc39_15, if_pos hc45_16]))), N0, rfl⟩) (by decide) (by decide)
            · skip
              refine own_step (fun t k => XS.icmpNo X0.here hx rfl (hb hby d1_45) rfl (feq hc45_16).1 k) ?_
              show own_Ends p.tables e below s _ _ _ (s₁.setTop (mkF m 48 #[.val (.int x0_1)] []))
              refine own_step (fun t k => XS.iloadN X0.here hx rfl (hb hby d1_48) rfl k) ?_
              show own_Ends p.tables e below s _ _ _ (s₁.setTop (mkF m 49 #[.val (.int x0_1)] [(.int x0_1)]))
              refine own_step (fun t k => XS.bipush X0.here hx rfl (hb hby d1_49) k) ?_
              show own_Ends p.tables e below s _ _ _ (s₁.setTop (mkF m 51 #[.val (.int x0_1)] [(.int (95 : Int32)), (.int x0_1)]))
              by_cases hc51_17 : x0_1 = (95 : Int32)
              · skip
                refine own_step (fun t k => XS.icmpYes X0.here hx rfl (pc0 := 51) (pc' := 60) rfl (hb hby d1_51) rfl (teq hc51_17).1 (by decide) (by decide) k) ?_
                show own_Ends p.tables e below s _ _ _ (s₁.setTop (mkF m 60 #[.val (.int x0_1)] []))
                refine own_step (fun t k => XS.iconst X0.here hx rfl (hb hby d1_60) k) ?_
                show own_Ends p.tables e below s _ _ _ (s₁.setTop (mkF m 61 #[.val (.int x0_1)] [(.int (1 : Int32))]))
                refine own_step (fun t k => XS.goto X0.here hx rfl (pc0 := 61) (pc' := 65) rfl (hb hby d1_61) (by decide) (by decide) k) ?_
                show own_Ends p.tables e below s _ _ _ (s₁.setTop (mkF m 65 #[.val (.int x0_1)] [(.int (1 : Int32))]))
                exact own_retN X0 hx (t := .boolean) Bd.returns (by simp) (hb hby d1_65) hnl (by rw [e0]; exact ⟨(congrArg (fun z => some (Value.int z)) (Eq.symm (show (own_r1 x0_1) = (1 : Int32) from by unfold own_r1; rw [if_pos hc3_1, if_neg hc15_2, if_pos hc21_13, if_pos hc27_14, if_neg hc39_15, if_neg hc45_16, if_pos hc51_17]))), N0, rfl⟩) (by decide) (by decide)
              · skip
                refine own_step (fun t k => XS.icmpNo X0.here hx rfl (hb hby d1_51) rfl (feq hc51_17).1 k) ?_
                show own_Ends p.tables e below s _ _ _ (s₁.setTop (mkF m 54 #[.val (.int x0_1)] []))
                refine own_step (fun t k => XS.iloadN X0.here hx rfl (hb hby d1_54) rfl k) ?_
                show own_Ends p.tables e below s _ _ _ (s₁.setTop (mkF m 55 #[.val (.int x0_1)] [(.int x0_1)]))
                refine own_step (fun t k => XS.bipush X0.here hx rfl (hb hby d1_55) k) ?_
                show own_Ends p.tables e below s _ _ _ (s₁.setTop (mkF m 57 #[.val (.int x0_1)] [(.int (126 : Int32)), (.int x0_1)]))
                by_cases hc57_18 : x0_1 = (126 : Int32)
                · skip
                  refine own_step (fun t k => XS.icmpNo X0.here hx rfl (hb hby d1_57) rfl (teq hc57_18).2 k) ?_
                  show own_Ends p.tables e below s _ _ _ (s₁.setTop (mkF m 60 #[.val (.int x0_1)] []))
                  refine own_step (fun t k => XS.iconst X0.here hx rfl (hb hby d1_60) k) ?_
                  show own_Ends p.tables e below s _ _ _ (s₁.setTop (mkF m 61 #[.val (.int x0_1)] [(.int (1 : Int32))]))
                  refine own_step (fun t k => XS.goto X0.here hx rfl (pc0 := 61) (pc' := 65) rfl (hb hby d1_61) (by decide) (by decide) k) ?_
                  show own_Ends p.tables e below s _ _ _ (s₁.setTop (mkF m 65 #[.val (.int x0_1)] [(.int (1 : Int32))]))
                  exact own_retN X0 hx (t := .boolean) Bd.returns (by simp) (hb hby d1_65) hnl (by rw [e0]; exact ⟨(congrArg (fun z => some (Value.int z)) (Eq.symm (show (own_r1 x0_1) = (1 : Int32) from by unfold own_r1; rw [if_pos hc3_1, if_neg hc15_2, if_pos hc21_13, if_pos hc27_14, if_neg hc39_15, if_neg hc45_16, if_neg hc51_17, if_pos hc57_18]))), N0, rfl⟩) (by decide) (by decide)
                · skip
                  refine own_step (fun t k => XS.icmpYes X0.here hx rfl (pc0 := 57) (pc' := 64) rfl (hb hby d1_57) rfl (feq hc57_18).2 (by decide) (by decide) k) ?_
                  show own_Ends p.tables e below s _ _ _ (s₁.setTop (mkF m 64 #[.val (.int x0_1)] []))
                  refine own_step (fun t k => XS.iconst X0.here hx rfl (hb hby d1_64) k) ?_
                  show own_Ends p.tables e below s _ _ _ (s₁.setTop (mkF m 65 #[.val (.int x0_1)] [(.int (0 : Int32))]))
                  exact own_retN X0 hx (t := .boolean) Bd.returns (by simp) (hb hby d1_65) hnl (by rw [e0]; exact ⟨(congrArg (fun z => some (Value.int z)) (Eq.symm (show (own_r1 x0_1) = (0 : Int32) from by unfold own_r1; rw [if_pos hc3_1, if_neg hc15_2, if_pos hc21_13, if_pos hc27_14, if_neg hc39_15, if_neg hc45_16, if_neg hc51_17, if_neg hc57_18]))), N0, rfl⟩) (by decide) (by decide)
        · skip
          refine own_step (fun t k => XS.icmpNo X0.here hx rfl (hb hby d1_27) rfl (flt hc27_14).1 k) ?_
          show own_Ends p.tables e below s _ _ _ (s₁.setTop (mkF m 30 #[.val (.int x0_1)] []))
          refine own_step (fun t k => XS.iloadN X0.here hx rfl (hb hby d1_30) rfl k) ?_
          show own_Ends p.tables e below s _ _ _ (s₁.setTop (mkF m 31 #[.val (.int x0_1)] [(.int x0_1)]))
          refine own_step (fun t k => XS.bipush X0.here hx rfl (hb hby d1_31) k) ?_
          show own_Ends p.tables e below s _ _ _ (s₁.setTop (mkF m 33 #[.val (.int x0_1)] [(.int (57 : Int32)), (.int x0_1)]))
          by_cases hc33_19 : (57 : Int32) < x0_1
          · skip
            refine own_step (fun t k => XS.icmpNo X0.here hx rfl (hb hby d1_33) rfl (tlt hc33_19).2.2.2 k) ?_
            show own_Ends p.tables e below s _ _ _ (s₁.setTop (mkF m 36 #[.val (.int x0_1)] []))
            refine own_step (fun t k => XS.iloadN X0.here hx rfl (hb hby d1_36) rfl k) ?_
            show own_Ends p.tables e below s _ _ _ (s₁.setTop (mkF m 37 #[.val (.int x0_1)] [(.int x0_1)]))
            refine own_step (fun t k => XS.bipush X0.here hx rfl (hb hby d1_37) k) ?_
            show own_Ends p.tables e below s _ _ _ (s₁.setTop (mkF m 39 #[.val (.int x0_1)] [(.int (45 : Int32)), (.int x0_1)]))
            by_cases hc39_20 : x0_1 = (45 : Int32)
            · skip
              refine own_step (fun t k => XS.icmpYes X0.here hx rfl (pc0 := 39) (pc' := 60) rfl (hb hby d1_39) rfl (teq hc39_20).1 (by decide) (by decide) k) ?_
              show own_Ends p.tables e below s _ _ _ (s₁.setTop (mkF m 60 #[.val (.int x0_1)] []))
              refine own_step (fun t k => XS.iconst X0.here hx rfl (hb hby d1_60) k) ?_
              show own_Ends p.tables e below s _ _ _ (s₁.setTop (mkF m 61 #[.val (.int x0_1)] [(.int (1 : Int32))]))
              refine own_step (fun t k => XS.goto X0.here hx rfl (pc0 := 61) (pc' := 65) rfl (hb hby d1_61) (by decide) (by decide) k) ?_
              show own_Ends p.tables e below s _ _ _ (s₁.setTop (mkF m 65 #[.val (.int x0_1)] [(.int (1 : Int32))]))
              exact own_retN X0 hx (t := .boolean) Bd.returns (by simp) (hb hby d1_65) hnl (by rw [e0]; exact ⟨(congrArg (fun z => some (Value.int z)) (Eq.symm (show (own_r1 x0_1) = (1 : Int32) from by unfold own_r1; rw [if_pos hc3_1, if_neg hc15_2, if_pos hc21_13, if_neg hc27_14, if_pos hc33_19, if_pos hc39_20]))), N0, rfl⟩) (by decide) (by decide)
            · skip
              refine own_step (fun t k => XS.icmpNo X0.here hx rfl (hb hby d1_39) rfl (feq hc39_20).1 k) ?_
              show own_Ends p.tables e below s _ _ _ (s₁.setTop (mkF m 42 #[.val (.int x0_1)] []))
              refine own_step (fun t k => XS.iloadN X0.here hx rfl (hb hby d1_42) rfl k) ?_
              show own_Ends p.tables e below s _ _ _ (s₁.setTop (mkF m 43 #[.val (.int x0_1)] [(.int x0_1)]))
              refine own_step (fun t k => XS.bipush X0.here hx rfl (hb hby d1_43) k) ?_
              show own_Ends p.tables e below s _ _ _ (s₁.setTop (mkF m 45 #[.val (.int x0_1)] [(.int (46 : Int32)), (.int x0_1)]))
              by_cases hc45_21 : x0_1 = (46 : Int32)
              · skip
                refine own_step (fun t k => XS.icmpYes X0.here hx rfl (pc0 := 45) (pc' := 60) rfl (hb hby d1_45) rfl (teq hc45_21).1 (by decide) (by decide) k) ?_
                show own_Ends p.tables e below s _ _ _ (s₁.setTop (mkF m 60 #[.val (.int x0_1)] []))
                refine own_step (fun t k => XS.iconst X0.here hx rfl (hb hby d1_60) k) ?_
                show own_Ends p.tables e below s _ _ _ (s₁.setTop (mkF m 61 #[.val (.int x0_1)] [(.int (1 : Int32))]))
                refine own_step (fun t k => XS.goto X0.here hx rfl (pc0 := 61) (pc' := 65) rfl (hb hby d1_61) (by decide) (by decide) k) ?_
                show own_Ends p.tables e below s _ _ _ (s₁.setTop (mkF m 65 #[.val (.int x0_1)] [(.int (1 : Int32))]))
                exact own_retN X0 hx (t := .boolean) Bd.returns (by simp) (hb hby d1_65) hnl (by rw [e0]; exact ⟨(congrArg (fun z => some (Value.int z)) (Eq.symm (show (own_r1 x0_1) = (1 : Int32) from by unfold own_r1; rw [if_pos hc3_1, if_neg hc15_2, if_pos hc21_13, if_neg hc27_14, if_pos hc33_19, if_neg hc39_20, if_pos hc45_21]))), N0, rfl⟩) (by decide) (by decide)
              · skip
                refine own_step (fun t k => XS.icmpNo X0.here hx rfl (hb hby d1_45) rfl (feq hc45_21).1 k) ?_
                show own_Ends p.tables e below s _ _ _ (s₁.setTop (mkF m 48 #[.val (.int x0_1)] []))
                refine own_step (fun t k => XS.iloadN X0.here hx rfl (hb hby d1_48) rfl k) ?_
                show own_Ends p.tables e below s _ _ _ (s₁.setTop (mkF m 49 #[.val (.int x0_1)] [(.int x0_1)]))
                refine own_step (fun t k => XS.bipush X0.here hx rfl (hb hby d1_49) k) ?_
                show own_Ends p.tables e below s _ _ _ (s₁.setTop (mkF m 51 #[.val (.int x0_1)] [(.int (95 : Int32)), (.int x0_1)]))
                by_cases hc51_22 : x0_1 = (95 : Int32)
                · skip
                  refine own_step (fun t k => XS.icmpYes X0.here hx rfl (pc0 := 51) (pc' := 60) rfl (hb hby d1_51) rfl (teq hc51_22).1 (by decide) (by decide) k) ?_
                  show own_Ends p.tables e below s _ _ _ (s₁.setTop (mkF m 60 #[.val (.int x0_1)] []))
                  refine own_step (fun t k => XS.iconst X0.here hx rfl (hb hby d1_60) k) ?_
                  show own_Ends p.tables e below s _ _ _ (s₁.setTop (mkF m 61 #[.val (.int x0_1)] [(.int (1 : Int32))]))
                  refine own_step (fun t k => XS.goto X0.here hx rfl (pc0 := 61) (pc' := 65) rfl (hb hby d1_61) (by decide) (by decide) k) ?_
                  show own_Ends p.tables e below s _ _ _ (s₁.setTop (mkF m 65 #[.val (.int x0_1)] [(.int (1 : Int32))]))
                  exact own_retN X0 hx (t := .boolean) Bd.returns (by simp) (hb hby d1_65) hnl (by rw [e0]; exact ⟨(congrArg (fun z => some (Value.int z)) (Eq.symm (show (own_r1 x0_1) = (1 : Int32) from by unfold own_r1; rw [if_pos hc3_1, if_neg hc15_2, if_pos hc21_13, if_neg hc27_14, if_pos hc33_19, if_neg hc39_20, if_neg hc45_21, if_pos hc51_22]))), N0, rfl⟩) (by decide) (by decide)
                · skip
                  refine own_step (fun t k => XS.icmpNo X0.here hx rfl (hb hby d1_51) rfl (feq hc51_22).1 k) ?_
                  show own_Ends p.tables e below s _ _ _ (s₁.setTop (mkF m 54 #[.val (.int x0_1)] []))
                  refine own_step (fun t k => XS.iloadN X0.here hx rfl (hb hby d1_54) rfl k) ?_
                  show own_Ends p.tables e below s _ _ _ (s₁.setTop (mkF m 55 #[.val (.int x0_1)] [(.int x0_1)]))
                  refine own_step (fun t k => XS.bipush X0.here hx rfl (hb hby d1_55) k) ?_
                  show own_Ends p.tables e below s _ _ _ (s₁.setTop (mkF m 57 #[.val (.int x0_1)] [(.int (126 : Int32)), (.int x0_1)]))
                  by_cases hc57_23 : x0_1 = (126 : Int32)
                  · skip
                    refine own_step (fun t k => XS.icmpNo X0.here hx rfl (hb hby d1_57) rfl (teq hc57_23).2 k) ?_
                    show own_Ends p.tables e below s _ _ _ (s₁.setTop (mkF m 60 #[.val (.int x0_1)] []))
                    refine own_step (fun t k => XS.iconst X0.here hx rfl (hb hby d1_60) k) ?_
                    show own_Ends p.tables e below s _ _ _ (s₁.setTop (mkF m 61 #[.val (.int x0_1)] [(.int (1 : Int32))]))
                    refine own_step (fun t k => XS.goto X0.here hx rfl (pc0 := 61) (pc' := 65) rfl (hb hby d1_61) (by decide) (by decide) k) ?_
                    show own_Ends p.tables e below s _ _ _ (s₁.setTop (mkF m 65 #[.val (.int x0_1)] [(.int (1 : Int32))]))
                    exact own_retN X0 hx (t := .boolean) Bd.returns (by simp) (hb hby d1_65) hnl (by rw [e0]; exact ⟨(congrArg (fun z => some (Value.int z)) (Eq.symm (show (own_r1 x0_1) = (1 : Int32) from by unfold own_r1; rw [if_pos hc3_1, if_neg hc15_2, if_pos hc21_13, if_neg hc27_14, if_pos hc33_19, if_neg hc39_20, if_neg hc45_21, if_neg hc51_22, if_pos hc57_23]))), N0, rfl⟩) (by decide) (by decide)
                  · skip
                    refine own_step (fun t k => XS.icmpYes X0.here hx rfl (pc0 := 57) (pc' := 64) rfl (hb hby d1_57) rfl (feq hc57_23).2 (by decide) (by decide) k) ?_
                    show own_Ends p.tables e below s _ _ _ (s₁.setTop (mkF m 64 #[.val (.int x0_1)] []))
                    refine own_step (fun t k => XS.iconst X0.here hx rfl (hb hby d1_64) k) ?_
                    show own_Ends p.tables e below s _ _ _ (s₁.setTop (mkF m 65 #[.val (.int x0_1)] [(.int (0 : Int32))]))
                    exact own_retN X0 hx (t := .boolean) Bd.returns (by simp) (hb hby d1_65) hnl (by rw [e0]; exact ⟨(congrArg (fun z => some (Value.int z)) (Eq.symm (show (own_r1 x0_1) = (0 : Int32) from by unfold own_r1; rw [if_pos hc3_1, if_neg hc15_2, if_pos hc21_13, if_neg hc27_14, if_pos hc33_19, if_neg hc39_20, if_neg hc45_21, if_neg hc51_22, if_neg hc57_23]))), N0, rfl⟩) (by decide) (by decide)
          · skip
            refine own_step (fun t k => XS.icmpYes X0.here hx rfl (pc0 := 33) (pc' := 60) rfl (hb hby d1_33) rfl (flt hc33_19).2.2.2 (by decide) (by decide) k) ?_
            show own_Ends p.tables e below s _ _ _ (s₁.setTop (mkF m 60 #[.val (.int x0_1)] []))
            refine own_step (fun t k => XS.iconst X0.here hx rfl (hb hby d1_60) k) ?_
            show own_Ends p.tables e below s _ _ _ (s₁.setTop (mkF m 61 #[.val (.int x0_1)] [(.int (1 : Int32))]))
            refine own_step (fun t k => XS.goto X0.here hx rfl (pc0 := 61) (pc' := 65) rfl (hb hby d1_61) (by decide) (by decide) k) ?_
            show own_Ends p.tables e below s _ _ _ (s₁.setTop (mkF m 65 #[.val (.int x0_1)] [(.int (1 : Int32))]))
            exact own_retN X0 hx (t := .boolean) Bd.returns (by simp) (hb hby d1_65) hnl (by rw [e0]; exact ⟨(congrArg (fun z => some (Value.int z)) (Eq.symm (show (own_r1 x0_1) = (1 : Int32) from by unfold own_r1; rw [if_pos hc3_1, if_neg hc15_2, if_pos hc21_13, if_neg hc27_14, if_neg hc33_19]))), N0, rfl⟩) (by decide) (by decide)
      · skip
        refine own_step (fun t k => XS.icmpYes X0.here hx rfl (pc0 := 21) (pc' := 60) rfl (hb hby d1_21) rfl (flt hc21_13).2.2.2 (by decide) (by decide) k) ?_
        show own_Ends p.tables e below s _ _ _ (s₁.setTop (mkF m 60 #[.val (.int x0_1)] []))
        refine own_step (fun t k => XS.iconst X0.here hx rfl (hb hby d1_60) k) ?_
        show own_Ends p.tables e below s _ _ _ (s₁.setTop (mkF m 61 #[.val (.int x0_1)] [(.int (1 : Int32))]))
        refine own_step (fun t k => XS.goto X0.here hx rfl (pc0 := 61) (pc' := 65) rfl (hb hby d1_61) (by decide) (by decide) k) ?_
        show own_Ends p.tables e below s _ _ _ (s₁.setTop (mkF m 65 #[.val (.int x0_1)] [(.int (1 : Int32))]))
        exact own_retN X0 hx (t := .boolean) Bd.returns (by simp) (hb hby d1_65) hnl (by rw [e0]; exact ⟨(congrArg (fun z => some (Value.int z)) (Eq.symm (show (own_r1 x0_1) = (1 : Int32) from by unfold own_r1; rw [if_pos hc3_1, if_neg hc15_2, if_neg hc21_13]))), N0, rfl⟩) (by decide) (by decide)
  · skip
    refine own_step (fun t k => XS.icmpNo X0.here hx rfl (hb hby d1_3) rfl (flt hc3_1).1 k) ?_
    show own_Ends p.tables e below s _ _ _ (s₁.setTop (mkF m 6 #[.val (.int x0_1)] []))
    refine own_step (fun t k => XS.iloadN X0.here hx rfl (hb hby d1_6) rfl k) ?_
    show own_Ends p.tables e below s _ _ _ (s₁.setTop (mkF m 7 #[.val (.int x0_1)] [(.int x0_1)]))
    refine own_step (fun t k => XS.bipush X0.here hx rfl (hb hby d1_7) k) ?_
    show own_Ends p.tables e below s _ _ _ (s₁.setTop (mkF m 9 #[.val (.int x0_1)] [(.int (90 : Int32)), (.int x0_1)]))
    by_cases hc9_24 : (90 : Int32) < x0_1
    · skip
      refine own_step (fun t k => XS.icmpNo X0.here hx rfl (hb hby d1_9) rfl (tlt hc9_24).2.2.2 k) ?_
      show own_Ends p.tables e below s _ _ _ (s₁.setTop (mkF m 12 #[.val (.int x0_1)] []))
      refine own_step (fun t k => XS.iloadN X0.here hx rfl (hb hby d1_12) rfl k) ?_
      show own_Ends p.tables e below s _ _ _ (s₁.setTop (mkF m 13 #[.val (.int x0_1)] [(.int x0_1)]))
      refine own_step (fun t k => XS.bipush X0.here hx rfl (hb hby d1_13) k) ?_
      show own_Ends p.tables e below s _ _ _ (s₁.setTop (mkF m 15 #[.val (.int x0_1)] [(.int (97 : Int32)), (.int x0_1)]))
      by_cases hc15_25 : x0_1 < (97 : Int32)
      · skip
        refine own_step (fun t k => XS.icmpYes X0.here hx rfl (pc0 := 15) (pc' := 24) rfl (hb hby d1_15) rfl (tlt hc15_25).1 (by decide) (by decide) k) ?_
        show own_Ends p.tables e below s _ _ _ (s₁.setTop (mkF m 24 #[.val (.int x0_1)] []))
        refine own_step (fun t k => XS.iloadN X0.here hx rfl (hb hby d1_24) rfl k) ?_
        show own_Ends p.tables e below s _ _ _ (s₁.setTop (mkF m 25 #[.val (.int x0_1)] [(.int x0_1)]))
        refine own_step (fun t k => XS.bipush X0.here hx rfl (hb hby d1_25) k) ?_
        show own_Ends p.tables e below s _ _ _ (s₁.setTop (mkF m 27 #[.val (.int x0_1)] [(.int (48 : Int32)), (.int x0_1)]))
        by_cases hc27_26 : x0_1 < (48 : Int32)
        · skip
          refine own_step (fun t k => XS.icmpYes X0.here hx rfl (pc0 := 27) (pc' := 36) rfl (hb hby d1_27) rfl (tlt hc27_26).1 (by decide) (by decide) k) ?_
          show own_Ends p.tables e below s _ _ _ (s₁.setTop (mkF m 36 #[.val (.int x0_1)] []))
          refine own_step (fun t k => XS.iloadN X0.here hx rfl (hb hby d1_36) rfl k) ?_
          show own_Ends p.tables e below s _ _ _ (s₁.setTop (mkF m 37 #[.val (.int x0_1)] [(.int x0_1)]))
          refine own_step (fun t k => XS.bipush X0.here hx rfl (hb hby d1_37) k) ?_
          show own_Ends p.tables e below s _ _ _ (s₁.setTop (mkF m 39 #[.val (.int x0_1)] [(.int (45 : Int32)), (.int x0_1)]))
          by_cases hc39_27 : x0_1 = (45 : Int32)
          · skip
            refine own_step (fun t k => XS.icmpYes X0.here hx rfl (pc0 := 39) (pc' := 60) rfl (hb hby d1_39) rfl (teq hc39_27).1 (by decide) (by decide) k) ?_
            show own_Ends p.tables e below s _ _ _ (s₁.setTop (mkF m 60 #[.val (.int x0_1)] []))
            refine own_step (fun t k => XS.iconst X0.here hx rfl (hb hby d1_60) k) ?_
            show own_Ends p.tables e below s _ _ _ (s₁.setTop (mkF m 61 #[.val (.int x0_1)] [(.int (1 : Int32))]))
            refine own_step (fun t k => XS.goto X0.here hx rfl (pc0 := 61) (pc' := 65) rfl (hb hby d1_61) (by decide) (by decide) k) ?_
            show own_Ends p.tables e below s _ _ _ (s₁.setTop (mkF m 65 #[.val (.int x0_1)] [(.int (1 : Int32))]))
            exact own_retN X0 hx (t := .boolean) Bd.returns (by simp) (hb hby d1_65) hnl (by rw [e0]; exact ⟨(congrArg (fun z => some (Value.int z)) (Eq.symm (show (own_r1 x0_1) = (1 : Int32) from by unfold own_r1; rw [if_neg hc3_1, if_pos hc9_24, if_pos hc15_25, if_pos hc27_26, if_pos hc39_27]))), N0, rfl⟩) (by decide) (by decide)
          · skip
            refine own_step (fun t k => XS.icmpNo X0.here hx rfl (hb hby d1_39) rfl (feq hc39_27).1 k) ?_
            show own_Ends p.tables e below s _ _ _ (s₁.setTop (mkF m 42 #[.val (.int x0_1)] []))
            refine own_step (fun t k => XS.iloadN X0.here hx rfl (hb hby d1_42) rfl k) ?_
            show own_Ends p.tables e below s _ _ _ (s₁.setTop (mkF m 43 #[.val (.int x0_1)] [(.int x0_1)]))
            refine own_step (fun t k => XS.bipush X0.here hx rfl (hb hby d1_43) k) ?_
            show own_Ends p.tables e below s _ _ _ (s₁.setTop (mkF m 45 #[.val (.int x0_1)] [(.int (46 : Int32)), (.int x0_1)]))
            by_cases hc45_28 : x0_1 = (46 : Int32)
            · skip
              refine own_step (fun t k => XS.icmpYes X0.here hx rfl (pc0 := 45) (pc' := 60) rfl (hb hby d1_45) rfl (teq hc45_28).1 (by decide) (by decide) k) ?_
              show own_Ends p.tables e below s _ _ _ (s₁.setTop (mkF m 60 #[.val (.int x0_1)] []))
              refine own_step (fun t k => XS.iconst X0.here hx rfl (hb hby d1_60) k) ?_
              show own_Ends p.tables e below s _ _ _ (s₁.setTop (mkF m 61 #[.val (.int x0_1)] [(.int (1 : Int32))]))
              refine own_step (fun t k => XS.goto X0.here hx rfl (pc0 := 61) (pc' := 65) rfl (hb hby d1_61) (by decide) (by decide) k) ?_
              show own_Ends p.tables e below s _ _ _ (s₁.setTop (mkF m 65 #[.val (.int x0_1)] [(.int (1 : Int32))]))
              exact own_retN X0 hx (t := .boolean) Bd.returns (by simp) (hb hby d1_65) hnl (by rw [e0]; exact ⟨(congrArg (fun z => some (Value.int z)) (Eq.symm (show (own_r1 x0_1) = (1 : Int32) from by unfold own_r1; rw [if_neg hc3_1, if_pos hc9_24, if_pos hc15_25, if_pos hc27_26, if_neg hc39_27, if_pos hc45_28]))), N0, rfl⟩) (by decide) (by decide)
            · skip
              refine own_step (fun t k => XS.icmpNo X0.here hx rfl (hb hby d1_45) rfl (feq hc45_28).1 k) ?_
              show own_Ends p.tables e below s _ _ _ (s₁.setTop (mkF m 48 #[.val (.int x0_1)] []))
              refine own_step (fun t k => XS.iloadN X0.here hx rfl (hb hby d1_48) rfl k) ?_
              show own_Ends p.tables e below s _ _ _ (s₁.setTop (mkF m 49 #[.val (.int x0_1)] [(.int x0_1)]))
              refine own_step (fun t k => XS.bipush X0.here hx rfl (hb hby d1_49) k) ?_
              show own_Ends p.tables e below s _ _ _ (s₁.setTop (mkF m 51 #[.val (.int x0_1)] [(.int (95 : Int32)), (.int x0_1)]))
              by_cases hc51_29 : x0_1 = (95 : Int32)
              · skip
                refine own_step (fun t k => XS.icmpYes X0.here hx rfl (pc0 := 51) (pc' := 60) rfl (hb hby d1_51) rfl (teq hc51_29).1 (by decide) (by decide) k) ?_
                show own_Ends p.tables e below s _ _ _ (s₁.setTop (mkF m 60 #[.val (.int x0_1)] []))
                refine own_step (fun t k => XS.iconst X0.here hx rfl (hb hby d1_60) k) ?_
                show own_Ends p.tables e below s _ _ _ (s₁.setTop (mkF m 61 #[.val (.int x0_1)] [(.int (1 : Int32))]))
                refine own_step (fun t k => XS.goto X0.here hx rfl (pc0 := 61) (pc' := 65) rfl (hb hby d1_61) (by decide) (by decide) k) ?_
                show own_Ends p.tables e below s _ _ _ (s₁.setTop (mkF m 65 #[.val (.int x0_1)] [(.int (1 : Int32))]))
                exact own_retN X0 hx (t := .boolean) Bd.returns (by simp) (hb hby d1_65) hnl (by rw [e0]; exact ⟨(congrArg (fun z => some (Value.int z)) (Eq.symm (show (own_r1 x0_1) = (1 : Int32) from by unfold own_r1; rw [if_neg hc3_1, if_pos hc9_24, if_pos hc15_25, if_pos hc27_26, if_neg hc39_27, if_neg hc45_28, if_pos hc51_29]))), N0, rfl⟩) (by decide) (by decide)
              · skip
                refine own_step (fun t k => XS.icmpNo X0.here hx rfl (hb hby d1_51) rfl (feq hc51_29).1 k) ?_
                show own_Ends p.tables e below s _ _ _ (s₁.setTop (mkF m 54 #[.val (.int x0_1)] []))
                refine own_step (fun t k => XS.iloadN X0.here hx rfl (hb hby d1_54) rfl k) ?_
                show own_Ends p.tables e below s _ _ _ (s₁.setTop (mkF m 55 #[.val (.int x0_1)] [(.int x0_1)]))
                refine own_step (fun t k => XS.bipush X0.here hx rfl (hb hby d1_55) k) ?_
                show own_Ends p.tables e below s _ _ _ (s₁.setTop (mkF m 57 #[.val (.int x0_1)] [(.int (126 : Int32)), (.int x0_1)]))
                by_cases hc57_30 : x0_1 = (126 : Int32)
                · skip
                  refine own_step (fun t k => XS.icmpNo X0.here hx rfl (hb hby d1_57) rfl (teq hc57_30).2 k) ?_
                  show own_Ends p.tables e below s _ _ _ (s₁.setTop (mkF m 60 #[.val (.int x0_1)] []))
                  refine own_step (fun t k => XS.iconst X0.here hx rfl (hb hby d1_60) k) ?_
                  show own_Ends p.tables e below s _ _ _ (s₁.setTop (mkF m 61 #[.val (.int x0_1)] [(.int (1 : Int32))]))
                  refine own_step (fun t k => XS.goto X0.here hx rfl (pc0 := 61) (pc' := 65) rfl (hb hby d1_61) (by decide) (by decide) k) ?_
                  show own_Ends p.tables e below s _ _ _ (s₁.setTop (mkF m 65 #[.val (.int x0_1)] [(.int (1 : Int32))]))
                  exact own_retN X0 hx (t := .boolean) Bd.returns (by simp) (hb hby d1_65) hnl (by rw [e0]; exact ⟨(congrArg (fun z => some (Value.int z)) (Eq.symm (show (own_r1 x0_1) = (1 : Int32) from by unfold own_r1; rw [if_neg hc3_1, if_pos hc9_24, if_pos hc15_25, if_pos hc27_26, if_neg hc39_27, if_neg hc45_28, if_neg hc51_29, if_pos hc57_30]))), N0, rfl⟩) (by decide) (by decide)
                · skip
                  refine own_step (fun t k => XS.icmpYes X0.here hx rfl (pc0 := 57) (pc' := 64) rfl (hb hby d1_57) rfl (feq hc57_30).2 (by decide) (by decide) k) ?_
                  show own_Ends p.tables e below s _ _ _ (s₁.setTop (mkF m 64 #[.val (.int x0_1)] []))
                  refine own_step (fun t k => XS.iconst X0.here hx rfl (hb hby d1_64) k) ?_
                  show own_Ends p.tables e below s _ _ _ (s₁.setTop (mkF m 65 #[.val (.int x0_1)] [(.int (0 : Int32))]))
                  exact own_retN X0 hx (t := .boolean) Bd.returns (by simp) (hb hby d1_65) hnl (by rw [e0]; exact ⟨(congrArg (fun z => some (Value.int z)) (Eq.symm (show (own_r1 x0_1) = (0 : Int32) from by unfold own_r1; rw [if_neg hc3_1, if_pos hc9_24, if_pos hc15_25, if_pos hc27_26, if_neg hc39_27, if_neg hc45_28, if_neg hc51_29, if_neg hc57_30]))), N0, rfl⟩) (by decide) (by decide)
        · skip
          refine own_step (fun t k => XS.icmpNo X0.here hx rfl (hb hby d1_27) rfl (flt hc27_26).1 k) ?_
          show own_Ends p.tables e below s _ _ _ (s₁.setTop (mkF m 30 #[.val (.int x0_1)] []))
          refine own_step (fun t k => XS.iloadN X0.here hx rfl (hb hby d1_30) rfl k) ?_
          show own_Ends p.tables e below s _ _ _ (s₁.setTop (mkF m 31 #[.val (.int x0_1)] [(.int x0_1)]))
          refine own_step (fun t k => XS.bipush X0.here hx rfl (hb hby d1_31) k) ?_
          show own_Ends p.tables e below s _ _ _ (s₁.setTop (mkF m 33 #[.val (.int x0_1)] [(.int (57 : Int32)), (.int x0_1)]))
          by_cases hc33_31 : (57 : Int32) < x0_1
          · skip
            refine own_step (fun t k => XS.icmpNo X0.here hx rfl (hb hby d1_33) rfl (tlt hc33_31).2.2.2 k) ?_
            show own_Ends p.tables e below s _ _ _ (s₁.setTop (mkF m 36 #[.val (.int x0_1)] []))
            refine own_step (fun t k => XS.iloadN X0.here hx rfl (hb hby d1_36) rfl k) ?_
            show own_Ends p.tables e below s _ _ _ (s₁.setTop (mkF m 37 #[.val (.int x0_1)] [(.int x0_1)]))
            refine own_step (fun t k => XS.bipush X0.here hx rfl (hb hby d1_37) k) ?_
            show own_Ends p.tables e below s _ _ _ (s₁.setTop (mkF m 39 #[.val (.int x0_1)] [(.int (45 : Int32)), (.int x0_1)]))
            by_cases hc39_32 : x0_1 = (45 : Int32)
            · skip
              refine own_step (fun t k => XS.icmpYes X0.here hx rfl (pc0 := 39) (pc' := 60) rfl (hb hby d1_39) rfl (teq hc39_32).1 (by decide) (by decide) k) ?_
              show own_Ends p.tables e below s _ _ _ (s₁.setTop (mkF m 60 #[.val (.int x0_1)] []))
              refine own_step (fun t k => XS.iconst X0.here hx rfl (hb hby d1_60) k) ?_
              show own_Ends p.tables e below s _ _ _ (s₁.setTop (mkF m 61 #[.val (.int x0_1)] [(.int (1 : Int32))]))
              refine own_step (fun t k => XS.goto X0.here hx rfl (pc0 := 61) (pc' := 65) rfl (hb hby d1_61) (by decide) (by decide) k) ?_
              show own_Ends p.tables e below s _ _ _ (s₁.setTop (mkF m 65 #[.val (.int x0_1)] [(.int (1 : Int32))]))
              exact own_retN X0 hx (t := .boolean) Bd.returns (by simp) (hb hby d1_65) hnl (by rw [e0]; exact ⟨(congrArg (fun z => some (Value.int z)) (Eq.symm (show (own_r1 x0_1) = (1 : Int32) from by unfold own_r1; rw [if_neg hc3_1, if_pos hc9_24, if_pos hc15_25, if_neg hc27_26, if_pos hc33_31, if_pos hc39_32]))), N0, rfl⟩) (by decide) (by decide)
            · skip
              refine own_step (fun t k => XS.icmpNo X0.here hx rfl (hb hby d1_39) rfl (feq hc39_32).1 k) ?_
              show own_Ends p.tables e below s _ _ _ (s₁.setTop (mkF m 42 #[.val (.int x0_1)] []))
              refine own_step (fun t k => XS.iloadN X0.here hx rfl (hb hby d1_42) rfl k) ?_
              show own_Ends p.tables e below s _ _ _ (s₁.setTop (mkF m 43 #[.val (.int x0_1)] [(.int x0_1)]))
              refine own_step (fun t k => XS.bipush X0.here hx rfl (hb hby d1_43) k) ?_
              show own_Ends p.tables e below s _ _ _ (s₁.setTop (mkF m 45 #[.val (.int x0_1)] [(.int (46 : Int32)), (.int x0_1)]))
              by_cases hc45_33 : x0_1 = (46 : Int32)
              · skip
                refine own_step (fun t k => XS.icmpYes X0.here hx rfl (pc0 := 45) (pc' := 60) rfl (hb hby d1_45) rfl (teq hc45_33).1 (by decide) (by decide) k) ?_
                show own_Ends p.tables e below s _ _ _ (s₁.setTop (mkF m 60 #[.val (.int x0_1)] []))
                refine own_step (fun t k => XS.iconst X0.here hx rfl (hb hby d1_60) k) ?_
                show own_Ends p.tables e below s _ _ _ (s₁.setTop (mkF m 61 #[.val (.int x0_1)] [(.int (1 : Int32))]))
                refine own_step (fun t k => XS.goto X0.here hx rfl (pc0 := 61) (pc' := 65) rfl (hb hby d1_61) (by decide) (by decide) k) ?_
                show own_Ends p.tables e below s _ _ _ (s₁.setTop (mkF m 65 #[.val (.int x0_1)] [(.int (1 : Int32))]))
                exact own_retN X0 hx (t := .boolean) Bd.returns (by simp) (hb hby d1_65) hnl (by rw [e0]; exact ⟨(congrArg (fun z => some (Value.int z)) (Eq.symm (show (own_r1 x0_1) = (1 : Int32) from by unfold own_r1; rw [if_neg hc3_1, if_pos hc9_24, if_pos hc15_25, if_neg hc27_26, if_pos hc33_31, if_neg hc39_32, if_pos hc45_33]))), N0, rfl⟩) (by decide) (by decide)
              · skip
                refine own_step (fun t k => XS.icmpNo X0.here hx rfl (hb hby d1_45) rfl (feq hc45_33).1 k) ?_
                show own_Ends p.tables e below s _ _ _ (s₁.setTop (mkF m 48 #[.val (.int x0_1)] []))
                refine own_step (fun t k => XS.iloadN X0.here hx rfl (hb hby d1_48) rfl k) ?_
                show own_Ends p.tables e below s _ _ _ (s₁.setTop (mkF m 49 #[.val (.int x0_1)] [(.int x0_1)]))
                refine own_step (fun t k => XS.bipush X0.here hx rfl (hb hby d1_49) k) ?_
                show own_Ends p.tables e below s _ _ _ (s₁.setTop (mkF m 51 #[.val (.int x0_1)] [(.int (95 : Int32)), (.int x0_1)]))
                by_cases hc51_34 : x0_1 = (95 : Int32)
                · skip
                  refine own_step (fun t k => XS.icmpYes X0.here hx rfl (pc0 := 51) (pc' := 60) rfl (hb hby d1_51) rfl (teq hc51_34).1 (by decide) (by decide) k) ?_
                  show own_Ends p.tables e below s _ _ _ (s₁.setTop (mkF m 60 #[.val (.int x0_1)] []))
                  refine own_step (fun t k => XS.iconst X0.here hx rfl (hb hby d1_60) k) ?_
                  show own_Ends p.tables e below s _ _ _ (s₁.setTop (mkF m 61 #[.val (.int x0_1)] [(.int (1 : Int32))]))
                  refine own_step (fun t k => XS.goto X0.here hx rfl (pc0 := 61) (pc' := 65) rfl (hb hby d1_61) (by decide) (by decide) k) ?_
                  show own_Ends p.tables e below s _ _ _ (s₁.setTop (mkF m 65 #[.val (.int x0_1)] [(.int (1 : Int32))]))
                  exact own_retN X0 hx (t := .boolean) Bd.returns (by simp) (hb hby d1_65) hnl (by rw [e0]; exact ⟨(congrArg (fun z => some (Value.int z)) (Eq.symm (show (own_r1 x0_1) = (1 : Int32) from by unfold own_r1; rw [if_neg hc3_1, if_pos hc9_24, if_pos hc15_25, if_neg hc27_26, if_pos hc33_31, if_neg hc39_32, if_neg hc45_33, if_pos hc51_34]))), N0, rfl⟩) (by decide) (by decide)
                · skip
                  refine own_step (fun t k => XS.icmpNo X0.here hx rfl (hb hby d1_51) rfl (feq hc51_34).1 k) ?_
                  show own_Ends p.tables e below s _ _ _ (s₁.setTop (mkF m 54 #[.val (.int x0_1)] []))
                  refine own_step (fun t k => XS.iloadN X0.here hx rfl (hb hby d1_54) rfl k) ?_
                  show own_Ends p.tables e below s _ _ _ (s₁.setTop (mkF m 55 #[.val (.int x0_1)] [(.int x0_1)]))
                  refine own_step (fun t k => XS.bipush X0.here hx rfl (hb hby d1_55) k) ?_
                  show own_Ends p.tables e below s _ _ _ (s₁.setTop (mkF m 57 #[.val (.int x0_1)] [(.int (126 : Int32)), (.int x0_1)]))
                  by_cases hc57_35 : x0_1 = (126 : Int32)
                  · skip
                    refine own_step (fun t k => XS.icmpNo X0.here hx rfl (hb hby d1_57) rfl (teq hc57_35).2 k) ?_
                    show own_Ends p.tables e below s _ _ _ (s₁.setTop (mkF m 60 #[.val (.int x0_1)] []))
                    refine own_step (fun t k => XS.iconst X0.here hx rfl (hb hby d1_60) k) ?_
                    show own_Ends p.tables e below s _ _ _ (s₁.setTop (mkF m 61 #[.val (.int x0_1)] [(.int (1 : Int32))]))
                    refine own_step (fun t k => XS.goto X0.here hx rfl (pc0 := 61) (pc' := 65) rfl (hb hby d1_61) (by decide) (by decide) k) ?_
                    show own_Ends p.tables e below s _ _ _ (s₁.setTop (mkF m 65 #[.val (.int x0_1)] [(.int (1 : Int32))]))
                    exact own_retN X0 hx (t := .boolean) Bd.returns (by simp) (hb hby d1_65) hnl (by rw [e0]; exact ⟨(congrArg (fun z => some (Value.int z)) (Eq.symm (show (own_r1 x0_1) = (1 : Int32) from by unfold own_r1; rw [if_neg hc3_1, if_pos hc9_24, if_pos hc15_25, if_neg hc27_26, if_pos hc33_31, if_neg hc39_32, if_neg hc45_33, if_neg hc51_34, if_pos hc57_35]))), N0, rfl⟩) (by decide) (by decide)
                  · skip
                    refine own_step (fun t k => XS.icmpYes X0.here hx rfl (pc0 := 57) (pc' := 64) rfl (hb hby d1_57) rfl (feq hc57_35).2 (by decide) (by decide) k) ?_
                    show own_Ends p.tables e below s _ _ _ (s₁.setTop (mkF m 64 #[.val (.int x0_1)] []))
                    refine own_step (fun t k => XS.iconst X0.here hx rfl (hb hby d1_64) k) ?_
                    show own_Ends p.tables e below s _ _ _ (s₁.setTop (mkF m 65 #[.val (.int x0_1)] [(.int (0 : Int32))]))
                    exact own_retN X0 hx (t := .boolean) Bd.returns (by simp) (hb hby d1_65) hnl (by rw [e0]; exact ⟨(congrArg (fun z => some (Value.int z)) (Eq.symm (show (own_r1 x0_1) = (0 : Int32) from by unfold own_r1; rw [if_neg hc3_1, if_pos hc9_24, if_pos hc15_25, if_neg hc27_26, if_pos hc33_31, if_neg hc39_32, if_neg hc45_33, if_neg hc51_34, if_neg hc57_35]))), N0, rfl⟩) (by decide) (by decide)
          · skip
            refine own_step (fun t k => XS.icmpYes X0.here hx rfl (pc0 := 33) (pc' := 60) rfl (hb hby d1_33) rfl (flt hc33_31).2.2.2 (by decide) (by decide) k) ?_
            show own_Ends p.tables e below s _ _ _ (s₁.setTop (mkF m 60 #[.val (.int x0_1)] []))
            refine own_step (fun t k => XS.iconst X0.here hx rfl (hb hby d1_60) k) ?_
            show own_Ends p.tables e below s _ _ _ (s₁.setTop (mkF m 61 #[.val (.int x0_1)] [(.int (1 : Int32))]))
            refine own_step (fun t k => XS.goto X0.here hx rfl (pc0 := 61) (pc' := 65) rfl (hb hby d1_61) (by decide) (by decide) k) ?_
            show own_Ends p.tables e below s _ _ _ (s₁.setTop (mkF m 65 #[.val (.int x0_1)] [(.int (1 : Int32))]))
            exact own_retN X0 hx (t := .boolean) Bd.returns (by simp) (hb hby d1_65) hnl (by rw [e0]; exact ⟨(congrArg (fun z => some (Value.int z)) (Eq.symm (show (own_r1 x0_1) = (1 : Int32) from by unfold own_r1; rw [if_neg hc3_1, if_pos hc9_24, if_pos hc15_25, if_neg hc27_26, if_neg hc33_31]))), N0, rfl⟩) (by decide) (by decide)
      · skip
        refine own_step (fun t k => XS.icmpNo X0.here hx rfl (hb hby d1_15) rfl (flt hc15_25).1 k) ?_
        show own_Ends p.tables e below s _ _ _ (s₁.setTop (mkF m 18 #[.val (.int x0_1)] []))
        refine own_step (fun t k => XS.iloadN X0.here hx rfl (hb hby d1_18) rfl k) ?_
        show own_Ends p.tables e below s _ _ _ (s₁.setTop (mkF m 19 #[.val (.int x0_1)] [(.int x0_1)]))
        refine own_step (fun t k => XS.bipush X0.here hx rfl (hb hby d1_19) k) ?_
        show own_Ends p.tables e below s _ _ _ (s₁.setTop (mkF m 21 #[.val (.int x0_1)] [(.int (122 : Int32)), (.int x0_1)]))
        by_cases hc21_36 : (122 : Int32) < x0_1
        · skip
          refine own_step (fun t k => XS.icmpNo X0.here hx rfl (hb hby d1_21) rfl (tlt hc21_36).2.2.2 k) ?_
          show own_Ends p.tables e below s _ _ _ (s₁.setTop (mkF m 24 #[.val (.int x0_1)] []))
          refine own_step (fun t k => XS.iloadN X0.here hx rfl (hb hby d1_24) rfl k) ?_
          show own_Ends p.tables e below s _ _ _ (s₁.setTop (mkF m 25 #[.val (.int x0_1)] [(.int x0_1)]))
          refine own_step (fun t k => XS.bipush X0.here hx rfl (hb hby d1_25) k) ?_
          show own_Ends p.tables e below s _ _ _ (s₁.setTop (mkF m 27 #[.val (.int x0_1)] [(.int (48 : Int32)), (.int x0_1)]))
          by_cases hc27_37 : x0_1 < (48 : Int32)
          · skip
            refine own_step (fun t k => XS.icmpYes X0.here hx rfl (pc0 := 27) (pc' := 36) rfl (hb hby d1_27) rfl (tlt hc27_37).1 (by decide) (by decide) k) ?_
            show own_Ends p.tables e below s _ _ _ (s₁.setTop (mkF m 36 #[.val (.int x0_1)] []))
            refine own_step (fun t k => XS.iloadN X0.here hx rfl (hb hby d1_36) rfl k) ?_
            show own_Ends p.tables e below s _ _ _ (s₁.setTop (mkF m 37 #[.val (.int x0_1)] [(.int x0_1)]))
            refine own_step (fun t k => XS.bipush X0.here hx rfl (hb hby d1_37) k) ?_
            show own_Ends p.tables e below s _ _ _ (s₁.setTop (mkF m 39 #[.val (.int x0_1)] [(.int (45 : Int32)), (.int x0_1)]))
            by_cases hc39_38 : x0_1 = (45 : Int32)
            · skip
              refine own_step (fun t k => XS.icmpYes X0.here hx rfl (pc0 := 39) (pc' := 60) rfl (hb hby d1_39) rfl (teq hc39_38).1 (by decide) (by decide) k) ?_
              show own_Ends p.tables e below s _ _ _ (s₁.setTop (mkF m 60 #[.val (.int x0_1)] []))
              refine own_step (fun t k => XS.iconst X0.here hx rfl (hb hby d1_60) k) ?_
              show own_Ends p.tables e below s _ _ _ (s₁.setTop (mkF m 61 #[.val (.int x0_1)] [(.int (1 : Int32))]))
              refine own_step (fun t k => XS.goto X0.here hx rfl (pc0 := 61) (pc' := 65) rfl (hb hby d1_61) (by decide) (by decide) k) ?_
              show own_Ends p.tables e below s _ _ _ (s₁.setTop (mkF m 65 #[.val (.int x0_1)] [(.int (1 : Int32))]))
              exact own_retN X0 hx (t := .boolean) Bd.returns (by simp) (hb hby d1_65) hnl (by rw [e0]; exact ⟨(congrArg (fun z => some (Value.int z)) (Eq.symm (show (own_r1 x0_1) = (1 : Int32) from by unfold own_r1; rw [if_neg hc3_1, if_pos hc9_24, if_neg hc15_25, if_pos hc21_36, if_pos hc27_37, if_pos hc39_38]))), N0, rfl⟩) (by decide) (by decide)
            · skip
              refine own_step (fun t k => XS.icmpNo X0.here hx rfl (hb hby d1_39) rfl (feq hc39_38).1 k) ?_
              show own_Ends p.tables e below s _ _ _ (s₁.setTop (mkF m 42 #[.val (.int x0_1)] []))
              refine own_step (fun t k => XS.iloadN X0.here hx rfl (hb hby d1_42) rfl k) ?_
              show own_Ends p.tables e below s _ _ _ (s₁.setTop (mkF m 43 #[.val (.int x0_1)] [(.int x0_1)]))
              refine own_step (fun t k => XS.bipush X0.here hx rfl (hb hby d1_43) k) ?_
              show own_Ends p.tables e below s _ _ _ (s₁.setTop (mkF m 45 #[.val (.int x0_1)] [(.int (46 : Int32)), (.int x0_1)]))
              by_cases hc45_39 : x0_1 = (46 : Int32)
              · skip
                refine own_step (fun t k => XS.icmpYes X0.here hx rfl (pc0 := 45) (pc' := 60) rfl (hb hby d1_45) rfl (teq hc45_39).1 (by decide) (by decide) k) ?_
                show own_Ends p.tables e below s _ _ _ (s₁.setTop (mkF m 60 #[.val (.int x0_1)] []))
                refine own_step (fun t k => XS.iconst X0.here hx rfl (hb hby d1_60) k) ?_
                show own_Ends p.tables e below s _ _ _ (s₁.setTop (mkF m 61 #[.val (.int x0_1)] [(.int (1 : Int32))]))
                refine own_step (fun t k => XS.goto X0.here hx rfl (pc0 := 61) (pc' := 65) rfl (hb hby d1_61) (by decide) (by decide) k) ?_
                show own_Ends p.tables e below s _ _ _ (s₁.setTop (mkF m 65 #[.val (.int x0_1)] [(.int (1 : Int32))]))
                exact own_retN X0 hx (t := .boolean) Bd.returns (by simp) (hb hby d1_65) hnl (by rw [e0]; exact ⟨(congrArg (fun z => some (Value.int z)) (Eq.symm (show (own_r1 x0_1) = (1 : Int32) from by unfold own_r1; rw [if_neg hc3_1, if_pos hc9_24, if_neg hc15_25, if_pos hc21_36, if_pos hc27_37, if_neg hc39_38, if_pos hc45_39]))), N0, rfl⟩) (by decide) (by decide)
              · skip
                refine own_step (fun t k => XS.icmpNo X0.here hx rfl (hb hby d1_45) rfl (feq hc45_39).1 k) ?_
                show own_Ends p.tables e below s _ _ _ (s₁.setTop (mkF m 48 #[.val (.int x0_1)] []))
                refine own_step (fun t k => XS.iloadN X0.here hx rfl (hb hby d1_48) rfl k) ?_
                show own_Ends p.tables e below s _ _ _ (s₁.setTop (mkF m 49 #[.val (.int x0_1)] [(.int x0_1)]))
                refine own_step (fun t k => XS.bipush X0.here hx rfl (hb hby d1_49) k) ?_
                show own_Ends p.tables e below s _ _ _ (s₁.setTop (mkF m 51 #[.val (.int x0_1)] [(.int (95 : Int32)), (.int x0_1)]))
                by_cases hc51_40 : x0_1 = (95 : Int32)
                · skip
                  refine own_step (fun t k => XS.icmpYes X0.here hx rfl (pc0 := 51) (pc' := 60) rfl (hb hby d1_51) rfl (teq hc51_40).1 (by decide) (by decide) k) ?_
                  show own_Ends p.tables e below s _ _ _ (s₁.setTop (mkF m 60 #[.val (.int x0_1)] []))
                  refine own_step (fun t k => XS.iconst X0.here hx rfl (hb hby d1_60) k) ?_
                  show own_Ends p.tables e below s _ _ _ (s₁.setTop (mkF m 61 #[.val (.int x0_1)] [(.int (1 : Int32))]))
                  refine own_step (fun t k => XS.goto X0.here hx rfl (pc0 := 61) (pc' := 65) rfl (hb hby d1_61) (by decide) (by decide) k) ?_
                  show own_Ends p.tables e below s _ _ _ (s₁.setTop (mkF m 65 #[.val (.int x0_1)] [(.int (1 : Int32))]))
                  exact own_retN X0 hx (t := .boolean) Bd.returns (by simp) (hb hby d1_65) hnl (by rw [e0]; exact ⟨(congrArg (fun z => some (Value.int z)) (Eq.symm (show (own_r1 x0_1) = (1 : Int32) from by unfold own_r1; rw [if_neg hc3_1, if_pos hc9_24, if_neg hc15_25, if_pos hc21_36, if_pos hc27_37, if_neg hc39_38, if_neg hc45_39, if_pos hc51_40]))), N0, rfl⟩) (by decide) (by decide)
                · skip
                  refine own_step (fun t k => XS.icmpNo X0.here hx rfl (hb hby d1_51) rfl (feq hc51_40).1 k) ?_
                  show own_Ends p.tables e below s _ _ _ (s₁.setTop (mkF m 54 #[.val (.int x0_1)] []))
                  refine own_step (fun t k => XS.iloadN X0.here hx rfl (hb hby d1_54) rfl k) ?_
                  show own_Ends p.tables e below s _ _ _ (s₁.setTop (mkF m 55 #[.val (.int x0_1)] [(.int x0_1)]))
                  refine own_step (fun t k => XS.bipush X0.here hx rfl (hb hby d1_55) k) ?_
                  show own_Ends p.tables e below s _ _ _ (s₁.setTop (mkF m 57 #[.val (.int x0_1)] [(.int (126 : Int32)), (.int x0_1)]))
                  by_cases hc57_41 : x0_1 = (126 : Int32)
                  · skip
                    refine own_step (fun t k => XS.icmpNo X0.here hx rfl (hb hby d1_57) rfl (teq hc57_41).2 k) ?_
                    show own_Ends p.tables e below s _ _ _ (s₁.setTop (mkF m 60 #[.val (.int x0_1)] []))
                    refine own_step (fun t k => XS.iconst X0.here hx rfl (hb hby d1_60) k) ?_
                    show own_Ends p.tables e below s _ _ _ (s₁.setTop (mkF m 61 #[.val (.int x0_1)] [(.int (1 : Int32))]))
                    refine own_step (fun t k => XS.goto X0.here hx rfl (pc0 := 61) (pc' := 65) rfl (hb hby d1_61) (by decide) (by decide) k) ?_
                    show own_Ends p.tables e below s _ _ _ (s₁.setTop (mkF m 65 #[.val (.int x0_1)] [(.int (1 : Int32))]))
                    exact own_retN X0 hx (t := .boolean) Bd.returns (by simp) (hb hby d1_65) hnl (by rw [e0]; exact ⟨(congrArg (fun z => some (Value.int z)) (Eq.symm (show (own_r1 x0_1) = (1 : Int32) from by unfold own_r1; rw [if_neg hc3_1, if_pos hc9_24, if_neg hc15_25, if_pos hc21_36, if_pos hc27_37, if_neg hc39_38, if_neg hc45_39, if_neg hc51_40, if_pos hc57_41]))), N0, rfl⟩) (by decide) (by decide)
                  · skip
                    refine own_step (fun t k => XS.icmpYes X0.here hx rfl (pc0 := 57) (pc' := 64) rfl (hb hby d1_57) rfl (feq hc57_41).2 (by decide) (by decide) k) ?_
                    show own_Ends p.tables e below s _ _ _ (s₁.setTop (mkF m 64 #[.val (.int x0_1)] []))
                    refine own_step (fun t k => XS.iconst X0.here hx rfl (hb hby d1_64) k) ?_
                    show own_Ends p.tables e below s _ _ _ (s₁.setTop (mkF m 65 #[.val (.int x0_1)] [(.int (0 : Int32))]))
                    exact own_retN X0 hx (t := .boolean) Bd.returns (by simp) (hb hby d1_65) hnl (by rw [e0]; exact ⟨(congrArg (fun z => some (Value.int z)) (Eq.symm (show (own_r1 x0_1) = (0 : Int32) from by unfold own_r1; rw [if_neg hc3_1, if_pos hc9_24, if_neg hc15_25, if_pos hc21_36, if_pos hc27_37, if_neg hc39_38, if_neg hc45_39, if_neg hc51_40, if_neg hc57_41]))), N0, rfl⟩) (by decide) (by decide)
          · skip
            refine own_step (fun t k => XS.icmpNo X0.here hx rfl (hb hby d1_27) rfl (flt hc27_37).1 k) ?_
            show own_Ends p.tables e below s _ _ _ (s₁.setTop (mkF m 30 #[.val (.int x0_1)] []))
            refine own_step (fun t k => XS.iloadN X0.here hx rfl (hb hby d1_30) rfl k) ?_
            show own_Ends p.tables e below s _ _ _ (s₁.setTop (mkF m 31 #[.val (.int x0_1)] [(.int x0_1)]))
            refine own_step (fun t k => XS.bipush X0.here hx rfl (hb hby d1_31) k) ?_
            show own_Ends p.tables e below s _ _ _ (s₁.setTop (mkF m 33 #[.val (.int x0_1)] [(.int (57 : Int32)), (.int x0_1)]))
            by_cases hc33_42 : (57 : Int32) < x0_1
            · skip
              refine own_step (fun t k => XS.icmpNo X0.here hx rfl (hb hby d1_33) rfl (tlt hc33_42).2.2.2 k) ?_
              show own_Ends p.tables e below s _ _ _ (s₁.setTop (mkF m 36 #[.val (.int x0_1)] []))
              refine own_step (fun t k => XS.iloadN X0.here hx rfl (hb hby d1_36) rfl k) ?_
              show own_Ends p.tables e below s _ _ _ (s₁.setTop (mkF m 37 #[.val (.int x0_1)] [(.int x0_1)]))
              refine own_step (fun t k => XS.bipush X0.here hx rfl (hb hby d1_37) k) ?_
              show own_Ends p.tables e below s _ _ _ (s₁.setTop (mkF m 39 #[.val (.int x0_1)] [(.int (45 : Int32)), (.int x0_1)]))
              by_cases hc39_43 : x0_1 = (45 : Int32)
              · skip
                refine own_step (fun t k => XS.icmpYes X0.here hx rfl (pc0 := 39) (pc' := 60) rfl (hb hby d1_39) rfl (teq hc39_43).1 (by decide) (by decide) k) ?_
                show own_Ends p.tables e below s _ _ _ (s₁.setTop (mkF m 60 #[.val (.int x0_1)] []))
                refine own_step (fun t k => XS.iconst X0.here hx rfl (hb hby d1_60) k) ?_
                show own_Ends p.tables e below s _ _ _ (s₁.setTop (mkF m 61 #[.val (.int x0_1)] [(.int (1 : Int32))]))
                refine own_step (fun t k => XS.goto X0.here hx rfl (pc0 := 61) (pc' := 65) rfl (hb hby d1_61) (by decide) (by decide) k) ?_
                show own_Ends p.tables e below s _ _ _ (s₁.setTop (mkF m 65 #[.val (.int x0_1)] [(.int (1 : Int32))]))
                exact own_retN X0 hx (t := .boolean) Bd.returns (by simp) (hb hby d1_65) hnl (by rw [e0]; exact ⟨(congrArg (fun z => some (Value.int z)) (Eq.symm (show (own_r1 x0_1) = (1 : Int32) from by unfold own_r1; rw [if_neg hc3_1, if_pos hc9_24, if_neg hc15_25, if_pos hc21_36, if_neg hc27_37, if_pos hc33_42, if_pos hc39_43]))), N0, rfl⟩) (by decide) (by decide)
              · skip
                refine own_step (fun t k => XS.icmpNo X0.here hx rfl (hb hby d1_39) rfl (feq hc39_43).1 k) ?_
                show own_Ends p.tables e below s _ _ _ (s₁.setTop (mkF m 42 #[.val (.int x0_1)] []))
                refine own_step (fun t k => XS.iloadN X0.here hx rfl (hb hby d1_42) rfl k) ?_
                show own_Ends p.tables e below s _ _ _ (s₁.setTop (mkF m 43 #[.val (.int x0_1)] [(.int x0_1)]))
                refine own_step (fun t k => XS.bipush X0.here hx rfl (hb hby d1_43) k) ?_
                show own_Ends p.tables e below s _ _ _ (s₁.setTop (mkF m 45 #[.val (.int x0_1)] [(.int (46 : Int32)), (.int x0_1)]))
                by_cases hc45_44 : x0_1 = (46 : Int32)
                · skip
                  refine own_step (fun t k => XS.icmpYes X0.here hx rfl (pc0 := 45) (pc' := 60) rfl (hb hby d1_45) rfl (teq hc45_44).1 (by decide) (by decide) k) ?_
                  show own_Ends p.tables e below s _ _ _ (s₁.setTop (mkF m 60 #[.val (.int x0_1)] []))
                  refine own_step (fun t k => XS.iconst X0.here hx rfl (hb hby d1_60) k) ?_
                  show own_Ends p.tables e below s _ _ _ (s₁.setTop (mkF m 61 #[.val (.int x0_1)] [(.int (1 : Int32))]))
                  refine own_step (fun t k => XS.goto X0.here hx rfl (pc0 := 61) (pc' := 65) rfl (hb hby d1_61) (by decide) (by decide) k) ?_
                  show own_Ends p.tables e below s _ _ _ (s₁.setTop (mkF m 65 #[.val (.int x0_1)] [(.int (1 : Int32))]))
                  exact own_retN X0 hx (t := .boolean) Bd.returns (by simp) (hb hby d1_65) hnl (by rw [e0]; exact ⟨(congrArg (fun z => some (Value.int z)) (Eq.symm (show (own_r1 x0_1) = (1 : Int32) from by unfold own_r1; rw [if_neg hc3_1, if_pos hc9_24, if_neg hc15_25, if_pos hc21_36, if_neg hc27_37, if_pos hc33_42, if_neg hc39_43, if_pos hc45_44]))), N0, rfl⟩) (by decide) (by decide)
                · skip
                  refine own_step (fun t k => XS.icmpNo X0.here hx rfl (hb hby d1_45) rfl (feq hc45_44).1 k) ?_
                  show own_Ends p.tables e below s _ _ _ (s₁.setTop (mkF m 48 #[.val (.int x0_1)] []))
                  refine own_step (fun t k => XS.iloadN X0.here hx rfl (hb hby d1_48) rfl k) ?_
                  show own_Ends p.tables e below s _ _ _ (s₁.setTop (mkF m 49 #[.val (.int x0_1)] [(.int x0_1)]))
                  refine own_step (fun t k => XS.bipush X0.here hx rfl (hb hby d1_49) k) ?_
                  show own_Ends p.tables e below s _ _ _ (s₁.setTop (mkF m 51 #[.val (.int x0_1)] [(.int (95 : Int32)), (.int x0_1)]))
                  by_cases hc51_45 : x0_1 = (95 : Int32)
                  · skip
                    refine own_step (fun t k => XS.icmpYes X0.here hx rfl (pc0 := 51) (pc' := 60) rfl (hb hby d1_51) rfl (teq hc51_45).1 (by decide) (by decide) k) ?_
                    show own_Ends p.tables e below s _ _ _ (s₁.setTop (mkF m 60 #[.val (.int x0_1)] []))
                    refine own_step (fun t k => XS.iconst X0.here hx rfl (hb hby d1_60) k) ?_
                    show own_Ends p.tables e below s _ _ _ (s₁.setTop (mkF m 61 #[.val (.int x0_1)] [(.int (1 : Int32))]))
                    refine own_step (fun t k => XS.goto X0.here hx rfl (pc0 := 61) (pc' := 65) rfl (hb hby d1_61) (by decide) (by decide) k) ?_
                    show own_Ends p.tables e below s _ _ _ (s₁.setTop (mkF m 65 #[.val (.int x0_1)] [(.int (1 : Int32))]))
                    exact own_retN X0 hx (t := .boolean) Bd.returns (by simp) (hb hby d1_65) hnl (by rw [e0]; exact ⟨(congrArg (fun z => some (Value.int z)) (Eq.symm (show (own_r1 x0_1) = (1 : Int32) from by unfold own_r1; rw [if_neg hc3_1, if_pos hc9_24, if_neg hc15_25, if_pos hc21_36, if_neg hc27_37, if_pos hc33_42, if_neg hc39_43, if_neg hc45_44, if_pos hc51_45]))), N0, rfl⟩) (by decide) (by decide)
                  · skip
                    refine own_step (fun t k => XS.icmpNo X0.here hx rfl (hb hby d1_51) rfl (feq hc51_45).1 k) ?_
                    show own_Ends p.tables e below s _ _ _ (s₁.setTop (mkF m 54 #[.val (.int x0_1)] []))
                    refine own_step (fun t k => XS.iloadN X0.here hx rfl (hb hby d1_54) rfl k) ?_
                    show own_Ends p.tables e below s _ _ _ (s₁.setTop (mkF m 55 #[.val (.int x0_1)] [(.int x0_1)]))
                    refine own_step (fun t k => XS.bipush X0.here hx rfl (hb hby d1_55) k) ?_
                    show own_Ends p.tables e below s _ _ _ (s₁.setTop (mkF m 57 #[.val (.int x0_1)] [(.int (126 : Int32)), (.int x0_1)]))
                    by_cases hc57_46 : x0_1 = (126 : Int32)
                    · skip
                      refine own_step (fun t k => XS.icmpNo X0.here hx rfl (hb hby d1_57) rfl (teq hc57_46).2 k) ?_
                      show own_Ends p.tables e below s _ _ _ (s₁.setTop (mkF m 60 #[.val (.int x0_1)] []))
                      refine own_step (fun t k => XS.iconst X0.here hx rfl (hb hby d1_60) k) ?_
                      show own_Ends p.tables e below s _ _ _ (s₁.setTop (mkF m 61 #[.val (.int x0_1)] [(.int (1 : Int32))]))
                      refine own_step (fun t k => XS.goto X0.here hx rfl (pc0 := 61) (pc' := 65) rfl (hb hby d1_61) (by decide) (by decide) k) ?_
                      show own_Ends p.tables e below s _ _ _ (s₁.setTop (mkF m 65 #[.val (.int x0_1)] [(.int (1 : Int32))]))
                      exact own_retN X0 hx (t := .boolean) Bd.returns (by simp) (hb hby d1_65) hnl (by rw [e0]; exact ⟨(congrArg (fun z => some (Value.int z)) (Eq.symm (show (own_r1 x0_1) = (1 : Int32) from by unfold own_r1; rw [if_neg hc3_1, if_pos hc9_24, if_neg hc15_25, if_pos hc21_36, if_neg hc27_37, if_pos hc33_42, if_neg hc39_43, if_neg hc45_44, if_neg hc51_45, if_pos hc57_46]))), N0, rfl⟩) (by decide) (by decide)
                    · skip
                      refine own_step (fun t k => XS.icmpYes X0.here hx rfl (pc0 := 57) (pc' := 64) rfl (hb hby d1_57) rfl (feq hc57_46).2 (by decide) (by decide) k) ?_
                      show own_Ends p.tables e below s _ _ _ (s₁.setTop (mkF m 64 #[.val (.int x0_1)] []))
                      refine own_step (fun t k => XS.iconst X0.here hx rfl (hb hby d1_64) k) ?_
                      show own_Ends p.tables e below s _ _ _ (s₁.setTop (mkF m 65 #[.val (.int x0_1)] [(.int (0 : Int32))]))
                      exact own_retN X0 hx (t := .boolean) Bd.returns (by simp) (hb hby d1_65) hnl (by rw [e0]; exact ⟨(congrArg (fun z => some (Value.int z)) (Eq.symm (show (own_r1 x0_1) = (0 : Int32) from by unfold own_r1; rw [if_neg hc3_1, if_pos hc9_24, if_neg hc15_25, if_pos hc21_36, if_neg hc27_37, if_pos hc33_42, if_neg hc39_43, if_neg hc45_44, if_neg hc51_45, if_neg hc57_46]))), N0, rfl⟩) (by decide) (by decide)
            · skip
              refine own_step (fun t k => XS.icmpYes X0.here hx rfl (pc0 := 33) (pc' := 60) rfl (hb hby d1_33) rfl (flt hc33_42).2.2.2 (by decide) (by decide) k) ?_
              show own_Ends p.tables e below s _ _ _ (s₁.setTop (mkF m 60 #[.val (.int x0_1)] []))
              refine own_step (fun t k => XS.iconst X0.here hx rfl (hb hby d1_60) k) ?_
              show own_Ends p.tables e below s _ _ _ (s₁.setTop (mkF m 61 #[.val (.int x0_1)] [(.int (1 : Int32))]))
              refine own_step (fun t k => XS.goto X0.here hx rfl (pc0 := 61) (pc' := 65) rfl (hb hby d1_61) (by decide) (by decide) k) ?_
              show own_Ends p.tables e below s _ _ _ (s₁.setTop (mkF m 65 #[.val (.int x0_1)] [(.int (1 : Int32))]))
              exact own_retN X0 hx (t := .boolean) Bd.returns (by simp) (hb hby d1_65) hnl (by rw [e0]; exact ⟨(congrArg (fun z => some (Value.int z)) (Eq.symm (show (own_r1 x0_1) = (1 : Int32) from by unfold own_r1; rw [if_neg hc3_1, if_pos hc9_24, if_neg hc15_25, if_pos hc21_36, if_neg hc27_37, if_neg hc33_42]))), N0, rfl⟩) (by decide) (by decide)
        · skip
          refine own_step (fun t k => XS.icmpYes X0.here hx rfl (pc0 := 21) (pc' := 60) rfl (hb hby d1_21) rfl (flt hc21_36).2.2.2 (by decide) (by decide) k) ?_
          show own_Ends p.tables e below s _ _ _ (s₁.setTop (mkF m 60 #[.val (.int x0_1)] []))
          refine own_step (fun t k => XS.iconst X0.here hx rfl (hb hby d1_60) k) ?_
          show own_Ends p.tables e below s _ _ _ (s₁.setTop (mkF m 61 #[.val (.int x0_1)] [(.int (1 : Int32))]))
          refine own_step (fun t k => XS.goto X0.here hx rfl (pc0 := 61) (pc' := 65) rfl (hb hby d1_61) (by decide) (by decide) k) ?_
          show own_Ends p.tables e below s _ _ _ (s₁.setTop (mkF m 65 #[.val (.int x0_1)] [(.int (1 : Int32))]))
          exact own_retN X0 hx (t := .boolean) Bd.returns (by simp) (hb hby d1_65) hnl (by rw [e0]; exact ⟨(congrArg (fun z => some (Value.int z)) (Eq.symm (show (own_r1 x0_1) = (1 : Int32) from by unfold own_r1; rw [if_neg hc3_1, if_pos hc9_24, if_neg hc15_25, if_neg hc21_36]))), N0, rfl⟩) (by decide) (by decide)
    · skip
      refine own_step (fun t k => XS.icmpYes X0.here hx rfl (pc0 := 9) (pc' := 60) rfl (hb hby d1_9) rfl (flt hc9_24).2.2.2 (by decide) (by decide) k) ?_
      show own_Ends p.tables e below s _ _ _ (s₁.setTop (mkF m 60 #[.val (.int x0_1)] []))
      refine own_step (fun t k => XS.iconst X0.here hx rfl (hb hby d1_60) k) ?_
      show own_Ends p.tables e below s _ _ _ (s₁.setTop (mkF m 61 #[.val (.int x0_1)] [(.int (1 : Int32))]))
      refine own_step (fun t k => XS.goto X0.here hx rfl (pc0 := 61) (pc' := 65) rfl (hb hby d1_61) (by decide) (by decide) k) ?_
      show own_Ends p.tables e below s _ _ _ (s₁.setTop (mkF m 65 #[.val (.int x0_1)] [(.int (1 : Int32))]))
      exact own_retN X0 hx (t := .boolean) Bd.returns (by simp) (hb hby d1_65) hnl (by rw [e0]; exact ⟨(congrArg (fun z => some (Value.int z)) (Eq.symm (show (own_r1 x0_1) = (1 : Int32) from by unfold own_r1; rw [if_neg hc3_1, if_neg hc9_24]))), N0, rfl⟩) (by decide) (by decide)
def own_r2 (x0_2 : Int32) : Int32 := (if x0_2 < (0 : Int32) then (0 : Int32) else (if (127 : Int32) < x0_2 then (0 : Int32) else (if x0_2 < (64 : Int32) then (if (lcmpW ((((288054454291267584 : Int64).toUInt64 >>> (x0_2 &&& 0x3f).toInt64.toUInt64).toInt64) &&& (1 : Int64)) (0 : Int64)) = (0 : Int32) then (0 : Int32) else (1 : Int32)) else (if (lcmpW ((((5188146764422578174 : Int64).toUInt64 >>> ((x0_2 - (64 : Int32)) &&& 0x3f).toInt64.toUInt64).toInt64) &&& (1 : Int64)) (0 : Int64)) = (0 : Int32) then (0 : Int32) else (1 : Int32)))))
theorem d2_0 : decode method_2_code 0 = .ok (.iload_n 0, 1) := by decide +kernel
theorem d2_1 : decode method_2_code 1 = .ok (.ifCond .lt 9, 3) := by decide +kernel
theorem d2_4 : decode method_2_code 4 = .ok (.iload_n 0, 1) := by decide +kernel
theorem d2_5 : decode method_2_code 5 = .ok (.bipush 127, 2) := by decide +kernel
theorem d2_7 : decode method_2_code 7 = .ok (.if_icmp .le 5, 3) := by decide +kernel
theorem d2_10 : decode method_2_code 10 = .ok (.iconst 0, 1) := by decide +kernel
theorem d2_11 : decode method_2_code 11 = .ok (.ireturn, 1) := by decide +kernel
theorem d2_12 : decode method_2_code 12 = .ok (.iload_n 0, 1) := by decide +kernel
theorem d2_13 : decode method_2_code 13 = .ok (.bipush 64, 2) := by decide +kernel
theorem d2_15 : decode method_2_code 15 = .ok (.if_icmp .ge 21, 3) := by decide +kernel
theorem d2_18 : decode method_2_code 18 = .ok (.ldc2_w 9, 3) := by decide +kernel
theorem d2_21 : decode method_2_code 21 = .ok (.iload_n 0, 1) := by decide +kernel
theorem d2_22 : decode method_2_code 22 = .ok (.lushr, 1) := by decide +kernel
theorem d2_23 : decode method_2_code 23 = .ok (.lconst 1, 1) := by decide +kernel
theorem d2_24 : decode method_2_code 24 = .ok (.land, 1) := by decide +kernel
theorem d2_25 : decode method_2_code 25 = .ok (.lconst 0, 1) := by decide +kernel
theorem d2_26 : decode method_2_code 26 = .ok (.lcmp, 1) := by decide +kernel
theorem d2_27 : decode method_2_code 27 = .ok (.ifCond .eq 7, 3) := by decide +kernel
theorem d2_30 : decode method_2_code 30 = .ok (.iconst 1, 1) := by decide +kernel
theorem d2_31 : decode method_2_code 31 = .ok (.goto 4, 3) := by decide +kernel
theorem d2_34 : decode method_2_code 34 = .ok (.iconst 0, 1) := by decide +kernel
theorem d2_35 : decode method_2_code 35 = .ok (.ireturn, 1) := by decide +kernel
theorem d2_36 : decode method_2_code 36 = .ok (.ldc2_w 11, 3) := by decide +kernel
theorem d2_39 : decode method_2_code 39 = .ok (.iload_n 0, 1) := by decide +kernel
theorem d2_40 : decode method_2_code 40 = .ok (.bipush 64, 2) := by decide +kernel
theorem d2_42 : decode method_2_code 42 = .ok (.isub, 1) := by decide +kernel
theorem d2_43 : decode method_2_code 43 = .ok (.lushr, 1) := by decide +kernel
theorem d2_44 : decode method_2_code 44 = .ok (.lconst 1, 1) := by decide +kernel
theorem d2_45 : decode method_2_code 45 = .ok (.land, 1) := by decide +kernel
theorem d2_46 : decode method_2_code 46 = .ok (.lconst 0, 1) := by decide +kernel
theorem d2_47 : decode method_2_code 47 = .ok (.lcmp, 1) := by decide +kernel
theorem d2_48 : decode method_2_code 48 = .ok (.ifCond .eq 7, 3) := by decide +kernel
theorem d2_51 : decode method_2_code 51 = .ok (.iconst 1, 1) := by decide +kernel
theorem d2_52 : decode method_2_code 52 = .ok (.goto 4, 3) := by decide +kernel
theorem d2_55 : decode method_2_code 55 = .ok (.iconst 0, 1) := by decide +kernel
theorem d2_56 : decode method_2_code 56 = .ok (.ireturn, 1) := by decide +kernel
theorem pn_1 : plainName "com/example/navigable_rest/navigablerest/PercentEncodingIsUnreservedPinLaw" = true := by first | (simp [plainName, overriddenIn]; done) | decide +kernel
theorem ef_2 (m : MethodId) (x0_2 : Int32) : entryFrame m #[(.int x0_2)] 1 = mkF m 0 #[.val (.int x0_2)] [] := by first | (simp [entryFrame, mkF, argsToLocals, Value.category]; done) | rfl
def Q2 (Z : State) (x0_2 : Int32) (h0 : Heap) (n0 : Nat) (v : Option Value) (h : Heap) (L : List Loc) : Prop := v = some (.int (own_r2 x0_2)) ∧ Fr n0 L ∧ h = h0
set_option maxRecDepth 65536 in
set_option maxHeartbeats 40000000 in
theorem rm2 (l : Launch) (Z : State) (a0 : Array Value) (hw : ∀ d ∈ tables_1, d.before a0 Z = true) (ws : List Jvm.Cond) (x0_2 : Int32) (h0 : Heap) (n0 : Nat) (O0 : Old Z n0 h0) :
    MetFree l (⟨"com/example/navigable_rest/navigablerest/PercentEncodingIsUnreservedPinLaw", "reference", "(I)Z"⟩ : MethodName) (head1 (Jvm.Cond.code (⟨"com/example/navigable_rest/navigablerest/PercentEncodingIsUnreservedPinLaw", "reference", "(I)Z"⟩ : MethodName) method_2_code 1 (some .boolean) :: ws) ({ frames := 0, cells := 0, slots := 0, locals := 0 } : Room)) (fun a U => a = #[(.int x0_2)] ∧ Z.Warmed39 U.vm ∧ U.heap = h0) (fun _ _ _ _ _ => True) (fun _ U o U' => ∃ v L, o = .returned v ∧ Q2 Z x0_2 h0 n0 v U'.heap L ∧ FrameEnd U o U' L ({ frames := 0, cells := 0, slots := 0, locals := 0 } : Room).cells ({ frames := 0, cells := 0, slots := 0, locals := 0 } : Room).slots) := by
  refine MetFree.of_bodySF (plainFor_of_name pn_1) hisR ?_
  intro p e s m args below meth c s₁ Bd hml0 hP hK
  obtain ⟨rfl, hZ, hh⟩ := hP
  have hx := Bd.exec
  have hby := Bd.bytes
  have hnl := BodyLoose.notSynchronized Bd
  have hml : c.maxLocals = 1 := hml0
  have hown : s.vm.findClass "com/example/navigable_rest/navigablerest/PercentEncodingIsUnreservedPinLaw" = some m.cls := findClass_of_methodNamed Bd.named
  have hnm := (name_of_methodNamed Bd.named Bd.method).1
  have X0 : Stand p l e ({ frames := 0, cells := 0, slots := 0, locals := 0 } : Room) s m #[(.int x0_2)] below meth c s₁ [] 0 0 := Stand.of_body Bd
  have e0 : s₁.heap = h0 := by rw [← hh, Bd.state]; rfl
  have N0 := Fr.nil n0
  show own_Ends p.tables e below s (Q2 Z x0_2 h0 n0) 0 0 (s₁.setTop (entryFrame m #[(.int x0_2)] 1))
  rw [ef_2 m x0_2]
  show own_Ends p.tables e below s _ _ _ (s₁.setTop (mkF m 0 #[.val (.int x0_2)] []))
  refine own_step (fun t k => XS.iloadN X0.here hx rfl (hb hby d2_0) rfl k) ?_
  show own_Ends p.tables e below s _ _ _ (s₁.setTop (mkF m 1 #[.val (.int x0_2)] [(.int x0_2)]))
  by_cases hc1_1 : x0_2 < (0 : Int32)
  · skip
    refine own_step (fun t k => XS.ifYes X0.here hx rfl (pc0 := 1) (pc' := 10) rfl (hb hby d2_1) rfl ((if0 _ _).trans (tlt hc1_1).1) (by decide) (by decide) k) ?_
    show own_Ends p.tables e below s _ _ _ (s₁.setTop (mkF m 10 #[.val (.int x0_2)] []))
    refine own_step (fun t k => XS.iconst X0.here hx rfl (hb hby d2_10) k) ?_
    show own_Ends p.tables e below s _ _ _ (s₁.setTop (mkF m 11 #[.val (.int x0_2)] [(.int (0 : Int32))]))
    exact own_retN X0 hx (t := .boolean) Bd.returns (by simp) (hb hby d2_11) hnl (by rw [e0]; exact ⟨(congrArg (fun z => some (Value.int z)) (Eq.symm (show (own_r2 x0_2) = (0 : Int32) from by unfold own_r2; rw [if_pos hc1_1]))), N0, rfl⟩) (by decide) (by decide)
  · skip
    refine own_step (fun t k => XS.ifNo X0.here hx rfl (hb hby d2_1) rfl ((if0 _ _).trans (flt hc1_1).1) k) ?_
    show own_Ends p.tables e below s _ _ _ (s₁.setTop (mkF m 4 #[.val (.int x0_2)] []))
    refine own_step (fun t k => XS.iloadN X0.here hx rfl (hb hby d2_4) rfl k) ?_
    show own_Ends p.tables e below s _ _ _ (s₁.setTop (mkF m 5 #[.val (.int x0_2)] [(.int x0_2)]))
    refine own_step (fun t k => XS.bipush X0.here hx rfl (hb hby d2_5) k) ?_
    show own_Ends p.tables e below s _ _ _ (s₁.setTop (mkF m 7 #[.val (.int x0_2)] [(.int (127 : Int32)), (.int x0_2)]))
    by_cases hc7_2 : (127 : Int32) < x0_2
    · skip
      refine own_step (fun t k => XS.icmpNo X0.here hx rfl (hb hby d2_7) rfl (tlt hc7_2).2.2.2 k) ?_
      show own_Ends p.tables e below s _ _ _ (s₁.setTop (mkF m 10 #[.val (.int x0_2)] []))
      refine own_step (fun t k => XS.iconst X0.here hx rfl (hb hby d2_10) k) ?_
      show own_Ends p.tables e below s _ _ _ (s₁.setTop (mkF m 11 #[.val (.int x0_2)] [(.int (0 : Int32))]))
      exact own_retN X0 hx (t := .boolean) Bd.returns (by simp) (hb hby d2_11) hnl (by rw [e0]; exact ⟨(congrArg (fun z => some (Value.int z)) (Eq.symm (show (own_r2 x0_2) = (0 : Int32) from by unfold own_r2; rw [if_neg hc1_1, if_pos hc7_2]))), N0, rfl⟩) (by decide) (by decide)
    · skip
      refine own_step (fun t k => XS.icmpYes X0.here hx rfl (pc0 := 7) (pc' := 12) rfl (hb hby d2_7) rfl (flt hc7_2).2.2.2 (by decide) (by decide) k) ?_
      show own_Ends p.tables e below s _ _ _ (s₁.setTop (mkF m 12 #[.val (.int x0_2)] []))
      refine own_step (fun t k => XS.iloadN X0.here hx rfl (hb hby d2_12) rfl k) ?_
      show own_Ends p.tables e below s _ _ _ (s₁.setTop (mkF m 13 #[.val (.int x0_2)] [(.int x0_2)]))
      refine own_step (fun t k => XS.bipush X0.here hx rfl (hb hby d2_13) k) ?_
      show own_Ends p.tables e below s _ _ _ (s₁.setTop (mkF m 15 #[.val (.int x0_2)] [(.int (64 : Int32)), (.int x0_2)]))
      by_cases hc15_3 : x0_2 < (64 : Int32)
      · skip
        refine own_step (fun t k => XS.icmpNo X0.here hx rfl (hb hby d2_15) rfl (tlt hc15_3).2.1 k) ?_
        show own_Ends p.tables e below s _ _ _ (s₁.setTop (mkF m 18 #[.val (.int x0_2)] []))
        refine own_step (fun t k => X0.ldc2Long hx hown (mvT hZ (hw _ (List.mem_of_getElem? (i := 8) rfl))) (g := (mkF m 18 #[.val (.int x0_2)] [])) rfl (hb hby d2_18) _ k) ?_
        show own_Ends p.tables e below s _ _ _ (s₁.setTop (mkF m 21 #[.val (.int x0_2)] [(.long (288054454291267584 : Int64))]))
        refine own_step (fun t k => XS.iloadN X0.here hx rfl (hb hby d2_21) rfl k) ?_
        show own_Ends p.tables e below s _ _ _ (s₁.setTop (mkF m 22 #[.val (.int x0_2)] [(.int x0_2), (.long (288054454291267584 : Int64))]))
        refine own_step (fun t k => XS.lushr X0.here hx rfl (hb hby d2_22) rfl k) ?_
        show own_Ends p.tables e below s _ _ _ (s₁.setTop (mkF m 23 #[.val (.int x0_2)] [(.long (((288054454291267584 : Int64).toUInt64 >>> (x0_2 &&& 0x3f).toInt64.toUInt64).toInt64))]))
        refine own_step (fun t k => XS.lconst X0.here hx rfl (hb hby d2_23) k) ?_
        show own_Ends p.tables e below s _ _ _ (s₁.setTop (mkF m 24 #[.val (.int x0_2)] [(.long (1 : Int64)), (.long (((288054454291267584 : Int64).toUInt64 >>> (x0_2 &&& 0x3f).toInt64.toUInt64).toInt64))]))
        refine own_step (fun t k => XS.land X0.here hx rfl (hb hby d2_24) rfl k) ?_
        show own_Ends p.tables e below s _ _ _ (s₁.setTop (mkF m 25 #[.val (.int x0_2)] [(.long ((((288054454291267584 : Int64).toUInt64 >>> (x0_2 &&& 0x3f).toInt64.toUInt64).toInt64) &&& (1 : Int64)))]))
        refine own_step (fun t k => XS.lconst X0.here hx rfl (hb hby d2_25) k) ?_
        show own_Ends p.tables e below s _ _ _ (s₁.setTop (mkF m 26 #[.val (.int x0_2)] [(.long (0 : Int64)), (.long ((((288054454291267584 : Int64).toUInt64 >>> (x0_2 &&& 0x3f).toInt64.toUInt64).toInt64) &&& (1 : Int64)))]))
        refine own_step (fun t k => XS.lcmp X0.here hx rfl (hb hby d2_26) rfl k) ?_
        show own_Ends p.tables e below s _ _ _ (s₁.setTop (mkF m 27 #[.val (.int x0_2)] [(.int (lcmpW ((((288054454291267584 : Int64).toUInt64 >>> (x0_2 &&& 0x3f).toInt64.toUInt64).toInt64) &&& (1 : Int64)) (0 : Int64)))]))
        by_cases hc27_4 : (lcmpW ((((288054454291267584 : Int64).toUInt64 >>> (x0_2 &&& 0x3f).toInt64.toUInt64).toInt64) &&& (1 : Int64)) (0 : Int64)) = (0 : Int32)
        · skip
          refine own_step (fun t k => XS.ifYes X0.here hx rfl (pc0 := 27) (pc' := 34) rfl (hb hby d2_27) rfl ((if0 _ _).trans (teq hc27_4).1) (by decide) (by decide) k) ?_
          show own_Ends p.tables e below s _ _ _ (s₁.setTop (mkF m 34 #[.val (.int x0_2)] []))
          refine own_step (fun t k => XS.iconst X0.here hx rfl (hb hby d2_34) k) ?_
          show own_Ends p.tables e below s _ _ _ (s₁.setTop (mkF m 35 #[.val (.int x0_2)] [(.int (0 : Int32))]))
          exact own_retN X0 hx (t := .boolean) Bd.returns (by simp) (hb hby d2_35) hnl (by rw [e0]; exact ⟨(congrArg (fun z => some (Value.int z)) (Eq.symm (show (own_r2 x0_2) = (0 : Int32) from by unfold own_r2; rw [if_neg hc1_1, if_neg hc7_2, if_pos hc15_3, if_pos hc27_4]))), N0, rfl⟩) (by decide) (by decide)
        · skip
          refine own_step (fun t k => XS.ifNo X0.here hx rfl (hb hby d2_27) rfl ((if0 _ _).trans (feq hc27_4).1) k) ?_
          show own_Ends p.tables e below s _ _ _ (s₁.setTop (mkF m 30 #[.val (.int x0_2)] []))
          refine own_step (fun t k => XS.iconst X0.here hx rfl (hb hby d2_30) k) ?_
          show own_Ends p.tables e below s _ _ _ (s₁.setTop (mkF m 31 #[.val (.int x0_2)] [(.int (1 : Int32))]))
          refine own_step (fun t k => XS.goto X0.here hx rfl (pc0 := 31) (pc' := 35) rfl (hb hby d2_31) (by decide) (by decide) k) ?_
          show own_Ends p.tables e below s _ _ _ (s₁.setTop (mkF m 35 #[.val (.int x0_2)] [(.int (1 : Int32))]))
          exact own_retN X0 hx (t := .boolean) Bd.returns (by simp) (hb hby d2_35) hnl (by rw [e0]; exact ⟨(congrArg (fun z => some (Value.int z)) (Eq.symm (show (own_r2 x0_2) = (1 : Int32) from by unfold own_r2; rw [if_neg hc1_1, if_neg hc7_2, if_pos hc15_3, if_neg hc27_4]))), N0, rfl⟩) (by decide) (by decide)
      · skip
        refine own_step (fun t k => XS.icmpYes X0.here hx rfl (pc0 := 15) (pc' := 36) rfl (hb hby d2_15) rfl (flt hc15_3).2.1 (by decide) (by decide) k) ?_
        show own_Ends p.tables e below s _ _ _ (s₁.setTop (mkF m 36 #[.val (.int x0_2)] []))
        refine own_step (fun t k => X0.ldc2Long hx hown (mvT hZ (hw _ (List.mem_of_getElem? (i := 9) rfl))) (g := (mkF m 36 #[.val (.int x0_2)] [])) rfl (hb hby d2_36) _ k) ?_
        show own_Ends p.tables e below s _ _ _ (s₁.setTop (mkF m 39 #[.val (.int x0_2)] [(.long (5188146764422578174 : Int64))]))
        refine own_step (fun t k => XS.iloadN X0.here hx rfl (hb hby d2_39) rfl k) ?_
        show own_Ends p.tables e below s _ _ _ (s₁.setTop (mkF m 40 #[.val (.int x0_2)] [(.int x0_2), (.long (5188146764422578174 : Int64))]))
        refine own_step (fun t k => XS.bipush X0.here hx rfl (hb hby d2_40) k) ?_
        show own_Ends p.tables e below s _ _ _ (s₁.setTop (mkF m 42 #[.val (.int x0_2)] [(.int (64 : Int32)), (.int x0_2), (.long (5188146764422578174 : Int64))]))
        refine own_step (fun t k => XS.isub X0.here hx rfl (hb hby d2_42) rfl k) ?_
        show own_Ends p.tables e below s _ _ _ (s₁.setTop (mkF m 43 #[.val (.int x0_2)] [(.int (x0_2 - (64 : Int32))), (.long (5188146764422578174 : Int64))]))
        refine own_step (fun t k => XS.lushr X0.here hx rfl (hb hby d2_43) rfl k) ?_
        show own_Ends p.tables e below s _ _ _ (s₁.setTop (mkF m 44 #[.val (.int x0_2)] [(.long (((5188146764422578174 : Int64).toUInt64 >>> ((x0_2 - (64 : Int32)) &&& 0x3f).toInt64.toUInt64).toInt64))]))
        refine own_step (fun t k => XS.lconst X0.here hx rfl (hb hby d2_44) k) ?_
        show own_Ends p.tables e below s _ _ _ (s₁.setTop (mkF m 45 #[.val (.int x0_2)] [(.long (1 : Int64)), (.long (((5188146764422578174 : Int64).toUInt64 >>> ((x0_2 - (64 : Int32)) &&& 0x3f).toInt64.toUInt64).toInt64))]))
        refine own_step (fun t k => XS.land X0.here hx rfl (hb hby d2_45) rfl k) ?_
        show own_Ends p.tables e below s _ _ _ (s₁.setTop (mkF m 46 #[.val (.int x0_2)] [(.long ((((5188146764422578174 : Int64).toUInt64 >>> ((x0_2 - (64 : Int32)) &&& 0x3f).toInt64.toUInt64).toInt64) &&& (1 : Int64)))]))
        refine own_step (fun t k => XS.lconst X0.here hx rfl (hb hby d2_46) k) ?_
        show own_Ends p.tables e below s _ _ _ (s₁.setTop (mkF m 47 #[.val (.int x0_2)] [(.long (0 : Int64)), (.long ((((5188146764422578174 : Int64).toUInt64 >>> ((x0_2 - (64 : Int32)) &&& 0x3f).toInt64.toUInt64).toInt64) &&& (1 : Int64)))]))
        refine own_step (fun t k => XS.lcmp X0.here hx rfl (hb hby d2_47) rfl k) ?_
        show own_Ends p.tables e below s _ _ _ (s₁.setTop (mkF m 48 #[.val (.int x0_2)] [(.int (lcmpW ((((5188146764422578174 : Int64).toUInt64 >>> ((x0_2 - (64 : Int32)) &&& 0x3f).toInt64.toUInt64).toInt64) &&& (1 : Int64)) (0 : Int64)))]))
        by_cases hc48_5 : (lcmpW ((((5188146764422578174 : Int64).toUInt64 >>> ((x0_2 - (64 : Int32)) &&& 0x3f).toInt64.toUInt64).toInt64) &&& (1 : Int64)) (0 : Int64)) = (0 : Int32)
        · skip
          refine own_step (fun t k => XS.ifYes X0.here hx rfl (pc0 := 48) (pc' := 55) rfl (hb hby d2_48) rfl ((if0 _ _).trans (teq hc48_5).1) (by decide) (by decide) k) ?_
          show own_Ends p.tables e below s _ _ _ (s₁.setTop (mkF m 55 #[.val (.int x0_2)] []))
          refine own_step (fun t k => XS.iconst X0.here hx rfl (hb hby d2_55) k) ?_
          show own_Ends p.tables e below s _ _ _ (s₁.setTop (mkF m 56 #[.val (.int x0_2)] [(.int (0 : Int32))]))
          exact own_retN X0 hx (t := .boolean) Bd.returns (by simp) (hb hby d2_56) hnl (by rw [e0]; exact ⟨(congrArg (fun z => some (Value.int z)) (Eq.symm (show (own_r2 x0_2) = (0 : Int32) from by unfold own_r2; rw [if_neg hc1_1, if_neg hc7_2, if_neg hc15_3, if_pos hc48_5]))), N0, rfl⟩) (by decide) (by decide)
        · skip
          refine own_step (fun t k => XS.ifNo X0.here hx rfl (hb hby d2_48) rfl ((if0 _ _).trans (feq hc48_5).1) k) ?_
          show own_Ends p.tables e below s _ _ _ (s₁.setTop (mkF m 51 #[.val (.int x0_2)] []))
          refine own_step (fun t k => XS.iconst X0.here hx rfl (hb hby d2_51) k) ?_
          show own_Ends p.tables e below s _ _ _ (s₁.setTop (mkF m 52 #[.val (.int x0_2)] [(.int (1 : Int32))]))
          refine own_step (fun t k => XS.goto X0.here hx rfl (pc0 := 52) (pc' := 56) rfl (hb hby d2_52) (by decide) (by decide) k) ?_
          show own_Ends p.tables e below s _ _ _ (s₁.setTop (mkF m 56 #[.val (.int x0_2)] [(.int (1 : Int32))]))
          exact own_retN X0 hx (t := .boolean) Bd.returns (by simp) (hb hby d2_56) hnl (by rw [e0]; exact ⟨(congrArg (fun z => some (Value.int z)) (Eq.symm (show (own_r2 x0_2) = (1 : Int32) from by unfold own_r2; rw [if_neg hc1_1, if_neg hc7_2, if_neg hc15_3, if_neg hc48_5]))), N0, rfl⟩) (by decide) (by decide)
theorem own_low (n : Fin 128) : own_r1 (Int32.ofNat n.1) = own_r2 (Int32.ofNat n.1) := by
  revert n; decide +kernel
set_option maxHeartbeats 8000000 in
theorem own_all (v : Int32) : own_r1 v = own_r2 v := by
  by_cases h1 : v < 0
  · have e2 : own_r2 v = 0 := by unfold own_r2; rw [if_pos h1]
    rw [e2]; unfold own_r1
    repeat' split
    all_goals first | rfl | (exfalso; simp only [Int32.lt_iff_toInt_lt, ← Int32.toInt_inj] at *; simp at *; omega)
  by_cases h2 : v < 128
  · obtain ⟨n, rfl⟩ := own_small v 128 (by decide) h1 h2
    exact own_low n
  have h3 : (127 : Int32) < v := by simp only [Int32.lt_iff_toInt_lt] at *; simp at *; omega
  have e2 : own_r2 v = 0 := by unfold own_r2; rw [if_neg h1, if_pos h3]
  rw [e2]; unfold own_r1
  repeat' split
  all_goals first | rfl | (exfalso; simp only [Int32.lt_iff_toInt_lt, ← Int32.toInt_inj] at *; simp at *; omega)

theorem pd_0 : parseMethodDescriptor "(I)Z" = some ⟨[.int], some .boolean⟩ := by decide +kernel
theorem ef_0 (m : MethodId) (x0_0 : Int32) (x1_0 : Int32) : entryFrame m #[(.int x0_0), (.int x1_0)] maxLocals = mkF m 0 #[.val (.int x0_0), .val (.int x1_0), .unset, .unset] [] := by first | (simp [entryFrame, mkF, argsToLocals, Value.category, maxLocals]; done) | rfl
def Q0 (Z : State) (x0_0 : Int32) (x1_0 : Int32) (h0 : Heap) (n0 : Nat) (v : Option Value) (h : Heap) (L : List Loc) : Prop := v = some (.int 1) ∧ Fr n0 L
set_option maxRecDepth 65536 in
set_option maxHeartbeats 40000000 in
theorem rm0 (l : Launch) (Z : State) (a0 : Array Value) (hw : ∀ d ∈ tables_1, d.before a0 Z = true) (ws : List Jvm.Cond) (x0_0 : Int32) (x1_0 : Int32) (h0 : Heap) (n0 : Nat) (O0 : Old Z n0 h0) :
    MetFree l x (head1 (Jvm.Cond.code x code maxLocals ret :: ws) room_1) (fun a U => a = #[(.int x0_0), (.int x1_0)] ∧ Z.Warmed39 U.vm ∧ U.heap = h0) (fun _ _ _ _ _ => True) (fun _ U o U' => ∃ v L, o = .returned v ∧ Q0 Z x0_0 x1_0 h0 n0 v U'.heap L ∧ FrameEnd U o U' L 0 0) := by
  refine MetFree.of_bodySF (plainFor_of_name pn_1) hisR ?_
  intro p e s m args below meth c s₁ Bd hml0 hP hK
  obtain ⟨rfl, hZ, hh⟩ := hP
  have hx := Bd.exec
  have hby := Bd.bytes
  have hnl := BodyLoose.notSynchronized Bd
  have hml : c.maxLocals = 4 := hml0
  have hown : s.vm.findClass "com/example/navigable_rest/navigablerest/PercentEncodingIsUnreservedPinLaw" = some m.cls := findClass_of_methodNamed Bd.named
  have hnm := (name_of_methodNamed Bd.named Bd.method).1
  have X0 : Stand p l e room_1 s m #[(.int x0_0), (.int x1_0)] below meth c s₁ [] 0 0 := Stand.of_body Bd
  have e0 : s₁.heap = h0 := by rw [← hh, Bd.state]; rfl
  have N0 := Fr.nil n0
  show own_Ends p.tables e below s (Q0 Z x0_0 x1_0 h0 n0) 0 0 (s₁.setTop (entryFrame m #[(.int x0_0), (.int x1_0)] maxLocals))
  rw [ef_0 m x0_0 x1_0]
  show own_Ends p.tables e below s _ _ _ (s₁.setTop (mkF m 0 #[.val (.int x0_0), .val (.int x1_0), .unset, .unset] []))
  refine own_step (fun t k => XS.iloadN X0.here hx rfl (hb hby at_0) rfl k) ?_
  show own_Ends p.tables e below s _ _ _ (s₁.setTop (mkF m 1 #[.val (.int x0_0), .val (.int x1_0), .unset, .unset] [(.int x1_0)]))
  refine own_step (fun t k => XS.iconst X0.here hx rfl (hb hby at_1) k) ?_
  show own_Ends p.tables e below s _ _ _ (s₁.setTop (mkF m 2 #[.val (.int x0_0), .val (.int x1_0), .unset, .unset] [(.int (1 : Int32)), (.int x1_0)]))
  refine own_step (fun t k => XS.iand X0.here hx rfl (hb hby at_2) rfl k) ?_
  show own_Ends p.tables e below s _ _ _ (s₁.setTop (mkF m 3 #[.val (.int x0_0), .val (.int x1_0), .unset, .unset] [(.int (x1_0 &&& (1 : Int32)))]))
  by_cases hc3_1 : (x1_0 &&& (1 : Int32)) = (0 : Int32)
  · skip
    refine own_step (fun t k => XS.ifYes X0.here hx rfl (pc0 := 3) (pc' := 10) rfl (hb hby at_3) rfl ((if0 _ _).trans (teq hc3_1).1) (by decide) (by decide) k) ?_
    show own_Ends p.tables e below s _ _ _ (s₁.setTop (mkF m 10 #[.val (.int x0_0), .val (.int x1_0), .unset, .unset] []))
    refine own_step (fun t k => XS.iconst X0.here hx rfl (hb hby at_10) k) ?_
    show own_Ends p.tables e below s _ _ _ (s₁.setTop (mkF m 11 #[.val (.int x0_0), .val (.int x1_0), .unset, .unset] [(.int (0 : Int32))]))
    refine own_step (fun t k => XS.istoreN X0.here hx rfl (hb hby at_11) rfl (l' := #[.val (.int x0_0), .val (.int x1_0), .val (.int (0 : Int32)), .unset]) rfl k) ?_
    show own_Ends p.tables e below s _ _ _ (s₁.setTop (mkF m 12 #[.val (.int x0_0), .val (.int x1_0), .val (.int (0 : Int32)), .unset] []))
    refine own_step (fun t k => XS.iloadN X0.here hx rfl (hb hby at_12) rfl k) ?_
    show own_Ends p.tables e below s _ _ _ (s₁.setTop (mkF m 13 #[.val (.int x0_0), .val (.int x1_0), .val (.int (0 : Int32)), .unset] [(.int (0 : Int32))]))
    refine own_step (fun t k => XS.ifYes X0.here hx rfl (pc0 := 13) (pc' := 20) rfl (hb hby at_13) rfl ((if0 _ _).trans (teq (by decide : (0 : Int32) = (0 : Int32))).1) (by decide) (by decide) k) ?_
    show own_Ends p.tables e below s _ _ _ (s₁.setTop (mkF m 20 #[.val (.int x0_0), .val (.int x1_0), .val (.int (0 : Int32)), .unset] []))
    refine own_step (fun t k => XS.iloadN X0.here hx rfl (hb hby at_20) rfl k) ?_
    show own_Ends p.tables e below s _ _ _ (s₁.setTop (mkF m 21 #[.val (.int x0_0), .val (.int x1_0), .val (.int (0 : Int32)), .unset] [(.int x0_0)]))
    refine own_step (fun t k => XS.sipush X0.here hx rfl (hb hby at_21) k) ?_
    show own_Ends p.tables e below s _ _ _ (s₁.setTop (mkF m 24 #[.val (.int x0_0), .val (.int x1_0), .val (.int (0 : Int32)), .unset] [(.int (255 : Int32)), (.int x0_0)]))
    refine own_step (fun t k => XS.iand X0.here hx rfl (hb hby at_24) rfl k) ?_
    show own_Ends p.tables e below s _ _ _ (s₁.setTop (mkF m 25 #[.val (.int x0_0), .val (.int x1_0), .val (.int (0 : Int32)), .unset] [(.int (x0_0 &&& (255 : Int32)))]))
    refine own_step (fun t k => XS.istoreN X0.here hx rfl (hb hby at_25) rfl (l' := #[.val (.int x0_0), .val (.int x1_0), .val (.int (0 : Int32)), .val (.int (x0_0 &&& (255 : Int32)))]) rfl k) ?_
    show own_Ends p.tables e below s _ _ _ (s₁.setTop (mkF m 26 #[.val (.int x0_0), .val (.int x1_0), .val (.int (0 : Int32)), .val (.int (x0_0 &&& (255 : Int32)))] []))
    refine own_step (fun t k => XS.iloadN X0.here hx rfl (hb hby at_26) rfl k) ?_
    show own_Ends p.tables e below s _ _ _ (s₁.setTop (mkF m 27 #[.val (.int x0_0), .val (.int x1_0), .val (.int (0 : Int32)), .val (.int (x0_0 &&& (255 : Int32)))] [(.int (x0_0 &&& (255 : Int32)))]))
    obtain ⟨_, _, ⟨T2, L2, k2, n2⟩, -, X2, ⟨Lc2, hQ2, l2, y2, z2⟩, st2⟩ := Jvm.LawKit.callS X0 hx (y := (⟨"com/example/navigable_rest/navigablerest/PercentEncoding", "isUnreserved", "(I)Z"⟩ : MethodName)) hown (mvT hZ (hw _ (List.mem_of_getElem? (i := 0) rfl))) (mvT hZ (hw _ (List.mem_of_getElem? (i := 1) rfl))) (mvT hZ (hw _ (List.mem_of_getElem? (i := 2) rfl))) (mvT hZ (hw _ (List.mem_of_getElem? (i := 3) rfl))) (by decide) (backOf (W := 0) (rm1 l Z a0 hw [] (x0_0 &&& (255 : Int32)) h0 n0 O0 ) hZ (hw _ (List.mem_of_getElem? (i := 3) rfl)) (hw _ (List.mem_of_getElem? (i := 2) rfl)) (by decide) (by decide)) (g := (mkF m 27 #[.val (.int x0_0), .val (.int x1_0), .val (.int (0 : Int32)), .val (.int (x0_0 &&& (255 : Int32)))] [(.int (x0_0 &&& (255 : Int32)))])) rfl (by rw [hml]; rfl) (argsL := [(.int (x0_0 &&& (255 : Int32)))]) (rest := []) (lenOf pd_0 rfl) rfl (by show 2 * 0 + _ ≤ _; exact Nat.le_of_eq rfl) (hb hby at_27) (fun _ _ => ⟨rfl, e0, (by decide : 0 + 0 ≤ _), (by decide : 0 + 0 ≤ _)⟩)
    dsimp only [Pt.U, Pt.locs, Pt.cells, Pt.slots] at X2 l2 y2 z2 st2 hQ2
    subst l2 y2 z2
    obtain ⟨rfl, N2q, e2⟩ := hQ2
    refine own_step (fun t k => st2 _ k) ?_
    have N3 := Fr.app N0 N2q
    show own_Ends p.tables e below s _ _ _ (T2.setTop (mkF m 30 #[.val (.int x0_0), .val (.int x1_0), .val (.int (0 : Int32)), .val (.int (x0_0 &&& (255 : Int32)))] [(.int (own_r1 (x0_0 &&& (255 : Int32))))]))
    refine own_step (fun t k => XS.iloadN X2.here hx rfl (hb hby at_30) rfl k) ?_
    show own_Ends p.tables e below s _ _ _ (T2.setTop (mkF m 31 #[.val (.int x0_0), .val (.int x1_0), .val (.int (0 : Int32)), .val (.int (x0_0 &&& (255 : Int32)))] [(.int (x0_0 &&& (255 : Int32))), (.int (own_r1 (x0_0 &&& (255 : Int32))))]))
    obtain ⟨_, _, ⟨T4, L4, k4, n4⟩, -, X4, ⟨Lc4, hQ4, l4, y4, z4⟩, st4⟩ := Jvm.LawKit.callS X2 hx (y := (⟨"com/example/navigable_rest/navigablerest/PercentEncodingIsUnreservedPinLaw", "reference", "(I)Z"⟩ : MethodName)) hown (mvT hZ (hw _ (List.mem_of_getElem? (i := 4) rfl))) (mvT hZ (hw _ (List.mem_of_getElem? (i := 5) rfl))) (mvT hZ (hw _ (List.mem_of_getElem? (i := 6) rfl))) (mvT hZ (hw _ (List.mem_of_getElem? (i := 7) rfl))) (by decide) (backOf (W := 1) (rm2 l Z a0 hw [] (x0_0 &&& (255 : Int32)) h0 n0 O0 ) hZ (hw _ (List.mem_of_getElem? (i := 7) rfl)) (hw _ (List.mem_of_getElem? (i := 6) rfl)) (by decide) (by decide)) (g := (mkF m 31 #[.val (.int x0_0), .val (.int x1_0), .val (.int (0 : Int32)), .val (.int (x0_0 &&& (255 : Int32)))] [(.int (x0_0 &&& (255 : Int32))), (.int (own_r1 (x0_0 &&& (255 : Int32))))])) rfl (by rw [hml]; rfl) (argsL := [(.int (x0_0 &&& (255 : Int32)))]) (rest := [(.int (own_r1 (x0_0 &&& (255 : Int32))))]) (lenOf pd_0 rfl) rfl (by show 2 * 0 + _ ≤ _; exact Nat.le_of_eq rfl) (hb hby at_31) (fun _ _ => ⟨rfl, e2, (by decide : 0 + 0 ≤ _), (by decide : 0 + 0 ≤ _)⟩)
    dsimp only [Pt.U, Pt.locs, Pt.cells, Pt.slots] at X4 l4 y4 z4 st4 hQ4
    subst l4 y4 z4
    obtain ⟨rfl, N4q, e4⟩ := hQ4
    refine own_step (fun t k => st4 _ k) ?_
    have N5 := Fr.app N3 N4q
    show own_Ends p.tables e below s _ _ _ (T4.setTop (mkF m 34 #[.val (.int x0_0), .val (.int x1_0), .val (.int (0 : Int32)), .val (.int (x0_0 &&& (255 : Int32)))] [(.int (own_r2 (x0_0 &&& (255 : Int32)))), (.int (own_r1 (x0_0 &&& (255 : Int32))))]))
    by_cases hc34_6 : (own_r1 (x0_0 &&& (255 : Int32))) = (own_r2 (x0_0 &&& (255 : Int32)))
    · skip
      refine own_step (fun t k => XS.icmpNo X4.here hx rfl (hb hby at_34) rfl (teq hc34_6).2 k) ?_
      show own_Ends p.tables e below s _ _ _ (T4.setTop (mkF m 37 #[.val (.int x0_0), .val (.int x1_0), .val (.int (0 : Int32)), .val (.int (x0_0 &&& (255 : Int32)))] []))
      refine own_step (fun t k => XS.iconst X4.here hx rfl (hb hby at_37) k) ?_
      show own_Ends p.tables e below s _ _ _ (T4.setTop (mkF m 38 #[.val (.int x0_0), .val (.int x1_0), .val (.int (0 : Int32)), .val (.int (x0_0 &&& (255 : Int32)))] [(.int (1 : Int32))]))
      refine own_step (fun t k => XS.goto X4.here hx rfl (pc0 := 38) (pc' := 42) rfl (hb hby at_38) (by decide) (by decide) k) ?_
      show own_Ends p.tables e below s _ _ _ (T4.setTop (mkF m 42 #[.val (.int x0_0), .val (.int x1_0), .val (.int (0 : Int32)), .val (.int (x0_0 &&& (255 : Int32)))] [(.int (1 : Int32))]))
      exact own_retN X4 hx (t := .boolean) Bd.returns (by simp) (hb hby at_42) hnl (by rw [e4]; exact ⟨rfl, N5⟩) (by decide) (by decide)
    · skip
      refine own_step (fun t k => XS.icmpYes X4.here hx rfl (pc0 := 34) (pc' := 41) rfl (hb hby at_34) rfl (feq hc34_6).2 (by decide) (by decide) k) ?_
      show own_Ends p.tables e below s _ _ _ (T4.setTop (mkF m 41 #[.val (.int x0_0), .val (.int x1_0), .val (.int (0 : Int32)), .val (.int (x0_0 &&& (255 : Int32)))] []))
      refine own_step (fun t k => XS.iconst X4.here hx rfl (hb hby at_41) k) ?_
      show own_Ends p.tables e below s _ _ _ (T4.setTop (mkF m 42 #[.val (.int x0_0), .val (.int x1_0), .val (.int (0 : Int32)), .val (.int (x0_0 &&& (255 : Int32)))] [(.int (0 : Int32))]))
      exfalso
      exact hc34_6 (own_all _)
  · skip
    refine own_step (fun t k => XS.ifNo X0.here hx rfl (hb hby at_3) rfl ((if0 _ _).trans (feq hc3_1).1) k) ?_
    show own_Ends p.tables e below s _ _ _ (s₁.setTop (mkF m 6 #[.val (.int x0_0), .val (.int x1_0), .unset, .unset] []))
    refine own_step (fun t k => XS.iconst X0.here hx rfl (hb hby at_6) k) ?_
    show own_Ends p.tables e below s _ _ _ (s₁.setTop (mkF m 7 #[.val (.int x0_0), .val (.int x1_0), .unset, .unset] [(.int (1 : Int32))]))
    refine own_step (fun t k => XS.goto X0.here hx rfl (pc0 := 7) (pc' := 11) rfl (hb hby at_7) (by decide) (by decide) k) ?_
    show own_Ends p.tables e below s _ _ _ (s₁.setTop (mkF m 11 #[.val (.int x0_0), .val (.int x1_0), .unset, .unset] [(.int (1 : Int32))]))
    refine own_step (fun t k => XS.istoreN X0.here hx rfl (hb hby at_11) rfl (l' := #[.val (.int x0_0), .val (.int x1_0), .val (.int (1 : Int32)), .unset]) rfl k) ?_
    show own_Ends p.tables e below s _ _ _ (s₁.setTop (mkF m 12 #[.val (.int x0_0), .val (.int x1_0), .val (.int (1 : Int32)), .unset] []))
    refine own_step (fun t k => XS.iloadN X0.here hx rfl (hb hby at_12) rfl k) ?_
    show own_Ends p.tables e below s _ _ _ (s₁.setTop (mkF m 13 #[.val (.int x0_0), .val (.int x1_0), .val (.int (1 : Int32)), .unset] [(.int (1 : Int32))]))
    refine own_step (fun t k => XS.ifNo X0.here hx rfl (hb hby at_13) rfl ((if0 _ _).trans (feq (by decide : ¬ ((1 : Int32) = (0 : Int32)))).1) k) ?_
    show own_Ends p.tables e below s _ _ _ (s₁.setTop (mkF m 16 #[.val (.int x0_0), .val (.int x1_0), .val (.int (1 : Int32)), .unset] []))
    refine own_step (fun t k => XS.iloadN X0.here hx rfl (hb hby at_16) rfl k) ?_
    show own_Ends p.tables e below s _ _ _ (s₁.setTop (mkF m 17 #[.val (.int x0_0), .val (.int x1_0), .val (.int (1 : Int32)), .unset] [(.int x0_0)]))
    refine own_step (fun t k => XS.goto X0.here hx rfl (pc0 := 17) (pc' := 25) rfl (hb hby at_17) (by decide) (by decide) k) ?_
    show own_Ends p.tables e below s _ _ _ (s₁.setTop (mkF m 25 #[.val (.int x0_0), .val (.int x1_0), .val (.int (1 : Int32)), .unset] [(.int x0_0)]))
    refine own_step (fun t k => XS.istoreN X0.here hx rfl (hb hby at_25) rfl (l' := #[.val (.int x0_0), .val (.int x1_0), .val (.int (1 : Int32)), .val (.int x0_0)]) rfl k) ?_
    show own_Ends p.tables e below s _ _ _ (s₁.setTop (mkF m 26 #[.val (.int x0_0), .val (.int x1_0), .val (.int (1 : Int32)), .val (.int x0_0)] []))
    refine own_step (fun t k => XS.iloadN X0.here hx rfl (hb hby at_26) rfl k) ?_
    show own_Ends p.tables e below s _ _ _ (s₁.setTop (mkF m 27 #[.val (.int x0_0), .val (.int x1_0), .val (.int (1 : Int32)), .val (.int x0_0)] [(.int x0_0)]))
    obtain ⟨_, _, ⟨T7, L7, k7, n7⟩, -, X7, ⟨Lc7, hQ7, l7, y7, z7⟩, st7⟩ := Jvm.LawKit.callS X0 hx (y := (⟨"com/example/navigable_rest/navigablerest/PercentEncoding", "isUnreserved", "(I)Z"⟩ : MethodName)) hown (mvT hZ (hw _ (List.mem_of_getElem? (i := 0) rfl))) (mvT hZ (hw _ (List.mem_of_getElem? (i := 1) rfl))) (mvT hZ (hw _ (List.mem_of_getElem? (i := 2) rfl))) (mvT hZ (hw _ (List.mem_of_getElem? (i := 3) rfl))) (by decide) (backOf (W := 0) (rm1 l Z a0 hw [] x0_0 h0 n0 O0 ) hZ (hw _ (List.mem_of_getElem? (i := 3) rfl)) (hw _ (List.mem_of_getElem? (i := 2) rfl)) (by decide) (by decide)) (g := (mkF m 27 #[.val (.int x0_0), .val (.int x1_0), .val (.int (1 : Int32)), .val (.int x0_0)] [(.int x0_0)])) rfl (by rw [hml]; rfl) (argsL := [(.int x0_0)]) (rest := []) (lenOf pd_0 rfl) rfl (by show 2 * 0 + _ ≤ _; exact Nat.le_of_eq rfl) (hb hby at_27) (fun _ _ => ⟨rfl, e0, (by decide : 0 + 0 ≤ _), (by decide : 0 + 0 ≤ _)⟩)
    dsimp only [Pt.U, Pt.locs, Pt.cells, Pt.slots] at X7 l7 y7 z7 st7 hQ7
    subst l7 y7 z7
    obtain ⟨rfl, N7q, e7⟩ := hQ7
    refine own_step (fun t k => st7 _ k) ?_
    have N8 := Fr.app N0 N7q
    show own_Ends p.tables e below s _ _ _ (T7.setTop (mkF m 30 #[.val (.int x0_0), .val (.int x1_0), .val (.int (1 : Int32)), .val (.int x0_0)] [(.int (own_r1 x0_0))]))
    refine own_step (fun t k => XS.iloadN X7.here hx rfl (hb hby at_30) rfl k) ?_
    show own_Ends p.tables e below s _ _ _ (T7.setTop (mkF m 31 #[.val (.int x0_0), .val (.int x1_0), .val (.int (1 : Int32)), .val (.int x0_0)] [(.int x0_0), (.int (own_r1 x0_0))]))
    obtain ⟨_, _, ⟨T9, L9, k9, n9⟩, -, X9, ⟨Lc9, hQ9, l9, y9, z9⟩, st9⟩ := Jvm.LawKit.callS X7 hx (y := (⟨"com/example/navigable_rest/navigablerest/PercentEncodingIsUnreservedPinLaw", "reference", "(I)Z"⟩ : MethodName)) hown (mvT hZ (hw _ (List.mem_of_getElem? (i := 4) rfl))) (mvT hZ (hw _ (List.mem_of_getElem? (i := 5) rfl))) (mvT hZ (hw _ (List.mem_of_getElem? (i := 6) rfl))) (mvT hZ (hw _ (List.mem_of_getElem? (i := 7) rfl))) (by decide) (backOf (W := 1) (rm2 l Z a0 hw [] x0_0 h0 n0 O0 ) hZ (hw _ (List.mem_of_getElem? (i := 7) rfl)) (hw _ (List.mem_of_getElem? (i := 6) rfl)) (by decide) (by decide)) (g := (mkF m 31 #[.val (.int x0_0), .val (.int x1_0), .val (.int (1 : Int32)), .val (.int x0_0)] [(.int x0_0), (.int (own_r1 x0_0))])) rfl (by rw [hml]; rfl) (argsL := [(.int x0_0)]) (rest := [(.int (own_r1 x0_0))]) (lenOf pd_0 rfl) rfl (by show 2 * 0 + _ ≤ _; exact Nat.le_of_eq rfl) (hb hby at_31) (fun _ _ => ⟨rfl, e7, (by decide : 0 + 0 ≤ _), (by decide : 0 + 0 ≤ _)⟩)
    dsimp only [Pt.U, Pt.locs, Pt.cells, Pt.slots] at X9 l9 y9 z9 st9 hQ9
    subst l9 y9 z9
    obtain ⟨rfl, N9q, e9⟩ := hQ9
    refine own_step (fun t k => st9 _ k) ?_
    have N10 := Fr.app N8 N9q
    show own_Ends p.tables e below s _ _ _ (T9.setTop (mkF m 34 #[.val (.int x0_0), .val (.int x1_0), .val (.int (1 : Int32)), .val (.int x0_0)] [(.int (own_r2 x0_0)), (.int (own_r1 x0_0))]))
    by_cases hc34_11 : (own_r1 x0_0) = (own_r2 x0_0)
    · skip
      refine own_step (fun t k => XS.icmpNo X9.here hx rfl (hb hby at_34) rfl (teq hc34_11).2 k) ?_
      show own_Ends p.tables e below s _ _ _ (T9.setTop (mkF m 37 #[.val (.int x0_0), .val (.int x1_0), .val (.int (1 : Int32)), .val (.int x0_0)] []))
      refine own_step (fun t k => XS.iconst X9.here hx rfl (hb hby at_37) k) ?_
      show own_Ends p.tables e below s _ _ _ (T9.setTop (mkF m 38 #[.val (.int x0_0), .val (.int x1_0), .val (.int (1 : Int32)), .val (.int x0_0)] [(.int (1 : Int32))]))
      refine own_step (fun t k => XS.goto X9.here hx rfl (pc0 := 38) (pc' := 42) rfl (hb hby at_38) (by decide) (by decide) k) ?_
      show own_Ends p.tables e below s _ _ _ (T9.setTop (mkF m 42 #[.val (.int x0_0), .val (.int x1_0), .val (.int (1 : Int32)), .val (.int x0_0)] [(.int (1 : Int32))]))
      exact own_retN X9 hx (t := .boolean) Bd.returns (by simp) (hb hby at_42) hnl (by rw [e9]; exact ⟨rfl, N10⟩) (by decide) (by decide)
    · skip
      refine own_step (fun t k => XS.icmpYes X9.here hx rfl (pc0 := 34) (pc' := 41) rfl (hb hby at_34) rfl (feq hc34_11).2 (by decide) (by decide) k) ?_
      show own_Ends p.tables e below s _ _ _ (T9.setTop (mkF m 41 #[.val (.int x0_0), .val (.int x1_0), .val (.int (1 : Int32)), .val (.int x0_0)] []))
      refine own_step (fun t k => XS.iconst X9.here hx rfl (hb hby at_41) k) ?_
      show own_Ends p.tables e below s _ _ _ (T9.setTop (mkF m 42 #[.val (.int x0_0), .val (.int x1_0), .val (.int (1 : Int32)), .val (.int x0_0)] [(.int (0 : Int32))]))
      exfalso
      exact hc34_11 (own_all _)
set_option maxRecDepth 65536 in
set_option maxHeartbeats 40000000 in
theorem comes_1 {Post : Tables → Env → Array Value → State → Outcome → State → Prop} (hpost : ∀ tb e args s v u, (limb_1_1.after args s (.returned v) u = true ∧ limb_1_2.after args s (.returned v) u = true ∧ True) → FrameEnd s (.returned v) u (Jvm.fieldLocs frame_1_writes args s ++ Jvm.arrayLocs frame_1_arrays args s ++ Jvm.staticLocs frame_1_statics s) 0 0 → Post tb e args s (.returned v) u) :
    ArmFor flags0 classFile x code maxLocals ret World_1 tables_1 room_1 Calls_1 rest_1 Pre_1 Post := by
  intro l hfl _ _ p e ha hc hk s m args below hf hA hF happ hP
  obtain ⟨hcalls, hrest, hpre⟩ := hP
  obtain ⟨-, -, -, hnamed, -, -, -, hat⟩ := (Spec.applies_iff hf).mp happ
  obtain ⟨hg, hn⟩ := and_e (Cond.before_iff.mp (show (Jvm.Cond.and given_1 narrow_1).before args s = true from hpre))
  obtain ⟨hh1a, hh1b⟩ := and_e hg
  obtain ⟨hh2a, hh2b⟩ := and_e hh1b
  obtain ⟨w0, w1, rfl⟩ : ∃ w0 w1 : Value, args = #[w0, w1] := by
    have hs : args.size = 2 := by simpa [Cond.value, given_1] using hh1a
    obtain ⟨L⟩ := args
    match L, hs with
    | [w0, w1], _ => exact ⟨w0, w1, rfl⟩
  have hw := fun d (hd : d ∈ tables_1) => atoms_spec (ws := Jvm.Cond.code x code maxLocals ret :: tables_1) hat d (List.mem_cons_of_mem _ hd)
  have hfit : Fit s := fun {y c} hc i hi => by
    obtain ⟨ha, rfl⟩ := Array.getElem?_eq_some_iff.mp hc
    have q := List.all_eq_true.mp ((Array.all_eq_true_iff_forall_mem.mp hF) _ (Array.getElem_mem ha)) i (List.mem_range.mpr hi)
    simpa [Array.getElem?_eq_getElem hi] using q
  obtain ⟨i0, ei0⟩ := is_v hh2a
  obtain rfl : w0 = (.int i0) := Option.some.inj ei0
  obtain ⟨i1, ei1⟩ := is_v hh2b
  obtain rfl : w1 = (.int i1) := Option.some.inj ei1
  obtain ⟨n, o, h1, h2, h3, _, L, rfl, ⟨rfl, N⟩, hq⟩ := rm0 l s _ hw tables_1 i0 i1 s.heap s.heap.size (Old.start s) p e ha hc hk s m _ below hf ((Spec.applies_iff_loose hf).mp happ).1 ⟨rfl, State.Warmed39.refl s, rfl⟩ trivial
  refine ⟨n, _, h1, h2, h3, hpost _ _ _ _ _ _ ⟨Cond.after_iff.mpr rfl, Cond.after_iff.mpr (eq_i res_at (Term.int_eval (1)) rfl), trivial⟩ ⟨hq.1, hq.2.1, (hq.2.2.sift fun y hy => Or.inr (N y hy)).mono (by decide) (by decide)⟩⟩
theorem main_1_1 : Claimed_1_1 := comes_1 fun _ _ _ _ _ _ h hF => ⟨h.1, hF⟩
theorem main_1_2 : Claimed_1_2 := comes_1 fun _ _ _ _ _ _ h hF => ⟨h.2.1, hF⟩
end Jvm.Pilot.@@N@@
namespace Jvm.Pilot.@@N@@
open Jvm Jvm.ClassFile Sem Op Lib Jvm.Free Jvm.Stand Jvm.Pilot.@@N@@.Jvm.D
/-! MADE BY PROGRAM (witnessworld.py) out of the Statement's table words and the real class files: 9 classes; the members and pool entries that the words name. The judged class is class 1, her method 2. -/
namespace start1
open Jvm.ClassFile
def u (s : String) : CpInfo := .utf8 (stringToUtf16 s)
/-- a pool by its gaps: so many unusable entries, then the entry; so many at the end -/
def gap : Nat → List CpInfo → List CpInfo
  | 0, r => r
  | n + 1, r => .unusable :: gap n r
def poolList (es : List (Nat × CpInfo)) (last : Nat) : List CpInfo := es.foldr (fun e r => gap e.1 (e.2 :: r)) (gap last [])
def pool (es : List (Nat × CpInfo)) (last : Nat) : Array CpInfo := ⟨poolList es last⟩
def fileOf (pool : Array CpInfo) (this : Nat) (attrs : Array Attribute := #[]) (ms : Array MethodInfo := #[]) (fl : Nat := 33) (sup : Nat := 0) (ifs : Array Nat := #[]) (fds : Array FieldInfo := #[]) : ClassFile where
  minorVersion := 0
  majorVersion := 65
  constantPool := pool
  accessFlags := fl
  thisClass := this
  superClass := sup
  interfaces := ifs
  fields := fds
  methods := ms
  attributes := attrs
def plain (name : String) (sup : Option ClassId) : Class where
  name := name
  kind := .ordinary
  loader := none
  accessFlags := 33
  super := sup
  interfaces := #[]
  cf := none
  fields := #[]
  methods := #[]
  instanceTypes := #[]
  staticTypes := #[]
  resolved := #[]
  callSites := []
  init := .initialized
  statics := none
  mirror := none

def pool0 : Array CpInfo := pool [(5, u "<init>"), (0, u "()V"), (1, .class_ 10), (1, u "java/lang/Object")] 113

def k0m0 : Method := { name := "<init>", desc := "()V", sig := { parameters := [], returnType := none }, accessFlags := 1, code := none }
/-- java/lang/Object -/
def k0 : Class := { plain "java/lang/Object" none with
  accessFlags := 33
  interfaces := #[]
  cf := some (fileOf pool0 8 #[] #[{ accessFlags := 1, nameIndex := 5, descriptorIndex := 6, attributes := #[] }] 33 0 #[] #[])
  fields := #[]
  methods := #[k0m0]
  instanceTypes := #[]
  staticTypes := #[]
  resolved := Array.replicate 124 none
  statics := none }

def pool1 : Array CpInfo := pool [(2, .class_ 4), (1, u "java/lang/Object"), (0, u "<init>"), (0, u "()V"), (0, .class_ 8), (0, u "com/example/navigable_rest/navigablerest/PercentEncodingIsUnreservedPinLaw"), (0, .long 288054454291267584), (1, .long 5188146764422578174), (1, .methodref 14 15), (0, .class_ 16), (0, .nameAndType 17 18), (0, u "com/example/navigable_rest/navigablerest/PercentEncoding"), (0, u "isUnreserved"), (0, u "(I)Z"), (0, .methodref 7 20), (0, .nameAndType 21 18), (0, u "reference"), (0, u "LOW"), (0, u "J"), (1, u "HIGH"), (3, u "law"), (0, u "(II)Z")] 2

def k1m0 : Method := { name := "<init>", desc := "()V", sig := { parameters := [], returnType := none }, accessFlags := 2, code := none }
def k1c1 : Code := { maxStack := 4, maxLocals := 1, code := method_2_code, exceptionTable := #[], attributes := #[] }
def k1m1 : Method := { name := "reference", desc := "(I)Z", sig := { parameters := [.int], returnType := some .boolean }, accessFlags := 10, code := some k1c1 }
def k1c2 : Code := { maxStack := 2, maxLocals := 4, code := code, exceptionTable := #[], attributes := #[] }
def k1m2 : Method := { name := "law", desc := "(II)Z", sig := { parameters := [.int, .int], returnType := some .boolean }, accessFlags := 9, code := some k1c2 }
/-- com/example/navigable_rest/navigablerest/PercentEncodingIsUnreservedPinLaw -/
def k1 : Class := { plain "com/example/navigable_rest/navigablerest/PercentEncodingIsUnreservedPinLaw" (some 0) with
  accessFlags := 49
  interfaces := #[]
  cf := some (fileOf pool1 7 #[] #[{ accessFlags := 2, nameIndex := 5, descriptorIndex := 6, attributes := #[] }, { accessFlags := 10, nameIndex := 21, descriptorIndex := 18, attributes := #[] }, { accessFlags := 9, nameIndex := 29, descriptorIndex := 30, attributes := #[] }] 49 2 #[] #[{ accessFlags := 26, nameIndex := 22, descriptorIndex := 23, attributes := #[] }, { accessFlags := 26, nameIndex := 25, descriptorIndex := 23, attributes := #[] }])
  fields := #[{ name := "LOW", type := .long, accessFlags := 26, slot := 0, constantValue := 0 }, { name := "HIGH", type := .long, accessFlags := 26, slot := 1, constantValue := 0 }]
  methods := #[k1m0, k1m1, k1m2]
  instanceTypes := #[]
  staticTypes := #[.long, .long]
  resolved := Array.replicate 33 none
  statics := none }

def pool2 : Array CpInfo := pool [(2, .class_ 4), (1, u "java/lang/Object"), (0, u "<init>"), (0, u "()V"), (40, .class_ 49), (1, u "com/example/navigable_rest/navigablerest/PercentEncoding"), (18, u "isUnreserved"), (0, u "(I)Z"), (6, u "HEX"), (0, u "Ljava/util/HexFormat;")] 60

def k2m0 : Method := { name := "<init>", desc := "()V", sig := { parameters := [], returnType := none }, accessFlags := 2, code := none }
def k2c1 : Code := { maxStack := 2, maxLocals := 1, code := prog_13_method_6_code, exceptionTable := #[], attributes := #[] }
def k2m1 : Method := { name := "isUnreserved", desc := "(I)Z", sig := { parameters := [.int], returnType := some .boolean }, accessFlags := 8, code := some k2c1 }
/-- com/example/navigable_rest/navigablerest/PercentEncoding -/
def k2 : Class := { plain "com/example/navigable_rest/navigablerest/PercentEncoding" (some 0) with
  accessFlags := 32
  interfaces := #[]
  cf := some (fileOf pool2 47 #[] #[{ accessFlags := 2, nameIndex := 5, descriptorIndex := 6, attributes := #[] }, { accessFlags := 8, nameIndex := 68, descriptorIndex := 69, attributes := #[] }] 32 2 #[] #[{ accessFlags := 26, nameIndex := 76, descriptorIndex := 77, attributes := #[] }])
  fields := #[{ name := "HEX", type := (.object "java/util/HexFormat"), accessFlags := 26, slot := 0, constantValue := 0 }]
  methods := #[k2m0, k2m1]
  instanceTypes := #[]
  staticTypes := #[(.object "java/util/HexFormat")]
  resolved := Array.replicate 138 none
  statics := none }

def pool3 : Array CpInfo := pool [(1, u "java/lang/Cloneable"), (0, .class_ 1), (0, u "java/lang/Object"), (0, .class_ 3)] 3

/-- java/lang/Cloneable -/
def k3 : Class := { plain "java/lang/Cloneable" (some 0) with
  accessFlags := 1537
  interfaces := #[]
  cf := some (fileOf pool3 2 #[] #[] 1537 4 #[] #[])
  fields := #[]
  methods := #[]
  instanceTypes := #[]
  staticTypes := #[]
  resolved := Array.replicate 8 none
  statics := none }

def pool4 : Array CpInfo := pool [(1, u "java/io/Serializable"), (0, .class_ 1), (0, u "java/lang/Object"), (0, .class_ 3)] 3

/-- java/io/Serializable -/
def k4 : Class := { plain "java/io/Serializable" (some 0) with
  accessFlags := 1537
  interfaces := #[]
  cf := some (fileOf pool4 2 #[] #[] 1537 4 #[] #[])
  fields := #[]
  methods := #[]
  instanceTypes := #[]
  staticTypes := #[]
  resolved := Array.replicate 8 none
  statics := none }

/-- the primitive byte -/
def k5 : Class := { plain "byte" none with kind := .primitive 'B', accessFlags := 0x411 }
/-- [B -/
def k6 : Class := { plain "[B" (some 0) with kind := .array 5 .byte, interfaces := #[3, 4], accessFlags := 1041 }

/-- the primitive int -/
def k7 : Class := { plain "int" none with kind := .primitive 'I', accessFlags := 0x411 }
/-- [I -/
def k8 : Class := { plain "[I" (some 0) with kind := .array 7 .int, interfaces := #[3, 4], accessFlags := 1041 }

def heap : Heap := #[]
def classes : Array Class := #[k0, k1, k2, k3, k4, k5, k6, k7, k8]
def interned : List (Array UInt16 × Addr) := []
def slotsUsed : Nat := 0
def theMethod : MethodId := ⟨1, 2⟩
def args0 : Array Value := #[.int 5, .int 5]
def aboutOver (below : List Frame) : State where
  vm := { classes := classes, interned := interned.toArray }
  heap := heap
  slotsUsed := slotsUsed
  threads := #[{ frames := .invoking theMethod args0 :: below }]
def below0 : List Frame := [.native { method := ⟨0, 0⟩, args := #[] }]
def about1 : State := aboutOver below0
def p0 : Program := .bare "" "" ""
def e0 : Env := launch0.env 0 0 0
theorem w_frames : about1.frames = Frame.invoking theMethod args0 :: below0 := rfl
set_option maxRecDepth 65536 in
theorem w_args : argsFit about1.vm theMethod args0 = true := by decide +kernel
set_option maxRecDepth 65536 in
theorem w_heap : heapFits about1 = true := by decide +kernel
set_option maxRecDepth 65536 in
theorem w_runnable : about1.curStatus? = some .runnable := by decide +kernel
set_option maxRecDepth 65536 in
theorem w_alone : about1.alone = true := by decide +kernel
set_option maxRecDepth 65536 in
theorem w_named : about1.methodNamed? x = some theMethod := by decide +kernel
set_option maxRecDepth 65536 in
theorem w_hears : about1.hears theMethod below0 = true := by decide +kernel
set_option maxRecDepth 65536 in
theorem w_ripe : about1.ripe theMethod args0 below0 = true := by decide +kernel
theorem w_running : about1.status = .running := rfl
set_option maxRecDepth 65536 in
theorem w_room : about1.hasRoom e0.platform room_1 = true :=
  launch0.hasRoom_least _ room_1 (by decide +kernel) (by decide +kernel) (by decide +kernel) (by decide +kernel) (by decide +kernel) (by decide +kernel)
theorem allAtoms_all (ts : List Jvm.Cond) (a : Array Jvm.Value) (st : Jvm.State) : (allAtoms ts).before a st = ts.all (fun c => c.before a st) := by
  induction ts with
  | nil => rfl
  | cons c t ih =>
    show (Jvm.Cond.and c (allAtoms t)).before a st = _
    rw [Jvm.Cond.before_and, ih, List.all_cons]
def words1 : List Jvm.Cond := Jvm.Cond.code x code maxLocals ret :: tables_1
/-- a 'code' word, met by the world's own term for the bytes: nothing is compared byte by byte -/
theorem code_word {y : MethodName} {bytes : ByteArray} {mx : Nat} {rt : Option FieldType} {a : Array Value} {s : State} {m : MethodId} {meth : Method} {c : Code} (h1 : s.methodNamed? y = some m) (h2 : s.vm.method? m = some meth) (h3 : meth.code = some c) (h4 : c.code = bytes)
    (h5 : (c.maxLocals == mx && c.exceptionTable.isEmpty && decide (c.maxStack ≤ mostOperands) && decide (meth.sig.returnType = rt) && !meth.locks && decide (parseMethodDescriptor y.desc = some meth.sig)) = true) : (Jvm.Cond.code y bytes mx rt).before a s = true := by
  simp only [Bool.and_eq_true, beq_iff_eq, Bool.not_eq_true', decide_eq_true_eq] at h5
  obtain ⟨⟨⟨⟨⟨g1, g2⟩, g3⟩, g4⟩, g5⟩, g6⟩ := h5
  simp [Cond.before, Cond.holds, Cond.value, h1, h2, h3, h4, g1, g2, g3, g4, g5, g6]
def isCode : Jvm.Cond → Bool
  | .code _ _ _ _ => true
  | _ => false
theorem all_split {L : List Jvm.Cond} {P : Jvm.Cond → Bool} (h1 : L.all (fun c => isCode c || P c) = true) (h2 : ∀ c ∈ L.filter isCode, P c = true) : L.all P = true := by
  refine List.all_eq_true.mpr fun c hc => ?_
  have h := List.all_eq_true.mp h1 c hc
  rcases Bool.eq_false_or_eq_true (isCode c) with hi | hi
  · exact h2 c (List.mem_filter.mpr ⟨hc, hi⟩)
  · simpa [hi] using h
set_option maxRecDepth 65536 in
theorem w_c0 : (Jvm.Cond.code x code maxLocals ret).before args0 about1 = true := code_word (m := ⟨1, 2⟩) (meth := k1m2) (c := k1c2) (by decide +kernel) rfl rfl rfl (by decide +kernel)
set_option maxRecDepth 65536 in
theorem w_c1 : (Jvm.Cond.code ({ cls := "com/example/navigable_rest/navigablerest/PercentEncoding", name := "isUnreserved", desc := "(I)Z" } : Jvm.MethodName) prog_13_method_6_code (1 : Nat) (Option.some Jvm.ClassFile.FieldType.boolean)).before args0 about1 = true := code_word (m := ⟨2, 1⟩) (meth := k2m1) (c := k2c1) (by decide +kernel) rfl rfl rfl (by decide +kernel)
set_option maxRecDepth 65536 in
theorem w_c2 : (Jvm.Cond.code ({ cls := "com/example/navigable_rest/navigablerest/PercentEncodingIsUnreservedPinLaw", name := "reference", desc := "(I)Z" } : Jvm.MethodName) method_2_code (1 : Nat) (Option.some Jvm.ClassFile.FieldType.boolean)).before args0 about1 = true := code_word (m := ⟨1, 1⟩) (meth := k1m1) (c := k1c1) (by decide +kernel) rfl rfl rfl (by decide +kernel)
def codes1 : List Jvm.Cond := [Jvm.Cond.code x code maxLocals ret, Jvm.Cond.code ({ cls := "com/example/navigable_rest/navigablerest/PercentEncoding", name := "isUnreserved", desc := "(I)Z" } : Jvm.MethodName) prog_13_method_6_code (1 : Nat) (Option.some Jvm.ClassFile.FieldType.boolean), Jvm.Cond.code ({ cls := "com/example/navigable_rest/navigablerest/PercentEncodingIsUnreservedPinLaw", name := "reference", desc := "(I)Z" } : Jvm.MethodName) method_2_code (1 : Nat) (Option.some Jvm.ClassFile.FieldType.boolean)]
set_option maxRecDepth 65536 in
theorem codes_eq : words1.filter isCode = codes1 := rfl
theorem w_codes : ∀ c ∈ words1.filter isCode, c.before args0 about1 = true := by
  rw [codes_eq]
  intro c hc
  simp only [codes1, List.mem_cons, List.not_mem_nil, or_false] at hc
  rcases hc with rfl | rfl | rfl
  · exact w_c0
  · exact w_c1
  · exact w_c2
set_option maxRecDepth 65536 in
theorem w_t1 : words1.all (fun c => isCode c || c.before args0 about1) = true := by decide +kernel
theorem w_tables : (allAtoms (Jvm.Cond.code x code maxLocals ret :: tables_1)).before args0 about1 = true := by
  rw [allAtoms_all]
  show words1.all (fun c => c.before args0 about1) = true
  refine all_split ?_ w_codes
  rw [w_t1]
set_option maxRecDepth 65536 in
theorem w_case : (Jvm.Cond.and given_1 narrow_1).before args0 about1 = true := by decide +kernel
theorem w_applies : (headSpec (Jvm.Cond.code x code maxLocals ret :: tables_1) room_1).applies x e0.platform about1 = true :=
  (Spec.applies_iff w_frames).mpr ⟨w_running, w_runnable, w_alone, w_named, w_hears, w_ripe, w_room, w_tables⟩
theorem atStart : AtStart classFile x code maxLocals ret World_1 tables_1 room_1 Calls_1 rest_1 Pre_1 launch0 p0 e0 about1 theMethod args0 below0 :=
  ⟨lists_1, trivial, launch0.admits_env _ _ _, launch0.least_env, fairChoices_fair.cas, fairChoices_fair.clock, w_frames, w_args, w_heap, w_applies, trivial, trivial, w_case⟩
end start1
theorem witness_1 : WitnessClaimed_1 := ⟨start1.p0, start1.e0, start1.about1, start1.theMethod, start1.args0, start1.below0, start1.atStart⟩
end Jvm.Pilot.@@N@@
