import JvmDerived
import JvmDerived.Pilot.@@N@@Statement
import JvmDerived.Pilot.@@N@@Code
set_option linter.unusedVariables false
set_option linter.unusedSimpArgs false
namespace Jvm.Pilot.@@N@@
open Jvm Jvm.ClassFile Sem Op Lib Jvm.Free Jvm.Stand Jvm.LawKit Jvm.RoadKit Bundle Jvm.Pilot.@@N@@.Jvm.D
/-- from the state st the run ends, of which Q says what it leaves -/
def own_Ends (tb : Tables) (e : Env) (below : List Frame) (s : State) (Q : Option Value → Heap → List Loc → Prop) (C S : Nat) (st : State) : Prop :=
  ∃ t o, Steps tb e below st t ∧ t.status = .running ∧ Ended t below o ∧ ∃ v L, o = .returned v ∧ Q v t.heap L ∧ FrameEnd s o t L C S
theorem own_step {tb : Tables} {e : Env} {below : List Frame} {s : State} {Q : Option Value → Heap → List Loc → Prop} {C S : Nat} {st st' : State}
    (h : ∀ t, Steps tb e below st' t → Steps tb e below st t) (k : own_Ends tb e below s Q C S st') : own_Ends tb e below s Q C S st := by
  obtain ⟨t, o, h1, h2⟩ := k
  exact ⟨t, o, h t h1, h2⟩
section OwnRet
variable {p : Program} {l : Launch} {e : Env} {R : Room} {s : State} {m : MethodId} {args : Array Value} {below : List Frame} {meth : Method} {c : Code} {T : State} {locs : List Loc} {cells slots : Nat} {Q : Option Value → Heap → List Loc → Prop} {C S : Nat} {pc : Nat} {Ls : Array Slot} {rest : List Value}
theorem own_retW (X : Stand p l e R s m args below meth c T locs cells slots) (hx : p.tables.exec = Jvm.exec) {w : Value} {t : FieldType} {i : Instr} (hret : meth.sig.returnType = some t) (hn : narrow t w = w)
    (hi : (i = .ireturn ∧ (t = .int ∨ t = .boolean ∨ t = .byte ∨ t = .char ∨ t = .short) ∧ ∃ z, w = .int z) ∨ (i = .lreturn ∧ t = .long ∧ ∃ z, w = .long z) ∨ (i = .dreturn ∧ t = .double ∧ ∃ z, w = .double z) ∨ (i = .freturn ∧ t = .float ∧ ∃ z, w = .float z) ∨ (i = .areturn ∧ t.isReference = true ∧ w.isRef = true))
    (hd : decode c.code pc = .ok (i, 1)) (hlocks : meth.locks = false) (hq : Q (some w) T.heap locs) (hc : cells ≤ C) (hs : slots ≤ S) :
    own_Ends p.tables e below s Q C S (T.setTop (mkF m pc Ls (w :: rest))) := by
  obtain ⟨fs, hr, hrun, hended, hW, hsame⟩ := X.leave (v := some w) (fun h => by rw [hret] at h; cases h) hlocks
  exact ⟨_, _, retOut X hx hret hn hi hd hr, hrun, hended, _, _, rfl, hq, ⟨_, rfl⟩, hW, hsame.mono hc hs⟩
theorem own_retI (X : Stand p l e R s m args below meth c T locs cells slots) (hx : p.tables.exec = Jvm.exec) {z : Int32} (hret : meth.sig.returnType = some .int)
    (hd : decode c.code pc = .ok (.ireturn, 1)) (hlocks : meth.locks = false) (hq : Q (some (.int z)) T.heap locs) (hc : cells ≤ C) (hs : slots ≤ S) :
    own_Ends p.tables e below s Q C S (T.setTop (mkF m pc Ls (.int z :: rest))) :=
  own_retW X hx hret rfl (Or.inl ⟨rfl, Or.inl rfl, z, rfl⟩) hd hlocks hq hc hs
theorem own_retJ (X : Stand p l e R s m args below meth c T locs cells slots) (hx : p.tables.exec = Jvm.exec) {z : Int64} (hret : meth.sig.returnType = some .long)
    (hd : decode c.code pc = .ok (.lreturn, 1)) (hlocks : meth.locks = false) (hq : Q (some (.long z)) T.heap locs) (hc : cells ≤ C) (hs : slots ≤ S) :
    own_Ends p.tables e below s Q C S (T.setTop (mkF m pc Ls (.long z :: rest))) :=
  own_retW X hx hret rfl (Or.inr (Or.inl ⟨rfl, rfl, z, rfl⟩)) hd hlocks hq hc hs
theorem own_retR (X : Stand p l e R s m args below meth c T locs cells slots) (hx : p.tables.exec = Jvm.exec) {w : Value} {t : FieldType} (hret : meth.sig.returnType = some t) (ht : t.isReference = true) (hw : w.isRef = true) (hn : narrow t w = w)
    (hd : decode c.code pc = .ok (.areturn, 1)) (hlocks : meth.locks = false) (hq : Q (some w) T.heap locs) (hc : cells ≤ C) (hs : slots ≤ S) :
    own_Ends p.tables e below s Q C S (T.setTop (mkF m pc Ls (w :: rest))) :=
  own_retW X hx hret hn (Or.inr (Or.inr (Or.inr (Or.inr ⟨rfl, ht, hw⟩)))) hd hlocks hq hc hs
theorem own_retN (X : Stand p l e R s m args below meth c T locs cells slots) (hx : p.tables.exec = Jvm.exec) {z : Int32} {t : FieldType} (hret : meth.sig.returnType = some t) (ht : t = .boolean ∨ t = .byte ∨ t = .char ∨ t = .short)
    (hd : decode c.code pc = .ok (.ireturn, 1)) (hlocks : meth.locks = false) (hq : Q (some (.int (nar t z))) T.heap locs) (hc : cells ≤ C) (hs : slots ≤ S) :
    own_Ends p.tables e below s Q C S (T.setTop (mkF m pc Ls (.int z :: rest))) := by
  obtain ⟨fs, hr, hrun, hended, hW, hsame⟩ := X.leave (v := some (.int (nar t z))) (fun h => by rw [hret] at h; cases h) hlocks
  exact ⟨_, _, retN X hx hret ht hd hr, hrun, hended, _, _, rfl, hq, ⟨_, rfl⟩, hW, hsame.mono hc hs⟩
theorem own_ret0 (X : Stand p l e R s m args below meth c T locs cells slots) (hx : p.tables.exec = Jvm.exec) (hret : meth.sig.returnType = none)
    (hd : decode c.code pc = .ok (.return_, 1)) (hlocks : meth.locks = false) (hq : Q none T.heap locs) (hc : cells ≤ C) (hs : slots ≤ S) :
    own_Ends p.tables e below s Q C S (T.setTop (mkF m pc Ls [])) := by
  obtain ⟨fs, hr, hrun, hended, hW, hsame⟩ := X.leave (v := none) (fun _ => rfl) hlocks
  exact ⟨_, _, X.returnOut hx hret hd hr, hrun, hended, _, _, rfl, hq, ⟨_, rfl⟩, hW, hsame.mono hc hs⟩
end OwnRet
theorem own_idx (b n : Int32) (hn : 0 < n.toInt) : ¬ ((b &&& 2147483647) % n) < 0 ∧ ((b &&& 2147483647) % n) < n := by
  have h1 := c_and b 2147483647 (by decide)
  have h2 := (c_iremV (b &&& 2147483647) n).1 h1.1 hn
  constructor
  · rw [Int32.lt_iff_toInt_lt]; show ¬ _ < (0 : Int); omega
  · rw [Int32.lt_iff_toInt_lt]; omega
theorem own_small (v : Int32) (k : Nat) (hk : k < 2147483648) (h1 : ¬ v < 0) (h2 : v < Int32.ofNat k) : ∃ n : Fin k, v = Int32.ofNat n.1 := by
  rw [Int32.lt_iff_toInt_lt] at h1 h2
  rw [Int32.toInt_ofNat_of_lt hk] at h2
  have a : 0 ≤ v.toInt := by simpa using h1
  refine ⟨⟨v.toInt.toNat, by omega⟩, ?_⟩
  apply Int32.toInt_inj.mp
  rw [Int32.toInt_ofNat_of_lt (by show v.toInt.toNat < _; omega)]
  show v.toInt = ((v.toInt.toNat : Nat) : Int)
  omega
theorem own_fld {s : State} {args : Array Value} {t : Term} {a : Addr} {C n d : String} {k : Int32} (ev : t.eval args s none [] s = some (.ref a)) (h : (Jvm.Cond.eq (.field t C n d) (.int k)).value args s none s [] = some true) : Fld s s.heap a C n d (.int k) := by
  obtain ⟨x, y, h1, h2, h3, h4⟩ := cmp_v (Or.inl h)
  rw [fld_at ev] at h1
  have h5 : y = .int k := by have := h2.symm.trans (Term.int_eval k); exact Option.some.inj this
  subst h5
  obtain ⟨z, rfl⟩ := h4
  have q : (Jvm.Cond.eq (.field t C n d) (.int k)).value args s none s [] = some (decide (z = k)) := Cond.eq_ints ((fld_at ev).trans h1) (Term.int_eval k)
  have : z = k := gotT q h
  subst this
  exact Fld.start h1
def own_r1 (o0_1 : Addr) (o1_1 : Addr) (w_WRITE : Addr) (w_READ : Addr) : Addr := (if o0_1 = w_WRITE then w_WRITE else (if o1_1 = w_WRITE then w_WRITE else w_READ))
theorem d1_0 : decode prog_26_method_7_code 0 = .ok (.aload_n 0, 1) := by decide +kernel
theorem d1_1 : decode prog_26_method_7_code 1 = .ok (.getstatic 7, 3) := by decide +kernel
theorem d1_4 : decode prog_26_method_7_code 4 = .ok (.if_acmp .eq 10, 3) := by decide +kernel
theorem d1_7 : decode prog_26_method_7_code 7 = .ok (.aload_n 1, 1) := by decide +kernel
theorem d1_8 : decode prog_26_method_7_code 8 = .ok (.getstatic 7, 3) := by decide +kernel
theorem d1_11 : decode prog_26_method_7_code 11 = .ok (.if_acmp .ne 9, 3) := by decide +kernel
theorem d1_14 : decode prog_26_method_7_code 14 = .ok (.getstatic 7, 3) := by decide +kernel
theorem d1_17 : decode prog_26_method_7_code 17 = .ok (.goto 6, 3) := by decide +kernel
theorem d1_20 : decode prog_26_method_7_code 20 = .ok (.getstatic 3, 3) := by decide +kernel
theorem d1_23 : decode prog_26_method_7_code 23 = .ok (.areturn, 1) := by decide +kernel
theorem pn_0 : plainName "com/example/serigraph/serigraph/locking/LockMode" = true := by first | (simp [plainName, overriddenIn]; done) | decide +kernel
theorem ef_1 (m : MethodId) (o0_1 : Addr) (o1_1 : Addr) : entryFrame m #[(.ref o0_1), (.ref o1_1)] 2 = mkF m 0 #[.val (.ref o0_1), .val (.ref o1_1)] [] := by first | (simp [entryFrame, mkF, argsToLocals, Value.category]; done) | rfl
def Q1 (Z : State) (o0_1 : Addr) (o1_1 : Addr) (w_WRITE : Addr) (w_READ : Addr) (h0 : Heap) (n0 : Nat) (v : Option Value) (h : Heap) (L : List Loc) : Prop := v = some (.ref (own_r1 o0_1 o1_1 w_WRITE w_READ)) ∧ Fr n0 L ∧ h = h0
set_option maxRecDepth 65536 in
set_option maxHeartbeats 40000000 in
theorem rm1 (l : Launch) (Z : State) (a0 : Array Value) (hw : ∀ d ∈ tables_1, d.before a0 Z = true) (ws : List Jvm.Cond) (o0_1 : Addr) (o1_1 : Addr) (w_WRITE : Addr) (w_READ : Addr) (h0 : Heap) (n0 : Nat) (O0 : Old Z n0 h0) (S_WRITE : Sta Z Z.heap "com/example/serigraph/serigraph/locking/LockMode" "WRITE" "Lcom/example/serigraph/serigraph/locking/LockMode;" (.ref w_WRITE)) (S_READ : Sta Z Z.heap "com/example/serigraph/serigraph/locking/LockMode" "READ" "Lcom/example/serigraph/serigraph/locking/LockMode;" (.ref w_READ)) :
    MetFree l (⟨"com/example/serigraph/serigraph/locking/LockMode", "join", "(Lcom/example/serigraph/serigraph/locking/LockMode;)Lcom/example/serigraph/serigraph/locking/LockMode;"⟩ : MethodName) (head1 (Jvm.Cond.code (⟨"com/example/serigraph/serigraph/locking/LockMode", "join", "(Lcom/example/serigraph/serigraph/locking/LockMode;)Lcom/example/serigraph/serigraph/locking/LockMode;"⟩ : MethodName) prog_26_method_7_code 2 (some (.object "com/example/serigraph/serigraph/locking/LockMode")) :: ws) ({ frames := 0, cells := 0, slots := 0, locals := 0 } : Room)) (fun a U => a = #[(.ref o0_1), (.ref o1_1)] ∧ Z.Warmed39 U.vm ∧ U.heap = h0) (fun _ _ _ _ _ => True) (fun _ U o U' => ∃ v L, o = .returned v ∧ Q1 Z o0_1 o1_1 w_WRITE w_READ h0 n0 v U'.heap L ∧ FrameEnd U o U' L ({ frames := 0, cells := 0, slots := 0, locals := 0 } : Room).cells ({ frames := 0, cells := 0, slots := 0, locals := 0 } : Room).slots) := by
  refine MetFree.of_bodySF (plainFor_of_name pn_0) hisR ?_
  intro p e s m args below meth c s₁ Bd hml0 hP hK
  obtain ⟨rfl, hZ, hh⟩ := hP
  have hx := Bd.exec
  have hby := Bd.bytes
  have hnl := BodyLoose.notSynchronized Bd
  have hml : c.maxLocals = 2 := hml0
  have hown : s.vm.findClass "com/example/serigraph/serigraph/locking/LockMode" = some m.cls := findClass_of_methodNamed Bd.named
  have hnm := (name_of_methodNamed Bd.named Bd.method).1
  have X0 : Stand p l e ({ frames := 0, cells := 0, slots := 0, locals := 0 } : Room) s m #[(.ref o0_1), (.ref o1_1)] below meth c s₁ [] 0 0 := Stand.of_body Bd
  have e0 : s₁.heap = h0 := by rw [← hh, Bd.state]; rfl
  have N0 := Fr.nil n0
  show own_Ends p.tables e below s (Q1 Z o0_1 o1_1 w_WRITE w_READ h0 n0) 0 0 (s₁.setTop (entryFrame m #[(.ref o0_1), (.ref o1_1)] 2))
  rw [ef_1 m o0_1 o1_1]
  show own_Ends p.tables e below s _ _ _ (s₁.setTop (mkF m 0 #[.val (.ref o0_1), .val (.ref o1_1)] []))
  refine own_step (fun t k => XS.aloadN X0.here hx rfl (hb hby d1_0) rfl rfl k) ?_
  show own_Ends p.tables e below s _ _ _ (s₁.setTop (mkF m 1 #[.val (.ref o0_1), .val (.ref o1_1)] [(.ref o0_1)]))
  obtain ⟨T1, X1, e1, st1⟩ := getS2 X0 hx hZ hown (host := "") (Or.inl (hw _ (List.mem_of_getElem? (i := 10) rfl))) Via.refl e0 (S_WRITE.ext O0.2) (g := (mkF m 1 #[.val (.ref o0_1), .val (.ref o1_1)] [(.ref o0_1)])) rfl (hb hby d1_1)
  refine own_step (fun t k => st1 _ k) ?_
  show own_Ends p.tables e below s _ _ _ (T1.setTop (mkF m 4 #[.val (.ref o0_1), .val (.ref o1_1)] [(.ref w_WRITE), (.ref o0_1)]))
  by_cases ha4_2 : o0_1 = w_WRITE
  · skip
    refine own_step (fun t k => Jvm.RoadKit.acmp (g := (mkF m 4 #[.val (.ref o0_1), .val (.ref o1_1)] [(.ref w_WRITE), (.ref o0_1)])) X1 hx rfl rfl rfl (pc0 := 4) (pc' := 14) (same := true) rfl (hb hby d1_4) rfl (decide_eq_true (congrArg Value.ref ha4_2)) (by decide) (by decide) k) ?_
    show own_Ends p.tables e below s _ _ _ (T1.setTop (mkF m 14 #[.val (.ref o0_1), .val (.ref o1_1)] []))
    obtain ⟨T3, X3, e3, st3⟩ := getS2 X1 hx hZ hown (host := "") (Or.inl (hw _ (List.mem_of_getElem? (i := 10) rfl))) Via.refl e1 (S_WRITE.ext O0.2) (g := (mkF m 14 #[.val (.ref o0_1), .val (.ref o1_1)] [])) rfl (hb hby d1_14)
    refine own_step (fun t k => st3 _ k) ?_
    show own_Ends p.tables e below s _ _ _ (T3.setTop (mkF m 17 #[.val (.ref o0_1), .val (.ref o1_1)] [(.ref w_WRITE)]))
    refine own_step (fun t k => XS.goto X3.here hx rfl (pc0 := 17) (pc' := 23) rfl (hb hby d1_17) (by decide) (by decide) k) ?_
    show own_Ends p.tables e below s _ _ _ (T3.setTop (mkF m 23 #[.val (.ref o0_1), .val (.ref o1_1)] [(.ref w_WRITE)]))
    exact own_retR X3 hx Bd.returns rfl rfl rfl (hb hby d1_23) hnl (by rw [e3]; exact ⟨(congrArg (fun z => some (Value.ref z)) (Eq.symm (show (own_r1 o0_1 o1_1 w_WRITE w_READ) = w_WRITE from by unfold own_r1; rw [if_pos ha4_2]))), N0, rfl⟩) (by decide) (by decide)
  · skip
    refine own_step (fun t k => Jvm.RoadKit.acmp (g := (mkF m 4 #[.val (.ref o0_1), .val (.ref o1_1)] [(.ref w_WRITE), (.ref o0_1)])) X1 hx rfl rfl rfl (pc0 := 4) (pc' := 7) (same := false) rfl (hb hby d1_4) rfl (decide_eq_false fun q => ha4_2 (Value.ref.inj q)) (by decide) (by decide) k) ?_
    show own_Ends p.tables e below s _ _ _ (T1.setTop (mkF m 7 #[.val (.ref o0_1), .val (.ref o1_1)] []))
    refine own_step (fun t k => XS.aloadN X1.here hx rfl (hb hby d1_7) rfl rfl k) ?_
    show own_Ends p.tables e below s _ _ _ (T1.setTop (mkF m 8 #[.val (.ref o0_1), .val (.ref o1_1)] [(.ref o1_1)]))
    obtain ⟨T4, X4, e4, st4⟩ := getS2 X1 hx hZ hown (host := "") (Or.inl (hw _ (List.mem_of_getElem? (i := 10) rfl))) Via.refl e1 (S_WRITE.ext O0.2) (g := (mkF m 8 #[.val (.ref o0_1), .val (.ref o1_1)] [(.ref o1_1)])) rfl (hb hby d1_8)
    refine own_step (fun t k => st4 _ k) ?_
    show own_Ends p.tables e below s _ _ _ (T4.setTop (mkF m 11 #[.val (.ref o0_1), .val (.ref o1_1)] [(.ref w_WRITE), (.ref o1_1)]))
    by_cases ha11_5 : o1_1 = w_WRITE
    · skip
      refine own_step (fun t k => Jvm.RoadKit.acmp (g := (mkF m 11 #[.val (.ref o0_1), .val (.ref o1_1)] [(.ref w_WRITE), (.ref o1_1)])) X4 hx rfl rfl rfl (pc0 := 11) (pc' := 14) (same := true) rfl (hb hby d1_11) rfl (decide_eq_true (congrArg Value.ref ha11_5)) (by decide) (by decide) k) ?_
      show own_Ends p.tables e below s _ _ _ (T4.setTop (mkF m 14 #[.val (.ref o0_1), .val (.ref o1_1)] []))
      obtain ⟨T6, X6, e6, st6⟩ := getS2 X4 hx hZ hown (host := "") (Or.inl (hw _ (List.mem_of_getElem? (i := 10) rfl))) Via.refl e4 (S_WRITE.ext O0.2) (g := (mkF m 14 #[.val (.ref o0_1), .val (.ref o1_1)] [])) rfl (hb hby d1_14)
      refine own_step (fun t k => st6 _ k) ?_
      show own_Ends p.tables e below s _ _ _ (T6.setTop (mkF m 17 #[.val (.ref o0_1), .val (.ref o1_1)] [(.ref w_WRITE)]))
      refine own_step (fun t k => XS.goto X6.here hx rfl (pc0 := 17) (pc' := 23) rfl (hb hby d1_17) (by decide) (by decide) k) ?_
      show own_Ends p.tables e below s _ _ _ (T6.setTop (mkF m 23 #[.val (.ref o0_1), .val (.ref o1_1)] [(.ref w_WRITE)]))
      exact own_retR X6 hx Bd.returns rfl rfl rfl (hb hby d1_23) hnl (by rw [e6]; exact ⟨(congrArg (fun z => some (Value.ref z)) (Eq.symm (show (own_r1 o0_1 o1_1 w_WRITE w_READ) = w_WRITE from by unfold own_r1; rw [if_neg ha4_2, if_pos ha11_5]))), N0, rfl⟩) (by decide) (by decide)
    · skip
      refine own_step (fun t k => Jvm.RoadKit.acmp (g := (mkF m 11 #[.val (.ref o0_1), .val (.ref o1_1)] [(.ref w_WRITE), (.ref o1_1)])) X4 hx rfl rfl rfl (pc0 := 11) (pc' := 20) (same := false) rfl (hb hby d1_11) rfl (decide_eq_false fun q => ha11_5 (Value.ref.inj q)) (by decide) (by decide) k) ?_
      show own_Ends p.tables e below s _ _ _ (T4.setTop (mkF m 20 #[.val (.ref o0_1), .val (.ref o1_1)] []))
      obtain ⟨T7, X7, e7, st7⟩ := getS2 X4 hx hZ hown (host := "") (Or.inl (hw _ (List.mem_of_getElem? (i := 19) rfl))) Via.refl e4 (S_READ.ext O0.2) (g := (mkF m 20 #[.val (.ref o0_1), .val (.ref o1_1)] [])) rfl (hb hby d1_20)
      refine own_step (fun t k => st7 _ k) ?_
      show own_Ends p.tables e below s _ _ _ (T7.setTop (mkF m 23 #[.val (.ref o0_1), .val (.ref o1_1)] [(.ref w_READ)]))
      exact own_retR X7 hx Bd.returns rfl rfl rfl (hb hby d1_23) hnl (by rw [e7]; exact ⟨(congrArg (fun z => some (Value.ref z)) (Eq.symm (show (own_r1 o0_1 o1_1 w_WRITE w_READ) = w_READ from by unfold own_r1; rw [if_neg ha4_2, if_neg ha11_5]))), N0, rfl⟩) (by decide) (by decide)
def own_r2 (o0_2 : Addr) (w_WRITE : Addr) (w_READ : Addr) : Int32 := (if o0_2 = w_WRITE then (1 : Int32) else (if o0_2 = w_READ then (0 : Int32) else (-1 : Int32)))
theorem d2_0 : decode method_2_code 0 = .ok (.aload_n 0, 1) := by decide +kernel
theorem d2_1 : decode method_2_code 1 = .ok (.getstatic 7, 3) := by decide +kernel
theorem d2_4 : decode method_2_code 4 = .ok (.if_acmp .ne 5, 3) := by decide +kernel
theorem d2_7 : decode method_2_code 7 = .ok (.iconst 1, 1) := by decide +kernel
theorem d2_8 : decode method_2_code 8 = .ok (.ireturn, 1) := by decide +kernel
theorem d2_9 : decode method_2_code 9 = .ok (.aload_n 0, 1) := by decide +kernel
theorem d2_10 : decode method_2_code 10 = .ok (.getstatic 13, 3) := by decide +kernel
theorem d2_13 : decode method_2_code 13 = .ok (.if_acmp .ne 5, 3) := by decide +kernel
theorem d2_16 : decode method_2_code 16 = .ok (.iconst 0, 1) := by decide +kernel
theorem d2_17 : decode method_2_code 17 = .ok (.ireturn, 1) := by decide +kernel
theorem d2_18 : decode method_2_code 18 = .ok (.iconst (-1), 1) := by decide +kernel
theorem d2_19 : decode method_2_code 19 = .ok (.ireturn, 1) := by decide +kernel
theorem pn_1 : plainName "com/example/serigraph/serigraph/locking/LockModeJoinPinLaw" = true := by first | (simp [plainName, overriddenIn]; done) | decide +kernel
theorem ef_2 (m : MethodId) (o0_2 : Addr) : entryFrame m #[(.ref o0_2)] 1 = mkF m 0 #[.val (.ref o0_2)] [] := by first | (simp [entryFrame, mkF, argsToLocals, Value.category]; done) | rfl
def Q2 (Z : State) (o0_2 : Addr) (w_WRITE : Addr) (w_READ : Addr) (h0 : Heap) (n0 : Nat) (v : Option Value) (h : Heap) (L : List Loc) : Prop := v = some (.int (own_r2 o0_2 w_WRITE w_READ)) ∧ Fr n0 L ∧ h = h0
set_option maxRecDepth 65536 in
set_option maxHeartbeats 40000000 in
theorem rm2 (l : Launch) (Z : State) (a0 : Array Value) (hw : ∀ d ∈ tables_1, d.before a0 Z = true) (ws : List Jvm.Cond) (o0_2 : Addr) (w_WRITE : Addr) (w_READ : Addr) (h0 : Heap) (n0 : Nat) (O0 : Old Z n0 h0) (S_WRITE : Sta Z Z.heap "com/example/serigraph/serigraph/locking/LockMode" "WRITE" "Lcom/example/serigraph/serigraph/locking/LockMode;" (.ref w_WRITE)) (S_READ : Sta Z Z.heap "com/example/serigraph/serigraph/locking/LockMode" "READ" "Lcom/example/serigraph/serigraph/locking/LockMode;" (.ref w_READ)) :
    MetFree l (⟨"com/example/serigraph/serigraph/locking/LockModeJoinPinLaw", "rank", "(Lcom/example/serigraph/serigraph/locking/LockMode;)I"⟩ : MethodName) (head1 (Jvm.Cond.code (⟨"com/example/serigraph/serigraph/locking/LockModeJoinPinLaw", "rank", "(Lcom/example/serigraph/serigraph/locking/LockMode;)I"⟩ : MethodName) method_2_code 1 (some .int) :: ws) ({ frames := 0, cells := 0, slots := 0, locals := 0 } : Room)) (fun a U => a = #[(.ref o0_2)] ∧ Z.Warmed39 U.vm ∧ U.heap = h0) (fun _ _ _ _ _ => True) (fun _ U o U' => ∃ v L, o = .returned v ∧ Q2 Z o0_2 w_WRITE w_READ h0 n0 v U'.heap L ∧ FrameEnd U o U' L ({ frames := 0, cells := 0, slots := 0, locals := 0 } : Room).cells ({ frames := 0, cells := 0, slots := 0, locals := 0 } : Room).slots) := by
  refine MetFree.of_bodySF (plainFor_of_name pn_1) hisR ?_
  intro p e s m args below meth c s₁ Bd hml0 hP hK
  obtain ⟨rfl, hZ, hh⟩ := hP
  have hx := Bd.exec
  have hby := Bd.bytes
  have hnl := BodyLoose.notSynchronized Bd
  have hml : c.maxLocals = 1 := hml0
  have hown : s.vm.findClass "com/example/serigraph/serigraph/locking/LockModeJoinPinLaw" = some m.cls := findClass_of_methodNamed Bd.named
  have hnm := (name_of_methodNamed Bd.named Bd.method).1
  have X0 : Stand p l e ({ frames := 0, cells := 0, slots := 0, locals := 0 } : Room) s m #[(.ref o0_2)] below meth c s₁ [] 0 0 := Stand.of_body Bd
  have e0 : s₁.heap = h0 := by rw [← hh, Bd.state]; rfl
  have N0 := Fr.nil n0
  show own_Ends p.tables e below s (Q2 Z o0_2 w_WRITE w_READ h0 n0) 0 0 (s₁.setTop (entryFrame m #[(.ref o0_2)] 1))
  rw [ef_2 m o0_2]
  show own_Ends p.tables e below s _ _ _ (s₁.setTop (mkF m 0 #[.val (.ref o0_2)] []))
  refine own_step (fun t k => XS.aloadN X0.here hx rfl (hb hby d2_0) rfl rfl k) ?_
  show own_Ends p.tables e below s _ _ _ (s₁.setTop (mkF m 1 #[.val (.ref o0_2)] [(.ref o0_2)]))
  obtain ⟨T1, X1, e1, st1⟩ := getS2 X0 hx hZ hown (host := "") (Or.inl (hw _ (List.mem_of_getElem? (i := 3) rfl))) Via.refl e0 (S_WRITE.ext O0.2) (g := (mkF m 1 #[.val (.ref o0_2)] [(.ref o0_2)])) rfl (hb hby d2_1)
  refine own_step (fun t k => st1 _ k) ?_
  show own_Ends p.tables e below s _ _ _ (T1.setTop (mkF m 4 #[.val (.ref o0_2)] [(.ref w_WRITE), (.ref o0_2)]))
  by_cases ha4_2 : o0_2 = w_WRITE
  · skip
    refine own_step (fun t k => Jvm.RoadKit.acmp (g := (mkF m 4 #[.val (.ref o0_2)] [(.ref w_WRITE), (.ref o0_2)])) X1 hx rfl rfl rfl (pc0 := 4) (pc' := 7) (same := true) rfl (hb hby d2_4) rfl (decide_eq_true (congrArg Value.ref ha4_2)) (by decide) (by decide) k) ?_
    show own_Ends p.tables e below s _ _ _ (T1.setTop (mkF m 7 #[.val (.ref o0_2)] []))
    refine own_step (fun t k => XS.iconst X1.here hx rfl (hb hby d2_7) k) ?_
    show own_Ends p.tables e below s _ _ _ (T1.setTop (mkF m 8 #[.val (.ref o0_2)] [(.int (1 : Int32))]))
    exact own_retI X1 hx Bd.returns (hb hby d2_8) hnl (by rw [e1]; exact ⟨(congrArg (fun z => some (Value.int z)) (Eq.symm (show (own_r2 o0_2 w_WRITE w_READ) = (1 : Int32) from by unfold own_r2; rw [if_pos ha4_2]))), N0, rfl⟩) (by decide) (by decide)
  · skip
    refine own_step (fun t k => Jvm.RoadKit.acmp (g := (mkF m 4 #[.val (.ref o0_2)] [(.ref w_WRITE), (.ref o0_2)])) X1 hx rfl rfl rfl (pc0 := 4) (pc' := 9) (same := false) rfl (hb hby d2_4) rfl (decide_eq_false fun q => ha4_2 (Value.ref.inj q)) (by decide) (by decide) k) ?_
    show own_Ends p.tables e below s _ _ _ (T1.setTop (mkF m 9 #[.val (.ref o0_2)] []))
    refine own_step (fun t k => XS.aloadN X1.here hx rfl (hb hby d2_9) rfl rfl k) ?_
    show own_Ends p.tables e below s _ _ _ (T1.setTop (mkF m 10 #[.val (.ref o0_2)] [(.ref o0_2)]))
    obtain ⟨T3, X3, e3, st3⟩ := getS2 X1 hx hZ hown (host := "") (Or.inl (hw _ (List.mem_of_getElem? (i := 0) rfl))) Via.refl e1 (S_READ.ext O0.2) (g := (mkF m 10 #[.val (.ref o0_2)] [(.ref o0_2)])) rfl (hb hby d2_10)
    refine own_step (fun t k => st3 _ k) ?_
    show own_Ends p.tables e below s _ _ _ (T3.setTop (mkF m 13 #[.val (.ref o0_2)] [(.ref w_READ), (.ref o0_2)]))
    by_cases ha13_4 : o0_2 = w_READ
    · skip
      refine own_step (fun t k => Jvm.RoadKit.acmp (g := (mkF m 13 #[.val (.ref o0_2)] [(.ref w_READ), (.ref o0_2)])) X3 hx rfl rfl rfl (pc0 := 13) (pc' := 16) (same := true) rfl (hb hby d2_13) rfl (decide_eq_true (congrArg Value.ref ha13_4)) (by decide) (by decide) k) ?_
      show own_Ends p.tables e below s _ _ _ (T3.setTop (mkF m 16 #[.val (.ref o0_2)] []))
      refine own_step (fun t k => XS.iconst X3.here hx rfl (hb hby d2_16) k) ?_
      show own_Ends p.tables e below s _ _ _ (T3.setTop (mkF m 17 #[.val (.ref o0_2)] [(.int (0 : Int32))]))
      exact own_retI X3 hx Bd.returns (hb hby d2_17) hnl (by rw [e3]; exact ⟨(congrArg (fun z => some (Value.int z)) (Eq.symm (show (own_r2 o0_2 w_WRITE w_READ) = (0 : Int32) from by unfold own_r2; rw [if_neg ha4_2, if_pos ha13_4]))), N0, rfl⟩) (by decide) (by decide)
    · skip
      refine own_step (fun t k => Jvm.RoadKit.acmp (g := (mkF m 13 #[.val (.ref o0_2)] [(.ref w_READ), (.ref o0_2)])) X3 hx rfl rfl rfl (pc0 := 13) (pc' := 18) (same := false) rfl (hb hby d2_13) rfl (decide_eq_false fun q => ha13_4 (Value.ref.inj q)) (by decide) (by decide) k) ?_
      show own_Ends p.tables e below s _ _ _ (T3.setTop (mkF m 18 #[.val (.ref o0_2)] []))
      refine own_step (fun t k => XS.iconst X3.here hx rfl (hb hby d2_18) k) ?_
      show own_Ends p.tables e below s _ _ _ (T3.setTop (mkF m 19 #[.val (.ref o0_2)] [(.int (-1 : Int32))]))
      exact own_retI X3 hx Bd.returns (hb hby d2_19) hnl (by rw [e3]; exact ⟨(congrArg (fun z => some (Value.int z)) (Eq.symm (show (own_r2 o0_2 w_WRITE w_READ) = (-1 : Int32) from by unfold own_r2; rw [if_neg ha4_2, if_neg ha13_4]))), N0, rfl⟩) (by decide) (by decide)
def own_r3 (x0_3 : Int32) (x1_3 : Int32) : Int32 := (if x0_3 < x1_3 then x1_3 else x0_3)
theorem d3_0 : decode jdk_29_method_65_code 0 = .ok (.iload_n 0, 1) := by decide +kernel
theorem d3_1 : decode jdk_29_method_65_code 1 = .ok (.iload_n 1, 1) := by decide +kernel
theorem d3_2 : decode jdk_29_method_65_code 2 = .ok (.if_icmp .lt 7, 3) := by decide +kernel
theorem d3_5 : decode jdk_29_method_65_code 5 = .ok (.iload_n 0, 1) := by decide +kernel
theorem d3_6 : decode jdk_29_method_65_code 6 = .ok (.goto 4, 3) := by decide +kernel
theorem d3_9 : decode jdk_29_method_65_code 9 = .ok (.iload_n 1, 1) := by decide +kernel
theorem d3_10 : decode jdk_29_method_65_code 10 = .ok (.ireturn, 1) := by decide +kernel
theorem ef_3 (m : MethodId) (x0_3 : Int32) (x1_3 : Int32) : entryFrame m #[(.int x0_3), (.int x1_3)] 2 = mkF m 0 #[.val (.int x0_3), .val (.int x1_3)] [] := by first | (simp [entryFrame, mkF, argsToLocals, Value.category]; done) | rfl
def Q3 (Z : State) (x0_3 : Int32) (x1_3 : Int32) (h0 : Heap) (n0 : Nat) (v : Option Value) (h : Heap) (L : List Loc) : Prop := v = some (.int (own_r3 x0_3 x1_3)) ∧ Fr n0 L ∧ h = h0
set_option maxRecDepth 65536 in
set_option maxHeartbeats 40000000 in
theorem rm3 (l : Launch) (Z : State) (a0 : Array Value) (hw : ∀ d ∈ tables_1, d.before a0 Z = true) (ws : List Jvm.Cond) (x0_3 : Int32) (x1_3 : Int32) (h0 : Heap) (n0 : Nat) (O0 : Old Z n0 h0) :
    MetFree l (⟨"java/lang/Math", "max", "(II)I"⟩ : MethodName) (head1 (Jvm.Cond.code (⟨"java/lang/Math", "max", "(II)I"⟩ : MethodName) jdk_29_method_65_code 2 (some .int) :: ws) ({ frames := 0, cells := 0, slots := 0, locals := 0 } : Room)) (fun a U => a = #[(.int x0_3), (.int x1_3)] ∧ Z.Warmed39 U.vm ∧ U.heap = h0) (fun _ _ _ _ _ => True) (fun _ U o U' => ∃ v L, o = .returned v ∧ Q3 Z x0_3 x1_3 h0 n0 v U'.heap L ∧ FrameEnd U o U' L ({ frames := 0, cells := 0, slots := 0, locals := 0 } : Room).cells ({ frames := 0, cells := 0, slots := 0, locals := 0 } : Room).slots) := by
  refine MetFree.of_bodySF (Jvm.Free.JP.mathPlain rfl (by decide +kernel)) hisR ?_
  intro p e s m args below meth c s₁ Bd hml0 hP hK
  obtain ⟨rfl, hZ, hh⟩ := hP
  have hx := Bd.exec
  have hby := Bd.bytes
  have hnl := BodyLoose.notSynchronized Bd
  have hml : c.maxLocals = 2 := hml0
  have hown : s.vm.findClass "java/lang/Math" = some m.cls := findClass_of_methodNamed Bd.named
  have hnm := (name_of_methodNamed Bd.named Bd.method).1
  have X0 : Stand p l e ({ frames := 0, cells := 0, slots := 0, locals := 0 } : Room) s m #[(.int x0_3), (.int x1_3)] below meth c s₁ [] 0 0 := Stand.of_body Bd
  have e0 : s₁.heap = h0 := by rw [← hh, Bd.state]; rfl
  have N0 := Fr.nil n0
  show own_Ends p.tables e below s (Q3 Z x0_3 x1_3 h0 n0) 0 0 (s₁.setTop (entryFrame m #[(.int x0_3), (.int x1_3)] 2))
  rw [ef_3 m x0_3 x1_3]
  show own_Ends p.tables e below s _ _ _ (s₁.setTop (mkF m 0 #[.val (.int x0_3), .val (.int x1_3)] []))
  refine own_step (fun t k => XS.iloadN X0.here hx rfl (hb hby d3_0) rfl k) ?_
  show own_Ends p.tables e below s _ _ _ (s₁.setTop (mkF m 1 #[.val (.int x0_3), .val (.int x1_3)] [(.int x0_3)]))
  refine own_step (fun t k => XS.iloadN X0.here hx rfl (hb hby d3_1) rfl k) ?_
  show own_Ends p.tables e below s _ _ _ (s₁.setTop (mkF m 2 #[.val (.int x0_3), .val (.int x1_3)] [(.int x1_3), (.int x0_3)]))
  by_cases hc2_1 : x0_3 < x1_3
  · skip
    refine own_step (fun t k => XS.icmpYes X0.here hx rfl (pc0 := 2) (pc' := 9) rfl (hb hby d3_2) rfl (tlt hc2_1).1 (by decide) (by decide) k) ?_
    show own_Ends p.tables e below s _ _ _ (s₁.setTop (mkF m 9 #[.val (.int x0_3), .val (.int x1_3)] []))
    refine own_step (fun t k => XS.iloadN X0.here hx rfl (hb hby d3_9) rfl k) ?_
    show own_Ends p.tables e below s _ _ _ (s₁.setTop (mkF m 10 #[.val (.int x0_3), .val (.int x1_3)] [(.int x1_3)]))
    exact own_retI X0 hx Bd.returns (hb hby d3_10) hnl (by rw [e0]; exact ⟨(congrArg (fun z => some (Value.int z)) (Eq.symm (show (own_r3 x0_3 x1_3) = x1_3 from by unfold own_r3; rw [if_pos hc2_1]))), N0, rfl⟩) (by decide) (by decide)
  · skip
    refine own_step (fun t k => XS.icmpNo X0.here hx rfl (hb hby d3_2) rfl (flt hc2_1).1 k) ?_
    show own_Ends p.tables e below s _ _ _ (s₁.setTop (mkF m 5 #[.val (.int x0_3), .val (.int x1_3)] []))
    refine own_step (fun t k => XS.iloadN X0.here hx rfl (hb hby d3_5) rfl k) ?_
    show own_Ends p.tables e below s _ _ _ (s₁.setTop (mkF m 6 #[.val (.int x0_3), .val (.int x1_3)] [(.int x0_3)]))
    refine own_step (fun t k => XS.goto X0.here hx rfl (pc0 := 6) (pc' := 10) rfl (hb hby d3_6) (by decide) (by decide) k) ?_
    show own_Ends p.tables e below s _ _ _ (s₁.setTop (mkF m 10 #[.val (.int x0_3), .val (.int x1_3)] [(.int x0_3)]))
    exact own_retI X0 hx Bd.returns (hb hby d3_10) hnl (by rw [e0]; exact ⟨(congrArg (fun z => some (Value.int z)) (Eq.symm (show (own_r3 x0_3 x1_3) = x0_3 from by unfold own_r3; rw [if_neg hc2_1]))), N0, rfl⟩) (by decide) (by decide)
theorem own_bit (x : Int32) (h : ¬ (x &&& 1) = 1) : (x &&& 1) = 0 := (and_one x).resolve_right h

theorem pd_0 : parseMethodDescriptor "(Lcom/example/serigraph/serigraph/locking/LockMode;)Lcom/example/serigraph/serigraph/locking/LockMode;" = some ⟨[(.object "com/example/serigraph/serigraph/locking/LockMode")], some (.object "com/example/serigraph/serigraph/locking/LockMode")⟩ := by decide +kernel
theorem pd_1 : parseMethodDescriptor "(Lcom/example/serigraph/serigraph/locking/LockMode;)I" = some ⟨[(.object "com/example/serigraph/serigraph/locking/LockMode")], some .int⟩ := by decide +kernel
theorem pd_2 : parseMethodDescriptor "(II)I" = some ⟨[.int, .int], some .int⟩ := by decide +kernel
theorem ef_0 (m : MethodId) (x0_0 : Int32) (x1_0 : Int32) : entryFrame m #[(.int x0_0), (.int x1_0)] maxLocals = mkF m 0 #[.val (.int x0_0), .val (.int x1_0), .unset, .unset, .unset, .unset, .unset] [] := by first | (simp [entryFrame, mkF, argsToLocals, Value.category, maxLocals]; done) | rfl
def Q0 (Z : State) (w_READ : Addr) (w_WRITE : Addr) (x0_0 : Int32) (x1_0 : Int32) (h0 : Heap) (n0 : Nat) (v : Option Value) (h : Heap) (L : List Loc) : Prop := v = some (.int 1) ∧ Fr n0 L
set_option maxRecDepth 65536 in
set_option maxHeartbeats 40000000 in
theorem rm0 (l : Launch) (Z : State) (a0 : Array Value) (hw : ∀ d ∈ tables_1, d.before a0 Z = true) (ws : List Jvm.Cond) (w_READ : Addr) (w_WRITE : Addr) (x0_0 : Int32) (x1_0 : Int32) (h0 : Heap) (n0 : Nat) (O0 : Old Z n0 h0) (ne_w_READ_w_WRITE : w_READ ≠ w_WRITE) (S_WRITE : Sta Z Z.heap "com/example/serigraph/serigraph/locking/LockMode" "WRITE" "Lcom/example/serigraph/serigraph/locking/LockMode;" (.ref w_WRITE)) (S_READ : Sta Z Z.heap "com/example/serigraph/serigraph/locking/LockMode" "READ" "Lcom/example/serigraph/serigraph/locking/LockMode;" (.ref w_READ)) (E_w_WRITE : Exa Z h0 w_WRITE "com/example/serigraph/serigraph/locking/LockMode") (E_w_READ : Exa Z h0 w_READ "com/example/serigraph/serigraph/locking/LockMode") :
    MetFree l x (head1 (Jvm.Cond.code x code maxLocals ret :: ws) room_1) (fun a U => a = #[(.int x0_0), (.int x1_0)] ∧ Z.Warmed39 U.vm ∧ U.heap = h0) (fun _ _ _ _ _ => True) (fun _ U o U' => ∃ v L, o = .returned v ∧ Q0 Z w_READ w_WRITE x0_0 x1_0 h0 n0 v U'.heap L ∧ FrameEnd U o U' L 0 0) := by
  refine MetFree.of_bodySF (plainFor_of_name pn_1) hisR ?_
  intro p e s m args below meth c s₁ Bd hml0 hP hK
  obtain ⟨rfl, hZ, hh⟩ := hP
  have hx := Bd.exec
  have hby := Bd.bytes
  have hnl := BodyLoose.notSynchronized Bd
  have hml : c.maxLocals = 7 := hml0
  have hown : s.vm.findClass "com/example/serigraph/serigraph/locking/LockModeJoinPinLaw" = some m.cls := findClass_of_methodNamed Bd.named
  have hnm := (name_of_methodNamed Bd.named Bd.method).1
  have X0 : Stand p l e room_1 s m #[(.int x0_0), (.int x1_0)] below meth c s₁ [] 0 0 := Stand.of_body Bd
  have e0 : s₁.heap = h0 := by rw [← hh, Bd.state]; rfl
  have N0 := Fr.nil n0
  show own_Ends p.tables e below s (Q0 Z w_READ w_WRITE x0_0 x1_0 h0 n0) 0 0 (s₁.setTop (entryFrame m #[(.int x0_0), (.int x1_0)] maxLocals))
  rw [ef_0 m x0_0 x1_0]
  show own_Ends p.tables e below s _ _ _ (s₁.setTop (mkF m 0 #[.val (.int x0_0), .val (.int x1_0), .unset, .unset, .unset, .unset, .unset] []))
  refine own_step (fun t k => XS.iloadN X0.here hx rfl (hb hby at_0) rfl k) ?_
  show own_Ends p.tables e below s _ _ _ (s₁.setTop (mkF m 1 #[.val (.int x0_0), .val (.int x1_0), .unset, .unset, .unset, .unset, .unset] [(.int x0_0)]))
  refine own_step (fun t k => XS.iconst X0.here hx rfl (hb hby at_1) k) ?_
  show own_Ends p.tables e below s _ _ _ (s₁.setTop (mkF m 2 #[.val (.int x0_0), .val (.int x1_0), .unset, .unset, .unset, .unset, .unset] [(.int (1 : Int32)), (.int x0_0)]))
  refine own_step (fun t k => XS.iand X0.here hx rfl (hb hby at_2) rfl k) ?_
  show own_Ends p.tables e below s _ _ _ (s₁.setTop (mkF m 3 #[.val (.int x0_0), .val (.int x1_0), .unset, .unset, .unset, .unset, .unset] [(.int (x0_0 &&& (1 : Int32)))]))
  refine own_step (fun t k => XS.istoreN X0.here hx rfl (hb hby at_3) rfl (l' := #[.val (.int x0_0), .val (.int x1_0), .val (.int (x0_0 &&& (1 : Int32))), .unset, .unset, .unset, .unset]) rfl k) ?_
  show own_Ends p.tables e below s _ _ _ (s₁.setTop (mkF m 4 #[.val (.int x0_0), .val (.int x1_0), .val (.int (x0_0 &&& (1 : Int32))), .unset, .unset, .unset, .unset] []))
  refine own_step (fun t k => XS.iloadN X0.here hx rfl (hb hby at_4) rfl k) ?_
  show own_Ends p.tables e below s _ _ _ (s₁.setTop (mkF m 5 #[.val (.int x0_0), .val (.int x1_0), .val (.int (x0_0 &&& (1 : Int32))), .unset, .unset, .unset, .unset] [(.int x1_0)]))
  refine own_step (fun t k => XS.iconst X0.here hx rfl (hb hby at_5) k) ?_
  show own_Ends p.tables e below s _ _ _ (s₁.setTop (mkF m 6 #[.val (.int x0_0), .val (.int x1_0), .val (.int (x0_0 &&& (1 : Int32))), .unset, .unset, .unset, .unset] [(.int (1 : Int32)), (.int x1_0)]))
  refine own_step (fun t k => XS.iand X0.here hx rfl (hb hby at_6) rfl k) ?_
  show own_Ends p.tables e below s _ _ _ (s₁.setTop (mkF m 7 #[.val (.int x0_0), .val (.int x1_0), .val (.int (x0_0 &&& (1 : Int32))), .unset, .unset, .unset, .unset] [(.int (x1_0 &&& (1 : Int32)))]))
  refine own_step (fun t k => XS.istoreN X0.here hx rfl (hb hby at_7) rfl (l' := #[.val (.int x0_0), .val (.int x1_0), .val (.int (x0_0 &&& (1 : Int32))), .val (.int (x1_0 &&& (1 : Int32))), .unset, .unset, .unset]) rfl k) ?_
  show own_Ends p.tables e below s _ _ _ (s₁.setTop (mkF m 8 #[.val (.int x0_0), .val (.int x1_0), .val (.int (x0_0 &&& (1 : Int32))), .val (.int (x1_0 &&& (1 : Int32))), .unset, .unset, .unset] []))
  refine own_step (fun t k => XS.iloadN X0.here hx rfl (hb hby at_8) rfl k) ?_
  show own_Ends p.tables e below s _ _ _ (s₁.setTop (mkF m 9 #[.val (.int x0_0), .val (.int x1_0), .val (.int (x0_0 &&& (1 : Int32))), .val (.int (x1_0 &&& (1 : Int32))), .unset, .unset, .unset] [(.int (x0_0 &&& (1 : Int32)))]))
  refine own_step (fun t k => XS.iconst X0.here hx rfl (hb hby at_9) k) ?_
  show own_Ends p.tables e below s _ _ _ (s₁.setTop (mkF m 10 #[.val (.int x0_0), .val (.int x1_0), .val (.int (x0_0 &&& (1 : Int32))), .val (.int (x1_0 &&& (1 : Int32))), .unset, .unset, .unset] [(.int (1 : Int32)), (.int (x0_0 &&& (1 : Int32)))]))
  by_cases hc10_1 : (x0_0 &&& (1 : Int32)) = (1 : Int32)
  · skip
    refine own_step (fun t k => XS.icmpNo X0.here hx rfl (hb hby at_10) rfl (teq hc10_1).2 k) ?_
    show own_Ends p.tables e below s _ _ _ (s₁.setTop (mkF m 13 #[.val (.int x0_0), .val (.int x1_0), .val (.int (x0_0 &&& (1 : Int32))), .val (.int (x1_0 &&& (1 : Int32))), .unset, .unset, .unset] []))
    obtain ⟨T2, X2, e2, st2⟩ := getS2 X0 hx hZ hown (host := "") (Or.inl (hw _ (List.mem_of_getElem? (i := 3) rfl))) Via.refl e0 (S_WRITE.ext O0.2) (g := (mkF m 13 #[.val (.int x0_0), .val (.int x1_0), .val (.int (x0_0 &&& (1 : Int32))), .val (.int (x1_0 &&& (1 : Int32))), .unset, .unset, .unset] [])) rfl (hb hby at_13)
    refine own_step (fun t k => st2 _ k) ?_
    show own_Ends p.tables e below s _ _ _ (T2.setTop (mkF m 16 #[.val (.int x0_0), .val (.int x1_0), .val (.int (x0_0 &&& (1 : Int32))), .val (.int (x1_0 &&& (1 : Int32))), .unset, .unset, .unset] [(.ref w_WRITE)]))
    refine own_step (fun t k => XS.goto X2.here hx rfl (pc0 := 16) (pc' := 22) rfl (hb hby at_16) (by decide) (by decide) k) ?_
    show own_Ends p.tables e below s _ _ _ (T2.setTop (mkF m 22 #[.val (.int x0_0), .val (.int x1_0), .val (.int (x0_0 &&& (1 : Int32))), .val (.int (x1_0 &&& (1 : Int32))), .unset, .unset, .unset] [(.ref w_WRITE)]))
    refine own_step (fun t k => XS.astore X2.here hx rfl (hb hby at_22) rfl rfl (l' := #[.val (.int x0_0), .val (.int x1_0), .val (.int (x0_0 &&& (1 : Int32))), .val (.int (x1_0 &&& (1 : Int32))), .val (.ref w_WRITE), .unset, .unset]) rfl k) ?_
    show own_Ends p.tables e below s _ _ _ (T2.setTop (mkF m 24 #[.val (.int x0_0), .val (.int x1_0), .val (.int (x0_0 &&& (1 : Int32))), .val (.int (x1_0 &&& (1 : Int32))), .val (.ref w_WRITE), .unset, .unset] []))
    refine own_step (fun t k => XS.iloadN X2.here hx rfl (hb hby at_24) rfl k) ?_
    show own_Ends p.tables e below s _ _ _ (T2.setTop (mkF m 25 #[.val (.int x0_0), .val (.int x1_0), .val (.int (x0_0 &&& (1 : Int32))), .val (.int (x1_0 &&& (1 : Int32))), .val (.ref w_WRITE), .unset, .unset] [(.int (x1_0 &&& (1 : Int32)))]))
    refine own_step (fun t k => XS.iconst X2.here hx rfl (hb hby at_25) k) ?_
    show own_Ends p.tables e below s _ _ _ (T2.setTop (mkF m 26 #[.val (.int x0_0), .val (.int x1_0), .val (.int (x0_0 &&& (1 : Int32))), .val (.int (x1_0 &&& (1 : Int32))), .val (.ref w_WRITE), .unset, .unset] [(.int (1 : Int32)), (.int (x1_0 &&& (1 : Int32)))]))
    by_cases hc26_3 : (x1_0 &&& (1 : Int32)) = (1 : Int32)
    · skip
      refine own_step (fun t k => XS.icmpNo X2.here hx rfl (hb hby at_26) rfl (teq hc26_3).2 k) ?_
      show own_Ends p.tables e below s _ _ _ (T2.setTop (mkF m 29 #[.val (.int x0_0), .val (.int x1_0), .val (.int (x0_0 &&& (1 : Int32))), .val (.int (x1_0 &&& (1 : Int32))), .val (.ref w_WRITE), .unset, .unset] []))
      obtain ⟨T4, X4, e4, st4⟩ := getS2 X2 hx hZ hown (host := "") (Or.inl (hw _ (List.mem_of_getElem? (i := 3) rfl))) Via.refl e2 (S_WRITE.ext O0.2) (g := (mkF m 29 #[.val (.int x0_0), .val (.int x1_0), .val (.int (x0_0 &&& (1 : Int32))), .val (.int (x1_0 &&& (1 : Int32))), .val (.ref w_WRITE), .unset, .unset] [])) rfl (hb hby at_29)
      refine own_step (fun t k => st4 _ k) ?_
      show own_Ends p.tables e below s _ _ _ (T4.setTop (mkF m 32 #[.val (.int x0_0), .val (.int x1_0), .val (.int (x0_0 &&& (1 : Int32))), .val (.int (x1_0 &&& (1 : Int32))), .val (.ref w_WRITE), .unset, .unset] [(.ref w_WRITE)]))
      refine own_step (fun t k => XS.goto X4.here hx rfl (pc0 := 32) (pc' := 38) rfl (hb hby at_32) (by decide) (by decide) k) ?_
      show own_Ends p.tables e below s _ _ _ (T4.setTop (mkF m 38 #[.val (.int x0_0), .val (.int x1_0), .val (.int (x0_0 &&& (1 : Int32))), .val (.int (x1_0 &&& (1 : Int32))), .val (.ref w_WRITE), .unset, .unset] [(.ref w_WRITE)]))
      refine own_step (fun t k => XS.astore X4.here hx rfl (hb hby at_38) rfl rfl (l' := #[.val (.int x0_0), .val (.int x1_0), .val (.int (x0_0 &&& (1 : Int32))), .val (.int (x1_0 &&& (1 : Int32))), .val (.ref w_WRITE), .val (.ref w_WRITE), .unset]) rfl k) ?_
      show own_Ends p.tables e below s _ _ _ (T4.setTop (mkF m 40 #[.val (.int x0_0), .val (.int x1_0), .val (.int (x0_0 &&& (1 : Int32))), .val (.int (x1_0 &&& (1 : Int32))), .val (.ref w_WRITE), .val (.ref w_WRITE), .unset] []))
      refine own_step (fun t k => XS.aload X4.here hx rfl (hb hby at_40) rfl rfl k) ?_
      show own_Ends p.tables e below s _ _ _ (T4.setTop (mkF m 42 #[.val (.int x0_0), .val (.int x1_0), .val (.int (x0_0 &&& (1 : Int32))), .val (.int (x1_0 &&& (1 : Int32))), .val (.ref w_WRITE), .val (.ref w_WRITE), .unset] [(.ref w_WRITE)]))
      refine own_step (fun t k => XS.aload X4.here hx rfl (hb hby at_42) rfl rfl k) ?_
      show own_Ends p.tables e below s _ _ _ (T4.setTop (mkF m 44 #[.val (.int x0_0), .val (.int x1_0), .val (.int (x0_0 &&& (1 : Int32))), .val (.int (x1_0 &&& (1 : Int32))), .val (.ref w_WRITE), .val (.ref w_WRITE), .unset] [(.ref w_WRITE), (.ref w_WRITE)]))
      obtain ⟨cq5, kq5, q5a, q5b, q5c⟩ := isOf hZ e4 E_w_WRITE
      obtain ⟨_, _, ⟨T5, L5, k5, n5⟩, -, X5, ⟨Lc5, hQ5, l5, y5, z5⟩, st5⟩ := X4.virtualBack hx (y := (⟨"com/example/serigraph/serigraph/locking/LockMode", "join", "(Lcom/example/serigraph/serigraph/locking/LockMode;)Lcom/example/serigraph/serigraph/locking/LockMode;"⟩ : MethodName)) (z := (⟨"com/example/serigraph/serigraph/locking/LockMode", "join", "(Lcom/example/serigraph/serigraph/locking/LockMode;)Lcom/example/serigraph/serigraph/locking/LockMode;"⟩ : MethodName)) hown (mvT hZ (hw _ (List.mem_of_getElem? (i := 5) rfl))) (mvT hZ (hw _ (List.mem_of_getElem? (i := 6) rfl))) (notFace_of_selects (args := #[]) (mvT hZ (hw _ (List.mem_of_getElem? (i := 8) rfl)))) (mvT hZ (hw _ (List.mem_of_getElem? (i := 8) rfl))) (mvT hZ (hw _ (List.mem_of_getElem? (i := 7) rfl))) (by decide) (backOf (W := 0) (rm1 l Z a0 hw [] w_WRITE w_WRITE w_WRITE w_READ h0 n0 O0 S_WRITE S_READ) hZ (hw _ (List.mem_of_getElem? (i := 9) rfl)) (hw _ (List.mem_of_getElem? (i := 1) rfl)) (by decide) (by decide)) q5a q5c (g := (mkF m 44 #[.val (.int x0_0), .val (.int x1_0), .val (.int (x0_0 &&& (1 : Int32))), .val (.int (x1_0 &&& (1 : Int32))), .val (.ref w_WRITE), .val (.ref w_WRITE), .unset] [(.ref w_WRITE), (.ref w_WRITE)])) rfl (by rw [hml]; rfl) (Steps.refl _) (argsL := [(.ref w_WRITE)]) (rest := []) (lenOf pd_0 rfl) rfl (by show 2 * 0 + _ ≤ _; exact Nat.le_of_eq rfl) (hb hby at_44) (fun _ _ => ⟨rfl, e4, (by decide : 0 + 0 ≤ _), (by decide : 0 + 0 ≤ _)⟩)
      dsimp only [Pt.U, Pt.locs, Pt.cells, Pt.slots] at X5 l5 y5 z5 st5 hQ5
      subst l5 y5 z5
      obtain ⟨rfl, N5q, e5⟩ := hQ5
      refine own_step (fun t k => st5.trans k) ?_
      have N6 := Fr.app N0 N5q
      have hv7 : (own_r1 w_WRITE w_WRITE w_WRITE w_READ) = w_WRITE := by unfold own_r1; rw [if_pos (rfl : w_WRITE = w_WRITE)]
      show own_Ends p.tables e below s _ _ _ (T5.setTop (mkF m 47 #[.val (.int x0_0), .val (.int x1_0), .val (.int (x0_0 &&& (1 : Int32))), .val (.int (x1_0 &&& (1 : Int32))), .val (.ref w_WRITE), .val (.ref w_WRITE), .unset] [(.ref (own_r1 w_WRITE w_WRITE w_WRITE w_READ))]))
      rw [hv7]
      show own_Ends p.tables e below s _ _ _ (T5.setTop (mkF m 47 #[.val (.int x0_0), .val (.int x1_0), .val (.int (x0_0 &&& (1 : Int32))), .val (.int (x1_0 &&& (1 : Int32))), .val (.ref w_WRITE), .val (.ref w_WRITE), .unset] [(.ref w_WRITE)]))
      refine own_step (fun t k => XS.astore X5.here hx rfl (hb hby at_47) rfl rfl (l' := #[.val (.int x0_0), .val (.int x1_0), .val (.int (x0_0 &&& (1 : Int32))), .val (.int (x1_0 &&& (1 : Int32))), .val (.ref w_WRITE), .val (.ref w_WRITE), .val (.ref w_WRITE)]) rfl k) ?_
      show own_Ends p.tables e below s _ _ _ (T5.setTop (mkF m 49 #[.val (.int x0_0), .val (.int x1_0), .val (.int (x0_0 &&& (1 : Int32))), .val (.int (x1_0 &&& (1 : Int32))), .val (.ref w_WRITE), .val (.ref w_WRITE), .val (.ref w_WRITE)] []))
      refine own_step (fun t k => XS.aload X5.here hx rfl (hb hby at_49) rfl rfl k) ?_
      show own_Ends p.tables e below s _ _ _ (T5.setTop (mkF m 51 #[.val (.int x0_0), .val (.int x1_0), .val (.int (x0_0 &&& (1 : Int32))), .val (.int (x1_0 &&& (1 : Int32))), .val (.ref w_WRITE), .val (.ref w_WRITE), .val (.ref w_WRITE)] [(.ref w_WRITE)]))
      obtain ⟨_, _, ⟨T8, L8, k8, n8⟩, -, X8, ⟨Lc8, hQ8, l8, y8, z8⟩, st8⟩ := Jvm.LawKit.callS X5 hx (y := (⟨"com/example/serigraph/serigraph/locking/LockModeJoinPinLaw", "rank", "(Lcom/example/serigraph/serigraph/locking/LockMode;)I"⟩ : MethodName)) hown (mvT hZ (hw _ (List.mem_of_getElem? (i := 11) rfl))) (mvT hZ (hw _ (List.mem_of_getElem? (i := 12) rfl))) (mvT hZ (hw _ (List.mem_of_getElem? (i := 13) rfl))) (mvT hZ (hw _ (List.mem_of_getElem? (i := 14) rfl))) (by decide) (backOf (W := 0) (rm2 l Z a0 hw [] w_WRITE w_WRITE w_READ h0 n0 O0 S_WRITE S_READ) hZ (hw _ (List.mem_of_getElem? (i := 14) rfl)) (hw _ (List.mem_of_getElem? (i := 13) rfl)) (by decide) (by decide)) (g := (mkF m 51 #[.val (.int x0_0), .val (.int x1_0), .val (.int (x0_0 &&& (1 : Int32))), .val (.int (x1_0 &&& (1 : Int32))), .val (.ref w_WRITE), .val (.ref w_WRITE), .val (.ref w_WRITE)] [(.ref w_WRITE)])) rfl (by rw [hml]; rfl) (argsL := [(.ref w_WRITE)]) (rest := []) (lenOf pd_1 rfl) rfl (by show 2 * 0 + _ ≤ _; exact Nat.le_of_eq rfl) (hb hby at_51) (fun _ _ => ⟨rfl, e5, (by decide : 0 + 0 ≤ _), (by decide : 0 + 0 ≤ _)⟩)
      dsimp only [Pt.U, Pt.locs, Pt.cells, Pt.slots] at X8 l8 y8 z8 st8 hQ8
      subst l8 y8 z8
      obtain ⟨rfl, N8q, e8⟩ := hQ8
      refine own_step (fun t k => st8 _ k) ?_
      have N9 := Fr.app N6 N8q
      show own_Ends p.tables e below s _ _ _ (T8.setTop (mkF m 54 #[.val (.int x0_0), .val (.int x1_0), .val (.int (x0_0 &&& (1 : Int32))), .val (.int (x1_0 &&& (1 : Int32))), .val (.ref w_WRITE), .val (.ref w_WRITE), .val (.ref w_WRITE)] [(.int (own_r2 w_WRITE w_WRITE w_READ))]))
      refine own_step (fun t k => XS.iloadN X8.here hx rfl (hb hby at_54) rfl k) ?_
      show own_Ends p.tables e below s _ _ _ (T8.setTop (mkF m 55 #[.val (.int x0_0), .val (.int x1_0), .val (.int (x0_0 &&& (1 : Int32))), .val (.int (x1_0 &&& (1 : Int32))), .val (.ref w_WRITE), .val (.ref w_WRITE), .val (.ref w_WRITE)] [(.int (x0_0 &&& (1 : Int32))), (.int (own_r2 w_WRITE w_WRITE w_READ))]))
      refine own_step (fun t k => XS.iloadN X8.here hx rfl (hb hby at_55) rfl k) ?_
      show own_Ends p.tables e below s _ _ _ (T8.setTop (mkF m 56 #[.val (.int x0_0), .val (.int x1_0), .val (.int (x0_0 &&& (1 : Int32))), .val (.int (x1_0 &&& (1 : Int32))), .val (.ref w_WRITE), .val (.ref w_WRITE), .val (.ref w_WRITE)] [(.int (x1_0 &&& (1 : Int32))), (.int (x0_0 &&& (1 : Int32))), (.int (own_r2 w_WRITE w_WRITE w_READ))]))
      obtain ⟨_, _, ⟨T10, L10, k10, n10⟩, -, X10, ⟨Lc10, hQ10, l10, y10, z10⟩, st10⟩ := Jvm.LawKit.callS X8 hx (y := (⟨"java/lang/Math", "max", "(II)I"⟩ : MethodName)) hown (mvT hZ (hw _ (List.mem_of_getElem? (i := 15) rfl))) (mvT hZ (hw _ (List.mem_of_getElem? (i := 16) rfl))) (mvT hZ (hw _ (List.mem_of_getElem? (i := 17) rfl))) (mvT hZ (hw _ (List.mem_of_getElem? (i := 18) rfl))) (by decide) (backOf (W := 1) (rm3 l Z a0 hw [] (x0_0 &&& (1 : Int32)) (x1_0 &&& (1 : Int32)) h0 n0 O0 ) hZ (hw _ (List.mem_of_getElem? (i := 18) rfl)) (hw _ (List.mem_of_getElem? (i := 17) rfl)) (by decide) (by decide)) (g := (mkF m 56 #[.val (.int x0_0), .val (.int x1_0), .val (.int (x0_0 &&& (1 : Int32))), .val (.int (x1_0 &&& (1 : Int32))), .val (.ref w_WRITE), .val (.ref w_WRITE), .val (.ref w_WRITE)] [(.int (x1_0 &&& (1 : Int32))), (.int (x0_0 &&& (1 : Int32))), (.int (own_r2 w_WRITE w_WRITE w_READ))])) rfl (by rw [hml]; rfl) (argsL := [(.int (x0_0 &&& (1 : Int32))), (.int (x1_0 &&& (1 : Int32)))]) (rest := [(.int (own_r2 w_WRITE w_WRITE w_READ))]) (lenOf pd_2 rfl) rfl (by show 2 * 0 + _ ≤ _; exact Nat.le_of_eq rfl) (hb hby at_56) (fun _ _ => ⟨rfl, e8, (by decide : 0 + 0 ≤ _), (by decide : 0 + 0 ≤ _)⟩)
      dsimp only [Pt.U, Pt.locs, Pt.cells, Pt.slots] at X10 l10 y10 z10 st10 hQ10
      subst l10 y10 z10
      obtain ⟨rfl, N10q, e10⟩ := hQ10
      refine own_step (fun t k => st10 _ k) ?_
      have N11 := Fr.app N9 N10q
      show own_Ends p.tables e below s _ _ _ (T10.setTop (mkF m 59 #[.val (.int x0_0), .val (.int x1_0), .val (.int (x0_0 &&& (1 : Int32))), .val (.int (x1_0 &&& (1 : Int32))), .val (.ref w_WRITE), .val (.ref w_WRITE), .val (.ref w_WRITE)] [(.int (own_r3 (x0_0 &&& (1 : Int32)) (x1_0 &&& (1 : Int32)))), (.int (own_r2 w_WRITE w_WRITE w_READ))]))
      by_cases hc59_12 : (own_r2 w_WRITE w_WRITE w_READ) = (own_r3 (x0_0 &&& (1 : Int32)) (x1_0 &&& (1 : Int32)))
      · skip
        refine own_step (fun t k => XS.icmpNo X10.here hx rfl (hb hby at_59) rfl (teq hc59_12).2 k) ?_
        show own_Ends p.tables e below s _ _ _ (T10.setTop (mkF m 62 #[.val (.int x0_0), .val (.int x1_0), .val (.int (x0_0 &&& (1 : Int32))), .val (.int (x1_0 &&& (1 : Int32))), .val (.ref w_WRITE), .val (.ref w_WRITE), .val (.ref w_WRITE)] []))
        refine own_step (fun t k => XS.iconst X10.here hx rfl (hb hby at_62) k) ?_
        show own_Ends p.tables e below s _ _ _ (T10.setTop (mkF m 63 #[.val (.int x0_0), .val (.int x1_0), .val (.int (x0_0 &&& (1 : Int32))), .val (.int (x1_0 &&& (1 : Int32))), .val (.ref w_WRITE), .val (.ref w_WRITE), .val (.ref w_WRITE)] [(.int (1 : Int32))]))
        refine own_step (fun t k => XS.goto X10.here hx rfl (pc0 := 63) (pc' := 67) rfl (hb hby at_63) (by decide) (by decide) k) ?_
        show own_Ends p.tables e below s _ _ _ (T10.setTop (mkF m 67 #[.val (.int x0_0), .val (.int x1_0), .val (.int (x0_0 &&& (1 : Int32))), .val (.int (x1_0 &&& (1 : Int32))), .val (.ref w_WRITE), .val (.ref w_WRITE), .val (.ref w_WRITE)] [(.int (1 : Int32))]))
        exact own_retN X10 hx (t := .boolean) Bd.returns (by simp) (hb hby at_67) hnl (by rw [e10]; exact ⟨rfl, N11⟩) (by decide) (by decide)
      · skip
        refine own_step (fun t k => XS.icmpYes X10.here hx rfl (pc0 := 59) (pc' := 66) rfl (hb hby at_59) rfl (feq hc59_12).2 (by decide) (by decide) k) ?_
        show own_Ends p.tables e below s _ _ _ (T10.setTop (mkF m 66 #[.val (.int x0_0), .val (.int x1_0), .val (.int (x0_0 &&& (1 : Int32))), .val (.int (x1_0 &&& (1 : Int32))), .val (.ref w_WRITE), .val (.ref w_WRITE), .val (.ref w_WRITE)] []))
        refine own_step (fun t k => XS.iconst X10.here hx rfl (hb hby at_66) k) ?_
        show own_Ends p.tables e below s _ _ _ (T10.setTop (mkF m 67 #[.val (.int x0_0), .val (.int x1_0), .val (.int (x0_0 &&& (1 : Int32))), .val (.int (x1_0 &&& (1 : Int32))), .val (.ref w_WRITE), .val (.ref w_WRITE), .val (.ref w_WRITE)] [(.int (0 : Int32))]))
        exfalso
        apply hc59_12
        rw [hc10_1, hc26_3]
        simp [own_r2, own_r3, ne_w_READ_w_WRITE]
    · skip
      refine own_step (fun t k => XS.icmpYes X2.here hx rfl (pc0 := 26) (pc' := 35) rfl (hb hby at_26) rfl (feq hc26_3).2 (by decide) (by decide) k) ?_
      show own_Ends p.tables e below s _ _ _ (T2.setTop (mkF m 35 #[.val (.int x0_0), .val (.int x1_0), .val (.int (x0_0 &&& (1 : Int32))), .val (.int (x1_0 &&& (1 : Int32))), .val (.ref w_WRITE), .unset, .unset] []))
      obtain ⟨T13, X13, e13, st13⟩ := getS2 X2 hx hZ hown (host := "") (Or.inl (hw _ (List.mem_of_getElem? (i := 0) rfl))) Via.refl e2 (S_READ.ext O0.2) (g := (mkF m 35 #[.val (.int x0_0), .val (.int x1_0), .val (.int (x0_0 &&& (1 : Int32))), .val (.int (x1_0 &&& (1 : Int32))), .val (.ref w_WRITE), .unset, .unset] [])) rfl (hb hby at_35)
      refine own_step (fun t k => st13 _ k) ?_
      show own_Ends p.tables e below s _ _ _ (T13.setTop (mkF m 38 #[.val (.int x0_0), .val (.int x1_0), .val (.int (x0_0 &&& (1 : Int32))), .val (.int (x1_0 &&& (1 : Int32))), .val (.ref w_WRITE), .unset, .unset] [(.ref w_READ)]))
      refine own_step (fun t k => XS.astore X13.here hx rfl (hb hby at_38) rfl rfl (l' := #[.val (.int x0_0), .val (.int x1_0), .val (.int (x0_0 &&& (1 : Int32))), .val (.int (x1_0 &&& (1 : Int32))), .val (.ref w_WRITE), .val (.ref w_READ), .unset]) rfl k) ?_
      show own_Ends p.tables e below s _ _ _ (T13.setTop (mkF m 40 #[.val (.int x0_0), .val (.int x1_0), .val (.int (x0_0 &&& (1 : Int32))), .val (.int (x1_0 &&& (1 : Int32))), .val (.ref w_WRITE), .val (.ref w_READ), .unset] []))
      refine own_step (fun t k => XS.aload X13.here hx rfl (hb hby at_40) rfl rfl k) ?_
      show own_Ends p.tables e below s _ _ _ (T13.setTop (mkF m 42 #[.val (.int x0_0), .val (.int x1_0), .val (.int (x0_0 &&& (1 : Int32))), .val (.int (x1_0 &&& (1 : Int32))), .val (.ref w_WRITE), .val (.ref w_READ), .unset] [(.ref w_WRITE)]))
      refine own_step (fun t k => XS.aload X13.here hx rfl (hb hby at_42) rfl rfl k) ?_
      show own_Ends p.tables e below s _ _ _ (T13.setTop (mkF m 44 #[.val (.int x0_0), .val (.int x1_0), .val (.int (x0_0 &&& (1 : Int32))), .val (.int (x1_0 &&& (1 : Int32))), .val (.ref w_WRITE), .val (.ref w_READ), .unset] [(.ref w_READ), (.ref w_WRITE)]))
      obtain ⟨cq14, kq14, q14a, q14b, q14c⟩ := isOf hZ e13 E_w_WRITE
      obtain ⟨_, _, ⟨T14, L14, k14, n14⟩, -, X14, ⟨Lc14, hQ14, l14, y14, z14⟩, st14⟩ := X13.virtualBack hx (y := (⟨"com/example/serigraph/serigraph/locking/LockMode", "join", "(Lcom/example/serigraph/serigraph/locking/LockMode;)Lcom/example/serigraph/serigraph/locking/LockMode;"⟩ : MethodName)) (z := (⟨"com/example/serigraph/serigraph/locking/LockMode", "join", "(Lcom/example/serigraph/serigraph/locking/LockMode;)Lcom/example/serigraph/serigraph/locking/LockMode;"⟩ : MethodName)) hown (mvT hZ (hw _ (List.mem_of_getElem? (i := 5) rfl))) (mvT hZ (hw _ (List.mem_of_getElem? (i := 6) rfl))) (notFace_of_selects (args := #[]) (mvT hZ (hw _ (List.mem_of_getElem? (i := 8) rfl)))) (mvT hZ (hw _ (List.mem_of_getElem? (i := 8) rfl))) (mvT hZ (hw _ (List.mem_of_getElem? (i := 7) rfl))) (by decide) (backOf (W := 0) (rm1 l Z a0 hw [] w_WRITE w_READ w_WRITE w_READ h0 n0 O0 S_WRITE S_READ) hZ (hw _ (List.mem_of_getElem? (i := 9) rfl)) (hw _ (List.mem_of_getElem? (i := 1) rfl)) (by decide) (by decide)) q14a q14c (g := (mkF m 44 #[.val (.int x0_0), .val (.int x1_0), .val (.int (x0_0 &&& (1 : Int32))), .val (.int (x1_0 &&& (1 : Int32))), .val (.ref w_WRITE), .val (.ref w_READ), .unset] [(.ref w_READ), (.ref w_WRITE)])) rfl (by rw [hml]; rfl) (Steps.refl _) (argsL := [(.ref w_READ)]) (rest := []) (lenOf pd_0 rfl) rfl (by show 2 * 0 + _ ≤ _; exact Nat.le_of_eq rfl) (hb hby at_44) (fun _ _ => ⟨rfl, e13, (by decide : 0 + 0 ≤ _), (by decide : 0 + 0 ≤ _)⟩)
      dsimp only [Pt.U, Pt.locs, Pt.cells, Pt.slots] at X14 l14 y14 z14 st14 hQ14
      subst l14 y14 z14
      obtain ⟨rfl, N14q, e14⟩ := hQ14
      refine own_step (fun t k => st14.trans k) ?_
      have N15 := Fr.app N0 N14q
      have hv16 : (own_r1 w_WRITE w_READ w_WRITE w_READ) = w_WRITE := by unfold own_r1; rw [if_pos (rfl : w_WRITE = w_WRITE)]
      show own_Ends p.tables e below s _ _ _ (T14.setTop (mkF m 47 #[.val (.int x0_0), .val (.int x1_0), .val (.int (x0_0 &&& (1 : Int32))), .val (.int (x1_0 &&& (1 : Int32))), .val (.ref w_WRITE), .val (.ref w_READ), .unset] [(.ref (own_r1 w_WRITE w_READ w_WRITE w_READ))]))
      rw [hv16]
      show own_Ends p.tables e below s _ _ _ (T14.setTop (mkF m 47 #[.val (.int x0_0), .val (.int x1_0), .val (.int (x0_0 &&& (1 : Int32))), .val (.int (x1_0 &&& (1 : Int32))), .val (.ref w_WRITE), .val (.ref w_READ), .unset] [(.ref w_WRITE)]))
      refine own_step (fun t k => XS.astore X14.here hx rfl (hb hby at_47) rfl rfl (l' := #[.val (.int x0_0), .val (.int x1_0), .val (.int (x0_0 &&& (1 : Int32))), .val (.int (x1_0 &&& (1 : Int32))), .val (.ref w_WRITE), .val (.ref w_READ), .val (.ref w_WRITE)]) rfl k) ?_
      show own_Ends p.tables e below s _ _ _ (T14.setTop (mkF m 49 #[.val (.int x0_0), .val (.int x1_0), .val (.int (x0_0 &&& (1 : Int32))), .val (.int (x1_0 &&& (1 : Int32))), .val (.ref w_WRITE), .val (.ref w_READ), .val (.ref w_WRITE)] []))
      refine own_step (fun t k => XS.aload X14.here hx rfl (hb hby at_49) rfl rfl k) ?_
      show own_Ends p.tables e below s _ _ _ (T14.setTop (mkF m 51 #[.val (.int x0_0), .val (.int x1_0), .val (.int (x0_0 &&& (1 : Int32))), .val (.int (x1_0 &&& (1 : Int32))), .val (.ref w_WRITE), .val (.ref w_READ), .val (.ref w_WRITE)] [(.ref w_WRITE)]))
      obtain ⟨_, _, ⟨T17, L17, k17, n17⟩, -, X17, ⟨Lc17, hQ17, l17, y17, z17⟩, st17⟩ := Jvm.LawKit.callS X14 hx (y := (⟨"com/example/serigraph/serigraph/locking/LockModeJoinPinLaw", "rank", "(Lcom/example/serigraph/serigraph/locking/LockMode;)I"⟩ : MethodName)) hown (mvT hZ (hw _ (List.mem_of_getElem? (i := 11) rfl))) (mvT hZ (hw _ (List.mem_of_getElem? (i := 12) rfl))) (mvT hZ (hw _ (List.mem_of_getElem? (i := 13) rfl))) (mvT hZ (hw _ (List.mem_of_getElem? (i := 14) rfl))) (by decide) (backOf (W := 0) (rm2 l Z a0 hw [] w_WRITE w_WRITE w_READ h0 n0 O0 S_WRITE S_READ) hZ (hw _ (List.mem_of_getElem? (i := 14) rfl)) (hw _ (List.mem_of_getElem? (i := 13) rfl)) (by decide) (by decide)) (g := (mkF m 51 #[.val (.int x0_0), .val (.int x1_0), .val (.int (x0_0 &&& (1 : Int32))), .val (.int (x1_0 &&& (1 : Int32))), .val (.ref w_WRITE), .val (.ref w_READ), .val (.ref w_WRITE)] [(.ref w_WRITE)])) rfl (by rw [hml]; rfl) (argsL := [(.ref w_WRITE)]) (rest := []) (lenOf pd_1 rfl) rfl (by show 2 * 0 + _ ≤ _; exact Nat.le_of_eq rfl) (hb hby at_51) (fun _ _ => ⟨rfl, e14, (by decide : 0 + 0 ≤ _), (by decide : 0 + 0 ≤ _)⟩)
      dsimp only [Pt.U, Pt.locs, Pt.cells, Pt.slots] at X17 l17 y17 z17 st17 hQ17
      subst l17 y17 z17
      obtain ⟨rfl, N17q, e17⟩ := hQ17
      refine own_step (fun t k => st17 _ k) ?_
      have N18 := Fr.app N15 N17q
      show own_Ends p.tables e below s _ _ _ (T17.setTop (mkF m 54 #[.val (.int x0_0), .val (.int x1_0), .val (.int (x0_0 &&& (1 : Int32))), .val (.int (x1_0 &&& (1 : Int32))), .val (.ref w_WRITE), .val (.ref w_READ), .val (.ref w_WRITE)] [(.int (own_r2 w_WRITE w_WRITE w_READ))]))
      refine own_step (fun t k => XS.iloadN X17.here hx rfl (hb hby at_54) rfl k) ?_
      show own_Ends p.tables e below s _ _ _ (T17.setTop (mkF m 55 #[.val (.int x0_0), .val (.int x1_0), .val (.int (x0_0 &&& (1 : Int32))), .val (.int (x1_0 &&& (1 : Int32))), .val (.ref w_WRITE), .val (.ref w_READ), .val (.ref w_WRITE)] [(.int (x0_0 &&& (1 : Int32))), (.int (own_r2 w_WRITE w_WRITE w_READ))]))
      refine own_step (fun t k => XS.iloadN X17.here hx rfl (hb hby at_55) rfl k) ?_
      show own_Ends p.tables e below s _ _ _ (T17.setTop (mkF m 56 #[.val (.int x0_0), .val (.int x1_0), .val (.int (x0_0 &&& (1 : Int32))), .val (.int (x1_0 &&& (1 : Int32))), .val (.ref w_WRITE), .val (.ref w_READ), .val (.ref w_WRITE)] [(.int (x1_0 &&& (1 : Int32))), (.int (x0_0 &&& (1 : Int32))), (.int (own_r2 w_WRITE w_WRITE w_READ))]))
      obtain ⟨_, _, ⟨T19, L19, k19, n19⟩, -, X19, ⟨Lc19, hQ19, l19, y19, z19⟩, st19⟩ := Jvm.LawKit.callS X17 hx (y := (⟨"java/lang/Math", "max", "(II)I"⟩ : MethodName)) hown (mvT hZ (hw _ (List.mem_of_getElem? (i := 15) rfl))) (mvT hZ (hw _ (List.mem_of_getElem? (i := 16) rfl))) (mvT hZ (hw _ (List.mem_of_getElem? (i := 17) rfl))) (mvT hZ (hw _ (List.mem_of_getElem? (i := 18) rfl))) (by decide) (backOf (W := 1) (rm3 l Z a0 hw [] (x0_0 &&& (1 : Int32)) (x1_0 &&& (1 : Int32)) h0 n0 O0 ) hZ (hw _ (List.mem_of_getElem? (i := 18) rfl)) (hw _ (List.mem_of_getElem? (i := 17) rfl)) (by decide) (by decide)) (g := (mkF m 56 #[.val (.int x0_0), .val (.int x1_0), .val (.int (x0_0 &&& (1 : Int32))), .val (.int (x1_0 &&& (1 : Int32))), .val (.ref w_WRITE), .val (.ref w_READ), .val (.ref w_WRITE)] [(.int (x1_0 &&& (1 : Int32))), (.int (x0_0 &&& (1 : Int32))), (.int (own_r2 w_WRITE w_WRITE w_READ))])) rfl (by rw [hml]; rfl) (argsL := [(.int (x0_0 &&& (1 : Int32))), (.int (x1_0 &&& (1 : Int32)))]) (rest := [(.int (own_r2 w_WRITE w_WRITE w_READ))]) (lenOf pd_2 rfl) rfl (by show 2 * 0 + _ ≤ _; exact Nat.le_of_eq rfl) (hb hby at_56) (fun _ _ => ⟨rfl, e17, (by decide : 0 + 0 ≤ _), (by decide : 0 + 0 ≤ _)⟩)
      dsimp only [Pt.U, Pt.locs, Pt.cells, Pt.slots] at X19 l19 y19 z19 st19 hQ19
      subst l19 y19 z19
      obtain ⟨rfl, N19q, e19⟩ := hQ19
      refine own_step (fun t k => st19 _ k) ?_
      have N20 := Fr.app N18 N19q
      show own_Ends p.tables e below s _ _ _ (T19.setTop (mkF m 59 #[.val (.int x0_0), .val (.int x1_0), .val (.int (x0_0 &&& (1 : Int32))), .val (.int (x1_0 &&& (1 : Int32))), .val (.ref w_WRITE), .val (.ref w_READ), .val (.ref w_WRITE)] [(.int (own_r3 (x0_0 &&& (1 : Int32)) (x1_0 &&& (1 : Int32)))), (.int (own_r2 w_WRITE w_WRITE w_READ))]))
      by_cases hc59_21 : (own_r2 w_WRITE w_WRITE w_READ) = (own_r3 (x0_0 &&& (1 : Int32)) (x1_0 &&& (1 : Int32)))
      · skip
        refine own_step (fun t k => XS.icmpNo X19.here hx rfl (hb hby at_59) rfl (teq hc59_21).2 k) ?_
        show own_Ends p.tables e below s _ _ _ (T19.setTop (mkF m 62 #[.val (.int x0_0), .val (.int x1_0), .val (.int (x0_0 &&& (1 : Int32))), .val (.int (x1_0 &&& (1 : Int32))), .val (.ref w_WRITE), .val (.ref w_READ), .val (.ref w_WRITE)] []))
        refine own_step (fun t k => XS.iconst X19.here hx rfl (hb hby at_62) k) ?_
        show own_Ends p.tables e below s _ _ _ (T19.setTop (mkF m 63 #[.val (.int x0_0), .val (.int x1_0), .val (.int (x0_0 &&& (1 : Int32))), .val (.int (x1_0 &&& (1 : Int32))), .val (.ref w_WRITE), .val (.ref w_READ), .val (.ref w_WRITE)] [(.int (1 : Int32))]))
        refine own_step (fun t k => XS.goto X19.here hx rfl (pc0 := 63) (pc' := 67) rfl (hb hby at_63) (by decide) (by decide) k) ?_
        show own_Ends p.tables e below s _ _ _ (T19.setTop (mkF m 67 #[.val (.int x0_0), .val (.int x1_0), .val (.int (x0_0 &&& (1 : Int32))), .val (.int (x1_0 &&& (1 : Int32))), .val (.ref w_WRITE), .val (.ref w_READ), .val (.ref w_WRITE)] [(.int (1 : Int32))]))
        exact own_retN X19 hx (t := .boolean) Bd.returns (by simp) (hb hby at_67) hnl (by rw [e19]; exact ⟨rfl, N20⟩) (by decide) (by decide)
      · skip
        refine own_step (fun t k => XS.icmpYes X19.here hx rfl (pc0 := 59) (pc' := 66) rfl (hb hby at_59) rfl (feq hc59_21).2 (by decide) (by decide) k) ?_
        show own_Ends p.tables e below s _ _ _ (T19.setTop (mkF m 66 #[.val (.int x0_0), .val (.int x1_0), .val (.int (x0_0 &&& (1 : Int32))), .val (.int (x1_0 &&& (1 : Int32))), .val (.ref w_WRITE), .val (.ref w_READ), .val (.ref w_WRITE)] []))
        refine own_step (fun t k => XS.iconst X19.here hx rfl (hb hby at_66) k) ?_
        show own_Ends p.tables e below s _ _ _ (T19.setTop (mkF m 67 #[.val (.int x0_0), .val (.int x1_0), .val (.int (x0_0 &&& (1 : Int32))), .val (.int (x1_0 &&& (1 : Int32))), .val (.ref w_WRITE), .val (.ref w_READ), .val (.ref w_WRITE)] [(.int (0 : Int32))]))
        exfalso
        apply hc59_21
        rw [hc10_1, own_bit _ hc26_3]
        simp [own_r2, own_r3, ne_w_READ_w_WRITE]
  · skip
    refine own_step (fun t k => XS.icmpYes X0.here hx rfl (pc0 := 10) (pc' := 19) rfl (hb hby at_10) rfl (feq hc10_1).2 (by decide) (by decide) k) ?_
    show own_Ends p.tables e below s _ _ _ (s₁.setTop (mkF m 19 #[.val (.int x0_0), .val (.int x1_0), .val (.int (x0_0 &&& (1 : Int32))), .val (.int (x1_0 &&& (1 : Int32))), .unset, .unset, .unset] []))
    obtain ⟨T22, X22, e22, st22⟩ := getS2 X0 hx hZ hown (host := "") (Or.inl (hw _ (List.mem_of_getElem? (i := 0) rfl))) Via.refl e0 (S_READ.ext O0.2) (g := (mkF m 19 #[.val (.int x0_0), .val (.int x1_0), .val (.int (x0_0 &&& (1 : Int32))), .val (.int (x1_0 &&& (1 : Int32))), .unset, .unset, .unset] [])) rfl (hb hby at_19)
    refine own_step (fun t k => st22 _ k) ?_
    show own_Ends p.tables e below s _ _ _ (T22.setTop (mkF m 22 #[.val (.int x0_0), .val (.int x1_0), .val (.int (x0_0 &&& (1 : Int32))), .val (.int (x1_0 &&& (1 : Int32))), .unset, .unset, .unset] [(.ref w_READ)]))
    refine own_step (fun t k => XS.astore X22.here hx rfl (hb hby at_22) rfl rfl (l' := #[.val (.int x0_0), .val (.int x1_0), .val (.int (x0_0 &&& (1 : Int32))), .val (.int (x1_0 &&& (1 : Int32))), .val (.ref w_READ), .unset, .unset]) rfl k) ?_
    show own_Ends p.tables e below s _ _ _ (T22.setTop (mkF m 24 #[.val (.int x0_0), .val (.int x1_0), .val (.int (x0_0 &&& (1 : Int32))), .val (.int (x1_0 &&& (1 : Int32))), .val (.ref w_READ), .unset, .unset] []))
    refine own_step (fun t k => XS.iloadN X22.here hx rfl (hb hby at_24) rfl k) ?_
    show own_Ends p.tables e below s _ _ _ (T22.setTop (mkF m 25 #[.val (.int x0_0), .val (.int x1_0), .val (.int (x0_0 &&& (1 : Int32))), .val (.int (x1_0 &&& (1 : Int32))), .val (.ref w_READ), .unset, .unset] [(.int (x1_0 &&& (1 : Int32)))]))
    refine own_step (fun t k => XS.iconst X22.here hx rfl (hb hby at_25) k) ?_
    show own_Ends p.tables e below s _ _ _ (T22.setTop (mkF m 26 #[.val (.int x0_0), .val (.int x1_0), .val (.int (x0_0 &&& (1 : Int32))), .val (.int (x1_0 &&& (1 : Int32))), .val (.ref w_READ), .unset, .unset] [(.int (1 : Int32)), (.int (x1_0 &&& (1 : Int32)))]))
    by_cases hc26_23 : (x1_0 &&& (1 : Int32)) = (1 : Int32)
    · skip
      refine own_step (fun t k => XS.icmpNo X22.here hx rfl (hb hby at_26) rfl (teq hc26_23).2 k) ?_
      show own_Ends p.tables e below s _ _ _ (T22.setTop (mkF m 29 #[.val (.int x0_0), .val (.int x1_0), .val (.int (x0_0 &&& (1 : Int32))), .val (.int (x1_0 &&& (1 : Int32))), .val (.ref w_READ), .unset, .unset] []))
      obtain ⟨T24, X24, e24, st24⟩ := getS2 X22 hx hZ hown (host := "") (Or.inl (hw _ (List.mem_of_getElem? (i := 3) rfl))) Via.refl e22 (S_WRITE.ext O0.2) (g := (mkF m 29 #[.val (.int x0_0), .val (.int x1_0), .val (.int (x0_0 &&& (1 : Int32))), .val (.int (x1_0 &&& (1 : Int32))), .val (.ref w_READ), .unset, .unset] [])) rfl (hb hby at_29)
      refine own_step (fun t k => st24 _ k) ?_
      show own_Ends p.tables e below s _ _ _ (T24.setTop (mkF m 32 #[.val (.int x0_0), .val (.int x1_0), .val (.int (x0_0 &&& (1 : Int32))), .val (.int (x1_0 &&& (1 : Int32))), .val (.ref w_READ), .unset, .unset] [(.ref w_WRITE)]))
      refine own_step (fun t k => XS.goto X24.here hx rfl (pc0 := 32) (pc' := 38) rfl (hb hby at_32) (by decide) (by decide) k) ?_
      show own_Ends p.tables e below s _ _ _ (T24.setTop (mkF m 38 #[.val (.int x0_0), .val (.int x1_0), .val (.int (x0_0 &&& (1 : Int32))), .val (.int (x1_0 &&& (1 : Int32))), .val (.ref w_READ), .unset, .unset] [(.ref w_WRITE)]))
      refine own_step (fun t k => XS.astore X24.here hx rfl (hb hby at_38) rfl rfl (l' := #[.val (.int x0_0), .val (.int x1_0), .val (.int (x0_0 &&& (1 : Int32))), .val (.int (x1_0 &&& (1 : Int32))), .val (.ref w_READ), .val (.ref w_WRITE), .unset]) rfl k) ?_
      show own_Ends p.tables e below s _ _ _ (T24.setTop (mkF m 40 #[.val (.int x0_0), .val (.int x1_0), .val (.int (x0_0 &&& (1 : Int32))), .val (.int (x1_0 &&& (1 : Int32))), .val (.ref w_READ), .val (.ref w_WRITE), .unset] []))
      refine own_step (fun t k => XS.aload X24.here hx rfl (hb hby at_40) rfl rfl k) ?_
      show own_Ends p.tables e below s _ _ _ (T24.setTop (mkF m 42 #[.val (.int x0_0), .val (.int x1_0), .val (.int (x0_0 &&& (1 : Int32))), .val (.int (x1_0 &&& (1 : Int32))), .val (.ref w_READ), .val (.ref w_WRITE), .unset] [(.ref w_READ)]))
      refine own_step (fun t k => XS.aload X24.here hx rfl (hb hby at_42) rfl rfl k) ?_
      show own_Ends p.tables e below s _ _ _ (T24.setTop (mkF m 44 #[.val (.int x0_0), .val (.int x1_0), .val (.int (x0_0 &&& (1 : Int32))), .val (.int (x1_0 &&& (1 : Int32))), .val (.ref w_READ), .val (.ref w_WRITE), .unset] [(.ref w_WRITE), (.ref w_READ)]))
      obtain ⟨cq25, kq25, q25a, q25b, q25c⟩ := isOf hZ e24 E_w_READ
      obtain ⟨_, _, ⟨T25, L25, k25, n25⟩, -, X25, ⟨Lc25, hQ25, l25, y25, z25⟩, st25⟩ := X24.virtualBack hx (y := (⟨"com/example/serigraph/serigraph/locking/LockMode", "join", "(Lcom/example/serigraph/serigraph/locking/LockMode;)Lcom/example/serigraph/serigraph/locking/LockMode;"⟩ : MethodName)) (z := (⟨"com/example/serigraph/serigraph/locking/LockMode", "join", "(Lcom/example/serigraph/serigraph/locking/LockMode;)Lcom/example/serigraph/serigraph/locking/LockMode;"⟩ : MethodName)) hown (mvT hZ (hw _ (List.mem_of_getElem? (i := 5) rfl))) (mvT hZ (hw _ (List.mem_of_getElem? (i := 6) rfl))) (notFace_of_selects (args := #[]) (mvT hZ (hw _ (List.mem_of_getElem? (i := 8) rfl)))) (mvT hZ (hw _ (List.mem_of_getElem? (i := 8) rfl))) (mvT hZ (hw _ (List.mem_of_getElem? (i := 7) rfl))) (by decide) (backOf (W := 0) (rm1 l Z a0 hw [] w_READ w_WRITE w_WRITE w_READ h0 n0 O0 S_WRITE S_READ) hZ (hw _ (List.mem_of_getElem? (i := 9) rfl)) (hw _ (List.mem_of_getElem? (i := 1) rfl)) (by decide) (by decide)) q25a q25c (g := (mkF m 44 #[.val (.int x0_0), .val (.int x1_0), .val (.int (x0_0 &&& (1 : Int32))), .val (.int (x1_0 &&& (1 : Int32))), .val (.ref w_READ), .val (.ref w_WRITE), .unset] [(.ref w_WRITE), (.ref w_READ)])) rfl (by rw [hml]; rfl) (Steps.refl _) (argsL := [(.ref w_WRITE)]) (rest := []) (lenOf pd_0 rfl) rfl (by show 2 * 0 + _ ≤ _; exact Nat.le_of_eq rfl) (hb hby at_44) (fun _ _ => ⟨rfl, e24, (by decide : 0 + 0 ≤ _), (by decide : 0 + 0 ≤ _)⟩)
      dsimp only [Pt.U, Pt.locs, Pt.cells, Pt.slots] at X25 l25 y25 z25 st25 hQ25
      subst l25 y25 z25
      obtain ⟨rfl, N25q, e25⟩ := hQ25
      refine own_step (fun t k => st25.trans k) ?_
      have N26 := Fr.app N0 N25q
      have hv27 : (own_r1 w_READ w_WRITE w_WRITE w_READ) = w_WRITE := by unfold own_r1; rw [if_neg (show ¬ (w_READ = w_WRITE) from ne_w_READ_w_WRITE), if_pos (rfl : w_WRITE = w_WRITE)]
      show own_Ends p.tables e below s _ _ _ (T25.setTop (mkF m 47 #[.val (.int x0_0), .val (.int x1_0), .val (.int (x0_0 &&& (1 : Int32))), .val (.int (x1_0 &&& (1 : Int32))), .val (.ref w_READ), .val (.ref w_WRITE), .unset] [(.ref (own_r1 w_READ w_WRITE w_WRITE w_READ))]))
      rw [hv27]
      show own_Ends p.tables e below s _ _ _ (T25.setTop (mkF m 47 #[.val (.int x0_0), .val (.int x1_0), .val (.int (x0_0 &&& (1 : Int32))), .val (.int (x1_0 &&& (1 : Int32))), .val (.ref w_READ), .val (.ref w_WRITE), .unset] [(.ref w_WRITE)]))
      refine own_step (fun t k => XS.astore X25.here hx rfl (hb hby at_47) rfl rfl (l' := #[.val (.int x0_0), .val (.int x1_0), .val (.int (x0_0 &&& (1 : Int32))), .val (.int (x1_0 &&& (1 : Int32))), .val (.ref w_READ), .val (.ref w_WRITE), .val (.ref w_WRITE)]) rfl k) ?_
      show own_Ends p.tables e below s _ _ _ (T25.setTop (mkF m 49 #[.val (.int x0_0), .val (.int x1_0), .val (.int (x0_0 &&& (1 : Int32))), .val (.int (x1_0 &&& (1 : Int32))), .val (.ref w_READ), .val (.ref w_WRITE), .val (.ref w_WRITE)] []))
      refine own_step (fun t k => XS.aload X25.here hx rfl (hb hby at_49) rfl rfl k) ?_
      show own_Ends p.tables e below s _ _ _ (T25.setTop (mkF m 51 #[.val (.int x0_0), .val (.int x1_0), .val (.int (x0_0 &&& (1 : Int32))), .val (.int (x1_0 &&& (1 : Int32))), .val (.ref w_READ), .val (.ref w_WRITE), .val (.ref w_WRITE)] [(.ref w_WRITE)]))
      obtain ⟨_, _, ⟨T28, L28, k28, n28⟩, -, X28, ⟨Lc28, hQ28, l28, y28, z28⟩, st28⟩ := Jvm.LawKit.callS X25 hx (y := (⟨"com/example/serigraph/serigraph/locking/LockModeJoinPinLaw", "rank", "(Lcom/example/serigraph/serigraph/locking/LockMode;)I"⟩ : MethodName)) hown (mvT hZ (hw _ (List.mem_of_getElem? (i := 11) rfl))) (mvT hZ (hw _ (List.mem_of_getElem? (i := 12) rfl))) (mvT hZ (hw _ (List.mem_of_getElem? (i := 13) rfl))) (mvT hZ (hw _ (List.mem_of_getElem? (i := 14) rfl))) (by decide) (backOf (W := 0) (rm2 l Z a0 hw [] w_WRITE w_WRITE w_READ h0 n0 O0 S_WRITE S_READ) hZ (hw _ (List.mem_of_getElem? (i := 14) rfl)) (hw _ (List.mem_of_getElem? (i := 13) rfl)) (by decide) (by decide)) (g := (mkF m 51 #[.val (.int x0_0), .val (.int x1_0), .val (.int (x0_0 &&& (1 : Int32))), .val (.int (x1_0 &&& (1 : Int32))), .val (.ref w_READ), .val (.ref w_WRITE), .val (.ref w_WRITE)] [(.ref w_WRITE)])) rfl (by rw [hml]; rfl) (argsL := [(.ref w_WRITE)]) (rest := []) (lenOf pd_1 rfl) rfl (by show 2 * 0 + _ ≤ _; exact Nat.le_of_eq rfl) (hb hby at_51) (fun _ _ => ⟨rfl, e25, (by decide : 0 + 0 ≤ _), (by decide : 0 + 0 ≤ _)⟩)
      dsimp only [Pt.U, Pt.locs, Pt.cells, Pt.slots] at X28 l28 y28 z28 st28 hQ28
      subst l28 y28 z28
      obtain ⟨rfl, N28q, e28⟩ := hQ28
      refine own_step (fun t k => st28 _ k) ?_
      have N29 := Fr.app N26 N28q
      show own_Ends p.tables e below s _ _ _ (T28.setTop (mkF m 54 #[.val (.int x0_0), .val (.int x1_0), .val (.int (x0_0 &&& (1 : Int32))), .val (.int (x1_0 &&& (1 : Int32))), .val (.ref w_READ), .val (.ref w_WRITE), .val (.ref w_WRITE)] [(.int (own_r2 w_WRITE w_WRITE w_READ))]))
      refine own_step (fun t k => XS.iloadN X28.here hx rfl (hb hby at_54) rfl k) ?_
      show own_Ends p.tables e below s _ _ _ (T28.setTop (mkF m 55 #[.val (.int x0_0), .val (.int x1_0), .val (.int (x0_0 &&& (1 : Int32))), .val (.int (x1_0 &&& (1 : Int32))), .val (.ref w_READ), .val (.ref w_WRITE), .val (.ref w_WRITE)] [(.int (x0_0 &&& (1 : Int32))), (.int (own_r2 w_WRITE w_WRITE w_READ))]))
      refine own_step (fun t k => XS.iloadN X28.here hx rfl (hb hby at_55) rfl k) ?_
      show own_Ends p.tables e below s _ _ _ (T28.setTop (mkF m 56 #[.val (.int x0_0), .val (.int x1_0), .val (.int (x0_0 &&& (1 : Int32))), .val (.int (x1_0 &&& (1 : Int32))), .val (.ref w_READ), .val (.ref w_WRITE), .val (.ref w_WRITE)] [(.int (x1_0 &&& (1 : Int32))), (.int (x0_0 &&& (1 : Int32))), (.int (own_r2 w_WRITE w_WRITE w_READ))]))
      obtain ⟨_, _, ⟨T30, L30, k30, n30⟩, -, X30, ⟨Lc30, hQ30, l30, y30, z30⟩, st30⟩ := Jvm.LawKit.callS X28 hx (y := (⟨"java/lang/Math", "max", "(II)I"⟩ : MethodName)) hown (mvT hZ (hw _ (List.mem_of_getElem? (i := 15) rfl))) (mvT hZ (hw _ (List.mem_of_getElem? (i := 16) rfl))) (mvT hZ (hw _ (List.mem_of_getElem? (i := 17) rfl))) (mvT hZ (hw _ (List.mem_of_getElem? (i := 18) rfl))) (by decide) (backOf (W := 1) (rm3 l Z a0 hw [] (x0_0 &&& (1 : Int32)) (x1_0 &&& (1 : Int32)) h0 n0 O0 ) hZ (hw _ (List.mem_of_getElem? (i := 18) rfl)) (hw _ (List.mem_of_getElem? (i := 17) rfl)) (by decide) (by decide)) (g := (mkF m 56 #[.val (.int x0_0), .val (.int x1_0), .val (.int (x0_0 &&& (1 : Int32))), .val (.int (x1_0 &&& (1 : Int32))), .val (.ref w_READ), .val (.ref w_WRITE), .val (.ref w_WRITE)] [(.int (x1_0 &&& (1 : Int32))), (.int (x0_0 &&& (1 : Int32))), (.int (own_r2 w_WRITE w_WRITE w_READ))])) rfl (by rw [hml]; rfl) (argsL := [(.int (x0_0 &&& (1 : Int32))), (.int (x1_0 &&& (1 : Int32)))]) (rest := [(.int (own_r2 w_WRITE w_WRITE w_READ))]) (lenOf pd_2 rfl) rfl (by show 2 * 0 + _ ≤ _; exact Nat.le_of_eq rfl) (hb hby at_56) (fun _ _ => ⟨rfl, e28, (by decide : 0 + 0 ≤ _), (by decide : 0 + 0 ≤ _)⟩)
      dsimp only [Pt.U, Pt.locs, Pt.cells, Pt.slots] at X30 l30 y30 z30 st30 hQ30
      subst l30 y30 z30
      obtain ⟨rfl, N30q, e30⟩ := hQ30
      refine own_step (fun t k => st30 _ k) ?_
      have N31 := Fr.app N29 N30q
      show own_Ends p.tables e below s _ _ _ (T30.setTop (mkF m 59 #[.val (.int x0_0), .val (.int x1_0), .val (.int (x0_0 &&& (1 : Int32))), .val (.int (x1_0 &&& (1 : Int32))), .val (.ref w_READ), .val (.ref w_WRITE), .val (.ref w_WRITE)] [(.int (own_r3 (x0_0 &&& (1 : Int32)) (x1_0 &&& (1 : Int32)))), (.int (own_r2 w_WRITE w_WRITE w_READ))]))
      by_cases hc59_32 : (own_r2 w_WRITE w_WRITE w_READ) = (own_r3 (x0_0 &&& (1 : Int32)) (x1_0 &&& (1 : Int32)))
      · skip
        refine own_step (fun t k => XS.icmpNo X30.here hx rfl (hb hby at_59) rfl (teq hc59_32).2 k) ?_
        show own_Ends p.tables e below s _ _ _ (T30.setTop (mkF m 62 #[.val (.int x0_0), .val (.int x1_0), .val (.int (x0_0 &&& (1 : Int32))), .val (.int (x1_0 &&& (1 : Int32))), .val (.ref w_READ), .val (.ref w_WRITE), .val (.ref w_WRITE)] []))
        refine own_step (fun t k => XS.iconst X30.here hx rfl (hb hby at_62) k) ?_
        show own_Ends p.tables e below s _ _ _ (T30.setTop (mkF m 63 #[.val (.int x0_0), .val (.int x1_0), .val (.int (x0_0 &&& (1 : Int32))), .val (.int (x1_0 &&& (1 : Int32))), .val (.ref w_READ), .val (.ref w_WRITE), .val (.ref w_WRITE)] [(.int (1 : Int32))]))
        refine own_step (fun t k => XS.goto X30.here hx rfl (pc0 := 63) (pc' := 67) rfl (hb hby at_63) (by decide) (by decide) k) ?_
        show own_Ends p.tables e below s _ _ _ (T30.setTop (mkF m 67 #[.val (.int x0_0), .val (.int x1_0), .val (.int (x0_0 &&& (1 : Int32))), .val (.int (x1_0 &&& (1 : Int32))), .val (.ref w_READ), .val (.ref w_WRITE), .val (.ref w_WRITE)] [(.int (1 : Int32))]))
        exact own_retN X30 hx (t := .boolean) Bd.returns (by simp) (hb hby at_67) hnl (by rw [e30]; exact ⟨rfl, N31⟩) (by decide) (by decide)
      · skip
        refine own_step (fun t k => XS.icmpYes X30.here hx rfl (pc0 := 59) (pc' := 66) rfl (hb hby at_59) rfl (feq hc59_32).2 (by decide) (by decide) k) ?_
        show own_Ends p.tables e below s _ _ _ (T30.setTop (mkF m 66 #[.val (.int x0_0), .val (.int x1_0), .val (.int (x0_0 &&& (1 : Int32))), .val (.int (x1_0 &&& (1 : Int32))), .val (.ref w_READ), .val (.ref w_WRITE), .val (.ref w_WRITE)] []))
        refine own_step (fun t k => XS.iconst X30.here hx rfl (hb hby at_66) k) ?_
        show own_Ends p.tables e below s _ _ _ (T30.setTop (mkF m 67 #[.val (.int x0_0), .val (.int x1_0), .val (.int (x0_0 &&& (1 : Int32))), .val (.int (x1_0 &&& (1 : Int32))), .val (.ref w_READ), .val (.ref w_WRITE), .val (.ref w_WRITE)] [(.int (0 : Int32))]))
        exfalso
        apply hc59_32
        rw [own_bit _ hc10_1, hc26_23]
        simp [own_r2, own_r3, ne_w_READ_w_WRITE]
    · skip
      refine own_step (fun t k => XS.icmpYes X22.here hx rfl (pc0 := 26) (pc' := 35) rfl (hb hby at_26) rfl (feq hc26_23).2 (by decide) (by decide) k) ?_
      show own_Ends p.tables e below s _ _ _ (T22.setTop (mkF m 35 #[.val (.int x0_0), .val (.int x1_0), .val (.int (x0_0 &&& (1 : Int32))), .val (.int (x1_0 &&& (1 : Int32))), .val (.ref w_READ), .unset, .unset] []))
      obtain ⟨T33, X33, e33, st33⟩ := getS2 X22 hx hZ hown (host := "") (Or.inl (hw _ (List.mem_of_getElem? (i := 0) rfl))) Via.refl e22 (S_READ.ext O0.2) (g := (mkF m 35 #[.val (.int x0_0), .val (.int x1_0), .val (.int (x0_0 &&& (1 : Int32))), .val (.int (x1_0 &&& (1 : Int32))), .val (.ref w_READ), .unset, .unset] [])) rfl (hb hby at_35)
      refine own_step (fun t k => st33 _ k) ?_
      show own_Ends p.tables e below s _ _ _ (T33.setTop (mkF m 38 #[.val (.int x0_0), .val (.int x1_0), .val (.int (x0_0 &&& (1 : Int32))), .val (.int (x1_0 &&& (1 : Int32))), .val (.ref w_READ), .unset, .unset] [(.ref w_READ)]))
      refine own_step (fun t k => XS.astore X33.here hx rfl (hb hby at_38) rfl rfl (l' := #[.val (.int x0_0), .val (.int x1_0), .val (.int (x0_0 &&& (1 : Int32))), .val (.int (x1_0 &&& (1 : Int32))), .val (.ref w_READ), .val (.ref w_READ), .unset]) rfl k) ?_
      show own_Ends p.tables e below s _ _ _ (T33.setTop (mkF m 40 #[.val (.int x0_0), .val (.int x1_0), .val (.int (x0_0 &&& (1 : Int32))), .val (.int (x1_0 &&& (1 : Int32))), .val (.ref w_READ), .val (.ref w_READ), .unset] []))
      refine own_step (fun t k => XS.aload X33.here hx rfl (hb hby at_40) rfl rfl k) ?_
      show own_Ends p.tables e below s _ _ _ (T33.setTop (mkF m 42 #[.val (.int x0_0), .val (.int x1_0), .val (.int (x0_0 &&& (1 : Int32))), .val (.int (x1_0 &&& (1 : Int32))), .val (.ref w_READ), .val (.ref w_READ), .unset] [(.ref w_READ)]))
      refine own_step (fun t k => XS.aload X33.here hx rfl (hb hby at_42) rfl rfl k) ?_
      show own_Ends p.tables e below s _ _ _ (T33.setTop (mkF m 44 #[.val (.int x0_0), .val (.int x1_0), .val (.int (x0_0 &&& (1 : Int32))), .val (.int (x1_0 &&& (1 : Int32))), .val (.ref w_READ), .val (.ref w_READ), .unset] [(.ref w_READ), (.ref w_READ)]))
      obtain ⟨cq34, kq34, q34a, q34b, q34c⟩ := isOf hZ e33 E_w_READ
      obtain ⟨_, _, ⟨T34, L34, k34, n34⟩, -, X34, ⟨Lc34, hQ34, l34, y34, z34⟩, st34⟩ := X33.virtualBack hx (y := (⟨"com/example/serigraph/serigraph/locking/LockMode", "join", "(Lcom/example/serigraph/serigraph/locking/LockMode;)Lcom/example/serigraph/serigraph/locking/LockMode;"⟩ : MethodName)) (z := (⟨"com/example/serigraph/serigraph/locking/LockMode", "join", "(Lcom/example/serigraph/serigraph/locking/LockMode;)Lcom/example/serigraph/serigraph/locking/LockMode;"⟩ : MethodName)) hown (mvT hZ (hw _ (List.mem_of_getElem? (i := 5) rfl))) (mvT hZ (hw _ (List.mem_of_getElem? (i := 6) rfl))) (notFace_of_selects (args := #[]) (mvT hZ (hw _ (List.mem_of_getElem? (i := 8) rfl)))) (mvT hZ (hw _ (List.mem_of_getElem? (i := 8) rfl))) (mvT hZ (hw _ (List.mem_of_getElem? (i := 7) rfl))) (by decide) (backOf (W := 0) (rm1 l Z a0 hw [] w_READ w_READ w_WRITE w_READ h0 n0 O0 S_WRITE S_READ) hZ (hw _ (List.mem_of_getElem? (i := 9) rfl)) (hw _ (List.mem_of_getElem? (i := 1) rfl)) (by decide) (by decide)) q34a q34c (g := (mkF m 44 #[.val (.int x0_0), .val (.int x1_0), .val (.int (x0_0 &&& (1 : Int32))), .val (.int (x1_0 &&& (1 : Int32))), .val (.ref w_READ), .val (.ref w_READ), .unset] [(.ref w_READ), (.ref w_READ)])) rfl (by rw [hml]; rfl) (Steps.refl _) (argsL := [(.ref w_READ)]) (rest := []) (lenOf pd_0 rfl) rfl (by show 2 * 0 + _ ≤ _; exact Nat.le_of_eq rfl) (hb hby at_44) (fun _ _ => ⟨rfl, e33, (by decide : 0 + 0 ≤ _), (by decide : 0 + 0 ≤ _)⟩)
      dsimp only [Pt.U, Pt.locs, Pt.cells, Pt.slots] at X34 l34 y34 z34 st34 hQ34
      subst l34 y34 z34
      obtain ⟨rfl, N34q, e34⟩ := hQ34
      refine own_step (fun t k => st34.trans k) ?_
      have N35 := Fr.app N0 N34q
      have hv36 : (own_r1 w_READ w_READ w_WRITE w_READ) = w_READ := by unfold own_r1; rw [if_neg (show ¬ (w_READ = w_WRITE) from ne_w_READ_w_WRITE), if_neg (show ¬ (w_READ = w_WRITE) from ne_w_READ_w_WRITE)]
      show own_Ends p.tables e below s _ _ _ (T34.setTop (mkF m 47 #[.val (.int x0_0), .val (.int x1_0), .val (.int (x0_0 &&& (1 : Int32))), .val (.int (x1_0 &&& (1 : Int32))), .val (.ref w_READ), .val (.ref w_READ), .unset] [(.ref (own_r1 w_READ w_READ w_WRITE w_READ))]))
      rw [hv36]
      show own_Ends p.tables e below s _ _ _ (T34.setTop (mkF m 47 #[.val (.int x0_0), .val (.int x1_0), .val (.int (x0_0 &&& (1 : Int32))), .val (.int (x1_0 &&& (1 : Int32))), .val (.ref w_READ), .val (.ref w_READ), .unset] [(.ref w_READ)]))
      refine own_step (fun t k => XS.astore X34.here hx rfl (hb hby at_47) rfl rfl (l' := #[.val (.int x0_0), .val (.int x1_0), .val (.int (x0_0 &&& (1 : Int32))), .val (.int (x1_0 &&& (1 : Int32))), .val (.ref w_READ), .val (.ref w_READ), .val (.ref w_READ)]) rfl k) ?_
      show own_Ends p.tables e below s _ _ _ (T34.setTop (mkF m 49 #[.val (.int x0_0), .val (.int x1_0), .val (.int (x0_0 &&& (1 : Int32))), .val (.int (x1_0 &&& (1 : Int32))), .val (.ref w_READ), .val (.ref w_READ), .val (.ref w_READ)] []))
      refine own_step (fun t k => XS.aload X34.here hx rfl (hb hby at_49) rfl rfl k) ?_
      show own_Ends p.tables e below s _ _ _ (T34.setTop (mkF m 51 #[.val (.int x0_0), .val (.int x1_0), .val (.int (x0_0 &&& (1 : Int32))), .val (.int (x1_0 &&& (1 : Int32))), .val (.ref w_READ), .val (.ref w_READ), .val (.ref w_READ)] [(.ref w_READ)]))
      obtain ⟨_, _, ⟨T37, L37, k37, n37⟩, -, X37, ⟨Lc37, hQ37, l37, y37, z37⟩, st37⟩ := Jvm.LawKit.callS X34 hx (y := (⟨"com/example/serigraph/serigraph/locking/LockModeJoinPinLaw", "rank", "(Lcom/example/serigraph/serigraph/locking/LockMode;)I"⟩ : MethodName)) hown (mvT hZ (hw _ (List.mem_of_getElem? (i := 11) rfl))) (mvT hZ (hw _ (List.mem_of_getElem? (i := 12) rfl))) (mvT hZ (hw _ (List.mem_of_getElem? (i := 13) rfl))) (mvT hZ (hw _ (List.mem_of_getElem? (i := 14) rfl))) (by decide) (backOf (W := 0) (rm2 l Z a0 hw [] w_READ w_WRITE w_READ h0 n0 O0 S_WRITE S_READ) hZ (hw _ (List.mem_of_getElem? (i := 14) rfl)) (hw _ (List.mem_of_getElem? (i := 13) rfl)) (by decide) (by decide)) (g := (mkF m 51 #[.val (.int x0_0), .val (.int x1_0), .val (.int (x0_0 &&& (1 : Int32))), .val (.int (x1_0 &&& (1 : Int32))), .val (.ref w_READ), .val (.ref w_READ), .val (.ref w_READ)] [(.ref w_READ)])) rfl (by rw [hml]; rfl) (argsL := [(.ref w_READ)]) (rest := []) (lenOf pd_1 rfl) rfl (by show 2 * 0 + _ ≤ _; exact Nat.le_of_eq rfl) (hb hby at_51) (fun _ _ => ⟨rfl, e34, (by decide : 0 + 0 ≤ _), (by decide : 0 + 0 ≤ _)⟩)
      dsimp only [Pt.U, Pt.locs, Pt.cells, Pt.slots] at X37 l37 y37 z37 st37 hQ37
      subst l37 y37 z37
      obtain ⟨rfl, N37q, e37⟩ := hQ37
      refine own_step (fun t k => st37 _ k) ?_
      have N38 := Fr.app N35 N37q
      show own_Ends p.tables e below s _ _ _ (T37.setTop (mkF m 54 #[.val (.int x0_0), .val (.int x1_0), .val (.int (x0_0 &&& (1 : Int32))), .val (.int (x1_0 &&& (1 : Int32))), .val (.ref w_READ), .val (.ref w_READ), .val (.ref w_READ)] [(.int (own_r2 w_READ w_WRITE w_READ))]))
      refine own_step (fun t k => XS.iloadN X37.here hx rfl (hb hby at_54) rfl k) ?_
      show own_Ends p.tables e below s _ _ _ (T37.setTop (mkF m 55 #[.val (.int x0_0), .val (.int x1_0), .val (.int (x0_0 &&& (1 : Int32))), .val (.int (x1_0 &&& (1 : Int32))), .val (.ref w_READ), .val (.ref w_READ), .val (.ref w_READ)] [(.int (x0_0 &&& (1 : Int32))), (.int (own_r2 w_READ w_WRITE w_READ))]))
      refine own_step (fun t k => XS.iloadN X37.here hx rfl (hb hby at_55) rfl k) ?_
      show own_Ends p.tables e below s _ _ _ (T37.setTop (mkF m 56 #[.val (.int x0_0), .val (.int x1_0), .val (.int (x0_0 &&& (1 : Int32))), .val (.int (x1_0 &&& (1 : Int32))), .val (.ref w_READ), .val (.ref w_READ), .val (.ref w_READ)] [(.int (x1_0 &&& (1 : Int32))), (.int (x0_0 &&& (1 : Int32))), (.int (own_r2 w_READ w_WRITE w_READ))]))
      obtain ⟨_, _, ⟨T39, L39, k39, n39⟩, -, X39, ⟨Lc39, hQ39, l39, y39, z39⟩, st39⟩ := Jvm.LawKit.callS X37 hx (y := (⟨"java/lang/Math", "max", "(II)I"⟩ : MethodName)) hown (mvT hZ (hw _ (List.mem_of_getElem? (i := 15) rfl))) (mvT hZ (hw _ (List.mem_of_getElem? (i := 16) rfl))) (mvT hZ (hw _ (List.mem_of_getElem? (i := 17) rfl))) (mvT hZ (hw _ (List.mem_of_getElem? (i := 18) rfl))) (by decide) (backOf (W := 1) (rm3 l Z a0 hw [] (x0_0 &&& (1 : Int32)) (x1_0 &&& (1 : Int32)) h0 n0 O0 ) hZ (hw _ (List.mem_of_getElem? (i := 18) rfl)) (hw _ (List.mem_of_getElem? (i := 17) rfl)) (by decide) (by decide)) (g := (mkF m 56 #[.val (.int x0_0), .val (.int x1_0), .val (.int (x0_0 &&& (1 : Int32))), .val (.int (x1_0 &&& (1 : Int32))), .val (.ref w_READ), .val (.ref w_READ), .val (.ref w_READ)] [(.int (x1_0 &&& (1 : Int32))), (.int (x0_0 &&& (1 : Int32))), (.int (own_r2 w_READ w_WRITE w_READ))])) rfl (by rw [hml]; rfl) (argsL := [(.int (x0_0 &&& (1 : Int32))), (.int (x1_0 &&& (1 : Int32)))]) (rest := [(.int (own_r2 w_READ w_WRITE w_READ))]) (lenOf pd_2 rfl) rfl (by show 2 * 0 + _ ≤ _; exact Nat.le_of_eq rfl) (hb hby at_56) (fun _ _ => ⟨rfl, e37, (by decide : 0 + 0 ≤ _), (by decide : 0 + 0 ≤ _)⟩)
      dsimp only [Pt.U, Pt.locs, Pt.cells, Pt.slots] at X39 l39 y39 z39 st39 hQ39
      subst l39 y39 z39
      obtain ⟨rfl, N39q, e39⟩ := hQ39
      refine own_step (fun t k => st39 _ k) ?_
      have N40 := Fr.app N38 N39q
      show own_Ends p.tables e below s _ _ _ (T39.setTop (mkF m 59 #[.val (.int x0_0), .val (.int x1_0), .val (.int (x0_0 &&& (1 : Int32))), .val (.int (x1_0 &&& (1 : Int32))), .val (.ref w_READ), .val (.ref w_READ), .val (.ref w_READ)] [(.int (own_r3 (x0_0 &&& (1 : Int32)) (x1_0 &&& (1 : Int32)))), (.int (own_r2 w_READ w_WRITE w_READ))]))
      by_cases hc59_41 : (own_r2 w_READ w_WRITE w_READ) = (own_r3 (x0_0 &&& (1 : Int32)) (x1_0 &&& (1 : Int32)))
      · skip
        refine own_step (fun t k => XS.icmpNo X39.here hx rfl (hb hby at_59) rfl (teq hc59_41).2 k) ?_
        show own_Ends p.tables e below s _ _ _ (T39.setTop (mkF m 62 #[.val (.int x0_0), .val (.int x1_0), .val (.int (x0_0 &&& (1 : Int32))), .val (.int (x1_0 &&& (1 : Int32))), .val (.ref w_READ), .val (.ref w_READ), .val (.ref w_READ)] []))
        refine own_step (fun t k => XS.iconst X39.here hx rfl (hb hby at_62) k) ?_
        show own_Ends p.tables e below s _ _ _ (T39.setTop (mkF m 63 #[.val (.int x0_0), .val (.int x1_0), .val (.int (x0_0 &&& (1 : Int32))), .val (.int (x1_0 &&& (1 : Int32))), .val (.ref w_READ), .val (.ref w_READ), .val (.ref w_READ)] [(.int (1 : Int32))]))
        refine own_step (fun t k => XS.goto X39.here hx rfl (pc0 := 63) (pc' := 67) rfl (hb hby at_63) (by decide) (by decide) k) ?_
        show own_Ends p.tables e below s _ _ _ (T39.setTop (mkF m 67 #[.val (.int x0_0), .val (.int x1_0), .val (.int (x0_0 &&& (1 : Int32))), .val (.int (x1_0 &&& (1 : Int32))), .val (.ref w_READ), .val (.ref w_READ), .val (.ref w_READ)] [(.int (1 : Int32))]))
        exact own_retN X39 hx (t := .boolean) Bd.returns (by simp) (hb hby at_67) hnl (by rw [e39]; exact ⟨rfl, N40⟩) (by decide) (by decide)
      · skip
        refine own_step (fun t k => XS.icmpYes X39.here hx rfl (pc0 := 59) (pc' := 66) rfl (hb hby at_59) rfl (feq hc59_41).2 (by decide) (by decide) k) ?_
        show own_Ends p.tables e below s _ _ _ (T39.setTop (mkF m 66 #[.val (.int x0_0), .val (.int x1_0), .val (.int (x0_0 &&& (1 : Int32))), .val (.int (x1_0 &&& (1 : Int32))), .val (.ref w_READ), .val (.ref w_READ), .val (.ref w_READ)] []))
        refine own_step (fun t k => XS.iconst X39.here hx rfl (hb hby at_66) k) ?_
        show own_Ends p.tables e below s _ _ _ (T39.setTop (mkF m 67 #[.val (.int x0_0), .val (.int x1_0), .val (.int (x0_0 &&& (1 : Int32))), .val (.int (x1_0 &&& (1 : Int32))), .val (.ref w_READ), .val (.ref w_READ), .val (.ref w_READ)] [(.int (0 : Int32))]))
        exfalso
        apply hc59_41
        rw [own_bit _ hc10_1, own_bit _ hc26_23]
        simp [own_r2, own_r3, ne_w_READ_w_WRITE]
set_option maxRecDepth 65536 in
set_option maxHeartbeats 40000000 in
theorem comes_1 {Post : Tables → Env → Array Value → State → Outcome → State → Prop} (hpost : ∀ tb e args s v u, (limb_1_1.after args s (.returned v) u = true ∧ limb_1_2.after args s (.returned v) u = true ∧ True) → FrameEnd s (.returned v) u (Jvm.fieldLocs frame_1_writes args s ++ Jvm.arrayLocs frame_1_arrays args s ++ Jvm.staticLocs frame_1_statics s) 0 0 → Post tb e args s (.returned v) u) :
    ArmFor flags0 classFile x code maxLocals ret World_1 tables_1 room_1 Calls_1 rest_1 Pre_1 Post := by
  intro l hfl _ _ p e ha hc hk s m args below hf hA hF happ hP
  obtain ⟨hcalls, hrest, hpre⟩ := hP
  obtain ⟨-, -, -, hnamed, -, -, -, hat⟩ := (Spec.applies_iff hf).mp happ
  obtain ⟨hg, hn⟩ := and_e (Cond.before_iff.mp (show (Jvm.Cond.and given_1 narrow_1).before args s = true from hpre))
  obtain ⟨hh1a, hh1b⟩ := and_e hg
  obtain ⟨hh2a, hh2b⟩ := and_e hh1b
  obtain ⟨hh3a, hh3b⟩ := and_e hn
  obtain ⟨hh4a, hh4b⟩ := and_e hh3b
  obtain ⟨hh5a, hh5b⟩ := and_e hh4b
  obtain ⟨w0, w1, rfl⟩ : ∃ w0 w1 : Value, args = #[w0, w1] := by
    have hs : args.size = 2 := by simpa [Cond.value, given_1] using hh1a
    obtain ⟨L⟩ := args
    match L, hs with
    | [w0, w1], _ => exact ⟨w0, w1, rfl⟩
  have hw := fun d (hd : d ∈ tables_1) => atoms_spec (ws := Jvm.Cond.code x code maxLocals ret :: tables_1) hat d (List.mem_cons_of_mem _ hd)
  have hfit : Fit s := fun {y c} hc i hi => by
    obtain ⟨ha, rfl⟩ := Array.getElem?_eq_some_iff.mp hc
    have q := List.all_eq_true.mp ((Array.all_eq_true_iff_forall_mem.mp hF) _ (Array.getElem_mem ha)) i (List.mem_range.mpr hi)
    simpa [Array.getElem?_eq_getElem hi] using q
  obtain ⟨i0, ei0⟩ := is_v hh2a
  obtain rfl : w0 = (.int i0) := Option.some.inj ei0
  obtain ⟨i1, ei1⟩ := is_v hh2b
  obtain rfl : w1 = (.int i1) := Option.some.inj ei1
  obtain ⟨w_READ, ev_READ⟩ := exa_v hh3a
  have S_READ : Sta s s.heap "com/example/serigraph/serigraph/locking/LockMode" "READ" "Lcom/example/serigraph/serigraph/locking/LockMode;" (.ref w_READ) := Sta.start ev_READ (Or.inr ⟨(hw _ (List.mem_of_getElem? (i := 1) rfl)), (hw _ (List.mem_of_getElem? (i := 2) rfl))⟩)
  have E_w_READ : Exa s s.heap w_READ "com/example/serigraph/serigraph/locking/LockMode" := Exa.start ev_READ hh3a
  obtain ⟨w_WRITE, ev_WRITE⟩ := exa_v hh4a
  have S_WRITE : Sta s s.heap "com/example/serigraph/serigraph/locking/LockMode" "WRITE" "Lcom/example/serigraph/serigraph/locking/LockMode;" (.ref w_WRITE) := Sta.start ev_WRITE (Or.inr ⟨(hw _ (List.mem_of_getElem? (i := 1) rfl)), (hw _ (List.mem_of_getElem? (i := 4) rfl))⟩)
  have E_w_WRITE : Exa s s.heap w_WRITE "com/example/serigraph/serigraph/locking/LockMode" := Exa.start ev_WRITE hh4a
  have F_ordinal_w_READ : Fld s s.heap w_READ "java/lang/Enum" "ordinal" "I" (.int (0 : Int32)) := own_fld ev_READ hh5a
  have F_ordinal_w_WRITE : Fld s s.heap w_WRITE "java/lang/Enum" "ordinal" "I" (.int (1 : Int32)) := own_fld ev_WRITE hh5b
  obtain ⟨n, o, h1, h2, h3, _, L, rfl, ⟨rfl, N⟩, hq⟩ := rm0 l s _ hw tables_1 w_READ w_WRITE i0 i1 s.heap s.heap.size (Old.start s) (Fld.ne F_ordinal_w_READ F_ordinal_w_WRITE (by decide)) S_WRITE S_READ E_w_WRITE E_w_READ p e ha hc hk s m _ below hf ((Spec.applies_iff_loose hf).mp happ).1 ⟨rfl, State.Warmed39.refl s, rfl⟩ trivial
  refine ⟨n, _, h1, h2, h3, hpost _ _ _ _ _ _ ⟨Cond.after_iff.mpr rfl, Cond.after_iff.mpr (eq_i res_at (Term.int_eval (1)) rfl), trivial⟩ ⟨hq.1, hq.2.1, (hq.2.2.sift fun y hy => Or.inr (N y hy)).mono (by decide) (by decide)⟩⟩
theorem main_1_1 : Claimed_1_1 := comes_1 fun _ _ _ _ _ _ h hF => ⟨h.1, hF⟩
theorem main_1_2 : Claimed_1_2 := comes_1 fun _ _ _ _ _ _ h hF => ⟨h.2.1, hF⟩
end Jvm.Pilot.@@N@@
namespace Jvm.Pilot.@@N@@
open Jvm Jvm.ClassFile Sem Op Lib Jvm.Free Jvm.Stand Jvm.Pilot.@@N@@.Jvm.D
/-! MADE BY PROGRAM (witnessworld.py) out of the Statement's table words and the real class files: 13 classes; the members and pool entries that the words name. The judged class is class 1, her method 2. -/
namespace start1
open Jvm.ClassFile
def u (s : String) : CpInfo := .utf8 (stringToUtf16 s)
/-- a pool by its gaps: so many unusable entries, then the entry; so many at the end -/
def gap : Nat → List CpInfo → List CpInfo
  | 0, r => r
  | n + 1, r => .unusable :: gap n r
def poolList (es : List (Nat × CpInfo)) (last : Nat) : List CpInfo := es.foldr (fun e r => gap e.1 (e.2 :: r)) (gap last [])
def pool (es : List (Nat × CpInfo)) (last : Nat) : Array CpInfo := ⟨poolList es last⟩
def fileOf (pool : Array CpInfo) (this : Nat) (attrs : Array Attribute := #[]) (ms : Array MethodInfo := #[]) (fl : Nat := 33) (sup : Nat := 0) (ifs : Array Nat := #[]) (fds : Array FieldInfo := #[]) : ClassFile where
  minorVersion := 0
  majorVersion := 65
  constantPool := pool
  accessFlags := fl
  thisClass := this
  superClass := sup
  interfaces := ifs
  fields := fds
  methods := ms
  attributes := attrs
def plain (name : String) (sup : Option ClassId) : Class where
  name := name
  kind := .ordinary
  loader := none
  accessFlags := 33
  super := sup
  interfaces := #[]
  cf := none
  fields := #[]
  methods := #[]
  instanceTypes := #[]
  staticTypes := #[]
  resolved := #[]
  callSites := []
  init := .initialized
  statics := none
  mirror := none

def pool0 : Array CpInfo := pool [(5, u "<init>"), (0, u "()V"), (1, .class_ 10), (1, u "java/lang/Object")] 113

def k0m0 : Method := { name := "<init>", desc := "()V", sig := { parameters := [], returnType := none }, accessFlags := 1, code := none }
/-- java/lang/Object -/
def k0 : Class := { plain "java/lang/Object" none with
  accessFlags := 33
  interfaces := #[]
  cf := some (fileOf pool0 8 #[] #[{ accessFlags := 1, nameIndex := 5, descriptorIndex := 6, attributes := #[] }] 33 0 #[] #[])
  fields := #[]
  methods := #[k0m0]
  instanceTypes := #[]
  staticTypes := #[]
  resolved := Array.replicate 124 none
  statics := none }

def pool1 : Array CpInfo := pool [(2, .class_ 4), (1, u "java/lang/Object"), (0, u "<init>"), (0, u "()V"), (0, .fieldref 8 9), (0, .class_ 10), (0, .nameAndType 11 12), (0, u "com/example/serigraph/serigraph/locking/LockMode"), (0, u "WRITE"), (0, u "Lcom/example/serigraph/serigraph/locking/LockMode;"), (0, .fieldref 8 14), (0, .nameAndType 15 12), (0, u "READ"), (0, .methodref 8 17), (0, .nameAndType 18 19), (0, u "join"), (0, u "(Lcom/example/serigraph/serigraph/locking/LockMode;)Lcom/example/serigraph/serigraph/locking/LockMode;"), (0, .methodref 21 22), (0, .class_ 23), (0, .nameAndType 24 25), (0, u "com/example/serigraph/serigraph/locking/LockModeJoinPinLaw"), (0, u "rank"), (0, u "(Lcom/example/serigraph/serigraph/locking/LockMode;)I"), (0, .methodref 27 28), (0, .class_ 29), (0, .nameAndType 30 31), (0, u "java/lang/Math"), (0, u "max"), (0, u "(II)I"), (3, u "law"), (0, u "(II)Z")] 2

def k1m0 : Method := { name := "<init>", desc := "()V", sig := { parameters := [], returnType := none }, accessFlags := 2, code := none }
def k1c1 : Code := { maxStack := 2, maxLocals := 1, code := method_2_code, exceptionTable := #[], attributes := #[] }
def k1m1 : Method := { name := "rank", desc := "(Lcom/example/serigraph/serigraph/locking/LockMode;)I", sig := { parameters := [(.object "com/example/serigraph/serigraph/locking/LockMode")], returnType := some .int }, accessFlags := 10, code := some k1c1 }
def k1c2 : Code := { maxStack := 3, maxLocals := 7, code := code, exceptionTable := #[], attributes := #[] }
def k1m2 : Method := { name := "law", desc := "(II)Z", sig := { parameters := [.int, .int], returnType := some .boolean }, accessFlags := 9, code := some k1c2 }
/-- com/example/serigraph/serigraph/locking/LockModeJoinPinLaw -/
def k1 : Class := { plain "com/example/serigraph/serigraph/locking/LockModeJoinPinLaw" (some 0) with
  accessFlags := 49
  interfaces := #[]
  cf := some (fileOf pool1 21 #[] #[{ accessFlags := 2, nameIndex := 5, descriptorIndex := 6, attributes := #[] }, { accessFlags := 10, nameIndex := 24, descriptorIndex := 25, attributes := #[] }, { accessFlags := 9, nameIndex := 35, descriptorIndex := 36, attributes := #[] }] 49 2 #[] #[])
  fields := #[]
  methods := #[k1m0, k1m1, k1m2]
  instanceTypes := #[]
  staticTypes := #[]
  resolved := Array.replicate 39 none
  statics := none }

def pool2 : Array CpInfo := pool [(1, .class_ 2), (0, u "java/lang/constant/Constable"), (0, .class_ 4), (0, u "java/lang/Object")] 6

/-- java/lang/constant/Constable -/
def k2 : Class := { plain "java/lang/constant/Constable" (some 0) with
  accessFlags := 1537
  interfaces := #[]
  cf := some (fileOf pool2 1 #[] #[] 1537 3 #[] #[])
  fields := #[]
  methods := #[]
  instanceTypes := #[]
  staticTypes := #[]
  resolved := Array.replicate 11 none
  statics := none }

def pool3 : Array CpInfo := pool [(1, .class_ 2), (0, u "java/lang/Comparable"), (0, .class_ 4), (0, u "java/lang/Object")] 7

/-- java/lang/Comparable -/
def k3 : Class := { plain "java/lang/Comparable" (some 0) with
  accessFlags := 1537
  interfaces := #[]
  cf := some (fileOf pool3 1 #[] #[] 1537 3 #[] #[])
  fields := #[]
  methods := #[]
  instanceTypes := #[]
  staticTypes := #[]
  resolved := Array.replicate 12 none
  statics := none }

def pool4 : Array CpInfo := pool [(1, .class_ 2), (0, u "java/io/Serializable"), (0, .class_ 4), (0, u "java/lang/Object")] 2

/-- java/io/Serializable -/
def k4 : Class := { plain "java/io/Serializable" (some 0) with
  accessFlags := 1537
  interfaces := #[]
  cf := some (fileOf pool4 1 #[] #[] 1537 3 #[] #[])
  fields := #[]
  methods := #[]
  instanceTypes := #[]
  staticTypes := #[]
  resolved := Array.replicate 7 none
  statics := none }

def pool5 : Array CpInfo := pool [(2, .class_ 4), (1, u "java/lang/Enum"), (0, u "name"), (0, u "Ljava/lang/String;"), (2, u "ordinal"), (0, u "I"), (1, .class_ 14), (1, u "java/lang/Object"), (4, u "hash"), (86, .class_ 108), (1, u "java/lang/Enum$EnumDesc"), (2, .class_ 112), (0, u "java/lang/constant/Constable"), (0, .class_ 114), (0, u "java/lang/Comparable"), (0, .class_ 116), (0, u "java/io/Serializable")] 87

/-- java/lang/Enum -/
def k5 : Class := { plain "java/lang/Enum" (some 0) with
  accessFlags := 1057
  interfaces := #[2, 3, 4]
  cf := some (fileOf pool5 2 #[.nestMembers #[106]] #[] 1057 12 #[111, 113, 115] #[{ accessFlags := 18, nameIndex := 5, descriptorIndex := 6, attributes := #[] }, { accessFlags := 18, nameIndex := 9, descriptorIndex := 10, attributes := #[] }, { accessFlags := 2, nameIndex := 19, descriptorIndex := 10, attributes := #[] }])
  fields := #[{ name := "name", type := (.object "java/lang/String"), accessFlags := 18, slot := 0, constantValue := 0 }, { name := "ordinal", type := .int, accessFlags := 18, slot := 1, constantValue := 0 }, { name := "hash", type := .int, accessFlags := 2, slot := 2, constantValue := 0 }]
  methods := #[]
  instanceTypes := #[(.object "java/lang/String"), .int, .int]
  staticTypes := #[]
  resolved := Array.replicate 204 none
  statics := none }

def pool6 : Array CpInfo := pool [(1, .class_ 2), (0, u "com/example/serigraph/serigraph/locking/LockMode"), (0, .fieldref 1 4), (0, .nameAndType 5 6), (0, u "READ"), (0, u "Lcom/example/serigraph/serigraph/locking/LockMode;"), (0, .fieldref 1 8), (0, .nameAndType 9 6), (0, u "WRITE"), (2, u "$VALUES"), (0, u "[Lcom/example/serigraph/serigraph/locking/LockMode;"), (6, .class_ 22), (1, u "java/lang/Enum"), (31, u "join"), (0, u "(Lcom/example/serigraph/serigraph/locking/LockMode;)Lcom/example/serigraph/serigraph/locking/LockMode;")] 4

def k6c0 : Code := { maxStack := 2, maxLocals := 2, code := prog_26_method_7_code, exceptionTable := #[], attributes := #[] }
def k6m0 : Method := { name := "join", desc := "(Lcom/example/serigraph/serigraph/locking/LockMode;)Lcom/example/serigraph/serigraph/locking/LockMode;", sig := { parameters := [(.object "com/example/serigraph/serigraph/locking/LockMode")], returnType := some (.object "com/example/serigraph/serigraph/locking/LockMode") }, accessFlags := 0, code := some k6c0 }
/-- com/example/serigraph/serigraph/locking/LockMode -/
def k6 : Class := { plain "com/example/serigraph/serigraph/locking/LockMode" (some 5) with
  accessFlags := 16432
  interfaces := #[]
  cf := some (fileOf pool6 1 #[] #[{ accessFlags := 0, nameIndex := 54, descriptorIndex := 55, attributes := #[] }] 16432 20 #[] #[{ accessFlags := 16409, nameIndex := 5, descriptorIndex := 6, attributes := #[] }, { accessFlags := 16409, nameIndex := 9, descriptorIndex := 6, attributes := #[] }, { accessFlags := 4122, nameIndex := 12, descriptorIndex := 13, attributes := #[] }])
  fields := #[{ name := "READ", type := (.object "com/example/serigraph/serigraph/locking/LockMode"), accessFlags := 16409, slot := 0, constantValue := 0 }, { name := "WRITE", type := (.object "com/example/serigraph/serigraph/locking/LockMode"), accessFlags := 16409, slot := 1, constantValue := 0 }, { name := "$VALUES", type := (.array (.object "com/example/serigraph/serigraph/locking/LockMode")), accessFlags := 4122, slot := 2, constantValue := 0 }]
  methods := #[k6m0]
  instanceTypes := #[(.object "java/lang/String"), .int, .int]
  staticTypes := #[(.object "com/example/serigraph/serigraph/locking/LockMode"), (.object "com/example/serigraph/serigraph/locking/LockMode"), (.array (.object "com/example/serigraph/serigraph/locking/LockMode"))]
  resolved := Array.replicate 60 none
  statics := some 0 }

def pool7 : Array CpInfo := pool [(1, .class_ 2), (0, u "java/lang/Math"), (1, .class_ 6), (1, u "java/lang/Object"), (0, u "<init>"), (0, u "()V"), (89, .class_ 100), (1, u "java/lang/Math$RandomNumberGeneratorHolder"), (71, u "negativeZeroFloatBits"), (0, u "J"), (2, u "negativeZeroDoubleBits"), (21, u "max"), (46, u "$assertionsDisabled"), (0, u "Z"), (88, u "(II)I"), (2, u "twoToTheDoubleScaleDown"), (0, u "D"), (4, u "twoToTheDoubleScaleUp"), (9, u "E"), (3, u "PI"), (2, u "TAU"), (2, u "DEGREES_TO_RADIANS"), (0, u "RADIANS_TO_DEGREES")] 94

def k7m0 : Method := { name := "<init>", desc := "()V", sig := { parameters := [], returnType := none }, accessFlags := 2, code := none }
def k7c1 : Code := { maxStack := 2, maxLocals := 2, code := jdk_29_method_65_code, exceptionTable := #[], attributes := #[] }
def k7m1 : Method := { name := "max", desc := "(II)I", sig := { parameters := [.int, .int], returnType := some .int }, accessFlags := 9, code := some k7c1 }
/-- java/lang/Math -/
def k7 : Class := { plain "java/lang/Math" (some 0) with
  accessFlags := 49
  interfaces := #[]
  cf := some (fileOf pool7 1 #[.nestMembers #[98]] #[{ accessFlags := 2, nameIndex := 7, descriptorIndex := 8, attributes := #[] }, { accessFlags := 9, nameIndex := 198, descriptorIndex := 335, attributes := #[] }] 49 4 #[] #[{ accessFlags := 25, nameIndex := 354, descriptorIndex := 339, attributes := #[] }, { accessFlags := 25, nameIndex := 358, descriptorIndex := 339, attributes := #[] }, { accessFlags := 25, nameIndex := 361, descriptorIndex := 339, attributes := #[] }, { accessFlags := 26, nameIndex := 364, descriptorIndex := 339, attributes := #[] }, { accessFlags := 26, nameIndex := 365, descriptorIndex := 339, attributes := #[] }, { accessFlags := 26, nameIndex := 172, descriptorIndex := 173, attributes := #[] }, { accessFlags := 26, nameIndex := 176, descriptorIndex := 173, attributes := #[] }, { accessFlags := 8, nameIndex := 344, descriptorIndex := 339, attributes := #[] }, { accessFlags := 8, nameIndex := 338, descriptorIndex := 339, attributes := #[] }, { accessFlags := 4120, nameIndex := 245, descriptorIndex := 246, attributes := #[] }])
  fields := #[{ name := "E", type := .double, accessFlags := 25, slot := 0, constantValue := 0 }, { name := "PI", type := .double, accessFlags := 25, slot := 1, constantValue := 0 }, { name := "TAU", type := .double, accessFlags := 25, slot := 2, constantValue := 0 }, { name := "DEGREES_TO_RADIANS", type := .double, accessFlags := 26, slot := 3, constantValue := 0 }, { name := "RADIANS_TO_DEGREES", type := .double, accessFlags := 26, slot := 4, constantValue := 0 }, { name := "negativeZeroFloatBits", type := .long, accessFlags := 26, slot := 5, constantValue := 0 }, { name := "negativeZeroDoubleBits", type := .long, accessFlags := 26, slot := 6, constantValue := 0 }, { name := "twoToTheDoubleScaleUp", type := .double, accessFlags := 8, slot := 7, constantValue := 0 }, { name := "twoToTheDoubleScaleDown", type := .double, accessFlags := 8, slot := 8, constantValue := 0 }, { name := "$assertionsDisabled", type := .boolean, accessFlags := 4120, slot := 9, constantValue := 0 }]
  methods := #[k7m0, k7m1]
  instanceTypes := #[]
  staticTypes := #[.double, .double, .double, .double, .double, .long, .long, .double, .double, .boolean]
  resolved := Array.replicate 460 none
  statics := none }

def pool8 : Array CpInfo := pool [(1, u "java/lang/Cloneable"), (0, .class_ 1), (0, u "java/lang/Object"), (0, .class_ 3)] 3

/-- java/lang/Cloneable -/
def k8 : Class := { plain "java/lang/Cloneable" (some 0) with
  accessFlags := 1537
  interfaces := #[]
  cf := some (fileOf pool8 2 #[] #[] 1537 4 #[] #[])
  fields := #[]
  methods := #[]
  instanceTypes := #[]
  staticTypes := #[]
  resolved := Array.replicate 8 none
  statics := none }

/-- the primitive byte -/
def k9 : Class := { plain "byte" none with kind := .primitive 'B', accessFlags := 0x411 }
/-- [B -/
def k10 : Class := { plain "[B" (some 0) with kind := .array 9 .byte, interfaces := #[8, 4], accessFlags := 1041 }

/-- the primitive int -/
def k11 : Class := { plain "int" none with kind := .primitive 'I', accessFlags := 0x411 }
/-- [I -/
def k12 : Class := { plain "[I" (some 0) with kind := .array 11 .int, interfaces := #[8, 4], accessFlags := 1041 }

def heap : Heap := #[{ cls := 6, slots := #[.ref 1, .ref 2, .null], vm := .statics 6 },
  { cls := 6, slots := #[.null, .int 0, .int 0], vm := .none },
  { cls := 6, slots := #[.null, .int 1, .int 0], vm := .none }]
def classes : Array Class := #[k0, k1, k2, k3, k4, k5, k6, k7, k8, k9, k10, k11, k12]
def interned : List (Array UInt16 × Addr) := []
def slotsUsed : Nat := 9
def theMethod : MethodId := ⟨1, 2⟩
def args0 : Array Value := #[.int 5, .int 5]
def aboutOver (below : List Frame) : State where
  vm := { classes := classes, interned := interned.toArray }
  heap := heap
  slotsUsed := slotsUsed
  threads := #[{ frames := .invoking theMethod args0 :: below }]
def below0 : List Frame := [.native { method := ⟨0, 0⟩, args := #[] }]
def about1 : State := aboutOver below0
def p0 : Program := .bare "" "" ""
def e0 : Env := launch0.env 0 0 0
theorem w_frames : about1.frames = Frame.invoking theMethod args0 :: below0 := rfl
set_option maxRecDepth 65536 in
theorem w_args : argsFit about1.vm theMethod args0 = true := by decide +kernel
set_option maxRecDepth 65536 in
theorem w_heap : heapFits about1 = true := by decide +kernel
set_option maxRecDepth 65536 in
theorem w_runnable : about1.curStatus? = some .runnable := by decide +kernel
set_option maxRecDepth 65536 in
theorem w_alone : about1.alone = true := by decide +kernel
set_option maxRecDepth 65536 in
theorem w_named : about1.methodNamed? x = some theMethod := by decide +kernel
set_option maxRecDepth 65536 in
theorem w_hears : about1.hears theMethod below0 = true := by decide +kernel
set_option maxRecDepth 65536 in
theorem w_ripe : about1.ripe theMethod args0 below0 = true := by decide +kernel
theorem w_running : about1.status = .running := rfl
set_option maxRecDepth 65536 in
theorem w_room : about1.hasRoom e0.platform room_1 = true :=
  launch0.hasRoom_least _ room_1 (by decide +kernel) (by decide +kernel) (by decide +kernel) (by decide +kernel) (by decide +kernel) (by decide +kernel)
theorem allAtoms_all (ts : List Jvm.Cond) (a : Array Jvm.Value) (st : Jvm.State) : (allAtoms ts).before a st = ts.all (fun c => c.before a st) := by
  induction ts with
  | nil => rfl
  | cons c t ih =>
    show (Jvm.Cond.and c (allAtoms t)).before a st = _
    rw [Jvm.Cond.before_and, ih, List.all_cons]
def words1 : List Jvm.Cond := Jvm.Cond.code x code maxLocals ret :: tables_1
/-- a 'code' word, met by the world's own term for the bytes: nothing is compared byte by byte -/
theorem code_word {y : MethodName} {bytes : ByteArray} {mx : Nat} {rt : Option FieldType} {a : Array Value} {s : State} {m : MethodId} {meth : Method} {c : Code} (h1 : s.methodNamed? y = some m) (h2 : s.vm.method? m = some meth) (h3 : meth.code = some c) (h4 : c.code = bytes)
    (h5 : (c.maxLocals == mx && c.exceptionTable.isEmpty && decide (c.maxStack ≤ mostOperands) && decide (meth.sig.returnType = rt) && !meth.locks && decide (parseMethodDescriptor y.desc = some meth.sig)) = true) : (Jvm.Cond.code y bytes mx rt).before a s = true := by
  simp only [Bool.and_eq_true, beq_iff_eq, Bool.not_eq_true', decide_eq_true_eq] at h5
  obtain ⟨⟨⟨⟨⟨g1, g2⟩, g3⟩, g4⟩, g5⟩, g6⟩ := h5
  simp [Cond.before, Cond.holds, Cond.value, h1, h2, h3, h4, g1, g2, g3, g4, g5, g6]
def isCode : Jvm.Cond → Bool
  | .code _ _ _ _ => true
  | _ => false
theorem all_split {L : List Jvm.Cond} {P : Jvm.Cond → Bool} (h1 : L.all (fun c => isCode c || P c) = true) (h2 : ∀ c ∈ L.filter isCode, P c = true) : L.all P = true := by
  refine List.all_eq_true.mpr fun c hc => ?_
  have h := List.all_eq_true.mp h1 c hc
  rcases Bool.eq_false_or_eq_true (isCode c) with hi | hi
  · exact h2 c (List.mem_filter.mpr ⟨hc, hi⟩)
  · simpa [hi] using h
set_option maxRecDepth 65536 in
theorem w_c0 : (Jvm.Cond.code x code maxLocals ret).before args0 about1 = true := code_word (m := ⟨1, 2⟩) (meth := k1m2) (c := k1c2) (by decide +kernel) rfl rfl rfl (by decide +kernel)
set_option maxRecDepth 65536 in
theorem w_c1 : (Jvm.Cond.code ({ cls := "com/example/serigraph/serigraph/locking/LockMode", name := "join", desc := "(Lcom/example/serigraph/serigraph/locking/LockMode;)Lcom/example/serigraph/serigraph/locking/LockMode;" } : Jvm.MethodName) prog_26_method_7_code (2 : Nat) (Option.some (Jvm.ClassFile.FieldType.object "com/example/serigraph/serigraph/locking/LockMode"))).before args0 about1 = true := code_word (m := ⟨6, 0⟩) (meth := k6m0) (c := k6c0) (by decide +kernel) rfl rfl rfl (by decide +kernel)
set_option maxRecDepth 65536 in
theorem w_c2 : (Jvm.Cond.code ({ cls := "com/example/serigraph/serigraph/locking/LockModeJoinPinLaw", name := "rank", desc := "(Lcom/example/serigraph/serigraph/locking/LockMode;)I" } : Jvm.MethodName) method_2_code (1 : Nat) (Option.some Jvm.ClassFile.FieldType.int)).before args0 about1 = true := code_word (m := ⟨1, 1⟩) (meth := k1m1) (c := k1c1) (by decide +kernel) rfl rfl rfl (by decide +kernel)
set_option maxRecDepth 65536 in
theorem w_c3 : (Jvm.Cond.code ({ cls := "java/lang/Math", name := "max", desc := "(II)I" } : Jvm.MethodName) jdk_29_method_65_code (2 : Nat) (Option.some Jvm.ClassFile.FieldType.int)).before args0 about1 = true := code_word (m := ⟨7, 1⟩) (meth := k7m1) (c := k7c1) (by decide +kernel) rfl rfl rfl (by decide +kernel)
def codes1 : List Jvm.Cond := [Jvm.Cond.code x code maxLocals ret, Jvm.Cond.code ({ cls := "com/example/serigraph/serigraph/locking/LockMode", name := "join", desc := "(Lcom/example/serigraph/serigraph/locking/LockMode;)Lcom/example/serigraph/serigraph/locking/LockMode;" } : Jvm.MethodName) prog_26_method_7_code (2 : Nat) (Option.some (Jvm.ClassFile.FieldType.object "com/example/serigraph/serigraph/locking/LockMode")), Jvm.Cond.code ({ cls := "com/example/serigraph/serigraph/locking/LockModeJoinPinLaw", name := "rank", desc := "(Lcom/example/serigraph/serigraph/locking/LockMode;)I" } : Jvm.MethodName) method_2_code (1 : Nat) (Option.some Jvm.ClassFile.FieldType.int), Jvm.Cond.code ({ cls := "java/lang/Math", name := "max", desc := "(II)I" } : Jvm.MethodName) jdk_29_method_65_code (2 : Nat) (Option.some Jvm.ClassFile.FieldType.int)]
set_option maxRecDepth 65536 in
theorem codes_eq : words1.filter isCode = codes1 := rfl
theorem w_codes : ∀ c ∈ words1.filter isCode, c.before args0 about1 = true := by
  rw [codes_eq]
  intro c hc
  simp only [codes1, List.mem_cons, List.not_mem_nil, or_false] at hc
  rcases hc with rfl | rfl | rfl | rfl
  · exact w_c0
  · exact w_c1
  · exact w_c2
  · exact w_c3
set_option maxRecDepth 65536 in
theorem w_t1 : words1.all (fun c => isCode c || c.before args0 about1) = true := by decide +kernel
theorem w_tables : (allAtoms (Jvm.Cond.code x code maxLocals ret :: tables_1)).before args0 about1 = true := by
  rw [allAtoms_all]
  show words1.all (fun c => c.before args0 about1) = true
  refine all_split ?_ w_codes
  rw [w_t1]
set_option maxRecDepth 65536 in
theorem w_case : (Jvm.Cond.and given_1 narrow_1).before args0 about1 = true := by decide +kernel
theorem w_applies : (headSpec (Jvm.Cond.code x code maxLocals ret :: tables_1) room_1).applies x e0.platform about1 = true :=
  (Spec.applies_iff w_frames).mpr ⟨w_running, w_runnable, w_alone, w_named, w_hears, w_ripe, w_room, w_tables⟩
theorem atStart : AtStart classFile x code maxLocals ret World_1 tables_1 room_1 Calls_1 rest_1 Pre_1 launch0 p0 e0 about1 theMethod args0 below0 :=
  ⟨lists_1, trivial, launch0.admits_env _ _ _, launch0.least_env, fairChoices_fair.cas, fairChoices_fair.clock, w_frames, w_args, w_heap, w_applies, trivial, trivial, w_case⟩
end start1
theorem witness_1 : WitnessClaimed_1 := ⟨start1.p0, start1.e0, start1.about1, start1.theMethod, start1.args0, start1.below0, start1.atStart⟩
end Jvm.Pilot.@@N@@
