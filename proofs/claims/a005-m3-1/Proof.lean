import JvmDerived
import JvmDerived.Pilot.@@N@@Statement
import JvmDerived.Pilot.@@N@@Code
set_option linter.unusedVariables false
set_option linter.unusedSimpArgs false
namespace Jvm.Pilot.@@N@@
open Jvm Jvm.ClassFile Sem Op Lib Jvm.Free Jvm.Stand Jvm.LawKit Jvm.RoadKit Bundle Jvm.Pilot.@@N@@.Jvm.D
/-- from the state st the run ends, of which Q says what it leaves -/
def own_Ends (tb : Tables) (e : Env) (below : List Frame) (s : State) (Q : Option Value → Heap → List Loc → Prop) (C S : Nat) (st : State) : Prop :=
  ∃ t o, Steps tb e below st t ∧ t.status = .running ∧ Ended t below o ∧ ∃ v L, o = .returned v ∧ Q v t.heap L ∧ FrameEnd s o t L C S
theorem own_step {tb : Tables} {e : Env} {below : List Frame} {s : State} {Q : Option Value → Heap → List Loc → Prop} {C S : Nat} {st st' : State}
    (h : ∀ t, Steps tb e below st' t → Steps tb e below st t) (k : own_Ends tb e below s Q C S st') : own_Ends tb e below s Q C S st := by
  obtain ⟨t, o, h1, h2⟩ := k
  exact ⟨t, o, h t h1, h2⟩
section OwnRet
variable {p : Program} {l : Launch} {e : Env} {R : Room} {s : State} {m : MethodId} {args : Array Value} {below : List Frame} {meth : Method} {c : Code} {T : State} {locs : List Loc} {cells slots : Nat} {Q : Option Value → Heap → List Loc → Prop} {C S : Nat} {pc : Nat} {Ls : Array Slot} {rest : List Value}
theorem own_retW (X : Stand p l e R s m args below meth c T locs cells slots) (hx : p.tables.exec = Jvm.exec) {w : Value} {t : FieldType} {i : Instr} (hret : meth.sig.returnType = some t) (hn : narrow t w = w)
    (hi : (i = .ireturn ∧ (t = .int ∨ t = .boolean ∨ t = .byte ∨ t = .char ∨ t = .short) ∧ ∃ z, w = .int z) ∨ (i = .lreturn ∧ t = .long ∧ ∃ z, w = .long z) ∨ (i = .dreturn ∧ t = .double ∧ ∃ z, w = .double z) ∨ (i = .freturn ∧ t = .float ∧ ∃ z, w = .float z) ∨ (i = .areturn ∧ t.isReference = true ∧ w.isRef = true))
    (hd : decode c.code pc = .ok (i, 1)) (hlocks : meth.locks = false) (hq : Q (some w) T.heap locs) (hc : cells ≤ C) (hs : slots ≤ S) :
    own_Ends p.tables e below s Q C S (T.setTop (mkF m pc Ls (w :: rest))) := by
  obtain ⟨fs, hr, hrun, hended, hW, hsame⟩ := X.leave (v := some w) (fun h => by rw [hret] at h; cases h) hlocks
  exact ⟨_, _, retOut X hx hret hn hi hd hr, hrun, hended, _, _, rfl, hq, ⟨_, rfl⟩, hW, hsame.mono hc hs⟩
theorem own_retI (X : Stand p l e R s m args below meth c T locs cells slots) (hx : p.tables.exec = Jvm.exec) {z : Int32} (hret : meth.sig.returnType = some .int)
    (hd : decode c.code pc = .ok (.ireturn, 1)) (hlocks : meth.locks = false) (hq : Q (some (.int z)) T.heap locs) (hc : cells ≤ C) (hs : slots ≤ S) :
    own_Ends p.tables e below s Q C S (T.setTop (mkF m pc Ls (.int z :: rest))) :=
  own_retW X hx hret rfl (Or.inl ⟨rfl, Or.inl rfl, z, rfl⟩) hd hlocks hq hc hs
theorem own_retJ (X : Stand p l e R s m args below meth c T locs cells slots) (hx : p.tables.exec = Jvm.exec) {z : Int64} (hret : meth.sig.returnType = some .long)
    (hd : decode c.code pc = .ok (.lreturn, 1)) (hlocks : meth.locks = false) (hq : Q (some (.long z)) T.heap locs) (hc : cells ≤ C) (hs : slots ≤ S) :
    own_Ends p.tables e below s Q C S (T.setTop (mkF m pc Ls (.long z :: rest))) :=
  own_retW X hx hret rfl (Or.inr (Or.inl ⟨rfl, rfl, z, rfl⟩)) hd hlocks hq hc hs
theorem own_retR (X : Stand p l e R s m args below meth c T locs cells slots) (hx : p.tables.exec = Jvm.exec) {w : Value} {t : FieldType} (hret : meth.sig.returnType = some t) (ht : t.isReference = true) (hw : w.isRef = true) (hn : narrow t w = w)
    (hd : decode c.code pc = .ok (.areturn, 1)) (hlocks : meth.locks = false) (hq : Q (some w) T.heap locs) (hc : cells ≤ C) (hs : slots ≤ S) :
    own_Ends p.tables e below s Q C S (T.setTop (mkF m pc Ls (w :: rest))) :=
  own_retW X hx hret hn (Or.inr (Or.inr (Or.inr (Or.inr ⟨rfl, ht, hw⟩)))) hd hlocks hq hc hs
theorem own_retN (X : Stand p l e R s m args below meth c T locs cells slots) (hx : p.tables.exec = Jvm.exec) {z : Int32} {t : FieldType} (hret : meth.sig.returnType = some t) (ht : t = .boolean ∨ t = .byte ∨ t = .char ∨ t = .short)
    (hd : decode c.code pc = .ok (.ireturn, 1)) (hlocks : meth.locks = false) (hq : Q (some (.int (nar t z))) T.heap locs) (hc : cells ≤ C) (hs : slots ≤ S) :
    own_Ends p.tables e below s Q C S (T.setTop (mkF m pc Ls (.int z :: rest))) := by
  obtain ⟨fs, hr, hrun, hended, hW, hsame⟩ := X.leave (v := some (.int (nar t z))) (fun h => by rw [hret] at h; cases h) hlocks
  exact ⟨_, _, retN X hx hret ht hd hr, hrun, hended, _, _, rfl, hq, ⟨_, rfl⟩, hW, hsame.mono hc hs⟩
theorem own_ret0 (X : Stand p l e R s m args below meth c T locs cells slots) (hx : p.tables.exec = Jvm.exec) (hret : meth.sig.returnType = none)
    (hd : decode c.code pc = .ok (.return_, 1)) (hlocks : meth.locks = false) (hq : Q none T.heap locs) (hc : cells ≤ C) (hs : slots ≤ S) :
    own_Ends p.tables e below s Q C S (T.setTop (mkF m pc Ls [])) := by
  obtain ⟨fs, hr, hrun, hended, hW, hsame⟩ := X.leave (v := none) (fun _ => rfl) hlocks
  exact ⟨_, _, X.returnOut hx hret hd hr, hrun, hended, _, _, rfl, hq, ⟨_, rfl⟩, hW, hsame.mono hc hs⟩
end OwnRet
theorem own_idx (b n : Int32) (hn : 0 < n.toInt) : ¬ ((b &&& 2147483647) % n) < 0 ∧ ((b &&& 2147483647) % n) < n := by
  have h1 := c_and b 2147483647 (by decide)
  have h2 := (c_iremV (b &&& 2147483647) n).1 h1.1 hn
  constructor
  · rw [Int32.lt_iff_toInt_lt]; show ¬ _ < (0 : Int); omega
  · rw [Int32.lt_iff_toInt_lt]; omega
theorem own_small (v : Int32) (k : Nat) (hk : k < 2147483648) (h1 : ¬ v < 0) (h2 : v < Int32.ofNat k) : ∃ n : Fin k, v = Int32.ofNat n.1 := by
  rw [Int32.lt_iff_toInt_lt] at h1 h2
  rw [Int32.toInt_ofNat_of_lt hk] at h2
  have a : 0 ≤ v.toInt := by simpa using h1
  refine ⟨⟨v.toInt.toNat, by omega⟩, ?_⟩
  apply Int32.toInt_inj.mp
  rw [Int32.toInt_ofNat_of_lt (by show v.toInt.toNat < _; omega)]
  show v.toInt = ((v.toInt.toNat : Nat) : Int)
  omega
theorem own_fld {s : State} {args : Array Value} {t : Term} {a : Addr} {C n d : String} {k : Int32} (ev : t.eval args s none [] s = some (.ref a)) (h : (Jvm.Cond.eq (.field t C n d) (.int k)).value args s none s [] = some true) : Fld s s.heap a C n d (.int k) := by
  obtain ⟨x, y, h1, h2, h3, h4⟩ := cmp_v (Or.inl h)
  rw [fld_at ev] at h1
  have h5 : y = .int k := by have := h2.symm.trans (Term.int_eval k); exact Option.some.inj this
  subst h5
  obtain ⟨z, rfl⟩ := h4
  have q : (Jvm.Cond.eq (.field t C n d) (.int k)).value args s none s [] = some (decide (z = k)) := Cond.eq_ints ((fld_at ev).trans h1) (Term.int_eval k)
  have : z = k := gotT q h
  subst this
  exact Fld.start h1
theorem own_NSroot {Z : State} {a0 : Array Value} {O K : String} {n : Nat} (w : (Jvm.Cond.noSuperclass O).before a0 Z = true) (wk : (Jvm.Cond.instantiable K n).before a0 Z = true) (hn : O ≠ K) : NS Z O K := by
  obtain ⟨c, k, h1, h2, h3, -, -⟩ := Cond.noSuperclass_spec w
  obtain ⟨t, k', g1, -⟩ := Cond.instantiable_spec wk
  have ne := ids_ne h1 g1 hn
  refine ⟨c, t, h1, g1, fun fuel => ?_⟩
  cases fuel with
  | zero => rfl
  | succ f => simp [Vm.isSubclassAux, ne, h2, h3]
theorem own_NSno {Z : State} {a0 : Array Value} {C S K : String} {n : Nat} (w : (Jvm.Cond.superclass C S).before a0 Z = true) (wk : (Jvm.Cond.instantiable K n).before a0 Z = true) (nn : NS Z C K) (hn : C ≠ K) : ∃ c t, Z.vm.findClass C = some c ∧ Z.vm.findClass K = some t ∧ Z.vm.assignable c t = false := by
  obtain ⟨c, t, h0, g0, n3⟩ := nn
  obtain ⟨p, k, kp, h1, h2, h3, h4, h5, -, h7⟩ := Cond.superclass_spec h0 w
  obtain ⟨t', k', g1, g2, g3, g4, -⟩ := Cond.instantiable_spec wk
  cases g0.symm.trans g1
  have ne := ids_ne h0 g0 hn
  have g7 : k'.isInterface = false := (Bool.or_eq_false_iff.mp g4).1
  refine ⟨c, t, h0, g0, ?_⟩
  show Z.vm.assignableAux (255 + 1) c t = false
  simp [Vm.assignableAux, ne, h2, g2, h5, g3, g7, Vm.isSubclass, n3]
theorem d2_0 : decode jdk_30_method_1_code 0 = .ok (.aload_n 0, 1) := by decide +kernel
theorem d2_1 : decode jdk_30_method_1_code 1 = .ok (.invokespecial 1, 3) := by decide +kernel
theorem d2_4 : decode jdk_30_method_1_code 4 = .ok (.return_, 1) := by decide +kernel
theorem pn_0 : plainName "java/lang/Record" = true := by first | (simp [plainName, overriddenIn]; done) | decide +kernel
theorem ef_2 (m : MethodId) (o0_2 : Addr) : entryFrame m #[(.ref o0_2)] 1 = mkF m 0 #[.val (.ref o0_2)] [] := by first | (simp [entryFrame, mkF, argsToLocals, Value.category]; done) | rfl
def Q2 (Z : State) (o0_2 : Addr) (h0 : Heap) (n0 : Nat) (v : Option Value) (h : Heap) (L : List Loc) : Prop := v = none ∧ Fr n0 L ∧ h = h0
set_option maxRecDepth 65536 in
set_option maxHeartbeats 40000000 in
theorem rm2 (l : Launch) (Z : State) (a0 : Array Value) (hw : ∀ d ∈ tables_1, d.before a0 Z = true) (ws : List Jvm.Cond) (o0_2 : Addr) (h0 : Heap) (n0 : Nat) (O0 : Old Z n0 h0) :
    MetFree l (⟨"java/lang/Record", "<init>", "()V"⟩ : MethodName) (head1 (Jvm.Cond.code (⟨"java/lang/Record", "<init>", "()V"⟩ : MethodName) jdk_30_method_1_code 1 none :: ws) ({ frames := 1, cells := 0, slots := 0, locals := 12 } : Room)) (fun a U => a = #[(.ref o0_2)] ∧ Z.Warmed39 U.vm ∧ U.heap = h0) (fun _ _ _ _ _ => True) (fun _ U o U' => ∃ v L, o = .returned v ∧ Q2 Z o0_2 h0 n0 v U'.heap L ∧ FrameEnd U o U' L ({ frames := 1, cells := 0, slots := 0, locals := 12 } : Room).cells ({ frames := 1, cells := 0, slots := 0, locals := 12 } : Room).slots) := by
  refine MetFree.of_bodySF (plainFor_of_name pn_0) hisR ?_
  intro p e s m args below meth c s₁ Bd hml0 hP hK
  obtain ⟨rfl, hZ, hh⟩ := hP
  have hx := Bd.exec
  have hby := Bd.bytes
  have hnl := BodyLoose.notSynchronized Bd
  have hml : c.maxLocals = 1 := hml0
  have hown : s.vm.findClass "java/lang/Record" = some m.cls := findClass_of_methodNamed Bd.named
  have hnm := (name_of_methodNamed Bd.named Bd.method).1
  have X0 : Stand p l e ({ frames := 1, cells := 0, slots := 0, locals := 12 } : Room) s m #[(.ref o0_2)] below meth c s₁ [] 0 0 := Stand.of_body Bd
  have e0 : s₁.heap = h0 := by rw [← hh, Bd.state]; rfl
  have N0 := Fr.nil n0
  show own_Ends p.tables e below s (Q2 Z o0_2 h0 n0) 0 0 (s₁.setTop (entryFrame m #[(.ref o0_2)] 1))
  rw [ef_2 m o0_2]
  show own_Ends p.tables e below s _ _ _ (s₁.setTop (mkF m 0 #[.val (.ref o0_2)] []))
  refine own_step (fun t k => XS.aloadN X0.here hx rfl (hb hby d2_0) rfl rfl k) ?_
  show own_Ends p.tables e below s _ _ _ (s₁.setTop (mkF m 1 #[.val (.ref o0_2)] [(.ref o0_2)]))
  obtain ⟨T1, X1, e1, st1⟩ := initO X0 hx hZ hown (hw _ (List.mem_of_getElem? (i := 11) rfl)) (hw _ (List.mem_of_getElem? (i := 12) rfl)) (hw _ (List.mem_of_getElem? (i := 13) rfl)) e0 (g := (mkF m 1 #[.val (.ref o0_2)] [(.ref o0_2)])) rfl (by rw [hml]; rfl) rfl (hb hby d2_1) (by decide) (W := 0) (by show 2 * 0 + _ ≤ _; exact Nat.le_of_eq rfl) (by decide)
  refine own_step (fun t k => st1 _ k) ?_
  show own_Ends p.tables e below s _ _ _ (T1.setTop (mkF m 4 #[.val (.ref o0_2)] []))
  exact own_ret0 X1 hx Bd.returns (hb hby d2_4) hnl (by rw [e1]; exact ⟨rfl, N0, rfl⟩) (by decide) (by decide)
theorem pd_0 : parseMethodDescriptor "()V" = some ⟨[], none⟩ := by decide +kernel
theorem d1_0 : decode prog_29_method_1_code 0 = .ok (.aload_n 0, 1) := by decide +kernel
theorem d1_1 : decode prog_29_method_1_code 1 = .ok (.invokespecial 1, 3) := by decide +kernel
theorem d1_4 : decode prog_29_method_1_code 4 = .ok (.aload_n 0, 1) := by decide +kernel
theorem d1_5 : decode prog_29_method_1_code 5 = .ok (.lload_n 1, 1) := by decide +kernel
theorem d1_6 : decode prog_29_method_1_code 6 = .ok (.putfield 7, 3) := by decide +kernel
theorem d1_9 : decode prog_29_method_1_code 9 = .ok (.aload_n 0, 1) := by decide +kernel
theorem d1_10 : decode prog_29_method_1_code 10 = .ok (.lload_n 3, 1) := by decide +kernel
theorem d1_11 : decode prog_29_method_1_code 11 = .ok (.putfield 13, 3) := by decide +kernel
theorem d1_14 : decode prog_29_method_1_code 14 = .ok (.return_, 1) := by decide +kernel
theorem pn_1 : plainName "com/example/swanhall/swanhall/core/Cell" = true := by first | (simp [plainName, overriddenIn]; done) | decide +kernel
theorem ef_1 (m : MethodId) (o0_1 : Addr) (y1_1 : Int64) (y2_1 : Int64) : entryFrame m #[(.ref o0_1), (.long y1_1), (.long y2_1)] 5 = mkF m 0 #[.val (.ref o0_1), .val (.long y1_1), .second, .val (.long y2_1), .second] [] := by first | (simp [entryFrame, mkF, argsToLocals, Value.category]; done) | rfl
def Q1 (Z : State) (o0_1 : Addr) (y1_1 : Int64) (y2_1 : Int64) (u_x_o0_1 : Value) (u_y_o0_1 : Value) (h0 : Heap) (n0 : Nat) (v : Option Value) (h : Heap) (L : List Loc) : Prop := v = none ∧ Fr n0 L ∧ Keep h0 h [o0_1] ∧ Exa Z h o0_1 "com/example/swanhall/swanhall/core/Cell" ∧ Fld Z h o0_1 "com/example/swanhall/swanhall/core/Cell" "x" "J" (.long y1_1) ∧ Fld Z h o0_1 "com/example/swanhall/swanhall/core/Cell" "y" "J" (.long y2_1)
set_option maxRecDepth 65536 in
set_option maxHeartbeats 40000000 in
theorem rm1 (l : Launch) (Z : State) (a0 : Array Value) (hw : ∀ d ∈ tables_1, d.before a0 Z = true) (ws : List Jvm.Cond) (o0_1 : Addr) (y1_1 : Int64) (y2_1 : Int64) (u_x_o0_1 : Value) (u_y_o0_1 : Value) (h0 : Heap) (n0 : Nat) (O0 : Old Z n0 h0) (E_o0_1 : Exa Z h0 o0_1 "com/example/swanhall/swanhall/core/Cell") (F_x_o0_1 : Fld Z h0 o0_1 "com/example/swanhall/swanhall/core/Cell" "x" "J" u_x_o0_1) (g_o0_1 : n0 ≤ o0_1) (F_y_o0_1 : Fld Z h0 o0_1 "com/example/swanhall/swanhall/core/Cell" "y" "J" u_y_o0_1) :
    MetFree l (⟨"com/example/swanhall/swanhall/core/Cell", "<init>", "(JJ)V"⟩ : MethodName) (head1 (Jvm.Cond.code (⟨"com/example/swanhall/swanhall/core/Cell", "<init>", "(JJ)V"⟩ : MethodName) prog_29_method_1_code 5 none :: ws) ({ frames := 2, cells := 0, slots := 0, locals := 24 } : Room)) (fun a U => a = #[(.ref o0_1), (.long y1_1), (.long y2_1)] ∧ Z.Warmed39 U.vm ∧ U.heap = h0) (fun _ _ _ _ _ => True) (fun _ U o U' => ∃ v L, o = .returned v ∧ Q1 Z o0_1 y1_1 y2_1 u_x_o0_1 u_y_o0_1 h0 n0 v U'.heap L ∧ FrameEnd U o U' L ({ frames := 2, cells := 0, slots := 0, locals := 24 } : Room).cells ({ frames := 2, cells := 0, slots := 0, locals := 24 } : Room).slots) := by
  refine MetFree.of_bodySF (plainFor_of_name pn_1) hisR ?_
  intro p e s m args below meth c s₁ Bd hml0 hP hK
  obtain ⟨rfl, hZ, hh⟩ := hP
  have hx := Bd.exec
  have hby := Bd.bytes
  have hnl := BodyLoose.notSynchronized Bd
  have hml : c.maxLocals = 5 := hml0
  have hown : s.vm.findClass "com/example/swanhall/swanhall/core/Cell" = some m.cls := findClass_of_methodNamed Bd.named
  have hnm := (name_of_methodNamed Bd.named Bd.method).1
  have X0 : Stand p l e ({ frames := 2, cells := 0, slots := 0, locals := 24 } : Room) s m #[(.ref o0_1), (.long y1_1), (.long y2_1)] below meth c s₁ [] 0 0 := Stand.of_body Bd
  have e0 : s₁.heap = h0 := by rw [← hh, Bd.state]; rfl
  have N0 := Fr.nil n0
  show own_Ends p.tables e below s (Q1 Z o0_1 y1_1 y2_1 u_x_o0_1 u_y_o0_1 h0 n0) 0 0 (s₁.setTop (entryFrame m #[(.ref o0_1), (.long y1_1), (.long y2_1)] 5))
  rw [ef_1 m o0_1 y1_1 y2_1]
  show own_Ends p.tables e below s _ _ _ (s₁.setTop (mkF m 0 #[.val (.ref o0_1), .val (.long y1_1), .second, .val (.long y2_1), .second] []))
  refine own_step (fun t k => XS.aloadN X0.here hx rfl (hb hby d1_0) rfl rfl k) ?_
  show own_Ends p.tables e below s _ _ _ (s₁.setTop (mkF m 1 #[.val (.ref o0_1), .val (.long y1_1), .second, .val (.long y2_1), .second] [(.ref o0_1)]))
  obtain ⟨_, _, ⟨T1, L1, k1, n1⟩, -, X1, ⟨Lc1, hQ1, l1, y1, z1⟩, st1⟩ := X0.specialBack hx (y := (⟨"java/lang/Record", "<init>", "()V"⟩ : MethodName)) rfl hown (mvT hZ (hw _ (List.mem_of_getElem? (i := 6) rfl))) (mvT hZ (hw _ (List.mem_of_getElem? (i := 7) rfl))) (mvT hZ (hw _ (List.mem_of_getElem? (i := 10) rfl))) (by decide) (backOf (W := 0) (rm2 l Z a0 hw [] o0_1 h0 n0 O0 ) hZ (hw _ (List.mem_of_getElem? (i := 10) rfl)) (hw _ (List.mem_of_getElem? (i := 9) rfl)) (by decide) (by decide)) (g := (mkF m 1 #[.val (.ref o0_1), .val (.long y1_1), .second, .val (.long y2_1), .second] [(.ref o0_1)])) rfl (by rw [hml]; rfl) (Steps.refl _) (a := o0_1) (argsL := []) (rest := []) (lenOf pd_0 rfl) rfl (by show 2 * 0 + _ ≤ _; exact Nat.le_of_eq rfl) (hb hby d1_1) (fun _ _ => ⟨rfl, e0, (by decide : 0 + 0 ≤ _), (by decide : 0 + 0 ≤ _)⟩)
  dsimp only [Pt.U, Pt.locs, Pt.cells, Pt.slots] at X1 l1 y1 z1 st1 hQ1
  subst l1 y1 z1
  obtain ⟨rfl, N1q, e1⟩ := hQ1
  refine own_step (fun t k => st1.trans k) ?_
  have N2 := Fr.app N0 N1q
  show own_Ends p.tables e below s _ _ _ (T1.setTop (mkF m 4 #[.val (.ref o0_1), .val (.long y1_1), .second, .val (.long y2_1), .second] []))
  refine own_step (fun t k => XS.aloadN X1.here hx rfl (hb hby d1_4) rfl rfl k) ?_
  show own_Ends p.tables e below s _ _ _ (T1.setTop (mkF m 5 #[.val (.ref o0_1), .val (.long y1_1), .second, .val (.long y2_1), .second] [(.ref o0_1)]))
  refine own_step (fun t k => XS.lloadN X1.here hx rfl (hb hby d1_5) rfl k) ?_
  show own_Ends p.tables e below s _ _ _ (T1.setTop (mkF m 6 #[.val (.ref o0_1), .val (.long y1_1), .second, .val (.long y2_1), .second] [(.long y1_1), (.ref o0_1)]))
  obtain ⟨T3, h3, X3, e3, W3, st3⟩ := putF X1 hx hZ hown (host := "") (Or.inl (hw _ (List.mem_of_getElem? (i := 14) rfl))) Via.refl e1 F_x_o0_1 E_o0_1 (Or.inr ⟨(hw _ (List.mem_of_getElem? (i := 15) rfl)), rfl, hnm⟩) (hw _ (List.mem_of_getElem? (i := 1) rfl)) (ty := .long) (by decide) rfl rfl (g := (mkF m 6 #[.val (.ref o0_1), .val (.long y1_1), .second, .val (.long y2_1), .second] [(.long y1_1), (.ref o0_1)])) rfl rfl (hb hby d1_6)
  refine own_step (fun t k => st3 _ k) ?_
  have F4 : Fld Z h3 o0_1 "com/example/swanhall/swanhall/core/Cell" "x" "J" (.long y1_1) := F_x_o0_1.same W3
  have K5 : Keep h0 h3 [o0_1] := (Keep.refl h0 [o0_1]).wr W3 (Or.inl (List.mem_of_getElem? (i := 0) rfl))
  have N6 := Fr.snoc X3 N2 g_o0_1
  show own_Ends p.tables e below s _ _ _ (T3.setTop (mkF m 9 #[.val (.ref o0_1), .val (.long y1_1), .second, .val (.long y2_1), .second] []))
  refine own_step (fun t k => XS.aloadN X3.here hx rfl (hb hby d1_9) rfl rfl k) ?_
  show own_Ends p.tables e below s _ _ _ (T3.setTop (mkF m 10 #[.val (.ref o0_1), .val (.long y1_1), .second, .val (.long y2_1), .second] [(.ref o0_1)]))
  refine own_step (fun t k => XS.lloadN X3.here hx rfl (hb hby d1_10) rfl k) ?_
  show own_Ends p.tables e below s _ _ _ (T3.setTop (mkF m 11 #[.val (.ref o0_1), .val (.long y1_1), .second, .val (.long y2_1), .second] [(.long y2_1), (.ref o0_1)]))
  have F7 : Exa Z h3 o0_1 "com/example/swanhall/swanhall/core/Cell" := (E_o0_1.wr W3)
  have F8 : Fld Z h3 o0_1 "com/example/swanhall/swanhall/core/Cell" "y" "J" u_y_o0_1 := (F_y_o0_1.other W3 (Or.inr (slot_ne (Or.inr (hw _ (List.mem_of_getElem? (i := 17) rfl))) (Or.inr (hw _ (List.mem_of_getElem? (i := 15) rfl))) (by decide) (t := .long) (t' := .long) (by decide) (by decide))))
  obtain ⟨T9, h9, X9, e9, W9, st9⟩ := putF X3 hx hZ hown (host := "") (Or.inl (hw _ (List.mem_of_getElem? (i := 16) rfl))) Via.refl e3 F8 F7 (Or.inr ⟨(hw _ (List.mem_of_getElem? (i := 17) rfl)), rfl, hnm⟩) (hw _ (List.mem_of_getElem? (i := 1) rfl)) (ty := .long) (by decide) rfl rfl (g := (mkF m 11 #[.val (.ref o0_1), .val (.long y1_1), .second, .val (.long y2_1), .second] [(.long y2_1), (.ref o0_1)])) rfl rfl (hb hby d1_11)
  refine own_step (fun t k => st9 _ k) ?_
  have F10 : Fld Z h9 o0_1 "com/example/swanhall/swanhall/core/Cell" "y" "J" (.long y2_1) := F8.same W9
  have K11 : Keep h0 h9 [o0_1] := K5.wr W9 (Or.inl (List.mem_of_getElem? (i := 0) rfl))
  have N12 := Fr.snoc X9 N6 g_o0_1
  show own_Ends p.tables e below s _ _ _ (T9.setTop (mkF m 14 #[.val (.ref o0_1), .val (.long y1_1), .second, .val (.long y2_1), .second] []))
  have F13 : Exa Z h9 o0_1 "com/example/swanhall/swanhall/core/Cell" := (F7.wr W9)
  have F14 : Fld Z h9 o0_1 "com/example/swanhall/swanhall/core/Cell" "x" "J" (.long y1_1) := (F4.other W9 (Or.inr (slot_ne (Or.inr (hw _ (List.mem_of_getElem? (i := 15) rfl))) (Or.inr (hw _ (List.mem_of_getElem? (i := 17) rfl))) (by decide) (t := .long) (t' := .long) (by decide) (by decide))))
  exact own_ret0 X9 hx Bd.returns (hb hby d1_14) hnl (by rw [e9]; exact ⟨rfl, N12, K11, F13, F14, F10⟩) (by decide) (by decide)
def own_r4 (x0_4 : Int32) (w_N : Addr) (w_E : Addr) (w_S : Addr) (w_W : Addr) : Addr := (if x0_4 = (0 : Int32) then w_N else (if x0_4 = (1 : Int32) then w_E else (if x0_4 = (2 : Int32) then w_S else w_W)))
theorem d4_0 : decode method_2_code 0 = .ok (.iload_n 0, 1) := by decide +kernel
theorem d4_1 : decode method_2_code 1 = .ok (.ifCond .ne 7, 3) := by decide +kernel
theorem d4_4 : decode method_2_code 4 = .ok (.getstatic 7, 3) := by decide +kernel
theorem d4_7 : decode method_2_code 7 = .ok (.areturn, 1) := by decide +kernel
theorem d4_8 : decode method_2_code 8 = .ok (.iload_n 0, 1) := by decide +kernel
theorem d4_9 : decode method_2_code 9 = .ok (.iconst 1, 1) := by decide +kernel
theorem d4_10 : decode method_2_code 10 = .ok (.if_icmp .ne 7, 3) := by decide +kernel
theorem d4_13 : decode method_2_code 13 = .ok (.getstatic 13, 3) := by decide +kernel
theorem d4_16 : decode method_2_code 16 = .ok (.areturn, 1) := by decide +kernel
theorem d4_17 : decode method_2_code 17 = .ok (.iload_n 0, 1) := by decide +kernel
theorem d4_18 : decode method_2_code 18 = .ok (.iconst 2, 1) := by decide +kernel
theorem d4_19 : decode method_2_code 19 = .ok (.if_icmp .ne 7, 3) := by decide +kernel
theorem d4_22 : decode method_2_code 22 = .ok (.getstatic 16, 3) := by decide +kernel
theorem d4_25 : decode method_2_code 25 = .ok (.areturn, 1) := by decide +kernel
theorem d4_26 : decode method_2_code 26 = .ok (.getstatic 19, 3) := by decide +kernel
theorem d4_29 : decode method_2_code 29 = .ok (.areturn, 1) := by decide +kernel
theorem pn_2 : plainName "com/example/swanhall/swanhall/core/EdgeEqualsPinLaw" = true := by first | (simp [plainName, overriddenIn]; done) | decide +kernel
theorem ef_4 (m : MethodId) (x0_4 : Int32) : entryFrame m #[(.int x0_4)] 1 = mkF m 0 #[.val (.int x0_4)] [] := by first | (simp [entryFrame, mkF, argsToLocals, Value.category]; done) | rfl
def Q4 (Z : State) (x0_4 : Int32) (w_N : Addr) (w_E : Addr) (w_S : Addr) (w_W : Addr) (h0 : Heap) (n0 : Nat) (v : Option Value) (h : Heap) (L : List Loc) : Prop := v = some (.ref (own_r4 x0_4 w_N w_E w_S w_W)) ∧ Fr n0 L ∧ h = h0
set_option maxRecDepth 65536 in
set_option maxHeartbeats 40000000 in
theorem rm4 (l : Launch) (Z : State) (a0 : Array Value) (hw : ∀ d ∈ tables_1, d.before a0 Z = true) (ws : List Jvm.Cond) (x0_4 : Int32) (w_N : Addr) (w_E : Addr) (w_S : Addr) (w_W : Addr) (h0 : Heap) (n0 : Nat) (O0 : Old Z n0 h0) (S_N : Sta Z Z.heap "com/example/swanhall/swanhall/core/Side" "N" "Lcom/example/swanhall/swanhall/core/Side;" (.ref w_N)) (S_E : Sta Z Z.heap "com/example/swanhall/swanhall/core/Side" "E" "Lcom/example/swanhall/swanhall/core/Side;" (.ref w_E)) (S_S : Sta Z Z.heap "com/example/swanhall/swanhall/core/Side" "S" "Lcom/example/swanhall/swanhall/core/Side;" (.ref w_S)) (S_W : Sta Z Z.heap "com/example/swanhall/swanhall/core/Side" "W" "Lcom/example/swanhall/swanhall/core/Side;" (.ref w_W)) :
    MetFree l (⟨"com/example/swanhall/swanhall/core/EdgeEqualsPinLaw", "side", "(I)Lcom/example/swanhall/swanhall/core/Side;"⟩ : MethodName) (head1 (Jvm.Cond.code (⟨"com/example/swanhall/swanhall/core/EdgeEqualsPinLaw", "side", "(I)Lcom/example/swanhall/swanhall/core/Side;"⟩ : MethodName) method_2_code 1 (some (.object "com/example/swanhall/swanhall/core/Side")) :: ws) ({ frames := 0, cells := 0, slots := 0, locals := 0 } : Room)) (fun a U => a = #[(.int x0_4)] ∧ Z.Warmed39 U.vm ∧ U.heap = h0) (fun _ _ _ _ _ => True) (fun _ U o U' => ∃ v L, o = .returned v ∧ Q4 Z x0_4 w_N w_E w_S w_W h0 n0 v U'.heap L ∧ FrameEnd U o U' L ({ frames := 0, cells := 0, slots := 0, locals := 0 } : Room).cells ({ frames := 0, cells := 0, slots := 0, locals := 0 } : Room).slots) := by
  refine MetFree.of_bodySF (plainFor_of_name pn_2) hisR ?_
  intro p e s m args below meth c s₁ Bd hml0 hP hK
  obtain ⟨rfl, hZ, hh⟩ := hP
  have hx := Bd.exec
  have hby := Bd.bytes
  have hnl := BodyLoose.notSynchronized Bd
  have hml : c.maxLocals = 1 := hml0
  have hown : s.vm.findClass "com/example/swanhall/swanhall/core/EdgeEqualsPinLaw" = some m.cls := findClass_of_methodNamed Bd.named
  have hnm := (name_of_methodNamed Bd.named Bd.method).1
  have X0 : Stand p l e ({ frames := 0, cells := 0, slots := 0, locals := 0 } : Room) s m #[(.int x0_4)] below meth c s₁ [] 0 0 := Stand.of_body Bd
  have e0 : s₁.heap = h0 := by rw [← hh, Bd.state]; rfl
  have N0 := Fr.nil n0
  show own_Ends p.tables e below s (Q4 Z x0_4 w_N w_E w_S w_W h0 n0) 0 0 (s₁.setTop (entryFrame m #[(.int x0_4)] 1))
  rw [ef_4 m x0_4]
  show own_Ends p.tables e below s _ _ _ (s₁.setTop (mkF m 0 #[.val (.int x0_4)] []))
  refine own_step (fun t k => XS.iloadN X0.here hx rfl (hb hby d4_0) rfl k) ?_
  show own_Ends p.tables e below s _ _ _ (s₁.setTop (mkF m 1 #[.val (.int x0_4)] [(.int x0_4)]))
  by_cases hc1_1 : x0_4 = (0 : Int32)
  · skip
    refine own_step (fun t k => XS.ifNo X0.here hx rfl (hb hby d4_1) rfl ((if0 _ _).trans (teq hc1_1).2) k) ?_
    show own_Ends p.tables e below s _ _ _ (s₁.setTop (mkF m 4 #[.val (.int x0_4)] []))
    obtain ⟨T2, X2, e2, st2⟩ := getS2 X0 hx hZ hown (host := "") (Or.inl (hw _ (List.mem_of_getElem? (i := 36) rfl))) Via.refl e0 (S_N.ext O0.2) (g := (mkF m 4 #[.val (.int x0_4)] [])) rfl (hb hby d4_4)
    refine own_step (fun t k => st2 _ k) ?_
    show own_Ends p.tables e below s _ _ _ (T2.setTop (mkF m 7 #[.val (.int x0_4)] [(.ref w_N)]))
    exact own_retR X2 hx Bd.returns rfl rfl rfl (hb hby d4_7) hnl (by rw [e2]; exact ⟨(congrArg (fun z => some (Value.ref z)) (Eq.symm (show (own_r4 x0_4 w_N w_E w_S w_W) = w_N from by unfold own_r4; rw [if_pos hc1_1]))), N0, rfl⟩) (by decide) (by decide)
  · skip
    refine own_step (fun t k => XS.ifYes X0.here hx rfl (pc0 := 1) (pc' := 8) rfl (hb hby d4_1) rfl ((if0 _ _).trans (feq hc1_1).2) (by decide) (by decide) k) ?_
    show own_Ends p.tables e below s _ _ _ (s₁.setTop (mkF m 8 #[.val (.int x0_4)] []))
    refine own_step (fun t k => XS.iloadN X0.here hx rfl (hb hby d4_8) rfl k) ?_
    show own_Ends p.tables e below s _ _ _ (s₁.setTop (mkF m 9 #[.val (.int x0_4)] [(.int x0_4)]))
    refine own_step (fun t k => XS.iconst X0.here hx rfl (hb hby d4_9) k) ?_
    show own_Ends p.tables e below s _ _ _ (s₁.setTop (mkF m 10 #[.val (.int x0_4)] [(.int (1 : Int32)), (.int x0_4)]))
    by_cases hc10_3 : x0_4 = (1 : Int32)
    · skip
      refine own_step (fun t k => XS.icmpNo X0.here hx rfl (hb hby d4_10) rfl (teq hc10_3).2 k) ?_
      show own_Ends p.tables e below s _ _ _ (s₁.setTop (mkF m 13 #[.val (.int x0_4)] []))
      obtain ⟨T4, X4, e4, st4⟩ := getS2 X0 hx hZ hown (host := "") (Or.inl (hw _ (List.mem_of_getElem? (i := 55) rfl))) Via.refl e0 (S_E.ext O0.2) (g := (mkF m 13 #[.val (.int x0_4)] [])) rfl (hb hby d4_13)
      refine own_step (fun t k => st4 _ k) ?_
      show own_Ends p.tables e below s _ _ _ (T4.setTop (mkF m 16 #[.val (.int x0_4)] [(.ref w_E)]))
      exact own_retR X4 hx Bd.returns rfl rfl rfl (hb hby d4_16) hnl (by rw [e4]; exact ⟨(congrArg (fun z => some (Value.ref z)) (Eq.symm (show (own_r4 x0_4 w_N w_E w_S w_W) = w_E from by unfold own_r4; rw [if_neg hc1_1, if_pos hc10_3]))), N0, rfl⟩) (by decide) (by decide)
    · skip
      refine own_step (fun t k => XS.icmpYes X0.here hx rfl (pc0 := 10) (pc' := 17) rfl (hb hby d4_10) rfl (feq hc10_3).2 (by decide) (by decide) k) ?_
      show own_Ends p.tables e below s _ _ _ (s₁.setTop (mkF m 17 #[.val (.int x0_4)] []))
      refine own_step (fun t k => XS.iloadN X0.here hx rfl (hb hby d4_17) rfl k) ?_
      show own_Ends p.tables e below s _ _ _ (s₁.setTop (mkF m 18 #[.val (.int x0_4)] [(.int x0_4)]))
      refine own_step (fun t k => XS.iconst X0.here hx rfl (hb hby d4_18) k) ?_
      show own_Ends p.tables e below s _ _ _ (s₁.setTop (mkF m 19 #[.val (.int x0_4)] [(.int (2 : Int32)), (.int x0_4)]))
      by_cases hc19_5 : x0_4 = (2 : Int32)
      · skip
        refine own_step (fun t k => XS.icmpNo X0.here hx rfl (hb hby d4_19) rfl (teq hc19_5).2 k) ?_
        show own_Ends p.tables e below s _ _ _ (s₁.setTop (mkF m 22 #[.val (.int x0_4)] []))
        obtain ⟨T6, X6, e6, st6⟩ := getS2 X0 hx hZ hown (host := "") (Or.inl (hw _ (List.mem_of_getElem? (i := 57) rfl))) Via.refl e0 (S_S.ext O0.2) (g := (mkF m 22 #[.val (.int x0_4)] [])) rfl (hb hby d4_22)
        refine own_step (fun t k => st6 _ k) ?_
        show own_Ends p.tables e below s _ _ _ (T6.setTop (mkF m 25 #[.val (.int x0_4)] [(.ref w_S)]))
        exact own_retR X6 hx Bd.returns rfl rfl rfl (hb hby d4_25) hnl (by rw [e6]; exact ⟨(congrArg (fun z => some (Value.ref z)) (Eq.symm (show (own_r4 x0_4 w_N w_E w_S w_W) = w_S from by unfold own_r4; rw [if_neg hc1_1, if_neg hc10_3, if_pos hc19_5]))), N0, rfl⟩) (by decide) (by decide)
      · skip
        refine own_step (fun t k => XS.icmpYes X0.here hx rfl (pc0 := 19) (pc' := 26) rfl (hb hby d4_19) rfl (feq hc19_5).2 (by decide) (by decide) k) ?_
        show own_Ends p.tables e below s _ _ _ (s₁.setTop (mkF m 26 #[.val (.int x0_4)] []))
        obtain ⟨T7, X7, e7, st7⟩ := getS2 X0 hx hZ hown (host := "") (Or.inl (hw _ (List.mem_of_getElem? (i := 25) rfl))) Via.refl e0 (S_W.ext O0.2) (g := (mkF m 26 #[.val (.int x0_4)] [])) rfl (hb hby d4_26)
        refine own_step (fun t k => st7 _ k) ?_
        show own_Ends p.tables e below s _ _ _ (T7.setTop (mkF m 29 #[.val (.int x0_4)] [(.ref w_W)]))
        exact own_retR X7 hx Bd.returns rfl rfl rfl (hb hby d4_29) hnl (by rw [e7]; exact ⟨(congrArg (fun z => some (Value.ref z)) (Eq.symm (show (own_r4 x0_4 w_N w_E w_S w_W) = w_W from by unfold own_r4; rw [if_neg hc1_1, if_neg hc10_3, if_neg hc19_5]))), N0, rfl⟩) (by decide) (by decide)
theorem d5_0 : decode prog_32_method_1_code 0 = .ok (.aload_n 0, 1) := by decide +kernel
theorem d5_1 : decode prog_32_method_1_code 1 = .ok (.invokespecial 1, 3) := by decide +kernel
theorem d5_4 : decode prog_32_method_1_code 4 = .ok (.aload_n 0, 1) := by decide +kernel
theorem d5_5 : decode prog_32_method_1_code 5 = .ok (.aload_n 1, 1) := by decide +kernel
theorem d5_6 : decode prog_32_method_1_code 6 = .ok (.putfield 7, 3) := by decide +kernel
theorem d5_9 : decode prog_32_method_1_code 9 = .ok (.aload_n 0, 1) := by decide +kernel
theorem d5_10 : decode prog_32_method_1_code 10 = .ok (.aload_n 2, 1) := by decide +kernel
theorem d5_11 : decode prog_32_method_1_code 11 = .ok (.putfield 13, 3) := by decide +kernel
theorem d5_14 : decode prog_32_method_1_code 14 = .ok (.return_, 1) := by decide +kernel
theorem pn_3 : plainName "com/example/swanhall/swanhall/core/Edge" = true := by first | (simp [plainName, overriddenIn]; done) | decide +kernel
theorem ef_5 (m : MethodId) (o0_5 : Addr) (o1_5 : Addr) (o2_5 : Addr) : entryFrame m #[(.ref o0_5), (.ref o1_5), (.ref o2_5)] 3 = mkF m 0 #[.val (.ref o0_5), .val (.ref o1_5), .val (.ref o2_5)] [] := by first | (simp [entryFrame, mkF, argsToLocals, Value.category]; done) | rfl
def Q5 (Z : State) (o0_5 : Addr) (o1_5 : Addr) (o2_5 : Addr) (u_cell_o0_5 : Value) (u_side_o0_5 : Value) (h0 : Heap) (n0 : Nat) (v : Option Value) (h : Heap) (L : List Loc) : Prop := v = none ∧ Fr n0 L ∧ Keep h0 h [o0_5] ∧ Exa Z h o0_5 "com/example/swanhall/swanhall/core/Edge" ∧ Fld Z h o0_5 "com/example/swanhall/swanhall/core/Edge" "cell" "Lcom/example/swanhall/swanhall/core/Cell;" (.ref o1_5) ∧ Fld Z h o0_5 "com/example/swanhall/swanhall/core/Edge" "side" "Lcom/example/swanhall/swanhall/core/Side;" (.ref o2_5)
set_option maxRecDepth 65536 in
set_option maxHeartbeats 40000000 in
theorem rm5 (l : Launch) (Z : State) (a0 : Array Value) (hw : ∀ d ∈ tables_1, d.before a0 Z = true) (ws : List Jvm.Cond) (o0_5 : Addr) (o1_5 : Addr) (o2_5 : Addr) (u_cell_o0_5 : Value) (u_side_o0_5 : Value) (h0 : Heap) (n0 : Nat) (O0 : Old Z n0 h0) (E_o0_5 : Exa Z h0 o0_5 "com/example/swanhall/swanhall/core/Edge") (F_cell_o0_5 : Fld Z h0 o0_5 "com/example/swanhall/swanhall/core/Edge" "cell" "Lcom/example/swanhall/swanhall/core/Cell;" u_cell_o0_5) (g_o0_5 : n0 ≤ o0_5) (F_side_o0_5 : Fld Z h0 o0_5 "com/example/swanhall/swanhall/core/Edge" "side" "Lcom/example/swanhall/swanhall/core/Side;" u_side_o0_5) :
    MetFree l (⟨"com/example/swanhall/swanhall/core/Edge", "<init>", "(Lcom/example/swanhall/swanhall/core/Cell;Lcom/example/swanhall/swanhall/core/Side;)V"⟩ : MethodName) (head1 (Jvm.Cond.code (⟨"com/example/swanhall/swanhall/core/Edge", "<init>", "(Lcom/example/swanhall/swanhall/core/Cell;Lcom/example/swanhall/swanhall/core/Side;)V"⟩ : MethodName) prog_32_method_1_code 3 none :: ws) ({ frames := 2, cells := 0, slots := 0, locals := 24 } : Room)) (fun a U => a = #[(.ref o0_5), (.ref o1_5), (.ref o2_5)] ∧ Z.Warmed39 U.vm ∧ U.heap = h0) (fun _ _ _ _ _ => True) (fun _ U o U' => ∃ v L, o = .returned v ∧ Q5 Z o0_5 o1_5 o2_5 u_cell_o0_5 u_side_o0_5 h0 n0 v U'.heap L ∧ FrameEnd U o U' L ({ frames := 2, cells := 0, slots := 0, locals := 24 } : Room).cells ({ frames := 2, cells := 0, slots := 0, locals := 24 } : Room).slots) := by
  refine MetFree.of_bodySF (plainFor_of_name pn_3) hisR ?_
  intro p e s m args below meth c s₁ Bd hml0 hP hK
  obtain ⟨rfl, hZ, hh⟩ := hP
  have hx := Bd.exec
  have hby := Bd.bytes
  have hnl := BodyLoose.notSynchronized Bd
  have hml : c.maxLocals = 3 := hml0
  have hown : s.vm.findClass "com/example/swanhall/swanhall/core/Edge" = some m.cls := findClass_of_methodNamed Bd.named
  have hnm := (name_of_methodNamed Bd.named Bd.method).1
  have X0 : Stand p l e ({ frames := 2, cells := 0, slots := 0, locals := 24 } : Room) s m #[(.ref o0_5), (.ref o1_5), (.ref o2_5)] below meth c s₁ [] 0 0 := Stand.of_body Bd
  have e0 : s₁.heap = h0 := by rw [← hh, Bd.state]; rfl
  have N0 := Fr.nil n0
  show own_Ends p.tables e below s (Q5 Z o0_5 o1_5 o2_5 u_cell_o0_5 u_side_o0_5 h0 n0) 0 0 (s₁.setTop (entryFrame m #[(.ref o0_5), (.ref o1_5), (.ref o2_5)] 3))
  rw [ef_5 m o0_5 o1_5 o2_5]
  show own_Ends p.tables e below s _ _ _ (s₁.setTop (mkF m 0 #[.val (.ref o0_5), .val (.ref o1_5), .val (.ref o2_5)] []))
  refine own_step (fun t k => XS.aloadN X0.here hx rfl (hb hby d5_0) rfl rfl k) ?_
  show own_Ends p.tables e below s _ _ _ (s₁.setTop (mkF m 1 #[.val (.ref o0_5), .val (.ref o1_5), .val (.ref o2_5)] [(.ref o0_5)]))
  obtain ⟨_, _, ⟨T1, L1, k1, n1⟩, -, X1, ⟨Lc1, hQ1, l1, y1, z1⟩, st1⟩ := X0.specialBack hx (y := (⟨"java/lang/Record", "<init>", "()V"⟩ : MethodName)) rfl hown (mvT hZ (hw _ (List.mem_of_getElem? (i := 31) rfl))) (mvT hZ (hw _ (List.mem_of_getElem? (i := 7) rfl))) (mvT hZ (hw _ (List.mem_of_getElem? (i := 10) rfl))) (by decide) (backOf (W := 0) (rm2 l Z a0 hw [] o0_5 h0 n0 O0 ) hZ (hw _ (List.mem_of_getElem? (i := 10) rfl)) (hw _ (List.mem_of_getElem? (i := 9) rfl)) (by decide) (by decide)) (g := (mkF m 1 #[.val (.ref o0_5), .val (.ref o1_5), .val (.ref o2_5)] [(.ref o0_5)])) rfl (by rw [hml]; rfl) (Steps.refl _) (a := o0_5) (argsL := []) (rest := []) (lenOf pd_0 rfl) rfl (by show 2 * 0 + _ ≤ _; exact Nat.le_of_eq rfl) (hb hby d5_1) (fun _ _ => ⟨rfl, e0, (by decide : 0 + 0 ≤ _), (by decide : 0 + 0 ≤ _)⟩)
  dsimp only [Pt.U, Pt.locs, Pt.cells, Pt.slots] at X1 l1 y1 z1 st1 hQ1
  subst l1 y1 z1
  obtain ⟨rfl, N1q, e1⟩ := hQ1
  refine own_step (fun t k => st1.trans k) ?_
  have N2 := Fr.app N0 N1q
  show own_Ends p.tables e below s _ _ _ (T1.setTop (mkF m 4 #[.val (.ref o0_5), .val (.ref o1_5), .val (.ref o2_5)] []))
  refine own_step (fun t k => XS.aloadN X1.here hx rfl (hb hby d5_4) rfl rfl k) ?_
  show own_Ends p.tables e below s _ _ _ (T1.setTop (mkF m 5 #[.val (.ref o0_5), .val (.ref o1_5), .val (.ref o2_5)] [(.ref o0_5)]))
  refine own_step (fun t k => XS.aloadN X1.here hx rfl (hb hby d5_5) rfl rfl k) ?_
  show own_Ends p.tables e below s _ _ _ (T1.setTop (mkF m 6 #[.val (.ref o0_5), .val (.ref o1_5), .val (.ref o2_5)] [(.ref o1_5), (.ref o0_5)]))
  obtain ⟨T3, h3, X3, e3, W3, st3⟩ := putF X1 hx hZ hown (host := "") (Or.inl (hw _ (List.mem_of_getElem? (i := 32) rfl))) Via.refl e1 F_cell_o0_5 E_o0_5 (Or.inr ⟨(hw _ (List.mem_of_getElem? (i := 33) rfl)), rfl, hnm⟩) (hw _ (List.mem_of_getElem? (i := 19) rfl)) (ty := (.object "com/example/swanhall/swanhall/core/Cell")) (by decide) rfl rfl (g := (mkF m 6 #[.val (.ref o0_5), .val (.ref o1_5), .val (.ref o2_5)] [(.ref o1_5), (.ref o0_5)])) rfl rfl (hb hby d5_6)
  refine own_step (fun t k => st3 _ k) ?_
  have F4 : Fld Z h3 o0_5 "com/example/swanhall/swanhall/core/Edge" "cell" "Lcom/example/swanhall/swanhall/core/Cell;" (.ref o1_5) := F_cell_o0_5.same W3
  have K5 : Keep h0 h3 [o0_5] := (Keep.refl h0 [o0_5]).wr W3 (Or.inl (List.mem_of_getElem? (i := 0) rfl))
  have N6 := Fr.snoc X3 N2 g_o0_5
  show own_Ends p.tables e below s _ _ _ (T3.setTop (mkF m 9 #[.val (.ref o0_5), .val (.ref o1_5), .val (.ref o2_5)] []))
  refine own_step (fun t k => XS.aloadN X3.here hx rfl (hb hby d5_9) rfl rfl k) ?_
  show own_Ends p.tables e below s _ _ _ (T3.setTop (mkF m 10 #[.val (.ref o0_5), .val (.ref o1_5), .val (.ref o2_5)] [(.ref o0_5)]))
  refine own_step (fun t k => XS.aloadN X3.here hx rfl (hb hby d5_10) rfl rfl k) ?_
  show own_Ends p.tables e below s _ _ _ (T3.setTop (mkF m 11 #[.val (.ref o0_5), .val (.ref o1_5), .val (.ref o2_5)] [(.ref o2_5), (.ref o0_5)]))
  have F7 : Exa Z h3 o0_5 "com/example/swanhall/swanhall/core/Edge" := (E_o0_5.wr W3)
  have F8 : Fld Z h3 o0_5 "com/example/swanhall/swanhall/core/Edge" "side" "Lcom/example/swanhall/swanhall/core/Side;" u_side_o0_5 := (F_side_o0_5.other W3 (Or.inr (slot_ne (Or.inr (hw _ (List.mem_of_getElem? (i := 35) rfl))) (Or.inr (hw _ (List.mem_of_getElem? (i := 33) rfl))) (by decide) (t := (.object "com/example/swanhall/swanhall/core/Side")) (t' := (.object "com/example/swanhall/swanhall/core/Cell")) (by decide) (by decide))))
  obtain ⟨T9, h9, X9, e9, W9, st9⟩ := putF X3 hx hZ hown (host := "") (Or.inl (hw _ (List.mem_of_getElem? (i := 34) rfl))) Via.refl e3 F8 F7 (Or.inr ⟨(hw _ (List.mem_of_getElem? (i := 35) rfl)), rfl, hnm⟩) (hw _ (List.mem_of_getElem? (i := 19) rfl)) (ty := (.object "com/example/swanhall/swanhall/core/Side")) (by decide) rfl rfl (g := (mkF m 11 #[.val (.ref o0_5), .val (.ref o1_5), .val (.ref o2_5)] [(.ref o2_5), (.ref o0_5)])) rfl rfl (hb hby d5_11)
  refine own_step (fun t k => st9 _ k) ?_
  have F10 : Fld Z h9 o0_5 "com/example/swanhall/swanhall/core/Edge" "side" "Lcom/example/swanhall/swanhall/core/Side;" (.ref o2_5) := F8.same W9
  have K11 : Keep h0 h9 [o0_5] := K5.wr W9 (Or.inl (List.mem_of_getElem? (i := 0) rfl))
  have N12 := Fr.snoc X9 N6 g_o0_5
  show own_Ends p.tables e below s _ _ _ (T9.setTop (mkF m 14 #[.val (.ref o0_5), .val (.ref o1_5), .val (.ref o2_5)] []))
  have F13 : Exa Z h9 o0_5 "com/example/swanhall/swanhall/core/Edge" := (F7.wr W9)
  have F14 : Fld Z h9 o0_5 "com/example/swanhall/swanhall/core/Edge" "cell" "Lcom/example/swanhall/swanhall/core/Cell;" (.ref o1_5) := (F4.other W9 (Or.inr (slot_ne (Or.inr (hw _ (List.mem_of_getElem? (i := 33) rfl))) (Or.inr (hw _ (List.mem_of_getElem? (i := 35) rfl))) (by decide) (t := (.object "com/example/swanhall/swanhall/core/Cell")) (t' := (.object "com/example/swanhall/swanhall/core/Side")) (by decide) (by decide))))
  exact own_ret0 X9 hx Bd.returns (hb hby d5_14) hnl (by rw [e9]; exact ⟨rfl, N12, K11, F13, F14, F10⟩) (by decide) (by decide)
def own_r7 (w_x_o1_7 : Int64) (w_x_o0_7 : Int64) (w_y_o1_7 : Int64) (w_y_o0_7 : Int64) : Int32 := (if (lcmpW w_x_o1_7 w_x_o0_7) = (0 : Int32) then (if (lcmpW w_y_o1_7 w_y_o0_7) = (0 : Int32) then (1 : Int32) else (0 : Int32)) else (0 : Int32))
theorem d7_0 : decode prog_29_method_5_code 0 = .ok (.aload_n 1, 1) := by decide +kernel
theorem d7_1 : decode prog_29_method_5_code 1 = .ok (.instanceof 8, 3) := by decide +kernel
theorem d7_4 : decode prog_29_method_5_code 4 = .ok (.ifCond .eq 36, 3) := by decide +kernel
theorem d7_7 : decode prog_29_method_5_code 7 = .ok (.aload_n 1, 1) := by decide +kernel
theorem d7_8 : decode prog_29_method_5_code 8 = .ok (.checkcast 8, 3) := by decide +kernel
theorem d7_11 : decode prog_29_method_5_code 11 = .ok (.astore_n 2, 1) := by decide +kernel
theorem d7_12 : decode prog_29_method_5_code 12 = .ok (.aload_n 2, 1) := by decide +kernel
theorem d7_13 : decode prog_29_method_5_code 13 = .ok (.getfield 7, 3) := by decide +kernel
theorem d7_16 : decode prog_29_method_5_code 16 = .ok (.aload_n 0, 1) := by decide +kernel
theorem d7_17 : decode prog_29_method_5_code 17 = .ok (.getfield 7, 3) := by decide +kernel
theorem d7_20 : decode prog_29_method_5_code 20 = .ok (.lcmp, 1) := by decide +kernel
theorem d7_21 : decode prog_29_method_5_code 21 = .ok (.ifCond .ne 19, 3) := by decide +kernel
theorem d7_24 : decode prog_29_method_5_code 24 = .ok (.aload_n 2, 1) := by decide +kernel
theorem d7_25 : decode prog_29_method_5_code 25 = .ok (.getfield 13, 3) := by decide +kernel
theorem d7_28 : decode prog_29_method_5_code 28 = .ok (.aload_n 0, 1) := by decide +kernel
theorem d7_29 : decode prog_29_method_5_code 29 = .ok (.getfield 13, 3) := by decide +kernel
theorem d7_32 : decode prog_29_method_5_code 32 = .ok (.lcmp, 1) := by decide +kernel
theorem d7_33 : decode prog_29_method_5_code 33 = .ok (.ifCond .ne 7, 3) := by decide +kernel
theorem d7_36 : decode prog_29_method_5_code 36 = .ok (.iconst 1, 1) := by decide +kernel
theorem d7_37 : decode prog_29_method_5_code 37 = .ok (.goto 4, 3) := by decide +kernel
theorem d7_40 : decode prog_29_method_5_code 40 = .ok (.iconst 0, 1) := by decide +kernel
theorem d7_41 : decode prog_29_method_5_code 41 = .ok (.ireturn, 1) := by decide +kernel
theorem ef_7 (m : MethodId) (o0_7 : Addr) (o1_7 : Addr) : entryFrame m #[(.ref o0_7), (.ref o1_7)] 3 = mkF m 0 #[.val (.ref o0_7), .val (.ref o1_7), .unset] [] := by first | (simp [entryFrame, mkF, argsToLocals, Value.category]; done) | rfl
def Q7 (Z : State) (o0_7 : Addr) (o1_7 : Addr) (w_x_o1_7 : Int64) (w_x_o0_7 : Int64) (w_y_o1_7 : Int64) (w_y_o0_7 : Int64) (h0 : Heap) (n0 : Nat) (v : Option Value) (h : Heap) (L : List Loc) : Prop := v = some (.int (own_r7 w_x_o1_7 w_x_o0_7 w_y_o1_7 w_y_o0_7)) ∧ Fr n0 L ∧ h = h0
set_option maxRecDepth 65536 in
set_option maxHeartbeats 40000000 in
theorem rm7 (l : Launch) (Z : State) (a0 : Array Value) (hw : ∀ d ∈ tables_1, d.before a0 Z = true) (ws : List Jvm.Cond) (o0_7 : Addr) (o1_7 : Addr) (w_x_o1_7 : Int64) (w_x_o0_7 : Int64) (w_y_o1_7 : Int64) (w_y_o0_7 : Int64) (h0 : Heap) (n0 : Nat) (O0 : Old Z n0 h0) (E_o1_7 : Exa Z h0 o1_7 "com/example/swanhall/swanhall/core/Cell") (F_x_o1_7 : Fld Z h0 o1_7 "com/example/swanhall/swanhall/core/Cell" "x" "J" (.long w_x_o1_7)) (F_x_o0_7 : Fld Z h0 o0_7 "com/example/swanhall/swanhall/core/Cell" "x" "J" (.long w_x_o0_7)) (F_y_o1_7 : Fld Z h0 o1_7 "com/example/swanhall/swanhall/core/Cell" "y" "J" (.long w_y_o1_7)) (F_y_o0_7 : Fld Z h0 o0_7 "com/example/swanhall/swanhall/core/Cell" "y" "J" (.long w_y_o0_7)) :
    MetFree l (⟨"com/example/swanhall/swanhall/core/Cell", "equals", "(Ljava/lang/Object;)Z"⟩ : MethodName) (head1 (Jvm.Cond.code (⟨"com/example/swanhall/swanhall/core/Cell", "equals", "(Ljava/lang/Object;)Z"⟩ : MethodName) prog_29_method_5_code 3 (some .boolean) :: ws) ({ frames := 0, cells := 0, slots := 0, locals := 0 } : Room)) (fun a U => a = #[(.ref o0_7), (.ref o1_7)] ∧ Z.Warmed39 U.vm ∧ U.heap = h0) (fun _ _ _ _ _ => True) (fun _ U o U' => ∃ v L, o = .returned v ∧ Q7 Z o0_7 o1_7 w_x_o1_7 w_x_o0_7 w_y_o1_7 w_y_o0_7 h0 n0 v U'.heap L ∧ FrameEnd U o U' L ({ frames := 0, cells := 0, slots := 0, locals := 0 } : Room).cells ({ frames := 0, cells := 0, slots := 0, locals := 0 } : Room).slots) := by
  refine MetFree.of_bodySF (plainFor_of_name pn_1) hisR ?_
  intro p e s m args below meth c s₁ Bd hml0 hP hK
  obtain ⟨rfl, hZ, hh⟩ := hP
  have hx := Bd.exec
  have hby := Bd.bytes
  have hnl := BodyLoose.notSynchronized Bd
  have hml : c.maxLocals = 3 := hml0
  have hown : s.vm.findClass "com/example/swanhall/swanhall/core/Cell" = some m.cls := findClass_of_methodNamed Bd.named
  have hnm := (name_of_methodNamed Bd.named Bd.method).1
  have X0 : Stand p l e ({ frames := 0, cells := 0, slots := 0, locals := 0 } : Room) s m #[(.ref o0_7), (.ref o1_7)] below meth c s₁ [] 0 0 := Stand.of_body Bd
  have e0 : s₁.heap = h0 := by rw [← hh, Bd.state]; rfl
  have N0 := Fr.nil n0
  show own_Ends p.tables e below s (Q7 Z o0_7 o1_7 w_x_o1_7 w_x_o0_7 w_y_o1_7 w_y_o0_7 h0 n0) 0 0 (s₁.setTop (entryFrame m #[(.ref o0_7), (.ref o1_7)] 3))
  rw [ef_7 m o0_7 o1_7]
  show own_Ends p.tables e below s _ _ _ (s₁.setTop (mkF m 0 #[.val (.ref o0_7), .val (.ref o1_7), .unset] []))
  refine own_step (fun t k => XS.aloadN X0.here hx rfl (hb hby d7_0) rfl rfl k) ?_
  show own_Ends p.tables e below s _ _ _ (s₁.setTop (mkF m 1 #[.val (.ref o0_7), .val (.ref o1_7), .unset] [(.ref o1_7)]))
  obtain ⟨T1, X1, e1, st1⟩ := instY X0 hx hZ hown (hw _ (List.mem_of_getElem? (i := 50) rfl)) e0 (Ins.self E_o1_7) (g := (mkF m 1 #[.val (.ref o0_7), .val (.ref o1_7), .unset] [(.ref o1_7)])) rfl rfl (hb hby d7_1)
  refine own_step (fun t k => st1 _ k) ?_
  show own_Ends p.tables e below s _ _ _ (T1.setTop (mkF m 4 #[.val (.ref o0_7), .val (.ref o1_7), .unset] [(.int (1 : Int32))]))
  refine own_step (fun t k => XS.ifNo X1.here hx rfl (hb hby d7_4) rfl ((if0 _ _).trans (feq (by decide : ¬ ((1 : Int32) = (0 : Int32)))).1) k) ?_
  show own_Ends p.tables e below s _ _ _ (T1.setTop (mkF m 7 #[.val (.ref o0_7), .val (.ref o1_7), .unset] []))
  refine own_step (fun t k => XS.aloadN X1.here hx rfl (hb hby d7_7) rfl rfl k) ?_
  show own_Ends p.tables e below s _ _ _ (T1.setTop (mkF m 8 #[.val (.ref o0_7), .val (.ref o1_7), .unset] [(.ref o1_7)]))
  obtain ⟨T2, X2, e2, st2⟩ := castY X1 hx hZ hown (hw _ (List.mem_of_getElem? (i := 50) rfl)) e1 (Ins.self E_o1_7) (g := (mkF m 8 #[.val (.ref o0_7), .val (.ref o1_7), .unset] [(.ref o1_7)])) rfl rfl (hb hby d7_8)
  refine own_step (fun t k => st2 _ k) ?_
  show own_Ends p.tables e below s _ _ _ (T2.setTop (mkF m 11 #[.val (.ref o0_7), .val (.ref o1_7), .unset] [(.ref o1_7)]))
  refine own_step (fun t k => XS.astoreN X2.here hx rfl (hb hby d7_11) rfl rfl (l' := #[.val (.ref o0_7), .val (.ref o1_7), .val (.ref o1_7)]) rfl k) ?_
  show own_Ends p.tables e below s _ _ _ (T2.setTop (mkF m 12 #[.val (.ref o0_7), .val (.ref o1_7), .val (.ref o1_7)] []))
  refine own_step (fun t k => XS.aloadN X2.here hx rfl (hb hby d7_12) rfl rfl k) ?_
  show own_Ends p.tables e below s _ _ _ (T2.setTop (mkF m 13 #[.val (.ref o0_7), .val (.ref o1_7), .val (.ref o1_7)] [(.ref o1_7)]))
  obtain ⟨T3, X3, e3, st3⟩ := getF X2 hx hZ hown (host := "") (Or.inl (hw _ (List.mem_of_getElem? (i := 14) rfl))) Via.refl e2 F_x_o1_7 (g := (mkF m 13 #[.val (.ref o0_7), .val (.ref o1_7), .val (.ref o1_7)] [(.ref o1_7)])) rfl rfl (hb hby d7_13)
  refine own_step (fun t k => st3 _ k) ?_
  show own_Ends p.tables e below s _ _ _ (T3.setTop (mkF m 16 #[.val (.ref o0_7), .val (.ref o1_7), .val (.ref o1_7)] [(.long w_x_o1_7)]))
  refine own_step (fun t k => XS.aloadN X3.here hx rfl (hb hby d7_16) rfl rfl k) ?_
  show own_Ends p.tables e below s _ _ _ (T3.setTop (mkF m 17 #[.val (.ref o0_7), .val (.ref o1_7), .val (.ref o1_7)] [(.ref o0_7), (.long w_x_o1_7)]))
  obtain ⟨T4, X4, e4, st4⟩ := getF X3 hx hZ hown (host := "") (Or.inl (hw _ (List.mem_of_getElem? (i := 14) rfl))) Via.refl e3 F_x_o0_7 (g := (mkF m 17 #[.val (.ref o0_7), .val (.ref o1_7), .val (.ref o1_7)] [(.ref o0_7), (.long w_x_o1_7)])) rfl rfl (hb hby d7_17)
  refine own_step (fun t k => st4 _ k) ?_
  show own_Ends p.tables e below s _ _ _ (T4.setTop (mkF m 20 #[.val (.ref o0_7), .val (.ref o1_7), .val (.ref o1_7)] [(.long w_x_o0_7), (.long w_x_o1_7)]))
  refine own_step (fun t k => XS.lcmp X4.here hx rfl (hb hby d7_20) rfl k) ?_
  show own_Ends p.tables e below s _ _ _ (T4.setTop (mkF m 21 #[.val (.ref o0_7), .val (.ref o1_7), .val (.ref o1_7)] [(.int (lcmpW w_x_o1_7 w_x_o0_7))]))
  by_cases hc21_5 : (lcmpW w_x_o1_7 w_x_o0_7) = (0 : Int32)
  · skip
    refine own_step (fun t k => XS.ifNo X4.here hx rfl (hb hby d7_21) rfl ((if0 _ _).trans (teq hc21_5).2) k) ?_
    show own_Ends p.tables e below s _ _ _ (T4.setTop (mkF m 24 #[.val (.ref o0_7), .val (.ref o1_7), .val (.ref o1_7)] []))
    refine own_step (fun t k => XS.aloadN X4.here hx rfl (hb hby d7_24) rfl rfl k) ?_
    show own_Ends p.tables e below s _ _ _ (T4.setTop (mkF m 25 #[.val (.ref o0_7), .val (.ref o1_7), .val (.ref o1_7)] [(.ref o1_7)]))
    obtain ⟨T6, X6, e6, st6⟩ := getF X4 hx hZ hown (host := "") (Or.inl (hw _ (List.mem_of_getElem? (i := 16) rfl))) Via.refl e4 F_y_o1_7 (g := (mkF m 25 #[.val (.ref o0_7), .val (.ref o1_7), .val (.ref o1_7)] [(.ref o1_7)])) rfl rfl (hb hby d7_25)
    refine own_step (fun t k => st6 _ k) ?_
    show own_Ends p.tables e below s _ _ _ (T6.setTop (mkF m 28 #[.val (.ref o0_7), .val (.ref o1_7), .val (.ref o1_7)] [(.long w_y_o1_7)]))
    refine own_step (fun t k => XS.aloadN X6.here hx rfl (hb hby d7_28) rfl rfl k) ?_
    show own_Ends p.tables e below s _ _ _ (T6.setTop (mkF m 29 #[.val (.ref o0_7), .val (.ref o1_7), .val (.ref o1_7)] [(.ref o0_7), (.long w_y_o1_7)]))
    obtain ⟨T7, X7, e7, st7⟩ := getF X6 hx hZ hown (host := "") (Or.inl (hw _ (List.mem_of_getElem? (i := 16) rfl))) Via.refl e6 F_y_o0_7 (g := (mkF m 29 #[.val (.ref o0_7), .val (.ref o1_7), .val (.ref o1_7)] [(.ref o0_7), (.long w_y_o1_7)])) rfl rfl (hb hby d7_29)
    refine own_step (fun t k => st7 _ k) ?_
    show own_Ends p.tables e below s _ _ _ (T7.setTop (mkF m 32 #[.val (.ref o0_7), .val (.ref o1_7), .val (.ref o1_7)] [(.long w_y_o0_7), (.long w_y_o1_7)]))
    refine own_step (fun t k => XS.lcmp X7.here hx rfl (hb hby d7_32) rfl k) ?_
    show own_Ends p.tables e below s _ _ _ (T7.setTop (mkF m 33 #[.val (.ref o0_7), .val (.ref o1_7), .val (.ref o1_7)] [(.int (lcmpW w_y_o1_7 w_y_o0_7))]))
    by_cases hc33_8 : (lcmpW w_y_o1_7 w_y_o0_7) = (0 : Int32)
    · skip
      refine own_step (fun t k => XS.ifNo X7.here hx rfl (hb hby d7_33) rfl ((if0 _ _).trans (teq hc33_8).2) k) ?_
      show own_Ends p.tables e below s _ _ _ (T7.setTop (mkF m 36 #[.val (.ref o0_7), .val (.ref o1_7), .val (.ref o1_7)] []))
      refine own_step (fun t k => XS.iconst X7.here hx rfl (hb hby d7_36) k) ?_
      show own_Ends p.tables e below s _ _ _ (T7.setTop (mkF m 37 #[.val (.ref o0_7), .val (.ref o1_7), .val (.ref o1_7)] [(.int (1 : Int32))]))
      refine own_step (fun t k => XS.goto X7.here hx rfl (pc0 := 37) (pc' := 41) rfl (hb hby d7_37) (by decide) (by decide) k) ?_
      show own_Ends p.tables e below s _ _ _ (T7.setTop (mkF m 41 #[.val (.ref o0_7), .val (.ref o1_7), .val (.ref o1_7)] [(.int (1 : Int32))]))
      exact own_retN X7 hx (t := .boolean) Bd.returns (by simp) (hb hby d7_41) hnl (by rw [e7]; exact ⟨(congrArg (fun z => some (Value.int z)) (Eq.symm (show (own_r7 w_x_o1_7 w_x_o0_7 w_y_o1_7 w_y_o0_7) = (1 : Int32) from by unfold own_r7; rw [if_pos hc21_5, if_pos hc33_8]))), N0, rfl⟩) (by decide) (by decide)
    · skip
      refine own_step (fun t k => XS.ifYes X7.here hx rfl (pc0 := 33) (pc' := 40) rfl (hb hby d7_33) rfl ((if0 _ _).trans (feq hc33_8).2) (by decide) (by decide) k) ?_
      show own_Ends p.tables e below s _ _ _ (T7.setTop (mkF m 40 #[.val (.ref o0_7), .val (.ref o1_7), .val (.ref o1_7)] []))
      refine own_step (fun t k => XS.iconst X7.here hx rfl (hb hby d7_40) k) ?_
      show own_Ends p.tables e below s _ _ _ (T7.setTop (mkF m 41 #[.val (.ref o0_7), .val (.ref o1_7), .val (.ref o1_7)] [(.int (0 : Int32))]))
      exact own_retN X7 hx (t := .boolean) Bd.returns (by simp) (hb hby d7_41) hnl (by rw [e7]; exact ⟨(congrArg (fun z => some (Value.int z)) (Eq.symm (show (own_r7 w_x_o1_7 w_x_o0_7 w_y_o1_7 w_y_o0_7) = (0 : Int32) from by unfold own_r7; rw [if_pos hc21_5, if_neg hc33_8]))), N0, rfl⟩) (by decide) (by decide)
  · skip
    refine own_step (fun t k => XS.ifYes X4.here hx rfl (pc0 := 21) (pc' := 40) rfl (hb hby d7_21) rfl ((if0 _ _).trans (feq hc21_5).2) (by decide) (by decide) k) ?_
    show own_Ends p.tables e below s _ _ _ (T4.setTop (mkF m 40 #[.val (.ref o0_7), .val (.ref o1_7), .val (.ref o1_7)] []))
    refine own_step (fun t k => XS.iconst X4.here hx rfl (hb hby d7_40) k) ?_
    show own_Ends p.tables e below s _ _ _ (T4.setTop (mkF m 41 #[.val (.ref o0_7), .val (.ref o1_7), .val (.ref o1_7)] [(.int (0 : Int32))]))
    exact own_retN X4 hx (t := .boolean) Bd.returns (by simp) (hb hby d7_41) hnl (by rw [e4]; exact ⟨(congrArg (fun z => some (Value.int z)) (Eq.symm (show (own_r7 w_x_o1_7 w_x_o0_7 w_y_o1_7 w_y_o0_7) = (0 : Int32) from by unfold own_r7; rw [if_neg hc21_5]))), N0, rfl⟩) (by decide) (by decide)
theorem pd_1 : parseMethodDescriptor "(Ljava/lang/Object;)Z" = some ⟨[(.object "java/lang/Object")], some .boolean⟩ := by decide +kernel
def own_r6 (w_side_o1_6 : Addr) (w_side_o0_6 : Addr) (w_x_w_cell_o0_6 : Int64) (w_x_w_cell_o1_6 : Int64) (w_y_w_cell_o0_6 : Int64) (w_y_w_cell_o1_6 : Int64) : Int32 := (if w_side_o1_6 = w_side_o0_6 then (if (own_r7 w_x_w_cell_o0_6 w_x_w_cell_o1_6 w_y_w_cell_o0_6 w_y_w_cell_o1_6) = (0 : Int32) then (0 : Int32) else (1 : Int32)) else (0 : Int32))
theorem d6_0 : decode prog_32_method_3_code 0 = .ok (.aload_n 1, 1) := by decide +kernel
theorem d6_1 : decode prog_32_method_3_code 1 = .ok (.instanceof 8, 3) := by decide +kernel
theorem d6_4 : decode prog_32_method_3_code 4 = .ok (.ifCond .eq 37, 3) := by decide +kernel
theorem d6_7 : decode prog_32_method_3_code 7 = .ok (.aload_n 1, 1) := by decide +kernel
theorem d6_8 : decode prog_32_method_3_code 8 = .ok (.checkcast 8, 3) := by decide +kernel
theorem d6_11 : decode prog_32_method_3_code 11 = .ok (.astore_n 2, 1) := by decide +kernel
theorem d6_12 : decode prog_32_method_3_code 12 = .ok (.aload_n 2, 1) := by decide +kernel
theorem d6_13 : decode prog_32_method_3_code 13 = .ok (.getfield 13, 3) := by decide +kernel
theorem d6_16 : decode prog_32_method_3_code 16 = .ok (.aload_n 0, 1) := by decide +kernel
theorem d6_17 : decode prog_32_method_3_code 17 = .ok (.getfield 13, 3) := by decide +kernel
theorem d6_20 : decode prog_32_method_3_code 20 = .ok (.if_acmp .ne 21, 3) := by decide +kernel
theorem d6_23 : decode prog_32_method_3_code 23 = .ok (.aload_n 2, 1) := by decide +kernel
theorem d6_24 : decode prog_32_method_3_code 24 = .ok (.getfield 7, 3) := by decide +kernel
theorem d6_27 : decode prog_32_method_3_code 27 = .ok (.aload_n 0, 1) := by decide +kernel
theorem d6_28 : decode prog_32_method_3_code 28 = .ok (.getfield 7, 3) := by decide +kernel
theorem d6_31 : decode prog_32_method_3_code 31 = .ok (.invokevirtual 32, 3) := by decide +kernel
theorem d6_34 : decode prog_32_method_3_code 34 = .ok (.ifCond .eq 7, 3) := by decide +kernel
theorem d6_37 : decode prog_32_method_3_code 37 = .ok (.iconst 1, 1) := by decide +kernel
theorem d6_38 : decode prog_32_method_3_code 38 = .ok (.goto 4, 3) := by decide +kernel
theorem d6_41 : decode prog_32_method_3_code 41 = .ok (.iconst 0, 1) := by decide +kernel
theorem d6_42 : decode prog_32_method_3_code 42 = .ok (.ireturn, 1) := by decide +kernel
theorem ef_6 (m : MethodId) (o0_6 : Addr) (o1_6 : Addr) : entryFrame m #[(.ref o0_6), (.ref o1_6)] 3 = mkF m 0 #[.val (.ref o0_6), .val (.ref o1_6), .unset] [] := by first | (simp [entryFrame, mkF, argsToLocals, Value.category]; done) | rfl
def Q6 (Z : State) (o0_6 : Addr) (o1_6 : Addr) (w_side_o1_6 : Addr) (w_side_o0_6 : Addr) (w_cell_o1_6 : Addr) (w_cell_o0_6 : Addr) (w_x_w_cell_o0_6 : Int64) (w_x_w_cell_o1_6 : Int64) (w_y_w_cell_o0_6 : Int64) (w_y_w_cell_o1_6 : Int64) (h0 : Heap) (n0 : Nat) (v : Option Value) (h : Heap) (L : List Loc) : Prop := v = some (.int (own_r6 w_side_o1_6 w_side_o0_6 w_x_w_cell_o0_6 w_x_w_cell_o1_6 w_y_w_cell_o0_6 w_y_w_cell_o1_6)) ∧ Fr n0 L ∧ h = h0
set_option maxRecDepth 65536 in
set_option maxHeartbeats 40000000 in
theorem rm6 (l : Launch) (Z : State) (a0 : Array Value) (hw : ∀ d ∈ tables_1, d.before a0 Z = true) (ws : List Jvm.Cond) (o0_6 : Addr) (o1_6 : Addr) (w_side_o1_6 : Addr) (w_side_o0_6 : Addr) (w_cell_o1_6 : Addr) (w_cell_o0_6 : Addr) (w_x_w_cell_o0_6 : Int64) (w_x_w_cell_o1_6 : Int64) (w_y_w_cell_o0_6 : Int64) (w_y_w_cell_o1_6 : Int64) (h0 : Heap) (n0 : Nat) (O0 : Old Z n0 h0) (E_o1_6 : Exa Z h0 o1_6 "com/example/swanhall/swanhall/core/Edge") (F_side_o1_6 : Fld Z h0 o1_6 "com/example/swanhall/swanhall/core/Edge" "side" "Lcom/example/swanhall/swanhall/core/Side;" (.ref w_side_o1_6)) (F_side_o0_6 : Fld Z h0 o0_6 "com/example/swanhall/swanhall/core/Edge" "side" "Lcom/example/swanhall/swanhall/core/Side;" (.ref w_side_o0_6)) (F_cell_o1_6 : Fld Z h0 o1_6 "com/example/swanhall/swanhall/core/Edge" "cell" "Lcom/example/swanhall/swanhall/core/Cell;" (.ref w_cell_o1_6)) (F_cell_o0_6 : Fld Z h0 o0_6 "com/example/swanhall/swanhall/core/Edge" "cell" "Lcom/example/swanhall/swanhall/core/Cell;" (.ref w_cell_o0_6)) (E_w_cell_o0_6 : Exa Z h0 w_cell_o0_6 "com/example/swanhall/swanhall/core/Cell") (F_x_w_cell_o0_6 : Fld Z h0 w_cell_o0_6 "com/example/swanhall/swanhall/core/Cell" "x" "J" (.long w_x_w_cell_o0_6)) (F_x_w_cell_o1_6 : Fld Z h0 w_cell_o1_6 "com/example/swanhall/swanhall/core/Cell" "x" "J" (.long w_x_w_cell_o1_6)) (F_y_w_cell_o0_6 : Fld Z h0 w_cell_o0_6 "com/example/swanhall/swanhall/core/Cell" "y" "J" (.long w_y_w_cell_o0_6)) (F_y_w_cell_o1_6 : Fld Z h0 w_cell_o1_6 "com/example/swanhall/swanhall/core/Cell" "y" "J" (.long w_y_w_cell_o1_6)) (E_w_cell_o1_6 : Exa Z h0 w_cell_o1_6 "com/example/swanhall/swanhall/core/Cell") :
    MetFree l (⟨"com/example/swanhall/swanhall/core/Edge", "equals", "(Ljava/lang/Object;)Z"⟩ : MethodName) (head1 (Jvm.Cond.code (⟨"com/example/swanhall/swanhall/core/Edge", "equals", "(Ljava/lang/Object;)Z"⟩ : MethodName) prog_32_method_3_code 3 (some .boolean) :: ws) ({ frames := 1, cells := 0, slots := 0, locals := 14 } : Room)) (fun a U => a = #[(.ref o0_6), (.ref o1_6)] ∧ Z.Warmed39 U.vm ∧ U.heap = h0) (fun _ _ _ _ _ => True) (fun _ U o U' => ∃ v L, o = .returned v ∧ Q6 Z o0_6 o1_6 w_side_o1_6 w_side_o0_6 w_cell_o1_6 w_cell_o0_6 w_x_w_cell_o0_6 w_x_w_cell_o1_6 w_y_w_cell_o0_6 w_y_w_cell_o1_6 h0 n0 v U'.heap L ∧ FrameEnd U o U' L ({ frames := 1, cells := 0, slots := 0, locals := 14 } : Room).cells ({ frames := 1, cells := 0, slots := 0, locals := 14 } : Room).slots) := by
  refine MetFree.of_bodySF (plainFor_of_name pn_3) hisR ?_
  intro p e s m args below meth c s₁ Bd hml0 hP hK
  obtain ⟨rfl, hZ, hh⟩ := hP
  have hx := Bd.exec
  have hby := Bd.bytes
  have hnl := BodyLoose.notSynchronized Bd
  have hml : c.maxLocals = 3 := hml0
  have hown : s.vm.findClass "com/example/swanhall/swanhall/core/Edge" = some m.cls := findClass_of_methodNamed Bd.named
  have hnm := (name_of_methodNamed Bd.named Bd.method).1
  have X0 : Stand p l e ({ frames := 1, cells := 0, slots := 0, locals := 14 } : Room) s m #[(.ref o0_6), (.ref o1_6)] below meth c s₁ [] 0 0 := Stand.of_body Bd
  have e0 : s₁.heap = h0 := by rw [← hh, Bd.state]; rfl
  have N0 := Fr.nil n0
  show own_Ends p.tables e below s (Q6 Z o0_6 o1_6 w_side_o1_6 w_side_o0_6 w_cell_o1_6 w_cell_o0_6 w_x_w_cell_o0_6 w_x_w_cell_o1_6 w_y_w_cell_o0_6 w_y_w_cell_o1_6 h0 n0) 0 0 (s₁.setTop (entryFrame m #[(.ref o0_6), (.ref o1_6)] 3))
  rw [ef_6 m o0_6 o1_6]
  show own_Ends p.tables e below s _ _ _ (s₁.setTop (mkF m 0 #[.val (.ref o0_6), .val (.ref o1_6), .unset] []))
  refine own_step (fun t k => XS.aloadN X0.here hx rfl (hb hby d6_0) rfl rfl k) ?_
  show own_Ends p.tables e below s _ _ _ (s₁.setTop (mkF m 1 #[.val (.ref o0_6), .val (.ref o1_6), .unset] [(.ref o1_6)]))
  obtain ⟨T1, X1, e1, st1⟩ := instY X0 hx hZ hown (hw _ (List.mem_of_getElem? (i := 43) rfl)) e0 (Ins.self E_o1_6) (g := (mkF m 1 #[.val (.ref o0_6), .val (.ref o1_6), .unset] [(.ref o1_6)])) rfl rfl (hb hby d6_1)
  refine own_step (fun t k => st1 _ k) ?_
  show own_Ends p.tables e below s _ _ _ (T1.setTop (mkF m 4 #[.val (.ref o0_6), .val (.ref o1_6), .unset] [(.int (1 : Int32))]))
  refine own_step (fun t k => XS.ifNo X1.here hx rfl (hb hby d6_4) rfl ((if0 _ _).trans (feq (by decide : ¬ ((1 : Int32) = (0 : Int32)))).1) k) ?_
  show own_Ends p.tables e below s _ _ _ (T1.setTop (mkF m 7 #[.val (.ref o0_6), .val (.ref o1_6), .unset] []))
  refine own_step (fun t k => XS.aloadN X1.here hx rfl (hb hby d6_7) rfl rfl k) ?_
  show own_Ends p.tables e below s _ _ _ (T1.setTop (mkF m 8 #[.val (.ref o0_6), .val (.ref o1_6), .unset] [(.ref o1_6)]))
  obtain ⟨T2, X2, e2, st2⟩ := castY X1 hx hZ hown (hw _ (List.mem_of_getElem? (i := 43) rfl)) e1 (Ins.self E_o1_6) (g := (mkF m 8 #[.val (.ref o0_6), .val (.ref o1_6), .unset] [(.ref o1_6)])) rfl rfl (hb hby d6_8)
  refine own_step (fun t k => st2 _ k) ?_
  show own_Ends p.tables e below s _ _ _ (T2.setTop (mkF m 11 #[.val (.ref o0_6), .val (.ref o1_6), .unset] [(.ref o1_6)]))
  refine own_step (fun t k => XS.astoreN X2.here hx rfl (hb hby d6_11) rfl rfl (l' := #[.val (.ref o0_6), .val (.ref o1_6), .val (.ref o1_6)]) rfl k) ?_
  show own_Ends p.tables e below s _ _ _ (T2.setTop (mkF m 12 #[.val (.ref o0_6), .val (.ref o1_6), .val (.ref o1_6)] []))
  refine own_step (fun t k => XS.aloadN X2.here hx rfl (hb hby d6_12) rfl rfl k) ?_
  show own_Ends p.tables e below s _ _ _ (T2.setTop (mkF m 13 #[.val (.ref o0_6), .val (.ref o1_6), .val (.ref o1_6)] [(.ref o1_6)]))
  obtain ⟨T3, X3, e3, st3⟩ := getF X2 hx hZ hown (host := "") (Or.inl (hw _ (List.mem_of_getElem? (i := 34) rfl))) Via.refl e2 F_side_o1_6 (g := (mkF m 13 #[.val (.ref o0_6), .val (.ref o1_6), .val (.ref o1_6)] [(.ref o1_6)])) rfl rfl (hb hby d6_13)
  refine own_step (fun t k => st3 _ k) ?_
  show own_Ends p.tables e below s _ _ _ (T3.setTop (mkF m 16 #[.val (.ref o0_6), .val (.ref o1_6), .val (.ref o1_6)] [(.ref w_side_o1_6)]))
  refine own_step (fun t k => XS.aloadN X3.here hx rfl (hb hby d6_16) rfl rfl k) ?_
  show own_Ends p.tables e below s _ _ _ (T3.setTop (mkF m 17 #[.val (.ref o0_6), .val (.ref o1_6), .val (.ref o1_6)] [(.ref o0_6), (.ref w_side_o1_6)]))
  obtain ⟨T4, X4, e4, st4⟩ := getF X3 hx hZ hown (host := "") (Or.inl (hw _ (List.mem_of_getElem? (i := 34) rfl))) Via.refl e3 F_side_o0_6 (g := (mkF m 17 #[.val (.ref o0_6), .val (.ref o1_6), .val (.ref o1_6)] [(.ref o0_6), (.ref w_side_o1_6)])) rfl rfl (hb hby d6_17)
  refine own_step (fun t k => st4 _ k) ?_
  show own_Ends p.tables e below s _ _ _ (T4.setTop (mkF m 20 #[.val (.ref o0_6), .val (.ref o1_6), .val (.ref o1_6)] [(.ref w_side_o0_6), (.ref w_side_o1_6)]))
  by_cases ha20_5 : w_side_o1_6 = w_side_o0_6
  · skip
    refine own_step (fun t k => Jvm.RoadKit.acmp (g := (mkF m 20 #[.val (.ref o0_6), .val (.ref o1_6), .val (.ref o1_6)] [(.ref w_side_o0_6), (.ref w_side_o1_6)])) X4 hx rfl rfl rfl (pc0 := 20) (pc' := 23) (same := true) rfl (hb hby d6_20) rfl (decide_eq_true (congrArg Value.ref ha20_5)) (by decide) (by decide) k) ?_
    show own_Ends p.tables e below s _ _ _ (T4.setTop (mkF m 23 #[.val (.ref o0_6), .val (.ref o1_6), .val (.ref o1_6)] []))
    refine own_step (fun t k => XS.aloadN X4.here hx rfl (hb hby d6_23) rfl rfl k) ?_
    show own_Ends p.tables e below s _ _ _ (T4.setTop (mkF m 24 #[.val (.ref o0_6), .val (.ref o1_6), .val (.ref o1_6)] [(.ref o1_6)]))
    obtain ⟨T6, X6, e6, st6⟩ := getF X4 hx hZ hown (host := "") (Or.inl (hw _ (List.mem_of_getElem? (i := 32) rfl))) Via.refl e4 F_cell_o1_6 (g := (mkF m 24 #[.val (.ref o0_6), .val (.ref o1_6), .val (.ref o1_6)] [(.ref o1_6)])) rfl rfl (hb hby d6_24)
    refine own_step (fun t k => st6 _ k) ?_
    show own_Ends p.tables e below s _ _ _ (T6.setTop (mkF m 27 #[.val (.ref o0_6), .val (.ref o1_6), .val (.ref o1_6)] [(.ref w_cell_o1_6)]))
    refine own_step (fun t k => XS.aloadN X6.here hx rfl (hb hby d6_27) rfl rfl k) ?_
    show own_Ends p.tables e below s _ _ _ (T6.setTop (mkF m 28 #[.val (.ref o0_6), .val (.ref o1_6), .val (.ref o1_6)] [(.ref o0_6), (.ref w_cell_o1_6)]))
    obtain ⟨T7, X7, e7, st7⟩ := getF X6 hx hZ hown (host := "") (Or.inl (hw _ (List.mem_of_getElem? (i := 32) rfl))) Via.refl e6 F_cell_o0_6 (g := (mkF m 28 #[.val (.ref o0_6), .val (.ref o1_6), .val (.ref o1_6)] [(.ref o0_6), (.ref w_cell_o1_6)])) rfl rfl (hb hby d6_28)
    refine own_step (fun t k => st7 _ k) ?_
    show own_Ends p.tables e below s _ _ _ (T7.setTop (mkF m 31 #[.val (.ref o0_6), .val (.ref o1_6), .val (.ref o1_6)] [(.ref w_cell_o0_6), (.ref w_cell_o1_6)]))
    obtain ⟨cq8, kq8, q8a, q8b, q8c⟩ := isOf hZ e7 E_w_cell_o1_6
    obtain ⟨_, _, ⟨T8, L8, k8, n8⟩, -, X8, ⟨Lc8, hQ8, l8, y8, z8⟩, st8⟩ := X7.virtualBack hx (y := (⟨"com/example/swanhall/swanhall/core/Cell", "equals", "(Ljava/lang/Object;)Z"⟩ : MethodName)) (z := (⟨"com/example/swanhall/swanhall/core/Cell", "equals", "(Ljava/lang/Object;)Z"⟩ : MethodName)) hown (mvT hZ (hw _ (List.mem_of_getElem? (i := 45) rfl))) (mvT hZ (hw _ (List.mem_of_getElem? (i := 46) rfl))) (notFace_of_selects (args := #[]) (mvT hZ (hw _ (List.mem_of_getElem? (i := 48) rfl)))) (mvT hZ (hw _ (List.mem_of_getElem? (i := 48) rfl))) (mvT hZ (hw _ (List.mem_of_getElem? (i := 47) rfl))) (by decide) (backOf (W := 0) (rm7 l Z a0 hw [] w_cell_o1_6 w_cell_o0_6 w_x_w_cell_o0_6 w_x_w_cell_o1_6 w_y_w_cell_o0_6 w_y_w_cell_o1_6 h0 n0 O0 E_w_cell_o0_6 F_x_w_cell_o0_6 F_x_w_cell_o1_6 F_y_w_cell_o0_6 F_y_w_cell_o1_6) hZ (hw _ (List.mem_of_getElem? (i := 49) rfl)) (hw _ (List.mem_of_getElem? (i := 2) rfl)) (by decide) (by decide)) q8a q8c (g := (mkF m 31 #[.val (.ref o0_6), .val (.ref o1_6), .val (.ref o1_6)] [(.ref w_cell_o0_6), (.ref w_cell_o1_6)])) rfl (by rw [hml]; rfl) (Steps.refl _) (argsL := [(.ref w_cell_o0_6)]) (rest := []) (lenOf pd_1 rfl) rfl (by show 2 * 0 + _ ≤ _; exact Nat.le_of_eq rfl) (hb hby d6_31) (fun _ _ => ⟨rfl, e7, (by decide : 0 + 0 ≤ _), (by decide : 0 + 0 ≤ _)⟩)
    dsimp only [Pt.U, Pt.locs, Pt.cells, Pt.slots] at X8 l8 y8 z8 st8 hQ8
    subst l8 y8 z8
    obtain ⟨rfl, N8q, e8⟩ := hQ8
    refine own_step (fun t k => st8.trans k) ?_
    have N9 := Fr.app N0 N8q
    show own_Ends p.tables e below s _ _ _ (T8.setTop (mkF m 34 #[.val (.ref o0_6), .val (.ref o1_6), .val (.ref o1_6)] [(.int (own_r7 w_x_w_cell_o0_6 w_x_w_cell_o1_6 w_y_w_cell_o0_6 w_y_w_cell_o1_6))]))
    by_cases hc34_10 : (own_r7 w_x_w_cell_o0_6 w_x_w_cell_o1_6 w_y_w_cell_o0_6 w_y_w_cell_o1_6) = (0 : Int32)
    · skip
      refine own_step (fun t k => XS.ifYes X8.here hx rfl (pc0 := 34) (pc' := 41) rfl (hb hby d6_34) rfl ((if0 _ _).trans (teq hc34_10).1) (by decide) (by decide) k) ?_
      show own_Ends p.tables e below s _ _ _ (T8.setTop (mkF m 41 #[.val (.ref o0_6), .val (.ref o1_6), .val (.ref o1_6)] []))
      refine own_step (fun t k => XS.iconst X8.here hx rfl (hb hby d6_41) k) ?_
      show own_Ends p.tables e below s _ _ _ (T8.setTop (mkF m 42 #[.val (.ref o0_6), .val (.ref o1_6), .val (.ref o1_6)] [(.int (0 : Int32))]))
      exact own_retN X8 hx (t := .boolean) Bd.returns (by simp) (hb hby d6_42) hnl (by rw [e8]; exact ⟨(congrArg (fun z => some (Value.int z)) (Eq.symm (show (own_r6 w_side_o1_6 w_side_o0_6 w_x_w_cell_o0_6 w_x_w_cell_o1_6 w_y_w_cell_o0_6 w_y_w_cell_o1_6) = (0 : Int32) from by unfold own_r6; rw [if_pos ha20_5, if_pos hc34_10]))), N9, rfl⟩) (by decide) (by decide)
    · skip
      refine own_step (fun t k => XS.ifNo X8.here hx rfl (hb hby d6_34) rfl ((if0 _ _).trans (feq hc34_10).1) k) ?_
      show own_Ends p.tables e below s _ _ _ (T8.setTop (mkF m 37 #[.val (.ref o0_6), .val (.ref o1_6), .val (.ref o1_6)] []))
      refine own_step (fun t k => XS.iconst X8.here hx rfl (hb hby d6_37) k) ?_
      show own_Ends p.tables e below s _ _ _ (T8.setTop (mkF m 38 #[.val (.ref o0_6), .val (.ref o1_6), .val (.ref o1_6)] [(.int (1 : Int32))]))
      refine own_step (fun t k => XS.goto X8.here hx rfl (pc0 := 38) (pc' := 42) rfl (hb hby d6_38) (by decide) (by decide) k) ?_
      show own_Ends p.tables e below s _ _ _ (T8.setTop (mkF m 42 #[.val (.ref o0_6), .val (.ref o1_6), .val (.ref o1_6)] [(.int (1 : Int32))]))
      exact own_retN X8 hx (t := .boolean) Bd.returns (by simp) (hb hby d6_42) hnl (by rw [e8]; exact ⟨(congrArg (fun z => some (Value.int z)) (Eq.symm (show (own_r6 w_side_o1_6 w_side_o0_6 w_x_w_cell_o0_6 w_x_w_cell_o1_6 w_y_w_cell_o0_6 w_y_w_cell_o1_6) = (1 : Int32) from by unfold own_r6; rw [if_pos ha20_5, if_neg hc34_10]))), N9, rfl⟩) (by decide) (by decide)
  · skip
    refine own_step (fun t k => Jvm.RoadKit.acmp (g := (mkF m 20 #[.val (.ref o0_6), .val (.ref o1_6), .val (.ref o1_6)] [(.ref w_side_o0_6), (.ref w_side_o1_6)])) X4 hx rfl rfl rfl (pc0 := 20) (pc' := 41) (same := false) rfl (hb hby d6_20) rfl (decide_eq_false fun q => ha20_5 (Value.ref.inj q)) (by decide) (by decide) k) ?_
    show own_Ends p.tables e below s _ _ _ (T4.setTop (mkF m 41 #[.val (.ref o0_6), .val (.ref o1_6), .val (.ref o1_6)] []))
    refine own_step (fun t k => XS.iconst X4.here hx rfl (hb hby d6_41) k) ?_
    show own_Ends p.tables e below s _ _ _ (T4.setTop (mkF m 42 #[.val (.ref o0_6), .val (.ref o1_6), .val (.ref o1_6)] [(.int (0 : Int32))]))
    exact own_retN X4 hx (t := .boolean) Bd.returns (by simp) (hb hby d6_42) hnl (by rw [e4]; exact ⟨(congrArg (fun z => some (Value.int z)) (Eq.symm (show (own_r6 w_side_o1_6 w_side_o0_6 w_x_w_cell_o0_6 w_x_w_cell_o1_6 w_y_w_cell_o0_6 w_y_w_cell_o1_6) = (0 : Int32) from by unfold own_r6; rw [if_neg ha20_5]))), N0, rfl⟩) (by decide) (by decide)
theorem ef_6c (m : MethodId) (o0_6c : Addr) (o1_6c : Addr) : entryFrame m #[(.ref o0_6c), (.ref o1_6c)] 3 = mkF m 0 #[.val (.ref o0_6c), .val (.ref o1_6c), .unset] [] := by first | (simp [entryFrame, mkF, argsToLocals, Value.category]; done) | rfl
def Q6c (Z : State) (o0_6c : Addr) (o1_6c : Addr) (h0 : Heap) (n0 : Nat) (v : Option Value) (h : Heap) (L : List Loc) : Prop := v = some (.int (0 : Int32)) ∧ Fr n0 L ∧ h = h0
set_option maxRecDepth 65536 in
set_option maxHeartbeats 40000000 in
theorem rm6c (l : Launch) (Z : State) (a0 : Array Value) (hw : ∀ d ∈ tables_1, d.before a0 Z = true) (ws : List Jvm.Cond) (o0_6c : Addr) (o1_6c : Addr) (h0 : Heap) (n0 : Nat) (O0 : Old Z n0 h0) (E_o1_6c : Exa Z h0 o1_6c "com/example/swanhall/swanhall/core/Cell") :
    MetFree l (⟨"com/example/swanhall/swanhall/core/Edge", "equals", "(Ljava/lang/Object;)Z"⟩ : MethodName) (head1 (Jvm.Cond.code (⟨"com/example/swanhall/swanhall/core/Edge", "equals", "(Ljava/lang/Object;)Z"⟩ : MethodName) prog_32_method_3_code 3 (some .boolean) :: ws) ({ frames := 0, cells := 0, slots := 0, locals := 0 } : Room)) (fun a U => a = #[(.ref o0_6c), (.ref o1_6c)] ∧ Z.Warmed39 U.vm ∧ U.heap = h0) (fun _ _ _ _ _ => True) (fun _ U o U' => ∃ v L, o = .returned v ∧ Q6c Z o0_6c o1_6c h0 n0 v U'.heap L ∧ FrameEnd U o U' L ({ frames := 0, cells := 0, slots := 0, locals := 0 } : Room).cells ({ frames := 0, cells := 0, slots := 0, locals := 0 } : Room).slots) := by
  refine MetFree.of_bodySF (plainFor_of_name pn_3) hisR ?_
  intro p e s m args below meth c s₁ Bd hml0 hP hK
  obtain ⟨rfl, hZ, hh⟩ := hP
  have hx := Bd.exec
  have hby := Bd.bytes
  have hnl := BodyLoose.notSynchronized Bd
  have hml : c.maxLocals = 3 := hml0
  have hown : s.vm.findClass "com/example/swanhall/swanhall/core/Edge" = some m.cls := findClass_of_methodNamed Bd.named
  have hnm := (name_of_methodNamed Bd.named Bd.method).1
  have X0 : Stand p l e ({ frames := 0, cells := 0, slots := 0, locals := 0 } : Room) s m #[(.ref o0_6c), (.ref o1_6c)] below meth c s₁ [] 0 0 := Stand.of_body Bd
  have e0 : s₁.heap = h0 := by rw [← hh, Bd.state]; rfl
  have N0 := Fr.nil n0
  show own_Ends p.tables e below s (Q6c Z o0_6c o1_6c h0 n0) 0 0 (s₁.setTop (entryFrame m #[(.ref o0_6c), (.ref o1_6c)] 3))
  rw [ef_6c m o0_6c o1_6c]
  show own_Ends p.tables e below s _ _ _ (s₁.setTop (mkF m 0 #[.val (.ref o0_6c), .val (.ref o1_6c), .unset] []))
  refine own_step (fun t k => XS.aloadN X0.here hx rfl (hb hby d6_0) rfl rfl k) ?_
  show own_Ends p.tables e below s _ _ _ (s₁.setTop (mkF m 1 #[.val (.ref o0_6c), .val (.ref o1_6c), .unset] [(.ref o1_6c)]))
  obtain ⟨T1, X1, e1, st1⟩ := instNo X0 hx hZ hown (hw _ (List.mem_of_getElem? (i := 43) rfl)) e0 E_o1_6c (own_NSno (hw _ (List.mem_of_getElem? (i := 52) rfl)) (hw _ (List.mem_of_getElem? (i := 19) rfl)) (NS.step (hw _ (List.mem_of_getElem? (i := 52) rfl)) (NS.step (hw _ (List.mem_of_getElem? (i := 53) rfl)) (own_NSroot (hw _ (List.mem_of_getElem? (i := 54) rfl)) (hw _ (List.mem_of_getElem? (i := 19) rfl)) (by decide)) (by decide)) (by decide)) (by decide)) (g := (mkF m 1 #[.val (.ref o0_6c), .val (.ref o1_6c), .unset] [(.ref o1_6c)])) rfl rfl (hb hby d6_1)
  refine own_step (fun t k => st1 _ k) ?_
  show own_Ends p.tables e below s _ _ _ (T1.setTop (mkF m 4 #[.val (.ref o0_6c), .val (.ref o1_6c), .unset] [(.int (0 : Int32))]))
  refine own_step (fun t k => XS.ifYes X1.here hx rfl (pc0 := 4) (pc' := 41) rfl (hb hby d6_4) rfl ((if0 _ _).trans (teq (by decide : (0 : Int32) = (0 : Int32))).1) (by decide) (by decide) k) ?_
  show own_Ends p.tables e below s _ _ _ (T1.setTop (mkF m 41 #[.val (.ref o0_6c), .val (.ref o1_6c), .unset] []))
  refine own_step (fun t k => XS.iconst X1.here hx rfl (hb hby d6_41) k) ?_
  show own_Ends p.tables e below s _ _ _ (T1.setTop (mkF m 42 #[.val (.ref o0_6c), .val (.ref o1_6c), .unset] [(.int (0 : Int32))]))
  exact own_retN X1 hx (t := .boolean) Bd.returns (by simp) (hb hby d6_42) hnl (by rw [e1]; exact ⟨rfl, N0, rfl⟩) (by decide) (by decide)
theorem ef_6n (m : MethodId) (o0_6n : Addr) : entryFrame m #[(.ref o0_6n), .null] 3 = mkF m 0 #[.val (.ref o0_6n), .val .null, .unset] [] := by first | (simp [entryFrame, mkF, argsToLocals, Value.category]; done) | rfl
def Q6n (Z : State) (o0_6n : Addr) (h0 : Heap) (n0 : Nat) (v : Option Value) (h : Heap) (L : List Loc) : Prop := v = some (.int (0 : Int32)) ∧ Fr n0 L ∧ h = h0
set_option maxRecDepth 65536 in
set_option maxHeartbeats 40000000 in
theorem rm6n (l : Launch) (Z : State) (a0 : Array Value) (hw : ∀ d ∈ tables_1, d.before a0 Z = true) (ws : List Jvm.Cond) (o0_6n : Addr) (h0 : Heap) (n0 : Nat) (O0 : Old Z n0 h0) :
    MetFree l (⟨"com/example/swanhall/swanhall/core/Edge", "equals", "(Ljava/lang/Object;)Z"⟩ : MethodName) (head1 (Jvm.Cond.code (⟨"com/example/swanhall/swanhall/core/Edge", "equals", "(Ljava/lang/Object;)Z"⟩ : MethodName) prog_32_method_3_code 3 (some .boolean) :: ws) ({ frames := 0, cells := 0, slots := 0, locals := 0 } : Room)) (fun a U => a = #[(.ref o0_6n), .null] ∧ Z.Warmed39 U.vm ∧ U.heap = h0) (fun _ _ _ _ _ => True) (fun _ U o U' => ∃ v L, o = .returned v ∧ Q6n Z o0_6n h0 n0 v U'.heap L ∧ FrameEnd U o U' L ({ frames := 0, cells := 0, slots := 0, locals := 0 } : Room).cells ({ frames := 0, cells := 0, slots := 0, locals := 0 } : Room).slots) := by
  refine MetFree.of_bodySF (plainFor_of_name pn_3) hisR ?_
  intro p e s m args below meth c s₁ Bd hml0 hP hK
  obtain ⟨rfl, hZ, hh⟩ := hP
  have hx := Bd.exec
  have hby := Bd.bytes
  have hnl := BodyLoose.notSynchronized Bd
  have hml : c.maxLocals = 3 := hml0
  have hown : s.vm.findClass "com/example/swanhall/swanhall/core/Edge" = some m.cls := findClass_of_methodNamed Bd.named
  have hnm := (name_of_methodNamed Bd.named Bd.method).1
  have X0 : Stand p l e ({ frames := 0, cells := 0, slots := 0, locals := 0 } : Room) s m #[(.ref o0_6n), .null] below meth c s₁ [] 0 0 := Stand.of_body Bd
  have e0 : s₁.heap = h0 := by rw [← hh, Bd.state]; rfl
  have N0 := Fr.nil n0
  show own_Ends p.tables e below s (Q6n Z o0_6n h0 n0) 0 0 (s₁.setTop (entryFrame m #[(.ref o0_6n), .null] 3))
  rw [ef_6n m o0_6n]
  show own_Ends p.tables e below s _ _ _ (s₁.setTop (mkF m 0 #[.val (.ref o0_6n), .val .null, .unset] []))
  refine own_step (fun t k => XS.aloadN X0.here hx rfl (hb hby d6_0) rfl rfl k) ?_
  show own_Ends p.tables e below s _ _ _ (s₁.setTop (mkF m 1 #[.val (.ref o0_6n), .val .null, .unset] [.null]))
  refine own_step (fun t k => X0.instanceofNull hx (g := (mkF m 1 #[.val (.ref o0_6n), .val .null, .unset] [.null])) rfl rfl (hb hby d6_1) _ k) ?_
  show own_Ends p.tables e below s _ _ _ (s₁.setTop (mkF m 4 #[.val (.ref o0_6n), .val .null, .unset] [(.int (0 : Int32))]))
  refine own_step (fun t k => XS.ifYes X0.here hx rfl (pc0 := 4) (pc' := 41) rfl (hb hby d6_4) rfl ((if0 _ _).trans (teq (by decide : (0 : Int32) = (0 : Int32))).1) (by decide) (by decide) k) ?_
  show own_Ends p.tables e below s _ _ _ (s₁.setTop (mkF m 41 #[.val (.ref o0_6n), .val .null, .unset] []))
  refine own_step (fun t k => XS.iconst X0.here hx rfl (hb hby d6_41) k) ?_
  show own_Ends p.tables e below s _ _ _ (s₁.setTop (mkF m 42 #[.val (.ref o0_6n), .val .null, .unset] [(.int (0 : Int32))]))
  exact own_retN X0 hx (t := .boolean) Bd.returns (by simp) (hb hby d6_42) hnl (by rw [e0]; exact ⟨rfl, N0, rfl⟩) (by decide) (by decide)
theorem own_lc (a b : Int64) : lcmpW a b = 0 ↔ a = b := by rw [lcW]; exact lc_eq a b
theorem own_m3 (a : Int32) : ¬ (a &&& 3) < 0 ∧ (a &&& 3) < 4 := by
  have h := c_and a 3 (by decide)
  have h7 : (3 : Int32).toInt = 3 := rfl
  constructor
  · rw [Int32.lt_iff_toInt_lt]; show ¬ _ < (0 : Int); omega
  · rw [Int32.lt_iff_toInt_lt]; show _ < (4 : Int); omega
theorem own_cases4 (v : Int32) (h : ¬ v < 0 ∧ v < 4) : v = 0 ∨ v = 1 ∨ v = 2 ∨ v = 3 := by
  obtain ⟨n, rfl⟩ := own_small v 4 (by decide) h.1 h.2
  revert n; decide
theorem own_side (s t : Int32) (N E S W : Addr) (hs : ¬ s < 0 ∧ s < 4) (ht : ¬ t < 0 ∧ t < 4) (h1 : N ≠ E) (h2 : N ≠ S) (h3 : N ≠ W) (h4 : E ≠ S) (h5 : E ≠ W) (h6 : S ≠ W) :
    own_r4 s N E S W = own_r4 t N E S W ↔ s = t := by
  rcases own_cases4 s hs with rfl | rfl | rfl | rfl <;> rcases own_cases4 t ht with rfl | rfl | rfl | rfl <;> simp [own_r4, h1, h2, h3, h4, h5, h6, h1.symm, h2.symm, h3.symm, h4.symm, h5.symm, h6.symm]

theorem own_eq6 (s t : Int32) (N E S W : Addr) (a b c d : Int64) (hs : ¬ s < 0 ∧ s < 4) (ht : ¬ t < 0 ∧ t < 4) (h1 : N ≠ E) (h2 : N ≠ S) (h3 : N ≠ W) (h4 : E ≠ S) (h5 : E ≠ W) (h6 : S ≠ W) :
    own_r6 (own_r4 s N E S W) (own_r4 t N E S W) a b c d = if s = t ∧ a = b ∧ c = d then 1 else 0 := by
  unfold own_r6 own_r7
  simp only [own_side s t N E S W hs ht h1 h2 h3 h4 h5 h6, own_lc]
  have q : ∀ x y : Int64, y = x ↔ x = y := fun x y => eq_comm
  by_cases e1 : s = t <;> by_cases e2 : a = b <;> by_cases e3 : c = d <;> simp [e1, e2, e3, q b a, q d c]
theorem own_eq6r (v : Addr) (a c : Int64) : ¬ own_r6 v v a a c c = 0 := by
  unfold own_r6 own_r7
  simp [own_lc]

theorem pd_2 : parseMethodDescriptor "(JJ)V" = some ⟨[.long, .long], none⟩ := by decide +kernel
theorem pd_3 : parseMethodDescriptor "(I)Lcom/example/swanhall/swanhall/core/Side;" = some ⟨[.int], some (.object "com/example/swanhall/swanhall/core/Side")⟩ := by decide +kernel
theorem pd_4 : parseMethodDescriptor "(Lcom/example/swanhall/swanhall/core/Cell;Lcom/example/swanhall/swanhall/core/Side;)V" = some ⟨[(.object "com/example/swanhall/swanhall/core/Cell"), (.object "com/example/swanhall/swanhall/core/Side")], none⟩ := by decide +kernel
theorem ef_0 (m : MethodId) (y0_0 : Int64) (y1_0 : Int64) (y2_0 : Int64) (y3_0 : Int64) (x4_0 : Int32) (x5_0 : Int32) : entryFrame m #[(.long y0_0), (.long y1_0), (.long y2_0), (.long y3_0), (.int x4_0), (.int x5_0)] maxLocals = mkF m 0 #[.val (.long y0_0), .second, .val (.long y1_0), .second, .val (.long y2_0), .second, .val (.long y3_0), .second, .val (.int x4_0), .val (.int x5_0), .unset, .unset, .unset, .unset, .unset, .unset, .unset, .unset, .unset, .unset, .unset, .unset, .unset] [] := by first | (simp [entryFrame, mkF, argsToLocals, Value.category, maxLocals]; done) | rfl
def Q0 (Z : State) (w_N : Addr) (w_E : Addr) (w_S : Addr) (w_W : Addr) (y0_0 : Int64) (y1_0 : Int64) (y2_0 : Int64) (y3_0 : Int64) (x4_0 : Int32) (x5_0 : Int32) (h0 : Heap) (n0 : Nat) (v : Option Value) (h : Heap) (L : List Loc) : Prop := v = some (.int 1) ∧ Fr n0 L
set_option maxRecDepth 65536 in
set_option maxHeartbeats 40000000 in
theorem rm0 (l : Launch) (Z : State) (a0 : Array Value) (hw : ∀ d ∈ tables_1, d.before a0 Z = true) (ws : List Jvm.Cond) (w_N : Addr) (w_E : Addr) (w_S : Addr) (w_W : Addr) (y0_0 : Int64) (y1_0 : Int64) (y2_0 : Int64) (y3_0 : Int64) (x4_0 : Int32) (x5_0 : Int32) (h0 : Heap) (n0 : Nat) (O0 : Old Z n0 h0) (ne_w_N_w_E : w_N ≠ w_E) (ne_w_N_w_S : w_N ≠ w_S) (ne_w_N_w_W : w_N ≠ w_W) (ne_w_E_w_S : w_E ≠ w_S) (ne_w_E_w_W : w_E ≠ w_W) (ne_w_S_w_W : w_S ≠ w_W) (S_N : Sta Z Z.heap "com/example/swanhall/swanhall/core/Side" "N" "Lcom/example/swanhall/swanhall/core/Side;" (.ref w_N)) (S_E : Sta Z Z.heap "com/example/swanhall/swanhall/core/Side" "E" "Lcom/example/swanhall/swanhall/core/Side;" (.ref w_E)) (S_S : Sta Z Z.heap "com/example/swanhall/swanhall/core/Side" "S" "Lcom/example/swanhall/swanhall/core/Side;" (.ref w_S)) (S_W : Sta Z Z.heap "com/example/swanhall/swanhall/core/Side" "W" "Lcom/example/swanhall/swanhall/core/Side;" (.ref w_W)) :
    MetFree l x (head1 (Jvm.Cond.code x code maxLocals ret :: ws) room_1) (fun a U => a = #[(.long y0_0), (.long y1_0), (.long y2_0), (.long y3_0), (.int x4_0), (.int x5_0)] ∧ Z.Warmed39 U.vm ∧ U.heap = h0) (fun _ _ _ _ _ => True) (fun _ U o U' => ∃ v L, o = .returned v ∧ Q0 Z w_N w_E w_S w_W y0_0 y1_0 y2_0 y3_0 x4_0 x5_0 h0 n0 v U'.heap L ∧ FrameEnd U o U' L 4 8) := by
  refine MetFree.of_bodySF (plainFor_of_name pn_2) hisR ?_
  intro p e s m args below meth c s₁ Bd hml0 hP hK
  obtain ⟨rfl, hZ, hh⟩ := hP
  have hx := Bd.exec
  have hby := Bd.bytes
  have hnl := BodyLoose.notSynchronized Bd
  have hml : c.maxLocals = 23 := hml0
  have hown : s.vm.findClass "com/example/swanhall/swanhall/core/EdgeEqualsPinLaw" = some m.cls := findClass_of_methodNamed Bd.named
  have hnm := (name_of_methodNamed Bd.named Bd.method).1
  have X0 : Stand p l e room_1 s m #[(.long y0_0), (.long y1_0), (.long y2_0), (.long y3_0), (.int x4_0), (.int x5_0)] below meth c s₁ [] 0 0 := Stand.of_body Bd
  have e0 : s₁.heap = h0 := by rw [← hh, Bd.state]; rfl
  have N0 := Fr.nil n0
  show own_Ends p.tables e below s (Q0 Z w_N w_E w_S w_W y0_0 y1_0 y2_0 y3_0 x4_0 x5_0 h0 n0) 4 8 (s₁.setTop (entryFrame m #[(.long y0_0), (.long y1_0), (.long y2_0), (.long y3_0), (.int x4_0), (.int x5_0)] maxLocals))
  rw [ef_0 m y0_0 y1_0 y2_0 y3_0 x4_0 x5_0]
  have tail56 : ∀ (cx : Int64) (cy : Int64) (s1 : Int32) (s2 : Int32) (hs1 : ¬ s1 < 0 ∧ s1 < 4) (hs2 : ¬ s2 < 0 ∧ s2 < 4), own_Ends p.tables e below s (Q0 Z w_N w_E w_S w_W y0_0 y1_0 y2_0 y3_0 x4_0 x5_0 h0 n0) 4 8 (s₁.setTop (mkF m 56 #[.val (.long y0_0), .second, .val (.long y1_0), .second, .val (.long y2_0), .second, .val (.long y3_0), .second, .val (.int x4_0), .val (.int x5_0), .val (.long cx), .second, .val (.long cy), .second, .val (.int s1), .val (.int s2), .unset, .unset, .unset, .unset, .unset, .unset, .unset] [])) := by
    intro cx cy s1 s2 hs1 hs2
    show own_Ends p.tables e below s _ _ _ (s₁.setTop (mkF m 56 #[.val (.long y0_0), .second, .val (.long y1_0), .second, .val (.long y2_0), .second, .val (.long y3_0), .second, .val (.int x4_0), .val (.int x5_0), .val (.long cx), .second, .val (.long cy), .second, .val (.int s1), .val (.int s2), .unset, .unset, .unset, .unset, .unset, .unset, .unset] []))
    obtain ⟨T1, h1, X1, e1, E1, A1, D1, -, st1⟩ := newO X0 hx hZ hown (hw _ (List.mem_of_getElem? (i := 0) rfl)) (hw _ (List.mem_of_getElem? (i := 1) rfl)) (hw _ (List.mem_of_getElem? (i := 2) rfl)) e0 (g := (mkF m 56 #[.val (.long y0_0), .second, .val (.long y1_0), .second, .val (.long y2_0), .second, .val (.long y3_0), .second, .val (.int x4_0), .val (.int x5_0), .val (.long cx), .second, .val (.long cy), .second, .val (.int s1), .val (.int s2), .unset, .unset, .unset, .unset, .unset, .unset, .unset] [])) rfl (hb hby at_56) (by decide) (by decide)
    obtain ⟨b1, g1⟩ : ∃ z, z = h0.size := ⟨_, rfl⟩
    rw [← g1] at A1 D1 st1
    have g_b1 : n0 ≤ b1 := Nat.le_trans (Nat.le_trans (Nat.le_of_eq O0.1.symm) O0.2.1) (Nat.le_of_eq g1.symm)
    have sz_b1 : h0.size ≤ b1 := Nat.le_trans (Keep.refl h0 []).1 (Nat.le_of_eq g1.symm)
    have F1_x : Fld Z h1 b1 "com/example/swanhall/swanhall/core/Cell" "x" "J" (.long (0 : Int64)) := D1 (Or.inr (hw _ (List.mem_of_getElem? (i := 15) rfl))) (ty := .long) (by decide)
    have F1_y : Fld Z h1 b1 "com/example/swanhall/swanhall/core/Cell" "y" "J" (.long (0 : Int64)) := D1 (Or.inr (hw _ (List.mem_of_getElem? (i := 17) rfl))) (ty := .long) (by decide)
    refine own_step (fun t k => st1 _ k) ?_
    have K2 : Keep h0 h1 [] := (Keep.refl h0 []).ext E1
    show own_Ends p.tables e below s _ _ _ (T1.setTop (mkF m 59 #[.val (.long y0_0), .second, .val (.long y1_0), .second, .val (.long y2_0), .second, .val (.long y3_0), .second, .val (.int x4_0), .val (.int x5_0), .val (.long cx), .second, .val (.long cy), .second, .val (.int s1), .val (.int s2), .unset, .unset, .unset, .unset, .unset, .unset, .unset] [(.ref b1)]))
    refine own_step (fun t k => XS.dup X1.here hx rfl (hb hby at_59) rfl rfl k) ?_
    show own_Ends p.tables e below s _ _ _ (T1.setTop (mkF m 60 #[.val (.long y0_0), .second, .val (.long y1_0), .second, .val (.long y2_0), .second, .val (.long y3_0), .second, .val (.int x4_0), .val (.int x5_0), .val (.long cx), .second, .val (.long cy), .second, .val (.int s1), .val (.int s2), .unset, .unset, .unset, .unset, .unset, .unset, .unset] [(.ref b1), (.ref b1)]))
    refine own_step (fun t k => XS.lloadN X1.here hx rfl (hb hby at_60) rfl k) ?_
    show own_Ends p.tables e below s _ _ _ (T1.setTop (mkF m 61 #[.val (.long y0_0), .second, .val (.long y1_0), .second, .val (.long y2_0), .second, .val (.long y3_0), .second, .val (.int x4_0), .val (.int x5_0), .val (.long cx), .second, .val (.long cy), .second, .val (.int s1), .val (.int s2), .unset, .unset, .unset, .unset, .unset, .unset, .unset] [(.long y0_0), (.ref b1), (.ref b1)]))
    refine own_step (fun t k => XS.lloadN X1.here hx rfl (hb hby at_61) rfl k) ?_
    show own_Ends p.tables e below s _ _ _ (T1.setTop (mkF m 62 #[.val (.long y0_0), .second, .val (.long y1_0), .second, .val (.long y2_0), .second, .val (.long y3_0), .second, .val (.int x4_0), .val (.int x5_0), .val (.long cx), .second, .val (.long cy), .second, .val (.int s1), .val (.int s2), .unset, .unset, .unset, .unset, .unset, .unset, .unset] [(.long y1_0), (.long y0_0), (.ref b1), (.ref b1)]))
    have O3 : Old Z n0 h1 := (O0.ext E1)
    obtain ⟨_, _, ⟨T4, L4, k4, n4⟩, -, X4, ⟨Lc4, hQ4, l4, y4, z4⟩, st4⟩ := X1.specialBack hx (y := (⟨"com/example/swanhall/swanhall/core/Cell", "<init>", "(JJ)V"⟩ : MethodName)) rfl hown (mvT hZ (hw _ (List.mem_of_getElem? (i := 3) rfl))) (mvT hZ (hw _ (List.mem_of_getElem? (i := 4) rfl))) (mvT hZ (hw _ (List.mem_of_getElem? (i := 5) rfl))) (by decide) (backOf (W := 1) (rm1 l Z a0 hw [] b1 y0_0 y1_0 (.long (0 : Int64)) (.long (0 : Int64)) h1 n0 O3 A1 F1_x g_b1 F1_y) hZ (hw _ (List.mem_of_getElem? (i := 5) rfl)) (hw _ (List.mem_of_getElem? (i := 2) rfl)) (by decide) (by decide)) (g := (mkF m 62 #[.val (.long y0_0), .second, .val (.long y1_0), .second, .val (.long y2_0), .second, .val (.long y3_0), .second, .val (.int x4_0), .val (.int x5_0), .val (.long cx), .second, .val (.long cy), .second, .val (.int s1), .val (.int s2), .unset, .unset, .unset, .unset, .unset, .unset, .unset] [(.long y1_0), (.long y0_0), (.ref b1), (.ref b1)])) rfl (by rw [hml]; rfl) (Steps.refl _) (a := b1) (argsL := [(.long y0_0), (.long y1_0)]) (rest := [(.ref b1)]) (lenOf pd_2 rfl) rfl (by show 2 * 0 + _ ≤ _; exact Nat.le_of_eq rfl) (hb hby at_62) (fun _ _ => ⟨rfl, e1, (by decide : 1 + 0 ≤ _), (by decide : 2 + 0 ≤ _)⟩)
    dsimp only [Pt.U, Pt.locs, Pt.cells, Pt.slots] at X4 l4 y4 z4 st4 hQ4
    subst l4 y4 z4
    obtain ⟨rfl, N4q, K4q, p4_0, p4_1, p4_2⟩ := hQ4
    refine own_step (fun t k => st4.trans k) ?_
    have N5 := Fr.app N0 N4q
    have K6 : Keep h0 T4.heap [] := K2.trans K4q (allS (Or.inr sz_b1) all0)
    show own_Ends p.tables e below s _ _ _ (T4.setTop (mkF m 65 #[.val (.long y0_0), .second, .val (.long y1_0), .second, .val (.long y2_0), .second, .val (.long y3_0), .second, .val (.int x4_0), .val (.int x5_0), .val (.long cx), .second, .val (.long cy), .second, .val (.int s1), .val (.int s2), .unset, .unset, .unset, .unset, .unset, .unset, .unset] [(.ref b1)]))
    refine own_step (fun t k => XS.astore X4.here hx rfl (hb hby at_65) rfl rfl (l' := #[.val (.long y0_0), .second, .val (.long y1_0), .second, .val (.long y2_0), .second, .val (.long y3_0), .second, .val (.int x4_0), .val (.int x5_0), .val (.long cx), .second, .val (.long cy), .second, .val (.int s1), .val (.int s2), .val (.ref b1), .unset, .unset, .unset, .unset, .unset, .unset]) rfl k) ?_
    show own_Ends p.tables e below s _ _ _ (T4.setTop (mkF m 67 #[.val (.long y0_0), .second, .val (.long y1_0), .second, .val (.long y2_0), .second, .val (.long y3_0), .second, .val (.int x4_0), .val (.int x5_0), .val (.long cx), .second, .val (.long cy), .second, .val (.int s1), .val (.int s2), .val (.ref b1), .unset, .unset, .unset, .unset, .unset, .unset] []))
    have O7 : Old Z n0 T4.heap := (O3.keep K4q (allS g_b1 all0))
    obtain ⟨T8, h8, X8, e8, E8, A8, D8, -, st8⟩ := newO X4 hx hZ hown (hw _ (List.mem_of_getElem? (i := 0) rfl)) (hw _ (List.mem_of_getElem? (i := 1) rfl)) (hw _ (List.mem_of_getElem? (i := 2) rfl)) rfl (g := (mkF m 67 #[.val (.long y0_0), .second, .val (.long y1_0), .second, .val (.long y2_0), .second, .val (.long y3_0), .second, .val (.int x4_0), .val (.int x5_0), .val (.long cx), .second, .val (.long cy), .second, .val (.int s1), .val (.int s2), .val (.ref b1), .unset, .unset, .unset, .unset, .unset, .unset] [])) rfl (hb hby at_67) (by decide) (by decide)
    obtain ⟨b8, g8⟩ : ∃ z, z = T4.heap.size := ⟨_, rfl⟩
    rw [← g8] at A8 D8 st8
    have g_b8 : n0 ≤ b8 := Nat.le_trans (Nat.le_trans (Nat.le_of_eq O7.1.symm) O7.2.1) (Nat.le_of_eq g8.symm)
    have sz_b8 : h0.size ≤ b8 := Nat.le_trans K6.1 (Nat.le_of_eq g8.symm)
    have ne_b1_b8 : b1 ≠ b8 := Nat.ne_of_lt (Nat.lt_of_lt_of_le p4_0.lt (Nat.le_of_eq g8.symm))
    have F8_x : Fld Z h8 b8 "com/example/swanhall/swanhall/core/Cell" "x" "J" (.long (0 : Int64)) := D8 (Or.inr (hw _ (List.mem_of_getElem? (i := 15) rfl))) (ty := .long) (by decide)
    have F8_y : Fld Z h8 b8 "com/example/swanhall/swanhall/core/Cell" "y" "J" (.long (0 : Int64)) := D8 (Or.inr (hw _ (List.mem_of_getElem? (i := 17) rfl))) (ty := .long) (by decide)
    refine own_step (fun t k => st8 _ k) ?_
    have K9 : Keep h0 h8 [] := K6.ext E8
    show own_Ends p.tables e below s _ _ _ (T8.setTop (mkF m 70 #[.val (.long y0_0), .second, .val (.long y1_0), .second, .val (.long y2_0), .second, .val (.long y3_0), .second, .val (.int x4_0), .val (.int x5_0), .val (.long cx), .second, .val (.long cy), .second, .val (.int s1), .val (.int s2), .val (.ref b1), .unset, .unset, .unset, .unset, .unset, .unset] [(.ref b8)]))
    refine own_step (fun t k => XS.dup X8.here hx rfl (hb hby at_70) rfl rfl k) ?_
    show own_Ends p.tables e below s _ _ _ (T8.setTop (mkF m 71 #[.val (.long y0_0), .second, .val (.long y1_0), .second, .val (.long y2_0), .second, .val (.long y3_0), .second, .val (.int x4_0), .val (.int x5_0), .val (.long cx), .second, .val (.long cy), .second, .val (.int s1), .val (.int s2), .val (.ref b1), .unset, .unset, .unset, .unset, .unset, .unset] [(.ref b8), (.ref b8)]))
    refine own_step (fun t k => XS.lload X8.here hx rfl (hb hby at_71) rfl k) ?_
    show own_Ends p.tables e below s _ _ _ (T8.setTop (mkF m 73 #[.val (.long y0_0), .second, .val (.long y1_0), .second, .val (.long y2_0), .second, .val (.long y3_0), .second, .val (.int x4_0), .val (.int x5_0), .val (.long cx), .second, .val (.long cy), .second, .val (.int s1), .val (.int s2), .val (.ref b1), .unset, .unset, .unset, .unset, .unset, .unset] [(.long cx), (.ref b8), (.ref b8)]))
    refine own_step (fun t k => XS.lload X8.here hx rfl (hb hby at_73) rfl k) ?_
    show own_Ends p.tables e below s _ _ _ (T8.setTop (mkF m 75 #[.val (.long y0_0), .second, .val (.long y1_0), .second, .val (.long y2_0), .second, .val (.long y3_0), .second, .val (.int x4_0), .val (.int x5_0), .val (.long cx), .second, .val (.long cy), .second, .val (.int s1), .val (.int s2), .val (.ref b1), .unset, .unset, .unset, .unset, .unset, .unset] [(.long cy), (.long cx), (.ref b8), (.ref b8)]))
    have O10 : Old Z n0 h8 := (O7.ext E8)
    obtain ⟨_, _, ⟨T11, L11, k11, n11⟩, -, X11, ⟨Lc11, hQ11, l11, y11, z11⟩, st11⟩ := X8.specialBack hx (y := (⟨"com/example/swanhall/swanhall/core/Cell", "<init>", "(JJ)V"⟩ : MethodName)) rfl hown (mvT hZ (hw _ (List.mem_of_getElem? (i := 3) rfl))) (mvT hZ (hw _ (List.mem_of_getElem? (i := 4) rfl))) (mvT hZ (hw _ (List.mem_of_getElem? (i := 5) rfl))) (by decide) (backOf (W := 1) (rm1 l Z a0 hw [] b8 cx cy (.long (0 : Int64)) (.long (0 : Int64)) h8 n0 O10 A8 F8_x g_b8 F8_y) hZ (hw _ (List.mem_of_getElem? (i := 5) rfl)) (hw _ (List.mem_of_getElem? (i := 2) rfl)) (by decide) (by decide)) (g := (mkF m 75 #[.val (.long y0_0), .second, .val (.long y1_0), .second, .val (.long y2_0), .second, .val (.long y3_0), .second, .val (.int x4_0), .val (.int x5_0), .val (.long cx), .second, .val (.long cy), .second, .val (.int s1), .val (.int s2), .val (.ref b1), .unset, .unset, .unset, .unset, .unset, .unset] [(.long cy), (.long cx), (.ref b8), (.ref b8)])) rfl (by rw [hml]; rfl) (Steps.refl _) (a := b8) (argsL := [(.long cx), (.long cy)]) (rest := [(.ref b8)]) (lenOf pd_2 rfl) rfl (by show 2 * 0 + _ ≤ _; exact Nat.le_of_eq rfl) (hb hby at_75) (fun _ _ => ⟨rfl, e8, (by decide : 2 + 0 ≤ _), (by decide : 4 + 0 ≤ _)⟩)
    dsimp only [Pt.U, Pt.locs, Pt.cells, Pt.slots] at X11 l11 y11 z11 st11 hQ11
    subst l11 y11 z11
    obtain ⟨rfl, N11q, K11q, p11_0, p11_1, p11_2⟩ := hQ11
    refine own_step (fun t k => st11.trans k) ?_
    have N12 := Fr.app N5 N11q
    have K13 : Keep h0 T11.heap [] := K9.trans K11q (allS (Or.inr sz_b8) all0)
    show own_Ends p.tables e below s _ _ _ (T11.setTop (mkF m 78 #[.val (.long y0_0), .second, .val (.long y1_0), .second, .val (.long y2_0), .second, .val (.long y3_0), .second, .val (.int x4_0), .val (.int x5_0), .val (.long cx), .second, .val (.long cy), .second, .val (.int s1), .val (.int s2), .val (.ref b1), .unset, .unset, .unset, .unset, .unset, .unset] [(.ref b8)]))
    refine own_step (fun t k => XS.astore X11.here hx rfl (hb hby at_78) rfl rfl (l' := #[.val (.long y0_0), .second, .val (.long y1_0), .second, .val (.long y2_0), .second, .val (.long y3_0), .second, .val (.int x4_0), .val (.int x5_0), .val (.long cx), .second, .val (.long cy), .second, .val (.int s1), .val (.int s2), .val (.ref b1), .val (.ref b8), .unset, .unset, .unset, .unset, .unset]) rfl k) ?_
    show own_Ends p.tables e below s _ _ _ (T11.setTop (mkF m 80 #[.val (.long y0_0), .second, .val (.long y1_0), .second, .val (.long y2_0), .second, .val (.long y3_0), .second, .val (.int x4_0), .val (.int x5_0), .val (.long cx), .second, .val (.long cy), .second, .val (.int s1), .val (.int s2), .val (.ref b1), .val (.ref b8), .unset, .unset, .unset, .unset, .unset] []))
    have O14 : Old Z n0 T11.heap := (O10.keep K11q (allS g_b8 all0))
    have F15 : Exa Z T11.heap b1 "com/example/swanhall/swanhall/core/Cell" := ((p4_0.ext E8).keep K11q)
    obtain ⟨T16, h16, X16, e16, E16, A16, D16, -, st16⟩ := newO X11 hx hZ hown (hw _ (List.mem_of_getElem? (i := 18) rfl)) (hw _ (List.mem_of_getElem? (i := 19) rfl)) (hw _ (List.mem_of_getElem? (i := 20) rfl)) rfl (g := (mkF m 80 #[.val (.long y0_0), .second, .val (.long y1_0), .second, .val (.long y2_0), .second, .val (.long y3_0), .second, .val (.int x4_0), .val (.int x5_0), .val (.long cx), .second, .val (.long cy), .second, .val (.int s1), .val (.int s2), .val (.ref b1), .val (.ref b8), .unset, .unset, .unset, .unset, .unset] [])) rfl (hb hby at_80) (by decide) (by decide)
    obtain ⟨b16, g16⟩ : ∃ z, z = T11.heap.size := ⟨_, rfl⟩
    rw [← g16] at A16 D16 st16
    have g_b16 : n0 ≤ b16 := Nat.le_trans (Nat.le_trans (Nat.le_of_eq O14.1.symm) O14.2.1) (Nat.le_of_eq g16.symm)
    have sz_b16 : h0.size ≤ b16 := Nat.le_trans K13.1 (Nat.le_of_eq g16.symm)
    have ne_b1_b16 : b1 ≠ b16 := Nat.ne_of_lt (Nat.lt_of_lt_of_le F15.lt (Nat.le_of_eq g16.symm))
    have ne_b8_b16 : b8 ≠ b16 := Nat.ne_of_lt (Nat.lt_of_lt_of_le p11_0.lt (Nat.le_of_eq g16.symm))
    have F16_cell : Fld Z h16 b16 "com/example/swanhall/swanhall/core/Edge" "cell" "Lcom/example/swanhall/swanhall/core/Cell;" .null := D16 (Or.inr (hw _ (List.mem_of_getElem? (i := 33) rfl))) (ty := (.object "com/example/swanhall/swanhall/core/Cell")) (by decide)
    have F16_side : Fld Z h16 b16 "com/example/swanhall/swanhall/core/Edge" "side" "Lcom/example/swanhall/swanhall/core/Side;" .null := D16 (Or.inr (hw _ (List.mem_of_getElem? (i := 35) rfl))) (ty := (.object "com/example/swanhall/swanhall/core/Side")) (by decide)
    refine own_step (fun t k => st16 _ k) ?_
    have K17 : Keep h0 h16 [] := K13.ext E16
    show own_Ends p.tables e below s _ _ _ (T16.setTop (mkF m 83 #[.val (.long y0_0), .second, .val (.long y1_0), .second, .val (.long y2_0), .second, .val (.long y3_0), .second, .val (.int x4_0), .val (.int x5_0), .val (.long cx), .second, .val (.long cy), .second, .val (.int s1), .val (.int s2), .val (.ref b1), .val (.ref b8), .unset, .unset, .unset, .unset, .unset] [(.ref b16)]))
    refine own_step (fun t k => XS.dup X16.here hx rfl (hb hby at_83) rfl rfl k) ?_
    show own_Ends p.tables e below s _ _ _ (T16.setTop (mkF m 84 #[.val (.long y0_0), .second, .val (.long y1_0), .second, .val (.long y2_0), .second, .val (.long y3_0), .second, .val (.int x4_0), .val (.int x5_0), .val (.long cx), .second, .val (.long cy), .second, .val (.int s1), .val (.int s2), .val (.ref b1), .val (.ref b8), .unset, .unset, .unset, .unset, .unset] [(.ref b16), (.ref b16)]))
    refine own_step (fun t k => XS.aload X16.here hx rfl (hb hby at_84) rfl rfl k) ?_
    show own_Ends p.tables e below s _ _ _ (T16.setTop (mkF m 86 #[.val (.long y0_0), .second, .val (.long y1_0), .second, .val (.long y2_0), .second, .val (.long y3_0), .second, .val (.int x4_0), .val (.int x5_0), .val (.long cx), .second, .val (.long cy), .second, .val (.int s1), .val (.int s2), .val (.ref b1), .val (.ref b8), .unset, .unset, .unset, .unset, .unset] [(.ref b1), (.ref b16), (.ref b16)]))
    refine own_step (fun t k => XS.iload X16.here hx rfl (hb hby at_86) rfl k) ?_
    show own_Ends p.tables e below s _ _ _ (T16.setTop (mkF m 88 #[.val (.long y0_0), .second, .val (.long y1_0), .second, .val (.long y2_0), .second, .val (.long y3_0), .second, .val (.int x4_0), .val (.int x5_0), .val (.long cx), .second, .val (.long cy), .second, .val (.int s1), .val (.int s2), .val (.ref b1), .val (.ref b8), .unset, .unset, .unset, .unset, .unset] [(.int s1), (.ref b1), (.ref b16), (.ref b16)]))
    have O18 : Old Z n0 h16 := (O14.ext E16)
    obtain ⟨_, _, ⟨T19, L19, k19, n19⟩, -, X19, ⟨Lc19, hQ19, l19, y19, z19⟩, st19⟩ := Jvm.LawKit.callS X16 hx (y := (⟨"com/example/swanhall/swanhall/core/EdgeEqualsPinLaw", "side", "(I)Lcom/example/swanhall/swanhall/core/Side;"⟩ : MethodName)) hown (mvT hZ (hw _ (List.mem_of_getElem? (i := 21) rfl))) (mvT hZ (hw _ (List.mem_of_getElem? (i := 22) rfl))) (mvT hZ (hw _ (List.mem_of_getElem? (i := 23) rfl))) (mvT hZ (hw _ (List.mem_of_getElem? (i := 24) rfl))) (by decide) (backOf (W := 3) (rm4 l Z a0 hw [] s1 w_N w_E w_S w_W h16 n0 O18 S_N S_E S_S S_W) hZ (hw _ (List.mem_of_getElem? (i := 24) rfl)) (hw _ (List.mem_of_getElem? (i := 23) rfl)) (by decide) (by decide)) (g := (mkF m 88 #[.val (.long y0_0), .second, .val (.long y1_0), .second, .val (.long y2_0), .second, .val (.long y3_0), .second, .val (.int x4_0), .val (.int x5_0), .val (.long cx), .second, .val (.long cy), .second, .val (.int s1), .val (.int s2), .val (.ref b1), .val (.ref b8), .unset, .unset, .unset, .unset, .unset] [(.int s1), (.ref b1), (.ref b16), (.ref b16)])) rfl (by rw [hml]; rfl) (argsL := [(.int s1)]) (rest := [(.ref b1), (.ref b16), (.ref b16)]) (lenOf pd_3 rfl) rfl (by show 2 * 0 + _ ≤ _; exact Nat.le_of_eq rfl) (hb hby at_88) (fun _ _ => ⟨rfl, e16, (by decide : 3 + 0 ≤ _), (by decide : 6 + 0 ≤ _)⟩)
    dsimp only [Pt.U, Pt.locs, Pt.cells, Pt.slots] at X19 l19 y19 z19 st19 hQ19
    subst l19 y19 z19
    obtain ⟨rfl, N19q, e19⟩ := hQ19
    refine own_step (fun t k => st19 _ k) ?_
    have N20 := Fr.app N12 N19q
    show own_Ends p.tables e below s _ _ _ (T19.setTop (mkF m 91 #[.val (.long y0_0), .second, .val (.long y1_0), .second, .val (.long y2_0), .second, .val (.long y3_0), .second, .val (.int x4_0), .val (.int x5_0), .val (.long cx), .second, .val (.long cy), .second, .val (.int s1), .val (.int s2), .val (.ref b1), .val (.ref b8), .unset, .unset, .unset, .unset, .unset] [(.ref (own_r4 s1 w_N w_E w_S w_W)), (.ref b1), (.ref b16), (.ref b16)]))
    obtain ⟨_, _, ⟨T21, L21, k21, n21⟩, -, X21, ⟨Lc21, hQ21, l21, y21, z21⟩, st21⟩ := X19.specialBack hx (y := (⟨"com/example/swanhall/swanhall/core/Edge", "<init>", "(Lcom/example/swanhall/swanhall/core/Cell;Lcom/example/swanhall/swanhall/core/Side;)V"⟩ : MethodName)) rfl hown (mvT hZ (hw _ (List.mem_of_getElem? (i := 28) rfl))) (mvT hZ (hw _ (List.mem_of_getElem? (i := 29) rfl))) (mvT hZ (hw _ (List.mem_of_getElem? (i := 30) rfl))) (by decide) (backOf (W := 1) (rm5 l Z a0 hw [] b16 b1 (own_r4 s1 w_N w_E w_S w_W) .null .null h16 n0 O18 A16 F16_cell g_b16 F16_side) hZ (hw _ (List.mem_of_getElem? (i := 30) rfl)) (hw _ (List.mem_of_getElem? (i := 20) rfl)) (by decide) (by decide)) (g := (mkF m 91 #[.val (.long y0_0), .second, .val (.long y1_0), .second, .val (.long y2_0), .second, .val (.long y3_0), .second, .val (.int x4_0), .val (.int x5_0), .val (.long cx), .second, .val (.long cy), .second, .val (.int s1), .val (.int s2), .val (.ref b1), .val (.ref b8), .unset, .unset, .unset, .unset, .unset] [(.ref (own_r4 s1 w_N w_E w_S w_W)), (.ref b1), (.ref b16), (.ref b16)])) rfl (by rw [hml]; rfl) (Steps.refl _) (a := b16) (argsL := [(.ref b1), (.ref (own_r4 s1 w_N w_E w_S w_W))]) (rest := [(.ref b16)]) (lenOf pd_4 rfl) rfl (by show 2 * 0 + _ ≤ _; exact Nat.le_of_eq rfl) (hb hby at_91) (fun _ _ => ⟨rfl, e19, (by decide : 3 + 0 ≤ _), (by decide : 6 + 0 ≤ _)⟩)
    dsimp only [Pt.U, Pt.locs, Pt.cells, Pt.slots] at X21 l21 y21 z21 st21 hQ21
    subst l21 y21 z21
    obtain ⟨rfl, N21q, K21q, p21_0, p21_1, p21_2⟩ := hQ21
    refine own_step (fun t k => st21.trans k) ?_
    have N22 := Fr.app N20 N21q
    have K23 : Keep h0 T21.heap [] := K17.trans K21q (allS (Or.inr sz_b16) all0)
    show own_Ends p.tables e below s _ _ _ (T21.setTop (mkF m 94 #[.val (.long y0_0), .second, .val (.long y1_0), .second, .val (.long y2_0), .second, .val (.long y3_0), .second, .val (.int x4_0), .val (.int x5_0), .val (.long cx), .second, .val (.long cy), .second, .val (.int s1), .val (.int s2), .val (.ref b1), .val (.ref b8), .unset, .unset, .unset, .unset, .unset] [(.ref b16)]))
    refine own_step (fun t k => XS.astore X21.here hx rfl (hb hby at_94) rfl rfl (l' := #[.val (.long y0_0), .second, .val (.long y1_0), .second, .val (.long y2_0), .second, .val (.long y3_0), .second, .val (.int x4_0), .val (.int x5_0), .val (.long cx), .second, .val (.long cy), .second, .val (.int s1), .val (.int s2), .val (.ref b1), .val (.ref b8), .val (.ref b16), .unset, .unset, .unset, .unset]) rfl k) ?_
    show own_Ends p.tables e below s _ _ _ (T21.setTop (mkF m 96 #[.val (.long y0_0), .second, .val (.long y1_0), .second, .val (.long y2_0), .second, .val (.long y3_0), .second, .val (.int x4_0), .val (.int x5_0), .val (.long cx), .second, .val (.long cy), .second, .val (.int s1), .val (.int s2), .val (.ref b1), .val (.ref b8), .val (.ref b16), .unset, .unset, .unset, .unset] []))
    have O24 : Old Z n0 T21.heap := (O18.keep K21q (allS g_b16 all0))
    have F25 : Exa Z T21.heap b1 "com/example/swanhall/swanhall/core/Cell" := ((F15.ext E16).keep K21q)
    have F26 : Exa Z T21.heap b8 "com/example/swanhall/swanhall/core/Cell" := ((p11_0.ext E16).keep K21q)
    obtain ⟨T27, h27, X27, e27, E27, A27, D27, -, st27⟩ := newO X21 hx hZ hown (hw _ (List.mem_of_getElem? (i := 18) rfl)) (hw _ (List.mem_of_getElem? (i := 19) rfl)) (hw _ (List.mem_of_getElem? (i := 20) rfl)) rfl (g := (mkF m 96 #[.val (.long y0_0), .second, .val (.long y1_0), .second, .val (.long y2_0), .second, .val (.long y3_0), .second, .val (.int x4_0), .val (.int x5_0), .val (.long cx), .second, .val (.long cy), .second, .val (.int s1), .val (.int s2), .val (.ref b1), .val (.ref b8), .val (.ref b16), .unset, .unset, .unset, .unset] [])) rfl (hb hby at_96) (by decide) (by decide)
    obtain ⟨b27, g27⟩ : ∃ z, z = T21.heap.size := ⟨_, rfl⟩
    rw [← g27] at A27 D27 st27
    have g_b27 : n0 ≤ b27 := Nat.le_trans (Nat.le_trans (Nat.le_of_eq O24.1.symm) O24.2.1) (Nat.le_of_eq g27.symm)
    have sz_b27 : h0.size ≤ b27 := Nat.le_trans K23.1 (Nat.le_of_eq g27.symm)
    have ne_b1_b27 : b1 ≠ b27 := Nat.ne_of_lt (Nat.lt_of_lt_of_le F25.lt (Nat.le_of_eq g27.symm))
    have ne_b8_b27 : b8 ≠ b27 := Nat.ne_of_lt (Nat.lt_of_lt_of_le F26.lt (Nat.le_of_eq g27.symm))
    have ne_b16_b27 : b16 ≠ b27 := Nat.ne_of_lt (Nat.lt_of_lt_of_le p21_0.lt (Nat.le_of_eq g27.symm))
    have F27_cell : Fld Z h27 b27 "com/example/swanhall/swanhall/core/Edge" "cell" "Lcom/example/swanhall/swanhall/core/Cell;" .null := D27 (Or.inr (hw _ (List.mem_of_getElem? (i := 33) rfl))) (ty := (.object "com/example/swanhall/swanhall/core/Cell")) (by decide)
    have F27_side : Fld Z h27 b27 "com/example/swanhall/swanhall/core/Edge" "side" "Lcom/example/swanhall/swanhall/core/Side;" .null := D27 (Or.inr (hw _ (List.mem_of_getElem? (i := 35) rfl))) (ty := (.object "com/example/swanhall/swanhall/core/Side")) (by decide)
    refine own_step (fun t k => st27 _ k) ?_
    have K28 : Keep h0 h27 [] := K23.ext E27
    show own_Ends p.tables e below s _ _ _ (T27.setTop (mkF m 99 #[.val (.long y0_0), .second, .val (.long y1_0), .second, .val (.long y2_0), .second, .val (.long y3_0), .second, .val (.int x4_0), .val (.int x5_0), .val (.long cx), .second, .val (.long cy), .second, .val (.int s1), .val (.int s2), .val (.ref b1), .val (.ref b8), .val (.ref b16), .unset, .unset, .unset, .unset] [(.ref b27)]))
    refine own_step (fun t k => XS.dup X27.here hx rfl (hb hby at_99) rfl rfl k) ?_
    show own_Ends p.tables e below s _ _ _ (T27.setTop (mkF m 100 #[.val (.long y0_0), .second, .val (.long y1_0), .second, .val (.long y2_0), .second, .val (.long y3_0), .second, .val (.int x4_0), .val (.int x5_0), .val (.long cx), .second, .val (.long cy), .second, .val (.int s1), .val (.int s2), .val (.ref b1), .val (.ref b8), .val (.ref b16), .unset, .unset, .unset, .unset] [(.ref b27), (.ref b27)]))
    refine own_step (fun t k => XS.aload X27.here hx rfl (hb hby at_100) rfl rfl k) ?_
    show own_Ends p.tables e below s _ _ _ (T27.setTop (mkF m 102 #[.val (.long y0_0), .second, .val (.long y1_0), .second, .val (.long y2_0), .second, .val (.long y3_0), .second, .val (.int x4_0), .val (.int x5_0), .val (.long cx), .second, .val (.long cy), .second, .val (.int s1), .val (.int s2), .val (.ref b1), .val (.ref b8), .val (.ref b16), .unset, .unset, .unset, .unset] [(.ref b8), (.ref b27), (.ref b27)]))
    refine own_step (fun t k => XS.iload X27.here hx rfl (hb hby at_102) rfl k) ?_
    show own_Ends p.tables e below s _ _ _ (T27.setTop (mkF m 104 #[.val (.long y0_0), .second, .val (.long y1_0), .second, .val (.long y2_0), .second, .val (.long y3_0), .second, .val (.int x4_0), .val (.int x5_0), .val (.long cx), .second, .val (.long cy), .second, .val (.int s1), .val (.int s2), .val (.ref b1), .val (.ref b8), .val (.ref b16), .unset, .unset, .unset, .unset] [(.int s2), (.ref b8), (.ref b27), (.ref b27)]))
    have O29 : Old Z n0 h27 := (O24.ext E27)
    obtain ⟨_, _, ⟨T30, L30, k30, n30⟩, -, X30, ⟨Lc30, hQ30, l30, y30, z30⟩, st30⟩ := Jvm.LawKit.callS X27 hx (y := (⟨"com/example/swanhall/swanhall/core/EdgeEqualsPinLaw", "side", "(I)Lcom/example/swanhall/swanhall/core/Side;"⟩ : MethodName)) hown (mvT hZ (hw _ (List.mem_of_getElem? (i := 21) rfl))) (mvT hZ (hw _ (List.mem_of_getElem? (i := 22) rfl))) (mvT hZ (hw _ (List.mem_of_getElem? (i := 23) rfl))) (mvT hZ (hw _ (List.mem_of_getElem? (i := 24) rfl))) (by decide) (backOf (W := 3) (rm4 l Z a0 hw [] s2 w_N w_E w_S w_W h27 n0 O29 S_N S_E S_S S_W) hZ (hw _ (List.mem_of_getElem? (i := 24) rfl)) (hw _ (List.mem_of_getElem? (i := 23) rfl)) (by decide) (by decide)) (g := (mkF m 104 #[.val (.long y0_0), .second, .val (.long y1_0), .second, .val (.long y2_0), .second, .val (.long y3_0), .second, .val (.int x4_0), .val (.int x5_0), .val (.long cx), .second, .val (.long cy), .second, .val (.int s1), .val (.int s2), .val (.ref b1), .val (.ref b8), .val (.ref b16), .unset, .unset, .unset, .unset] [(.int s2), (.ref b8), (.ref b27), (.ref b27)])) rfl (by rw [hml]; rfl) (argsL := [(.int s2)]) (rest := [(.ref b8), (.ref b27), (.ref b27)]) (lenOf pd_3 rfl) rfl (by show 2 * 0 + _ ≤ _; exact Nat.le_of_eq rfl) (hb hby at_104) (fun _ _ => ⟨rfl, e27, (by decide : 4 + 0 ≤ _), (by decide : 8 + 0 ≤ _)⟩)
    dsimp only [Pt.U, Pt.locs, Pt.cells, Pt.slots] at X30 l30 y30 z30 st30 hQ30
    subst l30 y30 z30
    obtain ⟨rfl, N30q, e30⟩ := hQ30
    refine own_step (fun t k => st30 _ k) ?_
    have N31 := Fr.app N22 N30q
    show own_Ends p.tables e below s _ _ _ (T30.setTop (mkF m 107 #[.val (.long y0_0), .second, .val (.long y1_0), .second, .val (.long y2_0), .second, .val (.long y3_0), .second, .val (.int x4_0), .val (.int x5_0), .val (.long cx), .second, .val (.long cy), .second, .val (.int s1), .val (.int s2), .val (.ref b1), .val (.ref b8), .val (.ref b16), .unset, .unset, .unset, .unset] [(.ref (own_r4 s2 w_N w_E w_S w_W)), (.ref b8), (.ref b27), (.ref b27)]))
    obtain ⟨_, _, ⟨T32, L32, k32, n32⟩, -, X32, ⟨Lc32, hQ32, l32, y32, z32⟩, st32⟩ := X30.specialBack hx (y := (⟨"com/example/swanhall/swanhall/core/Edge", "<init>", "(Lcom/example/swanhall/swanhall/core/Cell;Lcom/example/swanhall/swanhall/core/Side;)V"⟩ : MethodName)) rfl hown (mvT hZ (hw _ (List.mem_of_getElem? (i := 28) rfl))) (mvT hZ (hw _ (List.mem_of_getElem? (i := 29) rfl))) (mvT hZ (hw _ (List.mem_of_getElem? (i := 30) rfl))) (by decide) (backOf (W := 1) (rm5 l Z a0 hw [] b27 b8 (own_r4 s2 w_N w_E w_S w_W) .null .null h27 n0 O29 A27 F27_cell g_b27 F27_side) hZ (hw _ (List.mem_of_getElem? (i := 30) rfl)) (hw _ (List.mem_of_getElem? (i := 20) rfl)) (by decide) (by decide)) (g := (mkF m 107 #[.val (.long y0_0), .second, .val (.long y1_0), .second, .val (.long y2_0), .second, .val (.long y3_0), .second, .val (.int x4_0), .val (.int x5_0), .val (.long cx), .second, .val (.long cy), .second, .val (.int s1), .val (.int s2), .val (.ref b1), .val (.ref b8), .val (.ref b16), .unset, .unset, .unset, .unset] [(.ref (own_r4 s2 w_N w_E w_S w_W)), (.ref b8), (.ref b27), (.ref b27)])) rfl (by rw [hml]; rfl) (Steps.refl _) (a := b27) (argsL := [(.ref b8), (.ref (own_r4 s2 w_N w_E w_S w_W))]) (rest := [(.ref b27)]) (lenOf pd_4 rfl) rfl (by show 2 * 0 + _ ≤ _; exact Nat.le_of_eq rfl) (hb hby at_107) (fun _ _ => ⟨rfl, e30, (by decide : 4 + 0 ≤ _), (by decide : 8 + 0 ≤ _)⟩)
    dsimp only [Pt.U, Pt.locs, Pt.cells, Pt.slots] at X32 l32 y32 z32 st32 hQ32
    subst l32 y32 z32
    obtain ⟨rfl, N32q, K32q, p32_0, p32_1, p32_2⟩ := hQ32
    refine own_step (fun t k => st32.trans k) ?_
    have N33 := Fr.app N31 N32q
    have K34 : Keep h0 T32.heap [] := K28.trans K32q (allS (Or.inr sz_b27) all0)
    show own_Ends p.tables e below s _ _ _ (T32.setTop (mkF m 110 #[.val (.long y0_0), .second, .val (.long y1_0), .second, .val (.long y2_0), .second, .val (.long y3_0), .second, .val (.int x4_0), .val (.int x5_0), .val (.long cx), .second, .val (.long cy), .second, .val (.int s1), .val (.int s2), .val (.ref b1), .val (.ref b8), .val (.ref b16), .unset, .unset, .unset, .unset] [(.ref b27)]))
    refine own_step (fun t k => XS.astore X32.here hx rfl (hb hby at_110) rfl rfl (l' := #[.val (.long y0_0), .second, .val (.long y1_0), .second, .val (.long y2_0), .second, .val (.long y3_0), .second, .val (.int x4_0), .val (.int x5_0), .val (.long cx), .second, .val (.long cy), .second, .val (.int s1), .val (.int s2), .val (.ref b1), .val (.ref b8), .val (.ref b16), .val (.ref b27), .unset, .unset, .unset]) rfl k) ?_
    show own_Ends p.tables e below s _ _ _ (T32.setTop (mkF m 112 #[.val (.long y0_0), .second, .val (.long y1_0), .second, .val (.long y2_0), .second, .val (.long y3_0), .second, .val (.int x4_0), .val (.int x5_0), .val (.long cx), .second, .val (.long cy), .second, .val (.int s1), .val (.int s2), .val (.ref b1), .val (.ref b8), .val (.ref b16), .val (.ref b27), .unset, .unset, .unset] []))
    refine own_step (fun t k => XS.lloadN X32.here hx rfl (hb hby at_112) rfl k) ?_
    show own_Ends p.tables e below s _ _ _ (T32.setTop (mkF m 113 #[.val (.long y0_0), .second, .val (.long y1_0), .second, .val (.long y2_0), .second, .val (.long y3_0), .second, .val (.int x4_0), .val (.int x5_0), .val (.long cx), .second, .val (.long cy), .second, .val (.int s1), .val (.int s2), .val (.ref b1), .val (.ref b8), .val (.ref b16), .val (.ref b27), .unset, .unset, .unset] [(.long y0_0)]))
    refine own_step (fun t k => XS.lload X32.here hx rfl (hb hby at_113) rfl k) ?_
    show own_Ends p.tables e below s _ _ _ (T32.setTop (mkF m 115 #[.val (.long y0_0), .second, .val (.long y1_0), .second, .val (.long y2_0), .second, .val (.long y3_0), .second, .val (.int x4_0), .val (.int x5_0), .val (.long cx), .second, .val (.long cy), .second, .val (.int s1), .val (.int s2), .val (.ref b1), .val (.ref b8), .val (.ref b16), .val (.ref b27), .unset, .unset, .unset] [(.long cx), (.long y0_0)]))
    refine own_step (fun t k => XS.lcmp X32.here hx rfl (hb hby at_115) rfl k) ?_
    show own_Ends p.tables e below s _ _ _ (T32.setTop (mkF m 116 #[.val (.long y0_0), .second, .val (.long y1_0), .second, .val (.long y2_0), .second, .val (.long y3_0), .second, .val (.int x4_0), .val (.int x5_0), .val (.long cx), .second, .val (.long cy), .second, .val (.int s1), .val (.int s2), .val (.ref b1), .val (.ref b8), .val (.ref b16), .val (.ref b27), .unset, .unset, .unset] [(.int (lcmpW y0_0 cx))]))
    by_cases hc116_35 : (lcmpW y0_0 cx) = (0 : Int32)
    · skip
      refine own_step (fun t k => XS.ifNo X32.here hx rfl (hb hby at_116) rfl ((if0 _ _).trans (teq hc116_35).2) k) ?_
      show own_Ends p.tables e below s _ _ _ (T32.setTop (mkF m 119 #[.val (.long y0_0), .second, .val (.long y1_0), .second, .val (.long y2_0), .second, .val (.long y3_0), .second, .val (.int x4_0), .val (.int x5_0), .val (.long cx), .second, .val (.long cy), .second, .val (.int s1), .val (.int s2), .val (.ref b1), .val (.ref b8), .val (.ref b16), .val (.ref b27), .unset, .unset, .unset] []))
      refine own_step (fun t k => XS.lloadN X32.here hx rfl (hb hby at_119) rfl k) ?_
      show own_Ends p.tables e below s _ _ _ (T32.setTop (mkF m 120 #[.val (.long y0_0), .second, .val (.long y1_0), .second, .val (.long y2_0), .second, .val (.long y3_0), .second, .val (.int x4_0), .val (.int x5_0), .val (.long cx), .second, .val (.long cy), .second, .val (.int s1), .val (.int s2), .val (.ref b1), .val (.ref b8), .val (.ref b16), .val (.ref b27), .unset, .unset, .unset] [(.long y1_0)]))
      refine own_step (fun t k => XS.lload X32.here hx rfl (hb hby at_120) rfl k) ?_
      show own_Ends p.tables e below s _ _ _ (T32.setTop (mkF m 122 #[.val (.long y0_0), .second, .val (.long y1_0), .second, .val (.long y2_0), .second, .val (.long y3_0), .second, .val (.int x4_0), .val (.int x5_0), .val (.long cx), .second, .val (.long cy), .second, .val (.int s1), .val (.int s2), .val (.ref b1), .val (.ref b8), .val (.ref b16), .val (.ref b27), .unset, .unset, .unset] [(.long cy), (.long y1_0)]))
      refine own_step (fun t k => XS.lcmp X32.here hx rfl (hb hby at_122) rfl k) ?_
      show own_Ends p.tables e below s _ _ _ (T32.setTop (mkF m 123 #[.val (.long y0_0), .second, .val (.long y1_0), .second, .val (.long y2_0), .second, .val (.long y3_0), .second, .val (.int x4_0), .val (.int x5_0), .val (.long cx), .second, .val (.long cy), .second, .val (.int s1), .val (.int s2), .val (.ref b1), .val (.ref b8), .val (.ref b16), .val (.ref b27), .unset, .unset, .unset] [(.int (lcmpW y1_0 cy))]))
      by_cases hc123_36 : (lcmpW y1_0 cy) = (0 : Int32)
      · skip
        refine own_step (fun t k => XS.ifNo X32.here hx rfl (hb hby at_123) rfl ((if0 _ _).trans (teq hc123_36).2) k) ?_
        show own_Ends p.tables e below s _ _ _ (T32.setTop (mkF m 126 #[.val (.long y0_0), .second, .val (.long y1_0), .second, .val (.long y2_0), .second, .val (.long y3_0), .second, .val (.int x4_0), .val (.int x5_0), .val (.long cx), .second, .val (.long cy), .second, .val (.int s1), .val (.int s2), .val (.ref b1), .val (.ref b8), .val (.ref b16), .val (.ref b27), .unset, .unset, .unset] []))
        refine own_step (fun t k => XS.iload X32.here hx rfl (hb hby at_126) rfl k) ?_
        show own_Ends p.tables e below s _ _ _ (T32.setTop (mkF m 128 #[.val (.long y0_0), .second, .val (.long y1_0), .second, .val (.long y2_0), .second, .val (.long y3_0), .second, .val (.int x4_0), .val (.int x5_0), .val (.long cx), .second, .val (.long cy), .second, .val (.int s1), .val (.int s2), .val (.ref b1), .val (.ref b8), .val (.ref b16), .val (.ref b27), .unset, .unset, .unset] [(.int s1)]))
        refine own_step (fun t k => XS.iload X32.here hx rfl (hb hby at_128) rfl k) ?_
        show own_Ends p.tables e below s _ _ _ (T32.setTop (mkF m 130 #[.val (.long y0_0), .second, .val (.long y1_0), .second, .val (.long y2_0), .second, .val (.long y3_0), .second, .val (.int x4_0), .val (.int x5_0), .val (.long cx), .second, .val (.long cy), .second, .val (.int s1), .val (.int s2), .val (.ref b1), .val (.ref b8), .val (.ref b16), .val (.ref b27), .unset, .unset, .unset] [(.int s2), (.int s1)]))
        by_cases hc130_37 : s1 = s2
        · skip
          refine own_step (fun t k => XS.icmpNo X32.here hx rfl (hb hby at_130) rfl (teq hc130_37).2 k) ?_
          show own_Ends p.tables e below s _ _ _ (T32.setTop (mkF m 133 #[.val (.long y0_0), .second, .val (.long y1_0), .second, .val (.long y2_0), .second, .val (.long y3_0), .second, .val (.int x4_0), .val (.int x5_0), .val (.long cx), .second, .val (.long cy), .second, .val (.int s1), .val (.int s2), .val (.ref b1), .val (.ref b8), .val (.ref b16), .val (.ref b27), .unset, .unset, .unset] []))
          refine own_step (fun t k => XS.iconst X32.here hx rfl (hb hby at_133) k) ?_
          show own_Ends p.tables e below s _ _ _ (T32.setTop (mkF m 134 #[.val (.long y0_0), .second, .val (.long y1_0), .second, .val (.long y2_0), .second, .val (.long y3_0), .second, .val (.int x4_0), .val (.int x5_0), .val (.long cx), .second, .val (.long cy), .second, .val (.int s1), .val (.int s2), .val (.ref b1), .val (.ref b8), .val (.ref b16), .val (.ref b27), .unset, .unset, .unset] [(.int (1 : Int32))]))
          refine own_step (fun t k => XS.goto X32.here hx rfl (pc0 := 134) (pc' := 138) rfl (hb hby at_134) (by decide) (by decide) k) ?_
          show own_Ends p.tables e below s _ _ _ (T32.setTop (mkF m 138 #[.val (.long y0_0), .second, .val (.long y1_0), .second, .val (.long y2_0), .second, .val (.long y3_0), .second, .val (.int x4_0), .val (.int x5_0), .val (.long cx), .second, .val (.long cy), .second, .val (.int s1), .val (.int s2), .val (.ref b1), .val (.ref b8), .val (.ref b16), .val (.ref b27), .unset, .unset, .unset] [(.int (1 : Int32))]))
          refine own_step (fun t k => XS.istore X32.here hx rfl (hb hby at_138) rfl (l' := #[.val (.long y0_0), .second, .val (.long y1_0), .second, .val (.long y2_0), .second, .val (.long y3_0), .second, .val (.int x4_0), .val (.int x5_0), .val (.long cx), .second, .val (.long cy), .second, .val (.int s1), .val (.int s2), .val (.ref b1), .val (.ref b8), .val (.ref b16), .val (.ref b27), .val (.int (1 : Int32)), .unset, .unset]) rfl k) ?_
          show own_Ends p.tables e below s _ _ _ (T32.setTop (mkF m 140 #[.val (.long y0_0), .second, .val (.long y1_0), .second, .val (.long y2_0), .second, .val (.long y3_0), .second, .val (.int x4_0), .val (.int x5_0), .val (.long cx), .second, .val (.long cy), .second, .val (.int s1), .val (.int s2), .val (.ref b1), .val (.ref b8), .val (.ref b16), .val (.ref b27), .val (.int (1 : Int32)), .unset, .unset] []))
          refine own_step (fun t k => XS.aload X32.here hx rfl (hb hby at_140) rfl rfl k) ?_
          show own_Ends p.tables e below s _ _ _ (T32.setTop (mkF m 142 #[.val (.long y0_0), .second, .val (.long y1_0), .second, .val (.long y2_0), .second, .val (.long y3_0), .second, .val (.int x4_0), .val (.int x5_0), .val (.long cx), .second, .val (.long cy), .second, .val (.int s1), .val (.int s2), .val (.ref b1), .val (.ref b8), .val (.ref b16), .val (.ref b27), .val (.int (1 : Int32)), .unset, .unset] [(.ref b1)]))
          refine own_step (fun t k => XS.astore X32.here hx rfl (hb hby at_142) rfl rfl (l' := #[.val (.long y0_0), .second, .val (.long y1_0), .second, .val (.long y2_0), .second, .val (.long y3_0), .second, .val (.int x4_0), .val (.int x5_0), .val (.long cx), .second, .val (.long cy), .second, .val (.int s1), .val (.int s2), .val (.ref b1), .val (.ref b8), .val (.ref b16), .val (.ref b27), .val (.int (1 : Int32)), .val (.ref b1), .unset]) rfl k) ?_
          show own_Ends p.tables e below s _ _ _ (T32.setTop (mkF m 144 #[.val (.long y0_0), .second, .val (.long y1_0), .second, .val (.long y2_0), .second, .val (.long y3_0), .second, .val (.int x4_0), .val (.int x5_0), .val (.long cx), .second, .val (.long cy), .second, .val (.int s1), .val (.int s2), .val (.ref b1), .val (.ref b8), .val (.ref b16), .val (.ref b27), .val (.int (1 : Int32)), .val (.ref b1), .unset] []))
          refine own_step (fun t k => XS.aconstNull X32.here hx rfl (hb hby at_144) k) ?_
          show own_Ends p.tables e below s _ _ _ (T32.setTop (mkF m 145 #[.val (.long y0_0), .second, .val (.long y1_0), .second, .val (.long y2_0), .second, .val (.long y3_0), .second, .val (.int x4_0), .val (.int x5_0), .val (.long cx), .second, .val (.long cy), .second, .val (.int s1), .val (.int s2), .val (.ref b1), .val (.ref b8), .val (.ref b16), .val (.ref b27), .val (.int (1 : Int32)), .val (.ref b1), .unset] [.null]))
          refine own_step (fun t k => XS.astore X32.here hx rfl (hb hby at_145) rfl rfl (l' := #[.val (.long y0_0), .second, .val (.long y1_0), .second, .val (.long y2_0), .second, .val (.long y3_0), .second, .val (.int x4_0), .val (.int x5_0), .val (.long cx), .second, .val (.long cy), .second, .val (.int s1), .val (.int s2), .val (.ref b1), .val (.ref b8), .val (.ref b16), .val (.ref b27), .val (.int (1 : Int32)), .val (.ref b1), .val .null]) rfl k) ?_
          show own_Ends p.tables e below s _ _ _ (T32.setTop (mkF m 147 #[.val (.long y0_0), .second, .val (.long y1_0), .second, .val (.long y2_0), .second, .val (.long y3_0), .second, .val (.int x4_0), .val (.int x5_0), .val (.long cx), .second, .val (.long cy), .second, .val (.int s1), .val (.int s2), .val (.ref b1), .val (.ref b8), .val (.ref b16), .val (.ref b27), .val (.int (1 : Int32)), .val (.ref b1), .val .null] []))
          refine own_step (fun t k => XS.aload X32.here hx rfl (hb hby at_147) rfl rfl k) ?_
          show own_Ends p.tables e below s _ _ _ (T32.setTop (mkF m 149 #[.val (.long y0_0), .second, .val (.long y1_0), .second, .val (.long y2_0), .second, .val (.long y3_0), .second, .val (.int x4_0), .val (.int x5_0), .val (.long cx), .second, .val (.long cy), .second, .val (.int s1), .val (.int s2), .val (.ref b1), .val (.ref b8), .val (.ref b16), .val (.ref b27), .val (.int (1 : Int32)), .val (.ref b1), .val .null] [(.ref b16)]))
          refine own_step (fun t k => XS.aload X32.here hx rfl (hb hby at_149) rfl rfl k) ?_
          show own_Ends p.tables e below s _ _ _ (T32.setTop (mkF m 151 #[.val (.long y0_0), .second, .val (.long y1_0), .second, .val (.long y2_0), .second, .val (.long y3_0), .second, .val (.int x4_0), .val (.int x5_0), .val (.long cx), .second, .val (.long cy), .second, .val (.int s1), .val (.int s2), .val (.ref b1), .val (.ref b8), .val (.ref b16), .val (.ref b27), .val (.int (1 : Int32)), .val (.ref b1), .val .null] [(.ref b27), (.ref b16)]))
          have F38 : Fld Z T32.heap b16 "com/example/swanhall/swanhall/core/Edge" "side" "Lcom/example/swanhall/swanhall/core/Side;" (.ref (own_r4 s1 w_N w_E w_S w_W)) := ((p21_2.ext E27).keep K32q (ninS ne_b16_b27 nin0))
          have F39 : Fld Z T32.heap b16 "com/example/swanhall/swanhall/core/Edge" "cell" "Lcom/example/swanhall/swanhall/core/Cell;" (.ref b1) := ((p21_1.ext E27).keep K32q (ninS ne_b16_b27 nin0))
          have F40 : Exa Z T32.heap b1 "com/example/swanhall/swanhall/core/Cell" := ((F25.ext E27).keep K32q)
          have F41 : Fld Z T32.heap b1 "com/example/swanhall/swanhall/core/Cell" "x" "J" (.long y0_0) := ((((((p4_1.ext E8).keep K11q (ninS ne_b1_b8 nin0)).ext E16).keep K21q (ninS ne_b1_b16 nin0)).ext E27).keep K32q (ninS ne_b1_b27 nin0))
          have F42 : Fld Z T32.heap b8 "com/example/swanhall/swanhall/core/Cell" "x" "J" (.long cx) := ((((p11_1.ext E16).keep K21q (ninS ne_b8_b16 nin0)).ext E27).keep K32q (ninS ne_b8_b27 nin0))
          have F43 : Fld Z T32.heap b1 "com/example/swanhall/swanhall/core/Cell" "y" "J" (.long y1_0) := ((((((p4_2.ext E8).keep K11q (ninS ne_b1_b8 nin0)).ext E16).keep K21q (ninS ne_b1_b16 nin0)).ext E27).keep K32q (ninS ne_b1_b27 nin0))
          have F44 : Fld Z T32.heap b8 "com/example/swanhall/swanhall/core/Cell" "y" "J" (.long cy) := ((((p11_2.ext E16).keep K21q (ninS ne_b8_b16 nin0)).ext E27).keep K32q (ninS ne_b8_b27 nin0))
          have F45 : Exa Z T32.heap b8 "com/example/swanhall/swanhall/core/Cell" := ((F26.ext E27).keep K32q)
          have O46 : Old Z n0 T32.heap := (O29.keep K32q (allS g_b27 all0))
          have F48 : Exa Z T32.heap b16 "com/example/swanhall/swanhall/core/Edge" := ((p21_0.ext E27).keep K32q)
          obtain ⟨cq47, kq47, q47a, q47b, q47c⟩ := isOf hZ rfl F48
          obtain ⟨_, _, ⟨T47, L47, k47, n47⟩, -, X47, ⟨Lc47, hQ47, l47, y47, z47⟩, st47⟩ := X32.virtualBack hx (y := (⟨"com/example/swanhall/swanhall/core/Edge", "equals", "(Ljava/lang/Object;)Z"⟩ : MethodName)) (z := (⟨"com/example/swanhall/swanhall/core/Edge", "equals", "(Ljava/lang/Object;)Z"⟩ : MethodName)) hown (mvT hZ (hw _ (List.mem_of_getElem? (i := 38) rfl))) (mvT hZ (hw _ (List.mem_of_getElem? (i := 39) rfl))) (notFace_of_selects (args := #[]) (mvT hZ (hw _ (List.mem_of_getElem? (i := 41) rfl)))) (mvT hZ (hw _ (List.mem_of_getElem? (i := 41) rfl))) (mvT hZ (hw _ (List.mem_of_getElem? (i := 40) rfl))) (by decide) (backOf (W := 0) (rm6 l Z a0 hw [] b16 b27 (own_r4 s2 w_N w_E w_S w_W) (own_r4 s1 w_N w_E w_S w_W) b8 b1 y0_0 cx y1_0 cy T32.heap n0 O46 p32_0 p32_2 F38 p32_1 F39 F40 F41 F42 F43 F44 F45) hZ (hw _ (List.mem_of_getElem? (i := 42) rfl)) (hw _ (List.mem_of_getElem? (i := 20) rfl)) (by decide) (by decide)) q47a q47c (g := (mkF m 151 #[.val (.long y0_0), .second, .val (.long y1_0), .second, .val (.long y2_0), .second, .val (.long y3_0), .second, .val (.int x4_0), .val (.int x5_0), .val (.long cx), .second, .val (.long cy), .second, .val (.int s1), .val (.int s2), .val (.ref b1), .val (.ref b8), .val (.ref b16), .val (.ref b27), .val (.int (1 : Int32)), .val (.ref b1), .val .null] [(.ref b27), (.ref b16)])) rfl (by rw [hml]; rfl) (Steps.refl _) (argsL := [(.ref b27)]) (rest := []) (lenOf pd_1 rfl) rfl (by show 2 * 0 + _ ≤ _; exact Nat.le_of_eq rfl) (hb hby at_151) (fun _ _ => ⟨rfl, rfl, (by decide : 4 + 0 ≤ _), (by decide : 8 + 0 ≤ _)⟩)
          dsimp only [Pt.U, Pt.locs, Pt.cells, Pt.slots] at X47 l47 y47 z47 st47 hQ47
          subst l47 y47 z47
          obtain ⟨rfl, N47q, e47⟩ := hQ47
          refine own_step (fun t k => st47.trans k) ?_
          have N49 := Fr.app N33 N47q
          show own_Ends p.tables e below s _ _ _ (T47.setTop (mkF m 154 #[.val (.long y0_0), .second, .val (.long y1_0), .second, .val (.long y2_0), .second, .val (.long y3_0), .second, .val (.int x4_0), .val (.int x5_0), .val (.long cx), .second, .val (.long cy), .second, .val (.int s1), .val (.int s2), .val (.ref b1), .val (.ref b8), .val (.ref b16), .val (.ref b27), .val (.int (1 : Int32)), .val (.ref b1), .val .null] [(.int (own_r6 (own_r4 s2 w_N w_E w_S w_W) (own_r4 s1 w_N w_E w_S w_W) y0_0 cx y1_0 cy))]))
          refine own_step (fun t k => XS.iload X47.here hx rfl (hb hby at_154) rfl k) ?_
          show own_Ends p.tables e below s _ _ _ (T47.setTop (mkF m 156 #[.val (.long y0_0), .second, .val (.long y1_0), .second, .val (.long y2_0), .second, .val (.long y3_0), .second, .val (.int x4_0), .val (.int x5_0), .val (.long cx), .second, .val (.long cy), .second, .val (.int s1), .val (.int s2), .val (.ref b1), .val (.ref b8), .val (.ref b16), .val (.ref b27), .val (.int (1 : Int32)), .val (.ref b1), .val .null] [(.int (1 : Int32)), (.int (own_r6 (own_r4 s2 w_N w_E w_S w_W) (own_r4 s1 w_N w_E w_S w_W) y0_0 cx y1_0 cy))]))
          by_cases hc156_50 : (own_r6 (own_r4 s2 w_N w_E w_S w_W) (own_r4 s1 w_N w_E w_S w_W) y0_0 cx y1_0 cy) = (1 : Int32)
          · skip
            refine own_step (fun t k => XS.icmpNo X47.here hx rfl (hb hby at_156) rfl (teq hc156_50).2 k) ?_
            show own_Ends p.tables e below s _ _ _ (T47.setTop (mkF m 159 #[.val (.long y0_0), .second, .val (.long y1_0), .second, .val (.long y2_0), .second, .val (.long y3_0), .second, .val (.int x4_0), .val (.int x5_0), .val (.long cx), .second, .val (.long cy), .second, .val (.int s1), .val (.int s2), .val (.ref b1), .val (.ref b8), .val (.ref b16), .val (.ref b27), .val (.int (1 : Int32)), .val (.ref b1), .val .null] []))
            refine own_step (fun t k => XS.aload X47.here hx rfl (hb hby at_159) rfl rfl k) ?_
            show own_Ends p.tables e below s _ _ _ (T47.setTop (mkF m 161 #[.val (.long y0_0), .second, .val (.long y1_0), .second, .val (.long y2_0), .second, .val (.long y3_0), .second, .val (.int x4_0), .val (.int x5_0), .val (.long cx), .second, .val (.long cy), .second, .val (.int s1), .val (.int s2), .val (.ref b1), .val (.ref b8), .val (.ref b16), .val (.ref b27), .val (.int (1 : Int32)), .val (.ref b1), .val .null] [(.ref b27)]))
            refine own_step (fun t k => XS.aload X47.here hx rfl (hb hby at_161) rfl rfl k) ?_
            show own_Ends p.tables e below s _ _ _ (T47.setTop (mkF m 163 #[.val (.long y0_0), .second, .val (.long y1_0), .second, .val (.long y2_0), .second, .val (.long y3_0), .second, .val (.int x4_0), .val (.int x5_0), .val (.long cx), .second, .val (.long cy), .second, .val (.int s1), .val (.int s2), .val (.ref b1), .val (.ref b8), .val (.ref b16), .val (.ref b27), .val (.int (1 : Int32)), .val (.ref b1), .val .null] [(.ref b16), (.ref b27)]))
            obtain ⟨cq51, kq51, q51a, q51b, q51c⟩ := isOf hZ e47 p32_0
            obtain ⟨_, _, ⟨T51, L51, k51, n51⟩, -, X51, ⟨Lc51, hQ51, l51, y51, z51⟩, st51⟩ := X47.virtualBack hx (y := (⟨"com/example/swanhall/swanhall/core/Edge", "equals", "(Ljava/lang/Object;)Z"⟩ : MethodName)) (z := (⟨"com/example/swanhall/swanhall/core/Edge", "equals", "(Ljava/lang/Object;)Z"⟩ : MethodName)) hown (mvT hZ (hw _ (List.mem_of_getElem? (i := 38) rfl))) (mvT hZ (hw _ (List.mem_of_getElem? (i := 39) rfl))) (notFace_of_selects (args := #[]) (mvT hZ (hw _ (List.mem_of_getElem? (i := 41) rfl)))) (mvT hZ (hw _ (List.mem_of_getElem? (i := 41) rfl))) (mvT hZ (hw _ (List.mem_of_getElem? (i := 40) rfl))) (by decide) (backOf (W := 0) (rm6 l Z a0 hw [] b27 b16 (own_r4 s1 w_N w_E w_S w_W) (own_r4 s2 w_N w_E w_S w_W) b1 b8 cx y0_0 cy y1_0 T32.heap n0 O46 F48 F38 p32_2 F39 p32_1 F45 F42 F41 F44 F43 F40) hZ (hw _ (List.mem_of_getElem? (i := 42) rfl)) (hw _ (List.mem_of_getElem? (i := 20) rfl)) (by decide) (by decide)) q51a q51c (g := (mkF m 163 #[.val (.long y0_0), .second, .val (.long y1_0), .second, .val (.long y2_0), .second, .val (.long y3_0), .second, .val (.int x4_0), .val (.int x5_0), .val (.long cx), .second, .val (.long cy), .second, .val (.int s1), .val (.int s2), .val (.ref b1), .val (.ref b8), .val (.ref b16), .val (.ref b27), .val (.int (1 : Int32)), .val (.ref b1), .val .null] [(.ref b16), (.ref b27)])) rfl (by rw [hml]; rfl) (Steps.refl _) (argsL := [(.ref b16)]) (rest := []) (lenOf pd_1 rfl) rfl (by show 2 * 0 + _ ≤ _; exact Nat.le_of_eq rfl) (hb hby at_163) (fun _ _ => ⟨rfl, e47, (by decide : 4 + 0 ≤ _), (by decide : 8 + 0 ≤ _)⟩)
            dsimp only [Pt.U, Pt.locs, Pt.cells, Pt.slots] at X51 l51 y51 z51 st51 hQ51
            subst l51 y51 z51
            obtain ⟨rfl, N51q, e51⟩ := hQ51
            refine own_step (fun t k => st51.trans k) ?_
            have N52 := Fr.app N49 N51q
            show own_Ends p.tables e below s _ _ _ (T51.setTop (mkF m 166 #[.val (.long y0_0), .second, .val (.long y1_0), .second, .val (.long y2_0), .second, .val (.long y3_0), .second, .val (.int x4_0), .val (.int x5_0), .val (.long cx), .second, .val (.long cy), .second, .val (.int s1), .val (.int s2), .val (.ref b1), .val (.ref b8), .val (.ref b16), .val (.ref b27), .val (.int (1 : Int32)), .val (.ref b1), .val .null] [(.int (own_r6 (own_r4 s1 w_N w_E w_S w_W) (own_r4 s2 w_N w_E w_S w_W) cx y0_0 cy y1_0))]))
            refine own_step (fun t k => XS.iload X51.here hx rfl (hb hby at_166) rfl k) ?_
            show own_Ends p.tables e below s _ _ _ (T51.setTop (mkF m 168 #[.val (.long y0_0), .second, .val (.long y1_0), .second, .val (.long y2_0), .second, .val (.long y3_0), .second, .val (.int x4_0), .val (.int x5_0), .val (.long cx), .second, .val (.long cy), .second, .val (.int s1), .val (.int s2), .val (.ref b1), .val (.ref b8), .val (.ref b16), .val (.ref b27), .val (.int (1 : Int32)), .val (.ref b1), .val .null] [(.int (1 : Int32)), (.int (own_r6 (own_r4 s1 w_N w_E w_S w_W) (own_r4 s2 w_N w_E w_S w_W) cx y0_0 cy y1_0))]))
            by_cases hc168_53 : (own_r6 (own_r4 s1 w_N w_E w_S w_W) (own_r4 s2 w_N w_E w_S w_W) cx y0_0 cy y1_0) = (1 : Int32)
            · skip
              refine own_step (fun t k => XS.icmpNo X51.here hx rfl (hb hby at_168) rfl (teq hc168_53).2 k) ?_
              show own_Ends p.tables e below s _ _ _ (T51.setTop (mkF m 171 #[.val (.long y0_0), .second, .val (.long y1_0), .second, .val (.long y2_0), .second, .val (.long y3_0), .second, .val (.int x4_0), .val (.int x5_0), .val (.long cx), .second, .val (.long cy), .second, .val (.int s1), .val (.int s2), .val (.ref b1), .val (.ref b8), .val (.ref b16), .val (.ref b27), .val (.int (1 : Int32)), .val (.ref b1), .val .null] []))
              refine own_step (fun t k => XS.aload X51.here hx rfl (hb hby at_171) rfl rfl k) ?_
              show own_Ends p.tables e below s _ _ _ (T51.setTop (mkF m 173 #[.val (.long y0_0), .second, .val (.long y1_0), .second, .val (.long y2_0), .second, .val (.long y3_0), .second, .val (.int x4_0), .val (.int x5_0), .val (.long cx), .second, .val (.long cy), .second, .val (.int s1), .val (.int s2), .val (.ref b1), .val (.ref b8), .val (.ref b16), .val (.ref b27), .val (.int (1 : Int32)), .val (.ref b1), .val .null] [(.ref b16)]))
              refine own_step (fun t k => XS.aload X51.here hx rfl (hb hby at_173) rfl rfl k) ?_
              show own_Ends p.tables e below s _ _ _ (T51.setTop (mkF m 175 #[.val (.long y0_0), .second, .val (.long y1_0), .second, .val (.long y2_0), .second, .val (.long y3_0), .second, .val (.int x4_0), .val (.int x5_0), .val (.long cx), .second, .val (.long cy), .second, .val (.int s1), .val (.int s2), .val (.ref b1), .val (.ref b8), .val (.ref b16), .val (.ref b27), .val (.int (1 : Int32)), .val (.ref b1), .val .null] [(.ref b16), (.ref b16)]))
              obtain ⟨cq54, kq54, q54a, q54b, q54c⟩ := isOf hZ e51 F48
              obtain ⟨_, _, ⟨T54, L54, k54, n54⟩, -, X54, ⟨Lc54, hQ54, l54, y54, z54⟩, st54⟩ := X51.virtualBack hx (y := (⟨"com/example/swanhall/swanhall/core/Edge", "equals", "(Ljava/lang/Object;)Z"⟩ : MethodName)) (z := (⟨"com/example/swanhall/swanhall/core/Edge", "equals", "(Ljava/lang/Object;)Z"⟩ : MethodName)) hown (mvT hZ (hw _ (List.mem_of_getElem? (i := 38) rfl))) (mvT hZ (hw _ (List.mem_of_getElem? (i := 39) rfl))) (notFace_of_selects (args := #[]) (mvT hZ (hw _ (List.mem_of_getElem? (i := 41) rfl)))) (mvT hZ (hw _ (List.mem_of_getElem? (i := 41) rfl))) (mvT hZ (hw _ (List.mem_of_getElem? (i := 40) rfl))) (by decide) (backOf (W := 0) (rm6 l Z a0 hw [] b16 b16 (own_r4 s1 w_N w_E w_S w_W) (own_r4 s1 w_N w_E w_S w_W) b1 b1 y0_0 y0_0 y1_0 y1_0 T32.heap n0 O46 F48 F38 F38 F39 F39 F40 F41 F41 F43 F43 F40) hZ (hw _ (List.mem_of_getElem? (i := 42) rfl)) (hw _ (List.mem_of_getElem? (i := 20) rfl)) (by decide) (by decide)) q54a q54c (g := (mkF m 175 #[.val (.long y0_0), .second, .val (.long y1_0), .second, .val (.long y2_0), .second, .val (.long y3_0), .second, .val (.int x4_0), .val (.int x5_0), .val (.long cx), .second, .val (.long cy), .second, .val (.int s1), .val (.int s2), .val (.ref b1), .val (.ref b8), .val (.ref b16), .val (.ref b27), .val (.int (1 : Int32)), .val (.ref b1), .val .null] [(.ref b16), (.ref b16)])) rfl (by rw [hml]; rfl) (Steps.refl _) (argsL := [(.ref b16)]) (rest := []) (lenOf pd_1 rfl) rfl (by show 2 * 0 + _ ≤ _; exact Nat.le_of_eq rfl) (hb hby at_175) (fun _ _ => ⟨rfl, e51, (by decide : 4 + 0 ≤ _), (by decide : 8 + 0 ≤ _)⟩)
              dsimp only [Pt.U, Pt.locs, Pt.cells, Pt.slots] at X54 l54 y54 z54 st54 hQ54
              subst l54 y54 z54
              obtain ⟨rfl, N54q, e54⟩ := hQ54
              refine own_step (fun t k => st54.trans k) ?_
              have N55 := Fr.app N52 N54q
              show own_Ends p.tables e below s _ _ _ (T54.setTop (mkF m 178 #[.val (.long y0_0), .second, .val (.long y1_0), .second, .val (.long y2_0), .second, .val (.long y3_0), .second, .val (.int x4_0), .val (.int x5_0), .val (.long cx), .second, .val (.long cy), .second, .val (.int s1), .val (.int s2), .val (.ref b1), .val (.ref b8), .val (.ref b16), .val (.ref b27), .val (.int (1 : Int32)), .val (.ref b1), .val .null] [(.int (own_r6 (own_r4 s1 w_N w_E w_S w_W) (own_r4 s1 w_N w_E w_S w_W) y0_0 y0_0 y1_0 y1_0))]))
              by_cases hc178_56 : (own_r6 (own_r4 s1 w_N w_E w_S w_W) (own_r4 s1 w_N w_E w_S w_W) y0_0 y0_0 y1_0 y1_0) = (0 : Int32)
              · skip
                refine own_step (fun t k => XS.ifYes X54.here hx rfl (pc0 := 178) (pc' := 205) rfl (hb hby at_178) rfl ((if0 _ _).trans (teq hc178_56).1) (by decide) (by decide) k) ?_
                show own_Ends p.tables e below s _ _ _ (T54.setTop (mkF m 205 #[.val (.long y0_0), .second, .val (.long y1_0), .second, .val (.long y2_0), .second, .val (.long y3_0), .second, .val (.int x4_0), .val (.int x5_0), .val (.long cx), .second, .val (.long cy), .second, .val (.int s1), .val (.int s2), .val (.ref b1), .val (.ref b8), .val (.ref b16), .val (.ref b27), .val (.int (1 : Int32)), .val (.ref b1), .val .null] []))
                refine own_step (fun t k => XS.iconst X54.here hx rfl (hb hby at_205) k) ?_
                show own_Ends p.tables e below s _ _ _ (T54.setTop (mkF m 206 #[.val (.long y0_0), .second, .val (.long y1_0), .second, .val (.long y2_0), .second, .val (.long y3_0), .second, .val (.int x4_0), .val (.int x5_0), .val (.long cx), .second, .val (.long cy), .second, .val (.int s1), .val (.int s2), .val (.ref b1), .val (.ref b8), .val (.ref b16), .val (.ref b27), .val (.int (1 : Int32)), .val (.ref b1), .val .null] [(.int (0 : Int32))]))
                exfalso
                exact own_eq6r _ _ _ hc178_56
              · skip
                refine own_step (fun t k => XS.ifNo X54.here hx rfl (hb hby at_178) rfl ((if0 _ _).trans (feq hc178_56).1) k) ?_
                show own_Ends p.tables e below s _ _ _ (T54.setTop (mkF m 181 #[.val (.long y0_0), .second, .val (.long y1_0), .second, .val (.long y2_0), .second, .val (.long y3_0), .second, .val (.int x4_0), .val (.int x5_0), .val (.long cx), .second, .val (.long cy), .second, .val (.int s1), .val (.int s2), .val (.ref b1), .val (.ref b8), .val (.ref b16), .val (.ref b27), .val (.int (1 : Int32)), .val (.ref b1), .val .null] []))
                refine own_step (fun t k => XS.aload X54.here hx rfl (hb hby at_181) rfl rfl k) ?_
                show own_Ends p.tables e below s _ _ _ (T54.setTop (mkF m 183 #[.val (.long y0_0), .second, .val (.long y1_0), .second, .val (.long y2_0), .second, .val (.long y3_0), .second, .val (.int x4_0), .val (.int x5_0), .val (.long cx), .second, .val (.long cy), .second, .val (.int s1), .val (.int s2), .val (.ref b1), .val (.ref b8), .val (.ref b16), .val (.ref b27), .val (.int (1 : Int32)), .val (.ref b1), .val .null] [(.ref b16)]))
                refine own_step (fun t k => XS.aload X54.here hx rfl (hb hby at_183) rfl rfl k) ?_
                show own_Ends p.tables e below s _ _ _ (T54.setTop (mkF m 185 #[.val (.long y0_0), .second, .val (.long y1_0), .second, .val (.long y2_0), .second, .val (.long y3_0), .second, .val (.int x4_0), .val (.int x5_0), .val (.long cx), .second, .val (.long cy), .second, .val (.int s1), .val (.int s2), .val (.ref b1), .val (.ref b8), .val (.ref b16), .val (.ref b27), .val (.int (1 : Int32)), .val (.ref b1), .val .null] [(.ref b1), (.ref b16)]))
                obtain ⟨cq57, kq57, q57a, q57b, q57c⟩ := isOf hZ e54 F48
                obtain ⟨_, _, ⟨T57, L57, k57, n57⟩, -, X57, ⟨Lc57, hQ57, l57, y57, z57⟩, st57⟩ := X54.virtualBack hx (y := (⟨"com/example/swanhall/swanhall/core/Edge", "equals", "(Ljava/lang/Object;)Z"⟩ : MethodName)) (z := (⟨"com/example/swanhall/swanhall/core/Edge", "equals", "(Ljava/lang/Object;)Z"⟩ : MethodName)) hown (mvT hZ (hw _ (List.mem_of_getElem? (i := 38) rfl))) (mvT hZ (hw _ (List.mem_of_getElem? (i := 39) rfl))) (notFace_of_selects (args := #[]) (mvT hZ (hw _ (List.mem_of_getElem? (i := 41) rfl)))) (mvT hZ (hw _ (List.mem_of_getElem? (i := 41) rfl))) (mvT hZ (hw _ (List.mem_of_getElem? (i := 40) rfl))) (by decide) (backOf (W := 0) (rm6c l Z a0 hw [] b16 b1 T32.heap n0 O46 F40) hZ (hw _ (List.mem_of_getElem? (i := 42) rfl)) (hw _ (List.mem_of_getElem? (i := 20) rfl)) (by decide) (by decide)) q57a q57c (g := (mkF m 185 #[.val (.long y0_0), .second, .val (.long y1_0), .second, .val (.long y2_0), .second, .val (.long y3_0), .second, .val (.int x4_0), .val (.int x5_0), .val (.long cx), .second, .val (.long cy), .second, .val (.int s1), .val (.int s2), .val (.ref b1), .val (.ref b8), .val (.ref b16), .val (.ref b27), .val (.int (1 : Int32)), .val (.ref b1), .val .null] [(.ref b1), (.ref b16)])) rfl (by rw [hml]; rfl) (Steps.refl _) (argsL := [(.ref b1)]) (rest := []) (lenOf pd_1 rfl) rfl (by show 2 * 0 + _ ≤ _; exact Nat.le_of_eq rfl) (hb hby at_185) (fun _ _ => ⟨rfl, e54, (by decide : 4 + 0 ≤ _), (by decide : 8 + 0 ≤ _)⟩)
                dsimp only [Pt.U, Pt.locs, Pt.cells, Pt.slots] at X57 l57 y57 z57 st57 hQ57
                subst l57 y57 z57
                obtain ⟨rfl, N57q, e57⟩ := hQ57
                refine own_step (fun t k => st57.trans k) ?_
                have N58 := Fr.app N55 N57q
                show own_Ends p.tables e below s _ _ _ (T57.setTop (mkF m 188 #[.val (.long y0_0), .second, .val (.long y1_0), .second, .val (.long y2_0), .second, .val (.long y3_0), .second, .val (.int x4_0), .val (.int x5_0), .val (.long cx), .second, .val (.long cy), .second, .val (.int s1), .val (.int s2), .val (.ref b1), .val (.ref b8), .val (.ref b16), .val (.ref b27), .val (.int (1 : Int32)), .val (.ref b1), .val .null] [(.int (0 : Int32))]))
                refine own_step (fun t k => XS.ifNo X57.here hx rfl (hb hby at_188) rfl ((if0 _ _).trans (teq (by decide : (0 : Int32) = (0 : Int32))).2) k) ?_
                show own_Ends p.tables e below s _ _ _ (T57.setTop (mkF m 191 #[.val (.long y0_0), .second, .val (.long y1_0), .second, .val (.long y2_0), .second, .val (.long y3_0), .second, .val (.int x4_0), .val (.int x5_0), .val (.long cx), .second, .val (.long cy), .second, .val (.int s1), .val (.int s2), .val (.ref b1), .val (.ref b8), .val (.ref b16), .val (.ref b27), .val (.int (1 : Int32)), .val (.ref b1), .val .null] []))
                refine own_step (fun t k => XS.aload X57.here hx rfl (hb hby at_191) rfl rfl k) ?_
                show own_Ends p.tables e below s _ _ _ (T57.setTop (mkF m 193 #[.val (.long y0_0), .second, .val (.long y1_0), .second, .val (.long y2_0), .second, .val (.long y3_0), .second, .val (.int x4_0), .val (.int x5_0), .val (.long cx), .second, .val (.long cy), .second, .val (.int s1), .val (.int s2), .val (.ref b1), .val (.ref b8), .val (.ref b16), .val (.ref b27), .val (.int (1 : Int32)), .val (.ref b1), .val .null] [(.ref b16)]))
                refine own_step (fun t k => XS.aload X57.here hx rfl (hb hby at_193) rfl rfl k) ?_
                show own_Ends p.tables e below s _ _ _ (T57.setTop (mkF m 195 #[.val (.long y0_0), .second, .val (.long y1_0), .second, .val (.long y2_0), .second, .val (.long y3_0), .second, .val (.int x4_0), .val (.int x5_0), .val (.long cx), .second, .val (.long cy), .second, .val (.int s1), .val (.int s2), .val (.ref b1), .val (.ref b8), .val (.ref b16), .val (.ref b27), .val (.int (1 : Int32)), .val (.ref b1), .val .null] [.null, (.ref b16)]))
                obtain ⟨cq59, kq59, q59a, q59b, q59c⟩ := isOf hZ e57 F48
                obtain ⟨_, _, ⟨T59, L59, k59, n59⟩, -, X59, ⟨Lc59, hQ59, l59, y59, z59⟩, st59⟩ := X57.virtualBack hx (y := (⟨"com/example/swanhall/swanhall/core/Edge", "equals", "(Ljava/lang/Object;)Z"⟩ : MethodName)) (z := (⟨"com/example/swanhall/swanhall/core/Edge", "equals", "(Ljava/lang/Object;)Z"⟩ : MethodName)) hown (mvT hZ (hw _ (List.mem_of_getElem? (i := 38) rfl))) (mvT hZ (hw _ (List.mem_of_getElem? (i := 39) rfl))) (notFace_of_selects (args := #[]) (mvT hZ (hw _ (List.mem_of_getElem? (i := 41) rfl)))) (mvT hZ (hw _ (List.mem_of_getElem? (i := 41) rfl))) (mvT hZ (hw _ (List.mem_of_getElem? (i := 40) rfl))) (by decide) (backOf (W := 0) (rm6n l Z a0 hw [] b16 T32.heap n0 O46 ) hZ (hw _ (List.mem_of_getElem? (i := 42) rfl)) (hw _ (List.mem_of_getElem? (i := 20) rfl)) (by decide) (by decide)) q59a q59c (g := (mkF m 195 #[.val (.long y0_0), .second, .val (.long y1_0), .second, .val (.long y2_0), .second, .val (.long y3_0), .second, .val (.int x4_0), .val (.int x5_0), .val (.long cx), .second, .val (.long cy), .second, .val (.int s1), .val (.int s2), .val (.ref b1), .val (.ref b8), .val (.ref b16), .val (.ref b27), .val (.int (1 : Int32)), .val (.ref b1), .val .null] [.null, (.ref b16)])) rfl (by rw [hml]; rfl) (Steps.refl _) (argsL := [.null]) (rest := []) (lenOf pd_1 rfl) rfl (by show 2 * 0 + _ ≤ _; exact Nat.le_of_eq rfl) (hb hby at_195) (fun _ _ => ⟨rfl, e57, (by decide : 4 + 0 ≤ _), (by decide : 8 + 0 ≤ _)⟩)
                dsimp only [Pt.U, Pt.locs, Pt.cells, Pt.slots] at X59 l59 y59 z59 st59 hQ59
                subst l59 y59 z59
                obtain ⟨rfl, N59q, e59⟩ := hQ59
                refine own_step (fun t k => st59.trans k) ?_
                have N60 := Fr.app N58 N59q
                show own_Ends p.tables e below s _ _ _ (T59.setTop (mkF m 198 #[.val (.long y0_0), .second, .val (.long y1_0), .second, .val (.long y2_0), .second, .val (.long y3_0), .second, .val (.int x4_0), .val (.int x5_0), .val (.long cx), .second, .val (.long cy), .second, .val (.int s1), .val (.int s2), .val (.ref b1), .val (.ref b8), .val (.ref b16), .val (.ref b27), .val (.int (1 : Int32)), .val (.ref b1), .val .null] [(.int (0 : Int32))]))
                refine own_step (fun t k => XS.ifNo X59.here hx rfl (hb hby at_198) rfl ((if0 _ _).trans (teq (by decide : (0 : Int32) = (0 : Int32))).2) k) ?_
                show own_Ends p.tables e below s _ _ _ (T59.setTop (mkF m 201 #[.val (.long y0_0), .second, .val (.long y1_0), .second, .val (.long y2_0), .second, .val (.long y3_0), .second, .val (.int x4_0), .val (.int x5_0), .val (.long cx), .second, .val (.long cy), .second, .val (.int s1), .val (.int s2), .val (.ref b1), .val (.ref b8), .val (.ref b16), .val (.ref b27), .val (.int (1 : Int32)), .val (.ref b1), .val .null] []))
                refine own_step (fun t k => XS.iconst X59.here hx rfl (hb hby at_201) k) ?_
                show own_Ends p.tables e below s _ _ _ (T59.setTop (mkF m 202 #[.val (.long y0_0), .second, .val (.long y1_0), .second, .val (.long y2_0), .second, .val (.long y3_0), .second, .val (.int x4_0), .val (.int x5_0), .val (.long cx), .second, .val (.long cy), .second, .val (.int s1), .val (.int s2), .val (.ref b1), .val (.ref b8), .val (.ref b16), .val (.ref b27), .val (.int (1 : Int32)), .val (.ref b1), .val .null] [(.int (1 : Int32))]))
                refine own_step (fun t k => XS.goto X59.here hx rfl (pc0 := 202) (pc' := 206) rfl (hb hby at_202) (by decide) (by decide) k) ?_
                show own_Ends p.tables e below s _ _ _ (T59.setTop (mkF m 206 #[.val (.long y0_0), .second, .val (.long y1_0), .second, .val (.long y2_0), .second, .val (.long y3_0), .second, .val (.int x4_0), .val (.int x5_0), .val (.long cx), .second, .val (.long cy), .second, .val (.int s1), .val (.int s2), .val (.ref b1), .val (.ref b8), .val (.ref b16), .val (.ref b27), .val (.int (1 : Int32)), .val (.ref b1), .val .null] [(.int (1 : Int32))]))
                exact own_retN X59 hx (t := .boolean) Bd.returns (by simp) (hb hby at_206) hnl (by rw [e59]; exact ⟨rfl, N60⟩) (by decide) (by decide)
            · skip
              refine own_step (fun t k => XS.icmpYes X51.here hx rfl (pc0 := 168) (pc' := 205) rfl (hb hby at_168) rfl (feq hc168_53).2 (by decide) (by decide) k) ?_
              show own_Ends p.tables e below s _ _ _ (T51.setTop (mkF m 205 #[.val (.long y0_0), .second, .val (.long y1_0), .second, .val (.long y2_0), .second, .val (.long y3_0), .second, .val (.int x4_0), .val (.int x5_0), .val (.long cx), .second, .val (.long cy), .second, .val (.int s1), .val (.int s2), .val (.ref b1), .val (.ref b8), .val (.ref b16), .val (.ref b27), .val (.int (1 : Int32)), .val (.ref b1), .val .null] []))
              refine own_step (fun t k => XS.iconst X51.here hx rfl (hb hby at_205) k) ?_
              show own_Ends p.tables e below s _ _ _ (T51.setTop (mkF m 206 #[.val (.long y0_0), .second, .val (.long y1_0), .second, .val (.long y2_0), .second, .val (.long y3_0), .second, .val (.int x4_0), .val (.int x5_0), .val (.long cx), .second, .val (.long cy), .second, .val (.int s1), .val (.int s2), .val (.ref b1), .val (.ref b8), .val (.ref b16), .val (.ref b27), .val (.int (1 : Int32)), .val (.ref b1), .val .null] [(.int (0 : Int32))]))
              exfalso
              exact hc168_53 (by rw [own_eq6 s1 s2 _ _ _ _ _ _ _ _ hs1 hs2 ne_w_N_w_E ne_w_N_w_S ne_w_N_w_W ne_w_E_w_S ne_w_E_w_W ne_w_S_w_W]; exact if_pos ⟨hc130_37, ((own_lc _ _).mp hc116_35).symm, ((own_lc _ _).mp hc123_36).symm⟩)
          · skip
            refine own_step (fun t k => XS.icmpYes X47.here hx rfl (pc0 := 156) (pc' := 205) rfl (hb hby at_156) rfl (feq hc156_50).2 (by decide) (by decide) k) ?_
            show own_Ends p.tables e below s _ _ _ (T47.setTop (mkF m 205 #[.val (.long y0_0), .second, .val (.long y1_0), .second, .val (.long y2_0), .second, .val (.long y3_0), .second, .val (.int x4_0), .val (.int x5_0), .val (.long cx), .second, .val (.long cy), .second, .val (.int s1), .val (.int s2), .val (.ref b1), .val (.ref b8), .val (.ref b16), .val (.ref b27), .val (.int (1 : Int32)), .val (.ref b1), .val .null] []))
            refine own_step (fun t k => XS.iconst X47.here hx rfl (hb hby at_205) k) ?_
            show own_Ends p.tables e below s _ _ _ (T47.setTop (mkF m 206 #[.val (.long y0_0), .second, .val (.long y1_0), .second, .val (.long y2_0), .second, .val (.long y3_0), .second, .val (.int x4_0), .val (.int x5_0), .val (.long cx), .second, .val (.long cy), .second, .val (.int s1), .val (.int s2), .val (.ref b1), .val (.ref b8), .val (.ref b16), .val (.ref b27), .val (.int (1 : Int32)), .val (.ref b1), .val .null] [(.int (0 : Int32))]))
            exfalso
            exact hc156_50 (by rw [own_eq6 s2 s1 _ _ _ _ _ _ _ _ hs2 hs1 ne_w_N_w_E ne_w_N_w_S ne_w_N_w_W ne_w_E_w_S ne_w_E_w_W ne_w_S_w_W]; exact if_pos ⟨hc130_37.symm, ((own_lc _ _).mp hc116_35), ((own_lc _ _).mp hc123_36)⟩)
        · skip
          refine own_step (fun t k => XS.icmpYes X32.here hx rfl (pc0 := 130) (pc' := 137) rfl (hb hby at_130) rfl (feq hc130_37).2 (by decide) (by decide) k) ?_
          show own_Ends p.tables e below s _ _ _ (T32.setTop (mkF m 137 #[.val (.long y0_0), .second, .val (.long y1_0), .second, .val (.long y2_0), .second, .val (.long y3_0), .second, .val (.int x4_0), .val (.int x5_0), .val (.long cx), .second, .val (.long cy), .second, .val (.int s1), .val (.int s2), .val (.ref b1), .val (.ref b8), .val (.ref b16), .val (.ref b27), .unset, .unset, .unset] []))
          refine own_step (fun t k => XS.iconst X32.here hx rfl (hb hby at_137) k) ?_
          show own_Ends p.tables e below s _ _ _ (T32.setTop (mkF m 138 #[.val (.long y0_0), .second, .val (.long y1_0), .second, .val (.long y2_0), .second, .val (.long y3_0), .second, .val (.int x4_0), .val (.int x5_0), .val (.long cx), .second, .val (.long cy), .second, .val (.int s1), .val (.int s2), .val (.ref b1), .val (.ref b8), .val (.ref b16), .val (.ref b27), .unset, .unset, .unset] [(.int (0 : Int32))]))
          refine own_step (fun t k => XS.istore X32.here hx rfl (hb hby at_138) rfl (l' := #[.val (.long y0_0), .second, .val (.long y1_0), .second, .val (.long y2_0), .second, .val (.long y3_0), .second, .val (.int x4_0), .val (.int x5_0), .val (.long cx), .second, .val (.long cy), .second, .val (.int s1), .val (.int s2), .val (.ref b1), .val (.ref b8), .val (.ref b16), .val (.ref b27), .val (.int (0 : Int32)), .unset, .unset]) rfl k) ?_
          show own_Ends p.tables e below s _ _ _ (T32.setTop (mkF m 140 #[.val (.long y0_0), .second, .val (.long y1_0), .second, .val (.long y2_0), .second, .val (.long y3_0), .second, .val (.int x4_0), .val (.int x5_0), .val (.long cx), .second, .val (.long cy), .second, .val (.int s1), .val (.int s2), .val (.ref b1), .val (.ref b8), .val (.ref b16), .val (.ref b27), .val (.int (0 : Int32)), .unset, .unset] []))
          refine own_step (fun t k => XS.aload X32.here hx rfl (hb hby at_140) rfl rfl k) ?_
          show own_Ends p.tables e below s _ _ _ (T32.setTop (mkF m 142 #[.val (.long y0_0), .second, .val (.long y1_0), .second, .val (.long y2_0), .second, .val (.long y3_0), .second, .val (.int x4_0), .val (.int x5_0), .val (.long cx), .second, .val (.long cy), .second, .val (.int s1), .val (.int s2), .val (.ref b1), .val (.ref b8), .val (.ref b16), .val (.ref b27), .val (.int (0 : Int32)), .unset, .unset] [(.ref b1)]))
          refine own_step (fun t k => XS.astore X32.here hx rfl (hb hby at_142) rfl rfl (l' := #[.val (.long y0_0), .second, .val (.long y1_0), .second, .val (.long y2_0), .second, .val (.long y3_0), .second, .val (.int x4_0), .val (.int x5_0), .val (.long cx), .second, .val (.long cy), .second, .val (.int s1), .val (.int s2), .val (.ref b1), .val (.ref b8), .val (.ref b16), .val (.ref b27), .val (.int (0 : Int32)), .val (.ref b1), .unset]) rfl k) ?_
          show own_Ends p.tables e below s _ _ _ (T32.setTop (mkF m 144 #[.val (.long y0_0), .second, .val (.long y1_0), .second, .val (.long y2_0), .second, .val (.long y3_0), .second, .val (.int x4_0), .val (.int x5_0), .val (.long cx), .second, .val (.long cy), .second, .val (.int s1), .val (.int s2), .val (.ref b1), .val (.ref b8), .val (.ref b16), .val (.ref b27), .val (.int (0 : Int32)), .val (.ref b1), .unset] []))
          refine own_step (fun t k => XS.aconstNull X32.here hx rfl (hb hby at_144) k) ?_
          show own_Ends p.tables e below s _ _ _ (T32.setTop (mkF m 145 #[.val (.long y0_0), .second, .val (.long y1_0), .second, .val (.long y2_0), .second, .val (.long y3_0), .second, .val (.int x4_0), .val (.int x5_0), .val (.long cx), .second, .val (.long cy), .second, .val (.int s1), .val (.int s2), .val (.ref b1), .val (.ref b8), .val (.ref b16), .val (.ref b27), .val (.int (0 : Int32)), .val (.ref b1), .unset] [.null]))
          refine own_step (fun t k => XS.astore X32.here hx rfl (hb hby at_145) rfl rfl (l' := #[.val (.long y0_0), .second, .val (.long y1_0), .second, .val (.long y2_0), .second, .val (.long y3_0), .second, .val (.int x4_0), .val (.int x5_0), .val (.long cx), .second, .val (.long cy), .second, .val (.int s1), .val (.int s2), .val (.ref b1), .val (.ref b8), .val (.ref b16), .val (.ref b27), .val (.int (0 : Int32)), .val (.ref b1), .val .null]) rfl k) ?_
          show own_Ends p.tables e below s _ _ _ (T32.setTop (mkF m 147 #[.val (.long y0_0), .second, .val (.long y1_0), .second, .val (.long y2_0), .second, .val (.long y3_0), .second, .val (.int x4_0), .val (.int x5_0), .val (.long cx), .second, .val (.long cy), .second, .val (.int s1), .val (.int s2), .val (.ref b1), .val (.ref b8), .val (.ref b16), .val (.ref b27), .val (.int (0 : Int32)), .val (.ref b1), .val .null] []))
          refine own_step (fun t k => XS.aload X32.here hx rfl (hb hby at_147) rfl rfl k) ?_
          show own_Ends p.tables e below s _ _ _ (T32.setTop (mkF m 149 #[.val (.long y0_0), .second, .val (.long y1_0), .second, .val (.long y2_0), .second, .val (.long y3_0), .second, .val (.int x4_0), .val (.int x5_0), .val (.long cx), .second, .val (.long cy), .second, .val (.int s1), .val (.int s2), .val (.ref b1), .val (.ref b8), .val (.ref b16), .val (.ref b27), .val (.int (0 : Int32)), .val (.ref b1), .val .null] [(.ref b16)]))
          refine own_step (fun t k => XS.aload X32.here hx rfl (hb hby at_149) rfl rfl k) ?_
          show own_Ends p.tables e below s _ _ _ (T32.setTop (mkF m 151 #[.val (.long y0_0), .second, .val (.long y1_0), .second, .val (.long y2_0), .second, .val (.long y3_0), .second, .val (.int x4_0), .val (.int x5_0), .val (.long cx), .second, .val (.long cy), .second, .val (.int s1), .val (.int s2), .val (.ref b1), .val (.ref b8), .val (.ref b16), .val (.ref b27), .val (.int (0 : Int32)), .val (.ref b1), .val .null] [(.ref b27), (.ref b16)]))
          have F61 : Fld Z T32.heap b16 "com/example/swanhall/swanhall/core/Edge" "side" "Lcom/example/swanhall/swanhall/core/Side;" (.ref (own_r4 s1 w_N w_E w_S w_W)) := ((p21_2.ext E27).keep K32q (ninS ne_b16_b27 nin0))
          have F62 : Fld Z T32.heap b16 "com/example/swanhall/swanhall/core/Edge" "cell" "Lcom/example/swanhall/swanhall/core/Cell;" (.ref b1) := ((p21_1.ext E27).keep K32q (ninS ne_b16_b27 nin0))
          have F63 : Exa Z T32.heap b1 "com/example/swanhall/swanhall/core/Cell" := ((F25.ext E27).keep K32q)
          have F64 : Fld Z T32.heap b1 "com/example/swanhall/swanhall/core/Cell" "x" "J" (.long y0_0) := ((((((p4_1.ext E8).keep K11q (ninS ne_b1_b8 nin0)).ext E16).keep K21q (ninS ne_b1_b16 nin0)).ext E27).keep K32q (ninS ne_b1_b27 nin0))
          have F65 : Fld Z T32.heap b8 "com/example/swanhall/swanhall/core/Cell" "x" "J" (.long cx) := ((((p11_1.ext E16).keep K21q (ninS ne_b8_b16 nin0)).ext E27).keep K32q (ninS ne_b8_b27 nin0))
          have F66 : Fld Z T32.heap b1 "com/example/swanhall/swanhall/core/Cell" "y" "J" (.long y1_0) := ((((((p4_2.ext E8).keep K11q (ninS ne_b1_b8 nin0)).ext E16).keep K21q (ninS ne_b1_b16 nin0)).ext E27).keep K32q (ninS ne_b1_b27 nin0))
          have F67 : Fld Z T32.heap b8 "com/example/swanhall/swanhall/core/Cell" "y" "J" (.long cy) := ((((p11_2.ext E16).keep K21q (ninS ne_b8_b16 nin0)).ext E27).keep K32q (ninS ne_b8_b27 nin0))
          have F68 : Exa Z T32.heap b8 "com/example/swanhall/swanhall/core/Cell" := ((F26.ext E27).keep K32q)
          have O69 : Old Z n0 T32.heap := (O29.keep K32q (allS g_b27 all0))
          have F71 : Exa Z T32.heap b16 "com/example/swanhall/swanhall/core/Edge" := ((p21_0.ext E27).keep K32q)
          obtain ⟨cq70, kq70, q70a, q70b, q70c⟩ := isOf hZ rfl F71
          obtain ⟨_, _, ⟨T70, L70, k70, n70⟩, -, X70, ⟨Lc70, hQ70, l70, y70, z70⟩, st70⟩ := X32.virtualBack hx (y := (⟨"com/example/swanhall/swanhall/core/Edge", "equals", "(Ljava/lang/Object;)Z"⟩ : MethodName)) (z := (⟨"com/example/swanhall/swanhall/core/Edge", "equals", "(Ljava/lang/Object;)Z"⟩ : MethodName)) hown (mvT hZ (hw _ (List.mem_of_getElem? (i := 38) rfl))) (mvT hZ (hw _ (List.mem_of_getElem? (i := 39) rfl))) (notFace_of_selects (args := #[]) (mvT hZ (hw _ (List.mem_of_getElem? (i := 41) rfl)))) (mvT hZ (hw _ (List.mem_of_getElem? (i := 41) rfl))) (mvT hZ (hw _ (List.mem_of_getElem? (i := 40) rfl))) (by decide) (backOf (W := 0) (rm6 l Z a0 hw [] b16 b27 (own_r4 s2 w_N w_E w_S w_W) (own_r4 s1 w_N w_E w_S w_W) b8 b1 y0_0 cx y1_0 cy T32.heap n0 O69 p32_0 p32_2 F61 p32_1 F62 F63 F64 F65 F66 F67 F68) hZ (hw _ (List.mem_of_getElem? (i := 42) rfl)) (hw _ (List.mem_of_getElem? (i := 20) rfl)) (by decide) (by decide)) q70a q70c (g := (mkF m 151 #[.val (.long y0_0), .second, .val (.long y1_0), .second, .val (.long y2_0), .second, .val (.long y3_0), .second, .val (.int x4_0), .val (.int x5_0), .val (.long cx), .second, .val (.long cy), .second, .val (.int s1), .val (.int s2), .val (.ref b1), .val (.ref b8), .val (.ref b16), .val (.ref b27), .val (.int (0 : Int32)), .val (.ref b1), .val .null] [(.ref b27), (.ref b16)])) rfl (by rw [hml]; rfl) (Steps.refl _) (argsL := [(.ref b27)]) (rest := []) (lenOf pd_1 rfl) rfl (by show 2 * 0 + _ ≤ _; exact Nat.le_of_eq rfl) (hb hby at_151) (fun _ _ => ⟨rfl, rfl, (by decide : 4 + 0 ≤ _), (by decide : 8 + 0 ≤ _)⟩)
          dsimp only [Pt.U, Pt.locs, Pt.cells, Pt.slots] at X70 l70 y70 z70 st70 hQ70
          subst l70 y70 z70
          obtain ⟨rfl, N70q, e70⟩ := hQ70
          refine own_step (fun t k => st70.trans k) ?_
          have N72 := Fr.app N33 N70q
          show own_Ends p.tables e below s _ _ _ (T70.setTop (mkF m 154 #[.val (.long y0_0), .second, .val (.long y1_0), .second, .val (.long y2_0), .second, .val (.long y3_0), .second, .val (.int x4_0), .val (.int x5_0), .val (.long cx), .second, .val (.long cy), .second, .val (.int s1), .val (.int s2), .val (.ref b1), .val (.ref b8), .val (.ref b16), .val (.ref b27), .val (.int (0 : Int32)), .val (.ref b1), .val .null] [(.int (own_r6 (own_r4 s2 w_N w_E w_S w_W) (own_r4 s1 w_N w_E w_S w_W) y0_0 cx y1_0 cy))]))
          refine own_step (fun t k => XS.iload X70.here hx rfl (hb hby at_154) rfl k) ?_
          show own_Ends p.tables e below s _ _ _ (T70.setTop (mkF m 156 #[.val (.long y0_0), .second, .val (.long y1_0), .second, .val (.long y2_0), .second, .val (.long y3_0), .second, .val (.int x4_0), .val (.int x5_0), .val (.long cx), .second, .val (.long cy), .second, .val (.int s1), .val (.int s2), .val (.ref b1), .val (.ref b8), .val (.ref b16), .val (.ref b27), .val (.int (0 : Int32)), .val (.ref b1), .val .null] [(.int (0 : Int32)), (.int (own_r6 (own_r4 s2 w_N w_E w_S w_W) (own_r4 s1 w_N w_E w_S w_W) y0_0 cx y1_0 cy))]))
          by_cases hc156_73 : (own_r6 (own_r4 s2 w_N w_E w_S w_W) (own_r4 s1 w_N w_E w_S w_W) y0_0 cx y1_0 cy) = (0 : Int32)
          · skip
            refine own_step (fun t k => XS.icmpNo X70.here hx rfl (hb hby at_156) rfl (teq hc156_73).2 k) ?_
            show own_Ends p.tables e below s _ _ _ (T70.setTop (mkF m 159 #[.val (.long y0_0), .second, .val (.long y1_0), .second, .val (.long y2_0), .second, .val (.long y3_0), .second, .val (.int x4_0), .val (.int x5_0), .val (.long cx), .second, .val (.long cy), .second, .val (.int s1), .val (.int s2), .val (.ref b1), .val (.ref b8), .val (.ref b16), .val (.ref b27), .val (.int (0 : Int32)), .val (.ref b1), .val .null] []))
            refine own_step (fun t k => XS.aload X70.here hx rfl (hb hby at_159) rfl rfl k) ?_
            show own_Ends p.tables e below s _ _ _ (T70.setTop (mkF m 161 #[.val (.long y0_0), .second, .val (.long y1_0), .second, .val (.long y2_0), .second, .val (.long y3_0), .second, .val (.int x4_0), .val (.int x5_0), .val (.long cx), .second, .val (.long cy), .second, .val (.int s1), .val (.int s2), .val (.ref b1), .val (.ref b8), .val (.ref b16), .val (.ref b27), .val (.int (0 : Int32)), .val (.ref b1), .val .null] [(.ref b27)]))
            refine own_step (fun t k => XS.aload X70.here hx rfl (hb hby at_161) rfl rfl k) ?_
            show own_Ends p.tables e below s _ _ _ (T70.setTop (mkF m 163 #[.val (.long y0_0), .second, .val (.long y1_0), .second, .val (.long y2_0), .second, .val (.long y3_0), .second, .val (.int x4_0), .val (.int x5_0), .val (.long cx), .second, .val (.long cy), .second, .val (.int s1), .val (.int s2), .val (.ref b1), .val (.ref b8), .val (.ref b16), .val (.ref b27), .val (.int (0 : Int32)), .val (.ref b1), .val .null] [(.ref b16), (.ref b27)]))
            obtain ⟨cq74, kq74, q74a, q74b, q74c⟩ := isOf hZ e70 p32_0
            obtain ⟨_, _, ⟨T74, L74, k74, n74⟩, -, X74, ⟨Lc74, hQ74, l74, y74, z74⟩, st74⟩ := X70.virtualBack hx (y := (⟨"com/example/swanhall/swanhall/core/Edge", "equals", "(Ljava/lang/Object;)Z"⟩ : MethodName)) (z := (⟨"com/example/swanhall/swanhall/core/Edge", "equals", "(Ljava/lang/Object;)Z"⟩ : MethodName)) hown (mvT hZ (hw _ (List.mem_of_getElem? (i := 38) rfl))) (mvT hZ (hw _ (List.mem_of_getElem? (i := 39) rfl))) (notFace_of_selects (args := #[]) (mvT hZ (hw _ (List.mem_of_getElem? (i := 41) rfl)))) (mvT hZ (hw _ (List.mem_of_getElem? (i := 41) rfl))) (mvT hZ (hw _ (List.mem_of_getElem? (i := 40) rfl))) (by decide) (backOf (W := 0) (rm6 l Z a0 hw [] b27 b16 (own_r4 s1 w_N w_E w_S w_W) (own_r4 s2 w_N w_E w_S w_W) b1 b8 cx y0_0 cy y1_0 T32.heap n0 O69 F71 F61 p32_2 F62 p32_1 F68 F65 F64 F67 F66 F63) hZ (hw _ (List.mem_of_getElem? (i := 42) rfl)) (hw _ (List.mem_of_getElem? (i := 20) rfl)) (by decide) (by decide)) q74a q74c (g := (mkF m 163 #[.val (.long y0_0), .second, .val (.long y1_0), .second, .val (.long y2_0), .second, .val (.long y3_0), .second, .val (.int x4_0), .val (.int x5_0), .val (.long cx), .second, .val (.long cy), .second, .val (.int s1), .val (.int s2), .val (.ref b1), .val (.ref b8), .val (.ref b16), .val (.ref b27), .val (.int (0 : Int32)), .val (.ref b1), .val .null] [(.ref b16), (.ref b27)])) rfl (by rw [hml]; rfl) (Steps.refl _) (argsL := [(.ref b16)]) (rest := []) (lenOf pd_1 rfl) rfl (by show 2 * 0 + _ ≤ _; exact Nat.le_of_eq rfl) (hb hby at_163) (fun _ _ => ⟨rfl, e70, (by decide : 4 + 0 ≤ _), (by decide : 8 + 0 ≤ _)⟩)
            dsimp only [Pt.U, Pt.locs, Pt.cells, Pt.slots] at X74 l74 y74 z74 st74 hQ74
            subst l74 y74 z74
            obtain ⟨rfl, N74q, e74⟩ := hQ74
            refine own_step (fun t k => st74.trans k) ?_
            have N75 := Fr.app N72 N74q
            show own_Ends p.tables e below s _ _ _ (T74.setTop (mkF m 166 #[.val (.long y0_0), .second, .val (.long y1_0), .second, .val (.long y2_0), .second, .val (.long y3_0), .second, .val (.int x4_0), .val (.int x5_0), .val (.long cx), .second, .val (.long cy), .second, .val (.int s1), .val (.int s2), .val (.ref b1), .val (.ref b8), .val (.ref b16), .val (.ref b27), .val (.int (0 : Int32)), .val (.ref b1), .val .null] [(.int (own_r6 (own_r4 s1 w_N w_E w_S w_W) (own_r4 s2 w_N w_E w_S w_W) cx y0_0 cy y1_0))]))
            refine own_step (fun t k => XS.iload X74.here hx rfl (hb hby at_166) rfl k) ?_
            show own_Ends p.tables e below s _ _ _ (T74.setTop (mkF m 168 #[.val (.long y0_0), .second, .val (.long y1_0), .second, .val (.long y2_0), .second, .val (.long y3_0), .second, .val (.int x4_0), .val (.int x5_0), .val (.long cx), .second, .val (.long cy), .second, .val (.int s1), .val (.int s2), .val (.ref b1), .val (.ref b8), .val (.ref b16), .val (.ref b27), .val (.int (0 : Int32)), .val (.ref b1), .val .null] [(.int (0 : Int32)), (.int (own_r6 (own_r4 s1 w_N w_E w_S w_W) (own_r4 s2 w_N w_E w_S w_W) cx y0_0 cy y1_0))]))
            by_cases hc168_76 : (own_r6 (own_r4 s1 w_N w_E w_S w_W) (own_r4 s2 w_N w_E w_S w_W) cx y0_0 cy y1_0) = (0 : Int32)
            · skip
              refine own_step (fun t k => XS.icmpNo X74.here hx rfl (hb hby at_168) rfl (teq hc168_76).2 k) ?_
              show own_Ends p.tables e below s _ _ _ (T74.setTop (mkF m 171 #[.val (.long y0_0), .second, .val (.long y1_0), .second, .val (.long y2_0), .second, .val (.long y3_0), .second, .val (.int x4_0), .val (.int x5_0), .val (.long cx), .second, .val (.long cy), .second, .val (.int s1), .val (.int s2), .val (.ref b1), .val (.ref b8), .val (.ref b16), .val (.ref b27), .val (.int (0 : Int32)), .val (.ref b1), .val .null] []))
              refine own_step (fun t k => XS.aload X74.here hx rfl (hb hby at_171) rfl rfl k) ?_
              show own_Ends p.tables e below s _ _ _ (T74.setTop (mkF m 173 #[.val (.long y0_0), .second, .val (.long y1_0), .second, .val (.long y2_0), .second, .val (.long y3_0), .second, .val (.int x4_0), .val (.int x5_0), .val (.long cx), .second, .val (.long cy), .second, .val (.int s1), .val (.int s2), .val (.ref b1), .val (.ref b8), .val (.ref b16), .val (.ref b27), .val (.int (0 : Int32)), .val (.ref b1), .val .null] [(.ref b16)]))
              refine own_step (fun t k => XS.aload X74.here hx rfl (hb hby at_173) rfl rfl k) ?_
              show own_Ends p.tables e below s _ _ _ (T74.setTop (mkF m 175 #[.val (.long y0_0), .second, .val (.long y1_0), .second, .val (.long y2_0), .second, .val (.long y3_0), .second, .val (.int x4_0), .val (.int x5_0), .val (.long cx), .second, .val (.long cy), .second, .val (.int s1), .val (.int s2), .val (.ref b1), .val (.ref b8), .val (.ref b16), .val (.ref b27), .val (.int (0 : Int32)), .val (.ref b1), .val .null] [(.ref b16), (.ref b16)]))
              obtain ⟨cq77, kq77, q77a, q77b, q77c⟩ := isOf hZ e74 F71
              obtain ⟨_, _, ⟨T77, L77, k77, n77⟩, -, X77, ⟨Lc77, hQ77, l77, y77, z77⟩, st77⟩ := X74.virtualBack hx (y := (⟨"com/example/swanhall/swanhall/core/Edge", "equals", "(Ljava/lang/Object;)Z"⟩ : MethodName)) (z := (⟨"com/example/swanhall/swanhall/core/Edge", "equals", "(Ljava/lang/Object;)Z"⟩ : MethodName)) hown (mvT hZ (hw _ (List.mem_of_getElem? (i := 38) rfl))) (mvT hZ (hw _ (List.mem_of_getElem? (i := 39) rfl))) (notFace_of_selects (args := #[]) (mvT hZ (hw _ (List.mem_of_getElem? (i := 41) rfl)))) (mvT hZ (hw _ (List.mem_of_getElem? (i := 41) rfl))) (mvT hZ (hw _ (List.mem_of_getElem? (i := 40) rfl))) (by decide) (backOf (W := 0) (rm6 l Z a0 hw [] b16 b16 (own_r4 s1 w_N w_E w_S w_W) (own_r4 s1 w_N w_E w_S w_W) b1 b1 y0_0 y0_0 y1_0 y1_0 T32.heap n0 O69 F71 F61 F61 F62 F62 F63 F64 F64 F66 F66 F63) hZ (hw _ (List.mem_of_getElem? (i := 42) rfl)) (hw _ (List.mem_of_getElem? (i := 20) rfl)) (by decide) (by decide)) q77a q77c (g := (mkF m 175 #[.val (.long y0_0), .second, .val (.long y1_0), .second, .val (.long y2_0), .second, .val (.long y3_0), .second, .val (.int x4_0), .val (.int x5_0), .val (.long cx), .second, .val (.long cy), .second, .val (.int s1), .val (.int s2), .val (.ref b1), .val (.ref b8), .val (.ref b16), .val (.ref b27), .val (.int (0 : Int32)), .val (.ref b1), .val .null] [(.ref b16), (.ref b16)])) rfl (by rw [hml]; rfl) (Steps.refl _) (argsL := [(.ref b16)]) (rest := []) (lenOf pd_1 rfl) rfl (by show 2 * 0 + _ ≤ _; exact Nat.le_of_eq rfl) (hb hby at_175) (fun _ _ => ⟨rfl, e74, (by decide : 4 + 0 ≤ _), (by decide : 8 + 0 ≤ _)⟩)
              dsimp only [Pt.U, Pt.locs, Pt.cells, Pt.slots] at X77 l77 y77 z77 st77 hQ77
              subst l77 y77 z77
              obtain ⟨rfl, N77q, e77⟩ := hQ77
              refine own_step (fun t k => st77.trans k) ?_
              have N78 := Fr.app N75 N77q
              show own_Ends p.tables e below s _ _ _ (T77.setTop (mkF m 178 #[.val (.long y0_0), .second, .val (.long y1_0), .second, .val (.long y2_0), .second, .val (.long y3_0), .second, .val (.int x4_0), .val (.int x5_0), .val (.long cx), .second, .val (.long cy), .second, .val (.int s1), .val (.int s2), .val (.ref b1), .val (.ref b8), .val (.ref b16), .val (.ref b27), .val (.int (0 : Int32)), .val (.ref b1), .val .null] [(.int (own_r6 (own_r4 s1 w_N w_E w_S w_W) (own_r4 s1 w_N w_E w_S w_W) y0_0 y0_0 y1_0 y1_0))]))
              by_cases hc178_79 : (own_r6 (own_r4 s1 w_N w_E w_S w_W) (own_r4 s1 w_N w_E w_S w_W) y0_0 y0_0 y1_0 y1_0) = (0 : Int32)
              · skip
                refine own_step (fun t k => XS.ifYes X77.here hx rfl (pc0 := 178) (pc' := 205) rfl (hb hby at_178) rfl ((if0 _ _).trans (teq hc178_79).1) (by decide) (by decide) k) ?_
                show own_Ends p.tables e below s _ _ _ (T77.setTop (mkF m 205 #[.val (.long y0_0), .second, .val (.long y1_0), .second, .val (.long y2_0), .second, .val (.long y3_0), .second, .val (.int x4_0), .val (.int x5_0), .val (.long cx), .second, .val (.long cy), .second, .val (.int s1), .val (.int s2), .val (.ref b1), .val (.ref b8), .val (.ref b16), .val (.ref b27), .val (.int (0 : Int32)), .val (.ref b1), .val .null] []))
                refine own_step (fun t k => XS.iconst X77.here hx rfl (hb hby at_205) k) ?_
                show own_Ends p.tables e below s _ _ _ (T77.setTop (mkF m 206 #[.val (.long y0_0), .second, .val (.long y1_0), .second, .val (.long y2_0), .second, .val (.long y3_0), .second, .val (.int x4_0), .val (.int x5_0), .val (.long cx), .second, .val (.long cy), .second, .val (.int s1), .val (.int s2), .val (.ref b1), .val (.ref b8), .val (.ref b16), .val (.ref b27), .val (.int (0 : Int32)), .val (.ref b1), .val .null] [(.int (0 : Int32))]))
                exfalso
                exact own_eq6r _ _ _ hc178_79
              · skip
                refine own_step (fun t k => XS.ifNo X77.here hx rfl (hb hby at_178) rfl ((if0 _ _).trans (feq hc178_79).1) k) ?_
                show own_Ends p.tables e below s _ _ _ (T77.setTop (mkF m 181 #[.val (.long y0_0), .second, .val (.long y1_0), .second, .val (.long y2_0), .second, .val (.long y3_0), .second, .val (.int x4_0), .val (.int x5_0), .val (.long cx), .second, .val (.long cy), .second, .val (.int s1), .val (.int s2), .val (.ref b1), .val (.ref b8), .val (.ref b16), .val (.ref b27), .val (.int (0 : Int32)), .val (.ref b1), .val .null] []))
                refine own_step (fun t k => XS.aload X77.here hx rfl (hb hby at_181) rfl rfl k) ?_
                show own_Ends p.tables e below s _ _ _ (T77.setTop (mkF m 183 #[.val (.long y0_0), .second, .val (.long y1_0), .second, .val (.long y2_0), .second, .val (.long y3_0), .second, .val (.int x4_0), .val (.int x5_0), .val (.long cx), .second, .val (.long cy), .second, .val (.int s1), .val (.int s2), .val (.ref b1), .val (.ref b8), .val (.ref b16), .val (.ref b27), .val (.int (0 : Int32)), .val (.ref b1), .val .null] [(.ref b16)]))
                refine own_step (fun t k => XS.aload X77.here hx rfl (hb hby at_183) rfl rfl k) ?_
                show own_Ends p.tables e below s _ _ _ (T77.setTop (mkF m 185 #[.val (.long y0_0), .second, .val (.long y1_0), .second, .val (.long y2_0), .second, .val (.long y3_0), .second, .val (.int x4_0), .val (.int x5_0), .val (.long cx), .second, .val (.long cy), .second, .val (.int s1), .val (.int s2), .val (.ref b1), .val (.ref b8), .val (.ref b16), .val (.ref b27), .val (.int (0 : Int32)), .val (.ref b1), .val .null] [(.ref b1), (.ref b16)]))
                obtain ⟨cq80, kq80, q80a, q80b, q80c⟩ := isOf hZ e77 F71
                obtain ⟨_, _, ⟨T80, L80, k80, n80⟩, -, X80, ⟨Lc80, hQ80, l80, y80, z80⟩, st80⟩ := X77.virtualBack hx (y := (⟨"com/example/swanhall/swanhall/core/Edge", "equals", "(Ljava/lang/Object;)Z"⟩ : MethodName)) (z := (⟨"com/example/swanhall/swanhall/core/Edge", "equals", "(Ljava/lang/Object;)Z"⟩ : MethodName)) hown (mvT hZ (hw _ (List.mem_of_getElem? (i := 38) rfl))) (mvT hZ (hw _ (List.mem_of_getElem? (i := 39) rfl))) (notFace_of_selects (args := #[]) (mvT hZ (hw _ (List.mem_of_getElem? (i := 41) rfl)))) (mvT hZ (hw _ (List.mem_of_getElem? (i := 41) rfl))) (mvT hZ (hw _ (List.mem_of_getElem? (i := 40) rfl))) (by decide) (backOf (W := 0) (rm6c l Z a0 hw [] b16 b1 T32.heap n0 O69 F63) hZ (hw _ (List.mem_of_getElem? (i := 42) rfl)) (hw _ (List.mem_of_getElem? (i := 20) rfl)) (by decide) (by decide)) q80a q80c (g := (mkF m 185 #[.val (.long y0_0), .second, .val (.long y1_0), .second, .val (.long y2_0), .second, .val (.long y3_0), .second, .val (.int x4_0), .val (.int x5_0), .val (.long cx), .second, .val (.long cy), .second, .val (.int s1), .val (.int s2), .val (.ref b1), .val (.ref b8), .val (.ref b16), .val (.ref b27), .val (.int (0 : Int32)), .val (.ref b1), .val .null] [(.ref b1), (.ref b16)])) rfl (by rw [hml]; rfl) (Steps.refl _) (argsL := [(.ref b1)]) (rest := []) (lenOf pd_1 rfl) rfl (by show 2 * 0 + _ ≤ _; exact Nat.le_of_eq rfl) (hb hby at_185) (fun _ _ => ⟨rfl, e77, (by decide : 4 + 0 ≤ _), (by decide : 8 + 0 ≤ _)⟩)
                dsimp only [Pt.U, Pt.locs, Pt.cells, Pt.slots] at X80 l80 y80 z80 st80 hQ80
                subst l80 y80 z80
                obtain ⟨rfl, N80q, e80⟩ := hQ80
                refine own_step (fun t k => st80.trans k) ?_
                have N81 := Fr.app N78 N80q
                show own_Ends p.tables e below s _ _ _ (T80.setTop (mkF m 188 #[.val (.long y0_0), .second, .val (.long y1_0), .second, .val (.long y2_0), .second, .val (.long y3_0), .second, .val (.int x4_0), .val (.int x5_0), .val (.long cx), .second, .val (.long cy), .second, .val (.int s1), .val (.int s2), .val (.ref b1), .val (.ref b8), .val (.ref b16), .val (.ref b27), .val (.int (0 : Int32)), .val (.ref b1), .val .null] [(.int (0 : Int32))]))
                refine own_step (fun t k => XS.ifNo X80.here hx rfl (hb hby at_188) rfl ((if0 _ _).trans (teq (by decide : (0 : Int32) = (0 : Int32))).2) k) ?_
                show own_Ends p.tables e below s _ _ _ (T80.setTop (mkF m 191 #[.val (.long y0_0), .second, .val (.long y1_0), .second, .val (.long y2_0), .second, .val (.long y3_0), .second, .val (.int x4_0), .val (.int x5_0), .val (.long cx), .second, .val (.long cy), .second, .val (.int s1), .val (.int s2), .val (.ref b1), .val (.ref b8), .val (.ref b16), .val (.ref b27), .val (.int (0 : Int32)), .val (.ref b1), .val .null] []))
                refine own_step (fun t k => XS.aload X80.here hx rfl (hb hby at_191) rfl rfl k) ?_
                show own_Ends p.tables e below s _ _ _ (T80.setTop (mkF m 193 #[.val (.long y0_0), .second, .val (.long y1_0), .second, .val (.long y2_0), .second, .val (.long y3_0), .second, .val (.int x4_0), .val (.int x5_0), .val (.long cx), .second, .val (.long cy), .second, .val (.int s1), .val (.int s2), .val (.ref b1), .val (.ref b8), .val (.ref b16), .val (.ref b27), .val (.int (0 : Int32)), .val (.ref b1), .val .null] [(.ref b16)]))
                refine own_step (fun t k => XS.aload X80.here hx rfl (hb hby at_193) rfl rfl k) ?_
                show own_Ends p.tables e below s _ _ _ (T80.setTop (mkF m 195 #[.val (.long y0_0), .second, .val (.long y1_0), .second, .val (.long y2_0), .second, .val (.long y3_0), .second, .val (.int x4_0), .val (.int x5_0), .val (.long cx), .second, .val (.long cy), .second, .val (.int s1), .val (.int s2), .val (.ref b1), .val (.ref b8), .val (.ref b16), .val (.ref b27), .val (.int (0 : Int32)), .val (.ref b1), .val .null] [.null, (.ref b16)]))
                obtain ⟨cq82, kq82, q82a, q82b, q82c⟩ := isOf hZ e80 F71
                obtain ⟨_, _, ⟨T82, L82, k82, n82⟩, -, X82, ⟨Lc82, hQ82, l82, y82, z82⟩, st82⟩ := X80.virtualBack hx (y := (⟨"com/example/swanhall/swanhall/core/Edge", "equals", "(Ljava/lang/Object;)Z"⟩ : MethodName)) (z := (⟨"com/example/swanhall/swanhall/core/Edge", "equals", "(Ljava/lang/Object;)Z"⟩ : MethodName)) hown (mvT hZ (hw _ (List.mem_of_getElem? (i := 38) rfl))) (mvT hZ (hw _ (List.mem_of_getElem? (i := 39) rfl))) (notFace_of_selects (args := #[]) (mvT hZ (hw _ (List.mem_of_getElem? (i := 41) rfl)))) (mvT hZ (hw _ (List.mem_of_getElem? (i := 41) rfl))) (mvT hZ (hw _ (List.mem_of_getElem? (i := 40) rfl))) (by decide) (backOf (W := 0) (rm6n l Z a0 hw [] b16 T32.heap n0 O69 ) hZ (hw _ (List.mem_of_getElem? (i := 42) rfl)) (hw _ (List.mem_of_getElem? (i := 20) rfl)) (by decide) (by decide)) q82a q82c (g := (mkF m 195 #[.val (.long y0_0), .second, .val (.long y1_0), .second, .val (.long y2_0), .second, .val (.long y3_0), .second, .val (.int x4_0), .val (.int x5_0), .val (.long cx), .second, .val (.long cy), .second, .val (.int s1), .val (.int s2), .val (.ref b1), .val (.ref b8), .val (.ref b16), .val (.ref b27), .val (.int (0 : Int32)), .val (.ref b1), .val .null] [.null, (.ref b16)])) rfl (by rw [hml]; rfl) (Steps.refl _) (argsL := [.null]) (rest := []) (lenOf pd_1 rfl) rfl (by show 2 * 0 + _ ≤ _; exact Nat.le_of_eq rfl) (hb hby at_195) (fun _ _ => ⟨rfl, e80, (by decide : 4 + 0 ≤ _), (by decide : 8 + 0 ≤ _)⟩)
                dsimp only [Pt.U, Pt.locs, Pt.cells, Pt.slots] at X82 l82 y82 z82 st82 hQ82
                subst l82 y82 z82
                obtain ⟨rfl, N82q, e82⟩ := hQ82
                refine own_step (fun t k => st82.trans k) ?_
                have N83 := Fr.app N81 N82q
                show own_Ends p.tables e below s _ _ _ (T82.setTop (mkF m 198 #[.val (.long y0_0), .second, .val (.long y1_0), .second, .val (.long y2_0), .second, .val (.long y3_0), .second, .val (.int x4_0), .val (.int x5_0), .val (.long cx), .second, .val (.long cy), .second, .val (.int s1), .val (.int s2), .val (.ref b1), .val (.ref b8), .val (.ref b16), .val (.ref b27), .val (.int (0 : Int32)), .val (.ref b1), .val .null] [(.int (0 : Int32))]))
                refine own_step (fun t k => XS.ifNo X82.here hx rfl (hb hby at_198) rfl ((if0 _ _).trans (teq (by decide : (0 : Int32) = (0 : Int32))).2) k) ?_
                show own_Ends p.tables e below s _ _ _ (T82.setTop (mkF m 201 #[.val (.long y0_0), .second, .val (.long y1_0), .second, .val (.long y2_0), .second, .val (.long y3_0), .second, .val (.int x4_0), .val (.int x5_0), .val (.long cx), .second, .val (.long cy), .second, .val (.int s1), .val (.int s2), .val (.ref b1), .val (.ref b8), .val (.ref b16), .val (.ref b27), .val (.int (0 : Int32)), .val (.ref b1), .val .null] []))
                refine own_step (fun t k => XS.iconst X82.here hx rfl (hb hby at_201) k) ?_
                show own_Ends p.tables e below s _ _ _ (T82.setTop (mkF m 202 #[.val (.long y0_0), .second, .val (.long y1_0), .second, .val (.long y2_0), .second, .val (.long y3_0), .second, .val (.int x4_0), .val (.int x5_0), .val (.long cx), .second, .val (.long cy), .second, .val (.int s1), .val (.int s2), .val (.ref b1), .val (.ref b8), .val (.ref b16), .val (.ref b27), .val (.int (0 : Int32)), .val (.ref b1), .val .null] [(.int (1 : Int32))]))
                refine own_step (fun t k => XS.goto X82.here hx rfl (pc0 := 202) (pc' := 206) rfl (hb hby at_202) (by decide) (by decide) k) ?_
                show own_Ends p.tables e below s _ _ _ (T82.setTop (mkF m 206 #[.val (.long y0_0), .second, .val (.long y1_0), .second, .val (.long y2_0), .second, .val (.long y3_0), .second, .val (.int x4_0), .val (.int x5_0), .val (.long cx), .second, .val (.long cy), .second, .val (.int s1), .val (.int s2), .val (.ref b1), .val (.ref b8), .val (.ref b16), .val (.ref b27), .val (.int (0 : Int32)), .val (.ref b1), .val .null] [(.int (1 : Int32))]))
                exact own_retN X82 hx (t := .boolean) Bd.returns (by simp) (hb hby at_206) hnl (by rw [e82]; exact ⟨rfl, N83⟩) (by decide) (by decide)
            · skip
              refine own_step (fun t k => XS.icmpYes X74.here hx rfl (pc0 := 168) (pc' := 205) rfl (hb hby at_168) rfl (feq hc168_76).2 (by decide) (by decide) k) ?_
              show own_Ends p.tables e below s _ _ _ (T74.setTop (mkF m 205 #[.val (.long y0_0), .second, .val (.long y1_0), .second, .val (.long y2_0), .second, .val (.long y3_0), .second, .val (.int x4_0), .val (.int x5_0), .val (.long cx), .second, .val (.long cy), .second, .val (.int s1), .val (.int s2), .val (.ref b1), .val (.ref b8), .val (.ref b16), .val (.ref b27), .val (.int (0 : Int32)), .val (.ref b1), .val .null] []))
              refine own_step (fun t k => XS.iconst X74.here hx rfl (hb hby at_205) k) ?_
              show own_Ends p.tables e below s _ _ _ (T74.setTop (mkF m 206 #[.val (.long y0_0), .second, .val (.long y1_0), .second, .val (.long y2_0), .second, .val (.long y3_0), .second, .val (.int x4_0), .val (.int x5_0), .val (.long cx), .second, .val (.long cy), .second, .val (.int s1), .val (.int s2), .val (.ref b1), .val (.ref b8), .val (.ref b16), .val (.ref b27), .val (.int (0 : Int32)), .val (.ref b1), .val .null] [(.int (0 : Int32))]))
              exfalso
              exact hc168_76 (by rw [own_eq6 s1 s2 _ _ _ _ _ _ _ _ hs1 hs2 ne_w_N_w_E ne_w_N_w_S ne_w_N_w_W ne_w_E_w_S ne_w_E_w_W ne_w_S_w_W]; exact if_neg (fun q => hc130_37 q.1))
          · skip
            refine own_step (fun t k => XS.icmpYes X70.here hx rfl (pc0 := 156) (pc' := 205) rfl (hb hby at_156) rfl (feq hc156_73).2 (by decide) (by decide) k) ?_
            show own_Ends p.tables e below s _ _ _ (T70.setTop (mkF m 205 #[.val (.long y0_0), .second, .val (.long y1_0), .second, .val (.long y2_0), .second, .val (.long y3_0), .second, .val (.int x4_0), .val (.int x5_0), .val (.long cx), .second, .val (.long cy), .second, .val (.int s1), .val (.int s2), .val (.ref b1), .val (.ref b8), .val (.ref b16), .val (.ref b27), .val (.int (0 : Int32)), .val (.ref b1), .val .null] []))
            refine own_step (fun t k => XS.iconst X70.here hx rfl (hb hby at_205) k) ?_
            show own_Ends p.tables e below s _ _ _ (T70.setTop (mkF m 206 #[.val (.long y0_0), .second, .val (.long y1_0), .second, .val (.long y2_0), .second, .val (.long y3_0), .second, .val (.int x4_0), .val (.int x5_0), .val (.long cx), .second, .val (.long cy), .second, .val (.int s1), .val (.int s2), .val (.ref b1), .val (.ref b8), .val (.ref b16), .val (.ref b27), .val (.int (0 : Int32)), .val (.ref b1), .val .null] [(.int (0 : Int32))]))
            exfalso
            exact hc156_73 (by rw [own_eq6 s2 s1 _ _ _ _ _ _ _ _ hs2 hs1 ne_w_N_w_E ne_w_N_w_S ne_w_N_w_W ne_w_E_w_S ne_w_E_w_W ne_w_S_w_W]; exact if_neg (fun q => hc130_37 q.1.symm))
      · skip
        refine own_step (fun t k => XS.ifYes X32.here hx rfl (pc0 := 123) (pc' := 137) rfl (hb hby at_123) rfl ((if0 _ _).trans (feq hc123_36).2) (by decide) (by decide) k) ?_
        show own_Ends p.tables e below s _ _ _ (T32.setTop (mkF m 137 #[.val (.long y0_0), .second, .val (.long y1_0), .second, .val (.long y2_0), .second, .val (.long y3_0), .second, .val (.int x4_0), .val (.int x5_0), .val (.long cx), .second, .val (.long cy), .second, .val (.int s1), .val (.int s2), .val (.ref b1), .val (.ref b8), .val (.ref b16), .val (.ref b27), .unset, .unset, .unset] []))
        refine own_step (fun t k => XS.iconst X32.here hx rfl (hb hby at_137) k) ?_
        show own_Ends p.tables e below s _ _ _ (T32.setTop (mkF m 138 #[.val (.long y0_0), .second, .val (.long y1_0), .second, .val (.long y2_0), .second, .val (.long y3_0), .second, .val (.int x4_0), .val (.int x5_0), .val (.long cx), .second, .val (.long cy), .second, .val (.int s1), .val (.int s2), .val (.ref b1), .val (.ref b8), .val (.ref b16), .val (.ref b27), .unset, .unset, .unset] [(.int (0 : Int32))]))
        refine own_step (fun t k => XS.istore X32.here hx rfl (hb hby at_138) rfl (l' := #[.val (.long y0_0), .second, .val (.long y1_0), .second, .val (.long y2_0), .second, .val (.long y3_0), .second, .val (.int x4_0), .val (.int x5_0), .val (.long cx), .second, .val (.long cy), .second, .val (.int s1), .val (.int s2), .val (.ref b1), .val (.ref b8), .val (.ref b16), .val (.ref b27), .val (.int (0 : Int32)), .unset, .unset]) rfl k) ?_
        show own_Ends p.tables e below s _ _ _ (T32.setTop (mkF m 140 #[.val (.long y0_0), .second, .val (.long y1_0), .second, .val (.long y2_0), .second, .val (.long y3_0), .second, .val (.int x4_0), .val (.int x5_0), .val (.long cx), .second, .val (.long cy), .second, .val (.int s1), .val (.int s2), .val (.ref b1), .val (.ref b8), .val (.ref b16), .val (.ref b27), .val (.int (0 : Int32)), .unset, .unset] []))
        refine own_step (fun t k => XS.aload X32.here hx rfl (hb hby at_140) rfl rfl k) ?_
        show own_Ends p.tables e below s _ _ _ (T32.setTop (mkF m 142 #[.val (.long y0_0), .second, .val (.long y1_0), .second, .val (.long y2_0), .second, .val (.long y3_0), .second, .val (.int x4_0), .val (.int x5_0), .val (.long cx), .second, .val (.long cy), .second, .val (.int s1), .val (.int s2), .val (.ref b1), .val (.ref b8), .val (.ref b16), .val (.ref b27), .val (.int (0 : Int32)), .unset, .unset] [(.ref b1)]))
        refine own_step (fun t k => XS.astore X32.here hx rfl (hb hby at_142) rfl rfl (l' := #[.val (.long y0_0), .second, .val (.long y1_0), .second, .val (.long y2_0), .second, .val (.long y3_0), .second, .val (.int x4_0), .val (.int x5_0), .val (.long cx), .second, .val (.long cy), .second, .val (.int s1), .val (.int s2), .val (.ref b1), .val (.ref b8), .val (.ref b16), .val (.ref b27), .val (.int (0 : Int32)), .val (.ref b1), .unset]) rfl k) ?_
        show own_Ends p.tables e below s _ _ _ (T32.setTop (mkF m 144 #[.val (.long y0_0), .second, .val (.long y1_0), .second, .val (.long y2_0), .second, .val (.long y3_0), .second, .val (.int x4_0), .val (.int x5_0), .val (.long cx), .second, .val (.long cy), .second, .val (.int s1), .val (.int s2), .val (.ref b1), .val (.ref b8), .val (.ref b16), .val (.ref b27), .val (.int (0 : Int32)), .val (.ref b1), .unset] []))
        refine own_step (fun t k => XS.aconstNull X32.here hx rfl (hb hby at_144) k) ?_
        show own_Ends p.tables e below s _ _ _ (T32.setTop (mkF m 145 #[.val (.long y0_0), .second, .val (.long y1_0), .second, .val (.long y2_0), .second, .val (.long y3_0), .second, .val (.int x4_0), .val (.int x5_0), .val (.long cx), .second, .val (.long cy), .second, .val (.int s1), .val (.int s2), .val (.ref b1), .val (.ref b8), .val (.ref b16), .val (.ref b27), .val (.int (0 : Int32)), .val (.ref b1), .unset] [.null]))
        refine own_step (fun t k => XS.astore X32.here hx rfl (hb hby at_145) rfl rfl (l' := #[.val (.long y0_0), .second, .val (.long y1_0), .second, .val (.long y2_0), .second, .val (.long y3_0), .second, .val (.int x4_0), .val (.int x5_0), .val (.long cx), .second, .val (.long cy), .second, .val (.int s1), .val (.int s2), .val (.ref b1), .val (.ref b8), .val (.ref b16), .val (.ref b27), .val (.int (0 : Int32)), .val (.ref b1), .val .null]) rfl k) ?_
        show own_Ends p.tables e below s _ _ _ (T32.setTop (mkF m 147 #[.val (.long y0_0), .second, .val (.long y1_0), .second, .val (.long y2_0), .second, .val (.long y3_0), .second, .val (.int x4_0), .val (.int x5_0), .val (.long cx), .second, .val (.long cy), .second, .val (.int s1), .val (.int s2), .val (.ref b1), .val (.ref b8), .val (.ref b16), .val (.ref b27), .val (.int (0 : Int32)), .val (.ref b1), .val .null] []))
        refine own_step (fun t k => XS.aload X32.here hx rfl (hb hby at_147) rfl rfl k) ?_
        show own_Ends p.tables e below s _ _ _ (T32.setTop (mkF m 149 #[.val (.long y0_0), .second, .val (.long y1_0), .second, .val (.long y2_0), .second, .val (.long y3_0), .second, .val (.int x4_0), .val (.int x5_0), .val (.long cx), .second, .val (.long cy), .second, .val (.int s1), .val (.int s2), .val (.ref b1), .val (.ref b8), .val (.ref b16), .val (.ref b27), .val (.int (0 : Int32)), .val (.ref b1), .val .null] [(.ref b16)]))
        refine own_step (fun t k => XS.aload X32.here hx rfl (hb hby at_149) rfl rfl k) ?_
        show own_Ends p.tables e below s _ _ _ (T32.setTop (mkF m 151 #[.val (.long y0_0), .second, .val (.long y1_0), .second, .val (.long y2_0), .second, .val (.long y3_0), .second, .val (.int x4_0), .val (.int x5_0), .val (.long cx), .second, .val (.long cy), .second, .val (.int s1), .val (.int s2), .val (.ref b1), .val (.ref b8), .val (.ref b16), .val (.ref b27), .val (.int (0 : Int32)), .val (.ref b1), .val .null] [(.ref b27), (.ref b16)]))
        have F84 : Fld Z T32.heap b16 "com/example/swanhall/swanhall/core/Edge" "side" "Lcom/example/swanhall/swanhall/core/Side;" (.ref (own_r4 s1 w_N w_E w_S w_W)) := ((p21_2.ext E27).keep K32q (ninS ne_b16_b27 nin0))
        have F85 : Fld Z T32.heap b16 "com/example/swanhall/swanhall/core/Edge" "cell" "Lcom/example/swanhall/swanhall/core/Cell;" (.ref b1) := ((p21_1.ext E27).keep K32q (ninS ne_b16_b27 nin0))
        have F86 : Exa Z T32.heap b1 "com/example/swanhall/swanhall/core/Cell" := ((F25.ext E27).keep K32q)
        have F87 : Fld Z T32.heap b1 "com/example/swanhall/swanhall/core/Cell" "x" "J" (.long y0_0) := ((((((p4_1.ext E8).keep K11q (ninS ne_b1_b8 nin0)).ext E16).keep K21q (ninS ne_b1_b16 nin0)).ext E27).keep K32q (ninS ne_b1_b27 nin0))
        have F88 : Fld Z T32.heap b8 "com/example/swanhall/swanhall/core/Cell" "x" "J" (.long cx) := ((((p11_1.ext E16).keep K21q (ninS ne_b8_b16 nin0)).ext E27).keep K32q (ninS ne_b8_b27 nin0))
        have F89 : Fld Z T32.heap b1 "com/example/swanhall/swanhall/core/Cell" "y" "J" (.long y1_0) := ((((((p4_2.ext E8).keep K11q (ninS ne_b1_b8 nin0)).ext E16).keep K21q (ninS ne_b1_b16 nin0)).ext E27).keep K32q (ninS ne_b1_b27 nin0))
        have F90 : Fld Z T32.heap b8 "com/example/swanhall/swanhall/core/Cell" "y" "J" (.long cy) := ((((p11_2.ext E16).keep K21q (ninS ne_b8_b16 nin0)).ext E27).keep K32q (ninS ne_b8_b27 nin0))
        have F91 : Exa Z T32.heap b8 "com/example/swanhall/swanhall/core/Cell" := ((F26.ext E27).keep K32q)
        have O92 : Old Z n0 T32.heap := (O29.keep K32q (allS g_b27 all0))
        have F94 : Exa Z T32.heap b16 "com/example/swanhall/swanhall/core/Edge" := ((p21_0.ext E27).keep K32q)
        obtain ⟨cq93, kq93, q93a, q93b, q93c⟩ := isOf hZ rfl F94
        obtain ⟨_, _, ⟨T93, L93, k93, n93⟩, -, X93, ⟨Lc93, hQ93, l93, y93, z93⟩, st93⟩ := X32.virtualBack hx (y := (⟨"com/example/swanhall/swanhall/core/Edge", "equals", "(Ljava/lang/Object;)Z"⟩ : MethodName)) (z := (⟨"com/example/swanhall/swanhall/core/Edge", "equals", "(Ljava/lang/Object;)Z"⟩ : MethodName)) hown (mvT hZ (hw _ (List.mem_of_getElem? (i := 38) rfl))) (mvT hZ (hw _ (List.mem_of_getElem? (i := 39) rfl))) (notFace_of_selects (args := #[]) (mvT hZ (hw _ (List.mem_of_getElem? (i := 41) rfl)))) (mvT hZ (hw _ (List.mem_of_getElem? (i := 41) rfl))) (mvT hZ (hw _ (List.mem_of_getElem? (i := 40) rfl))) (by decide) (backOf (W := 0) (rm6 l Z a0 hw [] b16 b27 (own_r4 s2 w_N w_E w_S w_W) (own_r4 s1 w_N w_E w_S w_W) b8 b1 y0_0 cx y1_0 cy T32.heap n0 O92 p32_0 p32_2 F84 p32_1 F85 F86 F87 F88 F89 F90 F91) hZ (hw _ (List.mem_of_getElem? (i := 42) rfl)) (hw _ (List.mem_of_getElem? (i := 20) rfl)) (by decide) (by decide)) q93a q93c (g := (mkF m 151 #[.val (.long y0_0), .second, .val (.long y1_0), .second, .val (.long y2_0), .second, .val (.long y3_0), .second, .val (.int x4_0), .val (.int x5_0), .val (.long cx), .second, .val (.long cy), .second, .val (.int s1), .val (.int s2), .val (.ref b1), .val (.ref b8), .val (.ref b16), .val (.ref b27), .val (.int (0 : Int32)), .val (.ref b1), .val .null] [(.ref b27), (.ref b16)])) rfl (by rw [hml]; rfl) (Steps.refl _) (argsL := [(.ref b27)]) (rest := []) (lenOf pd_1 rfl) rfl (by show 2 * 0 + _ ≤ _; exact Nat.le_of_eq rfl) (hb hby at_151) (fun _ _ => ⟨rfl, rfl, (by decide : 4 + 0 ≤ _), (by decide : 8 + 0 ≤ _)⟩)
        dsimp only [Pt.U, Pt.locs, Pt.cells, Pt.slots] at X93 l93 y93 z93 st93 hQ93
        subst l93 y93 z93
        obtain ⟨rfl, N93q, e93⟩ := hQ93
        refine own_step (fun t k => st93.trans k) ?_
        have N95 := Fr.app N33 N93q
        show own_Ends p.tables e below s _ _ _ (T93.setTop (mkF m 154 #[.val (.long y0_0), .second, .val (.long y1_0), .second, .val (.long y2_0), .second, .val (.long y3_0), .second, .val (.int x4_0), .val (.int x5_0), .val (.long cx), .second, .val (.long cy), .second, .val (.int s1), .val (.int s2), .val (.ref b1), .val (.ref b8), .val (.ref b16), .val (.ref b27), .val (.int (0 : Int32)), .val (.ref b1), .val .null] [(.int (own_r6 (own_r4 s2 w_N w_E w_S w_W) (own_r4 s1 w_N w_E w_S w_W) y0_0 cx y1_0 cy))]))
        refine own_step (fun t k => XS.iload X93.here hx rfl (hb hby at_154) rfl k) ?_
        show own_Ends p.tables e below s _ _ _ (T93.setTop (mkF m 156 #[.val (.long y0_0), .second, .val (.long y1_0), .second, .val (.long y2_0), .second, .val (.long y3_0), .second, .val (.int x4_0), .val (.int x5_0), .val (.long cx), .second, .val (.long cy), .second, .val (.int s1), .val (.int s2), .val (.ref b1), .val (.ref b8), .val (.ref b16), .val (.ref b27), .val (.int (0 : Int32)), .val (.ref b1), .val .null] [(.int (0 : Int32)), (.int (own_r6 (own_r4 s2 w_N w_E w_S w_W) (own_r4 s1 w_N w_E w_S w_W) y0_0 cx y1_0 cy))]))
        by_cases hc156_96 : (own_r6 (own_r4 s2 w_N w_E w_S w_W) (own_r4 s1 w_N w_E w_S w_W) y0_0 cx y1_0 cy) = (0 : Int32)
        · skip
          refine own_step (fun t k => XS.icmpNo X93.here hx rfl (hb hby at_156) rfl (teq hc156_96).2 k) ?_
          show own_Ends p.tables e below s _ _ _ (T93.setTop (mkF m 159 #[.val (.long y0_0), .second, .val (.long y1_0), .second, .val (.long y2_0), .second, .val (.long y3_0), .second, .val (.int x4_0), .val (.int x5_0), .val (.long cx), .second, .val (.long cy), .second, .val (.int s1), .val (.int s2), .val (.ref b1), .val (.ref b8), .val (.ref b16), .val (.ref b27), .val (.int (0 : Int32)), .val (.ref b1), .val .null] []))
          refine own_step (fun t k => XS.aload X93.here hx rfl (hb hby at_159) rfl rfl k) ?_
          show own_Ends p.tables e below s _ _ _ (T93.setTop (mkF m 161 #[.val (.long y0_0), .second, .val (.long y1_0), .second, .val (.long y2_0), .second, .val (.long y3_0), .second, .val (.int x4_0), .val (.int x5_0), .val (.long cx), .second, .val (.long cy), .second, .val (.int s1), .val (.int s2), .val (.ref b1), .val (.ref b8), .val (.ref b16), .val (.ref b27), .val (.int (0 : Int32)), .val (.ref b1), .val .null] [(.ref b27)]))
          refine own_step (fun t k => XS.aload X93.here hx rfl (hb hby at_161) rfl rfl k) ?_
          show own_Ends p.tables e below s _ _ _ (T93.setTop (mkF m 163 #[.val (.long y0_0), .second, .val (.long y1_0), .second, .val (.long y2_0), .second, .val (.long y3_0), .second, .val (.int x4_0), .val (.int x5_0), .val (.long cx), .second, .val (.long cy), .second, .val (.int s1), .val (.int s2), .val (.ref b1), .val (.ref b8), .val (.ref b16), .val (.ref b27), .val (.int (0 : Int32)), .val (.ref b1), .val .null] [(.ref b16), (.ref b27)]))
          obtain ⟨cq97, kq97, q97a, q97b, q97c⟩ := isOf hZ e93 p32_0
          obtain ⟨_, _, ⟨T97, L97, k97, n97⟩, -, X97, ⟨Lc97, hQ97, l97, y97, z97⟩, st97⟩ := X93.virtualBack hx (y := (⟨"com/example/swanhall/swanhall/core/Edge", "equals", "(Ljava/lang/Object;)Z"⟩ : MethodName)) (z := (⟨"com/example/swanhall/swanhall/core/Edge", "equals", "(Ljava/lang/Object;)Z"⟩ : MethodName)) hown (mvT hZ (hw _ (List.mem_of_getElem? (i := 38) rfl))) (mvT hZ (hw _ (List.mem_of_getElem? (i := 39) rfl))) (notFace_of_selects (args := #[]) (mvT hZ (hw _ (List.mem_of_getElem? (i := 41) rfl)))) (mvT hZ (hw _ (List.mem_of_getElem? (i := 41) rfl))) (mvT hZ (hw _ (List.mem_of_getElem? (i := 40) rfl))) (by decide) (backOf (W := 0) (rm6 l Z a0 hw [] b27 b16 (own_r4 s1 w_N w_E w_S w_W) (own_r4 s2 w_N w_E w_S w_W) b1 b8 cx y0_0 cy y1_0 T32.heap n0 O92 F94 F84 p32_2 F85 p32_1 F91 F88 F87 F90 F89 F86) hZ (hw _ (List.mem_of_getElem? (i := 42) rfl)) (hw _ (List.mem_of_getElem? (i := 20) rfl)) (by decide) (by decide)) q97a q97c (g := (mkF m 163 #[.val (.long y0_0), .second, .val (.long y1_0), .second, .val (.long y2_0), .second, .val (.long y3_0), .second, .val (.int x4_0), .val (.int x5_0), .val (.long cx), .second, .val (.long cy), .second, .val (.int s1), .val (.int s2), .val (.ref b1), .val (.ref b8), .val (.ref b16), .val (.ref b27), .val (.int (0 : Int32)), .val (.ref b1), .val .null] [(.ref b16), (.ref b27)])) rfl (by rw [hml]; rfl) (Steps.refl _) (argsL := [(.ref b16)]) (rest := []) (lenOf pd_1 rfl) rfl (by show 2 * 0 + _ ≤ _; exact Nat.le_of_eq rfl) (hb hby at_163) (fun _ _ => ⟨rfl, e93, (by decide : 4 + 0 ≤ _), (by decide : 8 + 0 ≤ _)⟩)
          dsimp only [Pt.U, Pt.locs, Pt.cells, Pt.slots] at X97 l97 y97 z97 st97 hQ97
          subst l97 y97 z97
          obtain ⟨rfl, N97q, e97⟩ := hQ97
          refine own_step (fun t k => st97.trans k) ?_
          have N98 := Fr.app N95 N97q
          show own_Ends p.tables e below s _ _ _ (T97.setTop (mkF m 166 #[.val (.long y0_0), .second, .val (.long y1_0), .second, .val (.long y2_0), .second, .val (.long y3_0), .second, .val (.int x4_0), .val (.int x5_0), .val (.long cx), .second, .val (.long cy), .second, .val (.int s1), .val (.int s2), .val (.ref b1), .val (.ref b8), .val (.ref b16), .val (.ref b27), .val (.int (0 : Int32)), .val (.ref b1), .val .null] [(.int (own_r6 (own_r4 s1 w_N w_E w_S w_W) (own_r4 s2 w_N w_E w_S w_W) cx y0_0 cy y1_0))]))
          refine own_step (fun t k => XS.iload X97.here hx rfl (hb hby at_166) rfl k) ?_
          show own_Ends p.tables e below s _ _ _ (T97.setTop (mkF m 168 #[.val (.long y0_0), .second, .val (.long y1_0), .second, .val (.long y2_0), .second, .val (.long y3_0), .second, .val (.int x4_0), .val (.int x5_0), .val (.long cx), .second, .val (.long cy), .second, .val (.int s1), .val (.int s2), .val (.ref b1), .val (.ref b8), .val (.ref b16), .val (.ref b27), .val (.int (0 : Int32)), .val (.ref b1), .val .null] [(.int (0 : Int32)), (.int (own_r6 (own_r4 s1 w_N w_E w_S w_W) (own_r4 s2 w_N w_E w_S w_W) cx y0_0 cy y1_0))]))
          by_cases hc168_99 : (own_r6 (own_r4 s1 w_N w_E w_S w_W) (own_r4 s2 w_N w_E w_S w_W) cx y0_0 cy y1_0) = (0 : Int32)
          · skip
            refine own_step (fun t k => XS.icmpNo X97.here hx rfl (hb hby at_168) rfl (teq hc168_99).2 k) ?_
            show own_Ends p.tables e below s _ _ _ (T97.setTop (mkF m 171 #[.val (.long y0_0), .second, .val (.long y1_0), .second, .val (.long y2_0), .second, .val (.long y3_0), .second, .val (.int x4_0), .val (.int x5_0), .val (.long cx), .second, .val (.long cy), .second, .val (.int s1), .val (.int s2), .val (.ref b1), .val (.ref b8), .val (.ref b16), .val (.ref b27), .val (.int (0 : Int32)), .val (.ref b1), .val .null] []))
            refine own_step (fun t k => XS.aload X97.here hx rfl (hb hby at_171) rfl rfl k) ?_
            show own_Ends p.tables e below s _ _ _ (T97.setTop (mkF m 173 #[.val (.long y0_0), .second, .val (.long y1_0), .second, .val (.long y2_0), .second, .val (.long y3_0), .second, .val (.int x4_0), .val (.int x5_0), .val (.long cx), .second, .val (.long cy), .second, .val (.int s1), .val (.int s2), .val (.ref b1), .val (.ref b8), .val (.ref b16), .val (.ref b27), .val (.int (0 : Int32)), .val (.ref b1), .val .null] [(.ref b16)]))
            refine own_step (fun t k => XS.aload X97.here hx rfl (hb hby at_173) rfl rfl k) ?_
            show own_Ends p.tables e below s _ _ _ (T97.setTop (mkF m 175 #[.val (.long y0_0), .second, .val (.long y1_0), .second, .val (.long y2_0), .second, .val (.long y3_0), .second, .val (.int x4_0), .val (.int x5_0), .val (.long cx), .second, .val (.long cy), .second, .val (.int s1), .val (.int s2), .val (.ref b1), .val (.ref b8), .val (.ref b16), .val (.ref b27), .val (.int (0 : Int32)), .val (.ref b1), .val .null] [(.ref b16), (.ref b16)]))
            obtain ⟨cq100, kq100, q100a, q100b, q100c⟩ := isOf hZ e97 F94
            obtain ⟨_, _, ⟨T100, L100, k100, n100⟩, -, X100, ⟨Lc100, hQ100, l100, y100, z100⟩, st100⟩ := X97.virtualBack hx (y := (⟨"com/example/swanhall/swanhall/core/Edge", "equals", "(Ljava/lang/Object;)Z"⟩ : MethodName)) (z := (⟨"com/example/swanhall/swanhall/core/Edge", "equals", "(Ljava/lang/Object;)Z"⟩ : MethodName)) hown (mvT hZ (hw _ (List.mem_of_getElem? (i := 38) rfl))) (mvT hZ (hw _ (List.mem_of_getElem? (i := 39) rfl))) (notFace_of_selects (args := #[]) (mvT hZ (hw _ (List.mem_of_getElem? (i := 41) rfl)))) (mvT hZ (hw _ (List.mem_of_getElem? (i := 41) rfl))) (mvT hZ (hw _ (List.mem_of_getElem? (i := 40) rfl))) (by decide) (backOf (W := 0) (rm6 l Z a0 hw [] b16 b16 (own_r4 s1 w_N w_E w_S w_W) (own_r4 s1 w_N w_E w_S w_W) b1 b1 y0_0 y0_0 y1_0 y1_0 T32.heap n0 O92 F94 F84 F84 F85 F85 F86 F87 F87 F89 F89 F86) hZ (hw _ (List.mem_of_getElem? (i := 42) rfl)) (hw _ (List.mem_of_getElem? (i := 20) rfl)) (by decide) (by decide)) q100a q100c (g := (mkF m 175 #[.val (.long y0_0), .second, .val (.long y1_0), .second, .val (.long y2_0), .second, .val (.long y3_0), .second, .val (.int x4_0), .val (.int x5_0), .val (.long cx), .second, .val (.long cy), .second, .val (.int s1), .val (.int s2), .val (.ref b1), .val (.ref b8), .val (.ref b16), .val (.ref b27), .val (.int (0 : Int32)), .val (.ref b1), .val .null] [(.ref b16), (.ref b16)])) rfl (by rw [hml]; rfl) (Steps.refl _) (argsL := [(.ref b16)]) (rest := []) (lenOf pd_1 rfl) rfl (by show 2 * 0 + _ ≤ _; exact Nat.le_of_eq rfl) (hb hby at_175) (fun _ _ => ⟨rfl, e97, (by decide : 4 + 0 ≤ _), (by decide : 8 + 0 ≤ _)⟩)
            dsimp only [Pt.U, Pt.locs, Pt.cells, Pt.slots] at X100 l100 y100 z100 st100 hQ100
            subst l100 y100 z100
            obtain ⟨rfl, N100q, e100⟩ := hQ100
            refine own_step (fun t k => st100.trans k) ?_
            have N101 := Fr.app N98 N100q
            show own_Ends p.tables e below s _ _ _ (T100.setTop (mkF m 178 #[.val (.long y0_0), .second, .val (.long y1_0), .second, .val (.long y2_0), .second, .val (.long y3_0), .second, .val (.int x4_0), .val (.int x5_0), .val (.long cx), .second, .val (.long cy), .second, .val (.int s1), .val (.int s2), .val (.ref b1), .val (.ref b8), .val (.ref b16), .val (.ref b27), .val (.int (0 : Int32)), .val (.ref b1), .val .null] [(.int (own_r6 (own_r4 s1 w_N w_E w_S w_W) (own_r4 s1 w_N w_E w_S w_W) y0_0 y0_0 y1_0 y1_0))]))
            by_cases hc178_102 : (own_r6 (own_r4 s1 w_N w_E w_S w_W) (own_r4 s1 w_N w_E w_S w_W) y0_0 y0_0 y1_0 y1_0) = (0 : Int32)
            · skip
              refine own_step (fun t k => XS.ifYes X100.here hx rfl (pc0 := 178) (pc' := 205) rfl (hb hby at_178) rfl ((if0 _ _).trans (teq hc178_102).1) (by decide) (by decide) k) ?_
              show own_Ends p.tables e below s _ _ _ (T100.setTop (mkF m 205 #[.val (.long y0_0), .second, .val (.long y1_0), .second, .val (.long y2_0), .second, .val (.long y3_0), .second, .val (.int x4_0), .val (.int x5_0), .val (.long cx), .second, .val (.long cy), .second, .val (.int s1), .val (.int s2), .val (.ref b1), .val (.ref b8), .val (.ref b16), .val (.ref b27), .val (.int (0 : Int32)), .val (.ref b1), .val .null] []))
              refine own_step (fun t k => XS.iconst X100.here hx rfl (hb hby at_205) k) ?_
              show own_Ends p.tables e below s _ _ _ (T100.setTop (mkF m 206 #[.val (.long y0_0), .second, .val (.long y1_0), .second, .val (.long y2_0), .second, .val (.long y3_0), .second, .val (.int x4_0), .val (.int x5_0), .val (.long cx), .second, .val (.long cy), .second, .val (.int s1), .val (.int s2), .val (.ref b1), .val (.ref b8), .val (.ref b16), .val (.ref b27), .val (.int (0 : Int32)), .val (.ref b1), .val .null] [(.int (0 : Int32))]))
              exfalso
              exact own_eq6r _ _ _ hc178_102
            · skip
              refine own_step (fun t k => XS.ifNo X100.here hx rfl (hb hby at_178) rfl ((if0 _ _).trans (feq hc178_102).1) k) ?_
              show own_Ends p.tables e below s _ _ _ (T100.setTop (mkF m 181 #[.val (.long y0_0), .second, .val (.long y1_0), .second, .val (.long y2_0), .second, .val (.long y3_0), .second, .val (.int x4_0), .val (.int x5_0), .val (.long cx), .second, .val (.long cy), .second, .val (.int s1), .val (.int s2), .val (.ref b1), .val (.ref b8), .val (.ref b16), .val (.ref b27), .val (.int (0 : Int32)), .val (.ref b1), .val .null] []))
              refine own_step (fun t k => XS.aload X100.here hx rfl (hb hby at_181) rfl rfl k) ?_
              show own_Ends p.tables e below s _ _ _ (T100.setTop (mkF m 183 #[.val (.long y0_0), .second, .val (.long y1_0), .second, .val (.long y2_0), .second, .val (.long y3_0), .second, .val (.int x4_0), .val (.int x5_0), .val (.long cx), .second, .val (.long cy), .second, .val (.int s1), .val (.int s2), .val (.ref b1), .val (.ref b8), .val (.ref b16), .val (.ref b27), .val (.int (0 : Int32)), .val (.ref b1), .val .null] [(.ref b16)]))
              refine own_step (fun t k => XS.aload X100.here hx rfl (hb hby at_183) rfl rfl k) ?_
              show own_Ends p.tables e below s _ _ _ (T100.setTop (mkF m 185 #[.val (.long y0_0), .second, .val (.long y1_0), .second, .val (.long y2_0), .second, .val (.long y3_0), .second, .val (.int x4_0), .val (.int x5_0), .val (.long cx), .second, .val (.long cy), .second, .val (.int s1), .val (.int s2), .val (.ref b1), .val (.ref b8), .val (.ref b16), .val (.ref b27), .val (.int (0 : Int32)), .val (.ref b1), .val .null] [(.ref b1), (.ref b16)]))
              obtain ⟨cq103, kq103, q103a, q103b, q103c⟩ := isOf hZ e100 F94
              obtain ⟨_, _, ⟨T103, L103, k103, n103⟩, -, X103, ⟨Lc103, hQ103, l103, y103, z103⟩, st103⟩ := X100.virtualBack hx (y := (⟨"com/example/swanhall/swanhall/core/Edge", "equals", "(Ljava/lang/Object;)Z"⟩ : MethodName)) (z := (⟨"com/example/swanhall/swanhall/core/Edge", "equals", "(Ljava/lang/Object;)Z"⟩ : MethodName)) hown (mvT hZ (hw _ (List.mem_of_getElem? (i := 38) rfl))) (mvT hZ (hw _ (List.mem_of_getElem? (i := 39) rfl))) (notFace_of_selects (args := #[]) (mvT hZ (hw _ (List.mem_of_getElem? (i := 41) rfl)))) (mvT hZ (hw _ (List.mem_of_getElem? (i := 41) rfl))) (mvT hZ (hw _ (List.mem_of_getElem? (i := 40) rfl))) (by decide) (backOf (W := 0) (rm6c l Z a0 hw [] b16 b1 T32.heap n0 O92 F86) hZ (hw _ (List.mem_of_getElem? (i := 42) rfl)) (hw _ (List.mem_of_getElem? (i := 20) rfl)) (by decide) (by decide)) q103a q103c (g := (mkF m 185 #[.val (.long y0_0), .second, .val (.long y1_0), .second, .val (.long y2_0), .second, .val (.long y3_0), .second, .val (.int x4_0), .val (.int x5_0), .val (.long cx), .second, .val (.long cy), .second, .val (.int s1), .val (.int s2), .val (.ref b1), .val (.ref b8), .val (.ref b16), .val (.ref b27), .val (.int (0 : Int32)), .val (.ref b1), .val .null] [(.ref b1), (.ref b16)])) rfl (by rw [hml]; rfl) (Steps.refl _) (argsL := [(.ref b1)]) (rest := []) (lenOf pd_1 rfl) rfl (by show 2 * 0 + _ ≤ _; exact Nat.le_of_eq rfl) (hb hby at_185) (fun _ _ => ⟨rfl, e100, (by decide : 4 + 0 ≤ _), (by decide : 8 + 0 ≤ _)⟩)
              dsimp only [Pt.U, Pt.locs, Pt.cells, Pt.slots] at X103 l103 y103 z103 st103 hQ103
              subst l103 y103 z103
              obtain ⟨rfl, N103q, e103⟩ := hQ103
              refine own_step (fun t k => st103.trans k) ?_
              have N104 := Fr.app N101 N103q
              show own_Ends p.tables e below s _ _ _ (T103.setTop (mkF m 188 #[.val (.long y0_0), .second, .val (.long y1_0), .second, .val (.long y2_0), .second, .val (.long y3_0), .second, .val (.int x4_0), .val (.int x5_0), .val (.long cx), .second, .val (.long cy), .second, .val (.int s1), .val (.int s2), .val (.ref b1), .val (.ref b8), .val (.ref b16), .val (.ref b27), .val (.int (0 : Int32)), .val (.ref b1), .val .null] [(.int (0 : Int32))]))
              refine own_step (fun t k => XS.ifNo X103.here hx rfl (hb hby at_188) rfl ((if0 _ _).trans (teq (by decide : (0 : Int32) = (0 : Int32))).2) k) ?_
              show own_Ends p.tables e below s _ _ _ (T103.setTop (mkF m 191 #[.val (.long y0_0), .second, .val (.long y1_0), .second, .val (.long y2_0), .second, .val (.long y3_0), .second, .val (.int x4_0), .val (.int x5_0), .val (.long cx), .second, .val (.long cy), .second, .val (.int s1), .val (.int s2), .val (.ref b1), .val (.ref b8), .val (.ref b16), .val (.ref b27), .val (.int (0 : Int32)), .val (.ref b1), .val .null] []))
              refine own_step (fun t k => XS.aload X103.here hx rfl (hb hby at_191) rfl rfl k) ?_
              show own_Ends p.tables e below s _ _ _ (T103.setTop (mkF m 193 #[.val (.long y0_0), .second, .val (.long y1_0), .second, .val (.long y2_0), .second, .val (.long y3_0), .second, .val (.int x4_0), .val (.int x5_0), .val (.long cx), .second, .val (.long cy), .second, .val (.int s1), .val (.int s2), .val (.ref b1), .val (.ref b8), .val (.ref b16), .val (.ref b27), .val (.int (0 : Int32)), .val (.ref b1), .val .null] [(.ref b16)]))
              refine own_step (fun t k => XS.aload X103.here hx rfl (hb hby at_193) rfl rfl k) ?_
              show own_Ends p.tables e below s _ _ _ (T103.setTop (mkF m 195 #[.val (.long y0_0), .second, .val (.long y1_0), .second, .val (.long y2_0), .second, .val (.long y3_0), .second, .val (.int x4_0), .val (.int x5_0), .val (.long cx), .second, .val (.long cy), .second, .val (.int s1), .val (.int s2), .val (.ref b1), .val (.ref b8), .val (.ref b16), .val (.ref b27), .val (.int (0 : Int32)), .val (.ref b1), .val .null] [.null, (.ref b16)]))
              obtain ⟨cq105, kq105, q105a, q105b, q105c⟩ := isOf hZ e103 F94
              obtain ⟨_, _, ⟨T105, L105, k105, n105⟩, -, X105, ⟨Lc105, hQ105, l105, y105, z105⟩, st105⟩ := X103.virtualBack hx (y := (⟨"com/example/swanhall/swanhall/core/Edge", "equals", "(Ljava/lang/Object;)Z"⟩ : MethodName)) (z := (⟨"com/example/swanhall/swanhall/core/Edge", "equals", "(Ljava/lang/Object;)Z"⟩ : MethodName)) hown (mvT hZ (hw _ (List.mem_of_getElem? (i := 38) rfl))) (mvT hZ (hw _ (List.mem_of_getElem? (i := 39) rfl))) (notFace_of_selects (args := #[]) (mvT hZ (hw _ (List.mem_of_getElem? (i := 41) rfl)))) (mvT hZ (hw _ (List.mem_of_getElem? (i := 41) rfl))) (mvT hZ (hw _ (List.mem_of_getElem? (i := 40) rfl))) (by decide) (backOf (W := 0) (rm6n l Z a0 hw [] b16 T32.heap n0 O92 ) hZ (hw _ (List.mem_of_getElem? (i := 42) rfl)) (hw _ (List.mem_of_getElem? (i := 20) rfl)) (by decide) (by decide)) q105a q105c (g := (mkF m 195 #[.val (.long y0_0), .second, .val (.long y1_0), .second, .val (.long y2_0), .second, .val (.long y3_0), .second, .val (.int x4_0), .val (.int x5_0), .val (.long cx), .second, .val (.long cy), .second, .val (.int s1), .val (.int s2), .val (.ref b1), .val (.ref b8), .val (.ref b16), .val (.ref b27), .val (.int (0 : Int32)), .val (.ref b1), .val .null] [.null, (.ref b16)])) rfl (by rw [hml]; rfl) (Steps.refl _) (argsL := [.null]) (rest := []) (lenOf pd_1 rfl) rfl (by show 2 * 0 + _ ≤ _; exact Nat.le_of_eq rfl) (hb hby at_195) (fun _ _ => ⟨rfl, e103, (by decide : 4 + 0 ≤ _), (by decide : 8 + 0 ≤ _)⟩)
              dsimp only [Pt.U, Pt.locs, Pt.cells, Pt.slots] at X105 l105 y105 z105 st105 hQ105
              subst l105 y105 z105
              obtain ⟨rfl, N105q, e105⟩ := hQ105
              refine own_step (fun t k => st105.trans k) ?_
              have N106 := Fr.app N104 N105q
              show own_Ends p.tables e below s _ _ _ (T105.setTop (mkF m 198 #[.val (.long y0_0), .second, .val (.long y1_0), .second, .val (.long y2_0), .second, .val (.long y3_0), .second, .val (.int x4_0), .val (.int x5_0), .val (.long cx), .second, .val (.long cy), .second, .val (.int s1), .val (.int s2), .val (.ref b1), .val (.ref b8), .val (.ref b16), .val (.ref b27), .val (.int (0 : Int32)), .val (.ref b1), .val .null] [(.int (0 : Int32))]))
              refine own_step (fun t k => XS.ifNo X105.here hx rfl (hb hby at_198) rfl ((if0 _ _).trans (teq (by decide : (0 : Int32) = (0 : Int32))).2) k) ?_
              show own_Ends p.tables e below s _ _ _ (T105.setTop (mkF m 201 #[.val (.long y0_0), .second, .val (.long y1_0), .second, .val (.long y2_0), .second, .val (.long y3_0), .second, .val (.int x4_0), .val (.int x5_0), .val (.long cx), .second, .val (.long cy), .second, .val (.int s1), .val (.int s2), .val (.ref b1), .val (.ref b8), .val (.ref b16), .val (.ref b27), .val (.int (0 : Int32)), .val (.ref b1), .val .null] []))
              refine own_step (fun t k => XS.iconst X105.here hx rfl (hb hby at_201) k) ?_
              show own_Ends p.tables e below s _ _ _ (T105.setTop (mkF m 202 #[.val (.long y0_0), .second, .val (.long y1_0), .second, .val (.long y2_0), .second, .val (.long y3_0), .second, .val (.int x4_0), .val (.int x5_0), .val (.long cx), .second, .val (.long cy), .second, .val (.int s1), .val (.int s2), .val (.ref b1), .val (.ref b8), .val (.ref b16), .val (.ref b27), .val (.int (0 : Int32)), .val (.ref b1), .val .null] [(.int (1 : Int32))]))
              refine own_step (fun t k => XS.goto X105.here hx rfl (pc0 := 202) (pc' := 206) rfl (hb hby at_202) (by decide) (by decide) k) ?_
              show own_Ends p.tables e below s _ _ _ (T105.setTop (mkF m 206 #[.val (.long y0_0), .second, .val (.long y1_0), .second, .val (.long y2_0), .second, .val (.long y3_0), .second, .val (.int x4_0), .val (.int x5_0), .val (.long cx), .second, .val (.long cy), .second, .val (.int s1), .val (.int s2), .val (.ref b1), .val (.ref b8), .val (.ref b16), .val (.ref b27), .val (.int (0 : Int32)), .val (.ref b1), .val .null] [(.int (1 : Int32))]))
              exact own_retN X105 hx (t := .boolean) Bd.returns (by simp) (hb hby at_206) hnl (by rw [e105]; exact ⟨rfl, N106⟩) (by decide) (by decide)
          · skip
            refine own_step (fun t k => XS.icmpYes X97.here hx rfl (pc0 := 168) (pc' := 205) rfl (hb hby at_168) rfl (feq hc168_99).2 (by decide) (by decide) k) ?_
            show own_Ends p.tables e below s _ _ _ (T97.setTop (mkF m 205 #[.val (.long y0_0), .second, .val (.long y1_0), .second, .val (.long y2_0), .second, .val (.long y3_0), .second, .val (.int x4_0), .val (.int x5_0), .val (.long cx), .second, .val (.long cy), .second, .val (.int s1), .val (.int s2), .val (.ref b1), .val (.ref b8), .val (.ref b16), .val (.ref b27), .val (.int (0 : Int32)), .val (.ref b1), .val .null] []))
            refine own_step (fun t k => XS.iconst X97.here hx rfl (hb hby at_205) k) ?_
            show own_Ends p.tables e below s _ _ _ (T97.setTop (mkF m 206 #[.val (.long y0_0), .second, .val (.long y1_0), .second, .val (.long y2_0), .second, .val (.long y3_0), .second, .val (.int x4_0), .val (.int x5_0), .val (.long cx), .second, .val (.long cy), .second, .val (.int s1), .val (.int s2), .val (.ref b1), .val (.ref b8), .val (.ref b16), .val (.ref b27), .val (.int (0 : Int32)), .val (.ref b1), .val .null] [(.int (0 : Int32))]))
            exfalso
            exact hc168_99 (by rw [own_eq6 s1 s2 _ _ _ _ _ _ _ _ hs1 hs2 ne_w_N_w_E ne_w_N_w_S ne_w_N_w_W ne_w_E_w_S ne_w_E_w_W ne_w_S_w_W]; exact if_neg (fun q => hc123_36 ((own_lc _ _).mpr q.2.2.symm)))
        · skip
          refine own_step (fun t k => XS.icmpYes X93.here hx rfl (pc0 := 156) (pc' := 205) rfl (hb hby at_156) rfl (feq hc156_96).2 (by decide) (by decide) k) ?_
          show own_Ends p.tables e below s _ _ _ (T93.setTop (mkF m 205 #[.val (.long y0_0), .second, .val (.long y1_0), .second, .val (.long y2_0), .second, .val (.long y3_0), .second, .val (.int x4_0), .val (.int x5_0), .val (.long cx), .second, .val (.long cy), .second, .val (.int s1), .val (.int s2), .val (.ref b1), .val (.ref b8), .val (.ref b16), .val (.ref b27), .val (.int (0 : Int32)), .val (.ref b1), .val .null] []))
          refine own_step (fun t k => XS.iconst X93.here hx rfl (hb hby at_205) k) ?_
          show own_Ends p.tables e below s _ _ _ (T93.setTop (mkF m 206 #[.val (.long y0_0), .second, .val (.long y1_0), .second, .val (.long y2_0), .second, .val (.long y3_0), .second, .val (.int x4_0), .val (.int x5_0), .val (.long cx), .second, .val (.long cy), .second, .val (.int s1), .val (.int s2), .val (.ref b1), .val (.ref b8), .val (.ref b16), .val (.ref b27), .val (.int (0 : Int32)), .val (.ref b1), .val .null] [(.int (0 : Int32))]))
          exfalso
          exact hc156_96 (by rw [own_eq6 s2 s1 _ _ _ _ _ _ _ _ hs2 hs1 ne_w_N_w_E ne_w_N_w_S ne_w_N_w_W ne_w_E_w_S ne_w_E_w_W ne_w_S_w_W]; exact if_neg (fun q => hc123_36 ((own_lc _ _).mpr q.2.2)))
    · skip
      refine own_step (fun t k => XS.ifYes X32.here hx rfl (pc0 := 116) (pc' := 137) rfl (hb hby at_116) rfl ((if0 _ _).trans (feq hc116_35).2) (by decide) (by decide) k) ?_
      show own_Ends p.tables e below s _ _ _ (T32.setTop (mkF m 137 #[.val (.long y0_0), .second, .val (.long y1_0), .second, .val (.long y2_0), .second, .val (.long y3_0), .second, .val (.int x4_0), .val (.int x5_0), .val (.long cx), .second, .val (.long cy), .second, .val (.int s1), .val (.int s2), .val (.ref b1), .val (.ref b8), .val (.ref b16), .val (.ref b27), .unset, .unset, .unset] []))
      refine own_step (fun t k => XS.iconst X32.here hx rfl (hb hby at_137) k) ?_
      show own_Ends p.tables e below s _ _ _ (T32.setTop (mkF m 138 #[.val (.long y0_0), .second, .val (.long y1_0), .second, .val (.long y2_0), .second, .val (.long y3_0), .second, .val (.int x4_0), .val (.int x5_0), .val (.long cx), .second, .val (.long cy), .second, .val (.int s1), .val (.int s2), .val (.ref b1), .val (.ref b8), .val (.ref b16), .val (.ref b27), .unset, .unset, .unset] [(.int (0 : Int32))]))
      refine own_step (fun t k => XS.istore X32.here hx rfl (hb hby at_138) rfl (l' := #[.val (.long y0_0), .second, .val (.long y1_0), .second, .val (.long y2_0), .second, .val (.long y3_0), .second, .val (.int x4_0), .val (.int x5_0), .val (.long cx), .second, .val (.long cy), .second, .val (.int s1), .val (.int s2), .val (.ref b1), .val (.ref b8), .val (.ref b16), .val (.ref b27), .val (.int (0 : Int32)), .unset, .unset]) rfl k) ?_
      show own_Ends p.tables e below s _ _ _ (T32.setTop (mkF m 140 #[.val (.long y0_0), .second, .val (.long y1_0), .second, .val (.long y2_0), .second, .val (.long y3_0), .second, .val (.int x4_0), .val (.int x5_0), .val (.long cx), .second, .val (.long cy), .second, .val (.int s1), .val (.int s2), .val (.ref b1), .val (.ref b8), .val (.ref b16), .val (.ref b27), .val (.int (0 : Int32)), .unset, .unset] []))
      refine own_step (fun t k => XS.aload X32.here hx rfl (hb hby at_140) rfl rfl k) ?_
      show own_Ends p.tables e below s _ _ _ (T32.setTop (mkF m 142 #[.val (.long y0_0), .second, .val (.long y1_0), .second, .val (.long y2_0), .second, .val (.long y3_0), .second, .val (.int x4_0), .val (.int x5_0), .val (.long cx), .second, .val (.long cy), .second, .val (.int s1), .val (.int s2), .val (.ref b1), .val (.ref b8), .val (.ref b16), .val (.ref b27), .val (.int (0 : Int32)), .unset, .unset] [(.ref b1)]))
      refine own_step (fun t k => XS.astore X32.here hx rfl (hb hby at_142) rfl rfl (l' := #[.val (.long y0_0), .second, .val (.long y1_0), .second, .val (.long y2_0), .second, .val (.long y3_0), .second, .val (.int x4_0), .val (.int x5_0), .val (.long cx), .second, .val (.long cy), .second, .val (.int s1), .val (.int s2), .val (.ref b1), .val (.ref b8), .val (.ref b16), .val (.ref b27), .val (.int (0 : Int32)), .val (.ref b1), .unset]) rfl k) ?_
      show own_Ends p.tables e below s _ _ _ (T32.setTop (mkF m 144 #[.val (.long y0_0), .second, .val (.long y1_0), .second, .val (.long y2_0), .second, .val (.long y3_0), .second, .val (.int x4_0), .val (.int x5_0), .val (.long cx), .second, .val (.long cy), .second, .val (.int s1), .val (.int s2), .val (.ref b1), .val (.ref b8), .val (.ref b16), .val (.ref b27), .val (.int (0 : Int32)), .val (.ref b1), .unset] []))
      refine own_step (fun t k => XS.aconstNull X32.here hx rfl (hb hby at_144) k) ?_
      show own_Ends p.tables e below s _ _ _ (T32.setTop (mkF m 145 #[.val (.long y0_0), .second, .val (.long y1_0), .second, .val (.long y2_0), .second, .val (.long y3_0), .second, .val (.int x4_0), .val (.int x5_0), .val (.long cx), .second, .val (.long cy), .second, .val (.int s1), .val (.int s2), .val (.ref b1), .val (.ref b8), .val (.ref b16), .val (.ref b27), .val (.int (0 : Int32)), .val (.ref b1), .unset] [.null]))
      refine own_step (fun t k => XS.astore X32.here hx rfl (hb hby at_145) rfl rfl (l' := #[.val (.long y0_0), .second, .val (.long y1_0), .second, .val (.long y2_0), .second, .val (.long y3_0), .second, .val (.int x4_0), .val (.int x5_0), .val (.long cx), .second, .val (.long cy), .second, .val (.int s1), .val (.int s2), .val (.ref b1), .val (.ref b8), .val (.ref b16), .val (.ref b27), .val (.int (0 : Int32)), .val (.ref b1), .val .null]) rfl k) ?_
      show own_Ends p.tables e below s _ _ _ (T32.setTop (mkF m 147 #[.val (.long y0_0), .second, .val (.long y1_0), .second, .val (.long y2_0), .second, .val (.long y3_0), .second, .val (.int x4_0), .val (.int x5_0), .val (.long cx), .second, .val (.long cy), .second, .val (.int s1), .val (.int s2), .val (.ref b1), .val (.ref b8), .val (.ref b16), .val (.ref b27), .val (.int (0 : Int32)), .val (.ref b1), .val .null] []))
      refine own_step (fun t k => XS.aload X32.here hx rfl (hb hby at_147) rfl rfl k) ?_
      show own_Ends p.tables e below s _ _ _ (T32.setTop (mkF m 149 #[.val (.long y0_0), .second, .val (.long y1_0), .second, .val (.long y2_0), .second, .val (.long y3_0), .second, .val (.int x4_0), .val (.int x5_0), .val (.long cx), .second, .val (.long cy), .second, .val (.int s1), .val (.int s2), .val (.ref b1), .val (.ref b8), .val (.ref b16), .val (.ref b27), .val (.int (0 : Int32)), .val (.ref b1), .val .null] [(.ref b16)]))
      refine own_step (fun t k => XS.aload X32.here hx rfl (hb hby at_149) rfl rfl k) ?_
      show own_Ends p.tables e below s _ _ _ (T32.setTop (mkF m 151 #[.val (.long y0_0), .second, .val (.long y1_0), .second, .val (.long y2_0), .second, .val (.long y3_0), .second, .val (.int x4_0), .val (.int x5_0), .val (.long cx), .second, .val (.long cy), .second, .val (.int s1), .val (.int s2), .val (.ref b1), .val (.ref b8), .val (.ref b16), .val (.ref b27), .val (.int (0 : Int32)), .val (.ref b1), .val .null] [(.ref b27), (.ref b16)]))
      have F107 : Fld Z T32.heap b16 "com/example/swanhall/swanhall/core/Edge" "side" "Lcom/example/swanhall/swanhall/core/Side;" (.ref (own_r4 s1 w_N w_E w_S w_W)) := ((p21_2.ext E27).keep K32q (ninS ne_b16_b27 nin0))
      have F108 : Fld Z T32.heap b16 "com/example/swanhall/swanhall/core/Edge" "cell" "Lcom/example/swanhall/swanhall/core/Cell;" (.ref b1) := ((p21_1.ext E27).keep K32q (ninS ne_b16_b27 nin0))
      have F109 : Exa Z T32.heap b1 "com/example/swanhall/swanhall/core/Cell" := ((F25.ext E27).keep K32q)
      have F110 : Fld Z T32.heap b1 "com/example/swanhall/swanhall/core/Cell" "x" "J" (.long y0_0) := ((((((p4_1.ext E8).keep K11q (ninS ne_b1_b8 nin0)).ext E16).keep K21q (ninS ne_b1_b16 nin0)).ext E27).keep K32q (ninS ne_b1_b27 nin0))
      have F111 : Fld Z T32.heap b8 "com/example/swanhall/swanhall/core/Cell" "x" "J" (.long cx) := ((((p11_1.ext E16).keep K21q (ninS ne_b8_b16 nin0)).ext E27).keep K32q (ninS ne_b8_b27 nin0))
      have F112 : Fld Z T32.heap b1 "com/example/swanhall/swanhall/core/Cell" "y" "J" (.long y1_0) := ((((((p4_2.ext E8).keep K11q (ninS ne_b1_b8 nin0)).ext E16).keep K21q (ninS ne_b1_b16 nin0)).ext E27).keep K32q (ninS ne_b1_b27 nin0))
      have F113 : Fld Z T32.heap b8 "com/example/swanhall/swanhall/core/Cell" "y" "J" (.long cy) := ((((p11_2.ext E16).keep K21q (ninS ne_b8_b16 nin0)).ext E27).keep K32q (ninS ne_b8_b27 nin0))
      have F114 : Exa Z T32.heap b8 "com/example/swanhall/swanhall/core/Cell" := ((F26.ext E27).keep K32q)
      have O115 : Old Z n0 T32.heap := (O29.keep K32q (allS g_b27 all0))
      have F117 : Exa Z T32.heap b16 "com/example/swanhall/swanhall/core/Edge" := ((p21_0.ext E27).keep K32q)
      obtain ⟨cq116, kq116, q116a, q116b, q116c⟩ := isOf hZ rfl F117
      obtain ⟨_, _, ⟨T116, L116, k116, n116⟩, -, X116, ⟨Lc116, hQ116, l116, y116, z116⟩, st116⟩ := X32.virtualBack hx (y := (⟨"com/example/swanhall/swanhall/core/Edge", "equals", "(Ljava/lang/Object;)Z"⟩ : MethodName)) (z := (⟨"com/example/swanhall/swanhall/core/Edge", "equals", "(Ljava/lang/Object;)Z"⟩ : MethodName)) hown (mvT hZ (hw _ (List.mem_of_getElem? (i := 38) rfl))) (mvT hZ (hw _ (List.mem_of_getElem? (i := 39) rfl))) (notFace_of_selects (args := #[]) (mvT hZ (hw _ (List.mem_of_getElem? (i := 41) rfl)))) (mvT hZ (hw _ (List.mem_of_getElem? (i := 41) rfl))) (mvT hZ (hw _ (List.mem_of_getElem? (i := 40) rfl))) (by decide) (backOf (W := 0) (rm6 l Z a0 hw [] b16 b27 (own_r4 s2 w_N w_E w_S w_W) (own_r4 s1 w_N w_E w_S w_W) b8 b1 y0_0 cx y1_0 cy T32.heap n0 O115 p32_0 p32_2 F107 p32_1 F108 F109 F110 F111 F112 F113 F114) hZ (hw _ (List.mem_of_getElem? (i := 42) rfl)) (hw _ (List.mem_of_getElem? (i := 20) rfl)) (by decide) (by decide)) q116a q116c (g := (mkF m 151 #[.val (.long y0_0), .second, .val (.long y1_0), .second, .val (.long y2_0), .second, .val (.long y3_0), .second, .val (.int x4_0), .val (.int x5_0), .val (.long cx), .second, .val (.long cy), .second, .val (.int s1), .val (.int s2), .val (.ref b1), .val (.ref b8), .val (.ref b16), .val (.ref b27), .val (.int (0 : Int32)), .val (.ref b1), .val .null] [(.ref b27), (.ref b16)])) rfl (by rw [hml]; rfl) (Steps.refl _) (argsL := [(.ref b27)]) (rest := []) (lenOf pd_1 rfl) rfl (by show 2 * 0 + _ ≤ _; exact Nat.le_of_eq rfl) (hb hby at_151) (fun _ _ => ⟨rfl, rfl, (by decide : 4 + 0 ≤ _), (by decide : 8 + 0 ≤ _)⟩)
      dsimp only [Pt.U, Pt.locs, Pt.cells, Pt.slots] at X116 l116 y116 z116 st116 hQ116
      subst l116 y116 z116
      obtain ⟨rfl, N116q, e116⟩ := hQ116
      refine own_step (fun t k => st116.trans k) ?_
      have N118 := Fr.app N33 N116q
      show own_Ends p.tables e below s _ _ _ (T116.setTop (mkF m 154 #[.val (.long y0_0), .second, .val (.long y1_0), .second, .val (.long y2_0), .second, .val (.long y3_0), .second, .val (.int x4_0), .val (.int x5_0), .val (.long cx), .second, .val (.long cy), .second, .val (.int s1), .val (.int s2), .val (.ref b1), .val (.ref b8), .val (.ref b16), .val (.ref b27), .val (.int (0 : Int32)), .val (.ref b1), .val .null] [(.int (own_r6 (own_r4 s2 w_N w_E w_S w_W) (own_r4 s1 w_N w_E w_S w_W) y0_0 cx y1_0 cy))]))
      refine own_step (fun t k => XS.iload X116.here hx rfl (hb hby at_154) rfl k) ?_
      show own_Ends p.tables e below s _ _ _ (T116.setTop (mkF m 156 #[.val (.long y0_0), .second, .val (.long y1_0), .second, .val (.long y2_0), .second, .val (.long y3_0), .second, .val (.int x4_0), .val (.int x5_0), .val (.long cx), .second, .val (.long cy), .second, .val (.int s1), .val (.int s2), .val (.ref b1), .val (.ref b8), .val (.ref b16), .val (.ref b27), .val (.int (0 : Int32)), .val (.ref b1), .val .null] [(.int (0 : Int32)), (.int (own_r6 (own_r4 s2 w_N w_E w_S w_W) (own_r4 s1 w_N w_E w_S w_W) y0_0 cx y1_0 cy))]))
      by_cases hc156_119 : (own_r6 (own_r4 s2 w_N w_E w_S w_W) (own_r4 s1 w_N w_E w_S w_W) y0_0 cx y1_0 cy) = (0 : Int32)
      · skip
        refine own_step (fun t k => XS.icmpNo X116.here hx rfl (hb hby at_156) rfl (teq hc156_119).2 k) ?_
        show own_Ends p.tables e below s _ _ _ (T116.setTop (mkF m 159 #[.val (.long y0_0), .second, .val (.long y1_0), .second, .val (.long y2_0), .second, .val (.long y3_0), .second, .val (.int x4_0), .val (.int x5_0), .val (.long cx), .second, .val (.long cy), .second, .val (.int s1), .val (.int s2), .val (.ref b1), .val (.ref b8), .val (.ref b16), .val (.ref b27), .val (.int (0 : Int32)), .val (.ref b1), .val .null] []))
        refine own_step (fun t k => XS.aload X116.here hx rfl (hb hby at_159) rfl rfl k) ?_
        show own_Ends p.tables e below s _ _ _ (T116.setTop (mkF m 161 #[.val (.long y0_0), .second, .val (.long y1_0), .second, .val (.long y2_0), .second, .val (.long y3_0), .second, .val (.int x4_0), .val (.int x5_0), .val (.long cx), .second, .val (.long cy), .second, .val (.int s1), .val (.int s2), .val (.ref b1), .val (.ref b8), .val (.ref b16), .val (.ref b27), .val (.int (0 : Int32)), .val (.ref b1), .val .null] [(.ref b27)]))
        refine own_step (fun t k => XS.aload X116.here hx rfl (hb hby at_161) rfl rfl k) ?_
        show own_Ends p.tables e below s _ _ _ (T116.setTop (mkF m 163 #[.val (.long y0_0), .second, .val (.long y1_0), .second, .val (.long y2_0), .second, .val (.long y3_0), .second, .val (.int x4_0), .val (.int x5_0), .val (.long cx), .second, .val (.long cy), .second, .val (.int s1), .val (.int s2), .val (.ref b1), .val (.ref b8), .val (.ref b16), .val (.ref b27), .val (.int (0 : Int32)), .val (.ref b1), .val .null] [(.ref b16), (.ref b27)]))
        obtain ⟨cq120, kq120, q120a, q120b, q120c⟩ := isOf hZ e116 p32_0
        obtain ⟨_, _, ⟨T120, L120, k120, n120⟩, -, X120, ⟨Lc120, hQ120, l120, y120, z120⟩, st120⟩ := X116.virtualBack hx (y := (⟨"com/example/swanhall/swanhall/core/Edge", "equals", "(Ljava/lang/Object;)Z"⟩ : MethodName)) (z := (⟨"com/example/swanhall/swanhall/core/Edge", "equals", "(Ljava/lang/Object;)Z"⟩ : MethodName)) hown (mvT hZ (hw _ (List.mem_of_getElem? (i := 38) rfl))) (mvT hZ (hw _ (List.mem_of_getElem? (i := 39) rfl))) (notFace_of_selects (args := #[]) (mvT hZ (hw _ (List.mem_of_getElem? (i := 41) rfl)))) (mvT hZ (hw _ (List.mem_of_getElem? (i := 41) rfl))) (mvT hZ (hw _ (List.mem_of_getElem? (i := 40) rfl))) (by decide) (backOf (W := 0) (rm6 l Z a0 hw [] b27 b16 (own_r4 s1 w_N w_E w_S w_W) (own_r4 s2 w_N w_E w_S w_W) b1 b8 cx y0_0 cy y1_0 T32.heap n0 O115 F117 F107 p32_2 F108 p32_1 F114 F111 F110 F113 F112 F109) hZ (hw _ (List.mem_of_getElem? (i := 42) rfl)) (hw _ (List.mem_of_getElem? (i := 20) rfl)) (by decide) (by decide)) q120a q120c (g := (mkF m 163 #[.val (.long y0_0), .second, .val (.long y1_0), .second, .val (.long y2_0), .second, .val (.long y3_0), .second, .val (.int x4_0), .val (.int x5_0), .val (.long cx), .second, .val (.long cy), .second, .val (.int s1), .val (.int s2), .val (.ref b1), .val (.ref b8), .val (.ref b16), .val (.ref b27), .val (.int (0 : Int32)), .val (.ref b1), .val .null] [(.ref b16), (.ref b27)])) rfl (by rw [hml]; rfl) (Steps.refl _) (argsL := [(.ref b16)]) (rest := []) (lenOf pd_1 rfl) rfl (by show 2 * 0 + _ ≤ _; exact Nat.le_of_eq rfl) (hb hby at_163) (fun _ _ => ⟨rfl, e116, (by decide : 4 + 0 ≤ _), (by decide : 8 + 0 ≤ _)⟩)
        dsimp only [Pt.U, Pt.locs, Pt.cells, Pt.slots] at X120 l120 y120 z120 st120 hQ120
        subst l120 y120 z120
        obtain ⟨rfl, N120q, e120⟩ := hQ120
        refine own_step (fun t k => st120.trans k) ?_
        have N121 := Fr.app N118 N120q
        show own_Ends p.tables e below s _ _ _ (T120.setTop (mkF m 166 #[.val (.long y0_0), .second, .val (.long y1_0), .second, .val (.long y2_0), .second, .val (.long y3_0), .second, .val (.int x4_0), .val (.int x5_0), .val (.long cx), .second, .val (.long cy), .second, .val (.int s1), .val (.int s2), .val (.ref b1), .val (.ref b8), .val (.ref b16), .val (.ref b27), .val (.int (0 : Int32)), .val (.ref b1), .val .null] [(.int (own_r6 (own_r4 s1 w_N w_E w_S w_W) (own_r4 s2 w_N w_E w_S w_W) cx y0_0 cy y1_0))]))
        refine own_step (fun t k => XS.iload X120.here hx rfl (hb hby at_166) rfl k) ?_
        show own_Ends p.tables e below s _ _ _ (T120.setTop (mkF m 168 #[.val (.long y0_0), .second, .val (.long y1_0), .second, .val (.long y2_0), .second, .val (.long y3_0), .second, .val (.int x4_0), .val (.int x5_0), .val (.long cx), .second, .val (.long cy), .second, .val (.int s1), .val (.int s2), .val (.ref b1), .val (.ref b8), .val (.ref b16), .val (.ref b27), .val (.int (0 : Int32)), .val (.ref b1), .val .null] [(.int (0 : Int32)), (.int (own_r6 (own_r4 s1 w_N w_E w_S w_W) (own_r4 s2 w_N w_E w_S w_W) cx y0_0 cy y1_0))]))
        by_cases hc168_122 : (own_r6 (own_r4 s1 w_N w_E w_S w_W) (own_r4 s2 w_N w_E w_S w_W) cx y0_0 cy y1_0) = (0 : Int32)
        · skip
          refine own_step (fun t k => XS.icmpNo X120.here hx rfl (hb hby at_168) rfl (teq hc168_122).2 k) ?_
          show own_Ends p.tables e below s _ _ _ (T120.setTop (mkF m 171 #[.val (.long y0_0), .second, .val (.long y1_0), .second, .val (.long y2_0), .second, .val (.long y3_0), .second, .val (.int x4_0), .val (.int x5_0), .val (.long cx), .second, .val (.long cy), .second, .val (.int s1), .val (.int s2), .val (.ref b1), .val (.ref b8), .val (.ref b16), .val (.ref b27), .val (.int (0 : Int32)), .val (.ref b1), .val .null] []))
          refine own_step (fun t k => XS.aload X120.here hx rfl (hb hby at_171) rfl rfl k) ?_
          show own_Ends p.tables e below s _ _ _ (T120.setTop (mkF m 173 #[.val (.long y0_0), .second, .val (.long y1_0), .second, .val (.long y2_0), .second, .val (.long y3_0), .second, .val (.int x4_0), .val (.int x5_0), .val (.long cx), .second, .val (.long cy), .second, .val (.int s1), .val (.int s2), .val (.ref b1), .val (.ref b8), .val (.ref b16), .val (.ref b27), .val (.int (0 : Int32)), .val (.ref b1), .val .null] [(.ref b16)]))
          refine own_step (fun t k => XS.aload X120.here hx rfl (hb hby at_173) rfl rfl k) ?_
          show own_Ends p.tables e below s _ _ _ (T120.setTop (mkF m 175 #[.val (.long y0_0), .second, .val (.long y1_0), .second, .val (.long y2_0), .second, .val (.long y3_0), .second, .val (.int x4_0), .val (.int x5_0), .val (.long cx), .second, .val (.long cy), .second, .val (.int s1), .val (.int s2), .val (.ref b1), .val (.ref b8), .val (.ref b16), .val (.ref b27), .val (.int (0 : Int32)), .val (.ref b1), .val .null] [(.ref b16), (.ref b16)]))
          obtain ⟨cq123, kq123, q123a, q123b, q123c⟩ := isOf hZ e120 F117
          obtain ⟨_, _, ⟨T123, L123, k123, n123⟩, -, X123, ⟨Lc123, hQ123, l123, y123, z123⟩, st123⟩ := X120.virtualBack hx (y := (⟨"com/example/swanhall/swanhall/core/Edge", "equals", "(Ljava/lang/Object;)Z"⟩ : MethodName)) (z := (⟨"com/example/swanhall/swanhall/core/Edge", "equals", "(Ljava/lang/Object;)Z"⟩ : MethodName)) hown (mvT hZ (hw _ (List.mem_of_getElem? (i := 38) rfl))) (mvT hZ (hw _ (List.mem_of_getElem? (i := 39) rfl))) (notFace_of_selects (args := #[]) (mvT hZ (hw _ (List.mem_of_getElem? (i := 41) rfl)))) (mvT hZ (hw _ (List.mem_of_getElem? (i := 41) rfl))) (mvT hZ (hw _ (List.mem_of_getElem? (i := 40) rfl))) (by decide) (backOf (W := 0) (rm6 l Z a0 hw [] b16 b16 (own_r4 s1 w_N w_E w_S w_W) (own_r4 s1 w_N w_E w_S w_W) b1 b1 y0_0 y0_0 y1_0 y1_0 T32.heap n0 O115 F117 F107 F107 F108 F108 F109 F110 F110 F112 F112 F109) hZ (hw _ (List.mem_of_getElem? (i := 42) rfl)) (hw _ (List.mem_of_getElem? (i := 20) rfl)) (by decide) (by decide)) q123a q123c (g := (mkF m 175 #[.val (.long y0_0), .second, .val (.long y1_0), .second, .val (.long y2_0), .second, .val (.long y3_0), .second, .val (.int x4_0), .val (.int x5_0), .val (.long cx), .second, .val (.long cy), .second, .val (.int s1), .val (.int s2), .val (.ref b1), .val (.ref b8), .val (.ref b16), .val (.ref b27), .val (.int (0 : Int32)), .val (.ref b1), .val .null] [(.ref b16), (.ref b16)])) rfl (by rw [hml]; rfl) (Steps.refl _) (argsL := [(.ref b16)]) (rest := []) (lenOf pd_1 rfl) rfl (by show 2 * 0 + _ ≤ _; exact Nat.le_of_eq rfl) (hb hby at_175) (fun _ _ => ⟨rfl, e120, (by decide : 4 + 0 ≤ _), (by decide : 8 + 0 ≤ _)⟩)
          dsimp only [Pt.U, Pt.locs, Pt.cells, Pt.slots] at X123 l123 y123 z123 st123 hQ123
          subst l123 y123 z123
          obtain ⟨rfl, N123q, e123⟩ := hQ123
          refine own_step (fun t k => st123.trans k) ?_
          have N124 := Fr.app N121 N123q
          show own_Ends p.tables e below s _ _ _ (T123.setTop (mkF m 178 #[.val (.long y0_0), .second, .val (.long y1_0), .second, .val (.long y2_0), .second, .val (.long y3_0), .second, .val (.int x4_0), .val (.int x5_0), .val (.long cx), .second, .val (.long cy), .second, .val (.int s1), .val (.int s2), .val (.ref b1), .val (.ref b8), .val (.ref b16), .val (.ref b27), .val (.int (0 : Int32)), .val (.ref b1), .val .null] [(.int (own_r6 (own_r4 s1 w_N w_E w_S w_W) (own_r4 s1 w_N w_E w_S w_W) y0_0 y0_0 y1_0 y1_0))]))
          by_cases hc178_125 : (own_r6 (own_r4 s1 w_N w_E w_S w_W) (own_r4 s1 w_N w_E w_S w_W) y0_0 y0_0 y1_0 y1_0) = (0 : Int32)
          · skip
            refine own_step (fun t k => XS.ifYes X123.here hx rfl (pc0 := 178) (pc' := 205) rfl (hb hby at_178) rfl ((if0 _ _).trans (teq hc178_125).1) (by decide) (by decide) k) ?_
            show own_Ends p.tables e below s _ _ _ (T123.setTop (mkF m 205 #[.val (.long y0_0), .second, .val (.long y1_0), .second, .val (.long y2_0), .second, .val (.long y3_0), .second, .val (.int x4_0), .val (.int x5_0), .val (.long cx), .second, .val (.long cy), .second, .val (.int s1), .val (.int s2), .val (.ref b1), .val (.ref b8), .val (.ref b16), .val (.ref b27), .val (.int (0 : Int32)), .val (.ref b1), .val .null] []))
            refine own_step (fun t k => XS.iconst X123.here hx rfl (hb hby at_205) k) ?_
            show own_Ends p.tables e below s _ _ _ (T123.setTop (mkF m 206 #[.val (.long y0_0), .second, .val (.long y1_0), .second, .val (.long y2_0), .second, .val (.long y3_0), .second, .val (.int x4_0), .val (.int x5_0), .val (.long cx), .second, .val (.long cy), .second, .val (.int s1), .val (.int s2), .val (.ref b1), .val (.ref b8), .val (.ref b16), .val (.ref b27), .val (.int (0 : Int32)), .val (.ref b1), .val .null] [(.int (0 : Int32))]))
            exfalso
            exact own_eq6r _ _ _ hc178_125
          · skip
            refine own_step (fun t k => XS.ifNo X123.here hx rfl (hb hby at_178) rfl ((if0 _ _).trans (feq hc178_125).1) k) ?_
            show own_Ends p.tables e below s _ _ _ (T123.setTop (mkF m 181 #[.val (.long y0_0), .second, .val (.long y1_0), .second, .val (.long y2_0), .second, .val (.long y3_0), .second, .val (.int x4_0), .val (.int x5_0), .val (.long cx), .second, .val (.long cy), .second, .val (.int s1), .val (.int s2), .val (.ref b1), .val (.ref b8), .val (.ref b16), .val (.ref b27), .val (.int (0 : Int32)), .val (.ref b1), .val .null] []))
            refine own_step (fun t k => XS.aload X123.here hx rfl (hb hby at_181) rfl rfl k) ?_
            show own_Ends p.tables e below s _ _ _ (T123.setTop (mkF m 183 #[.val (.long y0_0), .second, .val (.long y1_0), .second, .val (.long y2_0), .second, .val (.long y3_0), .second, .val (.int x4_0), .val (.int x5_0), .val (.long cx), .second, .val (.long cy), .second, .val (.int s1), .val (.int s2), .val (.ref b1), .val (.ref b8), .val (.ref b16), .val (.ref b27), .val (.int (0 : Int32)), .val (.ref b1), .val .null] [(.ref b16)]))
            refine own_step (fun t k => XS.aload X123.here hx rfl (hb hby at_183) rfl rfl k) ?_
            show own_Ends p.tables e below s _ _ _ (T123.setTop (mkF m 185 #[.val (.long y0_0), .second, .val (.long y1_0), .second, .val (.long y2_0), .second, .val (.long y3_0), .second, .val (.int x4_0), .val (.int x5_0), .val (.long cx), .second, .val (.long cy), .second, .val (.int s1), .val (.int s2), .val (.ref b1), .val (.ref b8), .val (.ref b16), .val (.ref b27), .val (.int (0 : Int32)), .val (.ref b1), .val .null] [(.ref b1), (.ref b16)]))
            obtain ⟨cq126, kq126, q126a, q126b, q126c⟩ := isOf hZ e123 F117
            obtain ⟨_, _, ⟨T126, L126, k126, n126⟩, -, X126, ⟨Lc126, hQ126, l126, y126, z126⟩, st126⟩ := X123.virtualBack hx (y := (⟨"com/example/swanhall/swanhall/core/Edge", "equals", "(Ljava/lang/Object;)Z"⟩ : MethodName)) (z := (⟨"com/example/swanhall/swanhall/core/Edge", "equals", "(Ljava/lang/Object;)Z"⟩ : MethodName)) hown (mvT hZ (hw _ (List.mem_of_getElem? (i := 38) rfl))) (mvT hZ (hw _ (List.mem_of_getElem? (i := 39) rfl))) (notFace_of_selects (args := #[]) (mvT hZ (hw _ (List.mem_of_getElem? (i := 41) rfl)))) (mvT hZ (hw _ (List.mem_of_getElem? (i := 41) rfl))) (mvT hZ (hw _ (List.mem_of_getElem? (i := 40) rfl))) (by decide) (backOf (W := 0) (rm6c l Z a0 hw [] b16 b1 T32.heap n0 O115 F109) hZ (hw _ (List.mem_of_getElem? (i := 42) rfl)) (hw _ (List.mem_of_getElem? (i := 20) rfl)) (by decide) (by decide)) q126a q126c (g := (mkF m 185 #[.val (.long y0_0), .second, .val (.long y1_0), .second, .val (.long y2_0), .second, .val (.long y3_0), .second, .val (.int x4_0), .val (.int x5_0), .val (.long cx), .second, .val (.long cy), .second, .val (.int s1), .val (.int s2), .val (.ref b1), .val (.ref b8), .val (.ref b16), .val (.ref b27), .val (.int (0 : Int32)), .val (.ref b1), .val .null] [(.ref b1), (.ref b16)])) rfl (by rw [hml]; rfl) (Steps.refl _) (argsL := [(.ref b1)]) (rest := []) (lenOf pd_1 rfl) rfl (by show 2 * 0 + _ ≤ _; exact Nat.le_of_eq rfl) (hb hby at_185) (fun _ _ => ⟨rfl, e123, (by decide : 4 + 0 ≤ _), (by decide : 8 + 0 ≤ _)⟩)
            dsimp only [Pt.U, Pt.locs, Pt.cells, Pt.slots] at X126 l126 y126 z126 st126 hQ126
            subst l126 y126 z126
            obtain ⟨rfl, N126q, e126⟩ := hQ126
            refine own_step (fun t k => st126.trans k) ?_
            have N127 := Fr.app N124 N126q
            show own_Ends p.tables e below s _ _ _ (T126.setTop (mkF m 188 #[.val (.long y0_0), .second, .val (.long y1_0), .second, .val (.long y2_0), .second, .val (.long y3_0), .second, .val (.int x4_0), .val (.int x5_0), .val (.long cx), .second, .val (.long cy), .second, .val (.int s1), .val (.int s2), .val (.ref b1), .val (.ref b8), .val (.ref b16), .val (.ref b27), .val (.int (0 : Int32)), .val (.ref b1), .val .null] [(.int (0 : Int32))]))
            refine own_step (fun t k => XS.ifNo X126.here hx rfl (hb hby at_188) rfl ((if0 _ _).trans (teq (by decide : (0 : Int32) = (0 : Int32))).2) k) ?_
            show own_Ends p.tables e below s _ _ _ (T126.setTop (mkF m 191 #[.val (.long y0_0), .second, .val (.long y1_0), .second, .val (.long y2_0), .second, .val (.long y3_0), .second, .val (.int x4_0), .val (.int x5_0), .val (.long cx), .second, .val (.long cy), .second, .val (.int s1), .val (.int s2), .val (.ref b1), .val (.ref b8), .val (.ref b16), .val (.ref b27), .val (.int (0 : Int32)), .val (.ref b1), .val .null] []))
            refine own_step (fun t k => XS.aload X126.here hx rfl (hb hby at_191) rfl rfl k) ?_
            show own_Ends p.tables e below s _ _ _ (T126.setTop (mkF m 193 #[.val (.long y0_0), .second, .val (.long y1_0), .second, .val (.long y2_0), .second, .val (.long y3_0), .second, .val (.int x4_0), .val (.int x5_0), .val (.long cx), .second, .val (.long cy), .second, .val (.int s1), .val (.int s2), .val (.ref b1), .val (.ref b8), .val (.ref b16), .val (.ref b27), .val (.int (0 : Int32)), .val (.ref b1), .val .null] [(.ref b16)]))
            refine own_step (fun t k => XS.aload X126.here hx rfl (hb hby at_193) rfl rfl k) ?_
            show own_Ends p.tables e below s _ _ _ (T126.setTop (mkF m 195 #[.val (.long y0_0), .second, .val (.long y1_0), .second, .val (.long y2_0), .second, .val (.long y3_0), .second, .val (.int x4_0), .val (.int x5_0), .val (.long cx), .second, .val (.long cy), .second, .val (.int s1), .val (.int s2), .val (.ref b1), .val (.ref b8), .val (.ref b16), .val (.ref b27), .val (.int (0 : Int32)), .val (.ref b1), .val .null] [.null, (.ref b16)]))
            obtain ⟨cq128, kq128, q128a, q128b, q128c⟩ := isOf hZ e126 F117
            obtain ⟨_, _, ⟨T128, L128, k128, n128⟩, -, X128, ⟨Lc128, hQ128, l128, y128, z128⟩, st128⟩ := X126.virtualBack hx (y := (⟨"com/example/swanhall/swanhall/core/Edge", "equals", "(Ljava/lang/Object;)Z"⟩ : MethodName)) (z := (⟨"com/example/swanhall/swanhall/core/Edge", "equals", "(Ljava/lang/Object;)Z"⟩ : MethodName)) hown (mvT hZ (hw _ (List.mem_of_getElem? (i := 38) rfl))) (mvT hZ (hw _ (List.mem_of_getElem? (i := 39) rfl))) (notFace_of_selects (args := #[]) (mvT hZ (hw _ (List.mem_of_getElem? (i := 41) rfl)))) (mvT hZ (hw _ (List.mem_of_getElem? (i := 41) rfl))) (mvT hZ (hw _ (List.mem_of_getElem? (i := 40) rfl))) (by decide) (backOf (W := 0) (rm6n l Z a0 hw [] b16 T32.heap n0 O115 ) hZ (hw _ (List.mem_of_getElem? (i := 42) rfl)) (hw _ (List.mem_of_getElem? (i := 20) rfl)) (by decide) (by decide)) q128a q128c (g := (mkF m 195 #[.val (.long y0_0), .second, .val (.long y1_0), .second, .val (.long y2_0), .second, .val (.long y3_0), .second, .val (.int x4_0), .val (.int x5_0), .val (.long cx), .second, .val (.long cy), .second, .val (.int s1), .val (.int s2), .val (.ref b1), .val (.ref b8), .val (.ref b16), .val (.ref b27), .val (.int (0 : Int32)), .val (.ref b1), .val .null] [.null, (.ref b16)])) rfl (by rw [hml]; rfl) (Steps.refl _) (argsL := [.null]) (rest := []) (lenOf pd_1 rfl) rfl (by show 2 * 0 + _ ≤ _; exact Nat.le_of_eq rfl) (hb hby at_195) (fun _ _ => ⟨rfl, e126, (by decide : 4 + 0 ≤ _), (by decide : 8 + 0 ≤ _)⟩)
            dsimp only [Pt.U, Pt.locs, Pt.cells, Pt.slots] at X128 l128 y128 z128 st128 hQ128
            subst l128 y128 z128
            obtain ⟨rfl, N128q, e128⟩ := hQ128
            refine own_step (fun t k => st128.trans k) ?_
            have N129 := Fr.app N127 N128q
            show own_Ends p.tables e below s _ _ _ (T128.setTop (mkF m 198 #[.val (.long y0_0), .second, .val (.long y1_0), .second, .val (.long y2_0), .second, .val (.long y3_0), .second, .val (.int x4_0), .val (.int x5_0), .val (.long cx), .second, .val (.long cy), .second, .val (.int s1), .val (.int s2), .val (.ref b1), .val (.ref b8), .val (.ref b16), .val (.ref b27), .val (.int (0 : Int32)), .val (.ref b1), .val .null] [(.int (0 : Int32))]))
            refine own_step (fun t k => XS.ifNo X128.here hx rfl (hb hby at_198) rfl ((if0 _ _).trans (teq (by decide : (0 : Int32) = (0 : Int32))).2) k) ?_
            show own_Ends p.tables e below s _ _ _ (T128.setTop (mkF m 201 #[.val (.long y0_0), .second, .val (.long y1_0), .second, .val (.long y2_0), .second, .val (.long y3_0), .second, .val (.int x4_0), .val (.int x5_0), .val (.long cx), .second, .val (.long cy), .second, .val (.int s1), .val (.int s2), .val (.ref b1), .val (.ref b8), .val (.ref b16), .val (.ref b27), .val (.int (0 : Int32)), .val (.ref b1), .val .null] []))
            refine own_step (fun t k => XS.iconst X128.here hx rfl (hb hby at_201) k) ?_
            show own_Ends p.tables e below s _ _ _ (T128.setTop (mkF m 202 #[.val (.long y0_0), .second, .val (.long y1_0), .second, .val (.long y2_0), .second, .val (.long y3_0), .second, .val (.int x4_0), .val (.int x5_0), .val (.long cx), .second, .val (.long cy), .second, .val (.int s1), .val (.int s2), .val (.ref b1), .val (.ref b8), .val (.ref b16), .val (.ref b27), .val (.int (0 : Int32)), .val (.ref b1), .val .null] [(.int (1 : Int32))]))
            refine own_step (fun t k => XS.goto X128.here hx rfl (pc0 := 202) (pc' := 206) rfl (hb hby at_202) (by decide) (by decide) k) ?_
            show own_Ends p.tables e below s _ _ _ (T128.setTop (mkF m 206 #[.val (.long y0_0), .second, .val (.long y1_0), .second, .val (.long y2_0), .second, .val (.long y3_0), .second, .val (.int x4_0), .val (.int x5_0), .val (.long cx), .second, .val (.long cy), .second, .val (.int s1), .val (.int s2), .val (.ref b1), .val (.ref b8), .val (.ref b16), .val (.ref b27), .val (.int (0 : Int32)), .val (.ref b1), .val .null] [(.int (1 : Int32))]))
            exact own_retN X128 hx (t := .boolean) Bd.returns (by simp) (hb hby at_206) hnl (by rw [e128]; exact ⟨rfl, N129⟩) (by decide) (by decide)
        · skip
          refine own_step (fun t k => XS.icmpYes X120.here hx rfl (pc0 := 168) (pc' := 205) rfl (hb hby at_168) rfl (feq hc168_122).2 (by decide) (by decide) k) ?_
          show own_Ends p.tables e below s _ _ _ (T120.setTop (mkF m 205 #[.val (.long y0_0), .second, .val (.long y1_0), .second, .val (.long y2_0), .second, .val (.long y3_0), .second, .val (.int x4_0), .val (.int x5_0), .val (.long cx), .second, .val (.long cy), .second, .val (.int s1), .val (.int s2), .val (.ref b1), .val (.ref b8), .val (.ref b16), .val (.ref b27), .val (.int (0 : Int32)), .val (.ref b1), .val .null] []))
          refine own_step (fun t k => XS.iconst X120.here hx rfl (hb hby at_205) k) ?_
          show own_Ends p.tables e below s _ _ _ (T120.setTop (mkF m 206 #[.val (.long y0_0), .second, .val (.long y1_0), .second, .val (.long y2_0), .second, .val (.long y3_0), .second, .val (.int x4_0), .val (.int x5_0), .val (.long cx), .second, .val (.long cy), .second, .val (.int s1), .val (.int s2), .val (.ref b1), .val (.ref b8), .val (.ref b16), .val (.ref b27), .val (.int (0 : Int32)), .val (.ref b1), .val .null] [(.int (0 : Int32))]))
          exfalso
          exact hc168_122 (by rw [own_eq6 s1 s2 _ _ _ _ _ _ _ _ hs1 hs2 ne_w_N_w_E ne_w_N_w_S ne_w_N_w_W ne_w_E_w_S ne_w_E_w_W ne_w_S_w_W]; exact if_neg (fun q => hc116_35 ((own_lc _ _).mpr q.2.1.symm)))
      · skip
        refine own_step (fun t k => XS.icmpYes X116.here hx rfl (pc0 := 156) (pc' := 205) rfl (hb hby at_156) rfl (feq hc156_119).2 (by decide) (by decide) k) ?_
        show own_Ends p.tables e below s _ _ _ (T116.setTop (mkF m 205 #[.val (.long y0_0), .second, .val (.long y1_0), .second, .val (.long y2_0), .second, .val (.long y3_0), .second, .val (.int x4_0), .val (.int x5_0), .val (.long cx), .second, .val (.long cy), .second, .val (.int s1), .val (.int s2), .val (.ref b1), .val (.ref b8), .val (.ref b16), .val (.ref b27), .val (.int (0 : Int32)), .val (.ref b1), .val .null] []))
        refine own_step (fun t k => XS.iconst X116.here hx rfl (hb hby at_205) k) ?_
        show own_Ends p.tables e below s _ _ _ (T116.setTop (mkF m 206 #[.val (.long y0_0), .second, .val (.long y1_0), .second, .val (.long y2_0), .second, .val (.long y3_0), .second, .val (.int x4_0), .val (.int x5_0), .val (.long cx), .second, .val (.long cy), .second, .val (.int s1), .val (.int s2), .val (.ref b1), .val (.ref b8), .val (.ref b16), .val (.ref b27), .val (.int (0 : Int32)), .val (.ref b1), .val .null] [(.int (0 : Int32))]))
        exfalso
        exact hc156_119 (by rw [own_eq6 s2 s1 _ _ _ _ _ _ _ _ hs2 hs1 ne_w_N_w_E ne_w_N_w_S ne_w_N_w_W ne_w_E_w_S ne_w_E_w_W ne_w_S_w_W]; exact if_neg (fun q => hc116_35 ((own_lc _ _).mpr q.2.1)))
  show own_Ends p.tables e below s _ _ _ (s₁.setTop (mkF m 0 #[.val (.long y0_0), .second, .val (.long y1_0), .second, .val (.long y2_0), .second, .val (.long y3_0), .second, .val (.int x4_0), .val (.int x5_0), .unset, .unset, .unset, .unset, .unset, .unset, .unset, .unset, .unset, .unset, .unset, .unset, .unset] []))
  refine own_step (fun t k => XS.iload X0.here hx rfl (hb hby at_0) rfl k) ?_
  show own_Ends p.tables e below s _ _ _ (s₁.setTop (mkF m 2 #[.val (.long y0_0), .second, .val (.long y1_0), .second, .val (.long y2_0), .second, .val (.long y3_0), .second, .val (.int x4_0), .val (.int x5_0), .unset, .unset, .unset, .unset, .unset, .unset, .unset, .unset, .unset, .unset, .unset, .unset, .unset] [(.int x5_0)]))
  refine own_step (fun t k => XS.iconst X0.here hx rfl (hb hby at_2) k) ?_
  show own_Ends p.tables e below s _ _ _ (s₁.setTop (mkF m 3 #[.val (.long y0_0), .second, .val (.long y1_0), .second, .val (.long y2_0), .second, .val (.long y3_0), .second, .val (.int x4_0), .val (.int x5_0), .unset, .unset, .unset, .unset, .unset, .unset, .unset, .unset, .unset, .unset, .unset, .unset, .unset] [(.int (1 : Int32)), (.int x5_0)]))
  refine own_step (fun t k => XS.iand X0.here hx rfl (hb hby at_3) rfl k) ?_
  show own_Ends p.tables e below s _ _ _ (s₁.setTop (mkF m 4 #[.val (.long y0_0), .second, .val (.long y1_0), .second, .val (.long y2_0), .second, .val (.long y3_0), .second, .val (.int x4_0), .val (.int x5_0), .unset, .unset, .unset, .unset, .unset, .unset, .unset, .unset, .unset, .unset, .unset, .unset, .unset] [(.int (x5_0 &&& (1 : Int32)))]))
  by_cases hc4_130 : (x5_0 &&& (1 : Int32)) = (0 : Int32)
  · skip
    refine own_step (fun t k => XS.ifYes X0.here hx rfl (pc0 := 4) (pc' := 11) rfl (hb hby at_4) rfl ((if0 _ _).trans (teq hc4_130).1) (by decide) (by decide) k) ?_
    show own_Ends p.tables e below s _ _ _ (s₁.setTop (mkF m 11 #[.val (.long y0_0), .second, .val (.long y1_0), .second, .val (.long y2_0), .second, .val (.long y3_0), .second, .val (.int x4_0), .val (.int x5_0), .unset, .unset, .unset, .unset, .unset, .unset, .unset, .unset, .unset, .unset, .unset, .unset, .unset] []))
    refine own_step (fun t k => XS.lload X0.here hx rfl (hb hby at_11) rfl k) ?_
    show own_Ends p.tables e below s _ _ _ (s₁.setTop (mkF m 13 #[.val (.long y0_0), .second, .val (.long y1_0), .second, .val (.long y2_0), .second, .val (.long y3_0), .second, .val (.int x4_0), .val (.int x5_0), .unset, .unset, .unset, .unset, .unset, .unset, .unset, .unset, .unset, .unset, .unset, .unset, .unset] [(.long y2_0)]))
    refine own_step (fun t k => XS.lstore X0.here hx rfl (hb hby at_13) rfl (l' := #[.val (.long y0_0), .second, .val (.long y1_0), .second, .val (.long y2_0), .second, .val (.long y3_0), .second, .val (.int x4_0), .val (.int x5_0), .val (.long y2_0), .second, .unset, .unset, .unset, .unset, .unset, .unset, .unset, .unset, .unset, .unset, .unset]) rfl k) ?_
    show own_Ends p.tables e below s _ _ _ (s₁.setTop (mkF m 15 #[.val (.long y0_0), .second, .val (.long y1_0), .second, .val (.long y2_0), .second, .val (.long y3_0), .second, .val (.int x4_0), .val (.int x5_0), .val (.long y2_0), .second, .unset, .unset, .unset, .unset, .unset, .unset, .unset, .unset, .unset, .unset, .unset] []))
    refine own_step (fun t k => XS.iload X0.here hx rfl (hb hby at_15) rfl k) ?_
    show own_Ends p.tables e below s _ _ _ (s₁.setTop (mkF m 17 #[.val (.long y0_0), .second, .val (.long y1_0), .second, .val (.long y2_0), .second, .val (.long y3_0), .second, .val (.int x4_0), .val (.int x5_0), .val (.long y2_0), .second, .unset, .unset, .unset, .unset, .unset, .unset, .unset, .unset, .unset, .unset, .unset] [(.int x5_0)]))
    refine own_step (fun t k => XS.iconst X0.here hx rfl (hb hby at_17) k) ?_
    show own_Ends p.tables e below s _ _ _ (s₁.setTop (mkF m 18 #[.val (.long y0_0), .second, .val (.long y1_0), .second, .val (.long y2_0), .second, .val (.long y3_0), .second, .val (.int x4_0), .val (.int x5_0), .val (.long y2_0), .second, .unset, .unset, .unset, .unset, .unset, .unset, .unset, .unset, .unset, .unset, .unset] [(.int (2 : Int32)), (.int x5_0)]))
    refine own_step (fun t k => XS.iand X0.here hx rfl (hb hby at_18) rfl k) ?_
    show own_Ends p.tables e below s _ _ _ (s₁.setTop (mkF m 19 #[.val (.long y0_0), .second, .val (.long y1_0), .second, .val (.long y2_0), .second, .val (.long y3_0), .second, .val (.int x4_0), .val (.int x5_0), .val (.long y2_0), .second, .unset, .unset, .unset, .unset, .unset, .unset, .unset, .unset, .unset, .unset, .unset] [(.int (x5_0 &&& (2 : Int32)))]))
    by_cases hc19_131 : (x5_0 &&& (2 : Int32)) = (0 : Int32)
    · skip
      refine own_step (fun t k => XS.ifYes X0.here hx rfl (pc0 := 19) (pc' := 26) rfl (hb hby at_19) rfl ((if0 _ _).trans (teq hc19_131).1) (by decide) (by decide) k) ?_
      show own_Ends p.tables e below s _ _ _ (s₁.setTop (mkF m 26 #[.val (.long y0_0), .second, .val (.long y1_0), .second, .val (.long y2_0), .second, .val (.long y3_0), .second, .val (.int x4_0), .val (.int x5_0), .val (.long y2_0), .second, .unset, .unset, .unset, .unset, .unset, .unset, .unset, .unset, .unset, .unset, .unset] []))
      refine own_step (fun t k => XS.lload X0.here hx rfl (hb hby at_26) rfl k) ?_
      show own_Ends p.tables e below s _ _ _ (s₁.setTop (mkF m 28 #[.val (.long y0_0), .second, .val (.long y1_0), .second, .val (.long y2_0), .second, .val (.long y3_0), .second, .val (.int x4_0), .val (.int x5_0), .val (.long y2_0), .second, .unset, .unset, .unset, .unset, .unset, .unset, .unset, .unset, .unset, .unset, .unset] [(.long y3_0)]))
      refine own_step (fun t k => XS.lstore X0.here hx rfl (hb hby at_28) rfl (l' := #[.val (.long y0_0), .second, .val (.long y1_0), .second, .val (.long y2_0), .second, .val (.long y3_0), .second, .val (.int x4_0), .val (.int x5_0), .val (.long y2_0), .second, .val (.long y3_0), .second, .unset, .unset, .unset, .unset, .unset, .unset, .unset, .unset, .unset]) rfl k) ?_
      show own_Ends p.tables e below s _ _ _ (s₁.setTop (mkF m 30 #[.val (.long y0_0), .second, .val (.long y1_0), .second, .val (.long y2_0), .second, .val (.long y3_0), .second, .val (.int x4_0), .val (.int x5_0), .val (.long y2_0), .second, .val (.long y3_0), .second, .unset, .unset, .unset, .unset, .unset, .unset, .unset, .unset, .unset] []))
      refine own_step (fun t k => XS.iload X0.here hx rfl (hb hby at_30) rfl k) ?_
      show own_Ends p.tables e below s _ _ _ (s₁.setTop (mkF m 32 #[.val (.long y0_0), .second, .val (.long y1_0), .second, .val (.long y2_0), .second, .val (.long y3_0), .second, .val (.int x4_0), .val (.int x5_0), .val (.long y2_0), .second, .val (.long y3_0), .second, .unset, .unset, .unset, .unset, .unset, .unset, .unset, .unset, .unset] [(.int x4_0)]))
      refine own_step (fun t k => XS.iconst X0.here hx rfl (hb hby at_32) k) ?_
      show own_Ends p.tables e below s _ _ _ (s₁.setTop (mkF m 33 #[.val (.long y0_0), .second, .val (.long y1_0), .second, .val (.long y2_0), .second, .val (.long y3_0), .second, .val (.int x4_0), .val (.int x5_0), .val (.long y2_0), .second, .val (.long y3_0), .second, .unset, .unset, .unset, .unset, .unset, .unset, .unset, .unset, .unset] [(.int (3 : Int32)), (.int x4_0)]))
      refine own_step (fun t k => XS.iand X0.here hx rfl (hb hby at_33) rfl k) ?_
      show own_Ends p.tables e below s _ _ _ (s₁.setTop (mkF m 34 #[.val (.long y0_0), .second, .val (.long y1_0), .second, .val (.long y2_0), .second, .val (.long y3_0), .second, .val (.int x4_0), .val (.int x5_0), .val (.long y2_0), .second, .val (.long y3_0), .second, .unset, .unset, .unset, .unset, .unset, .unset, .unset, .unset, .unset] [(.int (x4_0 &&& (3 : Int32)))]))
      refine own_step (fun t k => XS.istore X0.here hx rfl (hb hby at_34) rfl (l' := #[.val (.long y0_0), .second, .val (.long y1_0), .second, .val (.long y2_0), .second, .val (.long y3_0), .second, .val (.int x4_0), .val (.int x5_0), .val (.long y2_0), .second, .val (.long y3_0), .second, .val (.int (x4_0 &&& (3 : Int32))), .unset, .unset, .unset, .unset, .unset, .unset, .unset, .unset]) rfl k) ?_
      show own_Ends p.tables e below s _ _ _ (s₁.setTop (mkF m 36 #[.val (.long y0_0), .second, .val (.long y1_0), .second, .val (.long y2_0), .second, .val (.long y3_0), .second, .val (.int x4_0), .val (.int x5_0), .val (.long y2_0), .second, .val (.long y3_0), .second, .val (.int (x4_0 &&& (3 : Int32))), .unset, .unset, .unset, .unset, .unset, .unset, .unset, .unset] []))
      refine own_step (fun t k => XS.iload X0.here hx rfl (hb hby at_36) rfl k) ?_
      show own_Ends p.tables e below s _ _ _ (s₁.setTop (mkF m 38 #[.val (.long y0_0), .second, .val (.long y1_0), .second, .val (.long y2_0), .second, .val (.long y3_0), .second, .val (.int x4_0), .val (.int x5_0), .val (.long y2_0), .second, .val (.long y3_0), .second, .val (.int (x4_0 &&& (3 : Int32))), .unset, .unset, .unset, .unset, .unset, .unset, .unset, .unset] [(.int x5_0)]))
      refine own_step (fun t k => XS.iconst X0.here hx rfl (hb hby at_38) k) ?_
      show own_Ends p.tables e below s _ _ _ (s₁.setTop (mkF m 39 #[.val (.long y0_0), .second, .val (.long y1_0), .second, .val (.long y2_0), .second, .val (.long y3_0), .second, .val (.int x4_0), .val (.int x5_0), .val (.long y2_0), .second, .val (.long y3_0), .second, .val (.int (x4_0 &&& (3 : Int32))), .unset, .unset, .unset, .unset, .unset, .unset, .unset, .unset] [(.int (4 : Int32)), (.int x5_0)]))
      refine own_step (fun t k => XS.iand X0.here hx rfl (hb hby at_39) rfl k) ?_
      show own_Ends p.tables e below s _ _ _ (s₁.setTop (mkF m 40 #[.val (.long y0_0), .second, .val (.long y1_0), .second, .val (.long y2_0), .second, .val (.long y3_0), .second, .val (.int x4_0), .val (.int x5_0), .val (.long y2_0), .second, .val (.long y3_0), .second, .val (.int (x4_0 &&& (3 : Int32))), .unset, .unset, .unset, .unset, .unset, .unset, .unset, .unset] [(.int (x5_0 &&& (4 : Int32)))]))
      by_cases hc40_132 : (x5_0 &&& (4 : Int32)) = (0 : Int32)
      · skip
        refine own_step (fun t k => XS.ifYes X0.here hx rfl (pc0 := 40) (pc' := 48) rfl (hb hby at_40) rfl ((if0 _ _).trans (teq hc40_132).1) (by decide) (by decide) k) ?_
        show own_Ends p.tables e below s _ _ _ (s₁.setTop (mkF m 48 #[.val (.long y0_0), .second, .val (.long y1_0), .second, .val (.long y2_0), .second, .val (.long y3_0), .second, .val (.int x4_0), .val (.int x5_0), .val (.long y2_0), .second, .val (.long y3_0), .second, .val (.int (x4_0 &&& (3 : Int32))), .unset, .unset, .unset, .unset, .unset, .unset, .unset, .unset] []))
        refine own_step (fun t k => XS.iload X0.here hx rfl (hb hby at_48) rfl k) ?_
        show own_Ends p.tables e below s _ _ _ (s₁.setTop (mkF m 50 #[.val (.long y0_0), .second, .val (.long y1_0), .second, .val (.long y2_0), .second, .val (.long y3_0), .second, .val (.int x4_0), .val (.int x5_0), .val (.long y2_0), .second, .val (.long y3_0), .second, .val (.int (x4_0 &&& (3 : Int32))), .unset, .unset, .unset, .unset, .unset, .unset, .unset, .unset] [(.int x4_0)]))
        refine own_step (fun t k => XS.iconst X0.here hx rfl (hb hby at_50) k) ?_
        show own_Ends p.tables e below s _ _ _ (s₁.setTop (mkF m 51 #[.val (.long y0_0), .second, .val (.long y1_0), .second, .val (.long y2_0), .second, .val (.long y3_0), .second, .val (.int x4_0), .val (.int x5_0), .val (.long y2_0), .second, .val (.long y3_0), .second, .val (.int (x4_0 &&& (3 : Int32))), .unset, .unset, .unset, .unset, .unset, .unset, .unset, .unset] [(.int (2 : Int32)), (.int x4_0)]))
        refine own_step (fun t k => XS.iushr X0.here hx rfl (hb hby at_51) rfl k) ?_
        show own_Ends p.tables e below s _ _ _ (s₁.setTop (mkF m 52 #[.val (.long y0_0), .second, .val (.long y1_0), .second, .val (.long y2_0), .second, .val (.long y3_0), .second, .val (.int x4_0), .val (.int x5_0), .val (.long y2_0), .second, .val (.long y3_0), .second, .val (.int (x4_0 &&& (3 : Int32))), .unset, .unset, .unset, .unset, .unset, .unset, .unset, .unset] [(.int ((x4_0.toUInt32 >>> ((2 : Int32) &&& 31).toUInt32).toInt32))]))
        refine own_step (fun t k => XS.iconst X0.here hx rfl (hb hby at_52) k) ?_
        show own_Ends p.tables e below s _ _ _ (s₁.setTop (mkF m 53 #[.val (.long y0_0), .second, .val (.long y1_0), .second, .val (.long y2_0), .second, .val (.long y3_0), .second, .val (.int x4_0), .val (.int x5_0), .val (.long y2_0), .second, .val (.long y3_0), .second, .val (.int (x4_0 &&& (3 : Int32))), .unset, .unset, .unset, .unset, .unset, .unset, .unset, .unset] [(.int (3 : Int32)), (.int ((x4_0.toUInt32 >>> ((2 : Int32) &&& 31).toUInt32).toInt32))]))
        refine own_step (fun t k => XS.iand X0.here hx rfl (hb hby at_53) rfl k) ?_
        show own_Ends p.tables e below s _ _ _ (s₁.setTop (mkF m 54 #[.val (.long y0_0), .second, .val (.long y1_0), .second, .val (.long y2_0), .second, .val (.long y3_0), .second, .val (.int x4_0), .val (.int x5_0), .val (.long y2_0), .second, .val (.long y3_0), .second, .val (.int (x4_0 &&& (3 : Int32))), .unset, .unset, .unset, .unset, .unset, .unset, .unset, .unset] [(.int (((x4_0.toUInt32 >>> ((2 : Int32) &&& 31).toUInt32).toInt32) &&& (3 : Int32)))]))
        refine own_step (fun t k => XS.istore X0.here hx rfl (hb hby at_54) rfl (l' := #[.val (.long y0_0), .second, .val (.long y1_0), .second, .val (.long y2_0), .second, .val (.long y3_0), .second, .val (.int x4_0), .val (.int x5_0), .val (.long y2_0), .second, .val (.long y3_0), .second, .val (.int (x4_0 &&& (3 : Int32))), .val (.int (((x4_0.toUInt32 >>> ((2 : Int32) &&& 31).toUInt32).toInt32) &&& (3 : Int32))), .unset, .unset, .unset, .unset, .unset, .unset, .unset]) rfl k) ?_
        show own_Ends p.tables e below s _ _ _ (s₁.setTop (mkF m 56 #[.val (.long y0_0), .second, .val (.long y1_0), .second, .val (.long y2_0), .second, .val (.long y3_0), .second, .val (.int x4_0), .val (.int x5_0), .val (.long y2_0), .second, .val (.long y3_0), .second, .val (.int (x4_0 &&& (3 : Int32))), .val (.int (((x4_0.toUInt32 >>> ((2 : Int32) &&& 31).toUInt32).toInt32) &&& (3 : Int32))), .unset, .unset, .unset, .unset, .unset, .unset, .unset] []))
        exact tail56 y2_0 y3_0 (x4_0 &&& (3 : Int32)) (((x4_0.toUInt32 >>> ((2 : Int32) &&& 31).toUInt32).toInt32) &&& (3 : Int32)) (own_m3 _) (own_m3 _)
      · skip
        refine own_step (fun t k => XS.ifNo X0.here hx rfl (hb hby at_40) rfl ((if0 _ _).trans (feq hc40_132).1) k) ?_
        show own_Ends p.tables e below s _ _ _ (s₁.setTop (mkF m 43 #[.val (.long y0_0), .second, .val (.long y1_0), .second, .val (.long y2_0), .second, .val (.long y3_0), .second, .val (.int x4_0), .val (.int x5_0), .val (.long y2_0), .second, .val (.long y3_0), .second, .val (.int (x4_0 &&& (3 : Int32))), .unset, .unset, .unset, .unset, .unset, .unset, .unset, .unset] []))
        refine own_step (fun t k => XS.iload X0.here hx rfl (hb hby at_43) rfl k) ?_
        show own_Ends p.tables e below s _ _ _ (s₁.setTop (mkF m 45 #[.val (.long y0_0), .second, .val (.long y1_0), .second, .val (.long y2_0), .second, .val (.long y3_0), .second, .val (.int x4_0), .val (.int x5_0), .val (.long y2_0), .second, .val (.long y3_0), .second, .val (.int (x4_0 &&& (3 : Int32))), .unset, .unset, .unset, .unset, .unset, .unset, .unset, .unset] [(.int (x4_0 &&& (3 : Int32)))]))
        refine own_step (fun t k => XS.goto X0.here hx rfl (pc0 := 45) (pc' := 54) rfl (hb hby at_45) (by decide) (by decide) k) ?_
        show own_Ends p.tables e below s _ _ _ (s₁.setTop (mkF m 54 #[.val (.long y0_0), .second, .val (.long y1_0), .second, .val (.long y2_0), .second, .val (.long y3_0), .second, .val (.int x4_0), .val (.int x5_0), .val (.long y2_0), .second, .val (.long y3_0), .second, .val (.int (x4_0 &&& (3 : Int32))), .unset, .unset, .unset, .unset, .unset, .unset, .unset, .unset] [(.int (x4_0 &&& (3 : Int32)))]))
        refine own_step (fun t k => XS.istore X0.here hx rfl (hb hby at_54) rfl (l' := #[.val (.long y0_0), .second, .val (.long y1_0), .second, .val (.long y2_0), .second, .val (.long y3_0), .second, .val (.int x4_0), .val (.int x5_0), .val (.long y2_0), .second, .val (.long y3_0), .second, .val (.int (x4_0 &&& (3 : Int32))), .val (.int (x4_0 &&& (3 : Int32))), .unset, .unset, .unset, .unset, .unset, .unset, .unset]) rfl k) ?_
        show own_Ends p.tables e below s _ _ _ (s₁.setTop (mkF m 56 #[.val (.long y0_0), .second, .val (.long y1_0), .second, .val (.long y2_0), .second, .val (.long y3_0), .second, .val (.int x4_0), .val (.int x5_0), .val (.long y2_0), .second, .val (.long y3_0), .second, .val (.int (x4_0 &&& (3 : Int32))), .val (.int (x4_0 &&& (3 : Int32))), .unset, .unset, .unset, .unset, .unset, .unset, .unset] []))
        exact tail56 y2_0 y3_0 (x4_0 &&& (3 : Int32)) (x4_0 &&& (3 : Int32)) (own_m3 _) (own_m3 _)
    · skip
      refine own_step (fun t k => XS.ifNo X0.here hx rfl (hb hby at_19) rfl ((if0 _ _).trans (feq hc19_131).1) k) ?_
      show own_Ends p.tables e below s _ _ _ (s₁.setTop (mkF m 22 #[.val (.long y0_0), .second, .val (.long y1_0), .second, .val (.long y2_0), .second, .val (.long y3_0), .second, .val (.int x4_0), .val (.int x5_0), .val (.long y2_0), .second, .unset, .unset, .unset, .unset, .unset, .unset, .unset, .unset, .unset, .unset, .unset] []))
      refine own_step (fun t k => XS.lloadN X0.here hx rfl (hb hby at_22) rfl k) ?_
      show own_Ends p.tables e below s _ _ _ (s₁.setTop (mkF m 23 #[.val (.long y0_0), .second, .val (.long y1_0), .second, .val (.long y2_0), .second, .val (.long y3_0), .second, .val (.int x4_0), .val (.int x5_0), .val (.long y2_0), .second, .unset, .unset, .unset, .unset, .unset, .unset, .unset, .unset, .unset, .unset, .unset] [(.long y1_0)]))
      refine own_step (fun t k => XS.goto X0.here hx rfl (pc0 := 23) (pc' := 28) rfl (hb hby at_23) (by decide) (by decide) k) ?_
      show own_Ends p.tables e below s _ _ _ (s₁.setTop (mkF m 28 #[.val (.long y0_0), .second, .val (.long y1_0), .second, .val (.long y2_0), .second, .val (.long y3_0), .second, .val (.int x4_0), .val (.int x5_0), .val (.long y2_0), .second, .unset, .unset, .unset, .unset, .unset, .unset, .unset, .unset, .unset, .unset, .unset] [(.long y1_0)]))
      refine own_step (fun t k => XS.lstore X0.here hx rfl (hb hby at_28) rfl (l' := #[.val (.long y0_0), .second, .val (.long y1_0), .second, .val (.long y2_0), .second, .val (.long y3_0), .second, .val (.int x4_0), .val (.int x5_0), .val (.long y2_0), .second, .val (.long y1_0), .second, .unset, .unset, .unset, .unset, .unset, .unset, .unset, .unset, .unset]) rfl k) ?_
      show own_Ends p.tables e below s _ _ _ (s₁.setTop (mkF m 30 #[.val (.long y0_0), .second, .val (.long y1_0), .second, .val (.long y2_0), .second, .val (.long y3_0), .second, .val (.int x4_0), .val (.int x5_0), .val (.long y2_0), .second, .val (.long y1_0), .second, .unset, .unset, .unset, .unset, .unset, .unset, .unset, .unset, .unset] []))
      refine own_step (fun t k => XS.iload X0.here hx rfl (hb hby at_30) rfl k) ?_
      show own_Ends p.tables e below s _ _ _ (s₁.setTop (mkF m 32 #[.val (.long y0_0), .second, .val (.long y1_0), .second, .val (.long y2_0), .second, .val (.long y3_0), .second, .val (.int x4_0), .val (.int x5_0), .val (.long y2_0), .second, .val (.long y1_0), .second, .unset, .unset, .unset, .unset, .unset, .unset, .unset, .unset, .unset] [(.int x4_0)]))
      refine own_step (fun t k => XS.iconst X0.here hx rfl (hb hby at_32) k) ?_
      show own_Ends p.tables e below s _ _ _ (s₁.setTop (mkF m 33 #[.val (.long y0_0), .second, .val (.long y1_0), .second, .val (.long y2_0), .second, .val (.long y3_0), .second, .val (.int x4_0), .val (.int x5_0), .val (.long y2_0), .second, .val (.long y1_0), .second, .unset, .unset, .unset, .unset, .unset, .unset, .unset, .unset, .unset] [(.int (3 : Int32)), (.int x4_0)]))
      refine own_step (fun t k => XS.iand X0.here hx rfl (hb hby at_33) rfl k) ?_
      show own_Ends p.tables e below s _ _ _ (s₁.setTop (mkF m 34 #[.val (.long y0_0), .second, .val (.long y1_0), .second, .val (.long y2_0), .second, .val (.long y3_0), .second, .val (.int x4_0), .val (.int x5_0), .val (.long y2_0), .second, .val (.long y1_0), .second, .unset, .unset, .unset, .unset, .unset, .unset, .unset, .unset, .unset] [(.int (x4_0 &&& (3 : Int32)))]))
      refine own_step (fun t k => XS.istore X0.here hx rfl (hb hby at_34) rfl (l' := #[.val (.long y0_0), .second, .val (.long y1_0), .second, .val (.long y2_0), .second, .val (.long y3_0), .second, .val (.int x4_0), .val (.int x5_0), .val (.long y2_0), .second, .val (.long y1_0), .second, .val (.int (x4_0 &&& (3 : Int32))), .unset, .unset, .unset, .unset, .unset, .unset, .unset, .unset]) rfl k) ?_
      show own_Ends p.tables e below s _ _ _ (s₁.setTop (mkF m 36 #[.val (.long y0_0), .second, .val (.long y1_0), .second, .val (.long y2_0), .second, .val (.long y3_0), .second, .val (.int x4_0), .val (.int x5_0), .val (.long y2_0), .second, .val (.long y1_0), .second, .val (.int (x4_0 &&& (3 : Int32))), .unset, .unset, .unset, .unset, .unset, .unset, .unset, .unset] []))
      refine own_step (fun t k => XS.iload X0.here hx rfl (hb hby at_36) rfl k) ?_
      show own_Ends p.tables e below s _ _ _ (s₁.setTop (mkF m 38 #[.val (.long y0_0), .second, .val (.long y1_0), .second, .val (.long y2_0), .second, .val (.long y3_0), .second, .val (.int x4_0), .val (.int x5_0), .val (.long y2_0), .second, .val (.long y1_0), .second, .val (.int (x4_0 &&& (3 : Int32))), .unset, .unset, .unset, .unset, .unset, .unset, .unset, .unset] [(.int x5_0)]))
      refine own_step (fun t k => XS.iconst X0.here hx rfl (hb hby at_38) k) ?_
      show own_Ends p.tables e below s _ _ _ (s₁.setTop (mkF m 39 #[.val (.long y0_0), .second, .val (.long y1_0), .second, .val (.long y2_0), .second, .val (.long y3_0), .second, .val (.int x4_0), .val (.int x5_0), .val (.long y2_0), .second, .val (.long y1_0), .second, .val (.int (x4_0 &&& (3 : Int32))), .unset, .unset, .unset, .unset, .unset, .unset, .unset, .unset] [(.int (4 : Int32)), (.int x5_0)]))
      refine own_step (fun t k => XS.iand X0.here hx rfl (hb hby at_39) rfl k) ?_
      show own_Ends p.tables e below s _ _ _ (s₁.setTop (mkF m 40 #[.val (.long y0_0), .second, .val (.long y1_0), .second, .val (.long y2_0), .second, .val (.long y3_0), .second, .val (.int x4_0), .val (.int x5_0), .val (.long y2_0), .second, .val (.long y1_0), .second, .val (.int (x4_0 &&& (3 : Int32))), .unset, .unset, .unset, .unset, .unset, .unset, .unset, .unset] [(.int (x5_0 &&& (4 : Int32)))]))
      by_cases hc40_133 : (x5_0 &&& (4 : Int32)) = (0 : Int32)
      · skip
        refine own_step (fun t k => XS.ifYes X0.here hx rfl (pc0 := 40) (pc' := 48) rfl (hb hby at_40) rfl ((if0 _ _).trans (teq hc40_133).1) (by decide) (by decide) k) ?_
        show own_Ends p.tables e below s _ _ _ (s₁.setTop (mkF m 48 #[.val (.long y0_0), .second, .val (.long y1_0), .second, .val (.long y2_0), .second, .val (.long y3_0), .second, .val (.int x4_0), .val (.int x5_0), .val (.long y2_0), .second, .val (.long y1_0), .second, .val (.int (x4_0 &&& (3 : Int32))), .unset, .unset, .unset, .unset, .unset, .unset, .unset, .unset] []))
        refine own_step (fun t k => XS.iload X0.here hx rfl (hb hby at_48) rfl k) ?_
        show own_Ends p.tables e below s _ _ _ (s₁.setTop (mkF m 50 #[.val (.long y0_0), .second, .val (.long y1_0), .second, .val (.long y2_0), .second, .val (.long y3_0), .second, .val (.int x4_0), .val (.int x5_0), .val (.long y2_0), .second, .val (.long y1_0), .second, .val (.int (x4_0 &&& (3 : Int32))), .unset, .unset, .unset, .unset, .unset, .unset, .unset, .unset] [(.int x4_0)]))
        refine own_step (fun t k => XS.iconst X0.here hx rfl (hb hby at_50) k) ?_
        show own_Ends p.tables e below s _ _ _ (s₁.setTop (mkF m 51 #[.val (.long y0_0), .second, .val (.long y1_0), .second, .val (.long y2_0), .second, .val (.long y3_0), .second, .val (.int x4_0), .val (.int x5_0), .val (.long y2_0), .second, .val (.long y1_0), .second, .val (.int (x4_0 &&& (3 : Int32))), .unset, .unset, .unset, .unset, .unset, .unset, .unset, .unset] [(.int (2 : Int32)), (.int x4_0)]))
        refine own_step (fun t k => XS.iushr X0.here hx rfl (hb hby at_51) rfl k) ?_
        show own_Ends p.tables e below s _ _ _ (s₁.setTop (mkF m 52 #[.val (.long y0_0), .second, .val (.long y1_0), .second, .val (.long y2_0), .second, .val (.long y3_0), .second, .val (.int x4_0), .val (.int x5_0), .val (.long y2_0), .second, .val (.long y1_0), .second, .val (.int (x4_0 &&& (3 : Int32))), .unset, .unset, .unset, .unset, .unset, .unset, .unset, .unset] [(.int ((x4_0.toUInt32 >>> ((2 : Int32) &&& 31).toUInt32).toInt32))]))
        refine own_step (fun t k => XS.iconst X0.here hx rfl (hb hby at_52) k) ?_
        show own_Ends p.tables e below s _ _ _ (s₁.setTop (mkF m 53 #[.val (.long y0_0), .second, .val (.long y1_0), .second, .val (.long y2_0), .second, .val (.long y3_0), .second, .val (.int x4_0), .val (.int x5_0), .val (.long y2_0), .second, .val (.long y1_0), .second, .val (.int (x4_0 &&& (3 : Int32))), .unset, .unset, .unset, .unset, .unset, .unset, .unset, .unset] [(.int (3 : Int32)), (.int ((x4_0.toUInt32 >>> ((2 : Int32) &&& 31).toUInt32).toInt32))]))
        refine own_step (fun t k => XS.iand X0.here hx rfl (hb hby at_53) rfl k) ?_
        show own_Ends p.tables e below s _ _ _ (s₁.setTop (mkF m 54 #[.val (.long y0_0), .second, .val (.long y1_0), .second, .val (.long y2_0), .second, .val (.long y3_0), .second, .val (.int x4_0), .val (.int x5_0), .val (.long y2_0), .second, .val (.long y1_0), .second, .val (.int (x4_0 &&& (3 : Int32))), .unset, .unset, .unset, .unset, .unset, .unset, .unset, .unset] [(.int (((x4_0.toUInt32 >>> ((2 : Int32) &&& 31).toUInt32).toInt32) &&& (3 : Int32)))]))
        refine own_step (fun t k => XS.istore X0.here hx rfl (hb hby at_54) rfl (l' := #[.val (.long y0_0), .second, .val (.long y1_0), .second, .val (.long y2_0), .second, .val (.long y3_0), .second, .val (.int x4_0), .val (.int x5_0), .val (.long y2_0), .second, .val (.long y1_0), .second, .val (.int (x4_0 &&& (3 : Int32))), .val (.int (((x4_0.toUInt32 >>> ((2 : Int32) &&& 31).toUInt32).toInt32) &&& (3 : Int32))), .unset, .unset, .unset, .unset, .unset, .unset, .unset]) rfl k) ?_
        show own_Ends p.tables e below s _ _ _ (s₁.setTop (mkF m 56 #[.val (.long y0_0), .second, .val (.long y1_0), .second, .val (.long y2_0), .second, .val (.long y3_0), .second, .val (.int x4_0), .val (.int x5_0), .val (.long y2_0), .second, .val (.long y1_0), .second, .val (.int (x4_0 &&& (3 : Int32))), .val (.int (((x4_0.toUInt32 >>> ((2 : Int32) &&& 31).toUInt32).toInt32) &&& (3 : Int32))), .unset, .unset, .unset, .unset, .unset, .unset, .unset] []))
        exact tail56 y2_0 y1_0 (x4_0 &&& (3 : Int32)) (((x4_0.toUInt32 >>> ((2 : Int32) &&& 31).toUInt32).toInt32) &&& (3 : Int32)) (own_m3 _) (own_m3 _)
      · skip
        refine own_step (fun t k => XS.ifNo X0.here hx rfl (hb hby at_40) rfl ((if0 _ _).trans (feq hc40_133).1) k) ?_
        show own_Ends p.tables e below s _ _ _ (s₁.setTop (mkF m 43 #[.val (.long y0_0), .second, .val (.long y1_0), .second, .val (.long y2_0), .second, .val (.long y3_0), .second, .val (.int x4_0), .val (.int x5_0), .val (.long y2_0), .second, .val (.long y1_0), .second, .val (.int (x4_0 &&& (3 : Int32))), .unset, .unset, .unset, .unset, .unset, .unset, .unset, .unset] []))
        refine own_step (fun t k => XS.iload X0.here hx rfl (hb hby at_43) rfl k) ?_
        show own_Ends p.tables e below s _ _ _ (s₁.setTop (mkF m 45 #[.val (.long y0_0), .second, .val (.long y1_0), .second, .val (.long y2_0), .second, .val (.long y3_0), .second, .val (.int x4_0), .val (.int x5_0), .val (.long y2_0), .second, .val (.long y1_0), .second, .val (.int (x4_0 &&& (3 : Int32))), .unset, .unset, .unset, .unset, .unset, .unset, .unset, .unset] [(.int (x4_0 &&& (3 : Int32)))]))
        refine own_step (fun t k => XS.goto X0.here hx rfl (pc0 := 45) (pc' := 54) rfl (hb hby at_45) (by decide) (by decide) k) ?_
        show own_Ends p.tables e below s _ _ _ (s₁.setTop (mkF m 54 #[.val (.long y0_0), .second, .val (.long y1_0), .second, .val (.long y2_0), .second, .val (.long y3_0), .second, .val (.int x4_0), .val (.int x5_0), .val (.long y2_0), .second, .val (.long y1_0), .second, .val (.int (x4_0 &&& (3 : Int32))), .unset, .unset, .unset, .unset, .unset, .unset, .unset, .unset] [(.int (x4_0 &&& (3 : Int32)))]))
        refine own_step (fun t k => XS.istore X0.here hx rfl (hb hby at_54) rfl (l' := #[.val (.long y0_0), .second, .val (.long y1_0), .second, .val (.long y2_0), .second, .val (.long y3_0), .second, .val (.int x4_0), .val (.int x5_0), .val (.long y2_0), .second, .val (.long y1_0), .second, .val (.int (x4_0 &&& (3 : Int32))), .val (.int (x4_0 &&& (3 : Int32))), .unset, .unset, .unset, .unset, .unset, .unset, .unset]) rfl k) ?_
        show own_Ends p.tables e below s _ _ _ (s₁.setTop (mkF m 56 #[.val (.long y0_0), .second, .val (.long y1_0), .second, .val (.long y2_0), .second, .val (.long y3_0), .second, .val (.int x4_0), .val (.int x5_0), .val (.long y2_0), .second, .val (.long y1_0), .second, .val (.int (x4_0 &&& (3 : Int32))), .val (.int (x4_0 &&& (3 : Int32))), .unset, .unset, .unset, .unset, .unset, .unset, .unset] []))
        exact tail56 y2_0 y1_0 (x4_0 &&& (3 : Int32)) (x4_0 &&& (3 : Int32)) (own_m3 _) (own_m3 _)
  · skip
    refine own_step (fun t k => XS.ifNo X0.here hx rfl (hb hby at_4) rfl ((if0 _ _).trans (feq hc4_130).1) k) ?_
    show own_Ends p.tables e below s _ _ _ (s₁.setTop (mkF m 7 #[.val (.long y0_0), .second, .val (.long y1_0), .second, .val (.long y2_0), .second, .val (.long y3_0), .second, .val (.int x4_0), .val (.int x5_0), .unset, .unset, .unset, .unset, .unset, .unset, .unset, .unset, .unset, .unset, .unset, .unset, .unset] []))
    refine own_step (fun t k => XS.lloadN X0.here hx rfl (hb hby at_7) rfl k) ?_
    show own_Ends p.tables e below s _ _ _ (s₁.setTop (mkF m 8 #[.val (.long y0_0), .second, .val (.long y1_0), .second, .val (.long y2_0), .second, .val (.long y3_0), .second, .val (.int x4_0), .val (.int x5_0), .unset, .unset, .unset, .unset, .unset, .unset, .unset, .unset, .unset, .unset, .unset, .unset, .unset] [(.long y0_0)]))
    refine own_step (fun t k => XS.goto X0.here hx rfl (pc0 := 8) (pc' := 13) rfl (hb hby at_8) (by decide) (by decide) k) ?_
    show own_Ends p.tables e below s _ _ _ (s₁.setTop (mkF m 13 #[.val (.long y0_0), .second, .val (.long y1_0), .second, .val (.long y2_0), .second, .val (.long y3_0), .second, .val (.int x4_0), .val (.int x5_0), .unset, .unset, .unset, .unset, .unset, .unset, .unset, .unset, .unset, .unset, .unset, .unset, .unset] [(.long y0_0)]))
    refine own_step (fun t k => XS.lstore X0.here hx rfl (hb hby at_13) rfl (l' := #[.val (.long y0_0), .second, .val (.long y1_0), .second, .val (.long y2_0), .second, .val (.long y3_0), .second, .val (.int x4_0), .val (.int x5_0), .val (.long y0_0), .second, .unset, .unset, .unset, .unset, .unset, .unset, .unset, .unset, .unset, .unset, .unset]) rfl k) ?_
    show own_Ends p.tables e below s _ _ _ (s₁.setTop (mkF m 15 #[.val (.long y0_0), .second, .val (.long y1_0), .second, .val (.long y2_0), .second, .val (.long y3_0), .second, .val (.int x4_0), .val (.int x5_0), .val (.long y0_0), .second, .unset, .unset, .unset, .unset, .unset, .unset, .unset, .unset, .unset, .unset, .unset] []))
    refine own_step (fun t k => XS.iload X0.here hx rfl (hb hby at_15) rfl k) ?_
    show own_Ends p.tables e below s _ _ _ (s₁.setTop (mkF m 17 #[.val (.long y0_0), .second, .val (.long y1_0), .second, .val (.long y2_0), .second, .val (.long y3_0), .second, .val (.int x4_0), .val (.int x5_0), .val (.long y0_0), .second, .unset, .unset, .unset, .unset, .unset, .unset, .unset, .unset, .unset, .unset, .unset] [(.int x5_0)]))
    refine own_step (fun t k => XS.iconst X0.here hx rfl (hb hby at_17) k) ?_
    show own_Ends p.tables e below s _ _ _ (s₁.setTop (mkF m 18 #[.val (.long y0_0), .second, .val (.long y1_0), .second, .val (.long y2_0), .second, .val (.long y3_0), .second, .val (.int x4_0), .val (.int x5_0), .val (.long y0_0), .second, .unset, .unset, .unset, .unset, .unset, .unset, .unset, .unset, .unset, .unset, .unset] [(.int (2 : Int32)), (.int x5_0)]))
    refine own_step (fun t k => XS.iand X0.here hx rfl (hb hby at_18) rfl k) ?_
    show own_Ends p.tables e below s _ _ _ (s₁.setTop (mkF m 19 #[.val (.long y0_0), .second, .val (.long y1_0), .second, .val (.long y2_0), .second, .val (.long y3_0), .second, .val (.int x4_0), .val (.int x5_0), .val (.long y0_0), .second, .unset, .unset, .unset, .unset, .unset, .unset, .unset, .unset, .unset, .unset, .unset] [(.int (x5_0 &&& (2 : Int32)))]))
    by_cases hc19_134 : (x5_0 &&& (2 : Int32)) = (0 : Int32)
    · skip
      refine own_step (fun t k => XS.ifYes X0.here hx rfl (pc0 := 19) (pc' := 26) rfl (hb hby at_19) rfl ((if0 _ _).trans (teq hc19_134).1) (by decide) (by decide) k) ?_
      show own_Ends p.tables e below s _ _ _ (s₁.setTop (mkF m 26 #[.val (.long y0_0), .second, .val (.long y1_0), .second, .val (.long y2_0), .second, .val (.long y3_0), .second, .val (.int x4_0), .val (.int x5_0), .val (.long y0_0), .second, .unset, .unset, .unset, .unset, .unset, .unset, .unset, .unset, .unset, .unset, .unset] []))
      refine own_step (fun t k => XS.lload X0.here hx rfl (hb hby at_26) rfl k) ?_
      show own_Ends p.tables e below s _ _ _ (s₁.setTop (mkF m 28 #[.val (.long y0_0), .second, .val (.long y1_0), .second, .val (.long y2_0), .second, .val (.long y3_0), .second, .val (.int x4_0), .val (.int x5_0), .val (.long y0_0), .second, .unset, .unset, .unset, .unset, .unset, .unset, .unset, .unset, .unset, .unset, .unset] [(.long y3_0)]))
      refine own_step (fun t k => XS.lstore X0.here hx rfl (hb hby at_28) rfl (l' := #[.val (.long y0_0), .second, .val (.long y1_0), .second, .val (.long y2_0), .second, .val (.long y3_0), .second, .val (.int x4_0), .val (.int x5_0), .val (.long y0_0), .second, .val (.long y3_0), .second, .unset, .unset, .unset, .unset, .unset, .unset, .unset, .unset, .unset]) rfl k) ?_
      show own_Ends p.tables e below s _ _ _ (s₁.setTop (mkF m 30 #[.val (.long y0_0), .second, .val (.long y1_0), .second, .val (.long y2_0), .second, .val (.long y3_0), .second, .val (.int x4_0), .val (.int x5_0), .val (.long y0_0), .second, .val (.long y3_0), .second, .unset, .unset, .unset, .unset, .unset, .unset, .unset, .unset, .unset] []))
      refine own_step (fun t k => XS.iload X0.here hx rfl (hb hby at_30) rfl k) ?_
      show own_Ends p.tables e below s _ _ _ (s₁.setTop (mkF m 32 #[.val (.long y0_0), .second, .val (.long y1_0), .second, .val (.long y2_0), .second, .val (.long y3_0), .second, .val (.int x4_0), .val (.int x5_0), .val (.long y0_0), .second, .val (.long y3_0), .second, .unset, .unset, .unset, .unset, .unset, .unset, .unset, .unset, .unset] [(.int x4_0)]))
      refine own_step (fun t k => XS.iconst X0.here hx rfl (hb hby at_32) k) ?_
      show own_Ends p.tables e below s _ _ _ (s₁.setTop (mkF m 33 #[.val (.long y0_0), .second, .val (.long y1_0), .second, .val (.long y2_0), .second, .val (.long y3_0), .second, .val (.int x4_0), .val (.int x5_0), .val (.long y0_0), .second, .val (.long y3_0), .second, .unset, .unset, .unset, .unset, .unset, .unset, .unset, .unset, .unset] [(.int (3 : Int32)), (.int x4_0)]))
      refine own_step (fun t k => XS.iand X0.here hx rfl (hb hby at_33) rfl k) ?_
      show own_Ends p.tables e below s _ _ _ (s₁.setTop (mkF m 34 #[.val (.long y0_0), .second, .val (.long y1_0), .second, .val (.long y2_0), .second, .val (.long y3_0), .second, .val (.int x4_0), .val (.int x5_0), .val (.long y0_0), .second, .val (.long y3_0), .second, .unset, .unset, .unset, .unset, .unset, .unset, .unset, .unset, .unset] [(.int (x4_0 &&& (3 : Int32)))]))
      refine own_step (fun t k => XS.istore X0.here hx rfl (hb hby at_34) rfl (l' := #[.val (.long y0_0), .second, .val (.long y1_0), .second, .val (.long y2_0), .second, .val (.long y3_0), .second, .val (.int x4_0), .val (.int x5_0), .val (.long y0_0), .second, .val (.long y3_0), .second, .val (.int (x4_0 &&& (3 : Int32))), .unset, .unset, .unset, .unset, .unset, .unset, .unset, .unset]) rfl k) ?_
      show own_Ends p.tables e below s _ _ _ (s₁.setTop (mkF m 36 #[.val (.long y0_0), .second, .val (.long y1_0), .second, .val (.long y2_0), .second, .val (.long y3_0), .second, .val (.int x4_0), .val (.int x5_0), .val (.long y0_0), .second, .val (.long y3_0), .second, .val (.int (x4_0 &&& (3 : Int32))), .unset, .unset, .unset, .unset, .unset, .unset, .unset, .unset] []))
      refine own_step (fun t k => XS.iload X0.here hx rfl (hb hby at_36) rfl k) ?_
      show own_Ends p.tables e below s _ _ _ (s₁.setTop (mkF m 38 #[.val (.long y0_0), .second, .val (.long y1_0), .second, .val (.long y2_0), .second, .val (.long y3_0), .second, .val (.int x4_0), .val (.int x5_0), .val (.long y0_0), .second, .val (.long y3_0), .second, .val (.int (x4_0 &&& (3 : Int32))), .unset, .unset, .unset, .unset, .unset, .unset, .unset, .unset] [(.int x5_0)]))
      refine own_step (fun t k => XS.iconst X0.here hx rfl (hb hby at_38) k) ?_
      show own_Ends p.tables e below s _ _ _ (s₁.setTop (mkF m 39 #[.val (.long y0_0), .second, .val (.long y1_0), .second, .val (.long y2_0), .second, .val (.long y3_0), .second, .val (.int x4_0), .val (.int x5_0), .val (.long y0_0), .second, .val (.long y3_0), .second, .val (.int (x4_0 &&& (3 : Int32))), .unset, .unset, .unset, .unset, .unset, .unset, .unset, .unset] [(.int (4 : Int32)), (.int x5_0)]))
      refine own_step (fun t k => XS.iand X0.here hx rfl (hb hby at_39) rfl k) ?_
      show own_Ends p.tables e below s _ _ _ (s₁.setTop (mkF m 40 #[.val (.long y0_0), .second, .val (.long y1_0), .second, .val (.long y2_0), .second, .val (.long y3_0), .second, .val (.int x4_0), .val (.int x5_0), .val (.long y0_0), .second, .val (.long y3_0), .second, .val (.int (x4_0 &&& (3 : Int32))), .unset, .unset, .unset, .unset, .unset, .unset, .unset, .unset] [(.int (x5_0 &&& (4 : Int32)))]))
      by_cases hc40_135 : (x5_0 &&& (4 : Int32)) = (0 : Int32)
      · skip
        refine own_step (fun t k => XS.ifYes X0.here hx rfl (pc0 := 40) (pc' := 48) rfl (hb hby at_40) rfl ((if0 _ _).trans (teq hc40_135).1) (by decide) (by decide) k) ?_
        show own_Ends p.tables e below s _ _ _ (s₁.setTop (mkF m 48 #[.val (.long y0_0), .second, .val (.long y1_0), .second, .val (.long y2_0), .second, .val (.long y3_0), .second, .val (.int x4_0), .val (.int x5_0), .val (.long y0_0), .second, .val (.long y3_0), .second, .val (.int (x4_0 &&& (3 : Int32))), .unset, .unset, .unset, .unset, .unset, .unset, .unset, .unset] []))
        refine own_step (fun t k => XS.iload X0.here hx rfl (hb hby at_48) rfl k) ?_
        show own_Ends p.tables e below s _ _ _ (s₁.setTop (mkF m 50 #[.val (.long y0_0), .second, .val (.long y1_0), .second, .val (.long y2_0), .second, .val (.long y3_0), .second, .val (.int x4_0), .val (.int x5_0), .val (.long y0_0), .second, .val (.long y3_0), .second, .val (.int (x4_0 &&& (3 : Int32))), .unset, .unset, .unset, .unset, .unset, .unset, .unset, .unset] [(.int x4_0)]))
        refine own_step (fun t k => XS.iconst X0.here hx rfl (hb hby at_50) k) ?_
        show own_Ends p.tables e below s _ _ _ (s₁.setTop (mkF m 51 #[.val (.long y0_0), .second, .val (.long y1_0), .second, .val (.long y2_0), .second, .val (.long y3_0), .second, .val (.int x4_0), .val (.int x5_0), .val (.long y0_0), .second, .val (.long y3_0), .second, .val (.int (x4_0 &&& (3 : Int32))), .unset, .unset, .unset, .unset, .unset, .unset, .unset, .unset] [(.int (2 : Int32)), (.int x4_0)]))
        refine own_step (fun t k => XS.iushr X0.here hx rfl (hb hby at_51) rfl k) ?_
        show own_Ends p.tables e below s _ _ _ (s₁.setTop (mkF m 52 #[.val (.long y0_0), .second, .val (.long y1_0), .second, .val (.long y2_0), .second, .val (.long y3_0), .second, .val (.int x4_0), .val (.int x5_0), .val (.long y0_0), .second, .val (.long y3_0), .second, .val (.int (x4_0 &&& (3 : Int32))), .unset, .unset, .unset, .unset, .unset, .unset, .unset, .unset] [(.int ((x4_0.toUInt32 >>> ((2 : Int32) &&& 31).toUInt32).toInt32))]))
        refine own_step (fun t k => XS.iconst X0.here hx rfl (hb hby at_52) k) ?_
        show own_Ends p.tables e below s _ _ _ (s₁.setTop (mkF m 53 #[.val (.long y0_0), .second, .val (.long y1_0), .second, .val (.long y2_0), .second, .val (.long y3_0), .second, .val (.int x4_0), .val (.int x5_0), .val (.long y0_0), .second, .val (.long y3_0), .second, .val (.int (x4_0 &&& (3 : Int32))), .unset, .unset, .unset, .unset, .unset, .unset, .unset, .unset] [(.int (3 : Int32)), (.int ((x4_0.toUInt32 >>> ((2 : Int32) &&& 31).toUInt32).toInt32))]))
        refine own_step (fun t k => XS.iand X0.here hx rfl (hb hby at_53) rfl k) ?_
        show own_Ends p.tables e below s _ _ _ (s₁.setTop (mkF m 54 #[.val (.long y0_0), .second, .val (.long y1_0), .second, .val (.long y2_0), .second, .val (.long y3_0), .second, .val (.int x4_0), .val (.int x5_0), .val (.long y0_0), .second, .val (.long y3_0), .second, .val (.int (x4_0 &&& (3 : Int32))), .unset, .unset, .unset, .unset, .unset, .unset, .unset, .unset] [(.int (((x4_0.toUInt32 >>> ((2 : Int32) &&& 31).toUInt32).toInt32) &&& (3 : Int32)))]))
        refine own_step (fun t k => XS.istore X0.here hx rfl (hb hby at_54) rfl (l' := #[.val (.long y0_0), .second, .val (.long y1_0), .second, .val (.long y2_0), .second, .val (.long y3_0), .second, .val (.int x4_0), .val (.int x5_0), .val (.long y0_0), .second, .val (.long y3_0), .second, .val (.int (x4_0 &&& (3 : Int32))), .val (.int (((x4_0.toUInt32 >>> ((2 : Int32) &&& 31).toUInt32).toInt32) &&& (3 : Int32))), .unset, .unset, .unset, .unset, .unset, .unset, .unset]) rfl k) ?_
        show own_Ends p.tables e below s _ _ _ (s₁.setTop (mkF m 56 #[.val (.long y0_0), .second, .val (.long y1_0), .second, .val (.long y2_0), .second, .val (.long y3_0), .second, .val (.int x4_0), .val (.int x5_0), .val (.long y0_0), .second, .val (.long y3_0), .second, .val (.int (x4_0 &&& (3 : Int32))), .val (.int (((x4_0.toUInt32 >>> ((2 : Int32) &&& 31).toUInt32).toInt32) &&& (3 : Int32))), .unset, .unset, .unset, .unset, .unset, .unset, .unset] []))
        exact tail56 y0_0 y3_0 (x4_0 &&& (3 : Int32)) (((x4_0.toUInt32 >>> ((2 : Int32) &&& 31).toUInt32).toInt32) &&& (3 : Int32)) (own_m3 _) (own_m3 _)
      · skip
        refine own_step (fun t k => XS.ifNo X0.here hx rfl (hb hby at_40) rfl ((if0 _ _).trans (feq hc40_135).1) k) ?_
        show own_Ends p.tables e below s _ _ _ (s₁.setTop (mkF m 43 #[.val (.long y0_0), .second, .val (.long y1_0), .second, .val (.long y2_0), .second, .val (.long y3_0), .second, .val (.int x4_0), .val (.int x5_0), .val (.long y0_0), .second, .val (.long y3_0), .second, .val (.int (x4_0 &&& (3 : Int32))), .unset, .unset, .unset, .unset, .unset, .unset, .unset, .unset] []))
        refine own_step (fun t k => XS.iload X0.here hx rfl (hb hby at_43) rfl k) ?_
        show own_Ends p.tables e below s _ _ _ (s₁.setTop (mkF m 45 #[.val (.long y0_0), .second, .val (.long y1_0), .second, .val (.long y2_0), .second, .val (.long y3_0), .second, .val (.int x4_0), .val (.int x5_0), .val (.long y0_0), .second, .val (.long y3_0), .second, .val (.int (x4_0 &&& (3 : Int32))), .unset, .unset, .unset, .unset, .unset, .unset, .unset, .unset] [(.int (x4_0 &&& (3 : Int32)))]))
        refine own_step (fun t k => XS.goto X0.here hx rfl (pc0 := 45) (pc' := 54) rfl (hb hby at_45) (by decide) (by decide) k) ?_
        show own_Ends p.tables e below s _ _ _ (s₁.setTop (mkF m 54 #[.val (.long y0_0), .second, .val (.long y1_0), .second, .val (.long y2_0), .second, .val (.long y3_0), .second, .val (.int x4_0), .val (.int x5_0), .val (.long y0_0), .second, .val (.long y3_0), .second, .val (.int (x4_0 &&& (3 : Int32))), .unset, .unset, .unset, .unset, .unset, .unset, .unset, .unset] [(.int (x4_0 &&& (3 : Int32)))]))
        refine own_step (fun t k => XS.istore X0.here hx rfl (hb hby at_54) rfl (l' := #[.val (.long y0_0), .second, .val (.long y1_0), .second, .val (.long y2_0), .second, .val (.long y3_0), .second, .val (.int x4_0), .val (.int x5_0), .val (.long y0_0), .second, .val (.long y3_0), .second, .val (.int (x4_0 &&& (3 : Int32))), .val (.int (x4_0 &&& (3 : Int32))), .unset, .unset, .unset, .unset, .unset, .unset, .unset]) rfl k) ?_
        show own_Ends p.tables e below s _ _ _ (s₁.setTop (mkF m 56 #[.val (.long y0_0), .second, .val (.long y1_0), .second, .val (.long y2_0), .second, .val (.long y3_0), .second, .val (.int x4_0), .val (.int x5_0), .val (.long y0_0), .second, .val (.long y3_0), .second, .val (.int (x4_0 &&& (3 : Int32))), .val (.int (x4_0 &&& (3 : Int32))), .unset, .unset, .unset, .unset, .unset, .unset, .unset] []))
        exact tail56 y0_0 y3_0 (x4_0 &&& (3 : Int32)) (x4_0 &&& (3 : Int32)) (own_m3 _) (own_m3 _)
    · skip
      refine own_step (fun t k => XS.ifNo X0.here hx rfl (hb hby at_19) rfl ((if0 _ _).trans (feq hc19_134).1) k) ?_
      show own_Ends p.tables e below s _ _ _ (s₁.setTop (mkF m 22 #[.val (.long y0_0), .second, .val (.long y1_0), .second, .val (.long y2_0), .second, .val (.long y3_0), .second, .val (.int x4_0), .val (.int x5_0), .val (.long y0_0), .second, .unset, .unset, .unset, .unset, .unset, .unset, .unset, .unset, .unset, .unset, .unset] []))
      refine own_step (fun t k => XS.lloadN X0.here hx rfl (hb hby at_22) rfl k) ?_
      show own_Ends p.tables e below s _ _ _ (s₁.setTop (mkF m 23 #[.val (.long y0_0), .second, .val (.long y1_0), .second, .val (.long y2_0), .second, .val (.long y3_0), .second, .val (.int x4_0), .val (.int x5_0), .val (.long y0_0), .second, .unset, .unset, .unset, .unset, .unset, .unset, .unset, .unset, .unset, .unset, .unset] [(.long y1_0)]))
      refine own_step (fun t k => XS.goto X0.here hx rfl (pc0 := 23) (pc' := 28) rfl (hb hby at_23) (by decide) (by decide) k) ?_
      show own_Ends p.tables e below s _ _ _ (s₁.setTop (mkF m 28 #[.val (.long y0_0), .second, .val (.long y1_0), .second, .val (.long y2_0), .second, .val (.long y3_0), .second, .val (.int x4_0), .val (.int x5_0), .val (.long y0_0), .second, .unset, .unset, .unset, .unset, .unset, .unset, .unset, .unset, .unset, .unset, .unset] [(.long y1_0)]))
      refine own_step (fun t k => XS.lstore X0.here hx rfl (hb hby at_28) rfl (l' := #[.val (.long y0_0), .second, .val (.long y1_0), .second, .val (.long y2_0), .second, .val (.long y3_0), .second, .val (.int x4_0), .val (.int x5_0), .val (.long y0_0), .second, .val (.long y1_0), .second, .unset, .unset, .unset, .unset, .unset, .unset, .unset, .unset, .unset]) rfl k) ?_
      show own_Ends p.tables e below s _ _ _ (s₁.setTop (mkF m 30 #[.val (.long y0_0), .second, .val (.long y1_0), .second, .val (.long y2_0), .second, .val (.long y3_0), .second, .val (.int x4_0), .val (.int x5_0), .val (.long y0_0), .second, .val (.long y1_0), .second, .unset, .unset, .unset, .unset, .unset, .unset, .unset, .unset, .unset] []))
      refine own_step (fun t k => XS.iload X0.here hx rfl (hb hby at_30) rfl k) ?_
      show own_Ends p.tables e below s _ _ _ (s₁.setTop (mkF m 32 #[.val (.long y0_0), .second, .val (.long y1_0), .second, .val (.long y2_0), .second, .val (.long y3_0), .second, .val (.int x4_0), .val (.int x5_0), .val (.long y0_0), .second, .val (.long y1_0), .second, .unset, .unset, .unset, .unset, .unset, .unset, .unset, .unset, .unset] [(.int x4_0)]))
      refine own_step (fun t k => XS.iconst X0.here hx rfl (hb hby at_32) k) ?_
      show own_Ends p.tables e below s _ _ _ (s₁.setTop (mkF m 33 #[.val (.long y0_0), .second, .val (.long y1_0), .second, .val (.long y2_0), .second, .val (.long y3_0), .second, .val (.int x4_0), .val (.int x5_0), .val (.long y0_0), .second, .val (.long y1_0), .second, .unset, .unset, .unset, .unset, .unset, .unset, .unset, .unset, .unset] [(.int (3 : Int32)), (.int x4_0)]))
      refine own_step (fun t k => XS.iand X0.here hx rfl (hb hby at_33) rfl k) ?_
      show own_Ends p.tables e below s _ _ _ (s₁.setTop (mkF m 34 #[.val (.long y0_0), .second, .val (.long y1_0), .second, .val (.long y2_0), .second, .val (.long y3_0), .second, .val (.int x4_0), .val (.int x5_0), .val (.long y0_0), .second, .val (.long y1_0), .second, .unset, .unset, .unset, .unset, .unset, .unset, .unset, .unset, .unset] [(.int (x4_0 &&& (3 : Int32)))]))
      refine own_step (fun t k => XS.istore X0.here hx rfl (hb hby at_34) rfl (l' := #[.val (.long y0_0), .second, .val (.long y1_0), .second, .val (.long y2_0), .second, .val (.long y3_0), .second, .val (.int x4_0), .val (.int x5_0), .val (.long y0_0), .second, .val (.long y1_0), .second, .val (.int (x4_0 &&& (3 : Int32))), .unset, .unset, .unset, .unset, .unset, .unset, .unset, .unset]) rfl k) ?_
      show own_Ends p.tables e below s _ _ _ (s₁.setTop (mkF m 36 #[.val (.long y0_0), .second, .val (.long y1_0), .second, .val (.long y2_0), .second, .val (.long y3_0), .second, .val (.int x4_0), .val (.int x5_0), .val (.long y0_0), .second, .val (.long y1_0), .second, .val (.int (x4_0 &&& (3 : Int32))), .unset, .unset, .unset, .unset, .unset, .unset, .unset, .unset] []))
      refine own_step (fun t k => XS.iload X0.here hx rfl (hb hby at_36) rfl k) ?_
      show own_Ends p.tables e below s _ _ _ (s₁.setTop (mkF m 38 #[.val (.long y0_0), .second, .val (.long y1_0), .second, .val (.long y2_0), .second, .val (.long y3_0), .second, .val (.int x4_0), .val (.int x5_0), .val (.long y0_0), .second, .val (.long y1_0), .second, .val (.int (x4_0 &&& (3 : Int32))), .unset, .unset, .unset, .unset, .unset, .unset, .unset, .unset] [(.int x5_0)]))
      refine own_step (fun t k => XS.iconst X0.here hx rfl (hb hby at_38) k) ?_
      show own_Ends p.tables e below s _ _ _ (s₁.setTop (mkF m 39 #[.val (.long y0_0), .second, .val (.long y1_0), .second, .val (.long y2_0), .second, .val (.long y3_0), .second, .val (.int x4_0), .val (.int x5_0), .val (.long y0_0), .second, .val (.long y1_0), .second, .val (.int (x4_0 &&& (3 : Int32))), .unset, .unset, .unset, .unset, .unset, .unset, .unset, .unset] [(.int (4 : Int32)), (.int x5_0)]))
      refine own_step (fun t k => XS.iand X0.here hx rfl (hb hby at_39) rfl k) ?_
      show own_Ends p.tables e below s _ _ _ (s₁.setTop (mkF m 40 #[.val (.long y0_0), .second, .val (.long y1_0), .second, .val (.long y2_0), .second, .val (.long y3_0), .second, .val (.int x4_0), .val (.int x5_0), .val (.long y0_0), .second, .val (.long y1_0), .second, .val (.int (x4_0 &&& (3 : Int32))), .unset, .unset, .unset, .unset, .unset, .unset, .unset, .unset] [(.int (x5_0 &&& (4 : Int32)))]))
      by_cases hc40_136 : (x5_0 &&& (4 : Int32)) = (0 : Int32)
      · skip
        refine own_step (fun t k => XS.ifYes X0.here hx rfl (pc0 := 40) (pc' := 48) rfl (hb hby at_40) rfl ((if0 _ _).trans (teq hc40_136).1) (by decide) (by decide) k) ?_
        show own_Ends p.tables e below s _ _ _ (s₁.setTop (mkF m 48 #[.val (.long y0_0), .second, .val (.long y1_0), .second, .val (.long y2_0), .second, .val (.long y3_0), .second, .val (.int x4_0), .val (.int x5_0), .val (.long y0_0), .second, .val (.long y1_0), .second, .val (.int (x4_0 &&& (3 : Int32))), .unset, .unset, .unset, .unset, .unset, .unset, .unset, .unset] []))
        refine own_step (fun t k => XS.iload X0.here hx rfl (hb hby at_48) rfl k) ?_
        show own_Ends p.tables e below s _ _ _ (s₁.setTop (mkF m 50 #[.val (.long y0_0), .second, .val (.long y1_0), .second, .val (.long y2_0), .second, .val (.long y3_0), .second, .val (.int x4_0), .val (.int x5_0), .val (.long y0_0), .second, .val (.long y1_0), .second, .val (.int (x4_0 &&& (3 : Int32))), .unset, .unset, .unset, .unset, .unset, .unset, .unset, .unset] [(.int x4_0)]))
        refine own_step (fun t k => XS.iconst X0.here hx rfl (hb hby at_50) k) ?_
        show own_Ends p.tables e below s _ _ _ (s₁.setTop (mkF m 51 #[.val (.long y0_0), .second, .val (.long y1_0), .second, .val (.long y2_0), .second, .val (.long y3_0), .second, .val (.int x4_0), .val (.int x5_0), .val (.long y0_0), .second, .val (.long y1_0), .second, .val (.int (x4_0 &&& (3 : Int32))), .unset, .unset, .unset, .unset, .unset, .unset, .unset, .unset] [(.int (2 : Int32)), (.int x4_0)]))
        refine own_step (fun t k => XS.iushr X0.here hx rfl (hb hby at_51) rfl k) ?_
        show own_Ends p.tables e below s _ _ _ (s₁.setTop (mkF m 52 #[.val (.long y0_0), .second, .val (.long y1_0), .second, .val (.long y2_0), .second, .val (.long y3_0), .second, .val (.int x4_0), .val (.int x5_0), .val (.long y0_0), .second, .val (.long y1_0), .second, .val (.int (x4_0 &&& (3 : Int32))), .unset, .unset, .unset, .unset, .unset, .unset, .unset, .unset] [(.int ((x4_0.toUInt32 >>> ((2 : Int32) &&& 31).toUInt32).toInt32))]))
        refine own_step (fun t k => XS.iconst X0.here hx rfl (hb hby at_52) k) ?_
        show own_Ends p.tables e below s _ _ _ (s₁.setTop (mkF m 53 #[.val (.long y0_0), .second, .val (.long y1_0), .second, .val (.long y2_0), .second, .val (.long y3_0), .second, .val (.int x4_0), .val (.int x5_0), .val (.long y0_0), .second, .val (.long y1_0), .second, .val (.int (x4_0 &&& (3 : Int32))), .unset, .unset, .unset, .unset, .unset, .unset, .unset, .unset] [(.int (3 : Int32)), (.int ((x4_0.toUInt32 >>> ((2 : Int32) &&& 31).toUInt32).toInt32))]))
        refine own_step (fun t k => XS.iand X0.here hx rfl (hb hby at_53) rfl k) ?_
        show own_Ends p.tables e below s _ _ _ (s₁.setTop (mkF m 54 #[.val (.long y0_0), .second, .val (.long y1_0), .second, .val (.long y2_0), .second, .val (.long y3_0), .second, .val (.int x4_0), .val (.int x5_0), .val (.long y0_0), .second, .val (.long y1_0), .second, .val (.int (x4_0 &&& (3 : Int32))), .unset, .unset, .unset, .unset, .unset, .unset, .unset, .unset] [(.int (((x4_0.toUInt32 >>> ((2 : Int32) &&& 31).toUInt32).toInt32) &&& (3 : Int32)))]))
        refine own_step (fun t k => XS.istore X0.here hx rfl (hb hby at_54) rfl (l' := #[.val (.long y0_0), .second, .val (.long y1_0), .second, .val (.long y2_0), .second, .val (.long y3_0), .second, .val (.int x4_0), .val (.int x5_0), .val (.long y0_0), .second, .val (.long y1_0), .second, .val (.int (x4_0 &&& (3 : Int32))), .val (.int (((x4_0.toUInt32 >>> ((2 : Int32) &&& 31).toUInt32).toInt32) &&& (3 : Int32))), .unset, .unset, .unset, .unset, .unset, .unset, .unset]) rfl k) ?_
        show own_Ends p.tables e below s _ _ _ (s₁.setTop (mkF m 56 #[.val (.long y0_0), .second, .val (.long y1_0), .second, .val (.long y2_0), .second, .val (.long y3_0), .second, .val (.int x4_0), .val (.int x5_0), .val (.long y0_0), .second, .val (.long y1_0), .second, .val (.int (x4_0 &&& (3 : Int32))), .val (.int (((x4_0.toUInt32 >>> ((2 : Int32) &&& 31).toUInt32).toInt32) &&& (3 : Int32))), .unset, .unset, .unset, .unset, .unset, .unset, .unset] []))
        exact tail56 y0_0 y1_0 (x4_0 &&& (3 : Int32)) (((x4_0.toUInt32 >>> ((2 : Int32) &&& 31).toUInt32).toInt32) &&& (3 : Int32)) (own_m3 _) (own_m3 _)
      · skip
        refine own_step (fun t k => XS.ifNo X0.here hx rfl (hb hby at_40) rfl ((if0 _ _).trans (feq hc40_136).1) k) ?_
        show own_Ends p.tables e below s _ _ _ (s₁.setTop (mkF m 43 #[.val (.long y0_0), .second, .val (.long y1_0), .second, .val (.long y2_0), .second, .val (.long y3_0), .second, .val (.int x4_0), .val (.int x5_0), .val (.long y0_0), .second, .val (.long y1_0), .second, .val (.int (x4_0 &&& (3 : Int32))), .unset, .unset, .unset, .unset, .unset, .unset, .unset, .unset] []))
        refine own_step (fun t k => XS.iload X0.here hx rfl (hb hby at_43) rfl k) ?_
        show own_Ends p.tables e below s _ _ _ (s₁.setTop (mkF m 45 #[.val (.long y0_0), .second, .val (.long y1_0), .second, .val (.long y2_0), .second, .val (.long y3_0), .second, .val (.int x4_0), .val (.int x5_0), .val (.long y0_0), .second, .val (.long y1_0), .second, .val (.int (x4_0 &&& (3 : Int32))), .unset, .unset, .unset, .unset, .unset, .unset, .unset, .unset] [(.int (x4_0 &&& (3 : Int32)))]))
        refine own_step (fun t k => XS.goto X0.here hx rfl (pc0 := 45) (pc' := 54) rfl (hb hby at_45) (by decide) (by decide) k) ?_
        show own_Ends p.tables e below s _ _ _ (s₁.setTop (mkF m 54 #[.val (.long y0_0), .second, .val (.long y1_0), .second, .val (.long y2_0), .second, .val (.long y3_0), .second, .val (.int x4_0), .val (.int x5_0), .val (.long y0_0), .second, .val (.long y1_0), .second, .val (.int (x4_0 &&& (3 : Int32))), .unset, .unset, .unset, .unset, .unset, .unset, .unset, .unset] [(.int (x4_0 &&& (3 : Int32)))]))
        refine own_step (fun t k => XS.istore X0.here hx rfl (hb hby at_54) rfl (l' := #[.val (.long y0_0), .second, .val (.long y1_0), .second, .val (.long y2_0), .second, .val (.long y3_0), .second, .val (.int x4_0), .val (.int x5_0), .val (.long y0_0), .second, .val (.long y1_0), .second, .val (.int (x4_0 &&& (3 : Int32))), .val (.int (x4_0 &&& (3 : Int32))), .unset, .unset, .unset, .unset, .unset, .unset, .unset]) rfl k) ?_
        show own_Ends p.tables e below s _ _ _ (s₁.setTop (mkF m 56 #[.val (.long y0_0), .second, .val (.long y1_0), .second, .val (.long y2_0), .second, .val (.long y3_0), .second, .val (.int x4_0), .val (.int x5_0), .val (.long y0_0), .second, .val (.long y1_0), .second, .val (.int (x4_0 &&& (3 : Int32))), .val (.int (x4_0 &&& (3 : Int32))), .unset, .unset, .unset, .unset, .unset, .unset, .unset] []))
        exact tail56 y0_0 y1_0 (x4_0 &&& (3 : Int32)) (x4_0 &&& (3 : Int32)) (own_m3 _) (own_m3 _)
set_option maxRecDepth 65536 in
set_option maxHeartbeats 40000000 in
theorem comes_1 {Post : Tables → Env → Array Value → State → Outcome → State → Prop} (hpost : ∀ tb e args s v u, (limb_1_1.after args s (.returned v) u = true ∧ limb_1_2.after args s (.returned v) u = true ∧ True) → FrameEnd s (.returned v) u (Jvm.fieldLocs frame_1_writes args s ++ Jvm.arrayLocs frame_1_arrays args s ++ Jvm.staticLocs frame_1_statics s) 16 128 → Post tb e args s (.returned v) u) :
    ArmFor flags0 classFile x code maxLocals ret World_1 tables_1 room_1 Calls_1 rest_1 Pre_1 Post := by
  intro l hfl _ _ p e ha hc hk s m args below hf hA hF happ hP
  obtain ⟨hcalls, hrest, hpre⟩ := hP
  obtain ⟨-, -, -, hnamed, -, -, -, hat⟩ := (Spec.applies_iff hf).mp happ
  obtain ⟨hg, hn⟩ := and_e (Cond.before_iff.mp (show (Jvm.Cond.and given_1 narrow_1).before args s = true from hpre))
  obtain ⟨hh1a, hh1b⟩ := and_e hg
  obtain ⟨hh2a, hh2b⟩ := and_e hh1b
  obtain ⟨hh3a, hh3b⟩ := and_e hh2b
  obtain ⟨hh4a, hh4b⟩ := and_e hh3b
  obtain ⟨hh5a, hh5b⟩ := and_e hh4b
  obtain ⟨hh6a, hh6b⟩ := and_e hh5b
  obtain ⟨hh7a, hh7b⟩ := and_e hn
  obtain ⟨hh8a, hh8b⟩ := and_e hh7b
  obtain ⟨hh9a, hh9b⟩ := and_e hh8b
  obtain ⟨hh10a, hh10b⟩ := and_e hh9b
  obtain ⟨hh11a, hh11b⟩ := and_e hh10b
  obtain ⟨hh12a, hh12b⟩ := and_e hh11b
  obtain ⟨hh13a, hh13b⟩ := and_e hh12b
  obtain ⟨w0, w1, w2, w3, w4, w5, rfl⟩ : ∃ w0 w1 w2 w3 w4 w5 : Value, args = #[w0, w1, w2, w3, w4, w5] := by
    have hs : args.size = 6 := by simpa [Cond.value, given_1] using hh1a
    obtain ⟨L⟩ := args
    match L, hs with
    | [w0, w1, w2, w3, w4, w5], _ => exact ⟨w0, w1, w2, w3, w4, w5, rfl⟩
  have hw := fun d (hd : d ∈ tables_1) => atoms_spec (ws := Jvm.Cond.code x code maxLocals ret :: tables_1) hat d (List.mem_cons_of_mem _ hd)
  have hfit : Fit s := fun {y c} hc i hi => by
    obtain ⟨ha, rfl⟩ := Array.getElem?_eq_some_iff.mp hc
    have q := List.all_eq_true.mp ((Array.all_eq_true_iff_forall_mem.mp hF) _ (Array.getElem_mem ha)) i (List.mem_range.mpr hi)
    simpa [Array.getElem?_eq_getElem hi] using q
  obtain ⟨i0, ei0⟩ := isL_v hh2a
  obtain rfl : w0 = (.long i0) := Option.some.inj ei0
  obtain ⟨i1, ei1⟩ := isL_v hh3a
  obtain rfl : w1 = (.long i1) := Option.some.inj ei1
  obtain ⟨i2, ei2⟩ := isL_v hh4a
  obtain rfl : w2 = (.long i2) := Option.some.inj ei2
  obtain ⟨i3, ei3⟩ := isL_v hh5a
  obtain rfl : w3 = (.long i3) := Option.some.inj ei3
  obtain ⟨i4, ei4⟩ := is_v hh6a
  obtain rfl : w4 = (.int i4) := Option.some.inj ei4
  obtain ⟨i5, ei5⟩ := is_v hh6b
  obtain rfl : w5 = (.int i5) := Option.some.inj ei5
  obtain ⟨w_W, ev_W⟩ := exa_v hh7a
  have S_W : Sta s s.heap "com/example/swanhall/swanhall/core/Side" "W" "Lcom/example/swanhall/swanhall/core/Side;" (.ref w_W) := Sta.start ev_W (Or.inr ⟨(hw _ (List.mem_of_getElem? (i := 26) rfl)), (hw _ (List.mem_of_getElem? (i := 27) rfl))⟩)
  have E_w_W : Exa s s.heap w_W "com/example/swanhall/swanhall/core/Side" := Exa.start ev_W hh7a
  obtain ⟨w_N, ev_N⟩ := exa_v hh8a
  have S_N : Sta s s.heap "com/example/swanhall/swanhall/core/Side" "N" "Lcom/example/swanhall/swanhall/core/Side;" (.ref w_N) := Sta.start ev_N (Or.inr ⟨(hw _ (List.mem_of_getElem? (i := 26) rfl)), (hw _ (List.mem_of_getElem? (i := 37) rfl))⟩)
  have E_w_N : Exa s s.heap w_N "com/example/swanhall/swanhall/core/Side" := Exa.start ev_N hh8a
  obtain ⟨w_E, ev_E⟩ := exa_v hh11a
  have S_E : Sta s s.heap "com/example/swanhall/swanhall/core/Side" "E" "Lcom/example/swanhall/swanhall/core/Side;" (.ref w_E) := Sta.start ev_E (Or.inr ⟨(hw _ (List.mem_of_getElem? (i := 26) rfl)), (hw _ (List.mem_of_getElem? (i := 56) rfl))⟩)
  have E_w_E : Exa s s.heap w_E "com/example/swanhall/swanhall/core/Side" := Exa.start ev_E hh11a
  obtain ⟨w_S, ev_S⟩ := exa_v hh13a
  have S_S : Sta s s.heap "com/example/swanhall/swanhall/core/Side" "S" "Lcom/example/swanhall/swanhall/core/Side;" (.ref w_S) := Sta.start ev_S (Or.inr ⟨(hw _ (List.mem_of_getElem? (i := 26) rfl)), (hw _ (List.mem_of_getElem? (i := 58) rfl))⟩)
  have E_w_S : Exa s s.heap w_S "com/example/swanhall/swanhall/core/Side" := Exa.start ev_S hh13a
  have F_ordinal_w_N : Fld s s.heap w_N "java/lang/Enum" "ordinal" "I" (.int (0 : Int32)) := own_fld ev_N hh9a
  have F_ordinal_w_W : Fld s s.heap w_W "java/lang/Enum" "ordinal" "I" (.int (3 : Int32)) := own_fld ev_W hh10a
  have F_ordinal_w_E : Fld s s.heap w_E "java/lang/Enum" "ordinal" "I" (.int (1 : Int32)) := own_fld ev_E hh12a
  have F_ordinal_w_S : Fld s s.heap w_S "java/lang/Enum" "ordinal" "I" (.int (2 : Int32)) := own_fld ev_S hh13b
  obtain ⟨n, o, h1, h2, h3, _, L, rfl, ⟨rfl, N⟩, hq⟩ := rm0 l s _ hw tables_1 w_N w_E w_S w_W i0 i1 i2 i3 i4 i5 s.heap s.heap.size (Old.start s) (Fld.ne F_ordinal_w_N F_ordinal_w_E (by decide)) (Fld.ne F_ordinal_w_N F_ordinal_w_S (by decide)) (Fld.ne F_ordinal_w_N F_ordinal_w_W (by decide)) (Fld.ne F_ordinal_w_E F_ordinal_w_S (by decide)) (Fld.ne F_ordinal_w_E F_ordinal_w_W (by decide)) (Fld.ne F_ordinal_w_S F_ordinal_w_W (by decide)) S_N S_E S_S S_W p e ha hc hk s m _ below hf ((Spec.applies_iff_loose hf).mp happ).1 ⟨rfl, State.Warmed39.refl s, rfl⟩ trivial
  refine ⟨n, _, h1, h2, h3, hpost _ _ _ _ _ _ ⟨Cond.after_iff.mpr rfl, Cond.after_iff.mpr (eq_i res_at (Term.int_eval (1)) rfl), trivial⟩ ⟨hq.1, hq.2.1, (hq.2.2.sift fun y hy => Or.inr (N y hy)).mono (by decide) (by decide)⟩⟩
theorem main_1_1 : Claimed_1_1 := comes_1 fun _ _ _ _ _ _ h hF => ⟨h.1, hF⟩
theorem main_1_2 : Claimed_1_2 := comes_1 fun _ _ _ _ _ _ h hF => ⟨h.2.1, hF⟩
end Jvm.Pilot.@@N@@
namespace Jvm.Pilot.@@N@@
open Jvm Jvm.ClassFile Sem Op Lib Jvm.Free Jvm.Stand Jvm.Pilot.@@N@@.Jvm.D
/-! MADE BY PROGRAM (witnessworld.py) out of the Statement's table words and the real class files: 15 classes; the members and pool entries that the words name. The judged class is class 1, her method 2. -/
namespace start1
open Jvm.ClassFile
def u (s : String) : CpInfo := .utf8 (stringToUtf16 s)
/-- a pool by its gaps: so many unusable entries, then the entry; so many at the end -/
def gap : Nat → List CpInfo → List CpInfo
  | 0, r => r
  | n + 1, r => .unusable :: gap n r
def poolList (es : List (Nat × CpInfo)) (last : Nat) : List CpInfo := es.foldr (fun e r => gap e.1 (e.2 :: r)) (gap last [])
def pool (es : List (Nat × CpInfo)) (last : Nat) : Array CpInfo := ⟨poolList es last⟩
def fileOf (pool : Array CpInfo) (this : Nat) (attrs : Array Attribute := #[]) (ms : Array MethodInfo := #[]) (fl : Nat := 33) (sup : Nat := 0) (ifs : Array Nat := #[]) (fds : Array FieldInfo := #[]) : ClassFile where
  minorVersion := 0
  majorVersion := 65
  constantPool := pool
  accessFlags := fl
  thisClass := this
  superClass := sup
  interfaces := ifs
  fields := fds
  methods := ms
  attributes := attrs
def plain (name : String) (sup : Option ClassId) : Class where
  name := name
  kind := .ordinary
  loader := none
  accessFlags := 33
  super := sup
  interfaces := #[]
  cf := none
  fields := #[]
  methods := #[]
  instanceTypes := #[]
  staticTypes := #[]
  resolved := #[]
  callSites := []
  init := .initialized
  statics := none
  mirror := none

def pool0 : Array CpInfo := pool [(5, u "<init>"), (0, u "()V"), (1, .class_ 10), (1, u "java/lang/Object")] 113

def k0c0 : Code := { maxStack := 0, maxLocals := 1, code := object_method_1_code, exceptionTable := #[], attributes := #[] }
def k0m0 : Method := { name := "<init>", desc := "()V", sig := { parameters := [], returnType := none }, accessFlags := 1, code := some k0c0 }
/-- java/lang/Object -/
def k0 : Class := { plain "java/lang/Object" none with
  accessFlags := 33
  interfaces := #[]
  cf := some (fileOf pool0 8 #[] #[{ accessFlags := 1, nameIndex := 5, descriptorIndex := 6, attributes := #[] }] 33 0 #[] #[])
  fields := #[]
  methods := #[k0m0]
  instanceTypes := #[]
  staticTypes := #[]
  resolved := Array.replicate 124 none
  statics := none }

def pool1 : Array CpInfo := pool [(2, .class_ 4), (1, u "java/lang/Object"), (0, u "<init>"), (0, u "()V"), (0, .fieldref 8 9), (0, .class_ 10), (0, .nameAndType 11 12), (0, u "com/example/swanhall/swanhall/core/Side"), (0, u "N"), (0, u "Lcom/example/swanhall/swanhall/core/Side;"), (0, .fieldref 8 14), (0, .nameAndType 15 12), (0, u "E"), (0, .fieldref 8 17), (0, .nameAndType 18 12), (0, u "S"), (0, .fieldref 8 20), (0, .nameAndType 21 12), (0, u "W"), (0, .class_ 23), (0, u "com/example/swanhall/swanhall/core/Cell"), (0, .methodref 22 25), (0, .nameAndType 5 26), (0, u "(JJ)V"), (0, .class_ 28), (0, u "com/example/swanhall/swanhall/core/Edge"), (0, .methodref 30 31), (0, .class_ 32), (0, .nameAndType 33 34), (0, u "com/example/swanhall/swanhall/core/EdgeEqualsPinLaw"), (0, u "side"), (0, u "(I)Lcom/example/swanhall/swanhall/core/Side;"), (0, .methodref 27 36), (0, .nameAndType 5 37), (0, u "(Lcom/example/swanhall/swanhall/core/Cell;Lcom/example/swanhall/swanhall/core/Side;)V"), (0, .methodref 27 39), (0, .nameAndType 40 41), (0, u "equals"), (0, u "(Ljava/lang/Object;)Z"), (3, u "law"), (0, u "(JJJJII)Z")] 2

def k1m0 : Method := { name := "<init>", desc := "()V", sig := { parameters := [], returnType := none }, accessFlags := 1, code := none }
def k1c1 : Code := { maxStack := 2, maxLocals := 1, code := method_2_code, exceptionTable := #[], attributes := #[] }
def k1m1 : Method := { name := "side", desc := "(I)Lcom/example/swanhall/swanhall/core/Side;", sig := { parameters := [.int], returnType := some (.object "com/example/swanhall/swanhall/core/Side") }, accessFlags := 10, code := some k1c1 }
def k1c2 : Code := { maxStack := 6, maxLocals := 23, code := code, exceptionTable := #[], attributes := #[] }
def k1m2 : Method := { name := "law", desc := "(JJJJII)Z", sig := { parameters := [.long, .long, .long, .long, .int, .int], returnType := some .boolean }, accessFlags := 9, code := some k1c2 }
/-- com/example/swanhall/swanhall/core/EdgeEqualsPinLaw -/
def k1 : Class := { plain "com/example/swanhall/swanhall/core/EdgeEqualsPinLaw" (some 0) with
  accessFlags := 49
  interfaces := #[]
  cf := some (fileOf pool1 30 #[] #[{ accessFlags := 1, nameIndex := 5, descriptorIndex := 6, attributes := #[] }, { accessFlags := 10, nameIndex := 33, descriptorIndex := 34, attributes := #[] }, { accessFlags := 9, nameIndex := 45, descriptorIndex := 46, attributes := #[] }] 49 2 #[] #[])
  fields := #[]
  methods := #[k1m0, k1m1, k1m2]
  instanceTypes := #[]
  staticTypes := #[]
  resolved := Array.replicate 49 none
  statics := none }

def pool2 : Array CpInfo := pool [(1, .methodref 2 3), (0, .class_ 4), (0, .nameAndType 5 6), (0, u "java/lang/Object"), (0, u "<init>"), (0, u "()V"), (0, .class_ 8), (0, u "java/lang/Record")] 13

def k2c0 : Code := { maxStack := 1, maxLocals := 1, code := jdk_30_method_1_code, exceptionTable := #[], attributes := #[] }
def k2m0 : Method := { name := "<init>", desc := "()V", sig := { parameters := [], returnType := none }, accessFlags := 4, code := some k2c0 }
/-- java/lang/Record -/
def k2 : Class := { plain "java/lang/Record" (some 0) with
  accessFlags := 1057
  interfaces := #[]
  cf := some (fileOf pool2 7 #[] #[{ accessFlags := 4, nameIndex := 5, descriptorIndex := 6, attributes := #[] }] 1057 2 #[] #[])
  fields := #[]
  methods := #[k2m0]
  instanceTypes := #[]
  staticTypes := #[]
  resolved := Array.replicate 22 none
  statics := none }

def pool3 : Array CpInfo := pool [(1, .methodref 2 3), (0, .class_ 4), (0, .nameAndType 5 6), (0, u "java/lang/Record"), (0, u "<init>"), (0, u "()V"), (0, .fieldref 8 9), (0, .class_ 10), (0, .nameAndType 11 12), (0, u "com/example/swanhall/swanhall/core/Cell"), (0, u "x"), (0, u "J"), (0, .fieldref 8 14), (0, .nameAndType 15 12), (0, u "y"), (11, u "(JJ)V"), (29, u "equals"), (0, u "(Ljava/lang/Object;)Z")] 31

def k3c0 : Code := { maxStack := 3, maxLocals := 5, code := prog_29_method_1_code, exceptionTable := #[], attributes := #[] }
def k3m0 : Method := { name := "<init>", desc := "(JJ)V", sig := { parameters := [.long, .long], returnType := none }, accessFlags := 1, code := some k3c0 }
def k3c1 : Code := { maxStack := 4, maxLocals := 3, code := prog_29_method_5_code, exceptionTable := #[], attributes := #[] }
def k3m1 : Method := { name := "equals", desc := "(Ljava/lang/Object;)Z", sig := { parameters := [(.object "java/lang/Object")], returnType := some .boolean }, accessFlags := 1, code := some k3c1 }
/-- com/example/swanhall/swanhall/core/Cell -/
def k3 : Class := { plain "com/example/swanhall/swanhall/core/Cell" (some 2) with
  accessFlags := 49
  interfaces := #[]
  cf := some (fileOf pool3 8 #[] #[{ accessFlags := 1, nameIndex := 5, descriptorIndex := 27, attributes := #[] }, { accessFlags := 1, nameIndex := 57, descriptorIndex := 58, attributes := #[] }] 49 2 #[] #[{ accessFlags := 18, nameIndex := 11, descriptorIndex := 12, attributes := #[] }, { accessFlags := 18, nameIndex := 15, descriptorIndex := 12, attributes := #[] }])
  fields := #[{ name := "x", type := .long, accessFlags := 18, slot := 0, constantValue := 0 }, { name := "y", type := .long, accessFlags := 18, slot := 1, constantValue := 0 }]
  methods := #[k3m0, k3m1]
  instanceTypes := #[.long, .long]
  staticTypes := #[]
  resolved := Array.replicate 90 none
  statics := none }

def pool4 : Array CpInfo := pool [(1, .methodref 2 3), (0, .class_ 4), (0, .nameAndType 5 6), (0, u "java/lang/Record"), (0, u "<init>"), (0, u "()V"), (0, .fieldref 8 9), (0, .class_ 10), (0, .nameAndType 11 12), (0, u "com/example/swanhall/swanhall/core/Edge"), (0, u "cell"), (0, u "Lcom/example/swanhall/swanhall/core/Cell;"), (0, .fieldref 8 14), (0, .nameAndType 15 16), (0, u "side"), (0, u "Lcom/example/swanhall/swanhall/core/Side;"), (1, .class_ 20), (1, u "com/example/swanhall/swanhall/core/Cell"), (10, u "(Lcom/example/swanhall/swanhall/core/Cell;Lcom/example/swanhall/swanhall/core/Side;)V"), (0, .methodref 18 33), (0, .nameAndType 34 35), (0, u "equals"), (0, u "(Ljava/lang/Object;)Z")] 40

def k4c0 : Code := { maxStack := 2, maxLocals := 3, code := prog_32_method_1_code, exceptionTable := #[], attributes := #[] }
def k4m0 : Method := { name := "<init>", desc := "(Lcom/example/swanhall/swanhall/core/Cell;Lcom/example/swanhall/swanhall/core/Side;)V", sig := { parameters := [(.object "com/example/swanhall/swanhall/core/Cell"), (.object "com/example/swanhall/swanhall/core/Side")], returnType := none }, accessFlags := 1, code := some k4c0 }
def k4c1 : Code := { maxStack := 2, maxLocals := 3, code := prog_32_method_3_code, exceptionTable := #[], attributes := #[] }
def k4m1 : Method := { name := "equals", desc := "(Ljava/lang/Object;)Z", sig := { parameters := [(.object "java/lang/Object")], returnType := some .boolean }, accessFlags := 1, code := some k4c1 }
/-- com/example/swanhall/swanhall/core/Edge -/
def k4 : Class := { plain "com/example/swanhall/swanhall/core/Edge" (some 2) with
  accessFlags := 49
  interfaces := #[]
  cf := some (fileOf pool4 8 #[] #[{ accessFlags := 1, nameIndex := 5, descriptorIndex := 31, attributes := #[] }, { accessFlags := 1, nameIndex := 34, descriptorIndex := 35, attributes := #[] }] 49 2 #[] #[{ accessFlags := 18, nameIndex := 11, descriptorIndex := 12, attributes := #[] }, { accessFlags := 18, nameIndex := 15, descriptorIndex := 16, attributes := #[] }])
  fields := #[{ name := "cell", type := (.object "com/example/swanhall/swanhall/core/Cell"), accessFlags := 18, slot := 0, constantValue := 0 }, { name := "side", type := (.object "com/example/swanhall/swanhall/core/Side"), accessFlags := 18, slot := 1, constantValue := 0 }]
  methods := #[k4m0, k4m1]
  instanceTypes := #[(.object "com/example/swanhall/swanhall/core/Cell"), (.object "com/example/swanhall/swanhall/core/Side")]
  staticTypes := #[]
  resolved := Array.replicate 76 none
  statics := none }

def pool5 : Array CpInfo := pool [(1, .class_ 2), (0, u "java/lang/constant/Constable"), (0, .class_ 4), (0, u "java/lang/Object")] 6

/-- java/lang/constant/Constable -/
def k5 : Class := { plain "java/lang/constant/Constable" (some 0) with
  accessFlags := 1537
  interfaces := #[]
  cf := some (fileOf pool5 1 #[] #[] 1537 3 #[] #[])
  fields := #[]
  methods := #[]
  instanceTypes := #[]
  staticTypes := #[]
  resolved := Array.replicate 11 none
  statics := none }

def pool6 : Array CpInfo := pool [(1, .class_ 2), (0, u "java/lang/Comparable"), (0, .class_ 4), (0, u "java/lang/Object")] 7

/-- java/lang/Comparable -/
def k6 : Class := { plain "java/lang/Comparable" (some 0) with
  accessFlags := 1537
  interfaces := #[]
  cf := some (fileOf pool6 1 #[] #[] 1537 3 #[] #[])
  fields := #[]
  methods := #[]
  instanceTypes := #[]
  staticTypes := #[]
  resolved := Array.replicate 12 none
  statics := none }

def pool7 : Array CpInfo := pool [(1, .class_ 2), (0, u "java/io/Serializable"), (0, .class_ 4), (0, u "java/lang/Object")] 2

/-- java/io/Serializable -/
def k7 : Class := { plain "java/io/Serializable" (some 0) with
  accessFlags := 1537
  interfaces := #[]
  cf := some (fileOf pool7 1 #[] #[] 1537 3 #[] #[])
  fields := #[]
  methods := #[]
  instanceTypes := #[]
  staticTypes := #[]
  resolved := Array.replicate 7 none
  statics := none }

def pool8 : Array CpInfo := pool [(2, .class_ 4), (1, u "java/lang/Enum"), (0, u "name"), (0, u "Ljava/lang/String;"), (2, u "ordinal"), (0, u "I"), (1, .class_ 14), (1, u "java/lang/Object"), (4, u "hash"), (86, .class_ 108), (1, u "java/lang/Enum$EnumDesc"), (2, .class_ 112), (0, u "java/lang/constant/Constable"), (0, .class_ 114), (0, u "java/lang/Comparable"), (0, .class_ 116), (0, u "java/io/Serializable")] 87

/-- java/lang/Enum -/
def k8 : Class := { plain "java/lang/Enum" (some 0) with
  accessFlags := 1057
  interfaces := #[5, 6, 7]
  cf := some (fileOf pool8 2 #[.nestMembers #[106]] #[] 1057 12 #[111, 113, 115] #[{ accessFlags := 18, nameIndex := 5, descriptorIndex := 6, attributes := #[] }, { accessFlags := 18, nameIndex := 9, descriptorIndex := 10, attributes := #[] }, { accessFlags := 2, nameIndex := 19, descriptorIndex := 10, attributes := #[] }])
  fields := #[{ name := "name", type := (.object "java/lang/String"), accessFlags := 18, slot := 0, constantValue := 0 }, { name := "ordinal", type := .int, accessFlags := 18, slot := 1, constantValue := 0 }, { name := "hash", type := .int, accessFlags := 2, slot := 2, constantValue := 0 }]
  methods := #[]
  instanceTypes := #[(.object "java/lang/String"), .int, .int]
  staticTypes := #[]
  resolved := Array.replicate 204 none
  statics := none }

def pool9 : Array CpInfo := pool [(1, .class_ 2), (0, u "com/example/swanhall/swanhall/core/Side"), (2, u "N"), (0, u "Lcom/example/swanhall/swanhall/core/Side;"), (2, u "E"), (2, u "S"), (2, u "W"), (2, u "$VALUES"), (0, u "[Lcom/example/swanhall/swanhall/core/Side;"), (6, .class_ 28), (1, u "java/lang/Enum"), (8, u "dx"), (0, u "I"), (2, u "dy"), (2, u "CLOCKWISE")] 41

/-- com/example/swanhall/swanhall/core/Side -/
def k9 : Class := { plain "com/example/swanhall/swanhall/core/Side" (some 8) with
  accessFlags := 16433
  interfaces := #[]
  cf := some (fileOf pool9 1 #[] #[] 16433 26 #[] #[{ accessFlags := 16409, nameIndex := 5, descriptorIndex := 6, attributes := #[] }, { accessFlags := 16409, nameIndex := 9, descriptorIndex := 6, attributes := #[] }, { accessFlags := 16409, nameIndex := 12, descriptorIndex := 6, attributes := #[] }, { accessFlags := 16409, nameIndex := 15, descriptorIndex := 6, attributes := #[] }, { accessFlags := 26, nameIndex := 44, descriptorIndex := 19, attributes := #[] }, { accessFlags := 18, nameIndex := 37, descriptorIndex := 38, attributes := #[] }, { accessFlags := 18, nameIndex := 41, descriptorIndex := 38, attributes := #[] }, { accessFlags := 4122, nameIndex := 18, descriptorIndex := 19, attributes := #[] }])
  fields := #[{ name := "N", type := (.object "com/example/swanhall/swanhall/core/Side"), accessFlags := 16409, slot := 0, constantValue := 0 }, { name := "E", type := (.object "com/example/swanhall/swanhall/core/Side"), accessFlags := 16409, slot := 1, constantValue := 0 }, { name := "S", type := (.object "com/example/swanhall/swanhall/core/Side"), accessFlags := 16409, slot := 2, constantValue := 0 }, { name := "W", type := (.object "com/example/swanhall/swanhall/core/Side"), accessFlags := 16409, slot := 3, constantValue := 0 }, { name := "CLOCKWISE", type := (.array (.object "com/example/swanhall/swanhall/core/Side")), accessFlags := 26, slot := 4, constantValue := 0 }, { name := "dx", type := .int, accessFlags := 18, slot := 3, constantValue := 0 }, { name := "dy", type := .int, accessFlags := 18, slot := 4, constantValue := 0 }, { name := "$VALUES", type := (.array (.object "com/example/swanhall/swanhall/core/Side")), accessFlags := 4122, slot := 5, constantValue := 0 }]
  methods := #[]
  instanceTypes := #[(.object "java/lang/String"), .int, .int, .int, .int]
  staticTypes := #[(.object "com/example/swanhall/swanhall/core/Side"), (.object "com/example/swanhall/swanhall/core/Side"), (.object "com/example/swanhall/swanhall/core/Side"), (.object "com/example/swanhall/swanhall/core/Side"), (.array (.object "com/example/swanhall/swanhall/core/Side")), (.array (.object "com/example/swanhall/swanhall/core/Side"))]
  resolved := Array.replicate 86 none
  statics := some 0 }

def pool10 : Array CpInfo := pool [(1, u "java/lang/Cloneable"), (0, .class_ 1), (0, u "java/lang/Object"), (0, .class_ 3)] 3

/-- java/lang/Cloneable -/
def k10 : Class := { plain "java/lang/Cloneable" (some 0) with
  accessFlags := 1537
  interfaces := #[]
  cf := some (fileOf pool10 2 #[] #[] 1537 4 #[] #[])
  fields := #[]
  methods := #[]
  instanceTypes := #[]
  staticTypes := #[]
  resolved := Array.replicate 8 none
  statics := none }

/-- the primitive byte -/
def k11 : Class := { plain "byte" none with kind := .primitive 'B', accessFlags := 0x411 }
/-- [B -/
def k12 : Class := { plain "[B" (some 0) with kind := .array 11 .byte, interfaces := #[10, 7], accessFlags := 1041 }

/-- the primitive int -/
def k13 : Class := { plain "int" none with kind := .primitive 'I', accessFlags := 0x411 }
/-- [I -/
def k14 : Class := { plain "[I" (some 0) with kind := .array 13 .int, interfaces := #[10, 7], accessFlags := 1041 }

def heap : Heap := #[{ cls := 9, slots := #[.ref 1, .ref 2, .ref 3, .ref 4, .null, .null], vm := .statics 9 },
  { cls := 9, slots := #[.null, .int 0, .int 0, .int 0, .int 0], vm := .none },
  { cls := 9, slots := #[.null, .int 1, .int 0, .int 0, .int 0], vm := .none },
  { cls := 9, slots := #[.null, .int 2, .int 0, .int 0, .int 0], vm := .none },
  { cls := 9, slots := #[.null, .int 3, .int 0, .int 0, .int 0], vm := .none }]
def classes : Array Class := #[k0, k1, k2, k3, k4, k5, k6, k7, k8, k9, k10, k11, k12, k13, k14]
def interned : List (Array UInt16 × Addr) := []
def slotsUsed : Nat := 26
def theMethod : MethodId := ⟨1, 2⟩
def args0 : Array Value := #[.long 5, .long 5, .long 5, .long 5, .int 5, .int 5]
def aboutOver (below : List Frame) : State where
  vm := { classes := classes, interned := interned.toArray }
  heap := heap
  slotsUsed := slotsUsed
  threads := #[{ frames := .invoking theMethod args0 :: below }]
def below0 : List Frame := [.native { method := ⟨0, 0⟩, args := #[] }]
def about1 : State := aboutOver below0
def p0 : Program := .bare "" "" ""
def e0 : Env := launch0.env 0 0 0
theorem w_frames : about1.frames = Frame.invoking theMethod args0 :: below0 := rfl
set_option maxRecDepth 65536 in
theorem w_args : argsFit about1.vm theMethod args0 = true := by decide +kernel
set_option maxRecDepth 65536 in
theorem w_heap : heapFits about1 = true := by decide +kernel
set_option maxRecDepth 65536 in
theorem w_runnable : about1.curStatus? = some .runnable := by decide +kernel
set_option maxRecDepth 65536 in
theorem w_alone : about1.alone = true := by decide +kernel
set_option maxRecDepth 65536 in
theorem w_named : about1.methodNamed? x = some theMethod := by decide +kernel
set_option maxRecDepth 65536 in
theorem w_hears : about1.hears theMethod below0 = true := by decide +kernel
set_option maxRecDepth 65536 in
theorem w_ripe : about1.ripe theMethod args0 below0 = true := by decide +kernel
theorem w_running : about1.status = .running := rfl
set_option maxRecDepth 65536 in
theorem w_room : about1.hasRoom e0.platform room_1 = true :=
  launch0.hasRoom_least _ room_1 (by decide +kernel) (by decide +kernel) (by decide +kernel) (by decide +kernel) (by decide +kernel) (by decide +kernel)
theorem allAtoms_all (ts : List Jvm.Cond) (a : Array Jvm.Value) (st : Jvm.State) : (allAtoms ts).before a st = ts.all (fun c => c.before a st) := by
  induction ts with
  | nil => rfl
  | cons c t ih =>
    show (Jvm.Cond.and c (allAtoms t)).before a st = _
    rw [Jvm.Cond.before_and, ih, List.all_cons]
def words1 : List Jvm.Cond := Jvm.Cond.code x code maxLocals ret :: tables_1
/-- a 'code' word, met by the world's own term for the bytes: nothing is compared byte by byte -/
theorem code_word {y : MethodName} {bytes : ByteArray} {mx : Nat} {rt : Option FieldType} {a : Array Value} {s : State} {m : MethodId} {meth : Method} {c : Code} (h1 : s.methodNamed? y = some m) (h2 : s.vm.method? m = some meth) (h3 : meth.code = some c) (h4 : c.code = bytes)
    (h5 : (c.maxLocals == mx && c.exceptionTable.isEmpty && decide (c.maxStack ≤ mostOperands) && decide (meth.sig.returnType = rt) && !meth.locks && decide (parseMethodDescriptor y.desc = some meth.sig)) = true) : (Jvm.Cond.code y bytes mx rt).before a s = true := by
  simp only [Bool.and_eq_true, beq_iff_eq, Bool.not_eq_true', decide_eq_true_eq] at h5
  obtain ⟨⟨⟨⟨⟨g1, g2⟩, g3⟩, g4⟩, g5⟩, g6⟩ := h5
  simp [Cond.before, Cond.holds, Cond.value, h1, h2, h3, h4, g1, g2, g3, g4, g5, g6]
def isCode : Jvm.Cond → Bool
  | .code _ _ _ _ => true
  | _ => false
theorem all_split {L : List Jvm.Cond} {P : Jvm.Cond → Bool} (h1 : L.all (fun c => isCode c || P c) = true) (h2 : ∀ c ∈ L.filter isCode, P c = true) : L.all P = true := by
  refine List.all_eq_true.mpr fun c hc => ?_
  have h := List.all_eq_true.mp h1 c hc
  rcases Bool.eq_false_or_eq_true (isCode c) with hi | hi
  · exact h2 c (List.mem_filter.mpr ⟨hc, hi⟩)
  · simpa [hi] using h
set_option maxRecDepth 65536 in
theorem w_c0 : (Jvm.Cond.code x code maxLocals ret).before args0 about1 = true := code_word (m := ⟨1, 2⟩) (meth := k1m2) (c := k1c2) (by decide +kernel) rfl rfl rfl (by decide +kernel)
set_option maxRecDepth 65536 in
theorem w_c1 : (Jvm.Cond.code ({ cls := "com/example/swanhall/swanhall/core/Cell", name := "<init>", desc := "(JJ)V" } : Jvm.MethodName) prog_29_method_1_code (5 : Nat) (Option.none : Option Jvm.ClassFile.FieldType)).before args0 about1 = true := code_word (m := ⟨3, 0⟩) (meth := k3m0) (c := k3c0) (by decide +kernel) rfl rfl rfl (by decide +kernel)
set_option maxRecDepth 65536 in
theorem w_c2 : (Jvm.Cond.code ({ cls := "java/lang/Record", name := "<init>", desc := "()V" } : Jvm.MethodName) jdk_30_method_1_code (1 : Nat) (Option.none : Option Jvm.ClassFile.FieldType)).before args0 about1 = true := code_word (m := ⟨2, 0⟩) (meth := k2m0) (c := k2c0) (by decide +kernel) rfl rfl rfl (by decide +kernel)
set_option maxRecDepth 65536 in
theorem w_c3 : (Jvm.Cond.code ({ cls := "java/lang/Object", name := "<init>", desc := "()V" } : Jvm.MethodName) object_method_1_code (1 : Nat) (Option.none : Option Jvm.ClassFile.FieldType)).before args0 about1 = true := code_word (m := ⟨0, 0⟩) (meth := k0m0) (c := k0c0) (by decide +kernel) rfl rfl rfl (by decide +kernel)
set_option maxRecDepth 65536 in
theorem w_c4 : (Jvm.Cond.code ({ cls := "com/example/swanhall/swanhall/core/EdgeEqualsPinLaw", name := "side", desc := "(I)Lcom/example/swanhall/swanhall/core/Side;" } : Jvm.MethodName) method_2_code (1 : Nat) (Option.some (Jvm.ClassFile.FieldType.object "com/example/swanhall/swanhall/core/Side"))).before args0 about1 = true := code_word (m := ⟨1, 1⟩) (meth := k1m1) (c := k1c1) (by decide +kernel) rfl rfl rfl (by decide +kernel)
set_option maxRecDepth 65536 in
theorem w_c5 : (Jvm.Cond.code ({ cls := "com/example/swanhall/swanhall/core/Edge", name := "<init>", desc := "(Lcom/example/swanhall/swanhall/core/Cell;Lcom/example/swanhall/swanhall/core/Side;)V" } : Jvm.MethodName) prog_32_method_1_code (3 : Nat) (Option.none : Option Jvm.ClassFile.FieldType)).before args0 about1 = true := code_word (m := ⟨4, 0⟩) (meth := k4m0) (c := k4c0) (by decide +kernel) rfl rfl rfl (by decide +kernel)
set_option maxRecDepth 65536 in
theorem w_c6 : (Jvm.Cond.code ({ cls := "com/example/swanhall/swanhall/core/Edge", name := "equals", desc := "(Ljava/lang/Object;)Z" } : Jvm.MethodName) prog_32_method_3_code (3 : Nat) (Option.some Jvm.ClassFile.FieldType.boolean)).before args0 about1 = true := code_word (m := ⟨4, 1⟩) (meth := k4m1) (c := k4c1) (by decide +kernel) rfl rfl rfl (by decide +kernel)
set_option maxRecDepth 65536 in
theorem w_c7 : (Jvm.Cond.code ({ cls := "com/example/swanhall/swanhall/core/Cell", name := "equals", desc := "(Ljava/lang/Object;)Z" } : Jvm.MethodName) prog_29_method_5_code (3 : Nat) (Option.some Jvm.ClassFile.FieldType.boolean)).before args0 about1 = true := code_word (m := ⟨3, 1⟩) (meth := k3m1) (c := k3c1) (by decide +kernel) rfl rfl rfl (by decide +kernel)
def codes1 : List Jvm.Cond := [Jvm.Cond.code x code maxLocals ret, Jvm.Cond.code ({ cls := "com/example/swanhall/swanhall/core/Cell", name := "<init>", desc := "(JJ)V" } : Jvm.MethodName) prog_29_method_1_code (5 : Nat) (Option.none : Option Jvm.ClassFile.FieldType), Jvm.Cond.code ({ cls := "java/lang/Record", name := "<init>", desc := "()V" } : Jvm.MethodName) jdk_30_method_1_code (1 : Nat) (Option.none : Option Jvm.ClassFile.FieldType), Jvm.Cond.code ({ cls := "java/lang/Object", name := "<init>", desc := "()V" } : Jvm.MethodName) object_method_1_code (1 : Nat) (Option.none : Option Jvm.ClassFile.FieldType), Jvm.Cond.code ({ cls := "com/example/swanhall/swanhall/core/EdgeEqualsPinLaw", name := "side", desc := "(I)Lcom/example/swanhall/swanhall/core/Side;" } : Jvm.MethodName) method_2_code (1 : Nat) (Option.some (Jvm.ClassFile.FieldType.object "com/example/swanhall/swanhall/core/Side")), Jvm.Cond.code ({ cls := "com/example/swanhall/swanhall/core/Edge", name := "<init>", desc := "(Lcom/example/swanhall/swanhall/core/Cell;Lcom/example/swanhall/swanhall/core/Side;)V" } : Jvm.MethodName) prog_32_method_1_code (3 : Nat) (Option.none : Option Jvm.ClassFile.FieldType), Jvm.Cond.code ({ cls := "com/example/swanhall/swanhall/core/Edge", name := "equals", desc := "(Ljava/lang/Object;)Z" } : Jvm.MethodName) prog_32_method_3_code (3 : Nat) (Option.some Jvm.ClassFile.FieldType.boolean), Jvm.Cond.code ({ cls := "com/example/swanhall/swanhall/core/Cell", name := "equals", desc := "(Ljava/lang/Object;)Z" } : Jvm.MethodName) prog_29_method_5_code (3 : Nat) (Option.some Jvm.ClassFile.FieldType.boolean)]
set_option maxRecDepth 65536 in
theorem codes_eq : words1.filter isCode = codes1 := rfl
theorem w_codes : ∀ c ∈ words1.filter isCode, c.before args0 about1 = true := by
  rw [codes_eq]
  intro c hc
  simp only [codes1, List.mem_cons, List.not_mem_nil, or_false] at hc
  rcases hc with rfl | rfl | rfl | rfl | rfl | rfl | rfl | rfl
  · exact w_c0
  · exact w_c1
  · exact w_c2
  · exact w_c3
  · exact w_c4
  · exact w_c5
  · exact w_c6
  · exact w_c7
set_option maxRecDepth 65536 in
theorem w_t1 : (words1.take 24).all (fun c => isCode c || c.before args0 about1) = true := by decide +kernel
set_option maxRecDepth 65536 in
theorem w_t2 : ((words1.drop 24).take 24).all (fun c => isCode c || c.before args0 about1) = true := by decide +kernel
set_option maxRecDepth 65536 in
theorem w_t3 : ((words1.drop 24).drop 24).all (fun c => isCode c || c.before args0 about1) = true := by decide +kernel
theorem w_tables : (allAtoms (Jvm.Cond.code x code maxLocals ret :: tables_1)).before args0 about1 = true := by
  rw [allAtoms_all]
  show words1.all (fun c => c.before args0 about1) = true
  refine all_split ?_ w_codes
  rw [← List.take_append_drop 24 words1, List.all_append, w_t1, ← List.take_append_drop 24 (words1.drop 24), List.all_append, w_t2, w_t3]
  rfl
set_option maxRecDepth 65536 in
theorem w_case : (Jvm.Cond.and given_1 narrow_1).before args0 about1 = true := by decide +kernel
theorem w_applies : (headSpec (Jvm.Cond.code x code maxLocals ret :: tables_1) room_1).applies x e0.platform about1 = true :=
  (Spec.applies_iff w_frames).mpr ⟨w_running, w_runnable, w_alone, w_named, w_hears, w_ripe, w_room, w_tables⟩
theorem atStart : AtStart classFile x code maxLocals ret World_1 tables_1 room_1 Calls_1 rest_1 Pre_1 launch0 p0 e0 about1 theMethod args0 below0 :=
  ⟨lists_1, trivial, launch0.admits_env _ _ _, launch0.least_env, fairChoices_fair.cas, fairChoices_fair.clock, w_frames, w_args, w_heap, w_applies, trivial, trivial, w_case⟩
end start1
theorem witness_1 : WitnessClaimed_1 := ⟨start1.p0, start1.e0, start1.about1, start1.theMethod, start1.args0, start1.below0, start1.atStart⟩
end Jvm.Pilot.@@N@@
