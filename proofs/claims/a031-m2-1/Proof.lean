import JvmDerived
import JvmDerived.Pilot.@@N@@Statement
import JvmDerived.Pilot.@@N@@Code
set_option linter.unusedVariables false
set_option linter.unusedSimpArgs false
namespace Jvm.Pilot.@@N@@
open Jvm Jvm.ClassFile Sem Op Lib Jvm.Free Jvm.Stand Jvm.LawKit Jvm.RoadKit Bundle Jvm.Pilot.@@N@@.Jvm.D
/-- from the state st the run ends, of which Q says what it leaves -/
def own_Ends (tb : Tables) (e : Env) (below : List Frame) (s : State) (Q : Option Value → Heap → List Loc → Prop) (C S : Nat) (st : State) : Prop :=
  ∃ t o, Steps tb e below st t ∧ t.status = .running ∧ Ended t below o ∧ ∃ v L, o = .returned v ∧ Q v t.heap L ∧ FrameEnd s o t L C S
theorem own_step {tb : Tables} {e : Env} {below : List Frame} {s : State} {Q : Option Value → Heap → List Loc → Prop} {C S : Nat} {st st' : State}
    (h : ∀ t, Steps tb e below st' t → Steps tb e below st t) (k : own_Ends tb e below s Q C S st') : own_Ends tb e below s Q C S st := by
  obtain ⟨t, o, h1, h2⟩ := k
  exact ⟨t, o, h t h1, h2⟩
section OwnRet
variable {p : Program} {l : Launch} {e : Env} {R : Room} {s : State} {m : MethodId} {args : Array Value} {below : List Frame} {meth : Method} {c : Code} {T : State} {locs : List Loc} {cells slots : Nat} {Q : Option Value → Heap → List Loc → Prop} {C S : Nat} {pc : Nat} {Ls : Array Slot} {rest : List Value}
theorem own_retW (X : Stand p l e R s m args below meth c T locs cells slots) (hx : p.tables.exec = Jvm.exec) {w : Value} {t : FieldType} {i : Instr} (hret : meth.sig.returnType = some t) (hn : narrow t w = w)
    (hi : (i = .ireturn ∧ (t = .int ∨ t = .boolean ∨ t = .byte ∨ t = .char ∨ t = .short) ∧ ∃ z, w = .int z) ∨ (i = .lreturn ∧ t = .long ∧ ∃ z, w = .long z) ∨ (i = .dreturn ∧ t = .double ∧ ∃ z, w = .double z) ∨ (i = .freturn ∧ t = .float ∧ ∃ z, w = .float z) ∨ (i = .areturn ∧ t.isReference = true ∧ w.isRef = true))
    (hd : decode c.code pc = .ok (i, 1)) (hlocks : meth.locks = false) (hq : Q (some w) T.heap locs) (hc : cells ≤ C) (hs : slots ≤ S) :
    own_Ends p.tables e below s Q C S (T.setTop (mkF m pc Ls (w :: rest))) := by
  obtain ⟨fs, hr, hrun, hended, hW, hsame⟩ := X.leave (v := some w) (fun h => by rw [hret] at h; cases h) hlocks
  exact ⟨_, _, retOut X hx hret hn hi hd hr, hrun, hended, _, _, rfl, hq, ⟨_, rfl⟩, hW, hsame.mono hc hs⟩
theorem own_retI (X : Stand p l e R s m args below meth c T locs cells slots) (hx : p.tables.exec = Jvm.exec) {z : Int32} (hret : meth.sig.returnType = some .int)
    (hd : decode c.code pc = .ok (.ireturn, 1)) (hlocks : meth.locks = false) (hq : Q (some (.int z)) T.heap locs) (hc : cells ≤ C) (hs : slots ≤ S) :
    own_Ends p.tables e below s Q C S (T.setTop (mkF m pc Ls (.int z :: rest))) :=
  own_retW X hx hret rfl (Or.inl ⟨rfl, Or.inl rfl, z, rfl⟩) hd hlocks hq hc hs
theorem own_retJ (X : Stand p l e R s m args below meth c T locs cells slots) (hx : p.tables.exec = Jvm.exec) {z : Int64} (hret : meth.sig.returnType = some .long)
    (hd : decode c.code pc = .ok (.lreturn, 1)) (hlocks : meth.locks = false) (hq : Q (some (.long z)) T.heap locs) (hc : cells ≤ C) (hs : slots ≤ S) :
    own_Ends p.tables e below s Q C S (T.setTop (mkF m pc Ls (.long z :: rest))) :=
  own_retW X hx hret rfl (Or.inr (Or.inl ⟨rfl, rfl, z, rfl⟩)) hd hlocks hq hc hs
theorem own_retR (X : Stand p l e R s m args below meth c T locs cells slots) (hx : p.tables.exec = Jvm.exec) {w : Value} {t : FieldType} (hret : meth.sig.returnType = some t) (ht : t.isReference = true) (hw : w.isRef = true) (hn : narrow t w = w)
    (hd : decode c.code pc = .ok (.areturn, 1)) (hlocks : meth.locks = false) (hq : Q (some w) T.heap locs) (hc : cells ≤ C) (hs : slots ≤ S) :
    own_Ends p.tables e below s Q C S (T.setTop (mkF m pc Ls (w :: rest))) :=
  own_retW X hx hret hn (Or.inr (Or.inr (Or.inr (Or.inr ⟨rfl, ht, hw⟩)))) hd hlocks hq hc hs
theorem own_retN (X : Stand p l e R s m args below meth c T locs cells slots) (hx : p.tables.exec = Jvm.exec) {z : Int32} {t : FieldType} (hret : meth.sig.returnType = some t) (ht : t = .boolean ∨ t = .byte ∨ t = .char ∨ t = .short)
    (hd : decode c.code pc = .ok (.ireturn, 1)) (hlocks : meth.locks = false) (hq : Q (some (.int (nar t z))) T.heap locs) (hc : cells ≤ C) (hs : slots ≤ S) :
    own_Ends p.tables e below s Q C S (T.setTop (mkF m pc Ls (.int z :: rest))) := by
  obtain ⟨fs, hr, hrun, hended, hW, hsame⟩ := X.leave (v := some (.int (nar t z))) (fun h => by rw [hret] at h; cases h) hlocks
  exact ⟨_, _, retN X hx hret ht hd hr, hrun, hended, _, _, rfl, hq, ⟨_, rfl⟩, hW, hsame.mono hc hs⟩
theorem own_ret0 (X : Stand p l e R s m args below meth c T locs cells slots) (hx : p.tables.exec = Jvm.exec) (hret : meth.sig.returnType = none)
    (hd : decode c.code pc = .ok (.return_, 1)) (hlocks : meth.locks = false) (hq : Q none T.heap locs) (hc : cells ≤ C) (hs : slots ≤ S) :
    own_Ends p.tables e below s Q C S (T.setTop (mkF m pc Ls [])) := by
  obtain ⟨fs, hr, hrun, hended, hW, hsame⟩ := X.leave (v := none) (fun _ => rfl) hlocks
  exact ⟨_, _, X.returnOut hx hret hd hr, hrun, hended, _, _, rfl, hq, ⟨_, rfl⟩, hW, hsame.mono hc hs⟩
end OwnRet
theorem own_idx (b n : Int32) (hn : 0 < n.toInt) : ¬ ((b &&& 2147483647) % n) < 0 ∧ ((b &&& 2147483647) % n) < n := by
  have h1 := c_and b 2147483647 (by decide)
  have h2 := (c_iremV (b &&& 2147483647) n).1 h1.1 hn
  constructor
  · rw [Int32.lt_iff_toInt_lt]; show ¬ _ < (0 : Int); omega
  · rw [Int32.lt_iff_toInt_lt]; omega
theorem own_small (v : Int32) (k : Nat) (hk : k < 2147483648) (h1 : ¬ v < 0) (h2 : v < Int32.ofNat k) : ∃ n : Fin k, v = Int32.ofNat n.1 := by
  rw [Int32.lt_iff_toInt_lt] at h1 h2
  rw [Int32.toInt_ofNat_of_lt hk] at h2
  have a : 0 ≤ v.toInt := by simpa using h1
  refine ⟨⟨v.toInt.toNat, by omega⟩, ?_⟩
  apply Int32.toInt_inj.mp
  rw [Int32.toInt_ofNat_of_lt (by show v.toInt.toNat < _; omega)]
  show v.toInt = ((v.toInt.toNat : Nat) : Int)
  omega
theorem own_fld {s : State} {args : Array Value} {t : Term} {a : Addr} {C n d : String} {k : Int32} (ev : t.eval args s none [] s = some (.ref a)) (h : (Jvm.Cond.eq (.field t C n d) (.int k)).value args s none s [] = some true) : Fld s s.heap a C n d (.int k) := by
  obtain ⟨x, y, h1, h2, h3, h4⟩ := cmp_v (Or.inl h)
  rw [fld_at ev] at h1
  have h5 : y = .int k := by have := h2.symm.trans (Term.int_eval k); exact Option.some.inj this
  subst h5
  obtain ⟨z, rfl⟩ := h4
  have q : (Jvm.Cond.eq (.field t C n d) (.int k)).value args s none s [] = some (decide (z = k)) := Cond.eq_ints ((fld_at ev).trans h1) (Term.int_eval k)
  have : z = k := gotT q h
  subst this
  exact Fld.start h1
theorem d1_0 : decode prog_10_method_9_code 0 = .ok (.aload_n 0, 1) := by decide +kernel
theorem d1_1 : decode prog_10_method_9_code 1 = .ok (.getfield 40, 3) := by decide +kernel
theorem d1_4 : decode prog_10_method_9_code 4 = .ok (.ifnull 7, 3) := by decide +kernel
theorem d1_7 : decode prog_10_method_9_code 7 = .ok (.iconst 1, 1) := by decide +kernel
theorem d1_8 : decode prog_10_method_9_code 8 = .ok (.goto 4, 3) := by decide +kernel
theorem d1_12 : decode prog_10_method_9_code 12 = .ok (.ireturn, 1) := by decide +kernel
theorem pn_0 : plainName "com/example/navigable_rest/navigablerest/Operation" = true := by first | (simp [plainName, overriddenIn]; done) | decide +kernel
theorem ef_1 (m : MethodId) (o0_1 : Addr) : entryFrame m #[(.ref o0_1)] 1 = mkF m 0 #[.val (.ref o0_1)] [] := by first | (simp [entryFrame, mkF, argsToLocals, Value.category]; done) | rfl
def Q1 (Z : State) (o0_1 : Addr) (w_acceptField_o0_1 : Addr) (h0 : Heap) (n0 : Nat) (v : Option Value) (h : Heap) (L : List Loc) : Prop := v = some (.int (1 : Int32)) ∧ Fr n0 L ∧ h = h0
set_option maxRecDepth 65536 in
set_option maxHeartbeats 40000000 in
theorem rm1 (l : Launch) (Z : State) (a0 : Array Value) (hw : ∀ d ∈ tables_1, d.before a0 Z = true) (ws : List Jvm.Cond) (o0_1 : Addr) (w_acceptField_o0_1 : Addr) (h0 : Heap) (n0 : Nat) (O0 : Old Z n0 h0) (F_acceptField_o0_1 : Fld Z h0 o0_1 "com/example/navigable_rest/navigablerest/Operation" "acceptField" "Ljava/lang/String;" (.ref w_acceptField_o0_1)) :
    MetFree l (⟨"com/example/navigable_rest/navigablerest/Operation", "takesBody", "()Z"⟩ : MethodName) (head1 (Jvm.Cond.code (⟨"com/example/navigable_rest/navigablerest/Operation", "takesBody", "()Z"⟩ : MethodName) prog_10_method_9_code 1 (some .boolean) :: ws) ({ frames := 0, cells := 0, slots := 0, locals := 0 } : Room)) (fun a U => a = #[(.ref o0_1)] ∧ Z.Warmed39 U.vm ∧ U.heap = h0) (fun _ _ _ _ _ => True) (fun _ U o U' => ∃ v L, o = .returned v ∧ Q1 Z o0_1 w_acceptField_o0_1 h0 n0 v U'.heap L ∧ FrameEnd U o U' L ({ frames := 0, cells := 0, slots := 0, locals := 0 } : Room).cells ({ frames := 0, cells := 0, slots := 0, locals := 0 } : Room).slots) := by
  refine MetFree.of_bodySF (plainFor_of_name pn_0) hisR ?_
  intro p e s m args below meth c s₁ Bd hml0 hP hK
  obtain ⟨rfl, hZ, hh⟩ := hP
  have hx := Bd.exec
  have hby := Bd.bytes
  have hnl := BodyLoose.notSynchronized Bd
  have hml : c.maxLocals = 1 := hml0
  have hown : s.vm.findClass "com/example/navigable_rest/navigablerest/Operation" = some m.cls := findClass_of_methodNamed Bd.named
  have hnm := (name_of_methodNamed Bd.named Bd.method).1
  have X0 : Stand p l e ({ frames := 0, cells := 0, slots := 0, locals := 0 } : Room) s m #[(.ref o0_1)] below meth c s₁ [] 0 0 := Stand.of_body Bd
  have e0 : s₁.heap = h0 := by rw [← hh, Bd.state]; rfl
  have N0 := Fr.nil n0
  show own_Ends p.tables e below s (Q1 Z o0_1 w_acceptField_o0_1 h0 n0) 0 0 (s₁.setTop (entryFrame m #[(.ref o0_1)] 1))
  rw [ef_1 m o0_1]
  show own_Ends p.tables e below s _ _ _ (s₁.setTop (mkF m 0 #[.val (.ref o0_1)] []))
  refine own_step (fun t k => XS.aloadN X0.here hx rfl (hb hby d1_0) rfl rfl k) ?_
  show own_Ends p.tables e below s _ _ _ (s₁.setTop (mkF m 1 #[.val (.ref o0_1)] [(.ref o0_1)]))
  obtain ⟨T1, X1, e1, st1⟩ := getF X0 hx hZ hown (host := "") (Or.inl (hw _ (List.mem_of_getElem? (i := 9) rfl))) Via.refl e0 F_acceptField_o0_1 (g := (mkF m 1 #[.val (.ref o0_1)] [(.ref o0_1)])) rfl rfl (hb hby d1_1)
  refine own_step (fun t k => st1 _ k) ?_
  show own_Ends p.tables e below s _ _ _ (T1.setTop (mkF m 4 #[.val (.ref o0_1)] [(.ref w_acceptField_o0_1)]))
  refine own_step (fun t k => XS.ifnullNo X1.here hx rfl (hb hby d1_4) rfl k) ?_
  show own_Ends p.tables e below s _ _ _ (T1.setTop (mkF m 7 #[.val (.ref o0_1)] []))
  refine own_step (fun t k => XS.iconst X1.here hx rfl (hb hby d1_7) k) ?_
  show own_Ends p.tables e below s _ _ _ (T1.setTop (mkF m 8 #[.val (.ref o0_1)] [(.int (1 : Int32))]))
  refine own_step (fun t k => XS.goto X1.here hx rfl (pc0 := 8) (pc' := 12) rfl (hb hby d1_8) (by decide) (by decide) k) ?_
  show own_Ends p.tables e below s _ _ _ (T1.setTop (mkF m 12 #[.val (.ref o0_1)] [(.int (1 : Int32))]))
  exact own_retN X1 hx (t := .boolean) Bd.returns (by simp) (hb hby d1_12) hnl (by rw [e1]; exact ⟨rfl, N0, rfl⟩) (by decide) (by decide)
theorem d1_11 : decode prog_10_method_9_code 11 = .ok (.iconst 0, 1) := by decide +kernel
theorem ef_1n (m : MethodId) (o0_1n : Addr) : entryFrame m #[(.ref o0_1n)] 1 = mkF m 0 #[.val (.ref o0_1n)] [] := by first | (simp [entryFrame, mkF, argsToLocals, Value.category]; done) | rfl
def Q1n (Z : State) (o0_1n : Addr) (h0 : Heap) (n0 : Nat) (v : Option Value) (h : Heap) (L : List Loc) : Prop := v = some (.int (0 : Int32)) ∧ Fr n0 L ∧ h = h0
set_option maxRecDepth 65536 in
set_option maxHeartbeats 40000000 in
theorem rm1n (l : Launch) (Z : State) (a0 : Array Value) (hw : ∀ d ∈ tables_1, d.before a0 Z = true) (ws : List Jvm.Cond) (o0_1n : Addr) (h0 : Heap) (n0 : Nat) (O0 : Old Z n0 h0) (F_acceptField_o0_1n : Fld Z h0 o0_1n "com/example/navigable_rest/navigablerest/Operation" "acceptField" "Ljava/lang/String;" .null) :
    MetFree l (⟨"com/example/navigable_rest/navigablerest/Operation", "takesBody", "()Z"⟩ : MethodName) (head1 (Jvm.Cond.code (⟨"com/example/navigable_rest/navigablerest/Operation", "takesBody", "()Z"⟩ : MethodName) prog_10_method_9_code 1 (some .boolean) :: ws) ({ frames := 0, cells := 0, slots := 0, locals := 0 } : Room)) (fun a U => a = #[(.ref o0_1n)] ∧ Z.Warmed39 U.vm ∧ U.heap = h0) (fun _ _ _ _ _ => True) (fun _ U o U' => ∃ v L, o = .returned v ∧ Q1n Z o0_1n h0 n0 v U'.heap L ∧ FrameEnd U o U' L ({ frames := 0, cells := 0, slots := 0, locals := 0 } : Room).cells ({ frames := 0, cells := 0, slots := 0, locals := 0 } : Room).slots) := by
  refine MetFree.of_bodySF (plainFor_of_name pn_0) hisR ?_
  intro p e s m args below meth c s₁ Bd hml0 hP hK
  obtain ⟨rfl, hZ, hh⟩ := hP
  have hx := Bd.exec
  have hby := Bd.bytes
  have hnl := BodyLoose.notSynchronized Bd
  have hml : c.maxLocals = 1 := hml0
  have hown : s.vm.findClass "com/example/navigable_rest/navigablerest/Operation" = some m.cls := findClass_of_methodNamed Bd.named
  have hnm := (name_of_methodNamed Bd.named Bd.method).1
  have X0 : Stand p l e ({ frames := 0, cells := 0, slots := 0, locals := 0 } : Room) s m #[(.ref o0_1n)] below meth c s₁ [] 0 0 := Stand.of_body Bd
  have e0 : s₁.heap = h0 := by rw [← hh, Bd.state]; rfl
  have N0 := Fr.nil n0
  show own_Ends p.tables e below s (Q1n Z o0_1n h0 n0) 0 0 (s₁.setTop (entryFrame m #[(.ref o0_1n)] 1))
  rw [ef_1n m o0_1n]
  show own_Ends p.tables e below s _ _ _ (s₁.setTop (mkF m 0 #[.val (.ref o0_1n)] []))
  refine own_step (fun t k => XS.aloadN X0.here hx rfl (hb hby d1_0) rfl rfl k) ?_
  show own_Ends p.tables e below s _ _ _ (s₁.setTop (mkF m 1 #[.val (.ref o0_1n)] [(.ref o0_1n)]))
  obtain ⟨T1, X1, e1, st1⟩ := getF X0 hx hZ hown (host := "") (Or.inl (hw _ (List.mem_of_getElem? (i := 9) rfl))) Via.refl e0 F_acceptField_o0_1n (g := (mkF m 1 #[.val (.ref o0_1n)] [(.ref o0_1n)])) rfl rfl (hb hby d1_1)
  refine own_step (fun t k => st1 _ k) ?_
  show own_Ends p.tables e below s _ _ _ (T1.setTop (mkF m 4 #[.val (.ref o0_1n)] [.null]))
  refine own_step (fun t k => XS.ifnullYes X1.here hx rfl (pc0 := 4) (pc' := 11) rfl (hb hby d1_4) rfl (by decide) (by decide) k) ?_
  show own_Ends p.tables e below s _ _ _ (T1.setTop (mkF m 11 #[.val (.ref o0_1n)] []))
  refine own_step (fun t k => XS.iconst X1.here hx rfl (hb hby d1_11) k) ?_
  show own_Ends p.tables e below s _ _ _ (T1.setTop (mkF m 12 #[.val (.ref o0_1n)] [(.int (0 : Int32))]))
  exact own_retN X1 hx (t := .boolean) Bd.returns (by simp) (hb hby d1_12) hnl (by rw [e1]; exact ⟨rfl, N0, rfl⟩) (by decide) (by decide)
theorem d2_0 : decode prog_10_method_11_code 0 = .ok (.aload_n 0, 1) := by decide +kernel
theorem d2_1 : decode prog_10_method_11_code 1 = .ok (.getfield 44, 3) := by decide +kernel
theorem d2_4 : decode prog_10_method_11_code 4 = .ok (.areturn, 1) := by decide +kernel
theorem ef_2 (m : MethodId) (o0_2 : Addr) : entryFrame m #[(.ref o0_2)] 1 = mkF m 0 #[.val (.ref o0_2)] [] := by first | (simp [entryFrame, mkF, argsToLocals, Value.category]; done) | rfl
def Q2 (Z : State) (o0_2 : Addr) (w_mediaTypes_o0_2 : Addr) (h0 : Heap) (n0 : Nat) (v : Option Value) (h : Heap) (L : List Loc) : Prop := v = some (.ref w_mediaTypes_o0_2) ∧ Fr n0 L ∧ h = h0
set_option maxRecDepth 65536 in
set_option maxHeartbeats 40000000 in
theorem rm2 (l : Launch) (Z : State) (a0 : Array Value) (hw : ∀ d ∈ tables_1, d.before a0 Z = true) (ws : List Jvm.Cond) (o0_2 : Addr) (w_mediaTypes_o0_2 : Addr) (h0 : Heap) (n0 : Nat) (O0 : Old Z n0 h0) (F_mediaTypes_o0_2 : Fld Z h0 o0_2 "com/example/navigable_rest/navigablerest/Operation" "mediaTypes" "Ljava/lang/String;" (.ref w_mediaTypes_o0_2)) :
    MetFree l (⟨"com/example/navigable_rest/navigablerest/Operation", "mediaTypes", "()Ljava/lang/String;"⟩ : MethodName) (head1 (Jvm.Cond.code (⟨"com/example/navigable_rest/navigablerest/Operation", "mediaTypes", "()Ljava/lang/String;"⟩ : MethodName) prog_10_method_11_code 1 (some (.object "java/lang/String")) :: ws) ({ frames := 0, cells := 0, slots := 0, locals := 0 } : Room)) (fun a U => a = #[(.ref o0_2)] ∧ Z.Warmed39 U.vm ∧ U.heap = h0) (fun _ _ _ _ _ => True) (fun _ U o U' => ∃ v L, o = .returned v ∧ Q2 Z o0_2 w_mediaTypes_o0_2 h0 n0 v U'.heap L ∧ FrameEnd U o U' L ({ frames := 0, cells := 0, slots := 0, locals := 0 } : Room).cells ({ frames := 0, cells := 0, slots := 0, locals := 0 } : Room).slots) := by
  refine MetFree.of_bodySF (plainFor_of_name pn_0) hisR ?_
  intro p e s m args below meth c s₁ Bd hml0 hP hK
  obtain ⟨rfl, hZ, hh⟩ := hP
  have hx := Bd.exec
  have hby := Bd.bytes
  have hnl := BodyLoose.notSynchronized Bd
  have hml : c.maxLocals = 1 := hml0
  have hown : s.vm.findClass "com/example/navigable_rest/navigablerest/Operation" = some m.cls := findClass_of_methodNamed Bd.named
  have hnm := (name_of_methodNamed Bd.named Bd.method).1
  have X0 : Stand p l e ({ frames := 0, cells := 0, slots := 0, locals := 0 } : Room) s m #[(.ref o0_2)] below meth c s₁ [] 0 0 := Stand.of_body Bd
  have e0 : s₁.heap = h0 := by rw [← hh, Bd.state]; rfl
  have N0 := Fr.nil n0
  show own_Ends p.tables e below s (Q2 Z o0_2 w_mediaTypes_o0_2 h0 n0) 0 0 (s₁.setTop (entryFrame m #[(.ref o0_2)] 1))
  rw [ef_2 m o0_2]
  show own_Ends p.tables e below s _ _ _ (s₁.setTop (mkF m 0 #[.val (.ref o0_2)] []))
  refine own_step (fun t k => XS.aloadN X0.here hx rfl (hb hby d2_0) rfl rfl k) ?_
  show own_Ends p.tables e below s _ _ _ (s₁.setTop (mkF m 1 #[.val (.ref o0_2)] [(.ref o0_2)]))
  obtain ⟨T1, X1, e1, st1⟩ := getF X0 hx hZ hown (host := "") (Or.inl (hw _ (List.mem_of_getElem? (i := 16) rfl))) Via.refl e0 F_mediaTypes_o0_2 (g := (mkF m 1 #[.val (.ref o0_2)] [(.ref o0_2)])) rfl rfl (hb hby d2_1)
  refine own_step (fun t k => st1 _ k) ?_
  show own_Ends p.tables e below s _ _ _ (T1.setTop (mkF m 4 #[.val (.ref o0_2)] [(.ref w_mediaTypes_o0_2)]))
  exact own_retR X1 hx Bd.returns rfl rfl rfl (hb hby d2_4) hnl (by rw [e1]; exact ⟨rfl, N0, rfl⟩) (by decide) (by decide)
theorem ef_2n (m : MethodId) (o0_2n : Addr) : entryFrame m #[(.ref o0_2n)] 1 = mkF m 0 #[.val (.ref o0_2n)] [] := by first | (simp [entryFrame, mkF, argsToLocals, Value.category]; done) | rfl
def Q2n (Z : State) (o0_2n : Addr) (h0 : Heap) (n0 : Nat) (v : Option Value) (h : Heap) (L : List Loc) : Prop := v = some .null ∧ Fr n0 L ∧ h = h0
set_option maxRecDepth 65536 in
set_option maxHeartbeats 40000000 in
theorem rm2n (l : Launch) (Z : State) (a0 : Array Value) (hw : ∀ d ∈ tables_1, d.before a0 Z = true) (ws : List Jvm.Cond) (o0_2n : Addr) (h0 : Heap) (n0 : Nat) (O0 : Old Z n0 h0) (F_mediaTypes_o0_2n : Fld Z h0 o0_2n "com/example/navigable_rest/navigablerest/Operation" "mediaTypes" "Ljava/lang/String;" .null) :
    MetFree l (⟨"com/example/navigable_rest/navigablerest/Operation", "mediaTypes", "()Ljava/lang/String;"⟩ : MethodName) (head1 (Jvm.Cond.code (⟨"com/example/navigable_rest/navigablerest/Operation", "mediaTypes", "()Ljava/lang/String;"⟩ : MethodName) prog_10_method_11_code 1 (some (.object "java/lang/String")) :: ws) ({ frames := 0, cells := 0, slots := 0, locals := 0 } : Room)) (fun a U => a = #[(.ref o0_2n)] ∧ Z.Warmed39 U.vm ∧ U.heap = h0) (fun _ _ _ _ _ => True) (fun _ U o U' => ∃ v L, o = .returned v ∧ Q2n Z o0_2n h0 n0 v U'.heap L ∧ FrameEnd U o U' L ({ frames := 0, cells := 0, slots := 0, locals := 0 } : Room).cells ({ frames := 0, cells := 0, slots := 0, locals := 0 } : Room).slots) := by
  refine MetFree.of_bodySF (plainFor_of_name pn_0) hisR ?_
  intro p e s m args below meth c s₁ Bd hml0 hP hK
  obtain ⟨rfl, hZ, hh⟩ := hP
  have hx := Bd.exec
  have hby := Bd.bytes
  have hnl := BodyLoose.notSynchronized Bd
  have hml : c.maxLocals = 1 := hml0
  have hown : s.vm.findClass "com/example/navigable_rest/navigablerest/Operation" = some m.cls := findClass_of_methodNamed Bd.named
  have hnm := (name_of_methodNamed Bd.named Bd.method).1
  have X0 : Stand p l e ({ frames := 0, cells := 0, slots := 0, locals := 0 } : Room) s m #[(.ref o0_2n)] below meth c s₁ [] 0 0 := Stand.of_body Bd
  have e0 : s₁.heap = h0 := by rw [← hh, Bd.state]; rfl
  have N0 := Fr.nil n0
  show own_Ends p.tables e below s (Q2n Z o0_2n h0 n0) 0 0 (s₁.setTop (entryFrame m #[(.ref o0_2n)] 1))
  rw [ef_2n m o0_2n]
  show own_Ends p.tables e below s _ _ _ (s₁.setTop (mkF m 0 #[.val (.ref o0_2n)] []))
  refine own_step (fun t k => XS.aloadN X0.here hx rfl (hb hby d2_0) rfl rfl k) ?_
  show own_Ends p.tables e below s _ _ _ (s₁.setTop (mkF m 1 #[.val (.ref o0_2n)] [(.ref o0_2n)]))
  obtain ⟨T1, X1, e1, st1⟩ := getF X0 hx hZ hown (host := "") (Or.inl (hw _ (List.mem_of_getElem? (i := 16) rfl))) Via.refl e0 F_mediaTypes_o0_2n (g := (mkF m 1 #[.val (.ref o0_2n)] [(.ref o0_2n)])) rfl rfl (hb hby d2_1)
  refine own_step (fun t k => st1 _ k) ?_
  show own_Ends p.tables e below s _ _ _ (T1.setTop (mkF m 4 #[.val (.ref o0_2n)] [.null]))
  exact own_retR X1 hx Bd.returns rfl rfl rfl (hb hby d2_4) hnl (by rw [e1]; exact ⟨rfl, N0, rfl⟩) (by decide) (by decide)
theorem own_cases3 (v : Int32) (h : ¬ v < 0 ∧ v < 3) : v = 0 ∨ v = 1 ∨ v = 2 := by
  obtain ⟨n, rfl⟩ := own_small v 3 (by decide) h.1 h.2
  revert n; decide
theorem own_three (x : Int32) (h0 : ¬ (x &&& 2147483647) % 3 = 0) (h1 : ¬ (x &&& 2147483647) % 3 = 1) : (x &&& 2147483647) % 3 = 2 := by
  rcases own_cases3 _ (own_idx x 3 (by decide)) with h | h | h
  · exact absurd h h0
  · exact absurd h h1
  · exact h

theorem pd_0 : parseMethodDescriptor "()Z" = some ⟨[], some .boolean⟩ := by decide +kernel
theorem pd_1 : parseMethodDescriptor "()Ljava/lang/String;" = some ⟨[], some (.object "java/lang/String")⟩ := by decide +kernel
theorem pn_1 : plainName "com/example/navigable_rest/navigablerest/OperationTakesBodyPinLaw" = true := by first | (simp [plainName, overriddenIn]; done) | decide +kernel
theorem ef_0 (m : MethodId) (x0_0 : Int32) : entryFrame m #[(.int x0_0)] maxLocals = mkF m 0 #[.val (.int x0_0), .unset, .unset, .unset, .unset, .unset] [] := by first | (simp [entryFrame, mkF, argsToLocals, Value.category, maxLocals]; done) | rfl
def Q0 (Z : State) (x0_0 : Int32) (w_CREATE : Addr) (w_acceptField_w_CREATE : Addr) (w_mediaTypes_w_CREATE : Addr) (w_UPDATE : Addr) (w_acceptField_w_UPDATE : Addr) (w_mediaTypes_w_UPDATE : Addr) (w_DELETE : Addr) (h0 : Heap) (n0 : Nat) (v : Option Value) (h : Heap) (L : List Loc) : Prop := v = some (.int 1) ∧ Fr n0 L
set_option maxRecDepth 65536 in
set_option maxHeartbeats 40000000 in
theorem rm0 (l : Launch) (Z : State) (a0 : Array Value) (hw : ∀ d ∈ tables_1, d.before a0 Z = true) (ws : List Jvm.Cond) (x0_0 : Int32) (w_CREATE : Addr) (w_acceptField_w_CREATE : Addr) (w_mediaTypes_w_CREATE : Addr) (w_UPDATE : Addr) (w_acceptField_w_UPDATE : Addr) (w_mediaTypes_w_UPDATE : Addr) (w_DELETE : Addr) (h0 : Heap) (n0 : Nat) (O0 : Old Z n0 h0) (S_CREATE : Sta Z Z.heap "com/example/navigable_rest/navigablerest/Operation" "CREATE" "Lcom/example/navigable_rest/navigablerest/Operation;" (.ref w_CREATE)) (F_acceptField_w_CREATE : Fld Z h0 w_CREATE "com/example/navigable_rest/navigablerest/Operation" "acceptField" "Ljava/lang/String;" (.ref w_acceptField_w_CREATE)) (E_w_CREATE : Exa Z h0 w_CREATE "com/example/navigable_rest/navigablerest/Operation") (F_mediaTypes_w_CREATE : Fld Z h0 w_CREATE "com/example/navigable_rest/navigablerest/Operation" "mediaTypes" "Ljava/lang/String;" (.ref w_mediaTypes_w_CREATE)) (S_UPDATE : Sta Z Z.heap "com/example/navigable_rest/navigablerest/Operation" "UPDATE" "Lcom/example/navigable_rest/navigablerest/Operation;" (.ref w_UPDATE)) (F_acceptField_w_UPDATE : Fld Z h0 w_UPDATE "com/example/navigable_rest/navigablerest/Operation" "acceptField" "Ljava/lang/String;" (.ref w_acceptField_w_UPDATE)) (E_w_UPDATE : Exa Z h0 w_UPDATE "com/example/navigable_rest/navigablerest/Operation") (F_mediaTypes_w_UPDATE : Fld Z h0 w_UPDATE "com/example/navigable_rest/navigablerest/Operation" "mediaTypes" "Ljava/lang/String;" (.ref w_mediaTypes_w_UPDATE)) (S_DELETE : Sta Z Z.heap "com/example/navigable_rest/navigablerest/Operation" "DELETE" "Lcom/example/navigable_rest/navigablerest/Operation;" (.ref w_DELETE)) (F_acceptField_w_DELETE : Fld Z h0 w_DELETE "com/example/navigable_rest/navigablerest/Operation" "acceptField" "Ljava/lang/String;" .null) (E_w_DELETE : Exa Z h0 w_DELETE "com/example/navigable_rest/navigablerest/Operation") (F_mediaTypes_w_DELETE : Fld Z h0 w_DELETE "com/example/navigable_rest/navigablerest/Operation" "mediaTypes" "Ljava/lang/String;" .null) :
    MetFree l x (head1 (Jvm.Cond.code x code maxLocals ret :: ws) room_1) (fun a U => a = #[(.int x0_0)] ∧ Z.Warmed39 U.vm ∧ U.heap = h0) (fun _ _ _ _ _ => True) (fun _ U o U' => ∃ v L, o = .returned v ∧ Q0 Z x0_0 w_CREATE w_acceptField_w_CREATE w_mediaTypes_w_CREATE w_UPDATE w_acceptField_w_UPDATE w_mediaTypes_w_UPDATE w_DELETE h0 n0 v U'.heap L ∧ FrameEnd U o U' L 0 0) := by
  refine MetFree.of_bodySF (plainFor_of_name pn_1) hisR ?_
  intro p e s m args below meth c s₁ Bd hml0 hP hK
  obtain ⟨rfl, hZ, hh⟩ := hP
  have hx := Bd.exec
  have hby := Bd.bytes
  have hnl := BodyLoose.notSynchronized Bd
  have hml : c.maxLocals = 6 := hml0
  have hown : s.vm.findClass "com/example/navigable_rest/navigablerest/OperationTakesBodyPinLaw" = some m.cls := findClass_of_methodNamed Bd.named
  have hnm := (name_of_methodNamed Bd.named Bd.method).1
  have X0 : Stand p l e room_1 s m #[(.int x0_0)] below meth c s₁ [] 0 0 := Stand.of_body Bd
  have e0 : s₁.heap = h0 := by rw [← hh, Bd.state]; rfl
  have N0 := Fr.nil n0
  show own_Ends p.tables e below s (Q0 Z x0_0 w_CREATE w_acceptField_w_CREATE w_mediaTypes_w_CREATE w_UPDATE w_acceptField_w_UPDATE w_mediaTypes_w_UPDATE w_DELETE h0 n0) 0 0 (s₁.setTop (entryFrame m #[(.int x0_0)] maxLocals))
  rw [ef_0 m x0_0]
  show own_Ends p.tables e below s _ _ _ (s₁.setTop (mkF m 0 #[.val (.int x0_0), .unset, .unset, .unset, .unset, .unset] []))
  refine own_step (fun t k => XS.iloadN X0.here hx rfl (hb hby at_0) rfl k) ?_
  show own_Ends p.tables e below s _ _ _ (s₁.setTop (mkF m 1 #[.val (.int x0_0), .unset, .unset, .unset, .unset, .unset] [(.int x0_0)]))
  refine own_step (fun t k => X0.ldcInt hx hown (mvT hZ (hw _ (List.mem_of_getElem? (i := 0) rfl))) (g := (mkF m 1 #[.val (.int x0_0), .unset, .unset, .unset, .unset, .unset] [(.int x0_0)])) rfl (hb hby at_1) _ k) ?_
  show own_Ends p.tables e below s _ _ _ (s₁.setTop (mkF m 3 #[.val (.int x0_0), .unset, .unset, .unset, .unset, .unset] [(.int (2147483647 : Int32)), (.int x0_0)]))
  refine own_step (fun t k => XS.iand X0.here hx rfl (hb hby at_3) rfl k) ?_
  show own_Ends p.tables e below s _ _ _ (s₁.setTop (mkF m 4 #[.val (.int x0_0), .unset, .unset, .unset, .unset, .unset] [(.int (x0_0 &&& (2147483647 : Int32)))]))
  refine own_step (fun t k => XS.iconst X0.here hx rfl (hb hby at_4) k) ?_
  show own_Ends p.tables e below s _ _ _ (s₁.setTop (mkF m 5 #[.val (.int x0_0), .unset, .unset, .unset, .unset, .unset] [(.int (3 : Int32)), (.int (x0_0 &&& (2147483647 : Int32)))]))
  refine own_step (fun t k => iremM X0 hx rfl (hb hby at_5) rfl (by decide) k) ?_
  show own_Ends p.tables e below s _ _ _ (s₁.setTop (mkF m 6 #[.val (.int x0_0), .unset, .unset, .unset, .unset, .unset] [(.int ((x0_0 &&& (2147483647 : Int32)) % (3 : Int32)))]))
  generalize hi3 : ((x0_0 &&& (2147483647 : Int32)) % (3 : Int32)) = i3
  show own_Ends p.tables e below s _ _ _ (s₁.setTop (mkF m 6 #[.val (.int x0_0), .unset, .unset, .unset, .unset, .unset] [(.int i3)]))
  refine own_step (fun t k => XS.istoreN X0.here hx rfl (hb hby at_6) rfl (l' := #[.val (.int x0_0), .val (.int i3), .unset, .unset, .unset, .unset]) rfl k) ?_
  show own_Ends p.tables e below s _ _ _ (s₁.setTop (mkF m 7 #[.val (.int x0_0), .val (.int i3), .unset, .unset, .unset, .unset] []))
  refine own_step (fun t k => XS.iloadN X0.here hx rfl (hb hby at_7) rfl k) ?_
  show own_Ends p.tables e below s _ _ _ (s₁.setTop (mkF m 8 #[.val (.int x0_0), .val (.int i3), .unset, .unset, .unset, .unset] [(.int i3)]))
  by_cases hc8_1 : i3 = (0 : Int32)
  · skip
    refine own_step (fun t k => XS.ifNo X0.here hx rfl (hb hby at_8) rfl ((if0 _ _).trans (teq hc8_1).2) k) ?_
    show own_Ends p.tables e below s _ _ _ (s₁.setTop (mkF m 11 #[.val (.int x0_0), .val (.int i3), .unset, .unset, .unset, .unset] []))
    obtain ⟨T2, X2, e2, st2⟩ := getS2 X0 hx hZ hown (host := "") (Or.inl (hw _ (List.mem_of_getElem? (i := 1) rfl))) Via.refl e0 (S_CREATE.ext O0.2) (g := (mkF m 11 #[.val (.int x0_0), .val (.int i3), .unset, .unset, .unset, .unset] [])) rfl (hb hby at_11)
    refine own_step (fun t k => st2 _ k) ?_
    show own_Ends p.tables e below s _ _ _ (T2.setTop (mkF m 14 #[.val (.int x0_0), .val (.int i3), .unset, .unset, .unset, .unset] [(.ref w_CREATE)]))
    refine own_step (fun t k => XS.astoreN X2.here hx rfl (hb hby at_14) rfl rfl (l' := #[.val (.int x0_0), .val (.int i3), .val (.ref w_CREATE), .unset, .unset, .unset]) rfl k) ?_
    show own_Ends p.tables e below s _ _ _ (T2.setTop (mkF m 15 #[.val (.int x0_0), .val (.int i3), .val (.ref w_CREATE), .unset, .unset, .unset] []))
    refine own_step (fun t k => XS.goto X2.here hx rfl (pc0 := 15) (pc' := 34) rfl (hb hby at_15) (by decide) (by decide) k) ?_
    show own_Ends p.tables e below s _ _ _ (T2.setTop (mkF m 34 #[.val (.int x0_0), .val (.int i3), .val (.ref w_CREATE), .unset, .unset, .unset] []))
    refine own_step (fun t k => XS.iloadN X2.here hx rfl (hb hby at_34) rfl k) ?_
    show own_Ends p.tables e below s _ _ _ (T2.setTop (mkF m 35 #[.val (.int x0_0), .val (.int i3), .val (.ref w_CREATE), .unset, .unset, .unset] [(.int i3)]))
    refine own_step (fun t k => XS.iconst X2.here hx rfl (hb hby at_35) k) ?_
    show own_Ends p.tables e below s _ _ _ (T2.setTop (mkF m 36 #[.val (.int x0_0), .val (.int i3), .val (.ref w_CREATE), .unset, .unset, .unset] [(.int (2 : Int32)), (.int i3)]))
    by_cases hc36_3 : i3 = (2 : Int32)
    · skip
      refine own_step (fun t k => XS.icmpYes X2.here hx rfl (pc0 := 36) (pc' := 43) rfl (hb hby at_36) rfl (teq hc36_3).1 (by decide) (by decide) k) ?_
      show own_Ends p.tables e below s _ _ _ (T2.setTop (mkF m 43 #[.val (.int x0_0), .val (.int i3), .val (.ref w_CREATE), .unset, .unset, .unset] []))
      refine own_step (fun t k => XS.iconst X2.here hx rfl (hb hby at_43) k) ?_
      show own_Ends p.tables e below s _ _ _ (T2.setTop (mkF m 44 #[.val (.int x0_0), .val (.int i3), .val (.ref w_CREATE), .unset, .unset, .unset] [(.int (0 : Int32))]))
      refine own_step (fun t k => XS.istoreN X2.here hx rfl (hb hby at_44) rfl (l' := #[.val (.int x0_0), .val (.int i3), .val (.ref w_CREATE), .val (.int (0 : Int32)), .unset, .unset]) rfl k) ?_
      show own_Ends p.tables e below s _ _ _ (T2.setTop (mkF m 45 #[.val (.int x0_0), .val (.int i3), .val (.ref w_CREATE), .val (.int (0 : Int32)), .unset, .unset] []))
      refine own_step (fun t k => XS.aloadN X2.here hx rfl (hb hby at_45) rfl rfl k) ?_
      show own_Ends p.tables e below s _ _ _ (T2.setTop (mkF m 46 #[.val (.int x0_0), .val (.int i3), .val (.ref w_CREATE), .val (.int (0 : Int32)), .unset, .unset] [(.ref w_CREATE)]))
      obtain ⟨cq4, kq4, q4a, q4b, q4c⟩ := isOf hZ e2 E_w_CREATE
      obtain ⟨_, _, ⟨T4, L4, k4, n4⟩, -, X4, ⟨Lc4, hQ4, l4, y4, z4⟩, st4⟩ := X2.virtualBack hx (y := (⟨"com/example/navigable_rest/navigablerest/Operation", "takesBody", "()Z"⟩ : MethodName)) (z := (⟨"com/example/navigable_rest/navigablerest/Operation", "takesBody", "()Z"⟩ : MethodName)) hown (mvT hZ (hw _ (List.mem_of_getElem? (i := 4) rfl))) (mvT hZ (hw _ (List.mem_of_getElem? (i := 5) rfl))) (notFace_of_selects (args := #[]) (mvT hZ (hw _ (List.mem_of_getElem? (i := 7) rfl)))) (mvT hZ (hw _ (List.mem_of_getElem? (i := 7) rfl))) (mvT hZ (hw _ (List.mem_of_getElem? (i := 6) rfl))) (by decide) (backOf (W := 0) (rm1 l Z a0 hw [] w_CREATE w_acceptField_w_CREATE h0 n0 O0 F_acceptField_w_CREATE) hZ (hw _ (List.mem_of_getElem? (i := 8) rfl)) (hw _ (List.mem_of_getElem? (i := 2) rfl)) (by decide) (by decide)) q4a q4c (g := (mkF m 46 #[.val (.int x0_0), .val (.int i3), .val (.ref w_CREATE), .val (.int (0 : Int32)), .unset, .unset] [(.ref w_CREATE)])) rfl (by rw [hml]; rfl) (Steps.refl _) (argsL := []) (rest := []) (lenOf pd_0 rfl) rfl (by show 2 * 0 + _ ≤ _; exact Nat.le_of_eq rfl) (hb hby at_46) (fun _ _ => ⟨rfl, e2, (by decide : 0 + 0 ≤ _), (by decide : 0 + 0 ≤ _)⟩)
      dsimp only [Pt.U, Pt.locs, Pt.cells, Pt.slots] at X4 l4 y4 z4 st4 hQ4
      subst l4 y4 z4
      obtain ⟨rfl, N4q, e4⟩ := hQ4
      refine own_step (fun t k => st4.trans k) ?_
      have N5 := Fr.app N0 N4q
      show own_Ends p.tables e below s _ _ _ (T4.setTop (mkF m 49 #[.val (.int x0_0), .val (.int i3), .val (.ref w_CREATE), .val (.int (0 : Int32)), .unset, .unset] [(.int (1 : Int32))]))
      refine own_step (fun t k => XS.istore X4.here hx rfl (hb hby at_49) rfl (l' := #[.val (.int x0_0), .val (.int i3), .val (.ref w_CREATE), .val (.int (0 : Int32)), .val (.int (1 : Int32)), .unset]) rfl k) ?_
      show own_Ends p.tables e below s _ _ _ (T4.setTop (mkF m 51 #[.val (.int x0_0), .val (.int i3), .val (.ref w_CREATE), .val (.int (0 : Int32)), .val (.int (1 : Int32)), .unset] []))
      refine own_step (fun t k => XS.aloadN X4.here hx rfl (hb hby at_51) rfl rfl k) ?_
      show own_Ends p.tables e below s _ _ _ (T4.setTop (mkF m 52 #[.val (.int x0_0), .val (.int i3), .val (.ref w_CREATE), .val (.int (0 : Int32)), .val (.int (1 : Int32)), .unset] [(.ref w_CREATE)]))
      obtain ⟨cq6, kq6, q6a, q6b, q6c⟩ := isOf hZ e4 E_w_CREATE
      obtain ⟨_, _, ⟨T6, L6, k6, n6⟩, -, X6, ⟨Lc6, hQ6, l6, y6, z6⟩, st6⟩ := X4.virtualBack hx (y := (⟨"com/example/navigable_rest/navigablerest/Operation", "mediaTypes", "()Ljava/lang/String;"⟩ : MethodName)) (z := (⟨"com/example/navigable_rest/navigablerest/Operation", "mediaTypes", "()Ljava/lang/String;"⟩ : MethodName)) hown (mvT hZ (hw _ (List.mem_of_getElem? (i := 11) rfl))) (mvT hZ (hw _ (List.mem_of_getElem? (i := 12) rfl))) (notFace_of_selects (args := #[]) (mvT hZ (hw _ (List.mem_of_getElem? (i := 14) rfl)))) (mvT hZ (hw _ (List.mem_of_getElem? (i := 14) rfl))) (mvT hZ (hw _ (List.mem_of_getElem? (i := 13) rfl))) (by decide) (backOf (W := 0) (rm2 l Z a0 hw [] w_CREATE w_mediaTypes_w_CREATE h0 n0 O0 F_mediaTypes_w_CREATE) hZ (hw _ (List.mem_of_getElem? (i := 15) rfl)) (hw _ (List.mem_of_getElem? (i := 2) rfl)) (by decide) (by decide)) q6a q6c (g := (mkF m 52 #[.val (.int x0_0), .val (.int i3), .val (.ref w_CREATE), .val (.int (0 : Int32)), .val (.int (1 : Int32)), .unset] [(.ref w_CREATE)])) rfl (by rw [hml]; rfl) (Steps.refl _) (argsL := []) (rest := []) (lenOf pd_1 rfl) rfl (by show 2 * 0 + _ ≤ _; exact Nat.le_of_eq rfl) (hb hby at_52) (fun _ _ => ⟨rfl, e4, (by decide : 0 + 0 ≤ _), (by decide : 0 + 0 ≤ _)⟩)
      dsimp only [Pt.U, Pt.locs, Pt.cells, Pt.slots] at X6 l6 y6 z6 st6 hQ6
      subst l6 y6 z6
      obtain ⟨rfl, N6q, e6⟩ := hQ6
      refine own_step (fun t k => st6.trans k) ?_
      have N7 := Fr.app N5 N6q
      show own_Ends p.tables e below s _ _ _ (T6.setTop (mkF m 55 #[.val (.int x0_0), .val (.int i3), .val (.ref w_CREATE), .val (.int (0 : Int32)), .val (.int (1 : Int32)), .unset] [(.ref w_mediaTypes_w_CREATE)]))
      refine own_step (fun t k => XS.ifnullNo X6.here hx rfl (hb hby at_55) rfl k) ?_
      show own_Ends p.tables e below s _ _ _ (T6.setTop (mkF m 58 #[.val (.int x0_0), .val (.int i3), .val (.ref w_CREATE), .val (.int (0 : Int32)), .val (.int (1 : Int32)), .unset] []))
      refine own_step (fun t k => XS.iconst X6.here hx rfl (hb hby at_58) k) ?_
      show own_Ends p.tables e below s _ _ _ (T6.setTop (mkF m 59 #[.val (.int x0_0), .val (.int i3), .val (.ref w_CREATE), .val (.int (0 : Int32)), .val (.int (1 : Int32)), .unset] [(.int (1 : Int32))]))
      refine own_step (fun t k => XS.goto X6.here hx rfl (pc0 := 59) (pc' := 63) rfl (hb hby at_59) (by decide) (by decide) k) ?_
      show own_Ends p.tables e below s _ _ _ (T6.setTop (mkF m 63 #[.val (.int x0_0), .val (.int i3), .val (.ref w_CREATE), .val (.int (0 : Int32)), .val (.int (1 : Int32)), .unset] [(.int (1 : Int32))]))
      refine own_step (fun t k => XS.istore X6.here hx rfl (hb hby at_63) rfl (l' := #[.val (.int x0_0), .val (.int i3), .val (.ref w_CREATE), .val (.int (0 : Int32)), .val (.int (1 : Int32)), .val (.int (1 : Int32))]) rfl k) ?_
      show own_Ends p.tables e below s _ _ _ (T6.setTop (mkF m 65 #[.val (.int x0_0), .val (.int i3), .val (.ref w_CREATE), .val (.int (0 : Int32)), .val (.int (1 : Int32)), .val (.int (1 : Int32))] []))
      refine own_step (fun t k => XS.iload X6.here hx rfl (hb hby at_65) rfl k) ?_
      show own_Ends p.tables e below s _ _ _ (T6.setTop (mkF m 67 #[.val (.int x0_0), .val (.int i3), .val (.ref w_CREATE), .val (.int (0 : Int32)), .val (.int (1 : Int32)), .val (.int (1 : Int32))] [(.int (1 : Int32))]))
      refine own_step (fun t k => XS.iloadN X6.here hx rfl (hb hby at_67) rfl k) ?_
      show own_Ends p.tables e below s _ _ _ (T6.setTop (mkF m 68 #[.val (.int x0_0), .val (.int i3), .val (.ref w_CREATE), .val (.int (0 : Int32)), .val (.int (1 : Int32)), .val (.int (1 : Int32))] [(.int (0 : Int32)), (.int (1 : Int32))]))
      refine own_step (fun t k => XS.icmpYes X6.here hx rfl (pc0 := 68) (pc' := 82) rfl (hb hby at_68) rfl (feq (by decide : ¬ ((1 : Int32) = (0 : Int32)))).2 (by decide) (by decide) k) ?_
      show own_Ends p.tables e below s _ _ _ (T6.setTop (mkF m 82 #[.val (.int x0_0), .val (.int i3), .val (.ref w_CREATE), .val (.int (0 : Int32)), .val (.int (1 : Int32)), .val (.int (1 : Int32))] []))
      refine own_step (fun t k => XS.iconst X6.here hx rfl (hb hby at_82) k) ?_
      show own_Ends p.tables e below s _ _ _ (T6.setTop (mkF m 83 #[.val (.int x0_0), .val (.int i3), .val (.ref w_CREATE), .val (.int (0 : Int32)), .val (.int (1 : Int32)), .val (.int (1 : Int32))] [(.int (0 : Int32))]))
      exfalso
      rw [hc8_1] at hc36_3
      revert hc36_3; decide
    · skip
      refine own_step (fun t k => XS.icmpNo X2.here hx rfl (hb hby at_36) rfl (feq hc36_3).1 k) ?_
      show own_Ends p.tables e below s _ _ _ (T2.setTop (mkF m 39 #[.val (.int x0_0), .val (.int i3), .val (.ref w_CREATE), .unset, .unset, .unset] []))
      refine own_step (fun t k => XS.iconst X2.here hx rfl (hb hby at_39) k) ?_
      show own_Ends p.tables e below s _ _ _ (T2.setTop (mkF m 40 #[.val (.int x0_0), .val (.int i3), .val (.ref w_CREATE), .unset, .unset, .unset] [(.int (1 : Int32))]))
      refine own_step (fun t k => XS.goto X2.here hx rfl (pc0 := 40) (pc' := 44) rfl (hb hby at_40) (by decide) (by decide) k) ?_
      show own_Ends p.tables e below s _ _ _ (T2.setTop (mkF m 44 #[.val (.int x0_0), .val (.int i3), .val (.ref w_CREATE), .unset, .unset, .unset] [(.int (1 : Int32))]))
      refine own_step (fun t k => XS.istoreN X2.here hx rfl (hb hby at_44) rfl (l' := #[.val (.int x0_0), .val (.int i3), .val (.ref w_CREATE), .val (.int (1 : Int32)), .unset, .unset]) rfl k) ?_
      show own_Ends p.tables e below s _ _ _ (T2.setTop (mkF m 45 #[.val (.int x0_0), .val (.int i3), .val (.ref w_CREATE), .val (.int (1 : Int32)), .unset, .unset] []))
      refine own_step (fun t k => XS.aloadN X2.here hx rfl (hb hby at_45) rfl rfl k) ?_
      show own_Ends p.tables e below s _ _ _ (T2.setTop (mkF m 46 #[.val (.int x0_0), .val (.int i3), .val (.ref w_CREATE), .val (.int (1 : Int32)), .unset, .unset] [(.ref w_CREATE)]))
      obtain ⟨cq8, kq8, q8a, q8b, q8c⟩ := isOf hZ e2 E_w_CREATE
      obtain ⟨_, _, ⟨T8, L8, k8, n8⟩, -, X8, ⟨Lc8, hQ8, l8, y8, z8⟩, st8⟩ := X2.virtualBack hx (y := (⟨"com/example/navigable_rest/navigablerest/Operation", "takesBody", "()Z"⟩ : MethodName)) (z := (⟨"com/example/navigable_rest/navigablerest/Operation", "takesBody", "()Z"⟩ : MethodName)) hown (mvT hZ (hw _ (List.mem_of_getElem? (i := 4) rfl))) (mvT hZ (hw _ (List.mem_of_getElem? (i := 5) rfl))) (notFace_of_selects (args := #[]) (mvT hZ (hw _ (List.mem_of_getElem? (i := 7) rfl)))) (mvT hZ (hw _ (List.mem_of_getElem? (i := 7) rfl))) (mvT hZ (hw _ (List.mem_of_getElem? (i := 6) rfl))) (by decide) (backOf (W := 0) (rm1 l Z a0 hw [] w_CREATE w_acceptField_w_CREATE h0 n0 O0 F_acceptField_w_CREATE) hZ (hw _ (List.mem_of_getElem? (i := 8) rfl)) (hw _ (List.mem_of_getElem? (i := 2) rfl)) (by decide) (by decide)) q8a q8c (g := (mkF m 46 #[.val (.int x0_0), .val (.int i3), .val (.ref w_CREATE), .val (.int (1 : Int32)), .unset, .unset] [(.ref w_CREATE)])) rfl (by rw [hml]; rfl) (Steps.refl _) (argsL := []) (rest := []) (lenOf pd_0 rfl) rfl (by show 2 * 0 + _ ≤ _; exact Nat.le_of_eq rfl) (hb hby at_46) (fun _ _ => ⟨rfl, e2, (by decide : 0 + 0 ≤ _), (by decide : 0 + 0 ≤ _)⟩)
      dsimp only [Pt.U, Pt.locs, Pt.cells, Pt.slots] at X8 l8 y8 z8 st8 hQ8
      subst l8 y8 z8
      obtain ⟨rfl, N8q, e8⟩ := hQ8
      refine own_step (fun t k => st8.trans k) ?_
      have N9 := Fr.app N0 N8q
      show own_Ends p.tables e below s _ _ _ (T8.setTop (mkF m 49 #[.val (.int x0_0), .val (.int i3), .val (.ref w_CREATE), .val (.int (1 : Int32)), .unset, .unset] [(.int (1 : Int32))]))
      refine own_step (fun t k => XS.istore X8.here hx rfl (hb hby at_49) rfl (l' := #[.val (.int x0_0), .val (.int i3), .val (.ref w_CREATE), .val (.int (1 : Int32)), .val (.int (1 : Int32)), .unset]) rfl k) ?_
      show own_Ends p.tables e below s _ _ _ (T8.setTop (mkF m 51 #[.val (.int x0_0), .val (.int i3), .val (.ref w_CREATE), .val (.int (1 : Int32)), .val (.int (1 : Int32)), .unset] []))
      refine own_step (fun t k => XS.aloadN X8.here hx rfl (hb hby at_51) rfl rfl k) ?_
      show own_Ends p.tables e below s _ _ _ (T8.setTop (mkF m 52 #[.val (.int x0_0), .val (.int i3), .val (.ref w_CREATE), .val (.int (1 : Int32)), .val (.int (1 : Int32)), .unset] [(.ref w_CREATE)]))
      obtain ⟨cq10, kq10, q10a, q10b, q10c⟩ := isOf hZ e8 E_w_CREATE
      obtain ⟨_, _, ⟨T10, L10, k10, n10⟩, -, X10, ⟨Lc10, hQ10, l10, y10, z10⟩, st10⟩ := X8.virtualBack hx (y := (⟨"com/example/navigable_rest/navigablerest/Operation", "mediaTypes", "()Ljava/lang/String;"⟩ : MethodName)) (z := (⟨"com/example/navigable_rest/navigablerest/Operation", "mediaTypes", "()Ljava/lang/String;"⟩ : MethodName)) hown (mvT hZ (hw _ (List.mem_of_getElem? (i := 11) rfl))) (mvT hZ (hw _ (List.mem_of_getElem? (i := 12) rfl))) (notFace_of_selects (args := #[]) (mvT hZ (hw _ (List.mem_of_getElem? (i := 14) rfl)))) (mvT hZ (hw _ (List.mem_of_getElem? (i := 14) rfl))) (mvT hZ (hw _ (List.mem_of_getElem? (i := 13) rfl))) (by decide) (backOf (W := 0) (rm2 l Z a0 hw [] w_CREATE w_mediaTypes_w_CREATE h0 n0 O0 F_mediaTypes_w_CREATE) hZ (hw _ (List.mem_of_getElem? (i := 15) rfl)) (hw _ (List.mem_of_getElem? (i := 2) rfl)) (by decide) (by decide)) q10a q10c (g := (mkF m 52 #[.val (.int x0_0), .val (.int i3), .val (.ref w_CREATE), .val (.int (1 : Int32)), .val (.int (1 : Int32)), .unset] [(.ref w_CREATE)])) rfl (by rw [hml]; rfl) (Steps.refl _) (argsL := []) (rest := []) (lenOf pd_1 rfl) rfl (by show 2 * 0 + _ ≤ _; exact Nat.le_of_eq rfl) (hb hby at_52) (fun _ _ => ⟨rfl, e8, (by decide : 0 + 0 ≤ _), (by decide : 0 + 0 ≤ _)⟩)
      dsimp only [Pt.U, Pt.locs, Pt.cells, Pt.slots] at X10 l10 y10 z10 st10 hQ10
      subst l10 y10 z10
      obtain ⟨rfl, N10q, e10⟩ := hQ10
      refine own_step (fun t k => st10.trans k) ?_
      have N11 := Fr.app N9 N10q
      show own_Ends p.tables e below s _ _ _ (T10.setTop (mkF m 55 #[.val (.int x0_0), .val (.int i3), .val (.ref w_CREATE), .val (.int (1 : Int32)), .val (.int (1 : Int32)), .unset] [(.ref w_mediaTypes_w_CREATE)]))
      refine own_step (fun t k => XS.ifnullNo X10.here hx rfl (hb hby at_55) rfl k) ?_
      show own_Ends p.tables e below s _ _ _ (T10.setTop (mkF m 58 #[.val (.int x0_0), .val (.int i3), .val (.ref w_CREATE), .val (.int (1 : Int32)), .val (.int (1 : Int32)), .unset] []))
      refine own_step (fun t k => XS.iconst X10.here hx rfl (hb hby at_58) k) ?_
      show own_Ends p.tables e below s _ _ _ (T10.setTop (mkF m 59 #[.val (.int x0_0), .val (.int i3), .val (.ref w_CREATE), .val (.int (1 : Int32)), .val (.int (1 : Int32)), .unset] [(.int (1 : Int32))]))
      refine own_step (fun t k => XS.goto X10.here hx rfl (pc0 := 59) (pc' := 63) rfl (hb hby at_59) (by decide) (by decide) k) ?_
      show own_Ends p.tables e below s _ _ _ (T10.setTop (mkF m 63 #[.val (.int x0_0), .val (.int i3), .val (.ref w_CREATE), .val (.int (1 : Int32)), .val (.int (1 : Int32)), .unset] [(.int (1 : Int32))]))
      refine own_step (fun t k => XS.istore X10.here hx rfl (hb hby at_63) rfl (l' := #[.val (.int x0_0), .val (.int i3), .val (.ref w_CREATE), .val (.int (1 : Int32)), .val (.int (1 : Int32)), .val (.int (1 : Int32))]) rfl k) ?_
      show own_Ends p.tables e below s _ _ _ (T10.setTop (mkF m 65 #[.val (.int x0_0), .val (.int i3), .val (.ref w_CREATE), .val (.int (1 : Int32)), .val (.int (1 : Int32)), .val (.int (1 : Int32))] []))
      refine own_step (fun t k => XS.iload X10.here hx rfl (hb hby at_65) rfl k) ?_
      show own_Ends p.tables e below s _ _ _ (T10.setTop (mkF m 67 #[.val (.int x0_0), .val (.int i3), .val (.ref w_CREATE), .val (.int (1 : Int32)), .val (.int (1 : Int32)), .val (.int (1 : Int32))] [(.int (1 : Int32))]))
      refine own_step (fun t k => XS.iloadN X10.here hx rfl (hb hby at_67) rfl k) ?_
      show own_Ends p.tables e below s _ _ _ (T10.setTop (mkF m 68 #[.val (.int x0_0), .val (.int i3), .val (.ref w_CREATE), .val (.int (1 : Int32)), .val (.int (1 : Int32)), .val (.int (1 : Int32))] [(.int (1 : Int32)), (.int (1 : Int32))]))
      refine own_step (fun t k => XS.icmpNo X10.here hx rfl (hb hby at_68) rfl (teq (by decide : (1 : Int32) = (1 : Int32))).2 k) ?_
      show own_Ends p.tables e below s _ _ _ (T10.setTop (mkF m 71 #[.val (.int x0_0), .val (.int i3), .val (.ref w_CREATE), .val (.int (1 : Int32)), .val (.int (1 : Int32)), .val (.int (1 : Int32))] []))
      refine own_step (fun t k => XS.iload X10.here hx rfl (hb hby at_71) rfl k) ?_
      show own_Ends p.tables e below s _ _ _ (T10.setTop (mkF m 73 #[.val (.int x0_0), .val (.int i3), .val (.ref w_CREATE), .val (.int (1 : Int32)), .val (.int (1 : Int32)), .val (.int (1 : Int32))] [(.int (1 : Int32))]))
      refine own_step (fun t k => XS.iload X10.here hx rfl (hb hby at_73) rfl k) ?_
      show own_Ends p.tables e below s _ _ _ (T10.setTop (mkF m 75 #[.val (.int x0_0), .val (.int i3), .val (.ref w_CREATE), .val (.int (1 : Int32)), .val (.int (1 : Int32)), .val (.int (1 : Int32))] [(.int (1 : Int32)), (.int (1 : Int32))]))
      refine own_step (fun t k => XS.icmpNo X10.here hx rfl (hb hby at_75) rfl (teq (by decide : (1 : Int32) = (1 : Int32))).2 k) ?_
      show own_Ends p.tables e below s _ _ _ (T10.setTop (mkF m 78 #[.val (.int x0_0), .val (.int i3), .val (.ref w_CREATE), .val (.int (1 : Int32)), .val (.int (1 : Int32)), .val (.int (1 : Int32))] []))
      refine own_step (fun t k => XS.iconst X10.here hx rfl (hb hby at_78) k) ?_
      show own_Ends p.tables e below s _ _ _ (T10.setTop (mkF m 79 #[.val (.int x0_0), .val (.int i3), .val (.ref w_CREATE), .val (.int (1 : Int32)), .val (.int (1 : Int32)), .val (.int (1 : Int32))] [(.int (1 : Int32))]))
      refine own_step (fun t k => XS.goto X10.here hx rfl (pc0 := 79) (pc' := 83) rfl (hb hby at_79) (by decide) (by decide) k) ?_
      show own_Ends p.tables e below s _ _ _ (T10.setTop (mkF m 83 #[.val (.int x0_0), .val (.int i3), .val (.ref w_CREATE), .val (.int (1 : Int32)), .val (.int (1 : Int32)), .val (.int (1 : Int32))] [(.int (1 : Int32))]))
      exact own_retN X10 hx (t := .boolean) Bd.returns (by simp) (hb hby at_83) hnl (by rw [e10]; exact ⟨rfl, N11⟩) (by decide) (by decide)
  · skip
    refine own_step (fun t k => XS.ifYes X0.here hx rfl (pc0 := 8) (pc' := 18) rfl (hb hby at_8) rfl ((if0 _ _).trans (feq hc8_1).2) (by decide) (by decide) k) ?_
    show own_Ends p.tables e below s _ _ _ (s₁.setTop (mkF m 18 #[.val (.int x0_0), .val (.int i3), .unset, .unset, .unset, .unset] []))
    refine own_step (fun t k => XS.iloadN X0.here hx rfl (hb hby at_18) rfl k) ?_
    show own_Ends p.tables e below s _ _ _ (s₁.setTop (mkF m 19 #[.val (.int x0_0), .val (.int i3), .unset, .unset, .unset, .unset] [(.int i3)]))
    refine own_step (fun t k => XS.iconst X0.here hx rfl (hb hby at_19) k) ?_
    show own_Ends p.tables e below s _ _ _ (s₁.setTop (mkF m 20 #[.val (.int x0_0), .val (.int i3), .unset, .unset, .unset, .unset] [(.int (1 : Int32)), (.int i3)]))
    by_cases hc20_12 : i3 = (1 : Int32)
    · skip
      refine own_step (fun t k => XS.icmpNo X0.here hx rfl (hb hby at_20) rfl (teq hc20_12).2 k) ?_
      show own_Ends p.tables e below s _ _ _ (s₁.setTop (mkF m 23 #[.val (.int x0_0), .val (.int i3), .unset, .unset, .unset, .unset] []))
      obtain ⟨T13, X13, e13, st13⟩ := getS2 X0 hx hZ hown (host := "") (Or.inl (hw _ (List.mem_of_getElem? (i := 20) rfl))) Via.refl e0 (S_UPDATE.ext O0.2) (g := (mkF m 23 #[.val (.int x0_0), .val (.int i3), .unset, .unset, .unset, .unset] [])) rfl (hb hby at_23)
      refine own_step (fun t k => st13 _ k) ?_
      show own_Ends p.tables e below s _ _ _ (T13.setTop (mkF m 26 #[.val (.int x0_0), .val (.int i3), .unset, .unset, .unset, .unset] [(.ref w_UPDATE)]))
      refine own_step (fun t k => XS.astoreN X13.here hx rfl (hb hby at_26) rfl rfl (l' := #[.val (.int x0_0), .val (.int i3), .val (.ref w_UPDATE), .unset, .unset, .unset]) rfl k) ?_
      show own_Ends p.tables e below s _ _ _ (T13.setTop (mkF m 27 #[.val (.int x0_0), .val (.int i3), .val (.ref w_UPDATE), .unset, .unset, .unset] []))
      refine own_step (fun t k => XS.goto X13.here hx rfl (pc0 := 27) (pc' := 34) rfl (hb hby at_27) (by decide) (by decide) k) ?_
      show own_Ends p.tables e below s _ _ _ (T13.setTop (mkF m 34 #[.val (.int x0_0), .val (.int i3), .val (.ref w_UPDATE), .unset, .unset, .unset] []))
      refine own_step (fun t k => XS.iloadN X13.here hx rfl (hb hby at_34) rfl k) ?_
      show own_Ends p.tables e below s _ _ _ (T13.setTop (mkF m 35 #[.val (.int x0_0), .val (.int i3), .val (.ref w_UPDATE), .unset, .unset, .unset] [(.int i3)]))
      refine own_step (fun t k => XS.iconst X13.here hx rfl (hb hby at_35) k) ?_
      show own_Ends p.tables e below s _ _ _ (T13.setTop (mkF m 36 #[.val (.int x0_0), .val (.int i3), .val (.ref w_UPDATE), .unset, .unset, .unset] [(.int (2 : Int32)), (.int i3)]))
      by_cases hc36_14 : i3 = (2 : Int32)
      · skip
        refine own_step (fun t k => XS.icmpYes X13.here hx rfl (pc0 := 36) (pc' := 43) rfl (hb hby at_36) rfl (teq hc36_14).1 (by decide) (by decide) k) ?_
        show own_Ends p.tables e below s _ _ _ (T13.setTop (mkF m 43 #[.val (.int x0_0), .val (.int i3), .val (.ref w_UPDATE), .unset, .unset, .unset] []))
        refine own_step (fun t k => XS.iconst X13.here hx rfl (hb hby at_43) k) ?_
        show own_Ends p.tables e below s _ _ _ (T13.setTop (mkF m 44 #[.val (.int x0_0), .val (.int i3), .val (.ref w_UPDATE), .unset, .unset, .unset] [(.int (0 : Int32))]))
        refine own_step (fun t k => XS.istoreN X13.here hx rfl (hb hby at_44) rfl (l' := #[.val (.int x0_0), .val (.int i3), .val (.ref w_UPDATE), .val (.int (0 : Int32)), .unset, .unset]) rfl k) ?_
        show own_Ends p.tables e below s _ _ _ (T13.setTop (mkF m 45 #[.val (.int x0_0), .val (.int i3), .val (.ref w_UPDATE), .val (.int (0 : Int32)), .unset, .unset] []))
        refine own_step (fun t k => XS.aloadN X13.here hx rfl (hb hby at_45) rfl rfl k) ?_
        show own_Ends p.tables e below s _ _ _ (T13.setTop (mkF m 46 #[.val (.int x0_0), .val (.int i3), .val (.ref w_UPDATE), .val (.int (0 : Int32)), .unset, .unset] [(.ref w_UPDATE)]))
        obtain ⟨cq15, kq15, q15a, q15b, q15c⟩ := isOf hZ e13 E_w_UPDATE
        obtain ⟨_, _, ⟨T15, L15, k15, n15⟩, -, X15, ⟨Lc15, hQ15, l15, y15, z15⟩, st15⟩ := X13.virtualBack hx (y := (⟨"com/example/navigable_rest/navigablerest/Operation", "takesBody", "()Z"⟩ : MethodName)) (z := (⟨"com/example/navigable_rest/navigablerest/Operation", "takesBody", "()Z"⟩ : MethodName)) hown (mvT hZ (hw _ (List.mem_of_getElem? (i := 4) rfl))) (mvT hZ (hw _ (List.mem_of_getElem? (i := 5) rfl))) (notFace_of_selects (args := #[]) (mvT hZ (hw _ (List.mem_of_getElem? (i := 7) rfl)))) (mvT hZ (hw _ (List.mem_of_getElem? (i := 7) rfl))) (mvT hZ (hw _ (List.mem_of_getElem? (i := 6) rfl))) (by decide) (backOf (W := 0) (rm1 l Z a0 hw [] w_UPDATE w_acceptField_w_UPDATE h0 n0 O0 F_acceptField_w_UPDATE) hZ (hw _ (List.mem_of_getElem? (i := 8) rfl)) (hw _ (List.mem_of_getElem? (i := 2) rfl)) (by decide) (by decide)) q15a q15c (g := (mkF m 46 #[.val (.int x0_0), .val (.int i3), .val (.ref w_UPDATE), .val (.int (0 : Int32)), .unset, .unset] [(.ref w_UPDATE)])) rfl (by rw [hml]; rfl) (Steps.refl _) (argsL := []) (rest := []) (lenOf pd_0 rfl) rfl (by show 2 * 0 + _ ≤ _; exact Nat.le_of_eq rfl) (hb hby at_46) (fun _ _ => ⟨rfl, e13, (by decide : 0 + 0 ≤ _), (by decide : 0 + 0 ≤ _)⟩)
        dsimp only [Pt.U, Pt.locs, Pt.cells, Pt.slots] at X15 l15 y15 z15 st15 hQ15
        subst l15 y15 z15
        obtain ⟨rfl, N15q, e15⟩ := hQ15
        refine own_step (fun t k => st15.trans k) ?_
        have N16 := Fr.app N0 N15q
        show own_Ends p.tables e below s _ _ _ (T15.setTop (mkF m 49 #[.val (.int x0_0), .val (.int i3), .val (.ref w_UPDATE), .val (.int (0 : Int32)), .unset, .unset] [(.int (1 : Int32))]))
        refine own_step (fun t k => XS.istore X15.here hx rfl (hb hby at_49) rfl (l' := #[.val (.int x0_0), .val (.int i3), .val (.ref w_UPDATE), .val (.int (0 : Int32)), .val (.int (1 : Int32)), .unset]) rfl k) ?_
        show own_Ends p.tables e below s _ _ _ (T15.setTop (mkF m 51 #[.val (.int x0_0), .val (.int i3), .val (.ref w_UPDATE), .val (.int (0 : Int32)), .val (.int (1 : Int32)), .unset] []))
        refine own_step (fun t k => XS.aloadN X15.here hx rfl (hb hby at_51) rfl rfl k) ?_
        show own_Ends p.tables e below s _ _ _ (T15.setTop (mkF m 52 #[.val (.int x0_0), .val (.int i3), .val (.ref w_UPDATE), .val (.int (0 : Int32)), .val (.int (1 : Int32)), .unset] [(.ref w_UPDATE)]))
        obtain ⟨cq17, kq17, q17a, q17b, q17c⟩ := isOf hZ e15 E_w_UPDATE
        obtain ⟨_, _, ⟨T17, L17, k17, n17⟩, -, X17, ⟨Lc17, hQ17, l17, y17, z17⟩, st17⟩ := X15.virtualBack hx (y := (⟨"com/example/navigable_rest/navigablerest/Operation", "mediaTypes", "()Ljava/lang/String;"⟩ : MethodName)) (z := (⟨"com/example/navigable_rest/navigablerest/Operation", "mediaTypes", "()Ljava/lang/String;"⟩ : MethodName)) hown (mvT hZ (hw _ (List.mem_of_getElem? (i := 11) rfl))) (mvT hZ (hw _ (List.mem_of_getElem? (i := 12) rfl))) (notFace_of_selects (args := #[]) (mvT hZ (hw _ (List.mem_of_getElem? (i := 14) rfl)))) (mvT hZ (hw _ (List.mem_of_getElem? (i := 14) rfl))) (mvT hZ (hw _ (List.mem_of_getElem? (i := 13) rfl))) (by decide) (backOf (W := 0) (rm2 l Z a0 hw [] w_UPDATE w_mediaTypes_w_UPDATE h0 n0 O0 F_mediaTypes_w_UPDATE) hZ (hw _ (List.mem_of_getElem? (i := 15) rfl)) (hw _ (List.mem_of_getElem? (i := 2) rfl)) (by decide) (by decide)) q17a q17c (g := (mkF m 52 #[.val (.int x0_0), .val (.int i3), .val (.ref w_UPDATE), .val (.int (0 : Int32)), .val (.int (1 : Int32)), .unset] [(.ref w_UPDATE)])) rfl (by rw [hml]; rfl) (Steps.refl _) (argsL := []) (rest := []) (lenOf pd_1 rfl) rfl (by show 2 * 0 + _ ≤ _; exact Nat.le_of_eq rfl) (hb hby at_52) (fun _ _ => ⟨rfl, e15, (by decide : 0 + 0 ≤ _), (by decide : 0 + 0 ≤ _)⟩)
        dsimp only [Pt.U, Pt.locs, Pt.cells, Pt.slots] at X17 l17 y17 z17 st17 hQ17
        subst l17 y17 z17
        obtain ⟨rfl, N17q, e17⟩ := hQ17
        refine own_step (fun t k => st17.trans k) ?_
        have N18 := Fr.app N16 N17q
        show own_Ends p.tables e below s _ _ _ (T17.setTop (mkF m 55 #[.val (.int x0_0), .val (.int i3), .val (.ref w_UPDATE), .val (.int (0 : Int32)), .val (.int (1 : Int32)), .unset] [(.ref w_mediaTypes_w_UPDATE)]))
        refine own_step (fun t k => XS.ifnullNo X17.here hx rfl (hb hby at_55) rfl k) ?_
        show own_Ends p.tables e below s _ _ _ (T17.setTop (mkF m 58 #[.val (.int x0_0), .val (.int i3), .val (.ref w_UPDATE), .val (.int (0 : Int32)), .val (.int (1 : Int32)), .unset] []))
        refine own_step (fun t k => XS.iconst X17.here hx rfl (hb hby at_58) k) ?_
        show own_Ends p.tables e below s _ _ _ (T17.setTop (mkF m 59 #[.val (.int x0_0), .val (.int i3), .val (.ref w_UPDATE), .val (.int (0 : Int32)), .val (.int (1 : Int32)), .unset] [(.int (1 : Int32))]))
        refine own_step (fun t k => XS.goto X17.here hx rfl (pc0 := 59) (pc' := 63) rfl (hb hby at_59) (by decide) (by decide) k) ?_
        show own_Ends p.tables e below s _ _ _ (T17.setTop (mkF m 63 #[.val (.int x0_0), .val (.int i3), .val (.ref w_UPDATE), .val (.int (0 : Int32)), .val (.int (1 : Int32)), .unset] [(.int (1 : Int32))]))
        refine own_step (fun t k => XS.istore X17.here hx rfl (hb hby at_63) rfl (l' := #[.val (.int x0_0), .val (.int i3), .val (.ref w_UPDATE), .val (.int (0 : Int32)), .val (.int (1 : Int32)), .val (.int (1 : Int32))]) rfl k) ?_
        show own_Ends p.tables e below s _ _ _ (T17.setTop (mkF m 65 #[.val (.int x0_0), .val (.int i3), .val (.ref w_UPDATE), .val (.int (0 : Int32)), .val (.int (1 : Int32)), .val (.int (1 : Int32))] []))
        refine own_step (fun t k => XS.iload X17.here hx rfl (hb hby at_65) rfl k) ?_
        show own_Ends p.tables e below s _ _ _ (T17.setTop (mkF m 67 #[.val (.int x0_0), .val (.int i3), .val (.ref w_UPDATE), .val (.int (0 : Int32)), .val (.int (1 : Int32)), .val (.int (1 : Int32))] [(.int (1 : Int32))]))
        refine own_step (fun t k => XS.iloadN X17.here hx rfl (hb hby at_67) rfl k) ?_
        show own_Ends p.tables e below s _ _ _ (T17.setTop (mkF m 68 #[.val (.int x0_0), .val (.int i3), .val (.ref w_UPDATE), .val (.int (0 : Int32)), .val (.int (1 : Int32)), .val (.int (1 : Int32))] [(.int (0 : Int32)), (.int (1 : Int32))]))
        refine own_step (fun t k => XS.icmpYes X17.here hx rfl (pc0 := 68) (pc' := 82) rfl (hb hby at_68) rfl (feq (by decide : ¬ ((1 : Int32) = (0 : Int32)))).2 (by decide) (by decide) k) ?_
        show own_Ends p.tables e below s _ _ _ (T17.setTop (mkF m 82 #[.val (.int x0_0), .val (.int i3), .val (.ref w_UPDATE), .val (.int (0 : Int32)), .val (.int (1 : Int32)), .val (.int (1 : Int32))] []))
        refine own_step (fun t k => XS.iconst X17.here hx rfl (hb hby at_82) k) ?_
        show own_Ends p.tables e below s _ _ _ (T17.setTop (mkF m 83 #[.val (.int x0_0), .val (.int i3), .val (.ref w_UPDATE), .val (.int (0 : Int32)), .val (.int (1 : Int32)), .val (.int (1 : Int32))] [(.int (0 : Int32))]))
        exfalso
        rw [hc20_12] at hc36_14
        revert hc36_14; decide
      · skip
        refine own_step (fun t k => XS.icmpNo X13.here hx rfl (hb hby at_36) rfl (feq hc36_14).1 k) ?_
        show own_Ends p.tables e below s _ _ _ (T13.setTop (mkF m 39 #[.val (.int x0_0), .val (.int i3), .val (.ref w_UPDATE), .unset, .unset, .unset] []))
        refine own_step (fun t k => XS.iconst X13.here hx rfl (hb hby at_39) k) ?_
        show own_Ends p.tables e below s _ _ _ (T13.setTop (mkF m 40 #[.val (.int x0_0), .val (.int i3), .val (.ref w_UPDATE), .unset, .unset, .unset] [(.int (1 : Int32))]))
        refine own_step (fun t k => XS.goto X13.here hx rfl (pc0 := 40) (pc' := 44) rfl (hb hby at_40) (by decide) (by decide) k) ?_
        show own_Ends p.tables e below s _ _ _ (T13.setTop (mkF m 44 #[.val (.int x0_0), .val (.int i3), .val (.ref w_UPDATE), .unset, .unset, .unset] [(.int (1 : Int32))]))
        refine own_step (fun t k => XS.istoreN X13.here hx rfl (hb hby at_44) rfl (l' := #[.val (.int x0_0), .val (.int i3), .val (.ref w_UPDATE), .val (.int (1 : Int32)), .unset, .unset]) rfl k) ?_
        show own_Ends p.tables e below s _ _ _ (T13.setTop (mkF m 45 #[.val (.int x0_0), .val (.int i3), .val (.ref w_UPDATE), .val (.int (1 : Int32)), .unset, .unset] []))
        refine own_step (fun t k => XS.aloadN X13.here hx rfl (hb hby at_45) rfl rfl k) ?_
        show own_Ends p.tables e below s _ _ _ (T13.setTop (mkF m 46 #[.val (.int x0_0), .val (.int i3), .val (.ref w_UPDATE), .val (.int (1 : Int32)), .unset, .unset] [(.ref w_UPDATE)]))
        obtain ⟨cq19, kq19, q19a, q19b, q19c⟩ := isOf hZ e13 E_w_UPDATE
        obtain ⟨_, _, ⟨T19, L19, k19, n19⟩, -, X19, ⟨Lc19, hQ19, l19, y19, z19⟩, st19⟩ := X13.virtualBack hx (y := (⟨"com/example/navigable_rest/navigablerest/Operation", "takesBody", "()Z"⟩ : MethodName)) (z := (⟨"com/example/navigable_rest/navigablerest/Operation", "takesBody", "()Z"⟩ : MethodName)) hown (mvT hZ (hw _ (List.mem_of_getElem? (i := 4) rfl))) (mvT hZ (hw _ (List.mem_of_getElem? (i := 5) rfl))) (notFace_of_selects (args := #[]) (mvT hZ (hw _ (List.mem_of_getElem? (i := 7) rfl)))) (mvT hZ (hw _ (List.mem_of_getElem? (i := 7) rfl))) (mvT hZ (hw _ (List.mem_of_getElem? (i := 6) rfl))) (by decide) (backOf (W := 0) (rm1 l Z a0 hw [] w_UPDATE w_acceptField_w_UPDATE h0 n0 O0 F_acceptField_w_UPDATE) hZ (hw _ (List.mem_of_getElem? (i := 8) rfl)) (hw _ (List.mem_of_getElem? (i := 2) rfl)) (by decide) (by decide)) q19a q19c (g := (mkF m 46 #[.val (.int x0_0), .val (.int i3), .val (.ref w_UPDATE), .val (.int (1 : Int32)), .unset, .unset] [(.ref w_UPDATE)])) rfl (by rw [hml]; rfl) (Steps.refl _) (argsL := []) (rest := []) (lenOf pd_0 rfl) rfl (by show 2 * 0 + _ ≤ _; exact Nat.le_of_eq rfl) (hb hby at_46) (fun _ _ => ⟨rfl, e13, (by decide : 0 + 0 ≤ _), (by decide : 0 + 0 ≤ _)⟩)
        dsimp only [Pt.U, Pt.locs, Pt.cells, Pt.slots] at X19 l19 y19 z19 st19 hQ19
        subst l19 y19 z19
        obtain ⟨rfl, N19q, e19⟩ := hQ19
        refine own_step (fun t k => st19.trans k) ?_
        have N20 := Fr.app N0 N19q
        show own_Ends p.tables e below s _ _ _ (T19.setTop (mkF m 49 #[.val (.int x0_0), .val (.int i3), .val (.ref w_UPDATE), .val (.int (1 : Int32)), .unset, .unset] [(.int (1 : Int32))]))
        refine own_step (fun t k => XS.istore X19.here hx rfl (hb hby at_49) rfl (l' := #[.val (.int x0_0), .val (.int i3), .val (.ref w_UPDATE), .val (.int (1 : Int32)), .val (.int (1 : Int32)), .unset]) rfl k) ?_
        show own_Ends p.tables e below s _ _ _ (T19.setTop (mkF m 51 #[.val (.int x0_0), .val (.int i3), .val (.ref w_UPDATE), .val (.int (1 : Int32)), .val (.int (1 : Int32)), .unset] []))
        refine own_step (fun t k => XS.aloadN X19.here hx rfl (hb hby at_51) rfl rfl k) ?_
        show own_Ends p.tables e below s _ _ _ (T19.setTop (mkF m 52 #[.val (.int x0_0), .val (.int i3), .val (.ref w_UPDATE), .val (.int (1 : Int32)), .val (.int (1 : Int32)), .unset] [(.ref w_UPDATE)]))
        obtain ⟨cq21, kq21, q21a, q21b, q21c⟩ := isOf hZ e19 E_w_UPDATE
        obtain ⟨_, _, ⟨T21, L21, k21, n21⟩, -, X21, ⟨Lc21, hQ21, l21, y21, z21⟩, st21⟩ := X19.virtualBack hx (y := (⟨"com/example/navigable_rest/navigablerest/Operation", "mediaTypes", "()Ljava/lang/String;"⟩ : MethodName)) (z := (⟨"com/example/navigable_rest/navigablerest/Operation", "mediaTypes", "()Ljava/lang/String;"⟩ : MethodName)) hown (mvT hZ (hw _ (List.mem_of_getElem? (i := 11) rfl))) (mvT hZ (hw _ (List.mem_of_getElem? (i := 12) rfl))) (notFace_of_selects (args := #[]) (mvT hZ (hw _ (List.mem_of_getElem? (i := 14) rfl)))) (mvT hZ (hw _ (List.mem_of_getElem? (i := 14) rfl))) (mvT hZ (hw _ (List.mem_of_getElem? (i := 13) rfl))) (by decide) (backOf (W := 0) (rm2 l Z a0 hw [] w_UPDATE w_mediaTypes_w_UPDATE h0 n0 O0 F_mediaTypes_w_UPDATE) hZ (hw _ (List.mem_of_getElem? (i := 15) rfl)) (hw _ (List.mem_of_getElem? (i := 2) rfl)) (by decide) (by decide)) q21a q21c (g := (mkF m 52 #[.val (.int x0_0), .val (.int i3), .val (.ref w_UPDATE), .val (.int (1 : Int32)), .val (.int (1 : Int32)), .unset] [(.ref w_UPDATE)])) rfl (by rw [hml]; rfl) (Steps.refl _) (argsL := []) (rest := []) (lenOf pd_1 rfl) rfl (by show 2 * 0 + _ ≤ _; exact Nat.le_of_eq rfl) (hb hby at_52) (fun _ _ => ⟨rfl, e19, (by decide : 0 + 0 ≤ _), (by decide : 0 + 0 ≤ _)⟩)
        dsimp only [Pt.U, Pt.locs, Pt.cells, Pt.slots] at X21 l21 y21 z21 st21 hQ21
        subst l21 y21 z21
        obtain ⟨rfl, N21q, e21⟩ := hQ21
        refine own_step (fun t k => st21.trans k) ?_
        have N22 := Fr.app N20 N21q
        show own_Ends p.tables e below s _ _ _ (T21.setTop (mkF m 55 #[.val (.int x0_0), .val (.int i3), .val (.ref w_UPDATE), .val (.int (1 : Int32)), .val (.int (1 : Int32)), .unset] [(.ref w_mediaTypes_w_UPDATE)]))
        refine own_step (fun t k => XS.ifnullNo X21.here hx rfl (hb hby at_55) rfl k) ?_
        show own_Ends p.tables e below s _ _ _ (T21.setTop (mkF m 58 #[.val (.int x0_0), .val (.int i3), .val (.ref w_UPDATE), .val (.int (1 : Int32)), .val (.int (1 : Int32)), .unset] []))
        refine own_step (fun t k => XS.iconst X21.here hx rfl (hb hby at_58) k) ?_
        show own_Ends p.tables e below s _ _ _ (T21.setTop (mkF m 59 #[.val (.int x0_0), .val (.int i3), .val (.ref w_UPDATE), .val (.int (1 : Int32)), .val (.int (1 : Int32)), .unset] [(.int (1 : Int32))]))
        refine own_step (fun t k => XS.goto X21.here hx rfl (pc0 := 59) (pc' := 63) rfl (hb hby at_59) (by decide) (by decide) k) ?_
        show own_Ends p.tables e below s _ _ _ (T21.setTop (mkF m 63 #[.val (.int x0_0), .val (.int i3), .val (.ref w_UPDATE), .val (.int (1 : Int32)), .val (.int (1 : Int32)), .unset] [(.int (1 : Int32))]))
        refine own_step (fun t k => XS.istore X21.here hx rfl (hb hby at_63) rfl (l' := #[.val (.int x0_0), .val (.int i3), .val (.ref w_UPDATE), .val (.int (1 : Int32)), .val (.int (1 : Int32)), .val (.int (1 : Int32))]) rfl k) ?_
        show own_Ends p.tables e below s _ _ _ (T21.setTop (mkF m 65 #[.val (.int x0_0), .val (.int i3), .val (.ref w_UPDATE), .val (.int (1 : Int32)), .val (.int (1 : Int32)), .val (.int (1 : Int32))] []))
        refine own_step (fun t k => XS.iload X21.here hx rfl (hb hby at_65) rfl k) ?_
        show own_Ends p.tables e below s _ _ _ (T21.setTop (mkF m 67 #[.val (.int x0_0), .val (.int i3), .val (.ref w_UPDATE), .val (.int (1 : Int32)), .val (.int (1 : Int32)), .val (.int (1 : Int32))] [(.int (1 : Int32))]))
        refine own_step (fun t k => XS.iloadN X21.here hx rfl (hb hby at_67) rfl k) ?_
        show own_Ends p.tables e below s _ _ _ (T21.setTop (mkF m 68 #[.val (.int x0_0), .val (.int i3), .val (.ref w_UPDATE), .val (.int (1 : Int32)), .val (.int (1 : Int32)), .val (.int (1 : Int32))] [(.int (1 : Int32)), (.int (1 : Int32))]))
        refine own_step (fun t k => XS.icmpNo X21.here hx rfl (hb hby at_68) rfl (teq (by decide : (1 : Int32) = (1 : Int32))).2 k) ?_
        show own_Ends p.tables e below s _ _ _ (T21.setTop (mkF m 71 #[.val (.int x0_0), .val (.int i3), .val (.ref w_UPDATE), .val (.int (1 : Int32)), .val (.int (1 : Int32)), .val (.int (1 : Int32))] []))
        refine own_step (fun t k => XS.iload X21.here hx rfl (hb hby at_71) rfl k) ?_
        show own_Ends p.tables e below s _ _ _ (T21.setTop (mkF m 73 #[.val (.int x0_0), .val (.int i3), .val (.ref w_UPDATE), .val (.int (1 : Int32)), .val (.int (1 : Int32)), .val (.int (1 : Int32))] [(.int (1 : Int32))]))
        refine own_step (fun t k => XS.iload X21.here hx rfl (hb hby at_73) rfl k) ?_
        show own_Ends p.tables e below s _ _ _ (T21.setTop (mkF m 75 #[.val (.int x0_0), .val (.int i3), .val (.ref w_UPDATE), .val (.int (1 : Int32)), .val (.int (1 : Int32)), .val (.int (1 : Int32))] [(.int (1 : Int32)), (.int (1 : Int32))]))
        refine own_step (fun t k => XS.icmpNo X21.here hx rfl (hb hby at_75) rfl (teq (by decide : (1 : Int32) = (1 : Int32))).2 k) ?_
        show own_Ends p.tables e below s _ _ _ (T21.setTop (mkF m 78 #[.val (.int x0_0), .val (.int i3), .val (.ref w_UPDATE), .val (.int (1 : Int32)), .val (.int (1 : Int32)), .val (.int (1 : Int32))] []))
        refine own_step (fun t k => XS.iconst X21.here hx rfl (hb hby at_78) k) ?_
        show own_Ends p.tables e below s _ _ _ (T21.setTop (mkF m 79 #[.val (.int x0_0), .val (.int i3), .val (.ref w_UPDATE), .val (.int (1 : Int32)), .val (.int (1 : Int32)), .val (.int (1 : Int32))] [(.int (1 : Int32))]))
        refine own_step (fun t k => XS.goto X21.here hx rfl (pc0 := 79) (pc' := 83) rfl (hb hby at_79) (by decide) (by decide) k) ?_
        show own_Ends p.tables e below s _ _ _ (T21.setTop (mkF m 83 #[.val (.int x0_0), .val (.int i3), .val (.ref w_UPDATE), .val (.int (1 : Int32)), .val (.int (1 : Int32)), .val (.int (1 : Int32))] [(.int (1 : Int32))]))
        exact own_retN X21 hx (t := .boolean) Bd.returns (by simp) (hb hby at_83) hnl (by rw [e21]; exact ⟨rfl, N22⟩) (by decide) (by decide)
    · skip
      refine own_step (fun t k => XS.icmpYes X0.here hx rfl (pc0 := 20) (pc' := 30) rfl (hb hby at_20) rfl (feq hc20_12).2 (by decide) (by decide) k) ?_
      show own_Ends p.tables e below s _ _ _ (s₁.setTop (mkF m 30 #[.val (.int x0_0), .val (.int i3), .unset, .unset, .unset, .unset] []))
      obtain ⟨T23, X23, e23, st23⟩ := getS2 X0 hx hZ hown (host := "") (Or.inl (hw _ (List.mem_of_getElem? (i := 18) rfl))) Via.refl e0 (S_DELETE.ext O0.2) (g := (mkF m 30 #[.val (.int x0_0), .val (.int i3), .unset, .unset, .unset, .unset] [])) rfl (hb hby at_30)
      refine own_step (fun t k => st23 _ k) ?_
      show own_Ends p.tables e below s _ _ _ (T23.setTop (mkF m 33 #[.val (.int x0_0), .val (.int i3), .unset, .unset, .unset, .unset] [(.ref w_DELETE)]))
      refine own_step (fun t k => XS.astoreN X23.here hx rfl (hb hby at_33) rfl rfl (l' := #[.val (.int x0_0), .val (.int i3), .val (.ref w_DELETE), .unset, .unset, .unset]) rfl k) ?_
      show own_Ends p.tables e below s _ _ _ (T23.setTop (mkF m 34 #[.val (.int x0_0), .val (.int i3), .val (.ref w_DELETE), .unset, .unset, .unset] []))
      refine own_step (fun t k => XS.iloadN X23.here hx rfl (hb hby at_34) rfl k) ?_
      show own_Ends p.tables e below s _ _ _ (T23.setTop (mkF m 35 #[.val (.int x0_0), .val (.int i3), .val (.ref w_DELETE), .unset, .unset, .unset] [(.int i3)]))
      refine own_step (fun t k => XS.iconst X23.here hx rfl (hb hby at_35) k) ?_
      show own_Ends p.tables e below s _ _ _ (T23.setTop (mkF m 36 #[.val (.int x0_0), .val (.int i3), .val (.ref w_DELETE), .unset, .unset, .unset] [(.int (2 : Int32)), (.int i3)]))
      by_cases hc36_24 : i3 = (2 : Int32)
      · skip
        refine own_step (fun t k => XS.icmpYes X23.here hx rfl (pc0 := 36) (pc' := 43) rfl (hb hby at_36) rfl (teq hc36_24).1 (by decide) (by decide) k) ?_
        show own_Ends p.tables e below s _ _ _ (T23.setTop (mkF m 43 #[.val (.int x0_0), .val (.int i3), .val (.ref w_DELETE), .unset, .unset, .unset] []))
        refine own_step (fun t k => XS.iconst X23.here hx rfl (hb hby at_43) k) ?_
        show own_Ends p.tables e below s _ _ _ (T23.setTop (mkF m 44 #[.val (.int x0_0), .val (.int i3), .val (.ref w_DELETE), .unset, .unset, .unset] [(.int (0 : Int32))]))
        refine own_step (fun t k => XS.istoreN X23.here hx rfl (hb hby at_44) rfl (l' := #[.val (.int x0_0), .val (.int i3), .val (.ref w_DELETE), .val (.int (0 : Int32)), .unset, .unset]) rfl k) ?_
        show own_Ends p.tables e below s _ _ _ (T23.setTop (mkF m 45 #[.val (.int x0_0), .val (.int i3), .val (.ref w_DELETE), .val (.int (0 : Int32)), .unset, .unset] []))
        refine own_step (fun t k => XS.aloadN X23.here hx rfl (hb hby at_45) rfl rfl k) ?_
        show own_Ends p.tables e below s _ _ _ (T23.setTop (mkF m 46 #[.val (.int x0_0), .val (.int i3), .val (.ref w_DELETE), .val (.int (0 : Int32)), .unset, .unset] [(.ref w_DELETE)]))
        obtain ⟨cq25, kq25, q25a, q25b, q25c⟩ := isOf hZ e23 E_w_DELETE
        obtain ⟨_, _, ⟨T25, L25, k25, n25⟩, -, X25, ⟨Lc25, hQ25, l25, y25, z25⟩, st25⟩ := X23.virtualBack hx (y := (⟨"com/example/navigable_rest/navigablerest/Operation", "takesBody", "()Z"⟩ : MethodName)) (z := (⟨"com/example/navigable_rest/navigablerest/Operation", "takesBody", "()Z"⟩ : MethodName)) hown (mvT hZ (hw _ (List.mem_of_getElem? (i := 4) rfl))) (mvT hZ (hw _ (List.mem_of_getElem? (i := 5) rfl))) (notFace_of_selects (args := #[]) (mvT hZ (hw _ (List.mem_of_getElem? (i := 7) rfl)))) (mvT hZ (hw _ (List.mem_of_getElem? (i := 7) rfl))) (mvT hZ (hw _ (List.mem_of_getElem? (i := 6) rfl))) (by decide) (backOf (W := 0) (rm1n l Z a0 hw [] w_DELETE h0 n0 O0 F_acceptField_w_DELETE) hZ (hw _ (List.mem_of_getElem? (i := 8) rfl)) (hw _ (List.mem_of_getElem? (i := 2) rfl)) (by decide) (by decide)) q25a q25c (g := (mkF m 46 #[.val (.int x0_0), .val (.int i3), .val (.ref w_DELETE), .val (.int (0 : Int32)), .unset, .unset] [(.ref w_DELETE)])) rfl (by rw [hml]; rfl) (Steps.refl _) (argsL := []) (rest := []) (lenOf pd_0 rfl) rfl (by show 2 * 0 + _ ≤ _; exact Nat.le_of_eq rfl) (hb hby at_46) (fun _ _ => ⟨rfl, e23, (by decide : 0 + 0 ≤ _), (by decide : 0 + 0 ≤ _)⟩)
        dsimp only [Pt.U, Pt.locs, Pt.cells, Pt.slots] at X25 l25 y25 z25 st25 hQ25
        subst l25 y25 z25
        obtain ⟨rfl, N25q, e25⟩ := hQ25
        refine own_step (fun t k => st25.trans k) ?_
        have N26 := Fr.app N0 N25q
        show own_Ends p.tables e below s _ _ _ (T25.setTop (mkF m 49 #[.val (.int x0_0), .val (.int i3), .val (.ref w_DELETE), .val (.int (0 : Int32)), .unset, .unset] [(.int (0 : Int32))]))
        refine own_step (fun t k => XS.istore X25.here hx rfl (hb hby at_49) rfl (l' := #[.val (.int x0_0), .val (.int i3), .val (.ref w_DELETE), .val (.int (0 : Int32)), .val (.int (0 : Int32)), .unset]) rfl k) ?_
        show own_Ends p.tables e below s _ _ _ (T25.setTop (mkF m 51 #[.val (.int x0_0), .val (.int i3), .val (.ref w_DELETE), .val (.int (0 : Int32)), .val (.int (0 : Int32)), .unset] []))
        refine own_step (fun t k => XS.aloadN X25.here hx rfl (hb hby at_51) rfl rfl k) ?_
        show own_Ends p.tables e below s _ _ _ (T25.setTop (mkF m 52 #[.val (.int x0_0), .val (.int i3), .val (.ref w_DELETE), .val (.int (0 : Int32)), .val (.int (0 : Int32)), .unset] [(.ref w_DELETE)]))
        obtain ⟨cq27, kq27, q27a, q27b, q27c⟩ := isOf hZ e25 E_w_DELETE
        obtain ⟨_, _, ⟨T27, L27, k27, n27⟩, -, X27, ⟨Lc27, hQ27, l27, y27, z27⟩, st27⟩ := X25.virtualBack hx (y := (⟨"com/example/navigable_rest/navigablerest/Operation", "mediaTypes", "()Ljava/lang/String;"⟩ : MethodName)) (z := (⟨"com/example/navigable_rest/navigablerest/Operation", "mediaTypes", "()Ljava/lang/String;"⟩ : MethodName)) hown (mvT hZ (hw _ (List.mem_of_getElem? (i := 11) rfl))) (mvT hZ (hw _ (List.mem_of_getElem? (i := 12) rfl))) (notFace_of_selects (args := #[]) (mvT hZ (hw _ (List.mem_of_getElem? (i := 14) rfl)))) (mvT hZ (hw _ (List.mem_of_getElem? (i := 14) rfl))) (mvT hZ (hw _ (List.mem_of_getElem? (i := 13) rfl))) (by decide) (backOf (W := 0) (rm2n l Z a0 hw [] w_DELETE h0 n0 O0 F_mediaTypes_w_DELETE) hZ (hw _ (List.mem_of_getElem? (i := 15) rfl)) (hw _ (List.mem_of_getElem? (i := 2) rfl)) (by decide) (by decide)) q27a q27c (g := (mkF m 52 #[.val (.int x0_0), .val (.int i3), .val (.ref w_DELETE), .val (.int (0 : Int32)), .val (.int (0 : Int32)), .unset] [(.ref w_DELETE)])) rfl (by rw [hml]; rfl) (Steps.refl _) (argsL := []) (rest := []) (lenOf pd_1 rfl) rfl (by show 2 * 0 + _ ≤ _; exact Nat.le_of_eq rfl) (hb hby at_52) (fun _ _ => ⟨rfl, e25, (by decide : 0 + 0 ≤ _), (by decide : 0 + 0 ≤ _)⟩)
        dsimp only [Pt.U, Pt.locs, Pt.cells, Pt.slots] at X27 l27 y27 z27 st27 hQ27
        subst l27 y27 z27
        obtain ⟨rfl, N27q, e27⟩ := hQ27
        refine own_step (fun t k => st27.trans k) ?_
        have N28 := Fr.app N26 N27q
        show own_Ends p.tables e below s _ _ _ (T27.setTop (mkF m 55 #[.val (.int x0_0), .val (.int i3), .val (.ref w_DELETE), .val (.int (0 : Int32)), .val (.int (0 : Int32)), .unset] [.null]))
        refine own_step (fun t k => XS.ifnullYes X27.here hx rfl (pc0 := 55) (pc' := 62) rfl (hb hby at_55) rfl (by decide) (by decide) k) ?_
        show own_Ends p.tables e below s _ _ _ (T27.setTop (mkF m 62 #[.val (.int x0_0), .val (.int i3), .val (.ref w_DELETE), .val (.int (0 : Int32)), .val (.int (0 : Int32)), .unset] []))
        refine own_step (fun t k => XS.iconst X27.here hx rfl (hb hby at_62) k) ?_
        show own_Ends p.tables e below s _ _ _ (T27.setTop (mkF m 63 #[.val (.int x0_0), .val (.int i3), .val (.ref w_DELETE), .val (.int (0 : Int32)), .val (.int (0 : Int32)), .unset] [(.int (0 : Int32))]))
        refine own_step (fun t k => XS.istore X27.here hx rfl (hb hby at_63) rfl (l' := #[.val (.int x0_0), .val (.int i3), .val (.ref w_DELETE), .val (.int (0 : Int32)), .val (.int (0 : Int32)), .val (.int (0 : Int32))]) rfl k) ?_
        show own_Ends p.tables e below s _ _ _ (T27.setTop (mkF m 65 #[.val (.int x0_0), .val (.int i3), .val (.ref w_DELETE), .val (.int (0 : Int32)), .val (.int (0 : Int32)), .val (.int (0 : Int32))] []))
        refine own_step (fun t k => XS.iload X27.here hx rfl (hb hby at_65) rfl k) ?_
        show own_Ends p.tables e below s _ _ _ (T27.setTop (mkF m 67 #[.val (.int x0_0), .val (.int i3), .val (.ref w_DELETE), .val (.int (0 : Int32)), .val (.int (0 : Int32)), .val (.int (0 : Int32))] [(.int (0 : Int32))]))
        refine own_step (fun t k => XS.iloadN X27.here hx rfl (hb hby at_67) rfl k) ?_
        show own_Ends p.tables e below s _ _ _ (T27.setTop (mkF m 68 #[.val (.int x0_0), .val (.int i3), .val (.ref w_DELETE), .val (.int (0 : Int32)), .val (.int (0 : Int32)), .val (.int (0 : Int32))] [(.int (0 : Int32)), (.int (0 : Int32))]))
        refine own_step (fun t k => XS.icmpNo X27.here hx rfl (hb hby at_68) rfl (teq (by decide : (0 : Int32) = (0 : Int32))).2 k) ?_
        show own_Ends p.tables e below s _ _ _ (T27.setTop (mkF m 71 #[.val (.int x0_0), .val (.int i3), .val (.ref w_DELETE), .val (.int (0 : Int32)), .val (.int (0 : Int32)), .val (.int (0 : Int32))] []))
        refine own_step (fun t k => XS.iload X27.here hx rfl (hb hby at_71) rfl k) ?_
        show own_Ends p.tables e below s _ _ _ (T27.setTop (mkF m 73 #[.val (.int x0_0), .val (.int i3), .val (.ref w_DELETE), .val (.int (0 : Int32)), .val (.int (0 : Int32)), .val (.int (0 : Int32))] [(.int (0 : Int32))]))
        refine own_step (fun t k => XS.iload X27.here hx rfl (hb hby at_73) rfl k) ?_
        show own_Ends p.tables e below s _ _ _ (T27.setTop (mkF m 75 #[.val (.int x0_0), .val (.int i3), .val (.ref w_DELETE), .val (.int (0 : Int32)), .val (.int (0 : Int32)), .val (.int (0 : Int32))] [(.int (0 : Int32)), (.int (0 : Int32))]))
        refine own_step (fun t k => XS.icmpNo X27.here hx rfl (hb hby at_75) rfl (teq (by decide : (0 : Int32) = (0 : Int32))).2 k) ?_
        show own_Ends p.tables e below s _ _ _ (T27.setTop (mkF m 78 #[.val (.int x0_0), .val (.int i3), .val (.ref w_DELETE), .val (.int (0 : Int32)), .val (.int (0 : Int32)), .val (.int (0 : Int32))] []))
        refine own_step (fun t k => XS.iconst X27.here hx rfl (hb hby at_78) k) ?_
        show own_Ends p.tables e below s _ _ _ (T27.setTop (mkF m 79 #[.val (.int x0_0), .val (.int i3), .val (.ref w_DELETE), .val (.int (0 : Int32)), .val (.int (0 : Int32)), .val (.int (0 : Int32))] [(.int (1 : Int32))]))
        refine own_step (fun t k => XS.goto X27.here hx rfl (pc0 := 79) (pc' := 83) rfl (hb hby at_79) (by decide) (by decide) k) ?_
        show own_Ends p.tables e below s _ _ _ (T27.setTop (mkF m 83 #[.val (.int x0_0), .val (.int i3), .val (.ref w_DELETE), .val (.int (0 : Int32)), .val (.int (0 : Int32)), .val (.int (0 : Int32))] [(.int (1 : Int32))]))
        exact own_retN X27 hx (t := .boolean) Bd.returns (by simp) (hb hby at_83) hnl (by rw [e27]; exact ⟨rfl, N28⟩) (by decide) (by decide)
      · skip
        refine own_step (fun t k => XS.icmpNo X23.here hx rfl (hb hby at_36) rfl (feq hc36_24).1 k) ?_
        show own_Ends p.tables e below s _ _ _ (T23.setTop (mkF m 39 #[.val (.int x0_0), .val (.int i3), .val (.ref w_DELETE), .unset, .unset, .unset] []))
        refine own_step (fun t k => XS.iconst X23.here hx rfl (hb hby at_39) k) ?_
        show own_Ends p.tables e below s _ _ _ (T23.setTop (mkF m 40 #[.val (.int x0_0), .val (.int i3), .val (.ref w_DELETE), .unset, .unset, .unset] [(.int (1 : Int32))]))
        refine own_step (fun t k => XS.goto X23.here hx rfl (pc0 := 40) (pc' := 44) rfl (hb hby at_40) (by decide) (by decide) k) ?_
        show own_Ends p.tables e below s _ _ _ (T23.setTop (mkF m 44 #[.val (.int x0_0), .val (.int i3), .val (.ref w_DELETE), .unset, .unset, .unset] [(.int (1 : Int32))]))
        refine own_step (fun t k => XS.istoreN X23.here hx rfl (hb hby at_44) rfl (l' := #[.val (.int x0_0), .val (.int i3), .val (.ref w_DELETE), .val (.int (1 : Int32)), .unset, .unset]) rfl k) ?_
        show own_Ends p.tables e below s _ _ _ (T23.setTop (mkF m 45 #[.val (.int x0_0), .val (.int i3), .val (.ref w_DELETE), .val (.int (1 : Int32)), .unset, .unset] []))
        refine own_step (fun t k => XS.aloadN X23.here hx rfl (hb hby at_45) rfl rfl k) ?_
        show own_Ends p.tables e below s _ _ _ (T23.setTop (mkF m 46 #[.val (.int x0_0), .val (.int i3), .val (.ref w_DELETE), .val (.int (1 : Int32)), .unset, .unset] [(.ref w_DELETE)]))
        obtain ⟨cq29, kq29, q29a, q29b, q29c⟩ := isOf hZ e23 E_w_DELETE
        obtain ⟨_, _, ⟨T29, L29, k29, n29⟩, -, X29, ⟨Lc29, hQ29, l29, y29, z29⟩, st29⟩ := X23.virtualBack hx (y := (⟨"com/example/navigable_rest/navigablerest/Operation", "takesBody", "()Z"⟩ : MethodName)) (z := (⟨"com/example/navigable_rest/navigablerest/Operation", "takesBody", "()Z"⟩ : MethodName)) hown (mvT hZ (hw _ (List.mem_of_getElem? (i := 4) rfl))) (mvT hZ (hw _ (List.mem_of_getElem? (i := 5) rfl))) (notFace_of_selects (args := #[]) (mvT hZ (hw _ (List.mem_of_getElem? (i := 7) rfl)))) (mvT hZ (hw _ (List.mem_of_getElem? (i := 7) rfl))) (mvT hZ (hw _ (List.mem_of_getElem? (i := 6) rfl))) (by decide) (backOf (W := 0) (rm1n l Z a0 hw [] w_DELETE h0 n0 O0 F_acceptField_w_DELETE) hZ (hw _ (List.mem_of_getElem? (i := 8) rfl)) (hw _ (List.mem_of_getElem? (i := 2) rfl)) (by decide) (by decide)) q29a q29c (g := (mkF m 46 #[.val (.int x0_0), .val (.int i3), .val (.ref w_DELETE), .val (.int (1 : Int32)), .unset, .unset] [(.ref w_DELETE)])) rfl (by rw [hml]; rfl) (Steps.refl _) (argsL := []) (rest := []) (lenOf pd_0 rfl) rfl (by show 2 * 0 + _ ≤ _; exact Nat.le_of_eq rfl) (hb hby at_46) (fun _ _ => ⟨rfl, e23, (by decide : 0 + 0 ≤ _), (by decide : 0 + 0 ≤ _)⟩)
        dsimp only [Pt.U, Pt.locs, Pt.cells, Pt.slots] at X29 l29 y29 z29 st29 hQ29
        subst l29 y29 z29
        obtain ⟨rfl, N29q, e29⟩ := hQ29
        refine own_step (fun t k => st29.trans k) ?_
        have N30 := Fr.app N0 N29q
        show own_Ends p.tables e below s _ _ _ (T29.setTop (mkF m 49 #[.val (.int x0_0), .val (.int i3), .val (.ref w_DELETE), .val (.int (1 : Int32)), .unset, .unset] [(.int (0 : Int32))]))
        refine own_step (fun t k => XS.istore X29.here hx rfl (hb hby at_49) rfl (l' := #[.val (.int x0_0), .val (.int i3), .val (.ref w_DELETE), .val (.int (1 : Int32)), .val (.int (0 : Int32)), .unset]) rfl k) ?_
        show own_Ends p.tables e below s _ _ _ (T29.setTop (mkF m 51 #[.val (.int x0_0), .val (.int i3), .val (.ref w_DELETE), .val (.int (1 : Int32)), .val (.int (0 : Int32)), .unset] []))
        refine own_step (fun t k => XS.aloadN X29.here hx rfl (hb hby at_51) rfl rfl k) ?_
        show own_Ends p.tables e below s _ _ _ (T29.setTop (mkF m 52 #[.val (.int x0_0), .val (.int i3), .val (.ref w_DELETE), .val (.int (1 : Int32)), .val (.int (0 : Int32)), .unset] [(.ref w_DELETE)]))
        obtain ⟨cq31, kq31, q31a, q31b, q31c⟩ := isOf hZ e29 E_w_DELETE
        obtain ⟨_, _, ⟨T31, L31, k31, n31⟩, -, X31, ⟨Lc31, hQ31, l31, y31, z31⟩, st31⟩ := X29.virtualBack hx (y := (⟨"com/example/navigable_rest/navigablerest/Operation", "mediaTypes", "()Ljava/lang/String;"⟩ : MethodName)) (z := (⟨"com/example/navigable_rest/navigablerest/Operation", "mediaTypes", "()Ljava/lang/String;"⟩ : MethodName)) hown (mvT hZ (hw _ (List.mem_of_getElem? (i := 11) rfl))) (mvT hZ (hw _ (List.mem_of_getElem? (i := 12) rfl))) (notFace_of_selects (args := #[]) (mvT hZ (hw _ (List.mem_of_getElem? (i := 14) rfl)))) (mvT hZ (hw _ (List.mem_of_getElem? (i := 14) rfl))) (mvT hZ (hw _ (List.mem_of_getElem? (i := 13) rfl))) (by decide) (backOf (W := 0) (rm2n l Z a0 hw [] w_DELETE h0 n0 O0 F_mediaTypes_w_DELETE) hZ (hw _ (List.mem_of_getElem? (i := 15) rfl)) (hw _ (List.mem_of_getElem? (i := 2) rfl)) (by decide) (by decide)) q31a q31c (g := (mkF m 52 #[.val (.int x0_0), .val (.int i3), .val (.ref w_DELETE), .val (.int (1 : Int32)), .val (.int (0 : Int32)), .unset] [(.ref w_DELETE)])) rfl (by rw [hml]; rfl) (Steps.refl _) (argsL := []) (rest := []) (lenOf pd_1 rfl) rfl (by show 2 * 0 + _ ≤ _; exact Nat.le_of_eq rfl) (hb hby at_52) (fun _ _ => ⟨rfl, e29, (by decide : 0 + 0 ≤ _), (by decide : 0 + 0 ≤ _)⟩)
        dsimp only [Pt.U, Pt.locs, Pt.cells, Pt.slots] at X31 l31 y31 z31 st31 hQ31
        subst l31 y31 z31
        obtain ⟨rfl, N31q, e31⟩ := hQ31
        refine own_step (fun t k => st31.trans k) ?_
        have N32 := Fr.app N30 N31q
        show own_Ends p.tables e below s _ _ _ (T31.setTop (mkF m 55 #[.val (.int x0_0), .val (.int i3), .val (.ref w_DELETE), .val (.int (1 : Int32)), .val (.int (0 : Int32)), .unset] [.null]))
        refine own_step (fun t k => XS.ifnullYes X31.here hx rfl (pc0 := 55) (pc' := 62) rfl (hb hby at_55) rfl (by decide) (by decide) k) ?_
        show own_Ends p.tables e below s _ _ _ (T31.setTop (mkF m 62 #[.val (.int x0_0), .val (.int i3), .val (.ref w_DELETE), .val (.int (1 : Int32)), .val (.int (0 : Int32)), .unset] []))
        refine own_step (fun t k => XS.iconst X31.here hx rfl (hb hby at_62) k) ?_
        show own_Ends p.tables e below s _ _ _ (T31.setTop (mkF m 63 #[.val (.int x0_0), .val (.int i3), .val (.ref w_DELETE), .val (.int (1 : Int32)), .val (.int (0 : Int32)), .unset] [(.int (0 : Int32))]))
        refine own_step (fun t k => XS.istore X31.here hx rfl (hb hby at_63) rfl (l' := #[.val (.int x0_0), .val (.int i3), .val (.ref w_DELETE), .val (.int (1 : Int32)), .val (.int (0 : Int32)), .val (.int (0 : Int32))]) rfl k) ?_
        show own_Ends p.tables e below s _ _ _ (T31.setTop (mkF m 65 #[.val (.int x0_0), .val (.int i3), .val (.ref w_DELETE), .val (.int (1 : Int32)), .val (.int (0 : Int32)), .val (.int (0 : Int32))] []))
        refine own_step (fun t k => XS.iload X31.here hx rfl (hb hby at_65) rfl k) ?_
        show own_Ends p.tables e below s _ _ _ (T31.setTop (mkF m 67 #[.val (.int x0_0), .val (.int i3), .val (.ref w_DELETE), .val (.int (1 : Int32)), .val (.int (0 : Int32)), .val (.int (0 : Int32))] [(.int (0 : Int32))]))
        refine own_step (fun t k => XS.iloadN X31.here hx rfl (hb hby at_67) rfl k) ?_
        show own_Ends p.tables e below s _ _ _ (T31.setTop (mkF m 68 #[.val (.int x0_0), .val (.int i3), .val (.ref w_DELETE), .val (.int (1 : Int32)), .val (.int (0 : Int32)), .val (.int (0 : Int32))] [(.int (1 : Int32)), (.int (0 : Int32))]))
        refine own_step (fun t k => XS.icmpYes X31.here hx rfl (pc0 := 68) (pc' := 82) rfl (hb hby at_68) rfl (feq (by decide : ¬ ((0 : Int32) = (1 : Int32)))).2 (by decide) (by decide) k) ?_
        show own_Ends p.tables e below s _ _ _ (T31.setTop (mkF m 82 #[.val (.int x0_0), .val (.int i3), .val (.ref w_DELETE), .val (.int (1 : Int32)), .val (.int (0 : Int32)), .val (.int (0 : Int32))] []))
        refine own_step (fun t k => XS.iconst X31.here hx rfl (hb hby at_82) k) ?_
        show own_Ends p.tables e below s _ _ _ (T31.setTop (mkF m 83 #[.val (.int x0_0), .val (.int i3), .val (.ref w_DELETE), .val (.int (1 : Int32)), .val (.int (0 : Int32)), .val (.int (0 : Int32))] [(.int (0 : Int32))]))
        exfalso
        subst hi3; exact hc36_24 (own_three _ hc8_1 hc20_12)
set_option maxRecDepth 65536 in
set_option maxHeartbeats 40000000 in
theorem comes_1 {Post : Tables → Env → Array Value → State → Outcome → State → Prop} (hpost : ∀ tb e args s v u, (limb_1_1.after args s (.returned v) u = true ∧ limb_1_2.after args s (.returned v) u = true ∧ True) → FrameEnd s (.returned v) u (Jvm.fieldLocs frame_1_writes args s ++ Jvm.arrayLocs frame_1_arrays args s ++ Jvm.staticLocs frame_1_statics s) 0 0 → Post tb e args s (.returned v) u) :
    ArmFor flags0 classFile x code maxLocals ret World_1 tables_1 room_1 Calls_1 rest_1 Pre_1 Post := by
  intro l hfl _ _ p e ha hc hk s m args below hf hA hF happ hP
  obtain ⟨hcalls, hrest, hpre⟩ := hP
  obtain ⟨-, -, -, hnamed, -, -, -, hat⟩ := (Spec.applies_iff hf).mp happ
  obtain ⟨hg, hn⟩ := and_e (Cond.before_iff.mp (show (Jvm.Cond.and given_1 narrow_1).before args s = true from hpre))
  obtain ⟨hh1a, hh1b⟩ := and_e hg
  obtain ⟨hh2a, hh2b⟩ := and_e hn
  obtain ⟨hh3a, hh3b⟩ := and_e hh2b
  obtain ⟨hh4a, hh4b⟩ := and_e hh3b
  obtain ⟨hh5a, hh5b⟩ := and_e hh4b
  obtain ⟨hh6a, hh6b⟩ := and_e hh5b
  obtain ⟨hh7a, hh7b⟩ := and_e hh6b
  obtain ⟨hh8a, hh8b⟩ := and_e hh7b
  obtain ⟨hh9a, hh9b⟩ := and_e hh8b
  obtain ⟨w0, rfl⟩ : ∃ w0 : Value, args = #[w0] := by
    have hs : args.size = 1 := by simpa [Cond.value, given_1] using hh1a
    obtain ⟨L⟩ := args
    match L, hs with
    | [w0], _ => exact ⟨w0, rfl⟩
  have hw := fun d (hd : d ∈ tables_1) => atoms_spec (ws := Jvm.Cond.code x code maxLocals ret :: tables_1) hat d (List.mem_cons_of_mem _ hd)
  have hfit : Fit s := fun {y c} hc i hi => by
    obtain ⟨ha, rfl⟩ := Array.getElem?_eq_some_iff.mp hc
    have q := List.all_eq_true.mp ((Array.all_eq_true_iff_forall_mem.mp hF) _ (Array.getElem_mem ha)) i (List.mem_range.mpr hi)
    simpa [Array.getElem?_eq_getElem hi] using q
  obtain ⟨i0, ei0⟩ := is_v hh1b
  obtain rfl : w0 = (.int i0) := Option.some.inj ei0
  obtain ⟨w_CREATE, ev_CREATE⟩ := exa_v hh2a
  have S_CREATE : Sta s s.heap "com/example/navigable_rest/navigablerest/Operation" "CREATE" "Lcom/example/navigable_rest/navigablerest/Operation;" (.ref w_CREATE) := Sta.start ev_CREATE (Or.inr ⟨(hw _ (List.mem_of_getElem? (i := 2) rfl)), (hw _ (List.mem_of_getElem? (i := 3) rfl))⟩)
  have E_w_CREATE : Exa s s.heap w_CREATE "com/example/navigable_rest/navigablerest/Operation" := Exa.start ev_CREATE hh2a
  obtain ⟨w_DELETE, ev_DELETE⟩ := exa_v hh5a
  have S_DELETE : Sta s s.heap "com/example/navigable_rest/navigablerest/Operation" "DELETE" "Lcom/example/navigable_rest/navigablerest/Operation;" (.ref w_DELETE) := Sta.start ev_DELETE (Or.inr ⟨(hw _ (List.mem_of_getElem? (i := 2) rfl)), (hw _ (List.mem_of_getElem? (i := 19) rfl))⟩)
  have E_w_DELETE : Exa s s.heap w_DELETE "com/example/navigable_rest/navigablerest/Operation" := Exa.start ev_DELETE hh5a
  obtain ⟨w_UPDATE, ev_UPDATE⟩ := exa_v hh8a
  have S_UPDATE : Sta s s.heap "com/example/navigable_rest/navigablerest/Operation" "UPDATE" "Lcom/example/navigable_rest/navigablerest/Operation;" (.ref w_UPDATE) := Sta.start ev_UPDATE (Or.inr ⟨(hw _ (List.mem_of_getElem? (i := 2) rfl)), (hw _ (List.mem_of_getElem? (i := 21) rfl))⟩)
  have E_w_UPDATE : Exa s s.heap w_UPDATE "com/example/navigable_rest/navigablerest/Operation" := Exa.start ev_UPDATE hh8a
  obtain ⟨w_acceptField_w_CREATE, ev_w_acceptField_w_CREATE⟩ := exa_v hh3a
  have E_w_acceptField_w_CREATE : Exa s s.heap w_acceptField_w_CREATE "java/lang/String" := Exa.start ev_w_acceptField_w_CREATE hh3a
  rw [fld_at ev_CREATE] at ev_w_acceptField_w_CREATE
  have F_acceptField_w_CREATE : Fld s s.heap w_CREATE "com/example/navigable_rest/navigablerest/Operation" "acceptField" "Ljava/lang/String;" (.ref w_acceptField_w_CREATE) := Fld.start ev_w_acceptField_w_CREATE
  obtain ⟨w_mediaTypes_w_CREATE, ev_w_mediaTypes_w_CREATE⟩ := exa_v hh4a
  have E_w_mediaTypes_w_CREATE : Exa s s.heap w_mediaTypes_w_CREATE "java/lang/String" := Exa.start ev_w_mediaTypes_w_CREATE hh4a
  rw [fld_at ev_CREATE] at ev_w_mediaTypes_w_CREATE
  have F_mediaTypes_w_CREATE : Fld s s.heap w_CREATE "com/example/navigable_rest/navigablerest/Operation" "mediaTypes" "Ljava/lang/String;" (.ref w_mediaTypes_w_CREATE) := Fld.start ev_w_mediaTypes_w_CREATE
  have ev_w_acceptField_w_DELETE := null_v hh6a
  rw [fld_at ev_DELETE] at ev_w_acceptField_w_DELETE
  have F_acceptField_w_DELETE : Fld s s.heap w_DELETE "com/example/navigable_rest/navigablerest/Operation" "acceptField" "Ljava/lang/String;" .null := Fld.start ev_w_acceptField_w_DELETE
  have ev_w_mediaTypes_w_DELETE := null_v hh7a
  rw [fld_at ev_DELETE] at ev_w_mediaTypes_w_DELETE
  have F_mediaTypes_w_DELETE : Fld s s.heap w_DELETE "com/example/navigable_rest/navigablerest/Operation" "mediaTypes" "Ljava/lang/String;" .null := Fld.start ev_w_mediaTypes_w_DELETE
  obtain ⟨w_acceptField_w_UPDATE, ev_w_acceptField_w_UPDATE⟩ := exa_v hh9a
  have E_w_acceptField_w_UPDATE : Exa s s.heap w_acceptField_w_UPDATE "java/lang/String" := Exa.start ev_w_acceptField_w_UPDATE hh9a
  rw [fld_at ev_UPDATE] at ev_w_acceptField_w_UPDATE
  have F_acceptField_w_UPDATE : Fld s s.heap w_UPDATE "com/example/navigable_rest/navigablerest/Operation" "acceptField" "Ljava/lang/String;" (.ref w_acceptField_w_UPDATE) := Fld.start ev_w_acceptField_w_UPDATE
  obtain ⟨w_mediaTypes_w_UPDATE, ev_w_mediaTypes_w_UPDATE⟩ := exa_v hh9b
  have E_w_mediaTypes_w_UPDATE : Exa s s.heap w_mediaTypes_w_UPDATE "java/lang/String" := Exa.start ev_w_mediaTypes_w_UPDATE hh9b
  rw [fld_at ev_UPDATE] at ev_w_mediaTypes_w_UPDATE
  have F_mediaTypes_w_UPDATE : Fld s s.heap w_UPDATE "com/example/navigable_rest/navigablerest/Operation" "mediaTypes" "Ljava/lang/String;" (.ref w_mediaTypes_w_UPDATE) := Fld.start ev_w_mediaTypes_w_UPDATE
  obtain ⟨n, o, h1, h2, h3, _, L, rfl, ⟨rfl, N⟩, hq⟩ := rm0 l s _ hw tables_1 i0 w_CREATE w_acceptField_w_CREATE w_mediaTypes_w_CREATE w_UPDATE w_acceptField_w_UPDATE w_mediaTypes_w_UPDATE w_DELETE s.heap s.heap.size (Old.start s) S_CREATE F_acceptField_w_CREATE E_w_CREATE F_mediaTypes_w_CREATE S_UPDATE F_acceptField_w_UPDATE E_w_UPDATE F_mediaTypes_w_UPDATE S_DELETE F_acceptField_w_DELETE E_w_DELETE F_mediaTypes_w_DELETE p e ha hc hk s m _ below hf ((Spec.applies_iff_loose hf).mp happ).1 ⟨rfl, State.Warmed39.refl s, rfl⟩ trivial
  refine ⟨n, _, h1, h2, h3, hpost _ _ _ _ _ _ ⟨Cond.after_iff.mpr rfl, Cond.after_iff.mpr (eq_i res_at (Term.int_eval (1)) rfl), trivial⟩ ⟨hq.1, hq.2.1, (hq.2.2.sift fun y hy => Or.inr (N y hy)).mono (by decide) (by decide)⟩⟩
theorem main_1_1 : Claimed_1_1 := comes_1 fun _ _ _ _ _ _ h hF => ⟨h.1, hF⟩
theorem main_1_2 : Claimed_1_2 := comes_1 fun _ _ _ _ _ _ h hF => ⟨h.2.1, hF⟩
end Jvm.Pilot.@@N@@
namespace Jvm.Pilot.@@N@@
open Jvm Jvm.ClassFile Sem Op Lib Jvm.Free Jvm.Stand Jvm.Pilot.@@N@@.Jvm.D
/-! MADE BY PROGRAM (witnessworld.py) out of the Statement's table words and the real class files: 15 classes; the members and pool entries that the words name. The judged class is class 1, her method 1. -/
namespace start1
open Jvm.ClassFile
def u (s : String) : CpInfo := .utf8 (stringToUtf16 s)
/-- a pool by its gaps: so many unusable entries, then the entry; so many at the end -/
def gap : Nat → List CpInfo → List CpInfo
  | 0, r => r
  | n + 1, r => .unusable :: gap n r
def poolList (es : List (Nat × CpInfo)) (last : Nat) : List CpInfo := es.foldr (fun e r => gap e.1 (e.2 :: r)) (gap last [])
def pool (es : List (Nat × CpInfo)) (last : Nat) : Array CpInfo := ⟨poolList es last⟩
def fileOf (pool : Array CpInfo) (this : Nat) (attrs : Array Attribute := #[]) (ms : Array MethodInfo := #[]) (fl : Nat := 33) (sup : Nat := 0) (ifs : Array Nat := #[]) (fds : Array FieldInfo := #[]) : ClassFile where
  minorVersion := 0
  majorVersion := 65
  constantPool := pool
  accessFlags := fl
  thisClass := this
  superClass := sup
  interfaces := ifs
  fields := fds
  methods := ms
  attributes := attrs
def plain (name : String) (sup : Option ClassId) : Class where
  name := name
  kind := .ordinary
  loader := none
  accessFlags := 33
  super := sup
  interfaces := #[]
  cf := none
  fields := #[]
  methods := #[]
  instanceTypes := #[]
  staticTypes := #[]
  resolved := #[]
  callSites := []
  init := .initialized
  statics := none
  mirror := none

def pool0 : Array CpInfo := pool [(5, u "<init>"), (0, u "()V"), (1, .class_ 10), (1, u "java/lang/Object")] 113

def k0m0 : Method := { name := "<init>", desc := "()V", sig := { parameters := [], returnType := none }, accessFlags := 1, code := none }
/-- java/lang/Object -/
def k0 : Class := { plain "java/lang/Object" none with
  accessFlags := 33
  interfaces := #[]
  cf := some (fileOf pool0 8 #[] #[{ accessFlags := 1, nameIndex := 5, descriptorIndex := 6, attributes := #[] }] 33 0 #[] #[])
  fields := #[]
  methods := #[k0m0]
  instanceTypes := #[]
  staticTypes := #[]
  resolved := Array.replicate 124 none
  statics := none }

def pool1 : Array CpInfo := pool [(2, .class_ 4), (1, u "java/lang/Object"), (0, u "<init>"), (0, u "()V"), (0, .integer 2147483647), (0, .fieldref 9 10), (0, .class_ 11), (0, .nameAndType 12 13), (0, u "com/example/navigable_rest/navigablerest/Operation"), (0, u "CREATE"), (0, u "Lcom/example/navigable_rest/navigablerest/Operation;"), (0, .fieldref 9 15), (0, .nameAndType 16 13), (0, u "UPDATE"), (0, .fieldref 9 18), (0, .nameAndType 19 13), (0, u "DELETE"), (0, .methodref 9 21), (0, .nameAndType 22 23), (0, u "takesBody"), (0, u "()Z"), (0, .methodref 9 25), (0, .nameAndType 26 27), (0, u "mediaTypes"), (0, u "()Ljava/lang/String;"), (0, .class_ 29), (0, u "com/example/navigable_rest/navigablerest/OperationTakesBodyPinLaw"), (2, u "law"), (0, u "(I)Z")] 3

def k1m0 : Method := { name := "<init>", desc := "()V", sig := { parameters := [], returnType := none }, accessFlags := 1, code := none }
def k1c1 : Code := { maxStack := 2, maxLocals := 6, code := code, exceptionTable := #[], attributes := #[] }
def k1m1 : Method := { name := "law", desc := "(I)Z", sig := { parameters := [.int], returnType := some .boolean }, accessFlags := 9, code := some k1c1 }
/-- com/example/navigable_rest/navigablerest/OperationTakesBodyPinLaw -/
def k1 : Class := { plain "com/example/navigable_rest/navigablerest/OperationTakesBodyPinLaw" (some 0) with
  accessFlags := 49
  interfaces := #[]
  cf := some (fileOf pool1 28 #[] #[{ accessFlags := 1, nameIndex := 5, descriptorIndex := 6, attributes := #[] }, { accessFlags := 9, nameIndex := 32, descriptorIndex := 33, attributes := #[] }] 49 2 #[] #[])
  fields := #[]
  methods := #[k1m0, k1m1]
  instanceTypes := #[]
  staticTypes := #[]
  resolved := Array.replicate 37 none
  statics := none }

def pool2 : Array CpInfo := pool [(1, .class_ 2), (0, u "java/lang/constant/Constable"), (0, .class_ 4), (0, u "java/lang/Object")] 6

/-- java/lang/constant/Constable -/
def k2 : Class := { plain "java/lang/constant/Constable" (some 0) with
  accessFlags := 1537
  interfaces := #[]
  cf := some (fileOf pool2 1 #[] #[] 1537 3 #[] #[])
  fields := #[]
  methods := #[]
  instanceTypes := #[]
  staticTypes := #[]
  resolved := Array.replicate 11 none
  statics := none }

def pool3 : Array CpInfo := pool [(1, .class_ 2), (0, u "java/lang/Comparable"), (0, .class_ 4), (0, u "java/lang/Object")] 7

/-- java/lang/Comparable -/
def k3 : Class := { plain "java/lang/Comparable" (some 0) with
  accessFlags := 1537
  interfaces := #[]
  cf := some (fileOf pool3 1 #[] #[] 1537 3 #[] #[])
  fields := #[]
  methods := #[]
  instanceTypes := #[]
  staticTypes := #[]
  resolved := Array.replicate 12 none
  statics := none }

def pool4 : Array CpInfo := pool [(1, .class_ 2), (0, u "java/io/Serializable"), (0, .class_ 4), (0, u "java/lang/Object")] 2

/-- java/io/Serializable -/
def k4 : Class := { plain "java/io/Serializable" (some 0) with
  accessFlags := 1537
  interfaces := #[]
  cf := some (fileOf pool4 1 #[] #[] 1537 3 #[] #[])
  fields := #[]
  methods := #[]
  instanceTypes := #[]
  staticTypes := #[]
  resolved := Array.replicate 7 none
  statics := none }

def pool5 : Array CpInfo := pool [(2, .class_ 4), (1, u "java/lang/Enum"), (0, u "name"), (0, u "Ljava/lang/String;"), (2, u "ordinal"), (0, u "I"), (1, .class_ 14), (1, u "java/lang/Object"), (4, u "hash"), (86, .class_ 108), (1, u "java/lang/Enum$EnumDesc"), (2, .class_ 112), (0, u "java/lang/constant/Constable"), (0, .class_ 114), (0, u "java/lang/Comparable"), (0, .class_ 116), (0, u "java/io/Serializable")] 87

/-- java/lang/Enum -/
def k5 : Class := { plain "java/lang/Enum" (some 0) with
  accessFlags := 1057
  interfaces := #[2, 3, 4]
  cf := some (fileOf pool5 2 #[.nestMembers #[106]] #[] 1057 12 #[111, 113, 115] #[{ accessFlags := 18, nameIndex := 5, descriptorIndex := 6, attributes := #[] }, { accessFlags := 18, nameIndex := 9, descriptorIndex := 10, attributes := #[] }, { accessFlags := 2, nameIndex := 19, descriptorIndex := 10, attributes := #[] }])
  fields := #[{ name := "name", type := (.object "java/lang/String"), accessFlags := 18, slot := 0, constantValue := 0 }, { name := "ordinal", type := .int, accessFlags := 18, slot := 1, constantValue := 0 }, { name := "hash", type := .int, accessFlags := 2, slot := 2, constantValue := 0 }]
  methods := #[]
  instanceTypes := #[(.object "java/lang/String"), .int, .int]
  staticTypes := #[]
  resolved := Array.replicate 204 none
  statics := none }

def pool6 : Array CpInfo := pool [(1, .class_ 2), (0, u "com/example/navigable_rest/navigablerest/Operation"), (2, u "CREATE"), (0, u "Lcom/example/navigable_rest/navigablerest/Operation;"), (2, u "UPDATE"), (2, u "DELETE"), (2, u "$VALUES"), (0, u "[Lcom/example/navigable_rest/navigablerest/Operation;"), (6, .class_ 25), (1, u "java/lang/Enum"), (8, u "method"), (0, u "Lcom/example/navigable_rest/navigablerest/Method;"), (2, u "onItem"), (0, u "Z"), (0, .fieldref 1 41), (0, .nameAndType 42 43), (0, u "acceptField"), (0, u "Ljava/lang/String;"), (0, .fieldref 1 45), (0, .nameAndType 46 43), (0, u "mediaTypes"), (7, u "()Ljava/lang/String;"), (71, u "()Z"), (0, u "takesBody")] 8

def k6c0 : Code := { maxStack := 1, maxLocals := 1, code := prog_10_method_9_code, exceptionTable := #[], attributes := #[] }
def k6m0 : Method := { name := "takesBody", desc := "()Z", sig := { parameters := [], returnType := some .boolean }, accessFlags := 0, code := some k6c0 }
def k6c1 : Code := { maxStack := 1, maxLocals := 1, code := prog_10_method_11_code, exceptionTable := #[], attributes := #[] }
def k6m1 : Method := { name := "mediaTypes", desc := "()Ljava/lang/String;", sig := { parameters := [], returnType := some (.object "java/lang/String") }, accessFlags := 0, code := some k6c1 }
/-- com/example/navigable_rest/navigablerest/Operation -/
def k6 : Class := { plain "com/example/navigable_rest/navigablerest/Operation" (some 5) with
  accessFlags := 16433
  interfaces := #[]
  cf := some (fileOf pool6 1 #[] #[{ accessFlags := 0, nameIndex := 127, descriptorIndex := 126, attributes := #[] }, { accessFlags := 0, nameIndex := 46, descriptorIndex := 54, attributes := #[] }] 16433 23 #[] #[{ accessFlags := 16409, nameIndex := 5, descriptorIndex := 6, attributes := #[] }, { accessFlags := 16409, nameIndex := 9, descriptorIndex := 6, attributes := #[] }, { accessFlags := 16409, nameIndex := 12, descriptorIndex := 6, attributes := #[] }, { accessFlags := 18, nameIndex := 34, descriptorIndex := 35, attributes := #[] }, { accessFlags := 18, nameIndex := 38, descriptorIndex := 39, attributes := #[] }, { accessFlags := 18, nameIndex := 42, descriptorIndex := 43, attributes := #[] }, { accessFlags := 18, nameIndex := 46, descriptorIndex := 43, attributes := #[] }, { accessFlags := 4122, nameIndex := 15, descriptorIndex := 16, attributes := #[] }])
  fields := #[{ name := "CREATE", type := (.object "com/example/navigable_rest/navigablerest/Operation"), accessFlags := 16409, slot := 0, constantValue := 0 }, { name := "UPDATE", type := (.object "com/example/navigable_rest/navigablerest/Operation"), accessFlags := 16409, slot := 1, constantValue := 0 }, { name := "DELETE", type := (.object "com/example/navigable_rest/navigablerest/Operation"), accessFlags := 16409, slot := 2, constantValue := 0 }, { name := "method", type := (.object "com/example/navigable_rest/navigablerest/Method"), accessFlags := 18, slot := 3, constantValue := 0 }, { name := "onItem", type := .boolean, accessFlags := 18, slot := 4, constantValue := 0 }, { name := "acceptField", type := (.object "java/lang/String"), accessFlags := 18, slot := 5, constantValue := 0 }, { name := "mediaTypes", type := (.object "java/lang/String"), accessFlags := 18, slot := 6, constantValue := 0 }, { name := "$VALUES", type := (.array (.object "com/example/navigable_rest/navigablerest/Operation")), accessFlags := 4122, slot := 3, constantValue := 0 }]
  methods := #[k6m0, k6m1]
  instanceTypes := #[(.object "java/lang/String"), .int, .int, (.object "com/example/navigable_rest/navigablerest/Method"), .boolean, (.object "java/lang/String"), (.object "java/lang/String")]
  staticTypes := #[(.object "com/example/navigable_rest/navigablerest/Operation"), (.object "com/example/navigable_rest/navigablerest/Operation"), (.object "com/example/navigable_rest/navigablerest/Operation"), (.array (.object "com/example/navigable_rest/navigablerest/Operation"))]
  resolved := Array.replicate 136 none
  statics := some 0 }

def pool7 : Array CpInfo := pool [(2, .class_ 4), (1, u "java/lang/CharSequence"), (42, .class_ 48), (0, u "java/lang/CharSequence$1CodePointIterator"), (10, .class_ 60), (0, u "java/lang/CharSequence$1CharIterator"), (5, .class_ 67), (0, u "java/lang/Object")] 63

/-- java/lang/CharSequence -/
def k7 : Class := { plain "java/lang/CharSequence" (some 0) with
  accessFlags := 1537
  interfaces := #[]
  cf := some (fileOf pool7 2 #[.nestMembers #[47, 59]] #[] 1537 66 #[] #[])
  fields := #[]
  methods := #[]
  instanceTypes := #[]
  staticTypes := #[]
  resolved := Array.replicate 131 none
  statics := none }

def pool8 : Array CpInfo := pool [(1, .class_ 2), (0, u "java/lang/constant/ConstantDesc"), (0, .class_ 4), (0, u "java/lang/Object")] 32

/-- java/lang/constant/ConstantDesc -/
def k8 : Class := { plain "java/lang/constant/ConstantDesc" (some 0) with
  accessFlags := 1537
  interfaces := #[]
  cf := some (fileOf pool8 1 #[] #[] 1537 3 #[] #[])
  fields := #[]
  methods := #[]
  instanceTypes := #[]
  staticTypes := #[]
  resolved := Array.replicate 37 none
  statics := none }

def pool9 : Array CpInfo := pool [(2, .class_ 4), (1, u "java/lang/Object"), (0, u "<init>"), (0, u "()V"), (3, .class_ 12), (1, u "java/lang/String"), (0, u "value"), (0, u "[B"), (2, u "coder"), (0, u "B"), (2, u "hash"), (0, u "I"), (2, u "hashIsZero"), (0, u "Z"), (13, u "COMPACT_STRINGS"), (534, .class_ 576), (0, u "java/lang/CharSequence"), (22, u "CASE_INSENSITIVE_ORDER"), (0, u "Ljava/util/Comparator;"), (500, u "serialPersistentFields"), (0, u "[Ljava/io/ObjectStreamField;"), (0, .class_ 1104), (0, u "java/lang/String$CaseInsensitiveComparator"), (1, .class_ 1107), (0, u "java/io/Serializable"), (0, .class_ 1109), (0, u "java/lang/Comparable"), (0, .class_ 1111), (0, u "java/lang/constant/Constable"), (0, .class_ 1113), (0, u "java/lang/constant/ConstantDesc"), (2, u "serialVersionUID"), (0, u "J"), (3, u "REPL"), (0, u "C"), (2, u "LATIN1"), (1, u "UTF16")] 323

def k9m0 : Method := { name := "<init>", desc := "()V", sig := { parameters := [], returnType := none }, accessFlags := 1, code := none }
/-- java/lang/String -/
def k9 : Class := { plain "java/lang/String" (some 0) with
  accessFlags := 49
  interfaces := #[4, 3, 7, 2, 8]
  cf := some (fileOf pool9 10 #[.nestMembers #[1103]] #[{ accessFlags := 1, nameIndex := 5, descriptorIndex := 6, attributes := #[] }] 49 2 #[1106, 1108, 575, 1110, 1112] #[{ accessFlags := 18, nameIndex := 13, descriptorIndex := 14, attributes := #[] }, { accessFlags := 18, nameIndex := 17, descriptorIndex := 18, attributes := #[] }, { accessFlags := 2, nameIndex := 21, descriptorIndex := 22, attributes := #[] }, { accessFlags := 2, nameIndex := 25, descriptorIndex := 26, attributes := #[] }, { accessFlags := 26, nameIndex := 1116, descriptorIndex := 1117, attributes := #[] }, { accessFlags := 24, nameIndex := 40, descriptorIndex := 26, attributes := #[] }, { accessFlags := 26, nameIndex := 1101, descriptorIndex := 1102, attributes := #[] }, { accessFlags := 26, nameIndex := 1121, descriptorIndex := 1122, attributes := #[] }, { accessFlags := 25, nameIndex := 599, descriptorIndex := 600, attributes := #[] }, { accessFlags := 24, nameIndex := 1125, descriptorIndex := 18, attributes := #[] }, { accessFlags := 24, nameIndex := 1127, descriptorIndex := 18, attributes := #[] }])
  fields := #[{ name := "value", type := (.array .byte), accessFlags := 18, slot := 0, constantValue := 0 }, { name := "coder", type := .byte, accessFlags := 18, slot := 1, constantValue := 0 }, { name := "hash", type := .int, accessFlags := 2, slot := 2, constantValue := 0 }, { name := "hashIsZero", type := .boolean, accessFlags := 2, slot := 3, constantValue := 0 }, { name := "serialVersionUID", type := .long, accessFlags := 26, slot := 0, constantValue := 0 }, { name := "COMPACT_STRINGS", type := .boolean, accessFlags := 24, slot := 1, constantValue := 0 }, { name := "serialPersistentFields", type := (.array (.object "java/io/ObjectStreamField")), accessFlags := 26, slot := 2, constantValue := 0 }, { name := "REPL", type := .char, accessFlags := 26, slot := 3, constantValue := 0 }, { name := "CASE_INSENSITIVE_ORDER", type := (.object "java/util/Comparator"), accessFlags := 25, slot := 4, constantValue := 0 }, { name := "LATIN1", type := .byte, accessFlags := 24, slot := 5, constantValue := 0 }, { name := "UTF16", type := .byte, accessFlags := 24, slot := 6, constantValue := 0 }]
  methods := #[k9m0]
  instanceTypes := #[(.array .byte), .byte, .int, .boolean]
  staticTypes := #[.long, .boolean, (.array (.object "java/io/ObjectStreamField")), .char, (.object "java/util/Comparator"), .byte, .byte]
  resolved := Array.replicate 1451 none
  statics := none }

def pool10 : Array CpInfo := pool [(1, u "java/lang/Cloneable"), (0, .class_ 1), (0, u "java/lang/Object"), (0, .class_ 3)] 3

/-- java/lang/Cloneable -/
def k10 : Class := { plain "java/lang/Cloneable" (some 0) with
  accessFlags := 1537
  interfaces := #[]
  cf := some (fileOf pool10 2 #[] #[] 1537 4 #[] #[])
  fields := #[]
  methods := #[]
  instanceTypes := #[]
  staticTypes := #[]
  resolved := Array.replicate 8 none
  statics := none }

/-- the primitive byte -/
def k11 : Class := { plain "byte" none with kind := .primitive 'B', accessFlags := 0x411 }
/-- [B -/
def k12 : Class := { plain "[B" (some 0) with kind := .array 11 .byte, interfaces := #[10, 4], accessFlags := 1041 }

/-- the primitive int -/
def k13 : Class := { plain "int" none with kind := .primitive 'I', accessFlags := 0x411 }
/-- [I -/
def k14 : Class := { plain "[I" (some 0) with kind := .array 13 .int, interfaces := #[10, 4], accessFlags := 1041 }

def heap : Heap := #[{ cls := 6, slots := #[.ref 1, .ref 2, .ref 3, .null], vm := .statics 6 },
  { cls := 6, slots := #[.null, .int 0, .int 0, .null, .int 0, .ref 4, .ref 4], vm := .none },
  { cls := 6, slots := #[.null, .int 1, .int 0, .null, .int 0, .ref 4, .ref 4], vm := .none },
  { cls := 6, slots := #[.null, .int 2, .int 0, .null, .int 0, .null, .null], vm := .none },
  { cls := 9, slots := #[.null, .int 0, .int 0, .int 0], vm := .none }]
def classes : Array Class := #[k0, k1, k2, k3, k4, k5, k6, k7, k8, k9, k10, k11, k12, k13, k14]
def interned : List (Array UInt16 × Addr) := []
def slotsUsed : Nat := 29
def theMethod : MethodId := ⟨1, 1⟩
def args0 : Array Value := #[.int 5]
def aboutOver (below : List Frame) : State where
  vm := { classes := classes, interned := interned.toArray }
  heap := heap
  slotsUsed := slotsUsed
  threads := #[{ frames := .invoking theMethod args0 :: below }]
def below0 : List Frame := [.native { method := ⟨0, 0⟩, args := #[] }]
def about1 : State := aboutOver below0
def p0 : Program := .bare "" "" ""
def e0 : Env := launch0.env 0 0 0
theorem w_frames : about1.frames = Frame.invoking theMethod args0 :: below0 := rfl
set_option maxRecDepth 65536 in
theorem w_args : argsFit about1.vm theMethod args0 = true := by decide +kernel
set_option maxRecDepth 65536 in
theorem w_heap : heapFits about1 = true := by decide +kernel
set_option maxRecDepth 65536 in
theorem w_runnable : about1.curStatus? = some .runnable := by decide +kernel
set_option maxRecDepth 65536 in
theorem w_alone : about1.alone = true := by decide +kernel
set_option maxRecDepth 65536 in
theorem w_named : about1.methodNamed? x = some theMethod := by decide +kernel
set_option maxRecDepth 65536 in
theorem w_hears : about1.hears theMethod below0 = true := by decide +kernel
set_option maxRecDepth 65536 in
theorem w_ripe : about1.ripe theMethod args0 below0 = true := by decide +kernel
theorem w_running : about1.status = .running := rfl
set_option maxRecDepth 65536 in
theorem w_room : about1.hasRoom e0.platform room_1 = true :=
  launch0.hasRoom_least _ room_1 (by decide +kernel) (by decide +kernel) (by decide +kernel) (by decide +kernel) (by decide +kernel) (by decide +kernel)
theorem allAtoms_all (ts : List Jvm.Cond) (a : Array Jvm.Value) (st : Jvm.State) : (allAtoms ts).before a st = ts.all (fun c => c.before a st) := by
  induction ts with
  | nil => rfl
  | cons c t ih =>
    show (Jvm.Cond.and c (allAtoms t)).before a st = _
    rw [Jvm.Cond.before_and, ih, List.all_cons]
def words1 : List Jvm.Cond := Jvm.Cond.code x code maxLocals ret :: tables_1
/-- a 'code' word, met by the world's own term for the bytes: nothing is compared byte by byte -/
theorem code_word {y : MethodName} {bytes : ByteArray} {mx : Nat} {rt : Option FieldType} {a : Array Value} {s : State} {m : MethodId} {meth : Method} {c : Code} (h1 : s.methodNamed? y = some m) (h2 : s.vm.method? m = some meth) (h3 : meth.code = some c) (h4 : c.code = bytes)
    (h5 : (c.maxLocals == mx && c.exceptionTable.isEmpty && decide (c.maxStack ≤ mostOperands) && decide (meth.sig.returnType = rt) && !meth.locks && decide (parseMethodDescriptor y.desc = some meth.sig)) = true) : (Jvm.Cond.code y bytes mx rt).before a s = true := by
  simp only [Bool.and_eq_true, beq_iff_eq, Bool.not_eq_true', decide_eq_true_eq] at h5
  obtain ⟨⟨⟨⟨⟨g1, g2⟩, g3⟩, g4⟩, g5⟩, g6⟩ := h5
  simp [Cond.before, Cond.holds, Cond.value, h1, h2, h3, h4, g1, g2, g3, g4, g5, g6]
def isCode : Jvm.Cond → Bool
  | .code _ _ _ _ => true
  | _ => false
theorem all_split {L : List Jvm.Cond} {P : Jvm.Cond → Bool} (h1 : L.all (fun c => isCode c || P c) = true) (h2 : ∀ c ∈ L.filter isCode, P c = true) : L.all P = true := by
  refine List.all_eq_true.mpr fun c hc => ?_
  have h := List.all_eq_true.mp h1 c hc
  rcases Bool.eq_false_or_eq_true (isCode c) with hi | hi
  · exact h2 c (List.mem_filter.mpr ⟨hc, hi⟩)
  · simpa [hi] using h
set_option maxRecDepth 65536 in
theorem w_c0 : (Jvm.Cond.code x code maxLocals ret).before args0 about1 = true := code_word (m := ⟨1, 1⟩) (meth := k1m1) (c := k1c1) (by decide +kernel) rfl rfl rfl (by decide +kernel)
set_option maxRecDepth 65536 in
theorem w_c1 : (Jvm.Cond.code ({ cls := "com/example/navigable_rest/navigablerest/Operation", name := "takesBody", desc := "()Z" } : Jvm.MethodName) prog_10_method_9_code (1 : Nat) (Option.some Jvm.ClassFile.FieldType.boolean)).before args0 about1 = true := code_word (m := ⟨6, 0⟩) (meth := k6m0) (c := k6c0) (by decide +kernel) rfl rfl rfl (by decide +kernel)
set_option maxRecDepth 65536 in
theorem w_c2 : (Jvm.Cond.code ({ cls := "com/example/navigable_rest/navigablerest/Operation", name := "mediaTypes", desc := "()Ljava/lang/String;" } : Jvm.MethodName) prog_10_method_11_code (1 : Nat) (Option.some (Jvm.ClassFile.FieldType.object "java/lang/String"))).before args0 about1 = true := code_word (m := ⟨6, 1⟩) (meth := k6m1) (c := k6c1) (by decide +kernel) rfl rfl rfl (by decide +kernel)
def codes1 : List Jvm.Cond := [Jvm.Cond.code x code maxLocals ret, Jvm.Cond.code ({ cls := "com/example/navigable_rest/navigablerest/Operation", name := "takesBody", desc := "()Z" } : Jvm.MethodName) prog_10_method_9_code (1 : Nat) (Option.some Jvm.ClassFile.FieldType.boolean), Jvm.Cond.code ({ cls := "com/example/navigable_rest/navigablerest/Operation", name := "mediaTypes", desc := "()Ljava/lang/String;" } : Jvm.MethodName) prog_10_method_11_code (1 : Nat) (Option.some (Jvm.ClassFile.FieldType.object "java/lang/String"))]
set_option maxRecDepth 65536 in
theorem codes_eq : words1.filter isCode = codes1 := rfl
theorem w_codes : ∀ c ∈ words1.filter isCode, c.before args0 about1 = true := by
  rw [codes_eq]
  intro c hc
  simp only [codes1, List.mem_cons, List.not_mem_nil, or_false] at hc
  rcases hc with rfl | rfl | rfl
  · exact w_c0
  · exact w_c1
  · exact w_c2
set_option maxRecDepth 65536 in
theorem w_t1 : words1.all (fun c => isCode c || c.before args0 about1) = true := by decide +kernel
theorem w_tables : (allAtoms (Jvm.Cond.code x code maxLocals ret :: tables_1)).before args0 about1 = true := by
  rw [allAtoms_all]
  show words1.all (fun c => c.before args0 about1) = true
  refine all_split ?_ w_codes
  rw [w_t1]
set_option maxRecDepth 65536 in
theorem w_case : (Jvm.Cond.and given_1 narrow_1).before args0 about1 = true := by decide +kernel
theorem w_applies : (headSpec (Jvm.Cond.code x code maxLocals ret :: tables_1) room_1).applies x e0.platform about1 = true :=
  (Spec.applies_iff w_frames).mpr ⟨w_running, w_runnable, w_alone, w_named, w_hears, w_ripe, w_room, w_tables⟩
theorem atStart : AtStart classFile x code maxLocals ret World_1 tables_1 room_1 Calls_1 rest_1 Pre_1 launch0 p0 e0 about1 theMethod args0 below0 :=
  ⟨lists_1, trivial, launch0.admits_env _ _ _, launch0.least_env, fairChoices_fair.cas, fairChoices_fair.clock, w_frames, w_args, w_heap, w_applies, trivial, trivial, w_case⟩
end start1
theorem witness_1 : WitnessClaimed_1 := ⟨start1.p0, start1.e0, start1.about1, start1.theMethod, start1.args0, start1.below0, start1.atStart⟩
end Jvm.Pilot.@@N@@
