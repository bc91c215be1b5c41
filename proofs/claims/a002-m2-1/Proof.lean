import JvmDerived
import JvmDerived.Pilot.@@N@@Statement
import JvmDerived.Pilot.@@N@@Code
set_option linter.unusedVariables false
set_option linter.unusedSimpArgs false
namespace Jvm.Pilot.@@N@@
open Jvm Jvm.ClassFile Sem Op Lib Jvm.Free Jvm.Stand Jvm.LawKit Jvm.RoadKit Bundle Jvm.Pilot.@@N@@.Jvm.D
/-- from the state st the run ends, of which Q says what it leaves -/
def own_Ends (tb : Tables) (e : Env) (below : List Frame) (s : State) (Q : Option Value → Heap → List Loc → Prop) (C S : Nat) (st : State) : Prop :=
  ∃ t o, Steps tb e below st t ∧ t.status = .running ∧ Ended t below o ∧ ∃ v L, o = .returned v ∧ Q v t.heap L ∧ FrameEnd s o t L C S
theorem own_step {tb : Tables} {e : Env} {below : List Frame} {s : State} {Q : Option Value → Heap → List Loc → Prop} {C S : Nat} {st st' : State}
    (h : ∀ t, Steps tb e below st' t → Steps tb e below st t) (k : own_Ends tb e below s Q C S st') : own_Ends tb e below s Q C S st := by
  obtain ⟨t, o, h1, h2⟩ := k
  exact ⟨t, o, h t h1, h2⟩
section OwnRet
variable {p : Program} {l : Launch} {e : Env} {R : Room} {s : State} {m : MethodId} {args : Array Value} {below : List Frame} {meth : Method} {c : Code} {T : State} {locs : List Loc} {cells slots : Nat} {Q : Option Value → Heap → List Loc → Prop} {C S : Nat} {pc : Nat} {Ls : Array Slot} {rest : List Value}
theorem own_retW (X : Stand p l e R s m args below meth c T locs cells slots) (hx : p.tables.exec = Jvm.exec) {w : Value} {t : FieldType} {i : Instr} (hret : meth.sig.returnType = some t) (hn : narrow t w = w)
    (hi : (i = .ireturn ∧ (t = .int ∨ t = .boolean ∨ t = .byte ∨ t = .char ∨ t = .short) ∧ ∃ z, w = .int z) ∨ (i = .lreturn ∧ t = .long ∧ ∃ z, w = .long z) ∨ (i = .dreturn ∧ t = .double ∧ ∃ z, w = .double z) ∨ (i = .freturn ∧ t = .float ∧ ∃ z, w = .float z) ∨ (i = .areturn ∧ t.isReference = true ∧ w.isRef = true))
    (hd : decode c.code pc = .ok (i, 1)) (hlocks : meth.locks = false) (hq : Q (some w) T.heap locs) (hc : cells ≤ C) (hs : slots ≤ S) :
    own_Ends p.tables e below s Q C S (T.setTop (mkF m pc Ls (w :: rest))) := by
  obtain ⟨fs, hr, hrun, hended, hW, hsame⟩ := X.leave (v := some w) (fun h => by rw [hret] at h; cases h) hlocks
  exact ⟨_, _, retOut X hx hret hn hi hd hr, hrun, hended, _, _, rfl, hq, ⟨_, rfl⟩, hW, hsame.mono hc hs⟩
theorem own_retI (X : Stand p l e R s m args below meth c T locs cells slots) (hx : p.tables.exec = Jvm.exec) {z : Int32} (hret : meth.sig.returnType = some .int)
    (hd : decode c.code pc = .ok (.ireturn, 1)) (hlocks : meth.locks = false) (hq : Q (some (.int z)) T.heap locs) (hc : cells ≤ C) (hs : slots ≤ S) :
    own_Ends p.tables e below s Q C S (T.setTop (mkF m pc Ls (.int z :: rest))) :=
  own_retW X hx hret rfl (Or.inl ⟨rfl, Or.inl rfl, z, rfl⟩) hd hlocks hq hc hs
theorem own_retJ (X : Stand p l e R s m args below meth c T locs cells slots) (hx : p.tables.exec = Jvm.exec) {z : Int64} (hret : meth.sig.returnType = some .long)
    (hd : decode c.code pc = .ok (.lreturn, 1)) (hlocks : meth.locks = false) (hq : Q (some (.long z)) T.heap locs) (hc : cells ≤ C) (hs : slots ≤ S) :
    own_Ends p.tables e below s Q C S (T.setTop (mkF m pc Ls (.long z :: rest))) :=
  own_retW X hx hret rfl (Or.inr (Or.inl ⟨rfl, rfl, z, rfl⟩)) hd hlocks hq hc hs
theorem own_retR (X : Stand p l e R s m args below meth c T locs cells slots) (hx : p.tables.exec = Jvm.exec) {w : Value} {t : FieldType} (hret : meth.sig.returnType = some t) (ht : t.isReference = true) (hw : w.isRef = true) (hn : narrow t w = w)
    (hd : decode c.code pc = .ok (.areturn, 1)) (hlocks : meth.locks = false) (hq : Q (some w) T.heap locs) (hc : cells ≤ C) (hs : slots ≤ S) :
    own_Ends p.tables e below s Q C S (T.setTop (mkF m pc Ls (w :: rest))) :=
  own_retW X hx hret hn (Or.inr (Or.inr (Or.inr (Or.inr ⟨rfl, ht, hw⟩)))) hd hlocks hq hc hs
theorem own_retN (X : Stand p l e R s m args below meth c T locs cells slots) (hx : p.tables.exec = Jvm.exec) {z : Int32} {t : FieldType} (hret : meth.sig.returnType = some t) (ht : t = .boolean ∨ t = .byte ∨ t = .char ∨ t = .short)
    (hd : decode c.code pc = .ok (.ireturn, 1)) (hlocks : meth.locks = false) (hq : Q (some (.int (nar t z))) T.heap locs) (hc : cells ≤ C) (hs : slots ≤ S) :
    own_Ends p.tables e below s Q C S (T.setTop (mkF m pc Ls (.int z :: rest))) := by
  obtain ⟨fs, hr, hrun, hended, hW, hsame⟩ := X.leave (v := some (.int (nar t z))) (fun h => by rw [hret] at h; cases h) hlocks
  exact ⟨_, _, retN X hx hret ht hd hr, hrun, hended, _, _, rfl, hq, ⟨_, rfl⟩, hW, hsame.mono hc hs⟩
theorem own_ret0 (X : Stand p l e R s m args below meth c T locs cells slots) (hx : p.tables.exec = Jvm.exec) (hret : meth.sig.returnType = none)
    (hd : decode c.code pc = .ok (.return_, 1)) (hlocks : meth.locks = false) (hq : Q none T.heap locs) (hc : cells ≤ C) (hs : slots ≤ S) :
    own_Ends p.tables e below s Q C S (T.setTop (mkF m pc Ls [])) := by
  obtain ⟨fs, hr, hrun, hended, hW, hsame⟩ := X.leave (v := none) (fun _ => rfl) hlocks
  exact ⟨_, _, X.returnOut hx hret hd hr, hrun, hended, _, _, rfl, hq, ⟨_, rfl⟩, hW, hsame.mono hc hs⟩
end OwnRet
theorem own_idx (b n : Int32) (hn : 0 < n.toInt) : ¬ ((b &&& 2147483647) % n) < 0 ∧ ((b &&& 2147483647) % n) < n := by
  have h1 := c_and b 2147483647 (by decide)
  have h2 := (c_iremV (b &&& 2147483647) n).1 h1.1 hn
  constructor
  · rw [Int32.lt_iff_toInt_lt]; show ¬ _ < (0 : Int); omega
  · rw [Int32.lt_iff_toInt_lt]; omega
theorem own_small (v : Int32) (k : Nat) (hk : k < 2147483648) (h1 : ¬ v < 0) (h2 : v < Int32.ofNat k) : ∃ n : Fin k, v = Int32.ofNat n.1 := by
  rw [Int32.lt_iff_toInt_lt] at h1 h2
  rw [Int32.toInt_ofNat_of_lt hk] at h2
  have a : 0 ≤ v.toInt := by simpa using h1
  refine ⟨⟨v.toInt.toNat, by omega⟩, ?_⟩
  apply Int32.toInt_inj.mp
  rw [Int32.toInt_ofNat_of_lt (by show v.toInt.toNat < _; omega)]
  show v.toInt = ((v.toInt.toNat : Nat) : Int)
  omega
section OwnRef
variable {p : Program} {l : Launch} {e : Env} {R : Room} {s : State} {m : MethodId} {args : Array Value} {below : List Frame} {meth : Method} {c : Code} {T : State} {locs : List Loc} {cells slots : Nat} {Z : State} {a0 : Array Value} {h : Heap}
theorem own_ready (X : Stand p l e R s m args below meth c T locs cells slots) (hZ : Z.Warmed39 s.vm) {own O n d : String} {index : Nat} (hown : s.vm.findClass own = some m.cls) (w : (Jvm.Cond.fieldRef own index O n d).before a0 Z = true)
    {cf i : Nat} {k : Class} {f : Field} (h2 : Z.fieldFound? O n d = some (cf, k, i, f)) : T.vm.fieldReady m.cls index cf f := by
  have hT : Z.Warmed39 T.vm := wtrans hZ X.warmed
  have w1 := Cond.fieldRef_warmed39 hT w
  have hc : (Z.setVm T.vm).vm.findClass own = some m.cls := by
    show T.vm.findClass own = _
    rw [X.warmed.alike.findClass]; exact hown
  obtain ⟨c', k', i', f', q1, q2⟩ := Cond.fieldRef_spec (s := Z.setVm T.vm) hc w1
  obtain ⟨k'', hf', -⟩ := State.fieldFound?_setVm (s := Z) hT.alike h2
  cases hf'.symm.trans q1
  exact q2
theorem own_getR (X : Stand p l e R s m args below meth c T locs cells slots) (hx : p.tables.exec = Jvm.exec) (hZ : Z.Warmed39 s.vm) {own O n d : String} {index : Nat} (hown : s.vm.findClass own = some m.cls) (w : (Jvm.Cond.fieldRef own index O n d).before a0 Z = true)
    (eT : T.heap = h) {a : Addr} {v : Value} (F : Fld Z h a O n d v) {g : JFrame} (hg : g.method = m) {rest : List Value} (hs : g.stack = .ref a :: rest) (hd : decode c.code g.pc = .ok (.getfield index, 3)) :
    ∃ T', Stand p l e R s m args below meth c T' locs cells slots ∧ T'.heap = h ∧ ∀ target, Steps p.tables e below (T'.setTop { g with pc := g.pc + 3, stack := v :: rest }) target → Steps p.tables e below (T.setTop g) target := by
  obtain ⟨cell, cf, k, i, f, h1, h2, h3, h4, -, -, h7⟩ := F
  have hr := own_ready X hZ hown w h2
  refine ⟨T, X, eT, fun target hrest => ?_⟩
  subst hg
  jvm_step X.here [hx, hd, getfield.wp_ready (e := e) (s := T) (f := g) X.here.top hr h3 hs (by rw [eT]; exact h1) h4 h7]
  exact hrest
theorem own_putR (X : Stand p l e R s m args below meth c T locs cells slots) (hx : p.tables.exec = Jvm.exec) (hZ : Z.Warmed39 s.vm) {own O n d C : String} {index kk : Nat} {ty : FieldType} (hown : s.vm.findClass own = some m.cls) (w : (Jvm.Cond.fieldRef own index O n d).before a0 Z = true)
    (eT : T.heap = h) {a : Addr} {v old : Value} (F : Fld Z h a O n d old) (E : Exa Z h a C) (L : (Jvm.Cond.lays C O n d).before a0 Z = true) (wi : (Jvm.Cond.instantiable C kk).before a0 Z = true)
    (hty : parseFieldDescriptor d = some ty) (hn : narrow ty v = v) (hf : fits ty v = true) {g : JFrame} (hg : g.method = m) {rest : List Value} (hs : g.stack = v :: .ref a :: rest) (hd : decode c.code g.pc = .ok (.putfield index, 3)) :
    ∃ T' h', Stand p l e R s m args below meth c T' (locs ++ [⟨a, Jvm.RoadKit.slotOf Z O n d⟩]) cells slots ∧ T'.heap = h' ∧ Wr h h' a (Jvm.RoadKit.slotOf Z O n d) v ∧ ∀ target, Steps p.tables e below (T'.setTop { g with pc := g.pc + 3, stack := rest }) target → Steps p.tables e below (T.setTop g) target := by
  obtain ⟨cell, cf, k, i, f, h1, h2, h3, h4, h5, -, h7⟩ := F
  have hr := own_ready X hZ hown w h2
  obtain ⟨cell', kc, e1, e2, e3, -⟩ := E
  cases h1.symm.trans e1
  obtain ⟨c1, k1, cf1, kf1, i1, f1, a1, a2, a3, -, a5, -, a6, -⟩ := Cond.lays_spec L
  cases h2.symm.trans a3
  cases e2.symm.trans a1
  obtain ⟨c2, k2, j1, j2, j3, -⟩ := Cond.instantiable_spec wi
  cases e2.symm.trans j1
  cases a2.symm.trans j2
  have ht := (State.fieldFound?_type h2 hty).2
  have hsl : Jvm.RoadKit.slotOf Z O n d = f.slot := by simp [Jvm.RoadKit.slotOf, h2]
  have hT : Z.Warmed39 T.vm := wtrans hZ X.warmed
  have hfit : T.fitsSlot cell.cls cell.vm f.slot v = true := by
    have q : Z.slotType? cell.cls cell.vm f.slot = some ty := by
      simp only [State.slotType?, a2, Option.bind_eq_bind, Option.bind_some, j3]
      cases hq : cell.vm <;> first | (rw [hq] at h5; exact Bool.noConfusion h5) | (rw [a6, ht])
    have q' : Z.fitsSlot cell.cls cell.vm f.slot v = true := by simp [State.fitsSlot, q, hf]
    rw [← State.fitsSlot_setVm hT.alike] at q'
    exact q'
  have hlt : f.slot < cell.slots.size := (Array.getElem?_eq_some_iff.mp h7).1
  obtain ⟨X', st⟩ := X.putfieldReady hx hr h3 (Or.inl a5) (by rw [eT]; exact h1) h4 hlt (by rw [ht]; exact hn) hfit hg hs hd
  rw [hsl]
  exact ⟨_, _, X', rfl, ⟨cell, h1, h5, hlt, by show (T.heap.setIfInBounds _ _) = _; rw [eT]⟩, st⟩
end OwnRef
theorem d3_0 : decode prog_86_method_1_code 0 = .ok (.aload_n 0, 1) := by decide +kernel
theorem d3_1 : decode prog_86_method_1_code 1 = .ok (.invokespecial 1, 3) := by decide +kernel
theorem d3_4 : decode prog_86_method_1_code 4 = .ok (.return_, 1) := by decide +kernel
theorem pn_0 : plainName "com/example/serigraph/serigraph/view/OrderList$Place" = true := by first | (simp [plainName, overriddenIn]; done) | decide +kernel
theorem ef_3 (m : MethodId) (o0_3 : Addr) : entryFrame m #[(.ref o0_3)] 1 = mkF m 0 #[.val (.ref o0_3)] [] := by first | (simp [entryFrame, mkF, argsToLocals, Value.category]; done) | rfl
def Q3 (Z : State) (o0_3 : Addr) (h0 : Heap) (n0 : Nat) (v : Option Value) (h : Heap) (L : List Loc) : Prop := v = none ∧ Fr n0 L ∧ h = h0
set_option maxRecDepth 65536 in
set_option maxHeartbeats 40000000 in
theorem rm3 (l : Launch) (Z : State) (a0 : Array Value) (hw : ∀ d ∈ tables_1, d.before a0 Z = true) (ws : List Jvm.Cond) (o0_3 : Addr) (h0 : Heap) (n0 : Nat) (O0 : Old Z n0 h0) :
    MetFree l (⟨"com/example/serigraph/serigraph/view/OrderList$Place", "<init>", "()V"⟩ : MethodName) (head1 (Jvm.Cond.code (⟨"com/example/serigraph/serigraph/view/OrderList$Place", "<init>", "()V"⟩ : MethodName) prog_86_method_1_code 1 none :: ws) ({ frames := 1, cells := 0, slots := 0, locals := 12 } : Room)) (fun a U => a = #[(.ref o0_3)] ∧ Z.Warmed39 U.vm ∧ U.heap = h0) (fun _ _ _ _ _ => True) (fun _ U o U' => ∃ v L, o = .returned v ∧ Q3 Z o0_3 h0 n0 v U'.heap L ∧ FrameEnd U o U' L ({ frames := 1, cells := 0, slots := 0, locals := 12 } : Room).cells ({ frames := 1, cells := 0, slots := 0, locals := 12 } : Room).slots) := by
  refine MetFree.of_bodySF (plainFor_of_name pn_0) hisR ?_
  intro p e s m args below meth c s₁ Bd hml0 hP hK
  obtain ⟨rfl, hZ, hh⟩ := hP
  have hx := Bd.exec
  have hby := Bd.bytes
  have hnl := BodyLoose.notSynchronized Bd
  have hml : c.maxLocals = 1 := hml0
  have hown : s.vm.findClass "com/example/serigraph/serigraph/view/OrderList$Place" = some m.cls := findClass_of_methodNamed Bd.named
  have hnm := (name_of_methodNamed Bd.named Bd.method).1
  have X0 : Stand p l e ({ frames := 1, cells := 0, slots := 0, locals := 12 } : Room) s m #[(.ref o0_3)] below meth c s₁ [] 0 0 := Stand.of_body Bd
  have e0 : s₁.heap = h0 := by rw [← hh, Bd.state]; rfl
  have N0 := Fr.nil n0
  show own_Ends p.tables e below s (Q3 Z o0_3 h0 n0) 0 0 (s₁.setTop (entryFrame m #[(.ref o0_3)] 1))
  rw [ef_3 m o0_3]
  show own_Ends p.tables e below s _ _ _ (s₁.setTop (mkF m 0 #[.val (.ref o0_3)] []))
  refine own_step (fun t k => XS.aloadN X0.here hx rfl (hb hby d3_0) rfl rfl k) ?_
  show own_Ends p.tables e below s _ _ _ (s₁.setTop (mkF m 1 #[.val (.ref o0_3)] [(.ref o0_3)]))
  obtain ⟨T1, X1, e1, st1⟩ := initO X0 hx hZ hown (hw _ (List.mem_of_getElem? (i := 16) rfl)) (hw _ (List.mem_of_getElem? (i := 8) rfl)) (hw _ (List.mem_of_getElem? (i := 9) rfl)) e0 (g := (mkF m 1 #[.val (.ref o0_3)] [(.ref o0_3)])) rfl (by rw [hml]; rfl) rfl (hb hby d3_1) (by decide) (W := 0) (by show 2 * 0 + _ ≤ _; exact Nat.le_of_eq rfl) (by decide)
  refine own_step (fun t k => st1 _ k) ?_
  show own_Ends p.tables e below s _ _ _ (T1.setTop (mkF m 4 #[.val (.ref o0_3)] []))
  exact own_ret0 X1 hx Bd.returns (hb hby d3_4) hnl (by rw [e1]; exact ⟨rfl, N0, rfl⟩) (by decide) (by decide)
theorem pd_0 : parseMethodDescriptor "()V" = some ⟨[], none⟩ := by decide +kernel
theorem d1_0 : decode prog_85_method_1_code 0 = .ok (.aload_n 0, 1) := by decide +kernel
theorem d1_1 : decode prog_85_method_1_code 1 = .ok (.invokespecial 1, 3) := by decide +kernel
theorem d1_4 : decode prog_85_method_1_code 4 = .ok (.aload_n 0, 1) := by decide +kernel
theorem d1_5 : decode prog_85_method_1_code 5 = .ok (.new 7, 3) := by decide +kernel
theorem d1_8 : decode prog_85_method_1_code 8 = .ok (.dup, 1) := by decide +kernel
theorem d1_9 : decode prog_85_method_1_code 9 = .ok (.invokespecial 9, 3) := by decide +kernel
theorem d1_12 : decode prog_85_method_1_code 12 = .ok (.putfield 10, 3) := by decide +kernel
theorem d1_15 : decode prog_85_method_1_code 15 = .ok (.aload_n 0, 1) := by decide +kernel
theorem d1_16 : decode prog_85_method_1_code 16 = .ok (.new 7, 3) := by decide +kernel
theorem d1_19 : decode prog_85_method_1_code 19 = .ok (.dup, 1) := by decide +kernel
theorem d1_20 : decode prog_85_method_1_code 20 = .ok (.invokespecial 9, 3) := by decide +kernel
theorem d1_23 : decode prog_85_method_1_code 23 = .ok (.putfield 16, 3) := by decide +kernel
theorem d1_26 : decode prog_85_method_1_code 26 = .ok (.aload_n 0, 1) := by decide +kernel
theorem d1_27 : decode prog_85_method_1_code 27 = .ok (.getfield 16, 3) := by decide +kernel
theorem d1_30 : decode prog_85_method_1_code 30 = .ok (.ldc2_w 19, 3) := by decide +kernel
theorem d1_33 : decode prog_85_method_1_code 33 = .ok (.putfield 21, 3) := by decide +kernel
theorem d1_36 : decode prog_85_method_1_code 36 = .ok (.aload_n 0, 1) := by decide +kernel
theorem d1_37 : decode prog_85_method_1_code 37 = .ok (.getfield 10, 3) := by decide +kernel
theorem d1_40 : decode prog_85_method_1_code 40 = .ok (.aload_n 0, 1) := by decide +kernel
theorem d1_41 : decode prog_85_method_1_code 41 = .ok (.getfield 16, 3) := by decide +kernel
theorem d1_44 : decode prog_85_method_1_code 44 = .ok (.putfield 25, 3) := by decide +kernel
theorem d1_47 : decode prog_85_method_1_code 47 = .ok (.aload_n 0, 1) := by decide +kernel
theorem d1_48 : decode prog_85_method_1_code 48 = .ok (.getfield 16, 3) := by decide +kernel
theorem d1_51 : decode prog_85_method_1_code 51 = .ok (.aload_n 0, 1) := by decide +kernel
theorem d1_52 : decode prog_85_method_1_code 52 = .ok (.getfield 10, 3) := by decide +kernel
theorem d1_55 : decode prog_85_method_1_code 55 = .ok (.putfield 28, 3) := by decide +kernel
theorem d1_58 : decode prog_85_method_1_code 58 = .ok (.return_, 1) := by decide +kernel
theorem pn_1 : plainName "com/example/serigraph/serigraph/view/OrderList" = true := by first | (simp [plainName, overriddenIn]; done) | decide +kernel
theorem ef_1 (m : MethodId) (o0_1 : Addr) : entryFrame m #[(.ref o0_1)] 1 = mkF m 0 #[.val (.ref o0_1)] [] := by first | (simp [entryFrame, mkF, argsToLocals, Value.category]; done) | rfl
def Q1 (Z : State) (o0_1 : Addr) (u_front_o0_1 : Value) (u_back_o0_1 : Value) (h0 : Heap) (n0 : Nat) (v : Option Value) (h : Heap) (L : List Loc) : Prop := ∃ (b2 : Addr), ∃ (b16 : Addr), v = none ∧ Fr n0 L ∧ Keep h0 h [o0_1] ∧ h0.size ≤ b2 ∧ h0.size ≤ b16 ∧ Exa Z h o0_1 "com/example/serigraph/serigraph/view/OrderList" ∧ Fld Z h o0_1 "com/example/serigraph/serigraph/view/OrderList" "front" "Lcom/example/serigraph/serigraph/view/OrderList$Place;" (.ref b2) ∧ Fld Z h o0_1 "com/example/serigraph/serigraph/view/OrderList" "back" "Lcom/example/serigraph/serigraph/view/OrderList$Place;" (.ref b16) ∧ Exa Z h b2 "com/example/serigraph/serigraph/view/OrderList$Place" ∧ Fld Z h b2 "com/example/serigraph/serigraph/view/OrderList$Place" "label" "J" (.long (0 : Int64)) ∧ Fld Z h b2 "com/example/serigraph/serigraph/view/OrderList$Place" "next" "Lcom/example/serigraph/serigraph/view/OrderList$Place;" (.ref b16) ∧ Fld Z h b2 "com/example/serigraph/serigraph/view/OrderList$Place" "previous" "Lcom/example/serigraph/serigraph/view/OrderList$Place;" .null ∧ Exa Z h b16 "com/example/serigraph/serigraph/view/OrderList$Place" ∧ Fld Z h b16 "com/example/serigraph/serigraph/view/OrderList$Place" "label" "J" (.long (4611686018427387904 : Int64)) ∧ Fld Z h b16 "com/example/serigraph/serigraph/view/OrderList$Place" "next" "Lcom/example/serigraph/serigraph/view/OrderList$Place;" .null ∧ Fld Z h b16 "com/example/serigraph/serigraph/view/OrderList$Place" "previous" "Lcom/example/serigraph/serigraph/view/OrderList$Place;" (.ref b2) ∧ b2 ≠ b16
set_option maxRecDepth 65536 in
set_option maxHeartbeats 40000000 in
theorem rm1 (l : Launch) (Z : State) (a0 : Array Value) (hw : ∀ d ∈ tables_1, d.before a0 Z = true) (ws : List Jvm.Cond) (o0_1 : Addr) (u_front_o0_1 : Value) (u_back_o0_1 : Value) (h0 : Heap) (n0 : Nat) (O0 : Old Z n0 h0) (E_o0_1 : Exa Z h0 o0_1 "com/example/serigraph/serigraph/view/OrderList") (F_front_o0_1 : Fld Z h0 o0_1 "com/example/serigraph/serigraph/view/OrderList" "front" "Lcom/example/serigraph/serigraph/view/OrderList$Place;" u_front_o0_1) (g_o0_1 : n0 ≤ o0_1) (F_back_o0_1 : Fld Z h0 o0_1 "com/example/serigraph/serigraph/view/OrderList" "back" "Lcom/example/serigraph/serigraph/view/OrderList$Place;" u_back_o0_1) :
    MetFree l (⟨"com/example/serigraph/serigraph/view/OrderList", "<init>", "()V"⟩ : MethodName) (head1 (Jvm.Cond.code (⟨"com/example/serigraph/serigraph/view/OrderList", "<init>", "()V"⟩ : MethodName) prog_85_method_1_code 1 none :: ws) ({ frames := 2, cells := 2, slots := 6, locals := 26 } : Room)) (fun a U => a = #[(.ref o0_1)] ∧ Z.Warmed39 U.vm ∧ U.heap = h0) (fun _ _ _ _ _ => True) (fun _ U o U' => ∃ v L, o = .returned v ∧ Q1 Z o0_1 u_front_o0_1 u_back_o0_1 h0 n0 v U'.heap L ∧ FrameEnd U o U' L ({ frames := 2, cells := 2, slots := 6, locals := 26 } : Room).cells ({ frames := 2, cells := 2, slots := 6, locals := 26 } : Room).slots) := by
  refine MetFree.of_bodySF (plainFor_of_name pn_1) hisR ?_
  intro p e s m args below meth c s₁ Bd hml0 hP hK
  obtain ⟨rfl, hZ, hh⟩ := hP
  have hx := Bd.exec
  have hby := Bd.bytes
  have hnl := BodyLoose.notSynchronized Bd
  have hml : c.maxLocals = 1 := hml0
  have hown : s.vm.findClass "com/example/serigraph/serigraph/view/OrderList" = some m.cls := findClass_of_methodNamed Bd.named
  have hnm := (name_of_methodNamed Bd.named Bd.method).1
  have X0 : Stand p l e ({ frames := 2, cells := 2, slots := 6, locals := 26 } : Room) s m #[(.ref o0_1)] below meth c s₁ [] 0 0 := Stand.of_body Bd
  have e0 : s₁.heap = h0 := by rw [← hh, Bd.state]; rfl
  have N0 := Fr.nil n0
  show own_Ends p.tables e below s (Q1 Z o0_1 u_front_o0_1 u_back_o0_1 h0 n0) 2 6 (s₁.setTop (entryFrame m #[(.ref o0_1)] 1))
  rw [ef_1 m o0_1]
  show own_Ends p.tables e below s _ _ _ (s₁.setTop (mkF m 0 #[.val (.ref o0_1)] []))
  refine own_step (fun t k => XS.aloadN X0.here hx rfl (hb hby d1_0) rfl rfl k) ?_
  show own_Ends p.tables e below s _ _ _ (s₁.setTop (mkF m 1 #[.val (.ref o0_1)] [(.ref o0_1)]))
  obtain ⟨T1, X1, e1, st1⟩ := initO X0 hx hZ hown (hw _ (List.mem_of_getElem? (i := 7) rfl)) (hw _ (List.mem_of_getElem? (i := 8) rfl)) (hw _ (List.mem_of_getElem? (i := 9) rfl)) e0 (g := (mkF m 1 #[.val (.ref o0_1)] [(.ref o0_1)])) rfl (by rw [hml]; rfl) rfl (hb hby d1_1) (by decide) (W := 0) (by show 2 * 0 + _ ≤ _; exact Nat.le_of_eq rfl) (by decide)
  refine own_step (fun t k => st1 _ k) ?_
  show own_Ends p.tables e below s _ _ _ (T1.setTop (mkF m 4 #[.val (.ref o0_1)] []))
  refine own_step (fun t k => XS.aloadN X1.here hx rfl (hb hby d1_4) rfl rfl k) ?_
  show own_Ends p.tables e below s _ _ _ (T1.setTop (mkF m 5 #[.val (.ref o0_1)] [(.ref o0_1)]))
  obtain ⟨T2, h2, X2, e2, E2, A2, D2, -, st2⟩ := newO X1 hx hZ hown (hw _ (List.mem_of_getElem? (i := 10) rfl)) (hw _ (List.mem_of_getElem? (i := 11) rfl)) (hw _ (List.mem_of_getElem? (i := 12) rfl)) e1 (g := (mkF m 5 #[.val (.ref o0_1)] [(.ref o0_1)])) rfl (hb hby d1_5) (by decide) (by decide)
  obtain ⟨b2, g2⟩ : ∃ z, z = h0.size := ⟨_, rfl⟩
  rw [← g2] at A2 D2 st2
  have g_b2 : n0 ≤ b2 := Nat.le_trans (Nat.le_trans (Nat.le_of_eq O0.1.symm) O0.2.1) (Nat.le_of_eq g2.symm)
  have sz_b2 : h0.size ≤ b2 := Nat.le_trans (Keep.refl h0 [o0_1]).1 (Nat.le_of_eq g2.symm)
  have F2_label : Fld Z h2 b2 "com/example/serigraph/serigraph/view/OrderList$Place" "label" "J" (.long (0 : Int64)) := D2 (Or.inl (hw _ (List.mem_of_getElem? (i := 23) rfl))) (ty := .long) (by decide)
  have F2_next : Fld Z h2 b2 "com/example/serigraph/serigraph/view/OrderList$Place" "next" "Lcom/example/serigraph/serigraph/view/OrderList$Place;" .null := D2 (Or.inl (hw _ (List.mem_of_getElem? (i := 25) rfl))) (ty := (.object "com/example/serigraph/serigraph/view/OrderList$Place")) (by decide)
  have F2_previous : Fld Z h2 b2 "com/example/serigraph/serigraph/view/OrderList$Place" "previous" "Lcom/example/serigraph/serigraph/view/OrderList$Place;" .null := D2 (Or.inl (hw _ (List.mem_of_getElem? (i := 27) rfl))) (ty := (.object "com/example/serigraph/serigraph/view/OrderList$Place")) (by decide)
  refine own_step (fun t k => st2 _ k) ?_
  have K3 : Keep h0 h2 [o0_1] := (Keep.refl h0 [o0_1]).ext E2
  show own_Ends p.tables e below s _ _ _ (T2.setTop (mkF m 8 #[.val (.ref o0_1)] [(.ref b2), (.ref o0_1)]))
  refine own_step (fun t k => XS.dup X2.here hx rfl (hb hby d1_8) rfl rfl k) ?_
  show own_Ends p.tables e below s _ _ _ (T2.setTop (mkF m 9 #[.val (.ref o0_1)] [(.ref b2), (.ref b2), (.ref o0_1)]))
  have O4 : Old Z n0 h2 := (O0.ext E2)
  obtain ⟨_, _, ⟨T5, L5, k5, n5⟩, -, X5, ⟨Lc5, hQ5, l5, y5, z5⟩, st5⟩ := X2.specialBack hx (y := (⟨"com/example/serigraph/serigraph/view/OrderList$Place", "<init>", "()V"⟩ : MethodName)) rfl hown (mvT hZ (hw _ (List.mem_of_getElem? (i := 13) rfl))) (mvT hZ (hw _ (List.mem_of_getElem? (i := 14) rfl))) (mvT hZ (hw _ (List.mem_of_getElem? (i := 15) rfl))) (by decide) (backOf (W := 2) (rm3 l Z a0 hw [] b2 h2 n0 O4 ) hZ (hw _ (List.mem_of_getElem? (i := 15) rfl)) (hw _ (List.mem_of_getElem? (i := 12) rfl)) (by decide) (by decide)) (g := (mkF m 9 #[.val (.ref o0_1)] [(.ref b2), (.ref b2), (.ref o0_1)])) rfl (by rw [hml]; rfl) (Steps.refl _) (a := b2) (argsL := []) (rest := [(.ref b2), (.ref o0_1)]) (lenOf pd_0 rfl) rfl (by show 2 * 0 + _ ≤ _; exact Nat.le_of_eq rfl) (hb hby d1_9) (fun _ _ => ⟨rfl, e2, (by decide : 1 + 0 ≤ _), (by decide : 3 + 0 ≤ _)⟩)
  dsimp only [Pt.U, Pt.locs, Pt.cells, Pt.slots] at X5 l5 y5 z5 st5 hQ5
  subst y5 z5
  obtain ⟨rfl, N5q, e5⟩ := hQ5
  refine own_step (fun t k => st5.trans k) ?_
  have N6 : Fr n0 L5 := by rw [l5]; exact Fr.app N0 N5q
  show own_Ends p.tables e below s _ _ _ (T5.setTop (mkF m 12 #[.val (.ref o0_1)] [(.ref b2), (.ref o0_1)]))
  have F7 : Exa Z h2 o0_1 "com/example/serigraph/serigraph/view/OrderList" := (E_o0_1.ext E2)
  have F8 : Fld Z h2 o0_1 "com/example/serigraph/serigraph/view/OrderList" "front" "Lcom/example/serigraph/serigraph/view/OrderList$Place;" u_front_o0_1 := (F_front_o0_1.ext E2)
  obtain ⟨T9, h9, X9, e9, W9, st9⟩ := putF X5 hx hZ hown (host := "") (Or.inl (hw _ (List.mem_of_getElem? (i := 17) rfl))) Via.refl e5 F8 F7 (Or.inr ⟨(hw _ (List.mem_of_getElem? (i := 18) rfl)), rfl, hnm⟩) (hw _ (List.mem_of_getElem? (i := 2) rfl)) (ty := (.object "com/example/serigraph/serigraph/view/OrderList$Place")) (by decide) rfl rfl (g := (mkF m 12 #[.val (.ref o0_1)] [(.ref b2), (.ref o0_1)])) rfl rfl (hb hby d1_12)
  refine own_step (fun t k => st9 _ k) ?_
  have F10 : Fld Z h9 o0_1 "com/example/serigraph/serigraph/view/OrderList" "front" "Lcom/example/serigraph/serigraph/view/OrderList$Place;" (.ref b2) := F8.same W9
  have K11 : Keep h0 h9 [o0_1] := K3.wr W9 (Or.inl (List.mem_of_getElem? (i := 0) rfl))
  have N12 := Fr.snoc X9 N6 g_o0_1
  show own_Ends p.tables e below s _ _ _ (T9.setTop (mkF m 15 #[.val (.ref o0_1)] []))
  refine own_step (fun t k => XS.aloadN X9.here hx rfl (hb hby d1_15) rfl rfl k) ?_
  show own_Ends p.tables e below s _ _ _ (T9.setTop (mkF m 16 #[.val (.ref o0_1)] [(.ref o0_1)]))
  have O13 : Old Z n0 h9 := (O4.wr W9 g_o0_1)
  have F14 : Exa Z h9 b2 "com/example/serigraph/serigraph/view/OrderList$Place" := (A2.wr W9)
  have F15 : Exa Z h9 o0_1 "com/example/serigraph/serigraph/view/OrderList" := (F7.wr W9)
  obtain ⟨T16, h16, X16, e16, E16, A16, D16, -, st16⟩ := newO X9 hx hZ hown (hw _ (List.mem_of_getElem? (i := 10) rfl)) (hw _ (List.mem_of_getElem? (i := 11) rfl)) (hw _ (List.mem_of_getElem? (i := 12) rfl)) e9 (g := (mkF m 16 #[.val (.ref o0_1)] [(.ref o0_1)])) rfl (hb hby d1_16) (by decide) (by decide)
  obtain ⟨b16, g16⟩ : ∃ z, z = h9.size := ⟨_, rfl⟩
  rw [← g16] at A16 D16 st16
  have g_b16 : n0 ≤ b16 := Nat.le_trans (Nat.le_trans (Nat.le_of_eq O13.1.symm) O13.2.1) (Nat.le_of_eq g16.symm)
  have sz_b16 : h0.size ≤ b16 := Nat.le_trans K11.1 (Nat.le_of_eq g16.symm)
  have ne_b2_b16 : b2 ≠ b16 := Nat.ne_of_lt (Nat.lt_of_lt_of_le F14.lt (Nat.le_of_eq g16.symm))
  have ne_o0_1_b16 : o0_1 ≠ b16 := Nat.ne_of_lt (Nat.lt_of_lt_of_le F15.lt (Nat.le_of_eq g16.symm))
  have F16_label : Fld Z h16 b16 "com/example/serigraph/serigraph/view/OrderList$Place" "label" "J" (.long (0 : Int64)) := D16 (Or.inl (hw _ (List.mem_of_getElem? (i := 23) rfl))) (ty := .long) (by decide)
  have F16_next : Fld Z h16 b16 "com/example/serigraph/serigraph/view/OrderList$Place" "next" "Lcom/example/serigraph/serigraph/view/OrderList$Place;" .null := D16 (Or.inl (hw _ (List.mem_of_getElem? (i := 25) rfl))) (ty := (.object "com/example/serigraph/serigraph/view/OrderList$Place")) (by decide)
  have F16_previous : Fld Z h16 b16 "com/example/serigraph/serigraph/view/OrderList$Place" "previous" "Lcom/example/serigraph/serigraph/view/OrderList$Place;" .null := D16 (Or.inl (hw _ (List.mem_of_getElem? (i := 27) rfl))) (ty := (.object "com/example/serigraph/serigraph/view/OrderList$Place")) (by decide)
  refine own_step (fun t k => st16 _ k) ?_
  have K17 : Keep h0 h16 [o0_1] := K11.ext E16
  show own_Ends p.tables e below s _ _ _ (T16.setTop (mkF m 19 #[.val (.ref o0_1)] [(.ref b16), (.ref o0_1)]))
  refine own_step (fun t k => XS.dup X16.here hx rfl (hb hby d1_19) rfl rfl k) ?_
  show own_Ends p.tables e below s _ _ _ (T16.setTop (mkF m 20 #[.val (.ref o0_1)] [(.ref b16), (.ref b16), (.ref o0_1)]))
  have O18 : Old Z n0 h16 := (O13.ext E16)
  obtain ⟨_, _, ⟨T19, L19, k19, n19⟩, -, X19, ⟨Lc19, hQ19, l19, y19, z19⟩, st19⟩ := X16.specialBack hx (y := (⟨"com/example/serigraph/serigraph/view/OrderList$Place", "<init>", "()V"⟩ : MethodName)) rfl hown (mvT hZ (hw _ (List.mem_of_getElem? (i := 13) rfl))) (mvT hZ (hw _ (List.mem_of_getElem? (i := 14) rfl))) (mvT hZ (hw _ (List.mem_of_getElem? (i := 15) rfl))) (by decide) (backOf (W := 2) (rm3 l Z a0 hw [] b16 h16 n0 O18 ) hZ (hw _ (List.mem_of_getElem? (i := 15) rfl)) (hw _ (List.mem_of_getElem? (i := 12) rfl)) (by decide) (by decide)) (g := (mkF m 20 #[.val (.ref o0_1)] [(.ref b16), (.ref b16), (.ref o0_1)])) rfl (by rw [hml]; rfl) (Steps.refl _) (a := b16) (argsL := []) (rest := [(.ref b16), (.ref o0_1)]) (lenOf pd_0 rfl) rfl (by show 2 * 0 + _ ≤ _; exact Nat.le_of_eq rfl) (hb hby d1_20) (fun _ _ => ⟨rfl, e16, (by decide : 2 + 0 ≤ _), (by decide : 6 + 0 ≤ _)⟩)
  dsimp only [Pt.U, Pt.locs, Pt.cells, Pt.slots] at X19 l19 y19 z19 st19 hQ19
  subst y19 z19
  obtain ⟨rfl, N19q, e19⟩ := hQ19
  refine own_step (fun t k => st19.trans k) ?_
  have N20 : Fr n0 L19 := by rw [l19]; exact Fr.app N12 N19q
  show own_Ends p.tables e below s _ _ _ (T19.setTop (mkF m 23 #[.val (.ref o0_1)] [(.ref b16), (.ref o0_1)]))
  have F21 : Exa Z h16 o0_1 "com/example/serigraph/serigraph/view/OrderList" := (F15.ext E16)
  have F22 : Fld Z h16 o0_1 "com/example/serigraph/serigraph/view/OrderList" "back" "Lcom/example/serigraph/serigraph/view/OrderList$Place;" u_back_o0_1 := (((F_back_o0_1.ext E2).other W9 (Or.inr (slot_ne (Or.inr (hw _ (List.mem_of_getElem? (i := 20) rfl))) (Or.inr (hw _ (List.mem_of_getElem? (i := 18) rfl))) (by decide) (t := (.object "com/example/serigraph/serigraph/view/OrderList$Place")) (t' := (.object "com/example/serigraph/serigraph/view/OrderList$Place")) (by decide) (by decide)))).ext E16)
  obtain ⟨T23, h23, X23, e23, W23, st23⟩ := putF X19 hx hZ hown (host := "") (Or.inl (hw _ (List.mem_of_getElem? (i := 19) rfl))) Via.refl e19 F22 F21 (Or.inr ⟨(hw _ (List.mem_of_getElem? (i := 20) rfl)), rfl, hnm⟩) (hw _ (List.mem_of_getElem? (i := 2) rfl)) (ty := (.object "com/example/serigraph/serigraph/view/OrderList$Place")) (by decide) rfl rfl (g := (mkF m 23 #[.val (.ref o0_1)] [(.ref b16), (.ref o0_1)])) rfl rfl (hb hby d1_23)
  refine own_step (fun t k => st23 _ k) ?_
  have F24 : Fld Z h23 o0_1 "com/example/serigraph/serigraph/view/OrderList" "back" "Lcom/example/serigraph/serigraph/view/OrderList$Place;" (.ref b16) := F22.same W23
  have K25 : Keep h0 h23 [o0_1] := K17.wr W23 (Or.inl (List.mem_of_getElem? (i := 0) rfl))
  have N26 := Fr.snoc X23 N20 g_o0_1
  show own_Ends p.tables e below s _ _ _ (T23.setTop (mkF m 26 #[.val (.ref o0_1)] []))
  refine own_step (fun t k => XS.aloadN X23.here hx rfl (hb hby d1_26) rfl rfl k) ?_
  show own_Ends p.tables e below s _ _ _ (T23.setTop (mkF m 27 #[.val (.ref o0_1)] [(.ref o0_1)]))
  obtain ⟨T27, X27, e27, st27⟩ := getF X23 hx hZ hown (host := "") (Or.inl (hw _ (List.mem_of_getElem? (i := 19) rfl))) Via.refl e23 F24 (g := (mkF m 27 #[.val (.ref o0_1)] [(.ref o0_1)])) rfl rfl (hb hby d1_27)
  refine own_step (fun t k => st27 _ k) ?_
  show own_Ends p.tables e below s _ _ _ (T27.setTop (mkF m 30 #[.val (.ref o0_1)] [(.ref b16)]))
  refine own_step (fun t k => X27.ldc2Long hx hown (mvT hZ (hw _ (List.mem_of_getElem? (i := 21) rfl))) (g := (mkF m 30 #[.val (.ref o0_1)] [(.ref b16)])) rfl (hb hby d1_30) _ k) ?_
  show own_Ends p.tables e below s _ _ _ (T27.setTop (mkF m 33 #[.val (.ref o0_1)] [(.long (4611686018427387904 : Int64)), (.ref b16)]))
  have F28 : Exa Z h23 b16 "com/example/serigraph/serigraph/view/OrderList$Place" := (A16.wr W23)
  have F29 : Fld Z h23 b16 "com/example/serigraph/serigraph/view/OrderList$Place" "label" "J" (.long (0 : Int64)) := (F16_label.other W23 (Or.inl (Ne.symm ne_o0_1_b16)))
  obtain ⟨T30, h30, X30, e30, W30, st30⟩ := own_putR X27 hx hZ hown (hw _ (List.mem_of_getElem? (i := 22) rfl)) e27 F29 F28 (hw _ (List.mem_of_getElem? (i := 23) rfl)) (hw _ (List.mem_of_getElem? (i := 11) rfl)) (ty := .long) (by decide) rfl rfl (g := (mkF m 33 #[.val (.ref o0_1)] [(.long (4611686018427387904 : Int64)), (.ref b16)])) rfl rfl (hb hby d1_33)
  refine own_step (fun t k => st30 _ k) ?_
  have F31 : Fld Z h30 b16 "com/example/serigraph/serigraph/view/OrderList$Place" "label" "J" (.long (4611686018427387904 : Int64)) := F29.same W30
  have K32 : Keep h0 h30 [o0_1] := K25.wr W30 (Or.inr sz_b16)
  have N33 := Fr.snoc X30 N26 g_b16
  show own_Ends p.tables e below s _ _ _ (T30.setTop (mkF m 36 #[.val (.ref o0_1)] []))
  refine own_step (fun t k => XS.aloadN X30.here hx rfl (hb hby d1_36) rfl rfl k) ?_
  show own_Ends p.tables e below s _ _ _ (T30.setTop (mkF m 37 #[.val (.ref o0_1)] [(.ref o0_1)]))
  have F34 : Fld Z h30 o0_1 "com/example/serigraph/serigraph/view/OrderList" "front" "Lcom/example/serigraph/serigraph/view/OrderList$Place;" (.ref b2) := (((F10.ext E16).other W23 (Or.inr (slot_ne (Or.inr (hw _ (List.mem_of_getElem? (i := 18) rfl))) (Or.inr (hw _ (List.mem_of_getElem? (i := 20) rfl))) (by decide) (t := (.object "com/example/serigraph/serigraph/view/OrderList$Place")) (t' := (.object "com/example/serigraph/serigraph/view/OrderList$Place")) (by decide) (by decide)))).other W30 (Or.inl ne_o0_1_b16))
  obtain ⟨T35, X35, e35, st35⟩ := getF X30 hx hZ hown (host := "") (Or.inl (hw _ (List.mem_of_getElem? (i := 17) rfl))) Via.refl e30 F34 (g := (mkF m 37 #[.val (.ref o0_1)] [(.ref o0_1)])) rfl rfl (hb hby d1_37)
  refine own_step (fun t k => st35 _ k) ?_
  show own_Ends p.tables e below s _ _ _ (T35.setTop (mkF m 40 #[.val (.ref o0_1)] [(.ref b2)]))
  refine own_step (fun t k => XS.aloadN X35.here hx rfl (hb hby d1_40) rfl rfl k) ?_
  show own_Ends p.tables e below s _ _ _ (T35.setTop (mkF m 41 #[.val (.ref o0_1)] [(.ref o0_1), (.ref b2)]))
  have F36 : Fld Z h30 o0_1 "com/example/serigraph/serigraph/view/OrderList" "back" "Lcom/example/serigraph/serigraph/view/OrderList$Place;" (.ref b16) := (F24.other W30 (Or.inl ne_o0_1_b16))
  obtain ⟨T37, X37, e37, st37⟩ := getF X35 hx hZ hown (host := "") (Or.inl (hw _ (List.mem_of_getElem? (i := 19) rfl))) Via.refl e35 F36 (g := (mkF m 41 #[.val (.ref o0_1)] [(.ref o0_1), (.ref b2)])) rfl rfl (hb hby d1_41)
  refine own_step (fun t k => st37 _ k) ?_
  show own_Ends p.tables e below s _ _ _ (T37.setTop (mkF m 44 #[.val (.ref o0_1)] [(.ref b16), (.ref b2)]))
  have F38 : Exa Z h30 b2 "com/example/serigraph/serigraph/view/OrderList$Place" := (((F14.ext E16).wr W23).wr W30)
  have F39 : Fld Z h23 b2 "com/example/serigraph/serigraph/view/OrderList$Place" "next" "Lcom/example/serigraph/serigraph/view/OrderList$Place;" .null := (((F2_next.other W9 (Or.inl (Ne.symm (Nat.ne_of_lt (Nat.lt_of_lt_of_le E_o0_1.lt sz_b2))))).ext E16).other W23 (Or.inl (Ne.symm (Nat.ne_of_lt (Nat.lt_of_lt_of_le E_o0_1.lt sz_b2)))))
  have F40 : Fld Z h30 b2 "com/example/serigraph/serigraph/view/OrderList$Place" "next" "Lcom/example/serigraph/serigraph/view/OrderList$Place;" .null := (F39.other W30 (Or.inl ne_b2_b16))
  obtain ⟨T41, h41, X41, e41, W41, st41⟩ := own_putR X37 hx hZ hown (hw _ (List.mem_of_getElem? (i := 24) rfl)) e37 F40 F38 (hw _ (List.mem_of_getElem? (i := 25) rfl)) (hw _ (List.mem_of_getElem? (i := 11) rfl)) (ty := (.object "com/example/serigraph/serigraph/view/OrderList$Place")) (by decide) rfl rfl (g := (mkF m 44 #[.val (.ref o0_1)] [(.ref b16), (.ref b2)])) rfl rfl (hb hby d1_44)
  refine own_step (fun t k => st41 _ k) ?_
  have F42 : Fld Z h41 b2 "com/example/serigraph/serigraph/view/OrderList$Place" "next" "Lcom/example/serigraph/serigraph/view/OrderList$Place;" (.ref b16) := F40.same W41
  have K43 : Keep h0 h41 [o0_1] := K32.wr W41 (Or.inr sz_b2)
  have N44 := Fr.snoc X41 N33 g_b2
  show own_Ends p.tables e below s _ _ _ (T41.setTop (mkF m 47 #[.val (.ref o0_1)] []))
  refine own_step (fun t k => XS.aloadN X41.here hx rfl (hb hby d1_47) rfl rfl k) ?_
  show own_Ends p.tables e below s _ _ _ (T41.setTop (mkF m 48 #[.val (.ref o0_1)] [(.ref o0_1)]))
  have F45 : Fld Z h41 o0_1 "com/example/serigraph/serigraph/view/OrderList" "back" "Lcom/example/serigraph/serigraph/view/OrderList$Place;" (.ref b16) := (F36.other W41 (Or.inl (Nat.ne_of_lt (Nat.lt_of_lt_of_le E_o0_1.lt sz_b2))))
  obtain ⟨T46, X46, e46, st46⟩ := getF X41 hx hZ hown (host := "") (Or.inl (hw _ (List.mem_of_getElem? (i := 19) rfl))) Via.refl e41 F45 (g := (mkF m 48 #[.val (.ref o0_1)] [(.ref o0_1)])) rfl rfl (hb hby d1_48)
  refine own_step (fun t k => st46 _ k) ?_
  show own_Ends p.tables e below s _ _ _ (T46.setTop (mkF m 51 #[.val (.ref o0_1)] [(.ref b16)]))
  refine own_step (fun t k => XS.aloadN X46.here hx rfl (hb hby d1_51) rfl rfl k) ?_
  show own_Ends p.tables e below s _ _ _ (T46.setTop (mkF m 52 #[.val (.ref o0_1)] [(.ref o0_1), (.ref b16)]))
  have F47 : Fld Z h41 o0_1 "com/example/serigraph/serigraph/view/OrderList" "front" "Lcom/example/serigraph/serigraph/view/OrderList$Place;" (.ref b2) := (F34.other W41 (Or.inl (Nat.ne_of_lt (Nat.lt_of_lt_of_le E_o0_1.lt sz_b2))))
  obtain ⟨T48, X48, e48, st48⟩ := getF X46 hx hZ hown (host := "") (Or.inl (hw _ (List.mem_of_getElem? (i := 17) rfl))) Via.refl e46 F47 (g := (mkF m 52 #[.val (.ref o0_1)] [(.ref o0_1), (.ref b16)])) rfl rfl (hb hby d1_52)
  refine own_step (fun t k => st48 _ k) ?_
  show own_Ends p.tables e below s _ _ _ (T48.setTop (mkF m 55 #[.val (.ref o0_1)] [(.ref b2), (.ref b16)]))
  have F49 : Exa Z h41 b16 "com/example/serigraph/serigraph/view/OrderList$Place" := ((F28.wr W30).wr W41)
  have F50 : Fld Z h41 b16 "com/example/serigraph/serigraph/view/OrderList$Place" "previous" "Lcom/example/serigraph/serigraph/view/OrderList$Place;" .null := (((F16_previous.other W23 (Or.inl (Ne.symm ne_o0_1_b16))).other W30 (Or.inr (slot_ne (Or.inl (hw _ (List.mem_of_getElem? (i := 27) rfl))) (Or.inl (hw _ (List.mem_of_getElem? (i := 23) rfl))) (by decide) (t := (.object "com/example/serigraph/serigraph/view/OrderList$Place")) (t' := .long) (by decide) (by decide)))).other W41 (Or.inl (Ne.symm ne_b2_b16)))
  obtain ⟨T51, h51, X51, e51, W51, st51⟩ := own_putR X48 hx hZ hown (hw _ (List.mem_of_getElem? (i := 26) rfl)) e48 F50 F49 (hw _ (List.mem_of_getElem? (i := 27) rfl)) (hw _ (List.mem_of_getElem? (i := 11) rfl)) (ty := (.object "com/example/serigraph/serigraph/view/OrderList$Place")) (by decide) rfl rfl (g := (mkF m 55 #[.val (.ref o0_1)] [(.ref b2), (.ref b16)])) rfl rfl (hb hby d1_55)
  refine own_step (fun t k => st51 _ k) ?_
  have F52 : Fld Z h51 b16 "com/example/serigraph/serigraph/view/OrderList$Place" "previous" "Lcom/example/serigraph/serigraph/view/OrderList$Place;" (.ref b2) := F50.same W51
  have K53 : Keep h0 h51 [o0_1] := K43.wr W51 (Or.inr sz_b16)
  have N54 := Fr.snoc X51 N44 g_b16
  show own_Ends p.tables e below s _ _ _ (T51.setTop (mkF m 58 #[.val (.ref o0_1)] []))
  have F55 : Exa Z h41 o0_1 "com/example/serigraph/serigraph/view/OrderList" := (((F21.wr W23).wr W30).wr W41)
  have F56 : Exa Z h51 o0_1 "com/example/serigraph/serigraph/view/OrderList" := (F55.wr W51)
  have F57 : Fld Z h51 o0_1 "com/example/serigraph/serigraph/view/OrderList" "front" "Lcom/example/serigraph/serigraph/view/OrderList$Place;" (.ref b2) := (F47.other W51 (Or.inl ne_o0_1_b16))
  have F58 : Fld Z h51 o0_1 "com/example/serigraph/serigraph/view/OrderList" "back" "Lcom/example/serigraph/serigraph/view/OrderList$Place;" (.ref b16) := (F45.other W51 (Or.inl ne_o0_1_b16))
  have F59 : Exa Z h51 b2 "com/example/serigraph/serigraph/view/OrderList$Place" := ((F38.wr W41).wr W51)
  have F60 : Fld Z h23 b2 "com/example/serigraph/serigraph/view/OrderList$Place" "label" "J" (.long (0 : Int64)) := (((F2_label.other W9 (Or.inl (Ne.symm (Nat.ne_of_lt (Nat.lt_of_lt_of_le E_o0_1.lt sz_b2))))).ext E16).other W23 (Or.inl (Ne.symm (Nat.ne_of_lt (Nat.lt_of_lt_of_le E_o0_1.lt sz_b2)))))
  have F61 : Fld Z h51 b2 "com/example/serigraph/serigraph/view/OrderList$Place" "label" "J" (.long (0 : Int64)) := (((F60.other W30 (Or.inl ne_b2_b16)).other W41 (Or.inr (slot_ne (Or.inl (hw _ (List.mem_of_getElem? (i := 23) rfl))) (Or.inl (hw _ (List.mem_of_getElem? (i := 25) rfl))) (by decide) (t := .long) (t' := (.object "com/example/serigraph/serigraph/view/OrderList$Place")) (by decide) (by decide)))).other W51 (Or.inl ne_b2_b16))
  have F62 : Fld Z h51 b2 "com/example/serigraph/serigraph/view/OrderList$Place" "next" "Lcom/example/serigraph/serigraph/view/OrderList$Place;" (.ref b16) := (F42.other W51 (Or.inl ne_b2_b16))
  have F63 : Fld Z h23 b2 "com/example/serigraph/serigraph/view/OrderList$Place" "previous" "Lcom/example/serigraph/serigraph/view/OrderList$Place;" .null := (((F2_previous.other W9 (Or.inl (Ne.symm (Nat.ne_of_lt (Nat.lt_of_lt_of_le E_o0_1.lt sz_b2))))).ext E16).other W23 (Or.inl (Ne.symm (Nat.ne_of_lt (Nat.lt_of_lt_of_le E_o0_1.lt sz_b2)))))
  have F64 : Fld Z h51 b2 "com/example/serigraph/serigraph/view/OrderList$Place" "previous" "Lcom/example/serigraph/serigraph/view/OrderList$Place;" .null := (((F63.other W30 (Or.inl ne_b2_b16)).other W41 (Or.inr (slot_ne (Or.inl (hw _ (List.mem_of_getElem? (i := 27) rfl))) (Or.inl (hw _ (List.mem_of_getElem? (i := 25) rfl))) (by decide) (t := (.object "com/example/serigraph/serigraph/view/OrderList$Place")) (t' := (.object "com/example/serigraph/serigraph/view/OrderList$Place")) (by decide) (by decide)))).other W51 (Or.inl ne_b2_b16))
  have F65 : Exa Z h51 b16 "com/example/serigraph/serigraph/view/OrderList$Place" := (F49.wr W51)
  have F66 : Fld Z h51 b16 "com/example/serigraph/serigraph/view/OrderList$Place" "label" "J" (.long (4611686018427387904 : Int64)) := ((F31.other W41 (Or.inl (Ne.symm ne_b2_b16))).other W51 (Or.inr (slot_ne (Or.inl (hw _ (List.mem_of_getElem? (i := 23) rfl))) (Or.inl (hw _ (List.mem_of_getElem? (i := 27) rfl))) (by decide) (t := .long) (t' := (.object "com/example/serigraph/serigraph/view/OrderList$Place")) (by decide) (by decide))))
  have F67 : Fld Z h41 b16 "com/example/serigraph/serigraph/view/OrderList$Place" "next" "Lcom/example/serigraph/serigraph/view/OrderList$Place;" .null := (((F16_next.other W23 (Or.inl (Ne.symm ne_o0_1_b16))).other W30 (Or.inr (slot_ne (Or.inl (hw _ (List.mem_of_getElem? (i := 25) rfl))) (Or.inl (hw _ (List.mem_of_getElem? (i := 23) rfl))) (by decide) (t := (.object "com/example/serigraph/serigraph/view/OrderList$Place")) (t' := .long) (by decide) (by decide)))).other W41 (Or.inl (Ne.symm ne_b2_b16)))
  have F68 : Fld Z h51 b16 "com/example/serigraph/serigraph/view/OrderList$Place" "next" "Lcom/example/serigraph/serigraph/view/OrderList$Place;" .null := (F67.other W51 (Or.inr (slot_ne (Or.inl (hw _ (List.mem_of_getElem? (i := 25) rfl))) (Or.inl (hw _ (List.mem_of_getElem? (i := 27) rfl))) (by decide) (t := (.object "com/example/serigraph/serigraph/view/OrderList$Place")) (t' := (.object "com/example/serigraph/serigraph/view/OrderList$Place")) (by decide) (by decide))))
  exact own_ret0 X51 hx Bd.returns (hb hby d1_58) hnl (by rw [e51]; exact ⟨b2, b16, rfl, N54, K53, sz_b2, sz_b16, F56, F57, F58, F59, F61, F62, F64, F65, F66, F68, F52, ne_b2_b16⟩) (by decide) (by decide)
theorem d4_0 : decode prog_85_method_2_code 0 = .ok (.aload_n 0, 1) := by decide +kernel
theorem d4_1 : decode prog_85_method_2_code 1 = .ok (.getfield 10, 3) := by decide +kernel
theorem d4_4 : decode prog_85_method_2_code 4 = .ok (.areturn, 1) := by decide +kernel
theorem ef_4 (m : MethodId) (o0_4 : Addr) : entryFrame m #[(.ref o0_4)] 1 = mkF m 0 #[.val (.ref o0_4)] [] := by first | (simp [entryFrame, mkF, argsToLocals, Value.category]; done) | rfl
def Q4 (Z : State) (o0_4 : Addr) (w_front_o0_4 : Addr) (h0 : Heap) (n0 : Nat) (v : Option Value) (h : Heap) (L : List Loc) : Prop := v = some (.ref w_front_o0_4) ∧ Fr n0 L ∧ h = h0
set_option maxRecDepth 65536 in
set_option maxHeartbeats 40000000 in
theorem rm4 (l : Launch) (Z : State) (a0 : Array Value) (hw : ∀ d ∈ tables_1, d.before a0 Z = true) (ws : List Jvm.Cond) (o0_4 : Addr) (w_front_o0_4 : Addr) (h0 : Heap) (n0 : Nat) (O0 : Old Z n0 h0) (F_front_o0_4 : Fld Z h0 o0_4 "com/example/serigraph/serigraph/view/OrderList" "front" "Lcom/example/serigraph/serigraph/view/OrderList$Place;" (.ref w_front_o0_4)) :
    MetFree l (⟨"com/example/serigraph/serigraph/view/OrderList", "front", "()Lcom/example/serigraph/serigraph/view/OrderList$Place;"⟩ : MethodName) (head1 (Jvm.Cond.code (⟨"com/example/serigraph/serigraph/view/OrderList", "front", "()Lcom/example/serigraph/serigraph/view/OrderList$Place;"⟩ : MethodName) prog_85_method_2_code 1 (some (.object "com/example/serigraph/serigraph/view/OrderList$Place")) :: ws) ({ frames := 0, cells := 0, slots := 0, locals := 0 } : Room)) (fun a U => a = #[(.ref o0_4)] ∧ Z.Warmed39 U.vm ∧ U.heap = h0) (fun _ _ _ _ _ => True) (fun _ U o U' => ∃ v L, o = .returned v ∧ Q4 Z o0_4 w_front_o0_4 h0 n0 v U'.heap L ∧ FrameEnd U o U' L ({ frames := 0, cells := 0, slots := 0, locals := 0 } : Room).cells ({ frames := 0, cells := 0, slots := 0, locals := 0 } : Room).slots) := by
  refine MetFree.of_bodySF (plainFor_of_name pn_1) hisR ?_
  intro p e s m args below meth c s₁ Bd hml0 hP hK
  obtain ⟨rfl, hZ, hh⟩ := hP
  have hx := Bd.exec
  have hby := Bd.bytes
  have hnl := BodyLoose.notSynchronized Bd
  have hml : c.maxLocals = 1 := hml0
  have hown : s.vm.findClass "com/example/serigraph/serigraph/view/OrderList" = some m.cls := findClass_of_methodNamed Bd.named
  have hnm := (name_of_methodNamed Bd.named Bd.method).1
  have X0 : Stand p l e ({ frames := 0, cells := 0, slots := 0, locals := 0 } : Room) s m #[(.ref o0_4)] below meth c s₁ [] 0 0 := Stand.of_body Bd
  have e0 : s₁.heap = h0 := by rw [← hh, Bd.state]; rfl
  have N0 := Fr.nil n0
  show own_Ends p.tables e below s (Q4 Z o0_4 w_front_o0_4 h0 n0) 0 0 (s₁.setTop (entryFrame m #[(.ref o0_4)] 1))
  rw [ef_4 m o0_4]
  show own_Ends p.tables e below s _ _ _ (s₁.setTop (mkF m 0 #[.val (.ref o0_4)] []))
  refine own_step (fun t k => XS.aloadN X0.here hx rfl (hb hby d4_0) rfl rfl k) ?_
  show own_Ends p.tables e below s _ _ _ (s₁.setTop (mkF m 1 #[.val (.ref o0_4)] [(.ref o0_4)]))
  obtain ⟨T1, X1, e1, st1⟩ := getF X0 hx hZ hown (host := "") (Or.inl (hw _ (List.mem_of_getElem? (i := 17) rfl))) Via.refl e0 F_front_o0_4 (g := (mkF m 1 #[.val (.ref o0_4)] [(.ref o0_4)])) rfl rfl (hb hby d4_1)
  refine own_step (fun t k => st1 _ k) ?_
  show own_Ends p.tables e below s _ _ _ (T1.setTop (mkF m 4 #[.val (.ref o0_4)] [(.ref w_front_o0_4)]))
  exact own_retR X1 hx Bd.returns rfl rfl rfl (hb hby d4_4) hnl (by rw [e1]; exact ⟨rfl, N0, rfl⟩) (by decide) (by decide)
theorem d8_0 : decode prog_85_method_3_code 0 = .ok (.aload_n 0, 1) := by decide +kernel
theorem d8_1 : decode prog_85_method_3_code 1 = .ok (.getfield 16, 3) := by decide +kernel
theorem d8_4 : decode prog_85_method_3_code 4 = .ok (.areturn, 1) := by decide +kernel
theorem ef_8 (m : MethodId) (o0_8 : Addr) : entryFrame m #[(.ref o0_8)] 1 = mkF m 0 #[.val (.ref o0_8)] [] := by first | (simp [entryFrame, mkF, argsToLocals, Value.category]; done) | rfl
def Q8 (Z : State) (o0_8 : Addr) (w_back_o0_8 : Addr) (h0 : Heap) (n0 : Nat) (v : Option Value) (h : Heap) (L : List Loc) : Prop := v = some (.ref w_back_o0_8) ∧ Fr n0 L ∧ h = h0
set_option maxRecDepth 65536 in
set_option maxHeartbeats 40000000 in
theorem rm8 (l : Launch) (Z : State) (a0 : Array Value) (hw : ∀ d ∈ tables_1, d.before a0 Z = true) (ws : List Jvm.Cond) (o0_8 : Addr) (w_back_o0_8 : Addr) (h0 : Heap) (n0 : Nat) (O0 : Old Z n0 h0) (F_back_o0_8 : Fld Z h0 o0_8 "com/example/serigraph/serigraph/view/OrderList" "back" "Lcom/example/serigraph/serigraph/view/OrderList$Place;" (.ref w_back_o0_8)) :
    MetFree l (⟨"com/example/serigraph/serigraph/view/OrderList", "back", "()Lcom/example/serigraph/serigraph/view/OrderList$Place;"⟩ : MethodName) (head1 (Jvm.Cond.code (⟨"com/example/serigraph/serigraph/view/OrderList", "back", "()Lcom/example/serigraph/serigraph/view/OrderList$Place;"⟩ : MethodName) prog_85_method_3_code 1 (some (.object "com/example/serigraph/serigraph/view/OrderList$Place")) :: ws) ({ frames := 0, cells := 0, slots := 0, locals := 0 } : Room)) (fun a U => a = #[(.ref o0_8)] ∧ Z.Warmed39 U.vm ∧ U.heap = h0) (fun _ _ _ _ _ => True) (fun _ U o U' => ∃ v L, o = .returned v ∧ Q8 Z o0_8 w_back_o0_8 h0 n0 v U'.heap L ∧ FrameEnd U o U' L ({ frames := 0, cells := 0, slots := 0, locals := 0 } : Room).cells ({ frames := 0, cells := 0, slots := 0, locals := 0 } : Room).slots) := by
  refine MetFree.of_bodySF (plainFor_of_name pn_1) hisR ?_
  intro p e s m args below meth c s₁ Bd hml0 hP hK
  obtain ⟨rfl, hZ, hh⟩ := hP
  have hx := Bd.exec
  have hby := Bd.bytes
  have hnl := BodyLoose.notSynchronized Bd
  have hml : c.maxLocals = 1 := hml0
  have hown : s.vm.findClass "com/example/serigraph/serigraph/view/OrderList" = some m.cls := findClass_of_methodNamed Bd.named
  have hnm := (name_of_methodNamed Bd.named Bd.method).1
  have X0 : Stand p l e ({ frames := 0, cells := 0, slots := 0, locals := 0 } : Room) s m #[(.ref o0_8)] below meth c s₁ [] 0 0 := Stand.of_body Bd
  have e0 : s₁.heap = h0 := by rw [← hh, Bd.state]; rfl
  have N0 := Fr.nil n0
  show own_Ends p.tables e below s (Q8 Z o0_8 w_back_o0_8 h0 n0) 0 0 (s₁.setTop (entryFrame m #[(.ref o0_8)] 1))
  rw [ef_8 m o0_8]
  show own_Ends p.tables e below s _ _ _ (s₁.setTop (mkF m 0 #[.val (.ref o0_8)] []))
  refine own_step (fun t k => XS.aloadN X0.here hx rfl (hb hby d8_0) rfl rfl k) ?_
  show own_Ends p.tables e below s _ _ _ (s₁.setTop (mkF m 1 #[.val (.ref o0_8)] [(.ref o0_8)]))
  obtain ⟨T1, X1, e1, st1⟩ := getF X0 hx hZ hown (host := "") (Or.inl (hw _ (List.mem_of_getElem? (i := 19) rfl))) Via.refl e0 F_back_o0_8 (g := (mkF m 1 #[.val (.ref o0_8)] [(.ref o0_8)])) rfl rfl (hb hby d8_1)
  refine own_step (fun t k => st1 _ k) ?_
  show own_Ends p.tables e below s _ _ _ (T1.setTop (mkF m 4 #[.val (.ref o0_8)] [(.ref w_back_o0_8)]))
  exact own_retR X1 hx Bd.returns rfl rfl rfl (hb hby d8_4) hnl (by rw [e1]; exact ⟨rfl, N0, rfl⟩) (by decide) (by decide)
def own_r7 (y0_7 : Int64) (y1_7 : Int64) : Int64 := (if (0 : Int32) < (lcmpW y0_7 y1_7) then y1_7 else y0_7)
theorem d7_0 : decode jdk_29_method_70_code 0 = .ok (.lload_n 0, 1) := by decide +kernel
theorem d7_1 : decode jdk_29_method_70_code 1 = .ok (.lload_n 2, 1) := by decide +kernel
theorem d7_2 : decode jdk_29_method_70_code 2 = .ok (.lcmp, 1) := by decide +kernel
theorem d7_3 : decode jdk_29_method_70_code 3 = .ok (.ifCond .gt 7, 3) := by decide +kernel
theorem d7_6 : decode jdk_29_method_70_code 6 = .ok (.lload_n 0, 1) := by decide +kernel
theorem d7_7 : decode jdk_29_method_70_code 7 = .ok (.goto 4, 3) := by decide +kernel
theorem d7_10 : decode jdk_29_method_70_code 10 = .ok (.lload_n 2, 1) := by decide +kernel
theorem d7_11 : decode jdk_29_method_70_code 11 = .ok (.lreturn, 1) := by decide +kernel
theorem ef_7 (m : MethodId) (y0_7 : Int64) (y1_7 : Int64) : entryFrame m #[(.long y0_7), (.long y1_7)] 4 = mkF m 0 #[.val (.long y0_7), .second, .val (.long y1_7), .second] [] := by first | (simp [entryFrame, mkF, argsToLocals, Value.category]; done) | rfl
def Q7 (Z : State) (y0_7 : Int64) (y1_7 : Int64) (h0 : Heap) (n0 : Nat) (v : Option Value) (h : Heap) (L : List Loc) : Prop := v = some (.long (own_r7 y0_7 y1_7)) ∧ Fr n0 L ∧ h = h0
set_option maxRecDepth 65536 in
set_option maxHeartbeats 40000000 in
theorem rm7 (l : Launch) (Z : State) (a0 : Array Value) (hw : ∀ d ∈ tables_1, d.before a0 Z = true) (ws : List Jvm.Cond) (y0_7 : Int64) (y1_7 : Int64) (h0 : Heap) (n0 : Nat) (O0 : Old Z n0 h0) :
    MetFree l (⟨"java/lang/Math", "min", "(JJ)J"⟩ : MethodName) (head1 (Jvm.Cond.code (⟨"java/lang/Math", "min", "(JJ)J"⟩ : MethodName) jdk_29_method_70_code 4 (some .long) :: ws) ({ frames := 0, cells := 0, slots := 0, locals := 0 } : Room)) (fun a U => a = #[(.long y0_7), (.long y1_7)] ∧ Z.Warmed39 U.vm ∧ U.heap = h0) (fun _ _ _ _ _ => True) (fun _ U o U' => ∃ v L, o = .returned v ∧ Q7 Z y0_7 y1_7 h0 n0 v U'.heap L ∧ FrameEnd U o U' L ({ frames := 0, cells := 0, slots := 0, locals := 0 } : Room).cells ({ frames := 0, cells := 0, slots := 0, locals := 0 } : Room).slots) := by
  refine MetFree.of_bodySF (Jvm.Free.JP.mathPlain rfl (by decide +kernel)) hisR ?_
  intro p e s m args below meth c s₁ Bd hml0 hP hK
  obtain ⟨rfl, hZ, hh⟩ := hP
  have hx := Bd.exec
  have hby := Bd.bytes
  have hnl := BodyLoose.notSynchronized Bd
  have hml : c.maxLocals = 4 := hml0
  have hown : s.vm.findClass "java/lang/Math" = some m.cls := findClass_of_methodNamed Bd.named
  have hnm := (name_of_methodNamed Bd.named Bd.method).1
  have X0 : Stand p l e ({ frames := 0, cells := 0, slots := 0, locals := 0 } : Room) s m #[(.long y0_7), (.long y1_7)] below meth c s₁ [] 0 0 := Stand.of_body Bd
  have e0 : s₁.heap = h0 := by rw [← hh, Bd.state]; rfl
  have N0 := Fr.nil n0
  show own_Ends p.tables e below s (Q7 Z y0_7 y1_7 h0 n0) 0 0 (s₁.setTop (entryFrame m #[(.long y0_7), (.long y1_7)] 4))
  rw [ef_7 m y0_7 y1_7]
  show own_Ends p.tables e below s _ _ _ (s₁.setTop (mkF m 0 #[.val (.long y0_7), .second, .val (.long y1_7), .second] []))
  refine own_step (fun t k => XS.lloadN X0.here hx rfl (hb hby d7_0) rfl k) ?_
  show own_Ends p.tables e below s _ _ _ (s₁.setTop (mkF m 1 #[.val (.long y0_7), .second, .val (.long y1_7), .second] [(.long y0_7)]))
  refine own_step (fun t k => XS.lloadN X0.here hx rfl (hb hby d7_1) rfl k) ?_
  show own_Ends p.tables e below s _ _ _ (s₁.setTop (mkF m 2 #[.val (.long y0_7), .second, .val (.long y1_7), .second] [(.long y1_7), (.long y0_7)]))
  refine own_step (fun t k => XS.lcmp X0.here hx rfl (hb hby d7_2) rfl k) ?_
  show own_Ends p.tables e below s _ _ _ (s₁.setTop (mkF m 3 #[.val (.long y0_7), .second, .val (.long y1_7), .second] [(.int (lcmpW y0_7 y1_7))]))
  by_cases hc3_1 : (0 : Int32) < (lcmpW y0_7 y1_7)
  · skip
    refine own_step (fun t k => XS.ifYes X0.here hx rfl (pc0 := 3) (pc' := 10) rfl (hb hby d7_3) rfl ((if0 _ _).trans (tlt hc3_1).2.2.1) (by decide) (by decide) k) ?_
    show own_Ends p.tables e below s _ _ _ (s₁.setTop (mkF m 10 #[.val (.long y0_7), .second, .val (.long y1_7), .second] []))
    refine own_step (fun t k => XS.lloadN X0.here hx rfl (hb hby d7_10) rfl k) ?_
    show own_Ends p.tables e below s _ _ _ (s₁.setTop (mkF m 11 #[.val (.long y0_7), .second, .val (.long y1_7), .second] [(.long y1_7)]))
    exact own_retJ X0 hx Bd.returns (hb hby d7_11) hnl (by rw [e0]; exact ⟨(congrArg (fun z => some (Value.long z)) (Eq.symm (show (own_r7 y0_7 y1_7) = y1_7 from by unfold own_r7; rw [if_pos hc3_1]))), N0, rfl⟩) (by decide) (by decide)
  · skip
    refine own_step (fun t k => XS.ifNo X0.here hx rfl (hb hby d7_3) rfl ((if0 _ _).trans (flt hc3_1).2.2.1) k) ?_
    show own_Ends p.tables e below s _ _ _ (s₁.setTop (mkF m 6 #[.val (.long y0_7), .second, .val (.long y1_7), .second] []))
    refine own_step (fun t k => XS.lloadN X0.here hx rfl (hb hby d7_6) rfl k) ?_
    show own_Ends p.tables e below s _ _ _ (s₁.setTop (mkF m 7 #[.val (.long y0_7), .second, .val (.long y1_7), .second] [(.long y0_7)]))
    refine own_step (fun t k => XS.goto X0.here hx rfl (pc0 := 7) (pc' := 11) rfl (hb hby d7_7) (by decide) (by decide) k) ?_
    show own_Ends p.tables e below s _ _ _ (s₁.setTop (mkF m 11 #[.val (.long y0_7), .second, .val (.long y1_7), .second] [(.long y0_7)]))
    exact own_retJ X0 hx Bd.returns (hb hby d7_11) hnl (by rw [e0]; exact ⟨(congrArg (fun z => some (Value.long z)) (Eq.symm (show (own_r7 y0_7 y1_7) = y0_7 from by unfold own_r7; rw [if_neg hc3_1]))), N0, rfl⟩) (by decide) (by decide)
theorem pd_1 : parseMethodDescriptor "(JJ)J" = some ⟨[.long, .long], some .long⟩ := by decide +kernel
theorem d6_0 : decode prog_85_method_4_code 0 = .ok (.aload_n 1, 1) := by decide +kernel
theorem d6_1 : decode prog_85_method_4_code 1 = .ok (.getfield 25, 3) := by decide +kernel
theorem d6_4 : decode prog_85_method_4_code 4 = .ok (.getfield 21, 3) := by decide +kernel
theorem d6_7 : decode prog_85_method_4_code 7 = .ok (.aload_n 1, 1) := by decide +kernel
theorem d6_8 : decode prog_85_method_4_code 8 = .ok (.getfield 21, 3) := by decide +kernel
theorem d6_11 : decode prog_85_method_4_code 11 = .ok (.lsub, 1) := by decide +kernel
theorem d6_12 : decode prog_85_method_4_code 12 = .ok (.ldc2_w 31, 3) := by decide +kernel
theorem d6_15 : decode prog_85_method_4_code 15 = .ok (.lcmp, 1) := by decide +kernel
theorem d6_16 : decode prog_85_method_4_code 16 = .ok (.ifCond .ge 8, 3) := by decide +kernel
theorem d6_24 : decode prog_85_method_4_code 24 = .ok (.new 7, 3) := by decide +kernel
theorem d6_27 : decode prog_85_method_4_code 27 = .ok (.dup, 1) := by decide +kernel
theorem d6_28 : decode prog_85_method_4_code 28 = .ok (.invokespecial 9, 3) := by decide +kernel
theorem d6_31 : decode prog_85_method_4_code 31 = .ok (.astore_n 2, 1) := by decide +kernel
theorem d6_32 : decode prog_85_method_4_code 32 = .ok (.aload_n 2, 1) := by decide +kernel
theorem d6_33 : decode prog_85_method_4_code 33 = .ok (.aload_n 1, 1) := by decide +kernel
theorem d6_34 : decode prog_85_method_4_code 34 = .ok (.getfield 21, 3) := by decide +kernel
theorem d6_37 : decode prog_85_method_4_code 37 = .ok (.aload_n 1, 1) := by decide +kernel
theorem d6_38 : decode prog_85_method_4_code 38 = .ok (.getfield 25, 3) := by decide +kernel
theorem d6_41 : decode prog_85_method_4_code 41 = .ok (.getfield 21, 3) := by decide +kernel
theorem d6_44 : decode prog_85_method_4_code 44 = .ok (.aload_n 1, 1) := by decide +kernel
theorem d6_45 : decode prog_85_method_4_code 45 = .ok (.getfield 21, 3) := by decide +kernel
theorem d6_48 : decode prog_85_method_4_code 48 = .ok (.lsub, 1) := by decide +kernel
theorem d6_49 : decode prog_85_method_4_code 49 = .ok (.ldc2_w 31, 3) := by decide +kernel
theorem d6_52 : decode prog_85_method_4_code 52 = .ok (.ldiv, 1) := by decide +kernel
theorem d6_53 : decode prog_85_method_4_code 53 = .ok (.ldc2_w 37, 3) := by decide +kernel
theorem d6_56 : decode prog_85_method_4_code 56 = .ok (.invokestatic 39, 3) := by decide +kernel
theorem d6_59 : decode prog_85_method_4_code 59 = .ok (.ladd, 1) := by decide +kernel
theorem d6_60 : decode prog_85_method_4_code 60 = .ok (.putfield 21, 3) := by decide +kernel
theorem d6_63 : decode prog_85_method_4_code 63 = .ok (.aload_n 2, 1) := by decide +kernel
theorem d6_64 : decode prog_85_method_4_code 64 = .ok (.aload_n 1, 1) := by decide +kernel
theorem d6_65 : decode prog_85_method_4_code 65 = .ok (.putfield 28, 3) := by decide +kernel
theorem d6_68 : decode prog_85_method_4_code 68 = .ok (.aload_n 2, 1) := by decide +kernel
theorem d6_69 : decode prog_85_method_4_code 69 = .ok (.aload_n 1, 1) := by decide +kernel
theorem d6_70 : decode prog_85_method_4_code 70 = .ok (.getfield 25, 3) := by decide +kernel
theorem d6_73 : decode prog_85_method_4_code 73 = .ok (.putfield 25, 3) := by decide +kernel
theorem d6_76 : decode prog_85_method_4_code 76 = .ok (.aload_n 1, 1) := by decide +kernel
theorem d6_77 : decode prog_85_method_4_code 77 = .ok (.getfield 25, 3) := by decide +kernel
theorem d6_80 : decode prog_85_method_4_code 80 = .ok (.aload_n 2, 1) := by decide +kernel
theorem d6_81 : decode prog_85_method_4_code 81 = .ok (.putfield 28, 3) := by decide +kernel
theorem d6_84 : decode prog_85_method_4_code 84 = .ok (.aload_n 1, 1) := by decide +kernel
theorem d6_85 : decode prog_85_method_4_code 85 = .ok (.aload_n 2, 1) := by decide +kernel
theorem d6_86 : decode prog_85_method_4_code 86 = .ok (.putfield 25, 3) := by decide +kernel
theorem d6_89 : decode prog_85_method_4_code 89 = .ok (.aload_n 2, 1) := by decide +kernel
theorem d6_90 : decode prog_85_method_4_code 90 = .ok (.areturn, 1) := by decide +kernel
theorem ef_6 (m : MethodId) (o0_6 : Addr) (o1_6 : Addr) : entryFrame m #[(.ref o0_6), (.ref o1_6)] 3 = mkF m 0 #[.val (.ref o0_6), .val (.ref o1_6), .unset] [] := by first | (simp [entryFrame, mkF, argsToLocals, Value.category]; done) | rfl
def Q6 (Z : State) (o0_6 : Addr) (o1_6 : Addr) (u_next_w_next_o1_6 : Value) (u_previous_o1_6 : Value) (w_next_o1_6 : Addr) (w_label_w_next_o1_6 : Int64) (w_label_o1_6 : Int64) (u_previous_w_next_o1_6 : Value) (h0 : Heap) (n0 : Nat) (v : Option Value) (h : Heap) (L : List Loc) : Prop := ∃ (b5 : Addr), v = some (.ref b5) ∧ Fr n0 L ∧ Keep h0 h [w_next_o1_6, o1_6] ∧ h0.size ≤ b5 ∧ Fld Z h w_next_o1_6 "com/example/serigraph/serigraph/view/OrderList$Place" "next" "Lcom/example/serigraph/serigraph/view/OrderList$Place;" u_next_w_next_o1_6 ∧ Fld Z h w_next_o1_6 "com/example/serigraph/serigraph/view/OrderList$Place" "label" "J" (.long w_label_w_next_o1_6) ∧ Exa Z h w_next_o1_6 "com/example/serigraph/serigraph/view/OrderList$Place" ∧ Fld Z h w_next_o1_6 "com/example/serigraph/serigraph/view/OrderList$Place" "previous" "Lcom/example/serigraph/serigraph/view/OrderList$Place;" (.ref b5) ∧ Fld Z h o1_6 "com/example/serigraph/serigraph/view/OrderList$Place" "previous" "Lcom/example/serigraph/serigraph/view/OrderList$Place;" u_previous_o1_6 ∧ Fld Z h o1_6 "com/example/serigraph/serigraph/view/OrderList$Place" "next" "Lcom/example/serigraph/serigraph/view/OrderList$Place;" (.ref b5) ∧ Fld Z h o1_6 "com/example/serigraph/serigraph/view/OrderList$Place" "label" "J" (.long w_label_o1_6) ∧ Exa Z h o1_6 "com/example/serigraph/serigraph/view/OrderList$Place" ∧ Exa Z h b5 "com/example/serigraph/serigraph/view/OrderList$Place" ∧ Fld Z h b5 "com/example/serigraph/serigraph/view/OrderList$Place" "label" "J" (.long (w_label_o1_6 + (own_r7 ((w_label_w_next_o1_6 - w_label_o1_6) / (2 : Int64)) (4294967296 : Int64)))) ∧ Fld Z h b5 "com/example/serigraph/serigraph/view/OrderList$Place" "next" "Lcom/example/serigraph/serigraph/view/OrderList$Place;" (.ref w_next_o1_6) ∧ Fld Z h b5 "com/example/serigraph/serigraph/view/OrderList$Place" "previous" "Lcom/example/serigraph/serigraph/view/OrderList$Place;" (.ref o1_6)
set_option maxRecDepth 65536 in
set_option maxHeartbeats 40000000 in
theorem rm6 (l : Launch) (Z : State) (a0 : Array Value) (hw : ∀ d ∈ tables_1, d.before a0 Z = true) (ws : List Jvm.Cond) (o0_6 : Addr) (o1_6 : Addr) (u_next_w_next_o1_6 : Value) (u_previous_o1_6 : Value) (w_next_o1_6 : Addr) (w_label_w_next_o1_6 : Int64) (w_label_o1_6 : Int64) (u_previous_w_next_o1_6 : Value) (h0 : Heap) (n0 : Nat) (O0 : Old Z n0 h0) (hgap : ¬ ((lcmpW (w_label_w_next_o1_6 - w_label_o1_6) (2 : Int64)) < (0 : Int32))) (F_next_w_next_o1_6 : Fld Z h0 w_next_o1_6 "com/example/serigraph/serigraph/view/OrderList$Place" "next" "Lcom/example/serigraph/serigraph/view/OrderList$Place;" u_next_w_next_o1_6) (F_previous_o1_6 : Fld Z h0 o1_6 "com/example/serigraph/serigraph/view/OrderList$Place" "previous" "Lcom/example/serigraph/serigraph/view/OrderList$Place;" u_previous_o1_6) (F_next_o1_6 : Fld Z h0 o1_6 "com/example/serigraph/serigraph/view/OrderList$Place" "next" "Lcom/example/serigraph/serigraph/view/OrderList$Place;" (.ref w_next_o1_6)) (F_label_w_next_o1_6 : Fld Z h0 w_next_o1_6 "com/example/serigraph/serigraph/view/OrderList$Place" "label" "J" (.long w_label_w_next_o1_6)) (F_label_o1_6 : Fld Z h0 o1_6 "com/example/serigraph/serigraph/view/OrderList$Place" "label" "J" (.long w_label_o1_6)) (E_w_next_o1_6 : Exa Z h0 w_next_o1_6 "com/example/serigraph/serigraph/view/OrderList$Place") (F_previous_w_next_o1_6 : Fld Z h0 w_next_o1_6 "com/example/serigraph/serigraph/view/OrderList$Place" "previous" "Lcom/example/serigraph/serigraph/view/OrderList$Place;" u_previous_w_next_o1_6) (g_w_next_o1_6 : n0 ≤ w_next_o1_6) (E_o1_6 : Exa Z h0 o1_6 "com/example/serigraph/serigraph/view/OrderList$Place") (ne_o1_6_w_next_o1_6 : o1_6 ≠ w_next_o1_6) (g_o1_6 : n0 ≤ o1_6) :
    MetFree l (⟨"com/example/serigraph/serigraph/view/OrderList", "insertAfter", "(Lcom/example/serigraph/serigraph/view/OrderList$Place;)Lcom/example/serigraph/serigraph/view/OrderList$Place;"⟩ : MethodName) (head1 (Jvm.Cond.code (⟨"com/example/serigraph/serigraph/view/OrderList", "insertAfter", "(Lcom/example/serigraph/serigraph/view/OrderList$Place;)Lcom/example/serigraph/serigraph/view/OrderList$Place;"⟩ : MethodName) prog_85_method_4_code 3 (some (.object "com/example/serigraph/serigraph/view/OrderList$Place")) :: ws) ({ frames := 2, cells := 1, slots := 3, locals := 25 } : Room)) (fun a U => a = #[(.ref o0_6), (.ref o1_6)] ∧ Z.Warmed39 U.vm ∧ U.heap = h0) (fun _ _ _ _ _ => True) (fun _ U o U' => ∃ v L, o = .returned v ∧ Q6 Z o0_6 o1_6 u_next_w_next_o1_6 u_previous_o1_6 w_next_o1_6 w_label_w_next_o1_6 w_label_o1_6 u_previous_w_next_o1_6 h0 n0 v U'.heap L ∧ FrameEnd U o U' L ({ frames := 2, cells := 1, slots := 3, locals := 25 } : Room).cells ({ frames := 2, cells := 1, slots := 3, locals := 25 } : Room).slots) := by
  refine MetFree.of_bodySF (plainFor_of_name pn_1) hisR ?_
  intro p e s m args below meth c s₁ Bd hml0 hP hK
  obtain ⟨rfl, hZ, hh⟩ := hP
  have hx := Bd.exec
  have hby := Bd.bytes
  have hnl := BodyLoose.notSynchronized Bd
  have hml : c.maxLocals = 3 := hml0
  have hown : s.vm.findClass "com/example/serigraph/serigraph/view/OrderList" = some m.cls := findClass_of_methodNamed Bd.named
  have hnm := (name_of_methodNamed Bd.named Bd.method).1
  have X0 : Stand p l e ({ frames := 2, cells := 1, slots := 3, locals := 25 } : Room) s m #[(.ref o0_6), (.ref o1_6)] below meth c s₁ [] 0 0 := Stand.of_body Bd
  have e0 : s₁.heap = h0 := by rw [← hh, Bd.state]; rfl
  have N0 := Fr.nil n0
  show own_Ends p.tables e below s (Q6 Z o0_6 o1_6 u_next_w_next_o1_6 u_previous_o1_6 w_next_o1_6 w_label_w_next_o1_6 w_label_o1_6 u_previous_w_next_o1_6 h0 n0) 1 3 (s₁.setTop (entryFrame m #[(.ref o0_6), (.ref o1_6)] 3))
  rw [ef_6 m o0_6 o1_6]
  show own_Ends p.tables e below s _ _ _ (s₁.setTop (mkF m 0 #[.val (.ref o0_6), .val (.ref o1_6), .unset] []))
  refine own_step (fun t k => XS.aloadN X0.here hx rfl (hb hby d6_0) rfl rfl k) ?_
  show own_Ends p.tables e below s _ _ _ (s₁.setTop (mkF m 1 #[.val (.ref o0_6), .val (.ref o1_6), .unset] [(.ref o1_6)]))
  obtain ⟨T1, X1, e1, st1⟩ := own_getR X0 hx hZ hown (hw _ (List.mem_of_getElem? (i := 24) rfl)) e0 F_next_o1_6 (g := (mkF m 1 #[.val (.ref o0_6), .val (.ref o1_6), .unset] [(.ref o1_6)])) rfl rfl (hb hby d6_1)
  refine own_step (fun t k => st1 _ k) ?_
  show own_Ends p.tables e below s _ _ _ (T1.setTop (mkF m 4 #[.val (.ref o0_6), .val (.ref o1_6), .unset] [(.ref w_next_o1_6)]))
  obtain ⟨T2, X2, e2, st2⟩ := own_getR X1 hx hZ hown (hw _ (List.mem_of_getElem? (i := 22) rfl)) e1 F_label_w_next_o1_6 (g := (mkF m 4 #[.val (.ref o0_6), .val (.ref o1_6), .unset] [(.ref w_next_o1_6)])) rfl rfl (hb hby d6_4)
  refine own_step (fun t k => st2 _ k) ?_
  show own_Ends p.tables e below s _ _ _ (T2.setTop (mkF m 7 #[.val (.ref o0_6), .val (.ref o1_6), .unset] [(.long w_label_w_next_o1_6)]))
  refine own_step (fun t k => XS.aloadN X2.here hx rfl (hb hby d6_7) rfl rfl k) ?_
  show own_Ends p.tables e below s _ _ _ (T2.setTop (mkF m 8 #[.val (.ref o0_6), .val (.ref o1_6), .unset] [(.ref o1_6), (.long w_label_w_next_o1_6)]))
  obtain ⟨T3, X3, e3, st3⟩ := own_getR X2 hx hZ hown (hw _ (List.mem_of_getElem? (i := 22) rfl)) e2 F_label_o1_6 (g := (mkF m 8 #[.val (.ref o0_6), .val (.ref o1_6), .unset] [(.ref o1_6), (.long w_label_w_next_o1_6)])) rfl rfl (hb hby d6_8)
  refine own_step (fun t k => st3 _ k) ?_
  show own_Ends p.tables e below s _ _ _ (T3.setTop (mkF m 11 #[.val (.ref o0_6), .val (.ref o1_6), .unset] [(.long w_label_o1_6), (.long w_label_w_next_o1_6)]))
  refine own_step (fun t k => XS.lsub X3.here hx rfl (hb hby d6_11) rfl k) ?_
  show own_Ends p.tables e below s _ _ _ (T3.setTop (mkF m 12 #[.val (.ref o0_6), .val (.ref o1_6), .unset] [(.long (w_label_w_next_o1_6 - w_label_o1_6))]))
  refine own_step (fun t k => X3.ldc2Long hx hown (mvT hZ (hw _ (List.mem_of_getElem? (i := 46) rfl))) (g := (mkF m 12 #[.val (.ref o0_6), .val (.ref o1_6), .unset] [(.long (w_label_w_next_o1_6 - w_label_o1_6))])) rfl (hb hby d6_12) _ k) ?_
  show own_Ends p.tables e below s _ _ _ (T3.setTop (mkF m 15 #[.val (.ref o0_6), .val (.ref o1_6), .unset] [(.long (2 : Int64)), (.long (w_label_w_next_o1_6 - w_label_o1_6))]))
  refine own_step (fun t k => XS.lcmp X3.here hx rfl (hb hby d6_15) rfl k) ?_
  show own_Ends p.tables e below s _ _ _ (T3.setTop (mkF m 16 #[.val (.ref o0_6), .val (.ref o1_6), .unset] [(.int (lcmpW (w_label_w_next_o1_6 - w_label_o1_6) (2 : Int64)))]))
  have hc4 : ¬ ((lcmpW (w_label_w_next_o1_6 - w_label_o1_6) (2 : Int64)) < (0 : Int32)) := hgap
  refine own_step (fun t k => XS.ifYes X3.here hx rfl (pc0 := 16) (pc' := 24) rfl (hb hby d6_16) rfl ((if0 _ _).trans (flt hc4).2.1) (by decide) (by decide) k) ?_
  show own_Ends p.tables e below s _ _ _ (T3.setTop (mkF m 24 #[.val (.ref o0_6), .val (.ref o1_6), .unset] []))
  obtain ⟨T5, h5, X5, e5, E5, A5, D5, -, st5⟩ := newO X3 hx hZ hown (hw _ (List.mem_of_getElem? (i := 10) rfl)) (hw _ (List.mem_of_getElem? (i := 11) rfl)) (hw _ (List.mem_of_getElem? (i := 12) rfl)) e3 (g := (mkF m 24 #[.val (.ref o0_6), .val (.ref o1_6), .unset] [])) rfl (hb hby d6_24) (by decide) (by decide)
  obtain ⟨b5, g5⟩ : ∃ z, z = h0.size := ⟨_, rfl⟩
  rw [← g5] at A5 D5 st5
  have g_b5 : n0 ≤ b5 := Nat.le_trans (Nat.le_trans (Nat.le_of_eq O0.1.symm) O0.2.1) (Nat.le_of_eq g5.symm)
  have sz_b5 : h0.size ≤ b5 := Nat.le_trans (Keep.refl h0 [w_next_o1_6, o1_6]).1 (Nat.le_of_eq g5.symm)
  have ne_w_next_o1_6_b5 : w_next_o1_6 ≠ b5 := Nat.ne_of_lt (Nat.lt_of_lt_of_le F_next_w_next_o1_6.lt (Nat.le_of_eq g5.symm))
  have ne_o1_6_b5 : o1_6 ≠ b5 := Nat.ne_of_lt (Nat.lt_of_lt_of_le F_previous_o1_6.lt (Nat.le_of_eq g5.symm))
  have F5_label : Fld Z h5 b5 "com/example/serigraph/serigraph/view/OrderList$Place" "label" "J" (.long (0 : Int64)) := D5 (Or.inl (hw _ (List.mem_of_getElem? (i := 23) rfl))) (ty := .long) (by decide)
  have F5_next : Fld Z h5 b5 "com/example/serigraph/serigraph/view/OrderList$Place" "next" "Lcom/example/serigraph/serigraph/view/OrderList$Place;" .null := D5 (Or.inl (hw _ (List.mem_of_getElem? (i := 25) rfl))) (ty := (.object "com/example/serigraph/serigraph/view/OrderList$Place")) (by decide)
  have F5_previous : Fld Z h5 b5 "com/example/serigraph/serigraph/view/OrderList$Place" "previous" "Lcom/example/serigraph/serigraph/view/OrderList$Place;" .null := D5 (Or.inl (hw _ (List.mem_of_getElem? (i := 27) rfl))) (ty := (.object "com/example/serigraph/serigraph/view/OrderList$Place")) (by decide)
  refine own_step (fun t k => st5 _ k) ?_
  have K6 : Keep h0 h5 [w_next_o1_6, o1_6] := (Keep.refl h0 [w_next_o1_6, o1_6]).ext E5
  show own_Ends p.tables e below s _ _ _ (T5.setTop (mkF m 27 #[.val (.ref o0_6), .val (.ref o1_6), .unset] [(.ref b5)]))
  refine own_step (fun t k => XS.dup X5.here hx rfl (hb hby d6_27) rfl rfl k) ?_
  show own_Ends p.tables e below s _ _ _ (T5.setTop (mkF m 28 #[.val (.ref o0_6), .val (.ref o1_6), .unset] [(.ref b5), (.ref b5)]))
  have O7 : Old Z n0 h5 := (O0.ext E5)
  obtain ⟨_, _, ⟨T8, L8, k8, n8⟩, -, X8, ⟨Lc8, hQ8, l8, y8, z8⟩, st8⟩ := X5.specialBack hx (y := (⟨"com/example/serigraph/serigraph/view/OrderList$Place", "<init>", "()V"⟩ : MethodName)) rfl hown (mvT hZ (hw _ (List.mem_of_getElem? (i := 13) rfl))) (mvT hZ (hw _ (List.mem_of_getElem? (i := 14) rfl))) (mvT hZ (hw _ (List.mem_of_getElem? (i := 15) rfl))) (by decide) (backOf (W := 1) (rm3 l Z a0 hw [] b5 h5 n0 O7 ) hZ (hw _ (List.mem_of_getElem? (i := 15) rfl)) (hw _ (List.mem_of_getElem? (i := 12) rfl)) (by decide) (by decide)) (g := (mkF m 28 #[.val (.ref o0_6), .val (.ref o1_6), .unset] [(.ref b5), (.ref b5)])) rfl (by rw [hml]; rfl) (Steps.refl _) (a := b5) (argsL := []) (rest := [(.ref b5)]) (lenOf pd_0 rfl) rfl (by show 2 * 0 + _ ≤ _; exact Nat.le_of_eq rfl) (hb hby d6_28) (fun _ _ => ⟨rfl, e5, (by decide : 1 + 0 ≤ _), (by decide : 3 + 0 ≤ _)⟩)
  dsimp only [Pt.U, Pt.locs, Pt.cells, Pt.slots] at X8 l8 y8 z8 st8 hQ8
  subst y8 z8
  obtain ⟨rfl, N8q, e8⟩ := hQ8
  refine own_step (fun t k => st8.trans k) ?_
  have N9 : Fr n0 L8 := by rw [l8]; exact Fr.app N0 N8q
  show own_Ends p.tables e below s _ _ _ (T8.setTop (mkF m 31 #[.val (.ref o0_6), .val (.ref o1_6), .unset] [(.ref b5)]))
  refine own_step (fun t k => XS.astoreN X8.here hx rfl (hb hby d6_31) rfl rfl (l' := #[.val (.ref o0_6), .val (.ref o1_6), .val (.ref b5)]) rfl k) ?_
  show own_Ends p.tables e below s _ _ _ (T8.setTop (mkF m 32 #[.val (.ref o0_6), .val (.ref o1_6), .val (.ref b5)] []))
  refine own_step (fun t k => XS.aloadN X8.here hx rfl (hb hby d6_32) rfl rfl k) ?_
  show own_Ends p.tables e below s _ _ _ (T8.setTop (mkF m 33 #[.val (.ref o0_6), .val (.ref o1_6), .val (.ref b5)] [(.ref b5)]))
  refine own_step (fun t k => XS.aloadN X8.here hx rfl (hb hby d6_33) rfl rfl k) ?_
  show own_Ends p.tables e below s _ _ _ (T8.setTop (mkF m 34 #[.val (.ref o0_6), .val (.ref o1_6), .val (.ref b5)] [(.ref o1_6), (.ref b5)]))
  have F10 : Fld Z h5 o1_6 "com/example/serigraph/serigraph/view/OrderList$Place" "label" "J" (.long w_label_o1_6) := (F_label_o1_6.ext E5)
  obtain ⟨T11, X11, e11, st11⟩ := own_getR X8 hx hZ hown (hw _ (List.mem_of_getElem? (i := 22) rfl)) e8 F10 (g := (mkF m 34 #[.val (.ref o0_6), .val (.ref o1_6), .val (.ref b5)] [(.ref o1_6), (.ref b5)])) rfl rfl (hb hby d6_34)
  refine own_step (fun t k => st11 _ k) ?_
  show own_Ends p.tables e below s _ _ _ (T11.setTop (mkF m 37 #[.val (.ref o0_6), .val (.ref o1_6), .val (.ref b5)] [(.long w_label_o1_6), (.ref b5)]))
  refine own_step (fun t k => XS.aloadN X11.here hx rfl (hb hby d6_37) rfl rfl k) ?_
  show own_Ends p.tables e below s _ _ _ (T11.setTop (mkF m 38 #[.val (.ref o0_6), .val (.ref o1_6), .val (.ref b5)] [(.ref o1_6), (.long w_label_o1_6), (.ref b5)]))
  have F12 : Fld Z h5 o1_6 "com/example/serigraph/serigraph/view/OrderList$Place" "next" "Lcom/example/serigraph/serigraph/view/OrderList$Place;" (.ref w_next_o1_6) := (F_next_o1_6.ext E5)
  obtain ⟨T13, X13, e13, st13⟩ := own_getR X11 hx hZ hown (hw _ (List.mem_of_getElem? (i := 24) rfl)) e11 F12 (g := (mkF m 38 #[.val (.ref o0_6), .val (.ref o1_6), .val (.ref b5)] [(.ref o1_6), (.long w_label_o1_6), (.ref b5)])) rfl rfl (hb hby d6_38)
  refine own_step (fun t k => st13 _ k) ?_
  show own_Ends p.tables e below s _ _ _ (T13.setTop (mkF m 41 #[.val (.ref o0_6), .val (.ref o1_6), .val (.ref b5)] [(.ref w_next_o1_6), (.long w_label_o1_6), (.ref b5)]))
  have F14 : Fld Z h5 w_next_o1_6 "com/example/serigraph/serigraph/view/OrderList$Place" "label" "J" (.long w_label_w_next_o1_6) := (F_label_w_next_o1_6.ext E5)
  obtain ⟨T15, X15, e15, st15⟩ := own_getR X13 hx hZ hown (hw _ (List.mem_of_getElem? (i := 22) rfl)) e13 F14 (g := (mkF m 41 #[.val (.ref o0_6), .val (.ref o1_6), .val (.ref b5)] [(.ref w_next_o1_6), (.long w_label_o1_6), (.ref b5)])) rfl rfl (hb hby d6_41)
  refine own_step (fun t k => st15 _ k) ?_
  show own_Ends p.tables e below s _ _ _ (T15.setTop (mkF m 44 #[.val (.ref o0_6), .val (.ref o1_6), .val (.ref b5)] [(.long w_label_w_next_o1_6), (.long w_label_o1_6), (.ref b5)]))
  refine own_step (fun t k => XS.aloadN X15.here hx rfl (hb hby d6_44) rfl rfl k) ?_
  show own_Ends p.tables e below s _ _ _ (T15.setTop (mkF m 45 #[.val (.ref o0_6), .val (.ref o1_6), .val (.ref b5)] [(.ref o1_6), (.long w_label_w_next_o1_6), (.long w_label_o1_6), (.ref b5)]))
  obtain ⟨T16, X16, e16, st16⟩ := own_getR X15 hx hZ hown (hw _ (List.mem_of_getElem? (i := 22) rfl)) e15 F10 (g := (mkF m 45 #[.val (.ref o0_6), .val (.ref o1_6), .val (.ref b5)] [(.ref o1_6), (.long w_label_w_next_o1_6), (.long w_label_o1_6), (.ref b5)])) rfl rfl (hb hby d6_45)
  refine own_step (fun t k => st16 _ k) ?_
  show own_Ends p.tables e below s _ _ _ (T16.setTop (mkF m 48 #[.val (.ref o0_6), .val (.ref o1_6), .val (.ref b5)] [(.long w_label_o1_6), (.long w_label_w_next_o1_6), (.long w_label_o1_6), (.ref b5)]))
  refine own_step (fun t k => XS.lsub X16.here hx rfl (hb hby d6_48) rfl k) ?_
  show own_Ends p.tables e below s _ _ _ (T16.setTop (mkF m 49 #[.val (.ref o0_6), .val (.ref o1_6), .val (.ref b5)] [(.long (w_label_w_next_o1_6 - w_label_o1_6)), (.long w_label_o1_6), (.ref b5)]))
  refine own_step (fun t k => X16.ldc2Long hx hown (mvT hZ (hw _ (List.mem_of_getElem? (i := 46) rfl))) (g := (mkF m 49 #[.val (.ref o0_6), .val (.ref o1_6), .val (.ref b5)] [(.long (w_label_w_next_o1_6 - w_label_o1_6)), (.long w_label_o1_6), (.ref b5)])) rfl (hb hby d6_49) _ k) ?_
  show own_Ends p.tables e below s _ _ _ (T16.setTop (mkF m 52 #[.val (.ref o0_6), .val (.ref o1_6), .val (.ref b5)] [(.long (2 : Int64)), (.long (w_label_w_next_o1_6 - w_label_o1_6)), (.long w_label_o1_6), (.ref b5)]))
  refine own_step (fun t k => XS.ldiv X16.here hx rfl (hb hby d6_52) rfl (by decide) k) ?_
  show own_Ends p.tables e below s _ _ _ (T16.setTop (mkF m 53 #[.val (.ref o0_6), .val (.ref o1_6), .val (.ref b5)] [(.long ((w_label_w_next_o1_6 - w_label_o1_6) / (2 : Int64))), (.long w_label_o1_6), (.ref b5)]))
  refine own_step (fun t k => X16.ldc2Long hx hown (mvT hZ (hw _ (List.mem_of_getElem? (i := 47) rfl))) (g := (mkF m 53 #[.val (.ref o0_6), .val (.ref o1_6), .val (.ref b5)] [(.long ((w_label_w_next_o1_6 - w_label_o1_6) / (2 : Int64))), (.long w_label_o1_6), (.ref b5)])) rfl (hb hby d6_53) _ k) ?_
  show own_Ends p.tables e below s _ _ _ (T16.setTop (mkF m 56 #[.val (.ref o0_6), .val (.ref o1_6), .val (.ref b5)] [(.long (4294967296 : Int64)), (.long ((w_label_w_next_o1_6 - w_label_o1_6) / (2 : Int64))), (.long w_label_o1_6), (.ref b5)]))
  obtain ⟨_, _, ⟨T17, L17, k17, n17⟩, -, X17, ⟨Lc17, hQ17, l17, y17, z17⟩, st17⟩ := Jvm.LawKit.callS X16 hx (y := (⟨"java/lang/Math", "min", "(JJ)J"⟩ : MethodName)) hown (mvT hZ (hw _ (List.mem_of_getElem? (i := 48) rfl))) (mvT hZ (hw _ (List.mem_of_getElem? (i := 49) rfl))) (mvT hZ (hw _ (List.mem_of_getElem? (i := 50) rfl))) (mvT hZ (hw _ (List.mem_of_getElem? (i := 51) rfl))) (by decide) (backOf (W := 3) (rm7 l Z a0 hw [] ((w_label_w_next_o1_6 - w_label_o1_6) / (2 : Int64)) (4294967296 : Int64) h5 n0 O7 ) hZ (hw _ (List.mem_of_getElem? (i := 51) rfl)) (hw _ (List.mem_of_getElem? (i := 50) rfl)) (by decide) (by decide)) (g := (mkF m 56 #[.val (.ref o0_6), .val (.ref o1_6), .val (.ref b5)] [(.long (4294967296 : Int64)), (.long ((w_label_w_next_o1_6 - w_label_o1_6) / (2 : Int64))), (.long w_label_o1_6), (.ref b5)])) rfl (by rw [hml]; rfl) (argsL := [(.long ((w_label_w_next_o1_6 - w_label_o1_6) / (2 : Int64))), (.long (4294967296 : Int64))]) (rest := [(.long w_label_o1_6), (.ref b5)]) (lenOf pd_1 rfl) rfl (by show 2 * 0 + _ ≤ _; exact Nat.le_of_eq rfl) (hb hby d6_56) (fun _ _ => ⟨rfl, e16, (by decide : 1 + 0 ≤ _), (by decide : 3 + 0 ≤ _)⟩)
  dsimp only [Pt.U, Pt.locs, Pt.cells, Pt.slots] at X17 l17 y17 z17 st17 hQ17
  subst y17 z17
  obtain ⟨rfl, N17q, e17⟩ := hQ17
  refine own_step (fun t k => st17 _ k) ?_
  have N18 : Fr n0 L17 := by rw [l17]; exact Fr.app N9 N17q
  show own_Ends p.tables e below s _ _ _ (T17.setTop (mkF m 59 #[.val (.ref o0_6), .val (.ref o1_6), .val (.ref b5)] [(.long (own_r7 ((w_label_w_next_o1_6 - w_label_o1_6) / (2 : Int64)) (4294967296 : Int64))), (.long w_label_o1_6), (.ref b5)]))
  refine own_step (fun t k => XS.ladd X17.here hx rfl (hb hby d6_59) rfl k) ?_
  show own_Ends p.tables e below s _ _ _ (T17.setTop (mkF m 60 #[.val (.ref o0_6), .val (.ref o1_6), .val (.ref b5)] [(.long (w_label_o1_6 + (own_r7 ((w_label_w_next_o1_6 - w_label_o1_6) / (2 : Int64)) (4294967296 : Int64)))), (.ref b5)]))
  obtain ⟨T19, h19, X19, e19, W19, st19⟩ := own_putR X17 hx hZ hown (hw _ (List.mem_of_getElem? (i := 22) rfl)) e17 F5_label A5 (hw _ (List.mem_of_getElem? (i := 23) rfl)) (hw _ (List.mem_of_getElem? (i := 11) rfl)) (ty := .long) (by decide) rfl rfl (g := (mkF m 60 #[.val (.ref o0_6), .val (.ref o1_6), .val (.ref b5)] [(.long (w_label_o1_6 + (own_r7 ((w_label_w_next_o1_6 - w_label_o1_6) / (2 : Int64)) (4294967296 : Int64)))), (.ref b5)])) rfl rfl (hb hby d6_60)
  refine own_step (fun t k => st19 _ k) ?_
  have F20 : Fld Z h19 b5 "com/example/serigraph/serigraph/view/OrderList$Place" "label" "J" (.long (w_label_o1_6 + (own_r7 ((w_label_w_next_o1_6 - w_label_o1_6) / (2 : Int64)) (4294967296 : Int64)))) := F5_label.same W19
  have K21 : Keep h0 h19 [w_next_o1_6, o1_6] := K6.wr W19 (Or.inr sz_b5)
  have N22 := Fr.snoc X19 N18 g_b5
  show own_Ends p.tables e below s _ _ _ (T19.setTop (mkF m 63 #[.val (.ref o0_6), .val (.ref o1_6), .val (.ref b5)] []))
  refine own_step (fun t k => XS.aloadN X19.here hx rfl (hb hby d6_63) rfl rfl k) ?_
  show own_Ends p.tables e below s _ _ _ (T19.setTop (mkF m 64 #[.val (.ref o0_6), .val (.ref o1_6), .val (.ref b5)] [(.ref b5)]))
  refine own_step (fun t k => XS.aloadN X19.here hx rfl (hb hby d6_64) rfl rfl k) ?_
  show own_Ends p.tables e below s _ _ _ (T19.setTop (mkF m 65 #[.val (.ref o0_6), .val (.ref o1_6), .val (.ref b5)] [(.ref o1_6), (.ref b5)]))
  have F23 : Exa Z h19 b5 "com/example/serigraph/serigraph/view/OrderList$Place" := (A5.wr W19)
  have F24 : Fld Z h19 b5 "com/example/serigraph/serigraph/view/OrderList$Place" "previous" "Lcom/example/serigraph/serigraph/view/OrderList$Place;" .null := (F5_previous.other W19 (Or.inr (slot_ne (Or.inl (hw _ (List.mem_of_getElem? (i := 27) rfl))) (Or.inl (hw _ (List.mem_of_getElem? (i := 23) rfl))) (by decide) (t := (.object "com/example/serigraph/serigraph/view/OrderList$Place")) (t' := .long) (by decide) (by decide))))
  obtain ⟨T25, h25, X25, e25, W25, st25⟩ := own_putR X19 hx hZ hown (hw _ (List.mem_of_getElem? (i := 26) rfl)) e19 F24 F23 (hw _ (List.mem_of_getElem? (i := 27) rfl)) (hw _ (List.mem_of_getElem? (i := 11) rfl)) (ty := (.object "com/example/serigraph/serigraph/view/OrderList$Place")) (by decide) rfl rfl (g := (mkF m 65 #[.val (.ref o0_6), .val (.ref o1_6), .val (.ref b5)] [(.ref o1_6), (.ref b5)])) rfl rfl (hb hby d6_65)
  refine own_step (fun t k => st25 _ k) ?_
  have F26 : Fld Z h25 b5 "com/example/serigraph/serigraph/view/OrderList$Place" "previous" "Lcom/example/serigraph/serigraph/view/OrderList$Place;" (.ref o1_6) := F24.same W25
  have K27 : Keep h0 h25 [w_next_o1_6, o1_6] := K21.wr W25 (Or.inr sz_b5)
  have N28 := Fr.snoc X25 N22 g_b5
  show own_Ends p.tables e below s _ _ _ (T25.setTop (mkF m 68 #[.val (.ref o0_6), .val (.ref o1_6), .val (.ref b5)] []))
  refine own_step (fun t k => XS.aloadN X25.here hx rfl (hb hby d6_68) rfl rfl k) ?_
  show own_Ends p.tables e below s _ _ _ (T25.setTop (mkF m 69 #[.val (.ref o0_6), .val (.ref o1_6), .val (.ref b5)] [(.ref b5)]))
  refine own_step (fun t k => XS.aloadN X25.here hx rfl (hb hby d6_69) rfl rfl k) ?_
  show own_Ends p.tables e below s _ _ _ (T25.setTop (mkF m 70 #[.val (.ref o0_6), .val (.ref o1_6), .val (.ref b5)] [(.ref o1_6), (.ref b5)]))
  have F29 : Fld Z h25 o1_6 "com/example/serigraph/serigraph/view/OrderList$Place" "next" "Lcom/example/serigraph/serigraph/view/OrderList$Place;" (.ref w_next_o1_6) := ((F12.other W19 (Or.inl ne_o1_6_b5)).other W25 (Or.inl ne_o1_6_b5))
  obtain ⟨T30, X30, e30, st30⟩ := own_getR X25 hx hZ hown (hw _ (List.mem_of_getElem? (i := 24) rfl)) e25 F29 (g := (mkF m 70 #[.val (.ref o0_6), .val (.ref o1_6), .val (.ref b5)] [(.ref o1_6), (.ref b5)])) rfl rfl (hb hby d6_70)
  refine own_step (fun t k => st30 _ k) ?_
  show own_Ends p.tables e below s _ _ _ (T30.setTop (mkF m 73 #[.val (.ref o0_6), .val (.ref o1_6), .val (.ref b5)] [(.ref w_next_o1_6), (.ref b5)]))
  have F31 : Exa Z h25 b5 "com/example/serigraph/serigraph/view/OrderList$Place" := (F23.wr W25)
  have F32 : Fld Z h25 b5 "com/example/serigraph/serigraph/view/OrderList$Place" "next" "Lcom/example/serigraph/serigraph/view/OrderList$Place;" .null := ((F5_next.other W19 (Or.inr (slot_ne (Or.inl (hw _ (List.mem_of_getElem? (i := 25) rfl))) (Or.inl (hw _ (List.mem_of_getElem? (i := 23) rfl))) (by decide) (t := (.object "com/example/serigraph/serigraph/view/OrderList$Place")) (t' := .long) (by decide) (by decide)))).other W25 (Or.inr (slot_ne (Or.inl (hw _ (List.mem_of_getElem? (i := 25) rfl))) (Or.inl (hw _ (List.mem_of_getElem? (i := 27) rfl))) (by decide) (t := (.object "com/example/serigraph/serigraph/view/OrderList$Place")) (t' := (.object "com/example/serigraph/serigraph/view/OrderList$Place")) (by decide) (by decide))))
  obtain ⟨T33, h33, X33, e33, W33, st33⟩ := own_putR X30 hx hZ hown (hw _ (List.mem_of_getElem? (i := 24) rfl)) e30 F32 F31 (hw _ (List.mem_of_getElem? (i := 25) rfl)) (hw _ (List.mem_of_getElem? (i := 11) rfl)) (ty := (.object "com/example/serigraph/serigraph/view/OrderList$Place")) (by decide) rfl rfl (g := (mkF m 73 #[.val (.ref o0_6), .val (.ref o1_6), .val (.ref b5)] [(.ref w_next_o1_6), (.ref b5)])) rfl rfl (hb hby d6_73)
  refine own_step (fun t k => st33 _ k) ?_
  have F34 : Fld Z h33 b5 "com/example/serigraph/serigraph/view/OrderList$Place" "next" "Lcom/example/serigraph/serigraph/view/OrderList$Place;" (.ref w_next_o1_6) := F32.same W33
  have K35 : Keep h0 h33 [w_next_o1_6, o1_6] := K27.wr W33 (Or.inr sz_b5)
  have N36 := Fr.snoc X33 N28 g_b5
  show own_Ends p.tables e below s _ _ _ (T33.setTop (mkF m 76 #[.val (.ref o0_6), .val (.ref o1_6), .val (.ref b5)] []))
  refine own_step (fun t k => XS.aloadN X33.here hx rfl (hb hby d6_76) rfl rfl k) ?_
  show own_Ends p.tables e below s _ _ _ (T33.setTop (mkF m 77 #[.val (.ref o0_6), .val (.ref o1_6), .val (.ref b5)] [(.ref o1_6)]))
  have F37 : Fld Z h33 o1_6 "com/example/serigraph/serigraph/view/OrderList$Place" "next" "Lcom/example/serigraph/serigraph/view/OrderList$Place;" (.ref w_next_o1_6) := (F29.other W33 (Or.inl ne_o1_6_b5))
  obtain ⟨T38, X38, e38, st38⟩ := own_getR X33 hx hZ hown (hw _ (List.mem_of_getElem? (i := 24) rfl)) e33 F37 (g := (mkF m 77 #[.val (.ref o0_6), .val (.ref o1_6), .val (.ref b5)] [(.ref o1_6)])) rfl rfl (hb hby d6_77)
  refine own_step (fun t k => st38 _ k) ?_
  show own_Ends p.tables e below s _ _ _ (T38.setTop (mkF m 80 #[.val (.ref o0_6), .val (.ref o1_6), .val (.ref b5)] [(.ref w_next_o1_6)]))
  refine own_step (fun t k => XS.aloadN X38.here hx rfl (hb hby d6_80) rfl rfl k) ?_
  show own_Ends p.tables e below s _ _ _ (T38.setTop (mkF m 81 #[.val (.ref o0_6), .val (.ref o1_6), .val (.ref b5)] [(.ref b5), (.ref w_next_o1_6)]))
  have F39 : Exa Z h25 w_next_o1_6 "com/example/serigraph/serigraph/view/OrderList$Place" := (((E_w_next_o1_6.ext E5).wr W19).wr W25)
  have F40 : Exa Z h33 w_next_o1_6 "com/example/serigraph/serigraph/view/OrderList$Place" := (F39.wr W33)
  have F41 : Fld Z h25 w_next_o1_6 "com/example/serigraph/serigraph/view/OrderList$Place" "previous" "Lcom/example/serigraph/serigraph/view/OrderList$Place;" u_previous_w_next_o1_6 := (((F_previous_w_next_o1_6.ext E5).other W19 (Or.inl ne_w_next_o1_6_b5)).other W25 (Or.inl ne_w_next_o1_6_b5))
  have F42 : Fld Z h33 w_next_o1_6 "com/example/serigraph/serigraph/view/OrderList$Place" "previous" "Lcom/example/serigraph/serigraph/view/OrderList$Place;" u_previous_w_next_o1_6 := (F41.other W33 (Or.inl ne_w_next_o1_6_b5))
  obtain ⟨T43, h43, X43, e43, W43, st43⟩ := own_putR X38 hx hZ hown (hw _ (List.mem_of_getElem? (i := 26) rfl)) e38 F42 F40 (hw _ (List.mem_of_getElem? (i := 27) rfl)) (hw _ (List.mem_of_getElem? (i := 11) rfl)) (ty := (.object "com/example/serigraph/serigraph/view/OrderList$Place")) (by decide) rfl rfl (g := (mkF m 81 #[.val (.ref o0_6), .val (.ref o1_6), .val (.ref b5)] [(.ref b5), (.ref w_next_o1_6)])) rfl rfl (hb hby d6_81)
  refine own_step (fun t k => st43 _ k) ?_
  have F44 : Fld Z h43 w_next_o1_6 "com/example/serigraph/serigraph/view/OrderList$Place" "previous" "Lcom/example/serigraph/serigraph/view/OrderList$Place;" (.ref b5) := F42.same W43
  have K45 : Keep h0 h43 [w_next_o1_6, o1_6] := K35.wr W43 (Or.inl (List.mem_of_getElem? (i := 0) rfl))
  have N46 := Fr.snoc X43 N36 g_w_next_o1_6
  show own_Ends p.tables e below s _ _ _ (T43.setTop (mkF m 84 #[.val (.ref o0_6), .val (.ref o1_6), .val (.ref b5)] []))
  refine own_step (fun t k => XS.aloadN X43.here hx rfl (hb hby d6_84) rfl rfl k) ?_
  show own_Ends p.tables e below s _ _ _ (T43.setTop (mkF m 85 #[.val (.ref o0_6), .val (.ref o1_6), .val (.ref b5)] [(.ref o1_6)]))
  refine own_step (fun t k => XS.aloadN X43.here hx rfl (hb hby d6_85) rfl rfl k) ?_
  show own_Ends p.tables e below s _ _ _ (T43.setTop (mkF m 86 #[.val (.ref o0_6), .val (.ref o1_6), .val (.ref b5)] [(.ref b5), (.ref o1_6)]))
  have F47 : Exa Z h25 o1_6 "com/example/serigraph/serigraph/view/OrderList$Place" := (((E_o1_6.ext E5).wr W19).wr W25)
  have F48 : Exa Z h43 o1_6 "com/example/serigraph/serigraph/view/OrderList$Place" := ((F47.wr W33).wr W43)
  have F49 : Fld Z h43 o1_6 "com/example/serigraph/serigraph/view/OrderList$Place" "next" "Lcom/example/serigraph/serigraph/view/OrderList$Place;" (.ref w_next_o1_6) := (F37.other W43 (Or.inl ne_o1_6_w_next_o1_6))
  obtain ⟨T50, h50, X50, e50, W50, st50⟩ := own_putR X43 hx hZ hown (hw _ (List.mem_of_getElem? (i := 24) rfl)) e43 F49 F48 (hw _ (List.mem_of_getElem? (i := 25) rfl)) (hw _ (List.mem_of_getElem? (i := 11) rfl)) (ty := (.object "com/example/serigraph/serigraph/view/OrderList$Place")) (by decide) rfl rfl (g := (mkF m 86 #[.val (.ref o0_6), .val (.ref o1_6), .val (.ref b5)] [(.ref b5), (.ref o1_6)])) rfl rfl (hb hby d6_86)
  refine own_step (fun t k => st50 _ k) ?_
  have F51 : Fld Z h50 o1_6 "com/example/serigraph/serigraph/view/OrderList$Place" "next" "Lcom/example/serigraph/serigraph/view/OrderList$Place;" (.ref b5) := F49.same W50
  have K52 : Keep h0 h50 [w_next_o1_6, o1_6] := K45.wr W50 (Or.inl (List.mem_of_getElem? (i := 1) rfl))
  have N53 := Fr.snoc X50 N46 g_o1_6
  show own_Ends p.tables e below s _ _ _ (T50.setTop (mkF m 89 #[.val (.ref o0_6), .val (.ref o1_6), .val (.ref b5)] []))
  refine own_step (fun t k => XS.aloadN X50.here hx rfl (hb hby d6_89) rfl rfl k) ?_
  show own_Ends p.tables e below s _ _ _ (T50.setTop (mkF m 90 #[.val (.ref o0_6), .val (.ref o1_6), .val (.ref b5)] [(.ref b5)]))
  have F54 : Fld Z h25 w_next_o1_6 "com/example/serigraph/serigraph/view/OrderList$Place" "next" "Lcom/example/serigraph/serigraph/view/OrderList$Place;" u_next_w_next_o1_6 := (((F_next_w_next_o1_6.ext E5).other W19 (Or.inl ne_w_next_o1_6_b5)).other W25 (Or.inl ne_w_next_o1_6_b5))
  have F55 : Fld Z h50 w_next_o1_6 "com/example/serigraph/serigraph/view/OrderList$Place" "next" "Lcom/example/serigraph/serigraph/view/OrderList$Place;" u_next_w_next_o1_6 := (((F54.other W33 (Or.inl ne_w_next_o1_6_b5)).other W43 (Or.inr (slot_ne (Or.inl (hw _ (List.mem_of_getElem? (i := 25) rfl))) (Or.inl (hw _ (List.mem_of_getElem? (i := 27) rfl))) (by decide) (t := (.object "com/example/serigraph/serigraph/view/OrderList$Place")) (t' := (.object "com/example/serigraph/serigraph/view/OrderList$Place")) (by decide) (by decide)))).other W50 (Or.inl (Ne.symm ne_o1_6_w_next_o1_6)))
  have F56 : Fld Z h33 w_next_o1_6 "com/example/serigraph/serigraph/view/OrderList$Place" "label" "J" (.long w_label_w_next_o1_6) := (((F14.other W19 (Or.inl ne_w_next_o1_6_b5)).other W25 (Or.inl ne_w_next_o1_6_b5)).other W33 (Or.inl ne_w_next_o1_6_b5))
  have F57 : Fld Z h50 w_next_o1_6 "com/example/serigraph/serigraph/view/OrderList$Place" "label" "J" (.long w_label_w_next_o1_6) := ((F56.other W43 (Or.inr (slot_ne (Or.inl (hw _ (List.mem_of_getElem? (i := 23) rfl))) (Or.inl (hw _ (List.mem_of_getElem? (i := 27) rfl))) (by decide) (t := .long) (t' := (.object "com/example/serigraph/serigraph/view/OrderList$Place")) (by decide) (by decide)))).other W50 (Or.inl (Ne.symm ne_o1_6_w_next_o1_6)))
  have F58 : Exa Z h50 w_next_o1_6 "com/example/serigraph/serigraph/view/OrderList$Place" := ((F40.wr W43).wr W50)
  have F59 : Fld Z h50 w_next_o1_6 "com/example/serigraph/serigraph/view/OrderList$Place" "previous" "Lcom/example/serigraph/serigraph/view/OrderList$Place;" (.ref b5) := (F44.other W50 (Or.inl (Ne.symm ne_o1_6_w_next_o1_6)))
  have F60 : Fld Z h25 o1_6 "com/example/serigraph/serigraph/view/OrderList$Place" "previous" "Lcom/example/serigraph/serigraph/view/OrderList$Place;" u_previous_o1_6 := (((F_previous_o1_6.ext E5).other W19 (Or.inl ne_o1_6_b5)).other W25 (Or.inl ne_o1_6_b5))
  have F61 : Fld Z h50 o1_6 "com/example/serigraph/serigraph/view/OrderList$Place" "previous" "Lcom/example/serigraph/serigraph/view/OrderList$Place;" u_previous_o1_6 := (((F60.other W33 (Or.inl ne_o1_6_b5)).other W43 (Or.inl ne_o1_6_w_next_o1_6)).other W50 (Or.inr (slot_ne (Or.inl (hw _ (List.mem_of_getElem? (i := 27) rfl))) (Or.inl (hw _ (List.mem_of_getElem? (i := 25) rfl))) (by decide) (t := (.object "com/example/serigraph/serigraph/view/OrderList$Place")) (t' := (.object "com/example/serigraph/serigraph/view/OrderList$Place")) (by decide) (by decide))))
  have F62 : Fld Z h33 o1_6 "com/example/serigraph/serigraph/view/OrderList$Place" "label" "J" (.long w_label_o1_6) := (((F10.other W19 (Or.inl ne_o1_6_b5)).other W25 (Or.inl ne_o1_6_b5)).other W33 (Or.inl ne_o1_6_b5))
  have F63 : Fld Z h50 o1_6 "com/example/serigraph/serigraph/view/OrderList$Place" "label" "J" (.long w_label_o1_6) := ((F62.other W43 (Or.inl ne_o1_6_w_next_o1_6)).other W50 (Or.inr (slot_ne (Or.inl (hw _ (List.mem_of_getElem? (i := 23) rfl))) (Or.inl (hw _ (List.mem_of_getElem? (i := 25) rfl))) (by decide) (t := .long) (t' := (.object "com/example/serigraph/serigraph/view/OrderList$Place")) (by decide) (by decide))))
  have F64 : Exa Z h50 o1_6 "com/example/serigraph/serigraph/view/OrderList$Place" := (F48.wr W50)
  have F65 : Exa Z h50 b5 "com/example/serigraph/serigraph/view/OrderList$Place" := (((F31.wr W33).wr W43).wr W50)
  have F66 : Fld Z h43 b5 "com/example/serigraph/serigraph/view/OrderList$Place" "label" "J" (.long (w_label_o1_6 + (own_r7 ((w_label_w_next_o1_6 - w_label_o1_6) / (2 : Int64)) (4294967296 : Int64)))) := (((F20.other W25 (Or.inr (slot_ne (Or.inl (hw _ (List.mem_of_getElem? (i := 23) rfl))) (Or.inl (hw _ (List.mem_of_getElem? (i := 27) rfl))) (by decide) (t := .long) (t' := (.object "com/example/serigraph/serigraph/view/OrderList$Place")) (by decide) (by decide)))).other W33 (Or.inr (slot_ne (Or.inl (hw _ (List.mem_of_getElem? (i := 23) rfl))) (Or.inl (hw _ (List.mem_of_getElem? (i := 25) rfl))) (by decide) (t := .long) (t' := (.object "com/example/serigraph/serigraph/view/OrderList$Place")) (by decide) (by decide)))).other W43 (Or.inl (Ne.symm ne_w_next_o1_6_b5)))
  have F67 : Fld Z h50 b5 "com/example/serigraph/serigraph/view/OrderList$Place" "label" "J" (.long (w_label_o1_6 + (own_r7 ((w_label_w_next_o1_6 - w_label_o1_6) / (2 : Int64)) (4294967296 : Int64)))) := (F66.other W50 (Or.inl (Ne.symm ne_o1_6_b5)))
  have F68 : Fld Z h50 b5 "com/example/serigraph/serigraph/view/OrderList$Place" "next" "Lcom/example/serigraph/serigraph/view/OrderList$Place;" (.ref w_next_o1_6) := ((F34.other W43 (Or.inl (Ne.symm ne_w_next_o1_6_b5))).other W50 (Or.inl (Ne.symm ne_o1_6_b5)))
  have F69 : Fld Z h50 b5 "com/example/serigraph/serigraph/view/OrderList$Place" "previous" "Lcom/example/serigraph/serigraph/view/OrderList$Place;" (.ref o1_6) := (((F26.other W33 (Or.inr (slot_ne (Or.inl (hw _ (List.mem_of_getElem? (i := 27) rfl))) (Or.inl (hw _ (List.mem_of_getElem? (i := 25) rfl))) (by decide) (t := (.object "com/example/serigraph/serigraph/view/OrderList$Place")) (t' := (.object "com/example/serigraph/serigraph/view/OrderList$Place")) (by decide) (by decide)))).other W43 (Or.inl (Ne.symm ne_w_next_o1_6_b5))).other W50 (Or.inl (Ne.symm ne_o1_6_b5)))
  exact own_retR X50 hx Bd.returns rfl rfl rfl (hb hby d6_90) hnl (by rw [e50]; exact ⟨b5, rfl, N53, K52, sz_b5, F55, F57, F58, F59, F61, F51, F63, F64, F65, F67, F68, F69⟩) (by decide) (by decide)
theorem pd_2 : parseMethodDescriptor "(Lcom/example/serigraph/serigraph/view/OrderList$Place;)Lcom/example/serigraph/serigraph/view/OrderList$Place;" = some ⟨[(.object "com/example/serigraph/serigraph/view/OrderList$Place")], some (.object "com/example/serigraph/serigraph/view/OrderList$Place")⟩ := by decide +kernel
theorem d5_0 : decode prog_85_method_5_code 0 = .ok (.aload_n 0, 1) := by decide +kernel
theorem d5_1 : decode prog_85_method_5_code 1 = .ok (.aload_n 0, 1) := by decide +kernel
theorem d5_2 : decode prog_85_method_5_code 2 = .ok (.getfield 16, 3) := by decide +kernel
theorem d5_5 : decode prog_85_method_5_code 5 = .ok (.getfield 28, 3) := by decide +kernel
theorem d5_8 : decode prog_85_method_5_code 8 = .ok (.invokevirtual 45, 3) := by decide +kernel
theorem d5_11 : decode prog_85_method_5_code 11 = .ok (.areturn, 1) := by decide +kernel
theorem ef_5 (m : MethodId) (o0_5 : Addr) : entryFrame m #[(.ref o0_5)] 1 = mkF m 0 #[.val (.ref o0_5)] [] := by first | (simp [entryFrame, mkF, argsToLocals, Value.category]; done) | rfl
def Q5 (Z : State) (o0_5 : Addr) (w_back_o0_5 : Addr) (w_previous_w_back_o0_5 : Addr) (u_previous_w_previous_w_back_o0_5 : Value) (w_next_w_previous_w_back_o0_5 : Addr) (w_label_w_next_w_previous_w_back_o0_5 : Int64) (w_label_w_previous_w_back_o0_5 : Int64) (u_previous_w_next_w_previous_w_back_o0_5 : Value) (u_next_w_next_w_previous_w_back_o0_5 : Value) (h0 : Heap) (n0 : Nat) (v : Option Value) (h : Heap) (L : List Loc) : Prop := ∃ (b5_3 : Addr), v = some (.ref b5_3) ∧ Fr n0 L ∧ Keep h0 h [w_previous_w_back_o0_5, w_next_w_previous_w_back_o0_5] ∧ h0.size ≤ b5_3 ∧ Fld Z h w_previous_w_back_o0_5 "com/example/serigraph/serigraph/view/OrderList$Place" "previous" "Lcom/example/serigraph/serigraph/view/OrderList$Place;" u_previous_w_previous_w_back_o0_5 ∧ Fld Z h w_previous_w_back_o0_5 "com/example/serigraph/serigraph/view/OrderList$Place" "next" "Lcom/example/serigraph/serigraph/view/OrderList$Place;" (.ref b5_3) ∧ Fld Z h w_previous_w_back_o0_5 "com/example/serigraph/serigraph/view/OrderList$Place" "label" "J" (.long w_label_w_previous_w_back_o0_5) ∧ Exa Z h w_previous_w_back_o0_5 "com/example/serigraph/serigraph/view/OrderList$Place" ∧ Fld Z h w_next_w_previous_w_back_o0_5 "com/example/serigraph/serigraph/view/OrderList$Place" "label" "J" (.long w_label_w_next_w_previous_w_back_o0_5) ∧ Exa Z h w_next_w_previous_w_back_o0_5 "com/example/serigraph/serigraph/view/OrderList$Place" ∧ Fld Z h w_next_w_previous_w_back_o0_5 "com/example/serigraph/serigraph/view/OrderList$Place" "previous" "Lcom/example/serigraph/serigraph/view/OrderList$Place;" (.ref b5_3) ∧ Fld Z h w_next_w_previous_w_back_o0_5 "com/example/serigraph/serigraph/view/OrderList$Place" "next" "Lcom/example/serigraph/serigraph/view/OrderList$Place;" u_next_w_next_w_previous_w_back_o0_5 ∧ Exa Z h b5_3 "com/example/serigraph/serigraph/view/OrderList$Place" ∧ Fld Z h b5_3 "com/example/serigraph/serigraph/view/OrderList$Place" "label" "J" (.long (w_label_w_previous_w_back_o0_5 + (own_r7 ((w_label_w_next_w_previous_w_back_o0_5 - w_label_w_previous_w_back_o0_5) / (2 : Int64)) (4294967296 : Int64)))) ∧ Fld Z h b5_3 "com/example/serigraph/serigraph/view/OrderList$Place" "next" "Lcom/example/serigraph/serigraph/view/OrderList$Place;" (.ref w_next_w_previous_w_back_o0_5) ∧ Fld Z h b5_3 "com/example/serigraph/serigraph/view/OrderList$Place" "previous" "Lcom/example/serigraph/serigraph/view/OrderList$Place;" (.ref w_previous_w_back_o0_5)
set_option maxRecDepth 65536 in
set_option maxHeartbeats 40000000 in
theorem rm5 (l : Launch) (Z : State) (a0 : Array Value) (hw : ∀ d ∈ tables_1, d.before a0 Z = true) (ws : List Jvm.Cond) (o0_5 : Addr) (w_back_o0_5 : Addr) (w_previous_w_back_o0_5 : Addr) (u_previous_w_previous_w_back_o0_5 : Value) (w_next_w_previous_w_back_o0_5 : Addr) (w_label_w_next_w_previous_w_back_o0_5 : Int64) (w_label_w_previous_w_back_o0_5 : Int64) (u_previous_w_next_w_previous_w_back_o0_5 : Value) (u_next_w_next_w_previous_w_back_o0_5 : Value) (h0 : Heap) (n0 : Nat) (O0 : Old Z n0 h0) (F_back_o0_5 : Fld Z h0 o0_5 "com/example/serigraph/serigraph/view/OrderList" "back" "Lcom/example/serigraph/serigraph/view/OrderList$Place;" (.ref w_back_o0_5)) (F_previous_w_back_o0_5 : Fld Z h0 w_back_o0_5 "com/example/serigraph/serigraph/view/OrderList$Place" "previous" "Lcom/example/serigraph/serigraph/view/OrderList$Place;" (.ref w_previous_w_back_o0_5)) (F_previous_w_previous_w_back_o0_5 : Fld Z h0 w_previous_w_back_o0_5 "com/example/serigraph/serigraph/view/OrderList$Place" "previous" "Lcom/example/serigraph/serigraph/view/OrderList$Place;" u_previous_w_previous_w_back_o0_5) (F_next_w_previous_w_back_o0_5 : Fld Z h0 w_previous_w_back_o0_5 "com/example/serigraph/serigraph/view/OrderList$Place" "next" "Lcom/example/serigraph/serigraph/view/OrderList$Place;" (.ref w_next_w_previous_w_back_o0_5)) (F_label_w_next_w_previous_w_back_o0_5 : Fld Z h0 w_next_w_previous_w_back_o0_5 "com/example/serigraph/serigraph/view/OrderList$Place" "label" "J" (.long w_label_w_next_w_previous_w_back_o0_5)) (F_label_w_previous_w_back_o0_5 : Fld Z h0 w_previous_w_back_o0_5 "com/example/serigraph/serigraph/view/OrderList$Place" "label" "J" (.long w_label_w_previous_w_back_o0_5)) (E_w_next_w_previous_w_back_o0_5 : Exa Z h0 w_next_w_previous_w_back_o0_5 "com/example/serigraph/serigraph/view/OrderList$Place") (F_previous_w_next_w_previous_w_back_o0_5 : Fld Z h0 w_next_w_previous_w_back_o0_5 "com/example/serigraph/serigraph/view/OrderList$Place" "previous" "Lcom/example/serigraph/serigraph/view/OrderList$Place;" u_previous_w_next_w_previous_w_back_o0_5) (g_w_next_w_previous_w_back_o0_5 : n0 ≤ w_next_w_previous_w_back_o0_5) (E_w_previous_w_back_o0_5 : Exa Z h0 w_previous_w_back_o0_5 "com/example/serigraph/serigraph/view/OrderList$Place") (ne_w_previous_w_back_o0_5_w_next_w_previous_w_back_o0_5 : w_previous_w_back_o0_5 ≠ w_next_w_previous_w_back_o0_5) (g_w_previous_w_back_o0_5 : n0 ≤ w_previous_w_back_o0_5) (hgap : ¬ ((lcmpW (w_label_w_next_w_previous_w_back_o0_5 - w_label_w_previous_w_back_o0_5) (2 : Int64)) < (0 : Int32))) (F_next_w_next_w_previous_w_back_o0_5 : Fld Z h0 w_next_w_previous_w_back_o0_5 "com/example/serigraph/serigraph/view/OrderList$Place" "next" "Lcom/example/serigraph/serigraph/view/OrderList$Place;" u_next_w_next_w_previous_w_back_o0_5) (E_o0_5 : Exa Z h0 o0_5 "com/example/serigraph/serigraph/view/OrderList") :
    MetFree l (⟨"com/example/serigraph/serigraph/view/OrderList", "append", "()Lcom/example/serigraph/serigraph/view/OrderList$Place;"⟩ : MethodName) (head1 (Jvm.Cond.code (⟨"com/example/serigraph/serigraph/view/OrderList", "append", "()Lcom/example/serigraph/serigraph/view/OrderList$Place;"⟩ : MethodName) prog_85_method_5_code 1 (some (.object "com/example/serigraph/serigraph/view/OrderList$Place")) :: ws) ({ frames := 3, cells := 1, slots := 3, locals := 39 } : Room)) (fun a U => a = #[(.ref o0_5)] ∧ Z.Warmed39 U.vm ∧ U.heap = h0) (fun _ _ _ _ _ => True) (fun _ U o U' => ∃ v L, o = .returned v ∧ Q5 Z o0_5 w_back_o0_5 w_previous_w_back_o0_5 u_previous_w_previous_w_back_o0_5 w_next_w_previous_w_back_o0_5 w_label_w_next_w_previous_w_back_o0_5 w_label_w_previous_w_back_o0_5 u_previous_w_next_w_previous_w_back_o0_5 u_next_w_next_w_previous_w_back_o0_5 h0 n0 v U'.heap L ∧ FrameEnd U o U' L ({ frames := 3, cells := 1, slots := 3, locals := 39 } : Room).cells ({ frames := 3, cells := 1, slots := 3, locals := 39 } : Room).slots) := by
  refine MetFree.of_bodySF (plainFor_of_name pn_1) hisR ?_
  intro p e s m args below meth c s₁ Bd hml0 hP hK
  obtain ⟨rfl, hZ, hh⟩ := hP
  have hx := Bd.exec
  have hby := Bd.bytes
  have hnl := BodyLoose.notSynchronized Bd
  have hml : c.maxLocals = 1 := hml0
  have hown : s.vm.findClass "com/example/serigraph/serigraph/view/OrderList" = some m.cls := findClass_of_methodNamed Bd.named
  have hnm := (name_of_methodNamed Bd.named Bd.method).1
  have X0 : Stand p l e ({ frames := 3, cells := 1, slots := 3, locals := 39 } : Room) s m #[(.ref o0_5)] below meth c s₁ [] 0 0 := Stand.of_body Bd
  have e0 : s₁.heap = h0 := by rw [← hh, Bd.state]; rfl
  have N0 := Fr.nil n0
  show own_Ends p.tables e below s (Q5 Z o0_5 w_back_o0_5 w_previous_w_back_o0_5 u_previous_w_previous_w_back_o0_5 w_next_w_previous_w_back_o0_5 w_label_w_next_w_previous_w_back_o0_5 w_label_w_previous_w_back_o0_5 u_previous_w_next_w_previous_w_back_o0_5 u_next_w_next_w_previous_w_back_o0_5 h0 n0) 1 3 (s₁.setTop (entryFrame m #[(.ref o0_5)] 1))
  rw [ef_5 m o0_5]
  show own_Ends p.tables e below s _ _ _ (s₁.setTop (mkF m 0 #[.val (.ref o0_5)] []))
  refine own_step (fun t k => XS.aloadN X0.here hx rfl (hb hby d5_0) rfl rfl k) ?_
  show own_Ends p.tables e below s _ _ _ (s₁.setTop (mkF m 1 #[.val (.ref o0_5)] [(.ref o0_5)]))
  refine own_step (fun t k => XS.aloadN X0.here hx rfl (hb hby d5_1) rfl rfl k) ?_
  show own_Ends p.tables e below s _ _ _ (s₁.setTop (mkF m 2 #[.val (.ref o0_5)] [(.ref o0_5), (.ref o0_5)]))
  obtain ⟨T1, X1, e1, st1⟩ := getF X0 hx hZ hown (host := "") (Or.inl (hw _ (List.mem_of_getElem? (i := 19) rfl))) Via.refl e0 F_back_o0_5 (g := (mkF m 2 #[.val (.ref o0_5)] [(.ref o0_5), (.ref o0_5)])) rfl rfl (hb hby d5_2)
  refine own_step (fun t k => st1 _ k) ?_
  show own_Ends p.tables e below s _ _ _ (T1.setTop (mkF m 5 #[.val (.ref o0_5)] [(.ref w_back_o0_5), (.ref o0_5)]))
  obtain ⟨T2, X2, e2, st2⟩ := own_getR X1 hx hZ hown (hw _ (List.mem_of_getElem? (i := 26) rfl)) e1 F_previous_w_back_o0_5 (g := (mkF m 5 #[.val (.ref o0_5)] [(.ref w_back_o0_5), (.ref o0_5)])) rfl rfl (hb hby d5_5)
  refine own_step (fun t k => st2 _ k) ?_
  show own_Ends p.tables e below s _ _ _ (T2.setTop (mkF m 8 #[.val (.ref o0_5)] [(.ref w_previous_w_back_o0_5), (.ref o0_5)]))
  obtain ⟨cq3, kq3, q3a, q3b, q3c⟩ := isOf hZ e2 E_o0_5
  obtain ⟨_, _, ⟨T3, L3, k3, n3⟩, -, X3, ⟨Lc3, hQ3, l3, y3, z3⟩, st3⟩ := X2.virtualBack hx (y := (⟨"com/example/serigraph/serigraph/view/OrderList", "insertAfter", "(Lcom/example/serigraph/serigraph/view/OrderList$Place;)Lcom/example/serigraph/serigraph/view/OrderList$Place;"⟩ : MethodName)) (z := (⟨"com/example/serigraph/serigraph/view/OrderList", "insertAfter", "(Lcom/example/serigraph/serigraph/view/OrderList$Place;)Lcom/example/serigraph/serigraph/view/OrderList$Place;"⟩ : MethodName)) hown (mvT hZ (hw _ (List.mem_of_getElem? (i := 41) rfl))) (mvT hZ (hw _ (List.mem_of_getElem? (i := 42) rfl))) (notFace_of_selects (args := #[]) (mvT hZ (hw _ (List.mem_of_getElem? (i := 44) rfl)))) (mvT hZ (hw _ (List.mem_of_getElem? (i := 44) rfl))) (mvT hZ (hw _ (List.mem_of_getElem? (i := 43) rfl))) (by decide) (backOf (W := 0) (rm6 l Z a0 hw [] o0_5 w_previous_w_back_o0_5 u_next_w_next_w_previous_w_back_o0_5 u_previous_w_previous_w_back_o0_5 w_next_w_previous_w_back_o0_5 w_label_w_next_w_previous_w_back_o0_5 w_label_w_previous_w_back_o0_5 u_previous_w_next_w_previous_w_back_o0_5 h0 n0 O0 hgap F_next_w_next_w_previous_w_back_o0_5 F_previous_w_previous_w_back_o0_5 F_next_w_previous_w_back_o0_5 F_label_w_next_w_previous_w_back_o0_5 F_label_w_previous_w_back_o0_5 E_w_next_w_previous_w_back_o0_5 F_previous_w_next_w_previous_w_back_o0_5 g_w_next_w_previous_w_back_o0_5 E_w_previous_w_back_o0_5 ne_w_previous_w_back_o0_5_w_next_w_previous_w_back_o0_5 g_w_previous_w_back_o0_5) hZ (hw _ (List.mem_of_getElem? (i := 45) rfl)) (hw _ (List.mem_of_getElem? (i := 3) rfl)) (by decide) (by decide)) q3a q3c (g := (mkF m 8 #[.val (.ref o0_5)] [(.ref w_previous_w_back_o0_5), (.ref o0_5)])) rfl (by rw [hml]; rfl) (Steps.refl _) (argsL := [(.ref w_previous_w_back_o0_5)]) (rest := []) (lenOf pd_2 rfl) rfl (by show 2 * 0 + _ ≤ _; exact Nat.le_of_eq rfl) (hb hby d5_8) (fun _ _ => ⟨rfl, e2, (by decide : 0 + 1 ≤ _), (by decide : 0 + 3 ≤ _)⟩)
  dsimp only [Pt.U, Pt.locs, Pt.cells, Pt.slots] at X3 l3 y3 z3 st3 hQ3
  subst y3 z3
  obtain ⟨b5_3, rfl, N3q, K3q, p3_0, p3_1, p3_2, p3_3, p3_4, p3_5, p3_6, p3_7, p3_8, p3_9, p3_10, p3_11, p3_12⟩ := hQ3
  refine own_step (fun t k => st3.trans k) ?_
  have N4 : Fr n0 L3 := by rw [l3]; exact Fr.app N0 N3q
  have sz_b5_3 : h0.size ≤ b5_3 := Nat.le_trans (Keep.refl h0 [w_previous_w_back_o0_5, w_next_w_previous_w_back_o0_5]).1 p3_0
  have g_b5_3 : n0 ≤ b5_3 := Nat.le_trans (Nat.le_trans (Nat.le_of_eq O0.1.symm) O0.2.1) p3_0
  have ne_o0_5_b5_3 : o0_5 ≠ b5_3 := Nat.ne_of_lt (Nat.lt_of_lt_of_le F_back_o0_5.lt p3_0)
  have ne_w_back_o0_5_b5_3 : w_back_o0_5 ≠ b5_3 := Nat.ne_of_lt (Nat.lt_of_lt_of_le F_previous_w_back_o0_5.lt p3_0)
  have ne_w_previous_w_back_o0_5_b5_3 : w_previous_w_back_o0_5 ≠ b5_3 := Nat.ne_of_lt (Nat.lt_of_lt_of_le F_previous_w_previous_w_back_o0_5.lt p3_0)
  have ne_w_next_w_previous_w_back_o0_5_b5_3 : w_next_w_previous_w_back_o0_5 ≠ b5_3 := Nat.ne_of_lt (Nat.lt_of_lt_of_le F_label_w_next_w_previous_w_back_o0_5.lt p3_0)
  have K5 : Keep h0 T3.heap [w_previous_w_back_o0_5, w_next_w_previous_w_back_o0_5] := (Keep.refl h0 [w_previous_w_back_o0_5, w_next_w_previous_w_back_o0_5]).trans K3q (allS (Or.inl (List.mem_of_getElem? (i := 1) rfl)) (allS (Or.inl (List.mem_of_getElem? (i := 0) rfl)) all0))
  show own_Ends p.tables e below s _ _ _ (T3.setTop (mkF m 11 #[.val (.ref o0_5)] [(.ref b5_3)]))
  exact own_retR X3 hx Bd.returns rfl rfl rfl (hb hby d5_11) hnl ⟨b5_3, rfl, N4, K5, sz_b5_3, p3_5, p3_6, p3_7, p3_8, p3_2, p3_3, p3_4, p3_1, p3_9, p3_10, p3_11, p3_12⟩ (by decide) (by decide)
theorem d10_0 : decode prog_85_method_6_code 0 = .ok (.aload_n 1, 1) := by decide +kernel
theorem d10_1 : decode prog_85_method_6_code 1 = .ok (.getfield 28, 3) := by decide +kernel
theorem d10_4 : decode prog_85_method_6_code 4 = .ok (.aload_n 1, 1) := by decide +kernel
theorem d10_5 : decode prog_85_method_6_code 5 = .ok (.getfield 25, 3) := by decide +kernel
theorem d10_8 : decode prog_85_method_6_code 8 = .ok (.putfield 25, 3) := by decide +kernel
theorem d10_11 : decode prog_85_method_6_code 11 = .ok (.aload_n 1, 1) := by decide +kernel
theorem d10_12 : decode prog_85_method_6_code 12 = .ok (.getfield 25, 3) := by decide +kernel
theorem d10_15 : decode prog_85_method_6_code 15 = .ok (.aload_n 1, 1) := by decide +kernel
theorem d10_16 : decode prog_85_method_6_code 16 = .ok (.getfield 28, 3) := by decide +kernel
theorem d10_19 : decode prog_85_method_6_code 19 = .ok (.putfield 28, 3) := by decide +kernel
theorem d10_22 : decode prog_85_method_6_code 22 = .ok (.return_, 1) := by decide +kernel
theorem ef_10 (m : MethodId) (o0_10 : Addr) (o1_10 : Addr) : entryFrame m #[(.ref o0_10), (.ref o1_10)] 2 = mkF m 0 #[.val (.ref o0_10), .val (.ref o1_10)] [] := by first | (simp [entryFrame, mkF, argsToLocals, Value.category]; done) | rfl
def Q10 (Z : State) (o0_10 : Addr) (o1_10 : Addr) (u_label_w_previous_o1_10 : Value) (u_previous_w_previous_o1_10 : Value) (u_label_w_next_o1_10 : Value) (u_next_w_next_o1_10 : Value) (w_previous_o1_10 : Addr) (w_next_o1_10 : Addr) (u_next_w_previous_o1_10 : Value) (u_previous_w_next_o1_10 : Value) (h0 : Heap) (n0 : Nat) (v : Option Value) (h : Heap) (L : List Loc) : Prop := v = none ∧ Fr n0 L ∧ Keep h0 h [w_previous_o1_10, w_next_o1_10] ∧ Fld Z h w_previous_o1_10 "com/example/serigraph/serigraph/view/OrderList$Place" "label" "J" u_label_w_previous_o1_10 ∧ Fld Z h w_previous_o1_10 "com/example/serigraph/serigraph/view/OrderList$Place" "previous" "Lcom/example/serigraph/serigraph/view/OrderList$Place;" u_previous_w_previous_o1_10 ∧ Exa Z h w_previous_o1_10 "com/example/serigraph/serigraph/view/OrderList$Place" ∧ Fld Z h w_previous_o1_10 "com/example/serigraph/serigraph/view/OrderList$Place" "next" "Lcom/example/serigraph/serigraph/view/OrderList$Place;" (.ref w_next_o1_10) ∧ Fld Z h w_next_o1_10 "com/example/serigraph/serigraph/view/OrderList$Place" "label" "J" u_label_w_next_o1_10 ∧ Fld Z h w_next_o1_10 "com/example/serigraph/serigraph/view/OrderList$Place" "next" "Lcom/example/serigraph/serigraph/view/OrderList$Place;" u_next_w_next_o1_10 ∧ Exa Z h w_next_o1_10 "com/example/serigraph/serigraph/view/OrderList$Place" ∧ Fld Z h w_next_o1_10 "com/example/serigraph/serigraph/view/OrderList$Place" "previous" "Lcom/example/serigraph/serigraph/view/OrderList$Place;" (.ref w_previous_o1_10)
set_option maxRecDepth 65536 in
set_option maxHeartbeats 40000000 in
theorem rm10 (l : Launch) (Z : State) (a0 : Array Value) (hw : ∀ d ∈ tables_1, d.before a0 Z = true) (ws : List Jvm.Cond) (o0_10 : Addr) (o1_10 : Addr) (u_label_w_previous_o1_10 : Value) (u_previous_w_previous_o1_10 : Value) (u_label_w_next_o1_10 : Value) (u_next_w_next_o1_10 : Value) (w_previous_o1_10 : Addr) (w_next_o1_10 : Addr) (u_next_w_previous_o1_10 : Value) (u_previous_w_next_o1_10 : Value) (h0 : Heap) (n0 : Nat) (O0 : Old Z n0 h0) (F_label_w_previous_o1_10 : Fld Z h0 w_previous_o1_10 "com/example/serigraph/serigraph/view/OrderList$Place" "label" "J" u_label_w_previous_o1_10) (F_previous_w_previous_o1_10 : Fld Z h0 w_previous_o1_10 "com/example/serigraph/serigraph/view/OrderList$Place" "previous" "Lcom/example/serigraph/serigraph/view/OrderList$Place;" u_previous_w_previous_o1_10) (F_label_w_next_o1_10 : Fld Z h0 w_next_o1_10 "com/example/serigraph/serigraph/view/OrderList$Place" "label" "J" u_label_w_next_o1_10) (F_next_w_next_o1_10 : Fld Z h0 w_next_o1_10 "com/example/serigraph/serigraph/view/OrderList$Place" "next" "Lcom/example/serigraph/serigraph/view/OrderList$Place;" u_next_w_next_o1_10) (F_previous_o1_10 : Fld Z h0 o1_10 "com/example/serigraph/serigraph/view/OrderList$Place" "previous" "Lcom/example/serigraph/serigraph/view/OrderList$Place;" (.ref w_previous_o1_10)) (F_next_o1_10 : Fld Z h0 o1_10 "com/example/serigraph/serigraph/view/OrderList$Place" "next" "Lcom/example/serigraph/serigraph/view/OrderList$Place;" (.ref w_next_o1_10)) (E_w_previous_o1_10 : Exa Z h0 w_previous_o1_10 "com/example/serigraph/serigraph/view/OrderList$Place") (F_next_w_previous_o1_10 : Fld Z h0 w_previous_o1_10 "com/example/serigraph/serigraph/view/OrderList$Place" "next" "Lcom/example/serigraph/serigraph/view/OrderList$Place;" u_next_w_previous_o1_10) (g_w_previous_o1_10 : n0 ≤ w_previous_o1_10) (ne_o1_10_w_previous_o1_10 : o1_10 ≠ w_previous_o1_10) (E_w_next_o1_10 : Exa Z h0 w_next_o1_10 "com/example/serigraph/serigraph/view/OrderList$Place") (F_previous_w_next_o1_10 : Fld Z h0 w_next_o1_10 "com/example/serigraph/serigraph/view/OrderList$Place" "previous" "Lcom/example/serigraph/serigraph/view/OrderList$Place;" u_previous_w_next_o1_10) (ne_w_next_o1_10_w_previous_o1_10 : w_next_o1_10 ≠ w_previous_o1_10) (g_w_next_o1_10 : n0 ≤ w_next_o1_10) :
    MetFree l (⟨"com/example/serigraph/serigraph/view/OrderList", "remove", "(Lcom/example/serigraph/serigraph/view/OrderList$Place;)V"⟩ : MethodName) (head1 (Jvm.Cond.code (⟨"com/example/serigraph/serigraph/view/OrderList", "remove", "(Lcom/example/serigraph/serigraph/view/OrderList$Place;)V"⟩ : MethodName) prog_85_method_6_code 2 none :: ws) ({ frames := 0, cells := 0, slots := 0, locals := 0 } : Room)) (fun a U => a = #[(.ref o0_10), (.ref o1_10)] ∧ Z.Warmed39 U.vm ∧ U.heap = h0) (fun _ _ _ _ _ => True) (fun _ U o U' => ∃ v L, o = .returned v ∧ Q10 Z o0_10 o1_10 u_label_w_previous_o1_10 u_previous_w_previous_o1_10 u_label_w_next_o1_10 u_next_w_next_o1_10 w_previous_o1_10 w_next_o1_10 u_next_w_previous_o1_10 u_previous_w_next_o1_10 h0 n0 v U'.heap L ∧ FrameEnd U o U' L ({ frames := 0, cells := 0, slots := 0, locals := 0 } : Room).cells ({ frames := 0, cells := 0, slots := 0, locals := 0 } : Room).slots) := by
  refine MetFree.of_bodySF (plainFor_of_name pn_1) hisR ?_
  intro p e s m args below meth c s₁ Bd hml0 hP hK
  obtain ⟨rfl, hZ, hh⟩ := hP
  have hx := Bd.exec
  have hby := Bd.bytes
  have hnl := BodyLoose.notSynchronized Bd
  have hml : c.maxLocals = 2 := hml0
  have hown : s.vm.findClass "com/example/serigraph/serigraph/view/OrderList" = some m.cls := findClass_of_methodNamed Bd.named
  have hnm := (name_of_methodNamed Bd.named Bd.method).1
  have X0 : Stand p l e ({ frames := 0, cells := 0, slots := 0, locals := 0 } : Room) s m #[(.ref o0_10), (.ref o1_10)] below meth c s₁ [] 0 0 := Stand.of_body Bd
  have e0 : s₁.heap = h0 := by rw [← hh, Bd.state]; rfl
  have N0 := Fr.nil n0
  show own_Ends p.tables e below s (Q10 Z o0_10 o1_10 u_label_w_previous_o1_10 u_previous_w_previous_o1_10 u_label_w_next_o1_10 u_next_w_next_o1_10 w_previous_o1_10 w_next_o1_10 u_next_w_previous_o1_10 u_previous_w_next_o1_10 h0 n0) 0 0 (s₁.setTop (entryFrame m #[(.ref o0_10), (.ref o1_10)] 2))
  rw [ef_10 m o0_10 o1_10]
  show own_Ends p.tables e below s _ _ _ (s₁.setTop (mkF m 0 #[.val (.ref o0_10), .val (.ref o1_10)] []))
  refine own_step (fun t k => XS.aloadN X0.here hx rfl (hb hby d10_0) rfl rfl k) ?_
  show own_Ends p.tables e below s _ _ _ (s₁.setTop (mkF m 1 #[.val (.ref o0_10), .val (.ref o1_10)] [(.ref o1_10)]))
  obtain ⟨T1, X1, e1, st1⟩ := own_getR X0 hx hZ hown (hw _ (List.mem_of_getElem? (i := 26) rfl)) e0 F_previous_o1_10 (g := (mkF m 1 #[.val (.ref o0_10), .val (.ref o1_10)] [(.ref o1_10)])) rfl rfl (hb hby d10_1)
  refine own_step (fun t k => st1 _ k) ?_
  show own_Ends p.tables e below s _ _ _ (T1.setTop (mkF m 4 #[.val (.ref o0_10), .val (.ref o1_10)] [(.ref w_previous_o1_10)]))
  refine own_step (fun t k => XS.aloadN X1.here hx rfl (hb hby d10_4) rfl rfl k) ?_
  show own_Ends p.tables e below s _ _ _ (T1.setTop (mkF m 5 #[.val (.ref o0_10), .val (.ref o1_10)] [(.ref o1_10), (.ref w_previous_o1_10)]))
  obtain ⟨T2, X2, e2, st2⟩ := own_getR X1 hx hZ hown (hw _ (List.mem_of_getElem? (i := 24) rfl)) e1 F_next_o1_10 (g := (mkF m 5 #[.val (.ref o0_10), .val (.ref o1_10)] [(.ref o1_10), (.ref w_previous_o1_10)])) rfl rfl (hb hby d10_5)
  refine own_step (fun t k => st2 _ k) ?_
  show own_Ends p.tables e below s _ _ _ (T2.setTop (mkF m 8 #[.val (.ref o0_10), .val (.ref o1_10)] [(.ref w_next_o1_10), (.ref w_previous_o1_10)]))
  obtain ⟨T3, h3, X3, e3, W3, st3⟩ := own_putR X2 hx hZ hown (hw _ (List.mem_of_getElem? (i := 24) rfl)) e2 F_next_w_previous_o1_10 E_w_previous_o1_10 (hw _ (List.mem_of_getElem? (i := 25) rfl)) (hw _ (List.mem_of_getElem? (i := 11) rfl)) (ty := (.object "com/example/serigraph/serigraph/view/OrderList$Place")) (by decide) rfl rfl (g := (mkF m 8 #[.val (.ref o0_10), .val (.ref o1_10)] [(.ref w_next_o1_10), (.ref w_previous_o1_10)])) rfl rfl (hb hby d10_8)
  refine own_step (fun t k => st3 _ k) ?_
  have F4 : Fld Z h3 w_previous_o1_10 "com/example/serigraph/serigraph/view/OrderList$Place" "next" "Lcom/example/serigraph/serigraph/view/OrderList$Place;" (.ref w_next_o1_10) := F_next_w_previous_o1_10.same W3
  have K5 : Keep h0 h3 [w_previous_o1_10, w_next_o1_10] := (Keep.refl h0 [w_previous_o1_10, w_next_o1_10]).wr W3 (Or.inl (List.mem_of_getElem? (i := 0) rfl))
  have N6 := Fr.snoc X3 N0 g_w_previous_o1_10
  show own_Ends p.tables e below s _ _ _ (T3.setTop (mkF m 11 #[.val (.ref o0_10), .val (.ref o1_10)] []))
  refine own_step (fun t k => XS.aloadN X3.here hx rfl (hb hby d10_11) rfl rfl k) ?_
  show own_Ends p.tables e below s _ _ _ (T3.setTop (mkF m 12 #[.val (.ref o0_10), .val (.ref o1_10)] [(.ref o1_10)]))
  have F7 : Fld Z h3 o1_10 "com/example/serigraph/serigraph/view/OrderList$Place" "next" "Lcom/example/serigraph/serigraph/view/OrderList$Place;" (.ref w_next_o1_10) := (F_next_o1_10.other W3 (Or.inl ne_o1_10_w_previous_o1_10))
  obtain ⟨T8, X8, e8, st8⟩ := own_getR X3 hx hZ hown (hw _ (List.mem_of_getElem? (i := 24) rfl)) e3 F7 (g := (mkF m 12 #[.val (.ref o0_10), .val (.ref o1_10)] [(.ref o1_10)])) rfl rfl (hb hby d10_12)
  refine own_step (fun t k => st8 _ k) ?_
  show own_Ends p.tables e below s _ _ _ (T8.setTop (mkF m 15 #[.val (.ref o0_10), .val (.ref o1_10)] [(.ref w_next_o1_10)]))
  refine own_step (fun t k => XS.aloadN X8.here hx rfl (hb hby d10_15) rfl rfl k) ?_
  show own_Ends p.tables e below s _ _ _ (T8.setTop (mkF m 16 #[.val (.ref o0_10), .val (.ref o1_10)] [(.ref o1_10), (.ref w_next_o1_10)]))
  have F9 : Fld Z h3 o1_10 "com/example/serigraph/serigraph/view/OrderList$Place" "previous" "Lcom/example/serigraph/serigraph/view/OrderList$Place;" (.ref w_previous_o1_10) := (F_previous_o1_10.other W3 (Or.inl ne_o1_10_w_previous_o1_10))
  obtain ⟨T10, X10, e10, st10⟩ := own_getR X8 hx hZ hown (hw _ (List.mem_of_getElem? (i := 26) rfl)) e8 F9 (g := (mkF m 16 #[.val (.ref o0_10), .val (.ref o1_10)] [(.ref o1_10), (.ref w_next_o1_10)])) rfl rfl (hb hby d10_16)
  refine own_step (fun t k => st10 _ k) ?_
  show own_Ends p.tables e below s _ _ _ (T10.setTop (mkF m 19 #[.val (.ref o0_10), .val (.ref o1_10)] [(.ref w_previous_o1_10), (.ref w_next_o1_10)]))
  have F11 : Exa Z h3 w_next_o1_10 "com/example/serigraph/serigraph/view/OrderList$Place" := (E_w_next_o1_10.wr W3)
  have F12 : Fld Z h3 w_next_o1_10 "com/example/serigraph/serigraph/view/OrderList$Place" "previous" "Lcom/example/serigraph/serigraph/view/OrderList$Place;" u_previous_w_next_o1_10 := (F_previous_w_next_o1_10.other W3 (Or.inl ne_w_next_o1_10_w_previous_o1_10))
  obtain ⟨T13, h13, X13, e13, W13, st13⟩ := own_putR X10 hx hZ hown (hw _ (List.mem_of_getElem? (i := 26) rfl)) e10 F12 F11 (hw _ (List.mem_of_getElem? (i := 27) rfl)) (hw _ (List.mem_of_getElem? (i := 11) rfl)) (ty := (.object "com/example/serigraph/serigraph/view/OrderList$Place")) (by decide) rfl rfl (g := (mkF m 19 #[.val (.ref o0_10), .val (.ref o1_10)] [(.ref w_previous_o1_10), (.ref w_next_o1_10)])) rfl rfl (hb hby d10_19)
  refine own_step (fun t k => st13 _ k) ?_
  have F14 : Fld Z h13 w_next_o1_10 "com/example/serigraph/serigraph/view/OrderList$Place" "previous" "Lcom/example/serigraph/serigraph/view/OrderList$Place;" (.ref w_previous_o1_10) := F12.same W13
  have K15 : Keep h0 h13 [w_previous_o1_10, w_next_o1_10] := K5.wr W13 (Or.inl (List.mem_of_getElem? (i := 1) rfl))
  have N16 := Fr.snoc X13 N6 g_w_next_o1_10
  show own_Ends p.tables e below s _ _ _ (T13.setTop (mkF m 22 #[.val (.ref o0_10), .val (.ref o1_10)] []))
  have F17 : Fld Z h13 w_previous_o1_10 "com/example/serigraph/serigraph/view/OrderList$Place" "label" "J" u_label_w_previous_o1_10 := ((F_label_w_previous_o1_10.other W3 (Or.inr (slot_ne (Or.inl (hw _ (List.mem_of_getElem? (i := 23) rfl))) (Or.inl (hw _ (List.mem_of_getElem? (i := 25) rfl))) (by decide) (t := .long) (t' := (.object "com/example/serigraph/serigraph/view/OrderList$Place")) (by decide) (by decide)))).other W13 (Or.inl (Ne.symm ne_w_next_o1_10_w_previous_o1_10)))
  have F18 : Fld Z h13 w_previous_o1_10 "com/example/serigraph/serigraph/view/OrderList$Place" "previous" "Lcom/example/serigraph/serigraph/view/OrderList$Place;" u_previous_w_previous_o1_10 := ((F_previous_w_previous_o1_10.other W3 (Or.inr (slot_ne (Or.inl (hw _ (List.mem_of_getElem? (i := 27) rfl))) (Or.inl (hw _ (List.mem_of_getElem? (i := 25) rfl))) (by decide) (t := (.object "com/example/serigraph/serigraph/view/OrderList$Place")) (t' := (.object "com/example/serigraph/serigraph/view/OrderList$Place")) (by decide) (by decide)))).other W13 (Or.inl (Ne.symm ne_w_next_o1_10_w_previous_o1_10)))
  have F19 : Exa Z h13 w_previous_o1_10 "com/example/serigraph/serigraph/view/OrderList$Place" := ((E_w_previous_o1_10.wr W3).wr W13)
  have F20 : Fld Z h13 w_previous_o1_10 "com/example/serigraph/serigraph/view/OrderList$Place" "next" "Lcom/example/serigraph/serigraph/view/OrderList$Place;" (.ref w_next_o1_10) := (F4.other W13 (Or.inl (Ne.symm ne_w_next_o1_10_w_previous_o1_10)))
  have F21 : Fld Z h13 w_next_o1_10 "com/example/serigraph/serigraph/view/OrderList$Place" "label" "J" u_label_w_next_o1_10 := ((F_label_w_next_o1_10.other W3 (Or.inl ne_w_next_o1_10_w_previous_o1_10)).other W13 (Or.inr (slot_ne (Or.inl (hw _ (List.mem_of_getElem? (i := 23) rfl))) (Or.inl (hw _ (List.mem_of_getElem? (i := 27) rfl))) (by decide) (t := .long) (t' := (.object "com/example/serigraph/serigraph/view/OrderList$Place")) (by decide) (by decide))))
  have F22 : Fld Z h13 w_next_o1_10 "com/example/serigraph/serigraph/view/OrderList$Place" "next" "Lcom/example/serigraph/serigraph/view/OrderList$Place;" u_next_w_next_o1_10 := ((F_next_w_next_o1_10.other W3 (Or.inl ne_w_next_o1_10_w_previous_o1_10)).other W13 (Or.inr (slot_ne (Or.inl (hw _ (List.mem_of_getElem? (i := 25) rfl))) (Or.inl (hw _ (List.mem_of_getElem? (i := 27) rfl))) (by decide) (t := (.object "com/example/serigraph/serigraph/view/OrderList$Place")) (t' := (.object "com/example/serigraph/serigraph/view/OrderList$Place")) (by decide) (by decide))))
  have F23 : Exa Z h13 w_next_o1_10 "com/example/serigraph/serigraph/view/OrderList$Place" := (F11.wr W13)
  exact own_ret0 X13 hx Bd.returns (hb hby d10_22) hnl (by rw [e13]; exact ⟨rfl, N16, K15, F17, F18, F19, F20, F21, F22, F23, F14⟩) (by decide) (by decide)
theorem d11_0 : decode prog_86_method_2_code 0 = .ok (.aload_n 0, 1) := by decide +kernel
theorem d11_1 : decode prog_86_method_2_code 1 = .ok (.getfield 7, 3) := by decide +kernel
theorem d11_4 : decode prog_86_method_2_code 4 = .ok (.areturn, 1) := by decide +kernel
theorem ef_11 (m : MethodId) (o0_11 : Addr) : entryFrame m #[(.ref o0_11)] 1 = mkF m 0 #[.val (.ref o0_11)] [] := by first | (simp [entryFrame, mkF, argsToLocals, Value.category]; done) | rfl
def Q11 (Z : State) (o0_11 : Addr) (w_previous_o0_11 : Addr) (h0 : Heap) (n0 : Nat) (v : Option Value) (h : Heap) (L : List Loc) : Prop := v = some (.ref w_previous_o0_11) ∧ Fr n0 L ∧ h = h0
set_option maxRecDepth 65536 in
set_option maxHeartbeats 40000000 in
theorem rm11 (l : Launch) (Z : State) (a0 : Array Value) (hw : ∀ d ∈ tables_1, d.before a0 Z = true) (ws : List Jvm.Cond) (o0_11 : Addr) (w_previous_o0_11 : Addr) (h0 : Heap) (n0 : Nat) (O0 : Old Z n0 h0) (F_previous_o0_11 : Fld Z h0 o0_11 "com/example/serigraph/serigraph/view/OrderList$Place" "previous" "Lcom/example/serigraph/serigraph/view/OrderList$Place;" (.ref w_previous_o0_11)) :
    MetFree l (⟨"com/example/serigraph/serigraph/view/OrderList$Place", "previous", "()Lcom/example/serigraph/serigraph/view/OrderList$Place;"⟩ : MethodName) (head1 (Jvm.Cond.code (⟨"com/example/serigraph/serigraph/view/OrderList$Place", "previous", "()Lcom/example/serigraph/serigraph/view/OrderList$Place;"⟩ : MethodName) prog_86_method_2_code 1 (some (.object "com/example/serigraph/serigraph/view/OrderList$Place")) :: ws) ({ frames := 0, cells := 0, slots := 0, locals := 0 } : Room)) (fun a U => a = #[(.ref o0_11)] ∧ Z.Warmed39 U.vm ∧ U.heap = h0) (fun _ _ _ _ _ => True) (fun _ U o U' => ∃ v L, o = .returned v ∧ Q11 Z o0_11 w_previous_o0_11 h0 n0 v U'.heap L ∧ FrameEnd U o U' L ({ frames := 0, cells := 0, slots := 0, locals := 0 } : Room).cells ({ frames := 0, cells := 0, slots := 0, locals := 0 } : Room).slots) := by
  refine MetFree.of_bodySF (plainFor_of_name pn_0) hisR ?_
  intro p e s m args below meth c s₁ Bd hml0 hP hK
  obtain ⟨rfl, hZ, hh⟩ := hP
  have hx := Bd.exec
  have hby := Bd.bytes
  have hnl := BodyLoose.notSynchronized Bd
  have hml : c.maxLocals = 1 := hml0
  have hown : s.vm.findClass "com/example/serigraph/serigraph/view/OrderList$Place" = some m.cls := findClass_of_methodNamed Bd.named
  have hnm := (name_of_methodNamed Bd.named Bd.method).1
  have X0 : Stand p l e ({ frames := 0, cells := 0, slots := 0, locals := 0 } : Room) s m #[(.ref o0_11)] below meth c s₁ [] 0 0 := Stand.of_body Bd
  have e0 : s₁.heap = h0 := by rw [← hh, Bd.state]; rfl
  have N0 := Fr.nil n0
  show own_Ends p.tables e below s (Q11 Z o0_11 w_previous_o0_11 h0 n0) 0 0 (s₁.setTop (entryFrame m #[(.ref o0_11)] 1))
  rw [ef_11 m o0_11]
  show own_Ends p.tables e below s _ _ _ (s₁.setTop (mkF m 0 #[.val (.ref o0_11)] []))
  refine own_step (fun t k => XS.aloadN X0.here hx rfl (hb hby d11_0) rfl rfl k) ?_
  show own_Ends p.tables e below s _ _ _ (s₁.setTop (mkF m 1 #[.val (.ref o0_11)] [(.ref o0_11)]))
  obtain ⟨T1, X1, e1, st1⟩ := getF X0 hx hZ hown (host := "") (Or.inl (hw _ (List.mem_of_getElem? (i := 71) rfl))) Via.refl e0 F_previous_o0_11 (g := (mkF m 1 #[.val (.ref o0_11)] [(.ref o0_11)])) rfl rfl (hb hby d11_1)
  refine own_step (fun t k => st1 _ k) ?_
  show own_Ends p.tables e below s _ _ _ (T1.setTop (mkF m 4 #[.val (.ref o0_11)] [(.ref w_previous_o0_11)]))
  exact own_retR X1 hx Bd.returns rfl rfl rfl (hb hby d11_4) hnl (by rw [e1]; exact ⟨rfl, N0, rfl⟩) (by decide) (by decide)
theorem own_n3 (x : Int32) : (1 + (x &&& 2147483647) % 3) = 1 ∨ (1 + (x &&& 2147483647) % 3) = 2 ∨ (1 + (x &&& 2147483647) % 3) = 3 := by
  obtain ⟨a, b⟩ := own_idx x 3 (by decide)
  obtain ⟨n, e⟩ := own_small _ 3 (by decide) a b
  rw [e]; clear e a b; revert n; decide
theorem own_i1 (y : Int32) : (1 + (y &&& 2147483647) % 1) = 1 := by
  obtain ⟨a, b⟩ := own_idx y 1 (by decide)
  obtain ⟨n, e⟩ := own_small _ 1 (by decide) a b
  rw [e]; clear e a b; revert n; decide
theorem own_i2 (y : Int32) : (1 + (y &&& 2147483647) % 2) = 1 ∨ (1 + (y &&& 2147483647) % 2) = 2 := by
  obtain ⟨a, b⟩ := own_idx y 2 (by decide)
  obtain ⟨n, e⟩ := own_small _ 2 (by decide) a b
  rw [e]; clear e a b; revert n; decide

theorem d9_0 : decode method_2_code 0 = .ok (.iload_n 2, 1) := by decide +kernel
theorem d9_1 : decode method_2_code 1 = .ok (.iload_n 1, 1) := by decide +kernel
theorem d9_2 : decode method_2_code 2 = .ok (.if_icmp .ge 9, 3) := by decide +kernel
theorem d9_5 : decode method_2_code 5 = .ok (.aload_n 0, 1) := by decide +kernel
theorem d9_6 : decode method_2_code 6 = .ok (.iload_n 2, 1) := by decide +kernel
theorem d9_7 : decode method_2_code 7 = .ok (.aaload, 1) := by decide +kernel
theorem d9_8 : decode method_2_code 8 = .ok (.goto 8, 3) := by decide +kernel
theorem d9_16 : decode method_2_code 16 = .ok (.areturn, 1) := by decide +kernel
theorem pn_2 : plainName "com/example/serigraph/serigraph/view/OrderListRemovePinLaw" = true := by first | (simp [plainName, overriddenIn]; done) | decide +kernel
theorem ef_9_1_0 (m : MethodId) (o0_9_1_0 : Addr) : entryFrame m #[(.ref o0_9_1_0), (.int (1 : Int32)), (.int (0 : Int32))] 3 = mkF m 0 #[.val (.ref o0_9_1_0), .val (.int (1 : Int32)), .val (.int (0 : Int32))] [] := by first | (simp [entryFrame, mkF, argsToLocals, Value.category]; done) | rfl
def Q9_1_0 (Z : State) (o0_9_1_0 : Addr) (k_o0_9_1_0 : ClassId) (n_o0_9_1_0 : Int32) (vs_o0_9_1_0 : List Value) (dv_o0_9_1_0 : Value) (r0_o0_9_1_0 : Addr) (h0 : Heap) (n0 : Nat) (v : Option Value) (h : Heap) (L : List Loc) : Prop := v = some (.ref r0_o0_9_1_0) ∧ Fr n0 L ∧ h = h0
set_option maxRecDepth 65536 in
set_option maxHeartbeats 40000000 in
theorem rm9_1_0 (l : Launch) (Z : State) (a0 : Array Value) (hw : ∀ d ∈ tables_1, d.before a0 Z = true) (ws : List Jvm.Cond) (o0_9_1_0 : Addr) (k_o0_9_1_0 : ClassId) (n_o0_9_1_0 : Int32) (vs_o0_9_1_0 : List Value) (dv_o0_9_1_0 : Value) (r0_o0_9_1_0 : Addr) (h0 : Heap) (n0 : Nat) (O0 : Old Z n0 h0) (V_o0_9_1_0 : Arv Z h0 o0_9_1_0 k_o0_9_1_0 (.object "com/example/serigraph/serigraph/view/OrderList$Place") n_o0_9_1_0 vs_o0_9_1_0 dv_o0_9_1_0) (hin0_o0_9_1_0 : ¬ (0 : Int32) < 0 ∧ (0 : Int32) < n_o0_9_1_0) (hat0_o0_9_1_0 : vs_o0_9_1_0.getD 0 dv_o0_9_1_0 = (.ref r0_o0_9_1_0)) :
    MetFree l (⟨"com/example/serigraph/serigraph/view/OrderListRemovePinLaw", "at", "([Lcom/example/serigraph/serigraph/view/OrderList$Place;II)Lcom/example/serigraph/serigraph/view/OrderList$Place;"⟩ : MethodName) (head1 (Jvm.Cond.code (⟨"com/example/serigraph/serigraph/view/OrderListRemovePinLaw", "at", "([Lcom/example/serigraph/serigraph/view/OrderList$Place;II)Lcom/example/serigraph/serigraph/view/OrderList$Place;"⟩ : MethodName) method_2_code 3 (some (.object "com/example/serigraph/serigraph/view/OrderList$Place")) :: ws) ({ frames := 0, cells := 0, slots := 0, locals := 0 } : Room)) (fun a U => a = #[(.ref o0_9_1_0), (.int (1 : Int32)), (.int (0 : Int32))] ∧ Z.Warmed39 U.vm ∧ U.heap = h0) (fun _ _ _ _ _ => True) (fun _ U o U' => ∃ v L, o = .returned v ∧ Q9_1_0 Z o0_9_1_0 k_o0_9_1_0 n_o0_9_1_0 vs_o0_9_1_0 dv_o0_9_1_0 r0_o0_9_1_0 h0 n0 v U'.heap L ∧ FrameEnd U o U' L ({ frames := 0, cells := 0, slots := 0, locals := 0 } : Room).cells ({ frames := 0, cells := 0, slots := 0, locals := 0 } : Room).slots) := by
  refine MetFree.of_bodySF (plainFor_of_name pn_2) hisR ?_
  intro p e s m args below meth c s₁ Bd hml0 hP hK
  obtain ⟨rfl, hZ, hh⟩ := hP
  have hx := Bd.exec
  have hby := Bd.bytes
  have hnl := BodyLoose.notSynchronized Bd
  have hml : c.maxLocals = 3 := hml0
  have hown : s.vm.findClass "com/example/serigraph/serigraph/view/OrderListRemovePinLaw" = some m.cls := findClass_of_methodNamed Bd.named
  have hnm := (name_of_methodNamed Bd.named Bd.method).1
  have X0 : Stand p l e ({ frames := 0, cells := 0, slots := 0, locals := 0 } : Room) s m #[(.ref o0_9_1_0), (.int (1 : Int32)), (.int (0 : Int32))] below meth c s₁ [] 0 0 := Stand.of_body Bd
  have e0 : s₁.heap = h0 := by rw [← hh, Bd.state]; rfl
  have N0 := Fr.nil n0
  show own_Ends p.tables e below s (Q9_1_0 Z o0_9_1_0 k_o0_9_1_0 n_o0_9_1_0 vs_o0_9_1_0 dv_o0_9_1_0 r0_o0_9_1_0 h0 n0) 0 0 (s₁.setTop (entryFrame m #[(.ref o0_9_1_0), (.int (1 : Int32)), (.int (0 : Int32))] 3))
  rw [ef_9_1_0 m o0_9_1_0]
  show own_Ends p.tables e below s _ _ _ (s₁.setTop (mkF m 0 #[.val (.ref o0_9_1_0), .val (.int (1 : Int32)), .val (.int (0 : Int32))] []))
  refine own_step (fun t k => XS.iloadN X0.here hx rfl (hb hby d9_0) rfl k) ?_
  show own_Ends p.tables e below s _ _ _ (s₁.setTop (mkF m 1 #[.val (.ref o0_9_1_0), .val (.int (1 : Int32)), .val (.int (0 : Int32))] [(.int (0 : Int32))]))
  refine own_step (fun t k => XS.iloadN X0.here hx rfl (hb hby d9_1) rfl k) ?_
  show own_Ends p.tables e below s _ _ _ (s₁.setTop (mkF m 2 #[.val (.ref o0_9_1_0), .val (.int (1 : Int32)), .val (.int (0 : Int32))] [(.int (1 : Int32)), (.int (0 : Int32))]))
  refine own_step (fun t k => XS.icmpNo X0.here hx rfl (hb hby d9_2) rfl (tlt (by decide : (0 : Int32) < (1 : Int32))).2.1 k) ?_
  show own_Ends p.tables e below s _ _ _ (s₁.setTop (mkF m 5 #[.val (.ref o0_9_1_0), .val (.int (1 : Int32)), .val (.int (0 : Int32))] []))
  refine own_step (fun t k => XS.aloadN X0.here hx rfl (hb hby d9_5) rfl rfl k) ?_
  show own_Ends p.tables e below s _ _ _ (s₁.setTop (mkF m 6 #[.val (.ref o0_9_1_0), .val (.int (1 : Int32)), .val (.int (0 : Int32))] [(.ref o0_9_1_0)]))
  refine own_step (fun t k => XS.iloadN X0.here hx rfl (hb hby d9_6) rfl k) ?_
  show own_Ends p.tables e below s _ _ _ (s₁.setTop (mkF m 7 #[.val (.ref o0_9_1_0), .val (.int (1 : Int32)), .val (.int (0 : Int32))] [(.int (0 : Int32)), (.ref o0_9_1_0)]))
  obtain ⟨cl1, Ar1, q1, S1, N1, H1, G1⟩ := id V_o0_9_1_0
  have hin1 : ¬ ((0 : Int32) < 0 ∨ cl1.slots.size ≤ ((0 : Int32)).toNatClampNeg) := inb_of S1 hin0_o0_9_1_0
  have hat1 : cl1.slots[((0 : Int32)).toNatClampNeg]? = some (.ref r0_o0_9_1_0) := H1.at hin1 hat0_o0_9_1_0
  refine own_step (fun t k => X0.aaload hx (j := (0 : Int32)) (v := (.ref r0_o0_9_1_0)) (by rw [e0]; exact Ar1.1) (State.isArrayOf_alike hZ.alike Ar1.2.1) rfl Ar1.2.2 hin1 hat1 (g := (mkF m 7 #[.val (.ref o0_9_1_0), .val (.int (1 : Int32)), .val (.int (0 : Int32))] [(.int (0 : Int32)), (.ref o0_9_1_0)])) rfl rfl (hb hby d9_7) _ k) ?_
  show own_Ends p.tables e below s _ _ _ (s₁.setTop (mkF m 8 #[.val (.ref o0_9_1_0), .val (.int (1 : Int32)), .val (.int (0 : Int32))] [(.ref r0_o0_9_1_0)]))
  refine own_step (fun t k => XS.goto X0.here hx rfl (pc0 := 8) (pc' := 16) rfl (hb hby d9_8) (by decide) (by decide) k) ?_
  show own_Ends p.tables e below s _ _ _ (s₁.setTop (mkF m 16 #[.val (.ref o0_9_1_0), .val (.int (1 : Int32)), .val (.int (0 : Int32))] [(.ref r0_o0_9_1_0)]))
  exact own_retR X0 hx Bd.returns rfl rfl rfl (hb hby d9_16) hnl (by rw [e0]; exact ⟨rfl, N0, rfl⟩) (by decide) (by decide)
theorem d9_11 : decode method_2_code 11 = .ok (.aload_n 0, 1) := by decide +kernel
theorem d9_12 : decode method_2_code 12 = .ok (.iload_n 2, 1) := by decide +kernel
theorem d9_13 : decode method_2_code 13 = .ok (.iconst 1, 1) := by decide +kernel
theorem d9_14 : decode method_2_code 14 = .ok (.iadd, 1) := by decide +kernel
theorem d9_15 : decode method_2_code 15 = .ok (.aaload, 1) := by decide +kernel
theorem ef_9_1_1 (m : MethodId) (o0_9_1_1 : Addr) : entryFrame m #[(.ref o0_9_1_1), (.int (1 : Int32)), (.int (1 : Int32))] 3 = mkF m 0 #[.val (.ref o0_9_1_1), .val (.int (1 : Int32)), .val (.int (1 : Int32))] [] := by first | (simp [entryFrame, mkF, argsToLocals, Value.category]; done) | rfl
def Q9_1_1 (Z : State) (o0_9_1_1 : Addr) (k_o0_9_1_1 : ClassId) (n_o0_9_1_1 : Int32) (vs_o0_9_1_1 : List Value) (dv_o0_9_1_1 : Value) (r2_o0_9_1_1 : Addr) (h0 : Heap) (n0 : Nat) (v : Option Value) (h : Heap) (L : List Loc) : Prop := v = some (.ref r2_o0_9_1_1) ∧ Fr n0 L ∧ h = h0
set_option maxRecDepth 65536 in
set_option maxHeartbeats 40000000 in
theorem rm9_1_1 (l : Launch) (Z : State) (a0 : Array Value) (hw : ∀ d ∈ tables_1, d.before a0 Z = true) (ws : List Jvm.Cond) (o0_9_1_1 : Addr) (k_o0_9_1_1 : ClassId) (n_o0_9_1_1 : Int32) (vs_o0_9_1_1 : List Value) (dv_o0_9_1_1 : Value) (r2_o0_9_1_1 : Addr) (h0 : Heap) (n0 : Nat) (O0 : Old Z n0 h0) (V_o0_9_1_1 : Arv Z h0 o0_9_1_1 k_o0_9_1_1 (.object "com/example/serigraph/serigraph/view/OrderList$Place") n_o0_9_1_1 vs_o0_9_1_1 dv_o0_9_1_1) (hin2_o0_9_1_1 : ¬ (2 : Int32) < 0 ∧ (2 : Int32) < n_o0_9_1_1) (hat2_o0_9_1_1 : vs_o0_9_1_1.getD 2 dv_o0_9_1_1 = (.ref r2_o0_9_1_1)) :
    MetFree l (⟨"com/example/serigraph/serigraph/view/OrderListRemovePinLaw", "at", "([Lcom/example/serigraph/serigraph/view/OrderList$Place;II)Lcom/example/serigraph/serigraph/view/OrderList$Place;"⟩ : MethodName) (head1 (Jvm.Cond.code (⟨"com/example/serigraph/serigraph/view/OrderListRemovePinLaw", "at", "([Lcom/example/serigraph/serigraph/view/OrderList$Place;II)Lcom/example/serigraph/serigraph/view/OrderList$Place;"⟩ : MethodName) method_2_code 3 (some (.object "com/example/serigraph/serigraph/view/OrderList$Place")) :: ws) ({ frames := 0, cells := 0, slots := 0, locals := 0 } : Room)) (fun a U => a = #[(.ref o0_9_1_1), (.int (1 : Int32)), (.int (1 : Int32))] ∧ Z.Warmed39 U.vm ∧ U.heap = h0) (fun _ _ _ _ _ => True) (fun _ U o U' => ∃ v L, o = .returned v ∧ Q9_1_1 Z o0_9_1_1 k_o0_9_1_1 n_o0_9_1_1 vs_o0_9_1_1 dv_o0_9_1_1 r2_o0_9_1_1 h0 n0 v U'.heap L ∧ FrameEnd U o U' L ({ frames := 0, cells := 0, slots := 0, locals := 0 } : Room).cells ({ frames := 0, cells := 0, slots := 0, locals := 0 } : Room).slots) := by
  refine MetFree.of_bodySF (plainFor_of_name pn_2) hisR ?_
  intro p e s m args below meth c s₁ Bd hml0 hP hK
  obtain ⟨rfl, hZ, hh⟩ := hP
  have hx := Bd.exec
  have hby := Bd.bytes
  have hnl := BodyLoose.notSynchronized Bd
  have hml : c.maxLocals = 3 := hml0
  have hown : s.vm.findClass "com/example/serigraph/serigraph/view/OrderListRemovePinLaw" = some m.cls := findClass_of_methodNamed Bd.named
  have hnm := (name_of_methodNamed Bd.named Bd.method).1
  have X0 : Stand p l e ({ frames := 0, cells := 0, slots := 0, locals := 0 } : Room) s m #[(.ref o0_9_1_1), (.int (1 : Int32)), (.int (1 : Int32))] below meth c s₁ [] 0 0 := Stand.of_body Bd
  have e0 : s₁.heap = h0 := by rw [← hh, Bd.state]; rfl
  have N0 := Fr.nil n0
  show own_Ends p.tables e below s (Q9_1_1 Z o0_9_1_1 k_o0_9_1_1 n_o0_9_1_1 vs_o0_9_1_1 dv_o0_9_1_1 r2_o0_9_1_1 h0 n0) 0 0 (s₁.setTop (entryFrame m #[(.ref o0_9_1_1), (.int (1 : Int32)), (.int (1 : Int32))] 3))
  rw [ef_9_1_1 m o0_9_1_1]
  show own_Ends p.tables e below s _ _ _ (s₁.setTop (mkF m 0 #[.val (.ref o0_9_1_1), .val (.int (1 : Int32)), .val (.int (1 : Int32))] []))
  refine own_step (fun t k => XS.iloadN X0.here hx rfl (hb hby d9_0) rfl k) ?_
  show own_Ends p.tables e below s _ _ _ (s₁.setTop (mkF m 1 #[.val (.ref o0_9_1_1), .val (.int (1 : Int32)), .val (.int (1 : Int32))] [(.int (1 : Int32))]))
  refine own_step (fun t k => XS.iloadN X0.here hx rfl (hb hby d9_1) rfl k) ?_
  show own_Ends p.tables e below s _ _ _ (s₁.setTop (mkF m 2 #[.val (.ref o0_9_1_1), .val (.int (1 : Int32)), .val (.int (1 : Int32))] [(.int (1 : Int32)), (.int (1 : Int32))]))
  refine own_step (fun t k => XS.icmpYes X0.here hx rfl (pc0 := 2) (pc' := 11) rfl (hb hby d9_2) rfl (flt (by decide : ¬ ((1 : Int32) < (1 : Int32)))).2.1 (by decide) (by decide) k) ?_
  show own_Ends p.tables e below s _ _ _ (s₁.setTop (mkF m 11 #[.val (.ref o0_9_1_1), .val (.int (1 : Int32)), .val (.int (1 : Int32))] []))
  refine own_step (fun t k => XS.aloadN X0.here hx rfl (hb hby d9_11) rfl rfl k) ?_
  show own_Ends p.tables e below s _ _ _ (s₁.setTop (mkF m 12 #[.val (.ref o0_9_1_1), .val (.int (1 : Int32)), .val (.int (1 : Int32))] [(.ref o0_9_1_1)]))
  refine own_step (fun t k => XS.iloadN X0.here hx rfl (hb hby d9_12) rfl k) ?_
  show own_Ends p.tables e below s _ _ _ (s₁.setTop (mkF m 13 #[.val (.ref o0_9_1_1), .val (.int (1 : Int32)), .val (.int (1 : Int32))] [(.int (1 : Int32)), (.ref o0_9_1_1)]))
  refine own_step (fun t k => XS.iconst X0.here hx rfl (hb hby d9_13) k) ?_
  show own_Ends p.tables e below s _ _ _ (s₁.setTop (mkF m 14 #[.val (.ref o0_9_1_1), .val (.int (1 : Int32)), .val (.int (1 : Int32))] [(.int (1 : Int32)), (.int (1 : Int32)), (.ref o0_9_1_1)]))
  refine own_step (fun t k => XS.iadd X0.here hx rfl (hb hby d9_14) rfl k) ?_
  show own_Ends p.tables e below s _ _ _ (s₁.setTop (mkF m 15 #[.val (.ref o0_9_1_1), .val (.int (1 : Int32)), .val (.int (1 : Int32))] [(.int (2 : Int32)), (.ref o0_9_1_1)]))
  obtain ⟨cl1, Ar1, q1, S1, N1, H1, G1⟩ := id V_o0_9_1_1
  have hin1 : ¬ ((2 : Int32) < 0 ∨ cl1.slots.size ≤ ((2 : Int32)).toNatClampNeg) := inb_of S1 hin2_o0_9_1_1
  have hat1 : cl1.slots[((2 : Int32)).toNatClampNeg]? = some (.ref r2_o0_9_1_1) := H1.at hin1 hat2_o0_9_1_1
  refine own_step (fun t k => X0.aaload hx (j := (2 : Int32)) (v := (.ref r2_o0_9_1_1)) (by rw [e0]; exact Ar1.1) (State.isArrayOf_alike hZ.alike Ar1.2.1) rfl Ar1.2.2 hin1 hat1 (g := (mkF m 15 #[.val (.ref o0_9_1_1), .val (.int (1 : Int32)), .val (.int (1 : Int32))] [(.int (2 : Int32)), (.ref o0_9_1_1)])) rfl rfl (hb hby d9_15) _ k) ?_
  show own_Ends p.tables e below s _ _ _ (s₁.setTop (mkF m 16 #[.val (.ref o0_9_1_1), .val (.int (1 : Int32)), .val (.int (1 : Int32))] [(.ref r2_o0_9_1_1)]))
  exact own_retR X0 hx Bd.returns rfl rfl rfl (hb hby d9_16) hnl (by rw [e0]; exact ⟨rfl, N0, rfl⟩) (by decide) (by decide)
theorem ef_9_2_0 (m : MethodId) (o0_9_2_0 : Addr) : entryFrame m #[(.ref o0_9_2_0), (.int (2 : Int32)), (.int (0 : Int32))] 3 = mkF m 0 #[.val (.ref o0_9_2_0), .val (.int (2 : Int32)), .val (.int (0 : Int32))] [] := by first | (simp [entryFrame, mkF, argsToLocals, Value.category]; done) | rfl
def Q9_2_0 (Z : State) (o0_9_2_0 : Addr) (k_o0_9_2_0 : ClassId) (n_o0_9_2_0 : Int32) (vs_o0_9_2_0 : List Value) (dv_o0_9_2_0 : Value) (r0_o0_9_2_0 : Addr) (h0 : Heap) (n0 : Nat) (v : Option Value) (h : Heap) (L : List Loc) : Prop := v = some (.ref r0_o0_9_2_0) ∧ Fr n0 L ∧ h = h0
set_option maxRecDepth 65536 in
set_option maxHeartbeats 40000000 in
theorem rm9_2_0 (l : Launch) (Z : State) (a0 : Array Value) (hw : ∀ d ∈ tables_1, d.before a0 Z = true) (ws : List Jvm.Cond) (o0_9_2_0 : Addr) (k_o0_9_2_0 : ClassId) (n_o0_9_2_0 : Int32) (vs_o0_9_2_0 : List Value) (dv_o0_9_2_0 : Value) (r0_o0_9_2_0 : Addr) (h0 : Heap) (n0 : Nat) (O0 : Old Z n0 h0) (V_o0_9_2_0 : Arv Z h0 o0_9_2_0 k_o0_9_2_0 (.object "com/example/serigraph/serigraph/view/OrderList$Place") n_o0_9_2_0 vs_o0_9_2_0 dv_o0_9_2_0) (hin0_o0_9_2_0 : ¬ (0 : Int32) < 0 ∧ (0 : Int32) < n_o0_9_2_0) (hat0_o0_9_2_0 : vs_o0_9_2_0.getD 0 dv_o0_9_2_0 = (.ref r0_o0_9_2_0)) :
    MetFree l (⟨"com/example/serigraph/serigraph/view/OrderListRemovePinLaw", "at", "([Lcom/example/serigraph/serigraph/view/OrderList$Place;II)Lcom/example/serigraph/serigraph/view/OrderList$Place;"⟩ : MethodName) (head1 (Jvm.Cond.code (⟨"com/example/serigraph/serigraph/view/OrderListRemovePinLaw", "at", "([Lcom/example/serigraph/serigraph/view/OrderList$Place;II)Lcom/example/serigraph/serigraph/view/OrderList$Place;"⟩ : MethodName) method_2_code 3 (some (.object "com/example/serigraph/serigraph/view/OrderList$Place")) :: ws) ({ frames := 0, cells := 0, slots := 0, locals := 0 } : Room)) (fun a U => a = #[(.ref o0_9_2_0), (.int (2 : Int32)), (.int (0 : Int32))] ∧ Z.Warmed39 U.vm ∧ U.heap = h0) (fun _ _ _ _ _ => True) (fun _ U o U' => ∃ v L, o = .returned v ∧ Q9_2_0 Z o0_9_2_0 k_o0_9_2_0 n_o0_9_2_0 vs_o0_9_2_0 dv_o0_9_2_0 r0_o0_9_2_0 h0 n0 v U'.heap L ∧ FrameEnd U o U' L ({ frames := 0, cells := 0, slots := 0, locals := 0 } : Room).cells ({ frames := 0, cells := 0, slots := 0, locals := 0 } : Room).slots) := by
  refine MetFree.of_bodySF (plainFor_of_name pn_2) hisR ?_
  intro p e s m args below meth c s₁ Bd hml0 hP hK
  obtain ⟨rfl, hZ, hh⟩ := hP
  have hx := Bd.exec
  have hby := Bd.bytes
  have hnl := BodyLoose.notSynchronized Bd
  have hml : c.maxLocals = 3 := hml0
  have hown : s.vm.findClass "com/example/serigraph/serigraph/view/OrderListRemovePinLaw" = some m.cls := findClass_of_methodNamed Bd.named
  have hnm := (name_of_methodNamed Bd.named Bd.method).1
  have X0 : Stand p l e ({ frames := 0, cells := 0, slots := 0, locals := 0 } : Room) s m #[(.ref o0_9_2_0), (.int (2 : Int32)), (.int (0 : Int32))] below meth c s₁ [] 0 0 := Stand.of_body Bd
  have e0 : s₁.heap = h0 := by rw [← hh, Bd.state]; rfl
  have N0 := Fr.nil n0
  show own_Ends p.tables e below s (Q9_2_0 Z o0_9_2_0 k_o0_9_2_0 n_o0_9_2_0 vs_o0_9_2_0 dv_o0_9_2_0 r0_o0_9_2_0 h0 n0) 0 0 (s₁.setTop (entryFrame m #[(.ref o0_9_2_0), (.int (2 : Int32)), (.int (0 : Int32))] 3))
  rw [ef_9_2_0 m o0_9_2_0]
  show own_Ends p.tables e below s _ _ _ (s₁.setTop (mkF m 0 #[.val (.ref o0_9_2_0), .val (.int (2 : Int32)), .val (.int (0 : Int32))] []))
  refine own_step (fun t k => XS.iloadN X0.here hx rfl (hb hby d9_0) rfl k) ?_
  show own_Ends p.tables e below s _ _ _ (s₁.setTop (mkF m 1 #[.val (.ref o0_9_2_0), .val (.int (2 : Int32)), .val (.int (0 : Int32))] [(.int (0 : Int32))]))
  refine own_step (fun t k => XS.iloadN X0.here hx rfl (hb hby d9_1) rfl k) ?_
  show own_Ends p.tables e below s _ _ _ (s₁.setTop (mkF m 2 #[.val (.ref o0_9_2_0), .val (.int (2 : Int32)), .val (.int (0 : Int32))] [(.int (2 : Int32)), (.int (0 : Int32))]))
  refine own_step (fun t k => XS.icmpNo X0.here hx rfl (hb hby d9_2) rfl (tlt (by decide : (0 : Int32) < (2 : Int32))).2.1 k) ?_
  show own_Ends p.tables e below s _ _ _ (s₁.setTop (mkF m 5 #[.val (.ref o0_9_2_0), .val (.int (2 : Int32)), .val (.int (0 : Int32))] []))
  refine own_step (fun t k => XS.aloadN X0.here hx rfl (hb hby d9_5) rfl rfl k) ?_
  show own_Ends p.tables e below s _ _ _ (s₁.setTop (mkF m 6 #[.val (.ref o0_9_2_0), .val (.int (2 : Int32)), .val (.int (0 : Int32))] [(.ref o0_9_2_0)]))
  refine own_step (fun t k => XS.iloadN X0.here hx rfl (hb hby d9_6) rfl k) ?_
  show own_Ends p.tables e below s _ _ _ (s₁.setTop (mkF m 7 #[.val (.ref o0_9_2_0), .val (.int (2 : Int32)), .val (.int (0 : Int32))] [(.int (0 : Int32)), (.ref o0_9_2_0)]))
  obtain ⟨cl1, Ar1, q1, S1, N1, H1, G1⟩ := id V_o0_9_2_0
  have hin1 : ¬ ((0 : Int32) < 0 ∨ cl1.slots.size ≤ ((0 : Int32)).toNatClampNeg) := inb_of S1 hin0_o0_9_2_0
  have hat1 : cl1.slots[((0 : Int32)).toNatClampNeg]? = some (.ref r0_o0_9_2_0) := H1.at hin1 hat0_o0_9_2_0
  refine own_step (fun t k => X0.aaload hx (j := (0 : Int32)) (v := (.ref r0_o0_9_2_0)) (by rw [e0]; exact Ar1.1) (State.isArrayOf_alike hZ.alike Ar1.2.1) rfl Ar1.2.2 hin1 hat1 (g := (mkF m 7 #[.val (.ref o0_9_2_0), .val (.int (2 : Int32)), .val (.int (0 : Int32))] [(.int (0 : Int32)), (.ref o0_9_2_0)])) rfl rfl (hb hby d9_7) _ k) ?_
  show own_Ends p.tables e below s _ _ _ (s₁.setTop (mkF m 8 #[.val (.ref o0_9_2_0), .val (.int (2 : Int32)), .val (.int (0 : Int32))] [(.ref r0_o0_9_2_0)]))
  refine own_step (fun t k => XS.goto X0.here hx rfl (pc0 := 8) (pc' := 16) rfl (hb hby d9_8) (by decide) (by decide) k) ?_
  show own_Ends p.tables e below s _ _ _ (s₁.setTop (mkF m 16 #[.val (.ref o0_9_2_0), .val (.int (2 : Int32)), .val (.int (0 : Int32))] [(.ref r0_o0_9_2_0)]))
  exact own_retR X0 hx Bd.returns rfl rfl rfl (hb hby d9_16) hnl (by rw [e0]; exact ⟨rfl, N0, rfl⟩) (by decide) (by decide)
theorem ef_9_2_1 (m : MethodId) (o0_9_2_1 : Addr) : entryFrame m #[(.ref o0_9_2_1), (.int (2 : Int32)), (.int (1 : Int32))] 3 = mkF m 0 #[.val (.ref o0_9_2_1), .val (.int (2 : Int32)), .val (.int (1 : Int32))] [] := by first | (simp [entryFrame, mkF, argsToLocals, Value.category]; done) | rfl
def Q9_2_1 (Z : State) (o0_9_2_1 : Addr) (k_o0_9_2_1 : ClassId) (n_o0_9_2_1 : Int32) (vs_o0_9_2_1 : List Value) (dv_o0_9_2_1 : Value) (r1_o0_9_2_1 : Addr) (h0 : Heap) (n0 : Nat) (v : Option Value) (h : Heap) (L : List Loc) : Prop := v = some (.ref r1_o0_9_2_1) ∧ Fr n0 L ∧ h = h0
set_option maxRecDepth 65536 in
set_option maxHeartbeats 40000000 in
theorem rm9_2_1 (l : Launch) (Z : State) (a0 : Array Value) (hw : ∀ d ∈ tables_1, d.before a0 Z = true) (ws : List Jvm.Cond) (o0_9_2_1 : Addr) (k_o0_9_2_1 : ClassId) (n_o0_9_2_1 : Int32) (vs_o0_9_2_1 : List Value) (dv_o0_9_2_1 : Value) (r1_o0_9_2_1 : Addr) (h0 : Heap) (n0 : Nat) (O0 : Old Z n0 h0) (V_o0_9_2_1 : Arv Z h0 o0_9_2_1 k_o0_9_2_1 (.object "com/example/serigraph/serigraph/view/OrderList$Place") n_o0_9_2_1 vs_o0_9_2_1 dv_o0_9_2_1) (hin1_o0_9_2_1 : ¬ (1 : Int32) < 0 ∧ (1 : Int32) < n_o0_9_2_1) (hat1_o0_9_2_1 : vs_o0_9_2_1.getD 1 dv_o0_9_2_1 = (.ref r1_o0_9_2_1)) :
    MetFree l (⟨"com/example/serigraph/serigraph/view/OrderListRemovePinLaw", "at", "([Lcom/example/serigraph/serigraph/view/OrderList$Place;II)Lcom/example/serigraph/serigraph/view/OrderList$Place;"⟩ : MethodName) (head1 (Jvm.Cond.code (⟨"com/example/serigraph/serigraph/view/OrderListRemovePinLaw", "at", "([Lcom/example/serigraph/serigraph/view/OrderList$Place;II)Lcom/example/serigraph/serigraph/view/OrderList$Place;"⟩ : MethodName) method_2_code 3 (some (.object "com/example/serigraph/serigraph/view/OrderList$Place")) :: ws) ({ frames := 0, cells := 0, slots := 0, locals := 0 } : Room)) (fun a U => a = #[(.ref o0_9_2_1), (.int (2 : Int32)), (.int (1 : Int32))] ∧ Z.Warmed39 U.vm ∧ U.heap = h0) (fun _ _ _ _ _ => True) (fun _ U o U' => ∃ v L, o = .returned v ∧ Q9_2_1 Z o0_9_2_1 k_o0_9_2_1 n_o0_9_2_1 vs_o0_9_2_1 dv_o0_9_2_1 r1_o0_9_2_1 h0 n0 v U'.heap L ∧ FrameEnd U o U' L ({ frames := 0, cells := 0, slots := 0, locals := 0 } : Room).cells ({ frames := 0, cells := 0, slots := 0, locals := 0 } : Room).slots) := by
  refine MetFree.of_bodySF (plainFor_of_name pn_2) hisR ?_
  intro p e s m args below meth c s₁ Bd hml0 hP hK
  obtain ⟨rfl, hZ, hh⟩ := hP
  have hx := Bd.exec
  have hby := Bd.bytes
  have hnl := BodyLoose.notSynchronized Bd
  have hml : c.maxLocals = 3 := hml0
  have hown : s.vm.findClass "com/example/serigraph/serigraph/view/OrderListRemovePinLaw" = some m.cls := findClass_of_methodNamed Bd.named
  have hnm := (name_of_methodNamed Bd.named Bd.method).1
  have X0 : Stand p l e ({ frames := 0, cells := 0, slots := 0, locals := 0 } : Room) s m #[(.ref o0_9_2_1), (.int (2 : Int32)), (.int (1 : Int32))] below meth c s₁ [] 0 0 := Stand.of_body Bd
  have e0 : s₁.heap = h0 := by rw [← hh, Bd.state]; rfl
  have N0 := Fr.nil n0
  show own_Ends p.tables e below s (Q9_2_1 Z o0_9_2_1 k_o0_9_2_1 n_o0_9_2_1 vs_o0_9_2_1 dv_o0_9_2_1 r1_o0_9_2_1 h0 n0) 0 0 (s₁.setTop (entryFrame m #[(.ref o0_9_2_1), (.int (2 : Int32)), (.int (1 : Int32))] 3))
  rw [ef_9_2_1 m o0_9_2_1]
  show own_Ends p.tables e below s _ _ _ (s₁.setTop (mkF m 0 #[.val (.ref o0_9_2_1), .val (.int (2 : Int32)), .val (.int (1 : Int32))] []))
  refine own_step (fun t k => XS.iloadN X0.here hx rfl (hb hby d9_0) rfl k) ?_
  show own_Ends p.tables e below s _ _ _ (s₁.setTop (mkF m 1 #[.val (.ref o0_9_2_1), .val (.int (2 : Int32)), .val (.int (1 : Int32))] [(.int (1 : Int32))]))
  refine own_step (fun t k => XS.iloadN X0.here hx rfl (hb hby d9_1) rfl k) ?_
  show own_Ends p.tables e below s _ _ _ (s₁.setTop (mkF m 2 #[.val (.ref o0_9_2_1), .val (.int (2 : Int32)), .val (.int (1 : Int32))] [(.int (2 : Int32)), (.int (1 : Int32))]))
  refine own_step (fun t k => XS.icmpNo X0.here hx rfl (hb hby d9_2) rfl (tlt (by decide : (1 : Int32) < (2 : Int32))).2.1 k) ?_
  show own_Ends p.tables e below s _ _ _ (s₁.setTop (mkF m 5 #[.val (.ref o0_9_2_1), .val (.int (2 : Int32)), .val (.int (1 : Int32))] []))
  refine own_step (fun t k => XS.aloadN X0.here hx rfl (hb hby d9_5) rfl rfl k) ?_
  show own_Ends p.tables e below s _ _ _ (s₁.setTop (mkF m 6 #[.val (.ref o0_9_2_1), .val (.int (2 : Int32)), .val (.int (1 : Int32))] [(.ref o0_9_2_1)]))
  refine own_step (fun t k => XS.iloadN X0.here hx rfl (hb hby d9_6) rfl k) ?_
  show own_Ends p.tables e below s _ _ _ (s₁.setTop (mkF m 7 #[.val (.ref o0_9_2_1), .val (.int (2 : Int32)), .val (.int (1 : Int32))] [(.int (1 : Int32)), (.ref o0_9_2_1)]))
  obtain ⟨cl1, Ar1, q1, S1, N1, H1, G1⟩ := id V_o0_9_2_1
  have hin1 : ¬ ((1 : Int32) < 0 ∨ cl1.slots.size ≤ ((1 : Int32)).toNatClampNeg) := inb_of S1 hin1_o0_9_2_1
  have hat1 : cl1.slots[((1 : Int32)).toNatClampNeg]? = some (.ref r1_o0_9_2_1) := H1.at hin1 hat1_o0_9_2_1
  refine own_step (fun t k => X0.aaload hx (j := (1 : Int32)) (v := (.ref r1_o0_9_2_1)) (by rw [e0]; exact Ar1.1) (State.isArrayOf_alike hZ.alike Ar1.2.1) rfl Ar1.2.2 hin1 hat1 (g := (mkF m 7 #[.val (.ref o0_9_2_1), .val (.int (2 : Int32)), .val (.int (1 : Int32))] [(.int (1 : Int32)), (.ref o0_9_2_1)])) rfl rfl (hb hby d9_7) _ k) ?_
  show own_Ends p.tables e below s _ _ _ (s₁.setTop (mkF m 8 #[.val (.ref o0_9_2_1), .val (.int (2 : Int32)), .val (.int (1 : Int32))] [(.ref r1_o0_9_2_1)]))
  refine own_step (fun t k => XS.goto X0.here hx rfl (pc0 := 8) (pc' := 16) rfl (hb hby d9_8) (by decide) (by decide) k) ?_
  show own_Ends p.tables e below s _ _ _ (s₁.setTop (mkF m 16 #[.val (.ref o0_9_2_1), .val (.int (2 : Int32)), .val (.int (1 : Int32))] [(.ref r1_o0_9_2_1)]))
  exact own_retR X0 hx Bd.returns rfl rfl rfl (hb hby d9_16) hnl (by rw [e0]; exact ⟨rfl, N0, rfl⟩) (by decide) (by decide)
theorem ef_9_1_2 (m : MethodId) (o0_9_1_2 : Addr) : entryFrame m #[(.ref o0_9_1_2), (.int (1 : Int32)), (.int (2 : Int32))] 3 = mkF m 0 #[.val (.ref o0_9_1_2), .val (.int (1 : Int32)), .val (.int (2 : Int32))] [] := by first | (simp [entryFrame, mkF, argsToLocals, Value.category]; done) | rfl
def Q9_1_2 (Z : State) (o0_9_1_2 : Addr) (k_o0_9_1_2 : ClassId) (n_o0_9_1_2 : Int32) (vs_o0_9_1_2 : List Value) (dv_o0_9_1_2 : Value) (r3_o0_9_1_2 : Addr) (h0 : Heap) (n0 : Nat) (v : Option Value) (h : Heap) (L : List Loc) : Prop := v = some (.ref r3_o0_9_1_2) ∧ Fr n0 L ∧ h = h0
set_option maxRecDepth 65536 in
set_option maxHeartbeats 40000000 in
theorem rm9_1_2 (l : Launch) (Z : State) (a0 : Array Value) (hw : ∀ d ∈ tables_1, d.before a0 Z = true) (ws : List Jvm.Cond) (o0_9_1_2 : Addr) (k_o0_9_1_2 : ClassId) (n_o0_9_1_2 : Int32) (vs_o0_9_1_2 : List Value) (dv_o0_9_1_2 : Value) (r3_o0_9_1_2 : Addr) (h0 : Heap) (n0 : Nat) (O0 : Old Z n0 h0) (V_o0_9_1_2 : Arv Z h0 o0_9_1_2 k_o0_9_1_2 (.object "com/example/serigraph/serigraph/view/OrderList$Place") n_o0_9_1_2 vs_o0_9_1_2 dv_o0_9_1_2) (hin3_o0_9_1_2 : ¬ (3 : Int32) < 0 ∧ (3 : Int32) < n_o0_9_1_2) (hat3_o0_9_1_2 : vs_o0_9_1_2.getD 3 dv_o0_9_1_2 = (.ref r3_o0_9_1_2)) :
    MetFree l (⟨"com/example/serigraph/serigraph/view/OrderListRemovePinLaw", "at", "([Lcom/example/serigraph/serigraph/view/OrderList$Place;II)Lcom/example/serigraph/serigraph/view/OrderList$Place;"⟩ : MethodName) (head1 (Jvm.Cond.code (⟨"com/example/serigraph/serigraph/view/OrderListRemovePinLaw", "at", "([Lcom/example/serigraph/serigraph/view/OrderList$Place;II)Lcom/example/serigraph/serigraph/view/OrderList$Place;"⟩ : MethodName) method_2_code 3 (some (.object "com/example/serigraph/serigraph/view/OrderList$Place")) :: ws) ({ frames := 0, cells := 0, slots := 0, locals := 0 } : Room)) (fun a U => a = #[(.ref o0_9_1_2), (.int (1 : Int32)), (.int (2 : Int32))] ∧ Z.Warmed39 U.vm ∧ U.heap = h0) (fun _ _ _ _ _ => True) (fun _ U o U' => ∃ v L, o = .returned v ∧ Q9_1_2 Z o0_9_1_2 k_o0_9_1_2 n_o0_9_1_2 vs_o0_9_1_2 dv_o0_9_1_2 r3_o0_9_1_2 h0 n0 v U'.heap L ∧ FrameEnd U o U' L ({ frames := 0, cells := 0, slots := 0, locals := 0 } : Room).cells ({ frames := 0, cells := 0, slots := 0, locals := 0 } : Room).slots) := by
  refine MetFree.of_bodySF (plainFor_of_name pn_2) hisR ?_
  intro p e s m args below meth c s₁ Bd hml0 hP hK
  obtain ⟨rfl, hZ, hh⟩ := hP
  have hx := Bd.exec
  have hby := Bd.bytes
  have hnl := BodyLoose.notSynchronized Bd
  have hml : c.maxLocals = 3 := hml0
  have hown : s.vm.findClass "com/example/serigraph/serigraph/view/OrderListRemovePinLaw" = some m.cls := findClass_of_methodNamed Bd.named
  have hnm := (name_of_methodNamed Bd.named Bd.method).1
  have X0 : Stand p l e ({ frames := 0, cells := 0, slots := 0, locals := 0 } : Room) s m #[(.ref o0_9_1_2), (.int (1 : Int32)), (.int (2 : Int32))] below meth c s₁ [] 0 0 := Stand.of_body Bd
  have e0 : s₁.heap = h0 := by rw [← hh, Bd.state]; rfl
  have N0 := Fr.nil n0
  show own_Ends p.tables e below s (Q9_1_2 Z o0_9_1_2 k_o0_9_1_2 n_o0_9_1_2 vs_o0_9_1_2 dv_o0_9_1_2 r3_o0_9_1_2 h0 n0) 0 0 (s₁.setTop (entryFrame m #[(.ref o0_9_1_2), (.int (1 : Int32)), (.int (2 : Int32))] 3))
  rw [ef_9_1_2 m o0_9_1_2]
  show own_Ends p.tables e below s _ _ _ (s₁.setTop (mkF m 0 #[.val (.ref o0_9_1_2), .val (.int (1 : Int32)), .val (.int (2 : Int32))] []))
  refine own_step (fun t k => XS.iloadN X0.here hx rfl (hb hby d9_0) rfl k) ?_
  show own_Ends p.tables e below s _ _ _ (s₁.setTop (mkF m 1 #[.val (.ref o0_9_1_2), .val (.int (1 : Int32)), .val (.int (2 : Int32))] [(.int (2 : Int32))]))
  refine own_step (fun t k => XS.iloadN X0.here hx rfl (hb hby d9_1) rfl k) ?_
  show own_Ends p.tables e below s _ _ _ (s₁.setTop (mkF m 2 #[.val (.ref o0_9_1_2), .val (.int (1 : Int32)), .val (.int (2 : Int32))] [(.int (1 : Int32)), (.int (2 : Int32))]))
  refine own_step (fun t k => XS.icmpYes X0.here hx rfl (pc0 := 2) (pc' := 11) rfl (hb hby d9_2) rfl (flt (by decide : ¬ ((2 : Int32) < (1 : Int32)))).2.1 (by decide) (by decide) k) ?_
  show own_Ends p.tables e below s _ _ _ (s₁.setTop (mkF m 11 #[.val (.ref o0_9_1_2), .val (.int (1 : Int32)), .val (.int (2 : Int32))] []))
  refine own_step (fun t k => XS.aloadN X0.here hx rfl (hb hby d9_11) rfl rfl k) ?_
  show own_Ends p.tables e below s _ _ _ (s₁.setTop (mkF m 12 #[.val (.ref o0_9_1_2), .val (.int (1 : Int32)), .val (.int (2 : Int32))] [(.ref o0_9_1_2)]))
  refine own_step (fun t k => XS.iloadN X0.here hx rfl (hb hby d9_12) rfl k) ?_
  show own_Ends p.tables e below s _ _ _ (s₁.setTop (mkF m 13 #[.val (.ref o0_9_1_2), .val (.int (1 : Int32)), .val (.int (2 : Int32))] [(.int (2 : Int32)), (.ref o0_9_1_2)]))
  refine own_step (fun t k => XS.iconst X0.here hx rfl (hb hby d9_13) k) ?_
  show own_Ends p.tables e below s _ _ _ (s₁.setTop (mkF m 14 #[.val (.ref o0_9_1_2), .val (.int (1 : Int32)), .val (.int (2 : Int32))] [(.int (1 : Int32)), (.int (2 : Int32)), (.ref o0_9_1_2)]))
  refine own_step (fun t k => XS.iadd X0.here hx rfl (hb hby d9_14) rfl k) ?_
  show own_Ends p.tables e below s _ _ _ (s₁.setTop (mkF m 15 #[.val (.ref o0_9_1_2), .val (.int (1 : Int32)), .val (.int (2 : Int32))] [(.int (3 : Int32)), (.ref o0_9_1_2)]))
  obtain ⟨cl1, Ar1, q1, S1, N1, H1, G1⟩ := id V_o0_9_1_2
  have hin1 : ¬ ((3 : Int32) < 0 ∨ cl1.slots.size ≤ ((3 : Int32)).toNatClampNeg) := inb_of S1 hin3_o0_9_1_2
  have hat1 : cl1.slots[((3 : Int32)).toNatClampNeg]? = some (.ref r3_o0_9_1_2) := H1.at hin1 hat3_o0_9_1_2
  refine own_step (fun t k => X0.aaload hx (j := (3 : Int32)) (v := (.ref r3_o0_9_1_2)) (by rw [e0]; exact Ar1.1) (State.isArrayOf_alike hZ.alike Ar1.2.1) rfl Ar1.2.2 hin1 hat1 (g := (mkF m 15 #[.val (.ref o0_9_1_2), .val (.int (1 : Int32)), .val (.int (2 : Int32))] [(.int (3 : Int32)), (.ref o0_9_1_2)])) rfl rfl (hb hby d9_15) _ k) ?_
  show own_Ends p.tables e below s _ _ _ (s₁.setTop (mkF m 16 #[.val (.ref o0_9_1_2), .val (.int (1 : Int32)), .val (.int (2 : Int32))] [(.ref r3_o0_9_1_2)]))
  exact own_retR X0 hx Bd.returns rfl rfl rfl (hb hby d9_16) hnl (by rw [e0]; exact ⟨rfl, N0, rfl⟩) (by decide) (by decide)
theorem ef_9_2_2 (m : MethodId) (o0_9_2_2 : Addr) : entryFrame m #[(.ref o0_9_2_2), (.int (2 : Int32)), (.int (2 : Int32))] 3 = mkF m 0 #[.val (.ref o0_9_2_2), .val (.int (2 : Int32)), .val (.int (2 : Int32))] [] := by first | (simp [entryFrame, mkF, argsToLocals, Value.category]; done) | rfl
def Q9_2_2 (Z : State) (o0_9_2_2 : Addr) (k_o0_9_2_2 : ClassId) (n_o0_9_2_2 : Int32) (vs_o0_9_2_2 : List Value) (dv_o0_9_2_2 : Value) (r3_o0_9_2_2 : Addr) (h0 : Heap) (n0 : Nat) (v : Option Value) (h : Heap) (L : List Loc) : Prop := v = some (.ref r3_o0_9_2_2) ∧ Fr n0 L ∧ h = h0
set_option maxRecDepth 65536 in
set_option maxHeartbeats 40000000 in
theorem rm9_2_2 (l : Launch) (Z : State) (a0 : Array Value) (hw : ∀ d ∈ tables_1, d.before a0 Z = true) (ws : List Jvm.Cond) (o0_9_2_2 : Addr) (k_o0_9_2_2 : ClassId) (n_o0_9_2_2 : Int32) (vs_o0_9_2_2 : List Value) (dv_o0_9_2_2 : Value) (r3_o0_9_2_2 : Addr) (h0 : Heap) (n0 : Nat) (O0 : Old Z n0 h0) (V_o0_9_2_2 : Arv Z h0 o0_9_2_2 k_o0_9_2_2 (.object "com/example/serigraph/serigraph/view/OrderList$Place") n_o0_9_2_2 vs_o0_9_2_2 dv_o0_9_2_2) (hin3_o0_9_2_2 : ¬ (3 : Int32) < 0 ∧ (3 : Int32) < n_o0_9_2_2) (hat3_o0_9_2_2 : vs_o0_9_2_2.getD 3 dv_o0_9_2_2 = (.ref r3_o0_9_2_2)) :
    MetFree l (⟨"com/example/serigraph/serigraph/view/OrderListRemovePinLaw", "at", "([Lcom/example/serigraph/serigraph/view/OrderList$Place;II)Lcom/example/serigraph/serigraph/view/OrderList$Place;"⟩ : MethodName) (head1 (Jvm.Cond.code (⟨"com/example/serigraph/serigraph/view/OrderListRemovePinLaw", "at", "([Lcom/example/serigraph/serigraph/view/OrderList$Place;II)Lcom/example/serigraph/serigraph/view/OrderList$Place;"⟩ : MethodName) method_2_code 3 (some (.object "com/example/serigraph/serigraph/view/OrderList$Place")) :: ws) ({ frames := 0, cells := 0, slots := 0, locals := 0 } : Room)) (fun a U => a = #[(.ref o0_9_2_2), (.int (2 : Int32)), (.int (2 : Int32))] ∧ Z.Warmed39 U.vm ∧ U.heap = h0) (fun _ _ _ _ _ => True) (fun _ U o U' => ∃ v L, o = .returned v ∧ Q9_2_2 Z o0_9_2_2 k_o0_9_2_2 n_o0_9_2_2 vs_o0_9_2_2 dv_o0_9_2_2 r3_o0_9_2_2 h0 n0 v U'.heap L ∧ FrameEnd U o U' L ({ frames := 0, cells := 0, slots := 0, locals := 0 } : Room).cells ({ frames := 0, cells := 0, slots := 0, locals := 0 } : Room).slots) := by
  refine MetFree.of_bodySF (plainFor_of_name pn_2) hisR ?_
  intro p e s m args below meth c s₁ Bd hml0 hP hK
  obtain ⟨rfl, hZ, hh⟩ := hP
  have hx := Bd.exec
  have hby := Bd.bytes
  have hnl := BodyLoose.notSynchronized Bd
  have hml : c.maxLocals = 3 := hml0
  have hown : s.vm.findClass "com/example/serigraph/serigraph/view/OrderListRemovePinLaw" = some m.cls := findClass_of_methodNamed Bd.named
  have hnm := (name_of_methodNamed Bd.named Bd.method).1
  have X0 : Stand p l e ({ frames := 0, cells := 0, slots := 0, locals := 0 } : Room) s m #[(.ref o0_9_2_2), (.int (2 : Int32)), (.int (2 : Int32))] below meth c s₁ [] 0 0 := Stand.of_body Bd
  have e0 : s₁.heap = h0 := by rw [← hh, Bd.state]; rfl
  have N0 := Fr.nil n0
  show own_Ends p.tables e below s (Q9_2_2 Z o0_9_2_2 k_o0_9_2_2 n_o0_9_2_2 vs_o0_9_2_2 dv_o0_9_2_2 r3_o0_9_2_2 h0 n0) 0 0 (s₁.setTop (entryFrame m #[(.ref o0_9_2_2), (.int (2 : Int32)), (.int (2 : Int32))] 3))
  rw [ef_9_2_2 m o0_9_2_2]
  show own_Ends p.tables e below s _ _ _ (s₁.setTop (mkF m 0 #[.val (.ref o0_9_2_2), .val (.int (2 : Int32)), .val (.int (2 : Int32))] []))
  refine own_step (fun t k => XS.iloadN X0.here hx rfl (hb hby d9_0) rfl k) ?_
  show own_Ends p.tables e below s _ _ _ (s₁.setTop (mkF m 1 #[.val (.ref o0_9_2_2), .val (.int (2 : Int32)), .val (.int (2 : Int32))] [(.int (2 : Int32))]))
  refine own_step (fun t k => XS.iloadN X0.here hx rfl (hb hby d9_1) rfl k) ?_
  show own_Ends p.tables e below s _ _ _ (s₁.setTop (mkF m 2 #[.val (.ref o0_9_2_2), .val (.int (2 : Int32)), .val (.int (2 : Int32))] [(.int (2 : Int32)), (.int (2 : Int32))]))
  refine own_step (fun t k => XS.icmpYes X0.here hx rfl (pc0 := 2) (pc' := 11) rfl (hb hby d9_2) rfl (flt (by decide : ¬ ((2 : Int32) < (2 : Int32)))).2.1 (by decide) (by decide) k) ?_
  show own_Ends p.tables e below s _ _ _ (s₁.setTop (mkF m 11 #[.val (.ref o0_9_2_2), .val (.int (2 : Int32)), .val (.int (2 : Int32))] []))
  refine own_step (fun t k => XS.aloadN X0.here hx rfl (hb hby d9_11) rfl rfl k) ?_
  show own_Ends p.tables e below s _ _ _ (s₁.setTop (mkF m 12 #[.val (.ref o0_9_2_2), .val (.int (2 : Int32)), .val (.int (2 : Int32))] [(.ref o0_9_2_2)]))
  refine own_step (fun t k => XS.iloadN X0.here hx rfl (hb hby d9_12) rfl k) ?_
  show own_Ends p.tables e below s _ _ _ (s₁.setTop (mkF m 13 #[.val (.ref o0_9_2_2), .val (.int (2 : Int32)), .val (.int (2 : Int32))] [(.int (2 : Int32)), (.ref o0_9_2_2)]))
  refine own_step (fun t k => XS.iconst X0.here hx rfl (hb hby d9_13) k) ?_
  show own_Ends p.tables e below s _ _ _ (s₁.setTop (mkF m 14 #[.val (.ref o0_9_2_2), .val (.int (2 : Int32)), .val (.int (2 : Int32))] [(.int (1 : Int32)), (.int (2 : Int32)), (.ref o0_9_2_2)]))
  refine own_step (fun t k => XS.iadd X0.here hx rfl (hb hby d9_14) rfl k) ?_
  show own_Ends p.tables e below s _ _ _ (s₁.setTop (mkF m 15 #[.val (.ref o0_9_2_2), .val (.int (2 : Int32)), .val (.int (2 : Int32))] [(.int (3 : Int32)), (.ref o0_9_2_2)]))
  obtain ⟨cl1, Ar1, q1, S1, N1, H1, G1⟩ := id V_o0_9_2_2
  have hin1 : ¬ ((3 : Int32) < 0 ∨ cl1.slots.size ≤ ((3 : Int32)).toNatClampNeg) := inb_of S1 hin3_o0_9_2_2
  have hat1 : cl1.slots[((3 : Int32)).toNatClampNeg]? = some (.ref r3_o0_9_2_2) := H1.at hin1 hat3_o0_9_2_2
  refine own_step (fun t k => X0.aaload hx (j := (3 : Int32)) (v := (.ref r3_o0_9_2_2)) (by rw [e0]; exact Ar1.1) (State.isArrayOf_alike hZ.alike Ar1.2.1) rfl Ar1.2.2 hin1 hat1 (g := (mkF m 15 #[.val (.ref o0_9_2_2), .val (.int (2 : Int32)), .val (.int (2 : Int32))] [(.int (3 : Int32)), (.ref o0_9_2_2)])) rfl rfl (hb hby d9_15) _ k) ?_
  show own_Ends p.tables e below s _ _ _ (s₁.setTop (mkF m 16 #[.val (.ref o0_9_2_2), .val (.int (2 : Int32)), .val (.int (2 : Int32))] [(.ref r3_o0_9_2_2)]))
  exact own_retR X0 hx Bd.returns rfl rfl rfl (hb hby d9_16) hnl (by rw [e0]; exact ⟨rfl, N0, rfl⟩) (by decide) (by decide)
theorem ef_9_3_0 (m : MethodId) (o0_9_3_0 : Addr) : entryFrame m #[(.ref o0_9_3_0), (.int (3 : Int32)), (.int (0 : Int32))] 3 = mkF m 0 #[.val (.ref o0_9_3_0), .val (.int (3 : Int32)), .val (.int (0 : Int32))] [] := by first | (simp [entryFrame, mkF, argsToLocals, Value.category]; done) | rfl
def Q9_3_0 (Z : State) (o0_9_3_0 : Addr) (k_o0_9_3_0 : ClassId) (n_o0_9_3_0 : Int32) (vs_o0_9_3_0 : List Value) (dv_o0_9_3_0 : Value) (r0_o0_9_3_0 : Addr) (h0 : Heap) (n0 : Nat) (v : Option Value) (h : Heap) (L : List Loc) : Prop := v = some (.ref r0_o0_9_3_0) ∧ Fr n0 L ∧ h = h0
set_option maxRecDepth 65536 in
set_option maxHeartbeats 40000000 in
theorem rm9_3_0 (l : Launch) (Z : State) (a0 : Array Value) (hw : ∀ d ∈ tables_1, d.before a0 Z = true) (ws : List Jvm.Cond) (o0_9_3_0 : Addr) (k_o0_9_3_0 : ClassId) (n_o0_9_3_0 : Int32) (vs_o0_9_3_0 : List Value) (dv_o0_9_3_0 : Value) (r0_o0_9_3_0 : Addr) (h0 : Heap) (n0 : Nat) (O0 : Old Z n0 h0) (V_o0_9_3_0 : Arv Z h0 o0_9_3_0 k_o0_9_3_0 (.object "com/example/serigraph/serigraph/view/OrderList$Place") n_o0_9_3_0 vs_o0_9_3_0 dv_o0_9_3_0) (hin0_o0_9_3_0 : ¬ (0 : Int32) < 0 ∧ (0 : Int32) < n_o0_9_3_0) (hat0_o0_9_3_0 : vs_o0_9_3_0.getD 0 dv_o0_9_3_0 = (.ref r0_o0_9_3_0)) :
    MetFree l (⟨"com/example/serigraph/serigraph/view/OrderListRemovePinLaw", "at", "([Lcom/example/serigraph/serigraph/view/OrderList$Place;II)Lcom/example/serigraph/serigraph/view/OrderList$Place;"⟩ : MethodName) (head1 (Jvm.Cond.code (⟨"com/example/serigraph/serigraph/view/OrderListRemovePinLaw", "at", "([Lcom/example/serigraph/serigraph/view/OrderList$Place;II)Lcom/example/serigraph/serigraph/view/OrderList$Place;"⟩ : MethodName) method_2_code 3 (some (.object "com/example/serigraph/serigraph/view/OrderList$Place")) :: ws) ({ frames := 0, cells := 0, slots := 0, locals := 0 } : Room)) (fun a U => a = #[(.ref o0_9_3_0), (.int (3 : Int32)), (.int (0 : Int32))] ∧ Z.Warmed39 U.vm ∧ U.heap = h0) (fun _ _ _ _ _ => True) (fun _ U o U' => ∃ v L, o = .returned v ∧ Q9_3_0 Z o0_9_3_0 k_o0_9_3_0 n_o0_9_3_0 vs_o0_9_3_0 dv_o0_9_3_0 r0_o0_9_3_0 h0 n0 v U'.heap L ∧ FrameEnd U o U' L ({ frames := 0, cells := 0, slots := 0, locals := 0 } : Room).cells ({ frames := 0, cells := 0, slots := 0, locals := 0 } : Room).slots) := by
  refine MetFree.of_bodySF (plainFor_of_name pn_2) hisR ?_
  intro p e s m args below meth c s₁ Bd hml0 hP hK
  obtain ⟨rfl, hZ, hh⟩ := hP
  have hx := Bd.exec
  have hby := Bd.bytes
  have hnl := BodyLoose.notSynchronized Bd
  have hml : c.maxLocals = 3 := hml0
  have hown : s.vm.findClass "com/example/serigraph/serigraph/view/OrderListRemovePinLaw" = some m.cls := findClass_of_methodNamed Bd.named
  have hnm := (name_of_methodNamed Bd.named Bd.method).1
  have X0 : Stand p l e ({ frames := 0, cells := 0, slots := 0, locals := 0 } : Room) s m #[(.ref o0_9_3_0), (.int (3 : Int32)), (.int (0 : Int32))] below meth c s₁ [] 0 0 := Stand.of_body Bd
  have e0 : s₁.heap = h0 := by rw [← hh, Bd.state]; rfl
  have N0 := Fr.nil n0
  show own_Ends p.tables e below s (Q9_3_0 Z o0_9_3_0 k_o0_9_3_0 n_o0_9_3_0 vs_o0_9_3_0 dv_o0_9_3_0 r0_o0_9_3_0 h0 n0) 0 0 (s₁.setTop (entryFrame m #[(.ref o0_9_3_0), (.int (3 : Int32)), (.int (0 : Int32))] 3))
  rw [ef_9_3_0 m o0_9_3_0]
  show own_Ends p.tables e below s _ _ _ (s₁.setTop (mkF m 0 #[.val (.ref o0_9_3_0), .val (.int (3 : Int32)), .val (.int (0 : Int32))] []))
  refine own_step (fun t k => XS.iloadN X0.here hx rfl (hb hby d9_0) rfl k) ?_
  show own_Ends p.tables e below s _ _ _ (s₁.setTop (mkF m 1 #[.val (.ref o0_9_3_0), .val (.int (3 : Int32)), .val (.int (0 : Int32))] [(.int (0 : Int32))]))
  refine own_step (fun t k => XS.iloadN X0.here hx rfl (hb hby d9_1) rfl k) ?_
  show own_Ends p.tables e below s _ _ _ (s₁.setTop (mkF m 2 #[.val (.ref o0_9_3_0), .val (.int (3 : Int32)), .val (.int (0 : Int32))] [(.int (3 : Int32)), (.int (0 : Int32))]))
  refine own_step (fun t k => XS.icmpNo X0.here hx rfl (hb hby d9_2) rfl (tlt (by decide : (0 : Int32) < (3 : Int32))).2.1 k) ?_
  show own_Ends p.tables e below s _ _ _ (s₁.setTop (mkF m 5 #[.val (.ref o0_9_3_0), .val (.int (3 : Int32)), .val (.int (0 : Int32))] []))
  refine own_step (fun t k => XS.aloadN X0.here hx rfl (hb hby d9_5) rfl rfl k) ?_
  show own_Ends p.tables e below s _ _ _ (s₁.setTop (mkF m 6 #[.val (.ref o0_9_3_0), .val (.int (3 : Int32)), .val (.int (0 : Int32))] [(.ref o0_9_3_0)]))
  refine own_step (fun t k => XS.iloadN X0.here hx rfl (hb hby d9_6) rfl k) ?_
  show own_Ends p.tables e below s _ _ _ (s₁.setTop (mkF m 7 #[.val (.ref o0_9_3_0), .val (.int (3 : Int32)), .val (.int (0 : Int32))] [(.int (0 : Int32)), (.ref o0_9_3_0)]))
  obtain ⟨cl1, Ar1, q1, S1, N1, H1, G1⟩ := id V_o0_9_3_0
  have hin1 : ¬ ((0 : Int32) < 0 ∨ cl1.slots.size ≤ ((0 : Int32)).toNatClampNeg) := inb_of S1 hin0_o0_9_3_0
  have hat1 : cl1.slots[((0 : Int32)).toNatClampNeg]? = some (.ref r0_o0_9_3_0) := H1.at hin1 hat0_o0_9_3_0
  refine own_step (fun t k => X0.aaload hx (j := (0 : Int32)) (v := (.ref r0_o0_9_3_0)) (by rw [e0]; exact Ar1.1) (State.isArrayOf_alike hZ.alike Ar1.2.1) rfl Ar1.2.2 hin1 hat1 (g := (mkF m 7 #[.val (.ref o0_9_3_0), .val (.int (3 : Int32)), .val (.int (0 : Int32))] [(.int (0 : Int32)), (.ref o0_9_3_0)])) rfl rfl (hb hby d9_7) _ k) ?_
  show own_Ends p.tables e below s _ _ _ (s₁.setTop (mkF m 8 #[.val (.ref o0_9_3_0), .val (.int (3 : Int32)), .val (.int (0 : Int32))] [(.ref r0_o0_9_3_0)]))
  refine own_step (fun t k => XS.goto X0.here hx rfl (pc0 := 8) (pc' := 16) rfl (hb hby d9_8) (by decide) (by decide) k) ?_
  show own_Ends p.tables e below s _ _ _ (s₁.setTop (mkF m 16 #[.val (.ref o0_9_3_0), .val (.int (3 : Int32)), .val (.int (0 : Int32))] [(.ref r0_o0_9_3_0)]))
  exact own_retR X0 hx Bd.returns rfl rfl rfl (hb hby d9_16) hnl (by rw [e0]; exact ⟨rfl, N0, rfl⟩) (by decide) (by decide)
theorem ef_9_3_1 (m : MethodId) (o0_9_3_1 : Addr) : entryFrame m #[(.ref o0_9_3_1), (.int (3 : Int32)), (.int (1 : Int32))] 3 = mkF m 0 #[.val (.ref o0_9_3_1), .val (.int (3 : Int32)), .val (.int (1 : Int32))] [] := by first | (simp [entryFrame, mkF, argsToLocals, Value.category]; done) | rfl
def Q9_3_1 (Z : State) (o0_9_3_1 : Addr) (k_o0_9_3_1 : ClassId) (n_o0_9_3_1 : Int32) (vs_o0_9_3_1 : List Value) (dv_o0_9_3_1 : Value) (r1_o0_9_3_1 : Addr) (h0 : Heap) (n0 : Nat) (v : Option Value) (h : Heap) (L : List Loc) : Prop := v = some (.ref r1_o0_9_3_1) ∧ Fr n0 L ∧ h = h0
set_option maxRecDepth 65536 in
set_option maxHeartbeats 40000000 in
theorem rm9_3_1 (l : Launch) (Z : State) (a0 : Array Value) (hw : ∀ d ∈ tables_1, d.before a0 Z = true) (ws : List Jvm.Cond) (o0_9_3_1 : Addr) (k_o0_9_3_1 : ClassId) (n_o0_9_3_1 : Int32) (vs_o0_9_3_1 : List Value) (dv_o0_9_3_1 : Value) (r1_o0_9_3_1 : Addr) (h0 : Heap) (n0 : Nat) (O0 : Old Z n0 h0) (V_o0_9_3_1 : Arv Z h0 o0_9_3_1 k_o0_9_3_1 (.object "com/example/serigraph/serigraph/view/OrderList$Place") n_o0_9_3_1 vs_o0_9_3_1 dv_o0_9_3_1) (hin1_o0_9_3_1 : ¬ (1 : Int32) < 0 ∧ (1 : Int32) < n_o0_9_3_1) (hat1_o0_9_3_1 : vs_o0_9_3_1.getD 1 dv_o0_9_3_1 = (.ref r1_o0_9_3_1)) :
    MetFree l (⟨"com/example/serigraph/serigraph/view/OrderListRemovePinLaw", "at", "([Lcom/example/serigraph/serigraph/view/OrderList$Place;II)Lcom/example/serigraph/serigraph/view/OrderList$Place;"⟩ : MethodName) (head1 (Jvm.Cond.code (⟨"com/example/serigraph/serigraph/view/OrderListRemovePinLaw", "at", "([Lcom/example/serigraph/serigraph/view/OrderList$Place;II)Lcom/example/serigraph/serigraph/view/OrderList$Place;"⟩ : MethodName) method_2_code 3 (some (.object "com/example/serigraph/serigraph/view/OrderList$Place")) :: ws) ({ frames := 0, cells := 0, slots := 0, locals := 0 } : Room)) (fun a U => a = #[(.ref o0_9_3_1), (.int (3 : Int32)), (.int (1 : Int32))] ∧ Z.Warmed39 U.vm ∧ U.heap = h0) (fun _ _ _ _ _ => True) (fun _ U o U' => ∃ v L, o = .returned v ∧ Q9_3_1 Z o0_9_3_1 k_o0_9_3_1 n_o0_9_3_1 vs_o0_9_3_1 dv_o0_9_3_1 r1_o0_9_3_1 h0 n0 v U'.heap L ∧ FrameEnd U o U' L ({ frames := 0, cells := 0, slots := 0, locals := 0 } : Room).cells ({ frames := 0, cells := 0, slots := 0, locals := 0 } : Room).slots) := by
  refine MetFree.of_bodySF (plainFor_of_name pn_2) hisR ?_
  intro p e s m args below meth c s₁ Bd hml0 hP hK
  obtain ⟨rfl, hZ, hh⟩ := hP
  have hx := Bd.exec
  have hby := Bd.bytes
  have hnl := BodyLoose.notSynchronized Bd
  have hml : c.maxLocals = 3 := hml0
  have hown : s.vm.findClass "com/example/serigraph/serigraph/view/OrderListRemovePinLaw" = some m.cls := findClass_of_methodNamed Bd.named
  have hnm := (name_of_methodNamed Bd.named Bd.method).1
  have X0 : Stand p l e ({ frames := 0, cells := 0, slots := 0, locals := 0 } : Room) s m #[(.ref o0_9_3_1), (.int (3 : Int32)), (.int (1 : Int32))] below meth c s₁ [] 0 0 := Stand.of_body Bd
  have e0 : s₁.heap = h0 := by rw [← hh, Bd.state]; rfl
  have N0 := Fr.nil n0
  show own_Ends p.tables e below s (Q9_3_1 Z o0_9_3_1 k_o0_9_3_1 n_o0_9_3_1 vs_o0_9_3_1 dv_o0_9_3_1 r1_o0_9_3_1 h0 n0) 0 0 (s₁.setTop (entryFrame m #[(.ref o0_9_3_1), (.int (3 : Int32)), (.int (1 : Int32))] 3))
  rw [ef_9_3_1 m o0_9_3_1]
  show own_Ends p.tables e below s _ _ _ (s₁.setTop (mkF m 0 #[.val (.ref o0_9_3_1), .val (.int (3 : Int32)), .val (.int (1 : Int32))] []))
  refine own_step (fun t k => XS.iloadN X0.here hx rfl (hb hby d9_0) rfl k) ?_
  show own_Ends p.tables e below s _ _ _ (s₁.setTop (mkF m 1 #[.val (.ref o0_9_3_1), .val (.int (3 : Int32)), .val (.int (1 : Int32))] [(.int (1 : Int32))]))
  refine own_step (fun t k => XS.iloadN X0.here hx rfl (hb hby d9_1) rfl k) ?_
  show own_Ends p.tables e below s _ _ _ (s₁.setTop (mkF m 2 #[.val (.ref o0_9_3_1), .val (.int (3 : Int32)), .val (.int (1 : Int32))] [(.int (3 : Int32)), (.int (1 : Int32))]))
  refine own_step (fun t k => XS.icmpNo X0.here hx rfl (hb hby d9_2) rfl (tlt (by decide : (1 : Int32) < (3 : Int32))).2.1 k) ?_
  show own_Ends p.tables e below s _ _ _ (s₁.setTop (mkF m 5 #[.val (.ref o0_9_3_1), .val (.int (3 : Int32)), .val (.int (1 : Int32))] []))
  refine own_step (fun t k => XS.aloadN X0.here hx rfl (hb hby d9_5) rfl rfl k) ?_
  show own_Ends p.tables e below s _ _ _ (s₁.setTop (mkF m 6 #[.val (.ref o0_9_3_1), .val (.int (3 : Int32)), .val (.int (1 : Int32))] [(.ref o0_9_3_1)]))
  refine own_step (fun t k => XS.iloadN X0.here hx rfl (hb hby d9_6) rfl k) ?_
  show own_Ends p.tables e below s _ _ _ (s₁.setTop (mkF m 7 #[.val (.ref o0_9_3_1), .val (.int (3 : Int32)), .val (.int (1 : Int32))] [(.int (1 : Int32)), (.ref o0_9_3_1)]))
  obtain ⟨cl1, Ar1, q1, S1, N1, H1, G1⟩ := id V_o0_9_3_1
  have hin1 : ¬ ((1 : Int32) < 0 ∨ cl1.slots.size ≤ ((1 : Int32)).toNatClampNeg) := inb_of S1 hin1_o0_9_3_1
  have hat1 : cl1.slots[((1 : Int32)).toNatClampNeg]? = some (.ref r1_o0_9_3_1) := H1.at hin1 hat1_o0_9_3_1
  refine own_step (fun t k => X0.aaload hx (j := (1 : Int32)) (v := (.ref r1_o0_9_3_1)) (by rw [e0]; exact Ar1.1) (State.isArrayOf_alike hZ.alike Ar1.2.1) rfl Ar1.2.2 hin1 hat1 (g := (mkF m 7 #[.val (.ref o0_9_3_1), .val (.int (3 : Int32)), .val (.int (1 : Int32))] [(.int (1 : Int32)), (.ref o0_9_3_1)])) rfl rfl (hb hby d9_7) _ k) ?_
  show own_Ends p.tables e below s _ _ _ (s₁.setTop (mkF m 8 #[.val (.ref o0_9_3_1), .val (.int (3 : Int32)), .val (.int (1 : Int32))] [(.ref r1_o0_9_3_1)]))
  refine own_step (fun t k => XS.goto X0.here hx rfl (pc0 := 8) (pc' := 16) rfl (hb hby d9_8) (by decide) (by decide) k) ?_
  show own_Ends p.tables e below s _ _ _ (s₁.setTop (mkF m 16 #[.val (.ref o0_9_3_1), .val (.int (3 : Int32)), .val (.int (1 : Int32))] [(.ref r1_o0_9_3_1)]))
  exact own_retR X0 hx Bd.returns rfl rfl rfl (hb hby d9_16) hnl (by rw [e0]; exact ⟨rfl, N0, rfl⟩) (by decide) (by decide)
theorem ef_9_3_2 (m : MethodId) (o0_9_3_2 : Addr) : entryFrame m #[(.ref o0_9_3_2), (.int (3 : Int32)), (.int (2 : Int32))] 3 = mkF m 0 #[.val (.ref o0_9_3_2), .val (.int (3 : Int32)), .val (.int (2 : Int32))] [] := by first | (simp [entryFrame, mkF, argsToLocals, Value.category]; done) | rfl
def Q9_3_2 (Z : State) (o0_9_3_2 : Addr) (k_o0_9_3_2 : ClassId) (n_o0_9_3_2 : Int32) (vs_o0_9_3_2 : List Value) (dv_o0_9_3_2 : Value) (r2_o0_9_3_2 : Addr) (h0 : Heap) (n0 : Nat) (v : Option Value) (h : Heap) (L : List Loc) : Prop := v = some (.ref r2_o0_9_3_2) ∧ Fr n0 L ∧ h = h0
set_option maxRecDepth 65536 in
set_option maxHeartbeats 40000000 in
theorem rm9_3_2 (l : Launch) (Z : State) (a0 : Array Value) (hw : ∀ d ∈ tables_1, d.before a0 Z = true) (ws : List Jvm.Cond) (o0_9_3_2 : Addr) (k_o0_9_3_2 : ClassId) (n_o0_9_3_2 : Int32) (vs_o0_9_3_2 : List Value) (dv_o0_9_3_2 : Value) (r2_o0_9_3_2 : Addr) (h0 : Heap) (n0 : Nat) (O0 : Old Z n0 h0) (V_o0_9_3_2 : Arv Z h0 o0_9_3_2 k_o0_9_3_2 (.object "com/example/serigraph/serigraph/view/OrderList$Place") n_o0_9_3_2 vs_o0_9_3_2 dv_o0_9_3_2) (hin2_o0_9_3_2 : ¬ (2 : Int32) < 0 ∧ (2 : Int32) < n_o0_9_3_2) (hat2_o0_9_3_2 : vs_o0_9_3_2.getD 2 dv_o0_9_3_2 = (.ref r2_o0_9_3_2)) :
    MetFree l (⟨"com/example/serigraph/serigraph/view/OrderListRemovePinLaw", "at", "([Lcom/example/serigraph/serigraph/view/OrderList$Place;II)Lcom/example/serigraph/serigraph/view/OrderList$Place;"⟩ : MethodName) (head1 (Jvm.Cond.code (⟨"com/example/serigraph/serigraph/view/OrderListRemovePinLaw", "at", "([Lcom/example/serigraph/serigraph/view/OrderList$Place;II)Lcom/example/serigraph/serigraph/view/OrderList$Place;"⟩ : MethodName) method_2_code 3 (some (.object "com/example/serigraph/serigraph/view/OrderList$Place")) :: ws) ({ frames := 0, cells := 0, slots := 0, locals := 0 } : Room)) (fun a U => a = #[(.ref o0_9_3_2), (.int (3 : Int32)), (.int (2 : Int32))] ∧ Z.Warmed39 U.vm ∧ U.heap = h0) (fun _ _ _ _ _ => True) (fun _ U o U' => ∃ v L, o = .returned v ∧ Q9_3_2 Z o0_9_3_2 k_o0_9_3_2 n_o0_9_3_2 vs_o0_9_3_2 dv_o0_9_3_2 r2_o0_9_3_2 h0 n0 v U'.heap L ∧ FrameEnd U o U' L ({ frames := 0, cells := 0, slots := 0, locals := 0 } : Room).cells ({ frames := 0, cells := 0, slots := 0, locals := 0 } : Room).slots) := by
  refine MetFree.of_bodySF (plainFor_of_name pn_2) hisR ?_
  intro p e s m args below meth c s₁ Bd hml0 hP hK
  obtain ⟨rfl, hZ, hh⟩ := hP
  have hx := Bd.exec
  have hby := Bd.bytes
  have hnl := BodyLoose.notSynchronized Bd
  have hml : c.maxLocals = 3 := hml0
  have hown : s.vm.findClass "com/example/serigraph/serigraph/view/OrderListRemovePinLaw" = some m.cls := findClass_of_methodNamed Bd.named
  have hnm := (name_of_methodNamed Bd.named Bd.method).1
  have X0 : Stand p l e ({ frames := 0, cells := 0, slots := 0, locals := 0 } : Room) s m #[(.ref o0_9_3_2), (.int (3 : Int32)), (.int (2 : Int32))] below meth c s₁ [] 0 0 := Stand.of_body Bd
  have e0 : s₁.heap = h0 := by rw [← hh, Bd.state]; rfl
  have N0 := Fr.nil n0
  show own_Ends p.tables e below s (Q9_3_2 Z o0_9_3_2 k_o0_9_3_2 n_o0_9_3_2 vs_o0_9_3_2 dv_o0_9_3_2 r2_o0_9_3_2 h0 n0) 0 0 (s₁.setTop (entryFrame m #[(.ref o0_9_3_2), (.int (3 : Int32)), (.int (2 : Int32))] 3))
  rw [ef_9_3_2 m o0_9_3_2]
  show own_Ends p.tables e below s _ _ _ (s₁.setTop (mkF m 0 #[.val (.ref o0_9_3_2), .val (.int (3 : Int32)), .val (.int (2 : Int32))] []))
  refine own_step (fun t k => XS.iloadN X0.here hx rfl (hb hby d9_0) rfl k) ?_
  show own_Ends p.tables e below s _ _ _ (s₁.setTop (mkF m 1 #[.val (.ref o0_9_3_2), .val (.int (3 : Int32)), .val (.int (2 : Int32))] [(.int (2 : Int32))]))
  refine own_step (fun t k => XS.iloadN X0.here hx rfl (hb hby d9_1) rfl k) ?_
  show own_Ends p.tables e below s _ _ _ (s₁.setTop (mkF m 2 #[.val (.ref o0_9_3_2), .val (.int (3 : Int32)), .val (.int (2 : Int32))] [(.int (3 : Int32)), (.int (2 : Int32))]))
  refine own_step (fun t k => XS.icmpNo X0.here hx rfl (hb hby d9_2) rfl (tlt (by decide : (2 : Int32) < (3 : Int32))).2.1 k) ?_
  show own_Ends p.tables e below s _ _ _ (s₁.setTop (mkF m 5 #[.val (.ref o0_9_3_2), .val (.int (3 : Int32)), .val (.int (2 : Int32))] []))
  refine own_step (fun t k => XS.aloadN X0.here hx rfl (hb hby d9_5) rfl rfl k) ?_
  show own_Ends p.tables e below s _ _ _ (s₁.setTop (mkF m 6 #[.val (.ref o0_9_3_2), .val (.int (3 : Int32)), .val (.int (2 : Int32))] [(.ref o0_9_3_2)]))
  refine own_step (fun t k => XS.iloadN X0.here hx rfl (hb hby d9_6) rfl k) ?_
  show own_Ends p.tables e below s _ _ _ (s₁.setTop (mkF m 7 #[.val (.ref o0_9_3_2), .val (.int (3 : Int32)), .val (.int (2 : Int32))] [(.int (2 : Int32)), (.ref o0_9_3_2)]))
  obtain ⟨cl1, Ar1, q1, S1, N1, H1, G1⟩ := id V_o0_9_3_2
  have hin1 : ¬ ((2 : Int32) < 0 ∨ cl1.slots.size ≤ ((2 : Int32)).toNatClampNeg) := inb_of S1 hin2_o0_9_3_2
  have hat1 : cl1.slots[((2 : Int32)).toNatClampNeg]? = some (.ref r2_o0_9_3_2) := H1.at hin1 hat2_o0_9_3_2
  refine own_step (fun t k => X0.aaload hx (j := (2 : Int32)) (v := (.ref r2_o0_9_3_2)) (by rw [e0]; exact Ar1.1) (State.isArrayOf_alike hZ.alike Ar1.2.1) rfl Ar1.2.2 hin1 hat1 (g := (mkF m 7 #[.val (.ref o0_9_3_2), .val (.int (3 : Int32)), .val (.int (2 : Int32))] [(.int (2 : Int32)), (.ref o0_9_3_2)])) rfl rfl (hb hby d9_7) _ k) ?_
  show own_Ends p.tables e below s _ _ _ (s₁.setTop (mkF m 8 #[.val (.ref o0_9_3_2), .val (.int (3 : Int32)), .val (.int (2 : Int32))] [(.ref r2_o0_9_3_2)]))
  refine own_step (fun t k => XS.goto X0.here hx rfl (pc0 := 8) (pc' := 16) rfl (hb hby d9_8) (by decide) (by decide) k) ?_
  show own_Ends p.tables e below s _ _ _ (s₁.setTop (mkF m 16 #[.val (.ref o0_9_3_2), .val (.int (3 : Int32)), .val (.int (2 : Int32))] [(.ref r2_o0_9_3_2)]))
  exact own_retR X0 hx Bd.returns rfl rfl rfl (hb hby d9_16) hnl (by rw [e0]; exact ⟨rfl, N0, rfl⟩) (by decide) (by decide)
theorem ef_9_3_3 (m : MethodId) (o0_9_3_3 : Addr) : entryFrame m #[(.ref o0_9_3_3), (.int (3 : Int32)), (.int (3 : Int32))] 3 = mkF m 0 #[.val (.ref o0_9_3_3), .val (.int (3 : Int32)), .val (.int (3 : Int32))] [] := by first | (simp [entryFrame, mkF, argsToLocals, Value.category]; done) | rfl
def Q9_3_3 (Z : State) (o0_9_3_3 : Addr) (k_o0_9_3_3 : ClassId) (n_o0_9_3_3 : Int32) (vs_o0_9_3_3 : List Value) (dv_o0_9_3_3 : Value) (r4_o0_9_3_3 : Addr) (h0 : Heap) (n0 : Nat) (v : Option Value) (h : Heap) (L : List Loc) : Prop := v = some (.ref r4_o0_9_3_3) ∧ Fr n0 L ∧ h = h0
set_option maxRecDepth 65536 in
set_option maxHeartbeats 40000000 in
theorem rm9_3_3 (l : Launch) (Z : State) (a0 : Array Value) (hw : ∀ d ∈ tables_1, d.before a0 Z = true) (ws : List Jvm.Cond) (o0_9_3_3 : Addr) (k_o0_9_3_3 : ClassId) (n_o0_9_3_3 : Int32) (vs_o0_9_3_3 : List Value) (dv_o0_9_3_3 : Value) (r4_o0_9_3_3 : Addr) (h0 : Heap) (n0 : Nat) (O0 : Old Z n0 h0) (V_o0_9_3_3 : Arv Z h0 o0_9_3_3 k_o0_9_3_3 (.object "com/example/serigraph/serigraph/view/OrderList$Place") n_o0_9_3_3 vs_o0_9_3_3 dv_o0_9_3_3) (hin4_o0_9_3_3 : ¬ (4 : Int32) < 0 ∧ (4 : Int32) < n_o0_9_3_3) (hat4_o0_9_3_3 : vs_o0_9_3_3.getD 4 dv_o0_9_3_3 = (.ref r4_o0_9_3_3)) :
    MetFree l (⟨"com/example/serigraph/serigraph/view/OrderListRemovePinLaw", "at", "([Lcom/example/serigraph/serigraph/view/OrderList$Place;II)Lcom/example/serigraph/serigraph/view/OrderList$Place;"⟩ : MethodName) (head1 (Jvm.Cond.code (⟨"com/example/serigraph/serigraph/view/OrderListRemovePinLaw", "at", "([Lcom/example/serigraph/serigraph/view/OrderList$Place;II)Lcom/example/serigraph/serigraph/view/OrderList$Place;"⟩ : MethodName) method_2_code 3 (some (.object "com/example/serigraph/serigraph/view/OrderList$Place")) :: ws) ({ frames := 0, cells := 0, slots := 0, locals := 0 } : Room)) (fun a U => a = #[(.ref o0_9_3_3), (.int (3 : Int32)), (.int (3 : Int32))] ∧ Z.Warmed39 U.vm ∧ U.heap = h0) (fun _ _ _ _ _ => True) (fun _ U o U' => ∃ v L, o = .returned v ∧ Q9_3_3 Z o0_9_3_3 k_o0_9_3_3 n_o0_9_3_3 vs_o0_9_3_3 dv_o0_9_3_3 r4_o0_9_3_3 h0 n0 v U'.heap L ∧ FrameEnd U o U' L ({ frames := 0, cells := 0, slots := 0, locals := 0 } : Room).cells ({ frames := 0, cells := 0, slots := 0, locals := 0 } : Room).slots) := by
  refine MetFree.of_bodySF (plainFor_of_name pn_2) hisR ?_
  intro p e s m args below meth c s₁ Bd hml0 hP hK
  obtain ⟨rfl, hZ, hh⟩ := hP
  have hx := Bd.exec
  have hby := Bd.bytes
  have hnl := BodyLoose.notSynchronized Bd
  have hml : c.maxLocals = 3 := hml0
  have hown : s.vm.findClass "com/example/serigraph/serigraph/view/OrderListRemovePinLaw" = some m.cls := findClass_of_methodNamed Bd.named
  have hnm := (name_of_methodNamed Bd.named Bd.method).1
  have X0 : Stand p l e ({ frames := 0, cells := 0, slots := 0, locals := 0 } : Room) s m #[(.ref o0_9_3_3), (.int (3 : Int32)), (.int (3 : Int32))] below meth c s₁ [] 0 0 := Stand.of_body Bd
  have e0 : s₁.heap = h0 := by rw [← hh, Bd.state]; rfl
  have N0 := Fr.nil n0
  show own_Ends p.tables e below s (Q9_3_3 Z o0_9_3_3 k_o0_9_3_3 n_o0_9_3_3 vs_o0_9_3_3 dv_o0_9_3_3 r4_o0_9_3_3 h0 n0) 0 0 (s₁.setTop (entryFrame m #[(.ref o0_9_3_3), (.int (3 : Int32)), (.int (3 : Int32))] 3))
  rw [ef_9_3_3 m o0_9_3_3]
  show own_Ends p.tables e below s _ _ _ (s₁.setTop (mkF m 0 #[.val (.ref o0_9_3_3), .val (.int (3 : Int32)), .val (.int (3 : Int32))] []))
  refine own_step (fun t k => XS.iloadN X0.here hx rfl (hb hby d9_0) rfl k) ?_
  show own_Ends p.tables e below s _ _ _ (s₁.setTop (mkF m 1 #[.val (.ref o0_9_3_3), .val (.int (3 : Int32)), .val (.int (3 : Int32))] [(.int (3 : Int32))]))
  refine own_step (fun t k => XS.iloadN X0.here hx rfl (hb hby d9_1) rfl k) ?_
  show own_Ends p.tables e below s _ _ _ (s₁.setTop (mkF m 2 #[.val (.ref o0_9_3_3), .val (.int (3 : Int32)), .val (.int (3 : Int32))] [(.int (3 : Int32)), (.int (3 : Int32))]))
  refine own_step (fun t k => XS.icmpYes X0.here hx rfl (pc0 := 2) (pc' := 11) rfl (hb hby d9_2) rfl (flt (by decide : ¬ ((3 : Int32) < (3 : Int32)))).2.1 (by decide) (by decide) k) ?_
  show own_Ends p.tables e below s _ _ _ (s₁.setTop (mkF m 11 #[.val (.ref o0_9_3_3), .val (.int (3 : Int32)), .val (.int (3 : Int32))] []))
  refine own_step (fun t k => XS.aloadN X0.here hx rfl (hb hby d9_11) rfl rfl k) ?_
  show own_Ends p.tables e below s _ _ _ (s₁.setTop (mkF m 12 #[.val (.ref o0_9_3_3), .val (.int (3 : Int32)), .val (.int (3 : Int32))] [(.ref o0_9_3_3)]))
  refine own_step (fun t k => XS.iloadN X0.here hx rfl (hb hby d9_12) rfl k) ?_
  show own_Ends p.tables e below s _ _ _ (s₁.setTop (mkF m 13 #[.val (.ref o0_9_3_3), .val (.int (3 : Int32)), .val (.int (3 : Int32))] [(.int (3 : Int32)), (.ref o0_9_3_3)]))
  refine own_step (fun t k => XS.iconst X0.here hx rfl (hb hby d9_13) k) ?_
  show own_Ends p.tables e below s _ _ _ (s₁.setTop (mkF m 14 #[.val (.ref o0_9_3_3), .val (.int (3 : Int32)), .val (.int (3 : Int32))] [(.int (1 : Int32)), (.int (3 : Int32)), (.ref o0_9_3_3)]))
  refine own_step (fun t k => XS.iadd X0.here hx rfl (hb hby d9_14) rfl k) ?_
  show own_Ends p.tables e below s _ _ _ (s₁.setTop (mkF m 15 #[.val (.ref o0_9_3_3), .val (.int (3 : Int32)), .val (.int (3 : Int32))] [(.int (4 : Int32)), (.ref o0_9_3_3)]))
  obtain ⟨cl1, Ar1, q1, S1, N1, H1, G1⟩ := id V_o0_9_3_3
  have hin1 : ¬ ((4 : Int32) < 0 ∨ cl1.slots.size ≤ ((4 : Int32)).toNatClampNeg) := inb_of S1 hin4_o0_9_3_3
  have hat1 : cl1.slots[((4 : Int32)).toNatClampNeg]? = some (.ref r4_o0_9_3_3) := H1.at hin1 hat4_o0_9_3_3
  refine own_step (fun t k => X0.aaload hx (j := (4 : Int32)) (v := (.ref r4_o0_9_3_3)) (by rw [e0]; exact Ar1.1) (State.isArrayOf_alike hZ.alike Ar1.2.1) rfl Ar1.2.2 hin1 hat1 (g := (mkF m 15 #[.val (.ref o0_9_3_3), .val (.int (3 : Int32)), .val (.int (3 : Int32))] [(.int (4 : Int32)), (.ref o0_9_3_3)])) rfl rfl (hb hby d9_15) _ k) ?_
  show own_Ends p.tables e below s _ _ _ (s₁.setTop (mkF m 16 #[.val (.ref o0_9_3_3), .val (.int (3 : Int32)), .val (.int (3 : Int32))] [(.ref r4_o0_9_3_3)]))
  exact own_retR X0 hx Bd.returns rfl rfl rfl (hb hby d9_16) hnl (by rw [e0]; exact ⟨rfl, N0, rfl⟩) (by decide) (by decide)
theorem ef_9_1_3 (m : MethodId) (o0_9_1_3 : Addr) : entryFrame m #[(.ref o0_9_1_3), (.int (1 : Int32)), (.int (3 : Int32))] 3 = mkF m 0 #[.val (.ref o0_9_1_3), .val (.int (1 : Int32)), .val (.int (3 : Int32))] [] := by first | (simp [entryFrame, mkF, argsToLocals, Value.category]; done) | rfl
def Q9_1_3 (Z : State) (o0_9_1_3 : Addr) (k_o0_9_1_3 : ClassId) (n_o0_9_1_3 : Int32) (vs_o0_9_1_3 : List Value) (dv_o0_9_1_3 : Value) (r4_o0_9_1_3 : Addr) (h0 : Heap) (n0 : Nat) (v : Option Value) (h : Heap) (L : List Loc) : Prop := v = some (.ref r4_o0_9_1_3) ∧ Fr n0 L ∧ h = h0
set_option maxRecDepth 65536 in
set_option maxHeartbeats 40000000 in
theorem rm9_1_3 (l : Launch) (Z : State) (a0 : Array Value) (hw : ∀ d ∈ tables_1, d.before a0 Z = true) (ws : List Jvm.Cond) (o0_9_1_3 : Addr) (k_o0_9_1_3 : ClassId) (n_o0_9_1_3 : Int32) (vs_o0_9_1_3 : List Value) (dv_o0_9_1_3 : Value) (r4_o0_9_1_3 : Addr) (h0 : Heap) (n0 : Nat) (O0 : Old Z n0 h0) (V_o0_9_1_3 : Arv Z h0 o0_9_1_3 k_o0_9_1_3 (.object "com/example/serigraph/serigraph/view/OrderList$Place") n_o0_9_1_3 vs_o0_9_1_3 dv_o0_9_1_3) (hin4_o0_9_1_3 : ¬ (4 : Int32) < 0 ∧ (4 : Int32) < n_o0_9_1_3) (hat4_o0_9_1_3 : vs_o0_9_1_3.getD 4 dv_o0_9_1_3 = (.ref r4_o0_9_1_3)) :
    MetFree l (⟨"com/example/serigraph/serigraph/view/OrderListRemovePinLaw", "at", "([Lcom/example/serigraph/serigraph/view/OrderList$Place;II)Lcom/example/serigraph/serigraph/view/OrderList$Place;"⟩ : MethodName) (head1 (Jvm.Cond.code (⟨"com/example/serigraph/serigraph/view/OrderListRemovePinLaw", "at", "([Lcom/example/serigraph/serigraph/view/OrderList$Place;II)Lcom/example/serigraph/serigraph/view/OrderList$Place;"⟩ : MethodName) method_2_code 3 (some (.object "com/example/serigraph/serigraph/view/OrderList$Place")) :: ws) ({ frames := 0, cells := 0, slots := 0, locals := 0 } : Room)) (fun a U => a = #[(.ref o0_9_1_3), (.int (1 : Int32)), (.int (3 : Int32))] ∧ Z.Warmed39 U.vm ∧ U.heap = h0) (fun _ _ _ _ _ => True) (fun _ U o U' => ∃ v L, o = .returned v ∧ Q9_1_3 Z o0_9_1_3 k_o0_9_1_3 n_o0_9_1_3 vs_o0_9_1_3 dv_o0_9_1_3 r4_o0_9_1_3 h0 n0 v U'.heap L ∧ FrameEnd U o U' L ({ frames := 0, cells := 0, slots := 0, locals := 0 } : Room).cells ({ frames := 0, cells := 0, slots := 0, locals := 0 } : Room).slots) := by
  refine MetFree.of_bodySF (plainFor_of_name pn_2) hisR ?_
  intro p e s m args below meth c s₁ Bd hml0 hP hK
  obtain ⟨rfl, hZ, hh⟩ := hP
  have hx := Bd.exec
  have hby := Bd.bytes
  have hnl := BodyLoose.notSynchronized Bd
  have hml : c.maxLocals = 3 := hml0
  have hown : s.vm.findClass "com/example/serigraph/serigraph/view/OrderListRemovePinLaw" = some m.cls := findClass_of_methodNamed Bd.named
  have hnm := (name_of_methodNamed Bd.named Bd.method).1
  have X0 : Stand p l e ({ frames := 0, cells := 0, slots := 0, locals := 0 } : Room) s m #[(.ref o0_9_1_3), (.int (1 : Int32)), (.int (3 : Int32))] below meth c s₁ [] 0 0 := Stand.of_body Bd
  have e0 : s₁.heap = h0 := by rw [← hh, Bd.state]; rfl
  have N0 := Fr.nil n0
  show own_Ends p.tables e below s (Q9_1_3 Z o0_9_1_3 k_o0_9_1_3 n_o0_9_1_3 vs_o0_9_1_3 dv_o0_9_1_3 r4_o0_9_1_3 h0 n0) 0 0 (s₁.setTop (entryFrame m #[(.ref o0_9_1_3), (.int (1 : Int32)), (.int (3 : Int32))] 3))
  rw [ef_9_1_3 m o0_9_1_3]
  show own_Ends p.tables e below s _ _ _ (s₁.setTop (mkF m 0 #[.val (.ref o0_9_1_3), .val (.int (1 : Int32)), .val (.int (3 : Int32))] []))
  refine own_step (fun t k => XS.iloadN X0.here hx rfl (hb hby d9_0) rfl k) ?_
  show own_Ends p.tables e below s _ _ _ (s₁.setTop (mkF m 1 #[.val (.ref o0_9_1_3), .val (.int (1 : Int32)), .val (.int (3 : Int32))] [(.int (3 : Int32))]))
  refine own_step (fun t k => XS.iloadN X0.here hx rfl (hb hby d9_1) rfl k) ?_
  show own_Ends p.tables e below s _ _ _ (s₁.setTop (mkF m 2 #[.val (.ref o0_9_1_3), .val (.int (1 : Int32)), .val (.int (3 : Int32))] [(.int (1 : Int32)), (.int (3 : Int32))]))
  refine own_step (fun t k => XS.icmpYes X0.here hx rfl (pc0 := 2) (pc' := 11) rfl (hb hby d9_2) rfl (flt (by decide : ¬ ((3 : Int32) < (1 : Int32)))).2.1 (by decide) (by decide) k) ?_
  show own_Ends p.tables e below s _ _ _ (s₁.setTop (mkF m 11 #[.val (.ref o0_9_1_3), .val (.int (1 : Int32)), .val (.int (3 : Int32))] []))
  refine own_step (fun t k => XS.aloadN X0.here hx rfl (hb hby d9_11) rfl rfl k) ?_
  show own_Ends p.tables e below s _ _ _ (s₁.setTop (mkF m 12 #[.val (.ref o0_9_1_3), .val (.int (1 : Int32)), .val (.int (3 : Int32))] [(.ref o0_9_1_3)]))
  refine own_step (fun t k => XS.iloadN X0.here hx rfl (hb hby d9_12) rfl k) ?_
  show own_Ends p.tables e below s _ _ _ (s₁.setTop (mkF m 13 #[.val (.ref o0_9_1_3), .val (.int (1 : Int32)), .val (.int (3 : Int32))] [(.int (3 : Int32)), (.ref o0_9_1_3)]))
  refine own_step (fun t k => XS.iconst X0.here hx rfl (hb hby d9_13) k) ?_
  show own_Ends p.tables e below s _ _ _ (s₁.setTop (mkF m 14 #[.val (.ref o0_9_1_3), .val (.int (1 : Int32)), .val (.int (3 : Int32))] [(.int (1 : Int32)), (.int (3 : Int32)), (.ref o0_9_1_3)]))
  refine own_step (fun t k => XS.iadd X0.here hx rfl (hb hby d9_14) rfl k) ?_
  show own_Ends p.tables e below s _ _ _ (s₁.setTop (mkF m 15 #[.val (.ref o0_9_1_3), .val (.int (1 : Int32)), .val (.int (3 : Int32))] [(.int (4 : Int32)), (.ref o0_9_1_3)]))
  obtain ⟨cl1, Ar1, q1, S1, N1, H1, G1⟩ := id V_o0_9_1_3
  have hin1 : ¬ ((4 : Int32) < 0 ∨ cl1.slots.size ≤ ((4 : Int32)).toNatClampNeg) := inb_of S1 hin4_o0_9_1_3
  have hat1 : cl1.slots[((4 : Int32)).toNatClampNeg]? = some (.ref r4_o0_9_1_3) := H1.at hin1 hat4_o0_9_1_3
  refine own_step (fun t k => X0.aaload hx (j := (4 : Int32)) (v := (.ref r4_o0_9_1_3)) (by rw [e0]; exact Ar1.1) (State.isArrayOf_alike hZ.alike Ar1.2.1) rfl Ar1.2.2 hin1 hat1 (g := (mkF m 15 #[.val (.ref o0_9_1_3), .val (.int (1 : Int32)), .val (.int (3 : Int32))] [(.int (4 : Int32)), (.ref o0_9_1_3)])) rfl rfl (hb hby d9_15) _ k) ?_
  show own_Ends p.tables e below s _ _ _ (s₁.setTop (mkF m 16 #[.val (.ref o0_9_1_3), .val (.int (1 : Int32)), .val (.int (3 : Int32))] [(.ref r4_o0_9_1_3)]))
  exact own_retR X0 hx Bd.returns rfl rfl rfl (hb hby d9_16) hnl (by rw [e0]; exact ⟨rfl, N0, rfl⟩) (by decide) (by decide)
theorem ef_9_2_3 (m : MethodId) (o0_9_2_3 : Addr) : entryFrame m #[(.ref o0_9_2_3), (.int (2 : Int32)), (.int (3 : Int32))] 3 = mkF m 0 #[.val (.ref o0_9_2_3), .val (.int (2 : Int32)), .val (.int (3 : Int32))] [] := by first | (simp [entryFrame, mkF, argsToLocals, Value.category]; done) | rfl
def Q9_2_3 (Z : State) (o0_9_2_3 : Addr) (k_o0_9_2_3 : ClassId) (n_o0_9_2_3 : Int32) (vs_o0_9_2_3 : List Value) (dv_o0_9_2_3 : Value) (r4_o0_9_2_3 : Addr) (h0 : Heap) (n0 : Nat) (v : Option Value) (h : Heap) (L : List Loc) : Prop := v = some (.ref r4_o0_9_2_3) ∧ Fr n0 L ∧ h = h0
set_option maxRecDepth 65536 in
set_option maxHeartbeats 40000000 in
theorem rm9_2_3 (l : Launch) (Z : State) (a0 : Array Value) (hw : ∀ d ∈ tables_1, d.before a0 Z = true) (ws : List Jvm.Cond) (o0_9_2_3 : Addr) (k_o0_9_2_3 : ClassId) (n_o0_9_2_3 : Int32) (vs_o0_9_2_3 : List Value) (dv_o0_9_2_3 : Value) (r4_o0_9_2_3 : Addr) (h0 : Heap) (n0 : Nat) (O0 : Old Z n0 h0) (V_o0_9_2_3 : Arv Z h0 o0_9_2_3 k_o0_9_2_3 (.object "com/example/serigraph/serigraph/view/OrderList$Place") n_o0_9_2_3 vs_o0_9_2_3 dv_o0_9_2_3) (hin4_o0_9_2_3 : ¬ (4 : Int32) < 0 ∧ (4 : Int32) < n_o0_9_2_3) (hat4_o0_9_2_3 : vs_o0_9_2_3.getD 4 dv_o0_9_2_3 = (.ref r4_o0_9_2_3)) :
    MetFree l (⟨"com/example/serigraph/serigraph/view/OrderListRemovePinLaw", "at", "([Lcom/example/serigraph/serigraph/view/OrderList$Place;II)Lcom/example/serigraph/serigraph/view/OrderList$Place;"⟩ : MethodName) (head1 (Jvm.Cond.code (⟨"com/example/serigraph/serigraph/view/OrderListRemovePinLaw", "at", "([Lcom/example/serigraph/serigraph/view/OrderList$Place;II)Lcom/example/serigraph/serigraph/view/OrderList$Place;"⟩ : MethodName) method_2_code 3 (some (.object "com/example/serigraph/serigraph/view/OrderList$Place")) :: ws) ({ frames := 0, cells := 0, slots := 0, locals := 0 } : Room)) (fun a U => a = #[(.ref o0_9_2_3), (.int (2 : Int32)), (.int (3 : Int32))] ∧ Z.Warmed39 U.vm ∧ U.heap = h0) (fun _ _ _ _ _ => True) (fun _ U o U' => ∃ v L, o = .returned v ∧ Q9_2_3 Z o0_9_2_3 k_o0_9_2_3 n_o0_9_2_3 vs_o0_9_2_3 dv_o0_9_2_3 r4_o0_9_2_3 h0 n0 v U'.heap L ∧ FrameEnd U o U' L ({ frames := 0, cells := 0, slots := 0, locals := 0 } : Room).cells ({ frames := 0, cells := 0, slots := 0, locals := 0 } : Room).slots) := by
  refine MetFree.of_bodySF (plainFor_of_name pn_2) hisR ?_
  intro p e s m args below meth c s₁ Bd hml0 hP hK
  obtain ⟨rfl, hZ, hh⟩ := hP
  have hx := Bd.exec
  have hby := Bd.bytes
  have hnl := BodyLoose.notSynchronized Bd
  have hml : c.maxLocals = 3 := hml0
  have hown : s.vm.findClass "com/example/serigraph/serigraph/view/OrderListRemovePinLaw" = some m.cls := findClass_of_methodNamed Bd.named
  have hnm := (name_of_methodNamed Bd.named Bd.method).1
  have X0 : Stand p l e ({ frames := 0, cells := 0, slots := 0, locals := 0 } : Room) s m #[(.ref o0_9_2_3), (.int (2 : Int32)), (.int (3 : Int32))] below meth c s₁ [] 0 0 := Stand.of_body Bd
  have e0 : s₁.heap = h0 := by rw [← hh, Bd.state]; rfl
  have N0 := Fr.nil n0
  show own_Ends p.tables e below s (Q9_2_3 Z o0_9_2_3 k_o0_9_2_3 n_o0_9_2_3 vs_o0_9_2_3 dv_o0_9_2_3 r4_o0_9_2_3 h0 n0) 0 0 (s₁.setTop (entryFrame m #[(.ref o0_9_2_3), (.int (2 : Int32)), (.int (3 : Int32))] 3))
  rw [ef_9_2_3 m o0_9_2_3]
  show own_Ends p.tables e below s _ _ _ (s₁.setTop (mkF m 0 #[.val (.ref o0_9_2_3), .val (.int (2 : Int32)), .val (.int (3 : Int32))] []))
  refine own_step (fun t k => XS.iloadN X0.here hx rfl (hb hby d9_0) rfl k) ?_
  show own_Ends p.tables e below s _ _ _ (s₁.setTop (mkF m 1 #[.val (.ref o0_9_2_3), .val (.int (2 : Int32)), .val (.int (3 : Int32))] [(.int (3 : Int32))]))
  refine own_step (fun t k => XS.iloadN X0.here hx rfl (hb hby d9_1) rfl k) ?_
  show own_Ends p.tables e below s _ _ _ (s₁.setTop (mkF m 2 #[.val (.ref o0_9_2_3), .val (.int (2 : Int32)), .val (.int (3 : Int32))] [(.int (2 : Int32)), (.int (3 : Int32))]))
  refine own_step (fun t k => XS.icmpYes X0.here hx rfl (pc0 := 2) (pc' := 11) rfl (hb hby d9_2) rfl (flt (by decide : ¬ ((3 : Int32) < (2 : Int32)))).2.1 (by decide) (by decide) k) ?_
  show own_Ends p.tables e below s _ _ _ (s₁.setTop (mkF m 11 #[.val (.ref o0_9_2_3), .val (.int (2 : Int32)), .val (.int (3 : Int32))] []))
  refine own_step (fun t k => XS.aloadN X0.here hx rfl (hb hby d9_11) rfl rfl k) ?_
  show own_Ends p.tables e below s _ _ _ (s₁.setTop (mkF m 12 #[.val (.ref o0_9_2_3), .val (.int (2 : Int32)), .val (.int (3 : Int32))] [(.ref o0_9_2_3)]))
  refine own_step (fun t k => XS.iloadN X0.here hx rfl (hb hby d9_12) rfl k) ?_
  show own_Ends p.tables e below s _ _ _ (s₁.setTop (mkF m 13 #[.val (.ref o0_9_2_3), .val (.int (2 : Int32)), .val (.int (3 : Int32))] [(.int (3 : Int32)), (.ref o0_9_2_3)]))
  refine own_step (fun t k => XS.iconst X0.here hx rfl (hb hby d9_13) k) ?_
  show own_Ends p.tables e below s _ _ _ (s₁.setTop (mkF m 14 #[.val (.ref o0_9_2_3), .val (.int (2 : Int32)), .val (.int (3 : Int32))] [(.int (1 : Int32)), (.int (3 : Int32)), (.ref o0_9_2_3)]))
  refine own_step (fun t k => XS.iadd X0.here hx rfl (hb hby d9_14) rfl k) ?_
  show own_Ends p.tables e below s _ _ _ (s₁.setTop (mkF m 15 #[.val (.ref o0_9_2_3), .val (.int (2 : Int32)), .val (.int (3 : Int32))] [(.int (4 : Int32)), (.ref o0_9_2_3)]))
  obtain ⟨cl1, Ar1, q1, S1, N1, H1, G1⟩ := id V_o0_9_2_3
  have hin1 : ¬ ((4 : Int32) < 0 ∨ cl1.slots.size ≤ ((4 : Int32)).toNatClampNeg) := inb_of S1 hin4_o0_9_2_3
  have hat1 : cl1.slots[((4 : Int32)).toNatClampNeg]? = some (.ref r4_o0_9_2_3) := H1.at hin1 hat4_o0_9_2_3
  refine own_step (fun t k => X0.aaload hx (j := (4 : Int32)) (v := (.ref r4_o0_9_2_3)) (by rw [e0]; exact Ar1.1) (State.isArrayOf_alike hZ.alike Ar1.2.1) rfl Ar1.2.2 hin1 hat1 (g := (mkF m 15 #[.val (.ref o0_9_2_3), .val (.int (2 : Int32)), .val (.int (3 : Int32))] [(.int (4 : Int32)), (.ref o0_9_2_3)])) rfl rfl (hb hby d9_15) _ k) ?_
  show own_Ends p.tables e below s _ _ _ (s₁.setTop (mkF m 16 #[.val (.ref o0_9_2_3), .val (.int (2 : Int32)), .val (.int (3 : Int32))] [(.ref r4_o0_9_2_3)]))
  exact own_retR X0 hx Bd.returns rfl rfl rfl (hb hby d9_16) hnl (by rw [e0]; exact ⟨rfl, N0, rfl⟩) (by decide) (by decide)
theorem pd_3 : parseMethodDescriptor "()Lcom/example/serigraph/serigraph/view/OrderList$Place;" = some ⟨[], some (.object "com/example/serigraph/serigraph/view/OrderList$Place")⟩ := by decide +kernel
theorem pd_4 : parseMethodDescriptor "([Lcom/example/serigraph/serigraph/view/OrderList$Place;II)Lcom/example/serigraph/serigraph/view/OrderList$Place;" = some ⟨[(.array (.object "com/example/serigraph/serigraph/view/OrderList$Place")), .int, .int], some (.object "com/example/serigraph/serigraph/view/OrderList$Place")⟩ := by decide +kernel
theorem pd_5 : parseMethodDescriptor "(Lcom/example/serigraph/serigraph/view/OrderList$Place;)V" = some ⟨[(.object "com/example/serigraph/serigraph/view/OrderList$Place")], none⟩ := by decide +kernel
theorem ef_0 (m : MethodId) (x0_0 : Int32) (x1_0 : Int32) : entryFrame m #[(.int x0_0), (.int x1_0)] maxLocals = mkF m 0 #[.val (.int x0_0), .val (.int x1_0), .unset, .unset, .unset, .unset, .unset, .unset, .unset, .unset, .unset, .unset, .unset, .unset, .unset] [] := by first | (simp [entryFrame, mkF, argsToLocals, Value.category, maxLocals]; done) | rfl
def Q0 (Z : State) (x0_0 : Int32) (x1_0 : Int32) (h0 : Heap) (n0 : Nat) (v : Option Value) (h : Heap) (L : List Loc) : Prop := v = some (.int 1) ∧ Fr n0 L
set_option maxRecDepth 65536 in
set_option maxHeartbeats 40000000 in
theorem rm0 (l : Launch) (Z : State) (a0 : Array Value) (hw : ∀ d ∈ tables_1, d.before a0 Z = true) (ws : List Jvm.Cond) (x0_0 : Int32) (x1_0 : Int32) (h0 : Heap) (n0 : Nat) (O0 : Old Z n0 h0) :
    MetFree l x (head1 (Jvm.Cond.code x code maxLocals ret :: ws) room_1) (fun a U => a = #[(.int x0_0), (.int x1_0)] ∧ Z.Warmed39 U.vm ∧ U.heap = h0) (fun _ _ _ _ _ => True) (fun _ U o U' => ∃ v L, o = .returned v ∧ Q0 Z x0_0 x1_0 h0 n0 v U'.heap L ∧ FrameEnd U o U' L 8 25) := by
  refine MetFree.of_bodySF (plainFor_of_name pn_2) hisR ?_
  intro p e s m args below meth c s₁ Bd hml0 hP hK
  obtain ⟨rfl, hZ, hh⟩ := hP
  have hx := Bd.exec
  have hby := Bd.bytes
  have hnl := BodyLoose.notSynchronized Bd
  have hml : c.maxLocals = 15 := hml0
  have hown : s.vm.findClass "com/example/serigraph/serigraph/view/OrderListRemovePinLaw" = some m.cls := findClass_of_methodNamed Bd.named
  have hnm := (name_of_methodNamed Bd.named Bd.method).1
  have X0 : Stand p l e room_1 s m #[(.int x0_0), (.int x1_0)] below meth c s₁ [] 0 0 := Stand.of_body Bd
  have e0 : s₁.heap = h0 := by rw [← hh, Bd.state]; rfl
  have N0 := Fr.nil n0
  show own_Ends p.tables e below s (Q0 Z x0_0 x1_0 h0 n0) 8 25 (s₁.setTop (entryFrame m #[(.int x0_0), (.int x1_0)] maxLocals))
  rw [ef_0 m x0_0 x1_0]
  show own_Ends p.tables e below s _ _ _ (s₁.setTop (mkF m 0 #[.val (.int x0_0), .val (.int x1_0), .unset, .unset, .unset, .unset, .unset, .unset, .unset, .unset, .unset, .unset, .unset, .unset, .unset] []))
  refine own_step (fun t k => XS.iconst X0.here hx rfl (hb hby at_0) k) ?_
  show own_Ends p.tables e below s _ _ _ (s₁.setTop (mkF m 1 #[.val (.int x0_0), .val (.int x1_0), .unset, .unset, .unset, .unset, .unset, .unset, .unset, .unset, .unset, .unset, .unset, .unset, .unset] [(.int (1 : Int32))]))
  refine own_step (fun t k => XS.iloadN X0.here hx rfl (hb hby at_1) rfl k) ?_
  show own_Ends p.tables e below s _ _ _ (s₁.setTop (mkF m 2 #[.val (.int x0_0), .val (.int x1_0), .unset, .unset, .unset, .unset, .unset, .unset, .unset, .unset, .unset, .unset, .unset, .unset, .unset] [(.int x0_0), (.int (1 : Int32))]))
  refine own_step (fun t k => X0.ldcInt hx hown (mvT hZ (hw _ (List.mem_of_getElem? (i := 0) rfl))) (g := (mkF m 2 #[.val (.int x0_0), .val (.int x1_0), .unset, .unset, .unset, .unset, .unset, .unset, .unset, .unset, .unset, .unset, .unset, .unset, .unset] [(.int x0_0), (.int (1 : Int32))])) rfl (hb hby at_2) _ k) ?_
  show own_Ends p.tables e below s _ _ _ (s₁.setTop (mkF m 4 #[.val (.int x0_0), .val (.int x1_0), .unset, .unset, .unset, .unset, .unset, .unset, .unset, .unset, .unset, .unset, .unset, .unset, .unset] [(.int (2147483647 : Int32)), (.int x0_0), (.int (1 : Int32))]))
  refine own_step (fun t k => XS.iand X0.here hx rfl (hb hby at_4) rfl k) ?_
  show own_Ends p.tables e below s _ _ _ (s₁.setTop (mkF m 5 #[.val (.int x0_0), .val (.int x1_0), .unset, .unset, .unset, .unset, .unset, .unset, .unset, .unset, .unset, .unset, .unset, .unset, .unset] [(.int (x0_0 &&& (2147483647 : Int32))), (.int (1 : Int32))]))
  refine own_step (fun t k => XS.iconst X0.here hx rfl (hb hby at_5) k) ?_
  show own_Ends p.tables e below s _ _ _ (s₁.setTop (mkF m 6 #[.val (.int x0_0), .val (.int x1_0), .unset, .unset, .unset, .unset, .unset, .unset, .unset, .unset, .unset, .unset, .unset, .unset, .unset] [(.int (3 : Int32)), (.int (x0_0 &&& (2147483647 : Int32))), (.int (1 : Int32))]))
  refine own_step (fun t k => iremM X0 hx rfl (hb hby at_6) rfl (by decide) k) ?_
  show own_Ends p.tables e below s _ _ _ (s₁.setTop (mkF m 7 #[.val (.int x0_0), .val (.int x1_0), .unset, .unset, .unset, .unset, .unset, .unset, .unset, .unset, .unset, .unset, .unset, .unset, .unset] [(.int ((x0_0 &&& (2147483647 : Int32)) % (3 : Int32))), (.int (1 : Int32))]))
  refine own_step (fun t k => XS.iadd X0.here hx rfl (hb hby at_7) rfl k) ?_
  show own_Ends p.tables e below s _ _ _ (s₁.setTop (mkF m 8 #[.val (.int x0_0), .val (.int x1_0), .unset, .unset, .unset, .unset, .unset, .unset, .unset, .unset, .unset, .unset, .unset, .unset, .unset] [(.int ((1 : Int32) + ((x0_0 &&& (2147483647 : Int32)) % (3 : Int32))))]))
  generalize hnn : ((1 : Int32) + ((x0_0 &&& (2147483647 : Int32)) % (3 : Int32))) = nn
  show own_Ends p.tables e below s _ _ _ (s₁.setTop (mkF m 8 #[.val (.int x0_0), .val (.int x1_0), .unset, .unset, .unset, .unset, .unset, .unset, .unset, .unset, .unset, .unset, .unset, .unset, .unset] [(.int nn)]))
  refine own_step (fun t k => XS.istoreN X0.here hx rfl (hb hby at_8) rfl (l' := #[.val (.int x0_0), .val (.int x1_0), .val (.int nn), .unset, .unset, .unset, .unset, .unset, .unset, .unset, .unset, .unset, .unset, .unset, .unset]) rfl k) ?_
  show own_Ends p.tables e below s _ _ _ (s₁.setTop (mkF m 9 #[.val (.int x0_0), .val (.int x1_0), .val (.int nn), .unset, .unset, .unset, .unset, .unset, .unset, .unset, .unset, .unset, .unset, .unset, .unset] []))
  refine own_step (fun t k => XS.iconst X0.here hx rfl (hb hby at_9) k) ?_
  show own_Ends p.tables e below s _ _ _ (s₁.setTop (mkF m 10 #[.val (.int x0_0), .val (.int x1_0), .val (.int nn), .unset, .unset, .unset, .unset, .unset, .unset, .unset, .unset, .unset, .unset, .unset, .unset] [(.int (1 : Int32))]))
  refine own_step (fun t k => XS.iloadN X0.here hx rfl (hb hby at_10) rfl k) ?_
  show own_Ends p.tables e below s _ _ _ (s₁.setTop (mkF m 11 #[.val (.int x0_0), .val (.int x1_0), .val (.int nn), .unset, .unset, .unset, .unset, .unset, .unset, .unset, .unset, .unset, .unset, .unset, .unset] [(.int x1_0), (.int (1 : Int32))]))
  refine own_step (fun t k => X0.ldcInt hx hown (mvT hZ (hw _ (List.mem_of_getElem? (i := 0) rfl))) (g := (mkF m 11 #[.val (.int x0_0), .val (.int x1_0), .val (.int nn), .unset, .unset, .unset, .unset, .unset, .unset, .unset, .unset, .unset, .unset, .unset, .unset] [(.int x1_0), (.int (1 : Int32))])) rfl (hb hby at_11) _ k) ?_
  show own_Ends p.tables e below s _ _ _ (s₁.setTop (mkF m 13 #[.val (.int x0_0), .val (.int x1_0), .val (.int nn), .unset, .unset, .unset, .unset, .unset, .unset, .unset, .unset, .unset, .unset, .unset, .unset] [(.int (2147483647 : Int32)), (.int x1_0), (.int (1 : Int32))]))
  refine own_step (fun t k => XS.iand X0.here hx rfl (hb hby at_13) rfl k) ?_
  show own_Ends p.tables e below s _ _ _ (s₁.setTop (mkF m 14 #[.val (.int x0_0), .val (.int x1_0), .val (.int nn), .unset, .unset, .unset, .unset, .unset, .unset, .unset, .unset, .unset, .unset, .unset, .unset] [(.int (x1_0 &&& (2147483647 : Int32))), (.int (1 : Int32))]))
  refine own_step (fun t k => XS.iloadN X0.here hx rfl (hb hby at_14) rfl k) ?_
  show own_Ends p.tables e below s _ _ _ (s₁.setTop (mkF m 15 #[.val (.int x0_0), .val (.int x1_0), .val (.int nn), .unset, .unset, .unset, .unset, .unset, .unset, .unset, .unset, .unset, .unset, .unset, .unset] [(.int nn), (.int (x1_0 &&& (2147483647 : Int32))), (.int (1 : Int32))]))
  refine own_step (fun t k => iremM X0 hx rfl (hb hby at_15) rfl (by rcases (hnn ▸ own_n3 x0_0 : nn = 1 ∨ nn = 2 ∨ nn = 3) with h | h | h <;> rw [h] <;> decide) k) ?_
  show own_Ends p.tables e below s _ _ _ (s₁.setTop (mkF m 16 #[.val (.int x0_0), .val (.int x1_0), .val (.int nn), .unset, .unset, .unset, .unset, .unset, .unset, .unset, .unset, .unset, .unset, .unset, .unset] [(.int ((x1_0 &&& (2147483647 : Int32)) % nn)), (.int (1 : Int32))]))
  refine own_step (fun t k => XS.iadd X0.here hx rfl (hb hby at_16) rfl k) ?_
  show own_Ends p.tables e below s _ _ _ (s₁.setTop (mkF m 17 #[.val (.int x0_0), .val (.int x1_0), .val (.int nn), .unset, .unset, .unset, .unset, .unset, .unset, .unset, .unset, .unset, .unset, .unset, .unset] [(.int ((1 : Int32) + ((x1_0 &&& (2147483647 : Int32)) % nn)))]))
  generalize hii : ((1 : Int32) + ((x1_0 &&& (2147483647 : Int32)) % nn)) = ii
  show own_Ends p.tables e below s _ _ _ (s₁.setTop (mkF m 17 #[.val (.int x0_0), .val (.int x1_0), .val (.int nn), .unset, .unset, .unset, .unset, .unset, .unset, .unset, .unset, .unset, .unset, .unset, .unset] [(.int ii)]))
  refine own_step (fun t k => XS.istoreN X0.here hx rfl (hb hby at_17) rfl (l' := #[.val (.int x0_0), .val (.int x1_0), .val (.int nn), .val (.int ii), .unset, .unset, .unset, .unset, .unset, .unset, .unset, .unset, .unset, .unset, .unset]) rfl k) ?_
  show own_Ends p.tables e below s _ _ _ (s₁.setTop (mkF m 18 #[.val (.int x0_0), .val (.int x1_0), .val (.int nn), .val (.int ii), .unset, .unset, .unset, .unset, .unset, .unset, .unset, .unset, .unset, .unset, .unset] []))
  obtain ⟨T1, h1, X1, e1, E1, A1, D1, -, st1⟩ := newO X0 hx hZ hown (hw _ (List.mem_of_getElem? (i := 1) rfl)) (hw _ (List.mem_of_getElem? (i := 2) rfl)) (hw _ (List.mem_of_getElem? (i := 3) rfl)) e0 (g := (mkF m 18 #[.val (.int x0_0), .val (.int x1_0), .val (.int nn), .val (.int ii), .unset, .unset, .unset, .unset, .unset, .unset, .unset, .unset, .unset, .unset, .unset] [])) rfl (hb hby at_18) (by decide) (by decide)
  obtain ⟨b1, g1⟩ : ∃ z, z = h0.size := ⟨_, rfl⟩
  rw [← g1] at A1 D1 st1
  have g_b1 : n0 ≤ b1 := Nat.le_trans (Nat.le_trans (Nat.le_of_eq O0.1.symm) O0.2.1) (Nat.le_of_eq g1.symm)
  have sz_b1 : h0.size ≤ b1 := Nat.le_trans (Keep.refl h0 []).1 (Nat.le_of_eq g1.symm)
  have F1_front : Fld Z h1 b1 "com/example/serigraph/serigraph/view/OrderList" "front" "Lcom/example/serigraph/serigraph/view/OrderList$Place;" .null := D1 (Or.inr (hw _ (List.mem_of_getElem? (i := 18) rfl))) (ty := (.object "com/example/serigraph/serigraph/view/OrderList$Place")) (by decide)
  have F1_back : Fld Z h1 b1 "com/example/serigraph/serigraph/view/OrderList" "back" "Lcom/example/serigraph/serigraph/view/OrderList$Place;" .null := D1 (Or.inr (hw _ (List.mem_of_getElem? (i := 20) rfl))) (ty := (.object "com/example/serigraph/serigraph/view/OrderList$Place")) (by decide)
  refine own_step (fun t k => st1 _ k) ?_
  have K2 : Keep h0 h1 [] := (Keep.refl h0 []).ext E1
  show own_Ends p.tables e below s _ _ _ (T1.setTop (mkF m 21 #[.val (.int x0_0), .val (.int x1_0), .val (.int nn), .val (.int ii), .unset, .unset, .unset, .unset, .unset, .unset, .unset, .unset, .unset, .unset, .unset] [(.ref b1)]))
  refine own_step (fun t k => XS.dup X1.here hx rfl (hb hby at_21) rfl rfl k) ?_
  show own_Ends p.tables e below s _ _ _ (T1.setTop (mkF m 22 #[.val (.int x0_0), .val (.int x1_0), .val (.int nn), .val (.int ii), .unset, .unset, .unset, .unset, .unset, .unset, .unset, .unset, .unset, .unset, .unset] [(.ref b1), (.ref b1)]))
  have O3 : Old Z n0 h1 := (O0.ext E1)
  obtain ⟨_, _, ⟨T4, L4, k4, n4⟩, -, X4, ⟨Lc4, hQ4, l4, y4, z4⟩, st4⟩ := X1.specialBack hx (y := (⟨"com/example/serigraph/serigraph/view/OrderList", "<init>", "()V"⟩ : MethodName)) rfl hown (mvT hZ (hw _ (List.mem_of_getElem? (i := 4) rfl))) (mvT hZ (hw _ (List.mem_of_getElem? (i := 5) rfl))) (mvT hZ (hw _ (List.mem_of_getElem? (i := 6) rfl))) (by decide) (backOf (W := 1) (rm1 l Z a0 hw [] b1 .null .null h1 n0 O3 A1 F1_front g_b1 F1_back) hZ (hw _ (List.mem_of_getElem? (i := 6) rfl)) (hw _ (List.mem_of_getElem? (i := 3) rfl)) (by decide) (by decide)) (g := (mkF m 22 #[.val (.int x0_0), .val (.int x1_0), .val (.int nn), .val (.int ii), .unset, .unset, .unset, .unset, .unset, .unset, .unset, .unset, .unset, .unset, .unset] [(.ref b1), (.ref b1)])) rfl (by rw [hml]; rfl) (Steps.refl _) (a := b1) (argsL := []) (rest := [(.ref b1)]) (lenOf pd_0 rfl) rfl (by show 2 * 0 + _ ≤ _; exact Nat.le_of_eq rfl) (hb hby at_22) (fun _ _ => ⟨rfl, e1, (by decide : 1 + 2 ≤ _), (by decide : 2 + 6 ≤ _)⟩)
  dsimp only [Pt.U, Pt.locs, Pt.cells, Pt.slots] at X4 l4 y4 z4 st4 hQ4
  subst y4 z4
  obtain ⟨b2_4, b16_4, rfl, N4q, K4q, p4_0, p4_1, p4_2, p4_3, p4_4, p4_5, p4_6, p4_7, p4_8, p4_9, p4_10, p4_11, p4_12, p4_13⟩ := hQ4
  refine own_step (fun t k => st4.trans k) ?_
  have N5 : Fr n0 L4 := by rw [l4]; exact Fr.app N0 N4q
  have sz_b2_4 : h0.size ≤ b2_4 := Nat.le_trans K2.1 p4_0
  have g_b2_4 : n0 ≤ b2_4 := Nat.le_trans (Nat.le_trans (Nat.le_of_eq O3.1.symm) O3.2.1) p4_0
  have ne_b1_b2_4 : b1 ≠ b2_4 := Nat.ne_of_lt (Nat.lt_of_lt_of_le A1.lt p4_0)
  have sz_b16_4 : h0.size ≤ b16_4 := Nat.le_trans K2.1 p4_1
  have g_b16_4 : n0 ≤ b16_4 := Nat.le_trans (Nat.le_trans (Nat.le_of_eq O3.1.symm) O3.2.1) p4_1
  have ne_b1_b16_4 : b1 ≠ b16_4 := Nat.ne_of_lt (Nat.lt_of_lt_of_le A1.lt p4_1)
  have K6 : Keep h0 T4.heap [] := K2.trans K4q (allS (Or.inr sz_b1) all0)
  show own_Ends p.tables e below s _ _ _ (T4.setTop (mkF m 25 #[.val (.int x0_0), .val (.int x1_0), .val (.int nn), .val (.int ii), .unset, .unset, .unset, .unset, .unset, .unset, .unset, .unset, .unset, .unset, .unset] [(.ref b1)]))
  refine own_step (fun t k => XS.astore X4.here hx rfl (hb hby at_25) rfl rfl (l' := #[.val (.int x0_0), .val (.int x1_0), .val (.int nn), .val (.int ii), .val (.ref b1), .unset, .unset, .unset, .unset, .unset, .unset, .unset, .unset, .unset, .unset]) rfl k) ?_
  show own_Ends p.tables e below s _ _ _ (T4.setTop (mkF m 27 #[.val (.int x0_0), .val (.int x1_0), .val (.int nn), .val (.int ii), .val (.ref b1), .unset, .unset, .unset, .unset, .unset, .unset, .unset, .unset, .unset, .unset] []))
  refine own_step (fun t k => XS.iconst X4.here hx rfl (hb hby at_27) k) ?_
  show own_Ends p.tables e below s _ _ _ (T4.setTop (mkF m 28 #[.val (.int x0_0), .val (.int x1_0), .val (.int nn), .val (.int ii), .val (.ref b1), .unset, .unset, .unset, .unset, .unset, .unset, .unset, .unset, .unset, .unset] [(.int (5 : Int32))]))
  have O7 : Old Z n0 T4.heap := (O3.keep K4q (allS g_b1 all0))
  obtain ⟨T8, h8, k8, X8, e8, E8, A8, O8, st8⟩ := newR X4 hx hZ hown (hw _ (List.mem_of_getElem? (i := 28) rfl)) (hw _ (List.mem_of_getElem? (i := 29) rfl)) rfl (g := (mkF m 28 #[.val (.int x0_0), .val (.int x1_0), .val (.int nn), .val (.int ii), .val (.ref b1), .unset, .unset, .unset, .unset, .unset, .unset, .unset, .unset, .unset, .unset] [(.int (5 : Int32))])) rfl (hb hby at_28) rfl (by decide) (cap := 5) (by decide) (by decide) (by decide) (by decide)
  obtain ⟨b8, g8⟩ : ∃ z, z = T4.heap.size := ⟨_, rfl⟩
  rw [← g8] at A8 st8
  have g_b8 : n0 ≤ b8 := Nat.le_trans (Nat.le_trans (Nat.le_of_eq O7.1.symm) O7.2.1) (Nat.le_of_eq g8.symm)
  have sz_b8 : h0.size ≤ b8 := Nat.le_trans K6.1 (Nat.le_of_eq g8.symm)
  have ne_b1_b8 : b1 ≠ b8 := Nat.ne_of_lt (Nat.lt_of_lt_of_le p4_2.lt (Nat.le_of_eq g8.symm))
  have ne_b2_4_b8 : b2_4 ≠ b8 := Nat.ne_of_lt (Nat.lt_of_lt_of_le p4_5.lt (Nat.le_of_eq g8.symm))
  have ne_b16_4_b8 : b16_4 ≠ b8 := Nat.ne_of_lt (Nat.lt_of_lt_of_le p4_9.lt (Nat.le_of_eq g8.symm))
  have V8 : Arv Z h8 b8 k8 (.object "com/example/serigraph/serigraph/view/OrderList$Place") (5 : Int32) [] .null := Arv.new A8 (by decide)
  have V8p : Arv Z h8 b8 k8 (.object "com/example/serigraph/serigraph/view/OrderList$Place") (5 : Int32) [.null, .null, .null, .null, .null] .null := V8.pad (pad_rep [] .null 5)
  refine own_step (fun t k => st8 _ k) ?_
  have K9 : Keep h0 h8 [] := K6.ext E8
  show own_Ends p.tables e below s _ _ _ (T8.setTop (mkF m 31 #[.val (.int x0_0), .val (.int x1_0), .val (.int nn), .val (.int ii), .val (.ref b1), .unset, .unset, .unset, .unset, .unset, .unset, .unset, .unset, .unset, .unset] [(.ref b8)]))
  refine own_step (fun t k => XS.astore X8.here hx rfl (hb hby at_31) rfl rfl (l' := #[.val (.int x0_0), .val (.int x1_0), .val (.int nn), .val (.int ii), .val (.ref b1), .val (.ref b8), .unset, .unset, .unset, .unset, .unset, .unset, .unset, .unset, .unset]) rfl k) ?_
  show own_Ends p.tables e below s _ _ _ (T8.setTop (mkF m 33 #[.val (.int x0_0), .val (.int x1_0), .val (.int nn), .val (.int ii), .val (.ref b1), .val (.ref b8), .unset, .unset, .unset, .unset, .unset, .unset, .unset, .unset, .unset] []))
  refine own_step (fun t k => XS.aload X8.here hx rfl (hb hby at_33) rfl rfl k) ?_
  show own_Ends p.tables e below s _ _ _ (T8.setTop (mkF m 35 #[.val (.int x0_0), .val (.int x1_0), .val (.int nn), .val (.int ii), .val (.ref b1), .val (.ref b8), .unset, .unset, .unset, .unset, .unset, .unset, .unset, .unset, .unset] [(.ref b8)]))
  refine own_step (fun t k => XS.iconst X8.here hx rfl (hb hby at_35) k) ?_
  show own_Ends p.tables e below s _ _ _ (T8.setTop (mkF m 36 #[.val (.int x0_0), .val (.int x1_0), .val (.int nn), .val (.int ii), .val (.ref b1), .val (.ref b8), .unset, .unset, .unset, .unset, .unset, .unset, .unset, .unset, .unset] [(.int (0 : Int32)), (.ref b8)]))
  refine own_step (fun t k => XS.aload X8.here hx rfl (hb hby at_36) rfl rfl k) ?_
  show own_Ends p.tables e below s _ _ _ (T8.setTop (mkF m 38 #[.val (.int x0_0), .val (.int x1_0), .val (.int nn), .val (.int ii), .val (.ref b1), .val (.ref b8), .unset, .unset, .unset, .unset, .unset, .unset, .unset, .unset, .unset] [(.ref b1), (.int (0 : Int32)), (.ref b8)]))
  have F10 : Fld Z h8 b1 "com/example/serigraph/serigraph/view/OrderList" "front" "Lcom/example/serigraph/serigraph/view/OrderList$Place;" (.ref b2_4) := (p4_3.ext E8)
  have O11 : Old Z n0 h8 := (O7.ext E8)
  have F13 : Exa Z h8 b1 "com/example/serigraph/serigraph/view/OrderList" := (p4_2.ext E8)
  obtain ⟨cq12, kq12, q12a, q12b, q12c⟩ := isOf hZ e8 F13
  obtain ⟨_, _, ⟨T12, L12, k12, n12⟩, -, X12, ⟨Lc12, hQ12, l12, y12, z12⟩, st12⟩ := X8.virtualBack hx (y := (⟨"com/example/serigraph/serigraph/view/OrderList", "front", "()Lcom/example/serigraph/serigraph/view/OrderList$Place;"⟩ : MethodName)) (z := (⟨"com/example/serigraph/serigraph/view/OrderList", "front", "()Lcom/example/serigraph/serigraph/view/OrderList$Place;"⟩ : MethodName)) hown (mvT hZ (hw _ (List.mem_of_getElem? (i := 30) rfl))) (mvT hZ (hw _ (List.mem_of_getElem? (i := 31) rfl))) (notFace_of_selects (args := #[]) (mvT hZ (hw _ (List.mem_of_getElem? (i := 33) rfl)))) (mvT hZ (hw _ (List.mem_of_getElem? (i := 33) rfl))) (mvT hZ (hw _ (List.mem_of_getElem? (i := 32) rfl))) (by decide) (backOf (W := 2) (rm4 l Z a0 hw [] b1 b2_4 h8 n0 O11 F10) hZ (hw _ (List.mem_of_getElem? (i := 34) rfl)) (hw _ (List.mem_of_getElem? (i := 3) rfl)) (by decide) (by decide)) q12a q12c (g := (mkF m 38 #[.val (.int x0_0), .val (.int x1_0), .val (.int nn), .val (.int ii), .val (.ref b1), .val (.ref b8), .unset, .unset, .unset, .unset, .unset, .unset, .unset, .unset, .unset] [(.ref b1), (.int (0 : Int32)), (.ref b8)])) rfl (by rw [hml]; rfl) (Steps.refl _) (argsL := []) (rest := [(.int (0 : Int32)), (.ref b8)]) (lenOf pd_3 rfl) rfl (by show 2 * 0 + _ ≤ _; exact Nat.le_of_eq rfl) (hb hby at_38) (fun _ _ => ⟨rfl, e8, (by decide : 4 + 0 ≤ _), (by decide : 13 + 0 ≤ _)⟩)
  dsimp only [Pt.U, Pt.locs, Pt.cells, Pt.slots] at X12 l12 y12 z12 st12 hQ12
  subst y12 z12
  obtain ⟨rfl, N12q, e12⟩ := hQ12
  refine own_step (fun t k => st12.trans k) ?_
  have N14 : Fr n0 L12 := by rw [l12]; exact Fr.app N5 N12q
  show own_Ends p.tables e below s _ _ _ (T12.setTop (mkF m 41 #[.val (.int x0_0), .val (.int x1_0), .val (.int nn), .val (.int ii), .val (.ref b1), .val (.ref b8), .unset, .unset, .unset, .unset, .unset, .unset, .unset, .unset, .unset] [(.ref b2_4), (.int (0 : Int32)), (.ref b8)]))
  obtain ⟨cl15, Ar15, q15, S15, N15, H15, G15⟩ := id V8p
  have hin15 : ¬ ((0 : Int32) < 0 ∨ cl15.slots.size ≤ ((0 : Int32)).toNatClampNeg) := inb_of S15 ⟨by decide, by decide⟩
  have F16 : Exa Z h8 b2_4 "com/example/serigraph/serigraph/view/OrderList$Place" := (p4_5.ext E8)
  obtain ⟨T17, h17, X17, e17, W17, st17⟩ := stR X12 hx hZ e12 Ar15 (j := (0 : Int32)) hin15 rfl (Sto.ofV Ar15 q15 O8 (Ins.self F16)) (g := (mkF m 41 #[.val (.int x0_0), .val (.int x1_0), .val (.int nn), .val (.int ii), .val (.ref b1), .val (.ref b8), .unset, .unset, .unset, .unset, .unset, .unset, .unset, .unset, .unset] [(.ref b2_4), (.int (0 : Int32)), (.ref b8)])) rfl rfl (hb hby at_41)
  refine own_step (fun t k => st17 _ k) ?_
  have V17 : Arv Z h17 b8 k8 (.object "com/example/serigraph/serigraph/view/OrderList$Place") (5 : Int32) [(.ref b2_4), .null, .null, .null, .null] .null := Arv.set Ar15 q15 S15 N15 H15 G15 rfl W17 0 rfl (Nat.le_of_ble_eq_true rfl)
  have K18 : Keep h0 h17 [] := K9.wr W17 (Or.inr sz_b8)
  have N19 := Fr.snoc X17 N14 g_b8
  show own_Ends p.tables e below s _ _ _ (T17.setTop (mkF m 42 #[.val (.int x0_0), .val (.int x1_0), .val (.int nn), .val (.int ii), .val (.ref b1), .val (.ref b8), .unset, .unset, .unset, .unset, .unset, .unset, .unset, .unset, .unset] []))
  refine own_step (fun t k => XS.aload X17.here hx rfl (hb hby at_42) rfl rfl k) ?_
  show own_Ends p.tables e below s _ _ _ (T17.setTop (mkF m 44 #[.val (.int x0_0), .val (.int x1_0), .val (.int nn), .val (.int ii), .val (.ref b1), .val (.ref b8), .unset, .unset, .unset, .unset, .unset, .unset, .unset, .unset, .unset] [(.ref b8)]))
  refine own_step (fun t k => XS.iconst X17.here hx rfl (hb hby at_44) k) ?_
  show own_Ends p.tables e below s _ _ _ (T17.setTop (mkF m 45 #[.val (.int x0_0), .val (.int x1_0), .val (.int nn), .val (.int ii), .val (.ref b1), .val (.ref b8), .unset, .unset, .unset, .unset, .unset, .unset, .unset, .unset, .unset] [(.int (1 : Int32)), (.ref b8)]))
  refine own_step (fun t k => XS.aload X17.here hx rfl (hb hby at_45) rfl rfl k) ?_
  show own_Ends p.tables e below s _ _ _ (T17.setTop (mkF m 47 #[.val (.int x0_0), .val (.int x1_0), .val (.int nn), .val (.int ii), .val (.ref b1), .val (.ref b8), .unset, .unset, .unset, .unset, .unset, .unset, .unset, .unset, .unset] [(.ref b1), (.int (1 : Int32)), (.ref b8)]))
  have F20 : Fld Z h17 b1 "com/example/serigraph/serigraph/view/OrderList" "back" "Lcom/example/serigraph/serigraph/view/OrderList$Place;" (.ref b16_4) := ((p4_4.ext E8).other W17 (Or.inl ne_b1_b8))
  have F21 : Fld Z h17 b16_4 "com/example/serigraph/serigraph/view/OrderList$Place" "previous" "Lcom/example/serigraph/serigraph/view/OrderList$Place;" (.ref b2_4) := ((p4_12.ext E8).other W17 (Or.inl ne_b16_4_b8))
  have F22 : Fld Z h17 b2_4 "com/example/serigraph/serigraph/view/OrderList$Place" "previous" "Lcom/example/serigraph/serigraph/view/OrderList$Place;" .null := ((p4_8.ext E8).other W17 (Or.inl ne_b2_4_b8))
  have F23 : Fld Z h17 b2_4 "com/example/serigraph/serigraph/view/OrderList$Place" "next" "Lcom/example/serigraph/serigraph/view/OrderList$Place;" (.ref b16_4) := ((p4_7.ext E8).other W17 (Or.inl ne_b2_4_b8))
  have F24 : Fld Z h17 b16_4 "com/example/serigraph/serigraph/view/OrderList$Place" "label" "J" (.long (4611686018427387904 : Int64)) := ((p4_10.ext E8).other W17 (Or.inl ne_b16_4_b8))
  have F25 : Fld Z h17 b2_4 "com/example/serigraph/serigraph/view/OrderList$Place" "label" "J" (.long (0 : Int64)) := ((p4_6.ext E8).other W17 (Or.inl ne_b2_4_b8))
  have F26 : Exa Z h17 b16_4 "com/example/serigraph/serigraph/view/OrderList$Place" := ((p4_9.ext E8).wr W17)
  have F27 : Exa Z h17 b2_4 "com/example/serigraph/serigraph/view/OrderList$Place" := (F16.wr W17)
  have F28 : Fld Z h17 b16_4 "com/example/serigraph/serigraph/view/OrderList$Place" "next" "Lcom/example/serigraph/serigraph/view/OrderList$Place;" .null := ((p4_11.ext E8).other W17 (Or.inl ne_b16_4_b8))
  have F29 : Exa Z h17 b1 "com/example/serigraph/serigraph/view/OrderList" := (F13.wr W17)
  have O30 : Old Z n0 h17 := (O11.wr W17 g_b8)
  obtain ⟨cq31, kq31, q31a, q31b, q31c⟩ := isOf hZ e17 F29
  obtain ⟨_, _, ⟨T31, L31, k31, n31⟩, -, X31, ⟨Lc31, hQ31, l31, y31, z31⟩, st31⟩ := X17.virtualBack hx (y := (⟨"com/example/serigraph/serigraph/view/OrderList", "append", "()Lcom/example/serigraph/serigraph/view/OrderList$Place;"⟩ : MethodName)) (z := (⟨"com/example/serigraph/serigraph/view/OrderList", "append", "()Lcom/example/serigraph/serigraph/view/OrderList$Place;"⟩ : MethodName)) hown (mvT hZ (hw _ (List.mem_of_getElem? (i := 36) rfl))) (mvT hZ (hw _ (List.mem_of_getElem? (i := 37) rfl))) (notFace_of_selects (args := #[]) (mvT hZ (hw _ (List.mem_of_getElem? (i := 39) rfl)))) (mvT hZ (hw _ (List.mem_of_getElem? (i := 39) rfl))) (mvT hZ (hw _ (List.mem_of_getElem? (i := 38) rfl))) (by decide) (backOf (W := 2) (rm5 l Z a0 hw [] b1 b16_4 b2_4 .null b16_4 (4611686018427387904 : Int64) (0 : Int64) (.ref b2_4) .null h17 n0 O30 F20 F21 F22 F23 F24 F25 F26 F21 g_b16_4 F27 p4_13 g_b2_4 (by decide +kernel) F28 F29) hZ (hw _ (List.mem_of_getElem? (i := 40) rfl)) (hw _ (List.mem_of_getElem? (i := 3) rfl)) (by decide) (by decide)) q31a q31c (g := (mkF m 47 #[.val (.int x0_0), .val (.int x1_0), .val (.int nn), .val (.int ii), .val (.ref b1), .val (.ref b8), .unset, .unset, .unset, .unset, .unset, .unset, .unset, .unset, .unset] [(.ref b1), (.int (1 : Int32)), (.ref b8)])) rfl (by rw [hml]; rfl) (Steps.refl _) (argsL := []) (rest := [(.int (1 : Int32)), (.ref b8)]) (lenOf pd_3 rfl) rfl (by show 2 * 0 + _ ≤ _; exact Nat.le_of_eq rfl) (hb hby at_47) (fun _ _ => ⟨rfl, e17, (by decide : 4 + 1 ≤ _), (by decide : 13 + 3 ≤ _)⟩)
  dsimp only [Pt.U, Pt.locs, Pt.cells, Pt.slots] at X31 l31 y31 z31 st31 hQ31
  subst y31 z31
  obtain ⟨b5_3_31, rfl, N31q, K31q, p31_0, p31_1, p31_2, p31_3, p31_4, p31_5, p31_6, p31_7, p31_8, p31_9, p31_10, p31_11, p31_12⟩ := hQ31
  refine own_step (fun t k => st31.trans k) ?_
  have N32 : Fr n0 L31 := by rw [l31]; exact Fr.app N19 N31q
  have sz_b5_3_31 : h0.size ≤ b5_3_31 := Nat.le_trans K18.1 p31_0
  have g_b5_3_31 : n0 ≤ b5_3_31 := Nat.le_trans (Nat.le_trans (Nat.le_of_eq O30.1.symm) O30.2.1) p31_0
  have ne_b1_b5_3_31 : b1 ≠ b5_3_31 := Nat.ne_of_lt (Nat.lt_of_lt_of_le F29.lt p31_0)
  have ne_b2_4_b5_3_31 : b2_4 ≠ b5_3_31 := Nat.ne_of_lt (Nat.lt_of_lt_of_le F27.lt p31_0)
  have ne_b16_4_b5_3_31 : b16_4 ≠ b5_3_31 := Nat.ne_of_lt (Nat.lt_of_lt_of_le F26.lt p31_0)
  have ne_b8_b5_3_31 : b8 ≠ b5_3_31 := Nat.ne_of_lt (Nat.lt_of_lt_of_le V17.lt p31_0)
  have K33 : Keep h0 T31.heap [] := K18.trans K31q (allS (Or.inr sz_b2_4) (allS (Or.inr sz_b16_4) all0))
  have p31_10c : Fld Z T31.heap b5_3_31 "com/example/serigraph/serigraph/view/OrderList$Place" "label" "J" (.long (4294967296 : Int64)) := Eq.mp (congrArg (fun z => Fld Z T31.heap b5_3_31 "com/example/serigraph/serigraph/view/OrderList$Place" "label" "J" (.long z)) (show ((0 : Int64) + (own_r7 (((4611686018427387904 : Int64) - (0 : Int64)) / (2 : Int64)) (4294967296 : Int64))) = (4294967296 : Int64) from by decide +kernel)) p31_10
  show own_Ends p.tables e below s _ _ _ (T31.setTop (mkF m 50 #[.val (.int x0_0), .val (.int x1_0), .val (.int nn), .val (.int ii), .val (.ref b1), .val (.ref b8), .unset, .unset, .unset, .unset, .unset, .unset, .unset, .unset, .unset] [(.ref b5_3_31), (.int (1 : Int32)), (.ref b8)]))
  have F34 : Arv Z T31.heap b8 k8 (.object "com/example/serigraph/serigraph/view/OrderList$Place") (5 : Int32) [(.ref b2_4), .null, .null, .null, .null] .null := (V17.keep K31q (ninS (Ne.symm ne_b2_4_b8) (ninS (Ne.symm ne_b16_4_b8) nin0)))
  obtain ⟨cl35, Ar35, q35, S35, N35, H35, G35⟩ := id F34
  have hin35 : ¬ ((1 : Int32) < 0 ∨ cl35.slots.size ≤ ((1 : Int32)).toNatClampNeg) := inb_of S35 ⟨by decide, by decide⟩
  obtain ⟨T36, h36, X36, e36, W36, st36⟩ := stR X31 hx hZ rfl Ar35 (j := (1 : Int32)) hin35 rfl (Sto.ofV Ar35 q35 O8 (Ins.self p31_9)) (g := (mkF m 50 #[.val (.int x0_0), .val (.int x1_0), .val (.int nn), .val (.int ii), .val (.ref b1), .val (.ref b8), .unset, .unset, .unset, .unset, .unset, .unset, .unset, .unset, .unset] [(.ref b5_3_31), (.int (1 : Int32)), (.ref b8)])) rfl rfl (hb hby at_50)
  refine own_step (fun t k => st36 _ k) ?_
  have V36 : Arv Z h36 b8 k8 (.object "com/example/serigraph/serigraph/view/OrderList$Place") (5 : Int32) [(.ref b2_4), (.ref b5_3_31), .null, .null, .null] .null := Arv.set Ar35 q35 S35 N35 H35 G35 rfl W36 1 rfl (Nat.le_of_ble_eq_true rfl)
  have K37 : Keep h0 h36 [] := K33.wr W36 (Or.inr sz_b8)
  have N38 := Fr.snoc X36 N32 g_b8
  rcases (hnn ▸ own_n3 x0_0 : nn = 1 ∨ nn = 2 ∨ nn = 3) with hk39 | hk39 | hk39
  · subst hk39
    show own_Ends p.tables e below s _ _ _ (T36.setTop (mkF m 51 #[.val (.int x0_0), .val (.int x1_0), .val (.int (1 : Int32)), .val (.int ii), .val (.ref b1), .val (.ref b8), .unset, .unset, .unset, .unset, .unset, .unset, .unset, .unset, .unset] []))
    refine own_step (fun t k => XS.iloadN X36.here hx rfl (hb hby at_51) rfl k) ?_
    show own_Ends p.tables e below s _ _ _ (T36.setTop (mkF m 52 #[.val (.int x0_0), .val (.int x1_0), .val (.int (1 : Int32)), .val (.int ii), .val (.ref b1), .val (.ref b8), .unset, .unset, .unset, .unset, .unset, .unset, .unset, .unset, .unset] [(.int (1 : Int32))]))
    refine own_step (fun t k => XS.iconst X36.here hx rfl (hb hby at_52) k) ?_
    show own_Ends p.tables e below s _ _ _ (T36.setTop (mkF m 53 #[.val (.int x0_0), .val (.int x1_0), .val (.int (1 : Int32)), .val (.int ii), .val (.ref b1), .val (.ref b8), .unset, .unset, .unset, .unset, .unset, .unset, .unset, .unset, .unset] [(.int (2 : Int32)), (.int (1 : Int32))]))
    refine own_step (fun t k => XS.icmpYes X36.here hx rfl (pc0 := 53) (pc' := 65) rfl (hb hby at_53) rfl (tlt (by decide : (1 : Int32) < (2 : Int32))).1 (by decide) (by decide) k) ?_
    show own_Ends p.tables e below s _ _ _ (T36.setTop (mkF m 65 #[.val (.int x0_0), .val (.int x1_0), .val (.int (1 : Int32)), .val (.int ii), .val (.ref b1), .val (.ref b8), .unset, .unset, .unset, .unset, .unset, .unset, .unset, .unset, .unset] []))
    refine own_step (fun t k => XS.iloadN X36.here hx rfl (hb hby at_65) rfl k) ?_
    show own_Ends p.tables e below s _ _ _ (T36.setTop (mkF m 66 #[.val (.int x0_0), .val (.int x1_0), .val (.int (1 : Int32)), .val (.int ii), .val (.ref b1), .val (.ref b8), .unset, .unset, .unset, .unset, .unset, .unset, .unset, .unset, .unset] [(.int (1 : Int32))]))
    refine own_step (fun t k => XS.iconst X36.here hx rfl (hb hby at_66) k) ?_
    show own_Ends p.tables e below s _ _ _ (T36.setTop (mkF m 67 #[.val (.int x0_0), .val (.int x1_0), .val (.int (1 : Int32)), .val (.int ii), .val (.ref b1), .val (.ref b8), .unset, .unset, .unset, .unset, .unset, .unset, .unset, .unset, .unset] [(.int (3 : Int32)), (.int (1 : Int32))]))
    refine own_step (fun t k => XS.icmpYes X36.here hx rfl (pc0 := 67) (pc' := 79) rfl (hb hby at_67) rfl (tlt (by decide : (1 : Int32) < (3 : Int32))).1 (by decide) (by decide) k) ?_
    show own_Ends p.tables e below s _ _ _ (T36.setTop (mkF m 79 #[.val (.int x0_0), .val (.int x1_0), .val (.int (1 : Int32)), .val (.int ii), .val (.ref b1), .val (.ref b8), .unset, .unset, .unset, .unset, .unset, .unset, .unset, .unset, .unset] []))
    refine own_step (fun t k => XS.aload X36.here hx rfl (hb hby at_79) rfl rfl k) ?_
    show own_Ends p.tables e below s _ _ _ (T36.setTop (mkF m 81 #[.val (.int x0_0), .val (.int x1_0), .val (.int (1 : Int32)), .val (.int ii), .val (.ref b1), .val (.ref b8), .unset, .unset, .unset, .unset, .unset, .unset, .unset, .unset, .unset] [(.ref b8)]))
    refine own_step (fun t k => XS.iloadN X36.here hx rfl (hb hby at_81) rfl k) ?_
    show own_Ends p.tables e below s _ _ _ (T36.setTop (mkF m 82 #[.val (.int x0_0), .val (.int x1_0), .val (.int (1 : Int32)), .val (.int ii), .val (.ref b1), .val (.ref b8), .unset, .unset, .unset, .unset, .unset, .unset, .unset, .unset, .unset] [(.int (1 : Int32)), (.ref b8)]))
    refine own_step (fun t k => XS.iconst X36.here hx rfl (hb hby at_82) k) ?_
    show own_Ends p.tables e below s _ _ _ (T36.setTop (mkF m 83 #[.val (.int x0_0), .val (.int x1_0), .val (.int (1 : Int32)), .val (.int ii), .val (.ref b1), .val (.ref b8), .unset, .unset, .unset, .unset, .unset, .unset, .unset, .unset, .unset] [(.int (1 : Int32)), (.int (1 : Int32)), (.ref b8)]))
    refine own_step (fun t k => XS.iadd X36.here hx rfl (hb hby at_83) rfl k) ?_
    show own_Ends p.tables e below s _ _ _ (T36.setTop (mkF m 84 #[.val (.int x0_0), .val (.int x1_0), .val (.int (1 : Int32)), .val (.int ii), .val (.ref b1), .val (.ref b8), .unset, .unset, .unset, .unset, .unset, .unset, .unset, .unset, .unset] [(.int (2 : Int32)), (.ref b8)]))
    refine own_step (fun t k => XS.aload X36.here hx rfl (hb hby at_84) rfl rfl k) ?_
    show own_Ends p.tables e below s _ _ _ (T36.setTop (mkF m 86 #[.val (.int x0_0), .val (.int x1_0), .val (.int (1 : Int32)), .val (.int ii), .val (.ref b1), .val (.ref b8), .unset, .unset, .unset, .unset, .unset, .unset, .unset, .unset, .unset] [(.ref b1), (.int (2 : Int32)), (.ref b8)]))
    have F40 : Fld Z h36 b1 "com/example/serigraph/serigraph/view/OrderList" "back" "Lcom/example/serigraph/serigraph/view/OrderList$Place;" (.ref b16_4) := ((F20.keep K31q (ninS ne_b1_b2_4 (ninS ne_b1_b16_4 nin0))).other W36 (Or.inl ne_b1_b8))
    have O41 : Old Z n0 h36 := ((O30.keep K31q (allS g_b2_4 (allS g_b16_4 all0))).wr W36 g_b8)
    have F43 : Exa Z h36 b1 "com/example/serigraph/serigraph/view/OrderList" := ((F29.keep K31q).wr W36)
    obtain ⟨cq42, kq42, q42a, q42b, q42c⟩ := isOf hZ e36 F43
    obtain ⟨_, _, ⟨T42, L42, k42, n42⟩, -, X42, ⟨Lc42, hQ42, l42, y42, z42⟩, st42⟩ := X36.virtualBack hx (y := (⟨"com/example/serigraph/serigraph/view/OrderList", "back", "()Lcom/example/serigraph/serigraph/view/OrderList$Place;"⟩ : MethodName)) (z := (⟨"com/example/serigraph/serigraph/view/OrderList", "back", "()Lcom/example/serigraph/serigraph/view/OrderList$Place;"⟩ : MethodName)) hown (mvT hZ (hw _ (List.mem_of_getElem? (i := 52) rfl))) (mvT hZ (hw _ (List.mem_of_getElem? (i := 53) rfl))) (notFace_of_selects (args := #[]) (mvT hZ (hw _ (List.mem_of_getElem? (i := 55) rfl)))) (mvT hZ (hw _ (List.mem_of_getElem? (i := 55) rfl))) (mvT hZ (hw _ (List.mem_of_getElem? (i := 54) rfl))) (by decide) (backOf (W := 2) (rm8 l Z a0 hw [] b1 b16_4 h36 n0 O41 F40) hZ (hw _ (List.mem_of_getElem? (i := 56) rfl)) (hw _ (List.mem_of_getElem? (i := 3) rfl)) (by decide) (by decide)) q42a q42c (g := (mkF m 86 #[.val (.int x0_0), .val (.int x1_0), .val (.int (1 : Int32)), .val (.int ii), .val (.ref b1), .val (.ref b8), .unset, .unset, .unset, .unset, .unset, .unset, .unset, .unset, .unset] [(.ref b1), (.int (2 : Int32)), (.ref b8)])) rfl (by rw [hml]; rfl) (Steps.refl _) (argsL := []) (rest := [(.int (2 : Int32)), (.ref b8)]) (lenOf pd_3 rfl) rfl (by show 2 * 0 + _ ≤ _; exact Nat.le_of_eq rfl) (hb hby at_86) (fun _ _ => ⟨rfl, e36, (by decide : 5 + 0 ≤ _), (by decide : 16 + 0 ≤ _)⟩)
    dsimp only [Pt.U, Pt.locs, Pt.cells, Pt.slots] at X42 l42 y42 z42 st42 hQ42
    subst y42 z42
    obtain ⟨rfl, N42q, e42⟩ := hQ42
    refine own_step (fun t k => st42.trans k) ?_
    have N44 : Fr n0 L42 := by rw [l42]; exact Fr.app N38 N42q
    show own_Ends p.tables e below s _ _ _ (T42.setTop (mkF m 89 #[.val (.int x0_0), .val (.int x1_0), .val (.int (1 : Int32)), .val (.int ii), .val (.ref b1), .val (.ref b8), .unset, .unset, .unset, .unset, .unset, .unset, .unset, .unset, .unset] [(.ref b16_4), (.int (2 : Int32)), (.ref b8)]))
    obtain ⟨cl45, Ar45, q45, S45, N45, H45, G45⟩ := id V36
    have hin45 : ¬ ((2 : Int32) < 0 ∨ cl45.slots.size ≤ ((2 : Int32)).toNatClampNeg) := inb_of S45 ⟨by decide, by decide⟩
    have F46 : Exa Z h36 b16_4 "com/example/serigraph/serigraph/view/OrderList$Place" := (p31_6.wr W36)
    obtain ⟨T47, h47, X47, e47, W47, st47⟩ := stR X42 hx hZ e42 Ar45 (j := (2 : Int32)) hin45 rfl (Sto.ofV Ar45 q45 O8 (Ins.self F46)) (g := (mkF m 89 #[.val (.int x0_0), .val (.int x1_0), .val (.int (1 : Int32)), .val (.int ii), .val (.ref b1), .val (.ref b8), .unset, .unset, .unset, .unset, .unset, .unset, .unset, .unset, .unset] [(.ref b16_4), (.int (2 : Int32)), (.ref b8)])) rfl rfl (hb hby at_89)
    refine own_step (fun t k => st47 _ k) ?_
    have V47 : Arv Z h47 b8 k8 (.object "com/example/serigraph/serigraph/view/OrderList$Place") (5 : Int32) [(.ref b2_4), (.ref b5_3_31), (.ref b16_4), .null, .null] .null := Arv.set Ar45 q45 S45 N45 H45 G45 rfl W47 2 rfl (Nat.le_of_ble_eq_true rfl)
    have K48 : Keep h0 h47 [] := K37.wr W47 (Or.inr sz_b8)
    have N49 := Fr.snoc X47 N44 g_b8
    rcases (hii ▸ own_i1 x1_0 : ii = 1) with hk50
    · subst hk50
      show own_Ends p.tables e below s _ _ _ (T47.setTop (mkF m 90 #[.val (.int x0_0), .val (.int x1_0), .val (.int (1 : Int32)), .val (.int (1 : Int32)), .val (.ref b1), .val (.ref b8), .unset, .unset, .unset, .unset, .unset, .unset, .unset, .unset, .unset] []))
      refine own_step (fun t k => XS.aload X47.here hx rfl (hb hby at_90) rfl rfl k) ?_
      show own_Ends p.tables e below s _ _ _ (T47.setTop (mkF m 92 #[.val (.int x0_0), .val (.int x1_0), .val (.int (1 : Int32)), .val (.int (1 : Int32)), .val (.ref b1), .val (.ref b8), .unset, .unset, .unset, .unset, .unset, .unset, .unset, .unset, .unset] [(.ref b8)]))
      refine own_step (fun t k => XS.iloadN X47.here hx rfl (hb hby at_92) rfl k) ?_
      show own_Ends p.tables e below s _ _ _ (T47.setTop (mkF m 93 #[.val (.int x0_0), .val (.int x1_0), .val (.int (1 : Int32)), .val (.int (1 : Int32)), .val (.ref b1), .val (.ref b8), .unset, .unset, .unset, .unset, .unset, .unset, .unset, .unset, .unset] [(.int (1 : Int32)), (.ref b8)]))
      obtain ⟨cl51, Ar51, q51, S51, N51, H51, G51⟩ := id V47
      have hin51 : ¬ ((1 : Int32) < 0 ∨ cl51.slots.size ≤ ((1 : Int32)).toNatClampNeg) := inb_of S51 ⟨by decide, by decide⟩
      have hat51 : cl51.slots[((1 : Int32)).toNatClampNeg]? = some (.ref b5_3_31) := H51.at hin51 rfl
      refine own_step (fun t k => X47.aaload hx (j := (1 : Int32)) (v := (.ref b5_3_31)) (by rw [e47]; exact Ar51.1) (State.isArrayOf_alike hZ.alike Ar51.2.1) rfl Ar51.2.2 hin51 hat51 (g := (mkF m 93 #[.val (.int x0_0), .val (.int x1_0), .val (.int (1 : Int32)), .val (.int (1 : Int32)), .val (.ref b1), .val (.ref b8), .unset, .unset, .unset, .unset, .unset, .unset, .unset, .unset, .unset] [(.int (1 : Int32)), (.ref b8)])) rfl rfl (hb hby at_93) _ k) ?_
      show own_Ends p.tables e below s _ _ _ (T47.setTop (mkF m 94 #[.val (.int x0_0), .val (.int x1_0), .val (.int (1 : Int32)), .val (.int (1 : Int32)), .val (.ref b1), .val (.ref b8), .unset, .unset, .unset, .unset, .unset, .unset, .unset, .unset, .unset] [(.ref b5_3_31)]))
      refine own_step (fun t k => XS.astore X47.here hx rfl (hb hby at_94) rfl rfl (l' := #[.val (.int x0_0), .val (.int x1_0), .val (.int (1 : Int32)), .val (.int (1 : Int32)), .val (.ref b1), .val (.ref b8), .val (.ref b5_3_31), .unset, .unset, .unset, .unset, .unset, .unset, .unset, .unset]) rfl k) ?_
      show own_Ends p.tables e below s _ _ _ (T47.setTop (mkF m 96 #[.val (.int x0_0), .val (.int x1_0), .val (.int (1 : Int32)), .val (.int (1 : Int32)), .val (.ref b1), .val (.ref b8), .val (.ref b5_3_31), .unset, .unset, .unset, .unset, .unset, .unset, .unset, .unset] []))
      refine own_step (fun t k => XS.aload X47.here hx rfl (hb hby at_96) rfl rfl k) ?_
      show own_Ends p.tables e below s _ _ _ (T47.setTop (mkF m 98 #[.val (.int x0_0), .val (.int x1_0), .val (.int (1 : Int32)), .val (.int (1 : Int32)), .val (.ref b1), .val (.ref b8), .val (.ref b5_3_31), .unset, .unset, .unset, .unset, .unset, .unset, .unset, .unset] [(.ref b8)]))
      refine own_step (fun t k => XS.iloadN X47.here hx rfl (hb hby at_98) rfl k) ?_
      show own_Ends p.tables e below s _ _ _ (T47.setTop (mkF m 99 #[.val (.int x0_0), .val (.int x1_0), .val (.int (1 : Int32)), .val (.int (1 : Int32)), .val (.ref b1), .val (.ref b8), .val (.ref b5_3_31), .unset, .unset, .unset, .unset, .unset, .unset, .unset, .unset] [(.int (1 : Int32)), (.ref b8)]))
      refine own_step (fun t k => XS.iconst X47.here hx rfl (hb hby at_99) k) ?_
      show own_Ends p.tables e below s _ _ _ (T47.setTop (mkF m 100 #[.val (.int x0_0), .val (.int x1_0), .val (.int (1 : Int32)), .val (.int (1 : Int32)), .val (.ref b1), .val (.ref b8), .val (.ref b5_3_31), .unset, .unset, .unset, .unset, .unset, .unset, .unset, .unset] [(.int (1 : Int32)), (.int (1 : Int32)), (.ref b8)]))
      refine own_step (fun t k => XS.isub X47.here hx rfl (hb hby at_100) rfl k) ?_
      show own_Ends p.tables e below s _ _ _ (T47.setTop (mkF m 101 #[.val (.int x0_0), .val (.int x1_0), .val (.int (1 : Int32)), .val (.int (1 : Int32)), .val (.ref b1), .val (.ref b8), .val (.ref b5_3_31), .unset, .unset, .unset, .unset, .unset, .unset, .unset, .unset] [(.int (0 : Int32)), (.ref b8)]))
      obtain ⟨cl52, Ar52, q52, S52, N52, H52, G52⟩ := id V47
      have hin52 : ¬ ((0 : Int32) < 0 ∨ cl52.slots.size ≤ ((0 : Int32)).toNatClampNeg) := inb_of S52 ⟨by decide, by decide⟩
      have hat52 : cl52.slots[((0 : Int32)).toNatClampNeg]? = some (.ref b2_4) := H52.at hin52 rfl
      refine own_step (fun t k => X47.aaload hx (j := (0 : Int32)) (v := (.ref b2_4)) (by rw [e47]; exact Ar52.1) (State.isArrayOf_alike hZ.alike Ar52.2.1) rfl Ar52.2.2 hin52 hat52 (g := (mkF m 101 #[.val (.int x0_0), .val (.int x1_0), .val (.int (1 : Int32)), .val (.int (1 : Int32)), .val (.ref b1), .val (.ref b8), .val (.ref b5_3_31), .unset, .unset, .unset, .unset, .unset, .unset, .unset, .unset] [(.int (0 : Int32)), (.ref b8)])) rfl rfl (hb hby at_101) _ k) ?_
      show own_Ends p.tables e below s _ _ _ (T47.setTop (mkF m 102 #[.val (.int x0_0), .val (.int x1_0), .val (.int (1 : Int32)), .val (.int (1 : Int32)), .val (.ref b1), .val (.ref b8), .val (.ref b5_3_31), .unset, .unset, .unset, .unset, .unset, .unset, .unset, .unset] [(.ref b2_4)]))
      refine own_step (fun t k => XS.astore X47.here hx rfl (hb hby at_102) rfl rfl (l' := #[.val (.int x0_0), .val (.int x1_0), .val (.int (1 : Int32)), .val (.int (1 : Int32)), .val (.ref b1), .val (.ref b8), .val (.ref b5_3_31), .val (.ref b2_4), .unset, .unset, .unset, .unset, .unset, .unset, .unset]) rfl k) ?_
      show own_Ends p.tables e below s _ _ _ (T47.setTop (mkF m 104 #[.val (.int x0_0), .val (.int x1_0), .val (.int (1 : Int32)), .val (.int (1 : Int32)), .val (.ref b1), .val (.ref b8), .val (.ref b5_3_31), .val (.ref b2_4), .unset, .unset, .unset, .unset, .unset, .unset, .unset] []))
      refine own_step (fun t k => XS.aload X47.here hx rfl (hb hby at_104) rfl rfl k) ?_
      show own_Ends p.tables e below s _ _ _ (T47.setTop (mkF m 106 #[.val (.int x0_0), .val (.int x1_0), .val (.int (1 : Int32)), .val (.int (1 : Int32)), .val (.ref b1), .val (.ref b8), .val (.ref b5_3_31), .val (.ref b2_4), .unset, .unset, .unset, .unset, .unset, .unset, .unset] [(.ref b8)]))
      refine own_step (fun t k => XS.iloadN X47.here hx rfl (hb hby at_106) rfl k) ?_
      show own_Ends p.tables e below s _ _ _ (T47.setTop (mkF m 107 #[.val (.int x0_0), .val (.int x1_0), .val (.int (1 : Int32)), .val (.int (1 : Int32)), .val (.ref b1), .val (.ref b8), .val (.ref b5_3_31), .val (.ref b2_4), .unset, .unset, .unset, .unset, .unset, .unset, .unset] [(.int (1 : Int32)), (.ref b8)]))
      refine own_step (fun t k => XS.iconst X47.here hx rfl (hb hby at_107) k) ?_
      show own_Ends p.tables e below s _ _ _ (T47.setTop (mkF m 108 #[.val (.int x0_0), .val (.int x1_0), .val (.int (1 : Int32)), .val (.int (1 : Int32)), .val (.ref b1), .val (.ref b8), .val (.ref b5_3_31), .val (.ref b2_4), .unset, .unset, .unset, .unset, .unset, .unset, .unset] [(.int (1 : Int32)), (.int (1 : Int32)), (.ref b8)]))
      refine own_step (fun t k => XS.iadd X47.here hx rfl (hb hby at_108) rfl k) ?_
      show own_Ends p.tables e below s _ _ _ (T47.setTop (mkF m 109 #[.val (.int x0_0), .val (.int x1_0), .val (.int (1 : Int32)), .val (.int (1 : Int32)), .val (.ref b1), .val (.ref b8), .val (.ref b5_3_31), .val (.ref b2_4), .unset, .unset, .unset, .unset, .unset, .unset, .unset] [(.int (2 : Int32)), (.ref b8)]))
      obtain ⟨cl53, Ar53, q53, S53, N53, H53, G53⟩ := id V47
      have hin53 : ¬ ((2 : Int32) < 0 ∨ cl53.slots.size ≤ ((2 : Int32)).toNatClampNeg) := inb_of S53 ⟨by decide, by decide⟩
      have hat53 : cl53.slots[((2 : Int32)).toNatClampNeg]? = some (.ref b16_4) := H53.at hin53 rfl
      refine own_step (fun t k => X47.aaload hx (j := (2 : Int32)) (v := (.ref b16_4)) (by rw [e47]; exact Ar53.1) (State.isArrayOf_alike hZ.alike Ar53.2.1) rfl Ar53.2.2 hin53 hat53 (g := (mkF m 109 #[.val (.int x0_0), .val (.int x1_0), .val (.int (1 : Int32)), .val (.int (1 : Int32)), .val (.ref b1), .val (.ref b8), .val (.ref b5_3_31), .val (.ref b2_4), .unset, .unset, .unset, .unset, .unset, .unset, .unset] [(.int (2 : Int32)), (.ref b8)])) rfl rfl (hb hby at_109) _ k) ?_
      show own_Ends p.tables e below s _ _ _ (T47.setTop (mkF m 110 #[.val (.int x0_0), .val (.int x1_0), .val (.int (1 : Int32)), .val (.int (1 : Int32)), .val (.ref b1), .val (.ref b8), .val (.ref b5_3_31), .val (.ref b2_4), .unset, .unset, .unset, .unset, .unset, .unset, .unset] [(.ref b16_4)]))
      refine own_step (fun t k => XS.astore X47.here hx rfl (hb hby at_110) rfl rfl (l' := #[.val (.int x0_0), .val (.int x1_0), .val (.int (1 : Int32)), .val (.int (1 : Int32)), .val (.ref b1), .val (.ref b8), .val (.ref b5_3_31), .val (.ref b2_4), .val (.ref b16_4), .unset, .unset, .unset, .unset, .unset, .unset]) rfl k) ?_
      show own_Ends p.tables e below s _ _ _ (T47.setTop (mkF m 112 #[.val (.int x0_0), .val (.int x1_0), .val (.int (1 : Int32)), .val (.int (1 : Int32)), .val (.ref b1), .val (.ref b8), .val (.ref b5_3_31), .val (.ref b2_4), .val (.ref b16_4), .unset, .unset, .unset, .unset, .unset, .unset] []))
      refine own_step (fun t k => XS.aload X47.here hx rfl (hb hby at_112) rfl rfl k) ?_
      show own_Ends p.tables e below s _ _ _ (T47.setTop (mkF m 114 #[.val (.int x0_0), .val (.int x1_0), .val (.int (1 : Int32)), .val (.int (1 : Int32)), .val (.ref b1), .val (.ref b8), .val (.ref b5_3_31), .val (.ref b2_4), .val (.ref b16_4), .unset, .unset, .unset, .unset, .unset, .unset] [(.ref b8)]))
      refine own_step (fun t k => XS.iloadN X47.here hx rfl (hb hby at_114) rfl k) ?_
      show own_Ends p.tables e below s _ _ _ (T47.setTop (mkF m 115 #[.val (.int x0_0), .val (.int x1_0), .val (.int (1 : Int32)), .val (.int (1 : Int32)), .val (.ref b1), .val (.ref b8), .val (.ref b5_3_31), .val (.ref b2_4), .val (.ref b16_4), .unset, .unset, .unset, .unset, .unset, .unset] [(.int (1 : Int32)), (.ref b8)]))
      refine own_step (fun t k => XS.iconst X47.here hx rfl (hb hby at_115) k) ?_
      show own_Ends p.tables e below s _ _ _ (T47.setTop (mkF m 116 #[.val (.int x0_0), .val (.int x1_0), .val (.int (1 : Int32)), .val (.int (1 : Int32)), .val (.ref b1), .val (.ref b8), .val (.ref b5_3_31), .val (.ref b2_4), .val (.ref b16_4), .unset, .unset, .unset, .unset, .unset, .unset] [(.int (0 : Int32)), (.int (1 : Int32)), (.ref b8)]))
      have O54 : Old Z n0 h47 := (O41.wr W47 g_b8)
      obtain ⟨_, _, ⟨T55, L55, k55, n55⟩, -, X55, ⟨Lc55, hQ55, l55, y55, z55⟩, st55⟩ := Jvm.LawKit.callS X47 hx (y := (⟨"com/example/serigraph/serigraph/view/OrderListRemovePinLaw", "at", "([Lcom/example/serigraph/serigraph/view/OrderList$Place;II)Lcom/example/serigraph/serigraph/view/OrderList$Place;"⟩ : MethodName)) hown (mvT hZ (hw _ (List.mem_of_getElem? (i := 57) rfl))) (mvT hZ (hw _ (List.mem_of_getElem? (i := 58) rfl))) (mvT hZ (hw _ (List.mem_of_getElem? (i := 59) rfl))) (mvT hZ (hw _ (List.mem_of_getElem? (i := 60) rfl))) (by decide) (backOf (W := 0) (rm9_1_0 l Z a0 hw [] b8 k8 (5 : Int32) [(.ref b2_4), (.ref b5_3_31), (.ref b16_4), .null, .null] .null b2_4 h47 n0 O54 V47 (by decide) rfl) hZ (hw _ (List.mem_of_getElem? (i := 60) rfl)) (hw _ (List.mem_of_getElem? (i := 59) rfl)) (by decide) (by decide)) (g := (mkF m 116 #[.val (.int x0_0), .val (.int x1_0), .val (.int (1 : Int32)), .val (.int (1 : Int32)), .val (.ref b1), .val (.ref b8), .val (.ref b5_3_31), .val (.ref b2_4), .val (.ref b16_4), .unset, .unset, .unset, .unset, .unset, .unset] [(.int (0 : Int32)), (.int (1 : Int32)), (.ref b8)])) rfl (by rw [hml]; rfl) (argsL := [(.ref b8), (.int (1 : Int32)), (.int (0 : Int32))]) (rest := []) (lenOf pd_4 rfl) rfl (by show 2 * 0 + _ ≤ _; exact Nat.le_of_eq rfl) (hb hby at_116) (fun _ _ => ⟨rfl, e47, (by decide : 5 + 0 ≤ _), (by decide : 16 + 0 ≤ _)⟩)
      dsimp only [Pt.U, Pt.locs, Pt.cells, Pt.slots] at X55 l55 y55 z55 st55 hQ55
      subst y55 z55
      obtain ⟨rfl, N55q, e55⟩ := hQ55
      refine own_step (fun t k => st55 _ k) ?_
      have N56 : Fr n0 L55 := by rw [l55]; exact Fr.app N49 N55q
      show own_Ends p.tables e below s _ _ _ (T55.setTop (mkF m 119 #[.val (.int x0_0), .val (.int x1_0), .val (.int (1 : Int32)), .val (.int (1 : Int32)), .val (.ref b1), .val (.ref b8), .val (.ref b5_3_31), .val (.ref b2_4), .val (.ref b16_4), .unset, .unset, .unset, .unset, .unset, .unset] [(.ref b2_4)]))
      refine own_step (fun t k => XS.astore X55.here hx rfl (hb hby at_119) rfl rfl (l' := #[.val (.int x0_0), .val (.int x1_0), .val (.int (1 : Int32)), .val (.int (1 : Int32)), .val (.ref b1), .val (.ref b8), .val (.ref b5_3_31), .val (.ref b2_4), .val (.ref b16_4), .val (.ref b2_4), .unset, .unset, .unset, .unset, .unset]) rfl k) ?_
      show own_Ends p.tables e below s _ _ _ (T55.setTop (mkF m 121 #[.val (.int x0_0), .val (.int x1_0), .val (.int (1 : Int32)), .val (.int (1 : Int32)), .val (.ref b1), .val (.ref b8), .val (.ref b5_3_31), .val (.ref b2_4), .val (.ref b16_4), .val (.ref b2_4), .unset, .unset, .unset, .unset, .unset] []))
      refine own_step (fun t k => XS.aload X55.here hx rfl (hb hby at_121) rfl rfl k) ?_
      show own_Ends p.tables e below s _ _ _ (T55.setTop (mkF m 123 #[.val (.int x0_0), .val (.int x1_0), .val (.int (1 : Int32)), .val (.int (1 : Int32)), .val (.ref b1), .val (.ref b8), .val (.ref b5_3_31), .val (.ref b2_4), .val (.ref b16_4), .val (.ref b2_4), .unset, .unset, .unset, .unset, .unset] [(.ref b8)]))
      refine own_step (fun t k => XS.iloadN X55.here hx rfl (hb hby at_123) rfl k) ?_
      show own_Ends p.tables e below s _ _ _ (T55.setTop (mkF m 124 #[.val (.int x0_0), .val (.int x1_0), .val (.int (1 : Int32)), .val (.int (1 : Int32)), .val (.ref b1), .val (.ref b8), .val (.ref b5_3_31), .val (.ref b2_4), .val (.ref b16_4), .val (.ref b2_4), .unset, .unset, .unset, .unset, .unset] [(.int (1 : Int32)), (.ref b8)]))
      refine own_step (fun t k => XS.iconst X55.here hx rfl (hb hby at_124) k) ?_
      show own_Ends p.tables e below s _ _ _ (T55.setTop (mkF m 125 #[.val (.int x0_0), .val (.int x1_0), .val (.int (1 : Int32)), .val (.int (1 : Int32)), .val (.ref b1), .val (.ref b8), .val (.ref b5_3_31), .val (.ref b2_4), .val (.ref b16_4), .val (.ref b2_4), .unset, .unset, .unset, .unset, .unset] [(.int (1 : Int32)), (.int (1 : Int32)), (.ref b8)]))
      obtain ⟨_, _, ⟨T57, L57, k57, n57⟩, -, X57, ⟨Lc57, hQ57, l57, y57, z57⟩, st57⟩ := Jvm.LawKit.callS X55 hx (y := (⟨"com/example/serigraph/serigraph/view/OrderListRemovePinLaw", "at", "([Lcom/example/serigraph/serigraph/view/OrderList$Place;II)Lcom/example/serigraph/serigraph/view/OrderList$Place;"⟩ : MethodName)) hown (mvT hZ (hw _ (List.mem_of_getElem? (i := 57) rfl))) (mvT hZ (hw _ (List.mem_of_getElem? (i := 58) rfl))) (mvT hZ (hw _ (List.mem_of_getElem? (i := 59) rfl))) (mvT hZ (hw _ (List.mem_of_getElem? (i := 60) rfl))) (by decide) (backOf (W := 0) (rm9_1_1 l Z a0 hw [] b8 k8 (5 : Int32) [(.ref b2_4), (.ref b5_3_31), (.ref b16_4), .null, .null] .null b16_4 h47 n0 O54 V47 (by decide) rfl) hZ (hw _ (List.mem_of_getElem? (i := 60) rfl)) (hw _ (List.mem_of_getElem? (i := 59) rfl)) (by decide) (by decide)) (g := (mkF m 125 #[.val (.int x0_0), .val (.int x1_0), .val (.int (1 : Int32)), .val (.int (1 : Int32)), .val (.ref b1), .val (.ref b8), .val (.ref b5_3_31), .val (.ref b2_4), .val (.ref b16_4), .val (.ref b2_4), .unset, .unset, .unset, .unset, .unset] [(.int (1 : Int32)), (.int (1 : Int32)), (.ref b8)])) rfl (by rw [hml]; rfl) (argsL := [(.ref b8), (.int (1 : Int32)), (.int (1 : Int32))]) (rest := []) (lenOf pd_4 rfl) rfl (by show 2 * 0 + _ ≤ _; exact Nat.le_of_eq rfl) (hb hby at_125) (fun _ _ => ⟨rfl, e55, (by decide : 5 + 0 ≤ _), (by decide : 16 + 0 ≤ _)⟩)
      dsimp only [Pt.U, Pt.locs, Pt.cells, Pt.slots] at X57 l57 y57 z57 st57 hQ57
      subst y57 z57
      obtain ⟨rfl, N57q, e57⟩ := hQ57
      refine own_step (fun t k => st57 _ k) ?_
      have N58 : Fr n0 L57 := by rw [l57]; exact Fr.app N56 N57q
      show own_Ends p.tables e below s _ _ _ (T57.setTop (mkF m 128 #[.val (.int x0_0), .val (.int x1_0), .val (.int (1 : Int32)), .val (.int (1 : Int32)), .val (.ref b1), .val (.ref b8), .val (.ref b5_3_31), .val (.ref b2_4), .val (.ref b16_4), .val (.ref b2_4), .unset, .unset, .unset, .unset, .unset] [(.ref b16_4)]))
      refine own_step (fun t k => XS.astore X57.here hx rfl (hb hby at_128) rfl rfl (l' := #[.val (.int x0_0), .val (.int x1_0), .val (.int (1 : Int32)), .val (.int (1 : Int32)), .val (.ref b1), .val (.ref b8), .val (.ref b5_3_31), .val (.ref b2_4), .val (.ref b16_4), .val (.ref b2_4), .val (.ref b16_4), .unset, .unset, .unset, .unset]) rfl k) ?_
      show own_Ends p.tables e below s _ _ _ (T57.setTop (mkF m 130 #[.val (.int x0_0), .val (.int x1_0), .val (.int (1 : Int32)), .val (.int (1 : Int32)), .val (.ref b1), .val (.ref b8), .val (.ref b5_3_31), .val (.ref b2_4), .val (.ref b16_4), .val (.ref b2_4), .val (.ref b16_4), .unset, .unset, .unset, .unset] []))
      refine own_step (fun t k => XS.iloadN X57.here hx rfl (hb hby at_130) rfl k) ?_
      show own_Ends p.tables e below s _ _ _ (T57.setTop (mkF m 131 #[.val (.int x0_0), .val (.int x1_0), .val (.int (1 : Int32)), .val (.int (1 : Int32)), .val (.ref b1), .val (.ref b8), .val (.ref b5_3_31), .val (.ref b2_4), .val (.ref b16_4), .val (.ref b2_4), .val (.ref b16_4), .unset, .unset, .unset, .unset] [(.int (1 : Int32))]))
      refine own_step (fun t k => XS.iconst X57.here hx rfl (hb hby at_131) k) ?_
      show own_Ends p.tables e below s _ _ _ (T57.setTop (mkF m 132 #[.val (.int x0_0), .val (.int x1_0), .val (.int (1 : Int32)), .val (.int (1 : Int32)), .val (.ref b1), .val (.ref b8), .val (.ref b5_3_31), .val (.ref b2_4), .val (.ref b16_4), .val (.ref b2_4), .val (.ref b16_4), .unset, .unset, .unset, .unset] [(.int (2 : Int32)), (.int (1 : Int32))]))
      refine own_step (fun t k => XS.icmpYes X57.here hx rfl (pc0 := 132) (pc' := 145) rfl (hb hby at_132) rfl (tlt (by decide : (1 : Int32) < (2 : Int32))).1 (by decide) (by decide) k) ?_
      show own_Ends p.tables e below s _ _ _ (T57.setTop (mkF m 145 #[.val (.int x0_0), .val (.int x1_0), .val (.int (1 : Int32)), .val (.int (1 : Int32)), .val (.ref b1), .val (.ref b8), .val (.ref b5_3_31), .val (.ref b2_4), .val (.ref b16_4), .val (.ref b2_4), .val (.ref b16_4), .unset, .unset, .unset, .unset] []))
      refine own_step (fun t k => XS.aconstNull X57.here hx rfl (hb hby at_145) k) ?_
      show own_Ends p.tables e below s _ _ _ (T57.setTop (mkF m 146 #[.val (.int x0_0), .val (.int x1_0), .val (.int (1 : Int32)), .val (.int (1 : Int32)), .val (.ref b1), .val (.ref b8), .val (.ref b5_3_31), .val (.ref b2_4), .val (.ref b16_4), .val (.ref b2_4), .val (.ref b16_4), .unset, .unset, .unset, .unset] [.null]))
      refine own_step (fun t k => XS.astore X57.here hx rfl (hb hby at_146) rfl rfl (l' := #[.val (.int x0_0), .val (.int x1_0), .val (.int (1 : Int32)), .val (.int (1 : Int32)), .val (.ref b1), .val (.ref b8), .val (.ref b5_3_31), .val (.ref b2_4), .val (.ref b16_4), .val (.ref b2_4), .val (.ref b16_4), .val .null, .unset, .unset, .unset]) rfl k) ?_
      show own_Ends p.tables e below s _ _ _ (T57.setTop (mkF m 148 #[.val (.int x0_0), .val (.int x1_0), .val (.int (1 : Int32)), .val (.int (1 : Int32)), .val (.ref b1), .val (.ref b8), .val (.ref b5_3_31), .val (.ref b2_4), .val (.ref b16_4), .val (.ref b2_4), .val (.ref b16_4), .val .null, .unset, .unset, .unset] []))
      refine own_step (fun t k => XS.iloadN X57.here hx rfl (hb hby at_148) rfl k) ?_
      show own_Ends p.tables e below s _ _ _ (T57.setTop (mkF m 149 #[.val (.int x0_0), .val (.int x1_0), .val (.int (1 : Int32)), .val (.int (1 : Int32)), .val (.ref b1), .val (.ref b8), .val (.ref b5_3_31), .val (.ref b2_4), .val (.ref b16_4), .val (.ref b2_4), .val (.ref b16_4), .val .null, .unset, .unset, .unset] [(.int (1 : Int32))]))
      refine own_step (fun t k => XS.iconst X57.here hx rfl (hb hby at_149) k) ?_
      show own_Ends p.tables e below s _ _ _ (T57.setTop (mkF m 150 #[.val (.int x0_0), .val (.int x1_0), .val (.int (1 : Int32)), .val (.int (1 : Int32)), .val (.ref b1), .val (.ref b8), .val (.ref b5_3_31), .val (.ref b2_4), .val (.ref b16_4), .val (.ref b2_4), .val (.ref b16_4), .val .null, .unset, .unset, .unset] [(.int (3 : Int32)), (.int (1 : Int32))]))
      refine own_step (fun t k => XS.icmpYes X57.here hx rfl (pc0 := 150) (pc' := 163) rfl (hb hby at_150) rfl (tlt (by decide : (1 : Int32) < (3 : Int32))).1 (by decide) (by decide) k) ?_
      show own_Ends p.tables e below s _ _ _ (T57.setTop (mkF m 163 #[.val (.int x0_0), .val (.int x1_0), .val (.int (1 : Int32)), .val (.int (1 : Int32)), .val (.ref b1), .val (.ref b8), .val (.ref b5_3_31), .val (.ref b2_4), .val (.ref b16_4), .val (.ref b2_4), .val (.ref b16_4), .val .null, .unset, .unset, .unset] []))
      refine own_step (fun t k => XS.aconstNull X57.here hx rfl (hb hby at_163) k) ?_
      show own_Ends p.tables e below s _ _ _ (T57.setTop (mkF m 164 #[.val (.int x0_0), .val (.int x1_0), .val (.int (1 : Int32)), .val (.int (1 : Int32)), .val (.ref b1), .val (.ref b8), .val (.ref b5_3_31), .val (.ref b2_4), .val (.ref b16_4), .val (.ref b2_4), .val (.ref b16_4), .val .null, .unset, .unset, .unset] [.null]))
      refine own_step (fun t k => XS.astore X57.here hx rfl (hb hby at_164) rfl rfl (l' := #[.val (.int x0_0), .val (.int x1_0), .val (.int (1 : Int32)), .val (.int (1 : Int32)), .val (.ref b1), .val (.ref b8), .val (.ref b5_3_31), .val (.ref b2_4), .val (.ref b16_4), .val (.ref b2_4), .val (.ref b16_4), .val .null, .val .null, .unset, .unset]) rfl k) ?_
      show own_Ends p.tables e below s _ _ _ (T57.setTop (mkF m 166 #[.val (.int x0_0), .val (.int x1_0), .val (.int (1 : Int32)), .val (.int (1 : Int32)), .val (.ref b1), .val (.ref b8), .val (.ref b5_3_31), .val (.ref b2_4), .val (.ref b16_4), .val (.ref b2_4), .val (.ref b16_4), .val .null, .val .null, .unset, .unset] []))
      refine own_step (fun t k => XS.aload X57.here hx rfl (hb hby at_166) rfl rfl k) ?_
      show own_Ends p.tables e below s _ _ _ (T57.setTop (mkF m 168 #[.val (.int x0_0), .val (.int x1_0), .val (.int (1 : Int32)), .val (.int (1 : Int32)), .val (.ref b1), .val (.ref b8), .val (.ref b5_3_31), .val (.ref b2_4), .val (.ref b16_4), .val (.ref b2_4), .val (.ref b16_4), .val .null, .val .null, .unset, .unset] [(.ref b1)]))
      refine own_step (fun t k => XS.aload X57.here hx rfl (hb hby at_168) rfl rfl k) ?_
      show own_Ends p.tables e below s _ _ _ (T57.setTop (mkF m 170 #[.val (.int x0_0), .val (.int x1_0), .val (.int (1 : Int32)), .val (.int (1 : Int32)), .val (.ref b1), .val (.ref b8), .val (.ref b5_3_31), .val (.ref b2_4), .val (.ref b16_4), .val (.ref b2_4), .val (.ref b16_4), .val .null, .val .null, .unset, .unset] [(.ref b5_3_31), (.ref b1)]))
      have F59 : Fld Z h47 b5_3_31 "com/example/serigraph/serigraph/view/OrderList$Place" "previous" "Lcom/example/serigraph/serigraph/view/OrderList$Place;" (.ref b2_4) := ((p31_12.other W36 (Or.inl (Ne.symm ne_b8_b5_3_31))).other W47 (Or.inl (Ne.symm ne_b8_b5_3_31)))
      have F60 : Fld Z h47 b5_3_31 "com/example/serigraph/serigraph/view/OrderList$Place" "next" "Lcom/example/serigraph/serigraph/view/OrderList$Place;" (.ref b16_4) := ((p31_11.other W36 (Or.inl (Ne.symm ne_b8_b5_3_31))).other W47 (Or.inl (Ne.symm ne_b8_b5_3_31)))
      have F61 : Exa Z h47 b2_4 "com/example/serigraph/serigraph/view/OrderList$Place" := ((p31_4.wr W36).wr W47)
      have F62 : Fld Z h47 b2_4 "com/example/serigraph/serigraph/view/OrderList$Place" "next" "Lcom/example/serigraph/serigraph/view/OrderList$Place;" (.ref b5_3_31) := ((p31_2.other W36 (Or.inl ne_b2_4_b8)).other W47 (Or.inl ne_b2_4_b8))
      have F63 : Exa Z h47 b16_4 "com/example/serigraph/serigraph/view/OrderList$Place" := (F46.wr W47)
      have F64 : Fld Z h47 b16_4 "com/example/serigraph/serigraph/view/OrderList$Place" "previous" "Lcom/example/serigraph/serigraph/view/OrderList$Place;" (.ref b5_3_31) := ((p31_7.other W36 (Or.inl ne_b16_4_b8)).other W47 (Or.inl ne_b16_4_b8))
      have F65 : Fld Z h47 b2_4 "com/example/serigraph/serigraph/view/OrderList$Place" "label" "J" (.long (0 : Int64)) := ((p31_3.other W36 (Or.inl ne_b2_4_b8)).other W47 (Or.inl ne_b2_4_b8))
      have F66 : Fld Z h47 b2_4 "com/example/serigraph/serigraph/view/OrderList$Place" "previous" "Lcom/example/serigraph/serigraph/view/OrderList$Place;" .null := ((p31_1.other W36 (Or.inl ne_b2_4_b8)).other W47 (Or.inl ne_b2_4_b8))
      have F67 : Fld Z h47 b16_4 "com/example/serigraph/serigraph/view/OrderList$Place" "label" "J" (.long (4611686018427387904 : Int64)) := ((p31_5.other W36 (Or.inl ne_b16_4_b8)).other W47 (Or.inl ne_b16_4_b8))
      have F68 : Fld Z h47 b16_4 "com/example/serigraph/serigraph/view/OrderList$Place" "next" "Lcom/example/serigraph/serigraph/view/OrderList$Place;" .null := ((p31_8.other W36 (Or.inl ne_b16_4_b8)).other W47 (Or.inl ne_b16_4_b8))
      have F70 : Exa Z h47 b1 "com/example/serigraph/serigraph/view/OrderList" := (F43.wr W47)
      obtain ⟨cq69, kq69, q69a, q69b, q69c⟩ := isOf hZ e57 F70
      obtain ⟨_, _, ⟨T69, L69, k69, n69⟩, -, X69, ⟨Lc69, hQ69, l69, y69, z69⟩, st69⟩ := X57.virtualBack hx (y := (⟨"com/example/serigraph/serigraph/view/OrderList", "remove", "(Lcom/example/serigraph/serigraph/view/OrderList$Place;)V"⟩ : MethodName)) (z := (⟨"com/example/serigraph/serigraph/view/OrderList", "remove", "(Lcom/example/serigraph/serigraph/view/OrderList$Place;)V"⟩ : MethodName)) hown (mvT hZ (hw _ (List.mem_of_getElem? (i := 61) rfl))) (mvT hZ (hw _ (List.mem_of_getElem? (i := 62) rfl))) (notFace_of_selects (args := #[]) (mvT hZ (hw _ (List.mem_of_getElem? (i := 64) rfl)))) (mvT hZ (hw _ (List.mem_of_getElem? (i := 64) rfl))) (mvT hZ (hw _ (List.mem_of_getElem? (i := 63) rfl))) (by decide) (backOf (W := 0) (rm10 l Z a0 hw [] b1 b5_3_31 (.long (0 : Int64)) .null (.long (4611686018427387904 : Int64)) .null b2_4 b16_4 (.ref b5_3_31) (.ref b5_3_31) h47 n0 O54 F65 F66 F67 F68 F59 F60 F61 F62 g_b2_4 (Ne.symm ne_b2_4_b5_3_31) F63 F64 (Ne.symm p4_13) g_b16_4) hZ (hw _ (List.mem_of_getElem? (i := 65) rfl)) (hw _ (List.mem_of_getElem? (i := 3) rfl)) (by decide) (by decide)) q69a q69c (g := (mkF m 170 #[.val (.int x0_0), .val (.int x1_0), .val (.int (1 : Int32)), .val (.int (1 : Int32)), .val (.ref b1), .val (.ref b8), .val (.ref b5_3_31), .val (.ref b2_4), .val (.ref b16_4), .val (.ref b2_4), .val (.ref b16_4), .val .null, .val .null, .unset, .unset] [(.ref b5_3_31), (.ref b1)])) rfl (by rw [hml]; rfl) (Steps.refl _) (argsL := [(.ref b5_3_31)]) (rest := []) (lenOf pd_5 rfl) rfl (by show 2 * 0 + _ ≤ _; exact Nat.le_of_eq rfl) (hb hby at_170) (fun _ _ => ⟨rfl, e57, (by decide : 5 + 0 ≤ _), (by decide : 16 + 0 ≤ _)⟩)
      dsimp only [Pt.U, Pt.locs, Pt.cells, Pt.slots] at X69 l69 y69 z69 st69 hQ69
      subst y69 z69
      obtain ⟨rfl, N69q, K69q, p69_0, p69_1, p69_2, p69_3, p69_4, p69_5, p69_6, p69_7⟩ := hQ69
      refine own_step (fun t k => st69.trans k) ?_
      have N71 : Fr n0 L69 := by rw [l69]; exact Fr.app N58 N69q
      have K72 : Keep h0 T69.heap [] := K48.trans K69q (allS (Or.inr sz_b2_4) (allS (Or.inr sz_b16_4) all0))
      show own_Ends p.tables e below s _ _ _ (T69.setTop (mkF m 173 #[.val (.int x0_0), .val (.int x1_0), .val (.int (1 : Int32)), .val (.int (1 : Int32)), .val (.ref b1), .val (.ref b8), .val (.ref b5_3_31), .val (.ref b2_4), .val (.ref b16_4), .val (.ref b2_4), .val (.ref b16_4), .val .null, .val .null, .unset, .unset] []))
      refine own_step (fun t k => XS.aload X69.here hx rfl (hb hby at_173) rfl rfl k) ?_
      show own_Ends p.tables e below s _ _ _ (T69.setTop (mkF m 175 #[.val (.int x0_0), .val (.int x1_0), .val (.int (1 : Int32)), .val (.int (1 : Int32)), .val (.ref b1), .val (.ref b8), .val (.ref b5_3_31), .val (.ref b2_4), .val (.ref b16_4), .val (.ref b2_4), .val (.ref b16_4), .val .null, .val .null, .unset, .unset] [(.ref b16_4)]))
      have O73 : Old Z n0 T69.heap := (O54.keep K69q (allS g_b2_4 (allS g_b16_4 all0)))
      obtain ⟨cq74, kq74, q74a, q74b, q74c⟩ := isOf hZ rfl p69_6
      obtain ⟨_, _, ⟨T74, L74, k74, n74⟩, -, X74, ⟨Lc74, hQ74, l74, y74, z74⟩, st74⟩ := X69.virtualBack hx (y := (⟨"com/example/serigraph/serigraph/view/OrderList$Place", "previous", "()Lcom/example/serigraph/serigraph/view/OrderList$Place;"⟩ : MethodName)) (z := (⟨"com/example/serigraph/serigraph/view/OrderList$Place", "previous", "()Lcom/example/serigraph/serigraph/view/OrderList$Place;"⟩ : MethodName)) hown (mvT hZ (hw _ (List.mem_of_getElem? (i := 66) rfl))) (mvT hZ (hw _ (List.mem_of_getElem? (i := 67) rfl))) (notFace_of_selects (args := #[]) (mvT hZ (hw _ (List.mem_of_getElem? (i := 69) rfl)))) (mvT hZ (hw _ (List.mem_of_getElem? (i := 69) rfl))) (mvT hZ (hw _ (List.mem_of_getElem? (i := 68) rfl))) (by decide) (backOf (W := 0) (rm11 l Z a0 hw [] b16_4 b2_4 T69.heap n0 O73 p69_7) hZ (hw _ (List.mem_of_getElem? (i := 70) rfl)) (hw _ (List.mem_of_getElem? (i := 12) rfl)) (by decide) (by decide)) q74a q74c (g := (mkF m 175 #[.val (.int x0_0), .val (.int x1_0), .val (.int (1 : Int32)), .val (.int (1 : Int32)), .val (.ref b1), .val (.ref b8), .val (.ref b5_3_31), .val (.ref b2_4), .val (.ref b16_4), .val (.ref b2_4), .val (.ref b16_4), .val .null, .val .null, .unset, .unset] [(.ref b16_4)])) rfl (by rw [hml]; rfl) (Steps.refl _) (argsL := []) (rest := []) (lenOf pd_3 rfl) rfl (by show 2 * 0 + _ ≤ _; exact Nat.le_of_eq rfl) (hb hby at_175) (fun _ _ => ⟨rfl, rfl, (by decide : 5 + 0 ≤ _), (by decide : 16 + 0 ≤ _)⟩)
      dsimp only [Pt.U, Pt.locs, Pt.cells, Pt.slots] at X74 l74 y74 z74 st74 hQ74
      subst y74 z74
      obtain ⟨rfl, N74q, e74⟩ := hQ74
      refine own_step (fun t k => st74.trans k) ?_
      have N75 : Fr n0 L74 := by rw [l74]; exact Fr.app N71 N74q
      show own_Ends p.tables e below s _ _ _ (T74.setTop (mkF m 178 #[.val (.int x0_0), .val (.int x1_0), .val (.int (1 : Int32)), .val (.int (1 : Int32)), .val (.ref b1), .val (.ref b8), .val (.ref b5_3_31), .val (.ref b2_4), .val (.ref b16_4), .val (.ref b2_4), .val (.ref b16_4), .val .null, .val .null, .unset, .unset] [(.ref b2_4)]))
      refine own_step (fun t k => XS.aload X74.here hx rfl (hb hby at_178) rfl rfl k) ?_
      show own_Ends p.tables e below s _ _ _ (T74.setTop (mkF m 180 #[.val (.int x0_0), .val (.int x1_0), .val (.int (1 : Int32)), .val (.int (1 : Int32)), .val (.ref b1), .val (.ref b8), .val (.ref b5_3_31), .val (.ref b2_4), .val (.ref b16_4), .val (.ref b2_4), .val (.ref b16_4), .val .null, .val .null, .unset, .unset] [(.ref b2_4), (.ref b2_4)]))
      refine own_step (fun t k => Jvm.RoadKit.acmp (g := (mkF m 180 #[.val (.int x0_0), .val (.int x1_0), .val (.int (1 : Int32)), .val (.int (1 : Int32)), .val (.ref b1), .val (.ref b8), .val (.ref b5_3_31), .val (.ref b2_4), .val (.ref b16_4), .val (.ref b2_4), .val (.ref b16_4), .val .null, .val .null, .unset, .unset] [(.ref b2_4), (.ref b2_4)])) X74 hx rfl rfl rfl (pc0 := 180) (pc' := 183) (same := true) rfl (hb hby at_180) rfl (decide_eq_true rfl) (by decide) (by decide) k) ?_
      show own_Ends p.tables e below s _ _ _ (T74.setTop (mkF m 183 #[.val (.int x0_0), .val (.int x1_0), .val (.int (1 : Int32)), .val (.int (1 : Int32)), .val (.ref b1), .val (.ref b8), .val (.ref b5_3_31), .val (.ref b2_4), .val (.ref b16_4), .val (.ref b2_4), .val (.ref b16_4), .val .null, .val .null, .unset, .unset] []))
      refine own_step (fun t k => XS.iconst X74.here hx rfl (hb hby at_183) k) ?_
      show own_Ends p.tables e below s _ _ _ (T74.setTop (mkF m 184 #[.val (.int x0_0), .val (.int x1_0), .val (.int (1 : Int32)), .val (.int (1 : Int32)), .val (.ref b1), .val (.ref b8), .val (.ref b5_3_31), .val (.ref b2_4), .val (.ref b16_4), .val (.ref b2_4), .val (.ref b16_4), .val .null, .val .null, .unset, .unset] [(.int (1 : Int32))]))
      refine own_step (fun t k => XS.goto X74.here hx rfl (pc0 := 184) (pc' := 188) rfl (hb hby at_184) (by decide) (by decide) k) ?_
      show own_Ends p.tables e below s _ _ _ (T74.setTop (mkF m 188 #[.val (.int x0_0), .val (.int x1_0), .val (.int (1 : Int32)), .val (.int (1 : Int32)), .val (.ref b1), .val (.ref b8), .val (.ref b5_3_31), .val (.ref b2_4), .val (.ref b16_4), .val (.ref b2_4), .val (.ref b16_4), .val .null, .val .null, .unset, .unset] [(.int (1 : Int32))]))
      refine own_step (fun t k => XS.istore X74.here hx rfl (hb hby at_188) rfl (l' := #[.val (.int x0_0), .val (.int x1_0), .val (.int (1 : Int32)), .val (.int (1 : Int32)), .val (.ref b1), .val (.ref b8), .val (.ref b5_3_31), .val (.ref b2_4), .val (.ref b16_4), .val (.ref b2_4), .val (.ref b16_4), .val .null, .val .null, .val (.int (1 : Int32)), .unset]) rfl k) ?_
      show own_Ends p.tables e below s _ _ _ (T74.setTop (mkF m 190 #[.val (.int x0_0), .val (.int x1_0), .val (.int (1 : Int32)), .val (.int (1 : Int32)), .val (.ref b1), .val (.ref b8), .val (.ref b5_3_31), .val (.ref b2_4), .val (.ref b16_4), .val (.ref b2_4), .val (.ref b16_4), .val .null, .val .null, .val (.int (1 : Int32)), .unset] []))
      refine own_step (fun t k => XS.iloadN X74.here hx rfl (hb hby at_190) rfl k) ?_
      show own_Ends p.tables e below s _ _ _ (T74.setTop (mkF m 191 #[.val (.int x0_0), .val (.int x1_0), .val (.int (1 : Int32)), .val (.int (1 : Int32)), .val (.ref b1), .val (.ref b8), .val (.ref b5_3_31), .val (.ref b2_4), .val (.ref b16_4), .val (.ref b2_4), .val (.ref b16_4), .val .null, .val .null, .val (.int (1 : Int32)), .unset] [(.int (1 : Int32))]))
      refine own_step (fun t k => XS.iconst X74.here hx rfl (hb hby at_191) k) ?_
      show own_Ends p.tables e below s _ _ _ (T74.setTop (mkF m 192 #[.val (.int x0_0), .val (.int x1_0), .val (.int (1 : Int32)), .val (.int (1 : Int32)), .val (.ref b1), .val (.ref b8), .val (.ref b5_3_31), .val (.ref b2_4), .val (.ref b16_4), .val (.ref b2_4), .val (.ref b16_4), .val .null, .val .null, .val (.int (1 : Int32)), .unset] [(.int (2 : Int32)), (.int (1 : Int32))]))
      refine own_step (fun t k => XS.icmpYes X74.here hx rfl (pc0 := 192) (pc' := 217) rfl (hb hby at_192) rfl (tlt (by decide : (1 : Int32) < (2 : Int32))).1 (by decide) (by decide) k) ?_
      show own_Ends p.tables e below s _ _ _ (T74.setTop (mkF m 217 #[.val (.int x0_0), .val (.int x1_0), .val (.int (1 : Int32)), .val (.int (1 : Int32)), .val (.ref b1), .val (.ref b8), .val (.ref b5_3_31), .val (.ref b2_4), .val (.ref b16_4), .val (.ref b2_4), .val (.ref b16_4), .val .null, .val .null, .val (.int (1 : Int32)), .unset] []))
      refine own_step (fun t k => XS.iloadN X74.here hx rfl (hb hby at_217) rfl k) ?_
      show own_Ends p.tables e below s _ _ _ (T74.setTop (mkF m 218 #[.val (.int x0_0), .val (.int x1_0), .val (.int (1 : Int32)), .val (.int (1 : Int32)), .val (.ref b1), .val (.ref b8), .val (.ref b5_3_31), .val (.ref b2_4), .val (.ref b16_4), .val (.ref b2_4), .val (.ref b16_4), .val .null, .val .null, .val (.int (1 : Int32)), .unset] [(.int (1 : Int32))]))
      refine own_step (fun t k => XS.iconst X74.here hx rfl (hb hby at_218) k) ?_
      show own_Ends p.tables e below s _ _ _ (T74.setTop (mkF m 219 #[.val (.int x0_0), .val (.int x1_0), .val (.int (1 : Int32)), .val (.int (1 : Int32)), .val (.ref b1), .val (.ref b8), .val (.ref b5_3_31), .val (.ref b2_4), .val (.ref b16_4), .val (.ref b2_4), .val (.ref b16_4), .val .null, .val .null, .val (.int (1 : Int32)), .unset] [(.int (3 : Int32)), (.int (1 : Int32))]))
      refine own_step (fun t k => XS.icmpYes X74.here hx rfl (pc0 := 219) (pc' := 244) rfl (hb hby at_219) rfl (tlt (by decide : (1 : Int32) < (3 : Int32))).1 (by decide) (by decide) k) ?_
      show own_Ends p.tables e below s _ _ _ (T74.setTop (mkF m 244 #[.val (.int x0_0), .val (.int x1_0), .val (.int (1 : Int32)), .val (.int (1 : Int32)), .val (.ref b1), .val (.ref b8), .val (.ref b5_3_31), .val (.ref b2_4), .val (.ref b16_4), .val (.ref b2_4), .val (.ref b16_4), .val .null, .val .null, .val (.int (1 : Int32)), .unset] []))
      refine own_step (fun t k => XS.aload X74.here hx rfl (hb hby at_244) rfl rfl k) ?_
      show own_Ends p.tables e below s _ _ _ (T74.setTop (mkF m 246 #[.val (.int x0_0), .val (.int x1_0), .val (.int (1 : Int32)), .val (.int (1 : Int32)), .val (.ref b1), .val (.ref b8), .val (.ref b5_3_31), .val (.ref b2_4), .val (.ref b16_4), .val (.ref b2_4), .val (.ref b16_4), .val .null, .val .null, .val (.int (1 : Int32)), .unset] [(.ref b1)]))
      refine own_step (fun t k => XS.aload X74.here hx rfl (hb hby at_246) rfl rfl k) ?_
      show own_Ends p.tables e below s _ _ _ (T74.setTop (mkF m 248 #[.val (.int x0_0), .val (.int x1_0), .val (.int (1 : Int32)), .val (.int (1 : Int32)), .val (.ref b1), .val (.ref b8), .val (.ref b5_3_31), .val (.ref b2_4), .val (.ref b16_4), .val (.ref b2_4), .val (.ref b16_4), .val .null, .val .null, .val (.int (1 : Int32)), .unset] [(.ref b2_4), (.ref b1)]))
      have F77 : Exa Z T69.heap b1 "com/example/serigraph/serigraph/view/OrderList" := (F70.keep K69q)
      obtain ⟨cq76, kq76, q76a, q76b, q76c⟩ := isOf hZ e74 F77
      obtain ⟨_, _, ⟨T76, L76, k76, n76⟩, -, X76, ⟨Lc76, hQ76, l76, y76, z76⟩, st76⟩ := X74.virtualBack hx (y := (⟨"com/example/serigraph/serigraph/view/OrderList", "insertAfter", "(Lcom/example/serigraph/serigraph/view/OrderList$Place;)Lcom/example/serigraph/serigraph/view/OrderList$Place;"⟩ : MethodName)) (z := (⟨"com/example/serigraph/serigraph/view/OrderList", "insertAfter", "(Lcom/example/serigraph/serigraph/view/OrderList$Place;)Lcom/example/serigraph/serigraph/view/OrderList$Place;"⟩ : MethodName)) hown (mvT hZ (hw _ (List.mem_of_getElem? (i := 72) rfl))) (mvT hZ (hw _ (List.mem_of_getElem? (i := 42) rfl))) (notFace_of_selects (args := #[]) (mvT hZ (hw _ (List.mem_of_getElem? (i := 44) rfl)))) (mvT hZ (hw _ (List.mem_of_getElem? (i := 44) rfl))) (mvT hZ (hw _ (List.mem_of_getElem? (i := 43) rfl))) (by decide) (backOf (W := 0) (rm6 l Z a0 hw [] b1 b2_4 .null .null b16_4 (4611686018427387904 : Int64) (0 : Int64) (.ref b2_4) T69.heap n0 O73 (by decide +kernel) p69_5 p69_1 p69_3 p69_4 p69_0 p69_6 p69_7 g_b16_4 p69_2 p4_13 g_b2_4) hZ (hw _ (List.mem_of_getElem? (i := 45) rfl)) (hw _ (List.mem_of_getElem? (i := 3) rfl)) (by decide) (by decide)) q76a q76c (g := (mkF m 248 #[.val (.int x0_0), .val (.int x1_0), .val (.int (1 : Int32)), .val (.int (1 : Int32)), .val (.ref b1), .val (.ref b8), .val (.ref b5_3_31), .val (.ref b2_4), .val (.ref b16_4), .val (.ref b2_4), .val (.ref b16_4), .val .null, .val .null, .val (.int (1 : Int32)), .unset] [(.ref b2_4), (.ref b1)])) rfl (by rw [hml]; rfl) (Steps.refl _) (argsL := [(.ref b2_4)]) (rest := []) (lenOf pd_2 rfl) rfl (by show 2 * 0 + _ ≤ _; exact Nat.le_of_eq rfl) (hb hby at_248) (fun _ _ => ⟨rfl, e74, (by decide : 5 + 1 ≤ _), (by decide : 16 + 3 ≤ _)⟩)
      dsimp only [Pt.U, Pt.locs, Pt.cells, Pt.slots] at X76 l76 y76 z76 st76 hQ76
      subst y76 z76
      have F78 : Arv Z T69.heap b8 k8 (.object "com/example/serigraph/serigraph/view/OrderList$Place") (5 : Int32) [(.ref b2_4), (.ref b5_3_31), (.ref b16_4), .null, .null] .null := (V47.keep K69q (ninS (Ne.symm ne_b2_4_b8) (ninS (Ne.symm ne_b16_4_b8) nin0)))
      have F79 : Exa Z T69.heap b5_3_31 "com/example/serigraph/serigraph/view/OrderList$Place" := (((p31_9.wr W36).wr W47).keep K69q)
      obtain ⟨b5_76, rfl, N76q, K76q, p76_0, p76_1, p76_2, p76_3, p76_4, p76_5, p76_6, p76_7, p76_8, p76_9, p76_10, p76_11, p76_12⟩ := hQ76
      refine own_step (fun t k => st76.trans k) ?_
      have N80 : Fr n0 L76 := by rw [l76]; exact Fr.app N75 N76q
      have sz_b5_76 : h0.size ≤ b5_76 := Nat.le_trans K72.1 p76_0
      have g_b5_76 : n0 ≤ b5_76 := Nat.le_trans (Nat.le_trans (Nat.le_of_eq O73.1.symm) O73.2.1) p76_0
      have ne_b1_b5_76 : b1 ≠ b5_76 := Nat.ne_of_lt (Nat.lt_of_lt_of_le F77.lt p76_0)
      have ne_b2_4_b5_76 : b2_4 ≠ b5_76 := Nat.ne_of_lt (Nat.lt_of_lt_of_le p69_2.lt p76_0)
      have ne_b16_4_b5_76 : b16_4 ≠ b5_76 := Nat.ne_of_lt (Nat.lt_of_lt_of_le p69_6.lt p76_0)
      have ne_b8_b5_76 : b8 ≠ b5_76 := Nat.ne_of_lt (Nat.lt_of_lt_of_le F78.lt p76_0)
      have ne_b5_3_31_b5_76 : b5_3_31 ≠ b5_76 := Nat.ne_of_lt (Nat.lt_of_lt_of_le F79.lt p76_0)
      have K81 : Keep h0 T76.heap [] := K72.trans K76q (allS (Or.inr sz_b16_4) (allS (Or.inr sz_b2_4) all0))
      have p76_10c : Fld Z T76.heap b5_76 "com/example/serigraph/serigraph/view/OrderList$Place" "label" "J" (.long (4294967296 : Int64)) := Eq.mp (congrArg (fun z => Fld Z T76.heap b5_76 "com/example/serigraph/serigraph/view/OrderList$Place" "label" "J" (.long z)) (show ((0 : Int64) + (own_r7 (((4611686018427387904 : Int64) - (0 : Int64)) / (2 : Int64)) (4294967296 : Int64))) = (4294967296 : Int64) from by decide +kernel)) p76_10
      show own_Ends p.tables e below s _ _ _ (T76.setTop (mkF m 251 #[.val (.int x0_0), .val (.int x1_0), .val (.int (1 : Int32)), .val (.int (1 : Int32)), .val (.ref b1), .val (.ref b8), .val (.ref b5_3_31), .val (.ref b2_4), .val (.ref b16_4), .val (.ref b2_4), .val (.ref b16_4), .val .null, .val .null, .val (.int (1 : Int32)), .unset] [(.ref b5_76)]))
      refine own_step (fun t k => XS.astore X76.here hx rfl (hb hby at_251) rfl rfl (l' := #[.val (.int x0_0), .val (.int x1_0), .val (.int (1 : Int32)), .val (.int (1 : Int32)), .val (.ref b1), .val (.ref b8), .val (.ref b5_3_31), .val (.ref b2_4), .val (.ref b16_4), .val (.ref b2_4), .val (.ref b16_4), .val .null, .val .null, .val (.int (1 : Int32)), .val (.ref b5_76)]) rfl k) ?_
      show own_Ends p.tables e below s _ _ _ (T76.setTop (mkF m 253 #[.val (.int x0_0), .val (.int x1_0), .val (.int (1 : Int32)), .val (.int (1 : Int32)), .val (.ref b1), .val (.ref b8), .val (.ref b5_3_31), .val (.ref b2_4), .val (.ref b16_4), .val (.ref b2_4), .val (.ref b16_4), .val .null, .val .null, .val (.int (1 : Int32)), .val (.ref b5_76)] []))
      refine own_step (fun t k => XS.iload X76.here hx rfl (hb hby at_253) rfl k) ?_
      show own_Ends p.tables e below s _ _ _ (T76.setTop (mkF m 255 #[.val (.int x0_0), .val (.int x1_0), .val (.int (1 : Int32)), .val (.int (1 : Int32)), .val (.ref b1), .val (.ref b8), .val (.ref b5_3_31), .val (.ref b2_4), .val (.ref b16_4), .val (.ref b2_4), .val (.ref b16_4), .val .null, .val .null, .val (.int (1 : Int32)), .val (.ref b5_76)] [(.int (1 : Int32))]))
      refine own_step (fun t k => XS.ifNo X76.here hx rfl (hb hby at_255) rfl ((if0 _ _).trans (feq (by decide : ¬ ((1 : Int32) = (0 : Int32)))).1) k) ?_
      show own_Ends p.tables e below s _ _ _ (T76.setTop (mkF m 258 #[.val (.int x0_0), .val (.int x1_0), .val (.int (1 : Int32)), .val (.int (1 : Int32)), .val (.ref b1), .val (.ref b8), .val (.ref b5_3_31), .val (.ref b2_4), .val (.ref b16_4), .val (.ref b2_4), .val (.ref b16_4), .val .null, .val .null, .val (.int (1 : Int32)), .val (.ref b5_76)] []))
      refine own_step (fun t k => XS.aload X76.here hx rfl (hb hby at_258) rfl rfl k) ?_
      show own_Ends p.tables e below s _ _ _ (T76.setTop (mkF m 260 #[.val (.int x0_0), .val (.int x1_0), .val (.int (1 : Int32)), .val (.int (1 : Int32)), .val (.ref b1), .val (.ref b8), .val (.ref b5_3_31), .val (.ref b2_4), .val (.ref b16_4), .val (.ref b2_4), .val (.ref b16_4), .val .null, .val .null, .val (.int (1 : Int32)), .val (.ref b5_76)] [(.ref b16_4)]))
      have O82 : Old Z n0 T76.heap := (O73.keep K76q (allS g_b16_4 (allS g_b2_4 all0)))
      obtain ⟨cq83, kq83, q83a, q83b, q83c⟩ := isOf hZ rfl p76_3
      obtain ⟨_, _, ⟨T83, L83, k83, n83⟩, -, X83, ⟨Lc83, hQ83, l83, y83, z83⟩, st83⟩ := X76.virtualBack hx (y := (⟨"com/example/serigraph/serigraph/view/OrderList$Place", "previous", "()Lcom/example/serigraph/serigraph/view/OrderList$Place;"⟩ : MethodName)) (z := (⟨"com/example/serigraph/serigraph/view/OrderList$Place", "previous", "()Lcom/example/serigraph/serigraph/view/OrderList$Place;"⟩ : MethodName)) hown (mvT hZ (hw _ (List.mem_of_getElem? (i := 66) rfl))) (mvT hZ (hw _ (List.mem_of_getElem? (i := 67) rfl))) (notFace_of_selects (args := #[]) (mvT hZ (hw _ (List.mem_of_getElem? (i := 69) rfl)))) (mvT hZ (hw _ (List.mem_of_getElem? (i := 69) rfl))) (mvT hZ (hw _ (List.mem_of_getElem? (i := 68) rfl))) (by decide) (backOf (W := 0) (rm11 l Z a0 hw [] b16_4 b5_76 T76.heap n0 O82 p76_4) hZ (hw _ (List.mem_of_getElem? (i := 70) rfl)) (hw _ (List.mem_of_getElem? (i := 12) rfl)) (by decide) (by decide)) q83a q83c (g := (mkF m 260 #[.val (.int x0_0), .val (.int x1_0), .val (.int (1 : Int32)), .val (.int (1 : Int32)), .val (.ref b1), .val (.ref b8), .val (.ref b5_3_31), .val (.ref b2_4), .val (.ref b16_4), .val (.ref b2_4), .val (.ref b16_4), .val .null, .val .null, .val (.int (1 : Int32)), .val (.ref b5_76)] [(.ref b16_4)])) rfl (by rw [hml]; rfl) (Steps.refl _) (argsL := []) (rest := []) (lenOf pd_3 rfl) rfl (by show 2 * 0 + _ ≤ _; exact Nat.le_of_eq rfl) (hb hby at_260) (fun _ _ => ⟨rfl, rfl, (by decide : 6 + 0 ≤ _), (by decide : 19 + 0 ≤ _)⟩)
      dsimp only [Pt.U, Pt.locs, Pt.cells, Pt.slots] at X83 l83 y83 z83 st83 hQ83
      subst y83 z83
      obtain ⟨rfl, N83q, e83⟩ := hQ83
      refine own_step (fun t k => st83.trans k) ?_
      have N84 : Fr n0 L83 := by rw [l83]; exact Fr.app N80 N83q
      show own_Ends p.tables e below s _ _ _ (T83.setTop (mkF m 263 #[.val (.int x0_0), .val (.int x1_0), .val (.int (1 : Int32)), .val (.int (1 : Int32)), .val (.ref b1), .val (.ref b8), .val (.ref b5_3_31), .val (.ref b2_4), .val (.ref b16_4), .val (.ref b2_4), .val (.ref b16_4), .val .null, .val .null, .val (.int (1 : Int32)), .val (.ref b5_76)] [(.ref b5_76)]))
      refine own_step (fun t k => XS.aload X83.here hx rfl (hb hby at_263) rfl rfl k) ?_
      show own_Ends p.tables e below s _ _ _ (T83.setTop (mkF m 265 #[.val (.int x0_0), .val (.int x1_0), .val (.int (1 : Int32)), .val (.int (1 : Int32)), .val (.ref b1), .val (.ref b8), .val (.ref b5_3_31), .val (.ref b2_4), .val (.ref b16_4), .val (.ref b2_4), .val (.ref b16_4), .val .null, .val .null, .val (.int (1 : Int32)), .val (.ref b5_76)] [(.ref b5_76), (.ref b5_76)]))
      refine own_step (fun t k => Jvm.RoadKit.acmp (g := (mkF m 265 #[.val (.int x0_0), .val (.int x1_0), .val (.int (1 : Int32)), .val (.int (1 : Int32)), .val (.ref b1), .val (.ref b8), .val (.ref b5_3_31), .val (.ref b2_4), .val (.ref b16_4), .val (.ref b2_4), .val (.ref b16_4), .val .null, .val .null, .val (.int (1 : Int32)), .val (.ref b5_76)] [(.ref b5_76), (.ref b5_76)])) X83 hx rfl rfl rfl (pc0 := 265) (pc' := 268) (same := true) rfl (hb hby at_265) rfl (decide_eq_true rfl) (by decide) (by decide) k) ?_
      show own_Ends p.tables e below s _ _ _ (T83.setTop (mkF m 268 #[.val (.int x0_0), .val (.int x1_0), .val (.int (1 : Int32)), .val (.int (1 : Int32)), .val (.ref b1), .val (.ref b8), .val (.ref b5_3_31), .val (.ref b2_4), .val (.ref b16_4), .val (.ref b2_4), .val (.ref b16_4), .val .null, .val .null, .val (.int (1 : Int32)), .val (.ref b5_76)] []))
      refine own_step (fun t k => XS.aload X83.here hx rfl (hb hby at_268) rfl rfl k) ?_
      show own_Ends p.tables e below s _ _ _ (T83.setTop (mkF m 270 #[.val (.int x0_0), .val (.int x1_0), .val (.int (1 : Int32)), .val (.int (1 : Int32)), .val (.ref b1), .val (.ref b8), .val (.ref b5_3_31), .val (.ref b2_4), .val (.ref b16_4), .val (.ref b2_4), .val (.ref b16_4), .val .null, .val .null, .val (.int (1 : Int32)), .val (.ref b5_76)] [(.ref b5_76)]))
      obtain ⟨cq85, kq85, q85a, q85b, q85c⟩ := isOf hZ e83 p76_9
      obtain ⟨_, _, ⟨T85, L85, k85, n85⟩, -, X85, ⟨Lc85, hQ85, l85, y85, z85⟩, st85⟩ := X83.virtualBack hx (y := (⟨"com/example/serigraph/serigraph/view/OrderList$Place", "previous", "()Lcom/example/serigraph/serigraph/view/OrderList$Place;"⟩ : MethodName)) (z := (⟨"com/example/serigraph/serigraph/view/OrderList$Place", "previous", "()Lcom/example/serigraph/serigraph/view/OrderList$Place;"⟩ : MethodName)) hown (mvT hZ (hw _ (List.mem_of_getElem? (i := 66) rfl))) (mvT hZ (hw _ (List.mem_of_getElem? (i := 67) rfl))) (notFace_of_selects (args := #[]) (mvT hZ (hw _ (List.mem_of_getElem? (i := 69) rfl)))) (mvT hZ (hw _ (List.mem_of_getElem? (i := 69) rfl))) (mvT hZ (hw _ (List.mem_of_getElem? (i := 68) rfl))) (by decide) (backOf (W := 0) (rm11 l Z a0 hw [] b5_76 b2_4 T76.heap n0 O82 p76_12) hZ (hw _ (List.mem_of_getElem? (i := 70) rfl)) (hw _ (List.mem_of_getElem? (i := 12) rfl)) (by decide) (by decide)) q85a q85c (g := (mkF m 270 #[.val (.int x0_0), .val (.int x1_0), .val (.int (1 : Int32)), .val (.int (1 : Int32)), .val (.ref b1), .val (.ref b8), .val (.ref b5_3_31), .val (.ref b2_4), .val (.ref b16_4), .val (.ref b2_4), .val (.ref b16_4), .val .null, .val .null, .val (.int (1 : Int32)), .val (.ref b5_76)] [(.ref b5_76)])) rfl (by rw [hml]; rfl) (Steps.refl _) (argsL := []) (rest := []) (lenOf pd_3 rfl) rfl (by show 2 * 0 + _ ≤ _; exact Nat.le_of_eq rfl) (hb hby at_270) (fun _ _ => ⟨rfl, e83, (by decide : 6 + 0 ≤ _), (by decide : 19 + 0 ≤ _)⟩)
      dsimp only [Pt.U, Pt.locs, Pt.cells, Pt.slots] at X85 l85 y85 z85 st85 hQ85
      subst y85 z85
      obtain ⟨rfl, N85q, e85⟩ := hQ85
      refine own_step (fun t k => st85.trans k) ?_
      have N86 : Fr n0 L85 := by rw [l85]; exact Fr.app N84 N85q
      show own_Ends p.tables e below s _ _ _ (T85.setTop (mkF m 273 #[.val (.int x0_0), .val (.int x1_0), .val (.int (1 : Int32)), .val (.int (1 : Int32)), .val (.ref b1), .val (.ref b8), .val (.ref b5_3_31), .val (.ref b2_4), .val (.ref b16_4), .val (.ref b2_4), .val (.ref b16_4), .val .null, .val .null, .val (.int (1 : Int32)), .val (.ref b5_76)] [(.ref b2_4)]))
      refine own_step (fun t k => XS.aload X85.here hx rfl (hb hby at_273) rfl rfl k) ?_
      show own_Ends p.tables e below s _ _ _ (T85.setTop (mkF m 275 #[.val (.int x0_0), .val (.int x1_0), .val (.int (1 : Int32)), .val (.int (1 : Int32)), .val (.ref b1), .val (.ref b8), .val (.ref b5_3_31), .val (.ref b2_4), .val (.ref b16_4), .val (.ref b2_4), .val (.ref b16_4), .val .null, .val .null, .val (.int (1 : Int32)), .val (.ref b5_76)] [(.ref b2_4), (.ref b2_4)]))
      refine own_step (fun t k => Jvm.RoadKit.acmp (g := (mkF m 275 #[.val (.int x0_0), .val (.int x1_0), .val (.int (1 : Int32)), .val (.int (1 : Int32)), .val (.ref b1), .val (.ref b8), .val (.ref b5_3_31), .val (.ref b2_4), .val (.ref b16_4), .val (.ref b2_4), .val (.ref b16_4), .val .null, .val .null, .val (.int (1 : Int32)), .val (.ref b5_76)] [(.ref b2_4), (.ref b2_4)])) X85 hx rfl rfl rfl (pc0 := 275) (pc' := 278) (same := true) rfl (hb hby at_275) rfl (decide_eq_true rfl) (by decide) (by decide) k) ?_
      show own_Ends p.tables e below s _ _ _ (T85.setTop (mkF m 278 #[.val (.int x0_0), .val (.int x1_0), .val (.int (1 : Int32)), .val (.int (1 : Int32)), .val (.ref b1), .val (.ref b8), .val (.ref b5_3_31), .val (.ref b2_4), .val (.ref b16_4), .val (.ref b2_4), .val (.ref b16_4), .val .null, .val .null, .val (.int (1 : Int32)), .val (.ref b5_76)] []))
      refine own_step (fun t k => XS.iconst X85.here hx rfl (hb hby at_278) k) ?_
      show own_Ends p.tables e below s _ _ _ (T85.setTop (mkF m 279 #[.val (.int x0_0), .val (.int x1_0), .val (.int (1 : Int32)), .val (.int (1 : Int32)), .val (.ref b1), .val (.ref b8), .val (.ref b5_3_31), .val (.ref b2_4), .val (.ref b16_4), .val (.ref b2_4), .val (.ref b16_4), .val .null, .val .null, .val (.int (1 : Int32)), .val (.ref b5_76)] [(.int (1 : Int32))]))
      refine own_step (fun t k => XS.goto X85.here hx rfl (pc0 := 279) (pc' := 283) rfl (hb hby at_279) (by decide) (by decide) k) ?_
      show own_Ends p.tables e below s _ _ _ (T85.setTop (mkF m 283 #[.val (.int x0_0), .val (.int x1_0), .val (.int (1 : Int32)), .val (.int (1 : Int32)), .val (.ref b1), .val (.ref b8), .val (.ref b5_3_31), .val (.ref b2_4), .val (.ref b16_4), .val (.ref b2_4), .val (.ref b16_4), .val .null, .val .null, .val (.int (1 : Int32)), .val (.ref b5_76)] [(.int (1 : Int32))]))
      refine own_step (fun t k => XS.istore X85.here hx rfl (hb hby at_283) rfl (l' := #[.val (.int x0_0), .val (.int x1_0), .val (.int (1 : Int32)), .val (.int (1 : Int32)), .val (.ref b1), .val (.ref b8), .val (.ref b5_3_31), .val (.ref b2_4), .val (.ref b16_4), .val (.ref b2_4), .val (.ref b16_4), .val .null, .val .null, .val (.int (1 : Int32)), .val (.ref b5_76)]) rfl k) ?_
      show own_Ends p.tables e below s _ _ _ (T85.setTop (mkF m 285 #[.val (.int x0_0), .val (.int x1_0), .val (.int (1 : Int32)), .val (.int (1 : Int32)), .val (.ref b1), .val (.ref b8), .val (.ref b5_3_31), .val (.ref b2_4), .val (.ref b16_4), .val (.ref b2_4), .val (.ref b16_4), .val .null, .val .null, .val (.int (1 : Int32)), .val (.ref b5_76)] []))
      refine own_step (fun t k => XS.iload X85.here hx rfl (hb hby at_285) rfl k) ?_
      show own_Ends p.tables e below s _ _ _ (T85.setTop (mkF m 287 #[.val (.int x0_0), .val (.int x1_0), .val (.int (1 : Int32)), .val (.int (1 : Int32)), .val (.ref b1), .val (.ref b8), .val (.ref b5_3_31), .val (.ref b2_4), .val (.ref b16_4), .val (.ref b2_4), .val (.ref b16_4), .val .null, .val .null, .val (.int (1 : Int32)), .val (.ref b5_76)] [(.int (1 : Int32))]))
      exact own_retN X85 hx (t := .boolean) Bd.returns (by simp) (hb hby at_287) hnl (by rw [e85]; exact ⟨rfl, N86⟩) (by decide) (by decide)
  · subst hk39
    show own_Ends p.tables e below s _ _ _ (T36.setTop (mkF m 51 #[.val (.int x0_0), .val (.int x1_0), .val (.int (2 : Int32)), .val (.int ii), .val (.ref b1), .val (.ref b8), .unset, .unset, .unset, .unset, .unset, .unset, .unset, .unset, .unset] []))
    refine own_step (fun t k => XS.iloadN X36.here hx rfl (hb hby at_51) rfl k) ?_
    show own_Ends p.tables e below s _ _ _ (T36.setTop (mkF m 52 #[.val (.int x0_0), .val (.int x1_0), .val (.int (2 : Int32)), .val (.int ii), .val (.ref b1), .val (.ref b8), .unset, .unset, .unset, .unset, .unset, .unset, .unset, .unset, .unset] [(.int (2 : Int32))]))
    refine own_step (fun t k => XS.iconst X36.here hx rfl (hb hby at_52) k) ?_
    show own_Ends p.tables e below s _ _ _ (T36.setTop (mkF m 53 #[.val (.int x0_0), .val (.int x1_0), .val (.int (2 : Int32)), .val (.int ii), .val (.ref b1), .val (.ref b8), .unset, .unset, .unset, .unset, .unset, .unset, .unset, .unset, .unset] [(.int (2 : Int32)), (.int (2 : Int32))]))
    refine own_step (fun t k => XS.icmpNo X36.here hx rfl (hb hby at_53) rfl (flt (by decide : ¬ ((2 : Int32) < (2 : Int32)))).1 k) ?_
    show own_Ends p.tables e below s _ _ _ (T36.setTop (mkF m 56 #[.val (.int x0_0), .val (.int x1_0), .val (.int (2 : Int32)), .val (.int ii), .val (.ref b1), .val (.ref b8), .unset, .unset, .unset, .unset, .unset, .unset, .unset, .unset, .unset] []))
    refine own_step (fun t k => XS.aload X36.here hx rfl (hb hby at_56) rfl rfl k) ?_
    show own_Ends p.tables e below s _ _ _ (T36.setTop (mkF m 58 #[.val (.int x0_0), .val (.int x1_0), .val (.int (2 : Int32)), .val (.int ii), .val (.ref b1), .val (.ref b8), .unset, .unset, .unset, .unset, .unset, .unset, .unset, .unset, .unset] [(.ref b8)]))
    refine own_step (fun t k => XS.iconst X36.here hx rfl (hb hby at_58) k) ?_
    show own_Ends p.tables e below s _ _ _ (T36.setTop (mkF m 59 #[.val (.int x0_0), .val (.int x1_0), .val (.int (2 : Int32)), .val (.int ii), .val (.ref b1), .val (.ref b8), .unset, .unset, .unset, .unset, .unset, .unset, .unset, .unset, .unset] [(.int (2 : Int32)), (.ref b8)]))
    refine own_step (fun t k => XS.aload X36.here hx rfl (hb hby at_59) rfl rfl k) ?_
    show own_Ends p.tables e below s _ _ _ (T36.setTop (mkF m 61 #[.val (.int x0_0), .val (.int x1_0), .val (.int (2 : Int32)), .val (.int ii), .val (.ref b1), .val (.ref b8), .unset, .unset, .unset, .unset, .unset, .unset, .unset, .unset, .unset] [(.ref b1), (.int (2 : Int32)), (.ref b8)]))
    have F87 : Fld Z h36 b1 "com/example/serigraph/serigraph/view/OrderList" "back" "Lcom/example/serigraph/serigraph/view/OrderList$Place;" (.ref b16_4) := ((F20.keep K31q (ninS ne_b1_b2_4 (ninS ne_b1_b16_4 nin0))).other W36 (Or.inl ne_b1_b8))
    have F88 : Fld Z h36 b16_4 "com/example/serigraph/serigraph/view/OrderList$Place" "previous" "Lcom/example/serigraph/serigraph/view/OrderList$Place;" (.ref b5_3_31) := (p31_7.other W36 (Or.inl ne_b16_4_b8))
    have F89 : Fld Z h36 b5_3_31 "com/example/serigraph/serigraph/view/OrderList$Place" "previous" "Lcom/example/serigraph/serigraph/view/OrderList$Place;" (.ref b2_4) := (p31_12.other W36 (Or.inl (Ne.symm ne_b8_b5_3_31)))
    have F90 : Fld Z h36 b5_3_31 "com/example/serigraph/serigraph/view/OrderList$Place" "next" "Lcom/example/serigraph/serigraph/view/OrderList$Place;" (.ref b16_4) := (p31_11.other W36 (Or.inl (Ne.symm ne_b8_b5_3_31)))
    have F91 : Fld Z h36 b16_4 "com/example/serigraph/serigraph/view/OrderList$Place" "label" "J" (.long (4611686018427387904 : Int64)) := (p31_5.other W36 (Or.inl ne_b16_4_b8))
    have F92 : Fld Z h36 b5_3_31 "com/example/serigraph/serigraph/view/OrderList$Place" "label" "J" (.long (4294967296 : Int64)) := (p31_10c.other W36 (Or.inl (Ne.symm ne_b8_b5_3_31)))
    have F93 : Exa Z h36 b16_4 "com/example/serigraph/serigraph/view/OrderList$Place" := (p31_6.wr W36)
    have F94 : Exa Z h36 b5_3_31 "com/example/serigraph/serigraph/view/OrderList$Place" := (p31_9.wr W36)
    have F95 : Fld Z h36 b16_4 "com/example/serigraph/serigraph/view/OrderList$Place" "next" "Lcom/example/serigraph/serigraph/view/OrderList$Place;" .null := (p31_8.other W36 (Or.inl ne_b16_4_b8))
    have F96 : Exa Z h36 b1 "com/example/serigraph/serigraph/view/OrderList" := ((F29.keep K31q).wr W36)
    have O97 : Old Z n0 h36 := ((O30.keep K31q (allS g_b2_4 (allS g_b16_4 all0))).wr W36 g_b8)
    obtain ⟨cq98, kq98, q98a, q98b, q98c⟩ := isOf hZ e36 F96
    obtain ⟨_, _, ⟨T98, L98, k98, n98⟩, -, X98, ⟨Lc98, hQ98, l98, y98, z98⟩, st98⟩ := X36.virtualBack hx (y := (⟨"com/example/serigraph/serigraph/view/OrderList", "append", "()Lcom/example/serigraph/serigraph/view/OrderList$Place;"⟩ : MethodName)) (z := (⟨"com/example/serigraph/serigraph/view/OrderList", "append", "()Lcom/example/serigraph/serigraph/view/OrderList$Place;"⟩ : MethodName)) hown (mvT hZ (hw _ (List.mem_of_getElem? (i := 36) rfl))) (mvT hZ (hw _ (List.mem_of_getElem? (i := 37) rfl))) (notFace_of_selects (args := #[]) (mvT hZ (hw _ (List.mem_of_getElem? (i := 39) rfl)))) (mvT hZ (hw _ (List.mem_of_getElem? (i := 39) rfl))) (mvT hZ (hw _ (List.mem_of_getElem? (i := 38) rfl))) (by decide) (backOf (W := 2) (rm5 l Z a0 hw [] b1 b16_4 b5_3_31 (.ref b2_4) b16_4 (4611686018427387904 : Int64) (4294967296 : Int64) (.ref b5_3_31) .null h36 n0 O97 F87 F88 F89 F90 F91 F92 F93 F88 g_b16_4 F94 (Ne.symm ne_b16_4_b5_3_31) g_b5_3_31 (by decide +kernel) F95 F96) hZ (hw _ (List.mem_of_getElem? (i := 40) rfl)) (hw _ (List.mem_of_getElem? (i := 3) rfl)) (by decide) (by decide)) q98a q98c (g := (mkF m 61 #[.val (.int x0_0), .val (.int x1_0), .val (.int (2 : Int32)), .val (.int ii), .val (.ref b1), .val (.ref b8), .unset, .unset, .unset, .unset, .unset, .unset, .unset, .unset, .unset] [(.ref b1), (.int (2 : Int32)), (.ref b8)])) rfl (by rw [hml]; rfl) (Steps.refl _) (argsL := []) (rest := [(.int (2 : Int32)), (.ref b8)]) (lenOf pd_3 rfl) rfl (by show 2 * 0 + _ ≤ _; exact Nat.le_of_eq rfl) (hb hby at_61) (fun _ _ => ⟨rfl, e36, (by decide : 5 + 1 ≤ _), (by decide : 16 + 3 ≤ _)⟩)
    dsimp only [Pt.U, Pt.locs, Pt.cells, Pt.slots] at X98 l98 y98 z98 st98 hQ98
    subst y98 z98
    have F99 : Exa Z h36 b2_4 "com/example/serigraph/serigraph/view/OrderList$Place" := (p31_4.wr W36)
    obtain ⟨b5_3_98, rfl, N98q, K98q, p98_0, p98_1, p98_2, p98_3, p98_4, p98_5, p98_6, p98_7, p98_8, p98_9, p98_10, p98_11, p98_12⟩ := hQ98
    refine own_step (fun t k => st98.trans k) ?_
    have N100 : Fr n0 L98 := by rw [l98]; exact Fr.app N38 N98q
    have sz_b5_3_98 : h0.size ≤ b5_3_98 := Nat.le_trans K37.1 p98_0
    have g_b5_3_98 : n0 ≤ b5_3_98 := Nat.le_trans (Nat.le_trans (Nat.le_of_eq O97.1.symm) O97.2.1) p98_0
    have ne_b1_b5_3_98 : b1 ≠ b5_3_98 := Nat.ne_of_lt (Nat.lt_of_lt_of_le F96.lt p98_0)
    have ne_b2_4_b5_3_98 : b2_4 ≠ b5_3_98 := Nat.ne_of_lt (Nat.lt_of_lt_of_le F99.lt p98_0)
    have ne_b16_4_b5_3_98 : b16_4 ≠ b5_3_98 := Nat.ne_of_lt (Nat.lt_of_lt_of_le F93.lt p98_0)
    have ne_b8_b5_3_98 : b8 ≠ b5_3_98 := Nat.ne_of_lt (Nat.lt_of_lt_of_le V36.lt p98_0)
    have ne_b5_3_31_b5_3_98 : b5_3_31 ≠ b5_3_98 := Nat.ne_of_lt (Nat.lt_of_lt_of_le F94.lt p98_0)
    have K101 : Keep h0 T98.heap [] := K37.trans K98q (allS (Or.inr sz_b5_3_31) (allS (Or.inr sz_b16_4) all0))
    have p98_10c : Fld Z T98.heap b5_3_98 "com/example/serigraph/serigraph/view/OrderList$Place" "label" "J" (.long (8589934592 : Int64)) := Eq.mp (congrArg (fun z => Fld Z T98.heap b5_3_98 "com/example/serigraph/serigraph/view/OrderList$Place" "label" "J" (.long z)) (show ((4294967296 : Int64) + (own_r7 (((4611686018427387904 : Int64) - (4294967296 : Int64)) / (2 : Int64)) (4294967296 : Int64))) = (8589934592 : Int64) from by decide +kernel)) p98_10
    show own_Ends p.tables e below s _ _ _ (T98.setTop (mkF m 64 #[.val (.int x0_0), .val (.int x1_0), .val (.int (2 : Int32)), .val (.int ii), .val (.ref b1), .val (.ref b8), .unset, .unset, .unset, .unset, .unset, .unset, .unset, .unset, .unset] [(.ref b5_3_98), (.int (2 : Int32)), (.ref b8)]))
    have F102 : Arv Z T98.heap b8 k8 (.object "com/example/serigraph/serigraph/view/OrderList$Place") (5 : Int32) [(.ref b2_4), (.ref b5_3_31), .null, .null, .null] .null := (V36.keep K98q (ninS ne_b8_b5_3_31 (ninS (Ne.symm ne_b16_4_b8) nin0)))
    obtain ⟨cl103, Ar103, q103, S103, N103, H103, G103⟩ := id F102
    have hin103 : ¬ ((2 : Int32) < 0 ∨ cl103.slots.size ≤ ((2 : Int32)).toNatClampNeg) := inb_of S103 ⟨by decide, by decide⟩
    obtain ⟨T104, h104, X104, e104, W104, st104⟩ := stR X98 hx hZ rfl Ar103 (j := (2 : Int32)) hin103 rfl (Sto.ofV Ar103 q103 O8 (Ins.self p98_9)) (g := (mkF m 64 #[.val (.int x0_0), .val (.int x1_0), .val (.int (2 : Int32)), .val (.int ii), .val (.ref b1), .val (.ref b8), .unset, .unset, .unset, .unset, .unset, .unset, .unset, .unset, .unset] [(.ref b5_3_98), (.int (2 : Int32)), (.ref b8)])) rfl rfl (hb hby at_64)
    refine own_step (fun t k => st104 _ k) ?_
    have V104 : Arv Z h104 b8 k8 (.object "com/example/serigraph/serigraph/view/OrderList$Place") (5 : Int32) [(.ref b2_4), (.ref b5_3_31), (.ref b5_3_98), .null, .null] .null := Arv.set Ar103 q103 S103 N103 H103 G103 rfl W104 2 rfl (Nat.le_of_ble_eq_true rfl)
    have K105 : Keep h0 h104 [] := K101.wr W104 (Or.inr sz_b8)
    have N106 := Fr.snoc X104 N100 g_b8
    show own_Ends p.tables e below s _ _ _ (T104.setTop (mkF m 65 #[.val (.int x0_0), .val (.int x1_0), .val (.int (2 : Int32)), .val (.int ii), .val (.ref b1), .val (.ref b8), .unset, .unset, .unset, .unset, .unset, .unset, .unset, .unset, .unset] []))
    refine own_step (fun t k => XS.iloadN X104.here hx rfl (hb hby at_65) rfl k) ?_
    show own_Ends p.tables e below s _ _ _ (T104.setTop (mkF m 66 #[.val (.int x0_0), .val (.int x1_0), .val (.int (2 : Int32)), .val (.int ii), .val (.ref b1), .val (.ref b8), .unset, .unset, .unset, .unset, .unset, .unset, .unset, .unset, .unset] [(.int (2 : Int32))]))
    refine own_step (fun t k => XS.iconst X104.here hx rfl (hb hby at_66) k) ?_
    show own_Ends p.tables e below s _ _ _ (T104.setTop (mkF m 67 #[.val (.int x0_0), .val (.int x1_0), .val (.int (2 : Int32)), .val (.int ii), .val (.ref b1), .val (.ref b8), .unset, .unset, .unset, .unset, .unset, .unset, .unset, .unset, .unset] [(.int (3 : Int32)), (.int (2 : Int32))]))
    refine own_step (fun t k => XS.icmpYes X104.here hx rfl (pc0 := 67) (pc' := 79) rfl (hb hby at_67) rfl (tlt (by decide : (2 : Int32) < (3 : Int32))).1 (by decide) (by decide) k) ?_
    show own_Ends p.tables e below s _ _ _ (T104.setTop (mkF m 79 #[.val (.int x0_0), .val (.int x1_0), .val (.int (2 : Int32)), .val (.int ii), .val (.ref b1), .val (.ref b8), .unset, .unset, .unset, .unset, .unset, .unset, .unset, .unset, .unset] []))
    refine own_step (fun t k => XS.aload X104.here hx rfl (hb hby at_79) rfl rfl k) ?_
    show own_Ends p.tables e below s _ _ _ (T104.setTop (mkF m 81 #[.val (.int x0_0), .val (.int x1_0), .val (.int (2 : Int32)), .val (.int ii), .val (.ref b1), .val (.ref b8), .unset, .unset, .unset, .unset, .unset, .unset, .unset, .unset, .unset] [(.ref b8)]))
    refine own_step (fun t k => XS.iloadN X104.here hx rfl (hb hby at_81) rfl k) ?_
    show own_Ends p.tables e below s _ _ _ (T104.setTop (mkF m 82 #[.val (.int x0_0), .val (.int x1_0), .val (.int (2 : Int32)), .val (.int ii), .val (.ref b1), .val (.ref b8), .unset, .unset, .unset, .unset, .unset, .unset, .unset, .unset, .unset] [(.int (2 : Int32)), (.ref b8)]))
    refine own_step (fun t k => XS.iconst X104.here hx rfl (hb hby at_82) k) ?_
    show own_Ends p.tables e below s _ _ _ (T104.setTop (mkF m 83 #[.val (.int x0_0), .val (.int x1_0), .val (.int (2 : Int32)), .val (.int ii), .val (.ref b1), .val (.ref b8), .unset, .unset, .unset, .unset, .unset, .unset, .unset, .unset, .unset] [(.int (1 : Int32)), (.int (2 : Int32)), (.ref b8)]))
    refine own_step (fun t k => XS.iadd X104.here hx rfl (hb hby at_83) rfl k) ?_
    show own_Ends p.tables e below s _ _ _ (T104.setTop (mkF m 84 #[.val (.int x0_0), .val (.int x1_0), .val (.int (2 : Int32)), .val (.int ii), .val (.ref b1), .val (.ref b8), .unset, .unset, .unset, .unset, .unset, .unset, .unset, .unset, .unset] [(.int (3 : Int32)), (.ref b8)]))
    refine own_step (fun t k => XS.aload X104.here hx rfl (hb hby at_84) rfl rfl k) ?_
    show own_Ends p.tables e below s _ _ _ (T104.setTop (mkF m 86 #[.val (.int x0_0), .val (.int x1_0), .val (.int (2 : Int32)), .val (.int ii), .val (.ref b1), .val (.ref b8), .unset, .unset, .unset, .unset, .unset, .unset, .unset, .unset, .unset] [(.ref b1), (.int (3 : Int32)), (.ref b8)]))
    have F107 : Fld Z h104 b1 "com/example/serigraph/serigraph/view/OrderList" "back" "Lcom/example/serigraph/serigraph/view/OrderList$Place;" (.ref b16_4) := ((F87.keep K98q (ninS ne_b1_b5_3_31 (ninS ne_b1_b16_4 nin0))).other W104 (Or.inl ne_b1_b8))
    have O108 : Old Z n0 h104 := ((O97.keep K98q (allS g_b5_3_31 (allS g_b16_4 all0))).wr W104 g_b8)
    have F110 : Exa Z h104 b1 "com/example/serigraph/serigraph/view/OrderList" := ((F96.keep K98q).wr W104)
    obtain ⟨cq109, kq109, q109a, q109b, q109c⟩ := isOf hZ e104 F110
    obtain ⟨_, _, ⟨T109, L109, k109, n109⟩, -, X109, ⟨Lc109, hQ109, l109, y109, z109⟩, st109⟩ := X104.virtualBack hx (y := (⟨"com/example/serigraph/serigraph/view/OrderList", "back", "()Lcom/example/serigraph/serigraph/view/OrderList$Place;"⟩ : MethodName)) (z := (⟨"com/example/serigraph/serigraph/view/OrderList", "back", "()Lcom/example/serigraph/serigraph/view/OrderList$Place;"⟩ : MethodName)) hown (mvT hZ (hw _ (List.mem_of_getElem? (i := 52) rfl))) (mvT hZ (hw _ (List.mem_of_getElem? (i := 53) rfl))) (notFace_of_selects (args := #[]) (mvT hZ (hw _ (List.mem_of_getElem? (i := 55) rfl)))) (mvT hZ (hw _ (List.mem_of_getElem? (i := 55) rfl))) (mvT hZ (hw _ (List.mem_of_getElem? (i := 54) rfl))) (by decide) (backOf (W := 2) (rm8 l Z a0 hw [] b1 b16_4 h104 n0 O108 F107) hZ (hw _ (List.mem_of_getElem? (i := 56) rfl)) (hw _ (List.mem_of_getElem? (i := 3) rfl)) (by decide) (by decide)) q109a q109c (g := (mkF m 86 #[.val (.int x0_0), .val (.int x1_0), .val (.int (2 : Int32)), .val (.int ii), .val (.ref b1), .val (.ref b8), .unset, .unset, .unset, .unset, .unset, .unset, .unset, .unset, .unset] [(.ref b1), (.int (3 : Int32)), (.ref b8)])) rfl (by rw [hml]; rfl) (Steps.refl _) (argsL := []) (rest := [(.int (3 : Int32)), (.ref b8)]) (lenOf pd_3 rfl) rfl (by show 2 * 0 + _ ≤ _; exact Nat.le_of_eq rfl) (hb hby at_86) (fun _ _ => ⟨rfl, e104, (by decide : 6 + 0 ≤ _), (by decide : 19 + 0 ≤ _)⟩)
    dsimp only [Pt.U, Pt.locs, Pt.cells, Pt.slots] at X109 l109 y109 z109 st109 hQ109
    subst y109 z109
    obtain ⟨rfl, N109q, e109⟩ := hQ109
    refine own_step (fun t k => st109.trans k) ?_
    have N111 : Fr n0 L109 := by rw [l109]; exact Fr.app N106 N109q
    show own_Ends p.tables e below s _ _ _ (T109.setTop (mkF m 89 #[.val (.int x0_0), .val (.int x1_0), .val (.int (2 : Int32)), .val (.int ii), .val (.ref b1), .val (.ref b8), .unset, .unset, .unset, .unset, .unset, .unset, .unset, .unset, .unset] [(.ref b16_4), (.int (3 : Int32)), (.ref b8)]))
    obtain ⟨cl112, Ar112, q112, S112, N112, H112, G112⟩ := id V104
    have hin112 : ¬ ((3 : Int32) < 0 ∨ cl112.slots.size ≤ ((3 : Int32)).toNatClampNeg) := inb_of S112 ⟨by decide, by decide⟩
    have F113 : Exa Z h104 b16_4 "com/example/serigraph/serigraph/view/OrderList$Place" := (p98_6.wr W104)
    obtain ⟨T114, h114, X114, e114, W114, st114⟩ := stR X109 hx hZ e109 Ar112 (j := (3 : Int32)) hin112 rfl (Sto.ofV Ar112 q112 O8 (Ins.self F113)) (g := (mkF m 89 #[.val (.int x0_0), .val (.int x1_0), .val (.int (2 : Int32)), .val (.int ii), .val (.ref b1), .val (.ref b8), .unset, .unset, .unset, .unset, .unset, .unset, .unset, .unset, .unset] [(.ref b16_4), (.int (3 : Int32)), (.ref b8)])) rfl rfl (hb hby at_89)
    refine own_step (fun t k => st114 _ k) ?_
    have V114 : Arv Z h114 b8 k8 (.object "com/example/serigraph/serigraph/view/OrderList$Place") (5 : Int32) [(.ref b2_4), (.ref b5_3_31), (.ref b5_3_98), (.ref b16_4), .null] .null := Arv.set Ar112 q112 S112 N112 H112 G112 rfl W114 3 rfl (Nat.le_of_ble_eq_true rfl)
    have K115 : Keep h0 h114 [] := K105.wr W114 (Or.inr sz_b8)
    have N116 := Fr.snoc X114 N111 g_b8
    rcases (hii ▸ own_i2 x1_0 : ii = 1 ∨ ii = 2) with hk117 | hk117
    · subst hk117
      show own_Ends p.tables e below s _ _ _ (T114.setTop (mkF m 90 #[.val (.int x0_0), .val (.int x1_0), .val (.int (2 : Int32)), .val (.int (1 : Int32)), .val (.ref b1), .val (.ref b8), .unset, .unset, .unset, .unset, .unset, .unset, .unset, .unset, .unset] []))
      refine own_step (fun t k => XS.aload X114.here hx rfl (hb hby at_90) rfl rfl k) ?_
      show own_Ends p.tables e below s _ _ _ (T114.setTop (mkF m 92 #[.val (.int x0_0), .val (.int x1_0), .val (.int (2 : Int32)), .val (.int (1 : Int32)), .val (.ref b1), .val (.ref b8), .unset, .unset, .unset, .unset, .unset, .unset, .unset, .unset, .unset] [(.ref b8)]))
      refine own_step (fun t k => XS.iloadN X114.here hx rfl (hb hby at_92) rfl k) ?_
      show own_Ends p.tables e below s _ _ _ (T114.setTop (mkF m 93 #[.val (.int x0_0), .val (.int x1_0), .val (.int (2 : Int32)), .val (.int (1 : Int32)), .val (.ref b1), .val (.ref b8), .unset, .unset, .unset, .unset, .unset, .unset, .unset, .unset, .unset] [(.int (1 : Int32)), (.ref b8)]))
      obtain ⟨cl118, Ar118, q118, S118, N118, H118, G118⟩ := id V114
      have hin118 : ¬ ((1 : Int32) < 0 ∨ cl118.slots.size ≤ ((1 : Int32)).toNatClampNeg) := inb_of S118 ⟨by decide, by decide⟩
      have hat118 : cl118.slots[((1 : Int32)).toNatClampNeg]? = some (.ref b5_3_31) := H118.at hin118 rfl
      refine own_step (fun t k => X114.aaload hx (j := (1 : Int32)) (v := (.ref b5_3_31)) (by rw [e114]; exact Ar118.1) (State.isArrayOf_alike hZ.alike Ar118.2.1) rfl Ar118.2.2 hin118 hat118 (g := (mkF m 93 #[.val (.int x0_0), .val (.int x1_0), .val (.int (2 : Int32)), .val (.int (1 : Int32)), .val (.ref b1), .val (.ref b8), .unset, .unset, .unset, .unset, .unset, .unset, .unset, .unset, .unset] [(.int (1 : Int32)), (.ref b8)])) rfl rfl (hb hby at_93) _ k) ?_
      show own_Ends p.tables e below s _ _ _ (T114.setTop (mkF m 94 #[.val (.int x0_0), .val (.int x1_0), .val (.int (2 : Int32)), .val (.int (1 : Int32)), .val (.ref b1), .val (.ref b8), .unset, .unset, .unset, .unset, .unset, .unset, .unset, .unset, .unset] [(.ref b5_3_31)]))
      refine own_step (fun t k => XS.astore X114.here hx rfl (hb hby at_94) rfl rfl (l' := #[.val (.int x0_0), .val (.int x1_0), .val (.int (2 : Int32)), .val (.int (1 : Int32)), .val (.ref b1), .val (.ref b8), .val (.ref b5_3_31), .unset, .unset, .unset, .unset, .unset, .unset, .unset, .unset]) rfl k) ?_
      show own_Ends p.tables e below s _ _ _ (T114.setTop (mkF m 96 #[.val (.int x0_0), .val (.int x1_0), .val (.int (2 : Int32)), .val (.int (1 : Int32)), .val (.ref b1), .val (.ref b8), .val (.ref b5_3_31), .unset, .unset, .unset, .unset, .unset, .unset, .unset, .unset] []))
      refine own_step (fun t k => XS.aload X114.here hx rfl (hb hby at_96) rfl rfl k) ?_
      show own_Ends p.tables e below s _ _ _ (T114.setTop (mkF m 98 #[.val (.int x0_0), .val (.int x1_0), .val (.int (2 : Int32)), .val (.int (1 : Int32)), .val (.ref b1), .val (.ref b8), .val (.ref b5_3_31), .unset, .unset, .unset, .unset, .unset, .unset, .unset, .unset] [(.ref b8)]))
      refine own_step (fun t k => XS.iloadN X114.here hx rfl (hb hby at_98) rfl k) ?_
      show own_Ends p.tables e below s _ _ _ (T114.setTop (mkF m 99 #[.val (.int x0_0), .val (.int x1_0), .val (.int (2 : Int32)), .val (.int (1 : Int32)), .val (.ref b1), .val (.ref b8), .val (.ref b5_3_31), .unset, .unset, .unset, .unset, .unset, .unset, .unset, .unset] [(.int (1 : Int32)), (.ref b8)]))
      refine own_step (fun t k => XS.iconst X114.here hx rfl (hb hby at_99) k) ?_
      show own_Ends p.tables e below s _ _ _ (T114.setTop (mkF m 100 #[.val (.int x0_0), .val (.int x1_0), .val (.int (2 : Int32)), .val (.int (1 : Int32)), .val (.ref b1), .val (.ref b8), .val (.ref b5_3_31), .unset, .unset, .unset, .unset, .unset, .unset, .unset, .unset] [(.int (1 : Int32)), (.int (1 : Int32)), (.ref b8)]))
      refine own_step (fun t k => XS.isub X114.here hx rfl (hb hby at_100) rfl k) ?_
      show own_Ends p.tables e below s _ _ _ (T114.setTop (mkF m 101 #[.val (.int x0_0), .val (.int x1_0), .val (.int (2 : Int32)), .val (.int (1 : Int32)), .val (.ref b1), .val (.ref b8), .val (.ref b5_3_31), .unset, .unset, .unset, .unset, .unset, .unset, .unset, .unset] [(.int (0 : Int32)), (.ref b8)]))
      obtain ⟨cl119, Ar119, q119, S119, N119, H119, G119⟩ := id V114
      have hin119 : ¬ ((0 : Int32) < 0 ∨ cl119.slots.size ≤ ((0 : Int32)).toNatClampNeg) := inb_of S119 ⟨by decide, by decide⟩
      have hat119 : cl119.slots[((0 : Int32)).toNatClampNeg]? = some (.ref b2_4) := H119.at hin119 rfl
      refine own_step (fun t k => X114.aaload hx (j := (0 : Int32)) (v := (.ref b2_4)) (by rw [e114]; exact Ar119.1) (State.isArrayOf_alike hZ.alike Ar119.2.1) rfl Ar119.2.2 hin119 hat119 (g := (mkF m 101 #[.val (.int x0_0), .val (.int x1_0), .val (.int (2 : Int32)), .val (.int (1 : Int32)), .val (.ref b1), .val (.ref b8), .val (.ref b5_3_31), .unset, .unset, .unset, .unset, .unset, .unset, .unset, .unset] [(.int (0 : Int32)), (.ref b8)])) rfl rfl (hb hby at_101) _ k) ?_
      show own_Ends p.tables e below s _ _ _ (T114.setTop (mkF m 102 #[.val (.int x0_0), .val (.int x1_0), .val (.int (2 : Int32)), .val (.int (1 : Int32)), .val (.ref b1), .val (.ref b8), .val (.ref b5_3_31), .unset, .unset, .unset, .unset, .unset, .unset, .unset, .unset] [(.ref b2_4)]))
      refine own_step (fun t k => XS.astore X114.here hx rfl (hb hby at_102) rfl rfl (l' := #[.val (.int x0_0), .val (.int x1_0), .val (.int (2 : Int32)), .val (.int (1 : Int32)), .val (.ref b1), .val (.ref b8), .val (.ref b5_3_31), .val (.ref b2_4), .unset, .unset, .unset, .unset, .unset, .unset, .unset]) rfl k) ?_
      show own_Ends p.tables e below s _ _ _ (T114.setTop (mkF m 104 #[.val (.int x0_0), .val (.int x1_0), .val (.int (2 : Int32)), .val (.int (1 : Int32)), .val (.ref b1), .val (.ref b8), .val (.ref b5_3_31), .val (.ref b2_4), .unset, .unset, .unset, .unset, .unset, .unset, .unset] []))
      refine own_step (fun t k => XS.aload X114.here hx rfl (hb hby at_104) rfl rfl k) ?_
      show own_Ends p.tables e below s _ _ _ (T114.setTop (mkF m 106 #[.val (.int x0_0), .val (.int x1_0), .val (.int (2 : Int32)), .val (.int (1 : Int32)), .val (.ref b1), .val (.ref b8), .val (.ref b5_3_31), .val (.ref b2_4), .unset, .unset, .unset, .unset, .unset, .unset, .unset] [(.ref b8)]))
      refine own_step (fun t k => XS.iloadN X114.here hx rfl (hb hby at_106) rfl k) ?_
      show own_Ends p.tables e below s _ _ _ (T114.setTop (mkF m 107 #[.val (.int x0_0), .val (.int x1_0), .val (.int (2 : Int32)), .val (.int (1 : Int32)), .val (.ref b1), .val (.ref b8), .val (.ref b5_3_31), .val (.ref b2_4), .unset, .unset, .unset, .unset, .unset, .unset, .unset] [(.int (1 : Int32)), (.ref b8)]))
      refine own_step (fun t k => XS.iconst X114.here hx rfl (hb hby at_107) k) ?_
      show own_Ends p.tables e below s _ _ _ (T114.setTop (mkF m 108 #[.val (.int x0_0), .val (.int x1_0), .val (.int (2 : Int32)), .val (.int (1 : Int32)), .val (.ref b1), .val (.ref b8), .val (.ref b5_3_31), .val (.ref b2_4), .unset, .unset, .unset, .unset, .unset, .unset, .unset] [(.int (1 : Int32)), (.int (1 : Int32)), (.ref b8)]))
      refine own_step (fun t k => XS.iadd X114.here hx rfl (hb hby at_108) rfl k) ?_
      show own_Ends p.tables e below s _ _ _ (T114.setTop (mkF m 109 #[.val (.int x0_0), .val (.int x1_0), .val (.int (2 : Int32)), .val (.int (1 : Int32)), .val (.ref b1), .val (.ref b8), .val (.ref b5_3_31), .val (.ref b2_4), .unset, .unset, .unset, .unset, .unset, .unset, .unset] [(.int (2 : Int32)), (.ref b8)]))
      obtain ⟨cl120, Ar120, q120, S120, N120, H120, G120⟩ := id V114
      have hin120 : ¬ ((2 : Int32) < 0 ∨ cl120.slots.size ≤ ((2 : Int32)).toNatClampNeg) := inb_of S120 ⟨by decide, by decide⟩
      have hat120 : cl120.slots[((2 : Int32)).toNatClampNeg]? = some (.ref b5_3_98) := H120.at hin120 rfl
      refine own_step (fun t k => X114.aaload hx (j := (2 : Int32)) (v := (.ref b5_3_98)) (by rw [e114]; exact Ar120.1) (State.isArrayOf_alike hZ.alike Ar120.2.1) rfl Ar120.2.2 hin120 hat120 (g := (mkF m 109 #[.val (.int x0_0), .val (.int x1_0), .val (.int (2 : Int32)), .val (.int (1 : Int32)), .val (.ref b1), .val (.ref b8), .val (.ref b5_3_31), .val (.ref b2_4), .unset, .unset, .unset, .unset, .unset, .unset, .unset] [(.int (2 : Int32)), (.ref b8)])) rfl rfl (hb hby at_109) _ k) ?_
      show own_Ends p.tables e below s _ _ _ (T114.setTop (mkF m 110 #[.val (.int x0_0), .val (.int x1_0), .val (.int (2 : Int32)), .val (.int (1 : Int32)), .val (.ref b1), .val (.ref b8), .val (.ref b5_3_31), .val (.ref b2_4), .unset, .unset, .unset, .unset, .unset, .unset, .unset] [(.ref b5_3_98)]))
      refine own_step (fun t k => XS.astore X114.here hx rfl (hb hby at_110) rfl rfl (l' := #[.val (.int x0_0), .val (.int x1_0), .val (.int (2 : Int32)), .val (.int (1 : Int32)), .val (.ref b1), .val (.ref b8), .val (.ref b5_3_31), .val (.ref b2_4), .val (.ref b5_3_98), .unset, .unset, .unset, .unset, .unset, .unset]) rfl k) ?_
      show own_Ends p.tables e below s _ _ _ (T114.setTop (mkF m 112 #[.val (.int x0_0), .val (.int x1_0), .val (.int (2 : Int32)), .val (.int (1 : Int32)), .val (.ref b1), .val (.ref b8), .val (.ref b5_3_31), .val (.ref b2_4), .val (.ref b5_3_98), .unset, .unset, .unset, .unset, .unset, .unset] []))
      refine own_step (fun t k => XS.aload X114.here hx rfl (hb hby at_112) rfl rfl k) ?_
      show own_Ends p.tables e below s _ _ _ (T114.setTop (mkF m 114 #[.val (.int x0_0), .val (.int x1_0), .val (.int (2 : Int32)), .val (.int (1 : Int32)), .val (.ref b1), .val (.ref b8), .val (.ref b5_3_31), .val (.ref b2_4), .val (.ref b5_3_98), .unset, .unset, .unset, .unset, .unset, .unset] [(.ref b8)]))
      refine own_step (fun t k => XS.iloadN X114.here hx rfl (hb hby at_114) rfl k) ?_
      show own_Ends p.tables e below s _ _ _ (T114.setTop (mkF m 115 #[.val (.int x0_0), .val (.int x1_0), .val (.int (2 : Int32)), .val (.int (1 : Int32)), .val (.ref b1), .val (.ref b8), .val (.ref b5_3_31), .val (.ref b2_4), .val (.ref b5_3_98), .unset, .unset, .unset, .unset, .unset, .unset] [(.int (1 : Int32)), (.ref b8)]))
      refine own_step (fun t k => XS.iconst X114.here hx rfl (hb hby at_115) k) ?_
      show own_Ends p.tables e below s _ _ _ (T114.setTop (mkF m 116 #[.val (.int x0_0), .val (.int x1_0), .val (.int (2 : Int32)), .val (.int (1 : Int32)), .val (.ref b1), .val (.ref b8), .val (.ref b5_3_31), .val (.ref b2_4), .val (.ref b5_3_98), .unset, .unset, .unset, .unset, .unset, .unset] [(.int (0 : Int32)), (.int (1 : Int32)), (.ref b8)]))
      have O121 : Old Z n0 h114 := (O108.wr W114 g_b8)
      obtain ⟨_, _, ⟨T122, L122, k122, n122⟩, -, X122, ⟨Lc122, hQ122, l122, y122, z122⟩, st122⟩ := Jvm.LawKit.callS X114 hx (y := (⟨"com/example/serigraph/serigraph/view/OrderListRemovePinLaw", "at", "([Lcom/example/serigraph/serigraph/view/OrderList$Place;II)Lcom/example/serigraph/serigraph/view/OrderList$Place;"⟩ : MethodName)) hown (mvT hZ (hw _ (List.mem_of_getElem? (i := 57) rfl))) (mvT hZ (hw _ (List.mem_of_getElem? (i := 58) rfl))) (mvT hZ (hw _ (List.mem_of_getElem? (i := 59) rfl))) (mvT hZ (hw _ (List.mem_of_getElem? (i := 60) rfl))) (by decide) (backOf (W := 0) (rm9_1_0 l Z a0 hw [] b8 k8 (5 : Int32) [(.ref b2_4), (.ref b5_3_31), (.ref b5_3_98), (.ref b16_4), .null] .null b2_4 h114 n0 O121 V114 (by decide) rfl) hZ (hw _ (List.mem_of_getElem? (i := 60) rfl)) (hw _ (List.mem_of_getElem? (i := 59) rfl)) (by decide) (by decide)) (g := (mkF m 116 #[.val (.int x0_0), .val (.int x1_0), .val (.int (2 : Int32)), .val (.int (1 : Int32)), .val (.ref b1), .val (.ref b8), .val (.ref b5_3_31), .val (.ref b2_4), .val (.ref b5_3_98), .unset, .unset, .unset, .unset, .unset, .unset] [(.int (0 : Int32)), (.int (1 : Int32)), (.ref b8)])) rfl (by rw [hml]; rfl) (argsL := [(.ref b8), (.int (1 : Int32)), (.int (0 : Int32))]) (rest := []) (lenOf pd_4 rfl) rfl (by show 2 * 0 + _ ≤ _; exact Nat.le_of_eq rfl) (hb hby at_116) (fun _ _ => ⟨rfl, e114, (by decide : 6 + 0 ≤ _), (by decide : 19 + 0 ≤ _)⟩)
      dsimp only [Pt.U, Pt.locs, Pt.cells, Pt.slots] at X122 l122 y122 z122 st122 hQ122
      subst y122 z122
      obtain ⟨rfl, N122q, e122⟩ := hQ122
      refine own_step (fun t k => st122 _ k) ?_
      have N123 : Fr n0 L122 := by rw [l122]; exact Fr.app N116 N122q
      show own_Ends p.tables e below s _ _ _ (T122.setTop (mkF m 119 #[.val (.int x0_0), .val (.int x1_0), .val (.int (2 : Int32)), .val (.int (1 : Int32)), .val (.ref b1), .val (.ref b8), .val (.ref b5_3_31), .val (.ref b2_4), .val (.ref b5_3_98), .unset, .unset, .unset, .unset, .unset, .unset] [(.ref b2_4)]))
      refine own_step (fun t k => XS.astore X122.here hx rfl (hb hby at_119) rfl rfl (l' := #[.val (.int x0_0), .val (.int x1_0), .val (.int (2 : Int32)), .val (.int (1 : Int32)), .val (.ref b1), .val (.ref b8), .val (.ref b5_3_31), .val (.ref b2_4), .val (.ref b5_3_98), .val (.ref b2_4), .unset, .unset, .unset, .unset, .unset]) rfl k) ?_
      show own_Ends p.tables e below s _ _ _ (T122.setTop (mkF m 121 #[.val (.int x0_0), .val (.int x1_0), .val (.int (2 : Int32)), .val (.int (1 : Int32)), .val (.ref b1), .val (.ref b8), .val (.ref b5_3_31), .val (.ref b2_4), .val (.ref b5_3_98), .val (.ref b2_4), .unset, .unset, .unset, .unset, .unset] []))
      refine own_step (fun t k => XS.aload X122.here hx rfl (hb hby at_121) rfl rfl k) ?_
      show own_Ends p.tables e below s _ _ _ (T122.setTop (mkF m 123 #[.val (.int x0_0), .val (.int x1_0), .val (.int (2 : Int32)), .val (.int (1 : Int32)), .val (.ref b1), .val (.ref b8), .val (.ref b5_3_31), .val (.ref b2_4), .val (.ref b5_3_98), .val (.ref b2_4), .unset, .unset, .unset, .unset, .unset] [(.ref b8)]))
      refine own_step (fun t k => XS.iloadN X122.here hx rfl (hb hby at_123) rfl k) ?_
      show own_Ends p.tables e below s _ _ _ (T122.setTop (mkF m 124 #[.val (.int x0_0), .val (.int x1_0), .val (.int (2 : Int32)), .val (.int (1 : Int32)), .val (.ref b1), .val (.ref b8), .val (.ref b5_3_31), .val (.ref b2_4), .val (.ref b5_3_98), .val (.ref b2_4), .unset, .unset, .unset, .unset, .unset] [(.int (1 : Int32)), (.ref b8)]))
      refine own_step (fun t k => XS.iconst X122.here hx rfl (hb hby at_124) k) ?_
      show own_Ends p.tables e below s _ _ _ (T122.setTop (mkF m 125 #[.val (.int x0_0), .val (.int x1_0), .val (.int (2 : Int32)), .val (.int (1 : Int32)), .val (.ref b1), .val (.ref b8), .val (.ref b5_3_31), .val (.ref b2_4), .val (.ref b5_3_98), .val (.ref b2_4), .unset, .unset, .unset, .unset, .unset] [(.int (1 : Int32)), (.int (1 : Int32)), (.ref b8)]))
      obtain ⟨_, _, ⟨T124, L124, k124, n124⟩, -, X124, ⟨Lc124, hQ124, l124, y124, z124⟩, st124⟩ := Jvm.LawKit.callS X122 hx (y := (⟨"com/example/serigraph/serigraph/view/OrderListRemovePinLaw", "at", "([Lcom/example/serigraph/serigraph/view/OrderList$Place;II)Lcom/example/serigraph/serigraph/view/OrderList$Place;"⟩ : MethodName)) hown (mvT hZ (hw _ (List.mem_of_getElem? (i := 57) rfl))) (mvT hZ (hw _ (List.mem_of_getElem? (i := 58) rfl))) (mvT hZ (hw _ (List.mem_of_getElem? (i := 59) rfl))) (mvT hZ (hw _ (List.mem_of_getElem? (i := 60) rfl))) (by decide) (backOf (W := 0) (rm9_1_1 l Z a0 hw [] b8 k8 (5 : Int32) [(.ref b2_4), (.ref b5_3_31), (.ref b5_3_98), (.ref b16_4), .null] .null b5_3_98 h114 n0 O121 V114 (by decide) rfl) hZ (hw _ (List.mem_of_getElem? (i := 60) rfl)) (hw _ (List.mem_of_getElem? (i := 59) rfl)) (by decide) (by decide)) (g := (mkF m 125 #[.val (.int x0_0), .val (.int x1_0), .val (.int (2 : Int32)), .val (.int (1 : Int32)), .val (.ref b1), .val (.ref b8), .val (.ref b5_3_31), .val (.ref b2_4), .val (.ref b5_3_98), .val (.ref b2_4), .unset, .unset, .unset, .unset, .unset] [(.int (1 : Int32)), (.int (1 : Int32)), (.ref b8)])) rfl (by rw [hml]; rfl) (argsL := [(.ref b8), (.int (1 : Int32)), (.int (1 : Int32))]) (rest := []) (lenOf pd_4 rfl) rfl (by show 2 * 0 + _ ≤ _; exact Nat.le_of_eq rfl) (hb hby at_125) (fun _ _ => ⟨rfl, e122, (by decide : 6 + 0 ≤ _), (by decide : 19 + 0 ≤ _)⟩)
      dsimp only [Pt.U, Pt.locs, Pt.cells, Pt.slots] at X124 l124 y124 z124 st124 hQ124
      subst y124 z124
      obtain ⟨rfl, N124q, e124⟩ := hQ124
      refine own_step (fun t k => st124 _ k) ?_
      have N125 : Fr n0 L124 := by rw [l124]; exact Fr.app N123 N124q
      show own_Ends p.tables e below s _ _ _ (T124.setTop (mkF m 128 #[.val (.int x0_0), .val (.int x1_0), .val (.int (2 : Int32)), .val (.int (1 : Int32)), .val (.ref b1), .val (.ref b8), .val (.ref b5_3_31), .val (.ref b2_4), .val (.ref b5_3_98), .val (.ref b2_4), .unset, .unset, .unset, .unset, .unset] [(.ref b5_3_98)]))
      refine own_step (fun t k => XS.astore X124.here hx rfl (hb hby at_128) rfl rfl (l' := #[.val (.int x0_0), .val (.int x1_0), .val (.int (2 : Int32)), .val (.int (1 : Int32)), .val (.ref b1), .val (.ref b8), .val (.ref b5_3_31), .val (.ref b2_4), .val (.ref b5_3_98), .val (.ref b2_4), .val (.ref b5_3_98), .unset, .unset, .unset, .unset]) rfl k) ?_
      show own_Ends p.tables e below s _ _ _ (T124.setTop (mkF m 130 #[.val (.int x0_0), .val (.int x1_0), .val (.int (2 : Int32)), .val (.int (1 : Int32)), .val (.ref b1), .val (.ref b8), .val (.ref b5_3_31), .val (.ref b2_4), .val (.ref b5_3_98), .val (.ref b2_4), .val (.ref b5_3_98), .unset, .unset, .unset, .unset] []))
      refine own_step (fun t k => XS.iloadN X124.here hx rfl (hb hby at_130) rfl k) ?_
      show own_Ends p.tables e below s _ _ _ (T124.setTop (mkF m 131 #[.val (.int x0_0), .val (.int x1_0), .val (.int (2 : Int32)), .val (.int (1 : Int32)), .val (.ref b1), .val (.ref b8), .val (.ref b5_3_31), .val (.ref b2_4), .val (.ref b5_3_98), .val (.ref b2_4), .val (.ref b5_3_98), .unset, .unset, .unset, .unset] [(.int (2 : Int32))]))
      refine own_step (fun t k => XS.iconst X124.here hx rfl (hb hby at_131) k) ?_
      show own_Ends p.tables e below s _ _ _ (T124.setTop (mkF m 132 #[.val (.int x0_0), .val (.int x1_0), .val (.int (2 : Int32)), .val (.int (1 : Int32)), .val (.ref b1), .val (.ref b8), .val (.ref b5_3_31), .val (.ref b2_4), .val (.ref b5_3_98), .val (.ref b2_4), .val (.ref b5_3_98), .unset, .unset, .unset, .unset] [(.int (2 : Int32)), (.int (2 : Int32))]))
      refine own_step (fun t k => XS.icmpNo X124.here hx rfl (hb hby at_132) rfl (flt (by decide : ¬ ((2 : Int32) < (2 : Int32)))).1 k) ?_
      show own_Ends p.tables e below s _ _ _ (T124.setTop (mkF m 135 #[.val (.int x0_0), .val (.int x1_0), .val (.int (2 : Int32)), .val (.int (1 : Int32)), .val (.ref b1), .val (.ref b8), .val (.ref b5_3_31), .val (.ref b2_4), .val (.ref b5_3_98), .val (.ref b2_4), .val (.ref b5_3_98), .unset, .unset, .unset, .unset] []))
      refine own_step (fun t k => XS.aload X124.here hx rfl (hb hby at_135) rfl rfl k) ?_
      show own_Ends p.tables e below s _ _ _ (T124.setTop (mkF m 137 #[.val (.int x0_0), .val (.int x1_0), .val (.int (2 : Int32)), .val (.int (1 : Int32)), .val (.ref b1), .val (.ref b8), .val (.ref b5_3_31), .val (.ref b2_4), .val (.ref b5_3_98), .val (.ref b2_4), .val (.ref b5_3_98), .unset, .unset, .unset, .unset] [(.ref b8)]))
      refine own_step (fun t k => XS.iloadN X124.here hx rfl (hb hby at_137) rfl k) ?_
      show own_Ends p.tables e below s _ _ _ (T124.setTop (mkF m 138 #[.val (.int x0_0), .val (.int x1_0), .val (.int (2 : Int32)), .val (.int (1 : Int32)), .val (.ref b1), .val (.ref b8), .val (.ref b5_3_31), .val (.ref b2_4), .val (.ref b5_3_98), .val (.ref b2_4), .val (.ref b5_3_98), .unset, .unset, .unset, .unset] [(.int (1 : Int32)), (.ref b8)]))
      refine own_step (fun t k => XS.iconst X124.here hx rfl (hb hby at_138) k) ?_
      show own_Ends p.tables e below s _ _ _ (T124.setTop (mkF m 139 #[.val (.int x0_0), .val (.int x1_0), .val (.int (2 : Int32)), .val (.int (1 : Int32)), .val (.ref b1), .val (.ref b8), .val (.ref b5_3_31), .val (.ref b2_4), .val (.ref b5_3_98), .val (.ref b2_4), .val (.ref b5_3_98), .unset, .unset, .unset, .unset] [(.int (2 : Int32)), (.int (1 : Int32)), (.ref b8)]))
      obtain ⟨_, _, ⟨T126, L126, k126, n126⟩, -, X126, ⟨Lc126, hQ126, l126, y126, z126⟩, st126⟩ := Jvm.LawKit.callS X124 hx (y := (⟨"com/example/serigraph/serigraph/view/OrderListRemovePinLaw", "at", "([Lcom/example/serigraph/serigraph/view/OrderList$Place;II)Lcom/example/serigraph/serigraph/view/OrderList$Place;"⟩ : MethodName)) hown (mvT hZ (hw _ (List.mem_of_getElem? (i := 57) rfl))) (mvT hZ (hw _ (List.mem_of_getElem? (i := 58) rfl))) (mvT hZ (hw _ (List.mem_of_getElem? (i := 59) rfl))) (mvT hZ (hw _ (List.mem_of_getElem? (i := 60) rfl))) (by decide) (backOf (W := 0) (rm9_1_2 l Z a0 hw [] b8 k8 (5 : Int32) [(.ref b2_4), (.ref b5_3_31), (.ref b5_3_98), (.ref b16_4), .null] .null b16_4 h114 n0 O121 V114 (by decide) rfl) hZ (hw _ (List.mem_of_getElem? (i := 60) rfl)) (hw _ (List.mem_of_getElem? (i := 59) rfl)) (by decide) (by decide)) (g := (mkF m 139 #[.val (.int x0_0), .val (.int x1_0), .val (.int (2 : Int32)), .val (.int (1 : Int32)), .val (.ref b1), .val (.ref b8), .val (.ref b5_3_31), .val (.ref b2_4), .val (.ref b5_3_98), .val (.ref b2_4), .val (.ref b5_3_98), .unset, .unset, .unset, .unset] [(.int (2 : Int32)), (.int (1 : Int32)), (.ref b8)])) rfl (by rw [hml]; rfl) (argsL := [(.ref b8), (.int (1 : Int32)), (.int (2 : Int32))]) (rest := []) (lenOf pd_4 rfl) rfl (by show 2 * 0 + _ ≤ _; exact Nat.le_of_eq rfl) (hb hby at_139) (fun _ _ => ⟨rfl, e124, (by decide : 6 + 0 ≤ _), (by decide : 19 + 0 ≤ _)⟩)
      dsimp only [Pt.U, Pt.locs, Pt.cells, Pt.slots] at X126 l126 y126 z126 st126 hQ126
      subst y126 z126
      obtain ⟨rfl, N126q, e126⟩ := hQ126
      refine own_step (fun t k => st126 _ k) ?_
      have N127 : Fr n0 L126 := by rw [l126]; exact Fr.app N125 N126q
      show own_Ends p.tables e below s _ _ _ (T126.setTop (mkF m 142 #[.val (.int x0_0), .val (.int x1_0), .val (.int (2 : Int32)), .val (.int (1 : Int32)), .val (.ref b1), .val (.ref b8), .val (.ref b5_3_31), .val (.ref b2_4), .val (.ref b5_3_98), .val (.ref b2_4), .val (.ref b5_3_98), .unset, .unset, .unset, .unset] [(.ref b16_4)]))
      refine own_step (fun t k => XS.goto X126.here hx rfl (pc0 := 142) (pc' := 146) rfl (hb hby at_142) (by decide) (by decide) k) ?_
      show own_Ends p.tables e below s _ _ _ (T126.setTop (mkF m 146 #[.val (.int x0_0), .val (.int x1_0), .val (.int (2 : Int32)), .val (.int (1 : Int32)), .val (.ref b1), .val (.ref b8), .val (.ref b5_3_31), .val (.ref b2_4), .val (.ref b5_3_98), .val (.ref b2_4), .val (.ref b5_3_98), .unset, .unset, .unset, .unset] [(.ref b16_4)]))
      refine own_step (fun t k => XS.astore X126.here hx rfl (hb hby at_146) rfl rfl (l' := #[.val (.int x0_0), .val (.int x1_0), .val (.int (2 : Int32)), .val (.int (1 : Int32)), .val (.ref b1), .val (.ref b8), .val (.ref b5_3_31), .val (.ref b2_4), .val (.ref b5_3_98), .val (.ref b2_4), .val (.ref b5_3_98), .val (.ref b16_4), .unset, .unset, .unset]) rfl k) ?_
      show own_Ends p.tables e below s _ _ _ (T126.setTop (mkF m 148 #[.val (.int x0_0), .val (.int x1_0), .val (.int (2 : Int32)), .val (.int (1 : Int32)), .val (.ref b1), .val (.ref b8), .val (.ref b5_3_31), .val (.ref b2_4), .val (.ref b5_3_98), .val (.ref b2_4), .val (.ref b5_3_98), .val (.ref b16_4), .unset, .unset, .unset] []))
      refine own_step (fun t k => XS.iloadN X126.here hx rfl (hb hby at_148) rfl k) ?_
      show own_Ends p.tables e below s _ _ _ (T126.setTop (mkF m 149 #[.val (.int x0_0), .val (.int x1_0), .val (.int (2 : Int32)), .val (.int (1 : Int32)), .val (.ref b1), .val (.ref b8), .val (.ref b5_3_31), .val (.ref b2_4), .val (.ref b5_3_98), .val (.ref b2_4), .val (.ref b5_3_98), .val (.ref b16_4), .unset, .unset, .unset] [(.int (2 : Int32))]))
      refine own_step (fun t k => XS.iconst X126.here hx rfl (hb hby at_149) k) ?_
      show own_Ends p.tables e below s _ _ _ (T126.setTop (mkF m 150 #[.val (.int x0_0), .val (.int x1_0), .val (.int (2 : Int32)), .val (.int (1 : Int32)), .val (.ref b1), .val (.ref b8), .val (.ref b5_3_31), .val (.ref b2_4), .val (.ref b5_3_98), .val (.ref b2_4), .val (.ref b5_3_98), .val (.ref b16_4), .unset, .unset, .unset] [(.int (3 : Int32)), (.int (2 : Int32))]))
      refine own_step (fun t k => XS.icmpYes X126.here hx rfl (pc0 := 150) (pc' := 163) rfl (hb hby at_150) rfl (tlt (by decide : (2 : Int32) < (3 : Int32))).1 (by decide) (by decide) k) ?_
      show own_Ends p.tables e below s _ _ _ (T126.setTop (mkF m 163 #[.val (.int x0_0), .val (.int x1_0), .val (.int (2 : Int32)), .val (.int (1 : Int32)), .val (.ref b1), .val (.ref b8), .val (.ref b5_3_31), .val (.ref b2_4), .val (.ref b5_3_98), .val (.ref b2_4), .val (.ref b5_3_98), .val (.ref b16_4), .unset, .unset, .unset] []))
      refine own_step (fun t k => XS.aconstNull X126.here hx rfl (hb hby at_163) k) ?_
      show own_Ends p.tables e below s _ _ _ (T126.setTop (mkF m 164 #[.val (.int x0_0), .val (.int x1_0), .val (.int (2 : Int32)), .val (.int (1 : Int32)), .val (.ref b1), .val (.ref b8), .val (.ref b5_3_31), .val (.ref b2_4), .val (.ref b5_3_98), .val (.ref b2_4), .val (.ref b5_3_98), .val (.ref b16_4), .unset, .unset, .unset] [.null]))
      refine own_step (fun t k => XS.astore X126.here hx rfl (hb hby at_164) rfl rfl (l' := #[.val (.int x0_0), .val (.int x1_0), .val (.int (2 : Int32)), .val (.int (1 : Int32)), .val (.ref b1), .val (.ref b8), .val (.ref b5_3_31), .val (.ref b2_4), .val (.ref b5_3_98), .val (.ref b2_4), .val (.ref b5_3_98), .val (.ref b16_4), .val .null, .unset, .unset]) rfl k) ?_
      show own_Ends p.tables e below s _ _ _ (T126.setTop (mkF m 166 #[.val (.int x0_0), .val (.int x1_0), .val (.int (2 : Int32)), .val (.int (1 : Int32)), .val (.ref b1), .val (.ref b8), .val (.ref b5_3_31), .val (.ref b2_4), .val (.ref b5_3_98), .val (.ref b2_4), .val (.ref b5_3_98), .val (.ref b16_4), .val .null, .unset, .unset] []))
      refine own_step (fun t k => XS.aload X126.here hx rfl (hb hby at_166) rfl rfl k) ?_
      show own_Ends p.tables e below s _ _ _ (T126.setTop (mkF m 168 #[.val (.int x0_0), .val (.int x1_0), .val (.int (2 : Int32)), .val (.int (1 : Int32)), .val (.ref b1), .val (.ref b8), .val (.ref b5_3_31), .val (.ref b2_4), .val (.ref b5_3_98), .val (.ref b2_4), .val (.ref b5_3_98), .val (.ref b16_4), .val .null, .unset, .unset] [(.ref b1)]))
      refine own_step (fun t k => XS.aload X126.here hx rfl (hb hby at_168) rfl rfl k) ?_
      show own_Ends p.tables e below s _ _ _ (T126.setTop (mkF m 170 #[.val (.int x0_0), .val (.int x1_0), .val (.int (2 : Int32)), .val (.int (1 : Int32)), .val (.ref b1), .val (.ref b8), .val (.ref b5_3_31), .val (.ref b2_4), .val (.ref b5_3_98), .val (.ref b2_4), .val (.ref b5_3_98), .val (.ref b16_4), .val .null, .unset, .unset] [(.ref b5_3_31), (.ref b1)]))
      have F128 : Fld Z h114 b5_3_31 "com/example/serigraph/serigraph/view/OrderList$Place" "previous" "Lcom/example/serigraph/serigraph/view/OrderList$Place;" (.ref b2_4) := ((p98_1.other W104 (Or.inl (Ne.symm ne_b8_b5_3_31))).other W114 (Or.inl (Ne.symm ne_b8_b5_3_31)))
      have F129 : Fld Z h114 b5_3_31 "com/example/serigraph/serigraph/view/OrderList$Place" "next" "Lcom/example/serigraph/serigraph/view/OrderList$Place;" (.ref b5_3_98) := ((p98_2.other W104 (Or.inl (Ne.symm ne_b8_b5_3_31))).other W114 (Or.inl (Ne.symm ne_b8_b5_3_31)))
      have F130 : Exa Z h114 b2_4 "com/example/serigraph/serigraph/view/OrderList$Place" := (((F99.keep K98q).wr W104).wr W114)
      have F131 : Fld Z h104 b2_4 "com/example/serigraph/serigraph/view/OrderList$Place" "next" "Lcom/example/serigraph/serigraph/view/OrderList$Place;" (.ref b5_3_31) := (((p31_2.other W36 (Or.inl ne_b2_4_b8)).keep K98q (ninS ne_b2_4_b5_3_31 (ninS p4_13 nin0))).other W104 (Or.inl ne_b2_4_b8))
      have F132 : Fld Z h114 b2_4 "com/example/serigraph/serigraph/view/OrderList$Place" "next" "Lcom/example/serigraph/serigraph/view/OrderList$Place;" (.ref b5_3_31) := (F131.other W114 (Or.inl ne_b2_4_b8))
      have F133 : Exa Z h114 b5_3_98 "com/example/serigraph/serigraph/view/OrderList$Place" := ((p98_9.wr W104).wr W114)
      have F134 : Fld Z h114 b5_3_98 "com/example/serigraph/serigraph/view/OrderList$Place" "previous" "Lcom/example/serigraph/serigraph/view/OrderList$Place;" (.ref b5_3_31) := ((p98_12.other W104 (Or.inl (Ne.symm ne_b8_b5_3_98))).other W114 (Or.inl (Ne.symm ne_b8_b5_3_98)))
      have F135 : Fld Z h104 b2_4 "com/example/serigraph/serigraph/view/OrderList$Place" "label" "J" (.long (0 : Int64)) := (((p31_3.other W36 (Or.inl ne_b2_4_b8)).keep K98q (ninS ne_b2_4_b5_3_31 (ninS p4_13 nin0))).other W104 (Or.inl ne_b2_4_b8))
      have F136 : Fld Z h114 b2_4 "com/example/serigraph/serigraph/view/OrderList$Place" "label" "J" (.long (0 : Int64)) := (F135.other W114 (Or.inl ne_b2_4_b8))
      have F137 : Fld Z h104 b2_4 "com/example/serigraph/serigraph/view/OrderList$Place" "previous" "Lcom/example/serigraph/serigraph/view/OrderList$Place;" .null := (((p31_1.other W36 (Or.inl ne_b2_4_b8)).keep K98q (ninS ne_b2_4_b5_3_31 (ninS p4_13 nin0))).other W104 (Or.inl ne_b2_4_b8))
      have F138 : Fld Z h114 b2_4 "com/example/serigraph/serigraph/view/OrderList$Place" "previous" "Lcom/example/serigraph/serigraph/view/OrderList$Place;" .null := (F137.other W114 (Or.inl ne_b2_4_b8))
      have F139 : Fld Z h114 b5_3_98 "com/example/serigraph/serigraph/view/OrderList$Place" "label" "J" (.long (8589934592 : Int64)) := ((p98_10c.other W104 (Or.inl (Ne.symm ne_b8_b5_3_98))).other W114 (Or.inl (Ne.symm ne_b8_b5_3_98)))
      have F140 : Fld Z h114 b5_3_98 "com/example/serigraph/serigraph/view/OrderList$Place" "next" "Lcom/example/serigraph/serigraph/view/OrderList$Place;" (.ref b16_4) := ((p98_11.other W104 (Or.inl (Ne.symm ne_b8_b5_3_98))).other W114 (Or.inl (Ne.symm ne_b8_b5_3_98)))
      have F142 : Exa Z h114 b1 "com/example/serigraph/serigraph/view/OrderList" := (F110.wr W114)
      obtain ⟨cq141, kq141, q141a, q141b, q141c⟩ := isOf hZ e126 F142
      obtain ⟨_, _, ⟨T141, L141, k141, n141⟩, -, X141, ⟨Lc141, hQ141, l141, y141, z141⟩, st141⟩ := X126.virtualBack hx (y := (⟨"com/example/serigraph/serigraph/view/OrderList", "remove", "(Lcom/example/serigraph/serigraph/view/OrderList$Place;)V"⟩ : MethodName)) (z := (⟨"com/example/serigraph/serigraph/view/OrderList", "remove", "(Lcom/example/serigraph/serigraph/view/OrderList$Place;)V"⟩ : MethodName)) hown (mvT hZ (hw _ (List.mem_of_getElem? (i := 61) rfl))) (mvT hZ (hw _ (List.mem_of_getElem? (i := 62) rfl))) (notFace_of_selects (args := #[]) (mvT hZ (hw _ (List.mem_of_getElem? (i := 64) rfl)))) (mvT hZ (hw _ (List.mem_of_getElem? (i := 64) rfl))) (mvT hZ (hw _ (List.mem_of_getElem? (i := 63) rfl))) (by decide) (backOf (W := 0) (rm10 l Z a0 hw [] b1 b5_3_31 (.long (0 : Int64)) .null (.long (8589934592 : Int64)) (.ref b16_4) b2_4 b5_3_98 (.ref b5_3_31) (.ref b5_3_31) h114 n0 O121 F136 F138 F139 F140 F128 F129 F130 F132 g_b2_4 (Ne.symm ne_b2_4_b5_3_31) F133 F134 (Ne.symm ne_b2_4_b5_3_98) g_b5_3_98) hZ (hw _ (List.mem_of_getElem? (i := 65) rfl)) (hw _ (List.mem_of_getElem? (i := 3) rfl)) (by decide) (by decide)) q141a q141c (g := (mkF m 170 #[.val (.int x0_0), .val (.int x1_0), .val (.int (2 : Int32)), .val (.int (1 : Int32)), .val (.ref b1), .val (.ref b8), .val (.ref b5_3_31), .val (.ref b2_4), .val (.ref b5_3_98), .val (.ref b2_4), .val (.ref b5_3_98), .val (.ref b16_4), .val .null, .unset, .unset] [(.ref b5_3_31), (.ref b1)])) rfl (by rw [hml]; rfl) (Steps.refl _) (argsL := [(.ref b5_3_31)]) (rest := []) (lenOf pd_5 rfl) rfl (by show 2 * 0 + _ ≤ _; exact Nat.le_of_eq rfl) (hb hby at_170) (fun _ _ => ⟨rfl, e126, (by decide : 6 + 0 ≤ _), (by decide : 19 + 0 ≤ _)⟩)
      dsimp only [Pt.U, Pt.locs, Pt.cells, Pt.slots] at X141 l141 y141 z141 st141 hQ141
      subst y141 z141
      obtain ⟨rfl, N141q, K141q, p141_0, p141_1, p141_2, p141_3, p141_4, p141_5, p141_6, p141_7⟩ := hQ141
      refine own_step (fun t k => st141.trans k) ?_
      have N143 : Fr n0 L141 := by rw [l141]; exact Fr.app N127 N141q
      have K144 : Keep h0 T141.heap [] := K115.trans K141q (allS (Or.inr sz_b2_4) (allS (Or.inr sz_b5_3_98) all0))
      show own_Ends p.tables e below s _ _ _ (T141.setTop (mkF m 173 #[.val (.int x0_0), .val (.int x1_0), .val (.int (2 : Int32)), .val (.int (1 : Int32)), .val (.ref b1), .val (.ref b8), .val (.ref b5_3_31), .val (.ref b2_4), .val (.ref b5_3_98), .val (.ref b2_4), .val (.ref b5_3_98), .val (.ref b16_4), .val .null, .unset, .unset] []))
      refine own_step (fun t k => XS.aload X141.here hx rfl (hb hby at_173) rfl rfl k) ?_
      show own_Ends p.tables e below s _ _ _ (T141.setTop (mkF m 175 #[.val (.int x0_0), .val (.int x1_0), .val (.int (2 : Int32)), .val (.int (1 : Int32)), .val (.ref b1), .val (.ref b8), .val (.ref b5_3_31), .val (.ref b2_4), .val (.ref b5_3_98), .val (.ref b2_4), .val (.ref b5_3_98), .val (.ref b16_4), .val .null, .unset, .unset] [(.ref b5_3_98)]))
      have O145 : Old Z n0 T141.heap := (O121.keep K141q (allS g_b2_4 (allS g_b5_3_98 all0)))
      obtain ⟨cq146, kq146, q146a, q146b, q146c⟩ := isOf hZ rfl p141_6
      obtain ⟨_, _, ⟨T146, L146, k146, n146⟩, -, X146, ⟨Lc146, hQ146, l146, y146, z146⟩, st146⟩ := X141.virtualBack hx (y := (⟨"com/example/serigraph/serigraph/view/OrderList$Place", "previous", "()Lcom/example/serigraph/serigraph/view/OrderList$Place;"⟩ : MethodName)) (z := (⟨"com/example/serigraph/serigraph/view/OrderList$Place", "previous", "()Lcom/example/serigraph/serigraph/view/OrderList$Place;"⟩ : MethodName)) hown (mvT hZ (hw _ (List.mem_of_getElem? (i := 66) rfl))) (mvT hZ (hw _ (List.mem_of_getElem? (i := 67) rfl))) (notFace_of_selects (args := #[]) (mvT hZ (hw _ (List.mem_of_getElem? (i := 69) rfl)))) (mvT hZ (hw _ (List.mem_of_getElem? (i := 69) rfl))) (mvT hZ (hw _ (List.mem_of_getElem? (i := 68) rfl))) (by decide) (backOf (W := 0) (rm11 l Z a0 hw [] b5_3_98 b2_4 T141.heap n0 O145 p141_7) hZ (hw _ (List.mem_of_getElem? (i := 70) rfl)) (hw _ (List.mem_of_getElem? (i := 12) rfl)) (by decide) (by decide)) q146a q146c (g := (mkF m 175 #[.val (.int x0_0), .val (.int x1_0), .val (.int (2 : Int32)), .val (.int (1 : Int32)), .val (.ref b1), .val (.ref b8), .val (.ref b5_3_31), .val (.ref b2_4), .val (.ref b5_3_98), .val (.ref b2_4), .val (.ref b5_3_98), .val (.ref b16_4), .val .null, .unset, .unset] [(.ref b5_3_98)])) rfl (by rw [hml]; rfl) (Steps.refl _) (argsL := []) (rest := []) (lenOf pd_3 rfl) rfl (by show 2 * 0 + _ ≤ _; exact Nat.le_of_eq rfl) (hb hby at_175) (fun _ _ => ⟨rfl, rfl, (by decide : 6 + 0 ≤ _), (by decide : 19 + 0 ≤ _)⟩)
      dsimp only [Pt.U, Pt.locs, Pt.cells, Pt.slots] at X146 l146 y146 z146 st146 hQ146
      subst y146 z146
      obtain ⟨rfl, N146q, e146⟩ := hQ146
      refine own_step (fun t k => st146.trans k) ?_
      have N147 : Fr n0 L146 := by rw [l146]; exact Fr.app N143 N146q
      show own_Ends p.tables e below s _ _ _ (T146.setTop (mkF m 178 #[.val (.int x0_0), .val (.int x1_0), .val (.int (2 : Int32)), .val (.int (1 : Int32)), .val (.ref b1), .val (.ref b8), .val (.ref b5_3_31), .val (.ref b2_4), .val (.ref b5_3_98), .val (.ref b2_4), .val (.ref b5_3_98), .val (.ref b16_4), .val .null, .unset, .unset] [(.ref b2_4)]))
      refine own_step (fun t k => XS.aload X146.here hx rfl (hb hby at_178) rfl rfl k) ?_
      show own_Ends p.tables e below s _ _ _ (T146.setTop (mkF m 180 #[.val (.int x0_0), .val (.int x1_0), .val (.int (2 : Int32)), .val (.int (1 : Int32)), .val (.ref b1), .val (.ref b8), .val (.ref b5_3_31), .val (.ref b2_4), .val (.ref b5_3_98), .val (.ref b2_4), .val (.ref b5_3_98), .val (.ref b16_4), .val .null, .unset, .unset] [(.ref b2_4), (.ref b2_4)]))
      refine own_step (fun t k => Jvm.RoadKit.acmp (g := (mkF m 180 #[.val (.int x0_0), .val (.int x1_0), .val (.int (2 : Int32)), .val (.int (1 : Int32)), .val (.ref b1), .val (.ref b8), .val (.ref b5_3_31), .val (.ref b2_4), .val (.ref b5_3_98), .val (.ref b2_4), .val (.ref b5_3_98), .val (.ref b16_4), .val .null, .unset, .unset] [(.ref b2_4), (.ref b2_4)])) X146 hx rfl rfl rfl (pc0 := 180) (pc' := 183) (same := true) rfl (hb hby at_180) rfl (decide_eq_true rfl) (by decide) (by decide) k) ?_
      show own_Ends p.tables e below s _ _ _ (T146.setTop (mkF m 183 #[.val (.int x0_0), .val (.int x1_0), .val (.int (2 : Int32)), .val (.int (1 : Int32)), .val (.ref b1), .val (.ref b8), .val (.ref b5_3_31), .val (.ref b2_4), .val (.ref b5_3_98), .val (.ref b2_4), .val (.ref b5_3_98), .val (.ref b16_4), .val .null, .unset, .unset] []))
      refine own_step (fun t k => XS.iconst X146.here hx rfl (hb hby at_183) k) ?_
      show own_Ends p.tables e below s _ _ _ (T146.setTop (mkF m 184 #[.val (.int x0_0), .val (.int x1_0), .val (.int (2 : Int32)), .val (.int (1 : Int32)), .val (.ref b1), .val (.ref b8), .val (.ref b5_3_31), .val (.ref b2_4), .val (.ref b5_3_98), .val (.ref b2_4), .val (.ref b5_3_98), .val (.ref b16_4), .val .null, .unset, .unset] [(.int (1 : Int32))]))
      refine own_step (fun t k => XS.goto X146.here hx rfl (pc0 := 184) (pc' := 188) rfl (hb hby at_184) (by decide) (by decide) k) ?_
      show own_Ends p.tables e below s _ _ _ (T146.setTop (mkF m 188 #[.val (.int x0_0), .val (.int x1_0), .val (.int (2 : Int32)), .val (.int (1 : Int32)), .val (.ref b1), .val (.ref b8), .val (.ref b5_3_31), .val (.ref b2_4), .val (.ref b5_3_98), .val (.ref b2_4), .val (.ref b5_3_98), .val (.ref b16_4), .val .null, .unset, .unset] [(.int (1 : Int32))]))
      refine own_step (fun t k => XS.istore X146.here hx rfl (hb hby at_188) rfl (l' := #[.val (.int x0_0), .val (.int x1_0), .val (.int (2 : Int32)), .val (.int (1 : Int32)), .val (.ref b1), .val (.ref b8), .val (.ref b5_3_31), .val (.ref b2_4), .val (.ref b5_3_98), .val (.ref b2_4), .val (.ref b5_3_98), .val (.ref b16_4), .val .null, .val (.int (1 : Int32)), .unset]) rfl k) ?_
      show own_Ends p.tables e below s _ _ _ (T146.setTop (mkF m 190 #[.val (.int x0_0), .val (.int x1_0), .val (.int (2 : Int32)), .val (.int (1 : Int32)), .val (.ref b1), .val (.ref b8), .val (.ref b5_3_31), .val (.ref b2_4), .val (.ref b5_3_98), .val (.ref b2_4), .val (.ref b5_3_98), .val (.ref b16_4), .val .null, .val (.int (1 : Int32)), .unset] []))
      refine own_step (fun t k => XS.iloadN X146.here hx rfl (hb hby at_190) rfl k) ?_
      show own_Ends p.tables e below s _ _ _ (T146.setTop (mkF m 191 #[.val (.int x0_0), .val (.int x1_0), .val (.int (2 : Int32)), .val (.int (1 : Int32)), .val (.ref b1), .val (.ref b8), .val (.ref b5_3_31), .val (.ref b2_4), .val (.ref b5_3_98), .val (.ref b2_4), .val (.ref b5_3_98), .val (.ref b16_4), .val .null, .val (.int (1 : Int32)), .unset] [(.int (2 : Int32))]))
      refine own_step (fun t k => XS.iconst X146.here hx rfl (hb hby at_191) k) ?_
      show own_Ends p.tables e below s _ _ _ (T146.setTop (mkF m 192 #[.val (.int x0_0), .val (.int x1_0), .val (.int (2 : Int32)), .val (.int (1 : Int32)), .val (.ref b1), .val (.ref b8), .val (.ref b5_3_31), .val (.ref b2_4), .val (.ref b5_3_98), .val (.ref b2_4), .val (.ref b5_3_98), .val (.ref b16_4), .val .null, .val (.int (1 : Int32)), .unset] [(.int (2 : Int32)), (.int (2 : Int32))]))
      refine own_step (fun t k => XS.icmpNo X146.here hx rfl (hb hby at_192) rfl (flt (by decide : ¬ ((2 : Int32) < (2 : Int32)))).1 k) ?_
      show own_Ends p.tables e below s _ _ _ (T146.setTop (mkF m 195 #[.val (.int x0_0), .val (.int x1_0), .val (.int (2 : Int32)), .val (.int (1 : Int32)), .val (.ref b1), .val (.ref b8), .val (.ref b5_3_31), .val (.ref b2_4), .val (.ref b5_3_98), .val (.ref b2_4), .val (.ref b5_3_98), .val (.ref b16_4), .val .null, .val (.int (1 : Int32)), .unset] []))
      refine own_step (fun t k => XS.iload X146.here hx rfl (hb hby at_195) rfl k) ?_
      show own_Ends p.tables e below s _ _ _ (T146.setTop (mkF m 197 #[.val (.int x0_0), .val (.int x1_0), .val (.int (2 : Int32)), .val (.int (1 : Int32)), .val (.ref b1), .val (.ref b8), .val (.ref b5_3_31), .val (.ref b2_4), .val (.ref b5_3_98), .val (.ref b2_4), .val (.ref b5_3_98), .val (.ref b16_4), .val .null, .val (.int (1 : Int32)), .unset] [(.int (1 : Int32))]))
      refine own_step (fun t k => XS.ifNo X146.here hx rfl (hb hby at_197) rfl ((if0 _ _).trans (feq (by decide : ¬ ((1 : Int32) = (0 : Int32)))).1) k) ?_
      show own_Ends p.tables e below s _ _ _ (T146.setTop (mkF m 200 #[.val (.int x0_0), .val (.int x1_0), .val (.int (2 : Int32)), .val (.int (1 : Int32)), .val (.ref b1), .val (.ref b8), .val (.ref b5_3_31), .val (.ref b2_4), .val (.ref b5_3_98), .val (.ref b2_4), .val (.ref b5_3_98), .val (.ref b16_4), .val .null, .val (.int (1 : Int32)), .unset] []))
      refine own_step (fun t k => XS.aload X146.here hx rfl (hb hby at_200) rfl rfl k) ?_
      show own_Ends p.tables e below s _ _ _ (T146.setTop (mkF m 202 #[.val (.int x0_0), .val (.int x1_0), .val (.int (2 : Int32)), .val (.int (1 : Int32)), .val (.ref b1), .val (.ref b8), .val (.ref b5_3_31), .val (.ref b2_4), .val (.ref b5_3_98), .val (.ref b2_4), .val (.ref b5_3_98), .val (.ref b16_4), .val .null, .val (.int (1 : Int32)), .unset] [(.ref b16_4)]))
      have F148 : Fld Z T141.heap b16_4 "com/example/serigraph/serigraph/view/OrderList$Place" "previous" "Lcom/example/serigraph/serigraph/view/OrderList$Place;" (.ref b5_3_98) := (((p98_7.other W104 (Or.inl ne_b16_4_b8)).other W114 (Or.inl ne_b16_4_b8)).keep K141q (ninS (Ne.symm p4_13) (ninS ne_b16_4_b5_3_98 nin0)))
      have F150 : Exa Z T141.heap b16_4 "com/example/serigraph/serigraph/view/OrderList$Place" := ((F113.wr W114).keep K141q)
      obtain ⟨cq149, kq149, q149a, q149b, q149c⟩ := isOf hZ e146 F150
      obtain ⟨_, _, ⟨T149, L149, k149, n149⟩, -, X149, ⟨Lc149, hQ149, l149, y149, z149⟩, st149⟩ := X146.virtualBack hx (y := (⟨"com/example/serigraph/serigraph/view/OrderList$Place", "previous", "()Lcom/example/serigraph/serigraph/view/OrderList$Place;"⟩ : MethodName)) (z := (⟨"com/example/serigraph/serigraph/view/OrderList$Place", "previous", "()Lcom/example/serigraph/serigraph/view/OrderList$Place;"⟩ : MethodName)) hown (mvT hZ (hw _ (List.mem_of_getElem? (i := 66) rfl))) (mvT hZ (hw _ (List.mem_of_getElem? (i := 67) rfl))) (notFace_of_selects (args := #[]) (mvT hZ (hw _ (List.mem_of_getElem? (i := 69) rfl)))) (mvT hZ (hw _ (List.mem_of_getElem? (i := 69) rfl))) (mvT hZ (hw _ (List.mem_of_getElem? (i := 68) rfl))) (by decide) (backOf (W := 0) (rm11 l Z a0 hw [] b16_4 b5_3_98 T141.heap n0 O145 F148) hZ (hw _ (List.mem_of_getElem? (i := 70) rfl)) (hw _ (List.mem_of_getElem? (i := 12) rfl)) (by decide) (by decide)) q149a q149c (g := (mkF m 202 #[.val (.int x0_0), .val (.int x1_0), .val (.int (2 : Int32)), .val (.int (1 : Int32)), .val (.ref b1), .val (.ref b8), .val (.ref b5_3_31), .val (.ref b2_4), .val (.ref b5_3_98), .val (.ref b2_4), .val (.ref b5_3_98), .val (.ref b16_4), .val .null, .val (.int (1 : Int32)), .unset] [(.ref b16_4)])) rfl (by rw [hml]; rfl) (Steps.refl _) (argsL := []) (rest := []) (lenOf pd_3 rfl) rfl (by show 2 * 0 + _ ≤ _; exact Nat.le_of_eq rfl) (hb hby at_202) (fun _ _ => ⟨rfl, e146, (by decide : 6 + 0 ≤ _), (by decide : 19 + 0 ≤ _)⟩)
      dsimp only [Pt.U, Pt.locs, Pt.cells, Pt.slots] at X149 l149 y149 z149 st149 hQ149
      subst y149 z149
      obtain ⟨rfl, N149q, e149⟩ := hQ149
      refine own_step (fun t k => st149.trans k) ?_
      have N151 : Fr n0 L149 := by rw [l149]; exact Fr.app N147 N149q
      show own_Ends p.tables e below s _ _ _ (T149.setTop (mkF m 205 #[.val (.int x0_0), .val (.int x1_0), .val (.int (2 : Int32)), .val (.int (1 : Int32)), .val (.ref b1), .val (.ref b8), .val (.ref b5_3_31), .val (.ref b2_4), .val (.ref b5_3_98), .val (.ref b2_4), .val (.ref b5_3_98), .val (.ref b16_4), .val .null, .val (.int (1 : Int32)), .unset] [(.ref b5_3_98)]))
      refine own_step (fun t k => XS.aload X149.here hx rfl (hb hby at_205) rfl rfl k) ?_
      show own_Ends p.tables e below s _ _ _ (T149.setTop (mkF m 207 #[.val (.int x0_0), .val (.int x1_0), .val (.int (2 : Int32)), .val (.int (1 : Int32)), .val (.ref b1), .val (.ref b8), .val (.ref b5_3_31), .val (.ref b2_4), .val (.ref b5_3_98), .val (.ref b2_4), .val (.ref b5_3_98), .val (.ref b16_4), .val .null, .val (.int (1 : Int32)), .unset] [(.ref b5_3_98), (.ref b5_3_98)]))
      refine own_step (fun t k => Jvm.RoadKit.acmp (g := (mkF m 207 #[.val (.int x0_0), .val (.int x1_0), .val (.int (2 : Int32)), .val (.int (1 : Int32)), .val (.ref b1), .val (.ref b8), .val (.ref b5_3_31), .val (.ref b2_4), .val (.ref b5_3_98), .val (.ref b2_4), .val (.ref b5_3_98), .val (.ref b16_4), .val .null, .val (.int (1 : Int32)), .unset] [(.ref b5_3_98), (.ref b5_3_98)])) X149 hx rfl rfl rfl (pc0 := 207) (pc' := 210) (same := true) rfl (hb hby at_207) rfl (decide_eq_true rfl) (by decide) (by decide) k) ?_
      show own_Ends p.tables e below s _ _ _ (T149.setTop (mkF m 210 #[.val (.int x0_0), .val (.int x1_0), .val (.int (2 : Int32)), .val (.int (1 : Int32)), .val (.ref b1), .val (.ref b8), .val (.ref b5_3_31), .val (.ref b2_4), .val (.ref b5_3_98), .val (.ref b2_4), .val (.ref b5_3_98), .val (.ref b16_4), .val .null, .val (.int (1 : Int32)), .unset] []))
      refine own_step (fun t k => XS.iconst X149.here hx rfl (hb hby at_210) k) ?_
      show own_Ends p.tables e below s _ _ _ (T149.setTop (mkF m 211 #[.val (.int x0_0), .val (.int x1_0), .val (.int (2 : Int32)), .val (.int (1 : Int32)), .val (.ref b1), .val (.ref b8), .val (.ref b5_3_31), .val (.ref b2_4), .val (.ref b5_3_98), .val (.ref b2_4), .val (.ref b5_3_98), .val (.ref b16_4), .val .null, .val (.int (1 : Int32)), .unset] [(.int (1 : Int32))]))
      refine own_step (fun t k => XS.goto X149.here hx rfl (pc0 := 211) (pc' := 215) rfl (hb hby at_211) (by decide) (by decide) k) ?_
      show own_Ends p.tables e below s _ _ _ (T149.setTop (mkF m 215 #[.val (.int x0_0), .val (.int x1_0), .val (.int (2 : Int32)), .val (.int (1 : Int32)), .val (.ref b1), .val (.ref b8), .val (.ref b5_3_31), .val (.ref b2_4), .val (.ref b5_3_98), .val (.ref b2_4), .val (.ref b5_3_98), .val (.ref b16_4), .val .null, .val (.int (1 : Int32)), .unset] [(.int (1 : Int32))]))
      refine own_step (fun t k => XS.istore X149.here hx rfl (hb hby at_215) rfl (l' := #[.val (.int x0_0), .val (.int x1_0), .val (.int (2 : Int32)), .val (.int (1 : Int32)), .val (.ref b1), .val (.ref b8), .val (.ref b5_3_31), .val (.ref b2_4), .val (.ref b5_3_98), .val (.ref b2_4), .val (.ref b5_3_98), .val (.ref b16_4), .val .null, .val (.int (1 : Int32)), .unset]) rfl k) ?_
      show own_Ends p.tables e below s _ _ _ (T149.setTop (mkF m 217 #[.val (.int x0_0), .val (.int x1_0), .val (.int (2 : Int32)), .val (.int (1 : Int32)), .val (.ref b1), .val (.ref b8), .val (.ref b5_3_31), .val (.ref b2_4), .val (.ref b5_3_98), .val (.ref b2_4), .val (.ref b5_3_98), .val (.ref b16_4), .val .null, .val (.int (1 : Int32)), .unset] []))
      refine own_step (fun t k => XS.iloadN X149.here hx rfl (hb hby at_217) rfl k) ?_
      show own_Ends p.tables e below s _ _ _ (T149.setTop (mkF m 218 #[.val (.int x0_0), .val (.int x1_0), .val (.int (2 : Int32)), .val (.int (1 : Int32)), .val (.ref b1), .val (.ref b8), .val (.ref b5_3_31), .val (.ref b2_4), .val (.ref b5_3_98), .val (.ref b2_4), .val (.ref b5_3_98), .val (.ref b16_4), .val .null, .val (.int (1 : Int32)), .unset] [(.int (2 : Int32))]))
      refine own_step (fun t k => XS.iconst X149.here hx rfl (hb hby at_218) k) ?_
      show own_Ends p.tables e below s _ _ _ (T149.setTop (mkF m 219 #[.val (.int x0_0), .val (.int x1_0), .val (.int (2 : Int32)), .val (.int (1 : Int32)), .val (.ref b1), .val (.ref b8), .val (.ref b5_3_31), .val (.ref b2_4), .val (.ref b5_3_98), .val (.ref b2_4), .val (.ref b5_3_98), .val (.ref b16_4), .val .null, .val (.int (1 : Int32)), .unset] [(.int (3 : Int32)), (.int (2 : Int32))]))
      refine own_step (fun t k => XS.icmpYes X149.here hx rfl (pc0 := 219) (pc' := 244) rfl (hb hby at_219) rfl (tlt (by decide : (2 : Int32) < (3 : Int32))).1 (by decide) (by decide) k) ?_
      show own_Ends p.tables e below s _ _ _ (T149.setTop (mkF m 244 #[.val (.int x0_0), .val (.int x1_0), .val (.int (2 : Int32)), .val (.int (1 : Int32)), .val (.ref b1), .val (.ref b8), .val (.ref b5_3_31), .val (.ref b2_4), .val (.ref b5_3_98), .val (.ref b2_4), .val (.ref b5_3_98), .val (.ref b16_4), .val .null, .val (.int (1 : Int32)), .unset] []))
      refine own_step (fun t k => XS.aload X149.here hx rfl (hb hby at_244) rfl rfl k) ?_
      show own_Ends p.tables e below s _ _ _ (T149.setTop (mkF m 246 #[.val (.int x0_0), .val (.int x1_0), .val (.int (2 : Int32)), .val (.int (1 : Int32)), .val (.ref b1), .val (.ref b8), .val (.ref b5_3_31), .val (.ref b2_4), .val (.ref b5_3_98), .val (.ref b2_4), .val (.ref b5_3_98), .val (.ref b16_4), .val .null, .val (.int (1 : Int32)), .unset] [(.ref b1)]))
      refine own_step (fun t k => XS.aload X149.here hx rfl (hb hby at_246) rfl rfl k) ?_
      show own_Ends p.tables e below s _ _ _ (T149.setTop (mkF m 248 #[.val (.int x0_0), .val (.int x1_0), .val (.int (2 : Int32)), .val (.int (1 : Int32)), .val (.ref b1), .val (.ref b8), .val (.ref b5_3_31), .val (.ref b2_4), .val (.ref b5_3_98), .val (.ref b2_4), .val (.ref b5_3_98), .val (.ref b16_4), .val .null, .val (.int (1 : Int32)), .unset] [(.ref b2_4), (.ref b1)]))
      have F153 : Exa Z T141.heap b1 "com/example/serigraph/serigraph/view/OrderList" := (F142.keep K141q)
      obtain ⟨cq152, kq152, q152a, q152b, q152c⟩ := isOf hZ e149 F153
      obtain ⟨_, _, ⟨T152, L152, k152, n152⟩, -, X152, ⟨Lc152, hQ152, l152, y152, z152⟩, st152⟩ := X149.virtualBack hx (y := (⟨"com/example/serigraph/serigraph/view/OrderList", "insertAfter", "(Lcom/example/serigraph/serigraph/view/OrderList$Place;)Lcom/example/serigraph/serigraph/view/OrderList$Place;"⟩ : MethodName)) (z := (⟨"com/example/serigraph/serigraph/view/OrderList", "insertAfter", "(Lcom/example/serigraph/serigraph/view/OrderList$Place;)Lcom/example/serigraph/serigraph/view/OrderList$Place;"⟩ : MethodName)) hown (mvT hZ (hw _ (List.mem_of_getElem? (i := 72) rfl))) (mvT hZ (hw _ (List.mem_of_getElem? (i := 42) rfl))) (notFace_of_selects (args := #[]) (mvT hZ (hw _ (List.mem_of_getElem? (i := 44) rfl)))) (mvT hZ (hw _ (List.mem_of_getElem? (i := 44) rfl))) (mvT hZ (hw _ (List.mem_of_getElem? (i := 43) rfl))) (by decide) (backOf (W := 0) (rm6 l Z a0 hw [] b1 b2_4 (.ref b16_4) .null b5_3_98 (8589934592 : Int64) (0 : Int64) (.ref b2_4) T141.heap n0 O145 (by decide +kernel) p141_5 p141_1 p141_3 p141_4 p141_0 p141_6 p141_7 g_b5_3_98 p141_2 ne_b2_4_b5_3_98 g_b2_4) hZ (hw _ (List.mem_of_getElem? (i := 45) rfl)) (hw _ (List.mem_of_getElem? (i := 3) rfl)) (by decide) (by decide)) q152a q152c (g := (mkF m 248 #[.val (.int x0_0), .val (.int x1_0), .val (.int (2 : Int32)), .val (.int (1 : Int32)), .val (.ref b1), .val (.ref b8), .val (.ref b5_3_31), .val (.ref b2_4), .val (.ref b5_3_98), .val (.ref b2_4), .val (.ref b5_3_98), .val (.ref b16_4), .val .null, .val (.int (1 : Int32)), .unset] [(.ref b2_4), (.ref b1)])) rfl (by rw [hml]; rfl) (Steps.refl _) (argsL := [(.ref b2_4)]) (rest := []) (lenOf pd_2 rfl) rfl (by show 2 * 0 + _ ≤ _; exact Nat.le_of_eq rfl) (hb hby at_248) (fun _ _ => ⟨rfl, e149, (by decide : 6 + 1 ≤ _), (by decide : 19 + 3 ≤ _)⟩)
      dsimp only [Pt.U, Pt.locs, Pt.cells, Pt.slots] at X152 l152 y152 z152 st152 hQ152
      subst y152 z152
      have F154 : Arv Z T141.heap b8 k8 (.object "com/example/serigraph/serigraph/view/OrderList$Place") (5 : Int32) [(.ref b2_4), (.ref b5_3_31), (.ref b5_3_98), (.ref b16_4), .null] .null := (V114.keep K141q (ninS (Ne.symm ne_b2_4_b8) (ninS ne_b8_b5_3_98 nin0)))
      have F155 : Exa Z T141.heap b5_3_31 "com/example/serigraph/serigraph/view/OrderList$Place" := (((p98_4.wr W104).wr W114).keep K141q)
      obtain ⟨b5_152, rfl, N152q, K152q, p152_0, p152_1, p152_2, p152_3, p152_4, p152_5, p152_6, p152_7, p152_8, p152_9, p152_10, p152_11, p152_12⟩ := hQ152
      refine own_step (fun t k => st152.trans k) ?_
      have N156 : Fr n0 L152 := by rw [l152]; exact Fr.app N151 N152q
      have sz_b5_152 : h0.size ≤ b5_152 := Nat.le_trans K144.1 p152_0
      have g_b5_152 : n0 ≤ b5_152 := Nat.le_trans (Nat.le_trans (Nat.le_of_eq O145.1.symm) O145.2.1) p152_0
      have ne_b1_b5_152 : b1 ≠ b5_152 := Nat.ne_of_lt (Nat.lt_of_lt_of_le F153.lt p152_0)
      have ne_b2_4_b5_152 : b2_4 ≠ b5_152 := Nat.ne_of_lt (Nat.lt_of_lt_of_le p141_2.lt p152_0)
      have ne_b16_4_b5_152 : b16_4 ≠ b5_152 := Nat.ne_of_lt (Nat.lt_of_lt_of_le F150.lt p152_0)
      have ne_b8_b5_152 : b8 ≠ b5_152 := Nat.ne_of_lt (Nat.lt_of_lt_of_le F154.lt p152_0)
      have ne_b5_3_31_b5_152 : b5_3_31 ≠ b5_152 := Nat.ne_of_lt (Nat.lt_of_lt_of_le F155.lt p152_0)
      have ne_b5_3_98_b5_152 : b5_3_98 ≠ b5_152 := Nat.ne_of_lt (Nat.lt_of_lt_of_le p141_6.lt p152_0)
      have K157 : Keep h0 T152.heap [] := K144.trans K152q (allS (Or.inr sz_b5_3_98) (allS (Or.inr sz_b2_4) all0))
      have p152_10c : Fld Z T152.heap b5_152 "com/example/serigraph/serigraph/view/OrderList$Place" "label" "J" (.long (4294967296 : Int64)) := Eq.mp (congrArg (fun z => Fld Z T152.heap b5_152 "com/example/serigraph/serigraph/view/OrderList$Place" "label" "J" (.long z)) (show ((0 : Int64) + (own_r7 (((8589934592 : Int64) - (0 : Int64)) / (2 : Int64)) (4294967296 : Int64))) = (4294967296 : Int64) from by decide +kernel)) p152_10
      show own_Ends p.tables e below s _ _ _ (T152.setTop (mkF m 251 #[.val (.int x0_0), .val (.int x1_0), .val (.int (2 : Int32)), .val (.int (1 : Int32)), .val (.ref b1), .val (.ref b8), .val (.ref b5_3_31), .val (.ref b2_4), .val (.ref b5_3_98), .val (.ref b2_4), .val (.ref b5_3_98), .val (.ref b16_4), .val .null, .val (.int (1 : Int32)), .unset] [(.ref b5_152)]))
      refine own_step (fun t k => XS.astore X152.here hx rfl (hb hby at_251) rfl rfl (l' := #[.val (.int x0_0), .val (.int x1_0), .val (.int (2 : Int32)), .val (.int (1 : Int32)), .val (.ref b1), .val (.ref b8), .val (.ref b5_3_31), .val (.ref b2_4), .val (.ref b5_3_98), .val (.ref b2_4), .val (.ref b5_3_98), .val (.ref b16_4), .val .null, .val (.int (1 : Int32)), .val (.ref b5_152)]) rfl k) ?_
      show own_Ends p.tables e below s _ _ _ (T152.setTop (mkF m 253 #[.val (.int x0_0), .val (.int x1_0), .val (.int (2 : Int32)), .val (.int (1 : Int32)), .val (.ref b1), .val (.ref b8), .val (.ref b5_3_31), .val (.ref b2_4), .val (.ref b5_3_98), .val (.ref b2_4), .val (.ref b5_3_98), .val (.ref b16_4), .val .null, .val (.int (1 : Int32)), .val (.ref b5_152)] []))
      refine own_step (fun t k => XS.iload X152.here hx rfl (hb hby at_253) rfl k) ?_
      show own_Ends p.tables e below s _ _ _ (T152.setTop (mkF m 255 #[.val (.int x0_0), .val (.int x1_0), .val (.int (2 : Int32)), .val (.int (1 : Int32)), .val (.ref b1), .val (.ref b8), .val (.ref b5_3_31), .val (.ref b2_4), .val (.ref b5_3_98), .val (.ref b2_4), .val (.ref b5_3_98), .val (.ref b16_4), .val .null, .val (.int (1 : Int32)), .val (.ref b5_152)] [(.int (1 : Int32))]))
      refine own_step (fun t k => XS.ifNo X152.here hx rfl (hb hby at_255) rfl ((if0 _ _).trans (feq (by decide : ¬ ((1 : Int32) = (0 : Int32)))).1) k) ?_
      show own_Ends p.tables e below s _ _ _ (T152.setTop (mkF m 258 #[.val (.int x0_0), .val (.int x1_0), .val (.int (2 : Int32)), .val (.int (1 : Int32)), .val (.ref b1), .val (.ref b8), .val (.ref b5_3_31), .val (.ref b2_4), .val (.ref b5_3_98), .val (.ref b2_4), .val (.ref b5_3_98), .val (.ref b16_4), .val .null, .val (.int (1 : Int32)), .val (.ref b5_152)] []))
      refine own_step (fun t k => XS.aload X152.here hx rfl (hb hby at_258) rfl rfl k) ?_
      show own_Ends p.tables e below s _ _ _ (T152.setTop (mkF m 260 #[.val (.int x0_0), .val (.int x1_0), .val (.int (2 : Int32)), .val (.int (1 : Int32)), .val (.ref b1), .val (.ref b8), .val (.ref b5_3_31), .val (.ref b2_4), .val (.ref b5_3_98), .val (.ref b2_4), .val (.ref b5_3_98), .val (.ref b16_4), .val .null, .val (.int (1 : Int32)), .val (.ref b5_152)] [(.ref b5_3_98)]))
      have O158 : Old Z n0 T152.heap := (O145.keep K152q (allS g_b5_3_98 (allS g_b2_4 all0)))
      obtain ⟨cq159, kq159, q159a, q159b, q159c⟩ := isOf hZ rfl p152_3
      obtain ⟨_, _, ⟨T159, L159, k159, n159⟩, -, X159, ⟨Lc159, hQ159, l159, y159, z159⟩, st159⟩ := X152.virtualBack hx (y := (⟨"com/example/serigraph/serigraph/view/OrderList$Place", "previous", "()Lcom/example/serigraph/serigraph/view/OrderList$Place;"⟩ : MethodName)) (z := (⟨"com/example/serigraph/serigraph/view/OrderList$Place", "previous", "()Lcom/example/serigraph/serigraph/view/OrderList$Place;"⟩ : MethodName)) hown (mvT hZ (hw _ (List.mem_of_getElem? (i := 66) rfl))) (mvT hZ (hw _ (List.mem_of_getElem? (i := 67) rfl))) (notFace_of_selects (args := #[]) (mvT hZ (hw _ (List.mem_of_getElem? (i := 69) rfl)))) (mvT hZ (hw _ (List.mem_of_getElem? (i := 69) rfl))) (mvT hZ (hw _ (List.mem_of_getElem? (i := 68) rfl))) (by decide) (backOf (W := 0) (rm11 l Z a0 hw [] b5_3_98 b5_152 T152.heap n0 O158 p152_4) hZ (hw _ (List.mem_of_getElem? (i := 70) rfl)) (hw _ (List.mem_of_getElem? (i := 12) rfl)) (by decide) (by decide)) q159a q159c (g := (mkF m 260 #[.val (.int x0_0), .val (.int x1_0), .val (.int (2 : Int32)), .val (.int (1 : Int32)), .val (.ref b1), .val (.ref b8), .val (.ref b5_3_31), .val (.ref b2_4), .val (.ref b5_3_98), .val (.ref b2_4), .val (.ref b5_3_98), .val (.ref b16_4), .val .null, .val (.int (1 : Int32)), .val (.ref b5_152)] [(.ref b5_3_98)])) rfl (by rw [hml]; rfl) (Steps.refl _) (argsL := []) (rest := []) (lenOf pd_3 rfl) rfl (by show 2 * 0 + _ ≤ _; exact Nat.le_of_eq rfl) (hb hby at_260) (fun _ _ => ⟨rfl, rfl, (by decide : 7 + 0 ≤ _), (by decide : 22 + 0 ≤ _)⟩)
      dsimp only [Pt.U, Pt.locs, Pt.cells, Pt.slots] at X159 l159 y159 z159 st159 hQ159
      subst y159 z159
      obtain ⟨rfl, N159q, e159⟩ := hQ159
      refine own_step (fun t k => st159.trans k) ?_
      have N160 : Fr n0 L159 := by rw [l159]; exact Fr.app N156 N159q
      show own_Ends p.tables e below s _ _ _ (T159.setTop (mkF m 263 #[.val (.int x0_0), .val (.int x1_0), .val (.int (2 : Int32)), .val (.int (1 : Int32)), .val (.ref b1), .val (.ref b8), .val (.ref b5_3_31), .val (.ref b2_4), .val (.ref b5_3_98), .val (.ref b2_4), .val (.ref b5_3_98), .val (.ref b16_4), .val .null, .val (.int (1 : Int32)), .val (.ref b5_152)] [(.ref b5_152)]))
      refine own_step (fun t k => XS.aload X159.here hx rfl (hb hby at_263) rfl rfl k) ?_
      show own_Ends p.tables e below s _ _ _ (T159.setTop (mkF m 265 #[.val (.int x0_0), .val (.int x1_0), .val (.int (2 : Int32)), .val (.int (1 : Int32)), .val (.ref b1), .val (.ref b8), .val (.ref b5_3_31), .val (.ref b2_4), .val (.ref b5_3_98), .val (.ref b2_4), .val (.ref b5_3_98), .val (.ref b16_4), .val .null, .val (.int (1 : Int32)), .val (.ref b5_152)] [(.ref b5_152), (.ref b5_152)]))
      refine own_step (fun t k => Jvm.RoadKit.acmp (g := (mkF m 265 #[.val (.int x0_0), .val (.int x1_0), .val (.int (2 : Int32)), .val (.int (1 : Int32)), .val (.ref b1), .val (.ref b8), .val (.ref b5_3_31), .val (.ref b2_4), .val (.ref b5_3_98), .val (.ref b2_4), .val (.ref b5_3_98), .val (.ref b16_4), .val .null, .val (.int (1 : Int32)), .val (.ref b5_152)] [(.ref b5_152), (.ref b5_152)])) X159 hx rfl rfl rfl (pc0 := 265) (pc' := 268) (same := true) rfl (hb hby at_265) rfl (decide_eq_true rfl) (by decide) (by decide) k) ?_
      show own_Ends p.tables e below s _ _ _ (T159.setTop (mkF m 268 #[.val (.int x0_0), .val (.int x1_0), .val (.int (2 : Int32)), .val (.int (1 : Int32)), .val (.ref b1), .val (.ref b8), .val (.ref b5_3_31), .val (.ref b2_4), .val (.ref b5_3_98), .val (.ref b2_4), .val (.ref b5_3_98), .val (.ref b16_4), .val .null, .val (.int (1 : Int32)), .val (.ref b5_152)] []))
      refine own_step (fun t k => XS.aload X159.here hx rfl (hb hby at_268) rfl rfl k) ?_
      show own_Ends p.tables e below s _ _ _ (T159.setTop (mkF m 270 #[.val (.int x0_0), .val (.int x1_0), .val (.int (2 : Int32)), .val (.int (1 : Int32)), .val (.ref b1), .val (.ref b8), .val (.ref b5_3_31), .val (.ref b2_4), .val (.ref b5_3_98), .val (.ref b2_4), .val (.ref b5_3_98), .val (.ref b16_4), .val .null, .val (.int (1 : Int32)), .val (.ref b5_152)] [(.ref b5_152)]))
      obtain ⟨cq161, kq161, q161a, q161b, q161c⟩ := isOf hZ e159 p152_9
      obtain ⟨_, _, ⟨T161, L161, k161, n161⟩, -, X161, ⟨Lc161, hQ161, l161, y161, z161⟩, st161⟩ := X159.virtualBack hx (y := (⟨"com/example/serigraph/serigraph/view/OrderList$Place", "previous", "()Lcom/example/serigraph/serigraph/view/OrderList$Place;"⟩ : MethodName)) (z := (⟨"com/example/serigraph/serigraph/view/OrderList$Place", "previous", "()Lcom/example/serigraph/serigraph/view/OrderList$Place;"⟩ : MethodName)) hown (mvT hZ (hw _ (List.mem_of_getElem? (i := 66) rfl))) (mvT hZ (hw _ (List.mem_of_getElem? (i := 67) rfl))) (notFace_of_selects (args := #[]) (mvT hZ (hw _ (List.mem_of_getElem? (i := 69) rfl)))) (mvT hZ (hw _ (List.mem_of_getElem? (i := 69) rfl))) (mvT hZ (hw _ (List.mem_of_getElem? (i := 68) rfl))) (by decide) (backOf (W := 0) (rm11 l Z a0 hw [] b5_152 b2_4 T152.heap n0 O158 p152_12) hZ (hw _ (List.mem_of_getElem? (i := 70) rfl)) (hw _ (List.mem_of_getElem? (i := 12) rfl)) (by decide) (by decide)) q161a q161c (g := (mkF m 270 #[.val (.int x0_0), .val (.int x1_0), .val (.int (2 : Int32)), .val (.int (1 : Int32)), .val (.ref b1), .val (.ref b8), .val (.ref b5_3_31), .val (.ref b2_4), .val (.ref b5_3_98), .val (.ref b2_4), .val (.ref b5_3_98), .val (.ref b16_4), .val .null, .val (.int (1 : Int32)), .val (.ref b5_152)] [(.ref b5_152)])) rfl (by rw [hml]; rfl) (Steps.refl _) (argsL := []) (rest := []) (lenOf pd_3 rfl) rfl (by show 2 * 0 + _ ≤ _; exact Nat.le_of_eq rfl) (hb hby at_270) (fun _ _ => ⟨rfl, e159, (by decide : 7 + 0 ≤ _), (by decide : 22 + 0 ≤ _)⟩)
      dsimp only [Pt.U, Pt.locs, Pt.cells, Pt.slots] at X161 l161 y161 z161 st161 hQ161
      subst y161 z161
      obtain ⟨rfl, N161q, e161⟩ := hQ161
      refine own_step (fun t k => st161.trans k) ?_
      have N162 : Fr n0 L161 := by rw [l161]; exact Fr.app N160 N161q
      show own_Ends p.tables e below s _ _ _ (T161.setTop (mkF m 273 #[.val (.int x0_0), .val (.int x1_0), .val (.int (2 : Int32)), .val (.int (1 : Int32)), .val (.ref b1), .val (.ref b8), .val (.ref b5_3_31), .val (.ref b2_4), .val (.ref b5_3_98), .val (.ref b2_4), .val (.ref b5_3_98), .val (.ref b16_4), .val .null, .val (.int (1 : Int32)), .val (.ref b5_152)] [(.ref b2_4)]))
      refine own_step (fun t k => XS.aload X161.here hx rfl (hb hby at_273) rfl rfl k) ?_
      show own_Ends p.tables e below s _ _ _ (T161.setTop (mkF m 275 #[.val (.int x0_0), .val (.int x1_0), .val (.int (2 : Int32)), .val (.int (1 : Int32)), .val (.ref b1), .val (.ref b8), .val (.ref b5_3_31), .val (.ref b2_4), .val (.ref b5_3_98), .val (.ref b2_4), .val (.ref b5_3_98), .val (.ref b16_4), .val .null, .val (.int (1 : Int32)), .val (.ref b5_152)] [(.ref b2_4), (.ref b2_4)]))
      refine own_step (fun t k => Jvm.RoadKit.acmp (g := (mkF m 275 #[.val (.int x0_0), .val (.int x1_0), .val (.int (2 : Int32)), .val (.int (1 : Int32)), .val (.ref b1), .val (.ref b8), .val (.ref b5_3_31), .val (.ref b2_4), .val (.ref b5_3_98), .val (.ref b2_4), .val (.ref b5_3_98), .val (.ref b16_4), .val .null, .val (.int (1 : Int32)), .val (.ref b5_152)] [(.ref b2_4), (.ref b2_4)])) X161 hx rfl rfl rfl (pc0 := 275) (pc' := 278) (same := true) rfl (hb hby at_275) rfl (decide_eq_true rfl) (by decide) (by decide) k) ?_
      show own_Ends p.tables e below s _ _ _ (T161.setTop (mkF m 278 #[.val (.int x0_0), .val (.int x1_0), .val (.int (2 : Int32)), .val (.int (1 : Int32)), .val (.ref b1), .val (.ref b8), .val (.ref b5_3_31), .val (.ref b2_4), .val (.ref b5_3_98), .val (.ref b2_4), .val (.ref b5_3_98), .val (.ref b16_4), .val .null, .val (.int (1 : Int32)), .val (.ref b5_152)] []))
      refine own_step (fun t k => XS.iconst X161.here hx rfl (hb hby at_278) k) ?_
      show own_Ends p.tables e below s _ _ _ (T161.setTop (mkF m 279 #[.val (.int x0_0), .val (.int x1_0), .val (.int (2 : Int32)), .val (.int (1 : Int32)), .val (.ref b1), .val (.ref b8), .val (.ref b5_3_31), .val (.ref b2_4), .val (.ref b5_3_98), .val (.ref b2_4), .val (.ref b5_3_98), .val (.ref b16_4), .val .null, .val (.int (1 : Int32)), .val (.ref b5_152)] [(.int (1 : Int32))]))
      refine own_step (fun t k => XS.goto X161.here hx rfl (pc0 := 279) (pc' := 283) rfl (hb hby at_279) (by decide) (by decide) k) ?_
      show own_Ends p.tables e below s _ _ _ (T161.setTop (mkF m 283 #[.val (.int x0_0), .val (.int x1_0), .val (.int (2 : Int32)), .val (.int (1 : Int32)), .val (.ref b1), .val (.ref b8), .val (.ref b5_3_31), .val (.ref b2_4), .val (.ref b5_3_98), .val (.ref b2_4), .val (.ref b5_3_98), .val (.ref b16_4), .val .null, .val (.int (1 : Int32)), .val (.ref b5_152)] [(.int (1 : Int32))]))
      refine own_step (fun t k => XS.istore X161.here hx rfl (hb hby at_283) rfl (l' := #[.val (.int x0_0), .val (.int x1_0), .val (.int (2 : Int32)), .val (.int (1 : Int32)), .val (.ref b1), .val (.ref b8), .val (.ref b5_3_31), .val (.ref b2_4), .val (.ref b5_3_98), .val (.ref b2_4), .val (.ref b5_3_98), .val (.ref b16_4), .val .null, .val (.int (1 : Int32)), .val (.ref b5_152)]) rfl k) ?_
      show own_Ends p.tables e below s _ _ _ (T161.setTop (mkF m 285 #[.val (.int x0_0), .val (.int x1_0), .val (.int (2 : Int32)), .val (.int (1 : Int32)), .val (.ref b1), .val (.ref b8), .val (.ref b5_3_31), .val (.ref b2_4), .val (.ref b5_3_98), .val (.ref b2_4), .val (.ref b5_3_98), .val (.ref b16_4), .val .null, .val (.int (1 : Int32)), .val (.ref b5_152)] []))
      refine own_step (fun t k => XS.iload X161.here hx rfl (hb hby at_285) rfl k) ?_
      show own_Ends p.tables e below s _ _ _ (T161.setTop (mkF m 287 #[.val (.int x0_0), .val (.int x1_0), .val (.int (2 : Int32)), .val (.int (1 : Int32)), .val (.ref b1), .val (.ref b8), .val (.ref b5_3_31), .val (.ref b2_4), .val (.ref b5_3_98), .val (.ref b2_4), .val (.ref b5_3_98), .val (.ref b16_4), .val .null, .val (.int (1 : Int32)), .val (.ref b5_152)] [(.int (1 : Int32))]))
      exact own_retN X161 hx (t := .boolean) Bd.returns (by simp) (hb hby at_287) hnl (by rw [e161]; exact ⟨rfl, N162⟩) (by decide) (by decide)
    · subst hk117
      show own_Ends p.tables e below s _ _ _ (T114.setTop (mkF m 90 #[.val (.int x0_0), .val (.int x1_0), .val (.int (2 : Int32)), .val (.int (2 : Int32)), .val (.ref b1), .val (.ref b8), .unset, .unset, .unset, .unset, .unset, .unset, .unset, .unset, .unset] []))
      refine own_step (fun t k => XS.aload X114.here hx rfl (hb hby at_90) rfl rfl k) ?_
      show own_Ends p.tables e below s _ _ _ (T114.setTop (mkF m 92 #[.val (.int x0_0), .val (.int x1_0), .val (.int (2 : Int32)), .val (.int (2 : Int32)), .val (.ref b1), .val (.ref b8), .unset, .unset, .unset, .unset, .unset, .unset, .unset, .unset, .unset] [(.ref b8)]))
      refine own_step (fun t k => XS.iloadN X114.here hx rfl (hb hby at_92) rfl k) ?_
      show own_Ends p.tables e below s _ _ _ (T114.setTop (mkF m 93 #[.val (.int x0_0), .val (.int x1_0), .val (.int (2 : Int32)), .val (.int (2 : Int32)), .val (.ref b1), .val (.ref b8), .unset, .unset, .unset, .unset, .unset, .unset, .unset, .unset, .unset] [(.int (2 : Int32)), (.ref b8)]))
      obtain ⟨cl163, Ar163, q163, S163, N163, H163, G163⟩ := id V114
      have hin163 : ¬ ((2 : Int32) < 0 ∨ cl163.slots.size ≤ ((2 : Int32)).toNatClampNeg) := inb_of S163 ⟨by decide, by decide⟩
      have hat163 : cl163.slots[((2 : Int32)).toNatClampNeg]? = some (.ref b5_3_98) := H163.at hin163 rfl
      refine own_step (fun t k => X114.aaload hx (j := (2 : Int32)) (v := (.ref b5_3_98)) (by rw [e114]; exact Ar163.1) (State.isArrayOf_alike hZ.alike Ar163.2.1) rfl Ar163.2.2 hin163 hat163 (g := (mkF m 93 #[.val (.int x0_0), .val (.int x1_0), .val (.int (2 : Int32)), .val (.int (2 : Int32)), .val (.ref b1), .val (.ref b8), .unset, .unset, .unset, .unset, .unset, .unset, .unset, .unset, .unset] [(.int (2 : Int32)), (.ref b8)])) rfl rfl (hb hby at_93) _ k) ?_
      show own_Ends p.tables e below s _ _ _ (T114.setTop (mkF m 94 #[.val (.int x0_0), .val (.int x1_0), .val (.int (2 : Int32)), .val (.int (2 : Int32)), .val (.ref b1), .val (.ref b8), .unset, .unset, .unset, .unset, .unset, .unset, .unset, .unset, .unset] [(.ref b5_3_98)]))
      refine own_step (fun t k => XS.astore X114.here hx rfl (hb hby at_94) rfl rfl (l' := #[.val (.int x0_0), .val (.int x1_0), .val (.int (2 : Int32)), .val (.int (2 : Int32)), .val (.ref b1), .val (.ref b8), .val (.ref b5_3_98), .unset, .unset, .unset, .unset, .unset, .unset, .unset, .unset]) rfl k) ?_
      show own_Ends p.tables e below s _ _ _ (T114.setTop (mkF m 96 #[.val (.int x0_0), .val (.int x1_0), .val (.int (2 : Int32)), .val (.int (2 : Int32)), .val (.ref b1), .val (.ref b8), .val (.ref b5_3_98), .unset, .unset, .unset, .unset, .unset, .unset, .unset, .unset] []))
      refine own_step (fun t k => XS.aload X114.here hx rfl (hb hby at_96) rfl rfl k) ?_
      show own_Ends p.tables e below s _ _ _ (T114.setTop (mkF m 98 #[.val (.int x0_0), .val (.int x1_0), .val (.int (2 : Int32)), .val (.int (2 : Int32)), .val (.ref b1), .val (.ref b8), .val (.ref b5_3_98), .unset, .unset, .unset, .unset, .unset, .unset, .unset, .unset] [(.ref b8)]))
      refine own_step (fun t k => XS.iloadN X114.here hx rfl (hb hby at_98) rfl k) ?_
      show own_Ends p.tables e below s _ _ _ (T114.setTop (mkF m 99 #[.val (.int x0_0), .val (.int x1_0), .val (.int (2 : Int32)), .val (.int (2 : Int32)), .val (.ref b1), .val (.ref b8), .val (.ref b5_3_98), .unset, .unset, .unset, .unset, .unset, .unset, .unset, .unset] [(.int (2 : Int32)), (.ref b8)]))
      refine own_step (fun t k => XS.iconst X114.here hx rfl (hb hby at_99) k) ?_
      show own_Ends p.tables e below s _ _ _ (T114.setTop (mkF m 100 #[.val (.int x0_0), .val (.int x1_0), .val (.int (2 : Int32)), .val (.int (2 : Int32)), .val (.ref b1), .val (.ref b8), .val (.ref b5_3_98), .unset, .unset, .unset, .unset, .unset, .unset, .unset, .unset] [(.int (1 : Int32)), (.int (2 : Int32)), (.ref b8)]))
      refine own_step (fun t k => XS.isub X114.here hx rfl (hb hby at_100) rfl k) ?_
      show own_Ends p.tables e below s _ _ _ (T114.setTop (mkF m 101 #[.val (.int x0_0), .val (.int x1_0), .val (.int (2 : Int32)), .val (.int (2 : Int32)), .val (.ref b1), .val (.ref b8), .val (.ref b5_3_98), .unset, .unset, .unset, .unset, .unset, .unset, .unset, .unset] [(.int (1 : Int32)), (.ref b8)]))
      obtain ⟨cl164, Ar164, q164, S164, N164, H164, G164⟩ := id V114
      have hin164 : ¬ ((1 : Int32) < 0 ∨ cl164.slots.size ≤ ((1 : Int32)).toNatClampNeg) := inb_of S164 ⟨by decide, by decide⟩
      have hat164 : cl164.slots[((1 : Int32)).toNatClampNeg]? = some (.ref b5_3_31) := H164.at hin164 rfl
      refine own_step (fun t k => X114.aaload hx (j := (1 : Int32)) (v := (.ref b5_3_31)) (by rw [e114]; exact Ar164.1) (State.isArrayOf_alike hZ.alike Ar164.2.1) rfl Ar164.2.2 hin164 hat164 (g := (mkF m 101 #[.val (.int x0_0), .val (.int x1_0), .val (.int (2 : Int32)), .val (.int (2 : Int32)), .val (.ref b1), .val (.ref b8), .val (.ref b5_3_98), .unset, .unset, .unset, .unset, .unset, .unset, .unset, .unset] [(.int (1 : Int32)), (.ref b8)])) rfl rfl (hb hby at_101) _ k) ?_
      show own_Ends p.tables e below s _ _ _ (T114.setTop (mkF m 102 #[.val (.int x0_0), .val (.int x1_0), .val (.int (2 : Int32)), .val (.int (2 : Int32)), .val (.ref b1), .val (.ref b8), .val (.ref b5_3_98), .unset, .unset, .unset, .unset, .unset, .unset, .unset, .unset] [(.ref b5_3_31)]))
      refine own_step (fun t k => XS.astore X114.here hx rfl (hb hby at_102) rfl rfl (l' := #[.val (.int x0_0), .val (.int x1_0), .val (.int (2 : Int32)), .val (.int (2 : Int32)), .val (.ref b1), .val (.ref b8), .val (.ref b5_3_98), .val (.ref b5_3_31), .unset, .unset, .unset, .unset, .unset, .unset, .unset]) rfl k) ?_
      show own_Ends p.tables e below s _ _ _ (T114.setTop (mkF m 104 #[.val (.int x0_0), .val (.int x1_0), .val (.int (2 : Int32)), .val (.int (2 : Int32)), .val (.ref b1), .val (.ref b8), .val (.ref b5_3_98), .val (.ref b5_3_31), .unset, .unset, .unset, .unset, .unset, .unset, .unset] []))
      refine own_step (fun t k => XS.aload X114.here hx rfl (hb hby at_104) rfl rfl k) ?_
      show own_Ends p.tables e below s _ _ _ (T114.setTop (mkF m 106 #[.val (.int x0_0), .val (.int x1_0), .val (.int (2 : Int32)), .val (.int (2 : Int32)), .val (.ref b1), .val (.ref b8), .val (.ref b5_3_98), .val (.ref b5_3_31), .unset, .unset, .unset, .unset, .unset, .unset, .unset] [(.ref b8)]))
      refine own_step (fun t k => XS.iloadN X114.here hx rfl (hb hby at_106) rfl k) ?_
      show own_Ends p.tables e below s _ _ _ (T114.setTop (mkF m 107 #[.val (.int x0_0), .val (.int x1_0), .val (.int (2 : Int32)), .val (.int (2 : Int32)), .val (.ref b1), .val (.ref b8), .val (.ref b5_3_98), .val (.ref b5_3_31), .unset, .unset, .unset, .unset, .unset, .unset, .unset] [(.int (2 : Int32)), (.ref b8)]))
      refine own_step (fun t k => XS.iconst X114.here hx rfl (hb hby at_107) k) ?_
      show own_Ends p.tables e below s _ _ _ (T114.setTop (mkF m 108 #[.val (.int x0_0), .val (.int x1_0), .val (.int (2 : Int32)), .val (.int (2 : Int32)), .val (.ref b1), .val (.ref b8), .val (.ref b5_3_98), .val (.ref b5_3_31), .unset, .unset, .unset, .unset, .unset, .unset, .unset] [(.int (1 : Int32)), (.int (2 : Int32)), (.ref b8)]))
      refine own_step (fun t k => XS.iadd X114.here hx rfl (hb hby at_108) rfl k) ?_
      show own_Ends p.tables e below s _ _ _ (T114.setTop (mkF m 109 #[.val (.int x0_0), .val (.int x1_0), .val (.int (2 : Int32)), .val (.int (2 : Int32)), .val (.ref b1), .val (.ref b8), .val (.ref b5_3_98), .val (.ref b5_3_31), .unset, .unset, .unset, .unset, .unset, .unset, .unset] [(.int (3 : Int32)), (.ref b8)]))
      obtain ⟨cl165, Ar165, q165, S165, N165, H165, G165⟩ := id V114
      have hin165 : ¬ ((3 : Int32) < 0 ∨ cl165.slots.size ≤ ((3 : Int32)).toNatClampNeg) := inb_of S165 ⟨by decide, by decide⟩
      have hat165 : cl165.slots[((3 : Int32)).toNatClampNeg]? = some (.ref b16_4) := H165.at hin165 rfl
      refine own_step (fun t k => X114.aaload hx (j := (3 : Int32)) (v := (.ref b16_4)) (by rw [e114]; exact Ar165.1) (State.isArrayOf_alike hZ.alike Ar165.2.1) rfl Ar165.2.2 hin165 hat165 (g := (mkF m 109 #[.val (.int x0_0), .val (.int x1_0), .val (.int (2 : Int32)), .val (.int (2 : Int32)), .val (.ref b1), .val (.ref b8), .val (.ref b5_3_98), .val (.ref b5_3_31), .unset, .unset, .unset, .unset, .unset, .unset, .unset] [(.int (3 : Int32)), (.ref b8)])) rfl rfl (hb hby at_109) _ k) ?_
      show own_Ends p.tables e below s _ _ _ (T114.setTop (mkF m 110 #[.val (.int x0_0), .val (.int x1_0), .val (.int (2 : Int32)), .val (.int (2 : Int32)), .val (.ref b1), .val (.ref b8), .val (.ref b5_3_98), .val (.ref b5_3_31), .unset, .unset, .unset, .unset, .unset, .unset, .unset] [(.ref b16_4)]))
      refine own_step (fun t k => XS.astore X114.here hx rfl (hb hby at_110) rfl rfl (l' := #[.val (.int x0_0), .val (.int x1_0), .val (.int (2 : Int32)), .val (.int (2 : Int32)), .val (.ref b1), .val (.ref b8), .val (.ref b5_3_98), .val (.ref b5_3_31), .val (.ref b16_4), .unset, .unset, .unset, .unset, .unset, .unset]) rfl k) ?_
      show own_Ends p.tables e below s _ _ _ (T114.setTop (mkF m 112 #[.val (.int x0_0), .val (.int x1_0), .val (.int (2 : Int32)), .val (.int (2 : Int32)), .val (.ref b1), .val (.ref b8), .val (.ref b5_3_98), .val (.ref b5_3_31), .val (.ref b16_4), .unset, .unset, .unset, .unset, .unset, .unset] []))
      refine own_step (fun t k => XS.aload X114.here hx rfl (hb hby at_112) rfl rfl k) ?_
      show own_Ends p.tables e below s _ _ _ (T114.setTop (mkF m 114 #[.val (.int x0_0), .val (.int x1_0), .val (.int (2 : Int32)), .val (.int (2 : Int32)), .val (.ref b1), .val (.ref b8), .val (.ref b5_3_98), .val (.ref b5_3_31), .val (.ref b16_4), .unset, .unset, .unset, .unset, .unset, .unset] [(.ref b8)]))
      refine own_step (fun t k => XS.iloadN X114.here hx rfl (hb hby at_114) rfl k) ?_
      show own_Ends p.tables e below s _ _ _ (T114.setTop (mkF m 115 #[.val (.int x0_0), .val (.int x1_0), .val (.int (2 : Int32)), .val (.int (2 : Int32)), .val (.ref b1), .val (.ref b8), .val (.ref b5_3_98), .val (.ref b5_3_31), .val (.ref b16_4), .unset, .unset, .unset, .unset, .unset, .unset] [(.int (2 : Int32)), (.ref b8)]))
      refine own_step (fun t k => XS.iconst X114.here hx rfl (hb hby at_115) k) ?_
      show own_Ends p.tables e below s _ _ _ (T114.setTop (mkF m 116 #[.val (.int x0_0), .val (.int x1_0), .val (.int (2 : Int32)), .val (.int (2 : Int32)), .val (.ref b1), .val (.ref b8), .val (.ref b5_3_98), .val (.ref b5_3_31), .val (.ref b16_4), .unset, .unset, .unset, .unset, .unset, .unset] [(.int (0 : Int32)), (.int (2 : Int32)), (.ref b8)]))
      have O166 : Old Z n0 h114 := (O108.wr W114 g_b8)
      obtain ⟨_, _, ⟨T167, L167, k167, n167⟩, -, X167, ⟨Lc167, hQ167, l167, y167, z167⟩, st167⟩ := Jvm.LawKit.callS X114 hx (y := (⟨"com/example/serigraph/serigraph/view/OrderListRemovePinLaw", "at", "([Lcom/example/serigraph/serigraph/view/OrderList$Place;II)Lcom/example/serigraph/serigraph/view/OrderList$Place;"⟩ : MethodName)) hown (mvT hZ (hw _ (List.mem_of_getElem? (i := 57) rfl))) (mvT hZ (hw _ (List.mem_of_getElem? (i := 58) rfl))) (mvT hZ (hw _ (List.mem_of_getElem? (i := 59) rfl))) (mvT hZ (hw _ (List.mem_of_getElem? (i := 60) rfl))) (by decide) (backOf (W := 0) (rm9_2_0 l Z a0 hw [] b8 k8 (5 : Int32) [(.ref b2_4), (.ref b5_3_31), (.ref b5_3_98), (.ref b16_4), .null] .null b2_4 h114 n0 O166 V114 (by decide) rfl) hZ (hw _ (List.mem_of_getElem? (i := 60) rfl)) (hw _ (List.mem_of_getElem? (i := 59) rfl)) (by decide) (by decide)) (g := (mkF m 116 #[.val (.int x0_0), .val (.int x1_0), .val (.int (2 : Int32)), .val (.int (2 : Int32)), .val (.ref b1), .val (.ref b8), .val (.ref b5_3_98), .val (.ref b5_3_31), .val (.ref b16_4), .unset, .unset, .unset, .unset, .unset, .unset] [(.int (0 : Int32)), (.int (2 : Int32)), (.ref b8)])) rfl (by rw [hml]; rfl) (argsL := [(.ref b8), (.int (2 : Int32)), (.int (0 : Int32))]) (rest := []) (lenOf pd_4 rfl) rfl (by show 2 * 0 + _ ≤ _; exact Nat.le_of_eq rfl) (hb hby at_116) (fun _ _ => ⟨rfl, e114, (by decide : 6 + 0 ≤ _), (by decide : 19 + 0 ≤ _)⟩)
      dsimp only [Pt.U, Pt.locs, Pt.cells, Pt.slots] at X167 l167 y167 z167 st167 hQ167
      subst y167 z167
      obtain ⟨rfl, N167q, e167⟩ := hQ167
      refine own_step (fun t k => st167 _ k) ?_
      have N168 : Fr n0 L167 := by rw [l167]; exact Fr.app N116 N167q
      show own_Ends p.tables e below s _ _ _ (T167.setTop (mkF m 119 #[.val (.int x0_0), .val (.int x1_0), .val (.int (2 : Int32)), .val (.int (2 : Int32)), .val (.ref b1), .val (.ref b8), .val (.ref b5_3_98), .val (.ref b5_3_31), .val (.ref b16_4), .unset, .unset, .unset, .unset, .unset, .unset] [(.ref b2_4)]))
      refine own_step (fun t k => XS.astore X167.here hx rfl (hb hby at_119) rfl rfl (l' := #[.val (.int x0_0), .val (.int x1_0), .val (.int (2 : Int32)), .val (.int (2 : Int32)), .val (.ref b1), .val (.ref b8), .val (.ref b5_3_98), .val (.ref b5_3_31), .val (.ref b16_4), .val (.ref b2_4), .unset, .unset, .unset, .unset, .unset]) rfl k) ?_
      show own_Ends p.tables e below s _ _ _ (T167.setTop (mkF m 121 #[.val (.int x0_0), .val (.int x1_0), .val (.int (2 : Int32)), .val (.int (2 : Int32)), .val (.ref b1), .val (.ref b8), .val (.ref b5_3_98), .val (.ref b5_3_31), .val (.ref b16_4), .val (.ref b2_4), .unset, .unset, .unset, .unset, .unset] []))
      refine own_step (fun t k => XS.aload X167.here hx rfl (hb hby at_121) rfl rfl k) ?_
      show own_Ends p.tables e below s _ _ _ (T167.setTop (mkF m 123 #[.val (.int x0_0), .val (.int x1_0), .val (.int (2 : Int32)), .val (.int (2 : Int32)), .val (.ref b1), .val (.ref b8), .val (.ref b5_3_98), .val (.ref b5_3_31), .val (.ref b16_4), .val (.ref b2_4), .unset, .unset, .unset, .unset, .unset] [(.ref b8)]))
      refine own_step (fun t k => XS.iloadN X167.here hx rfl (hb hby at_123) rfl k) ?_
      show own_Ends p.tables e below s _ _ _ (T167.setTop (mkF m 124 #[.val (.int x0_0), .val (.int x1_0), .val (.int (2 : Int32)), .val (.int (2 : Int32)), .val (.ref b1), .val (.ref b8), .val (.ref b5_3_98), .val (.ref b5_3_31), .val (.ref b16_4), .val (.ref b2_4), .unset, .unset, .unset, .unset, .unset] [(.int (2 : Int32)), (.ref b8)]))
      refine own_step (fun t k => XS.iconst X167.here hx rfl (hb hby at_124) k) ?_
      show own_Ends p.tables e below s _ _ _ (T167.setTop (mkF m 125 #[.val (.int x0_0), .val (.int x1_0), .val (.int (2 : Int32)), .val (.int (2 : Int32)), .val (.ref b1), .val (.ref b8), .val (.ref b5_3_98), .val (.ref b5_3_31), .val (.ref b16_4), .val (.ref b2_4), .unset, .unset, .unset, .unset, .unset] [(.int (1 : Int32)), (.int (2 : Int32)), (.ref b8)]))
      obtain ⟨_, _, ⟨T169, L169, k169, n169⟩, -, X169, ⟨Lc169, hQ169, l169, y169, z169⟩, st169⟩ := Jvm.LawKit.callS X167 hx (y := (⟨"com/example/serigraph/serigraph/view/OrderListRemovePinLaw", "at", "([Lcom/example/serigraph/serigraph/view/OrderList$Place;II)Lcom/example/serigraph/serigraph/view/OrderList$Place;"⟩ : MethodName)) hown (mvT hZ (hw _ (List.mem_of_getElem? (i := 57) rfl))) (mvT hZ (hw _ (List.mem_of_getElem? (i := 58) rfl))) (mvT hZ (hw _ (List.mem_of_getElem? (i := 59) rfl))) (mvT hZ (hw _ (List.mem_of_getElem? (i := 60) rfl))) (by decide) (backOf (W := 0) (rm9_2_1 l Z a0 hw [] b8 k8 (5 : Int32) [(.ref b2_4), (.ref b5_3_31), (.ref b5_3_98), (.ref b16_4), .null] .null b5_3_31 h114 n0 O166 V114 (by decide) rfl) hZ (hw _ (List.mem_of_getElem? (i := 60) rfl)) (hw _ (List.mem_of_getElem? (i := 59) rfl)) (by decide) (by decide)) (g := (mkF m 125 #[.val (.int x0_0), .val (.int x1_0), .val (.int (2 : Int32)), .val (.int (2 : Int32)), .val (.ref b1), .val (.ref b8), .val (.ref b5_3_98), .val (.ref b5_3_31), .val (.ref b16_4), .val (.ref b2_4), .unset, .unset, .unset, .unset, .unset] [(.int (1 : Int32)), (.int (2 : Int32)), (.ref b8)])) rfl (by rw [hml]; rfl) (argsL := [(.ref b8), (.int (2 : Int32)), (.int (1 : Int32))]) (rest := []) (lenOf pd_4 rfl) rfl (by show 2 * 0 + _ ≤ _; exact Nat.le_of_eq rfl) (hb hby at_125) (fun _ _ => ⟨rfl, e167, (by decide : 6 + 0 ≤ _), (by decide : 19 + 0 ≤ _)⟩)
      dsimp only [Pt.U, Pt.locs, Pt.cells, Pt.slots] at X169 l169 y169 z169 st169 hQ169
      subst y169 z169
      obtain ⟨rfl, N169q, e169⟩ := hQ169
      refine own_step (fun t k => st169 _ k) ?_
      have N170 : Fr n0 L169 := by rw [l169]; exact Fr.app N168 N169q
      show own_Ends p.tables e below s _ _ _ (T169.setTop (mkF m 128 #[.val (.int x0_0), .val (.int x1_0), .val (.int (2 : Int32)), .val (.int (2 : Int32)), .val (.ref b1), .val (.ref b8), .val (.ref b5_3_98), .val (.ref b5_3_31), .val (.ref b16_4), .val (.ref b2_4), .unset, .unset, .unset, .unset, .unset] [(.ref b5_3_31)]))
      refine own_step (fun t k => XS.astore X169.here hx rfl (hb hby at_128) rfl rfl (l' := #[.val (.int x0_0), .val (.int x1_0), .val (.int (2 : Int32)), .val (.int (2 : Int32)), .val (.ref b1), .val (.ref b8), .val (.ref b5_3_98), .val (.ref b5_3_31), .val (.ref b16_4), .val (.ref b2_4), .val (.ref b5_3_31), .unset, .unset, .unset, .unset]) rfl k) ?_
      show own_Ends p.tables e below s _ _ _ (T169.setTop (mkF m 130 #[.val (.int x0_0), .val (.int x1_0), .val (.int (2 : Int32)), .val (.int (2 : Int32)), .val (.ref b1), .val (.ref b8), .val (.ref b5_3_98), .val (.ref b5_3_31), .val (.ref b16_4), .val (.ref b2_4), .val (.ref b5_3_31), .unset, .unset, .unset, .unset] []))
      refine own_step (fun t k => XS.iloadN X169.here hx rfl (hb hby at_130) rfl k) ?_
      show own_Ends p.tables e below s _ _ _ (T169.setTop (mkF m 131 #[.val (.int x0_0), .val (.int x1_0), .val (.int (2 : Int32)), .val (.int (2 : Int32)), .val (.ref b1), .val (.ref b8), .val (.ref b5_3_98), .val (.ref b5_3_31), .val (.ref b16_4), .val (.ref b2_4), .val (.ref b5_3_31), .unset, .unset, .unset, .unset] [(.int (2 : Int32))]))
      refine own_step (fun t k => XS.iconst X169.here hx rfl (hb hby at_131) k) ?_
      show own_Ends p.tables e below s _ _ _ (T169.setTop (mkF m 132 #[.val (.int x0_0), .val (.int x1_0), .val (.int (2 : Int32)), .val (.int (2 : Int32)), .val (.ref b1), .val (.ref b8), .val (.ref b5_3_98), .val (.ref b5_3_31), .val (.ref b16_4), .val (.ref b2_4), .val (.ref b5_3_31), .unset, .unset, .unset, .unset] [(.int (2 : Int32)), (.int (2 : Int32))]))
      refine own_step (fun t k => XS.icmpNo X169.here hx rfl (hb hby at_132) rfl (flt (by decide : ¬ ((2 : Int32) < (2 : Int32)))).1 k) ?_
      show own_Ends p.tables e below s _ _ _ (T169.setTop (mkF m 135 #[.val (.int x0_0), .val (.int x1_0), .val (.int (2 : Int32)), .val (.int (2 : Int32)), .val (.ref b1), .val (.ref b8), .val (.ref b5_3_98), .val (.ref b5_3_31), .val (.ref b16_4), .val (.ref b2_4), .val (.ref b5_3_31), .unset, .unset, .unset, .unset] []))
      refine own_step (fun t k => XS.aload X169.here hx rfl (hb hby at_135) rfl rfl k) ?_
      show own_Ends p.tables e below s _ _ _ (T169.setTop (mkF m 137 #[.val (.int x0_0), .val (.int x1_0), .val (.int (2 : Int32)), .val (.int (2 : Int32)), .val (.ref b1), .val (.ref b8), .val (.ref b5_3_98), .val (.ref b5_3_31), .val (.ref b16_4), .val (.ref b2_4), .val (.ref b5_3_31), .unset, .unset, .unset, .unset] [(.ref b8)]))
      refine own_step (fun t k => XS.iloadN X169.here hx rfl (hb hby at_137) rfl k) ?_
      show own_Ends p.tables e below s _ _ _ (T169.setTop (mkF m 138 #[.val (.int x0_0), .val (.int x1_0), .val (.int (2 : Int32)), .val (.int (2 : Int32)), .val (.ref b1), .val (.ref b8), .val (.ref b5_3_98), .val (.ref b5_3_31), .val (.ref b16_4), .val (.ref b2_4), .val (.ref b5_3_31), .unset, .unset, .unset, .unset] [(.int (2 : Int32)), (.ref b8)]))
      refine own_step (fun t k => XS.iconst X169.here hx rfl (hb hby at_138) k) ?_
      show own_Ends p.tables e below s _ _ _ (T169.setTop (mkF m 139 #[.val (.int x0_0), .val (.int x1_0), .val (.int (2 : Int32)), .val (.int (2 : Int32)), .val (.ref b1), .val (.ref b8), .val (.ref b5_3_98), .val (.ref b5_3_31), .val (.ref b16_4), .val (.ref b2_4), .val (.ref b5_3_31), .unset, .unset, .unset, .unset] [(.int (2 : Int32)), (.int (2 : Int32)), (.ref b8)]))
      obtain ⟨_, _, ⟨T171, L171, k171, n171⟩, -, X171, ⟨Lc171, hQ171, l171, y171, z171⟩, st171⟩ := Jvm.LawKit.callS X169 hx (y := (⟨"com/example/serigraph/serigraph/view/OrderListRemovePinLaw", "at", "([Lcom/example/serigraph/serigraph/view/OrderList$Place;II)Lcom/example/serigraph/serigraph/view/OrderList$Place;"⟩ : MethodName)) hown (mvT hZ (hw _ (List.mem_of_getElem? (i := 57) rfl))) (mvT hZ (hw _ (List.mem_of_getElem? (i := 58) rfl))) (mvT hZ (hw _ (List.mem_of_getElem? (i := 59) rfl))) (mvT hZ (hw _ (List.mem_of_getElem? (i := 60) rfl))) (by decide) (backOf (W := 0) (rm9_2_2 l Z a0 hw [] b8 k8 (5 : Int32) [(.ref b2_4), (.ref b5_3_31), (.ref b5_3_98), (.ref b16_4), .null] .null b16_4 h114 n0 O166 V114 (by decide) rfl) hZ (hw _ (List.mem_of_getElem? (i := 60) rfl)) (hw _ (List.mem_of_getElem? (i := 59) rfl)) (by decide) (by decide)) (g := (mkF m 139 #[.val (.int x0_0), .val (.int x1_0), .val (.int (2 : Int32)), .val (.int (2 : Int32)), .val (.ref b1), .val (.ref b8), .val (.ref b5_3_98), .val (.ref b5_3_31), .val (.ref b16_4), .val (.ref b2_4), .val (.ref b5_3_31), .unset, .unset, .unset, .unset] [(.int (2 : Int32)), (.int (2 : Int32)), (.ref b8)])) rfl (by rw [hml]; rfl) (argsL := [(.ref b8), (.int (2 : Int32)), (.int (2 : Int32))]) (rest := []) (lenOf pd_4 rfl) rfl (by show 2 * 0 + _ ≤ _; exact Nat.le_of_eq rfl) (hb hby at_139) (fun _ _ => ⟨rfl, e169, (by decide : 6 + 0 ≤ _), (by decide : 19 + 0 ≤ _)⟩)
      dsimp only [Pt.U, Pt.locs, Pt.cells, Pt.slots] at X171 l171 y171 z171 st171 hQ171
      subst y171 z171
      obtain ⟨rfl, N171q, e171⟩ := hQ171
      refine own_step (fun t k => st171 _ k) ?_
      have N172 : Fr n0 L171 := by rw [l171]; exact Fr.app N170 N171q
      show own_Ends p.tables e below s _ _ _ (T171.setTop (mkF m 142 #[.val (.int x0_0), .val (.int x1_0), .val (.int (2 : Int32)), .val (.int (2 : Int32)), .val (.ref b1), .val (.ref b8), .val (.ref b5_3_98), .val (.ref b5_3_31), .val (.ref b16_4), .val (.ref b2_4), .val (.ref b5_3_31), .unset, .unset, .unset, .unset] [(.ref b16_4)]))
      refine own_step (fun t k => XS.goto X171.here hx rfl (pc0 := 142) (pc' := 146) rfl (hb hby at_142) (by decide) (by decide) k) ?_
      show own_Ends p.tables e below s _ _ _ (T171.setTop (mkF m 146 #[.val (.int x0_0), .val (.int x1_0), .val (.int (2 : Int32)), .val (.int (2 : Int32)), .val (.ref b1), .val (.ref b8), .val (.ref b5_3_98), .val (.ref b5_3_31), .val (.ref b16_4), .val (.ref b2_4), .val (.ref b5_3_31), .unset, .unset, .unset, .unset] [(.ref b16_4)]))
      refine own_step (fun t k => XS.astore X171.here hx rfl (hb hby at_146) rfl rfl (l' := #[.val (.int x0_0), .val (.int x1_0), .val (.int (2 : Int32)), .val (.int (2 : Int32)), .val (.ref b1), .val (.ref b8), .val (.ref b5_3_98), .val (.ref b5_3_31), .val (.ref b16_4), .val (.ref b2_4), .val (.ref b5_3_31), .val (.ref b16_4), .unset, .unset, .unset]) rfl k) ?_
      show own_Ends p.tables e below s _ _ _ (T171.setTop (mkF m 148 #[.val (.int x0_0), .val (.int x1_0), .val (.int (2 : Int32)), .val (.int (2 : Int32)), .val (.ref b1), .val (.ref b8), .val (.ref b5_3_98), .val (.ref b5_3_31), .val (.ref b16_4), .val (.ref b2_4), .val (.ref b5_3_31), .val (.ref b16_4), .unset, .unset, .unset] []))
      refine own_step (fun t k => XS.iloadN X171.here hx rfl (hb hby at_148) rfl k) ?_
      show own_Ends p.tables e below s _ _ _ (T171.setTop (mkF m 149 #[.val (.int x0_0), .val (.int x1_0), .val (.int (2 : Int32)), .val (.int (2 : Int32)), .val (.ref b1), .val (.ref b8), .val (.ref b5_3_98), .val (.ref b5_3_31), .val (.ref b16_4), .val (.ref b2_4), .val (.ref b5_3_31), .val (.ref b16_4), .unset, .unset, .unset] [(.int (2 : Int32))]))
      refine own_step (fun t k => XS.iconst X171.here hx rfl (hb hby at_149) k) ?_
      show own_Ends p.tables e below s _ _ _ (T171.setTop (mkF m 150 #[.val (.int x0_0), .val (.int x1_0), .val (.int (2 : Int32)), .val (.int (2 : Int32)), .val (.ref b1), .val (.ref b8), .val (.ref b5_3_98), .val (.ref b5_3_31), .val (.ref b16_4), .val (.ref b2_4), .val (.ref b5_3_31), .val (.ref b16_4), .unset, .unset, .unset] [(.int (3 : Int32)), (.int (2 : Int32))]))
      refine own_step (fun t k => XS.icmpYes X171.here hx rfl (pc0 := 150) (pc' := 163) rfl (hb hby at_150) rfl (tlt (by decide : (2 : Int32) < (3 : Int32))).1 (by decide) (by decide) k) ?_
      show own_Ends p.tables e below s _ _ _ (T171.setTop (mkF m 163 #[.val (.int x0_0), .val (.int x1_0), .val (.int (2 : Int32)), .val (.int (2 : Int32)), .val (.ref b1), .val (.ref b8), .val (.ref b5_3_98), .val (.ref b5_3_31), .val (.ref b16_4), .val (.ref b2_4), .val (.ref b5_3_31), .val (.ref b16_4), .unset, .unset, .unset] []))
      refine own_step (fun t k => XS.aconstNull X171.here hx rfl (hb hby at_163) k) ?_
      show own_Ends p.tables e below s _ _ _ (T171.setTop (mkF m 164 #[.val (.int x0_0), .val (.int x1_0), .val (.int (2 : Int32)), .val (.int (2 : Int32)), .val (.ref b1), .val (.ref b8), .val (.ref b5_3_98), .val (.ref b5_3_31), .val (.ref b16_4), .val (.ref b2_4), .val (.ref b5_3_31), .val (.ref b16_4), .unset, .unset, .unset] [.null]))
      refine own_step (fun t k => XS.astore X171.here hx rfl (hb hby at_164) rfl rfl (l' := #[.val (.int x0_0), .val (.int x1_0), .val (.int (2 : Int32)), .val (.int (2 : Int32)), .val (.ref b1), .val (.ref b8), .val (.ref b5_3_98), .val (.ref b5_3_31), .val (.ref b16_4), .val (.ref b2_4), .val (.ref b5_3_31), .val (.ref b16_4), .val .null, .unset, .unset]) rfl k) ?_
      show own_Ends p.tables e below s _ _ _ (T171.setTop (mkF m 166 #[.val (.int x0_0), .val (.int x1_0), .val (.int (2 : Int32)), .val (.int (2 : Int32)), .val (.ref b1), .val (.ref b8), .val (.ref b5_3_98), .val (.ref b5_3_31), .val (.ref b16_4), .val (.ref b2_4), .val (.ref b5_3_31), .val (.ref b16_4), .val .null, .unset, .unset] []))
      refine own_step (fun t k => XS.aload X171.here hx rfl (hb hby at_166) rfl rfl k) ?_
      show own_Ends p.tables e below s _ _ _ (T171.setTop (mkF m 168 #[.val (.int x0_0), .val (.int x1_0), .val (.int (2 : Int32)), .val (.int (2 : Int32)), .val (.ref b1), .val (.ref b8), .val (.ref b5_3_98), .val (.ref b5_3_31), .val (.ref b16_4), .val (.ref b2_4), .val (.ref b5_3_31), .val (.ref b16_4), .val .null, .unset, .unset] [(.ref b1)]))
      refine own_step (fun t k => XS.aload X171.here hx rfl (hb hby at_168) rfl rfl k) ?_
      show own_Ends p.tables e below s _ _ _ (T171.setTop (mkF m 170 #[.val (.int x0_0), .val (.int x1_0), .val (.int (2 : Int32)), .val (.int (2 : Int32)), .val (.ref b1), .val (.ref b8), .val (.ref b5_3_98), .val (.ref b5_3_31), .val (.ref b16_4), .val (.ref b2_4), .val (.ref b5_3_31), .val (.ref b16_4), .val .null, .unset, .unset] [(.ref b5_3_98), (.ref b1)]))
      have F173 : Fld Z h114 b5_3_98 "com/example/serigraph/serigraph/view/OrderList$Place" "previous" "Lcom/example/serigraph/serigraph/view/OrderList$Place;" (.ref b5_3_31) := ((p98_12.other W104 (Or.inl (Ne.symm ne_b8_b5_3_98))).other W114 (Or.inl (Ne.symm ne_b8_b5_3_98)))
      have F174 : Fld Z h114 b5_3_98 "com/example/serigraph/serigraph/view/OrderList$Place" "next" "Lcom/example/serigraph/serigraph/view/OrderList$Place;" (.ref b16_4) := ((p98_11.other W104 (Or.inl (Ne.symm ne_b8_b5_3_98))).other W114 (Or.inl (Ne.symm ne_b8_b5_3_98)))
      have F175 : Exa Z h114 b5_3_31 "com/example/serigraph/serigraph/view/OrderList$Place" := ((p98_4.wr W104).wr W114)
      have F176 : Fld Z h114 b5_3_31 "com/example/serigraph/serigraph/view/OrderList$Place" "next" "Lcom/example/serigraph/serigraph/view/OrderList$Place;" (.ref b5_3_98) := ((p98_2.other W104 (Or.inl (Ne.symm ne_b8_b5_3_31))).other W114 (Or.inl (Ne.symm ne_b8_b5_3_31)))
      have F177 : Exa Z h114 b16_4 "com/example/serigraph/serigraph/view/OrderList$Place" := (F113.wr W114)
      have F178 : Fld Z h114 b16_4 "com/example/serigraph/serigraph/view/OrderList$Place" "previous" "Lcom/example/serigraph/serigraph/view/OrderList$Place;" (.ref b5_3_98) := ((p98_7.other W104 (Or.inl ne_b16_4_b8)).other W114 (Or.inl ne_b16_4_b8))
      have F179 : Fld Z h114 b5_3_31 "com/example/serigraph/serigraph/view/OrderList$Place" "label" "J" (.long (4294967296 : Int64)) := ((p98_3.other W104 (Or.inl (Ne.symm ne_b8_b5_3_31))).other W114 (Or.inl (Ne.symm ne_b8_b5_3_31)))
      have F180 : Fld Z h114 b5_3_31 "com/example/serigraph/serigraph/view/OrderList$Place" "previous" "Lcom/example/serigraph/serigraph/view/OrderList$Place;" (.ref b2_4) := ((p98_1.other W104 (Or.inl (Ne.symm ne_b8_b5_3_31))).other W114 (Or.inl (Ne.symm ne_b8_b5_3_31)))
      have F181 : Fld Z h114 b16_4 "com/example/serigraph/serigraph/view/OrderList$Place" "label" "J" (.long (4611686018427387904 : Int64)) := ((p98_5.other W104 (Or.inl ne_b16_4_b8)).other W114 (Or.inl ne_b16_4_b8))
      have F182 : Fld Z h114 b16_4 "com/example/serigraph/serigraph/view/OrderList$Place" "next" "Lcom/example/serigraph/serigraph/view/OrderList$Place;" .null := ((p98_8.other W104 (Or.inl ne_b16_4_b8)).other W114 (Or.inl ne_b16_4_b8))
      have F184 : Exa Z h114 b1 "com/example/serigraph/serigraph/view/OrderList" := (F110.wr W114)
      obtain ⟨cq183, kq183, q183a, q183b, q183c⟩ := isOf hZ e171 F184
      obtain ⟨_, _, ⟨T183, L183, k183, n183⟩, -, X183, ⟨Lc183, hQ183, l183, y183, z183⟩, st183⟩ := X171.virtualBack hx (y := (⟨"com/example/serigraph/serigraph/view/OrderList", "remove", "(Lcom/example/serigraph/serigraph/view/OrderList$Place;)V"⟩ : MethodName)) (z := (⟨"com/example/serigraph/serigraph/view/OrderList", "remove", "(Lcom/example/serigraph/serigraph/view/OrderList$Place;)V"⟩ : MethodName)) hown (mvT hZ (hw _ (List.mem_of_getElem? (i := 61) rfl))) (mvT hZ (hw _ (List.mem_of_getElem? (i := 62) rfl))) (notFace_of_selects (args := #[]) (mvT hZ (hw _ (List.mem_of_getElem? (i := 64) rfl)))) (mvT hZ (hw _ (List.mem_of_getElem? (i := 64) rfl))) (mvT hZ (hw _ (List.mem_of_getElem? (i := 63) rfl))) (by decide) (backOf (W := 0) (rm10 l Z a0 hw [] b1 b5_3_98 (.long (4294967296 : Int64)) (.ref b2_4) (.long (4611686018427387904 : Int64)) .null b5_3_31 b16_4 (.ref b5_3_98) (.ref b5_3_98) h114 n0 O166 F179 F180 F181 F182 F173 F174 F175 F176 g_b5_3_31 (Ne.symm ne_b5_3_31_b5_3_98) F177 F178 ne_b16_4_b5_3_31 g_b16_4) hZ (hw _ (List.mem_of_getElem? (i := 65) rfl)) (hw _ (List.mem_of_getElem? (i := 3) rfl)) (by decide) (by decide)) q183a q183c (g := (mkF m 170 #[.val (.int x0_0), .val (.int x1_0), .val (.int (2 : Int32)), .val (.int (2 : Int32)), .val (.ref b1), .val (.ref b8), .val (.ref b5_3_98), .val (.ref b5_3_31), .val (.ref b16_4), .val (.ref b2_4), .val (.ref b5_3_31), .val (.ref b16_4), .val .null, .unset, .unset] [(.ref b5_3_98), (.ref b1)])) rfl (by rw [hml]; rfl) (Steps.refl _) (argsL := [(.ref b5_3_98)]) (rest := []) (lenOf pd_5 rfl) rfl (by show 2 * 0 + _ ≤ _; exact Nat.le_of_eq rfl) (hb hby at_170) (fun _ _ => ⟨rfl, e171, (by decide : 6 + 0 ≤ _), (by decide : 19 + 0 ≤ _)⟩)
      dsimp only [Pt.U, Pt.locs, Pt.cells, Pt.slots] at X183 l183 y183 z183 st183 hQ183
      subst y183 z183
      obtain ⟨rfl, N183q, K183q, p183_0, p183_1, p183_2, p183_3, p183_4, p183_5, p183_6, p183_7⟩ := hQ183
      refine own_step (fun t k => st183.trans k) ?_
      have N185 : Fr n0 L183 := by rw [l183]; exact Fr.app N172 N183q
      have K186 : Keep h0 T183.heap [] := K115.trans K183q (allS (Or.inr sz_b5_3_31) (allS (Or.inr sz_b16_4) all0))
      show own_Ends p.tables e below s _ _ _ (T183.setTop (mkF m 173 #[.val (.int x0_0), .val (.int x1_0), .val (.int (2 : Int32)), .val (.int (2 : Int32)), .val (.ref b1), .val (.ref b8), .val (.ref b5_3_98), .val (.ref b5_3_31), .val (.ref b16_4), .val (.ref b2_4), .val (.ref b5_3_31), .val (.ref b16_4), .val .null, .unset, .unset] []))
      refine own_step (fun t k => XS.aload X183.here hx rfl (hb hby at_173) rfl rfl k) ?_
      show own_Ends p.tables e below s _ _ _ (T183.setTop (mkF m 175 #[.val (.int x0_0), .val (.int x1_0), .val (.int (2 : Int32)), .val (.int (2 : Int32)), .val (.ref b1), .val (.ref b8), .val (.ref b5_3_98), .val (.ref b5_3_31), .val (.ref b16_4), .val (.ref b2_4), .val (.ref b5_3_31), .val (.ref b16_4), .val .null, .unset, .unset] [(.ref b5_3_31)]))
      have O187 : Old Z n0 T183.heap := (O166.keep K183q (allS g_b5_3_31 (allS g_b16_4 all0)))
      obtain ⟨cq188, kq188, q188a, q188b, q188c⟩ := isOf hZ rfl p183_2
      obtain ⟨_, _, ⟨T188, L188, k188, n188⟩, -, X188, ⟨Lc188, hQ188, l188, y188, z188⟩, st188⟩ := X183.virtualBack hx (y := (⟨"com/example/serigraph/serigraph/view/OrderList$Place", "previous", "()Lcom/example/serigraph/serigraph/view/OrderList$Place;"⟩ : MethodName)) (z := (⟨"com/example/serigraph/serigraph/view/OrderList$Place", "previous", "()Lcom/example/serigraph/serigraph/view/OrderList$Place;"⟩ : MethodName)) hown (mvT hZ (hw _ (List.mem_of_getElem? (i := 66) rfl))) (mvT hZ (hw _ (List.mem_of_getElem? (i := 67) rfl))) (notFace_of_selects (args := #[]) (mvT hZ (hw _ (List.mem_of_getElem? (i := 69) rfl)))) (mvT hZ (hw _ (List.mem_of_getElem? (i := 69) rfl))) (mvT hZ (hw _ (List.mem_of_getElem? (i := 68) rfl))) (by decide) (backOf (W := 0) (rm11 l Z a0 hw [] b5_3_31 b2_4 T183.heap n0 O187 p183_1) hZ (hw _ (List.mem_of_getElem? (i := 70) rfl)) (hw _ (List.mem_of_getElem? (i := 12) rfl)) (by decide) (by decide)) q188a q188c (g := (mkF m 175 #[.val (.int x0_0), .val (.int x1_0), .val (.int (2 : Int32)), .val (.int (2 : Int32)), .val (.ref b1), .val (.ref b8), .val (.ref b5_3_98), .val (.ref b5_3_31), .val (.ref b16_4), .val (.ref b2_4), .val (.ref b5_3_31), .val (.ref b16_4), .val .null, .unset, .unset] [(.ref b5_3_31)])) rfl (by rw [hml]; rfl) (Steps.refl _) (argsL := []) (rest := []) (lenOf pd_3 rfl) rfl (by show 2 * 0 + _ ≤ _; exact Nat.le_of_eq rfl) (hb hby at_175) (fun _ _ => ⟨rfl, rfl, (by decide : 6 + 0 ≤ _), (by decide : 19 + 0 ≤ _)⟩)
      dsimp only [Pt.U, Pt.locs, Pt.cells, Pt.slots] at X188 l188 y188 z188 st188 hQ188
      subst y188 z188
      obtain ⟨rfl, N188q, e188⟩ := hQ188
      refine own_step (fun t k => st188.trans k) ?_
      have N189 : Fr n0 L188 := by rw [l188]; exact Fr.app N185 N188q
      show own_Ends p.tables e below s _ _ _ (T188.setTop (mkF m 178 #[.val (.int x0_0), .val (.int x1_0), .val (.int (2 : Int32)), .val (.int (2 : Int32)), .val (.ref b1), .val (.ref b8), .val (.ref b5_3_98), .val (.ref b5_3_31), .val (.ref b16_4), .val (.ref b2_4), .val (.ref b5_3_31), .val (.ref b16_4), .val .null, .unset, .unset] [(.ref b2_4)]))
      refine own_step (fun t k => XS.aload X188.here hx rfl (hb hby at_178) rfl rfl k) ?_
      show own_Ends p.tables e below s _ _ _ (T188.setTop (mkF m 180 #[.val (.int x0_0), .val (.int x1_0), .val (.int (2 : Int32)), .val (.int (2 : Int32)), .val (.ref b1), .val (.ref b8), .val (.ref b5_3_98), .val (.ref b5_3_31), .val (.ref b16_4), .val (.ref b2_4), .val (.ref b5_3_31), .val (.ref b16_4), .val .null, .unset, .unset] [(.ref b2_4), (.ref b2_4)]))
      refine own_step (fun t k => Jvm.RoadKit.acmp (g := (mkF m 180 #[.val (.int x0_0), .val (.int x1_0), .val (.int (2 : Int32)), .val (.int (2 : Int32)), .val (.ref b1), .val (.ref b8), .val (.ref b5_3_98), .val (.ref b5_3_31), .val (.ref b16_4), .val (.ref b2_4), .val (.ref b5_3_31), .val (.ref b16_4), .val .null, .unset, .unset] [(.ref b2_4), (.ref b2_4)])) X188 hx rfl rfl rfl (pc0 := 180) (pc' := 183) (same := true) rfl (hb hby at_180) rfl (decide_eq_true rfl) (by decide) (by decide) k) ?_
      show own_Ends p.tables e below s _ _ _ (T188.setTop (mkF m 183 #[.val (.int x0_0), .val (.int x1_0), .val (.int (2 : Int32)), .val (.int (2 : Int32)), .val (.ref b1), .val (.ref b8), .val (.ref b5_3_98), .val (.ref b5_3_31), .val (.ref b16_4), .val (.ref b2_4), .val (.ref b5_3_31), .val (.ref b16_4), .val .null, .unset, .unset] []))
      refine own_step (fun t k => XS.iconst X188.here hx rfl (hb hby at_183) k) ?_
      show own_Ends p.tables e below s _ _ _ (T188.setTop (mkF m 184 #[.val (.int x0_0), .val (.int x1_0), .val (.int (2 : Int32)), .val (.int (2 : Int32)), .val (.ref b1), .val (.ref b8), .val (.ref b5_3_98), .val (.ref b5_3_31), .val (.ref b16_4), .val (.ref b2_4), .val (.ref b5_3_31), .val (.ref b16_4), .val .null, .unset, .unset] [(.int (1 : Int32))]))
      refine own_step (fun t k => XS.goto X188.here hx rfl (pc0 := 184) (pc' := 188) rfl (hb hby at_184) (by decide) (by decide) k) ?_
      show own_Ends p.tables e below s _ _ _ (T188.setTop (mkF m 188 #[.val (.int x0_0), .val (.int x1_0), .val (.int (2 : Int32)), .val (.int (2 : Int32)), .val (.ref b1), .val (.ref b8), .val (.ref b5_3_98), .val (.ref b5_3_31), .val (.ref b16_4), .val (.ref b2_4), .val (.ref b5_3_31), .val (.ref b16_4), .val .null, .unset, .unset] [(.int (1 : Int32))]))
      refine own_step (fun t k => XS.istore X188.here hx rfl (hb hby at_188) rfl (l' := #[.val (.int x0_0), .val (.int x1_0), .val (.int (2 : Int32)), .val (.int (2 : Int32)), .val (.ref b1), .val (.ref b8), .val (.ref b5_3_98), .val (.ref b5_3_31), .val (.ref b16_4), .val (.ref b2_4), .val (.ref b5_3_31), .val (.ref b16_4), .val .null, .val (.int (1 : Int32)), .unset]) rfl k) ?_
      show own_Ends p.tables e below s _ _ _ (T188.setTop (mkF m 190 #[.val (.int x0_0), .val (.int x1_0), .val (.int (2 : Int32)), .val (.int (2 : Int32)), .val (.ref b1), .val (.ref b8), .val (.ref b5_3_98), .val (.ref b5_3_31), .val (.ref b16_4), .val (.ref b2_4), .val (.ref b5_3_31), .val (.ref b16_4), .val .null, .val (.int (1 : Int32)), .unset] []))
      refine own_step (fun t k => XS.iloadN X188.here hx rfl (hb hby at_190) rfl k) ?_
      show own_Ends p.tables e below s _ _ _ (T188.setTop (mkF m 191 #[.val (.int x0_0), .val (.int x1_0), .val (.int (2 : Int32)), .val (.int (2 : Int32)), .val (.ref b1), .val (.ref b8), .val (.ref b5_3_98), .val (.ref b5_3_31), .val (.ref b16_4), .val (.ref b2_4), .val (.ref b5_3_31), .val (.ref b16_4), .val .null, .val (.int (1 : Int32)), .unset] [(.int (2 : Int32))]))
      refine own_step (fun t k => XS.iconst X188.here hx rfl (hb hby at_191) k) ?_
      show own_Ends p.tables e below s _ _ _ (T188.setTop (mkF m 192 #[.val (.int x0_0), .val (.int x1_0), .val (.int (2 : Int32)), .val (.int (2 : Int32)), .val (.ref b1), .val (.ref b8), .val (.ref b5_3_98), .val (.ref b5_3_31), .val (.ref b16_4), .val (.ref b2_4), .val (.ref b5_3_31), .val (.ref b16_4), .val .null, .val (.int (1 : Int32)), .unset] [(.int (2 : Int32)), (.int (2 : Int32))]))
      refine own_step (fun t k => XS.icmpNo X188.here hx rfl (hb hby at_192) rfl (flt (by decide : ¬ ((2 : Int32) < (2 : Int32)))).1 k) ?_
      show own_Ends p.tables e below s _ _ _ (T188.setTop (mkF m 195 #[.val (.int x0_0), .val (.int x1_0), .val (.int (2 : Int32)), .val (.int (2 : Int32)), .val (.ref b1), .val (.ref b8), .val (.ref b5_3_98), .val (.ref b5_3_31), .val (.ref b16_4), .val (.ref b2_4), .val (.ref b5_3_31), .val (.ref b16_4), .val .null, .val (.int (1 : Int32)), .unset] []))
      refine own_step (fun t k => XS.iload X188.here hx rfl (hb hby at_195) rfl k) ?_
      show own_Ends p.tables e below s _ _ _ (T188.setTop (mkF m 197 #[.val (.int x0_0), .val (.int x1_0), .val (.int (2 : Int32)), .val (.int (2 : Int32)), .val (.ref b1), .val (.ref b8), .val (.ref b5_3_98), .val (.ref b5_3_31), .val (.ref b16_4), .val (.ref b2_4), .val (.ref b5_3_31), .val (.ref b16_4), .val .null, .val (.int (1 : Int32)), .unset] [(.int (1 : Int32))]))
      refine own_step (fun t k => XS.ifNo X188.here hx rfl (hb hby at_197) rfl ((if0 _ _).trans (feq (by decide : ¬ ((1 : Int32) = (0 : Int32)))).1) k) ?_
      show own_Ends p.tables e below s _ _ _ (T188.setTop (mkF m 200 #[.val (.int x0_0), .val (.int x1_0), .val (.int (2 : Int32)), .val (.int (2 : Int32)), .val (.ref b1), .val (.ref b8), .val (.ref b5_3_98), .val (.ref b5_3_31), .val (.ref b16_4), .val (.ref b2_4), .val (.ref b5_3_31), .val (.ref b16_4), .val .null, .val (.int (1 : Int32)), .unset] []))
      refine own_step (fun t k => XS.aload X188.here hx rfl (hb hby at_200) rfl rfl k) ?_
      show own_Ends p.tables e below s _ _ _ (T188.setTop (mkF m 202 #[.val (.int x0_0), .val (.int x1_0), .val (.int (2 : Int32)), .val (.int (2 : Int32)), .val (.ref b1), .val (.ref b8), .val (.ref b5_3_98), .val (.ref b5_3_31), .val (.ref b16_4), .val (.ref b2_4), .val (.ref b5_3_31), .val (.ref b16_4), .val .null, .val (.int (1 : Int32)), .unset] [(.ref b16_4)]))
      obtain ⟨cq190, kq190, q190a, q190b, q190c⟩ := isOf hZ e188 p183_6
      obtain ⟨_, _, ⟨T190, L190, k190, n190⟩, -, X190, ⟨Lc190, hQ190, l190, y190, z190⟩, st190⟩ := X188.virtualBack hx (y := (⟨"com/example/serigraph/serigraph/view/OrderList$Place", "previous", "()Lcom/example/serigraph/serigraph/view/OrderList$Place;"⟩ : MethodName)) (z := (⟨"com/example/serigraph/serigraph/view/OrderList$Place", "previous", "()Lcom/example/serigraph/serigraph/view/OrderList$Place;"⟩ : MethodName)) hown (mvT hZ (hw _ (List.mem_of_getElem? (i := 66) rfl))) (mvT hZ (hw _ (List.mem_of_getElem? (i := 67) rfl))) (notFace_of_selects (args := #[]) (mvT hZ (hw _ (List.mem_of_getElem? (i := 69) rfl)))) (mvT hZ (hw _ (List.mem_of_getElem? (i := 69) rfl))) (mvT hZ (hw _ (List.mem_of_getElem? (i := 68) rfl))) (by decide) (backOf (W := 0) (rm11 l Z a0 hw [] b16_4 b5_3_31 T183.heap n0 O187 p183_7) hZ (hw _ (List.mem_of_getElem? (i := 70) rfl)) (hw _ (List.mem_of_getElem? (i := 12) rfl)) (by decide) (by decide)) q190a q190c (g := (mkF m 202 #[.val (.int x0_0), .val (.int x1_0), .val (.int (2 : Int32)), .val (.int (2 : Int32)), .val (.ref b1), .val (.ref b8), .val (.ref b5_3_98), .val (.ref b5_3_31), .val (.ref b16_4), .val (.ref b2_4), .val (.ref b5_3_31), .val (.ref b16_4), .val .null, .val (.int (1 : Int32)), .unset] [(.ref b16_4)])) rfl (by rw [hml]; rfl) (Steps.refl _) (argsL := []) (rest := []) (lenOf pd_3 rfl) rfl (by show 2 * 0 + _ ≤ _; exact Nat.le_of_eq rfl) (hb hby at_202) (fun _ _ => ⟨rfl, e188, (by decide : 6 + 0 ≤ _), (by decide : 19 + 0 ≤ _)⟩)
      dsimp only [Pt.U, Pt.locs, Pt.cells, Pt.slots] at X190 l190 y190 z190 st190 hQ190
      subst y190 z190
      obtain ⟨rfl, N190q, e190⟩ := hQ190
      refine own_step (fun t k => st190.trans k) ?_
      have N191 : Fr n0 L190 := by rw [l190]; exact Fr.app N189 N190q
      show own_Ends p.tables e below s _ _ _ (T190.setTop (mkF m 205 #[.val (.int x0_0), .val (.int x1_0), .val (.int (2 : Int32)), .val (.int (2 : Int32)), .val (.ref b1), .val (.ref b8), .val (.ref b5_3_98), .val (.ref b5_3_31), .val (.ref b16_4), .val (.ref b2_4), .val (.ref b5_3_31), .val (.ref b16_4), .val .null, .val (.int (1 : Int32)), .unset] [(.ref b5_3_31)]))
      refine own_step (fun t k => XS.aload X190.here hx rfl (hb hby at_205) rfl rfl k) ?_
      show own_Ends p.tables e below s _ _ _ (T190.setTop (mkF m 207 #[.val (.int x0_0), .val (.int x1_0), .val (.int (2 : Int32)), .val (.int (2 : Int32)), .val (.ref b1), .val (.ref b8), .val (.ref b5_3_98), .val (.ref b5_3_31), .val (.ref b16_4), .val (.ref b2_4), .val (.ref b5_3_31), .val (.ref b16_4), .val .null, .val (.int (1 : Int32)), .unset] [(.ref b5_3_31), (.ref b5_3_31)]))
      refine own_step (fun t k => Jvm.RoadKit.acmp (g := (mkF m 207 #[.val (.int x0_0), .val (.int x1_0), .val (.int (2 : Int32)), .val (.int (2 : Int32)), .val (.ref b1), .val (.ref b8), .val (.ref b5_3_98), .val (.ref b5_3_31), .val (.ref b16_4), .val (.ref b2_4), .val (.ref b5_3_31), .val (.ref b16_4), .val .null, .val (.int (1 : Int32)), .unset] [(.ref b5_3_31), (.ref b5_3_31)])) X190 hx rfl rfl rfl (pc0 := 207) (pc' := 210) (same := true) rfl (hb hby at_207) rfl (decide_eq_true rfl) (by decide) (by decide) k) ?_
      show own_Ends p.tables e below s _ _ _ (T190.setTop (mkF m 210 #[.val (.int x0_0), .val (.int x1_0), .val (.int (2 : Int32)), .val (.int (2 : Int32)), .val (.ref b1), .val (.ref b8), .val (.ref b5_3_98), .val (.ref b5_3_31), .val (.ref b16_4), .val (.ref b2_4), .val (.ref b5_3_31), .val (.ref b16_4), .val .null, .val (.int (1 : Int32)), .unset] []))
      refine own_step (fun t k => XS.iconst X190.here hx rfl (hb hby at_210) k) ?_
      show own_Ends p.tables e below s _ _ _ (T190.setTop (mkF m 211 #[.val (.int x0_0), .val (.int x1_0), .val (.int (2 : Int32)), .val (.int (2 : Int32)), .val (.ref b1), .val (.ref b8), .val (.ref b5_3_98), .val (.ref b5_3_31), .val (.ref b16_4), .val (.ref b2_4), .val (.ref b5_3_31), .val (.ref b16_4), .val .null, .val (.int (1 : Int32)), .unset] [(.int (1 : Int32))]))
      refine own_step (fun t k => XS.goto X190.here hx rfl (pc0 := 211) (pc' := 215) rfl (hb hby at_211) (by decide) (by decide) k) ?_
      show own_Ends p.tables e below s _ _ _ (T190.setTop (mkF m 215 #[.val (.int x0_0), .val (.int x1_0), .val (.int (2 : Int32)), .val (.int (2 : Int32)), .val (.ref b1), .val (.ref b8), .val (.ref b5_3_98), .val (.ref b5_3_31), .val (.ref b16_4), .val (.ref b2_4), .val (.ref b5_3_31), .val (.ref b16_4), .val .null, .val (.int (1 : Int32)), .unset] [(.int (1 : Int32))]))
      refine own_step (fun t k => XS.istore X190.here hx rfl (hb hby at_215) rfl (l' := #[.val (.int x0_0), .val (.int x1_0), .val (.int (2 : Int32)), .val (.int (2 : Int32)), .val (.ref b1), .val (.ref b8), .val (.ref b5_3_98), .val (.ref b5_3_31), .val (.ref b16_4), .val (.ref b2_4), .val (.ref b5_3_31), .val (.ref b16_4), .val .null, .val (.int (1 : Int32)), .unset]) rfl k) ?_
      show own_Ends p.tables e below s _ _ _ (T190.setTop (mkF m 217 #[.val (.int x0_0), .val (.int x1_0), .val (.int (2 : Int32)), .val (.int (2 : Int32)), .val (.ref b1), .val (.ref b8), .val (.ref b5_3_98), .val (.ref b5_3_31), .val (.ref b16_4), .val (.ref b2_4), .val (.ref b5_3_31), .val (.ref b16_4), .val .null, .val (.int (1 : Int32)), .unset] []))
      refine own_step (fun t k => XS.iloadN X190.here hx rfl (hb hby at_217) rfl k) ?_
      show own_Ends p.tables e below s _ _ _ (T190.setTop (mkF m 218 #[.val (.int x0_0), .val (.int x1_0), .val (.int (2 : Int32)), .val (.int (2 : Int32)), .val (.ref b1), .val (.ref b8), .val (.ref b5_3_98), .val (.ref b5_3_31), .val (.ref b16_4), .val (.ref b2_4), .val (.ref b5_3_31), .val (.ref b16_4), .val .null, .val (.int (1 : Int32)), .unset] [(.int (2 : Int32))]))
      refine own_step (fun t k => XS.iconst X190.here hx rfl (hb hby at_218) k) ?_
      show own_Ends p.tables e below s _ _ _ (T190.setTop (mkF m 219 #[.val (.int x0_0), .val (.int x1_0), .val (.int (2 : Int32)), .val (.int (2 : Int32)), .val (.ref b1), .val (.ref b8), .val (.ref b5_3_98), .val (.ref b5_3_31), .val (.ref b16_4), .val (.ref b2_4), .val (.ref b5_3_31), .val (.ref b16_4), .val .null, .val (.int (1 : Int32)), .unset] [(.int (3 : Int32)), (.int (2 : Int32))]))
      refine own_step (fun t k => XS.icmpYes X190.here hx rfl (pc0 := 219) (pc' := 244) rfl (hb hby at_219) rfl (tlt (by decide : (2 : Int32) < (3 : Int32))).1 (by decide) (by decide) k) ?_
      show own_Ends p.tables e below s _ _ _ (T190.setTop (mkF m 244 #[.val (.int x0_0), .val (.int x1_0), .val (.int (2 : Int32)), .val (.int (2 : Int32)), .val (.ref b1), .val (.ref b8), .val (.ref b5_3_98), .val (.ref b5_3_31), .val (.ref b16_4), .val (.ref b2_4), .val (.ref b5_3_31), .val (.ref b16_4), .val .null, .val (.int (1 : Int32)), .unset] []))
      refine own_step (fun t k => XS.aload X190.here hx rfl (hb hby at_244) rfl rfl k) ?_
      show own_Ends p.tables e below s _ _ _ (T190.setTop (mkF m 246 #[.val (.int x0_0), .val (.int x1_0), .val (.int (2 : Int32)), .val (.int (2 : Int32)), .val (.ref b1), .val (.ref b8), .val (.ref b5_3_98), .val (.ref b5_3_31), .val (.ref b16_4), .val (.ref b2_4), .val (.ref b5_3_31), .val (.ref b16_4), .val .null, .val (.int (1 : Int32)), .unset] [(.ref b1)]))
      refine own_step (fun t k => XS.aload X190.here hx rfl (hb hby at_246) rfl rfl k) ?_
      show own_Ends p.tables e below s _ _ _ (T190.setTop (mkF m 248 #[.val (.int x0_0), .val (.int x1_0), .val (.int (2 : Int32)), .val (.int (2 : Int32)), .val (.ref b1), .val (.ref b8), .val (.ref b5_3_98), .val (.ref b5_3_31), .val (.ref b16_4), .val (.ref b2_4), .val (.ref b5_3_31), .val (.ref b16_4), .val .null, .val (.int (1 : Int32)), .unset] [(.ref b5_3_31), (.ref b1)]))
      have F193 : Exa Z T183.heap b1 "com/example/serigraph/serigraph/view/OrderList" := (F184.keep K183q)
      obtain ⟨cq192, kq192, q192a, q192b, q192c⟩ := isOf hZ e190 F193
      obtain ⟨_, _, ⟨T192, L192, k192, n192⟩, -, X192, ⟨Lc192, hQ192, l192, y192, z192⟩, st192⟩ := X190.virtualBack hx (y := (⟨"com/example/serigraph/serigraph/view/OrderList", "insertAfter", "(Lcom/example/serigraph/serigraph/view/OrderList$Place;)Lcom/example/serigraph/serigraph/view/OrderList$Place;"⟩ : MethodName)) (z := (⟨"com/example/serigraph/serigraph/view/OrderList", "insertAfter", "(Lcom/example/serigraph/serigraph/view/OrderList$Place;)Lcom/example/serigraph/serigraph/view/OrderList$Place;"⟩ : MethodName)) hown (mvT hZ (hw _ (List.mem_of_getElem? (i := 72) rfl))) (mvT hZ (hw _ (List.mem_of_getElem? (i := 42) rfl))) (notFace_of_selects (args := #[]) (mvT hZ (hw _ (List.mem_of_getElem? (i := 44) rfl)))) (mvT hZ (hw _ (List.mem_of_getElem? (i := 44) rfl))) (mvT hZ (hw _ (List.mem_of_getElem? (i := 43) rfl))) (by decide) (backOf (W := 0) (rm6 l Z a0 hw [] b1 b5_3_31 .null (.ref b2_4) b16_4 (4611686018427387904 : Int64) (4294967296 : Int64) (.ref b5_3_31) T183.heap n0 O187 (by decide +kernel) p183_5 p183_1 p183_3 p183_4 p183_0 p183_6 p183_7 g_b16_4 p183_2 (Ne.symm ne_b16_4_b5_3_31) g_b5_3_31) hZ (hw _ (List.mem_of_getElem? (i := 45) rfl)) (hw _ (List.mem_of_getElem? (i := 3) rfl)) (by decide) (by decide)) q192a q192c (g := (mkF m 248 #[.val (.int x0_0), .val (.int x1_0), .val (.int (2 : Int32)), .val (.int (2 : Int32)), .val (.ref b1), .val (.ref b8), .val (.ref b5_3_98), .val (.ref b5_3_31), .val (.ref b16_4), .val (.ref b2_4), .val (.ref b5_3_31), .val (.ref b16_4), .val .null, .val (.int (1 : Int32)), .unset] [(.ref b5_3_31), (.ref b1)])) rfl (by rw [hml]; rfl) (Steps.refl _) (argsL := [(.ref b5_3_31)]) (rest := []) (lenOf pd_2 rfl) rfl (by show 2 * 0 + _ ≤ _; exact Nat.le_of_eq rfl) (hb hby at_248) (fun _ _ => ⟨rfl, e190, (by decide : 6 + 1 ≤ _), (by decide : 19 + 3 ≤ _)⟩)
      dsimp only [Pt.U, Pt.locs, Pt.cells, Pt.slots] at X192 l192 y192 z192 st192 hQ192
      subst y192 z192
      have F194 : Exa Z h114 b2_4 "com/example/serigraph/serigraph/view/OrderList$Place" := (((F99.keep K98q).wr W104).wr W114)
      have F195 : Exa Z T183.heap b2_4 "com/example/serigraph/serigraph/view/OrderList$Place" := (F194.keep K183q)
      have F196 : Arv Z T183.heap b8 k8 (.object "com/example/serigraph/serigraph/view/OrderList$Place") (5 : Int32) [(.ref b2_4), (.ref b5_3_31), (.ref b5_3_98), (.ref b16_4), .null] .null := (V114.keep K183q (ninS ne_b8_b5_3_31 (ninS (Ne.symm ne_b16_4_b8) nin0)))
      have F197 : Exa Z T183.heap b5_3_98 "com/example/serigraph/serigraph/view/OrderList$Place" := (((p98_9.wr W104).wr W114).keep K183q)
      obtain ⟨b5_192, rfl, N192q, K192q, p192_0, p192_1, p192_2, p192_3, p192_4, p192_5, p192_6, p192_7, p192_8, p192_9, p192_10, p192_11, p192_12⟩ := hQ192
      refine own_step (fun t k => st192.trans k) ?_
      have N198 : Fr n0 L192 := by rw [l192]; exact Fr.app N191 N192q
      have sz_b5_192 : h0.size ≤ b5_192 := Nat.le_trans K186.1 p192_0
      have g_b5_192 : n0 ≤ b5_192 := Nat.le_trans (Nat.le_trans (Nat.le_of_eq O187.1.symm) O187.2.1) p192_0
      have ne_b1_b5_192 : b1 ≠ b5_192 := Nat.ne_of_lt (Nat.lt_of_lt_of_le F193.lt p192_0)
      have ne_b2_4_b5_192 : b2_4 ≠ b5_192 := Nat.ne_of_lt (Nat.lt_of_lt_of_le F195.lt p192_0)
      have ne_b16_4_b5_192 : b16_4 ≠ b5_192 := Nat.ne_of_lt (Nat.lt_of_lt_of_le p183_6.lt p192_0)
      have ne_b8_b5_192 : b8 ≠ b5_192 := Nat.ne_of_lt (Nat.lt_of_lt_of_le F196.lt p192_0)
      have ne_b5_3_31_b5_192 : b5_3_31 ≠ b5_192 := Nat.ne_of_lt (Nat.lt_of_lt_of_le p183_2.lt p192_0)
      have ne_b5_3_98_b5_192 : b5_3_98 ≠ b5_192 := Nat.ne_of_lt (Nat.lt_of_lt_of_le F197.lt p192_0)
      have K199 : Keep h0 T192.heap [] := K186.trans K192q (allS (Or.inr sz_b16_4) (allS (Or.inr sz_b5_3_31) all0))
      have p192_10c : Fld Z T192.heap b5_192 "com/example/serigraph/serigraph/view/OrderList$Place" "label" "J" (.long (8589934592 : Int64)) := Eq.mp (congrArg (fun z => Fld Z T192.heap b5_192 "com/example/serigraph/serigraph/view/OrderList$Place" "label" "J" (.long z)) (show ((4294967296 : Int64) + (own_r7 (((4611686018427387904 : Int64) - (4294967296 : Int64)) / (2 : Int64)) (4294967296 : Int64))) = (8589934592 : Int64) from by decide +kernel)) p192_10
      show own_Ends p.tables e below s _ _ _ (T192.setTop (mkF m 251 #[.val (.int x0_0), .val (.int x1_0), .val (.int (2 : Int32)), .val (.int (2 : Int32)), .val (.ref b1), .val (.ref b8), .val (.ref b5_3_98), .val (.ref b5_3_31), .val (.ref b16_4), .val (.ref b2_4), .val (.ref b5_3_31), .val (.ref b16_4), .val .null, .val (.int (1 : Int32)), .unset] [(.ref b5_192)]))
      refine own_step (fun t k => XS.astore X192.here hx rfl (hb hby at_251) rfl rfl (l' := #[.val (.int x0_0), .val (.int x1_0), .val (.int (2 : Int32)), .val (.int (2 : Int32)), .val (.ref b1), .val (.ref b8), .val (.ref b5_3_98), .val (.ref b5_3_31), .val (.ref b16_4), .val (.ref b2_4), .val (.ref b5_3_31), .val (.ref b16_4), .val .null, .val (.int (1 : Int32)), .val (.ref b5_192)]) rfl k) ?_
      show own_Ends p.tables e below s _ _ _ (T192.setTop (mkF m 253 #[.val (.int x0_0), .val (.int x1_0), .val (.int (2 : Int32)), .val (.int (2 : Int32)), .val (.ref b1), .val (.ref b8), .val (.ref b5_3_98), .val (.ref b5_3_31), .val (.ref b16_4), .val (.ref b2_4), .val (.ref b5_3_31), .val (.ref b16_4), .val .null, .val (.int (1 : Int32)), .val (.ref b5_192)] []))
      refine own_step (fun t k => XS.iload X192.here hx rfl (hb hby at_253) rfl k) ?_
      show own_Ends p.tables e below s _ _ _ (T192.setTop (mkF m 255 #[.val (.int x0_0), .val (.int x1_0), .val (.int (2 : Int32)), .val (.int (2 : Int32)), .val (.ref b1), .val (.ref b8), .val (.ref b5_3_98), .val (.ref b5_3_31), .val (.ref b16_4), .val (.ref b2_4), .val (.ref b5_3_31), .val (.ref b16_4), .val .null, .val (.int (1 : Int32)), .val (.ref b5_192)] [(.int (1 : Int32))]))
      refine own_step (fun t k => XS.ifNo X192.here hx rfl (hb hby at_255) rfl ((if0 _ _).trans (feq (by decide : ¬ ((1 : Int32) = (0 : Int32)))).1) k) ?_
      show own_Ends p.tables e below s _ _ _ (T192.setTop (mkF m 258 #[.val (.int x0_0), .val (.int x1_0), .val (.int (2 : Int32)), .val (.int (2 : Int32)), .val (.ref b1), .val (.ref b8), .val (.ref b5_3_98), .val (.ref b5_3_31), .val (.ref b16_4), .val (.ref b2_4), .val (.ref b5_3_31), .val (.ref b16_4), .val .null, .val (.int (1 : Int32)), .val (.ref b5_192)] []))
      refine own_step (fun t k => XS.aload X192.here hx rfl (hb hby at_258) rfl rfl k) ?_
      show own_Ends p.tables e below s _ _ _ (T192.setTop (mkF m 260 #[.val (.int x0_0), .val (.int x1_0), .val (.int (2 : Int32)), .val (.int (2 : Int32)), .val (.ref b1), .val (.ref b8), .val (.ref b5_3_98), .val (.ref b5_3_31), .val (.ref b16_4), .val (.ref b2_4), .val (.ref b5_3_31), .val (.ref b16_4), .val .null, .val (.int (1 : Int32)), .val (.ref b5_192)] [(.ref b16_4)]))
      have O200 : Old Z n0 T192.heap := (O187.keep K192q (allS g_b16_4 (allS g_b5_3_31 all0)))
      obtain ⟨cq201, kq201, q201a, q201b, q201c⟩ := isOf hZ rfl p192_3
      obtain ⟨_, _, ⟨T201, L201, k201, n201⟩, -, X201, ⟨Lc201, hQ201, l201, y201, z201⟩, st201⟩ := X192.virtualBack hx (y := (⟨"com/example/serigraph/serigraph/view/OrderList$Place", "previous", "()Lcom/example/serigraph/serigraph/view/OrderList$Place;"⟩ : MethodName)) (z := (⟨"com/example/serigraph/serigraph/view/OrderList$Place", "previous", "()Lcom/example/serigraph/serigraph/view/OrderList$Place;"⟩ : MethodName)) hown (mvT hZ (hw _ (List.mem_of_getElem? (i := 66) rfl))) (mvT hZ (hw _ (List.mem_of_getElem? (i := 67) rfl))) (notFace_of_selects (args := #[]) (mvT hZ (hw _ (List.mem_of_getElem? (i := 69) rfl)))) (mvT hZ (hw _ (List.mem_of_getElem? (i := 69) rfl))) (mvT hZ (hw _ (List.mem_of_getElem? (i := 68) rfl))) (by decide) (backOf (W := 0) (rm11 l Z a0 hw [] b16_4 b5_192 T192.heap n0 O200 p192_4) hZ (hw _ (List.mem_of_getElem? (i := 70) rfl)) (hw _ (List.mem_of_getElem? (i := 12) rfl)) (by decide) (by decide)) q201a q201c (g := (mkF m 260 #[.val (.int x0_0), .val (.int x1_0), .val (.int (2 : Int32)), .val (.int (2 : Int32)), .val (.ref b1), .val (.ref b8), .val (.ref b5_3_98), .val (.ref b5_3_31), .val (.ref b16_4), .val (.ref b2_4), .val (.ref b5_3_31), .val (.ref b16_4), .val .null, .val (.int (1 : Int32)), .val (.ref b5_192)] [(.ref b16_4)])) rfl (by rw [hml]; rfl) (Steps.refl _) (argsL := []) (rest := []) (lenOf pd_3 rfl) rfl (by show 2 * 0 + _ ≤ _; exact Nat.le_of_eq rfl) (hb hby at_260) (fun _ _ => ⟨rfl, rfl, (by decide : 7 + 0 ≤ _), (by decide : 22 + 0 ≤ _)⟩)
      dsimp only [Pt.U, Pt.locs, Pt.cells, Pt.slots] at X201 l201 y201 z201 st201 hQ201
      subst y201 z201
      obtain ⟨rfl, N201q, e201⟩ := hQ201
      refine own_step (fun t k => st201.trans k) ?_
      have N202 : Fr n0 L201 := by rw [l201]; exact Fr.app N198 N201q
      show own_Ends p.tables e below s _ _ _ (T201.setTop (mkF m 263 #[.val (.int x0_0), .val (.int x1_0), .val (.int (2 : Int32)), .val (.int (2 : Int32)), .val (.ref b1), .val (.ref b8), .val (.ref b5_3_98), .val (.ref b5_3_31), .val (.ref b16_4), .val (.ref b2_4), .val (.ref b5_3_31), .val (.ref b16_4), .val .null, .val (.int (1 : Int32)), .val (.ref b5_192)] [(.ref b5_192)]))
      refine own_step (fun t k => XS.aload X201.here hx rfl (hb hby at_263) rfl rfl k) ?_
      show own_Ends p.tables e below s _ _ _ (T201.setTop (mkF m 265 #[.val (.int x0_0), .val (.int x1_0), .val (.int (2 : Int32)), .val (.int (2 : Int32)), .val (.ref b1), .val (.ref b8), .val (.ref b5_3_98), .val (.ref b5_3_31), .val (.ref b16_4), .val (.ref b2_4), .val (.ref b5_3_31), .val (.ref b16_4), .val .null, .val (.int (1 : Int32)), .val (.ref b5_192)] [(.ref b5_192), (.ref b5_192)]))
      refine own_step (fun t k => Jvm.RoadKit.acmp (g := (mkF m 265 #[.val (.int x0_0), .val (.int x1_0), .val (.int (2 : Int32)), .val (.int (2 : Int32)), .val (.ref b1), .val (.ref b8), .val (.ref b5_3_98), .val (.ref b5_3_31), .val (.ref b16_4), .val (.ref b2_4), .val (.ref b5_3_31), .val (.ref b16_4), .val .null, .val (.int (1 : Int32)), .val (.ref b5_192)] [(.ref b5_192), (.ref b5_192)])) X201 hx rfl rfl rfl (pc0 := 265) (pc' := 268) (same := true) rfl (hb hby at_265) rfl (decide_eq_true rfl) (by decide) (by decide) k) ?_
      show own_Ends p.tables e below s _ _ _ (T201.setTop (mkF m 268 #[.val (.int x0_0), .val (.int x1_0), .val (.int (2 : Int32)), .val (.int (2 : Int32)), .val (.ref b1), .val (.ref b8), .val (.ref b5_3_98), .val (.ref b5_3_31), .val (.ref b16_4), .val (.ref b2_4), .val (.ref b5_3_31), .val (.ref b16_4), .val .null, .val (.int (1 : Int32)), .val (.ref b5_192)] []))
      refine own_step (fun t k => XS.aload X201.here hx rfl (hb hby at_268) rfl rfl k) ?_
      show own_Ends p.tables e below s _ _ _ (T201.setTop (mkF m 270 #[.val (.int x0_0), .val (.int x1_0), .val (.int (2 : Int32)), .val (.int (2 : Int32)), .val (.ref b1), .val (.ref b8), .val (.ref b5_3_98), .val (.ref b5_3_31), .val (.ref b16_4), .val (.ref b2_4), .val (.ref b5_3_31), .val (.ref b16_4), .val .null, .val (.int (1 : Int32)), .val (.ref b5_192)] [(.ref b5_192)]))
      obtain ⟨cq203, kq203, q203a, q203b, q203c⟩ := isOf hZ e201 p192_9
      obtain ⟨_, _, ⟨T203, L203, k203, n203⟩, -, X203, ⟨Lc203, hQ203, l203, y203, z203⟩, st203⟩ := X201.virtualBack hx (y := (⟨"com/example/serigraph/serigraph/view/OrderList$Place", "previous", "()Lcom/example/serigraph/serigraph/view/OrderList$Place;"⟩ : MethodName)) (z := (⟨"com/example/serigraph/serigraph/view/OrderList$Place", "previous", "()Lcom/example/serigraph/serigraph/view/OrderList$Place;"⟩ : MethodName)) hown (mvT hZ (hw _ (List.mem_of_getElem? (i := 66) rfl))) (mvT hZ (hw _ (List.mem_of_getElem? (i := 67) rfl))) (notFace_of_selects (args := #[]) (mvT hZ (hw _ (List.mem_of_getElem? (i := 69) rfl)))) (mvT hZ (hw _ (List.mem_of_getElem? (i := 69) rfl))) (mvT hZ (hw _ (List.mem_of_getElem? (i := 68) rfl))) (by decide) (backOf (W := 0) (rm11 l Z a0 hw [] b5_192 b5_3_31 T192.heap n0 O200 p192_12) hZ (hw _ (List.mem_of_getElem? (i := 70) rfl)) (hw _ (List.mem_of_getElem? (i := 12) rfl)) (by decide) (by decide)) q203a q203c (g := (mkF m 270 #[.val (.int x0_0), .val (.int x1_0), .val (.int (2 : Int32)), .val (.int (2 : Int32)), .val (.ref b1), .val (.ref b8), .val (.ref b5_3_98), .val (.ref b5_3_31), .val (.ref b16_4), .val (.ref b2_4), .val (.ref b5_3_31), .val (.ref b16_4), .val .null, .val (.int (1 : Int32)), .val (.ref b5_192)] [(.ref b5_192)])) rfl (by rw [hml]; rfl) (Steps.refl _) (argsL := []) (rest := []) (lenOf pd_3 rfl) rfl (by show 2 * 0 + _ ≤ _; exact Nat.le_of_eq rfl) (hb hby at_270) (fun _ _ => ⟨rfl, e201, (by decide : 7 + 0 ≤ _), (by decide : 22 + 0 ≤ _)⟩)
      dsimp only [Pt.U, Pt.locs, Pt.cells, Pt.slots] at X203 l203 y203 z203 st203 hQ203
      subst y203 z203
      obtain ⟨rfl, N203q, e203⟩ := hQ203
      refine own_step (fun t k => st203.trans k) ?_
      have N204 : Fr n0 L203 := by rw [l203]; exact Fr.app N202 N203q
      show own_Ends p.tables e below s _ _ _ (T203.setTop (mkF m 273 #[.val (.int x0_0), .val (.int x1_0), .val (.int (2 : Int32)), .val (.int (2 : Int32)), .val (.ref b1), .val (.ref b8), .val (.ref b5_3_98), .val (.ref b5_3_31), .val (.ref b16_4), .val (.ref b2_4), .val (.ref b5_3_31), .val (.ref b16_4), .val .null, .val (.int (1 : Int32)), .val (.ref b5_192)] [(.ref b5_3_31)]))
      refine own_step (fun t k => XS.aload X203.here hx rfl (hb hby at_273) rfl rfl k) ?_
      show own_Ends p.tables e below s _ _ _ (T203.setTop (mkF m 275 #[.val (.int x0_0), .val (.int x1_0), .val (.int (2 : Int32)), .val (.int (2 : Int32)), .val (.ref b1), .val (.ref b8), .val (.ref b5_3_98), .val (.ref b5_3_31), .val (.ref b16_4), .val (.ref b2_4), .val (.ref b5_3_31), .val (.ref b16_4), .val .null, .val (.int (1 : Int32)), .val (.ref b5_192)] [(.ref b5_3_31), (.ref b5_3_31)]))
      refine own_step (fun t k => Jvm.RoadKit.acmp (g := (mkF m 275 #[.val (.int x0_0), .val (.int x1_0), .val (.int (2 : Int32)), .val (.int (2 : Int32)), .val (.ref b1), .val (.ref b8), .val (.ref b5_3_98), .val (.ref b5_3_31), .val (.ref b16_4), .val (.ref b2_4), .val (.ref b5_3_31), .val (.ref b16_4), .val .null, .val (.int (1 : Int32)), .val (.ref b5_192)] [(.ref b5_3_31), (.ref b5_3_31)])) X203 hx rfl rfl rfl (pc0 := 275) (pc' := 278) (same := true) rfl (hb hby at_275) rfl (decide_eq_true rfl) (by decide) (by decide) k) ?_
      show own_Ends p.tables e below s _ _ _ (T203.setTop (mkF m 278 #[.val (.int x0_0), .val (.int x1_0), .val (.int (2 : Int32)), .val (.int (2 : Int32)), .val (.ref b1), .val (.ref b8), .val (.ref b5_3_98), .val (.ref b5_3_31), .val (.ref b16_4), .val (.ref b2_4), .val (.ref b5_3_31), .val (.ref b16_4), .val .null, .val (.int (1 : Int32)), .val (.ref b5_192)] []))
      refine own_step (fun t k => XS.iconst X203.here hx rfl (hb hby at_278) k) ?_
      show own_Ends p.tables e below s _ _ _ (T203.setTop (mkF m 279 #[.val (.int x0_0), .val (.int x1_0), .val (.int (2 : Int32)), .val (.int (2 : Int32)), .val (.ref b1), .val (.ref b8), .val (.ref b5_3_98), .val (.ref b5_3_31), .val (.ref b16_4), .val (.ref b2_4), .val (.ref b5_3_31), .val (.ref b16_4), .val .null, .val (.int (1 : Int32)), .val (.ref b5_192)] [(.int (1 : Int32))]))
      refine own_step (fun t k => XS.goto X203.here hx rfl (pc0 := 279) (pc' := 283) rfl (hb hby at_279) (by decide) (by decide) k) ?_
      show own_Ends p.tables e below s _ _ _ (T203.setTop (mkF m 283 #[.val (.int x0_0), .val (.int x1_0), .val (.int (2 : Int32)), .val (.int (2 : Int32)), .val (.ref b1), .val (.ref b8), .val (.ref b5_3_98), .val (.ref b5_3_31), .val (.ref b16_4), .val (.ref b2_4), .val (.ref b5_3_31), .val (.ref b16_4), .val .null, .val (.int (1 : Int32)), .val (.ref b5_192)] [(.int (1 : Int32))]))
      refine own_step (fun t k => XS.istore X203.here hx rfl (hb hby at_283) rfl (l' := #[.val (.int x0_0), .val (.int x1_0), .val (.int (2 : Int32)), .val (.int (2 : Int32)), .val (.ref b1), .val (.ref b8), .val (.ref b5_3_98), .val (.ref b5_3_31), .val (.ref b16_4), .val (.ref b2_4), .val (.ref b5_3_31), .val (.ref b16_4), .val .null, .val (.int (1 : Int32)), .val (.ref b5_192)]) rfl k) ?_
      show own_Ends p.tables e below s _ _ _ (T203.setTop (mkF m 285 #[.val (.int x0_0), .val (.int x1_0), .val (.int (2 : Int32)), .val (.int (2 : Int32)), .val (.ref b1), .val (.ref b8), .val (.ref b5_3_98), .val (.ref b5_3_31), .val (.ref b16_4), .val (.ref b2_4), .val (.ref b5_3_31), .val (.ref b16_4), .val .null, .val (.int (1 : Int32)), .val (.ref b5_192)] []))
      refine own_step (fun t k => XS.iload X203.here hx rfl (hb hby at_285) rfl k) ?_
      show own_Ends p.tables e below s _ _ _ (T203.setTop (mkF m 287 #[.val (.int x0_0), .val (.int x1_0), .val (.int (2 : Int32)), .val (.int (2 : Int32)), .val (.ref b1), .val (.ref b8), .val (.ref b5_3_98), .val (.ref b5_3_31), .val (.ref b16_4), .val (.ref b2_4), .val (.ref b5_3_31), .val (.ref b16_4), .val .null, .val (.int (1 : Int32)), .val (.ref b5_192)] [(.int (1 : Int32))]))
      exact own_retN X203 hx (t := .boolean) Bd.returns (by simp) (hb hby at_287) hnl (by rw [e203]; exact ⟨rfl, N204⟩) (by decide) (by decide)
  · subst hk39
    show own_Ends p.tables e below s _ _ _ (T36.setTop (mkF m 51 #[.val (.int x0_0), .val (.int x1_0), .val (.int (3 : Int32)), .val (.int ii), .val (.ref b1), .val (.ref b8), .unset, .unset, .unset, .unset, .unset, .unset, .unset, .unset, .unset] []))
    refine own_step (fun t k => XS.iloadN X36.here hx rfl (hb hby at_51) rfl k) ?_
    show own_Ends p.tables e below s _ _ _ (T36.setTop (mkF m 52 #[.val (.int x0_0), .val (.int x1_0), .val (.int (3 : Int32)), .val (.int ii), .val (.ref b1), .val (.ref b8), .unset, .unset, .unset, .unset, .unset, .unset, .unset, .unset, .unset] [(.int (3 : Int32))]))
    refine own_step (fun t k => XS.iconst X36.here hx rfl (hb hby at_52) k) ?_
    show own_Ends p.tables e below s _ _ _ (T36.setTop (mkF m 53 #[.val (.int x0_0), .val (.int x1_0), .val (.int (3 : Int32)), .val (.int ii), .val (.ref b1), .val (.ref b8), .unset, .unset, .unset, .unset, .unset, .unset, .unset, .unset, .unset] [(.int (2 : Int32)), (.int (3 : Int32))]))
    refine own_step (fun t k => XS.icmpNo X36.here hx rfl (hb hby at_53) rfl (flt (by decide : ¬ ((3 : Int32) < (2 : Int32)))).1 k) ?_
    show own_Ends p.tables e below s _ _ _ (T36.setTop (mkF m 56 #[.val (.int x0_0), .val (.int x1_0), .val (.int (3 : Int32)), .val (.int ii), .val (.ref b1), .val (.ref b8), .unset, .unset, .unset, .unset, .unset, .unset, .unset, .unset, .unset] []))
    refine own_step (fun t k => XS.aload X36.here hx rfl (hb hby at_56) rfl rfl k) ?_
    show own_Ends p.tables e below s _ _ _ (T36.setTop (mkF m 58 #[.val (.int x0_0), .val (.int x1_0), .val (.int (3 : Int32)), .val (.int ii), .val (.ref b1), .val (.ref b8), .unset, .unset, .unset, .unset, .unset, .unset, .unset, .unset, .unset] [(.ref b8)]))
    refine own_step (fun t k => XS.iconst X36.here hx rfl (hb hby at_58) k) ?_
    show own_Ends p.tables e below s _ _ _ (T36.setTop (mkF m 59 #[.val (.int x0_0), .val (.int x1_0), .val (.int (3 : Int32)), .val (.int ii), .val (.ref b1), .val (.ref b8), .unset, .unset, .unset, .unset, .unset, .unset, .unset, .unset, .unset] [(.int (2 : Int32)), (.ref b8)]))
    refine own_step (fun t k => XS.aload X36.here hx rfl (hb hby at_59) rfl rfl k) ?_
    show own_Ends p.tables e below s _ _ _ (T36.setTop (mkF m 61 #[.val (.int x0_0), .val (.int x1_0), .val (.int (3 : Int32)), .val (.int ii), .val (.ref b1), .val (.ref b8), .unset, .unset, .unset, .unset, .unset, .unset, .unset, .unset, .unset] [(.ref b1), (.int (2 : Int32)), (.ref b8)]))
    have F205 : Fld Z h36 b1 "com/example/serigraph/serigraph/view/OrderList" "back" "Lcom/example/serigraph/serigraph/view/OrderList$Place;" (.ref b16_4) := ((F20.keep K31q (ninS ne_b1_b2_4 (ninS ne_b1_b16_4 nin0))).other W36 (Or.inl ne_b1_b8))
    have F206 : Fld Z h36 b16_4 "com/example/serigraph/serigraph/view/OrderList$Place" "previous" "Lcom/example/serigraph/serigraph/view/OrderList$Place;" (.ref b5_3_31) := (p31_7.other W36 (Or.inl ne_b16_4_b8))
    have F207 : Fld Z h36 b5_3_31 "com/example/serigraph/serigraph/view/OrderList$Place" "previous" "Lcom/example/serigraph/serigraph/view/OrderList$Place;" (.ref b2_4) := (p31_12.other W36 (Or.inl (Ne.symm ne_b8_b5_3_31)))
    have F208 : Fld Z h36 b5_3_31 "com/example/serigraph/serigraph/view/OrderList$Place" "next" "Lcom/example/serigraph/serigraph/view/OrderList$Place;" (.ref b16_4) := (p31_11.other W36 (Or.inl (Ne.symm ne_b8_b5_3_31)))
    have F209 : Fld Z h36 b16_4 "com/example/serigraph/serigraph/view/OrderList$Place" "label" "J" (.long (4611686018427387904 : Int64)) := (p31_5.other W36 (Or.inl ne_b16_4_b8))
    have F210 : Fld Z h36 b5_3_31 "com/example/serigraph/serigraph/view/OrderList$Place" "label" "J" (.long (4294967296 : Int64)) := (p31_10c.other W36 (Or.inl (Ne.symm ne_b8_b5_3_31)))
    have F211 : Exa Z h36 b16_4 "com/example/serigraph/serigraph/view/OrderList$Place" := (p31_6.wr W36)
    have F212 : Exa Z h36 b5_3_31 "com/example/serigraph/serigraph/view/OrderList$Place" := (p31_9.wr W36)
    have F213 : Fld Z h36 b16_4 "com/example/serigraph/serigraph/view/OrderList$Place" "next" "Lcom/example/serigraph/serigraph/view/OrderList$Place;" .null := (p31_8.other W36 (Or.inl ne_b16_4_b8))
    have F214 : Exa Z h36 b1 "com/example/serigraph/serigraph/view/OrderList" := ((F29.keep K31q).wr W36)
    have O215 : Old Z n0 h36 := ((O30.keep K31q (allS g_b2_4 (allS g_b16_4 all0))).wr W36 g_b8)
    obtain ⟨cq216, kq216, q216a, q216b, q216c⟩ := isOf hZ e36 F214
    obtain ⟨_, _, ⟨T216, L216, k216, n216⟩, -, X216, ⟨Lc216, hQ216, l216, y216, z216⟩, st216⟩ := X36.virtualBack hx (y := (⟨"com/example/serigraph/serigraph/view/OrderList", "append", "()Lcom/example/serigraph/serigraph/view/OrderList$Place;"⟩ : MethodName)) (z := (⟨"com/example/serigraph/serigraph/view/OrderList", "append", "()Lcom/example/serigraph/serigraph/view/OrderList$Place;"⟩ : MethodName)) hown (mvT hZ (hw _ (List.mem_of_getElem? (i := 36) rfl))) (mvT hZ (hw _ (List.mem_of_getElem? (i := 37) rfl))) (notFace_of_selects (args := #[]) (mvT hZ (hw _ (List.mem_of_getElem? (i := 39) rfl)))) (mvT hZ (hw _ (List.mem_of_getElem? (i := 39) rfl))) (mvT hZ (hw _ (List.mem_of_getElem? (i := 38) rfl))) (by decide) (backOf (W := 2) (rm5 l Z a0 hw [] b1 b16_4 b5_3_31 (.ref b2_4) b16_4 (4611686018427387904 : Int64) (4294967296 : Int64) (.ref b5_3_31) .null h36 n0 O215 F205 F206 F207 F208 F209 F210 F211 F206 g_b16_4 F212 (Ne.symm ne_b16_4_b5_3_31) g_b5_3_31 (by decide +kernel) F213 F214) hZ (hw _ (List.mem_of_getElem? (i := 40) rfl)) (hw _ (List.mem_of_getElem? (i := 3) rfl)) (by decide) (by decide)) q216a q216c (g := (mkF m 61 #[.val (.int x0_0), .val (.int x1_0), .val (.int (3 : Int32)), .val (.int ii), .val (.ref b1), .val (.ref b8), .unset, .unset, .unset, .unset, .unset, .unset, .unset, .unset, .unset] [(.ref b1), (.int (2 : Int32)), (.ref b8)])) rfl (by rw [hml]; rfl) (Steps.refl _) (argsL := []) (rest := [(.int (2 : Int32)), (.ref b8)]) (lenOf pd_3 rfl) rfl (by show 2 * 0 + _ ≤ _; exact Nat.le_of_eq rfl) (hb hby at_61) (fun _ _ => ⟨rfl, e36, (by decide : 5 + 1 ≤ _), (by decide : 16 + 3 ≤ _)⟩)
    dsimp only [Pt.U, Pt.locs, Pt.cells, Pt.slots] at X216 l216 y216 z216 st216 hQ216
    subst y216 z216
    have F217 : Exa Z h36 b2_4 "com/example/serigraph/serigraph/view/OrderList$Place" := (p31_4.wr W36)
    obtain ⟨b5_3_216, rfl, N216q, K216q, p216_0, p216_1, p216_2, p216_3, p216_4, p216_5, p216_6, p216_7, p216_8, p216_9, p216_10, p216_11, p216_12⟩ := hQ216
    refine own_step (fun t k => st216.trans k) ?_
    have N218 : Fr n0 L216 := by rw [l216]; exact Fr.app N38 N216q
    have sz_b5_3_216 : h0.size ≤ b5_3_216 := Nat.le_trans K37.1 p216_0
    have g_b5_3_216 : n0 ≤ b5_3_216 := Nat.le_trans (Nat.le_trans (Nat.le_of_eq O215.1.symm) O215.2.1) p216_0
    have ne_b1_b5_3_216 : b1 ≠ b5_3_216 := Nat.ne_of_lt (Nat.lt_of_lt_of_le F214.lt p216_0)
    have ne_b2_4_b5_3_216 : b2_4 ≠ b5_3_216 := Nat.ne_of_lt (Nat.lt_of_lt_of_le F217.lt p216_0)
    have ne_b16_4_b5_3_216 : b16_4 ≠ b5_3_216 := Nat.ne_of_lt (Nat.lt_of_lt_of_le F211.lt p216_0)
    have ne_b8_b5_3_216 : b8 ≠ b5_3_216 := Nat.ne_of_lt (Nat.lt_of_lt_of_le V36.lt p216_0)
    have ne_b5_3_31_b5_3_216 : b5_3_31 ≠ b5_3_216 := Nat.ne_of_lt (Nat.lt_of_lt_of_le F212.lt p216_0)
    have K219 : Keep h0 T216.heap [] := K37.trans K216q (allS (Or.inr sz_b5_3_31) (allS (Or.inr sz_b16_4) all0))
    have p216_10c : Fld Z T216.heap b5_3_216 "com/example/serigraph/serigraph/view/OrderList$Place" "label" "J" (.long (8589934592 : Int64)) := Eq.mp (congrArg (fun z => Fld Z T216.heap b5_3_216 "com/example/serigraph/serigraph/view/OrderList$Place" "label" "J" (.long z)) (show ((4294967296 : Int64) + (own_r7 (((4611686018427387904 : Int64) - (4294967296 : Int64)) / (2 : Int64)) (4294967296 : Int64))) = (8589934592 : Int64) from by decide +kernel)) p216_10
    show own_Ends p.tables e below s _ _ _ (T216.setTop (mkF m 64 #[.val (.int x0_0), .val (.int x1_0), .val (.int (3 : Int32)), .val (.int ii), .val (.ref b1), .val (.ref b8), .unset, .unset, .unset, .unset, .unset, .unset, .unset, .unset, .unset] [(.ref b5_3_216), (.int (2 : Int32)), (.ref b8)]))
    have F220 : Arv Z T216.heap b8 k8 (.object "com/example/serigraph/serigraph/view/OrderList$Place") (5 : Int32) [(.ref b2_4), (.ref b5_3_31), .null, .null, .null] .null := (V36.keep K216q (ninS ne_b8_b5_3_31 (ninS (Ne.symm ne_b16_4_b8) nin0)))
    obtain ⟨cl221, Ar221, q221, S221, N221, H221, G221⟩ := id F220
    have hin221 : ¬ ((2 : Int32) < 0 ∨ cl221.slots.size ≤ ((2 : Int32)).toNatClampNeg) := inb_of S221 ⟨by decide, by decide⟩
    obtain ⟨T222, h222, X222, e222, W222, st222⟩ := stR X216 hx hZ rfl Ar221 (j := (2 : Int32)) hin221 rfl (Sto.ofV Ar221 q221 O8 (Ins.self p216_9)) (g := (mkF m 64 #[.val (.int x0_0), .val (.int x1_0), .val (.int (3 : Int32)), .val (.int ii), .val (.ref b1), .val (.ref b8), .unset, .unset, .unset, .unset, .unset, .unset, .unset, .unset, .unset] [(.ref b5_3_216), (.int (2 : Int32)), (.ref b8)])) rfl rfl (hb hby at_64)
    refine own_step (fun t k => st222 _ k) ?_
    have V222 : Arv Z h222 b8 k8 (.object "com/example/serigraph/serigraph/view/OrderList$Place") (5 : Int32) [(.ref b2_4), (.ref b5_3_31), (.ref b5_3_216), .null, .null] .null := Arv.set Ar221 q221 S221 N221 H221 G221 rfl W222 2 rfl (Nat.le_of_ble_eq_true rfl)
    have K223 : Keep h0 h222 [] := K219.wr W222 (Or.inr sz_b8)
    have N224 := Fr.snoc X222 N218 g_b8
    show own_Ends p.tables e below s _ _ _ (T222.setTop (mkF m 65 #[.val (.int x0_0), .val (.int x1_0), .val (.int (3 : Int32)), .val (.int ii), .val (.ref b1), .val (.ref b8), .unset, .unset, .unset, .unset, .unset, .unset, .unset, .unset, .unset] []))
    refine own_step (fun t k => XS.iloadN X222.here hx rfl (hb hby at_65) rfl k) ?_
    show own_Ends p.tables e below s _ _ _ (T222.setTop (mkF m 66 #[.val (.int x0_0), .val (.int x1_0), .val (.int (3 : Int32)), .val (.int ii), .val (.ref b1), .val (.ref b8), .unset, .unset, .unset, .unset, .unset, .unset, .unset, .unset, .unset] [(.int (3 : Int32))]))
    refine own_step (fun t k => XS.iconst X222.here hx rfl (hb hby at_66) k) ?_
    show own_Ends p.tables e below s _ _ _ (T222.setTop (mkF m 67 #[.val (.int x0_0), .val (.int x1_0), .val (.int (3 : Int32)), .val (.int ii), .val (.ref b1), .val (.ref b8), .unset, .unset, .unset, .unset, .unset, .unset, .unset, .unset, .unset] [(.int (3 : Int32)), (.int (3 : Int32))]))
    refine own_step (fun t k => XS.icmpNo X222.here hx rfl (hb hby at_67) rfl (flt (by decide : ¬ ((3 : Int32) < (3 : Int32)))).1 k) ?_
    show own_Ends p.tables e below s _ _ _ (T222.setTop (mkF m 70 #[.val (.int x0_0), .val (.int x1_0), .val (.int (3 : Int32)), .val (.int ii), .val (.ref b1), .val (.ref b8), .unset, .unset, .unset, .unset, .unset, .unset, .unset, .unset, .unset] []))
    refine own_step (fun t k => XS.aload X222.here hx rfl (hb hby at_70) rfl rfl k) ?_
    show own_Ends p.tables e below s _ _ _ (T222.setTop (mkF m 72 #[.val (.int x0_0), .val (.int x1_0), .val (.int (3 : Int32)), .val (.int ii), .val (.ref b1), .val (.ref b8), .unset, .unset, .unset, .unset, .unset, .unset, .unset, .unset, .unset] [(.ref b8)]))
    refine own_step (fun t k => XS.iconst X222.here hx rfl (hb hby at_72) k) ?_
    show own_Ends p.tables e below s _ _ _ (T222.setTop (mkF m 73 #[.val (.int x0_0), .val (.int x1_0), .val (.int (3 : Int32)), .val (.int ii), .val (.ref b1), .val (.ref b8), .unset, .unset, .unset, .unset, .unset, .unset, .unset, .unset, .unset] [(.int (3 : Int32)), (.ref b8)]))
    refine own_step (fun t k => XS.aload X222.here hx rfl (hb hby at_73) rfl rfl k) ?_
    show own_Ends p.tables e below s _ _ _ (T222.setTop (mkF m 75 #[.val (.int x0_0), .val (.int x1_0), .val (.int (3 : Int32)), .val (.int ii), .val (.ref b1), .val (.ref b8), .unset, .unset, .unset, .unset, .unset, .unset, .unset, .unset, .unset] [(.ref b1), (.int (3 : Int32)), (.ref b8)]))
    have F225 : Fld Z h222 b1 "com/example/serigraph/serigraph/view/OrderList" "back" "Lcom/example/serigraph/serigraph/view/OrderList$Place;" (.ref b16_4) := ((F205.keep K216q (ninS ne_b1_b5_3_31 (ninS ne_b1_b16_4 nin0))).other W222 (Or.inl ne_b1_b8))
    have F226 : Fld Z h222 b16_4 "com/example/serigraph/serigraph/view/OrderList$Place" "previous" "Lcom/example/serigraph/serigraph/view/OrderList$Place;" (.ref b5_3_216) := (p216_7.other W222 (Or.inl ne_b16_4_b8))
    have F227 : Fld Z h222 b5_3_216 "com/example/serigraph/serigraph/view/OrderList$Place" "previous" "Lcom/example/serigraph/serigraph/view/OrderList$Place;" (.ref b5_3_31) := (p216_12.other W222 (Or.inl (Ne.symm ne_b8_b5_3_216)))
    have F228 : Fld Z h222 b5_3_216 "com/example/serigraph/serigraph/view/OrderList$Place" "next" "Lcom/example/serigraph/serigraph/view/OrderList$Place;" (.ref b16_4) := (p216_11.other W222 (Or.inl (Ne.symm ne_b8_b5_3_216)))
    have F229 : Fld Z h222 b16_4 "com/example/serigraph/serigraph/view/OrderList$Place" "label" "J" (.long (4611686018427387904 : Int64)) := (p216_5.other W222 (Or.inl ne_b16_4_b8))
    have F230 : Fld Z h222 b5_3_216 "com/example/serigraph/serigraph/view/OrderList$Place" "label" "J" (.long (8589934592 : Int64)) := (p216_10c.other W222 (Or.inl (Ne.symm ne_b8_b5_3_216)))
    have F231 : Exa Z h222 b16_4 "com/example/serigraph/serigraph/view/OrderList$Place" := (p216_6.wr W222)
    have F232 : Exa Z h222 b5_3_216 "com/example/serigraph/serigraph/view/OrderList$Place" := (p216_9.wr W222)
    have F233 : Fld Z h222 b16_4 "com/example/serigraph/serigraph/view/OrderList$Place" "next" "Lcom/example/serigraph/serigraph/view/OrderList$Place;" .null := (p216_8.other W222 (Or.inl ne_b16_4_b8))
    have F234 : Exa Z h222 b1 "com/example/serigraph/serigraph/view/OrderList" := ((F214.keep K216q).wr W222)
    have O235 : Old Z n0 h222 := ((O215.keep K216q (allS g_b5_3_31 (allS g_b16_4 all0))).wr W222 g_b8)
    obtain ⟨cq236, kq236, q236a, q236b, q236c⟩ := isOf hZ e222 F234
    obtain ⟨_, _, ⟨T236, L236, k236, n236⟩, -, X236, ⟨Lc236, hQ236, l236, y236, z236⟩, st236⟩ := X222.virtualBack hx (y := (⟨"com/example/serigraph/serigraph/view/OrderList", "append", "()Lcom/example/serigraph/serigraph/view/OrderList$Place;"⟩ : MethodName)) (z := (⟨"com/example/serigraph/serigraph/view/OrderList", "append", "()Lcom/example/serigraph/serigraph/view/OrderList$Place;"⟩ : MethodName)) hown (mvT hZ (hw _ (List.mem_of_getElem? (i := 36) rfl))) (mvT hZ (hw _ (List.mem_of_getElem? (i := 37) rfl))) (notFace_of_selects (args := #[]) (mvT hZ (hw _ (List.mem_of_getElem? (i := 39) rfl)))) (mvT hZ (hw _ (List.mem_of_getElem? (i := 39) rfl))) (mvT hZ (hw _ (List.mem_of_getElem? (i := 38) rfl))) (by decide) (backOf (W := 2) (rm5 l Z a0 hw [] b1 b16_4 b5_3_216 (.ref b5_3_31) b16_4 (4611686018427387904 : Int64) (8589934592 : Int64) (.ref b5_3_216) .null h222 n0 O235 F225 F226 F227 F228 F229 F230 F231 F226 g_b16_4 F232 (Ne.symm ne_b16_4_b5_3_216) g_b5_3_216 (by decide +kernel) F233 F234) hZ (hw _ (List.mem_of_getElem? (i := 40) rfl)) (hw _ (List.mem_of_getElem? (i := 3) rfl)) (by decide) (by decide)) q236a q236c (g := (mkF m 75 #[.val (.int x0_0), .val (.int x1_0), .val (.int (3 : Int32)), .val (.int ii), .val (.ref b1), .val (.ref b8), .unset, .unset, .unset, .unset, .unset, .unset, .unset, .unset, .unset] [(.ref b1), (.int (3 : Int32)), (.ref b8)])) rfl (by rw [hml]; rfl) (Steps.refl _) (argsL := []) (rest := [(.int (3 : Int32)), (.ref b8)]) (lenOf pd_3 rfl) rfl (by show 2 * 0 + _ ≤ _; exact Nat.le_of_eq rfl) (hb hby at_75) (fun _ _ => ⟨rfl, e222, (by decide : 6 + 1 ≤ _), (by decide : 19 + 3 ≤ _)⟩)
    dsimp only [Pt.U, Pt.locs, Pt.cells, Pt.slots] at X236 l236 y236 z236 st236 hQ236
    subst y236 z236
    have F237 : Exa Z h222 b2_4 "com/example/serigraph/serigraph/view/OrderList$Place" := ((F217.keep K216q).wr W222)
    have F238 : Exa Z h222 b5_3_31 "com/example/serigraph/serigraph/view/OrderList$Place" := (p216_4.wr W222)
    obtain ⟨b5_3_236, rfl, N236q, K236q, p236_0, p236_1, p236_2, p236_3, p236_4, p236_5, p236_6, p236_7, p236_8, p236_9, p236_10, p236_11, p236_12⟩ := hQ236
    refine own_step (fun t k => st236.trans k) ?_
    have N239 : Fr n0 L236 := by rw [l236]; exact Fr.app N224 N236q
    have sz_b5_3_236 : h0.size ≤ b5_3_236 := Nat.le_trans K223.1 p236_0
    have g_b5_3_236 : n0 ≤ b5_3_236 := Nat.le_trans (Nat.le_trans (Nat.le_of_eq O235.1.symm) O235.2.1) p236_0
    have ne_b1_b5_3_236 : b1 ≠ b5_3_236 := Nat.ne_of_lt (Nat.lt_of_lt_of_le F234.lt p236_0)
    have ne_b2_4_b5_3_236 : b2_4 ≠ b5_3_236 := Nat.ne_of_lt (Nat.lt_of_lt_of_le F237.lt p236_0)
    have ne_b16_4_b5_3_236 : b16_4 ≠ b5_3_236 := Nat.ne_of_lt (Nat.lt_of_lt_of_le F231.lt p236_0)
    have ne_b8_b5_3_236 : b8 ≠ b5_3_236 := Nat.ne_of_lt (Nat.lt_of_lt_of_le V222.lt p236_0)
    have ne_b5_3_31_b5_3_236 : b5_3_31 ≠ b5_3_236 := Nat.ne_of_lt (Nat.lt_of_lt_of_le F238.lt p236_0)
    have ne_b5_3_216_b5_3_236 : b5_3_216 ≠ b5_3_236 := Nat.ne_of_lt (Nat.lt_of_lt_of_le F232.lt p236_0)
    have K240 : Keep h0 T236.heap [] := K223.trans K236q (allS (Or.inr sz_b5_3_216) (allS (Or.inr sz_b16_4) all0))
    have p236_10c : Fld Z T236.heap b5_3_236 "com/example/serigraph/serigraph/view/OrderList$Place" "label" "J" (.long (12884901888 : Int64)) := Eq.mp (congrArg (fun z => Fld Z T236.heap b5_3_236 "com/example/serigraph/serigraph/view/OrderList$Place" "label" "J" (.long z)) (show ((8589934592 : Int64) + (own_r7 (((4611686018427387904 : Int64) - (8589934592 : Int64)) / (2 : Int64)) (4294967296 : Int64))) = (12884901888 : Int64) from by decide +kernel)) p236_10
    show own_Ends p.tables e below s _ _ _ (T236.setTop (mkF m 78 #[.val (.int x0_0), .val (.int x1_0), .val (.int (3 : Int32)), .val (.int ii), .val (.ref b1), .val (.ref b8), .unset, .unset, .unset, .unset, .unset, .unset, .unset, .unset, .unset] [(.ref b5_3_236), (.int (3 : Int32)), (.ref b8)]))
    have F241 : Arv Z T236.heap b8 k8 (.object "com/example/serigraph/serigraph/view/OrderList$Place") (5 : Int32) [(.ref b2_4), (.ref b5_3_31), (.ref b5_3_216), .null, .null] .null := (V222.keep K236q (ninS ne_b8_b5_3_216 (ninS (Ne.symm ne_b16_4_b8) nin0)))
    obtain ⟨cl242, Ar242, q242, S242, N242, H242, G242⟩ := id F241
    have hin242 : ¬ ((3 : Int32) < 0 ∨ cl242.slots.size ≤ ((3 : Int32)).toNatClampNeg) := inb_of S242 ⟨by decide, by decide⟩
    obtain ⟨T243, h243, X243, e243, W243, st243⟩ := stR X236 hx hZ rfl Ar242 (j := (3 : Int32)) hin242 rfl (Sto.ofV Ar242 q242 O8 (Ins.self p236_9)) (g := (mkF m 78 #[.val (.int x0_0), .val (.int x1_0), .val (.int (3 : Int32)), .val (.int ii), .val (.ref b1), .val (.ref b8), .unset, .unset, .unset, .unset, .unset, .unset, .unset, .unset, .unset] [(.ref b5_3_236), (.int (3 : Int32)), (.ref b8)])) rfl rfl (hb hby at_78)
    refine own_step (fun t k => st243 _ k) ?_
    have V243 : Arv Z h243 b8 k8 (.object "com/example/serigraph/serigraph/view/OrderList$Place") (5 : Int32) [(.ref b2_4), (.ref b5_3_31), (.ref b5_3_216), (.ref b5_3_236), .null] .null := Arv.set Ar242 q242 S242 N242 H242 G242 rfl W243 3 rfl (Nat.le_of_ble_eq_true rfl)
    have K244 : Keep h0 h243 [] := K240.wr W243 (Or.inr sz_b8)
    have N245 := Fr.snoc X243 N239 g_b8
    show own_Ends p.tables e below s _ _ _ (T243.setTop (mkF m 79 #[.val (.int x0_0), .val (.int x1_0), .val (.int (3 : Int32)), .val (.int ii), .val (.ref b1), .val (.ref b8), .unset, .unset, .unset, .unset, .unset, .unset, .unset, .unset, .unset] []))
    refine own_step (fun t k => XS.aload X243.here hx rfl (hb hby at_79) rfl rfl k) ?_
    show own_Ends p.tables e below s _ _ _ (T243.setTop (mkF m 81 #[.val (.int x0_0), .val (.int x1_0), .val (.int (3 : Int32)), .val (.int ii), .val (.ref b1), .val (.ref b8), .unset, .unset, .unset, .unset, .unset, .unset, .unset, .unset, .unset] [(.ref b8)]))
    refine own_step (fun t k => XS.iloadN X243.here hx rfl (hb hby at_81) rfl k) ?_
    show own_Ends p.tables e below s _ _ _ (T243.setTop (mkF m 82 #[.val (.int x0_0), .val (.int x1_0), .val (.int (3 : Int32)), .val (.int ii), .val (.ref b1), .val (.ref b8), .unset, .unset, .unset, .unset, .unset, .unset, .unset, .unset, .unset] [(.int (3 : Int32)), (.ref b8)]))
    refine own_step (fun t k => XS.iconst X243.here hx rfl (hb hby at_82) k) ?_
    show own_Ends p.tables e below s _ _ _ (T243.setTop (mkF m 83 #[.val (.int x0_0), .val (.int x1_0), .val (.int (3 : Int32)), .val (.int ii), .val (.ref b1), .val (.ref b8), .unset, .unset, .unset, .unset, .unset, .unset, .unset, .unset, .unset] [(.int (1 : Int32)), (.int (3 : Int32)), (.ref b8)]))
    refine own_step (fun t k => XS.iadd X243.here hx rfl (hb hby at_83) rfl k) ?_
    show own_Ends p.tables e below s _ _ _ (T243.setTop (mkF m 84 #[.val (.int x0_0), .val (.int x1_0), .val (.int (3 : Int32)), .val (.int ii), .val (.ref b1), .val (.ref b8), .unset, .unset, .unset, .unset, .unset, .unset, .unset, .unset, .unset] [(.int (4 : Int32)), (.ref b8)]))
    refine own_step (fun t k => XS.aload X243.here hx rfl (hb hby at_84) rfl rfl k) ?_
    show own_Ends p.tables e below s _ _ _ (T243.setTop (mkF m 86 #[.val (.int x0_0), .val (.int x1_0), .val (.int (3 : Int32)), .val (.int ii), .val (.ref b1), .val (.ref b8), .unset, .unset, .unset, .unset, .unset, .unset, .unset, .unset, .unset] [(.ref b1), (.int (4 : Int32)), (.ref b8)]))
    have F246 : Fld Z h243 b1 "com/example/serigraph/serigraph/view/OrderList" "back" "Lcom/example/serigraph/serigraph/view/OrderList$Place;" (.ref b16_4) := ((F225.keep K236q (ninS ne_b1_b5_3_216 (ninS ne_b1_b16_4 nin0))).other W243 (Or.inl ne_b1_b8))
    have O247 : Old Z n0 h243 := ((O235.keep K236q (allS g_b5_3_216 (allS g_b16_4 all0))).wr W243 g_b8)
    have F249 : Exa Z h243 b1 "com/example/serigraph/serigraph/view/OrderList" := ((F234.keep K236q).wr W243)
    obtain ⟨cq248, kq248, q248a, q248b, q248c⟩ := isOf hZ e243 F249
    obtain ⟨_, _, ⟨T248, L248, k248, n248⟩, -, X248, ⟨Lc248, hQ248, l248, y248, z248⟩, st248⟩ := X243.virtualBack hx (y := (⟨"com/example/serigraph/serigraph/view/OrderList", "back", "()Lcom/example/serigraph/serigraph/view/OrderList$Place;"⟩ : MethodName)) (z := (⟨"com/example/serigraph/serigraph/view/OrderList", "back", "()Lcom/example/serigraph/serigraph/view/OrderList$Place;"⟩ : MethodName)) hown (mvT hZ (hw _ (List.mem_of_getElem? (i := 52) rfl))) (mvT hZ (hw _ (List.mem_of_getElem? (i := 53) rfl))) (notFace_of_selects (args := #[]) (mvT hZ (hw _ (List.mem_of_getElem? (i := 55) rfl)))) (mvT hZ (hw _ (List.mem_of_getElem? (i := 55) rfl))) (mvT hZ (hw _ (List.mem_of_getElem? (i := 54) rfl))) (by decide) (backOf (W := 2) (rm8 l Z a0 hw [] b1 b16_4 h243 n0 O247 F246) hZ (hw _ (List.mem_of_getElem? (i := 56) rfl)) (hw _ (List.mem_of_getElem? (i := 3) rfl)) (by decide) (by decide)) q248a q248c (g := (mkF m 86 #[.val (.int x0_0), .val (.int x1_0), .val (.int (3 : Int32)), .val (.int ii), .val (.ref b1), .val (.ref b8), .unset, .unset, .unset, .unset, .unset, .unset, .unset, .unset, .unset] [(.ref b1), (.int (4 : Int32)), (.ref b8)])) rfl (by rw [hml]; rfl) (Steps.refl _) (argsL := []) (rest := [(.int (4 : Int32)), (.ref b8)]) (lenOf pd_3 rfl) rfl (by show 2 * 0 + _ ≤ _; exact Nat.le_of_eq rfl) (hb hby at_86) (fun _ _ => ⟨rfl, e243, (by decide : 7 + 0 ≤ _), (by decide : 22 + 0 ≤ _)⟩)
    dsimp only [Pt.U, Pt.locs, Pt.cells, Pt.slots] at X248 l248 y248 z248 st248 hQ248
    subst y248 z248
    obtain ⟨rfl, N248q, e248⟩ := hQ248
    refine own_step (fun t k => st248.trans k) ?_
    have N250 : Fr n0 L248 := by rw [l248]; exact Fr.app N245 N248q
    show own_Ends p.tables e below s _ _ _ (T248.setTop (mkF m 89 #[.val (.int x0_0), .val (.int x1_0), .val (.int (3 : Int32)), .val (.int ii), .val (.ref b1), .val (.ref b8), .unset, .unset, .unset, .unset, .unset, .unset, .unset, .unset, .unset] [(.ref b16_4), (.int (4 : Int32)), (.ref b8)]))
    obtain ⟨cl251, Ar251, q251, S251, N251, H251, G251⟩ := id V243
    have hin251 : ¬ ((4 : Int32) < 0 ∨ cl251.slots.size ≤ ((4 : Int32)).toNatClampNeg) := inb_of S251 ⟨by decide, by decide⟩
    have F252 : Exa Z h243 b16_4 "com/example/serigraph/serigraph/view/OrderList$Place" := (p236_6.wr W243)
    obtain ⟨T253, h253, X253, e253, W253, st253⟩ := stR X248 hx hZ e248 Ar251 (j := (4 : Int32)) hin251 rfl (Sto.ofV Ar251 q251 O8 (Ins.self F252)) (g := (mkF m 89 #[.val (.int x0_0), .val (.int x1_0), .val (.int (3 : Int32)), .val (.int ii), .val (.ref b1), .val (.ref b8), .unset, .unset, .unset, .unset, .unset, .unset, .unset, .unset, .unset] [(.ref b16_4), (.int (4 : Int32)), (.ref b8)])) rfl rfl (hb hby at_89)
    refine own_step (fun t k => st253 _ k) ?_
    have V253 : Arv Z h253 b8 k8 (.object "com/example/serigraph/serigraph/view/OrderList$Place") (5 : Int32) [(.ref b2_4), (.ref b5_3_31), (.ref b5_3_216), (.ref b5_3_236), (.ref b16_4)] .null := Arv.set Ar251 q251 S251 N251 H251 G251 rfl W253 4 rfl (Nat.le_of_ble_eq_true rfl)
    have K254 : Keep h0 h253 [] := K244.wr W253 (Or.inr sz_b8)
    have N255 := Fr.snoc X253 N250 g_b8
    rcases (hii ▸ own_n3 x1_0 : ii = 1 ∨ ii = 2 ∨ ii = 3) with hk256 | hk256 | hk256
    · subst hk256
      show own_Ends p.tables e below s _ _ _ (T253.setTop (mkF m 90 #[.val (.int x0_0), .val (.int x1_0), .val (.int (3 : Int32)), .val (.int (1 : Int32)), .val (.ref b1), .val (.ref b8), .unset, .unset, .unset, .unset, .unset, .unset, .unset, .unset, .unset] []))
      refine own_step (fun t k => XS.aload X253.here hx rfl (hb hby at_90) rfl rfl k) ?_
      show own_Ends p.tables e below s _ _ _ (T253.setTop (mkF m 92 #[.val (.int x0_0), .val (.int x1_0), .val (.int (3 : Int32)), .val (.int (1 : Int32)), .val (.ref b1), .val (.ref b8), .unset, .unset, .unset, .unset, .unset, .unset, .unset, .unset, .unset] [(.ref b8)]))
      refine own_step (fun t k => XS.iloadN X253.here hx rfl (hb hby at_92) rfl k) ?_
      show own_Ends p.tables e below s _ _ _ (T253.setTop (mkF m 93 #[.val (.int x0_0), .val (.int x1_0), .val (.int (3 : Int32)), .val (.int (1 : Int32)), .val (.ref b1), .val (.ref b8), .unset, .unset, .unset, .unset, .unset, .unset, .unset, .unset, .unset] [(.int (1 : Int32)), (.ref b8)]))
      obtain ⟨cl257, Ar257, q257, S257, N257, H257, G257⟩ := id V253
      have hin257 : ¬ ((1 : Int32) < 0 ∨ cl257.slots.size ≤ ((1 : Int32)).toNatClampNeg) := inb_of S257 ⟨by decide, by decide⟩
      have hat257 : cl257.slots[((1 : Int32)).toNatClampNeg]? = some (.ref b5_3_31) := H257.at hin257 rfl
      refine own_step (fun t k => X253.aaload hx (j := (1 : Int32)) (v := (.ref b5_3_31)) (by rw [e253]; exact Ar257.1) (State.isArrayOf_alike hZ.alike Ar257.2.1) rfl Ar257.2.2 hin257 hat257 (g := (mkF m 93 #[.val (.int x0_0), .val (.int x1_0), .val (.int (3 : Int32)), .val (.int (1 : Int32)), .val (.ref b1), .val (.ref b8), .unset, .unset, .unset, .unset, .unset, .unset, .unset, .unset, .unset] [(.int (1 : Int32)), (.ref b8)])) rfl rfl (hb hby at_93) _ k) ?_
      show own_Ends p.tables e below s _ _ _ (T253.setTop (mkF m 94 #[.val (.int x0_0), .val (.int x1_0), .val (.int (3 : Int32)), .val (.int (1 : Int32)), .val (.ref b1), .val (.ref b8), .unset, .unset, .unset, .unset, .unset, .unset, .unset, .unset, .unset] [(.ref b5_3_31)]))
      refine own_step (fun t k => XS.astore X253.here hx rfl (hb hby at_94) rfl rfl (l' := #[.val (.int x0_0), .val (.int x1_0), .val (.int (3 : Int32)), .val (.int (1 : Int32)), .val (.ref b1), .val (.ref b8), .val (.ref b5_3_31), .unset, .unset, .unset, .unset, .unset, .unset, .unset, .unset]) rfl k) ?_
      show own_Ends p.tables e below s _ _ _ (T253.setTop (mkF m 96 #[.val (.int x0_0), .val (.int x1_0), .val (.int (3 : Int32)), .val (.int (1 : Int32)), .val (.ref b1), .val (.ref b8), .val (.ref b5_3_31), .unset, .unset, .unset, .unset, .unset, .unset, .unset, .unset] []))
      refine own_step (fun t k => XS.aload X253.here hx rfl (hb hby at_96) rfl rfl k) ?_
      show own_Ends p.tables e below s _ _ _ (T253.setTop (mkF m 98 #[.val (.int x0_0), .val (.int x1_0), .val (.int (3 : Int32)), .val (.int (1 : Int32)), .val (.ref b1), .val (.ref b8), .val (.ref b5_3_31), .unset, .unset, .unset, .unset, .unset, .unset, .unset, .unset] [(.ref b8)]))
      refine own_step (fun t k => XS.iloadN X253.here hx rfl (hb hby at_98) rfl k) ?_
      show own_Ends p.tables e below s _ _ _ (T253.setTop (mkF m 99 #[.val (.int x0_0), .val (.int x1_0), .val (.int (3 : Int32)), .val (.int (1 : Int32)), .val (.ref b1), .val (.ref b8), .val (.ref b5_3_31), .unset, .unset, .unset, .unset, .unset, .unset, .unset, .unset] [(.int (1 : Int32)), (.ref b8)]))
      refine own_step (fun t k => XS.iconst X253.here hx rfl (hb hby at_99) k) ?_
      show own_Ends p.tables e below s _ _ _ (T253.setTop (mkF m 100 #[.val (.int x0_0), .val (.int x1_0), .val (.int (3 : Int32)), .val (.int (1 : Int32)), .val (.ref b1), .val (.ref b8), .val (.ref b5_3_31), .unset, .unset, .unset, .unset, .unset, .unset, .unset, .unset] [(.int (1 : Int32)), (.int (1 : Int32)), (.ref b8)]))
      refine own_step (fun t k => XS.isub X253.here hx rfl (hb hby at_100) rfl k) ?_
      show own_Ends p.tables e below s _ _ _ (T253.setTop (mkF m 101 #[.val (.int x0_0), .val (.int x1_0), .val (.int (3 : Int32)), .val (.int (1 : Int32)), .val (.ref b1), .val (.ref b8), .val (.ref b5_3_31), .unset, .unset, .unset, .unset, .unset, .unset, .unset, .unset] [(.int (0 : Int32)), (.ref b8)]))
      obtain ⟨cl258, Ar258, q258, S258, N258, H258, G258⟩ := id V253
      have hin258 : ¬ ((0 : Int32) < 0 ∨ cl258.slots.size ≤ ((0 : Int32)).toNatClampNeg) := inb_of S258 ⟨by decide, by decide⟩
      have hat258 : cl258.slots[((0 : Int32)).toNatClampNeg]? = some (.ref b2_4) := H258.at hin258 rfl
      refine own_step (fun t k => X253.aaload hx (j := (0 : Int32)) (v := (.ref b2_4)) (by rw [e253]; exact Ar258.1) (State.isArrayOf_alike hZ.alike Ar258.2.1) rfl Ar258.2.2 hin258 hat258 (g := (mkF m 101 #[.val (.int x0_0), .val (.int x1_0), .val (.int (3 : Int32)), .val (.int (1 : Int32)), .val (.ref b1), .val (.ref b8), .val (.ref b5_3_31), .unset, .unset, .unset, .unset, .unset, .unset, .unset, .unset] [(.int (0 : Int32)), (.ref b8)])) rfl rfl (hb hby at_101) _ k) ?_
      show own_Ends p.tables e below s _ _ _ (T253.setTop (mkF m 102 #[.val (.int x0_0), .val (.int x1_0), .val (.int (3 : Int32)), .val (.int (1 : Int32)), .val (.ref b1), .val (.ref b8), .val (.ref b5_3_31), .unset, .unset, .unset, .unset, .unset, .unset, .unset, .unset] [(.ref b2_4)]))
      refine own_step (fun t k => XS.astore X253.here hx rfl (hb hby at_102) rfl rfl (l' := #[.val (.int x0_0), .val (.int x1_0), .val (.int (3 : Int32)), .val (.int (1 : Int32)), .val (.ref b1), .val (.ref b8), .val (.ref b5_3_31), .val (.ref b2_4), .unset, .unset, .unset, .unset, .unset, .unset, .unset]) rfl k) ?_
      show own_Ends p.tables e below s _ _ _ (T253.setTop (mkF m 104 #[.val (.int x0_0), .val (.int x1_0), .val (.int (3 : Int32)), .val (.int (1 : Int32)), .val (.ref b1), .val (.ref b8), .val (.ref b5_3_31), .val (.ref b2_4), .unset, .unset, .unset, .unset, .unset, .unset, .unset] []))
      refine own_step (fun t k => XS.aload X253.here hx rfl (hb hby at_104) rfl rfl k) ?_
      show own_Ends p.tables e below s _ _ _ (T253.setTop (mkF m 106 #[.val (.int x0_0), .val (.int x1_0), .val (.int (3 : Int32)), .val (.int (1 : Int32)), .val (.ref b1), .val (.ref b8), .val (.ref b5_3_31), .val (.ref b2_4), .unset, .unset, .unset, .unset, .unset, .unset, .unset] [(.ref b8)]))
      refine own_step (fun t k => XS.iloadN X253.here hx rfl (hb hby at_106) rfl k) ?_
      show own_Ends p.tables e below s _ _ _ (T253.setTop (mkF m 107 #[.val (.int x0_0), .val (.int x1_0), .val (.int (3 : Int32)), .val (.int (1 : Int32)), .val (.ref b1), .val (.ref b8), .val (.ref b5_3_31), .val (.ref b2_4), .unset, .unset, .unset, .unset, .unset, .unset, .unset] [(.int (1 : Int32)), (.ref b8)]))
      refine own_step (fun t k => XS.iconst X253.here hx rfl (hb hby at_107) k) ?_
      show own_Ends p.tables e below s _ _ _ (T253.setTop (mkF m 108 #[.val (.int x0_0), .val (.int x1_0), .val (.int (3 : Int32)), .val (.int (1 : Int32)), .val (.ref b1), .val (.ref b8), .val (.ref b5_3_31), .val (.ref b2_4), .unset, .unset, .unset, .unset, .unset, .unset, .unset] [(.int (1 : Int32)), (.int (1 : Int32)), (.ref b8)]))
      refine own_step (fun t k => XS.iadd X253.here hx rfl (hb hby at_108) rfl k) ?_
      show own_Ends p.tables e below s _ _ _ (T253.setTop (mkF m 109 #[.val (.int x0_0), .val (.int x1_0), .val (.int (3 : Int32)), .val (.int (1 : Int32)), .val (.ref b1), .val (.ref b8), .val (.ref b5_3_31), .val (.ref b2_4), .unset, .unset, .unset, .unset, .unset, .unset, .unset] [(.int (2 : Int32)), (.ref b8)]))
      obtain ⟨cl259, Ar259, q259, S259, N259, H259, G259⟩ := id V253
      have hin259 : ¬ ((2 : Int32) < 0 ∨ cl259.slots.size ≤ ((2 : Int32)).toNatClampNeg) := inb_of S259 ⟨by decide, by decide⟩
      have hat259 : cl259.slots[((2 : Int32)).toNatClampNeg]? = some (.ref b5_3_216) := H259.at hin259 rfl
      refine own_step (fun t k => X253.aaload hx (j := (2 : Int32)) (v := (.ref b5_3_216)) (by rw [e253]; exact Ar259.1) (State.isArrayOf_alike hZ.alike Ar259.2.1) rfl Ar259.2.2 hin259 hat259 (g := (mkF m 109 #[.val (.int x0_0), .val (.int x1_0), .val (.int (3 : Int32)), .val (.int (1 : Int32)), .val (.ref b1), .val (.ref b8), .val (.ref b5_3_31), .val (.ref b2_4), .unset, .unset, .unset, .unset, .unset, .unset, .unset] [(.int (2 : Int32)), (.ref b8)])) rfl rfl (hb hby at_109) _ k) ?_
      show own_Ends p.tables e below s _ _ _ (T253.setTop (mkF m 110 #[.val (.int x0_0), .val (.int x1_0), .val (.int (3 : Int32)), .val (.int (1 : Int32)), .val (.ref b1), .val (.ref b8), .val (.ref b5_3_31), .val (.ref b2_4), .unset, .unset, .unset, .unset, .unset, .unset, .unset] [(.ref b5_3_216)]))
      refine own_step (fun t k => XS.astore X253.here hx rfl (hb hby at_110) rfl rfl (l' := #[.val (.int x0_0), .val (.int x1_0), .val (.int (3 : Int32)), .val (.int (1 : Int32)), .val (.ref b1), .val (.ref b8), .val (.ref b5_3_31), .val (.ref b2_4), .val (.ref b5_3_216), .unset, .unset, .unset, .unset, .unset, .unset]) rfl k) ?_
      show own_Ends p.tables e below s _ _ _ (T253.setTop (mkF m 112 #[.val (.int x0_0), .val (.int x1_0), .val (.int (3 : Int32)), .val (.int (1 : Int32)), .val (.ref b1), .val (.ref b8), .val (.ref b5_3_31), .val (.ref b2_4), .val (.ref b5_3_216), .unset, .unset, .unset, .unset, .unset, .unset] []))
      refine own_step (fun t k => XS.aload X253.here hx rfl (hb hby at_112) rfl rfl k) ?_
      show own_Ends p.tables e below s _ _ _ (T253.setTop (mkF m 114 #[.val (.int x0_0), .val (.int x1_0), .val (.int (3 : Int32)), .val (.int (1 : Int32)), .val (.ref b1), .val (.ref b8), .val (.ref b5_3_31), .val (.ref b2_4), .val (.ref b5_3_216), .unset, .unset, .unset, .unset, .unset, .unset] [(.ref b8)]))
      refine own_step (fun t k => XS.iloadN X253.here hx rfl (hb hby at_114) rfl k) ?_
      show own_Ends p.tables e below s _ _ _ (T253.setTop (mkF m 115 #[.val (.int x0_0), .val (.int x1_0), .val (.int (3 : Int32)), .val (.int (1 : Int32)), .val (.ref b1), .val (.ref b8), .val (.ref b5_3_31), .val (.ref b2_4), .val (.ref b5_3_216), .unset, .unset, .unset, .unset, .unset, .unset] [(.int (1 : Int32)), (.ref b8)]))
      refine own_step (fun t k => XS.iconst X253.here hx rfl (hb hby at_115) k) ?_
      show own_Ends p.tables e below s _ _ _ (T253.setTop (mkF m 116 #[.val (.int x0_0), .val (.int x1_0), .val (.int (3 : Int32)), .val (.int (1 : Int32)), .val (.ref b1), .val (.ref b8), .val (.ref b5_3_31), .val (.ref b2_4), .val (.ref b5_3_216), .unset, .unset, .unset, .unset, .unset, .unset] [(.int (0 : Int32)), (.int (1 : Int32)), (.ref b8)]))
      have O260 : Old Z n0 h253 := (O247.wr W253 g_b8)
      obtain ⟨_, _, ⟨T261, L261, k261, n261⟩, -, X261, ⟨Lc261, hQ261, l261, y261, z261⟩, st261⟩ := Jvm.LawKit.callS X253 hx (y := (⟨"com/example/serigraph/serigraph/view/OrderListRemovePinLaw", "at", "([Lcom/example/serigraph/serigraph/view/OrderList$Place;II)Lcom/example/serigraph/serigraph/view/OrderList$Place;"⟩ : MethodName)) hown (mvT hZ (hw _ (List.mem_of_getElem? (i := 57) rfl))) (mvT hZ (hw _ (List.mem_of_getElem? (i := 58) rfl))) (mvT hZ (hw _ (List.mem_of_getElem? (i := 59) rfl))) (mvT hZ (hw _ (List.mem_of_getElem? (i := 60) rfl))) (by decide) (backOf (W := 0) (rm9_1_0 l Z a0 hw [] b8 k8 (5 : Int32) [(.ref b2_4), (.ref b5_3_31), (.ref b5_3_216), (.ref b5_3_236), (.ref b16_4)] .null b2_4 h253 n0 O260 V253 (by decide) rfl) hZ (hw _ (List.mem_of_getElem? (i := 60) rfl)) (hw _ (List.mem_of_getElem? (i := 59) rfl)) (by decide) (by decide)) (g := (mkF m 116 #[.val (.int x0_0), .val (.int x1_0), .val (.int (3 : Int32)), .val (.int (1 : Int32)), .val (.ref b1), .val (.ref b8), .val (.ref b5_3_31), .val (.ref b2_4), .val (.ref b5_3_216), .unset, .unset, .unset, .unset, .unset, .unset] [(.int (0 : Int32)), (.int (1 : Int32)), (.ref b8)])) rfl (by rw [hml]; rfl) (argsL := [(.ref b8), (.int (1 : Int32)), (.int (0 : Int32))]) (rest := []) (lenOf pd_4 rfl) rfl (by show 2 * 0 + _ ≤ _; exact Nat.le_of_eq rfl) (hb hby at_116) (fun _ _ => ⟨rfl, e253, (by decide : 7 + 0 ≤ _), (by decide : 22 + 0 ≤ _)⟩)
      dsimp only [Pt.U, Pt.locs, Pt.cells, Pt.slots] at X261 l261 y261 z261 st261 hQ261
      subst y261 z261
      obtain ⟨rfl, N261q, e261⟩ := hQ261
      refine own_step (fun t k => st261 _ k) ?_
      have N262 : Fr n0 L261 := by rw [l261]; exact Fr.app N255 N261q
      show own_Ends p.tables e below s _ _ _ (T261.setTop (mkF m 119 #[.val (.int x0_0), .val (.int x1_0), .val (.int (3 : Int32)), .val (.int (1 : Int32)), .val (.ref b1), .val (.ref b8), .val (.ref b5_3_31), .val (.ref b2_4), .val (.ref b5_3_216), .unset, .unset, .unset, .unset, .unset, .unset] [(.ref b2_4)]))
      refine own_step (fun t k => XS.astore X261.here hx rfl (hb hby at_119) rfl rfl (l' := #[.val (.int x0_0), .val (.int x1_0), .val (.int (3 : Int32)), .val (.int (1 : Int32)), .val (.ref b1), .val (.ref b8), .val (.ref b5_3_31), .val (.ref b2_4), .val (.ref b5_3_216), .val (.ref b2_4), .unset, .unset, .unset, .unset, .unset]) rfl k) ?_
      show own_Ends p.tables e below s _ _ _ (T261.setTop (mkF m 121 #[.val (.int x0_0), .val (.int x1_0), .val (.int (3 : Int32)), .val (.int (1 : Int32)), .val (.ref b1), .val (.ref b8), .val (.ref b5_3_31), .val (.ref b2_4), .val (.ref b5_3_216), .val (.ref b2_4), .unset, .unset, .unset, .unset, .unset] []))
      refine own_step (fun t k => XS.aload X261.here hx rfl (hb hby at_121) rfl rfl k) ?_
      show own_Ends p.tables e below s _ _ _ (T261.setTop (mkF m 123 #[.val (.int x0_0), .val (.int x1_0), .val (.int (3 : Int32)), .val (.int (1 : Int32)), .val (.ref b1), .val (.ref b8), .val (.ref b5_3_31), .val (.ref b2_4), .val (.ref b5_3_216), .val (.ref b2_4), .unset, .unset, .unset, .unset, .unset] [(.ref b8)]))
      refine own_step (fun t k => XS.iloadN X261.here hx rfl (hb hby at_123) rfl k) ?_
      show own_Ends p.tables e below s _ _ _ (T261.setTop (mkF m 124 #[.val (.int x0_0), .val (.int x1_0), .val (.int (3 : Int32)), .val (.int (1 : Int32)), .val (.ref b1), .val (.ref b8), .val (.ref b5_3_31), .val (.ref b2_4), .val (.ref b5_3_216), .val (.ref b2_4), .unset, .unset, .unset, .unset, .unset] [(.int (1 : Int32)), (.ref b8)]))
      refine own_step (fun t k => XS.iconst X261.here hx rfl (hb hby at_124) k) ?_
      show own_Ends p.tables e below s _ _ _ (T261.setTop (mkF m 125 #[.val (.int x0_0), .val (.int x1_0), .val (.int (3 : Int32)), .val (.int (1 : Int32)), .val (.ref b1), .val (.ref b8), .val (.ref b5_3_31), .val (.ref b2_4), .val (.ref b5_3_216), .val (.ref b2_4), .unset, .unset, .unset, .unset, .unset] [(.int (1 : Int32)), (.int (1 : Int32)), (.ref b8)]))
      obtain ⟨_, _, ⟨T263, L263, k263, n263⟩, -, X263, ⟨Lc263, hQ263, l263, y263, z263⟩, st263⟩ := Jvm.LawKit.callS X261 hx (y := (⟨"com/example/serigraph/serigraph/view/OrderListRemovePinLaw", "at", "([Lcom/example/serigraph/serigraph/view/OrderList$Place;II)Lcom/example/serigraph/serigraph/view/OrderList$Place;"⟩ : MethodName)) hown (mvT hZ (hw _ (List.mem_of_getElem? (i := 57) rfl))) (mvT hZ (hw _ (List.mem_of_getElem? (i := 58) rfl))) (mvT hZ (hw _ (List.mem_of_getElem? (i := 59) rfl))) (mvT hZ (hw _ (List.mem_of_getElem? (i := 60) rfl))) (by decide) (backOf (W := 0) (rm9_1_1 l Z a0 hw [] b8 k8 (5 : Int32) [(.ref b2_4), (.ref b5_3_31), (.ref b5_3_216), (.ref b5_3_236), (.ref b16_4)] .null b5_3_216 h253 n0 O260 V253 (by decide) rfl) hZ (hw _ (List.mem_of_getElem? (i := 60) rfl)) (hw _ (List.mem_of_getElem? (i := 59) rfl)) (by decide) (by decide)) (g := (mkF m 125 #[.val (.int x0_0), .val (.int x1_0), .val (.int (3 : Int32)), .val (.int (1 : Int32)), .val (.ref b1), .val (.ref b8), .val (.ref b5_3_31), .val (.ref b2_4), .val (.ref b5_3_216), .val (.ref b2_4), .unset, .unset, .unset, .unset, .unset] [(.int (1 : Int32)), (.int (1 : Int32)), (.ref b8)])) rfl (by rw [hml]; rfl) (argsL := [(.ref b8), (.int (1 : Int32)), (.int (1 : Int32))]) (rest := []) (lenOf pd_4 rfl) rfl (by show 2 * 0 + _ ≤ _; exact Nat.le_of_eq rfl) (hb hby at_125) (fun _ _ => ⟨rfl, e261, (by decide : 7 + 0 ≤ _), (by decide : 22 + 0 ≤ _)⟩)
      dsimp only [Pt.U, Pt.locs, Pt.cells, Pt.slots] at X263 l263 y263 z263 st263 hQ263
      subst y263 z263
      obtain ⟨rfl, N263q, e263⟩ := hQ263
      refine own_step (fun t k => st263 _ k) ?_
      have N264 : Fr n0 L263 := by rw [l263]; exact Fr.app N262 N263q
      show own_Ends p.tables e below s _ _ _ (T263.setTop (mkF m 128 #[.val (.int x0_0), .val (.int x1_0), .val (.int (3 : Int32)), .val (.int (1 : Int32)), .val (.ref b1), .val (.ref b8), .val (.ref b5_3_31), .val (.ref b2_4), .val (.ref b5_3_216), .val (.ref b2_4), .unset, .unset, .unset, .unset, .unset] [(.ref b5_3_216)]))
      refine own_step (fun t k => XS.astore X263.here hx rfl (hb hby at_128) rfl rfl (l' := #[.val (.int x0_0), .val (.int x1_0), .val (.int (3 : Int32)), .val (.int (1 : Int32)), .val (.ref b1), .val (.ref b8), .val (.ref b5_3_31), .val (.ref b2_4), .val (.ref b5_3_216), .val (.ref b2_4), .val (.ref b5_3_216), .unset, .unset, .unset, .unset]) rfl k) ?_
      show own_Ends p.tables e below s _ _ _ (T263.setTop (mkF m 130 #[.val (.int x0_0), .val (.int x1_0), .val (.int (3 : Int32)), .val (.int (1 : Int32)), .val (.ref b1), .val (.ref b8), .val (.ref b5_3_31), .val (.ref b2_4), .val (.ref b5_3_216), .val (.ref b2_4), .val (.ref b5_3_216), .unset, .unset, .unset, .unset] []))
      refine own_step (fun t k => XS.iloadN X263.here hx rfl (hb hby at_130) rfl k) ?_
      show own_Ends p.tables e below s _ _ _ (T263.setTop (mkF m 131 #[.val (.int x0_0), .val (.int x1_0), .val (.int (3 : Int32)), .val (.int (1 : Int32)), .val (.ref b1), .val (.ref b8), .val (.ref b5_3_31), .val (.ref b2_4), .val (.ref b5_3_216), .val (.ref b2_4), .val (.ref b5_3_216), .unset, .unset, .unset, .unset] [(.int (3 : Int32))]))
      refine own_step (fun t k => XS.iconst X263.here hx rfl (hb hby at_131) k) ?_
      show own_Ends p.tables e below s _ _ _ (T263.setTop (mkF m 132 #[.val (.int x0_0), .val (.int x1_0), .val (.int (3 : Int32)), .val (.int (1 : Int32)), .val (.ref b1), .val (.ref b8), .val (.ref b5_3_31), .val (.ref b2_4), .val (.ref b5_3_216), .val (.ref b2_4), .val (.ref b5_3_216), .unset, .unset, .unset, .unset] [(.int (2 : Int32)), (.int (3 : Int32))]))
      refine own_step (fun t k => XS.icmpNo X263.here hx rfl (hb hby at_132) rfl (flt (by decide : ¬ ((3 : Int32) < (2 : Int32)))).1 k) ?_
      show own_Ends p.tables e below s _ _ _ (T263.setTop (mkF m 135 #[.val (.int x0_0), .val (.int x1_0), .val (.int (3 : Int32)), .val (.int (1 : Int32)), .val (.ref b1), .val (.ref b8), .val (.ref b5_3_31), .val (.ref b2_4), .val (.ref b5_3_216), .val (.ref b2_4), .val (.ref b5_3_216), .unset, .unset, .unset, .unset] []))
      refine own_step (fun t k => XS.aload X263.here hx rfl (hb hby at_135) rfl rfl k) ?_
      show own_Ends p.tables e below s _ _ _ (T263.setTop (mkF m 137 #[.val (.int x0_0), .val (.int x1_0), .val (.int (3 : Int32)), .val (.int (1 : Int32)), .val (.ref b1), .val (.ref b8), .val (.ref b5_3_31), .val (.ref b2_4), .val (.ref b5_3_216), .val (.ref b2_4), .val (.ref b5_3_216), .unset, .unset, .unset, .unset] [(.ref b8)]))
      refine own_step (fun t k => XS.iloadN X263.here hx rfl (hb hby at_137) rfl k) ?_
      show own_Ends p.tables e below s _ _ _ (T263.setTop (mkF m 138 #[.val (.int x0_0), .val (.int x1_0), .val (.int (3 : Int32)), .val (.int (1 : Int32)), .val (.ref b1), .val (.ref b8), .val (.ref b5_3_31), .val (.ref b2_4), .val (.ref b5_3_216), .val (.ref b2_4), .val (.ref b5_3_216), .unset, .unset, .unset, .unset] [(.int (1 : Int32)), (.ref b8)]))
      refine own_step (fun t k => XS.iconst X263.here hx rfl (hb hby at_138) k) ?_
      show own_Ends p.tables e below s _ _ _ (T263.setTop (mkF m 139 #[.val (.int x0_0), .val (.int x1_0), .val (.int (3 : Int32)), .val (.int (1 : Int32)), .val (.ref b1), .val (.ref b8), .val (.ref b5_3_31), .val (.ref b2_4), .val (.ref b5_3_216), .val (.ref b2_4), .val (.ref b5_3_216), .unset, .unset, .unset, .unset] [(.int (2 : Int32)), (.int (1 : Int32)), (.ref b8)]))
      obtain ⟨_, _, ⟨T265, L265, k265, n265⟩, -, X265, ⟨Lc265, hQ265, l265, y265, z265⟩, st265⟩ := Jvm.LawKit.callS X263 hx (y := (⟨"com/example/serigraph/serigraph/view/OrderListRemovePinLaw", "at", "([Lcom/example/serigraph/serigraph/view/OrderList$Place;II)Lcom/example/serigraph/serigraph/view/OrderList$Place;"⟩ : MethodName)) hown (mvT hZ (hw _ (List.mem_of_getElem? (i := 57) rfl))) (mvT hZ (hw _ (List.mem_of_getElem? (i := 58) rfl))) (mvT hZ (hw _ (List.mem_of_getElem? (i := 59) rfl))) (mvT hZ (hw _ (List.mem_of_getElem? (i := 60) rfl))) (by decide) (backOf (W := 0) (rm9_1_2 l Z a0 hw [] b8 k8 (5 : Int32) [(.ref b2_4), (.ref b5_3_31), (.ref b5_3_216), (.ref b5_3_236), (.ref b16_4)] .null b5_3_236 h253 n0 O260 V253 (by decide) rfl) hZ (hw _ (List.mem_of_getElem? (i := 60) rfl)) (hw _ (List.mem_of_getElem? (i := 59) rfl)) (by decide) (by decide)) (g := (mkF m 139 #[.val (.int x0_0), .val (.int x1_0), .val (.int (3 : Int32)), .val (.int (1 : Int32)), .val (.ref b1), .val (.ref b8), .val (.ref b5_3_31), .val (.ref b2_4), .val (.ref b5_3_216), .val (.ref b2_4), .val (.ref b5_3_216), .unset, .unset, .unset, .unset] [(.int (2 : Int32)), (.int (1 : Int32)), (.ref b8)])) rfl (by rw [hml]; rfl) (argsL := [(.ref b8), (.int (1 : Int32)), (.int (2 : Int32))]) (rest := []) (lenOf pd_4 rfl) rfl (by show 2 * 0 + _ ≤ _; exact Nat.le_of_eq rfl) (hb hby at_139) (fun _ _ => ⟨rfl, e263, (by decide : 7 + 0 ≤ _), (by decide : 22 + 0 ≤ _)⟩)
      dsimp only [Pt.U, Pt.locs, Pt.cells, Pt.slots] at X265 l265 y265 z265 st265 hQ265
      subst y265 z265
      obtain ⟨rfl, N265q, e265⟩ := hQ265
      refine own_step (fun t k => st265 _ k) ?_
      have N266 : Fr n0 L265 := by rw [l265]; exact Fr.app N264 N265q
      show own_Ends p.tables e below s _ _ _ (T265.setTop (mkF m 142 #[.val (.int x0_0), .val (.int x1_0), .val (.int (3 : Int32)), .val (.int (1 : Int32)), .val (.ref b1), .val (.ref b8), .val (.ref b5_3_31), .val (.ref b2_4), .val (.ref b5_3_216), .val (.ref b2_4), .val (.ref b5_3_216), .unset, .unset, .unset, .unset] [(.ref b5_3_236)]))
      refine own_step (fun t k => XS.goto X265.here hx rfl (pc0 := 142) (pc' := 146) rfl (hb hby at_142) (by decide) (by decide) k) ?_
      show own_Ends p.tables e below s _ _ _ (T265.setTop (mkF m 146 #[.val (.int x0_0), .val (.int x1_0), .val (.int (3 : Int32)), .val (.int (1 : Int32)), .val (.ref b1), .val (.ref b8), .val (.ref b5_3_31), .val (.ref b2_4), .val (.ref b5_3_216), .val (.ref b2_4), .val (.ref b5_3_216), .unset, .unset, .unset, .unset] [(.ref b5_3_236)]))
      refine own_step (fun t k => XS.astore X265.here hx rfl (hb hby at_146) rfl rfl (l' := #[.val (.int x0_0), .val (.int x1_0), .val (.int (3 : Int32)), .val (.int (1 : Int32)), .val (.ref b1), .val (.ref b8), .val (.ref b5_3_31), .val (.ref b2_4), .val (.ref b5_3_216), .val (.ref b2_4), .val (.ref b5_3_216), .val (.ref b5_3_236), .unset, .unset, .unset]) rfl k) ?_
      show own_Ends p.tables e below s _ _ _ (T265.setTop (mkF m 148 #[.val (.int x0_0), .val (.int x1_0), .val (.int (3 : Int32)), .val (.int (1 : Int32)), .val (.ref b1), .val (.ref b8), .val (.ref b5_3_31), .val (.ref b2_4), .val (.ref b5_3_216), .val (.ref b2_4), .val (.ref b5_3_216), .val (.ref b5_3_236), .unset, .unset, .unset] []))
      refine own_step (fun t k => XS.iloadN X265.here hx rfl (hb hby at_148) rfl k) ?_
      show own_Ends p.tables e below s _ _ _ (T265.setTop (mkF m 149 #[.val (.int x0_0), .val (.int x1_0), .val (.int (3 : Int32)), .val (.int (1 : Int32)), .val (.ref b1), .val (.ref b8), .val (.ref b5_3_31), .val (.ref b2_4), .val (.ref b5_3_216), .val (.ref b2_4), .val (.ref b5_3_216), .val (.ref b5_3_236), .unset, .unset, .unset] [(.int (3 : Int32))]))
      refine own_step (fun t k => XS.iconst X265.here hx rfl (hb hby at_149) k) ?_
      show own_Ends p.tables e below s _ _ _ (T265.setTop (mkF m 150 #[.val (.int x0_0), .val (.int x1_0), .val (.int (3 : Int32)), .val (.int (1 : Int32)), .val (.ref b1), .val (.ref b8), .val (.ref b5_3_31), .val (.ref b2_4), .val (.ref b5_3_216), .val (.ref b2_4), .val (.ref b5_3_216), .val (.ref b5_3_236), .unset, .unset, .unset] [(.int (3 : Int32)), (.int (3 : Int32))]))
      refine own_step (fun t k => XS.icmpNo X265.here hx rfl (hb hby at_150) rfl (flt (by decide : ¬ ((3 : Int32) < (3 : Int32)))).1 k) ?_
      show own_Ends p.tables e below s _ _ _ (T265.setTop (mkF m 153 #[.val (.int x0_0), .val (.int x1_0), .val (.int (3 : Int32)), .val (.int (1 : Int32)), .val (.ref b1), .val (.ref b8), .val (.ref b5_3_31), .val (.ref b2_4), .val (.ref b5_3_216), .val (.ref b2_4), .val (.ref b5_3_216), .val (.ref b5_3_236), .unset, .unset, .unset] []))
      refine own_step (fun t k => XS.aload X265.here hx rfl (hb hby at_153) rfl rfl k) ?_
      show own_Ends p.tables e below s _ _ _ (T265.setTop (mkF m 155 #[.val (.int x0_0), .val (.int x1_0), .val (.int (3 : Int32)), .val (.int (1 : Int32)), .val (.ref b1), .val (.ref b8), .val (.ref b5_3_31), .val (.ref b2_4), .val (.ref b5_3_216), .val (.ref b2_4), .val (.ref b5_3_216), .val (.ref b5_3_236), .unset, .unset, .unset] [(.ref b8)]))
      refine own_step (fun t k => XS.iloadN X265.here hx rfl (hb hby at_155) rfl k) ?_
      show own_Ends p.tables e below s _ _ _ (T265.setTop (mkF m 156 #[.val (.int x0_0), .val (.int x1_0), .val (.int (3 : Int32)), .val (.int (1 : Int32)), .val (.ref b1), .val (.ref b8), .val (.ref b5_3_31), .val (.ref b2_4), .val (.ref b5_3_216), .val (.ref b2_4), .val (.ref b5_3_216), .val (.ref b5_3_236), .unset, .unset, .unset] [(.int (1 : Int32)), (.ref b8)]))
      refine own_step (fun t k => XS.iconst X265.here hx rfl (hb hby at_156) k) ?_
      show own_Ends p.tables e below s _ _ _ (T265.setTop (mkF m 157 #[.val (.int x0_0), .val (.int x1_0), .val (.int (3 : Int32)), .val (.int (1 : Int32)), .val (.ref b1), .val (.ref b8), .val (.ref b5_3_31), .val (.ref b2_4), .val (.ref b5_3_216), .val (.ref b2_4), .val (.ref b5_3_216), .val (.ref b5_3_236), .unset, .unset, .unset] [(.int (3 : Int32)), (.int (1 : Int32)), (.ref b8)]))
      obtain ⟨_, _, ⟨T267, L267, k267, n267⟩, -, X267, ⟨Lc267, hQ267, l267, y267, z267⟩, st267⟩ := Jvm.LawKit.callS X265 hx (y := (⟨"com/example/serigraph/serigraph/view/OrderListRemovePinLaw", "at", "([Lcom/example/serigraph/serigraph/view/OrderList$Place;II)Lcom/example/serigraph/serigraph/view/OrderList$Place;"⟩ : MethodName)) hown (mvT hZ (hw _ (List.mem_of_getElem? (i := 57) rfl))) (mvT hZ (hw _ (List.mem_of_getElem? (i := 58) rfl))) (mvT hZ (hw _ (List.mem_of_getElem? (i := 59) rfl))) (mvT hZ (hw _ (List.mem_of_getElem? (i := 60) rfl))) (by decide) (backOf (W := 0) (rm9_1_3 l Z a0 hw [] b8 k8 (5 : Int32) [(.ref b2_4), (.ref b5_3_31), (.ref b5_3_216), (.ref b5_3_236), (.ref b16_4)] .null b16_4 h253 n0 O260 V253 (by decide) rfl) hZ (hw _ (List.mem_of_getElem? (i := 60) rfl)) (hw _ (List.mem_of_getElem? (i := 59) rfl)) (by decide) (by decide)) (g := (mkF m 157 #[.val (.int x0_0), .val (.int x1_0), .val (.int (3 : Int32)), .val (.int (1 : Int32)), .val (.ref b1), .val (.ref b8), .val (.ref b5_3_31), .val (.ref b2_4), .val (.ref b5_3_216), .val (.ref b2_4), .val (.ref b5_3_216), .val (.ref b5_3_236), .unset, .unset, .unset] [(.int (3 : Int32)), (.int (1 : Int32)), (.ref b8)])) rfl (by rw [hml]; rfl) (argsL := [(.ref b8), (.int (1 : Int32)), (.int (3 : Int32))]) (rest := []) (lenOf pd_4 rfl) rfl (by show 2 * 0 + _ ≤ _; exact Nat.le_of_eq rfl) (hb hby at_157) (fun _ _ => ⟨rfl, e265, (by decide : 7 + 0 ≤ _), (by decide : 22 + 0 ≤ _)⟩)
      dsimp only [Pt.U, Pt.locs, Pt.cells, Pt.slots] at X267 l267 y267 z267 st267 hQ267
      subst y267 z267
      obtain ⟨rfl, N267q, e267⟩ := hQ267
      refine own_step (fun t k => st267 _ k) ?_
      have N268 : Fr n0 L267 := by rw [l267]; exact Fr.app N266 N267q
      show own_Ends p.tables e below s _ _ _ (T267.setTop (mkF m 160 #[.val (.int x0_0), .val (.int x1_0), .val (.int (3 : Int32)), .val (.int (1 : Int32)), .val (.ref b1), .val (.ref b8), .val (.ref b5_3_31), .val (.ref b2_4), .val (.ref b5_3_216), .val (.ref b2_4), .val (.ref b5_3_216), .val (.ref b5_3_236), .unset, .unset, .unset] [(.ref b16_4)]))
      refine own_step (fun t k => XS.goto X267.here hx rfl (pc0 := 160) (pc' := 164) rfl (hb hby at_160) (by decide) (by decide) k) ?_
      show own_Ends p.tables e below s _ _ _ (T267.setTop (mkF m 164 #[.val (.int x0_0), .val (.int x1_0), .val (.int (3 : Int32)), .val (.int (1 : Int32)), .val (.ref b1), .val (.ref b8), .val (.ref b5_3_31), .val (.ref b2_4), .val (.ref b5_3_216), .val (.ref b2_4), .val (.ref b5_3_216), .val (.ref b5_3_236), .unset, .unset, .unset] [(.ref b16_4)]))
      refine own_step (fun t k => XS.astore X267.here hx rfl (hb hby at_164) rfl rfl (l' := #[.val (.int x0_0), .val (.int x1_0), .val (.int (3 : Int32)), .val (.int (1 : Int32)), .val (.ref b1), .val (.ref b8), .val (.ref b5_3_31), .val (.ref b2_4), .val (.ref b5_3_216), .val (.ref b2_4), .val (.ref b5_3_216), .val (.ref b5_3_236), .val (.ref b16_4), .unset, .unset]) rfl k) ?_
      show own_Ends p.tables e below s _ _ _ (T267.setTop (mkF m 166 #[.val (.int x0_0), .val (.int x1_0), .val (.int (3 : Int32)), .val (.int (1 : Int32)), .val (.ref b1), .val (.ref b8), .val (.ref b5_3_31), .val (.ref b2_4), .val (.ref b5_3_216), .val (.ref b2_4), .val (.ref b5_3_216), .val (.ref b5_3_236), .val (.ref b16_4), .unset, .unset] []))
      refine own_step (fun t k => XS.aload X267.here hx rfl (hb hby at_166) rfl rfl k) ?_
      show own_Ends p.tables e below s _ _ _ (T267.setTop (mkF m 168 #[.val (.int x0_0), .val (.int x1_0), .val (.int (3 : Int32)), .val (.int (1 : Int32)), .val (.ref b1), .val (.ref b8), .val (.ref b5_3_31), .val (.ref b2_4), .val (.ref b5_3_216), .val (.ref b2_4), .val (.ref b5_3_216), .val (.ref b5_3_236), .val (.ref b16_4), .unset, .unset] [(.ref b1)]))
      refine own_step (fun t k => XS.aload X267.here hx rfl (hb hby at_168) rfl rfl k) ?_
      show own_Ends p.tables e below s _ _ _ (T267.setTop (mkF m 170 #[.val (.int x0_0), .val (.int x1_0), .val (.int (3 : Int32)), .val (.int (1 : Int32)), .val (.ref b1), .val (.ref b8), .val (.ref b5_3_31), .val (.ref b2_4), .val (.ref b5_3_216), .val (.ref b2_4), .val (.ref b5_3_216), .val (.ref b5_3_236), .val (.ref b16_4), .unset, .unset] [(.ref b5_3_31), (.ref b1)]))
      have F269 : Fld Z h243 b5_3_31 "com/example/serigraph/serigraph/view/OrderList$Place" "previous" "Lcom/example/serigraph/serigraph/view/OrderList$Place;" (.ref b2_4) := (((p216_1.other W222 (Or.inl (Ne.symm ne_b8_b5_3_31))).keep K236q (ninS ne_b5_3_31_b5_3_216 (ninS (Ne.symm ne_b16_4_b5_3_31) nin0))).other W243 (Or.inl (Ne.symm ne_b8_b5_3_31)))
      have F270 : Fld Z h253 b5_3_31 "com/example/serigraph/serigraph/view/OrderList$Place" "previous" "Lcom/example/serigraph/serigraph/view/OrderList$Place;" (.ref b2_4) := (F269.other W253 (Or.inl (Ne.symm ne_b8_b5_3_31)))
      have F271 : Fld Z h243 b5_3_31 "com/example/serigraph/serigraph/view/OrderList$Place" "next" "Lcom/example/serigraph/serigraph/view/OrderList$Place;" (.ref b5_3_216) := (((p216_2.other W222 (Or.inl (Ne.symm ne_b8_b5_3_31))).keep K236q (ninS ne_b5_3_31_b5_3_216 (ninS (Ne.symm ne_b16_4_b5_3_31) nin0))).other W243 (Or.inl (Ne.symm ne_b8_b5_3_31)))
      have F272 : Fld Z h253 b5_3_31 "com/example/serigraph/serigraph/view/OrderList$Place" "next" "Lcom/example/serigraph/serigraph/view/OrderList$Place;" (.ref b5_3_216) := (F271.other W253 (Or.inl (Ne.symm ne_b8_b5_3_31)))
      have F273 : Exa Z h253 b2_4 "com/example/serigraph/serigraph/view/OrderList$Place" := (((F237.keep K236q).wr W243).wr W253)
      have F274 : Fld Z h222 b2_4 "com/example/serigraph/serigraph/view/OrderList$Place" "next" "Lcom/example/serigraph/serigraph/view/OrderList$Place;" (.ref b5_3_31) := (((p31_2.other W36 (Or.inl ne_b2_4_b8)).keep K216q (ninS ne_b2_4_b5_3_31 (ninS p4_13 nin0))).other W222 (Or.inl ne_b2_4_b8))
      have F275 : Fld Z h253 b2_4 "com/example/serigraph/serigraph/view/OrderList$Place" "next" "Lcom/example/serigraph/serigraph/view/OrderList$Place;" (.ref b5_3_31) := (((F274.keep K236q (ninS ne_b2_4_b5_3_216 (ninS p4_13 nin0))).other W243 (Or.inl ne_b2_4_b8)).other W253 (Or.inl ne_b2_4_b8))
      have F276 : Exa Z h253 b5_3_216 "com/example/serigraph/serigraph/view/OrderList$Place" := ((p236_4.wr W243).wr W253)
      have F277 : Fld Z h253 b5_3_216 "com/example/serigraph/serigraph/view/OrderList$Place" "previous" "Lcom/example/serigraph/serigraph/view/OrderList$Place;" (.ref b5_3_31) := ((p236_1.other W243 (Or.inl (Ne.symm ne_b8_b5_3_216))).other W253 (Or.inl (Ne.symm ne_b8_b5_3_216)))
      have F278 : Fld Z h222 b2_4 "com/example/serigraph/serigraph/view/OrderList$Place" "label" "J" (.long (0 : Int64)) := (((p31_3.other W36 (Or.inl ne_b2_4_b8)).keep K216q (ninS ne_b2_4_b5_3_31 (ninS p4_13 nin0))).other W222 (Or.inl ne_b2_4_b8))
      have F279 : Fld Z h253 b2_4 "com/example/serigraph/serigraph/view/OrderList$Place" "label" "J" (.long (0 : Int64)) := (((F278.keep K236q (ninS ne_b2_4_b5_3_216 (ninS p4_13 nin0))).other W243 (Or.inl ne_b2_4_b8)).other W253 (Or.inl ne_b2_4_b8))
      have F280 : Fld Z h222 b2_4 "com/example/serigraph/serigraph/view/OrderList$Place" "previous" "Lcom/example/serigraph/serigraph/view/OrderList$Place;" .null := (((p31_1.other W36 (Or.inl ne_b2_4_b8)).keep K216q (ninS ne_b2_4_b5_3_31 (ninS p4_13 nin0))).other W222 (Or.inl ne_b2_4_b8))
      have F281 : Fld Z h253 b2_4 "com/example/serigraph/serigraph/view/OrderList$Place" "previous" "Lcom/example/serigraph/serigraph/view/OrderList$Place;" .null := (((F280.keep K236q (ninS ne_b2_4_b5_3_216 (ninS p4_13 nin0))).other W243 (Or.inl ne_b2_4_b8)).other W253 (Or.inl ne_b2_4_b8))
      have F282 : Fld Z h253 b5_3_216 "com/example/serigraph/serigraph/view/OrderList$Place" "label" "J" (.long (8589934592 : Int64)) := ((p236_3.other W243 (Or.inl (Ne.symm ne_b8_b5_3_216))).other W253 (Or.inl (Ne.symm ne_b8_b5_3_216)))
      have F283 : Fld Z h253 b5_3_216 "com/example/serigraph/serigraph/view/OrderList$Place" "next" "Lcom/example/serigraph/serigraph/view/OrderList$Place;" (.ref b5_3_236) := ((p236_2.other W243 (Or.inl (Ne.symm ne_b8_b5_3_216))).other W253 (Or.inl (Ne.symm ne_b8_b5_3_216)))
      have F285 : Exa Z h253 b1 "com/example/serigraph/serigraph/view/OrderList" := (F249.wr W253)
      obtain ⟨cq284, kq284, q284a, q284b, q284c⟩ := isOf hZ e267 F285
      obtain ⟨_, _, ⟨T284, L284, k284, n284⟩, -, X284, ⟨Lc284, hQ284, l284, y284, z284⟩, st284⟩ := X267.virtualBack hx (y := (⟨"com/example/serigraph/serigraph/view/OrderList", "remove", "(Lcom/example/serigraph/serigraph/view/OrderList$Place;)V"⟩ : MethodName)) (z := (⟨"com/example/serigraph/serigraph/view/OrderList", "remove", "(Lcom/example/serigraph/serigraph/view/OrderList$Place;)V"⟩ : MethodName)) hown (mvT hZ (hw _ (List.mem_of_getElem? (i := 61) rfl))) (mvT hZ (hw _ (List.mem_of_getElem? (i := 62) rfl))) (notFace_of_selects (args := #[]) (mvT hZ (hw _ (List.mem_of_getElem? (i := 64) rfl)))) (mvT hZ (hw _ (List.mem_of_getElem? (i := 64) rfl))) (mvT hZ (hw _ (List.mem_of_getElem? (i := 63) rfl))) (by decide) (backOf (W := 0) (rm10 l Z a0 hw [] b1 b5_3_31 (.long (0 : Int64)) .null (.long (8589934592 : Int64)) (.ref b5_3_236) b2_4 b5_3_216 (.ref b5_3_31) (.ref b5_3_31) h253 n0 O260 F279 F281 F282 F283 F270 F272 F273 F275 g_b2_4 (Ne.symm ne_b2_4_b5_3_31) F276 F277 (Ne.symm ne_b2_4_b5_3_216) g_b5_3_216) hZ (hw _ (List.mem_of_getElem? (i := 65) rfl)) (hw _ (List.mem_of_getElem? (i := 3) rfl)) (by decide) (by decide)) q284a q284c (g := (mkF m 170 #[.val (.int x0_0), .val (.int x1_0), .val (.int (3 : Int32)), .val (.int (1 : Int32)), .val (.ref b1), .val (.ref b8), .val (.ref b5_3_31), .val (.ref b2_4), .val (.ref b5_3_216), .val (.ref b2_4), .val (.ref b5_3_216), .val (.ref b5_3_236), .val (.ref b16_4), .unset, .unset] [(.ref b5_3_31), (.ref b1)])) rfl (by rw [hml]; rfl) (Steps.refl _) (argsL := [(.ref b5_3_31)]) (rest := []) (lenOf pd_5 rfl) rfl (by show 2 * 0 + _ ≤ _; exact Nat.le_of_eq rfl) (hb hby at_170) (fun _ _ => ⟨rfl, e267, (by decide : 7 + 0 ≤ _), (by decide : 22 + 0 ≤ _)⟩)
      dsimp only [Pt.U, Pt.locs, Pt.cells, Pt.slots] at X284 l284 y284 z284 st284 hQ284
      subst y284 z284
      obtain ⟨rfl, N284q, K284q, p284_0, p284_1, p284_2, p284_3, p284_4, p284_5, p284_6, p284_7⟩ := hQ284
      refine own_step (fun t k => st284.trans k) ?_
      have N286 : Fr n0 L284 := by rw [l284]; exact Fr.app N268 N284q
      have K287 : Keep h0 T284.heap [] := K254.trans K284q (allS (Or.inr sz_b2_4) (allS (Or.inr sz_b5_3_216) all0))
      show own_Ends p.tables e below s _ _ _ (T284.setTop (mkF m 173 #[.val (.int x0_0), .val (.int x1_0), .val (.int (3 : Int32)), .val (.int (1 : Int32)), .val (.ref b1), .val (.ref b8), .val (.ref b5_3_31), .val (.ref b2_4), .val (.ref b5_3_216), .val (.ref b2_4), .val (.ref b5_3_216), .val (.ref b5_3_236), .val (.ref b16_4), .unset, .unset] []))
      refine own_step (fun t k => XS.aload X284.here hx rfl (hb hby at_173) rfl rfl k) ?_
      show own_Ends p.tables e below s _ _ _ (T284.setTop (mkF m 175 #[.val (.int x0_0), .val (.int x1_0), .val (.int (3 : Int32)), .val (.int (1 : Int32)), .val (.ref b1), .val (.ref b8), .val (.ref b5_3_31), .val (.ref b2_4), .val (.ref b5_3_216), .val (.ref b2_4), .val (.ref b5_3_216), .val (.ref b5_3_236), .val (.ref b16_4), .unset, .unset] [(.ref b5_3_216)]))
      have O288 : Old Z n0 T284.heap := (O260.keep K284q (allS g_b2_4 (allS g_b5_3_216 all0)))
      obtain ⟨cq289, kq289, q289a, q289b, q289c⟩ := isOf hZ rfl p284_6
      obtain ⟨_, _, ⟨T289, L289, k289, n289⟩, -, X289, ⟨Lc289, hQ289, l289, y289, z289⟩, st289⟩ := X284.virtualBack hx (y := (⟨"com/example/serigraph/serigraph/view/OrderList$Place", "previous", "()Lcom/example/serigraph/serigraph/view/OrderList$Place;"⟩ : MethodName)) (z := (⟨"com/example/serigraph/serigraph/view/OrderList$Place", "previous", "()Lcom/example/serigraph/serigraph/view/OrderList$Place;"⟩ : MethodName)) hown (mvT hZ (hw _ (List.mem_of_getElem? (i := 66) rfl))) (mvT hZ (hw _ (List.mem_of_getElem? (i := 67) rfl))) (notFace_of_selects (args := #[]) (mvT hZ (hw _ (List.mem_of_getElem? (i := 69) rfl)))) (mvT hZ (hw _ (List.mem_of_getElem? (i := 69) rfl))) (mvT hZ (hw _ (List.mem_of_getElem? (i := 68) rfl))) (by decide) (backOf (W := 0) (rm11 l Z a0 hw [] b5_3_216 b2_4 T284.heap n0 O288 p284_7) hZ (hw _ (List.mem_of_getElem? (i := 70) rfl)) (hw _ (List.mem_of_getElem? (i := 12) rfl)) (by decide) (by decide)) q289a q289c (g := (mkF m 175 #[.val (.int x0_0), .val (.int x1_0), .val (.int (3 : Int32)), .val (.int (1 : Int32)), .val (.ref b1), .val (.ref b8), .val (.ref b5_3_31), .val (.ref b2_4), .val (.ref b5_3_216), .val (.ref b2_4), .val (.ref b5_3_216), .val (.ref b5_3_236), .val (.ref b16_4), .unset, .unset] [(.ref b5_3_216)])) rfl (by rw [hml]; rfl) (Steps.refl _) (argsL := []) (rest := []) (lenOf pd_3 rfl) rfl (by show 2 * 0 + _ ≤ _; exact Nat.le_of_eq rfl) (hb hby at_175) (fun _ _ => ⟨rfl, rfl, (by decide : 7 + 0 ≤ _), (by decide : 22 + 0 ≤ _)⟩)
      dsimp only [Pt.U, Pt.locs, Pt.cells, Pt.slots] at X289 l289 y289 z289 st289 hQ289
      subst y289 z289
      obtain ⟨rfl, N289q, e289⟩ := hQ289
      refine own_step (fun t k => st289.trans k) ?_
      have N290 : Fr n0 L289 := by rw [l289]; exact Fr.app N286 N289q
      show own_Ends p.tables e below s _ _ _ (T289.setTop (mkF m 178 #[.val (.int x0_0), .val (.int x1_0), .val (.int (3 : Int32)), .val (.int (1 : Int32)), .val (.ref b1), .val (.ref b8), .val (.ref b5_3_31), .val (.ref b2_4), .val (.ref b5_3_216), .val (.ref b2_4), .val (.ref b5_3_216), .val (.ref b5_3_236), .val (.ref b16_4), .unset, .unset] [(.ref b2_4)]))
      refine own_step (fun t k => XS.aload X289.here hx rfl (hb hby at_178) rfl rfl k) ?_
      show own_Ends p.tables e below s _ _ _ (T289.setTop (mkF m 180 #[.val (.int x0_0), .val (.int x1_0), .val (.int (3 : Int32)), .val (.int (1 : Int32)), .val (.ref b1), .val (.ref b8), .val (.ref b5_3_31), .val (.ref b2_4), .val (.ref b5_3_216), .val (.ref b2_4), .val (.ref b5_3_216), .val (.ref b5_3_236), .val (.ref b16_4), .unset, .unset] [(.ref b2_4), (.ref b2_4)]))
      refine own_step (fun t k => Jvm.RoadKit.acmp (g := (mkF m 180 #[.val (.int x0_0), .val (.int x1_0), .val (.int (3 : Int32)), .val (.int (1 : Int32)), .val (.ref b1), .val (.ref b8), .val (.ref b5_3_31), .val (.ref b2_4), .val (.ref b5_3_216), .val (.ref b2_4), .val (.ref b5_3_216), .val (.ref b5_3_236), .val (.ref b16_4), .unset, .unset] [(.ref b2_4), (.ref b2_4)])) X289 hx rfl rfl rfl (pc0 := 180) (pc' := 183) (same := true) rfl (hb hby at_180) rfl (decide_eq_true rfl) (by decide) (by decide) k) ?_
      show own_Ends p.tables e below s _ _ _ (T289.setTop (mkF m 183 #[.val (.int x0_0), .val (.int x1_0), .val (.int (3 : Int32)), .val (.int (1 : Int32)), .val (.ref b1), .val (.ref b8), .val (.ref b5_3_31), .val (.ref b2_4), .val (.ref b5_3_216), .val (.ref b2_4), .val (.ref b5_3_216), .val (.ref b5_3_236), .val (.ref b16_4), .unset, .unset] []))
      refine own_step (fun t k => XS.iconst X289.here hx rfl (hb hby at_183) k) ?_
      show own_Ends p.tables e below s _ _ _ (T289.setTop (mkF m 184 #[.val (.int x0_0), .val (.int x1_0), .val (.int (3 : Int32)), .val (.int (1 : Int32)), .val (.ref b1), .val (.ref b8), .val (.ref b5_3_31), .val (.ref b2_4), .val (.ref b5_3_216), .val (.ref b2_4), .val (.ref b5_3_216), .val (.ref b5_3_236), .val (.ref b16_4), .unset, .unset] [(.int (1 : Int32))]))
      refine own_step (fun t k => XS.goto X289.here hx rfl (pc0 := 184) (pc' := 188) rfl (hb hby at_184) (by decide) (by decide) k) ?_
      show own_Ends p.tables e below s _ _ _ (T289.setTop (mkF m 188 #[.val (.int x0_0), .val (.int x1_0), .val (.int (3 : Int32)), .val (.int (1 : Int32)), .val (.ref b1), .val (.ref b8), .val (.ref b5_3_31), .val (.ref b2_4), .val (.ref b5_3_216), .val (.ref b2_4), .val (.ref b5_3_216), .val (.ref b5_3_236), .val (.ref b16_4), .unset, .unset] [(.int (1 : Int32))]))
      refine own_step (fun t k => XS.istore X289.here hx rfl (hb hby at_188) rfl (l' := #[.val (.int x0_0), .val (.int x1_0), .val (.int (3 : Int32)), .val (.int (1 : Int32)), .val (.ref b1), .val (.ref b8), .val (.ref b5_3_31), .val (.ref b2_4), .val (.ref b5_3_216), .val (.ref b2_4), .val (.ref b5_3_216), .val (.ref b5_3_236), .val (.ref b16_4), .val (.int (1 : Int32)), .unset]) rfl k) ?_
      show own_Ends p.tables e below s _ _ _ (T289.setTop (mkF m 190 #[.val (.int x0_0), .val (.int x1_0), .val (.int (3 : Int32)), .val (.int (1 : Int32)), .val (.ref b1), .val (.ref b8), .val (.ref b5_3_31), .val (.ref b2_4), .val (.ref b5_3_216), .val (.ref b2_4), .val (.ref b5_3_216), .val (.ref b5_3_236), .val (.ref b16_4), .val (.int (1 : Int32)), .unset] []))
      refine own_step (fun t k => XS.iloadN X289.here hx rfl (hb hby at_190) rfl k) ?_
      show own_Ends p.tables e below s _ _ _ (T289.setTop (mkF m 191 #[.val (.int x0_0), .val (.int x1_0), .val (.int (3 : Int32)), .val (.int (1 : Int32)), .val (.ref b1), .val (.ref b8), .val (.ref b5_3_31), .val (.ref b2_4), .val (.ref b5_3_216), .val (.ref b2_4), .val (.ref b5_3_216), .val (.ref b5_3_236), .val (.ref b16_4), .val (.int (1 : Int32)), .unset] [(.int (3 : Int32))]))
      refine own_step (fun t k => XS.iconst X289.here hx rfl (hb hby at_191) k) ?_
      show own_Ends p.tables e below s _ _ _ (T289.setTop (mkF m 192 #[.val (.int x0_0), .val (.int x1_0), .val (.int (3 : Int32)), .val (.int (1 : Int32)), .val (.ref b1), .val (.ref b8), .val (.ref b5_3_31), .val (.ref b2_4), .val (.ref b5_3_216), .val (.ref b2_4), .val (.ref b5_3_216), .val (.ref b5_3_236), .val (.ref b16_4), .val (.int (1 : Int32)), .unset] [(.int (2 : Int32)), (.int (3 : Int32))]))
      refine own_step (fun t k => XS.icmpNo X289.here hx rfl (hb hby at_192) rfl (flt (by decide : ¬ ((3 : Int32) < (2 : Int32)))).1 k) ?_
      show own_Ends p.tables e below s _ _ _ (T289.setTop (mkF m 195 #[.val (.int x0_0), .val (.int x1_0), .val (.int (3 : Int32)), .val (.int (1 : Int32)), .val (.ref b1), .val (.ref b8), .val (.ref b5_3_31), .val (.ref b2_4), .val (.ref b5_3_216), .val (.ref b2_4), .val (.ref b5_3_216), .val (.ref b5_3_236), .val (.ref b16_4), .val (.int (1 : Int32)), .unset] []))
      refine own_step (fun t k => XS.iload X289.here hx rfl (hb hby at_195) rfl k) ?_
      show own_Ends p.tables e below s _ _ _ (T289.setTop (mkF m 197 #[.val (.int x0_0), .val (.int x1_0), .val (.int (3 : Int32)), .val (.int (1 : Int32)), .val (.ref b1), .val (.ref b8), .val (.ref b5_3_31), .val (.ref b2_4), .val (.ref b5_3_216), .val (.ref b2_4), .val (.ref b5_3_216), .val (.ref b5_3_236), .val (.ref b16_4), .val (.int (1 : Int32)), .unset] [(.int (1 : Int32))]))
      refine own_step (fun t k => XS.ifNo X289.here hx rfl (hb hby at_197) rfl ((if0 _ _).trans (feq (by decide : ¬ ((1 : Int32) = (0 : Int32)))).1) k) ?_
      show own_Ends p.tables e below s _ _ _ (T289.setTop (mkF m 200 #[.val (.int x0_0), .val (.int x1_0), .val (.int (3 : Int32)), .val (.int (1 : Int32)), .val (.ref b1), .val (.ref b8), .val (.ref b5_3_31), .val (.ref b2_4), .val (.ref b5_3_216), .val (.ref b2_4), .val (.ref b5_3_216), .val (.ref b5_3_236), .val (.ref b16_4), .val (.int (1 : Int32)), .unset] []))
      refine own_step (fun t k => XS.aload X289.here hx rfl (hb hby at_200) rfl rfl k) ?_
      show own_Ends p.tables e below s _ _ _ (T289.setTop (mkF m 202 #[.val (.int x0_0), .val (.int x1_0), .val (.int (3 : Int32)), .val (.int (1 : Int32)), .val (.ref b1), .val (.ref b8), .val (.ref b5_3_31), .val (.ref b2_4), .val (.ref b5_3_216), .val (.ref b2_4), .val (.ref b5_3_216), .val (.ref b5_3_236), .val (.ref b16_4), .val (.int (1 : Int32)), .unset] [(.ref b5_3_236)]))
      have F291 : Fld Z T284.heap b5_3_236 "com/example/serigraph/serigraph/view/OrderList$Place" "previous" "Lcom/example/serigraph/serigraph/view/OrderList$Place;" (.ref b5_3_216) := (((p236_12.other W243 (Or.inl (Ne.symm ne_b8_b5_3_236))).other W253 (Or.inl (Ne.symm ne_b8_b5_3_236))).keep K284q (ninS (Ne.symm ne_b2_4_b5_3_236) (ninS (Ne.symm ne_b5_3_216_b5_3_236) nin0)))
      have F293 : Exa Z T284.heap b5_3_236 "com/example/serigraph/serigraph/view/OrderList$Place" := (((p236_9.wr W243).wr W253).keep K284q)
      obtain ⟨cq292, kq292, q292a, q292b, q292c⟩ := isOf hZ e289 F293
      obtain ⟨_, _, ⟨T292, L292, k292, n292⟩, -, X292, ⟨Lc292, hQ292, l292, y292, z292⟩, st292⟩ := X289.virtualBack hx (y := (⟨"com/example/serigraph/serigraph/view/OrderList$Place", "previous", "()Lcom/example/serigraph/serigraph/view/OrderList$Place;"⟩ : MethodName)) (z := (⟨"com/example/serigraph/serigraph/view/OrderList$Place", "previous", "()Lcom/example/serigraph/serigraph/view/OrderList$Place;"⟩ : MethodName)) hown (mvT hZ (hw _ (List.mem_of_getElem? (i := 66) rfl))) (mvT hZ (hw _ (List.mem_of_getElem? (i := 67) rfl))) (notFace_of_selects (args := #[]) (mvT hZ (hw _ (List.mem_of_getElem? (i := 69) rfl)))) (mvT hZ (hw _ (List.mem_of_getElem? (i := 69) rfl))) (mvT hZ (hw _ (List.mem_of_getElem? (i := 68) rfl))) (by decide) (backOf (W := 0) (rm11 l Z a0 hw [] b5_3_236 b5_3_216 T284.heap n0 O288 F291) hZ (hw _ (List.mem_of_getElem? (i := 70) rfl)) (hw _ (List.mem_of_getElem? (i := 12) rfl)) (by decide) (by decide)) q292a q292c (g := (mkF m 202 #[.val (.int x0_0), .val (.int x1_0), .val (.int (3 : Int32)), .val (.int (1 : Int32)), .val (.ref b1), .val (.ref b8), .val (.ref b5_3_31), .val (.ref b2_4), .val (.ref b5_3_216), .val (.ref b2_4), .val (.ref b5_3_216), .val (.ref b5_3_236), .val (.ref b16_4), .val (.int (1 : Int32)), .unset] [(.ref b5_3_236)])) rfl (by rw [hml]; rfl) (Steps.refl _) (argsL := []) (rest := []) (lenOf pd_3 rfl) rfl (by show 2 * 0 + _ ≤ _; exact Nat.le_of_eq rfl) (hb hby at_202) (fun _ _ => ⟨rfl, e289, (by decide : 7 + 0 ≤ _), (by decide : 22 + 0 ≤ _)⟩)
      dsimp only [Pt.U, Pt.locs, Pt.cells, Pt.slots] at X292 l292 y292 z292 st292 hQ292
      subst y292 z292
      obtain ⟨rfl, N292q, e292⟩ := hQ292
      refine own_step (fun t k => st292.trans k) ?_
      have N294 : Fr n0 L292 := by rw [l292]; exact Fr.app N290 N292q
      show own_Ends p.tables e below s _ _ _ (T292.setTop (mkF m 205 #[.val (.int x0_0), .val (.int x1_0), .val (.int (3 : Int32)), .val (.int (1 : Int32)), .val (.ref b1), .val (.ref b8), .val (.ref b5_3_31), .val (.ref b2_4), .val (.ref b5_3_216), .val (.ref b2_4), .val (.ref b5_3_216), .val (.ref b5_3_236), .val (.ref b16_4), .val (.int (1 : Int32)), .unset] [(.ref b5_3_216)]))
      refine own_step (fun t k => XS.aload X292.here hx rfl (hb hby at_205) rfl rfl k) ?_
      show own_Ends p.tables e below s _ _ _ (T292.setTop (mkF m 207 #[.val (.int x0_0), .val (.int x1_0), .val (.int (3 : Int32)), .val (.int (1 : Int32)), .val (.ref b1), .val (.ref b8), .val (.ref b5_3_31), .val (.ref b2_4), .val (.ref b5_3_216), .val (.ref b2_4), .val (.ref b5_3_216), .val (.ref b5_3_236), .val (.ref b16_4), .val (.int (1 : Int32)), .unset] [(.ref b5_3_216), (.ref b5_3_216)]))
      refine own_step (fun t k => Jvm.RoadKit.acmp (g := (mkF m 207 #[.val (.int x0_0), .val (.int x1_0), .val (.int (3 : Int32)), .val (.int (1 : Int32)), .val (.ref b1), .val (.ref b8), .val (.ref b5_3_31), .val (.ref b2_4), .val (.ref b5_3_216), .val (.ref b2_4), .val (.ref b5_3_216), .val (.ref b5_3_236), .val (.ref b16_4), .val (.int (1 : Int32)), .unset] [(.ref b5_3_216), (.ref b5_3_216)])) X292 hx rfl rfl rfl (pc0 := 207) (pc' := 210) (same := true) rfl (hb hby at_207) rfl (decide_eq_true rfl) (by decide) (by decide) k) ?_
      show own_Ends p.tables e below s _ _ _ (T292.setTop (mkF m 210 #[.val (.int x0_0), .val (.int x1_0), .val (.int (3 : Int32)), .val (.int (1 : Int32)), .val (.ref b1), .val (.ref b8), .val (.ref b5_3_31), .val (.ref b2_4), .val (.ref b5_3_216), .val (.ref b2_4), .val (.ref b5_3_216), .val (.ref b5_3_236), .val (.ref b16_4), .val (.int (1 : Int32)), .unset] []))
      refine own_step (fun t k => XS.iconst X292.here hx rfl (hb hby at_210) k) ?_
      show own_Ends p.tables e below s _ _ _ (T292.setTop (mkF m 211 #[.val (.int x0_0), .val (.int x1_0), .val (.int (3 : Int32)), .val (.int (1 : Int32)), .val (.ref b1), .val (.ref b8), .val (.ref b5_3_31), .val (.ref b2_4), .val (.ref b5_3_216), .val (.ref b2_4), .val (.ref b5_3_216), .val (.ref b5_3_236), .val (.ref b16_4), .val (.int (1 : Int32)), .unset] [(.int (1 : Int32))]))
      refine own_step (fun t k => XS.goto X292.here hx rfl (pc0 := 211) (pc' := 215) rfl (hb hby at_211) (by decide) (by decide) k) ?_
      show own_Ends p.tables e below s _ _ _ (T292.setTop (mkF m 215 #[.val (.int x0_0), .val (.int x1_0), .val (.int (3 : Int32)), .val (.int (1 : Int32)), .val (.ref b1), .val (.ref b8), .val (.ref b5_3_31), .val (.ref b2_4), .val (.ref b5_3_216), .val (.ref b2_4), .val (.ref b5_3_216), .val (.ref b5_3_236), .val (.ref b16_4), .val (.int (1 : Int32)), .unset] [(.int (1 : Int32))]))
      refine own_step (fun t k => XS.istore X292.here hx rfl (hb hby at_215) rfl (l' := #[.val (.int x0_0), .val (.int x1_0), .val (.int (3 : Int32)), .val (.int (1 : Int32)), .val (.ref b1), .val (.ref b8), .val (.ref b5_3_31), .val (.ref b2_4), .val (.ref b5_3_216), .val (.ref b2_4), .val (.ref b5_3_216), .val (.ref b5_3_236), .val (.ref b16_4), .val (.int (1 : Int32)), .unset]) rfl k) ?_
      show own_Ends p.tables e below s _ _ _ (T292.setTop (mkF m 217 #[.val (.int x0_0), .val (.int x1_0), .val (.int (3 : Int32)), .val (.int (1 : Int32)), .val (.ref b1), .val (.ref b8), .val (.ref b5_3_31), .val (.ref b2_4), .val (.ref b5_3_216), .val (.ref b2_4), .val (.ref b5_3_216), .val (.ref b5_3_236), .val (.ref b16_4), .val (.int (1 : Int32)), .unset] []))
      refine own_step (fun t k => XS.iloadN X292.here hx rfl (hb hby at_217) rfl k) ?_
      show own_Ends p.tables e below s _ _ _ (T292.setTop (mkF m 218 #[.val (.int x0_0), .val (.int x1_0), .val (.int (3 : Int32)), .val (.int (1 : Int32)), .val (.ref b1), .val (.ref b8), .val (.ref b5_3_31), .val (.ref b2_4), .val (.ref b5_3_216), .val (.ref b2_4), .val (.ref b5_3_216), .val (.ref b5_3_236), .val (.ref b16_4), .val (.int (1 : Int32)), .unset] [(.int (3 : Int32))]))
      refine own_step (fun t k => XS.iconst X292.here hx rfl (hb hby at_218) k) ?_
      show own_Ends p.tables e below s _ _ _ (T292.setTop (mkF m 219 #[.val (.int x0_0), .val (.int x1_0), .val (.int (3 : Int32)), .val (.int (1 : Int32)), .val (.ref b1), .val (.ref b8), .val (.ref b5_3_31), .val (.ref b2_4), .val (.ref b5_3_216), .val (.ref b2_4), .val (.ref b5_3_216), .val (.ref b5_3_236), .val (.ref b16_4), .val (.int (1 : Int32)), .unset] [(.int (3 : Int32)), (.int (3 : Int32))]))
      refine own_step (fun t k => XS.icmpNo X292.here hx rfl (hb hby at_219) rfl (flt (by decide : ¬ ((3 : Int32) < (3 : Int32)))).1 k) ?_
      show own_Ends p.tables e below s _ _ _ (T292.setTop (mkF m 222 #[.val (.int x0_0), .val (.int x1_0), .val (.int (3 : Int32)), .val (.int (1 : Int32)), .val (.ref b1), .val (.ref b8), .val (.ref b5_3_31), .val (.ref b2_4), .val (.ref b5_3_216), .val (.ref b2_4), .val (.ref b5_3_216), .val (.ref b5_3_236), .val (.ref b16_4), .val (.int (1 : Int32)), .unset] []))
      refine own_step (fun t k => XS.iload X292.here hx rfl (hb hby at_222) rfl k) ?_
      show own_Ends p.tables e below s _ _ _ (T292.setTop (mkF m 224 #[.val (.int x0_0), .val (.int x1_0), .val (.int (3 : Int32)), .val (.int (1 : Int32)), .val (.ref b1), .val (.ref b8), .val (.ref b5_3_31), .val (.ref b2_4), .val (.ref b5_3_216), .val (.ref b2_4), .val (.ref b5_3_216), .val (.ref b5_3_236), .val (.ref b16_4), .val (.int (1 : Int32)), .unset] [(.int (1 : Int32))]))
      refine own_step (fun t k => XS.ifNo X292.here hx rfl (hb hby at_224) rfl ((if0 _ _).trans (feq (by decide : ¬ ((1 : Int32) = (0 : Int32)))).1) k) ?_
      show own_Ends p.tables e below s _ _ _ (T292.setTop (mkF m 227 #[.val (.int x0_0), .val (.int x1_0), .val (.int (3 : Int32)), .val (.int (1 : Int32)), .val (.ref b1), .val (.ref b8), .val (.ref b5_3_31), .val (.ref b2_4), .val (.ref b5_3_216), .val (.ref b2_4), .val (.ref b5_3_216), .val (.ref b5_3_236), .val (.ref b16_4), .val (.int (1 : Int32)), .unset] []))
      refine own_step (fun t k => XS.aload X292.here hx rfl (hb hby at_227) rfl rfl k) ?_
      show own_Ends p.tables e below s _ _ _ (T292.setTop (mkF m 229 #[.val (.int x0_0), .val (.int x1_0), .val (.int (3 : Int32)), .val (.int (1 : Int32)), .val (.ref b1), .val (.ref b8), .val (.ref b5_3_31), .val (.ref b2_4), .val (.ref b5_3_216), .val (.ref b2_4), .val (.ref b5_3_216), .val (.ref b5_3_236), .val (.ref b16_4), .val (.int (1 : Int32)), .unset] [(.ref b16_4)]))
      have F295 : Fld Z T284.heap b16_4 "com/example/serigraph/serigraph/view/OrderList$Place" "previous" "Lcom/example/serigraph/serigraph/view/OrderList$Place;" (.ref b5_3_236) := (((p236_7.other W243 (Or.inl ne_b16_4_b8)).other W253 (Or.inl ne_b16_4_b8)).keep K284q (ninS (Ne.symm p4_13) (ninS ne_b16_4_b5_3_216 nin0)))
      have F297 : Exa Z T284.heap b16_4 "com/example/serigraph/serigraph/view/OrderList$Place" := ((F252.wr W253).keep K284q)
      obtain ⟨cq296, kq296, q296a, q296b, q296c⟩ := isOf hZ e292 F297
      obtain ⟨_, _, ⟨T296, L296, k296, n296⟩, -, X296, ⟨Lc296, hQ296, l296, y296, z296⟩, st296⟩ := X292.virtualBack hx (y := (⟨"com/example/serigraph/serigraph/view/OrderList$Place", "previous", "()Lcom/example/serigraph/serigraph/view/OrderList$Place;"⟩ : MethodName)) (z := (⟨"com/example/serigraph/serigraph/view/OrderList$Place", "previous", "()Lcom/example/serigraph/serigraph/view/OrderList$Place;"⟩ : MethodName)) hown (mvT hZ (hw _ (List.mem_of_getElem? (i := 66) rfl))) (mvT hZ (hw _ (List.mem_of_getElem? (i := 67) rfl))) (notFace_of_selects (args := #[]) (mvT hZ (hw _ (List.mem_of_getElem? (i := 69) rfl)))) (mvT hZ (hw _ (List.mem_of_getElem? (i := 69) rfl))) (mvT hZ (hw _ (List.mem_of_getElem? (i := 68) rfl))) (by decide) (backOf (W := 0) (rm11 l Z a0 hw [] b16_4 b5_3_236 T284.heap n0 O288 F295) hZ (hw _ (List.mem_of_getElem? (i := 70) rfl)) (hw _ (List.mem_of_getElem? (i := 12) rfl)) (by decide) (by decide)) q296a q296c (g := (mkF m 229 #[.val (.int x0_0), .val (.int x1_0), .val (.int (3 : Int32)), .val (.int (1 : Int32)), .val (.ref b1), .val (.ref b8), .val (.ref b5_3_31), .val (.ref b2_4), .val (.ref b5_3_216), .val (.ref b2_4), .val (.ref b5_3_216), .val (.ref b5_3_236), .val (.ref b16_4), .val (.int (1 : Int32)), .unset] [(.ref b16_4)])) rfl (by rw [hml]; rfl) (Steps.refl _) (argsL := []) (rest := []) (lenOf pd_3 rfl) rfl (by show 2 * 0 + _ ≤ _; exact Nat.le_of_eq rfl) (hb hby at_229) (fun _ _ => ⟨rfl, e292, (by decide : 7 + 0 ≤ _), (by decide : 22 + 0 ≤ _)⟩)
      dsimp only [Pt.U, Pt.locs, Pt.cells, Pt.slots] at X296 l296 y296 z296 st296 hQ296
      subst y296 z296
      obtain ⟨rfl, N296q, e296⟩ := hQ296
      refine own_step (fun t k => st296.trans k) ?_
      have N298 : Fr n0 L296 := by rw [l296]; exact Fr.app N294 N296q
      show own_Ends p.tables e below s _ _ _ (T296.setTop (mkF m 232 #[.val (.int x0_0), .val (.int x1_0), .val (.int (3 : Int32)), .val (.int (1 : Int32)), .val (.ref b1), .val (.ref b8), .val (.ref b5_3_31), .val (.ref b2_4), .val (.ref b5_3_216), .val (.ref b2_4), .val (.ref b5_3_216), .val (.ref b5_3_236), .val (.ref b16_4), .val (.int (1 : Int32)), .unset] [(.ref b5_3_236)]))
      refine own_step (fun t k => XS.aload X296.here hx rfl (hb hby at_232) rfl rfl k) ?_
      show own_Ends p.tables e below s _ _ _ (T296.setTop (mkF m 234 #[.val (.int x0_0), .val (.int x1_0), .val (.int (3 : Int32)), .val (.int (1 : Int32)), .val (.ref b1), .val (.ref b8), .val (.ref b5_3_31), .val (.ref b2_4), .val (.ref b5_3_216), .val (.ref b2_4), .val (.ref b5_3_216), .val (.ref b5_3_236), .val (.ref b16_4), .val (.int (1 : Int32)), .unset] [(.ref b5_3_236), (.ref b5_3_236)]))
      refine own_step (fun t k => Jvm.RoadKit.acmp (g := (mkF m 234 #[.val (.int x0_0), .val (.int x1_0), .val (.int (3 : Int32)), .val (.int (1 : Int32)), .val (.ref b1), .val (.ref b8), .val (.ref b5_3_31), .val (.ref b2_4), .val (.ref b5_3_216), .val (.ref b2_4), .val (.ref b5_3_216), .val (.ref b5_3_236), .val (.ref b16_4), .val (.int (1 : Int32)), .unset] [(.ref b5_3_236), (.ref b5_3_236)])) X296 hx rfl rfl rfl (pc0 := 234) (pc' := 237) (same := true) rfl (hb hby at_234) rfl (decide_eq_true rfl) (by decide) (by decide) k) ?_
      show own_Ends p.tables e below s _ _ _ (T296.setTop (mkF m 237 #[.val (.int x0_0), .val (.int x1_0), .val (.int (3 : Int32)), .val (.int (1 : Int32)), .val (.ref b1), .val (.ref b8), .val (.ref b5_3_31), .val (.ref b2_4), .val (.ref b5_3_216), .val (.ref b2_4), .val (.ref b5_3_216), .val (.ref b5_3_236), .val (.ref b16_4), .val (.int (1 : Int32)), .unset] []))
      refine own_step (fun t k => XS.iconst X296.here hx rfl (hb hby at_237) k) ?_
      show own_Ends p.tables e below s _ _ _ (T296.setTop (mkF m 238 #[.val (.int x0_0), .val (.int x1_0), .val (.int (3 : Int32)), .val (.int (1 : Int32)), .val (.ref b1), .val (.ref b8), .val (.ref b5_3_31), .val (.ref b2_4), .val (.ref b5_3_216), .val (.ref b2_4), .val (.ref b5_3_216), .val (.ref b5_3_236), .val (.ref b16_4), .val (.int (1 : Int32)), .unset] [(.int (1 : Int32))]))
      refine own_step (fun t k => XS.goto X296.here hx rfl (pc0 := 238) (pc' := 242) rfl (hb hby at_238) (by decide) (by decide) k) ?_
      show own_Ends p.tables e below s _ _ _ (T296.setTop (mkF m 242 #[.val (.int x0_0), .val (.int x1_0), .val (.int (3 : Int32)), .val (.int (1 : Int32)), .val (.ref b1), .val (.ref b8), .val (.ref b5_3_31), .val (.ref b2_4), .val (.ref b5_3_216), .val (.ref b2_4), .val (.ref b5_3_216), .val (.ref b5_3_236), .val (.ref b16_4), .val (.int (1 : Int32)), .unset] [(.int (1 : Int32))]))
      refine own_step (fun t k => XS.istore X296.here hx rfl (hb hby at_242) rfl (l' := #[.val (.int x0_0), .val (.int x1_0), .val (.int (3 : Int32)), .val (.int (1 : Int32)), .val (.ref b1), .val (.ref b8), .val (.ref b5_3_31), .val (.ref b2_4), .val (.ref b5_3_216), .val (.ref b2_4), .val (.ref b5_3_216), .val (.ref b5_3_236), .val (.ref b16_4), .val (.int (1 : Int32)), .unset]) rfl k) ?_
      show own_Ends p.tables e below s _ _ _ (T296.setTop (mkF m 244 #[.val (.int x0_0), .val (.int x1_0), .val (.int (3 : Int32)), .val (.int (1 : Int32)), .val (.ref b1), .val (.ref b8), .val (.ref b5_3_31), .val (.ref b2_4), .val (.ref b5_3_216), .val (.ref b2_4), .val (.ref b5_3_216), .val (.ref b5_3_236), .val (.ref b16_4), .val (.int (1 : Int32)), .unset] []))
      refine own_step (fun t k => XS.aload X296.here hx rfl (hb hby at_244) rfl rfl k) ?_
      show own_Ends p.tables e below s _ _ _ (T296.setTop (mkF m 246 #[.val (.int x0_0), .val (.int x1_0), .val (.int (3 : Int32)), .val (.int (1 : Int32)), .val (.ref b1), .val (.ref b8), .val (.ref b5_3_31), .val (.ref b2_4), .val (.ref b5_3_216), .val (.ref b2_4), .val (.ref b5_3_216), .val (.ref b5_3_236), .val (.ref b16_4), .val (.int (1 : Int32)), .unset] [(.ref b1)]))
      refine own_step (fun t k => XS.aload X296.here hx rfl (hb hby at_246) rfl rfl k) ?_
      show own_Ends p.tables e below s _ _ _ (T296.setTop (mkF m 248 #[.val (.int x0_0), .val (.int x1_0), .val (.int (3 : Int32)), .val (.int (1 : Int32)), .val (.ref b1), .val (.ref b8), .val (.ref b5_3_31), .val (.ref b2_4), .val (.ref b5_3_216), .val (.ref b2_4), .val (.ref b5_3_216), .val (.ref b5_3_236), .val (.ref b16_4), .val (.int (1 : Int32)), .unset] [(.ref b2_4), (.ref b1)]))
      have F300 : Exa Z T284.heap b1 "com/example/serigraph/serigraph/view/OrderList" := (F285.keep K284q)
      obtain ⟨cq299, kq299, q299a, q299b, q299c⟩ := isOf hZ e296 F300
      obtain ⟨_, _, ⟨T299, L299, k299, n299⟩, -, X299, ⟨Lc299, hQ299, l299, y299, z299⟩, st299⟩ := X296.virtualBack hx (y := (⟨"com/example/serigraph/serigraph/view/OrderList", "insertAfter", "(Lcom/example/serigraph/serigraph/view/OrderList$Place;)Lcom/example/serigraph/serigraph/view/OrderList$Place;"⟩ : MethodName)) (z := (⟨"com/example/serigraph/serigraph/view/OrderList", "insertAfter", "(Lcom/example/serigraph/serigraph/view/OrderList$Place;)Lcom/example/serigraph/serigraph/view/OrderList$Place;"⟩ : MethodName)) hown (mvT hZ (hw _ (List.mem_of_getElem? (i := 72) rfl))) (mvT hZ (hw _ (List.mem_of_getElem? (i := 42) rfl))) (notFace_of_selects (args := #[]) (mvT hZ (hw _ (List.mem_of_getElem? (i := 44) rfl)))) (mvT hZ (hw _ (List.mem_of_getElem? (i := 44) rfl))) (mvT hZ (hw _ (List.mem_of_getElem? (i := 43) rfl))) (by decide) (backOf (W := 0) (rm6 l Z a0 hw [] b1 b2_4 (.ref b5_3_236) .null b5_3_216 (8589934592 : Int64) (0 : Int64) (.ref b2_4) T284.heap n0 O288 (by decide +kernel) p284_5 p284_1 p284_3 p284_4 p284_0 p284_6 p284_7 g_b5_3_216 p284_2 ne_b2_4_b5_3_216 g_b2_4) hZ (hw _ (List.mem_of_getElem? (i := 45) rfl)) (hw _ (List.mem_of_getElem? (i := 3) rfl)) (by decide) (by decide)) q299a q299c (g := (mkF m 248 #[.val (.int x0_0), .val (.int x1_0), .val (.int (3 : Int32)), .val (.int (1 : Int32)), .val (.ref b1), .val (.ref b8), .val (.ref b5_3_31), .val (.ref b2_4), .val (.ref b5_3_216), .val (.ref b2_4), .val (.ref b5_3_216), .val (.ref b5_3_236), .val (.ref b16_4), .val (.int (1 : Int32)), .unset] [(.ref b2_4), (.ref b1)])) rfl (by rw [hml]; rfl) (Steps.refl _) (argsL := [(.ref b2_4)]) (rest := []) (lenOf pd_2 rfl) rfl (by show 2 * 0 + _ ≤ _; exact Nat.le_of_eq rfl) (hb hby at_248) (fun _ _ => ⟨rfl, e296, (by decide : 7 + 1 ≤ _), (by decide : 22 + 3 ≤ _)⟩)
      dsimp only [Pt.U, Pt.locs, Pt.cells, Pt.slots] at X299 l299 y299 z299 st299 hQ299
      subst y299 z299
      have F301 : Arv Z T284.heap b8 k8 (.object "com/example/serigraph/serigraph/view/OrderList$Place") (5 : Int32) [(.ref b2_4), (.ref b5_3_31), (.ref b5_3_216), (.ref b5_3_236), (.ref b16_4)] .null := (V253.keep K284q (ninS (Ne.symm ne_b2_4_b8) (ninS ne_b8_b5_3_216 nin0)))
      have F302 : Exa Z h253 b5_3_31 "com/example/serigraph/serigraph/view/OrderList$Place" := (((F238.keep K236q).wr W243).wr W253)
      have F303 : Exa Z T284.heap b5_3_31 "com/example/serigraph/serigraph/view/OrderList$Place" := (F302.keep K284q)
      obtain ⟨b5_299, rfl, N299q, K299q, p299_0, p299_1, p299_2, p299_3, p299_4, p299_5, p299_6, p299_7, p299_8, p299_9, p299_10, p299_11, p299_12⟩ := hQ299
      refine own_step (fun t k => st299.trans k) ?_
      have N304 : Fr n0 L299 := by rw [l299]; exact Fr.app N298 N299q
      have sz_b5_299 : h0.size ≤ b5_299 := Nat.le_trans K287.1 p299_0
      have g_b5_299 : n0 ≤ b5_299 := Nat.le_trans (Nat.le_trans (Nat.le_of_eq O288.1.symm) O288.2.1) p299_0
      have ne_b1_b5_299 : b1 ≠ b5_299 := Nat.ne_of_lt (Nat.lt_of_lt_of_le F300.lt p299_0)
      have ne_b2_4_b5_299 : b2_4 ≠ b5_299 := Nat.ne_of_lt (Nat.lt_of_lt_of_le p284_2.lt p299_0)
      have ne_b16_4_b5_299 : b16_4 ≠ b5_299 := Nat.ne_of_lt (Nat.lt_of_lt_of_le F297.lt p299_0)
      have ne_b8_b5_299 : b8 ≠ b5_299 := Nat.ne_of_lt (Nat.lt_of_lt_of_le F301.lt p299_0)
      have ne_b5_3_31_b5_299 : b5_3_31 ≠ b5_299 := Nat.ne_of_lt (Nat.lt_of_lt_of_le F303.lt p299_0)
      have ne_b5_3_216_b5_299 : b5_3_216 ≠ b5_299 := Nat.ne_of_lt (Nat.lt_of_lt_of_le p284_6.lt p299_0)
      have ne_b5_3_236_b5_299 : b5_3_236 ≠ b5_299 := Nat.ne_of_lt (Nat.lt_of_lt_of_le F293.lt p299_0)
      have K305 : Keep h0 T299.heap [] := K287.trans K299q (allS (Or.inr sz_b5_3_216) (allS (Or.inr sz_b2_4) all0))
      have p299_10c : Fld Z T299.heap b5_299 "com/example/serigraph/serigraph/view/OrderList$Place" "label" "J" (.long (4294967296 : Int64)) := Eq.mp (congrArg (fun z => Fld Z T299.heap b5_299 "com/example/serigraph/serigraph/view/OrderList$Place" "label" "J" (.long z)) (show ((0 : Int64) + (own_r7 (((8589934592 : Int64) - (0 : Int64)) / (2 : Int64)) (4294967296 : Int64))) = (4294967296 : Int64) from by decide +kernel)) p299_10
      show own_Ends p.tables e below s _ _ _ (T299.setTop (mkF m 251 #[.val (.int x0_0), .val (.int x1_0), .val (.int (3 : Int32)), .val (.int (1 : Int32)), .val (.ref b1), .val (.ref b8), .val (.ref b5_3_31), .val (.ref b2_4), .val (.ref b5_3_216), .val (.ref b2_4), .val (.ref b5_3_216), .val (.ref b5_3_236), .val (.ref b16_4), .val (.int (1 : Int32)), .unset] [(.ref b5_299)]))
      refine own_step (fun t k => XS.astore X299.here hx rfl (hb hby at_251) rfl rfl (l' := #[.val (.int x0_0), .val (.int x1_0), .val (.int (3 : Int32)), .val (.int (1 : Int32)), .val (.ref b1), .val (.ref b8), .val (.ref b5_3_31), .val (.ref b2_4), .val (.ref b5_3_216), .val (.ref b2_4), .val (.ref b5_3_216), .val (.ref b5_3_236), .val (.ref b16_4), .val (.int (1 : Int32)), .val (.ref b5_299)]) rfl k) ?_
      show own_Ends p.tables e below s _ _ _ (T299.setTop (mkF m 253 #[.val (.int x0_0), .val (.int x1_0), .val (.int (3 : Int32)), .val (.int (1 : Int32)), .val (.ref b1), .val (.ref b8), .val (.ref b5_3_31), .val (.ref b2_4), .val (.ref b5_3_216), .val (.ref b2_4), .val (.ref b5_3_216), .val (.ref b5_3_236), .val (.ref b16_4), .val (.int (1 : Int32)), .val (.ref b5_299)] []))
      refine own_step (fun t k => XS.iload X299.here hx rfl (hb hby at_253) rfl k) ?_
      show own_Ends p.tables e below s _ _ _ (T299.setTop (mkF m 255 #[.val (.int x0_0), .val (.int x1_0), .val (.int (3 : Int32)), .val (.int (1 : Int32)), .val (.ref b1), .val (.ref b8), .val (.ref b5_3_31), .val (.ref b2_4), .val (.ref b5_3_216), .val (.ref b2_4), .val (.ref b5_3_216), .val (.ref b5_3_236), .val (.ref b16_4), .val (.int (1 : Int32)), .val (.ref b5_299)] [(.int (1 : Int32))]))
      refine own_step (fun t k => XS.ifNo X299.here hx rfl (hb hby at_255) rfl ((if0 _ _).trans (feq (by decide : ¬ ((1 : Int32) = (0 : Int32)))).1) k) ?_
      show own_Ends p.tables e below s _ _ _ (T299.setTop (mkF m 258 #[.val (.int x0_0), .val (.int x1_0), .val (.int (3 : Int32)), .val (.int (1 : Int32)), .val (.ref b1), .val (.ref b8), .val (.ref b5_3_31), .val (.ref b2_4), .val (.ref b5_3_216), .val (.ref b2_4), .val (.ref b5_3_216), .val (.ref b5_3_236), .val (.ref b16_4), .val (.int (1 : Int32)), .val (.ref b5_299)] []))
      refine own_step (fun t k => XS.aload X299.here hx rfl (hb hby at_258) rfl rfl k) ?_
      show own_Ends p.tables e below s _ _ _ (T299.setTop (mkF m 260 #[.val (.int x0_0), .val (.int x1_0), .val (.int (3 : Int32)), .val (.int (1 : Int32)), .val (.ref b1), .val (.ref b8), .val (.ref b5_3_31), .val (.ref b2_4), .val (.ref b5_3_216), .val (.ref b2_4), .val (.ref b5_3_216), .val (.ref b5_3_236), .val (.ref b16_4), .val (.int (1 : Int32)), .val (.ref b5_299)] [(.ref b5_3_216)]))
      have O306 : Old Z n0 T299.heap := (O288.keep K299q (allS g_b5_3_216 (allS g_b2_4 all0)))
      obtain ⟨cq307, kq307, q307a, q307b, q307c⟩ := isOf hZ rfl p299_3
      obtain ⟨_, _, ⟨T307, L307, k307, n307⟩, -, X307, ⟨Lc307, hQ307, l307, y307, z307⟩, st307⟩ := X299.virtualBack hx (y := (⟨"com/example/serigraph/serigraph/view/OrderList$Place", "previous", "()Lcom/example/serigraph/serigraph/view/OrderList$Place;"⟩ : MethodName)) (z := (⟨"com/example/serigraph/serigraph/view/OrderList$Place", "previous", "()Lcom/example/serigraph/serigraph/view/OrderList$Place;"⟩ : MethodName)) hown (mvT hZ (hw _ (List.mem_of_getElem? (i := 66) rfl))) (mvT hZ (hw _ (List.mem_of_getElem? (i := 67) rfl))) (notFace_of_selects (args := #[]) (mvT hZ (hw _ (List.mem_of_getElem? (i := 69) rfl)))) (mvT hZ (hw _ (List.mem_of_getElem? (i := 69) rfl))) (mvT hZ (hw _ (List.mem_of_getElem? (i := 68) rfl))) (by decide) (backOf (W := 0) (rm11 l Z a0 hw [] b5_3_216 b5_299 T299.heap n0 O306 p299_4) hZ (hw _ (List.mem_of_getElem? (i := 70) rfl)) (hw _ (List.mem_of_getElem? (i := 12) rfl)) (by decide) (by decide)) q307a q307c (g := (mkF m 260 #[.val (.int x0_0), .val (.int x1_0), .val (.int (3 : Int32)), .val (.int (1 : Int32)), .val (.ref b1), .val (.ref b8), .val (.ref b5_3_31), .val (.ref b2_4), .val (.ref b5_3_216), .val (.ref b2_4), .val (.ref b5_3_216), .val (.ref b5_3_236), .val (.ref b16_4), .val (.int (1 : Int32)), .val (.ref b5_299)] [(.ref b5_3_216)])) rfl (by rw [hml]; rfl) (Steps.refl _) (argsL := []) (rest := []) (lenOf pd_3 rfl) rfl (by show 2 * 0 + _ ≤ _; exact Nat.le_of_eq rfl) (hb hby at_260) (fun _ _ => ⟨rfl, rfl, (by decide : 8 + 0 ≤ _), (by decide : 25 + 0 ≤ _)⟩)
      dsimp only [Pt.U, Pt.locs, Pt.cells, Pt.slots] at X307 l307 y307 z307 st307 hQ307
      subst y307 z307
      obtain ⟨rfl, N307q, e307⟩ := hQ307
      refine own_step (fun t k => st307.trans k) ?_
      have N308 : Fr n0 L307 := by rw [l307]; exact Fr.app N304 N307q
      show own_Ends p.tables e below s _ _ _ (T307.setTop (mkF m 263 #[.val (.int x0_0), .val (.int x1_0), .val (.int (3 : Int32)), .val (.int (1 : Int32)), .val (.ref b1), .val (.ref b8), .val (.ref b5_3_31), .val (.ref b2_4), .val (.ref b5_3_216), .val (.ref b2_4), .val (.ref b5_3_216), .val (.ref b5_3_236), .val (.ref b16_4), .val (.int (1 : Int32)), .val (.ref b5_299)] [(.ref b5_299)]))
      refine own_step (fun t k => XS.aload X307.here hx rfl (hb hby at_263) rfl rfl k) ?_
      show own_Ends p.tables e below s _ _ _ (T307.setTop (mkF m 265 #[.val (.int x0_0), .val (.int x1_0), .val (.int (3 : Int32)), .val (.int (1 : Int32)), .val (.ref b1), .val (.ref b8), .val (.ref b5_3_31), .val (.ref b2_4), .val (.ref b5_3_216), .val (.ref b2_4), .val (.ref b5_3_216), .val (.ref b5_3_236), .val (.ref b16_4), .val (.int (1 : Int32)), .val (.ref b5_299)] [(.ref b5_299), (.ref b5_299)]))
      refine own_step (fun t k => Jvm.RoadKit.acmp (g := (mkF m 265 #[.val (.int x0_0), .val (.int x1_0), .val (.int (3 : Int32)), .val (.int (1 : Int32)), .val (.ref b1), .val (.ref b8), .val (.ref b5_3_31), .val (.ref b2_4), .val (.ref b5_3_216), .val (.ref b2_4), .val (.ref b5_3_216), .val (.ref b5_3_236), .val (.ref b16_4), .val (.int (1 : Int32)), .val (.ref b5_299)] [(.ref b5_299), (.ref b5_299)])) X307 hx rfl rfl rfl (pc0 := 265) (pc' := 268) (same := true) rfl (hb hby at_265) rfl (decide_eq_true rfl) (by decide) (by decide) k) ?_
      show own_Ends p.tables e below s _ _ _ (T307.setTop (mkF m 268 #[.val (.int x0_0), .val (.int x1_0), .val (.int (3 : Int32)), .val (.int (1 : Int32)), .val (.ref b1), .val (.ref b8), .val (.ref b5_3_31), .val (.ref b2_4), .val (.ref b5_3_216), .val (.ref b2_4), .val (.ref b5_3_216), .val (.ref b5_3_236), .val (.ref b16_4), .val (.int (1 : Int32)), .val (.ref b5_299)] []))
      refine own_step (fun t k => XS.aload X307.here hx rfl (hb hby at_268) rfl rfl k) ?_
      show own_Ends p.tables e below s _ _ _ (T307.setTop (mkF m 270 #[.val (.int x0_0), .val (.int x1_0), .val (.int (3 : Int32)), .val (.int (1 : Int32)), .val (.ref b1), .val (.ref b8), .val (.ref b5_3_31), .val (.ref b2_4), .val (.ref b5_3_216), .val (.ref b2_4), .val (.ref b5_3_216), .val (.ref b5_3_236), .val (.ref b16_4), .val (.int (1 : Int32)), .val (.ref b5_299)] [(.ref b5_299)]))
      obtain ⟨cq309, kq309, q309a, q309b, q309c⟩ := isOf hZ e307 p299_9
      obtain ⟨_, _, ⟨T309, L309, k309, n309⟩, -, X309, ⟨Lc309, hQ309, l309, y309, z309⟩, st309⟩ := X307.virtualBack hx (y := (⟨"com/example/serigraph/serigraph/view/OrderList$Place", "previous", "()Lcom/example/serigraph/serigraph/view/OrderList$Place;"⟩ : MethodName)) (z := (⟨"com/example/serigraph/serigraph/view/OrderList$Place", "previous", "()Lcom/example/serigraph/serigraph/view/OrderList$Place;"⟩ : MethodName)) hown (mvT hZ (hw _ (List.mem_of_getElem? (i := 66) rfl))) (mvT hZ (hw _ (List.mem_of_getElem? (i := 67) rfl))) (notFace_of_selects (args := #[]) (mvT hZ (hw _ (List.mem_of_getElem? (i := 69) rfl)))) (mvT hZ (hw _ (List.mem_of_getElem? (i := 69) rfl))) (mvT hZ (hw _ (List.mem_of_getElem? (i := 68) rfl))) (by decide) (backOf (W := 0) (rm11 l Z a0 hw [] b5_299 b2_4 T299.heap n0 O306 p299_12) hZ (hw _ (List.mem_of_getElem? (i := 70) rfl)) (hw _ (List.mem_of_getElem? (i := 12) rfl)) (by decide) (by decide)) q309a q309c (g := (mkF m 270 #[.val (.int x0_0), .val (.int x1_0), .val (.int (3 : Int32)), .val (.int (1 : Int32)), .val (.ref b1), .val (.ref b8), .val (.ref b5_3_31), .val (.ref b2_4), .val (.ref b5_3_216), .val (.ref b2_4), .val (.ref b5_3_216), .val (.ref b5_3_236), .val (.ref b16_4), .val (.int (1 : Int32)), .val (.ref b5_299)] [(.ref b5_299)])) rfl (by rw [hml]; rfl) (Steps.refl _) (argsL := []) (rest := []) (lenOf pd_3 rfl) rfl (by show 2 * 0 + _ ≤ _; exact Nat.le_of_eq rfl) (hb hby at_270) (fun _ _ => ⟨rfl, e307, (by decide : 8 + 0 ≤ _), (by decide : 25 + 0 ≤ _)⟩)
      dsimp only [Pt.U, Pt.locs, Pt.cells, Pt.slots] at X309 l309 y309 z309 st309 hQ309
      subst y309 z309
      obtain ⟨rfl, N309q, e309⟩ := hQ309
      refine own_step (fun t k => st309.trans k) ?_
      have N310 : Fr n0 L309 := by rw [l309]; exact Fr.app N308 N309q
      show own_Ends p.tables e below s _ _ _ (T309.setTop (mkF m 273 #[.val (.int x0_0), .val (.int x1_0), .val (.int (3 : Int32)), .val (.int (1 : Int32)), .val (.ref b1), .val (.ref b8), .val (.ref b5_3_31), .val (.ref b2_4), .val (.ref b5_3_216), .val (.ref b2_4), .val (.ref b5_3_216), .val (.ref b5_3_236), .val (.ref b16_4), .val (.int (1 : Int32)), .val (.ref b5_299)] [(.ref b2_4)]))
      refine own_step (fun t k => XS.aload X309.here hx rfl (hb hby at_273) rfl rfl k) ?_
      show own_Ends p.tables e below s _ _ _ (T309.setTop (mkF m 275 #[.val (.int x0_0), .val (.int x1_0), .val (.int (3 : Int32)), .val (.int (1 : Int32)), .val (.ref b1), .val (.ref b8), .val (.ref b5_3_31), .val (.ref b2_4), .val (.ref b5_3_216), .val (.ref b2_4), .val (.ref b5_3_216), .val (.ref b5_3_236), .val (.ref b16_4), .val (.int (1 : Int32)), .val (.ref b5_299)] [(.ref b2_4), (.ref b2_4)]))
      refine own_step (fun t k => Jvm.RoadKit.acmp (g := (mkF m 275 #[.val (.int x0_0), .val (.int x1_0), .val (.int (3 : Int32)), .val (.int (1 : Int32)), .val (.ref b1), .val (.ref b8), .val (.ref b5_3_31), .val (.ref b2_4), .val (.ref b5_3_216), .val (.ref b2_4), .val (.ref b5_3_216), .val (.ref b5_3_236), .val (.ref b16_4), .val (.int (1 : Int32)), .val (.ref b5_299)] [(.ref b2_4), (.ref b2_4)])) X309 hx rfl rfl rfl (pc0 := 275) (pc' := 278) (same := true) rfl (hb hby at_275) rfl (decide_eq_true rfl) (by decide) (by decide) k) ?_
      show own_Ends p.tables e below s _ _ _ (T309.setTop (mkF m 278 #[.val (.int x0_0), .val (.int x1_0), .val (.int (3 : Int32)), .val (.int (1 : Int32)), .val (.ref b1), .val (.ref b8), .val (.ref b5_3_31), .val (.ref b2_4), .val (.ref b5_3_216), .val (.ref b2_4), .val (.ref b5_3_216), .val (.ref b5_3_236), .val (.ref b16_4), .val (.int (1 : Int32)), .val (.ref b5_299)] []))
      refine own_step (fun t k => XS.iconst X309.here hx rfl (hb hby at_278) k) ?_
      show own_Ends p.tables e below s _ _ _ (T309.setTop (mkF m 279 #[.val (.int x0_0), .val (.int x1_0), .val (.int (3 : Int32)), .val (.int (1 : Int32)), .val (.ref b1), .val (.ref b8), .val (.ref b5_3_31), .val (.ref b2_4), .val (.ref b5_3_216), .val (.ref b2_4), .val (.ref b5_3_216), .val (.ref b5_3_236), .val (.ref b16_4), .val (.int (1 : Int32)), .val (.ref b5_299)] [(.int (1 : Int32))]))
      refine own_step (fun t k => XS.goto X309.here hx rfl (pc0 := 279) (pc' := 283) rfl (hb hby at_279) (by decide) (by decide) k) ?_
      show own_Ends p.tables e below s _ _ _ (T309.setTop (mkF m 283 #[.val (.int x0_0), .val (.int x1_0), .val (.int (3 : Int32)), .val (.int (1 : Int32)), .val (.ref b1), .val (.ref b8), .val (.ref b5_3_31), .val (.ref b2_4), .val (.ref b5_3_216), .val (.ref b2_4), .val (.ref b5_3_216), .val (.ref b5_3_236), .val (.ref b16_4), .val (.int (1 : Int32)), .val (.ref b5_299)] [(.int (1 : Int32))]))
      refine own_step (fun t k => XS.istore X309.here hx rfl (hb hby at_283) rfl (l' := #[.val (.int x0_0), .val (.int x1_0), .val (.int (3 : Int32)), .val (.int (1 : Int32)), .val (.ref b1), .val (.ref b8), .val (.ref b5_3_31), .val (.ref b2_4), .val (.ref b5_3_216), .val (.ref b2_4), .val (.ref b5_3_216), .val (.ref b5_3_236), .val (.ref b16_4), .val (.int (1 : Int32)), .val (.ref b5_299)]) rfl k) ?_
      show own_Ends p.tables e below s _ _ _ (T309.setTop (mkF m 285 #[.val (.int x0_0), .val (.int x1_0), .val (.int (3 : Int32)), .val (.int (1 : Int32)), .val (.ref b1), .val (.ref b8), .val (.ref b5_3_31), .val (.ref b2_4), .val (.ref b5_3_216), .val (.ref b2_4), .val (.ref b5_3_216), .val (.ref b5_3_236), .val (.ref b16_4), .val (.int (1 : Int32)), .val (.ref b5_299)] []))
      refine own_step (fun t k => XS.iload X309.here hx rfl (hb hby at_285) rfl k) ?_
      show own_Ends p.tables e below s _ _ _ (T309.setTop (mkF m 287 #[.val (.int x0_0), .val (.int x1_0), .val (.int (3 : Int32)), .val (.int (1 : Int32)), .val (.ref b1), .val (.ref b8), .val (.ref b5_3_31), .val (.ref b2_4), .val (.ref b5_3_216), .val (.ref b2_4), .val (.ref b5_3_216), .val (.ref b5_3_236), .val (.ref b16_4), .val (.int (1 : Int32)), .val (.ref b5_299)] [(.int (1 : Int32))]))
      exact own_retN X309 hx (t := .boolean) Bd.returns (by simp) (hb hby at_287) hnl (by rw [e309]; exact ⟨rfl, N310⟩) (by decide) (by decide)
    · subst hk256
      show own_Ends p.tables e below s _ _ _ (T253.setTop (mkF m 90 #[.val (.int x0_0), .val (.int x1_0), .val (.int (3 : Int32)), .val (.int (2 : Int32)), .val (.ref b1), .val (.ref b8), .unset, .unset, .unset, .unset, .unset, .unset, .unset, .unset, .unset] []))
      refine own_step (fun t k => XS.aload X253.here hx rfl (hb hby at_90) rfl rfl k) ?_
      show own_Ends p.tables e below s _ _ _ (T253.setTop (mkF m 92 #[.val (.int x0_0), .val (.int x1_0), .val (.int (3 : Int32)), .val (.int (2 : Int32)), .val (.ref b1), .val (.ref b8), .unset, .unset, .unset, .unset, .unset, .unset, .unset, .unset, .unset] [(.ref b8)]))
      refine own_step (fun t k => XS.iloadN X253.here hx rfl (hb hby at_92) rfl k) ?_
      show own_Ends p.tables e below s _ _ _ (T253.setTop (mkF m 93 #[.val (.int x0_0), .val (.int x1_0), .val (.int (3 : Int32)), .val (.int (2 : Int32)), .val (.ref b1), .val (.ref b8), .unset, .unset, .unset, .unset, .unset, .unset, .unset, .unset, .unset] [(.int (2 : Int32)), (.ref b8)]))
      obtain ⟨cl311, Ar311, q311, S311, N311, H311, G311⟩ := id V253
      have hin311 : ¬ ((2 : Int32) < 0 ∨ cl311.slots.size ≤ ((2 : Int32)).toNatClampNeg) := inb_of S311 ⟨by decide, by decide⟩
      have hat311 : cl311.slots[((2 : Int32)).toNatClampNeg]? = some (.ref b5_3_216) := H311.at hin311 rfl
      refine own_step (fun t k => X253.aaload hx (j := (2 : Int32)) (v := (.ref b5_3_216)) (by rw [e253]; exact Ar311.1) (State.isArrayOf_alike hZ.alike Ar311.2.1) rfl Ar311.2.2 hin311 hat311 (g := (mkF m 93 #[.val (.int x0_0), .val (.int x1_0), .val (.int (3 : Int32)), .val (.int (2 : Int32)), .val (.ref b1), .val (.ref b8), .unset, .unset, .unset, .unset, .unset, .unset, .unset, .unset, .unset] [(.int (2 : Int32)), (.ref b8)])) rfl rfl (hb hby at_93) _ k) ?_
      show own_Ends p.tables e below s _ _ _ (T253.setTop (mkF m 94 #[.val (.int x0_0), .val (.int x1_0), .val (.int (3 : Int32)), .val (.int (2 : Int32)), .val (.ref b1), .val (.ref b8), .unset, .unset, .unset, .unset, .unset, .unset, .unset, .unset, .unset] [(.ref b5_3_216)]))
      refine own_step (fun t k => XS.astore X253.here hx rfl (hb hby at_94) rfl rfl (l' := #[.val (.int x0_0), .val (.int x1_0), .val (.int (3 : Int32)), .val (.int (2 : Int32)), .val (.ref b1), .val (.ref b8), .val (.ref b5_3_216), .unset, .unset, .unset, .unset, .unset, .unset, .unset, .unset]) rfl k) ?_
      show own_Ends p.tables e below s _ _ _ (T253.setTop (mkF m 96 #[.val (.int x0_0), .val (.int x1_0), .val (.int (3 : Int32)), .val (.int (2 : Int32)), .val (.ref b1), .val (.ref b8), .val (.ref b5_3_216), .unset, .unset, .unset, .unset, .unset, .unset, .unset, .unset] []))
      refine own_step (fun t k => XS.aload X253.here hx rfl (hb hby at_96) rfl rfl k) ?_
      show own_Ends p.tables e below s _ _ _ (T253.setTop (mkF m 98 #[.val (.int x0_0), .val (.int x1_0), .val (.int (3 : Int32)), .val (.int (2 : Int32)), .val (.ref b1), .val (.ref b8), .val (.ref b5_3_216), .unset, .unset, .unset, .unset, .unset, .unset, .unset, .unset] [(.ref b8)]))
      refine own_step (fun t k => XS.iloadN X253.here hx rfl (hb hby at_98) rfl k) ?_
      show own_Ends p.tables e below s _ _ _ (T253.setTop (mkF m 99 #[.val (.int x0_0), .val (.int x1_0), .val (.int (3 : Int32)), .val (.int (2 : Int32)), .val (.ref b1), .val (.ref b8), .val (.ref b5_3_216), .unset, .unset, .unset, .unset, .unset, .unset, .unset, .unset] [(.int (2 : Int32)), (.ref b8)]))
      refine own_step (fun t k => XS.iconst X253.here hx rfl (hb hby at_99) k) ?_
      show own_Ends p.tables e below s _ _ _ (T253.setTop (mkF m 100 #[.val (.int x0_0), .val (.int x1_0), .val (.int (3 : Int32)), .val (.int (2 : Int32)), .val (.ref b1), .val (.ref b8), .val (.ref b5_3_216), .unset, .unset, .unset, .unset, .unset, .unset, .unset, .unset] [(.int (1 : Int32)), (.int (2 : Int32)), (.ref b8)]))
      refine own_step (fun t k => XS.isub X253.here hx rfl (hb hby at_100) rfl k) ?_
      show own_Ends p.tables e below s _ _ _ (T253.setTop (mkF m 101 #[.val (.int x0_0), .val (.int x1_0), .val (.int (3 : Int32)), .val (.int (2 : Int32)), .val (.ref b1), .val (.ref b8), .val (.ref b5_3_216), .unset, .unset, .unset, .unset, .unset, .unset, .unset, .unset] [(.int (1 : Int32)), (.ref b8)]))
      obtain ⟨cl312, Ar312, q312, S312, N312, H312, G312⟩ := id V253
      have hin312 : ¬ ((1 : Int32) < 0 ∨ cl312.slots.size ≤ ((1 : Int32)).toNatClampNeg) := inb_of S312 ⟨by decide, by decide⟩
      have hat312 : cl312.slots[((1 : Int32)).toNatClampNeg]? = some (.ref b5_3_31) := H312.at hin312 rfl
      refine own_step (fun t k => X253.aaload hx (j := (1 : Int32)) (v := (.ref b5_3_31)) (by rw [e253]; exact Ar312.1) (State.isArrayOf_alike hZ.alike Ar312.2.1) rfl Ar312.2.2 hin312 hat312 (g := (mkF m 101 #[.val (.int x0_0), .val (.int x1_0), .val (.int (3 : Int32)), .val (.int (2 : Int32)), .val (.ref b1), .val (.ref b8), .val (.ref b5_3_216), .unset, .unset, .unset, .unset, .unset, .unset, .unset, .unset] [(.int (1 : Int32)), (.ref b8)])) rfl rfl (hb hby at_101) _ k) ?_
      show own_Ends p.tables e below s _ _ _ (T253.setTop (mkF m 102 #[.val (.int x0_0), .val (.int x1_0), .val (.int (3 : Int32)), .val (.int (2 : Int32)), .val (.ref b1), .val (.ref b8), .val (.ref b5_3_216), .unset, .unset, .unset, .unset, .unset, .unset, .unset, .unset] [(.ref b5_3_31)]))
      refine own_step (fun t k => XS.astore X253.here hx rfl (hb hby at_102) rfl rfl (l' := #[.val (.int x0_0), .val (.int x1_0), .val (.int (3 : Int32)), .val (.int (2 : Int32)), .val (.ref b1), .val (.ref b8), .val (.ref b5_3_216), .val (.ref b5_3_31), .unset, .unset, .unset, .unset, .unset, .unset, .unset]) rfl k) ?_
      show own_Ends p.tables e below s _ _ _ (T253.setTop (mkF m 104 #[.val (.int x0_0), .val (.int x1_0), .val (.int (3 : Int32)), .val (.int (2 : Int32)), .val (.ref b1), .val (.ref b8), .val (.ref b5_3_216), .val (.ref b5_3_31), .unset, .unset, .unset, .unset, .unset, .unset, .unset] []))
      refine own_step (fun t k => XS.aload X253.here hx rfl (hb hby at_104) rfl rfl k) ?_
      show own_Ends p.tables e below s _ _ _ (T253.setTop (mkF m 106 #[.val (.int x0_0), .val (.int x1_0), .val (.int (3 : Int32)), .val (.int (2 : Int32)), .val (.ref b1), .val (.ref b8), .val (.ref b5_3_216), .val (.ref b5_3_31), .unset, .unset, .unset, .unset, .unset, .unset, .unset] [(.ref b8)]))
      refine own_step (fun t k => XS.iloadN X253.here hx rfl (hb hby at_106) rfl k) ?_
      show own_Ends p.tables e below s _ _ _ (T253.setTop (mkF m 107 #[.val (.int x0_0), .val (.int x1_0), .val (.int (3 : Int32)), .val (.int (2 : Int32)), .val (.ref b1), .val (.ref b8), .val (.ref b5_3_216), .val (.ref b5_3_31), .unset, .unset, .unset, .unset, .unset, .unset, .unset] [(.int (2 : Int32)), (.ref b8)]))
      refine own_step (fun t k => XS.iconst X253.here hx rfl (hb hby at_107) k) ?_
      show own_Ends p.tables e below s _ _ _ (T253.setTop (mkF m 108 #[.val (.int x0_0), .val (.int x1_0), .val (.int (3 : Int32)), .val (.int (2 : Int32)), .val (.ref b1), .val (.ref b8), .val (.ref b5_3_216), .val (.ref b5_3_31), .unset, .unset, .unset, .unset, .unset, .unset, .unset] [(.int (1 : Int32)), (.int (2 : Int32)), (.ref b8)]))
      refine own_step (fun t k => XS.iadd X253.here hx rfl (hb hby at_108) rfl k) ?_
      show own_Ends p.tables e below s _ _ _ (T253.setTop (mkF m 109 #[.val (.int x0_0), .val (.int x1_0), .val (.int (3 : Int32)), .val (.int (2 : Int32)), .val (.ref b1), .val (.ref b8), .val (.ref b5_3_216), .val (.ref b5_3_31), .unset, .unset, .unset, .unset, .unset, .unset, .unset] [(.int (3 : Int32)), (.ref b8)]))
      obtain ⟨cl313, Ar313, q313, S313, N313, H313, G313⟩ := id V253
      have hin313 : ¬ ((3 : Int32) < 0 ∨ cl313.slots.size ≤ ((3 : Int32)).toNatClampNeg) := inb_of S313 ⟨by decide, by decide⟩
      have hat313 : cl313.slots[((3 : Int32)).toNatClampNeg]? = some (.ref b5_3_236) := H313.at hin313 rfl
      refine own_step (fun t k => X253.aaload hx (j := (3 : Int32)) (v := (.ref b5_3_236)) (by rw [e253]; exact Ar313.1) (State.isArrayOf_alike hZ.alike Ar313.2.1) rfl Ar313.2.2 hin313 hat313 (g := (mkF m 109 #[.val (.int x0_0), .val (.int x1_0), .val (.int (3 : Int32)), .val (.int (2 : Int32)), .val (.ref b1), .val (.ref b8), .val (.ref b5_3_216), .val (.ref b5_3_31), .unset, .unset, .unset, .unset, .unset, .unset, .unset] [(.int (3 : Int32)), (.ref b8)])) rfl rfl (hb hby at_109) _ k) ?_
      show own_Ends p.tables e below s _ _ _ (T253.setTop (mkF m 110 #[.val (.int x0_0), .val (.int x1_0), .val (.int (3 : Int32)), .val (.int (2 : Int32)), .val (.ref b1), .val (.ref b8), .val (.ref b5_3_216), .val (.ref b5_3_31), .unset, .unset, .unset, .unset, .unset, .unset, .unset] [(.ref b5_3_236)]))
      refine own_step (fun t k => XS.astore X253.here hx rfl (hb hby at_110) rfl rfl (l' := #[.val (.int x0_0), .val (.int x1_0), .val (.int (3 : Int32)), .val (.int (2 : Int32)), .val (.ref b1), .val (.ref b8), .val (.ref b5_3_216), .val (.ref b5_3_31), .val (.ref b5_3_236), .unset, .unset, .unset, .unset, .unset, .unset]) rfl k) ?_
      show own_Ends p.tables e below s _ _ _ (T253.setTop (mkF m 112 #[.val (.int x0_0), .val (.int x1_0), .val (.int (3 : Int32)), .val (.int (2 : Int32)), .val (.ref b1), .val (.ref b8), .val (.ref b5_3_216), .val (.ref b5_3_31), .val (.ref b5_3_236), .unset, .unset, .unset, .unset, .unset, .unset] []))
      refine own_step (fun t k => XS.aload X253.here hx rfl (hb hby at_112) rfl rfl k) ?_
      show own_Ends p.tables e below s _ _ _ (T253.setTop (mkF m 114 #[.val (.int x0_0), .val (.int x1_0), .val (.int (3 : Int32)), .val (.int (2 : Int32)), .val (.ref b1), .val (.ref b8), .val (.ref b5_3_216), .val (.ref b5_3_31), .val (.ref b5_3_236), .unset, .unset, .unset, .unset, .unset, .unset] [(.ref b8)]))
      refine own_step (fun t k => XS.iloadN X253.here hx rfl (hb hby at_114) rfl k) ?_
      show own_Ends p.tables e below s _ _ _ (T253.setTop (mkF m 115 #[.val (.int x0_0), .val (.int x1_0), .val (.int (3 : Int32)), .val (.int (2 : Int32)), .val (.ref b1), .val (.ref b8), .val (.ref b5_3_216), .val (.ref b5_3_31), .val (.ref b5_3_236), .unset, .unset, .unset, .unset, .unset, .unset] [(.int (2 : Int32)), (.ref b8)]))
      refine own_step (fun t k => XS.iconst X253.here hx rfl (hb hby at_115) k) ?_
      show own_Ends p.tables e below s _ _ _ (T253.setTop (mkF m 116 #[.val (.int x0_0), .val (.int x1_0), .val (.int (3 : Int32)), .val (.int (2 : Int32)), .val (.ref b1), .val (.ref b8), .val (.ref b5_3_216), .val (.ref b5_3_31), .val (.ref b5_3_236), .unset, .unset, .unset, .unset, .unset, .unset] [(.int (0 : Int32)), (.int (2 : Int32)), (.ref b8)]))
      have O314 : Old Z n0 h253 := (O247.wr W253 g_b8)
      obtain ⟨_, _, ⟨T315, L315, k315, n315⟩, -, X315, ⟨Lc315, hQ315, l315, y315, z315⟩, st315⟩ := Jvm.LawKit.callS X253 hx (y := (⟨"com/example/serigraph/serigraph/view/OrderListRemovePinLaw", "at", "([Lcom/example/serigraph/serigraph/view/OrderList$Place;II)Lcom/example/serigraph/serigraph/view/OrderList$Place;"⟩ : MethodName)) hown (mvT hZ (hw _ (List.mem_of_getElem? (i := 57) rfl))) (mvT hZ (hw _ (List.mem_of_getElem? (i := 58) rfl))) (mvT hZ (hw _ (List.mem_of_getElem? (i := 59) rfl))) (mvT hZ (hw _ (List.mem_of_getElem? (i := 60) rfl))) (by decide) (backOf (W := 0) (rm9_2_0 l Z a0 hw [] b8 k8 (5 : Int32) [(.ref b2_4), (.ref b5_3_31), (.ref b5_3_216), (.ref b5_3_236), (.ref b16_4)] .null b2_4 h253 n0 O314 V253 (by decide) rfl) hZ (hw _ (List.mem_of_getElem? (i := 60) rfl)) (hw _ (List.mem_of_getElem? (i := 59) rfl)) (by decide) (by decide)) (g := (mkF m 116 #[.val (.int x0_0), .val (.int x1_0), .val (.int (3 : Int32)), .val (.int (2 : Int32)), .val (.ref b1), .val (.ref b8), .val (.ref b5_3_216), .val (.ref b5_3_31), .val (.ref b5_3_236), .unset, .unset, .unset, .unset, .unset, .unset] [(.int (0 : Int32)), (.int (2 : Int32)), (.ref b8)])) rfl (by rw [hml]; rfl) (argsL := [(.ref b8), (.int (2 : Int32)), (.int (0 : Int32))]) (rest := []) (lenOf pd_4 rfl) rfl (by show 2 * 0 + _ ≤ _; exact Nat.le_of_eq rfl) (hb hby at_116) (fun _ _ => ⟨rfl, e253, (by decide : 7 + 0 ≤ _), (by decide : 22 + 0 ≤ _)⟩)
      dsimp only [Pt.U, Pt.locs, Pt.cells, Pt.slots] at X315 l315 y315 z315 st315 hQ315
      subst y315 z315
      obtain ⟨rfl, N315q, e315⟩ := hQ315
      refine own_step (fun t k => st315 _ k) ?_
      have N316 : Fr n0 L315 := by rw [l315]; exact Fr.app N255 N315q
      show own_Ends p.tables e below s _ _ _ (T315.setTop (mkF m 119 #[.val (.int x0_0), .val (.int x1_0), .val (.int (3 : Int32)), .val (.int (2 : Int32)), .val (.ref b1), .val (.ref b8), .val (.ref b5_3_216), .val (.ref b5_3_31), .val (.ref b5_3_236), .unset, .unset, .unset, .unset, .unset, .unset] [(.ref b2_4)]))
      refine own_step (fun t k => XS.astore X315.here hx rfl (hb hby at_119) rfl rfl (l' := #[.val (.int x0_0), .val (.int x1_0), .val (.int (3 : Int32)), .val (.int (2 : Int32)), .val (.ref b1), .val (.ref b8), .val (.ref b5_3_216), .val (.ref b5_3_31), .val (.ref b5_3_236), .val (.ref b2_4), .unset, .unset, .unset, .unset, .unset]) rfl k) ?_
      show own_Ends p.tables e below s _ _ _ (T315.setTop (mkF m 121 #[.val (.int x0_0), .val (.int x1_0), .val (.int (3 : Int32)), .val (.int (2 : Int32)), .val (.ref b1), .val (.ref b8), .val (.ref b5_3_216), .val (.ref b5_3_31), .val (.ref b5_3_236), .val (.ref b2_4), .unset, .unset, .unset, .unset, .unset] []))
      refine own_step (fun t k => XS.aload X315.here hx rfl (hb hby at_121) rfl rfl k) ?_
      show own_Ends p.tables e below s _ _ _ (T315.setTop (mkF m 123 #[.val (.int x0_0), .val (.int x1_0), .val (.int (3 : Int32)), .val (.int (2 : Int32)), .val (.ref b1), .val (.ref b8), .val (.ref b5_3_216), .val (.ref b5_3_31), .val (.ref b5_3_236), .val (.ref b2_4), .unset, .unset, .unset, .unset, .unset] [(.ref b8)]))
      refine own_step (fun t k => XS.iloadN X315.here hx rfl (hb hby at_123) rfl k) ?_
      show own_Ends p.tables e below s _ _ _ (T315.setTop (mkF m 124 #[.val (.int x0_0), .val (.int x1_0), .val (.int (3 : Int32)), .val (.int (2 : Int32)), .val (.ref b1), .val (.ref b8), .val (.ref b5_3_216), .val (.ref b5_3_31), .val (.ref b5_3_236), .val (.ref b2_4), .unset, .unset, .unset, .unset, .unset] [(.int (2 : Int32)), (.ref b8)]))
      refine own_step (fun t k => XS.iconst X315.here hx rfl (hb hby at_124) k) ?_
      show own_Ends p.tables e below s _ _ _ (T315.setTop (mkF m 125 #[.val (.int x0_0), .val (.int x1_0), .val (.int (3 : Int32)), .val (.int (2 : Int32)), .val (.ref b1), .val (.ref b8), .val (.ref b5_3_216), .val (.ref b5_3_31), .val (.ref b5_3_236), .val (.ref b2_4), .unset, .unset, .unset, .unset, .unset] [(.int (1 : Int32)), (.int (2 : Int32)), (.ref b8)]))
      obtain ⟨_, _, ⟨T317, L317, k317, n317⟩, -, X317, ⟨Lc317, hQ317, l317, y317, z317⟩, st317⟩ := Jvm.LawKit.callS X315 hx (y := (⟨"com/example/serigraph/serigraph/view/OrderListRemovePinLaw", "at", "([Lcom/example/serigraph/serigraph/view/OrderList$Place;II)Lcom/example/serigraph/serigraph/view/OrderList$Place;"⟩ : MethodName)) hown (mvT hZ (hw _ (List.mem_of_getElem? (i := 57) rfl))) (mvT hZ (hw _ (List.mem_of_getElem? (i := 58) rfl))) (mvT hZ (hw _ (List.mem_of_getElem? (i := 59) rfl))) (mvT hZ (hw _ (List.mem_of_getElem? (i := 60) rfl))) (by decide) (backOf (W := 0) (rm9_2_1 l Z a0 hw [] b8 k8 (5 : Int32) [(.ref b2_4), (.ref b5_3_31), (.ref b5_3_216), (.ref b5_3_236), (.ref b16_4)] .null b5_3_31 h253 n0 O314 V253 (by decide) rfl) hZ (hw _ (List.mem_of_getElem? (i := 60) rfl)) (hw _ (List.mem_of_getElem? (i := 59) rfl)) (by decide) (by decide)) (g := (mkF m 125 #[.val (.int x0_0), .val (.int x1_0), .val (.int (3 : Int32)), .val (.int (2 : Int32)), .val (.ref b1), .val (.ref b8), .val (.ref b5_3_216), .val (.ref b5_3_31), .val (.ref b5_3_236), .val (.ref b2_4), .unset, .unset, .unset, .unset, .unset] [(.int (1 : Int32)), (.int (2 : Int32)), (.ref b8)])) rfl (by rw [hml]; rfl) (argsL := [(.ref b8), (.int (2 : Int32)), (.int (1 : Int32))]) (rest := []) (lenOf pd_4 rfl) rfl (by show 2 * 0 + _ ≤ _; exact Nat.le_of_eq rfl) (hb hby at_125) (fun _ _ => ⟨rfl, e315, (by decide : 7 + 0 ≤ _), (by decide : 22 + 0 ≤ _)⟩)
      dsimp only [Pt.U, Pt.locs, Pt.cells, Pt.slots] at X317 l317 y317 z317 st317 hQ317
      subst y317 z317
      obtain ⟨rfl, N317q, e317⟩ := hQ317
      refine own_step (fun t k => st317 _ k) ?_
      have N318 : Fr n0 L317 := by rw [l317]; exact Fr.app N316 N317q
      show own_Ends p.tables e below s _ _ _ (T317.setTop (mkF m 128 #[.val (.int x0_0), .val (.int x1_0), .val (.int (3 : Int32)), .val (.int (2 : Int32)), .val (.ref b1), .val (.ref b8), .val (.ref b5_3_216), .val (.ref b5_3_31), .val (.ref b5_3_236), .val (.ref b2_4), .unset, .unset, .unset, .unset, .unset] [(.ref b5_3_31)]))
      refine own_step (fun t k => XS.astore X317.here hx rfl (hb hby at_128) rfl rfl (l' := #[.val (.int x0_0), .val (.int x1_0), .val (.int (3 : Int32)), .val (.int (2 : Int32)), .val (.ref b1), .val (.ref b8), .val (.ref b5_3_216), .val (.ref b5_3_31), .val (.ref b5_3_236), .val (.ref b2_4), .val (.ref b5_3_31), .unset, .unset, .unset, .unset]) rfl k) ?_
      show own_Ends p.tables e below s _ _ _ (T317.setTop (mkF m 130 #[.val (.int x0_0), .val (.int x1_0), .val (.int (3 : Int32)), .val (.int (2 : Int32)), .val (.ref b1), .val (.ref b8), .val (.ref b5_3_216), .val (.ref b5_3_31), .val (.ref b5_3_236), .val (.ref b2_4), .val (.ref b5_3_31), .unset, .unset, .unset, .unset] []))
      refine own_step (fun t k => XS.iloadN X317.here hx rfl (hb hby at_130) rfl k) ?_
      show own_Ends p.tables e below s _ _ _ (T317.setTop (mkF m 131 #[.val (.int x0_0), .val (.int x1_0), .val (.int (3 : Int32)), .val (.int (2 : Int32)), .val (.ref b1), .val (.ref b8), .val (.ref b5_3_216), .val (.ref b5_3_31), .val (.ref b5_3_236), .val (.ref b2_4), .val (.ref b5_3_31), .unset, .unset, .unset, .unset] [(.int (3 : Int32))]))
      refine own_step (fun t k => XS.iconst X317.here hx rfl (hb hby at_131) k) ?_
      show own_Ends p.tables e below s _ _ _ (T317.setTop (mkF m 132 #[.val (.int x0_0), .val (.int x1_0), .val (.int (3 : Int32)), .val (.int (2 : Int32)), .val (.ref b1), .val (.ref b8), .val (.ref b5_3_216), .val (.ref b5_3_31), .val (.ref b5_3_236), .val (.ref b2_4), .val (.ref b5_3_31), .unset, .unset, .unset, .unset] [(.int (2 : Int32)), (.int (3 : Int32))]))
      refine own_step (fun t k => XS.icmpNo X317.here hx rfl (hb hby at_132) rfl (flt (by decide : ¬ ((3 : Int32) < (2 : Int32)))).1 k) ?_
      show own_Ends p.tables e below s _ _ _ (T317.setTop (mkF m 135 #[.val (.int x0_0), .val (.int x1_0), .val (.int (3 : Int32)), .val (.int (2 : Int32)), .val (.ref b1), .val (.ref b8), .val (.ref b5_3_216), .val (.ref b5_3_31), .val (.ref b5_3_236), .val (.ref b2_4), .val (.ref b5_3_31), .unset, .unset, .unset, .unset] []))
      refine own_step (fun t k => XS.aload X317.here hx rfl (hb hby at_135) rfl rfl k) ?_
      show own_Ends p.tables e below s _ _ _ (T317.setTop (mkF m 137 #[.val (.int x0_0), .val (.int x1_0), .val (.int (3 : Int32)), .val (.int (2 : Int32)), .val (.ref b1), .val (.ref b8), .val (.ref b5_3_216), .val (.ref b5_3_31), .val (.ref b5_3_236), .val (.ref b2_4), .val (.ref b5_3_31), .unset, .unset, .unset, .unset] [(.ref b8)]))
      refine own_step (fun t k => XS.iloadN X317.here hx rfl (hb hby at_137) rfl k) ?_
      show own_Ends p.tables e below s _ _ _ (T317.setTop (mkF m 138 #[.val (.int x0_0), .val (.int x1_0), .val (.int (3 : Int32)), .val (.int (2 : Int32)), .val (.ref b1), .val (.ref b8), .val (.ref b5_3_216), .val (.ref b5_3_31), .val (.ref b5_3_236), .val (.ref b2_4), .val (.ref b5_3_31), .unset, .unset, .unset, .unset] [(.int (2 : Int32)), (.ref b8)]))
      refine own_step (fun t k => XS.iconst X317.here hx rfl (hb hby at_138) k) ?_
      show own_Ends p.tables e below s _ _ _ (T317.setTop (mkF m 139 #[.val (.int x0_0), .val (.int x1_0), .val (.int (3 : Int32)), .val (.int (2 : Int32)), .val (.ref b1), .val (.ref b8), .val (.ref b5_3_216), .val (.ref b5_3_31), .val (.ref b5_3_236), .val (.ref b2_4), .val (.ref b5_3_31), .unset, .unset, .unset, .unset] [(.int (2 : Int32)), (.int (2 : Int32)), (.ref b8)]))
      obtain ⟨_, _, ⟨T319, L319, k319, n319⟩, -, X319, ⟨Lc319, hQ319, l319, y319, z319⟩, st319⟩ := Jvm.LawKit.callS X317 hx (y := (⟨"com/example/serigraph/serigraph/view/OrderListRemovePinLaw", "at", "([Lcom/example/serigraph/serigraph/view/OrderList$Place;II)Lcom/example/serigraph/serigraph/view/OrderList$Place;"⟩ : MethodName)) hown (mvT hZ (hw _ (List.mem_of_getElem? (i := 57) rfl))) (mvT hZ (hw _ (List.mem_of_getElem? (i := 58) rfl))) (mvT hZ (hw _ (List.mem_of_getElem? (i := 59) rfl))) (mvT hZ (hw _ (List.mem_of_getElem? (i := 60) rfl))) (by decide) (backOf (W := 0) (rm9_2_2 l Z a0 hw [] b8 k8 (5 : Int32) [(.ref b2_4), (.ref b5_3_31), (.ref b5_3_216), (.ref b5_3_236), (.ref b16_4)] .null b5_3_236 h253 n0 O314 V253 (by decide) rfl) hZ (hw _ (List.mem_of_getElem? (i := 60) rfl)) (hw _ (List.mem_of_getElem? (i := 59) rfl)) (by decide) (by decide)) (g := (mkF m 139 #[.val (.int x0_0), .val (.int x1_0), .val (.int (3 : Int32)), .val (.int (2 : Int32)), .val (.ref b1), .val (.ref b8), .val (.ref b5_3_216), .val (.ref b5_3_31), .val (.ref b5_3_236), .val (.ref b2_4), .val (.ref b5_3_31), .unset, .unset, .unset, .unset] [(.int (2 : Int32)), (.int (2 : Int32)), (.ref b8)])) rfl (by rw [hml]; rfl) (argsL := [(.ref b8), (.int (2 : Int32)), (.int (2 : Int32))]) (rest := []) (lenOf pd_4 rfl) rfl (by show 2 * 0 + _ ≤ _; exact Nat.le_of_eq rfl) (hb hby at_139) (fun _ _ => ⟨rfl, e317, (by decide : 7 + 0 ≤ _), (by decide : 22 + 0 ≤ _)⟩)
      dsimp only [Pt.U, Pt.locs, Pt.cells, Pt.slots] at X319 l319 y319 z319 st319 hQ319
      subst y319 z319
      obtain ⟨rfl, N319q, e319⟩ := hQ319
      refine own_step (fun t k => st319 _ k) ?_
      have N320 : Fr n0 L319 := by rw [l319]; exact Fr.app N318 N319q
      show own_Ends p.tables e below s _ _ _ (T319.setTop (mkF m 142 #[.val (.int x0_0), .val (.int x1_0), .val (.int (3 : Int32)), .val (.int (2 : Int32)), .val (.ref b1), .val (.ref b8), .val (.ref b5_3_216), .val (.ref b5_3_31), .val (.ref b5_3_236), .val (.ref b2_4), .val (.ref b5_3_31), .unset, .unset, .unset, .unset] [(.ref b5_3_236)]))
      refine own_step (fun t k => XS.goto X319.here hx rfl (pc0 := 142) (pc' := 146) rfl (hb hby at_142) (by decide) (by decide) k) ?_
      show own_Ends p.tables e below s _ _ _ (T319.setTop (mkF m 146 #[.val (.int x0_0), .val (.int x1_0), .val (.int (3 : Int32)), .val (.int (2 : Int32)), .val (.ref b1), .val (.ref b8), .val (.ref b5_3_216), .val (.ref b5_3_31), .val (.ref b5_3_236), .val (.ref b2_4), .val (.ref b5_3_31), .unset, .unset, .unset, .unset] [(.ref b5_3_236)]))
      refine own_step (fun t k => XS.astore X319.here hx rfl (hb hby at_146) rfl rfl (l' := #[.val (.int x0_0), .val (.int x1_0), .val (.int (3 : Int32)), .val (.int (2 : Int32)), .val (.ref b1), .val (.ref b8), .val (.ref b5_3_216), .val (.ref b5_3_31), .val (.ref b5_3_236), .val (.ref b2_4), .val (.ref b5_3_31), .val (.ref b5_3_236), .unset, .unset, .unset]) rfl k) ?_
      show own_Ends p.tables e below s _ _ _ (T319.setTop (mkF m 148 #[.val (.int x0_0), .val (.int x1_0), .val (.int (3 : Int32)), .val (.int (2 : Int32)), .val (.ref b1), .val (.ref b8), .val (.ref b5_3_216), .val (.ref b5_3_31), .val (.ref b5_3_236), .val (.ref b2_4), .val (.ref b5_3_31), .val (.ref b5_3_236), .unset, .unset, .unset] []))
      refine own_step (fun t k => XS.iloadN X319.here hx rfl (hb hby at_148) rfl k) ?_
      show own_Ends p.tables e below s _ _ _ (T319.setTop (mkF m 149 #[.val (.int x0_0), .val (.int x1_0), .val (.int (3 : Int32)), .val (.int (2 : Int32)), .val (.ref b1), .val (.ref b8), .val (.ref b5_3_216), .val (.ref b5_3_31), .val (.ref b5_3_236), .val (.ref b2_4), .val (.ref b5_3_31), .val (.ref b5_3_236), .unset, .unset, .unset] [(.int (3 : Int32))]))
      refine own_step (fun t k => XS.iconst X319.here hx rfl (hb hby at_149) k) ?_
      show own_Ends p.tables e below s _ _ _ (T319.setTop (mkF m 150 #[.val (.int x0_0), .val (.int x1_0), .val (.int (3 : Int32)), .val (.int (2 : Int32)), .val (.ref b1), .val (.ref b8), .val (.ref b5_3_216), .val (.ref b5_3_31), .val (.ref b5_3_236), .val (.ref b2_4), .val (.ref b5_3_31), .val (.ref b5_3_236), .unset, .unset, .unset] [(.int (3 : Int32)), (.int (3 : Int32))]))
      refine own_step (fun t k => XS.icmpNo X319.here hx rfl (hb hby at_150) rfl (flt (by decide : ¬ ((3 : Int32) < (3 : Int32)))).1 k) ?_
      show own_Ends p.tables e below s _ _ _ (T319.setTop (mkF m 153 #[.val (.int x0_0), .val (.int x1_0), .val (.int (3 : Int32)), .val (.int (2 : Int32)), .val (.ref b1), .val (.ref b8), .val (.ref b5_3_216), .val (.ref b5_3_31), .val (.ref b5_3_236), .val (.ref b2_4), .val (.ref b5_3_31), .val (.ref b5_3_236), .unset, .unset, .unset] []))
      refine own_step (fun t k => XS.aload X319.here hx rfl (hb hby at_153) rfl rfl k) ?_
      show own_Ends p.tables e below s _ _ _ (T319.setTop (mkF m 155 #[.val (.int x0_0), .val (.int x1_0), .val (.int (3 : Int32)), .val (.int (2 : Int32)), .val (.ref b1), .val (.ref b8), .val (.ref b5_3_216), .val (.ref b5_3_31), .val (.ref b5_3_236), .val (.ref b2_4), .val (.ref b5_3_31), .val (.ref b5_3_236), .unset, .unset, .unset] [(.ref b8)]))
      refine own_step (fun t k => XS.iloadN X319.here hx rfl (hb hby at_155) rfl k) ?_
      show own_Ends p.tables e below s _ _ _ (T319.setTop (mkF m 156 #[.val (.int x0_0), .val (.int x1_0), .val (.int (3 : Int32)), .val (.int (2 : Int32)), .val (.ref b1), .val (.ref b8), .val (.ref b5_3_216), .val (.ref b5_3_31), .val (.ref b5_3_236), .val (.ref b2_4), .val (.ref b5_3_31), .val (.ref b5_3_236), .unset, .unset, .unset] [(.int (2 : Int32)), (.ref b8)]))
      refine own_step (fun t k => XS.iconst X319.here hx rfl (hb hby at_156) k) ?_
      show own_Ends p.tables e below s _ _ _ (T319.setTop (mkF m 157 #[.val (.int x0_0), .val (.int x1_0), .val (.int (3 : Int32)), .val (.int (2 : Int32)), .val (.ref b1), .val (.ref b8), .val (.ref b5_3_216), .val (.ref b5_3_31), .val (.ref b5_3_236), .val (.ref b2_4), .val (.ref b5_3_31), .val (.ref b5_3_236), .unset, .unset, .unset] [(.int (3 : Int32)), (.int (2 : Int32)), (.ref b8)]))
      obtain ⟨_, _, ⟨T321, L321, k321, n321⟩, -, X321, ⟨Lc321, hQ321, l321, y321, z321⟩, st321⟩ := Jvm.LawKit.callS X319 hx (y := (⟨"com/example/serigraph/serigraph/view/OrderListRemovePinLaw", "at", "([Lcom/example/serigraph/serigraph/view/OrderList$Place;II)Lcom/example/serigraph/serigraph/view/OrderList$Place;"⟩ : MethodName)) hown (mvT hZ (hw _ (List.mem_of_getElem? (i := 57) rfl))) (mvT hZ (hw _ (List.mem_of_getElem? (i := 58) rfl))) (mvT hZ (hw _ (List.mem_of_getElem? (i := 59) rfl))) (mvT hZ (hw _ (List.mem_of_getElem? (i := 60) rfl))) (by decide) (backOf (W := 0) (rm9_2_3 l Z a0 hw [] b8 k8 (5 : Int32) [(.ref b2_4), (.ref b5_3_31), (.ref b5_3_216), (.ref b5_3_236), (.ref b16_4)] .null b16_4 h253 n0 O314 V253 (by decide) rfl) hZ (hw _ (List.mem_of_getElem? (i := 60) rfl)) (hw _ (List.mem_of_getElem? (i := 59) rfl)) (by decide) (by decide)) (g := (mkF m 157 #[.val (.int x0_0), .val (.int x1_0), .val (.int (3 : Int32)), .val (.int (2 : Int32)), .val (.ref b1), .val (.ref b8), .val (.ref b5_3_216), .val (.ref b5_3_31), .val (.ref b5_3_236), .val (.ref b2_4), .val (.ref b5_3_31), .val (.ref b5_3_236), .unset, .unset, .unset] [(.int (3 : Int32)), (.int (2 : Int32)), (.ref b8)])) rfl (by rw [hml]; rfl) (argsL := [(.ref b8), (.int (2 : Int32)), (.int (3 : Int32))]) (rest := []) (lenOf pd_4 rfl) rfl (by show 2 * 0 + _ ≤ _; exact Nat.le_of_eq rfl) (hb hby at_157) (fun _ _ => ⟨rfl, e319, (by decide : 7 + 0 ≤ _), (by decide : 22 + 0 ≤ _)⟩)
      dsimp only [Pt.U, Pt.locs, Pt.cells, Pt.slots] at X321 l321 y321 z321 st321 hQ321
      subst y321 z321
      obtain ⟨rfl, N321q, e321⟩ := hQ321
      refine own_step (fun t k => st321 _ k) ?_
      have N322 : Fr n0 L321 := by rw [l321]; exact Fr.app N320 N321q
      show own_Ends p.tables e below s _ _ _ (T321.setTop (mkF m 160 #[.val (.int x0_0), .val (.int x1_0), .val (.int (3 : Int32)), .val (.int (2 : Int32)), .val (.ref b1), .val (.ref b8), .val (.ref b5_3_216), .val (.ref b5_3_31), .val (.ref b5_3_236), .val (.ref b2_4), .val (.ref b5_3_31), .val (.ref b5_3_236), .unset, .unset, .unset] [(.ref b16_4)]))
      refine own_step (fun t k => XS.goto X321.here hx rfl (pc0 := 160) (pc' := 164) rfl (hb hby at_160) (by decide) (by decide) k) ?_
      show own_Ends p.tables e below s _ _ _ (T321.setTop (mkF m 164 #[.val (.int x0_0), .val (.int x1_0), .val (.int (3 : Int32)), .val (.int (2 : Int32)), .val (.ref b1), .val (.ref b8), .val (.ref b5_3_216), .val (.ref b5_3_31), .val (.ref b5_3_236), .val (.ref b2_4), .val (.ref b5_3_31), .val (.ref b5_3_236), .unset, .unset, .unset] [(.ref b16_4)]))
      refine own_step (fun t k => XS.astore X321.here hx rfl (hb hby at_164) rfl rfl (l' := #[.val (.int x0_0), .val (.int x1_0), .val (.int (3 : Int32)), .val (.int (2 : Int32)), .val (.ref b1), .val (.ref b8), .val (.ref b5_3_216), .val (.ref b5_3_31), .val (.ref b5_3_236), .val (.ref b2_4), .val (.ref b5_3_31), .val (.ref b5_3_236), .val (.ref b16_4), .unset, .unset]) rfl k) ?_
      show own_Ends p.tables e below s _ _ _ (T321.setTop (mkF m 166 #[.val (.int x0_0), .val (.int x1_0), .val (.int (3 : Int32)), .val (.int (2 : Int32)), .val (.ref b1), .val (.ref b8), .val (.ref b5_3_216), .val (.ref b5_3_31), .val (.ref b5_3_236), .val (.ref b2_4), .val (.ref b5_3_31), .val (.ref b5_3_236), .val (.ref b16_4), .unset, .unset] []))
      refine own_step (fun t k => XS.aload X321.here hx rfl (hb hby at_166) rfl rfl k) ?_
      show own_Ends p.tables e below s _ _ _ (T321.setTop (mkF m 168 #[.val (.int x0_0), .val (.int x1_0), .val (.int (3 : Int32)), .val (.int (2 : Int32)), .val (.ref b1), .val (.ref b8), .val (.ref b5_3_216), .val (.ref b5_3_31), .val (.ref b5_3_236), .val (.ref b2_4), .val (.ref b5_3_31), .val (.ref b5_3_236), .val (.ref b16_4), .unset, .unset] [(.ref b1)]))
      refine own_step (fun t k => XS.aload X321.here hx rfl (hb hby at_168) rfl rfl k) ?_
      show own_Ends p.tables e below s _ _ _ (T321.setTop (mkF m 170 #[.val (.int x0_0), .val (.int x1_0), .val (.int (3 : Int32)), .val (.int (2 : Int32)), .val (.ref b1), .val (.ref b8), .val (.ref b5_3_216), .val (.ref b5_3_31), .val (.ref b5_3_236), .val (.ref b2_4), .val (.ref b5_3_31), .val (.ref b5_3_236), .val (.ref b16_4), .unset, .unset] [(.ref b5_3_216), (.ref b1)]))
      have F323 : Fld Z h253 b5_3_216 "com/example/serigraph/serigraph/view/OrderList$Place" "previous" "Lcom/example/serigraph/serigraph/view/OrderList$Place;" (.ref b5_3_31) := ((p236_1.other W243 (Or.inl (Ne.symm ne_b8_b5_3_216))).other W253 (Or.inl (Ne.symm ne_b8_b5_3_216)))
      have F324 : Fld Z h253 b5_3_216 "com/example/serigraph/serigraph/view/OrderList$Place" "next" "Lcom/example/serigraph/serigraph/view/OrderList$Place;" (.ref b5_3_236) := ((p236_2.other W243 (Or.inl (Ne.symm ne_b8_b5_3_216))).other W253 (Or.inl (Ne.symm ne_b8_b5_3_216)))
      have F325 : Exa Z h253 b5_3_31 "com/example/serigraph/serigraph/view/OrderList$Place" := (((F238.keep K236q).wr W243).wr W253)
      have F326 : Fld Z h243 b5_3_31 "com/example/serigraph/serigraph/view/OrderList$Place" "next" "Lcom/example/serigraph/serigraph/view/OrderList$Place;" (.ref b5_3_216) := (((p216_2.other W222 (Or.inl (Ne.symm ne_b8_b5_3_31))).keep K236q (ninS ne_b5_3_31_b5_3_216 (ninS (Ne.symm ne_b16_4_b5_3_31) nin0))).other W243 (Or.inl (Ne.symm ne_b8_b5_3_31)))
      have F327 : Fld Z h253 b5_3_31 "com/example/serigraph/serigraph/view/OrderList$Place" "next" "Lcom/example/serigraph/serigraph/view/OrderList$Place;" (.ref b5_3_216) := (F326.other W253 (Or.inl (Ne.symm ne_b8_b5_3_31)))
      have F328 : Exa Z h253 b5_3_236 "com/example/serigraph/serigraph/view/OrderList$Place" := ((p236_9.wr W243).wr W253)
      have F329 : Fld Z h253 b5_3_236 "com/example/serigraph/serigraph/view/OrderList$Place" "previous" "Lcom/example/serigraph/serigraph/view/OrderList$Place;" (.ref b5_3_216) := ((p236_12.other W243 (Or.inl (Ne.symm ne_b8_b5_3_236))).other W253 (Or.inl (Ne.symm ne_b8_b5_3_236)))
      have F330 : Fld Z h243 b5_3_31 "com/example/serigraph/serigraph/view/OrderList$Place" "label" "J" (.long (4294967296 : Int64)) := (((p216_3.other W222 (Or.inl (Ne.symm ne_b8_b5_3_31))).keep K236q (ninS ne_b5_3_31_b5_3_216 (ninS (Ne.symm ne_b16_4_b5_3_31) nin0))).other W243 (Or.inl (Ne.symm ne_b8_b5_3_31)))
      have F331 : Fld Z h253 b5_3_31 "com/example/serigraph/serigraph/view/OrderList$Place" "label" "J" (.long (4294967296 : Int64)) := (F330.other W253 (Or.inl (Ne.symm ne_b8_b5_3_31)))
      have F332 : Fld Z h243 b5_3_31 "com/example/serigraph/serigraph/view/OrderList$Place" "previous" "Lcom/example/serigraph/serigraph/view/OrderList$Place;" (.ref b2_4) := (((p216_1.other W222 (Or.inl (Ne.symm ne_b8_b5_3_31))).keep K236q (ninS ne_b5_3_31_b5_3_216 (ninS (Ne.symm ne_b16_4_b5_3_31) nin0))).other W243 (Or.inl (Ne.symm ne_b8_b5_3_31)))
      have F333 : Fld Z h253 b5_3_31 "com/example/serigraph/serigraph/view/OrderList$Place" "previous" "Lcom/example/serigraph/serigraph/view/OrderList$Place;" (.ref b2_4) := (F332.other W253 (Or.inl (Ne.symm ne_b8_b5_3_31)))
      have F334 : Fld Z h253 b5_3_236 "com/example/serigraph/serigraph/view/OrderList$Place" "label" "J" (.long (12884901888 : Int64)) := ((p236_10c.other W243 (Or.inl (Ne.symm ne_b8_b5_3_236))).other W253 (Or.inl (Ne.symm ne_b8_b5_3_236)))
      have F335 : Fld Z h253 b5_3_236 "com/example/serigraph/serigraph/view/OrderList$Place" "next" "Lcom/example/serigraph/serigraph/view/OrderList$Place;" (.ref b16_4) := ((p236_11.other W243 (Or.inl (Ne.symm ne_b8_b5_3_236))).other W253 (Or.inl (Ne.symm ne_b8_b5_3_236)))
      have F337 : Exa Z h253 b1 "com/example/serigraph/serigraph/view/OrderList" := (F249.wr W253)
      obtain ⟨cq336, kq336, q336a, q336b, q336c⟩ := isOf hZ e321 F337
      obtain ⟨_, _, ⟨T336, L336, k336, n336⟩, -, X336, ⟨Lc336, hQ336, l336, y336, z336⟩, st336⟩ := X321.virtualBack hx (y := (⟨"com/example/serigraph/serigraph/view/OrderList", "remove", "(Lcom/example/serigraph/serigraph/view/OrderList$Place;)V"⟩ : MethodName)) (z := (⟨"com/example/serigraph/serigraph/view/OrderList", "remove", "(Lcom/example/serigraph/serigraph/view/OrderList$Place;)V"⟩ : MethodName)) hown (mvT hZ (hw _ (List.mem_of_getElem? (i := 61) rfl))) (mvT hZ (hw _ (List.mem_of_getElem? (i := 62) rfl))) (notFace_of_selects (args := #[]) (mvT hZ (hw _ (List.mem_of_getElem? (i := 64) rfl)))) (mvT hZ (hw _ (List.mem_of_getElem? (i := 64) rfl))) (mvT hZ (hw _ (List.mem_of_getElem? (i := 63) rfl))) (by decide) (backOf (W := 0) (rm10 l Z a0 hw [] b1 b5_3_216 (.long (4294967296 : Int64)) (.ref b2_4) (.long (12884901888 : Int64)) (.ref b16_4) b5_3_31 b5_3_236 (.ref b5_3_216) (.ref b5_3_216) h253 n0 O314 F331 F333 F334 F335 F323 F324 F325 F327 g_b5_3_31 (Ne.symm ne_b5_3_31_b5_3_216) F328 F329 (Ne.symm ne_b5_3_31_b5_3_236) g_b5_3_236) hZ (hw _ (List.mem_of_getElem? (i := 65) rfl)) (hw _ (List.mem_of_getElem? (i := 3) rfl)) (by decide) (by decide)) q336a q336c (g := (mkF m 170 #[.val (.int x0_0), .val (.int x1_0), .val (.int (3 : Int32)), .val (.int (2 : Int32)), .val (.ref b1), .val (.ref b8), .val (.ref b5_3_216), .val (.ref b5_3_31), .val (.ref b5_3_236), .val (.ref b2_4), .val (.ref b5_3_31), .val (.ref b5_3_236), .val (.ref b16_4), .unset, .unset] [(.ref b5_3_216), (.ref b1)])) rfl (by rw [hml]; rfl) (Steps.refl _) (argsL := [(.ref b5_3_216)]) (rest := []) (lenOf pd_5 rfl) rfl (by show 2 * 0 + _ ≤ _; exact Nat.le_of_eq rfl) (hb hby at_170) (fun _ _ => ⟨rfl, e321, (by decide : 7 + 0 ≤ _), (by decide : 22 + 0 ≤ _)⟩)
      dsimp only [Pt.U, Pt.locs, Pt.cells, Pt.slots] at X336 l336 y336 z336 st336 hQ336
      subst y336 z336
      obtain ⟨rfl, N336q, K336q, p336_0, p336_1, p336_2, p336_3, p336_4, p336_5, p336_6, p336_7⟩ := hQ336
      refine own_step (fun t k => st336.trans k) ?_
      have N338 : Fr n0 L336 := by rw [l336]; exact Fr.app N322 N336q
      have K339 : Keep h0 T336.heap [] := K254.trans K336q (allS (Or.inr sz_b5_3_31) (allS (Or.inr sz_b5_3_236) all0))
      show own_Ends p.tables e below s _ _ _ (T336.setTop (mkF m 173 #[.val (.int x0_0), .val (.int x1_0), .val (.int (3 : Int32)), .val (.int (2 : Int32)), .val (.ref b1), .val (.ref b8), .val (.ref b5_3_216), .val (.ref b5_3_31), .val (.ref b5_3_236), .val (.ref b2_4), .val (.ref b5_3_31), .val (.ref b5_3_236), .val (.ref b16_4), .unset, .unset] []))
      refine own_step (fun t k => XS.aload X336.here hx rfl (hb hby at_173) rfl rfl k) ?_
      show own_Ends p.tables e below s _ _ _ (T336.setTop (mkF m 175 #[.val (.int x0_0), .val (.int x1_0), .val (.int (3 : Int32)), .val (.int (2 : Int32)), .val (.ref b1), .val (.ref b8), .val (.ref b5_3_216), .val (.ref b5_3_31), .val (.ref b5_3_236), .val (.ref b2_4), .val (.ref b5_3_31), .val (.ref b5_3_236), .val (.ref b16_4), .unset, .unset] [(.ref b5_3_31)]))
      have O340 : Old Z n0 T336.heap := (O314.keep K336q (allS g_b5_3_31 (allS g_b5_3_236 all0)))
      obtain ⟨cq341, kq341, q341a, q341b, q341c⟩ := isOf hZ rfl p336_2
      obtain ⟨_, _, ⟨T341, L341, k341, n341⟩, -, X341, ⟨Lc341, hQ341, l341, y341, z341⟩, st341⟩ := X336.virtualBack hx (y := (⟨"com/example/serigraph/serigraph/view/OrderList$Place", "previous", "()Lcom/example/serigraph/serigraph/view/OrderList$Place;"⟩ : MethodName)) (z := (⟨"com/example/serigraph/serigraph/view/OrderList$Place", "previous", "()Lcom/example/serigraph/serigraph/view/OrderList$Place;"⟩ : MethodName)) hown (mvT hZ (hw _ (List.mem_of_getElem? (i := 66) rfl))) (mvT hZ (hw _ (List.mem_of_getElem? (i := 67) rfl))) (notFace_of_selects (args := #[]) (mvT hZ (hw _ (List.mem_of_getElem? (i := 69) rfl)))) (mvT hZ (hw _ (List.mem_of_getElem? (i := 69) rfl))) (mvT hZ (hw _ (List.mem_of_getElem? (i := 68) rfl))) (by decide) (backOf (W := 0) (rm11 l Z a0 hw [] b5_3_31 b2_4 T336.heap n0 O340 p336_1) hZ (hw _ (List.mem_of_getElem? (i := 70) rfl)) (hw _ (List.mem_of_getElem? (i := 12) rfl)) (by decide) (by decide)) q341a q341c (g := (mkF m 175 #[.val (.int x0_0), .val (.int x1_0), .val (.int (3 : Int32)), .val (.int (2 : Int32)), .val (.ref b1), .val (.ref b8), .val (.ref b5_3_216), .val (.ref b5_3_31), .val (.ref b5_3_236), .val (.ref b2_4), .val (.ref b5_3_31), .val (.ref b5_3_236), .val (.ref b16_4), .unset, .unset] [(.ref b5_3_31)])) rfl (by rw [hml]; rfl) (Steps.refl _) (argsL := []) (rest := []) (lenOf pd_3 rfl) rfl (by show 2 * 0 + _ ≤ _; exact Nat.le_of_eq rfl) (hb hby at_175) (fun _ _ => ⟨rfl, rfl, (by decide : 7 + 0 ≤ _), (by decide : 22 + 0 ≤ _)⟩)
      dsimp only [Pt.U, Pt.locs, Pt.cells, Pt.slots] at X341 l341 y341 z341 st341 hQ341
      subst y341 z341
      obtain ⟨rfl, N341q, e341⟩ := hQ341
      refine own_step (fun t k => st341.trans k) ?_
      have N342 : Fr n0 L341 := by rw [l341]; exact Fr.app N338 N341q
      show own_Ends p.tables e below s _ _ _ (T341.setTop (mkF m 178 #[.val (.int x0_0), .val (.int x1_0), .val (.int (3 : Int32)), .val (.int (2 : Int32)), .val (.ref b1), .val (.ref b8), .val (.ref b5_3_216), .val (.ref b5_3_31), .val (.ref b5_3_236), .val (.ref b2_4), .val (.ref b5_3_31), .val (.ref b5_3_236), .val (.ref b16_4), .unset, .unset] [(.ref b2_4)]))
      refine own_step (fun t k => XS.aload X341.here hx rfl (hb hby at_178) rfl rfl k) ?_
      show own_Ends p.tables e below s _ _ _ (T341.setTop (mkF m 180 #[.val (.int x0_0), .val (.int x1_0), .val (.int (3 : Int32)), .val (.int (2 : Int32)), .val (.ref b1), .val (.ref b8), .val (.ref b5_3_216), .val (.ref b5_3_31), .val (.ref b5_3_236), .val (.ref b2_4), .val (.ref b5_3_31), .val (.ref b5_3_236), .val (.ref b16_4), .unset, .unset] [(.ref b2_4), (.ref b2_4)]))
      refine own_step (fun t k => Jvm.RoadKit.acmp (g := (mkF m 180 #[.val (.int x0_0), .val (.int x1_0), .val (.int (3 : Int32)), .val (.int (2 : Int32)), .val (.ref b1), .val (.ref b8), .val (.ref b5_3_216), .val (.ref b5_3_31), .val (.ref b5_3_236), .val (.ref b2_4), .val (.ref b5_3_31), .val (.ref b5_3_236), .val (.ref b16_4), .unset, .unset] [(.ref b2_4), (.ref b2_4)])) X341 hx rfl rfl rfl (pc0 := 180) (pc' := 183) (same := true) rfl (hb hby at_180) rfl (decide_eq_true rfl) (by decide) (by decide) k) ?_
      show own_Ends p.tables e below s _ _ _ (T341.setTop (mkF m 183 #[.val (.int x0_0), .val (.int x1_0), .val (.int (3 : Int32)), .val (.int (2 : Int32)), .val (.ref b1), .val (.ref b8), .val (.ref b5_3_216), .val (.ref b5_3_31), .val (.ref b5_3_236), .val (.ref b2_4), .val (.ref b5_3_31), .val (.ref b5_3_236), .val (.ref b16_4), .unset, .unset] []))
      refine own_step (fun t k => XS.iconst X341.here hx rfl (hb hby at_183) k) ?_
      show own_Ends p.tables e below s _ _ _ (T341.setTop (mkF m 184 #[.val (.int x0_0), .val (.int x1_0), .val (.int (3 : Int32)), .val (.int (2 : Int32)), .val (.ref b1), .val (.ref b8), .val (.ref b5_3_216), .val (.ref b5_3_31), .val (.ref b5_3_236), .val (.ref b2_4), .val (.ref b5_3_31), .val (.ref b5_3_236), .val (.ref b16_4), .unset, .unset] [(.int (1 : Int32))]))
      refine own_step (fun t k => XS.goto X341.here hx rfl (pc0 := 184) (pc' := 188) rfl (hb hby at_184) (by decide) (by decide) k) ?_
      show own_Ends p.tables e below s _ _ _ (T341.setTop (mkF m 188 #[.val (.int x0_0), .val (.int x1_0), .val (.int (3 : Int32)), .val (.int (2 : Int32)), .val (.ref b1), .val (.ref b8), .val (.ref b5_3_216), .val (.ref b5_3_31), .val (.ref b5_3_236), .val (.ref b2_4), .val (.ref b5_3_31), .val (.ref b5_3_236), .val (.ref b16_4), .unset, .unset] [(.int (1 : Int32))]))
      refine own_step (fun t k => XS.istore X341.here hx rfl (hb hby at_188) rfl (l' := #[.val (.int x0_0), .val (.int x1_0), .val (.int (3 : Int32)), .val (.int (2 : Int32)), .val (.ref b1), .val (.ref b8), .val (.ref b5_3_216), .val (.ref b5_3_31), .val (.ref b5_3_236), .val (.ref b2_4), .val (.ref b5_3_31), .val (.ref b5_3_236), .val (.ref b16_4), .val (.int (1 : Int32)), .unset]) rfl k) ?_
      show own_Ends p.tables e below s _ _ _ (T341.setTop (mkF m 190 #[.val (.int x0_0), .val (.int x1_0), .val (.int (3 : Int32)), .val (.int (2 : Int32)), .val (.ref b1), .val (.ref b8), .val (.ref b5_3_216), .val (.ref b5_3_31), .val (.ref b5_3_236), .val (.ref b2_4), .val (.ref b5_3_31), .val (.ref b5_3_236), .val (.ref b16_4), .val (.int (1 : Int32)), .unset] []))
      refine own_step (fun t k => XS.iloadN X341.here hx rfl (hb hby at_190) rfl k) ?_
      show own_Ends p.tables e below s _ _ _ (T341.setTop (mkF m 191 #[.val (.int x0_0), .val (.int x1_0), .val (.int (3 : Int32)), .val (.int (2 : Int32)), .val (.ref b1), .val (.ref b8), .val (.ref b5_3_216), .val (.ref b5_3_31), .val (.ref b5_3_236), .val (.ref b2_4), .val (.ref b5_3_31), .val (.ref b5_3_236), .val (.ref b16_4), .val (.int (1 : Int32)), .unset] [(.int (3 : Int32))]))
      refine own_step (fun t k => XS.iconst X341.here hx rfl (hb hby at_191) k) ?_
      show own_Ends p.tables e below s _ _ _ (T341.setTop (mkF m 192 #[.val (.int x0_0), .val (.int x1_0), .val (.int (3 : Int32)), .val (.int (2 : Int32)), .val (.ref b1), .val (.ref b8), .val (.ref b5_3_216), .val (.ref b5_3_31), .val (.ref b5_3_236), .val (.ref b2_4), .val (.ref b5_3_31), .val (.ref b5_3_236), .val (.ref b16_4), .val (.int (1 : Int32)), .unset] [(.int (2 : Int32)), (.int (3 : Int32))]))
      refine own_step (fun t k => XS.icmpNo X341.here hx rfl (hb hby at_192) rfl (flt (by decide : ¬ ((3 : Int32) < (2 : Int32)))).1 k) ?_
      show own_Ends p.tables e below s _ _ _ (T341.setTop (mkF m 195 #[.val (.int x0_0), .val (.int x1_0), .val (.int (3 : Int32)), .val (.int (2 : Int32)), .val (.ref b1), .val (.ref b8), .val (.ref b5_3_216), .val (.ref b5_3_31), .val (.ref b5_3_236), .val (.ref b2_4), .val (.ref b5_3_31), .val (.ref b5_3_236), .val (.ref b16_4), .val (.int (1 : Int32)), .unset] []))
      refine own_step (fun t k => XS.iload X341.here hx rfl (hb hby at_195) rfl k) ?_
      show own_Ends p.tables e below s _ _ _ (T341.setTop (mkF m 197 #[.val (.int x0_0), .val (.int x1_0), .val (.int (3 : Int32)), .val (.int (2 : Int32)), .val (.ref b1), .val (.ref b8), .val (.ref b5_3_216), .val (.ref b5_3_31), .val (.ref b5_3_236), .val (.ref b2_4), .val (.ref b5_3_31), .val (.ref b5_3_236), .val (.ref b16_4), .val (.int (1 : Int32)), .unset] [(.int (1 : Int32))]))
      refine own_step (fun t k => XS.ifNo X341.here hx rfl (hb hby at_197) rfl ((if0 _ _).trans (feq (by decide : ¬ ((1 : Int32) = (0 : Int32)))).1) k) ?_
      show own_Ends p.tables e below s _ _ _ (T341.setTop (mkF m 200 #[.val (.int x0_0), .val (.int x1_0), .val (.int (3 : Int32)), .val (.int (2 : Int32)), .val (.ref b1), .val (.ref b8), .val (.ref b5_3_216), .val (.ref b5_3_31), .val (.ref b5_3_236), .val (.ref b2_4), .val (.ref b5_3_31), .val (.ref b5_3_236), .val (.ref b16_4), .val (.int (1 : Int32)), .unset] []))
      refine own_step (fun t k => XS.aload X341.here hx rfl (hb hby at_200) rfl rfl k) ?_
      show own_Ends p.tables e below s _ _ _ (T341.setTop (mkF m 202 #[.val (.int x0_0), .val (.int x1_0), .val (.int (3 : Int32)), .val (.int (2 : Int32)), .val (.ref b1), .val (.ref b8), .val (.ref b5_3_216), .val (.ref b5_3_31), .val (.ref b5_3_236), .val (.ref b2_4), .val (.ref b5_3_31), .val (.ref b5_3_236), .val (.ref b16_4), .val (.int (1 : Int32)), .unset] [(.ref b5_3_236)]))
      obtain ⟨cq343, kq343, q343a, q343b, q343c⟩ := isOf hZ e341 p336_6
      obtain ⟨_, _, ⟨T343, L343, k343, n343⟩, -, X343, ⟨Lc343, hQ343, l343, y343, z343⟩, st343⟩ := X341.virtualBack hx (y := (⟨"com/example/serigraph/serigraph/view/OrderList$Place", "previous", "()Lcom/example/serigraph/serigraph/view/OrderList$Place;"⟩ : MethodName)) (z := (⟨"com/example/serigraph/serigraph/view/OrderList$Place", "previous", "()Lcom/example/serigraph/serigraph/view/OrderList$Place;"⟩ : MethodName)) hown (mvT hZ (hw _ (List.mem_of_getElem? (i := 66) rfl))) (mvT hZ (hw _ (List.mem_of_getElem? (i := 67) rfl))) (notFace_of_selects (args := #[]) (mvT hZ (hw _ (List.mem_of_getElem? (i := 69) rfl)))) (mvT hZ (hw _ (List.mem_of_getElem? (i := 69) rfl))) (mvT hZ (hw _ (List.mem_of_getElem? (i := 68) rfl))) (by decide) (backOf (W := 0) (rm11 l Z a0 hw [] b5_3_236 b5_3_31 T336.heap n0 O340 p336_7) hZ (hw _ (List.mem_of_getElem? (i := 70) rfl)) (hw _ (List.mem_of_getElem? (i := 12) rfl)) (by decide) (by decide)) q343a q343c (g := (mkF m 202 #[.val (.int x0_0), .val (.int x1_0), .val (.int (3 : Int32)), .val (.int (2 : Int32)), .val (.ref b1), .val (.ref b8), .val (.ref b5_3_216), .val (.ref b5_3_31), .val (.ref b5_3_236), .val (.ref b2_4), .val (.ref b5_3_31), .val (.ref b5_3_236), .val (.ref b16_4), .val (.int (1 : Int32)), .unset] [(.ref b5_3_236)])) rfl (by rw [hml]; rfl) (Steps.refl _) (argsL := []) (rest := []) (lenOf pd_3 rfl) rfl (by show 2 * 0 + _ ≤ _; exact Nat.le_of_eq rfl) (hb hby at_202) (fun _ _ => ⟨rfl, e341, (by decide : 7 + 0 ≤ _), (by decide : 22 + 0 ≤ _)⟩)
      dsimp only [Pt.U, Pt.locs, Pt.cells, Pt.slots] at X343 l343 y343 z343 st343 hQ343
      subst y343 z343
      obtain ⟨rfl, N343q, e343⟩ := hQ343
      refine own_step (fun t k => st343.trans k) ?_
      have N344 : Fr n0 L343 := by rw [l343]; exact Fr.app N342 N343q
      show own_Ends p.tables e below s _ _ _ (T343.setTop (mkF m 205 #[.val (.int x0_0), .val (.int x1_0), .val (.int (3 : Int32)), .val (.int (2 : Int32)), .val (.ref b1), .val (.ref b8), .val (.ref b5_3_216), .val (.ref b5_3_31), .val (.ref b5_3_236), .val (.ref b2_4), .val (.ref b5_3_31), .val (.ref b5_3_236), .val (.ref b16_4), .val (.int (1 : Int32)), .unset] [(.ref b5_3_31)]))
      refine own_step (fun t k => XS.aload X343.here hx rfl (hb hby at_205) rfl rfl k) ?_
      show own_Ends p.tables e below s _ _ _ (T343.setTop (mkF m 207 #[.val (.int x0_0), .val (.int x1_0), .val (.int (3 : Int32)), .val (.int (2 : Int32)), .val (.ref b1), .val (.ref b8), .val (.ref b5_3_216), .val (.ref b5_3_31), .val (.ref b5_3_236), .val (.ref b2_4), .val (.ref b5_3_31), .val (.ref b5_3_236), .val (.ref b16_4), .val (.int (1 : Int32)), .unset] [(.ref b5_3_31), (.ref b5_3_31)]))
      refine own_step (fun t k => Jvm.RoadKit.acmp (g := (mkF m 207 #[.val (.int x0_0), .val (.int x1_0), .val (.int (3 : Int32)), .val (.int (2 : Int32)), .val (.ref b1), .val (.ref b8), .val (.ref b5_3_216), .val (.ref b5_3_31), .val (.ref b5_3_236), .val (.ref b2_4), .val (.ref b5_3_31), .val (.ref b5_3_236), .val (.ref b16_4), .val (.int (1 : Int32)), .unset] [(.ref b5_3_31), (.ref b5_3_31)])) X343 hx rfl rfl rfl (pc0 := 207) (pc' := 210) (same := true) rfl (hb hby at_207) rfl (decide_eq_true rfl) (by decide) (by decide) k) ?_
      show own_Ends p.tables e below s _ _ _ (T343.setTop (mkF m 210 #[.val (.int x0_0), .val (.int x1_0), .val (.int (3 : Int32)), .val (.int (2 : Int32)), .val (.ref b1), .val (.ref b8), .val (.ref b5_3_216), .val (.ref b5_3_31), .val (.ref b5_3_236), .val (.ref b2_4), .val (.ref b5_3_31), .val (.ref b5_3_236), .val (.ref b16_4), .val (.int (1 : Int32)), .unset] []))
      refine own_step (fun t k => XS.iconst X343.here hx rfl (hb hby at_210) k) ?_
      show own_Ends p.tables e below s _ _ _ (T343.setTop (mkF m 211 #[.val (.int x0_0), .val (.int x1_0), .val (.int (3 : Int32)), .val (.int (2 : Int32)), .val (.ref b1), .val (.ref b8), .val (.ref b5_3_216), .val (.ref b5_3_31), .val (.ref b5_3_236), .val (.ref b2_4), .val (.ref b5_3_31), .val (.ref b5_3_236), .val (.ref b16_4), .val (.int (1 : Int32)), .unset] [(.int (1 : Int32))]))
      refine own_step (fun t k => XS.goto X343.here hx rfl (pc0 := 211) (pc' := 215) rfl (hb hby at_211) (by decide) (by decide) k) ?_
      show own_Ends p.tables e below s _ _ _ (T343.setTop (mkF m 215 #[.val (.int x0_0), .val (.int x1_0), .val (.int (3 : Int32)), .val (.int (2 : Int32)), .val (.ref b1), .val (.ref b8), .val (.ref b5_3_216), .val (.ref b5_3_31), .val (.ref b5_3_236), .val (.ref b2_4), .val (.ref b5_3_31), .val (.ref b5_3_236), .val (.ref b16_4), .val (.int (1 : Int32)), .unset] [(.int (1 : Int32))]))
      refine own_step (fun t k => XS.istore X343.here hx rfl (hb hby at_215) rfl (l' := #[.val (.int x0_0), .val (.int x1_0), .val (.int (3 : Int32)), .val (.int (2 : Int32)), .val (.ref b1), .val (.ref b8), .val (.ref b5_3_216), .val (.ref b5_3_31), .val (.ref b5_3_236), .val (.ref b2_4), .val (.ref b5_3_31), .val (.ref b5_3_236), .val (.ref b16_4), .val (.int (1 : Int32)), .unset]) rfl k) ?_
      show own_Ends p.tables e below s _ _ _ (T343.setTop (mkF m 217 #[.val (.int x0_0), .val (.int x1_0), .val (.int (3 : Int32)), .val (.int (2 : Int32)), .val (.ref b1), .val (.ref b8), .val (.ref b5_3_216), .val (.ref b5_3_31), .val (.ref b5_3_236), .val (.ref b2_4), .val (.ref b5_3_31), .val (.ref b5_3_236), .val (.ref b16_4), .val (.int (1 : Int32)), .unset] []))
      refine own_step (fun t k => XS.iloadN X343.here hx rfl (hb hby at_217) rfl k) ?_
      show own_Ends p.tables e below s _ _ _ (T343.setTop (mkF m 218 #[.val (.int x0_0), .val (.int x1_0), .val (.int (3 : Int32)), .val (.int (2 : Int32)), .val (.ref b1), .val (.ref b8), .val (.ref b5_3_216), .val (.ref b5_3_31), .val (.ref b5_3_236), .val (.ref b2_4), .val (.ref b5_3_31), .val (.ref b5_3_236), .val (.ref b16_4), .val (.int (1 : Int32)), .unset] [(.int (3 : Int32))]))
      refine own_step (fun t k => XS.iconst X343.here hx rfl (hb hby at_218) k) ?_
      show own_Ends p.tables e below s _ _ _ (T343.setTop (mkF m 219 #[.val (.int x0_0), .val (.int x1_0), .val (.int (3 : Int32)), .val (.int (2 : Int32)), .val (.ref b1), .val (.ref b8), .val (.ref b5_3_216), .val (.ref b5_3_31), .val (.ref b5_3_236), .val (.ref b2_4), .val (.ref b5_3_31), .val (.ref b5_3_236), .val (.ref b16_4), .val (.int (1 : Int32)), .unset] [(.int (3 : Int32)), (.int (3 : Int32))]))
      refine own_step (fun t k => XS.icmpNo X343.here hx rfl (hb hby at_219) rfl (flt (by decide : ¬ ((3 : Int32) < (3 : Int32)))).1 k) ?_
      show own_Ends p.tables e below s _ _ _ (T343.setTop (mkF m 222 #[.val (.int x0_0), .val (.int x1_0), .val (.int (3 : Int32)), .val (.int (2 : Int32)), .val (.ref b1), .val (.ref b8), .val (.ref b5_3_216), .val (.ref b5_3_31), .val (.ref b5_3_236), .val (.ref b2_4), .val (.ref b5_3_31), .val (.ref b5_3_236), .val (.ref b16_4), .val (.int (1 : Int32)), .unset] []))
      refine own_step (fun t k => XS.iload X343.here hx rfl (hb hby at_222) rfl k) ?_
      show own_Ends p.tables e below s _ _ _ (T343.setTop (mkF m 224 #[.val (.int x0_0), .val (.int x1_0), .val (.int (3 : Int32)), .val (.int (2 : Int32)), .val (.ref b1), .val (.ref b8), .val (.ref b5_3_216), .val (.ref b5_3_31), .val (.ref b5_3_236), .val (.ref b2_4), .val (.ref b5_3_31), .val (.ref b5_3_236), .val (.ref b16_4), .val (.int (1 : Int32)), .unset] [(.int (1 : Int32))]))
      refine own_step (fun t k => XS.ifNo X343.here hx rfl (hb hby at_224) rfl ((if0 _ _).trans (feq (by decide : ¬ ((1 : Int32) = (0 : Int32)))).1) k) ?_
      show own_Ends p.tables e below s _ _ _ (T343.setTop (mkF m 227 #[.val (.int x0_0), .val (.int x1_0), .val (.int (3 : Int32)), .val (.int (2 : Int32)), .val (.ref b1), .val (.ref b8), .val (.ref b5_3_216), .val (.ref b5_3_31), .val (.ref b5_3_236), .val (.ref b2_4), .val (.ref b5_3_31), .val (.ref b5_3_236), .val (.ref b16_4), .val (.int (1 : Int32)), .unset] []))
      refine own_step (fun t k => XS.aload X343.here hx rfl (hb hby at_227) rfl rfl k) ?_
      show own_Ends p.tables e below s _ _ _ (T343.setTop (mkF m 229 #[.val (.int x0_0), .val (.int x1_0), .val (.int (3 : Int32)), .val (.int (2 : Int32)), .val (.ref b1), .val (.ref b8), .val (.ref b5_3_216), .val (.ref b5_3_31), .val (.ref b5_3_236), .val (.ref b2_4), .val (.ref b5_3_31), .val (.ref b5_3_236), .val (.ref b16_4), .val (.int (1 : Int32)), .unset] [(.ref b16_4)]))
      have F345 : Fld Z T336.heap b16_4 "com/example/serigraph/serigraph/view/OrderList$Place" "previous" "Lcom/example/serigraph/serigraph/view/OrderList$Place;" (.ref b5_3_236) := (((p236_7.other W243 (Or.inl ne_b16_4_b8)).other W253 (Or.inl ne_b16_4_b8)).keep K336q (ninS ne_b16_4_b5_3_31 (ninS ne_b16_4_b5_3_236 nin0)))
      have F347 : Exa Z T336.heap b16_4 "com/example/serigraph/serigraph/view/OrderList$Place" := ((F252.wr W253).keep K336q)
      obtain ⟨cq346, kq346, q346a, q346b, q346c⟩ := isOf hZ e343 F347
      obtain ⟨_, _, ⟨T346, L346, k346, n346⟩, -, X346, ⟨Lc346, hQ346, l346, y346, z346⟩, st346⟩ := X343.virtualBack hx (y := (⟨"com/example/serigraph/serigraph/view/OrderList$Place", "previous", "()Lcom/example/serigraph/serigraph/view/OrderList$Place;"⟩ : MethodName)) (z := (⟨"com/example/serigraph/serigraph/view/OrderList$Place", "previous", "()Lcom/example/serigraph/serigraph/view/OrderList$Place;"⟩ : MethodName)) hown (mvT hZ (hw _ (List.mem_of_getElem? (i := 66) rfl))) (mvT hZ (hw _ (List.mem_of_getElem? (i := 67) rfl))) (notFace_of_selects (args := #[]) (mvT hZ (hw _ (List.mem_of_getElem? (i := 69) rfl)))) (mvT hZ (hw _ (List.mem_of_getElem? (i := 69) rfl))) (mvT hZ (hw _ (List.mem_of_getElem? (i := 68) rfl))) (by decide) (backOf (W := 0) (rm11 l Z a0 hw [] b16_4 b5_3_236 T336.heap n0 O340 F345) hZ (hw _ (List.mem_of_getElem? (i := 70) rfl)) (hw _ (List.mem_of_getElem? (i := 12) rfl)) (by decide) (by decide)) q346a q346c (g := (mkF m 229 #[.val (.int x0_0), .val (.int x1_0), .val (.int (3 : Int32)), .val (.int (2 : Int32)), .val (.ref b1), .val (.ref b8), .val (.ref b5_3_216), .val (.ref b5_3_31), .val (.ref b5_3_236), .val (.ref b2_4), .val (.ref b5_3_31), .val (.ref b5_3_236), .val (.ref b16_4), .val (.int (1 : Int32)), .unset] [(.ref b16_4)])) rfl (by rw [hml]; rfl) (Steps.refl _) (argsL := []) (rest := []) (lenOf pd_3 rfl) rfl (by show 2 * 0 + _ ≤ _; exact Nat.le_of_eq rfl) (hb hby at_229) (fun _ _ => ⟨rfl, e343, (by decide : 7 + 0 ≤ _), (by decide : 22 + 0 ≤ _)⟩)
      dsimp only [Pt.U, Pt.locs, Pt.cells, Pt.slots] at X346 l346 y346 z346 st346 hQ346
      subst y346 z346
      obtain ⟨rfl, N346q, e346⟩ := hQ346
      refine own_step (fun t k => st346.trans k) ?_
      have N348 : Fr n0 L346 := by rw [l346]; exact Fr.app N344 N346q
      show own_Ends p.tables e below s _ _ _ (T346.setTop (mkF m 232 #[.val (.int x0_0), .val (.int x1_0), .val (.int (3 : Int32)), .val (.int (2 : Int32)), .val (.ref b1), .val (.ref b8), .val (.ref b5_3_216), .val (.ref b5_3_31), .val (.ref b5_3_236), .val (.ref b2_4), .val (.ref b5_3_31), .val (.ref b5_3_236), .val (.ref b16_4), .val (.int (1 : Int32)), .unset] [(.ref b5_3_236)]))
      refine own_step (fun t k => XS.aload X346.here hx rfl (hb hby at_232) rfl rfl k) ?_
      show own_Ends p.tables e below s _ _ _ (T346.setTop (mkF m 234 #[.val (.int x0_0), .val (.int x1_0), .val (.int (3 : Int32)), .val (.int (2 : Int32)), .val (.ref b1), .val (.ref b8), .val (.ref b5_3_216), .val (.ref b5_3_31), .val (.ref b5_3_236), .val (.ref b2_4), .val (.ref b5_3_31), .val (.ref b5_3_236), .val (.ref b16_4), .val (.int (1 : Int32)), .unset] [(.ref b5_3_236), (.ref b5_3_236)]))
      refine own_step (fun t k => Jvm.RoadKit.acmp (g := (mkF m 234 #[.val (.int x0_0), .val (.int x1_0), .val (.int (3 : Int32)), .val (.int (2 : Int32)), .val (.ref b1), .val (.ref b8), .val (.ref b5_3_216), .val (.ref b5_3_31), .val (.ref b5_3_236), .val (.ref b2_4), .val (.ref b5_3_31), .val (.ref b5_3_236), .val (.ref b16_4), .val (.int (1 : Int32)), .unset] [(.ref b5_3_236), (.ref b5_3_236)])) X346 hx rfl rfl rfl (pc0 := 234) (pc' := 237) (same := true) rfl (hb hby at_234) rfl (decide_eq_true rfl) (by decide) (by decide) k) ?_
      show own_Ends p.tables e below s _ _ _ (T346.setTop (mkF m 237 #[.val (.int x0_0), .val (.int x1_0), .val (.int (3 : Int32)), .val (.int (2 : Int32)), .val (.ref b1), .val (.ref b8), .val (.ref b5_3_216), .val (.ref b5_3_31), .val (.ref b5_3_236), .val (.ref b2_4), .val (.ref b5_3_31), .val (.ref b5_3_236), .val (.ref b16_4), .val (.int (1 : Int32)), .unset] []))
      refine own_step (fun t k => XS.iconst X346.here hx rfl (hb hby at_237) k) ?_
      show own_Ends p.tables e below s _ _ _ (T346.setTop (mkF m 238 #[.val (.int x0_0), .val (.int x1_0), .val (.int (3 : Int32)), .val (.int (2 : Int32)), .val (.ref b1), .val (.ref b8), .val (.ref b5_3_216), .val (.ref b5_3_31), .val (.ref b5_3_236), .val (.ref b2_4), .val (.ref b5_3_31), .val (.ref b5_3_236), .val (.ref b16_4), .val (.int (1 : Int32)), .unset] [(.int (1 : Int32))]))
      refine own_step (fun t k => XS.goto X346.here hx rfl (pc0 := 238) (pc' := 242) rfl (hb hby at_238) (by decide) (by decide) k) ?_
      show own_Ends p.tables e below s _ _ _ (T346.setTop (mkF m 242 #[.val (.int x0_0), .val (.int x1_0), .val (.int (3 : Int32)), .val (.int (2 : Int32)), .val (.ref b1), .val (.ref b8), .val (.ref b5_3_216), .val (.ref b5_3_31), .val (.ref b5_3_236), .val (.ref b2_4), .val (.ref b5_3_31), .val (.ref b5_3_236), .val (.ref b16_4), .val (.int (1 : Int32)), .unset] [(.int (1 : Int32))]))
      refine own_step (fun t k => XS.istore X346.here hx rfl (hb hby at_242) rfl (l' := #[.val (.int x0_0), .val (.int x1_0), .val (.int (3 : Int32)), .val (.int (2 : Int32)), .val (.ref b1), .val (.ref b8), .val (.ref b5_3_216), .val (.ref b5_3_31), .val (.ref b5_3_236), .val (.ref b2_4), .val (.ref b5_3_31), .val (.ref b5_3_236), .val (.ref b16_4), .val (.int (1 : Int32)), .unset]) rfl k) ?_
      show own_Ends p.tables e below s _ _ _ (T346.setTop (mkF m 244 #[.val (.int x0_0), .val (.int x1_0), .val (.int (3 : Int32)), .val (.int (2 : Int32)), .val (.ref b1), .val (.ref b8), .val (.ref b5_3_216), .val (.ref b5_3_31), .val (.ref b5_3_236), .val (.ref b2_4), .val (.ref b5_3_31), .val (.ref b5_3_236), .val (.ref b16_4), .val (.int (1 : Int32)), .unset] []))
      refine own_step (fun t k => XS.aload X346.here hx rfl (hb hby at_244) rfl rfl k) ?_
      show own_Ends p.tables e below s _ _ _ (T346.setTop (mkF m 246 #[.val (.int x0_0), .val (.int x1_0), .val (.int (3 : Int32)), .val (.int (2 : Int32)), .val (.ref b1), .val (.ref b8), .val (.ref b5_3_216), .val (.ref b5_3_31), .val (.ref b5_3_236), .val (.ref b2_4), .val (.ref b5_3_31), .val (.ref b5_3_236), .val (.ref b16_4), .val (.int (1 : Int32)), .unset] [(.ref b1)]))
      refine own_step (fun t k => XS.aload X346.here hx rfl (hb hby at_246) rfl rfl k) ?_
      show own_Ends p.tables e below s _ _ _ (T346.setTop (mkF m 248 #[.val (.int x0_0), .val (.int x1_0), .val (.int (3 : Int32)), .val (.int (2 : Int32)), .val (.ref b1), .val (.ref b8), .val (.ref b5_3_216), .val (.ref b5_3_31), .val (.ref b5_3_236), .val (.ref b2_4), .val (.ref b5_3_31), .val (.ref b5_3_236), .val (.ref b16_4), .val (.int (1 : Int32)), .unset] [(.ref b5_3_31), (.ref b1)]))
      have F350 : Exa Z T336.heap b1 "com/example/serigraph/serigraph/view/OrderList" := (F337.keep K336q)
      obtain ⟨cq349, kq349, q349a, q349b, q349c⟩ := isOf hZ e346 F350
      obtain ⟨_, _, ⟨T349, L349, k349, n349⟩, -, X349, ⟨Lc349, hQ349, l349, y349, z349⟩, st349⟩ := X346.virtualBack hx (y := (⟨"com/example/serigraph/serigraph/view/OrderList", "insertAfter", "(Lcom/example/serigraph/serigraph/view/OrderList$Place;)Lcom/example/serigraph/serigraph/view/OrderList$Place;"⟩ : MethodName)) (z := (⟨"com/example/serigraph/serigraph/view/OrderList", "insertAfter", "(Lcom/example/serigraph/serigraph/view/OrderList$Place;)Lcom/example/serigraph/serigraph/view/OrderList$Place;"⟩ : MethodName)) hown (mvT hZ (hw _ (List.mem_of_getElem? (i := 72) rfl))) (mvT hZ (hw _ (List.mem_of_getElem? (i := 42) rfl))) (notFace_of_selects (args := #[]) (mvT hZ (hw _ (List.mem_of_getElem? (i := 44) rfl)))) (mvT hZ (hw _ (List.mem_of_getElem? (i := 44) rfl))) (mvT hZ (hw _ (List.mem_of_getElem? (i := 43) rfl))) (by decide) (backOf (W := 0) (rm6 l Z a0 hw [] b1 b5_3_31 (.ref b16_4) (.ref b2_4) b5_3_236 (12884901888 : Int64) (4294967296 : Int64) (.ref b5_3_31) T336.heap n0 O340 (by decide +kernel) p336_5 p336_1 p336_3 p336_4 p336_0 p336_6 p336_7 g_b5_3_236 p336_2 ne_b5_3_31_b5_3_236 g_b5_3_31) hZ (hw _ (List.mem_of_getElem? (i := 45) rfl)) (hw _ (List.mem_of_getElem? (i := 3) rfl)) (by decide) (by decide)) q349a q349c (g := (mkF m 248 #[.val (.int x0_0), .val (.int x1_0), .val (.int (3 : Int32)), .val (.int (2 : Int32)), .val (.ref b1), .val (.ref b8), .val (.ref b5_3_216), .val (.ref b5_3_31), .val (.ref b5_3_236), .val (.ref b2_4), .val (.ref b5_3_31), .val (.ref b5_3_236), .val (.ref b16_4), .val (.int (1 : Int32)), .unset] [(.ref b5_3_31), (.ref b1)])) rfl (by rw [hml]; rfl) (Steps.refl _) (argsL := [(.ref b5_3_31)]) (rest := []) (lenOf pd_2 rfl) rfl (by show 2 * 0 + _ ≤ _; exact Nat.le_of_eq rfl) (hb hby at_248) (fun _ _ => ⟨rfl, e346, (by decide : 7 + 1 ≤ _), (by decide : 22 + 3 ≤ _)⟩)
      dsimp only [Pt.U, Pt.locs, Pt.cells, Pt.slots] at X349 l349 y349 z349 st349 hQ349
      subst y349 z349
      have F351 : Exa Z h253 b2_4 "com/example/serigraph/serigraph/view/OrderList$Place" := (((F237.keep K236q).wr W243).wr W253)
      have F352 : Exa Z T336.heap b2_4 "com/example/serigraph/serigraph/view/OrderList$Place" := (F351.keep K336q)
      have F353 : Arv Z T336.heap b8 k8 (.object "com/example/serigraph/serigraph/view/OrderList$Place") (5 : Int32) [(.ref b2_4), (.ref b5_3_31), (.ref b5_3_216), (.ref b5_3_236), (.ref b16_4)] .null := (V253.keep K336q (ninS ne_b8_b5_3_31 (ninS ne_b8_b5_3_236 nin0)))
      have F354 : Exa Z T336.heap b5_3_216 "com/example/serigraph/serigraph/view/OrderList$Place" := (((p236_4.wr W243).wr W253).keep K336q)
      obtain ⟨b5_349, rfl, N349q, K349q, p349_0, p349_1, p349_2, p349_3, p349_4, p349_5, p349_6, p349_7, p349_8, p349_9, p349_10, p349_11, p349_12⟩ := hQ349
      refine own_step (fun t k => st349.trans k) ?_
      have N355 : Fr n0 L349 := by rw [l349]; exact Fr.app N348 N349q
      have sz_b5_349 : h0.size ≤ b5_349 := Nat.le_trans K339.1 p349_0
      have g_b5_349 : n0 ≤ b5_349 := Nat.le_trans (Nat.le_trans (Nat.le_of_eq O340.1.symm) O340.2.1) p349_0
      have ne_b1_b5_349 : b1 ≠ b5_349 := Nat.ne_of_lt (Nat.lt_of_lt_of_le F350.lt p349_0)
      have ne_b2_4_b5_349 : b2_4 ≠ b5_349 := Nat.ne_of_lt (Nat.lt_of_lt_of_le F352.lt p349_0)
      have ne_b16_4_b5_349 : b16_4 ≠ b5_349 := Nat.ne_of_lt (Nat.lt_of_lt_of_le F347.lt p349_0)
      have ne_b8_b5_349 : b8 ≠ b5_349 := Nat.ne_of_lt (Nat.lt_of_lt_of_le F353.lt p349_0)
      have ne_b5_3_31_b5_349 : b5_3_31 ≠ b5_349 := Nat.ne_of_lt (Nat.lt_of_lt_of_le p336_2.lt p349_0)
      have ne_b5_3_216_b5_349 : b5_3_216 ≠ b5_349 := Nat.ne_of_lt (Nat.lt_of_lt_of_le F354.lt p349_0)
      have ne_b5_3_236_b5_349 : b5_3_236 ≠ b5_349 := Nat.ne_of_lt (Nat.lt_of_lt_of_le p336_6.lt p349_0)
      have K356 : Keep h0 T349.heap [] := K339.trans K349q (allS (Or.inr sz_b5_3_236) (allS (Or.inr sz_b5_3_31) all0))
      have p349_10c : Fld Z T349.heap b5_349 "com/example/serigraph/serigraph/view/OrderList$Place" "label" "J" (.long (8589934592 : Int64)) := Eq.mp (congrArg (fun z => Fld Z T349.heap b5_349 "com/example/serigraph/serigraph/view/OrderList$Place" "label" "J" (.long z)) (show ((4294967296 : Int64) + (own_r7 (((12884901888 : Int64) - (4294967296 : Int64)) / (2 : Int64)) (4294967296 : Int64))) = (8589934592 : Int64) from by decide +kernel)) p349_10
      show own_Ends p.tables e below s _ _ _ (T349.setTop (mkF m 251 #[.val (.int x0_0), .val (.int x1_0), .val (.int (3 : Int32)), .val (.int (2 : Int32)), .val (.ref b1), .val (.ref b8), .val (.ref b5_3_216), .val (.ref b5_3_31), .val (.ref b5_3_236), .val (.ref b2_4), .val (.ref b5_3_31), .val (.ref b5_3_236), .val (.ref b16_4), .val (.int (1 : Int32)), .unset] [(.ref b5_349)]))
      refine own_step (fun t k => XS.astore X349.here hx rfl (hb hby at_251) rfl rfl (l' := #[.val (.int x0_0), .val (.int x1_0), .val (.int (3 : Int32)), .val (.int (2 : Int32)), .val (.ref b1), .val (.ref b8), .val (.ref b5_3_216), .val (.ref b5_3_31), .val (.ref b5_3_236), .val (.ref b2_4), .val (.ref b5_3_31), .val (.ref b5_3_236), .val (.ref b16_4), .val (.int (1 : Int32)), .val (.ref b5_349)]) rfl k) ?_
      show own_Ends p.tables e below s _ _ _ (T349.setTop (mkF m 253 #[.val (.int x0_0), .val (.int x1_0), .val (.int (3 : Int32)), .val (.int (2 : Int32)), .val (.ref b1), .val (.ref b8), .val (.ref b5_3_216), .val (.ref b5_3_31), .val (.ref b5_3_236), .val (.ref b2_4), .val (.ref b5_3_31), .val (.ref b5_3_236), .val (.ref b16_4), .val (.int (1 : Int32)), .val (.ref b5_349)] []))
      refine own_step (fun t k => XS.iload X349.here hx rfl (hb hby at_253) rfl k) ?_
      show own_Ends p.tables e below s _ _ _ (T349.setTop (mkF m 255 #[.val (.int x0_0), .val (.int x1_0), .val (.int (3 : Int32)), .val (.int (2 : Int32)), .val (.ref b1), .val (.ref b8), .val (.ref b5_3_216), .val (.ref b5_3_31), .val (.ref b5_3_236), .val (.ref b2_4), .val (.ref b5_3_31), .val (.ref b5_3_236), .val (.ref b16_4), .val (.int (1 : Int32)), .val (.ref b5_349)] [(.int (1 : Int32))]))
      refine own_step (fun t k => XS.ifNo X349.here hx rfl (hb hby at_255) rfl ((if0 _ _).trans (feq (by decide : ¬ ((1 : Int32) = (0 : Int32)))).1) k) ?_
      show own_Ends p.tables e below s _ _ _ (T349.setTop (mkF m 258 #[.val (.int x0_0), .val (.int x1_0), .val (.int (3 : Int32)), .val (.int (2 : Int32)), .val (.ref b1), .val (.ref b8), .val (.ref b5_3_216), .val (.ref b5_3_31), .val (.ref b5_3_236), .val (.ref b2_4), .val (.ref b5_3_31), .val (.ref b5_3_236), .val (.ref b16_4), .val (.int (1 : Int32)), .val (.ref b5_349)] []))
      refine own_step (fun t k => XS.aload X349.here hx rfl (hb hby at_258) rfl rfl k) ?_
      show own_Ends p.tables e below s _ _ _ (T349.setTop (mkF m 260 #[.val (.int x0_0), .val (.int x1_0), .val (.int (3 : Int32)), .val (.int (2 : Int32)), .val (.ref b1), .val (.ref b8), .val (.ref b5_3_216), .val (.ref b5_3_31), .val (.ref b5_3_236), .val (.ref b2_4), .val (.ref b5_3_31), .val (.ref b5_3_236), .val (.ref b16_4), .val (.int (1 : Int32)), .val (.ref b5_349)] [(.ref b5_3_236)]))
      have O357 : Old Z n0 T349.heap := (O340.keep K349q (allS g_b5_3_236 (allS g_b5_3_31 all0)))
      obtain ⟨cq358, kq358, q358a, q358b, q358c⟩ := isOf hZ rfl p349_3
      obtain ⟨_, _, ⟨T358, L358, k358, n358⟩, -, X358, ⟨Lc358, hQ358, l358, y358, z358⟩, st358⟩ := X349.virtualBack hx (y := (⟨"com/example/serigraph/serigraph/view/OrderList$Place", "previous", "()Lcom/example/serigraph/serigraph/view/OrderList$Place;"⟩ : MethodName)) (z := (⟨"com/example/serigraph/serigraph/view/OrderList$Place", "previous", "()Lcom/example/serigraph/serigraph/view/OrderList$Place;"⟩ : MethodName)) hown (mvT hZ (hw _ (List.mem_of_getElem? (i := 66) rfl))) (mvT hZ (hw _ (List.mem_of_getElem? (i := 67) rfl))) (notFace_of_selects (args := #[]) (mvT hZ (hw _ (List.mem_of_getElem? (i := 69) rfl)))) (mvT hZ (hw _ (List.mem_of_getElem? (i := 69) rfl))) (mvT hZ (hw _ (List.mem_of_getElem? (i := 68) rfl))) (by decide) (backOf (W := 0) (rm11 l Z a0 hw [] b5_3_236 b5_349 T349.heap n0 O357 p349_4) hZ (hw _ (List.mem_of_getElem? (i := 70) rfl)) (hw _ (List.mem_of_getElem? (i := 12) rfl)) (by decide) (by decide)) q358a q358c (g := (mkF m 260 #[.val (.int x0_0), .val (.int x1_0), .val (.int (3 : Int32)), .val (.int (2 : Int32)), .val (.ref b1), .val (.ref b8), .val (.ref b5_3_216), .val (.ref b5_3_31), .val (.ref b5_3_236), .val (.ref b2_4), .val (.ref b5_3_31), .val (.ref b5_3_236), .val (.ref b16_4), .val (.int (1 : Int32)), .val (.ref b5_349)] [(.ref b5_3_236)])) rfl (by rw [hml]; rfl) (Steps.refl _) (argsL := []) (rest := []) (lenOf pd_3 rfl) rfl (by show 2 * 0 + _ ≤ _; exact Nat.le_of_eq rfl) (hb hby at_260) (fun _ _ => ⟨rfl, rfl, (by decide : 8 + 0 ≤ _), (by decide : 25 + 0 ≤ _)⟩)
      dsimp only [Pt.U, Pt.locs, Pt.cells, Pt.slots] at X358 l358 y358 z358 st358 hQ358
      subst y358 z358
      obtain ⟨rfl, N358q, e358⟩ := hQ358
      refine own_step (fun t k => st358.trans k) ?_
      have N359 : Fr n0 L358 := by rw [l358]; exact Fr.app N355 N358q
      show own_Ends p.tables e below s _ _ _ (T358.setTop (mkF m 263 #[.val (.int x0_0), .val (.int x1_0), .val (.int (3 : Int32)), .val (.int (2 : Int32)), .val (.ref b1), .val (.ref b8), .val (.ref b5_3_216), .val (.ref b5_3_31), .val (.ref b5_3_236), .val (.ref b2_4), .val (.ref b5_3_31), .val (.ref b5_3_236), .val (.ref b16_4), .val (.int (1 : Int32)), .val (.ref b5_349)] [(.ref b5_349)]))
      refine own_step (fun t k => XS.aload X358.here hx rfl (hb hby at_263) rfl rfl k) ?_
      show own_Ends p.tables e below s _ _ _ (T358.setTop (mkF m 265 #[.val (.int x0_0), .val (.int x1_0), .val (.int (3 : Int32)), .val (.int (2 : Int32)), .val (.ref b1), .val (.ref b8), .val (.ref b5_3_216), .val (.ref b5_3_31), .val (.ref b5_3_236), .val (.ref b2_4), .val (.ref b5_3_31), .val (.ref b5_3_236), .val (.ref b16_4), .val (.int (1 : Int32)), .val (.ref b5_349)] [(.ref b5_349), (.ref b5_349)]))
      refine own_step (fun t k => Jvm.RoadKit.acmp (g := (mkF m 265 #[.val (.int x0_0), .val (.int x1_0), .val (.int (3 : Int32)), .val (.int (2 : Int32)), .val (.ref b1), .val (.ref b8), .val (.ref b5_3_216), .val (.ref b5_3_31), .val (.ref b5_3_236), .val (.ref b2_4), .val (.ref b5_3_31), .val (.ref b5_3_236), .val (.ref b16_4), .val (.int (1 : Int32)), .val (.ref b5_349)] [(.ref b5_349), (.ref b5_349)])) X358 hx rfl rfl rfl (pc0 := 265) (pc' := 268) (same := true) rfl (hb hby at_265) rfl (decide_eq_true rfl) (by decide) (by decide) k) ?_
      show own_Ends p.tables e below s _ _ _ (T358.setTop (mkF m 268 #[.val (.int x0_0), .val (.int x1_0), .val (.int (3 : Int32)), .val (.int (2 : Int32)), .val (.ref b1), .val (.ref b8), .val (.ref b5_3_216), .val (.ref b5_3_31), .val (.ref b5_3_236), .val (.ref b2_4), .val (.ref b5_3_31), .val (.ref b5_3_236), .val (.ref b16_4), .val (.int (1 : Int32)), .val (.ref b5_349)] []))
      refine own_step (fun t k => XS.aload X358.here hx rfl (hb hby at_268) rfl rfl k) ?_
      show own_Ends p.tables e below s _ _ _ (T358.setTop (mkF m 270 #[.val (.int x0_0), .val (.int x1_0), .val (.int (3 : Int32)), .val (.int (2 : Int32)), .val (.ref b1), .val (.ref b8), .val (.ref b5_3_216), .val (.ref b5_3_31), .val (.ref b5_3_236), .val (.ref b2_4), .val (.ref b5_3_31), .val (.ref b5_3_236), .val (.ref b16_4), .val (.int (1 : Int32)), .val (.ref b5_349)] [(.ref b5_349)]))
      obtain ⟨cq360, kq360, q360a, q360b, q360c⟩ := isOf hZ e358 p349_9
      obtain ⟨_, _, ⟨T360, L360, k360, n360⟩, -, X360, ⟨Lc360, hQ360, l360, y360, z360⟩, st360⟩ := X358.virtualBack hx (y := (⟨"com/example/serigraph/serigraph/view/OrderList$Place", "previous", "()Lcom/example/serigraph/serigraph/view/OrderList$Place;"⟩ : MethodName)) (z := (⟨"com/example/serigraph/serigraph/view/OrderList$Place", "previous", "()Lcom/example/serigraph/serigraph/view/OrderList$Place;"⟩ : MethodName)) hown (mvT hZ (hw _ (List.mem_of_getElem? (i := 66) rfl))) (mvT hZ (hw _ (List.mem_of_getElem? (i := 67) rfl))) (notFace_of_selects (args := #[]) (mvT hZ (hw _ (List.mem_of_getElem? (i := 69) rfl)))) (mvT hZ (hw _ (List.mem_of_getElem? (i := 69) rfl))) (mvT hZ (hw _ (List.mem_of_getElem? (i := 68) rfl))) (by decide) (backOf (W := 0) (rm11 l Z a0 hw [] b5_349 b5_3_31 T349.heap n0 O357 p349_12) hZ (hw _ (List.mem_of_getElem? (i := 70) rfl)) (hw _ (List.mem_of_getElem? (i := 12) rfl)) (by decide) (by decide)) q360a q360c (g := (mkF m 270 #[.val (.int x0_0), .val (.int x1_0), .val (.int (3 : Int32)), .val (.int (2 : Int32)), .val (.ref b1), .val (.ref b8), .val (.ref b5_3_216), .val (.ref b5_3_31), .val (.ref b5_3_236), .val (.ref b2_4), .val (.ref b5_3_31), .val (.ref b5_3_236), .val (.ref b16_4), .val (.int (1 : Int32)), .val (.ref b5_349)] [(.ref b5_349)])) rfl (by rw [hml]; rfl) (Steps.refl _) (argsL := []) (rest := []) (lenOf pd_3 rfl) rfl (by show 2 * 0 + _ ≤ _; exact Nat.le_of_eq rfl) (hb hby at_270) (fun _ _ => ⟨rfl, e358, (by decide : 8 + 0 ≤ _), (by decide : 25 + 0 ≤ _)⟩)
      dsimp only [Pt.U, Pt.locs, Pt.cells, Pt.slots] at X360 l360 y360 z360 st360 hQ360
      subst y360 z360
      obtain ⟨rfl, N360q, e360⟩ := hQ360
      refine own_step (fun t k => st360.trans k) ?_
      have N361 : Fr n0 L360 := by rw [l360]; exact Fr.app N359 N360q
      show own_Ends p.tables e below s _ _ _ (T360.setTop (mkF m 273 #[.val (.int x0_0), .val (.int x1_0), .val (.int (3 : Int32)), .val (.int (2 : Int32)), .val (.ref b1), .val (.ref b8), .val (.ref b5_3_216), .val (.ref b5_3_31), .val (.ref b5_3_236), .val (.ref b2_4), .val (.ref b5_3_31), .val (.ref b5_3_236), .val (.ref b16_4), .val (.int (1 : Int32)), .val (.ref b5_349)] [(.ref b5_3_31)]))
      refine own_step (fun t k => XS.aload X360.here hx rfl (hb hby at_273) rfl rfl k) ?_
      show own_Ends p.tables e below s _ _ _ (T360.setTop (mkF m 275 #[.val (.int x0_0), .val (.int x1_0), .val (.int (3 : Int32)), .val (.int (2 : Int32)), .val (.ref b1), .val (.ref b8), .val (.ref b5_3_216), .val (.ref b5_3_31), .val (.ref b5_3_236), .val (.ref b2_4), .val (.ref b5_3_31), .val (.ref b5_3_236), .val (.ref b16_4), .val (.int (1 : Int32)), .val (.ref b5_349)] [(.ref b5_3_31), (.ref b5_3_31)]))
      refine own_step (fun t k => Jvm.RoadKit.acmp (g := (mkF m 275 #[.val (.int x0_0), .val (.int x1_0), .val (.int (3 : Int32)), .val (.int (2 : Int32)), .val (.ref b1), .val (.ref b8), .val (.ref b5_3_216), .val (.ref b5_3_31), .val (.ref b5_3_236), .val (.ref b2_4), .val (.ref b5_3_31), .val (.ref b5_3_236), .val (.ref b16_4), .val (.int (1 : Int32)), .val (.ref b5_349)] [(.ref b5_3_31), (.ref b5_3_31)])) X360 hx rfl rfl rfl (pc0 := 275) (pc' := 278) (same := true) rfl (hb hby at_275) rfl (decide_eq_true rfl) (by decide) (by decide) k) ?_
      show own_Ends p.tables e below s _ _ _ (T360.setTop (mkF m 278 #[.val (.int x0_0), .val (.int x1_0), .val (.int (3 : Int32)), .val (.int (2 : Int32)), .val (.ref b1), .val (.ref b8), .val (.ref b5_3_216), .val (.ref b5_3_31), .val (.ref b5_3_236), .val (.ref b2_4), .val (.ref b5_3_31), .val (.ref b5_3_236), .val (.ref b16_4), .val (.int (1 : Int32)), .val (.ref b5_349)] []))
      refine own_step (fun t k => XS.iconst X360.here hx rfl (hb hby at_278) k) ?_
      show own_Ends p.tables e below s _ _ _ (T360.setTop (mkF m 279 #[.val (.int x0_0), .val (.int x1_0), .val (.int (3 : Int32)), .val (.int (2 : Int32)), .val (.ref b1), .val (.ref b8), .val (.ref b5_3_216), .val (.ref b5_3_31), .val (.ref b5_3_236), .val (.ref b2_4), .val (.ref b5_3_31), .val (.ref b5_3_236), .val (.ref b16_4), .val (.int (1 : Int32)), .val (.ref b5_349)] [(.int (1 : Int32))]))
      refine own_step (fun t k => XS.goto X360.here hx rfl (pc0 := 279) (pc' := 283) rfl (hb hby at_279) (by decide) (by decide) k) ?_
      show own_Ends p.tables e below s _ _ _ (T360.setTop (mkF m 283 #[.val (.int x0_0), .val (.int x1_0), .val (.int (3 : Int32)), .val (.int (2 : Int32)), .val (.ref b1), .val (.ref b8), .val (.ref b5_3_216), .val (.ref b5_3_31), .val (.ref b5_3_236), .val (.ref b2_4), .val (.ref b5_3_31), .val (.ref b5_3_236), .val (.ref b16_4), .val (.int (1 : Int32)), .val (.ref b5_349)] [(.int (1 : Int32))]))
      refine own_step (fun t k => XS.istore X360.here hx rfl (hb hby at_283) rfl (l' := #[.val (.int x0_0), .val (.int x1_0), .val (.int (3 : Int32)), .val (.int (2 : Int32)), .val (.ref b1), .val (.ref b8), .val (.ref b5_3_216), .val (.ref b5_3_31), .val (.ref b5_3_236), .val (.ref b2_4), .val (.ref b5_3_31), .val (.ref b5_3_236), .val (.ref b16_4), .val (.int (1 : Int32)), .val (.ref b5_349)]) rfl k) ?_
      show own_Ends p.tables e below s _ _ _ (T360.setTop (mkF m 285 #[.val (.int x0_0), .val (.int x1_0), .val (.int (3 : Int32)), .val (.int (2 : Int32)), .val (.ref b1), .val (.ref b8), .val (.ref b5_3_216), .val (.ref b5_3_31), .val (.ref b5_3_236), .val (.ref b2_4), .val (.ref b5_3_31), .val (.ref b5_3_236), .val (.ref b16_4), .val (.int (1 : Int32)), .val (.ref b5_349)] []))
      refine own_step (fun t k => XS.iload X360.here hx rfl (hb hby at_285) rfl k) ?_
      show own_Ends p.tables e below s _ _ _ (T360.setTop (mkF m 287 #[.val (.int x0_0), .val (.int x1_0), .val (.int (3 : Int32)), .val (.int (2 : Int32)), .val (.ref b1), .val (.ref b8), .val (.ref b5_3_216), .val (.ref b5_3_31), .val (.ref b5_3_236), .val (.ref b2_4), .val (.ref b5_3_31), .val (.ref b5_3_236), .val (.ref b16_4), .val (.int (1 : Int32)), .val (.ref b5_349)] [(.int (1 : Int32))]))
      exact own_retN X360 hx (t := .boolean) Bd.returns (by simp) (hb hby at_287) hnl (by rw [e360]; exact ⟨rfl, N361⟩) (by decide) (by decide)
    · subst hk256
      show own_Ends p.tables e below s _ _ _ (T253.setTop (mkF m 90 #[.val (.int x0_0), .val (.int x1_0), .val (.int (3 : Int32)), .val (.int (3 : Int32)), .val (.ref b1), .val (.ref b8), .unset, .unset, .unset, .unset, .unset, .unset, .unset, .unset, .unset] []))
      refine own_step (fun t k => XS.aload X253.here hx rfl (hb hby at_90) rfl rfl k) ?_
      show own_Ends p.tables e below s _ _ _ (T253.setTop (mkF m 92 #[.val (.int x0_0), .val (.int x1_0), .val (.int (3 : Int32)), .val (.int (3 : Int32)), .val (.ref b1), .val (.ref b8), .unset, .unset, .unset, .unset, .unset, .unset, .unset, .unset, .unset] [(.ref b8)]))
      refine own_step (fun t k => XS.iloadN X253.here hx rfl (hb hby at_92) rfl k) ?_
      show own_Ends p.tables e below s _ _ _ (T253.setTop (mkF m 93 #[.val (.int x0_0), .val (.int x1_0), .val (.int (3 : Int32)), .val (.int (3 : Int32)), .val (.ref b1), .val (.ref b8), .unset, .unset, .unset, .unset, .unset, .unset, .unset, .unset, .unset] [(.int (3 : Int32)), (.ref b8)]))
      obtain ⟨cl362, Ar362, q362, S362, N362, H362, G362⟩ := id V253
      have hin362 : ¬ ((3 : Int32) < 0 ∨ cl362.slots.size ≤ ((3 : Int32)).toNatClampNeg) := inb_of S362 ⟨by decide, by decide⟩
      have hat362 : cl362.slots[((3 : Int32)).toNatClampNeg]? = some (.ref b5_3_236) := H362.at hin362 rfl
      refine own_step (fun t k => X253.aaload hx (j := (3 : Int32)) (v := (.ref b5_3_236)) (by rw [e253]; exact Ar362.1) (State.isArrayOf_alike hZ.alike Ar362.2.1) rfl Ar362.2.2 hin362 hat362 (g := (mkF m 93 #[.val (.int x0_0), .val (.int x1_0), .val (.int (3 : Int32)), .val (.int (3 : Int32)), .val (.ref b1), .val (.ref b8), .unset, .unset, .unset, .unset, .unset, .unset, .unset, .unset, .unset] [(.int (3 : Int32)), (.ref b8)])) rfl rfl (hb hby at_93) _ k) ?_
      show own_Ends p.tables e below s _ _ _ (T253.setTop (mkF m 94 #[.val (.int x0_0), .val (.int x1_0), .val (.int (3 : Int32)), .val (.int (3 : Int32)), .val (.ref b1), .val (.ref b8), .unset, .unset, .unset, .unset, .unset, .unset, .unset, .unset, .unset] [(.ref b5_3_236)]))
      refine own_step (fun t k => XS.astore X253.here hx rfl (hb hby at_94) rfl rfl (l' := #[.val (.int x0_0), .val (.int x1_0), .val (.int (3 : Int32)), .val (.int (3 : Int32)), .val (.ref b1), .val (.ref b8), .val (.ref b5_3_236), .unset, .unset, .unset, .unset, .unset, .unset, .unset, .unset]) rfl k) ?_
      show own_Ends p.tables e below s _ _ _ (T253.setTop (mkF m 96 #[.val (.int x0_0), .val (.int x1_0), .val (.int (3 : Int32)), .val (.int (3 : Int32)), .val (.ref b1), .val (.ref b8), .val (.ref b5_3_236), .unset, .unset, .unset, .unset, .unset, .unset, .unset, .unset] []))
      refine own_step (fun t k => XS.aload X253.here hx rfl (hb hby at_96) rfl rfl k) ?_
      show own_Ends p.tables e below s _ _ _ (T253.setTop (mkF m 98 #[.val (.int x0_0), .val (.int x1_0), .val (.int (3 : Int32)), .val (.int (3 : Int32)), .val (.ref b1), .val (.ref b8), .val (.ref b5_3_236), .unset, .unset, .unset, .unset, .unset, .unset, .unset, .unset] [(.ref b8)]))
      refine own_step (fun t k => XS.iloadN X253.here hx rfl (hb hby at_98) rfl k) ?_
      show own_Ends p.tables e below s _ _ _ (T253.setTop (mkF m 99 #[.val (.int x0_0), .val (.int x1_0), .val (.int (3 : Int32)), .val (.int (3 : Int32)), .val (.ref b1), .val (.ref b8), .val (.ref b5_3_236), .unset, .unset, .unset, .unset, .unset, .unset, .unset, .unset] [(.int (3 : Int32)), (.ref b8)]))
      refine own_step (fun t k => XS.iconst X253.here hx rfl (hb hby at_99) k) ?_
      show own_Ends p.tables e below s _ _ _ (T253.setTop (mkF m 100 #[.val (.int x0_0), .val (.int x1_0), .val (.int (3 : Int32)), .val (.int (3 : Int32)), .val (.ref b1), .val (.ref b8), .val (.ref b5_3_236), .unset, .unset, .unset, .unset, .unset, .unset, .unset, .unset] [(.int (1 : Int32)), (.int (3 : Int32)), (.ref b8)]))
      refine own_step (fun t k => XS.isub X253.here hx rfl (hb hby at_100) rfl k) ?_
      show own_Ends p.tables e below s _ _ _ (T253.setTop (mkF m 101 #[.val (.int x0_0), .val (.int x1_0), .val (.int (3 : Int32)), .val (.int (3 : Int32)), .val (.ref b1), .val (.ref b8), .val (.ref b5_3_236), .unset, .unset, .unset, .unset, .unset, .unset, .unset, .unset] [(.int (2 : Int32)), (.ref b8)]))
      obtain ⟨cl363, Ar363, q363, S363, N363, H363, G363⟩ := id V253
      have hin363 : ¬ ((2 : Int32) < 0 ∨ cl363.slots.size ≤ ((2 : Int32)).toNatClampNeg) := inb_of S363 ⟨by decide, by decide⟩
      have hat363 : cl363.slots[((2 : Int32)).toNatClampNeg]? = some (.ref b5_3_216) := H363.at hin363 rfl
      refine own_step (fun t k => X253.aaload hx (j := (2 : Int32)) (v := (.ref b5_3_216)) (by rw [e253]; exact Ar363.1) (State.isArrayOf_alike hZ.alike Ar363.2.1) rfl Ar363.2.2 hin363 hat363 (g := (mkF m 101 #[.val (.int x0_0), .val (.int x1_0), .val (.int (3 : Int32)), .val (.int (3 : Int32)), .val (.ref b1), .val (.ref b8), .val (.ref b5_3_236), .unset, .unset, .unset, .unset, .unset, .unset, .unset, .unset] [(.int (2 : Int32)), (.ref b8)])) rfl rfl (hb hby at_101) _ k) ?_
      show own_Ends p.tables e below s _ _ _ (T253.setTop (mkF m 102 #[.val (.int x0_0), .val (.int x1_0), .val (.int (3 : Int32)), .val (.int (3 : Int32)), .val (.ref b1), .val (.ref b8), .val (.ref b5_3_236), .unset, .unset, .unset, .unset, .unset, .unset, .unset, .unset] [(.ref b5_3_216)]))
      refine own_step (fun t k => XS.astore X253.here hx rfl (hb hby at_102) rfl rfl (l' := #[.val (.int x0_0), .val (.int x1_0), .val (.int (3 : Int32)), .val (.int (3 : Int32)), .val (.ref b1), .val (.ref b8), .val (.ref b5_3_236), .val (.ref b5_3_216), .unset, .unset, .unset, .unset, .unset, .unset, .unset]) rfl k) ?_
      show own_Ends p.tables e below s _ _ _ (T253.setTop (mkF m 104 #[.val (.int x0_0), .val (.int x1_0), .val (.int (3 : Int32)), .val (.int (3 : Int32)), .val (.ref b1), .val (.ref b8), .val (.ref b5_3_236), .val (.ref b5_3_216), .unset, .unset, .unset, .unset, .unset, .unset, .unset] []))
      refine own_step (fun t k => XS.aload X253.here hx rfl (hb hby at_104) rfl rfl k) ?_
      show own_Ends p.tables e below s _ _ _ (T253.setTop (mkF m 106 #[.val (.int x0_0), .val (.int x1_0), .val (.int (3 : Int32)), .val (.int (3 : Int32)), .val (.ref b1), .val (.ref b8), .val (.ref b5_3_236), .val (.ref b5_3_216), .unset, .unset, .unset, .unset, .unset, .unset, .unset] [(.ref b8)]))
      refine own_step (fun t k => XS.iloadN X253.here hx rfl (hb hby at_106) rfl k) ?_
      show own_Ends p.tables e below s _ _ _ (T253.setTop (mkF m 107 #[.val (.int x0_0), .val (.int x1_0), .val (.int (3 : Int32)), .val (.int (3 : Int32)), .val (.ref b1), .val (.ref b8), .val (.ref b5_3_236), .val (.ref b5_3_216), .unset, .unset, .unset, .unset, .unset, .unset, .unset] [(.int (3 : Int32)), (.ref b8)]))
      refine own_step (fun t k => XS.iconst X253.here hx rfl (hb hby at_107) k) ?_
      show own_Ends p.tables e below s _ _ _ (T253.setTop (mkF m 108 #[.val (.int x0_0), .val (.int x1_0), .val (.int (3 : Int32)), .val (.int (3 : Int32)), .val (.ref b1), .val (.ref b8), .val (.ref b5_3_236), .val (.ref b5_3_216), .unset, .unset, .unset, .unset, .unset, .unset, .unset] [(.int (1 : Int32)), (.int (3 : Int32)), (.ref b8)]))
      refine own_step (fun t k => XS.iadd X253.here hx rfl (hb hby at_108) rfl k) ?_
      show own_Ends p.tables e below s _ _ _ (T253.setTop (mkF m 109 #[.val (.int x0_0), .val (.int x1_0), .val (.int (3 : Int32)), .val (.int (3 : Int32)), .val (.ref b1), .val (.ref b8), .val (.ref b5_3_236), .val (.ref b5_3_216), .unset, .unset, .unset, .unset, .unset, .unset, .unset] [(.int (4 : Int32)), (.ref b8)]))
      obtain ⟨cl364, Ar364, q364, S364, N364, H364, G364⟩ := id V253
      have hin364 : ¬ ((4 : Int32) < 0 ∨ cl364.slots.size ≤ ((4 : Int32)).toNatClampNeg) := inb_of S364 ⟨by decide, by decide⟩
      have hat364 : cl364.slots[((4 : Int32)).toNatClampNeg]? = some (.ref b16_4) := H364.at hin364 rfl
      refine own_step (fun t k => X253.aaload hx (j := (4 : Int32)) (v := (.ref b16_4)) (by rw [e253]; exact Ar364.1) (State.isArrayOf_alike hZ.alike Ar364.2.1) rfl Ar364.2.2 hin364 hat364 (g := (mkF m 109 #[.val (.int x0_0), .val (.int x1_0), .val (.int (3 : Int32)), .val (.int (3 : Int32)), .val (.ref b1), .val (.ref b8), .val (.ref b5_3_236), .val (.ref b5_3_216), .unset, .unset, .unset, .unset, .unset, .unset, .unset] [(.int (4 : Int32)), (.ref b8)])) rfl rfl (hb hby at_109) _ k) ?_
      show own_Ends p.tables e below s _ _ _ (T253.setTop (mkF m 110 #[.val (.int x0_0), .val (.int x1_0), .val (.int (3 : Int32)), .val (.int (3 : Int32)), .val (.ref b1), .val (.ref b8), .val (.ref b5_3_236), .val (.ref b5_3_216), .unset, .unset, .unset, .unset, .unset, .unset, .unset] [(.ref b16_4)]))
      refine own_step (fun t k => XS.astore X253.here hx rfl (hb hby at_110) rfl rfl (l' := #[.val (.int x0_0), .val (.int x1_0), .val (.int (3 : Int32)), .val (.int (3 : Int32)), .val (.ref b1), .val (.ref b8), .val (.ref b5_3_236), .val (.ref b5_3_216), .val (.ref b16_4), .unset, .unset, .unset, .unset, .unset, .unset]) rfl k) ?_
      show own_Ends p.tables e below s _ _ _ (T253.setTop (mkF m 112 #[.val (.int x0_0), .val (.int x1_0), .val (.int (3 : Int32)), .val (.int (3 : Int32)), .val (.ref b1), .val (.ref b8), .val (.ref b5_3_236), .val (.ref b5_3_216), .val (.ref b16_4), .unset, .unset, .unset, .unset, .unset, .unset] []))
      refine own_step (fun t k => XS.aload X253.here hx rfl (hb hby at_112) rfl rfl k) ?_
      show own_Ends p.tables e below s _ _ _ (T253.setTop (mkF m 114 #[.val (.int x0_0), .val (.int x1_0), .val (.int (3 : Int32)), .val (.int (3 : Int32)), .val (.ref b1), .val (.ref b8), .val (.ref b5_3_236), .val (.ref b5_3_216), .val (.ref b16_4), .unset, .unset, .unset, .unset, .unset, .unset] [(.ref b8)]))
      refine own_step (fun t k => XS.iloadN X253.here hx rfl (hb hby at_114) rfl k) ?_
      show own_Ends p.tables e below s _ _ _ (T253.setTop (mkF m 115 #[.val (.int x0_0), .val (.int x1_0), .val (.int (3 : Int32)), .val (.int (3 : Int32)), .val (.ref b1), .val (.ref b8), .val (.ref b5_3_236), .val (.ref b5_3_216), .val (.ref b16_4), .unset, .unset, .unset, .unset, .unset, .unset] [(.int (3 : Int32)), (.ref b8)]))
      refine own_step (fun t k => XS.iconst X253.here hx rfl (hb hby at_115) k) ?_
      show own_Ends p.tables e below s _ _ _ (T253.setTop (mkF m 116 #[.val (.int x0_0), .val (.int x1_0), .val (.int (3 : Int32)), .val (.int (3 : Int32)), .val (.ref b1), .val (.ref b8), .val (.ref b5_3_236), .val (.ref b5_3_216), .val (.ref b16_4), .unset, .unset, .unset, .unset, .unset, .unset] [(.int (0 : Int32)), (.int (3 : Int32)), (.ref b8)]))
      have O365 : Old Z n0 h253 := (O247.wr W253 g_b8)
      obtain ⟨_, _, ⟨T366, L366, k366, n366⟩, -, X366, ⟨Lc366, hQ366, l366, y366, z366⟩, st366⟩ := Jvm.LawKit.callS X253 hx (y := (⟨"com/example/serigraph/serigraph/view/OrderListRemovePinLaw", "at", "([Lcom/example/serigraph/serigraph/view/OrderList$Place;II)Lcom/example/serigraph/serigraph/view/OrderList$Place;"⟩ : MethodName)) hown (mvT hZ (hw _ (List.mem_of_getElem? (i := 57) rfl))) (mvT hZ (hw _ (List.mem_of_getElem? (i := 58) rfl))) (mvT hZ (hw _ (List.mem_of_getElem? (i := 59) rfl))) (mvT hZ (hw _ (List.mem_of_getElem? (i := 60) rfl))) (by decide) (backOf (W := 0) (rm9_3_0 l Z a0 hw [] b8 k8 (5 : Int32) [(.ref b2_4), (.ref b5_3_31), (.ref b5_3_216), (.ref b5_3_236), (.ref b16_4)] .null b2_4 h253 n0 O365 V253 (by decide) rfl) hZ (hw _ (List.mem_of_getElem? (i := 60) rfl)) (hw _ (List.mem_of_getElem? (i := 59) rfl)) (by decide) (by decide)) (g := (mkF m 116 #[.val (.int x0_0), .val (.int x1_0), .val (.int (3 : Int32)), .val (.int (3 : Int32)), .val (.ref b1), .val (.ref b8), .val (.ref b5_3_236), .val (.ref b5_3_216), .val (.ref b16_4), .unset, .unset, .unset, .unset, .unset, .unset] [(.int (0 : Int32)), (.int (3 : Int32)), (.ref b8)])) rfl (by rw [hml]; rfl) (argsL := [(.ref b8), (.int (3 : Int32)), (.int (0 : Int32))]) (rest := []) (lenOf pd_4 rfl) rfl (by show 2 * 0 + _ ≤ _; exact Nat.le_of_eq rfl) (hb hby at_116) (fun _ _ => ⟨rfl, e253, (by decide : 7 + 0 ≤ _), (by decide : 22 + 0 ≤ _)⟩)
      dsimp only [Pt.U, Pt.locs, Pt.cells, Pt.slots] at X366 l366 y366 z366 st366 hQ366
      subst y366 z366
      obtain ⟨rfl, N366q, e366⟩ := hQ366
      refine own_step (fun t k => st366 _ k) ?_
      have N367 : Fr n0 L366 := by rw [l366]; exact Fr.app N255 N366q
      show own_Ends p.tables e below s _ _ _ (T366.setTop (mkF m 119 #[.val (.int x0_0), .val (.int x1_0), .val (.int (3 : Int32)), .val (.int (3 : Int32)), .val (.ref b1), .val (.ref b8), .val (.ref b5_3_236), .val (.ref b5_3_216), .val (.ref b16_4), .unset, .unset, .unset, .unset, .unset, .unset] [(.ref b2_4)]))
      refine own_step (fun t k => XS.astore X366.here hx rfl (hb hby at_119) rfl rfl (l' := #[.val (.int x0_0), .val (.int x1_0), .val (.int (3 : Int32)), .val (.int (3 : Int32)), .val (.ref b1), .val (.ref b8), .val (.ref b5_3_236), .val (.ref b5_3_216), .val (.ref b16_4), .val (.ref b2_4), .unset, .unset, .unset, .unset, .unset]) rfl k) ?_
      show own_Ends p.tables e below s _ _ _ (T366.setTop (mkF m 121 #[.val (.int x0_0), .val (.int x1_0), .val (.int (3 : Int32)), .val (.int (3 : Int32)), .val (.ref b1), .val (.ref b8), .val (.ref b5_3_236), .val (.ref b5_3_216), .val (.ref b16_4), .val (.ref b2_4), .unset, .unset, .unset, .unset, .unset] []))
      refine own_step (fun t k => XS.aload X366.here hx rfl (hb hby at_121) rfl rfl k) ?_
      show own_Ends p.tables e below s _ _ _ (T366.setTop (mkF m 123 #[.val (.int x0_0), .val (.int x1_0), .val (.int (3 : Int32)), .val (.int (3 : Int32)), .val (.ref b1), .val (.ref b8), .val (.ref b5_3_236), .val (.ref b5_3_216), .val (.ref b16_4), .val (.ref b2_4), .unset, .unset, .unset, .unset, .unset] [(.ref b8)]))
      refine own_step (fun t k => XS.iloadN X366.here hx rfl (hb hby at_123) rfl k) ?_
      show own_Ends p.tables e below s _ _ _ (T366.setTop (mkF m 124 #[.val (.int x0_0), .val (.int x1_0), .val (.int (3 : Int32)), .val (.int (3 : Int32)), .val (.ref b1), .val (.ref b8), .val (.ref b5_3_236), .val (.ref b5_3_216), .val (.ref b16_4), .val (.ref b2_4), .unset, .unset, .unset, .unset, .unset] [(.int (3 : Int32)), (.ref b8)]))
      refine own_step (fun t k => XS.iconst X366.here hx rfl (hb hby at_124) k) ?_
      show own_Ends p.tables e below s _ _ _ (T366.setTop (mkF m 125 #[.val (.int x0_0), .val (.int x1_0), .val (.int (3 : Int32)), .val (.int (3 : Int32)), .val (.ref b1), .val (.ref b8), .val (.ref b5_3_236), .val (.ref b5_3_216), .val (.ref b16_4), .val (.ref b2_4), .unset, .unset, .unset, .unset, .unset] [(.int (1 : Int32)), (.int (3 : Int32)), (.ref b8)]))
      obtain ⟨_, _, ⟨T368, L368, k368, n368⟩, -, X368, ⟨Lc368, hQ368, l368, y368, z368⟩, st368⟩ := Jvm.LawKit.callS X366 hx (y := (⟨"com/example/serigraph/serigraph/view/OrderListRemovePinLaw", "at", "([Lcom/example/serigraph/serigraph/view/OrderList$Place;II)Lcom/example/serigraph/serigraph/view/OrderList$Place;"⟩ : MethodName)) hown (mvT hZ (hw _ (List.mem_of_getElem? (i := 57) rfl))) (mvT hZ (hw _ (List.mem_of_getElem? (i := 58) rfl))) (mvT hZ (hw _ (List.mem_of_getElem? (i := 59) rfl))) (mvT hZ (hw _ (List.mem_of_getElem? (i := 60) rfl))) (by decide) (backOf (W := 0) (rm9_3_1 l Z a0 hw [] b8 k8 (5 : Int32) [(.ref b2_4), (.ref b5_3_31), (.ref b5_3_216), (.ref b5_3_236), (.ref b16_4)] .null b5_3_31 h253 n0 O365 V253 (by decide) rfl) hZ (hw _ (List.mem_of_getElem? (i := 60) rfl)) (hw _ (List.mem_of_getElem? (i := 59) rfl)) (by decide) (by decide)) (g := (mkF m 125 #[.val (.int x0_0), .val (.int x1_0), .val (.int (3 : Int32)), .val (.int (3 : Int32)), .val (.ref b1), .val (.ref b8), .val (.ref b5_3_236), .val (.ref b5_3_216), .val (.ref b16_4), .val (.ref b2_4), .unset, .unset, .unset, .unset, .unset] [(.int (1 : Int32)), (.int (3 : Int32)), (.ref b8)])) rfl (by rw [hml]; rfl) (argsL := [(.ref b8), (.int (3 : Int32)), (.int (1 : Int32))]) (rest := []) (lenOf pd_4 rfl) rfl (by show 2 * 0 + _ ≤ _; exact Nat.le_of_eq rfl) (hb hby at_125) (fun _ _ => ⟨rfl, e366, (by decide : 7 + 0 ≤ _), (by decide : 22 + 0 ≤ _)⟩)
      dsimp only [Pt.U, Pt.locs, Pt.cells, Pt.slots] at X368 l368 y368 z368 st368 hQ368
      subst y368 z368
      obtain ⟨rfl, N368q, e368⟩ := hQ368
      refine own_step (fun t k => st368 _ k) ?_
      have N369 : Fr n0 L368 := by rw [l368]; exact Fr.app N367 N368q
      show own_Ends p.tables e below s _ _ _ (T368.setTop (mkF m 128 #[.val (.int x0_0), .val (.int x1_0), .val (.int (3 : Int32)), .val (.int (3 : Int32)), .val (.ref b1), .val (.ref b8), .val (.ref b5_3_236), .val (.ref b5_3_216), .val (.ref b16_4), .val (.ref b2_4), .unset, .unset, .unset, .unset, .unset] [(.ref b5_3_31)]))
      refine own_step (fun t k => XS.astore X368.here hx rfl (hb hby at_128) rfl rfl (l' := #[.val (.int x0_0), .val (.int x1_0), .val (.int (3 : Int32)), .val (.int (3 : Int32)), .val (.ref b1), .val (.ref b8), .val (.ref b5_3_236), .val (.ref b5_3_216), .val (.ref b16_4), .val (.ref b2_4), .val (.ref b5_3_31), .unset, .unset, .unset, .unset]) rfl k) ?_
      show own_Ends p.tables e below s _ _ _ (T368.setTop (mkF m 130 #[.val (.int x0_0), .val (.int x1_0), .val (.int (3 : Int32)), .val (.int (3 : Int32)), .val (.ref b1), .val (.ref b8), .val (.ref b5_3_236), .val (.ref b5_3_216), .val (.ref b16_4), .val (.ref b2_4), .val (.ref b5_3_31), .unset, .unset, .unset, .unset] []))
      refine own_step (fun t k => XS.iloadN X368.here hx rfl (hb hby at_130) rfl k) ?_
      show own_Ends p.tables e below s _ _ _ (T368.setTop (mkF m 131 #[.val (.int x0_0), .val (.int x1_0), .val (.int (3 : Int32)), .val (.int (3 : Int32)), .val (.ref b1), .val (.ref b8), .val (.ref b5_3_236), .val (.ref b5_3_216), .val (.ref b16_4), .val (.ref b2_4), .val (.ref b5_3_31), .unset, .unset, .unset, .unset] [(.int (3 : Int32))]))
      refine own_step (fun t k => XS.iconst X368.here hx rfl (hb hby at_131) k) ?_
      show own_Ends p.tables e below s _ _ _ (T368.setTop (mkF m 132 #[.val (.int x0_0), .val (.int x1_0), .val (.int (3 : Int32)), .val (.int (3 : Int32)), .val (.ref b1), .val (.ref b8), .val (.ref b5_3_236), .val (.ref b5_3_216), .val (.ref b16_4), .val (.ref b2_4), .val (.ref b5_3_31), .unset, .unset, .unset, .unset] [(.int (2 : Int32)), (.int (3 : Int32))]))
      refine own_step (fun t k => XS.icmpNo X368.here hx rfl (hb hby at_132) rfl (flt (by decide : ¬ ((3 : Int32) < (2 : Int32)))).1 k) ?_
      show own_Ends p.tables e below s _ _ _ (T368.setTop (mkF m 135 #[.val (.int x0_0), .val (.int x1_0), .val (.int (3 : Int32)), .val (.int (3 : Int32)), .val (.ref b1), .val (.ref b8), .val (.ref b5_3_236), .val (.ref b5_3_216), .val (.ref b16_4), .val (.ref b2_4), .val (.ref b5_3_31), .unset, .unset, .unset, .unset] []))
      refine own_step (fun t k => XS.aload X368.here hx rfl (hb hby at_135) rfl rfl k) ?_
      show own_Ends p.tables e below s _ _ _ (T368.setTop (mkF m 137 #[.val (.int x0_0), .val (.int x1_0), .val (.int (3 : Int32)), .val (.int (3 : Int32)), .val (.ref b1), .val (.ref b8), .val (.ref b5_3_236), .val (.ref b5_3_216), .val (.ref b16_4), .val (.ref b2_4), .val (.ref b5_3_31), .unset, .unset, .unset, .unset] [(.ref b8)]))
      refine own_step (fun t k => XS.iloadN X368.here hx rfl (hb hby at_137) rfl k) ?_
      show own_Ends p.tables e below s _ _ _ (T368.setTop (mkF m 138 #[.val (.int x0_0), .val (.int x1_0), .val (.int (3 : Int32)), .val (.int (3 : Int32)), .val (.ref b1), .val (.ref b8), .val (.ref b5_3_236), .val (.ref b5_3_216), .val (.ref b16_4), .val (.ref b2_4), .val (.ref b5_3_31), .unset, .unset, .unset, .unset] [(.int (3 : Int32)), (.ref b8)]))
      refine own_step (fun t k => XS.iconst X368.here hx rfl (hb hby at_138) k) ?_
      show own_Ends p.tables e below s _ _ _ (T368.setTop (mkF m 139 #[.val (.int x0_0), .val (.int x1_0), .val (.int (3 : Int32)), .val (.int (3 : Int32)), .val (.ref b1), .val (.ref b8), .val (.ref b5_3_236), .val (.ref b5_3_216), .val (.ref b16_4), .val (.ref b2_4), .val (.ref b5_3_31), .unset, .unset, .unset, .unset] [(.int (2 : Int32)), (.int (3 : Int32)), (.ref b8)]))
      obtain ⟨_, _, ⟨T370, L370, k370, n370⟩, -, X370, ⟨Lc370, hQ370, l370, y370, z370⟩, st370⟩ := Jvm.LawKit.callS X368 hx (y := (⟨"com/example/serigraph/serigraph/view/OrderListRemovePinLaw", "at", "([Lcom/example/serigraph/serigraph/view/OrderList$Place;II)Lcom/example/serigraph/serigraph/view/OrderList$Place;"⟩ : MethodName)) hown (mvT hZ (hw _ (List.mem_of_getElem? (i := 57) rfl))) (mvT hZ (hw _ (List.mem_of_getElem? (i := 58) rfl))) (mvT hZ (hw _ (List.mem_of_getElem? (i := 59) rfl))) (mvT hZ (hw _ (List.mem_of_getElem? (i := 60) rfl))) (by decide) (backOf (W := 0) (rm9_3_2 l Z a0 hw [] b8 k8 (5 : Int32) [(.ref b2_4), (.ref b5_3_31), (.ref b5_3_216), (.ref b5_3_236), (.ref b16_4)] .null b5_3_216 h253 n0 O365 V253 (by decide) rfl) hZ (hw _ (List.mem_of_getElem? (i := 60) rfl)) (hw _ (List.mem_of_getElem? (i := 59) rfl)) (by decide) (by decide)) (g := (mkF m 139 #[.val (.int x0_0), .val (.int x1_0), .val (.int (3 : Int32)), .val (.int (3 : Int32)), .val (.ref b1), .val (.ref b8), .val (.ref b5_3_236), .val (.ref b5_3_216), .val (.ref b16_4), .val (.ref b2_4), .val (.ref b5_3_31), .unset, .unset, .unset, .unset] [(.int (2 : Int32)), (.int (3 : Int32)), (.ref b8)])) rfl (by rw [hml]; rfl) (argsL := [(.ref b8), (.int (3 : Int32)), (.int (2 : Int32))]) (rest := []) (lenOf pd_4 rfl) rfl (by show 2 * 0 + _ ≤ _; exact Nat.le_of_eq rfl) (hb hby at_139) (fun _ _ => ⟨rfl, e368, (by decide : 7 + 0 ≤ _), (by decide : 22 + 0 ≤ _)⟩)
      dsimp only [Pt.U, Pt.locs, Pt.cells, Pt.slots] at X370 l370 y370 z370 st370 hQ370
      subst y370 z370
      obtain ⟨rfl, N370q, e370⟩ := hQ370
      refine own_step (fun t k => st370 _ k) ?_
      have N371 : Fr n0 L370 := by rw [l370]; exact Fr.app N369 N370q
      show own_Ends p.tables e below s _ _ _ (T370.setTop (mkF m 142 #[.val (.int x0_0), .val (.int x1_0), .val (.int (3 : Int32)), .val (.int (3 : Int32)), .val (.ref b1), .val (.ref b8), .val (.ref b5_3_236), .val (.ref b5_3_216), .val (.ref b16_4), .val (.ref b2_4), .val (.ref b5_3_31), .unset, .unset, .unset, .unset] [(.ref b5_3_216)]))
      refine own_step (fun t k => XS.goto X370.here hx rfl (pc0 := 142) (pc' := 146) rfl (hb hby at_142) (by decide) (by decide) k) ?_
      show own_Ends p.tables e below s _ _ _ (T370.setTop (mkF m 146 #[.val (.int x0_0), .val (.int x1_0), .val (.int (3 : Int32)), .val (.int (3 : Int32)), .val (.ref b1), .val (.ref b8), .val (.ref b5_3_236), .val (.ref b5_3_216), .val (.ref b16_4), .val (.ref b2_4), .val (.ref b5_3_31), .unset, .unset, .unset, .unset] [(.ref b5_3_216)]))
      refine own_step (fun t k => XS.astore X370.here hx rfl (hb hby at_146) rfl rfl (l' := #[.val (.int x0_0), .val (.int x1_0), .val (.int (3 : Int32)), .val (.int (3 : Int32)), .val (.ref b1), .val (.ref b8), .val (.ref b5_3_236), .val (.ref b5_3_216), .val (.ref b16_4), .val (.ref b2_4), .val (.ref b5_3_31), .val (.ref b5_3_216), .unset, .unset, .unset]) rfl k) ?_
      show own_Ends p.tables e below s _ _ _ (T370.setTop (mkF m 148 #[.val (.int x0_0), .val (.int x1_0), .val (.int (3 : Int32)), .val (.int (3 : Int32)), .val (.ref b1), .val (.ref b8), .val (.ref b5_3_236), .val (.ref b5_3_216), .val (.ref b16_4), .val (.ref b2_4), .val (.ref b5_3_31), .val (.ref b5_3_216), .unset, .unset, .unset] []))
      refine own_step (fun t k => XS.iloadN X370.here hx rfl (hb hby at_148) rfl k) ?_
      show own_Ends p.tables e below s _ _ _ (T370.setTop (mkF m 149 #[.val (.int x0_0), .val (.int x1_0), .val (.int (3 : Int32)), .val (.int (3 : Int32)), .val (.ref b1), .val (.ref b8), .val (.ref b5_3_236), .val (.ref b5_3_216), .val (.ref b16_4), .val (.ref b2_4), .val (.ref b5_3_31), .val (.ref b5_3_216), .unset, .unset, .unset] [(.int (3 : Int32))]))
      refine own_step (fun t k => XS.iconst X370.here hx rfl (hb hby at_149) k) ?_
      show own_Ends p.tables e below s _ _ _ (T370.setTop (mkF m 150 #[.val (.int x0_0), .val (.int x1_0), .val (.int (3 : Int32)), .val (.int (3 : Int32)), .val (.ref b1), .val (.ref b8), .val (.ref b5_3_236), .val (.ref b5_3_216), .val (.ref b16_4), .val (.ref b2_4), .val (.ref b5_3_31), .val (.ref b5_3_216), .unset, .unset, .unset] [(.int (3 : Int32)), (.int (3 : Int32))]))
      refine own_step (fun t k => XS.icmpNo X370.here hx rfl (hb hby at_150) rfl (flt (by decide : ¬ ((3 : Int32) < (3 : Int32)))).1 k) ?_
      show own_Ends p.tables e below s _ _ _ (T370.setTop (mkF m 153 #[.val (.int x0_0), .val (.int x1_0), .val (.int (3 : Int32)), .val (.int (3 : Int32)), .val (.ref b1), .val (.ref b8), .val (.ref b5_3_236), .val (.ref b5_3_216), .val (.ref b16_4), .val (.ref b2_4), .val (.ref b5_3_31), .val (.ref b5_3_216), .unset, .unset, .unset] []))
      refine own_step (fun t k => XS.aload X370.here hx rfl (hb hby at_153) rfl rfl k) ?_
      show own_Ends p.tables e below s _ _ _ (T370.setTop (mkF m 155 #[.val (.int x0_0), .val (.int x1_0), .val (.int (3 : Int32)), .val (.int (3 : Int32)), .val (.ref b1), .val (.ref b8), .val (.ref b5_3_236), .val (.ref b5_3_216), .val (.ref b16_4), .val (.ref b2_4), .val (.ref b5_3_31), .val (.ref b5_3_216), .unset, .unset, .unset] [(.ref b8)]))
      refine own_step (fun t k => XS.iloadN X370.here hx rfl (hb hby at_155) rfl k) ?_
      show own_Ends p.tables e below s _ _ _ (T370.setTop (mkF m 156 #[.val (.int x0_0), .val (.int x1_0), .val (.int (3 : Int32)), .val (.int (3 : Int32)), .val (.ref b1), .val (.ref b8), .val (.ref b5_3_236), .val (.ref b5_3_216), .val (.ref b16_4), .val (.ref b2_4), .val (.ref b5_3_31), .val (.ref b5_3_216), .unset, .unset, .unset] [(.int (3 : Int32)), (.ref b8)]))
      refine own_step (fun t k => XS.iconst X370.here hx rfl (hb hby at_156) k) ?_
      show own_Ends p.tables e below s _ _ _ (T370.setTop (mkF m 157 #[.val (.int x0_0), .val (.int x1_0), .val (.int (3 : Int32)), .val (.int (3 : Int32)), .val (.ref b1), .val (.ref b8), .val (.ref b5_3_236), .val (.ref b5_3_216), .val (.ref b16_4), .val (.ref b2_4), .val (.ref b5_3_31), .val (.ref b5_3_216), .unset, .unset, .unset] [(.int (3 : Int32)), (.int (3 : Int32)), (.ref b8)]))
      obtain ⟨_, _, ⟨T372, L372, k372, n372⟩, -, X372, ⟨Lc372, hQ372, l372, y372, z372⟩, st372⟩ := Jvm.LawKit.callS X370 hx (y := (⟨"com/example/serigraph/serigraph/view/OrderListRemovePinLaw", "at", "([Lcom/example/serigraph/serigraph/view/OrderList$Place;II)Lcom/example/serigraph/serigraph/view/OrderList$Place;"⟩ : MethodName)) hown (mvT hZ (hw _ (List.mem_of_getElem? (i := 57) rfl))) (mvT hZ (hw _ (List.mem_of_getElem? (i := 58) rfl))) (mvT hZ (hw _ (List.mem_of_getElem? (i := 59) rfl))) (mvT hZ (hw _ (List.mem_of_getElem? (i := 60) rfl))) (by decide) (backOf (W := 0) (rm9_3_3 l Z a0 hw [] b8 k8 (5 : Int32) [(.ref b2_4), (.ref b5_3_31), (.ref b5_3_216), (.ref b5_3_236), (.ref b16_4)] .null b16_4 h253 n0 O365 V253 (by decide) rfl) hZ (hw _ (List.mem_of_getElem? (i := 60) rfl)) (hw _ (List.mem_of_getElem? (i := 59) rfl)) (by decide) (by decide)) (g := (mkF m 157 #[.val (.int x0_0), .val (.int x1_0), .val (.int (3 : Int32)), .val (.int (3 : Int32)), .val (.ref b1), .val (.ref b8), .val (.ref b5_3_236), .val (.ref b5_3_216), .val (.ref b16_4), .val (.ref b2_4), .val (.ref b5_3_31), .val (.ref b5_3_216), .unset, .unset, .unset] [(.int (3 : Int32)), (.int (3 : Int32)), (.ref b8)])) rfl (by rw [hml]; rfl) (argsL := [(.ref b8), (.int (3 : Int32)), (.int (3 : Int32))]) (rest := []) (lenOf pd_4 rfl) rfl (by show 2 * 0 + _ ≤ _; exact Nat.le_of_eq rfl) (hb hby at_157) (fun _ _ => ⟨rfl, e370, (by decide : 7 + 0 ≤ _), (by decide : 22 + 0 ≤ _)⟩)
      dsimp only [Pt.U, Pt.locs, Pt.cells, Pt.slots] at X372 l372 y372 z372 st372 hQ372
      subst y372 z372
      obtain ⟨rfl, N372q, e372⟩ := hQ372
      refine own_step (fun t k => st372 _ k) ?_
      have N373 : Fr n0 L372 := by rw [l372]; exact Fr.app N371 N372q
      show own_Ends p.tables e below s _ _ _ (T372.setTop (mkF m 160 #[.val (.int x0_0), .val (.int x1_0), .val (.int (3 : Int32)), .val (.int (3 : Int32)), .val (.ref b1), .val (.ref b8), .val (.ref b5_3_236), .val (.ref b5_3_216), .val (.ref b16_4), .val (.ref b2_4), .val (.ref b5_3_31), .val (.ref b5_3_216), .unset, .unset, .unset] [(.ref b16_4)]))
      refine own_step (fun t k => XS.goto X372.here hx rfl (pc0 := 160) (pc' := 164) rfl (hb hby at_160) (by decide) (by decide) k) ?_
      show own_Ends p.tables e below s _ _ _ (T372.setTop (mkF m 164 #[.val (.int x0_0), .val (.int x1_0), .val (.int (3 : Int32)), .val (.int (3 : Int32)), .val (.ref b1), .val (.ref b8), .val (.ref b5_3_236), .val (.ref b5_3_216), .val (.ref b16_4), .val (.ref b2_4), .val (.ref b5_3_31), .val (.ref b5_3_216), .unset, .unset, .unset] [(.ref b16_4)]))
      refine own_step (fun t k => XS.astore X372.here hx rfl (hb hby at_164) rfl rfl (l' := #[.val (.int x0_0), .val (.int x1_0), .val (.int (3 : Int32)), .val (.int (3 : Int32)), .val (.ref b1), .val (.ref b8), .val (.ref b5_3_236), .val (.ref b5_3_216), .val (.ref b16_4), .val (.ref b2_4), .val (.ref b5_3_31), .val (.ref b5_3_216), .val (.ref b16_4), .unset, .unset]) rfl k) ?_
      show own_Ends p.tables e below s _ _ _ (T372.setTop (mkF m 166 #[.val (.int x0_0), .val (.int x1_0), .val (.int (3 : Int32)), .val (.int (3 : Int32)), .val (.ref b1), .val (.ref b8), .val (.ref b5_3_236), .val (.ref b5_3_216), .val (.ref b16_4), .val (.ref b2_4), .val (.ref b5_3_31), .val (.ref b5_3_216), .val (.ref b16_4), .unset, .unset] []))
      refine own_step (fun t k => XS.aload X372.here hx rfl (hb hby at_166) rfl rfl k) ?_
      show own_Ends p.tables e below s _ _ _ (T372.setTop (mkF m 168 #[.val (.int x0_0), .val (.int x1_0), .val (.int (3 : Int32)), .val (.int (3 : Int32)), .val (.ref b1), .val (.ref b8), .val (.ref b5_3_236), .val (.ref b5_3_216), .val (.ref b16_4), .val (.ref b2_4), .val (.ref b5_3_31), .val (.ref b5_3_216), .val (.ref b16_4), .unset, .unset] [(.ref b1)]))
      refine own_step (fun t k => XS.aload X372.here hx rfl (hb hby at_168) rfl rfl k) ?_
      show own_Ends p.tables e below s _ _ _ (T372.setTop (mkF m 170 #[.val (.int x0_0), .val (.int x1_0), .val (.int (3 : Int32)), .val (.int (3 : Int32)), .val (.ref b1), .val (.ref b8), .val (.ref b5_3_236), .val (.ref b5_3_216), .val (.ref b16_4), .val (.ref b2_4), .val (.ref b5_3_31), .val (.ref b5_3_216), .val (.ref b16_4), .unset, .unset] [(.ref b5_3_236), (.ref b1)]))
      have F374 : Fld Z h253 b5_3_236 "com/example/serigraph/serigraph/view/OrderList$Place" "previous" "Lcom/example/serigraph/serigraph/view/OrderList$Place;" (.ref b5_3_216) := ((p236_12.other W243 (Or.inl (Ne.symm ne_b8_b5_3_236))).other W253 (Or.inl (Ne.symm ne_b8_b5_3_236)))
      have F375 : Fld Z h253 b5_3_236 "com/example/serigraph/serigraph/view/OrderList$Place" "next" "Lcom/example/serigraph/serigraph/view/OrderList$Place;" (.ref b16_4) := ((p236_11.other W243 (Or.inl (Ne.symm ne_b8_b5_3_236))).other W253 (Or.inl (Ne.symm ne_b8_b5_3_236)))
      have F376 : Exa Z h253 b5_3_216 "com/example/serigraph/serigraph/view/OrderList$Place" := ((p236_4.wr W243).wr W253)
      have F377 : Fld Z h253 b5_3_216 "com/example/serigraph/serigraph/view/OrderList$Place" "next" "Lcom/example/serigraph/serigraph/view/OrderList$Place;" (.ref b5_3_236) := ((p236_2.other W243 (Or.inl (Ne.symm ne_b8_b5_3_216))).other W253 (Or.inl (Ne.symm ne_b8_b5_3_216)))
      have F378 : Exa Z h253 b16_4 "com/example/serigraph/serigraph/view/OrderList$Place" := (F252.wr W253)
      have F379 : Fld Z h253 b16_4 "com/example/serigraph/serigraph/view/OrderList$Place" "previous" "Lcom/example/serigraph/serigraph/view/OrderList$Place;" (.ref b5_3_236) := ((p236_7.other W243 (Or.inl ne_b16_4_b8)).other W253 (Or.inl ne_b16_4_b8))
      have F380 : Fld Z h253 b5_3_216 "com/example/serigraph/serigraph/view/OrderList$Place" "label" "J" (.long (8589934592 : Int64)) := ((p236_3.other W243 (Or.inl (Ne.symm ne_b8_b5_3_216))).other W253 (Or.inl (Ne.symm ne_b8_b5_3_216)))
      have F381 : Fld Z h253 b5_3_216 "com/example/serigraph/serigraph/view/OrderList$Place" "previous" "Lcom/example/serigraph/serigraph/view/OrderList$Place;" (.ref b5_3_31) := ((p236_1.other W243 (Or.inl (Ne.symm ne_b8_b5_3_216))).other W253 (Or.inl (Ne.symm ne_b8_b5_3_216)))
      have F382 : Fld Z h253 b16_4 "com/example/serigraph/serigraph/view/OrderList$Place" "label" "J" (.long (4611686018427387904 : Int64)) := ((p236_5.other W243 (Or.inl ne_b16_4_b8)).other W253 (Or.inl ne_b16_4_b8))
      have F383 : Fld Z h253 b16_4 "com/example/serigraph/serigraph/view/OrderList$Place" "next" "Lcom/example/serigraph/serigraph/view/OrderList$Place;" .null := ((p236_8.other W243 (Or.inl ne_b16_4_b8)).other W253 (Or.inl ne_b16_4_b8))
      have F385 : Exa Z h253 b1 "com/example/serigraph/serigraph/view/OrderList" := (F249.wr W253)
      obtain ⟨cq384, kq384, q384a, q384b, q384c⟩ := isOf hZ e372 F385
      obtain ⟨_, _, ⟨T384, L384, k384, n384⟩, -, X384, ⟨Lc384, hQ384, l384, y384, z384⟩, st384⟩ := X372.virtualBack hx (y := (⟨"com/example/serigraph/serigraph/view/OrderList", "remove", "(Lcom/example/serigraph/serigraph/view/OrderList$Place;)V"⟩ : MethodName)) (z := (⟨"com/example/serigraph/serigraph/view/OrderList", "remove", "(Lcom/example/serigraph/serigraph/view/OrderList$Place;)V"⟩ : MethodName)) hown (mvT hZ (hw _ (List.mem_of_getElem? (i := 61) rfl))) (mvT hZ (hw _ (List.mem_of_getElem? (i := 62) rfl))) (notFace_of_selects (args := #[]) (mvT hZ (hw _ (List.mem_of_getElem? (i := 64) rfl)))) (mvT hZ (hw _ (List.mem_of_getElem? (i := 64) rfl))) (mvT hZ (hw _ (List.mem_of_getElem? (i := 63) rfl))) (by decide) (backOf (W := 0) (rm10 l Z a0 hw [] b1 b5_3_236 (.long (8589934592 : Int64)) (.ref b5_3_31) (.long (4611686018427387904 : Int64)) .null b5_3_216 b16_4 (.ref b5_3_236) (.ref b5_3_236) h253 n0 O365 F380 F381 F382 F383 F374 F375 F376 F377 g_b5_3_216 (Ne.symm ne_b5_3_216_b5_3_236) F378 F379 ne_b16_4_b5_3_216 g_b16_4) hZ (hw _ (List.mem_of_getElem? (i := 65) rfl)) (hw _ (List.mem_of_getElem? (i := 3) rfl)) (by decide) (by decide)) q384a q384c (g := (mkF m 170 #[.val (.int x0_0), .val (.int x1_0), .val (.int (3 : Int32)), .val (.int (3 : Int32)), .val (.ref b1), .val (.ref b8), .val (.ref b5_3_236), .val (.ref b5_3_216), .val (.ref b16_4), .val (.ref b2_4), .val (.ref b5_3_31), .val (.ref b5_3_216), .val (.ref b16_4), .unset, .unset] [(.ref b5_3_236), (.ref b1)])) rfl (by rw [hml]; rfl) (Steps.refl _) (argsL := [(.ref b5_3_236)]) (rest := []) (lenOf pd_5 rfl) rfl (by show 2 * 0 + _ ≤ _; exact Nat.le_of_eq rfl) (hb hby at_170) (fun _ _ => ⟨rfl, e372, (by decide : 7 + 0 ≤ _), (by decide : 22 + 0 ≤ _)⟩)
      dsimp only [Pt.U, Pt.locs, Pt.cells, Pt.slots] at X384 l384 y384 z384 st384 hQ384
      subst y384 z384
      obtain ⟨rfl, N384q, K384q, p384_0, p384_1, p384_2, p384_3, p384_4, p384_5, p384_6, p384_7⟩ := hQ384
      refine own_step (fun t k => st384.trans k) ?_
      have N386 : Fr n0 L384 := by rw [l384]; exact Fr.app N373 N384q
      have K387 : Keep h0 T384.heap [] := K254.trans K384q (allS (Or.inr sz_b5_3_216) (allS (Or.inr sz_b16_4) all0))
      show own_Ends p.tables e below s _ _ _ (T384.setTop (mkF m 173 #[.val (.int x0_0), .val (.int x1_0), .val (.int (3 : Int32)), .val (.int (3 : Int32)), .val (.ref b1), .val (.ref b8), .val (.ref b5_3_236), .val (.ref b5_3_216), .val (.ref b16_4), .val (.ref b2_4), .val (.ref b5_3_31), .val (.ref b5_3_216), .val (.ref b16_4), .unset, .unset] []))
      refine own_step (fun t k => XS.aload X384.here hx rfl (hb hby at_173) rfl rfl k) ?_
      show own_Ends p.tables e below s _ _ _ (T384.setTop (mkF m 175 #[.val (.int x0_0), .val (.int x1_0), .val (.int (3 : Int32)), .val (.int (3 : Int32)), .val (.ref b1), .val (.ref b8), .val (.ref b5_3_236), .val (.ref b5_3_216), .val (.ref b16_4), .val (.ref b2_4), .val (.ref b5_3_31), .val (.ref b5_3_216), .val (.ref b16_4), .unset, .unset] [(.ref b5_3_31)]))
      have F388 : Fld Z h243 b5_3_31 "com/example/serigraph/serigraph/view/OrderList$Place" "previous" "Lcom/example/serigraph/serigraph/view/OrderList$Place;" (.ref b2_4) := (((p216_1.other W222 (Or.inl (Ne.symm ne_b8_b5_3_31))).keep K236q (ninS ne_b5_3_31_b5_3_216 (ninS (Ne.symm ne_b16_4_b5_3_31) nin0))).other W243 (Or.inl (Ne.symm ne_b8_b5_3_31)))
      have F389 : Fld Z T384.heap b5_3_31 "com/example/serigraph/serigraph/view/OrderList$Place" "previous" "Lcom/example/serigraph/serigraph/view/OrderList$Place;" (.ref b2_4) := ((F388.other W253 (Or.inl (Ne.symm ne_b8_b5_3_31))).keep K384q (ninS ne_b5_3_31_b5_3_216 (ninS (Ne.symm ne_b16_4_b5_3_31) nin0)))
      have O390 : Old Z n0 T384.heap := (O365.keep K384q (allS g_b5_3_216 (allS g_b16_4 all0)))
      have F392 : Exa Z h253 b5_3_31 "com/example/serigraph/serigraph/view/OrderList$Place" := (((F238.keep K236q).wr W243).wr W253)
      have F393 : Exa Z T384.heap b5_3_31 "com/example/serigraph/serigraph/view/OrderList$Place" := (F392.keep K384q)
      obtain ⟨cq391, kq391, q391a, q391b, q391c⟩ := isOf hZ rfl F393
      obtain ⟨_, _, ⟨T391, L391, k391, n391⟩, -, X391, ⟨Lc391, hQ391, l391, y391, z391⟩, st391⟩ := X384.virtualBack hx (y := (⟨"com/example/serigraph/serigraph/view/OrderList$Place", "previous", "()Lcom/example/serigraph/serigraph/view/OrderList$Place;"⟩ : MethodName)) (z := (⟨"com/example/serigraph/serigraph/view/OrderList$Place", "previous", "()Lcom/example/serigraph/serigraph/view/OrderList$Place;"⟩ : MethodName)) hown (mvT hZ (hw _ (List.mem_of_getElem? (i := 66) rfl))) (mvT hZ (hw _ (List.mem_of_getElem? (i := 67) rfl))) (notFace_of_selects (args := #[]) (mvT hZ (hw _ (List.mem_of_getElem? (i := 69) rfl)))) (mvT hZ (hw _ (List.mem_of_getElem? (i := 69) rfl))) (mvT hZ (hw _ (List.mem_of_getElem? (i := 68) rfl))) (by decide) (backOf (W := 0) (rm11 l Z a0 hw [] b5_3_31 b2_4 T384.heap n0 O390 F389) hZ (hw _ (List.mem_of_getElem? (i := 70) rfl)) (hw _ (List.mem_of_getElem? (i := 12) rfl)) (by decide) (by decide)) q391a q391c (g := (mkF m 175 #[.val (.int x0_0), .val (.int x1_0), .val (.int (3 : Int32)), .val (.int (3 : Int32)), .val (.ref b1), .val (.ref b8), .val (.ref b5_3_236), .val (.ref b5_3_216), .val (.ref b16_4), .val (.ref b2_4), .val (.ref b5_3_31), .val (.ref b5_3_216), .val (.ref b16_4), .unset, .unset] [(.ref b5_3_31)])) rfl (by rw [hml]; rfl) (Steps.refl _) (argsL := []) (rest := []) (lenOf pd_3 rfl) rfl (by show 2 * 0 + _ ≤ _; exact Nat.le_of_eq rfl) (hb hby at_175) (fun _ _ => ⟨rfl, rfl, (by decide : 7 + 0 ≤ _), (by decide : 22 + 0 ≤ _)⟩)
      dsimp only [Pt.U, Pt.locs, Pt.cells, Pt.slots] at X391 l391 y391 z391 st391 hQ391
      subst y391 z391
      obtain ⟨rfl, N391q, e391⟩ := hQ391
      refine own_step (fun t k => st391.trans k) ?_
      have N394 : Fr n0 L391 := by rw [l391]; exact Fr.app N386 N391q
      show own_Ends p.tables e below s _ _ _ (T391.setTop (mkF m 178 #[.val (.int x0_0), .val (.int x1_0), .val (.int (3 : Int32)), .val (.int (3 : Int32)), .val (.ref b1), .val (.ref b8), .val (.ref b5_3_236), .val (.ref b5_3_216), .val (.ref b16_4), .val (.ref b2_4), .val (.ref b5_3_31), .val (.ref b5_3_216), .val (.ref b16_4), .unset, .unset] [(.ref b2_4)]))
      refine own_step (fun t k => XS.aload X391.here hx rfl (hb hby at_178) rfl rfl k) ?_
      show own_Ends p.tables e below s _ _ _ (T391.setTop (mkF m 180 #[.val (.int x0_0), .val (.int x1_0), .val (.int (3 : Int32)), .val (.int (3 : Int32)), .val (.ref b1), .val (.ref b8), .val (.ref b5_3_236), .val (.ref b5_3_216), .val (.ref b16_4), .val (.ref b2_4), .val (.ref b5_3_31), .val (.ref b5_3_216), .val (.ref b16_4), .unset, .unset] [(.ref b2_4), (.ref b2_4)]))
      refine own_step (fun t k => Jvm.RoadKit.acmp (g := (mkF m 180 #[.val (.int x0_0), .val (.int x1_0), .val (.int (3 : Int32)), .val (.int (3 : Int32)), .val (.ref b1), .val (.ref b8), .val (.ref b5_3_236), .val (.ref b5_3_216), .val (.ref b16_4), .val (.ref b2_4), .val (.ref b5_3_31), .val (.ref b5_3_216), .val (.ref b16_4), .unset, .unset] [(.ref b2_4), (.ref b2_4)])) X391 hx rfl rfl rfl (pc0 := 180) (pc' := 183) (same := true) rfl (hb hby at_180) rfl (decide_eq_true rfl) (by decide) (by decide) k) ?_
      show own_Ends p.tables e below s _ _ _ (T391.setTop (mkF m 183 #[.val (.int x0_0), .val (.int x1_0), .val (.int (3 : Int32)), .val (.int (3 : Int32)), .val (.ref b1), .val (.ref b8), .val (.ref b5_3_236), .val (.ref b5_3_216), .val (.ref b16_4), .val (.ref b2_4), .val (.ref b5_3_31), .val (.ref b5_3_216), .val (.ref b16_4), .unset, .unset] []))
      refine own_step (fun t k => XS.iconst X391.here hx rfl (hb hby at_183) k) ?_
      show own_Ends p.tables e below s _ _ _ (T391.setTop (mkF m 184 #[.val (.int x0_0), .val (.int x1_0), .val (.int (3 : Int32)), .val (.int (3 : Int32)), .val (.ref b1), .val (.ref b8), .val (.ref b5_3_236), .val (.ref b5_3_216), .val (.ref b16_4), .val (.ref b2_4), .val (.ref b5_3_31), .val (.ref b5_3_216), .val (.ref b16_4), .unset, .unset] [(.int (1 : Int32))]))
      refine own_step (fun t k => XS.goto X391.here hx rfl (pc0 := 184) (pc' := 188) rfl (hb hby at_184) (by decide) (by decide) k) ?_
      show own_Ends p.tables e below s _ _ _ (T391.setTop (mkF m 188 #[.val (.int x0_0), .val (.int x1_0), .val (.int (3 : Int32)), .val (.int (3 : Int32)), .val (.ref b1), .val (.ref b8), .val (.ref b5_3_236), .val (.ref b5_3_216), .val (.ref b16_4), .val (.ref b2_4), .val (.ref b5_3_31), .val (.ref b5_3_216), .val (.ref b16_4), .unset, .unset] [(.int (1 : Int32))]))
      refine own_step (fun t k => XS.istore X391.here hx rfl (hb hby at_188) rfl (l' := #[.val (.int x0_0), .val (.int x1_0), .val (.int (3 : Int32)), .val (.int (3 : Int32)), .val (.ref b1), .val (.ref b8), .val (.ref b5_3_236), .val (.ref b5_3_216), .val (.ref b16_4), .val (.ref b2_4), .val (.ref b5_3_31), .val (.ref b5_3_216), .val (.ref b16_4), .val (.int (1 : Int32)), .unset]) rfl k) ?_
      show own_Ends p.tables e below s _ _ _ (T391.setTop (mkF m 190 #[.val (.int x0_0), .val (.int x1_0), .val (.int (3 : Int32)), .val (.int (3 : Int32)), .val (.ref b1), .val (.ref b8), .val (.ref b5_3_236), .val (.ref b5_3_216), .val (.ref b16_4), .val (.ref b2_4), .val (.ref b5_3_31), .val (.ref b5_3_216), .val (.ref b16_4), .val (.int (1 : Int32)), .unset] []))
      refine own_step (fun t k => XS.iloadN X391.here hx rfl (hb hby at_190) rfl k) ?_
      show own_Ends p.tables e below s _ _ _ (T391.setTop (mkF m 191 #[.val (.int x0_0), .val (.int x1_0), .val (.int (3 : Int32)), .val (.int (3 : Int32)), .val (.ref b1), .val (.ref b8), .val (.ref b5_3_236), .val (.ref b5_3_216), .val (.ref b16_4), .val (.ref b2_4), .val (.ref b5_3_31), .val (.ref b5_3_216), .val (.ref b16_4), .val (.int (1 : Int32)), .unset] [(.int (3 : Int32))]))
      refine own_step (fun t k => XS.iconst X391.here hx rfl (hb hby at_191) k) ?_
      show own_Ends p.tables e below s _ _ _ (T391.setTop (mkF m 192 #[.val (.int x0_0), .val (.int x1_0), .val (.int (3 : Int32)), .val (.int (3 : Int32)), .val (.ref b1), .val (.ref b8), .val (.ref b5_3_236), .val (.ref b5_3_216), .val (.ref b16_4), .val (.ref b2_4), .val (.ref b5_3_31), .val (.ref b5_3_216), .val (.ref b16_4), .val (.int (1 : Int32)), .unset] [(.int (2 : Int32)), (.int (3 : Int32))]))
      refine own_step (fun t k => XS.icmpNo X391.here hx rfl (hb hby at_192) rfl (flt (by decide : ¬ ((3 : Int32) < (2 : Int32)))).1 k) ?_
      show own_Ends p.tables e below s _ _ _ (T391.setTop (mkF m 195 #[.val (.int x0_0), .val (.int x1_0), .val (.int (3 : Int32)), .val (.int (3 : Int32)), .val (.ref b1), .val (.ref b8), .val (.ref b5_3_236), .val (.ref b5_3_216), .val (.ref b16_4), .val (.ref b2_4), .val (.ref b5_3_31), .val (.ref b5_3_216), .val (.ref b16_4), .val (.int (1 : Int32)), .unset] []))
      refine own_step (fun t k => XS.iload X391.here hx rfl (hb hby at_195) rfl k) ?_
      show own_Ends p.tables e below s _ _ _ (T391.setTop (mkF m 197 #[.val (.int x0_0), .val (.int x1_0), .val (.int (3 : Int32)), .val (.int (3 : Int32)), .val (.ref b1), .val (.ref b8), .val (.ref b5_3_236), .val (.ref b5_3_216), .val (.ref b16_4), .val (.ref b2_4), .val (.ref b5_3_31), .val (.ref b5_3_216), .val (.ref b16_4), .val (.int (1 : Int32)), .unset] [(.int (1 : Int32))]))
      refine own_step (fun t k => XS.ifNo X391.here hx rfl (hb hby at_197) rfl ((if0 _ _).trans (feq (by decide : ¬ ((1 : Int32) = (0 : Int32)))).1) k) ?_
      show own_Ends p.tables e below s _ _ _ (T391.setTop (mkF m 200 #[.val (.int x0_0), .val (.int x1_0), .val (.int (3 : Int32)), .val (.int (3 : Int32)), .val (.ref b1), .val (.ref b8), .val (.ref b5_3_236), .val (.ref b5_3_216), .val (.ref b16_4), .val (.ref b2_4), .val (.ref b5_3_31), .val (.ref b5_3_216), .val (.ref b16_4), .val (.int (1 : Int32)), .unset] []))
      refine own_step (fun t k => XS.aload X391.here hx rfl (hb hby at_200) rfl rfl k) ?_
      show own_Ends p.tables e below s _ _ _ (T391.setTop (mkF m 202 #[.val (.int x0_0), .val (.int x1_0), .val (.int (3 : Int32)), .val (.int (3 : Int32)), .val (.ref b1), .val (.ref b8), .val (.ref b5_3_236), .val (.ref b5_3_216), .val (.ref b16_4), .val (.ref b2_4), .val (.ref b5_3_31), .val (.ref b5_3_216), .val (.ref b16_4), .val (.int (1 : Int32)), .unset] [(.ref b5_3_216)]))
      obtain ⟨cq395, kq395, q395a, q395b, q395c⟩ := isOf hZ e391 p384_2
      obtain ⟨_, _, ⟨T395, L395, k395, n395⟩, -, X395, ⟨Lc395, hQ395, l395, y395, z395⟩, st395⟩ := X391.virtualBack hx (y := (⟨"com/example/serigraph/serigraph/view/OrderList$Place", "previous", "()Lcom/example/serigraph/serigraph/view/OrderList$Place;"⟩ : MethodName)) (z := (⟨"com/example/serigraph/serigraph/view/OrderList$Place", "previous", "()Lcom/example/serigraph/serigraph/view/OrderList$Place;"⟩ : MethodName)) hown (mvT hZ (hw _ (List.mem_of_getElem? (i := 66) rfl))) (mvT hZ (hw _ (List.mem_of_getElem? (i := 67) rfl))) (notFace_of_selects (args := #[]) (mvT hZ (hw _ (List.mem_of_getElem? (i := 69) rfl)))) (mvT hZ (hw _ (List.mem_of_getElem? (i := 69) rfl))) (mvT hZ (hw _ (List.mem_of_getElem? (i := 68) rfl))) (by decide) (backOf (W := 0) (rm11 l Z a0 hw [] b5_3_216 b5_3_31 T384.heap n0 O390 p384_1) hZ (hw _ (List.mem_of_getElem? (i := 70) rfl)) (hw _ (List.mem_of_getElem? (i := 12) rfl)) (by decide) (by decide)) q395a q395c (g := (mkF m 202 #[.val (.int x0_0), .val (.int x1_0), .val (.int (3 : Int32)), .val (.int (3 : Int32)), .val (.ref b1), .val (.ref b8), .val (.ref b5_3_236), .val (.ref b5_3_216), .val (.ref b16_4), .val (.ref b2_4), .val (.ref b5_3_31), .val (.ref b5_3_216), .val (.ref b16_4), .val (.int (1 : Int32)), .unset] [(.ref b5_3_216)])) rfl (by rw [hml]; rfl) (Steps.refl _) (argsL := []) (rest := []) (lenOf pd_3 rfl) rfl (by show 2 * 0 + _ ≤ _; exact Nat.le_of_eq rfl) (hb hby at_202) (fun _ _ => ⟨rfl, e391, (by decide : 7 + 0 ≤ _), (by decide : 22 + 0 ≤ _)⟩)
      dsimp only [Pt.U, Pt.locs, Pt.cells, Pt.slots] at X395 l395 y395 z395 st395 hQ395
      subst y395 z395
      obtain ⟨rfl, N395q, e395⟩ := hQ395
      refine own_step (fun t k => st395.trans k) ?_
      have N396 : Fr n0 L395 := by rw [l395]; exact Fr.app N394 N395q
      show own_Ends p.tables e below s _ _ _ (T395.setTop (mkF m 205 #[.val (.int x0_0), .val (.int x1_0), .val (.int (3 : Int32)), .val (.int (3 : Int32)), .val (.ref b1), .val (.ref b8), .val (.ref b5_3_236), .val (.ref b5_3_216), .val (.ref b16_4), .val (.ref b2_4), .val (.ref b5_3_31), .val (.ref b5_3_216), .val (.ref b16_4), .val (.int (1 : Int32)), .unset] [(.ref b5_3_31)]))
      refine own_step (fun t k => XS.aload X395.here hx rfl (hb hby at_205) rfl rfl k) ?_
      show own_Ends p.tables e below s _ _ _ (T395.setTop (mkF m 207 #[.val (.int x0_0), .val (.int x1_0), .val (.int (3 : Int32)), .val (.int (3 : Int32)), .val (.ref b1), .val (.ref b8), .val (.ref b5_3_236), .val (.ref b5_3_216), .val (.ref b16_4), .val (.ref b2_4), .val (.ref b5_3_31), .val (.ref b5_3_216), .val (.ref b16_4), .val (.int (1 : Int32)), .unset] [(.ref b5_3_31), (.ref b5_3_31)]))
      refine own_step (fun t k => Jvm.RoadKit.acmp (g := (mkF m 207 #[.val (.int x0_0), .val (.int x1_0), .val (.int (3 : Int32)), .val (.int (3 : Int32)), .val (.ref b1), .val (.ref b8), .val (.ref b5_3_236), .val (.ref b5_3_216), .val (.ref b16_4), .val (.ref b2_4), .val (.ref b5_3_31), .val (.ref b5_3_216), .val (.ref b16_4), .val (.int (1 : Int32)), .unset] [(.ref b5_3_31), (.ref b5_3_31)])) X395 hx rfl rfl rfl (pc0 := 207) (pc' := 210) (same := true) rfl (hb hby at_207) rfl (decide_eq_true rfl) (by decide) (by decide) k) ?_
      show own_Ends p.tables e below s _ _ _ (T395.setTop (mkF m 210 #[.val (.int x0_0), .val (.int x1_0), .val (.int (3 : Int32)), .val (.int (3 : Int32)), .val (.ref b1), .val (.ref b8), .val (.ref b5_3_236), .val (.ref b5_3_216), .val (.ref b16_4), .val (.ref b2_4), .val (.ref b5_3_31), .val (.ref b5_3_216), .val (.ref b16_4), .val (.int (1 : Int32)), .unset] []))
      refine own_step (fun t k => XS.iconst X395.here hx rfl (hb hby at_210) k) ?_
      show own_Ends p.tables e below s _ _ _ (T395.setTop (mkF m 211 #[.val (.int x0_0), .val (.int x1_0), .val (.int (3 : Int32)), .val (.int (3 : Int32)), .val (.ref b1), .val (.ref b8), .val (.ref b5_3_236), .val (.ref b5_3_216), .val (.ref b16_4), .val (.ref b2_4), .val (.ref b5_3_31), .val (.ref b5_3_216), .val (.ref b16_4), .val (.int (1 : Int32)), .unset] [(.int (1 : Int32))]))
      refine own_step (fun t k => XS.goto X395.here hx rfl (pc0 := 211) (pc' := 215) rfl (hb hby at_211) (by decide) (by decide) k) ?_
      show own_Ends p.tables e below s _ _ _ (T395.setTop (mkF m 215 #[.val (.int x0_0), .val (.int x1_0), .val (.int (3 : Int32)), .val (.int (3 : Int32)), .val (.ref b1), .val (.ref b8), .val (.ref b5_3_236), .val (.ref b5_3_216), .val (.ref b16_4), .val (.ref b2_4), .val (.ref b5_3_31), .val (.ref b5_3_216), .val (.ref b16_4), .val (.int (1 : Int32)), .unset] [(.int (1 : Int32))]))
      refine own_step (fun t k => XS.istore X395.here hx rfl (hb hby at_215) rfl (l' := #[.val (.int x0_0), .val (.int x1_0), .val (.int (3 : Int32)), .val (.int (3 : Int32)), .val (.ref b1), .val (.ref b8), .val (.ref b5_3_236), .val (.ref b5_3_216), .val (.ref b16_4), .val (.ref b2_4), .val (.ref b5_3_31), .val (.ref b5_3_216), .val (.ref b16_4), .val (.int (1 : Int32)), .unset]) rfl k) ?_
      show own_Ends p.tables e below s _ _ _ (T395.setTop (mkF m 217 #[.val (.int x0_0), .val (.int x1_0), .val (.int (3 : Int32)), .val (.int (3 : Int32)), .val (.ref b1), .val (.ref b8), .val (.ref b5_3_236), .val (.ref b5_3_216), .val (.ref b16_4), .val (.ref b2_4), .val (.ref b5_3_31), .val (.ref b5_3_216), .val (.ref b16_4), .val (.int (1 : Int32)), .unset] []))
      refine own_step (fun t k => XS.iloadN X395.here hx rfl (hb hby at_217) rfl k) ?_
      show own_Ends p.tables e below s _ _ _ (T395.setTop (mkF m 218 #[.val (.int x0_0), .val (.int x1_0), .val (.int (3 : Int32)), .val (.int (3 : Int32)), .val (.ref b1), .val (.ref b8), .val (.ref b5_3_236), .val (.ref b5_3_216), .val (.ref b16_4), .val (.ref b2_4), .val (.ref b5_3_31), .val (.ref b5_3_216), .val (.ref b16_4), .val (.int (1 : Int32)), .unset] [(.int (3 : Int32))]))
      refine own_step (fun t k => XS.iconst X395.here hx rfl (hb hby at_218) k) ?_
      show own_Ends p.tables e below s _ _ _ (T395.setTop (mkF m 219 #[.val (.int x0_0), .val (.int x1_0), .val (.int (3 : Int32)), .val (.int (3 : Int32)), .val (.ref b1), .val (.ref b8), .val (.ref b5_3_236), .val (.ref b5_3_216), .val (.ref b16_4), .val (.ref b2_4), .val (.ref b5_3_31), .val (.ref b5_3_216), .val (.ref b16_4), .val (.int (1 : Int32)), .unset] [(.int (3 : Int32)), (.int (3 : Int32))]))
      refine own_step (fun t k => XS.icmpNo X395.here hx rfl (hb hby at_219) rfl (flt (by decide : ¬ ((3 : Int32) < (3 : Int32)))).1 k) ?_
      show own_Ends p.tables e below s _ _ _ (T395.setTop (mkF m 222 #[.val (.int x0_0), .val (.int x1_0), .val (.int (3 : Int32)), .val (.int (3 : Int32)), .val (.ref b1), .val (.ref b8), .val (.ref b5_3_236), .val (.ref b5_3_216), .val (.ref b16_4), .val (.ref b2_4), .val (.ref b5_3_31), .val (.ref b5_3_216), .val (.ref b16_4), .val (.int (1 : Int32)), .unset] []))
      refine own_step (fun t k => XS.iload X395.here hx rfl (hb hby at_222) rfl k) ?_
      show own_Ends p.tables e below s _ _ _ (T395.setTop (mkF m 224 #[.val (.int x0_0), .val (.int x1_0), .val (.int (3 : Int32)), .val (.int (3 : Int32)), .val (.ref b1), .val (.ref b8), .val (.ref b5_3_236), .val (.ref b5_3_216), .val (.ref b16_4), .val (.ref b2_4), .val (.ref b5_3_31), .val (.ref b5_3_216), .val (.ref b16_4), .val (.int (1 : Int32)), .unset] [(.int (1 : Int32))]))
      refine own_step (fun t k => XS.ifNo X395.here hx rfl (hb hby at_224) rfl ((if0 _ _).trans (feq (by decide : ¬ ((1 : Int32) = (0 : Int32)))).1) k) ?_
      show own_Ends p.tables e below s _ _ _ (T395.setTop (mkF m 227 #[.val (.int x0_0), .val (.int x1_0), .val (.int (3 : Int32)), .val (.int (3 : Int32)), .val (.ref b1), .val (.ref b8), .val (.ref b5_3_236), .val (.ref b5_3_216), .val (.ref b16_4), .val (.ref b2_4), .val (.ref b5_3_31), .val (.ref b5_3_216), .val (.ref b16_4), .val (.int (1 : Int32)), .unset] []))
      refine own_step (fun t k => XS.aload X395.here hx rfl (hb hby at_227) rfl rfl k) ?_
      show own_Ends p.tables e below s _ _ _ (T395.setTop (mkF m 229 #[.val (.int x0_0), .val (.int x1_0), .val (.int (3 : Int32)), .val (.int (3 : Int32)), .val (.ref b1), .val (.ref b8), .val (.ref b5_3_236), .val (.ref b5_3_216), .val (.ref b16_4), .val (.ref b2_4), .val (.ref b5_3_31), .val (.ref b5_3_216), .val (.ref b16_4), .val (.int (1 : Int32)), .unset] [(.ref b16_4)]))
      obtain ⟨cq397, kq397, q397a, q397b, q397c⟩ := isOf hZ e395 p384_6
      obtain ⟨_, _, ⟨T397, L397, k397, n397⟩, -, X397, ⟨Lc397, hQ397, l397, y397, z397⟩, st397⟩ := X395.virtualBack hx (y := (⟨"com/example/serigraph/serigraph/view/OrderList$Place", "previous", "()Lcom/example/serigraph/serigraph/view/OrderList$Place;"⟩ : MethodName)) (z := (⟨"com/example/serigraph/serigraph/view/OrderList$Place", "previous", "()Lcom/example/serigraph/serigraph/view/OrderList$Place;"⟩ : MethodName)) hown (mvT hZ (hw _ (List.mem_of_getElem? (i := 66) rfl))) (mvT hZ (hw _ (List.mem_of_getElem? (i := 67) rfl))) (notFace_of_selects (args := #[]) (mvT hZ (hw _ (List.mem_of_getElem? (i := 69) rfl)))) (mvT hZ (hw _ (List.mem_of_getElem? (i := 69) rfl))) (mvT hZ (hw _ (List.mem_of_getElem? (i := 68) rfl))) (by decide) (backOf (W := 0) (rm11 l Z a0 hw [] b16_4 b5_3_216 T384.heap n0 O390 p384_7) hZ (hw _ (List.mem_of_getElem? (i := 70) rfl)) (hw _ (List.mem_of_getElem? (i := 12) rfl)) (by decide) (by decide)) q397a q397c (g := (mkF m 229 #[.val (.int x0_0), .val (.int x1_0), .val (.int (3 : Int32)), .val (.int (3 : Int32)), .val (.ref b1), .val (.ref b8), .val (.ref b5_3_236), .val (.ref b5_3_216), .val (.ref b16_4), .val (.ref b2_4), .val (.ref b5_3_31), .val (.ref b5_3_216), .val (.ref b16_4), .val (.int (1 : Int32)), .unset] [(.ref b16_4)])) rfl (by rw [hml]; rfl) (Steps.refl _) (argsL := []) (rest := []) (lenOf pd_3 rfl) rfl (by show 2 * 0 + _ ≤ _; exact Nat.le_of_eq rfl) (hb hby at_229) (fun _ _ => ⟨rfl, e395, (by decide : 7 + 0 ≤ _), (by decide : 22 + 0 ≤ _)⟩)
      dsimp only [Pt.U, Pt.locs, Pt.cells, Pt.slots] at X397 l397 y397 z397 st397 hQ397
      subst y397 z397
      obtain ⟨rfl, N397q, e397⟩ := hQ397
      refine own_step (fun t k => st397.trans k) ?_
      have N398 : Fr n0 L397 := by rw [l397]; exact Fr.app N396 N397q
      show own_Ends p.tables e below s _ _ _ (T397.setTop (mkF m 232 #[.val (.int x0_0), .val (.int x1_0), .val (.int (3 : Int32)), .val (.int (3 : Int32)), .val (.ref b1), .val (.ref b8), .val (.ref b5_3_236), .val (.ref b5_3_216), .val (.ref b16_4), .val (.ref b2_4), .val (.ref b5_3_31), .val (.ref b5_3_216), .val (.ref b16_4), .val (.int (1 : Int32)), .unset] [(.ref b5_3_216)]))
      refine own_step (fun t k => XS.aload X397.here hx rfl (hb hby at_232) rfl rfl k) ?_
      show own_Ends p.tables e below s _ _ _ (T397.setTop (mkF m 234 #[.val (.int x0_0), .val (.int x1_0), .val (.int (3 : Int32)), .val (.int (3 : Int32)), .val (.ref b1), .val (.ref b8), .val (.ref b5_3_236), .val (.ref b5_3_216), .val (.ref b16_4), .val (.ref b2_4), .val (.ref b5_3_31), .val (.ref b5_3_216), .val (.ref b16_4), .val (.int (1 : Int32)), .unset] [(.ref b5_3_216), (.ref b5_3_216)]))
      refine own_step (fun t k => Jvm.RoadKit.acmp (g := (mkF m 234 #[.val (.int x0_0), .val (.int x1_0), .val (.int (3 : Int32)), .val (.int (3 : Int32)), .val (.ref b1), .val (.ref b8), .val (.ref b5_3_236), .val (.ref b5_3_216), .val (.ref b16_4), .val (.ref b2_4), .val (.ref b5_3_31), .val (.ref b5_3_216), .val (.ref b16_4), .val (.int (1 : Int32)), .unset] [(.ref b5_3_216), (.ref b5_3_216)])) X397 hx rfl rfl rfl (pc0 := 234) (pc' := 237) (same := true) rfl (hb hby at_234) rfl (decide_eq_true rfl) (by decide) (by decide) k) ?_
      show own_Ends p.tables e below s _ _ _ (T397.setTop (mkF m 237 #[.val (.int x0_0), .val (.int x1_0), .val (.int (3 : Int32)), .val (.int (3 : Int32)), .val (.ref b1), .val (.ref b8), .val (.ref b5_3_236), .val (.ref b5_3_216), .val (.ref b16_4), .val (.ref b2_4), .val (.ref b5_3_31), .val (.ref b5_3_216), .val (.ref b16_4), .val (.int (1 : Int32)), .unset] []))
      refine own_step (fun t k => XS.iconst X397.here hx rfl (hb hby at_237) k) ?_
      show own_Ends p.tables e below s _ _ _ (T397.setTop (mkF m 238 #[.val (.int x0_0), .val (.int x1_0), .val (.int (3 : Int32)), .val (.int (3 : Int32)), .val (.ref b1), .val (.ref b8), .val (.ref b5_3_236), .val (.ref b5_3_216), .val (.ref b16_4), .val (.ref b2_4), .val (.ref b5_3_31), .val (.ref b5_3_216), .val (.ref b16_4), .val (.int (1 : Int32)), .unset] [(.int (1 : Int32))]))
      refine own_step (fun t k => XS.goto X397.here hx rfl (pc0 := 238) (pc' := 242) rfl (hb hby at_238) (by decide) (by decide) k) ?_
      show own_Ends p.tables e below s _ _ _ (T397.setTop (mkF m 242 #[.val (.int x0_0), .val (.int x1_0), .val (.int (3 : Int32)), .val (.int (3 : Int32)), .val (.ref b1), .val (.ref b8), .val (.ref b5_3_236), .val (.ref b5_3_216), .val (.ref b16_4), .val (.ref b2_4), .val (.ref b5_3_31), .val (.ref b5_3_216), .val (.ref b16_4), .val (.int (1 : Int32)), .unset] [(.int (1 : Int32))]))
      refine own_step (fun t k => XS.istore X397.here hx rfl (hb hby at_242) rfl (l' := #[.val (.int x0_0), .val (.int x1_0), .val (.int (3 : Int32)), .val (.int (3 : Int32)), .val (.ref b1), .val (.ref b8), .val (.ref b5_3_236), .val (.ref b5_3_216), .val (.ref b16_4), .val (.ref b2_4), .val (.ref b5_3_31), .val (.ref b5_3_216), .val (.ref b16_4), .val (.int (1 : Int32)), .unset]) rfl k) ?_
      show own_Ends p.tables e below s _ _ _ (T397.setTop (mkF m 244 #[.val (.int x0_0), .val (.int x1_0), .val (.int (3 : Int32)), .val (.int (3 : Int32)), .val (.ref b1), .val (.ref b8), .val (.ref b5_3_236), .val (.ref b5_3_216), .val (.ref b16_4), .val (.ref b2_4), .val (.ref b5_3_31), .val (.ref b5_3_216), .val (.ref b16_4), .val (.int (1 : Int32)), .unset] []))
      refine own_step (fun t k => XS.aload X397.here hx rfl (hb hby at_244) rfl rfl k) ?_
      show own_Ends p.tables e below s _ _ _ (T397.setTop (mkF m 246 #[.val (.int x0_0), .val (.int x1_0), .val (.int (3 : Int32)), .val (.int (3 : Int32)), .val (.ref b1), .val (.ref b8), .val (.ref b5_3_236), .val (.ref b5_3_216), .val (.ref b16_4), .val (.ref b2_4), .val (.ref b5_3_31), .val (.ref b5_3_216), .val (.ref b16_4), .val (.int (1 : Int32)), .unset] [(.ref b1)]))
      refine own_step (fun t k => XS.aload X397.here hx rfl (hb hby at_246) rfl rfl k) ?_
      show own_Ends p.tables e below s _ _ _ (T397.setTop (mkF m 248 #[.val (.int x0_0), .val (.int x1_0), .val (.int (3 : Int32)), .val (.int (3 : Int32)), .val (.ref b1), .val (.ref b8), .val (.ref b5_3_236), .val (.ref b5_3_216), .val (.ref b16_4), .val (.ref b2_4), .val (.ref b5_3_31), .val (.ref b5_3_216), .val (.ref b16_4), .val (.int (1 : Int32)), .unset] [(.ref b5_3_216), (.ref b1)]))
      have F400 : Exa Z T384.heap b1 "com/example/serigraph/serigraph/view/OrderList" := (F385.keep K384q)
      obtain ⟨cq399, kq399, q399a, q399b, q399c⟩ := isOf hZ e397 F400
      obtain ⟨_, _, ⟨T399, L399, k399, n399⟩, -, X399, ⟨Lc399, hQ399, l399, y399, z399⟩, st399⟩ := X397.virtualBack hx (y := (⟨"com/example/serigraph/serigraph/view/OrderList", "insertAfter", "(Lcom/example/serigraph/serigraph/view/OrderList$Place;)Lcom/example/serigraph/serigraph/view/OrderList$Place;"⟩ : MethodName)) (z := (⟨"com/example/serigraph/serigraph/view/OrderList", "insertAfter", "(Lcom/example/serigraph/serigraph/view/OrderList$Place;)Lcom/example/serigraph/serigraph/view/OrderList$Place;"⟩ : MethodName)) hown (mvT hZ (hw _ (List.mem_of_getElem? (i := 72) rfl))) (mvT hZ (hw _ (List.mem_of_getElem? (i := 42) rfl))) (notFace_of_selects (args := #[]) (mvT hZ (hw _ (List.mem_of_getElem? (i := 44) rfl)))) (mvT hZ (hw _ (List.mem_of_getElem? (i := 44) rfl))) (mvT hZ (hw _ (List.mem_of_getElem? (i := 43) rfl))) (by decide) (backOf (W := 0) (rm6 l Z a0 hw [] b1 b5_3_216 .null (.ref b5_3_31) b16_4 (4611686018427387904 : Int64) (8589934592 : Int64) (.ref b5_3_216) T384.heap n0 O390 (by decide +kernel) p384_5 p384_1 p384_3 p384_4 p384_0 p384_6 p384_7 g_b16_4 p384_2 (Ne.symm ne_b16_4_b5_3_216) g_b5_3_216) hZ (hw _ (List.mem_of_getElem? (i := 45) rfl)) (hw _ (List.mem_of_getElem? (i := 3) rfl)) (by decide) (by decide)) q399a q399c (g := (mkF m 248 #[.val (.int x0_0), .val (.int x1_0), .val (.int (3 : Int32)), .val (.int (3 : Int32)), .val (.ref b1), .val (.ref b8), .val (.ref b5_3_236), .val (.ref b5_3_216), .val (.ref b16_4), .val (.ref b2_4), .val (.ref b5_3_31), .val (.ref b5_3_216), .val (.ref b16_4), .val (.int (1 : Int32)), .unset] [(.ref b5_3_216), (.ref b1)])) rfl (by rw [hml]; rfl) (Steps.refl _) (argsL := [(.ref b5_3_216)]) (rest := []) (lenOf pd_2 rfl) rfl (by show 2 * 0 + _ ≤ _; exact Nat.le_of_eq rfl) (hb hby at_248) (fun _ _ => ⟨rfl, e397, (by decide : 7 + 1 ≤ _), (by decide : 22 + 3 ≤ _)⟩)
      dsimp only [Pt.U, Pt.locs, Pt.cells, Pt.slots] at X399 l399 y399 z399 st399 hQ399
      subst y399 z399
      have F401 : Exa Z h253 b2_4 "com/example/serigraph/serigraph/view/OrderList$Place" := (((F237.keep K236q).wr W243).wr W253)
      have F402 : Exa Z T384.heap b2_4 "com/example/serigraph/serigraph/view/OrderList$Place" := (F401.keep K384q)
      have F403 : Arv Z T384.heap b8 k8 (.object "com/example/serigraph/serigraph/view/OrderList$Place") (5 : Int32) [(.ref b2_4), (.ref b5_3_31), (.ref b5_3_216), (.ref b5_3_236), (.ref b16_4)] .null := (V253.keep K384q (ninS ne_b8_b5_3_216 (ninS (Ne.symm ne_b16_4_b8) nin0)))
      have F404 : Exa Z T384.heap b5_3_236 "com/example/serigraph/serigraph/view/OrderList$Place" := (((p236_9.wr W243).wr W253).keep K384q)
      obtain ⟨b5_399, rfl, N399q, K399q, p399_0, p399_1, p399_2, p399_3, p399_4, p399_5, p399_6, p399_7, p399_8, p399_9, p399_10, p399_11, p399_12⟩ := hQ399
      refine own_step (fun t k => st399.trans k) ?_
      have N405 : Fr n0 L399 := by rw [l399]; exact Fr.app N398 N399q
      have sz_b5_399 : h0.size ≤ b5_399 := Nat.le_trans K387.1 p399_0
      have g_b5_399 : n0 ≤ b5_399 := Nat.le_trans (Nat.le_trans (Nat.le_of_eq O390.1.symm) O390.2.1) p399_0
      have ne_b1_b5_399 : b1 ≠ b5_399 := Nat.ne_of_lt (Nat.lt_of_lt_of_le F400.lt p399_0)
      have ne_b2_4_b5_399 : b2_4 ≠ b5_399 := Nat.ne_of_lt (Nat.lt_of_lt_of_le F402.lt p399_0)
      have ne_b16_4_b5_399 : b16_4 ≠ b5_399 := Nat.ne_of_lt (Nat.lt_of_lt_of_le p384_6.lt p399_0)
      have ne_b8_b5_399 : b8 ≠ b5_399 := Nat.ne_of_lt (Nat.lt_of_lt_of_le F403.lt p399_0)
      have ne_b5_3_31_b5_399 : b5_3_31 ≠ b5_399 := Nat.ne_of_lt (Nat.lt_of_lt_of_le F393.lt p399_0)
      have ne_b5_3_216_b5_399 : b5_3_216 ≠ b5_399 := Nat.ne_of_lt (Nat.lt_of_lt_of_le p384_2.lt p399_0)
      have ne_b5_3_236_b5_399 : b5_3_236 ≠ b5_399 := Nat.ne_of_lt (Nat.lt_of_lt_of_le F404.lt p399_0)
      have K406 : Keep h0 T399.heap [] := K387.trans K399q (allS (Or.inr sz_b16_4) (allS (Or.inr sz_b5_3_216) all0))
      have p399_10c : Fld Z T399.heap b5_399 "com/example/serigraph/serigraph/view/OrderList$Place" "label" "J" (.long (12884901888 : Int64)) := Eq.mp (congrArg (fun z => Fld Z T399.heap b5_399 "com/example/serigraph/serigraph/view/OrderList$Place" "label" "J" (.long z)) (show ((8589934592 : Int64) + (own_r7 (((4611686018427387904 : Int64) - (8589934592 : Int64)) / (2 : Int64)) (4294967296 : Int64))) = (12884901888 : Int64) from by decide +kernel)) p399_10
      show own_Ends p.tables e below s _ _ _ (T399.setTop (mkF m 251 #[.val (.int x0_0), .val (.int x1_0), .val (.int (3 : Int32)), .val (.int (3 : Int32)), .val (.ref b1), .val (.ref b8), .val (.ref b5_3_236), .val (.ref b5_3_216), .val (.ref b16_4), .val (.ref b2_4), .val (.ref b5_3_31), .val (.ref b5_3_216), .val (.ref b16_4), .val (.int (1 : Int32)), .unset] [(.ref b5_399)]))
      refine own_step (fun t k => XS.astore X399.here hx rfl (hb hby at_251) rfl rfl (l' := #[.val (.int x0_0), .val (.int x1_0), .val (.int (3 : Int32)), .val (.int (3 : Int32)), .val (.ref b1), .val (.ref b8), .val (.ref b5_3_236), .val (.ref b5_3_216), .val (.ref b16_4), .val (.ref b2_4), .val (.ref b5_3_31), .val (.ref b5_3_216), .val (.ref b16_4), .val (.int (1 : Int32)), .val (.ref b5_399)]) rfl k) ?_
      show own_Ends p.tables e below s _ _ _ (T399.setTop (mkF m 253 #[.val (.int x0_0), .val (.int x1_0), .val (.int (3 : Int32)), .val (.int (3 : Int32)), .val (.ref b1), .val (.ref b8), .val (.ref b5_3_236), .val (.ref b5_3_216), .val (.ref b16_4), .val (.ref b2_4), .val (.ref b5_3_31), .val (.ref b5_3_216), .val (.ref b16_4), .val (.int (1 : Int32)), .val (.ref b5_399)] []))
      refine own_step (fun t k => XS.iload X399.here hx rfl (hb hby at_253) rfl k) ?_
      show own_Ends p.tables e below s _ _ _ (T399.setTop (mkF m 255 #[.val (.int x0_0), .val (.int x1_0), .val (.int (3 : Int32)), .val (.int (3 : Int32)), .val (.ref b1), .val (.ref b8), .val (.ref b5_3_236), .val (.ref b5_3_216), .val (.ref b16_4), .val (.ref b2_4), .val (.ref b5_3_31), .val (.ref b5_3_216), .val (.ref b16_4), .val (.int (1 : Int32)), .val (.ref b5_399)] [(.int (1 : Int32))]))
      refine own_step (fun t k => XS.ifNo X399.here hx rfl (hb hby at_255) rfl ((if0 _ _).trans (feq (by decide : ¬ ((1 : Int32) = (0 : Int32)))).1) k) ?_
      show own_Ends p.tables e below s _ _ _ (T399.setTop (mkF m 258 #[.val (.int x0_0), .val (.int x1_0), .val (.int (3 : Int32)), .val (.int (3 : Int32)), .val (.ref b1), .val (.ref b8), .val (.ref b5_3_236), .val (.ref b5_3_216), .val (.ref b16_4), .val (.ref b2_4), .val (.ref b5_3_31), .val (.ref b5_3_216), .val (.ref b16_4), .val (.int (1 : Int32)), .val (.ref b5_399)] []))
      refine own_step (fun t k => XS.aload X399.here hx rfl (hb hby at_258) rfl rfl k) ?_
      show own_Ends p.tables e below s _ _ _ (T399.setTop (mkF m 260 #[.val (.int x0_0), .val (.int x1_0), .val (.int (3 : Int32)), .val (.int (3 : Int32)), .val (.ref b1), .val (.ref b8), .val (.ref b5_3_236), .val (.ref b5_3_216), .val (.ref b16_4), .val (.ref b2_4), .val (.ref b5_3_31), .val (.ref b5_3_216), .val (.ref b16_4), .val (.int (1 : Int32)), .val (.ref b5_399)] [(.ref b16_4)]))
      have O407 : Old Z n0 T399.heap := (O390.keep K399q (allS g_b16_4 (allS g_b5_3_216 all0)))
      obtain ⟨cq408, kq408, q408a, q408b, q408c⟩ := isOf hZ rfl p399_3
      obtain ⟨_, _, ⟨T408, L408, k408, n408⟩, -, X408, ⟨Lc408, hQ408, l408, y408, z408⟩, st408⟩ := X399.virtualBack hx (y := (⟨"com/example/serigraph/serigraph/view/OrderList$Place", "previous", "()Lcom/example/serigraph/serigraph/view/OrderList$Place;"⟩ : MethodName)) (z := (⟨"com/example/serigraph/serigraph/view/OrderList$Place", "previous", "()Lcom/example/serigraph/serigraph/view/OrderList$Place;"⟩ : MethodName)) hown (mvT hZ (hw _ (List.mem_of_getElem? (i := 66) rfl))) (mvT hZ (hw _ (List.mem_of_getElem? (i := 67) rfl))) (notFace_of_selects (args := #[]) (mvT hZ (hw _ (List.mem_of_getElem? (i := 69) rfl)))) (mvT hZ (hw _ (List.mem_of_getElem? (i := 69) rfl))) (mvT hZ (hw _ (List.mem_of_getElem? (i := 68) rfl))) (by decide) (backOf (W := 0) (rm11 l Z a0 hw [] b16_4 b5_399 T399.heap n0 O407 p399_4) hZ (hw _ (List.mem_of_getElem? (i := 70) rfl)) (hw _ (List.mem_of_getElem? (i := 12) rfl)) (by decide) (by decide)) q408a q408c (g := (mkF m 260 #[.val (.int x0_0), .val (.int x1_0), .val (.int (3 : Int32)), .val (.int (3 : Int32)), .val (.ref b1), .val (.ref b8), .val (.ref b5_3_236), .val (.ref b5_3_216), .val (.ref b16_4), .val (.ref b2_4), .val (.ref b5_3_31), .val (.ref b5_3_216), .val (.ref b16_4), .val (.int (1 : Int32)), .val (.ref b5_399)] [(.ref b16_4)])) rfl (by rw [hml]; rfl) (Steps.refl _) (argsL := []) (rest := []) (lenOf pd_3 rfl) rfl (by show 2 * 0 + _ ≤ _; exact Nat.le_of_eq rfl) (hb hby at_260) (fun _ _ => ⟨rfl, rfl, (by decide : 8 + 0 ≤ _), (by decide : 25 + 0 ≤ _)⟩)
      dsimp only [Pt.U, Pt.locs, Pt.cells, Pt.slots] at X408 l408 y408 z408 st408 hQ408
      subst y408 z408
      obtain ⟨rfl, N408q, e408⟩ := hQ408
      refine own_step (fun t k => st408.trans k) ?_
      have N409 : Fr n0 L408 := by rw [l408]; exact Fr.app N405 N408q
      show own_Ends p.tables e below s _ _ _ (T408.setTop (mkF m 263 #[.val (.int x0_0), .val (.int x1_0), .val (.int (3 : Int32)), .val (.int (3 : Int32)), .val (.ref b1), .val (.ref b8), .val (.ref b5_3_236), .val (.ref b5_3_216), .val (.ref b16_4), .val (.ref b2_4), .val (.ref b5_3_31), .val (.ref b5_3_216), .val (.ref b16_4), .val (.int (1 : Int32)), .val (.ref b5_399)] [(.ref b5_399)]))
      refine own_step (fun t k => XS.aload X408.here hx rfl (hb hby at_263) rfl rfl k) ?_
      show own_Ends p.tables e below s _ _ _ (T408.setTop (mkF m 265 #[.val (.int x0_0), .val (.int x1_0), .val (.int (3 : Int32)), .val (.int (3 : Int32)), .val (.ref b1), .val (.ref b8), .val (.ref b5_3_236), .val (.ref b5_3_216), .val (.ref b16_4), .val (.ref b2_4), .val (.ref b5_3_31), .val (.ref b5_3_216), .val (.ref b16_4), .val (.int (1 : Int32)), .val (.ref b5_399)] [(.ref b5_399), (.ref b5_399)]))
      refine own_step (fun t k => Jvm.RoadKit.acmp (g := (mkF m 265 #[.val (.int x0_0), .val (.int x1_0), .val (.int (3 : Int32)), .val (.int (3 : Int32)), .val (.ref b1), .val (.ref b8), .val (.ref b5_3_236), .val (.ref b5_3_216), .val (.ref b16_4), .val (.ref b2_4), .val (.ref b5_3_31), .val (.ref b5_3_216), .val (.ref b16_4), .val (.int (1 : Int32)), .val (.ref b5_399)] [(.ref b5_399), (.ref b5_399)])) X408 hx rfl rfl rfl (pc0 := 265) (pc' := 268) (same := true) rfl (hb hby at_265) rfl (decide_eq_true rfl) (by decide) (by decide) k) ?_
      show own_Ends p.tables e below s _ _ _ (T408.setTop (mkF m 268 #[.val (.int x0_0), .val (.int x1_0), .val (.int (3 : Int32)), .val (.int (3 : Int32)), .val (.ref b1), .val (.ref b8), .val (.ref b5_3_236), .val (.ref b5_3_216), .val (.ref b16_4), .val (.ref b2_4), .val (.ref b5_3_31), .val (.ref b5_3_216), .val (.ref b16_4), .val (.int (1 : Int32)), .val (.ref b5_399)] []))
      refine own_step (fun t k => XS.aload X408.here hx rfl (hb hby at_268) rfl rfl k) ?_
      show own_Ends p.tables e below s _ _ _ (T408.setTop (mkF m 270 #[.val (.int x0_0), .val (.int x1_0), .val (.int (3 : Int32)), .val (.int (3 : Int32)), .val (.ref b1), .val (.ref b8), .val (.ref b5_3_236), .val (.ref b5_3_216), .val (.ref b16_4), .val (.ref b2_4), .val (.ref b5_3_31), .val (.ref b5_3_216), .val (.ref b16_4), .val (.int (1 : Int32)), .val (.ref b5_399)] [(.ref b5_399)]))
      obtain ⟨cq410, kq410, q410a, q410b, q410c⟩ := isOf hZ e408 p399_9
      obtain ⟨_, _, ⟨T410, L410, k410, n410⟩, -, X410, ⟨Lc410, hQ410, l410, y410, z410⟩, st410⟩ := X408.virtualBack hx (y := (⟨"com/example/serigraph/serigraph/view/OrderList$Place", "previous", "()Lcom/example/serigraph/serigraph/view/OrderList$Place;"⟩ : MethodName)) (z := (⟨"com/example/serigraph/serigraph/view/OrderList$Place", "previous", "()Lcom/example/serigraph/serigraph/view/OrderList$Place;"⟩ : MethodName)) hown (mvT hZ (hw _ (List.mem_of_getElem? (i := 66) rfl))) (mvT hZ (hw _ (List.mem_of_getElem? (i := 67) rfl))) (notFace_of_selects (args := #[]) (mvT hZ (hw _ (List.mem_of_getElem? (i := 69) rfl)))) (mvT hZ (hw _ (List.mem_of_getElem? (i := 69) rfl))) (mvT hZ (hw _ (List.mem_of_getElem? (i := 68) rfl))) (by decide) (backOf (W := 0) (rm11 l Z a0 hw [] b5_399 b5_3_216 T399.heap n0 O407 p399_12) hZ (hw _ (List.mem_of_getElem? (i := 70) rfl)) (hw _ (List.mem_of_getElem? (i := 12) rfl)) (by decide) (by decide)) q410a q410c (g := (mkF m 270 #[.val (.int x0_0), .val (.int x1_0), .val (.int (3 : Int32)), .val (.int (3 : Int32)), .val (.ref b1), .val (.ref b8), .val (.ref b5_3_236), .val (.ref b5_3_216), .val (.ref b16_4), .val (.ref b2_4), .val (.ref b5_3_31), .val (.ref b5_3_216), .val (.ref b16_4), .val (.int (1 : Int32)), .val (.ref b5_399)] [(.ref b5_399)])) rfl (by rw [hml]; rfl) (Steps.refl _) (argsL := []) (rest := []) (lenOf pd_3 rfl) rfl (by show 2 * 0 + _ ≤ _; exact Nat.le_of_eq rfl) (hb hby at_270) (fun _ _ => ⟨rfl, e408, (by decide : 8 + 0 ≤ _), (by decide : 25 + 0 ≤ _)⟩)
      dsimp only [Pt.U, Pt.locs, Pt.cells, Pt.slots] at X410 l410 y410 z410 st410 hQ410
      subst y410 z410
      obtain ⟨rfl, N410q, e410⟩ := hQ410
      refine own_step (fun t k => st410.trans k) ?_
      have N411 : Fr n0 L410 := by rw [l410]; exact Fr.app N409 N410q
      show own_Ends p.tables e below s _ _ _ (T410.setTop (mkF m 273 #[.val (.int x0_0), .val (.int x1_0), .val (.int (3 : Int32)), .val (.int (3 : Int32)), .val (.ref b1), .val (.ref b8), .val (.ref b5_3_236), .val (.ref b5_3_216), .val (.ref b16_4), .val (.ref b2_4), .val (.ref b5_3_31), .val (.ref b5_3_216), .val (.ref b16_4), .val (.int (1 : Int32)), .val (.ref b5_399)] [(.ref b5_3_216)]))
      refine own_step (fun t k => XS.aload X410.here hx rfl (hb hby at_273) rfl rfl k) ?_
      show own_Ends p.tables e below s _ _ _ (T410.setTop (mkF m 275 #[.val (.int x0_0), .val (.int x1_0), .val (.int (3 : Int32)), .val (.int (3 : Int32)), .val (.ref b1), .val (.ref b8), .val (.ref b5_3_236), .val (.ref b5_3_216), .val (.ref b16_4), .val (.ref b2_4), .val (.ref b5_3_31), .val (.ref b5_3_216), .val (.ref b16_4), .val (.int (1 : Int32)), .val (.ref b5_399)] [(.ref b5_3_216), (.ref b5_3_216)]))
      refine own_step (fun t k => Jvm.RoadKit.acmp (g := (mkF m 275 #[.val (.int x0_0), .val (.int x1_0), .val (.int (3 : Int32)), .val (.int (3 : Int32)), .val (.ref b1), .val (.ref b8), .val (.ref b5_3_236), .val (.ref b5_3_216), .val (.ref b16_4), .val (.ref b2_4), .val (.ref b5_3_31), .val (.ref b5_3_216), .val (.ref b16_4), .val (.int (1 : Int32)), .val (.ref b5_399)] [(.ref b5_3_216), (.ref b5_3_216)])) X410 hx rfl rfl rfl (pc0 := 275) (pc' := 278) (same := true) rfl (hb hby at_275) rfl (decide_eq_true rfl) (by decide) (by decide) k) ?_
      show own_Ends p.tables e below s _ _ _ (T410.setTop (mkF m 278 #[.val (.int x0_0), .val (.int x1_0), .val (.int (3 : Int32)), .val (.int (3 : Int32)), .val (.ref b1), .val (.ref b8), .val (.ref b5_3_236), .val (.ref b5_3_216), .val (.ref b16_4), .val (.ref b2_4), .val (.ref b5_3_31), .val (.ref b5_3_216), .val (.ref b16_4), .val (.int (1 : Int32)), .val (.ref b5_399)] []))
      refine own_step (fun t k => XS.iconst X410.here hx rfl (hb hby at_278) k) ?_
      show own_Ends p.tables e below s _ _ _ (T410.setTop (mkF m 279 #[.val (.int x0_0), .val (.int x1_0), .val (.int (3 : Int32)), .val (.int (3 : Int32)), .val (.ref b1), .val (.ref b8), .val (.ref b5_3_236), .val (.ref b5_3_216), .val (.ref b16_4), .val (.ref b2_4), .val (.ref b5_3_31), .val (.ref b5_3_216), .val (.ref b16_4), .val (.int (1 : Int32)), .val (.ref b5_399)] [(.int (1 : Int32))]))
      refine own_step (fun t k => XS.goto X410.here hx rfl (pc0 := 279) (pc' := 283) rfl (hb hby at_279) (by decide) (by decide) k) ?_
      show own_Ends p.tables e below s _ _ _ (T410.setTop (mkF m 283 #[.val (.int x0_0), .val (.int x1_0), .val (.int (3 : Int32)), .val (.int (3 : Int32)), .val (.ref b1), .val (.ref b8), .val (.ref b5_3_236), .val (.ref b5_3_216), .val (.ref b16_4), .val (.ref b2_4), .val (.ref b5_3_31), .val (.ref b5_3_216), .val (.ref b16_4), .val (.int (1 : Int32)), .val (.ref b5_399)] [(.int (1 : Int32))]))
      refine own_step (fun t k => XS.istore X410.here hx rfl (hb hby at_283) rfl (l' := #[.val (.int x0_0), .val (.int x1_0), .val (.int (3 : Int32)), .val (.int (3 : Int32)), .val (.ref b1), .val (.ref b8), .val (.ref b5_3_236), .val (.ref b5_3_216), .val (.ref b16_4), .val (.ref b2_4), .val (.ref b5_3_31), .val (.ref b5_3_216), .val (.ref b16_4), .val (.int (1 : Int32)), .val (.ref b5_399)]) rfl k) ?_
      show own_Ends p.tables e below s _ _ _ (T410.setTop (mkF m 285 #[.val (.int x0_0), .val (.int x1_0), .val (.int (3 : Int32)), .val (.int (3 : Int32)), .val (.ref b1), .val (.ref b8), .val (.ref b5_3_236), .val (.ref b5_3_216), .val (.ref b16_4), .val (.ref b2_4), .val (.ref b5_3_31), .val (.ref b5_3_216), .val (.ref b16_4), .val (.int (1 : Int32)), .val (.ref b5_399)] []))
      refine own_step (fun t k => XS.iload X410.here hx rfl (hb hby at_285) rfl k) ?_
      show own_Ends p.tables e below s _ _ _ (T410.setTop (mkF m 287 #[.val (.int x0_0), .val (.int x1_0), .val (.int (3 : Int32)), .val (.int (3 : Int32)), .val (.ref b1), .val (.ref b8), .val (.ref b5_3_236), .val (.ref b5_3_216), .val (.ref b16_4), .val (.ref b2_4), .val (.ref b5_3_31), .val (.ref b5_3_216), .val (.ref b16_4), .val (.int (1 : Int32)), .val (.ref b5_399)] [(.int (1 : Int32))]))
      exact own_retN X410 hx (t := .boolean) Bd.returns (by simp) (hb hby at_287) hnl (by rw [e410]; exact ⟨rfl, N411⟩) (by decide) (by decide)
set_option maxRecDepth 65536 in
set_option maxHeartbeats 40000000 in
theorem comes_1 {Post : Tables → Env → Array Value → State → Outcome → State → Prop} (hpost : ∀ tb e args s v u, (limb_1_1.after args s (.returned v) u = true ∧ limb_1_2.after args s (.returned v) u = true ∧ True) → FrameEnd s (.returned v) u (Jvm.fieldLocs frame_1_writes args s ++ Jvm.arrayLocs frame_1_arrays args s ++ Jvm.staticLocs frame_1_statics s) 24 128 → Post tb e args s (.returned v) u) :
    ArmFor flags0 classFile x code maxLocals ret World_1 tables_1 room_1 Calls_1 rest_1 Pre_1 Post := by
  intro l hfl _ _ p e ha hc hk s m args below hf hA hF happ hP
  obtain ⟨hcalls, hrest, hpre⟩ := hP
  obtain ⟨-, -, -, hnamed, -, -, -, hat⟩ := (Spec.applies_iff hf).mp happ
  obtain ⟨hg, hn⟩ := and_e (Cond.before_iff.mp (show (Jvm.Cond.and given_1 narrow_1).before args s = true from hpre))
  obtain ⟨hh1a, hh1b⟩ := and_e hg
  obtain ⟨hh2a, hh2b⟩ := and_e hh1b
  obtain ⟨w0, w1, rfl⟩ : ∃ w0 w1 : Value, args = #[w0, w1] := by
    have hs : args.size = 2 := by simpa [Cond.value, given_1] using hh1a
    obtain ⟨L⟩ := args
    match L, hs with
    | [w0, w1], _ => exact ⟨w0, w1, rfl⟩
  have hw := fun d (hd : d ∈ tables_1) => atoms_spec (ws := Jvm.Cond.code x code maxLocals ret :: tables_1) hat d (List.mem_cons_of_mem _ hd)
  have hfit : Fit s := fun {y c} hc i hi => by
    obtain ⟨ha, rfl⟩ := Array.getElem?_eq_some_iff.mp hc
    have q := List.all_eq_true.mp ((Array.all_eq_true_iff_forall_mem.mp hF) _ (Array.getElem_mem ha)) i (List.mem_range.mpr hi)
    simpa [Array.getElem?_eq_getElem hi] using q
  obtain ⟨i0, ei0⟩ := is_v hh2a
  obtain rfl : w0 = (.int i0) := Option.some.inj ei0
  obtain ⟨i1, ei1⟩ := is_v hh2b
  obtain rfl : w1 = (.int i1) := Option.some.inj ei1
  obtain ⟨n, o, h1, h2, h3, _, L, rfl, ⟨rfl, N⟩, hq⟩ := rm0 l s _ hw tables_1 i0 i1 s.heap s.heap.size (Old.start s) p e ha hc hk s m _ below hf ((Spec.applies_iff_loose hf).mp happ).1 ⟨rfl, State.Warmed39.refl s, rfl⟩ trivial
  refine ⟨n, _, h1, h2, h3, hpost _ _ _ _ _ _ ⟨Cond.after_iff.mpr rfl, Cond.after_iff.mpr (eq_i res_at (Term.int_eval (1)) rfl), trivial⟩ ⟨hq.1, hq.2.1, (hq.2.2.sift fun y hy => Or.inr (N y hy)).mono (by decide) (by decide)⟩⟩
theorem main_1_1 : Claimed_1_1 := comes_1 fun _ _ _ _ _ _ h hF => ⟨h.1, hF⟩
theorem main_1_2 : Claimed_1_2 := comes_1 fun _ _ _ _ _ _ h hF => ⟨h.2.1, hF⟩
end Jvm.Pilot.@@N@@
namespace Jvm.Pilot.@@N@@
open Jvm Jvm.ClassFile Sem Op Lib Jvm.Free Jvm.Stand Jvm.Pilot.@@N@@.Jvm.D
/-! MADE BY PROGRAM (witnessworld.py) out of the Statement's table words and the real class files: 13 classes; the members and pool entries that the words name. The judged class is class 1, her method 2. -/
namespace start1
open Jvm.ClassFile
def u (s : String) : CpInfo := .utf8 (stringToUtf16 s)
/-- a pool by its gaps: so many unusable entries, then the entry; so many at the end -/
def gap : Nat → List CpInfo → List CpInfo
  | 0, r => r
  | n + 1, r => .unusable :: gap n r
def poolList (es : List (Nat × CpInfo)) (last : Nat) : List CpInfo := es.foldr (fun e r => gap e.1 (e.2 :: r)) (gap last [])
def pool (es : List (Nat × CpInfo)) (last : Nat) : Array CpInfo := ⟨poolList es last⟩
def fileOf (pool : Array CpInfo) (this : Nat) (attrs : Array Attribute := #[]) (ms : Array MethodInfo := #[]) (fl : Nat := 33) (sup : Nat := 0) (ifs : Array Nat := #[]) (fds : Array FieldInfo := #[]) : ClassFile where
  minorVersion := 0
  majorVersion := 65
  constantPool := pool
  accessFlags := fl
  thisClass := this
  superClass := sup
  interfaces := ifs
  fields := fds
  methods := ms
  attributes := attrs
def plain (name : String) (sup : Option ClassId) : Class where
  name := name
  kind := .ordinary
  loader := none
  accessFlags := 33
  super := sup
  interfaces := #[]
  cf := none
  fields := #[]
  methods := #[]
  instanceTypes := #[]
  staticTypes := #[]
  resolved := #[]
  callSites := []
  init := .initialized
  statics := none
  mirror := none

def pool0 : Array CpInfo := pool [(5, u "<init>"), (0, u "()V"), (1, .class_ 10), (1, u "java/lang/Object")] 113

def k0c0 : Code := { maxStack := 0, maxLocals := 1, code := object_method_1_code, exceptionTable := #[], attributes := #[] }
def k0m0 : Method := { name := "<init>", desc := "()V", sig := { parameters := [], returnType := none }, accessFlags := 1, code := some k0c0 }
/-- java/lang/Object -/
def k0 : Class := { plain "java/lang/Object" none with
  accessFlags := 33
  interfaces := #[]
  cf := some (fileOf pool0 8 #[] #[{ accessFlags := 1, nameIndex := 5, descriptorIndex := 6, attributes := #[] }] 33 0 #[] #[])
  fields := #[]
  methods := #[k0m0]
  instanceTypes := #[]
  staticTypes := #[]
  resolved := Array.replicate 124 none
  statics := none }

def pool1 : Array CpInfo := pool [(2, .class_ 4), (0, .nameAndType 5 6), (0, u "java/lang/Object"), (0, u "<init>"), (0, u "()V"), (0, .integer 2147483647), (0, .class_ 9), (0, u "com/example/serigraph/serigraph/view/OrderList"), (0, .methodref 8 3), (0, .class_ 12), (0, u "com/example/serigraph/serigraph/view/OrderList$Place"), (0, .methodref 8 14), (0, .nameAndType 15 16), (0, u "front"), (0, u "()Lcom/example/serigraph/serigraph/view/OrderList$Place;"), (0, .methodref 8 18), (0, .nameAndType 19 16), (0, u "append"), (0, .methodref 8 21), (0, .nameAndType 22 16), (0, u "back"), (0, .methodref 24 25), (0, .class_ 26), (0, .nameAndType 27 28), (0, u "com/example/serigraph/serigraph/view/OrderListRemovePinLaw"), (0, u "at"), (0, u "([Lcom/example/serigraph/serigraph/view/OrderList$Place;II)Lcom/example/serigraph/serigraph/view/OrderList$Place;"), (0, .methodref 8 30), (0, .nameAndType 31 32), (0, u "remove"), (0, u "(Lcom/example/serigraph/serigraph/view/OrderList$Place;)V"), (0, .methodref 11 34), (0, .nameAndType 35 16), (0, u "previous"), (0, .methodref 8 37), (0, .nameAndType 38 39), (0, u "insertAfter"), (0, u "(Lcom/example/serigraph/serigraph/view/OrderList$Place;)Lcom/example/serigraph/serigraph/view/OrderList$Place;"), (3, u "law"), (0, u "(II)Z")] 6

def k1m0 : Method := { name := "<init>", desc := "()V", sig := { parameters := [], returnType := none }, accessFlags := 2, code := none }
def k1c1 : Code := { maxStack := 3, maxLocals := 3, code := method_2_code, exceptionTable := #[], attributes := #[] }
def k1m1 : Method := { name := "at", desc := "([Lcom/example/serigraph/serigraph/view/OrderList$Place;II)Lcom/example/serigraph/serigraph/view/OrderList$Place;", sig := { parameters := [(.array (.object "com/example/serigraph/serigraph/view/OrderList$Place")), .int, .int], returnType := some (.object "com/example/serigraph/serigraph/view/OrderList$Place") }, accessFlags := 10, code := some k1c1 }
def k1c2 : Code := { maxStack := 3, maxLocals := 15, code := code, exceptionTable := #[], attributes := #[] }
def k1m2 : Method := { name := "law", desc := "(II)Z", sig := { parameters := [.int, .int], returnType := some .boolean }, accessFlags := 9, code := some k1c2 }
/-- com/example/serigraph/serigraph/view/OrderListRemovePinLaw -/
def k1 : Class := { plain "com/example/serigraph/serigraph/view/OrderListRemovePinLaw" (some 0) with
  accessFlags := 49
  interfaces := #[]
  cf := some (fileOf pool1 24 #[] #[{ accessFlags := 2, nameIndex := 5, descriptorIndex := 6, attributes := #[] }, { accessFlags := 10, nameIndex := 27, descriptorIndex := 28, attributes := #[] }, { accessFlags := 9, nameIndex := 43, descriptorIndex := 44, attributes := #[] }] 49 2 #[] #[])
  fields := #[]
  methods := #[k1m0, k1m1, k1m2]
  instanceTypes := #[]
  staticTypes := #[]
  resolved := Array.replicate 51 none
  statics := none }

def pool2 : Array CpInfo := pool [(1, .methodref 2 3), (0, .class_ 4), (0, .nameAndType 5 6), (0, u "java/lang/Object"), (0, u "<init>"), (0, u "()V"), (0, .class_ 8), (0, u "com/example/serigraph/serigraph/view/OrderList$Place"), (0, .methodref 7 3), (0, .fieldref 11 12), (0, .class_ 13), (0, .nameAndType 14 15), (0, u "com/example/serigraph/serigraph/view/OrderList"), (0, u "front"), (0, u "Lcom/example/serigraph/serigraph/view/OrderList$Place;"), (0, .fieldref 11 17), (0, .nameAndType 18 15), (0, u "back"), (0, .long 4611686018427387904), (1, .fieldref 7 22), (0, .nameAndType 23 24), (0, u "label"), (0, u "J"), (0, .fieldref 7 26), (0, .nameAndType 27 15), (0, u "next"), (0, .fieldref 7 29), (0, .nameAndType 30 15), (0, u "previous"), (0, .long 2), (4, u "(Lcom/example/serigraph/serigraph/view/OrderList$Place;)V"), (0, .long 4294967296), (1, .methodref 40 41), (0, .class_ 42), (0, .nameAndType 43 44), (0, u "java/lang/Math"), (0, u "min"), (0, u "(JJ)J"), (0, .methodref 11 46), (0, .nameAndType 47 48), (0, u "insertAfter"), (0, u "(Lcom/example/serigraph/serigraph/view/OrderList$Place;)Lcom/example/serigraph/serigraph/view/OrderList$Place;"), (15, u "BITS"), (0, u "I"), (2, u "STEP"), (0, u "DENSITY"), (0, u "D"), (2, u "()Lcom/example/serigraph/serigraph/view/OrderList$Place;"), (1, u "append"), (0, u "remove")] 19

def k2c0 : Code := { maxStack := 3, maxLocals := 1, code := prog_85_method_1_code, exceptionTable := #[], attributes := #[] }
def k2m0 : Method := { name := "<init>", desc := "()V", sig := { parameters := [], returnType := none }, accessFlags := 0, code := some k2c0 }
def k2c1 : Code := { maxStack := 1, maxLocals := 1, code := prog_85_method_2_code, exceptionTable := #[], attributes := #[] }
def k2m1 : Method := { name := "front", desc := "()Lcom/example/serigraph/serigraph/view/OrderList$Place;", sig := { parameters := [], returnType := some (.object "com/example/serigraph/serigraph/view/OrderList$Place") }, accessFlags := 0, code := some k2c1 }
def k2c2 : Code := { maxStack := 1, maxLocals := 1, code := prog_85_method_3_code, exceptionTable := #[], attributes := #[] }
def k2m2 : Method := { name := "back", desc := "()Lcom/example/serigraph/serigraph/view/OrderList$Place;", sig := { parameters := [], returnType := some (.object "com/example/serigraph/serigraph/view/OrderList$Place") }, accessFlags := 0, code := some k2c2 }
def k2c3 : Code := { maxStack := 7, maxLocals := 3, code := prog_85_method_4_code, exceptionTable := #[], attributes := #[] }
def k2m3 : Method := { name := "insertAfter", desc := "(Lcom/example/serigraph/serigraph/view/OrderList$Place;)Lcom/example/serigraph/serigraph/view/OrderList$Place;", sig := { parameters := [(.object "com/example/serigraph/serigraph/view/OrderList$Place")], returnType := some (.object "com/example/serigraph/serigraph/view/OrderList$Place") }, accessFlags := 0, code := some k2c3 }
def k2c4 : Code := { maxStack := 2, maxLocals := 1, code := prog_85_method_5_code, exceptionTable := #[], attributes := #[] }
def k2m4 : Method := { name := "append", desc := "()Lcom/example/serigraph/serigraph/view/OrderList$Place;", sig := { parameters := [], returnType := some (.object "com/example/serigraph/serigraph/view/OrderList$Place") }, accessFlags := 0, code := some k2c4 }
def k2c5 : Code := { maxStack := 2, maxLocals := 2, code := prog_85_method_6_code, exceptionTable := #[], attributes := #[] }
def k2m5 : Method := { name := "remove", desc := "(Lcom/example/serigraph/serigraph/view/OrderList$Place;)V", sig := { parameters := [(.object "com/example/serigraph/serigraph/view/OrderList$Place")], returnType := none }, accessFlags := 0, code := some k2c5 }
/-- com/example/serigraph/serigraph/view/OrderList -/
def k2 : Class := { plain "com/example/serigraph/serigraph/view/OrderList" (some 0) with
  accessFlags := 48
  interfaces := #[]
  cf := some (fileOf pool2 11 #[.nestMembers #[7]] #[{ accessFlags := 0, nameIndex := 5, descriptorIndex := 6, attributes := #[] }, { accessFlags := 0, nameIndex := 14, descriptorIndex := 73, attributes := #[] }, { accessFlags := 0, nameIndex := 18, descriptorIndex := 73, attributes := #[] }, { accessFlags := 0, nameIndex := 47, descriptorIndex := 48, attributes := #[] }, { accessFlags := 0, nameIndex := 75, descriptorIndex := 73, attributes := #[] }, { accessFlags := 0, nameIndex := 76, descriptorIndex := 36, attributes := #[] }] 48 2 #[] #[{ accessFlags := 26, nameIndex := 64, descriptorIndex := 65, attributes := #[] }, { accessFlags := 26, nameIndex := 68, descriptorIndex := 24, attributes := #[] }, { accessFlags := 26, nameIndex := 69, descriptorIndex := 70, attributes := #[] }, { accessFlags := 18, nameIndex := 14, descriptorIndex := 15, attributes := #[] }, { accessFlags := 18, nameIndex := 18, descriptorIndex := 15, attributes := #[] }])
  fields := #[{ name := "BITS", type := .int, accessFlags := 26, slot := 0, constantValue := 0 }, { name := "STEP", type := .long, accessFlags := 26, slot := 1, constantValue := 0 }, { name := "DENSITY", type := .double, accessFlags := 26, slot := 2, constantValue := 0 }, { name := "front", type := (.object "com/example/serigraph/serigraph/view/OrderList$Place"), accessFlags := 18, slot := 0, constantValue := 0 }, { name := "back", type := (.object "com/example/serigraph/serigraph/view/OrderList$Place"), accessFlags := 18, slot := 1, constantValue := 0 }]
  methods := #[k2m0, k2m1, k2m2, k2m3, k2m4, k2m5]
  instanceTypes := #[(.object "com/example/serigraph/serigraph/view/OrderList$Place"), (.object "com/example/serigraph/serigraph/view/OrderList$Place")]
  staticTypes := #[.int, .long, .double]
  resolved := ⟨List.replicate 21 none ++ [some (.field 4 0)] ++ List.replicate 3 none ++ [some (.field 4 2)] ++ List.replicate 2 none ++ [some (.field 4 1)] ++ List.replicate 67 none⟩
  statics := none }

def pool3 : Array CpInfo := pool [(1, .class_ 2), (0, u "java/lang/Comparable"), (0, .class_ 4), (0, u "java/lang/Object")] 7

/-- java/lang/Comparable -/
def k3 : Class := { plain "java/lang/Comparable" (some 0) with
  accessFlags := 1537
  interfaces := #[]
  cf := some (fileOf pool3 1 #[] #[] 1537 3 #[] #[])
  fields := #[]
  methods := #[]
  instanceTypes := #[]
  staticTypes := #[]
  resolved := Array.replicate 12 none
  statics := none }

def pool4 : Array CpInfo := pool [(1, .methodref 2 3), (0, .class_ 4), (0, .nameAndType 5 6), (0, u "java/lang/Object"), (0, u "<init>"), (0, u "()V"), (0, .fieldref 8 9), (0, .class_ 10), (0, .nameAndType 11 12), (0, u "com/example/serigraph/serigraph/view/OrderList$Place"), (0, u "previous"), (0, u "Lcom/example/serigraph/serigraph/view/OrderList$Place;"), (2, u "label"), (0, u "J"), (10, .class_ 28), (0, u "java/lang/Comparable"), (0, u "next"), (2, u "()Lcom/example/serigraph/serigraph/view/OrderList$Place;"), (7, .class_ 41), (0, u "com/example/serigraph/serigraph/view/OrderList")] 2

def k4c0 : Code := { maxStack := 1, maxLocals := 1, code := prog_86_method_1_code, exceptionTable := #[], attributes := #[] }
def k4m0 : Method := { name := "<init>", desc := "()V", sig := { parameters := [], returnType := none }, accessFlags := 0, code := some k4c0 }
def k4c1 : Code := { maxStack := 1, maxLocals := 1, code := prog_86_method_2_code, exceptionTable := #[], attributes := #[] }
def k4m1 : Method := { name := "previous", desc := "()Lcom/example/serigraph/serigraph/view/OrderList$Place;", sig := { parameters := [], returnType := some (.object "com/example/serigraph/serigraph/view/OrderList$Place") }, accessFlags := 0, code := some k4c1 }
/-- com/example/serigraph/serigraph/view/OrderList$Place -/
def k4 : Class := { plain "com/example/serigraph/serigraph/view/OrderList$Place" (some 0) with
  accessFlags := 48
  interfaces := #[3]
  cf := some (fileOf pool4 8 #[.nestHost 40] #[{ accessFlags := 0, nameIndex := 5, descriptorIndex := 6, attributes := #[] }, { accessFlags := 0, nameIndex := 11, descriptorIndex := 32, attributes := #[] }] 48 2 #[27] #[{ accessFlags := 2, nameIndex := 15, descriptorIndex := 16, attributes := #[] }, { accessFlags := 2, nameIndex := 11, descriptorIndex := 12, attributes := #[] }, { accessFlags := 2, nameIndex := 29, descriptorIndex := 12, attributes := #[] }])
  fields := #[{ name := "label", type := .long, accessFlags := 2, slot := 0, constantValue := 0 }, { name := "previous", type := (.object "com/example/serigraph/serigraph/view/OrderList$Place"), accessFlags := 2, slot := 1, constantValue := 0 }, { name := "next", type := (.object "com/example/serigraph/serigraph/view/OrderList$Place"), accessFlags := 2, slot := 2, constantValue := 0 }]
  methods := #[k4m0, k4m1]
  instanceTypes := #[.long, (.object "com/example/serigraph/serigraph/view/OrderList$Place"), (.object "com/example/serigraph/serigraph/view/OrderList$Place")]
  staticTypes := #[]
  resolved := Array.replicate 44 none
  statics := none }

def pool5 : Array CpInfo := pool [(1, .class_ 2), (0, u "java/lang/Math"), (1, .class_ 6), (1, u "java/lang/Object"), (0, u "<init>"), (0, u "()V"), (89, .class_ 100), (1, u "java/lang/Math$RandomNumberGeneratorHolder"), (20, u "(JJ)J"), (50, u "negativeZeroFloatBits"), (0, u "J"), (2, u "negativeZeroDoubleBits"), (24, u "min"), (43, u "$assertionsDisabled"), (0, u "Z"), (91, u "twoToTheDoubleScaleDown"), (0, u "D"), (4, u "twoToTheDoubleScaleUp"), (9, u "E"), (3, u "PI"), (2, u "TAU"), (2, u "DEGREES_TO_RADIANS"), (0, u "RADIANS_TO_DEGREES")] 94

def k5m0 : Method := { name := "<init>", desc := "()V", sig := { parameters := [], returnType := none }, accessFlags := 2, code := none }
def k5c1 : Code := { maxStack := 4, maxLocals := 4, code := jdk_29_method_70_code, exceptionTable := #[], attributes := #[] }
def k5m1 : Method := { name := "min", desc := "(JJ)J", sig := { parameters := [.long, .long], returnType := some .long }, accessFlags := 9, code := some k5c1 }
/-- java/lang/Math -/
def k5 : Class := { plain "java/lang/Math" (some 0) with
  accessFlags := 49
  interfaces := #[]
  cf := some (fileOf pool5 1 #[.nestMembers #[98]] #[{ accessFlags := 2, nameIndex := 7, descriptorIndex := 8, attributes := #[] }, { accessFlags := 9, nameIndex := 201, descriptorIndex := 121, attributes := #[] }] 49 4 #[] #[{ accessFlags := 25, nameIndex := 354, descriptorIndex := 339, attributes := #[] }, { accessFlags := 25, nameIndex := 358, descriptorIndex := 339, attributes := #[] }, { accessFlags := 25, nameIndex := 361, descriptorIndex := 339, attributes := #[] }, { accessFlags := 26, nameIndex := 364, descriptorIndex := 339, attributes := #[] }, { accessFlags := 26, nameIndex := 365, descriptorIndex := 339, attributes := #[] }, { accessFlags := 26, nameIndex := 172, descriptorIndex := 173, attributes := #[] }, { accessFlags := 26, nameIndex := 176, descriptorIndex := 173, attributes := #[] }, { accessFlags := 8, nameIndex := 344, descriptorIndex := 339, attributes := #[] }, { accessFlags := 8, nameIndex := 338, descriptorIndex := 339, attributes := #[] }, { accessFlags := 4120, nameIndex := 245, descriptorIndex := 246, attributes := #[] }])
  fields := #[{ name := "E", type := .double, accessFlags := 25, slot := 0, constantValue := 0 }, { name := "PI", type := .double, accessFlags := 25, slot := 1, constantValue := 0 }, { name := "TAU", type := .double, accessFlags := 25, slot := 2, constantValue := 0 }, { name := "DEGREES_TO_RADIANS", type := .double, accessFlags := 26, slot := 3, constantValue := 0 }, { name := "RADIANS_TO_DEGREES", type := .double, accessFlags := 26, slot := 4, constantValue := 0 }, { name := "negativeZeroFloatBits", type := .long, accessFlags := 26, slot := 5, constantValue := 0 }, { name := "negativeZeroDoubleBits", type := .long, accessFlags := 26, slot := 6, constantValue := 0 }, { name := "twoToTheDoubleScaleUp", type := .double, accessFlags := 8, slot := 7, constantValue := 0 }, { name := "twoToTheDoubleScaleDown", type := .double, accessFlags := 8, slot := 8, constantValue := 0 }, { name := "$assertionsDisabled", type := .boolean, accessFlags := 4120, slot := 9, constantValue := 0 }]
  methods := #[k5m0, k5m1]
  instanceTypes := #[]
  staticTypes := #[.double, .double, .double, .double, .double, .long, .long, .double, .double, .boolean]
  resolved := Array.replicate 460 none
  statics := none }

def pool6 : Array CpInfo := pool [(1, u "java/lang/Cloneable"), (0, .class_ 1), (0, u "java/lang/Object"), (0, .class_ 3)] 3

/-- java/lang/Cloneable -/
def k6 : Class := { plain "java/lang/Cloneable" (some 0) with
  accessFlags := 1537
  interfaces := #[]
  cf := some (fileOf pool6 2 #[] #[] 1537 4 #[] #[])
  fields := #[]
  methods := #[]
  instanceTypes := #[]
  staticTypes := #[]
  resolved := Array.replicate 8 none
  statics := none }

def pool7 : Array CpInfo := pool [(1, u "java/io/Serializable"), (0, .class_ 1), (0, u "java/lang/Object"), (0, .class_ 3)] 3

/-- java/io/Serializable -/
def k7 : Class := { plain "java/io/Serializable" (some 0) with
  accessFlags := 1537
  interfaces := #[]
  cf := some (fileOf pool7 2 #[] #[] 1537 4 #[] #[])
  fields := #[]
  methods := #[]
  instanceTypes := #[]
  staticTypes := #[]
  resolved := Array.replicate 8 none
  statics := none }

/-- the primitive byte -/
def k8 : Class := { plain "byte" none with kind := .primitive 'B', accessFlags := 0x411 }
/-- [B -/
def k9 : Class := { plain "[B" (some 0) with kind := .array 8 .byte, interfaces := #[6, 7], accessFlags := 1041 }

/-- the primitive int -/
def k10 : Class := { plain "int" none with kind := .primitive 'I', accessFlags := 0x411 }
/-- [I -/
def k11 : Class := { plain "[I" (some 0) with kind := .array 10 .int, interfaces := #[6, 7], accessFlags := 1041 }

/-- [Lcom/example/serigraph/serigraph/view/OrderList$Place; -/
def k12 : Class := { plain "[Lcom/example/serigraph/serigraph/view/OrderList$Place;" (some 0) with kind := .array 4 (.object "com/example/serigraph/serigraph/view/OrderList$Place"), interfaces := #[6, 7], accessFlags := 1041 }

def heap : Heap := #[]
def classes : Array Class := #[k0, k1, k2, k3, k4, k5, k6, k7, k8, k9, k10, k11, k12]
def interned : List (Array UInt16 × Addr) := []
def slotsUsed : Nat := 0
def theMethod : MethodId := ⟨1, 2⟩
def args0 : Array Value := #[.int 5, .int 5]
def aboutOver (below : List Frame) : State where
  vm := { classes := classes, interned := interned.toArray }
  heap := heap
  slotsUsed := slotsUsed
  threads := #[{ frames := .invoking theMethod args0 :: below }]
def below0 : List Frame := [.native { method := ⟨0, 0⟩, args := #[] }]
def about1 : State := aboutOver below0
def p0 : Program := .bare "" "" ""
def e0 : Env := launch0.env 0 0 0
theorem w_frames : about1.frames = Frame.invoking theMethod args0 :: below0 := rfl
set_option maxRecDepth 65536 in
theorem w_args : argsFit about1.vm theMethod args0 = true := by decide +kernel
set_option maxRecDepth 65536 in
theorem w_heap : heapFits about1 = true := by decide +kernel
set_option maxRecDepth 65536 in
theorem w_runnable : about1.curStatus? = some .runnable := by decide +kernel
set_option maxRecDepth 65536 in
theorem w_alone : about1.alone = true := by decide +kernel
set_option maxRecDepth 65536 in
theorem w_named : about1.methodNamed? x = some theMethod := by decide +kernel
set_option maxRecDepth 65536 in
theorem w_hears : about1.hears theMethod below0 = true := by decide +kernel
set_option maxRecDepth 65536 in
theorem w_ripe : about1.ripe theMethod args0 below0 = true := by decide +kernel
theorem w_running : about1.status = .running := rfl
set_option maxRecDepth 65536 in
theorem w_room : about1.hasRoom e0.platform room_1 = true :=
  launch0.hasRoom_least _ room_1 (by decide +kernel) (by decide +kernel) (by decide +kernel) (by decide +kernel) (by decide +kernel) (by decide +kernel)
theorem allAtoms_all (ts : List Jvm.Cond) (a : Array Jvm.Value) (st : Jvm.State) : (allAtoms ts).before a st = ts.all (fun c => c.before a st) := by
  induction ts with
  | nil => rfl
  | cons c t ih =>
    show (Jvm.Cond.and c (allAtoms t)).before a st = _
    rw [Jvm.Cond.before_and, ih, List.all_cons]
def words1 : List Jvm.Cond := Jvm.Cond.code x code maxLocals ret :: tables_1
/-- a 'code' word, met by the world's own term for the bytes: nothing is compared byte by byte -/
theorem code_word {y : MethodName} {bytes : ByteArray} {mx : Nat} {rt : Option FieldType} {a : Array Value} {s : State} {m : MethodId} {meth : Method} {c : Code} (h1 : s.methodNamed? y = some m) (h2 : s.vm.method? m = some meth) (h3 : meth.code = some c) (h4 : c.code = bytes)
    (h5 : (c.maxLocals == mx && c.exceptionTable.isEmpty && decide (c.maxStack ≤ mostOperands) && decide (meth.sig.returnType = rt) && !meth.locks && decide (parseMethodDescriptor y.desc = some meth.sig)) = true) : (Jvm.Cond.code y bytes mx rt).before a s = true := by
  simp only [Bool.and_eq_true, beq_iff_eq, Bool.not_eq_true', decide_eq_true_eq] at h5
  obtain ⟨⟨⟨⟨⟨g1, g2⟩, g3⟩, g4⟩, g5⟩, g6⟩ := h5
  simp [Cond.before, Cond.holds, Cond.value, h1, h2, h3, h4, g1, g2, g3, g4, g5, g6]
def isCode : Jvm.Cond → Bool
  | .code _ _ _ _ => true
  | _ => false
theorem all_split {L : List Jvm.Cond} {P : Jvm.Cond → Bool} (h1 : L.all (fun c => isCode c || P c) = true) (h2 : ∀ c ∈ L.filter isCode, P c = true) : L.all P = true := by
  refine List.all_eq_true.mpr fun c hc => ?_
  have h := List.all_eq_true.mp h1 c hc
  rcases Bool.eq_false_or_eq_true (isCode c) with hi | hi
  · exact h2 c (List.mem_filter.mpr ⟨hc, hi⟩)
  · simpa [hi] using h
set_option maxRecDepth 65536 in
theorem w_c0 : (Jvm.Cond.code x code maxLocals ret).before args0 about1 = true := code_word (m := ⟨1, 2⟩) (meth := k1m2) (c := k1c2) (by decide +kernel) rfl rfl rfl (by decide +kernel)
set_option maxRecDepth 65536 in
theorem w_c1 : (Jvm.Cond.code ({ cls := "com/example/serigraph/serigraph/view/OrderList", name := "<init>", desc := "()V" } : Jvm.MethodName) prog_85_method_1_code (1 : Nat) (Option.none : Option Jvm.ClassFile.FieldType)).before args0 about1 = true := code_word (m := ⟨2, 0⟩) (meth := k2m0) (c := k2c0) (by decide +kernel) rfl rfl rfl (by decide +kernel)
set_option maxRecDepth 65536 in
theorem w_c2 : (Jvm.Cond.code ({ cls := "java/lang/Object", name := "<init>", desc := "()V" } : Jvm.MethodName) object_method_1_code (1 : Nat) (Option.none : Option Jvm.ClassFile.FieldType)).before args0 about1 = true := code_word (m := ⟨0, 0⟩) (meth := k0m0) (c := k0c0) (by decide +kernel) rfl rfl rfl (by decide +kernel)
set_option maxRecDepth 65536 in
theorem w_c3 : (Jvm.Cond.code ({ cls := "com/example/serigraph/serigraph/view/OrderList$Place", name := "<init>", desc := "()V" } : Jvm.MethodName) prog_86_method_1_code (1 : Nat) (Option.none : Option Jvm.ClassFile.FieldType)).before args0 about1 = true := code_word (m := ⟨4, 0⟩) (meth := k4m0) (c := k4c0) (by decide +kernel) rfl rfl rfl (by decide +kernel)
set_option maxRecDepth 65536 in
theorem w_c4 : (Jvm.Cond.code ({ cls := "com/example/serigraph/serigraph/view/OrderList", name := "front", desc := "()Lcom/example/serigraph/serigraph/view/OrderList$Place;" } : Jvm.MethodName) prog_85_method_2_code (1 : Nat) (Option.some (Jvm.ClassFile.FieldType.object "com/example/serigraph/serigraph/view/OrderList$Place"))).before args0 about1 = true := code_word (m := ⟨2, 1⟩) (meth := k2m1) (c := k2c1) (by decide +kernel) rfl rfl rfl (by decide +kernel)
set_option maxRecDepth 65536 in
theorem w_c5 : (Jvm.Cond.code ({ cls := "com/example/serigraph/serigraph/view/OrderList", name := "append", desc := "()Lcom/example/serigraph/serigraph/view/OrderList$Place;" } : Jvm.MethodName) prog_85_method_5_code (1 : Nat) (Option.some (Jvm.ClassFile.FieldType.object "com/example/serigraph/serigraph/view/OrderList$Place"))).before args0 about1 = true := code_word (m := ⟨2, 4⟩) (meth := k2m4) (c := k2c4) (by decide +kernel) rfl rfl rfl (by decide +kernel)
set_option maxRecDepth 65536 in
theorem w_c6 : (Jvm.Cond.code ({ cls := "com/example/serigraph/serigraph/view/OrderList", name := "insertAfter", desc := "(Lcom/example/serigraph/serigraph/view/OrderList$Place;)Lcom/example/serigraph/serigraph/view/OrderList$Place;" } : Jvm.MethodName) prog_85_method_4_code (3 : Nat) (Option.some (Jvm.ClassFile.FieldType.object "com/example/serigraph/serigraph/view/OrderList$Place"))).before args0 about1 = true := code_word (m := ⟨2, 3⟩) (meth := k2m3) (c := k2c3) (by decide +kernel) rfl rfl rfl (by decide +kernel)
set_option maxRecDepth 65536 in
theorem w_c7 : (Jvm.Cond.code ({ cls := "java/lang/Math", name := "min", desc := "(JJ)J" } : Jvm.MethodName) jdk_29_method_70_code (4 : Nat) (Option.some Jvm.ClassFile.FieldType.long)).before args0 about1 = true := code_word (m := ⟨5, 1⟩) (meth := k5m1) (c := k5c1) (by decide +kernel) rfl rfl rfl (by decide +kernel)
set_option maxRecDepth 65536 in
theorem w_c8 : (Jvm.Cond.code ({ cls := "com/example/serigraph/serigraph/view/OrderList", name := "back", desc := "()Lcom/example/serigraph/serigraph/view/OrderList$Place;" } : Jvm.MethodName) prog_85_method_3_code (1 : Nat) (Option.some (Jvm.ClassFile.FieldType.object "com/example/serigraph/serigraph/view/OrderList$Place"))).before args0 about1 = true := code_word (m := ⟨2, 2⟩) (meth := k2m2) (c := k2c2) (by decide +kernel) rfl rfl rfl (by decide +kernel)
set_option maxRecDepth 65536 in
theorem w_c9 : (Jvm.Cond.code ({ cls := "com/example/serigraph/serigraph/view/OrderListRemovePinLaw", name := "at", desc := "([Lcom/example/serigraph/serigraph/view/OrderList$Place;II)Lcom/example/serigraph/serigraph/view/OrderList$Place;" } : Jvm.MethodName) method_2_code (3 : Nat) (Option.some (Jvm.ClassFile.FieldType.object "com/example/serigraph/serigraph/view/OrderList$Place"))).before args0 about1 = true := code_word (m := ⟨1, 1⟩) (meth := k1m1) (c := k1c1) (by decide +kernel) rfl rfl rfl (by decide +kernel)
set_option maxRecDepth 65536 in
theorem w_c10 : (Jvm.Cond.code ({ cls := "com/example/serigraph/serigraph/view/OrderList", name := "remove", desc := "(Lcom/example/serigraph/serigraph/view/OrderList$Place;)V" } : Jvm.MethodName) prog_85_method_6_code (2 : Nat) (Option.none : Option Jvm.ClassFile.FieldType)).before args0 about1 = true := code_word (m := ⟨2, 5⟩) (meth := k2m5) (c := k2c5) (by decide +kernel) rfl rfl rfl (by decide +kernel)
set_option maxRecDepth 65536 in
theorem w_c11 : (Jvm.Cond.code ({ cls := "com/example/serigraph/serigraph/view/OrderList$Place", name := "previous", desc := "()Lcom/example/serigraph/serigraph/view/OrderList$Place;" } : Jvm.MethodName) prog_86_method_2_code (1 : Nat) (Option.some (Jvm.ClassFile.FieldType.object "com/example/serigraph/serigraph/view/OrderList$Place"))).before args0 about1 = true := code_word (m := ⟨4, 1⟩) (meth := k4m1) (c := k4c1) (by decide +kernel) rfl rfl rfl (by decide +kernel)
def codes1 : List Jvm.Cond := [Jvm.Cond.code x code maxLocals ret, Jvm.Cond.code ({ cls := "com/example/serigraph/serigraph/view/OrderList", name := "<init>", desc := "()V" } : Jvm.MethodName) prog_85_method_1_code (1 : Nat) (Option.none : Option Jvm.ClassFile.FieldType), Jvm.Cond.code ({ cls := "java/lang/Object", name := "<init>", desc := "()V" } : Jvm.MethodName) object_method_1_code (1 : Nat) (Option.none : Option Jvm.ClassFile.FieldType), Jvm.Cond.code ({ cls := "com/example/serigraph/serigraph/view/OrderList$Place", name := "<init>", desc := "()V" } : Jvm.MethodName) prog_86_method_1_code (1 : Nat) (Option.none : Option Jvm.ClassFile.FieldType), Jvm.Cond.code ({ cls := "com/example/serigraph/serigraph/view/OrderList", name := "front", desc := "()Lcom/example/serigraph/serigraph/view/OrderList$Place;" } : Jvm.MethodName) prog_85_method_2_code (1 : Nat) (Option.some (Jvm.ClassFile.FieldType.object "com/example/serigraph/serigraph/view/OrderList$Place")), Jvm.Cond.code ({ cls := "com/example/serigraph/serigraph/view/OrderList", name := "append", desc := "()Lcom/example/serigraph/serigraph/view/OrderList$Place;" } : Jvm.MethodName) prog_85_method_5_code (1 : Nat) (Option.some (Jvm.ClassFile.FieldType.object "com/example/serigraph/serigraph/view/OrderList$Place")), Jvm.Cond.code ({ cls := "com/example/serigraph/serigraph/view/OrderList", name := "insertAfter", desc := "(Lcom/example/serigraph/serigraph/view/OrderList$Place;)Lcom/example/serigraph/serigraph/view/OrderList$Place;" } : Jvm.MethodName) prog_85_method_4_code (3 : Nat) (Option.some (Jvm.ClassFile.FieldType.object "com/example/serigraph/serigraph/view/OrderList$Place")), Jvm.Cond.code ({ cls := "java/lang/Math", name := "min", desc := "(JJ)J" } : Jvm.MethodName) jdk_29_method_70_code (4 : Nat) (Option.some Jvm.ClassFile.FieldType.long), Jvm.Cond.code ({ cls := "com/example/serigraph/serigraph/view/OrderList", name := "back", desc := "()Lcom/example/serigraph/serigraph/view/OrderList$Place;" } : Jvm.MethodName) prog_85_method_3_code (1 : Nat) (Option.some (Jvm.ClassFile.FieldType.object "com/example/serigraph/serigraph/view/OrderList$Place")), Jvm.Cond.code ({ cls := "com/example/serigraph/serigraph/view/OrderListRemovePinLaw", name := "at", desc := "([Lcom/example/serigraph/serigraph/view/OrderList$Place;II)Lcom/example/serigraph/serigraph/view/OrderList$Place;" } : Jvm.MethodName) method_2_code (3 : Nat) (Option.some (Jvm.ClassFile.FieldType.object "com/example/serigraph/serigraph/view/OrderList$Place")), Jvm.Cond.code ({ cls := "com/example/serigraph/serigraph/view/OrderList", name := "remove", desc := "(Lcom/example/serigraph/serigraph/view/OrderList$Place;)V" } : Jvm.MethodName) prog_85_method_6_code (2 : Nat) (Option.none : Option Jvm.ClassFile.FieldType), Jvm.Cond.code ({ cls := "com/example/serigraph/serigraph/view/OrderList$Place", name := "previous", desc := "()Lcom/example/serigraph/serigraph/view/OrderList$Place;" } : Jvm.MethodName) prog_86_method_2_code (1 : Nat) (Option.some (Jvm.ClassFile.FieldType.object "com/example/serigraph/serigraph/view/OrderList$Place"))]
set_option maxRecDepth 65536 in
theorem codes_eq : words1.filter isCode = codes1 := rfl
theorem w_codes : ∀ c ∈ words1.filter isCode, c.before args0 about1 = true := by
  rw [codes_eq]
  intro c hc
  simp only [codes1, List.mem_cons, List.not_mem_nil, or_false] at hc
  rcases hc with rfl | rfl | rfl | rfl | rfl | rfl | rfl | rfl | rfl | rfl | rfl | rfl
  · exact w_c0
  · exact w_c1
  · exact w_c2
  · exact w_c3
  · exact w_c4
  · exact w_c5
  · exact w_c6
  · exact w_c7
  · exact w_c8
  · exact w_c9
  · exact w_c10
  · exact w_c11
set_option maxRecDepth 65536 in
theorem w_t1 : (words1.take 24).all (fun c => isCode c || c.before args0 about1) = true := by decide +kernel
set_option maxRecDepth 65536 in
theorem w_t2 : ((words1.drop 24).take 24).all (fun c => isCode c || c.before args0 about1) = true := by decide +kernel
set_option maxRecDepth 65536 in
theorem w_t3 : (((words1.drop 24).drop 24).take 24).all (fun c => isCode c || c.before args0 about1) = true := by decide +kernel
set_option maxRecDepth 65536 in
theorem w_t4 : (((words1.drop 24).drop 24).drop 24).all (fun c => isCode c || c.before args0 about1) = true := by decide +kernel
theorem w_tables : (allAtoms (Jvm.Cond.code x code maxLocals ret :: tables_1)).before args0 about1 = true := by
  rw [allAtoms_all]
  show words1.all (fun c => c.before args0 about1) = true
  refine all_split ?_ w_codes
  rw [← List.take_append_drop 24 words1, List.all_append, w_t1, ← List.take_append_drop 24 (words1.drop 24), List.all_append, w_t2, ← List.take_append_drop 24 ((words1.drop 24).drop 24), List.all_append, w_t3, w_t4]
  rfl
set_option maxRecDepth 65536 in
theorem w_case : (Jvm.Cond.and given_1 narrow_1).before args0 about1 = true := by decide +kernel
theorem w_applies : (headSpec (Jvm.Cond.code x code maxLocals ret :: tables_1) room_1).applies x e0.platform about1 = true :=
  (Spec.applies_iff w_frames).mpr ⟨w_running, w_runnable, w_alone, w_named, w_hears, w_ripe, w_room, w_tables⟩
theorem atStart : AtStart classFile x code maxLocals ret World_1 tables_1 room_1 Calls_1 rest_1 Pre_1 launch0 p0 e0 about1 theMethod args0 below0 :=
  ⟨lists_1, trivial, launch0.admits_env _ _ _, launch0.least_env, fairChoices_fair.cas, fairChoices_fair.clock, w_frames, w_args, w_heap, w_applies, trivial, trivial, w_case⟩
end start1
theorem witness_1 : WitnessClaimed_1 := ⟨start1.p0, start1.e0, start1.about1, start1.theMethod, start1.args0, start1.below0, start1.atStart⟩
end Jvm.Pilot.@@N@@
