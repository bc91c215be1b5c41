import JvmDerived
import JvmDerived.Pilot.@@N@@Statement
import JvmDerived.Pilot.@@N@@Code
set_option linter.unusedVariables false
set_option linter.unusedSimpArgs false
namespace Jvm.Pilot.@@N@@
open Jvm Jvm.ClassFile Sem Op Lib Jvm.Free Jvm.Stand Jvm.LawKit Jvm.RoadKit Bundle Jvm.Pilot.@@N@@.Jvm.D
/-- from the state st the run ends, of which Q says what it leaves -/
def own_Ends (tb : Tables) (e : Env) (below : List Frame) (s : State) (Q : Option Value → Heap → List Loc → Prop) (C S : Nat) (st : State) : Prop :=
  ∃ t o, Steps tb e below st t ∧ t.status = .running ∧ Ended t below o ∧ ∃ v L, o = .returned v ∧ Q v t.heap L ∧ FrameEnd s o t L C S
theorem own_step {tb : Tables} {e : Env} {below : List Frame} {s : State} {Q : Option Value → Heap → List Loc → Prop} {C S : Nat} {st st' : State}
    (h : ∀ t, Steps tb e below st' t → Steps tb e below st t) (k : own_Ends tb e below s Q C S st') : own_Ends tb e below s Q C S st := by
  obtain ⟨t, o, h1, h2⟩ := k
  exact ⟨t, o, h t h1, h2⟩
section OwnRet
variable {p : Program} {l : Launch} {e : Env} {R : Room} {s : State} {m : MethodId} {args : Array Value} {below : List Frame} {meth : Method} {c : Code} {T : State} {locs : List Loc} {cells slots : Nat} {Q : Option Value → Heap → List Loc → Prop} {C S : Nat} {pc : Nat} {Ls : Array Slot} {rest : List Value}
theorem own_retW (X : Stand p l e R s m args below meth c T locs cells slots) (hx : p.tables.exec = Jvm.exec) {w : Value} {t : FieldType} {i : Instr} (hret : meth.sig.returnType = some t) (hn : narrow t w = w)
    (hi : (i = .ireturn ∧ (t = .int ∨ t = .boolean ∨ t = .byte ∨ t = .char ∨ t = .short) ∧ ∃ z, w = .int z) ∨ (i = .lreturn ∧ t = .long ∧ ∃ z, w = .long z) ∨ (i = .dreturn ∧ t = .double ∧ ∃ z, w = .double z) ∨ (i = .freturn ∧ t = .float ∧ ∃ z, w = .float z) ∨ (i = .areturn ∧ t.isReference = true ∧ w.isRef = true))
    (hd : decode c.code pc = .ok (i, 1)) (hlocks : meth.locks = false) (hq : Q (some w) T.heap locs) (hc : cells ≤ C) (hs : slots ≤ S) :
    own_Ends p.tables e below s Q C S (T.setTop (mkF m pc Ls (w :: rest))) := by
  obtain ⟨fs, hr, hrun, hended, hW, hsame⟩ := X.leave (v := some w) (fun h => by rw [hret] at h; cases h) hlocks
  exact ⟨_, _, retOut X hx hret hn hi hd hr, hrun, hended, _, _, rfl, hq, ⟨_, rfl⟩, hW, hsame.mono hc hs⟩
theorem own_retI (X : Stand p l e R s m args below meth c T locs cells slots) (hx : p.tables.exec = Jvm.exec) {z : Int32} (hret : meth.sig.returnType = some .int)
    (hd : decode c.code pc = .ok (.ireturn, 1)) (hlocks : meth.locks = false) (hq : Q (some (.int z)) T.heap locs) (hc : cells ≤ C) (hs : slots ≤ S) :
    own_Ends p.tables e below s Q C S (T.setTop (mkF m pc Ls (.int z :: rest))) :=
  own_retW X hx hret rfl (Or.inl ⟨rfl, Or.inl rfl, z, rfl⟩) hd hlocks hq hc hs
theorem own_retJ (X : Stand p l e R s m args below meth c T locs cells slots) (hx : p.tables.exec = Jvm.exec) {z : Int64} (hret : meth.sig.returnType = some .long)
    (hd : decode c.code pc = .ok (.lreturn, 1)) (hlocks : meth.locks = false) (hq : Q (some (.long z)) T.heap locs) (hc : cells ≤ C) (hs : slots ≤ S) :
    own_Ends p.tables e below s Q C S (T.setTop (mkF m pc Ls (.long z :: rest))) :=
  own_retW X hx hret rfl (Or.inr (Or.inl ⟨rfl, rfl, z, rfl⟩)) hd hlocks hq hc hs
theorem own_retR (X : Stand p l e R s m args below meth c T locs cells slots) (hx : p.tables.exec = Jvm.exec) {w : Value} {t : FieldType} (hret : meth.sig.returnType = some t) (ht : t.isReference = true) (hw : w.isRef = true) (hn : narrow t w = w)
    (hd : decode c.code pc = .ok (.areturn, 1)) (hlocks : meth.locks = false) (hq : Q (some w) T.heap locs) (hc : cells ≤ C) (hs : slots ≤ S) :
    own_Ends p.tables e below s Q C S (T.setTop (mkF m pc Ls (w :: rest))) :=
  own_retW X hx hret hn (Or.inr (Or.inr (Or.inr (Or.inr ⟨rfl, ht, hw⟩)))) hd hlocks hq hc hs
theorem own_retN (X : Stand p l e R s m args below meth c T locs cells slots) (hx : p.tables.exec = Jvm.exec) {z : Int32} {t : FieldType} (hret : meth.sig.returnType = some t) (ht : t = .boolean ∨ t = .byte ∨ t = .char ∨ t = .short)
    (hd : decode c.code pc = .ok (.ireturn, 1)) (hlocks : meth.locks = false) (hq : Q (some (.int (nar t z))) T.heap locs) (hc : cells ≤ C) (hs : slots ≤ S) :
    own_Ends p.tables e below s Q C S (T.setTop (mkF m pc Ls (.int z :: rest))) := by
  obtain ⟨fs, hr, hrun, hended, hW, hsame⟩ := X.leave (v := some (.int (nar t z))) (fun h => by rw [hret] at h; cases h) hlocks
  exact ⟨_, _, retN X hx hret ht hd hr, hrun, hended, _, _, rfl, hq, ⟨_, rfl⟩, hW, hsame.mono hc hs⟩
theorem own_ret0 (X : Stand p l e R s m args below meth c T locs cells slots) (hx : p.tables.exec = Jvm.exec) (hret : meth.sig.returnType = none)
    (hd : decode c.code pc = .ok (.return_, 1)) (hlocks : meth.locks = false) (hq : Q none T.heap locs) (hc : cells ≤ C) (hs : slots ≤ S) :
    own_Ends p.tables e below s Q C S (T.setTop (mkF m pc Ls [])) := by
  obtain ⟨fs, hr, hrun, hended, hW, hsame⟩ := X.leave (v := none) (fun _ => rfl) hlocks
  exact ⟨_, _, X.returnOut hx hret hd hr, hrun, hended, _, _, rfl, hq, ⟨_, rfl⟩, hW, hsame.mono hc hs⟩
end OwnRet
theorem own_idx (b n : Int32) (hn : 0 < n.toInt) : ¬ ((b &&& 2147483647) % n) < 0 ∧ ((b &&& 2147483647) % n) < n := by
  have h1 := c_and b 2147483647 (by decide)
  have h2 := (c_iremV (b &&& 2147483647) n).1 h1.1 hn
  constructor
  · rw [Int32.lt_iff_toInt_lt]; show ¬ _ < (0 : Int); omega
  · rw [Int32.lt_iff_toInt_lt]; omega
theorem own_small (v : Int32) (k : Nat) (hk : k < 2147483648) (h1 : ¬ v < 0) (h2 : v < Int32.ofNat k) : ∃ n : Fin k, v = Int32.ofNat n.1 := by
  rw [Int32.lt_iff_toInt_lt] at h1 h2
  rw [Int32.toInt_ofNat_of_lt hk] at h2
  have a : 0 ≤ v.toInt := by simpa using h1
  refine ⟨⟨v.toInt.toNat, by omega⟩, ?_⟩
  apply Int32.toInt_inj.mp
  rw [Int32.toInt_ofNat_of_lt (by show v.toInt.toNat < _; omega)]
  show v.toInt = ((v.toInt.toNat : Nat) : Int)
  omega
theorem own_fld {s : State} {args : Array Value} {t : Term} {a : Addr} {C n d : String} {k : Int32} (ev : t.eval args s none [] s = some (.ref a)) (h : (Jvm.Cond.eq (.field t C n d) (.int k)).value args s none s [] = some true) : Fld s s.heap a C n d (.int k) := by
  obtain ⟨x, y, h1, h2, h3, h4⟩ := cmp_v (Or.inl h)
  rw [fld_at ev] at h1
  have h5 : y = .int k := by have := h2.symm.trans (Term.int_eval k); exact Option.some.inj this
  subst h5
  obtain ⟨z, rfl⟩ := h4
  have q : (Jvm.Cond.eq (.field t C n d) (.int k)).value args s none s [] = some (decide (z = k)) := Cond.eq_ints ((fld_at ev).trans h1) (Term.int_eval k)
  have : z = k := gotT q h
  subst this
  exact Fld.start h1
theorem own_fldR {s : State} {args : Array Value} {t u : Term} {a b : Addr} {C n d : String} (ev : t.eval args s none [] s = some (.ref a)) (ev2 : u.eval args s none [] s = some (.ref b)) (h : (Jvm.Cond.eq (.field t C n d) u).value args s none s [] = some true) : Fld s s.heap a C n d (.ref b) := by
  obtain ⟨x, y, h1, h2, h3, h4⟩ := cmp_v (Or.inl h)
  have h5 : y = .ref b := Option.some.inj (h2.symm.trans ev2)
  subst h5
  have hx : x.isRef = true := h4.2
  have q := eq_R h1 ev2 hx rfl
  have e : x = .ref b := gotT q h
  subst e
  rw [fld_at ev] at h1
  exact Fld.start h1
theorem own_elemR {s : State} {args : Array Value} {t u : Term} {a b : Addr} {k : Int32} {cl : Cell} (ev : t.eval args s none [] s = some (.ref a)) (ev2 : u.eval args s none [] s = some (.ref b)) (h : (Jvm.Cond.eq (.elem t (.int k)) u).value args s none s [] = some true) (hc : s.heap[a]? = some cl) : cl.slots[k.toNatClampNeg]? = some (.ref b) := by
  obtain ⟨x, y, h1, h2, h3, h4⟩ := cmp_v (Or.inl h)
  have h5 : y = .ref b := Option.some.inj (h2.symm.trans ev2)
  subst h5
  have hx : x.isRef = true := h4.2
  have q := eq_R h1 ev2 hx rfl
  have e : x = .ref b := gotT q h
  subst e
  exact (elem_in h1 ev (Term.int_eval k) hc).2
theorem own_len {s : State} {args : Array Value} {t : Term} {a : Addr} {k : Int32} {cl : Cell} (ev : t.eval args s none [] s = some (.ref a)) (h : (Jvm.Cond.eq (.length t) (.int k)).value args s none s [] = some true) (hc : s.arrayAt? a = some cl) : cl.slots.size < 2 ^ 31 ∧ cl.slots.size.toInt32 = k := by
  have e := Cond.eq_int (show (Jvm.Cond.eq (.length t) (.int k)).holds args s none s [] = true by simp only [Cond.holds, h]; rfl) (Term.int_eval k)
  by_cases q : cl.slots.size < 2 ^ 31
  · rw [len_f ev hc q] at e
    exact ⟨q, by injection e with e; injection e⟩
  · simp [Term.eval, ev, hc, q] at e
theorem d3_0 : decode prog_10_method_1_code 0 = .ok (.getstatic 13, 3) := by decide +kernel
theorem d3_3 : decode prog_10_method_1_code 3 = .ok (.invokevirtual 17, 3) := by decide +kernel
theorem d3_6 : decode prog_10_method_1_code 6 = .ok (.checkcast 18, 3) := by decide +kernel
theorem d3_9 : decode prog_10_method_1_code 9 = .ok (.areturn, 1) := by decide +kernel
theorem pn_0 : plainName "com/example/navigable_rest/navigablerest/Operation" = true := by first | (simp [plainName, overriddenIn]; done) | decide +kernel
theorem ef_3 (m : MethodId)  : entryFrame m #[] 0 = mkF m 0 #[] [] := by first | (simp [entryFrame, mkF, argsToLocals, Value.category]; done) | rfl
def Q3 (Z : State) (w__VALUES : Addr) (kV : ClassId) (w_CREATE : Addr) (w_UPDATE : Addr) (w_Operation_DELETE : Addr) (h0 : Heap) (n0 : Nat) (v : Option Value) (h : Heap) (L : List Loc) : Prop := ∃ (b2 : Addr), v = some (.ref b2) ∧ Fr n0 L ∧ Keep h0 h [] ∧ h0.size ≤ b2 ∧ Arv Z h b2 kV (.object "com/example/navigable_rest/navigablerest/Operation") (3 : Int32) [(.ref w_CREATE), (.ref w_UPDATE), (.ref w_Operation_DELETE)] .null ∧ Exa Z h b2 "[Lcom/example/navigable_rest/navigablerest/Operation;"
set_option maxRecDepth 65536 in
set_option maxHeartbeats 40000000 in
theorem rm3 (l : Launch) (Z : State) (a0 : Array Value) (hw : ∀ d ∈ tables_1, d.before a0 Z = true) (ws : List Jvm.Cond) (w__VALUES : Addr) (kV : ClassId) (w_CREATE : Addr) (w_UPDATE : Addr) (w_Operation_DELETE : Addr) (h0 : Heap) (n0 : Nat) (O0 : Old Z n0 h0) (VV : Arv Z h0 w__VALUES kV (.object "com/example/navigable_rest/navigablerest/Operation") (3 : Int32) [(.ref w_CREATE), (.ref w_UPDATE), (.ref w_Operation_DELETE)] .null) (EV : Exa Z h0 w__VALUES "[Lcom/example/navigable_rest/navigablerest/Operation;") (S__VALUES : Sta Z Z.heap "com/example/navigable_rest/navigablerest/Operation" "$VALUES" "[Lcom/example/navigable_rest/navigablerest/Operation;" (.ref w__VALUES)) :
    MetFree l (⟨"com/example/navigable_rest/navigablerest/Operation", "values", "()[Lcom/example/navigable_rest/navigablerest/Operation;"⟩ : MethodName) (head1 (Jvm.Cond.code (⟨"com/example/navigable_rest/navigablerest/Operation", "values", "()[Lcom/example/navigable_rest/navigablerest/Operation;"⟩ : MethodName) prog_10_method_1_code 0 (some (.array (.object "com/example/navigable_rest/navigablerest/Operation"))) :: ws) ({ frames := 1, cells := 1, slots := 3, locals := 14 } : Room)) (fun a U => a = #[] ∧ Z.Warmed39 U.vm ∧ U.heap = h0) (fun _ _ _ _ _ => True) (fun _ U o U' => ∃ v L, o = .returned v ∧ Q3 Z w__VALUES kV w_CREATE w_UPDATE w_Operation_DELETE h0 n0 v U'.heap L ∧ FrameEnd U o U' L ({ frames := 1, cells := 1, slots := 3, locals := 14 } : Room).cells ({ frames := 1, cells := 1, slots := 3, locals := 14 } : Room).slots) := by
  refine MetFree.of_bodySF (plainFor_of_name pn_0) hisR ?_
  intro p e s m args below meth c s₁ Bd hml0 hP hK
  obtain ⟨rfl, hZ, hh⟩ := hP
  have hx := Bd.exec
  have hby := Bd.bytes
  have hnl := BodyLoose.notSynchronized Bd
  have hml : c.maxLocals = 0 := hml0
  have hown : s.vm.findClass "com/example/navigable_rest/navigablerest/Operation" = some m.cls := findClass_of_methodNamed Bd.named
  have hnm := (name_of_methodNamed Bd.named Bd.method).1
  have X0 : Stand p l e ({ frames := 1, cells := 1, slots := 3, locals := 14 } : Room) s m #[] below meth c s₁ [] 0 0 := Stand.of_body Bd
  have e0 : s₁.heap = h0 := by rw [← hh, Bd.state]; rfl
  have N0 := Fr.nil n0
  show own_Ends p.tables e below s (Q3 Z w__VALUES kV w_CREATE w_UPDATE w_Operation_DELETE h0 n0) 1 3 (s₁.setTop (entryFrame m #[] 0))
  rw [ef_3 m ]
  show own_Ends p.tables e below s _ _ _ (s₁.setTop (mkF m 0 #[] []))
  obtain ⟨T1, X1, e1, st1⟩ := getS2 X0 hx hZ hown (host := "") (Or.inl (hw _ (List.mem_of_getElem? (i := 15) rfl))) Via.refl e0 (S__VALUES.ext O0.2) (g := (mkF m 0 #[] [])) rfl (hb hby d3_0)
  refine own_step (fun t k => st1 _ k) ?_
  show own_Ends p.tables e below s _ _ _ (T1.setTop (mkF m 3 #[] [(.ref w__VALUES)]))
  obtain ⟨T2, h2, X2, e2, E2, V2, A2, st2⟩ := cloneH X1 hx hZ hown (hw _ (List.mem_of_getElem? (i := 17) rfl)) (hw _ (List.mem_of_getElem? (i := 18) rfl)) (hw _ (List.mem_of_getElem? (i := 22) rfl)) (hw _ (List.mem_of_getElem? (i := 20) rfl)) (hw _ (List.mem_of_getElem? (i := 21) rfl)) (hw _ (List.mem_of_getElem? (i := 23) rfl)) e1 VV.arh EV (g := (mkF m 3 #[] [(.ref w__VALUES)])) rfl (by rw [hml]; rfl) rfl (hb hby d3_3) (by decide) (W := 0) (cap := 3) (by show 2 * 0 + _ ≤ _; exact Nat.le_of_eq rfl) (by decide) (by decide) (by decide) (by decide)
  obtain ⟨b2, g2⟩ : ∃ z, z = h0.size := ⟨_, rfl⟩
  rw [← g2] at A2 V2 st2
  have g_b2 : n0 ≤ b2 := Nat.le_trans (Nat.le_trans (Nat.le_of_eq O0.1.symm) O0.2.1) (Nat.le_of_eq g2.symm)
  have sz_b2 : h0.size ≤ b2 := Nat.le_trans (Keep.refl h0 []).1 (Nat.le_of_eq g2.symm)
  have V2v : Arv Z h2 b2 kV (.object "com/example/navigable_rest/navigablerest/Operation") (3 : Int32) [(.ref w_CREATE), (.ref w_UPDATE), (.ref w_Operation_DELETE)] .null := V2
  refine own_step (fun t k => st2 _ k) ?_
  have K3 : Keep h0 h2 [] := (Keep.refl h0 []).ext E2
  show own_Ends p.tables e below s _ _ _ (T2.setTop (mkF m 6 #[] [(.ref b2)]))
  obtain ⟨T4, X4, e4, st4⟩ := castY X2 hx hZ hown (hw _ (List.mem_of_getElem? (i := 28) rfl)) e2 (Ins.self A2) (g := (mkF m 6 #[] [(.ref b2)])) rfl rfl (hb hby d3_6)
  refine own_step (fun t k => st4 _ k) ?_
  show own_Ends p.tables e below s _ _ _ (T4.setTop (mkF m 9 #[] [(.ref b2)]))
  exact own_retR X4 hx Bd.returns rfl rfl rfl (hb hby d3_9) hnl (by rw [e4]; exact ⟨b2, rfl, N0, K3, sz_b2, V2v, A2⟩) (by decide) (by decide)
def own_r1 (x0_1 : Int32) (w_GET : Addr) (w_HEAD : Addr) (w_POST : Addr) (w_PATCH : Addr) (w_Method_DELETE : Addr) (w_OPTIONS : Addr) : Addr := (if x0_1 = (0 : Int32) then w_GET else (if x0_1 = (1 : Int32) then w_HEAD else (if x0_1 = (2 : Int32) then w_POST else (if x0_1 = (3 : Int32) then w_PATCH else (if x0_1 = (4 : Int32) then w_Method_DELETE else w_OPTIONS)))))
theorem d1_0 : decode method_2_code 0 = .ok (.iload_n 0, 1) := by decide +kernel
theorem d1_1 : decode method_2_code 1 = .ok (.ifCond .ne 7, 3) := by decide +kernel
theorem d1_4 : decode method_2_code 4 = .ok (.getstatic 7, 3) := by decide +kernel
theorem d1_7 : decode method_2_code 7 = .ok (.areturn, 1) := by decide +kernel
theorem d1_8 : decode method_2_code 8 = .ok (.iload_n 0, 1) := by decide +kernel
theorem d1_9 : decode method_2_code 9 = .ok (.iconst 1, 1) := by decide +kernel
theorem d1_10 : decode method_2_code 10 = .ok (.if_icmp .ne 7, 3) := by decide +kernel
theorem d1_13 : decode method_2_code 13 = .ok (.getstatic 13, 3) := by decide +kernel
theorem d1_16 : decode method_2_code 16 = .ok (.areturn, 1) := by decide +kernel
theorem d1_17 : decode method_2_code 17 = .ok (.iload_n 0, 1) := by decide +kernel
theorem d1_18 : decode method_2_code 18 = .ok (.iconst 2, 1) := by decide +kernel
theorem d1_19 : decode method_2_code 19 = .ok (.if_icmp .ne 7, 3) := by decide +kernel
theorem d1_22 : decode method_2_code 22 = .ok (.getstatic 16, 3) := by decide +kernel
theorem d1_25 : decode method_2_code 25 = .ok (.areturn, 1) := by decide +kernel
theorem d1_26 : decode method_2_code 26 = .ok (.iload_n 0, 1) := by decide +kernel
theorem d1_27 : decode method_2_code 27 = .ok (.iconst 3, 1) := by decide +kernel
theorem d1_28 : decode method_2_code 28 = .ok (.if_icmp .ne 7, 3) := by decide +kernel
theorem d1_31 : decode method_2_code 31 = .ok (.getstatic 19, 3) := by decide +kernel
theorem d1_34 : decode method_2_code 34 = .ok (.areturn, 1) := by decide +kernel
theorem d1_35 : decode method_2_code 35 = .ok (.iload_n 0, 1) := by decide +kernel
theorem d1_36 : decode method_2_code 36 = .ok (.iconst 4, 1) := by decide +kernel
theorem d1_37 : decode method_2_code 37 = .ok (.if_icmp .ne 7, 3) := by decide +kernel
theorem d1_40 : decode method_2_code 40 = .ok (.getstatic 22, 3) := by decide +kernel
theorem d1_43 : decode method_2_code 43 = .ok (.areturn, 1) := by decide +kernel
theorem d1_44 : decode method_2_code 44 = .ok (.getstatic 25, 3) := by decide +kernel
theorem d1_47 : decode method_2_code 47 = .ok (.areturn, 1) := by decide +kernel
theorem pn_1 : plainName "com/example/navigable_rest/navigablerest/OperationOfPinLaw" = true := by first | (simp [plainName, overriddenIn]; done) | decide +kernel
theorem ef_1 (m : MethodId) (x0_1 : Int32) : entryFrame m #[(.int x0_1)] 1 = mkF m 0 #[.val (.int x0_1)] [] := by first | (simp [entryFrame, mkF, argsToLocals, Value.category]; done) | rfl
def Q1 (Z : State) (x0_1 : Int32) (w_GET : Addr) (w_HEAD : Addr) (w_POST : Addr) (w_PATCH : Addr) (w_Method_DELETE : Addr) (w_OPTIONS : Addr) (h0 : Heap) (n0 : Nat) (v : Option Value) (h : Heap) (L : List Loc) : Prop := v = some (.ref (own_r1 x0_1 w_GET w_HEAD w_POST w_PATCH w_Method_DELETE w_OPTIONS)) ∧ Fr n0 L ∧ h = h0
set_option maxRecDepth 65536 in
set_option maxHeartbeats 40000000 in
theorem rm1 (l : Launch) (Z : State) (a0 : Array Value) (hw : ∀ d ∈ tables_1, d.before a0 Z = true) (ws : List Jvm.Cond) (x0_1 : Int32) (w_GET : Addr) (w_HEAD : Addr) (w_POST : Addr) (w_PATCH : Addr) (w_Method_DELETE : Addr) (w_OPTIONS : Addr) (h0 : Heap) (n0 : Nat) (O0 : Old Z n0 h0) (S_GET : Sta Z Z.heap "com/example/navigable_rest/navigablerest/Method" "GET" "Lcom/example/navigable_rest/navigablerest/Method;" (.ref w_GET)) (S_HEAD : Sta Z Z.heap "com/example/navigable_rest/navigablerest/Method" "HEAD" "Lcom/example/navigable_rest/navigablerest/Method;" (.ref w_HEAD)) (S_POST : Sta Z Z.heap "com/example/navigable_rest/navigablerest/Method" "POST" "Lcom/example/navigable_rest/navigablerest/Method;" (.ref w_POST)) (S_PATCH : Sta Z Z.heap "com/example/navigable_rest/navigablerest/Method" "PATCH" "Lcom/example/navigable_rest/navigablerest/Method;" (.ref w_PATCH)) (S_Method_DELETE : Sta Z Z.heap "com/example/navigable_rest/navigablerest/Method" "DELETE" "Lcom/example/navigable_rest/navigablerest/Method;" (.ref w_Method_DELETE)) (S_OPTIONS : Sta Z Z.heap "com/example/navigable_rest/navigablerest/Method" "OPTIONS" "Lcom/example/navigable_rest/navigablerest/Method;" (.ref w_OPTIONS)) :
    MetFree l (⟨"com/example/navigable_rest/navigablerest/OperationOfPinLaw", "pick", "(I)Lcom/example/navigable_rest/navigablerest/Method;"⟩ : MethodName) (head1 (Jvm.Cond.code (⟨"com/example/navigable_rest/navigablerest/OperationOfPinLaw", "pick", "(I)Lcom/example/navigable_rest/navigablerest/Method;"⟩ : MethodName) method_2_code 1 (some (.object "com/example/navigable_rest/navigablerest/Method")) :: ws) ({ frames := 0, cells := 0, slots := 0, locals := 0 } : Room)) (fun a U => a = #[(.int x0_1)] ∧ Z.Warmed39 U.vm ∧ U.heap = h0) (fun _ _ _ _ _ => True) (fun _ U o U' => ∃ v L, o = .returned v ∧ Q1 Z x0_1 w_GET w_HEAD w_POST w_PATCH w_Method_DELETE w_OPTIONS h0 n0 v U'.heap L ∧ FrameEnd U o U' L ({ frames := 0, cells := 0, slots := 0, locals := 0 } : Room).cells ({ frames := 0, cells := 0, slots := 0, locals := 0 } : Room).slots) := by
  refine MetFree.of_bodySF (plainFor_of_name pn_1) hisR ?_
  intro p e s m args below meth c s₁ Bd hml0 hP hK
  obtain ⟨rfl, hZ, hh⟩ := hP
  have hx := Bd.exec
  have hby := Bd.bytes
  have hnl := BodyLoose.notSynchronized Bd
  have hml : c.maxLocals = 1 := hml0
  have hown : s.vm.findClass "com/example/navigable_rest/navigablerest/OperationOfPinLaw" = some m.cls := findClass_of_methodNamed Bd.named
  have hnm := (name_of_methodNamed Bd.named Bd.method).1
  have X0 : Stand p l e ({ frames := 0, cells := 0, slots := 0, locals := 0 } : Room) s m #[(.int x0_1)] below meth c s₁ [] 0 0 := Stand.of_body Bd
  have e0 : s₁.heap = h0 := by rw [← hh, Bd.state]; rfl
  have N0 := Fr.nil n0
  show own_Ends p.tables e below s (Q1 Z x0_1 w_GET w_HEAD w_POST w_PATCH w_Method_DELETE w_OPTIONS h0 n0) 0 0 (s₁.setTop (entryFrame m #[(.int x0_1)] 1))
  rw [ef_1 m x0_1]
  show own_Ends p.tables e below s _ _ _ (s₁.setTop (mkF m 0 #[.val (.int x0_1)] []))
  refine own_step (fun t k => XS.iloadN X0.here hx rfl (hb hby d1_0) rfl k) ?_
  show own_Ends p.tables e below s _ _ _ (s₁.setTop (mkF m 1 #[.val (.int x0_1)] [(.int x0_1)]))
  by_cases hc1_1 : x0_1 = (0 : Int32)
  · skip
    refine own_step (fun t k => XS.ifNo X0.here hx rfl (hb hby d1_1) rfl ((if0 _ _).trans (teq hc1_1).2) k) ?_
    show own_Ends p.tables e below s _ _ _ (s₁.setTop (mkF m 4 #[.val (.int x0_1)] []))
    obtain ⟨T2, X2, e2, st2⟩ := getS2 X0 hx hZ hown (host := "") (Or.inl (hw _ (List.mem_of_getElem? (i := 5) rfl))) Via.refl e0 (S_GET.ext O0.2) (g := (mkF m 4 #[.val (.int x0_1)] [])) rfl (hb hby d1_4)
    refine own_step (fun t k => st2 _ k) ?_
    show own_Ends p.tables e below s _ _ _ (T2.setTop (mkF m 7 #[.val (.int x0_1)] [(.ref w_GET)]))
    exact own_retR X2 hx Bd.returns rfl rfl rfl (hb hby d1_7) hnl (by rw [e2]; exact ⟨(congrArg (fun z => some (Value.ref z)) (Eq.symm (show (own_r1 x0_1 w_GET w_HEAD w_POST w_PATCH w_Method_DELETE w_OPTIONS) = w_GET from by unfold own_r1; rw [if_pos hc1_1]))), N0, rfl⟩) (by decide) (by decide)
  · skip
    refine own_step (fun t k => XS.ifYes X0.here hx rfl (pc0 := 1) (pc' := 8) rfl (hb hby d1_1) rfl ((if0 _ _).trans (feq hc1_1).2) (by decide) (by decide) k) ?_
    show own_Ends p.tables e below s _ _ _ (s₁.setTop (mkF m 8 #[.val (.int x0_1)] []))
    refine own_step (fun t k => XS.iloadN X0.here hx rfl (hb hby d1_8) rfl k) ?_
    show own_Ends p.tables e below s _ _ _ (s₁.setTop (mkF m 9 #[.val (.int x0_1)] [(.int x0_1)]))
    refine own_step (fun t k => XS.iconst X0.here hx rfl (hb hby d1_9) k) ?_
    show own_Ends p.tables e below s _ _ _ (s₁.setTop (mkF m 10 #[.val (.int x0_1)] [(.int (1 : Int32)), (.int x0_1)]))
    by_cases hc10_3 : x0_1 = (1 : Int32)
    · skip
      refine own_step (fun t k => XS.icmpNo X0.here hx rfl (hb hby d1_10) rfl (teq hc10_3).2 k) ?_
      show own_Ends p.tables e below s _ _ _ (s₁.setTop (mkF m 13 #[.val (.int x0_1)] []))
      obtain ⟨T4, X4, e4, st4⟩ := getS2 X0 hx hZ hown (host := "") (Or.inl (hw _ (List.mem_of_getElem? (i := 42) rfl))) Via.refl e0 (S_HEAD.ext O0.2) (g := (mkF m 13 #[.val (.int x0_1)] [])) rfl (hb hby d1_13)
      refine own_step (fun t k => st4 _ k) ?_
      show own_Ends p.tables e below s _ _ _ (T4.setTop (mkF m 16 #[.val (.int x0_1)] [(.ref w_HEAD)]))
      exact own_retR X4 hx Bd.returns rfl rfl rfl (hb hby d1_16) hnl (by rw [e4]; exact ⟨(congrArg (fun z => some (Value.ref z)) (Eq.symm (show (own_r1 x0_1 w_GET w_HEAD w_POST w_PATCH w_Method_DELETE w_OPTIONS) = w_HEAD from by unfold own_r1; rw [if_neg hc1_1, if_pos hc10_3]))), N0, rfl⟩) (by decide) (by decide)
    · skip
      refine own_step (fun t k => XS.icmpYes X0.here hx rfl (pc0 := 10) (pc' := 17) rfl (hb hby d1_10) rfl (feq hc10_3).2 (by decide) (by decide) k) ?_
      show own_Ends p.tables e below s _ _ _ (s₁.setTop (mkF m 17 #[.val (.int x0_1)] []))
      refine own_step (fun t k => XS.iloadN X0.here hx rfl (hb hby d1_17) rfl k) ?_
      show own_Ends p.tables e below s _ _ _ (s₁.setTop (mkF m 18 #[.val (.int x0_1)] [(.int x0_1)]))
      refine own_step (fun t k => XS.iconst X0.here hx rfl (hb hby d1_18) k) ?_
      show own_Ends p.tables e below s _ _ _ (s₁.setTop (mkF m 19 #[.val (.int x0_1)] [(.int (2 : Int32)), (.int x0_1)]))
      by_cases hc19_5 : x0_1 = (2 : Int32)
      · skip
        refine own_step (fun t k => XS.icmpNo X0.here hx rfl (hb hby d1_19) rfl (teq hc19_5).2 k) ?_
        show own_Ends p.tables e below s _ _ _ (s₁.setTop (mkF m 22 #[.val (.int x0_1)] []))
        obtain ⟨T6, X6, e6, st6⟩ := getS2 X0 hx hZ hown (host := "") (Or.inl (hw _ (List.mem_of_getElem? (i := 40) rfl))) Via.refl e0 (S_POST.ext O0.2) (g := (mkF m 22 #[.val (.int x0_1)] [])) rfl (hb hby d1_22)
        refine own_step (fun t k => st6 _ k) ?_
        show own_Ends p.tables e below s _ _ _ (T6.setTop (mkF m 25 #[.val (.int x0_1)] [(.ref w_POST)]))
        exact own_retR X6 hx Bd.returns rfl rfl rfl (hb hby d1_25) hnl (by rw [e6]; exact ⟨(congrArg (fun z => some (Value.ref z)) (Eq.symm (show (own_r1 x0_1 w_GET w_HEAD w_POST w_PATCH w_Method_DELETE w_OPTIONS) = w_POST from by unfold own_r1; rw [if_neg hc1_1, if_neg hc10_3, if_pos hc19_5]))), N0, rfl⟩) (by decide) (by decide)
      · skip
        refine own_step (fun t k => XS.icmpYes X0.here hx rfl (pc0 := 19) (pc' := 26) rfl (hb hby d1_19) rfl (feq hc19_5).2 (by decide) (by decide) k) ?_
        show own_Ends p.tables e below s _ _ _ (s₁.setTop (mkF m 26 #[.val (.int x0_1)] []))
        refine own_step (fun t k => XS.iloadN X0.here hx rfl (hb hby d1_26) rfl k) ?_
        show own_Ends p.tables e below s _ _ _ (s₁.setTop (mkF m 27 #[.val (.int x0_1)] [(.int x0_1)]))
        refine own_step (fun t k => XS.iconst X0.here hx rfl (hb hby d1_27) k) ?_
        show own_Ends p.tables e below s _ _ _ (s₁.setTop (mkF m 28 #[.val (.int x0_1)] [(.int (3 : Int32)), (.int x0_1)]))
        by_cases hc28_7 : x0_1 = (3 : Int32)
        · skip
          refine own_step (fun t k => XS.icmpNo X0.here hx rfl (hb hby d1_28) rfl (teq hc28_7).2 k) ?_
          show own_Ends p.tables e below s _ _ _ (s₁.setTop (mkF m 31 #[.val (.int x0_1)] []))
          obtain ⟨T8, X8, e8, st8⟩ := getS2 X0 hx hZ hown (host := "") (Or.inl (hw _ (List.mem_of_getElem? (i := 38) rfl))) Via.refl e0 (S_PATCH.ext O0.2) (g := (mkF m 31 #[.val (.int x0_1)] [])) rfl (hb hby d1_31)
          refine own_step (fun t k => st8 _ k) ?_
          show own_Ends p.tables e below s _ _ _ (T8.setTop (mkF m 34 #[.val (.int x0_1)] [(.ref w_PATCH)]))
          exact own_retR X8 hx Bd.returns rfl rfl rfl (hb hby d1_34) hnl (by rw [e8]; exact ⟨(congrArg (fun z => some (Value.ref z)) (Eq.symm (show (own_r1 x0_1 w_GET w_HEAD w_POST w_PATCH w_Method_DELETE w_OPTIONS) = w_PATCH from by unfold own_r1; rw [if_neg hc1_1, if_neg hc10_3, if_neg hc19_5, if_pos hc28_7]))), N0, rfl⟩) (by decide) (by decide)
        · skip
          refine own_step (fun t k => XS.icmpYes X0.here hx rfl (pc0 := 28) (pc' := 35) rfl (hb hby d1_28) rfl (feq hc28_7).2 (by decide) (by decide) k) ?_
          show own_Ends p.tables e below s _ _ _ (s₁.setTop (mkF m 35 #[.val (.int x0_1)] []))
          refine own_step (fun t k => XS.iloadN X0.here hx rfl (hb hby d1_35) rfl k) ?_
          show own_Ends p.tables e below s _ _ _ (s₁.setTop (mkF m 36 #[.val (.int x0_1)] [(.int x0_1)]))
          refine own_step (fun t k => XS.iconst X0.here hx rfl (hb hby d1_36) k) ?_
          show own_Ends p.tables e below s _ _ _ (s₁.setTop (mkF m 37 #[.val (.int x0_1)] [(.int (4 : Int32)), (.int x0_1)]))
          by_cases hc37_9 : x0_1 = (4 : Int32)
          · skip
            refine own_step (fun t k => XS.icmpNo X0.here hx rfl (hb hby d1_37) rfl (teq hc37_9).2 k) ?_
            show own_Ends p.tables e below s _ _ _ (s₁.setTop (mkF m 40 #[.val (.int x0_1)] []))
            obtain ⟨T10, X10, e10, st10⟩ := getS2 X0 hx hZ hown (host := "") (Or.inl (hw _ (List.mem_of_getElem? (i := 46) rfl))) Via.refl e0 (S_Method_DELETE.ext O0.2) (g := (mkF m 40 #[.val (.int x0_1)] [])) rfl (hb hby d1_40)
            refine own_step (fun t k => st10 _ k) ?_
            show own_Ends p.tables e below s _ _ _ (T10.setTop (mkF m 43 #[.val (.int x0_1)] [(.ref w_Method_DELETE)]))
            exact own_retR X10 hx Bd.returns rfl rfl rfl (hb hby d1_43) hnl (by rw [e10]; exact ⟨(congrArg (fun z => some (Value.ref z)) (Eq.symm (show (own_r1 x0_1 w_GET w_HEAD w_POST w_PATCH w_Method_DELETE w_OPTIONS) = w_Method_DELETE from by unfold own_r1; rw [if_neg hc1_1, if_neg hc10_3, if_neg hc19_5, if_neg hc28_7, if_pos hc37_9]))), N0, rfl⟩) (by decide) (by decide)
          · skip
            refine own_step (fun t k => XS.icmpYes X0.here hx rfl (pc0 := 37) (pc' := 44) rfl (hb hby d1_37) rfl (feq hc37_9).2 (by decide) (by decide) k) ?_
            show own_Ends p.tables e below s _ _ _ (s₁.setTop (mkF m 44 #[.val (.int x0_1)] []))
            obtain ⟨T11, X11, e11, st11⟩ := getS2 X0 hx hZ hown (host := "") (Or.inl (hw _ (List.mem_of_getElem? (i := 44) rfl))) Via.refl e0 (S_OPTIONS.ext O0.2) (g := (mkF m 44 #[.val (.int x0_1)] [])) rfl (hb hby d1_44)
            refine own_step (fun t k => st11 _ k) ?_
            show own_Ends p.tables e below s _ _ _ (T11.setTop (mkF m 47 #[.val (.int x0_1)] [(.ref w_OPTIONS)]))
            exact own_retR X11 hx Bd.returns rfl rfl rfl (hb hby d1_47) hnl (by rw [e11]; exact ⟨(congrArg (fun z => some (Value.ref z)) (Eq.symm (show (own_r1 x0_1 w_GET w_HEAD w_POST w_PATCH w_Method_DELETE w_OPTIONS) = w_OPTIONS from by unfold own_r1; rw [if_neg hc1_1, if_neg hc10_3, if_neg hc19_5, if_neg hc28_7, if_neg hc37_9]))), N0, rfl⟩) (by decide) (by decide)
def own_r4 (x0_4 : Int32) (w_CREATE : Addr) (w_UPDATE : Addr) (w_Operation_DELETE : Addr) : Value := (if x0_4 = (2 : Int32) then (.ref w_CREATE) else (if x0_4 = (3 : Int32) then (.ref w_UPDATE) else (if x0_4 = (4 : Int32) then (.ref w_Operation_DELETE) else .null)))
theorem d4_0 : decode method_3_code 0 = .ok (.iload_n 0, 1) := by decide +kernel
theorem d4_1 : decode method_3_code 1 = .ok (.iconst 2, 1) := by decide +kernel
theorem d4_2 : decode method_3_code 2 = .ok (.if_icmp .ne 7, 3) := by decide +kernel
theorem d4_5 : decode method_3_code 5 = .ok (.getstatic 28, 3) := by decide +kernel
theorem d4_8 : decode method_3_code 8 = .ok (.areturn, 1) := by decide +kernel
theorem d4_9 : decode method_3_code 9 = .ok (.iload_n 0, 1) := by decide +kernel
theorem d4_10 : decode method_3_code 10 = .ok (.iconst 3, 1) := by decide +kernel
theorem d4_11 : decode method_3_code 11 = .ok (.if_icmp .ne 7, 3) := by decide +kernel
theorem d4_14 : decode method_3_code 14 = .ok (.getstatic 34, 3) := by decide +kernel
theorem d4_17 : decode method_3_code 17 = .ok (.areturn, 1) := by decide +kernel
theorem d4_18 : decode method_3_code 18 = .ok (.iload_n 0, 1) := by decide +kernel
theorem d4_19 : decode method_3_code 19 = .ok (.iconst 4, 1) := by decide +kernel
theorem d4_20 : decode method_3_code 20 = .ok (.if_icmp .ne 7, 3) := by decide +kernel
theorem d4_23 : decode method_3_code 23 = .ok (.getstatic 37, 3) := by decide +kernel
theorem d4_26 : decode method_3_code 26 = .ok (.areturn, 1) := by decide +kernel
theorem d4_27 : decode method_3_code 27 = .ok (.aconst_null, 1) := by decide +kernel
theorem d4_28 : decode method_3_code 28 = .ok (.areturn, 1) := by decide +kernel
theorem ef_4 (m : MethodId) (x0_4 : Int32) : entryFrame m #[(.int x0_4)] 1 = mkF m 0 #[.val (.int x0_4)] [] := by first | (simp [entryFrame, mkF, argsToLocals, Value.category]; done) | rfl
def Q4 (Z : State) (x0_4 : Int32) (w_CREATE : Addr) (w_UPDATE : Addr) (w_Operation_DELETE : Addr) (h0 : Heap) (n0 : Nat) (v : Option Value) (h : Heap) (L : List Loc) : Prop := v = some (own_r4 x0_4 w_CREATE w_UPDATE w_Operation_DELETE) ∧ Fr n0 L ∧ h = h0
set_option maxRecDepth 65536 in
set_option maxHeartbeats 40000000 in
theorem rm4 (l : Launch) (Z : State) (a0 : Array Value) (hw : ∀ d ∈ tables_1, d.before a0 Z = true) (ws : List Jvm.Cond) (x0_4 : Int32) (w_CREATE : Addr) (w_UPDATE : Addr) (w_Operation_DELETE : Addr) (h0 : Heap) (n0 : Nat) (O0 : Old Z n0 h0) (S_CREATE : Sta Z Z.heap "com/example/navigable_rest/navigablerest/Operation" "CREATE" "Lcom/example/navigable_rest/navigablerest/Operation;" (.ref w_CREATE)) (S_UPDATE : Sta Z Z.heap "com/example/navigable_rest/navigablerest/Operation" "UPDATE" "Lcom/example/navigable_rest/navigablerest/Operation;" (.ref w_UPDATE)) (S_Operation_DELETE : Sta Z Z.heap "com/example/navigable_rest/navigablerest/Operation" "DELETE" "Lcom/example/navigable_rest/navigablerest/Operation;" (.ref w_Operation_DELETE)) :
    MetFree l (⟨"com/example/navigable_rest/navigablerest/OperationOfPinLaw", "expected", "(I)Lcom/example/navigable_rest/navigablerest/Operation;"⟩ : MethodName) (head1 (Jvm.Cond.code (⟨"com/example/navigable_rest/navigablerest/OperationOfPinLaw", "expected", "(I)Lcom/example/navigable_rest/navigablerest/Operation;"⟩ : MethodName) method_3_code 1 (some (.object "com/example/navigable_rest/navigablerest/Operation")) :: ws) ({ frames := 0, cells := 0, slots := 0, locals := 0 } : Room)) (fun a U => a = #[(.int x0_4)] ∧ Z.Warmed39 U.vm ∧ U.heap = h0) (fun _ _ _ _ _ => True) (fun _ U o U' => ∃ v L, o = .returned v ∧ Q4 Z x0_4 w_CREATE w_UPDATE w_Operation_DELETE h0 n0 v U'.heap L ∧ FrameEnd U o U' L ({ frames := 0, cells := 0, slots := 0, locals := 0 } : Room).cells ({ frames := 0, cells := 0, slots := 0, locals := 0 } : Room).slots) := by
  refine MetFree.of_bodySF (plainFor_of_name pn_1) hisR ?_
  intro p e s m args below meth c s₁ Bd hml0 hP hK
  obtain ⟨rfl, hZ, hh⟩ := hP
  have hx := Bd.exec
  have hby := Bd.bytes
  have hnl := BodyLoose.notSynchronized Bd
  have hml : c.maxLocals = 1 := hml0
  have hown : s.vm.findClass "com/example/navigable_rest/navigablerest/OperationOfPinLaw" = some m.cls := findClass_of_methodNamed Bd.named
  have hnm := (name_of_methodNamed Bd.named Bd.method).1
  have X0 : Stand p l e ({ frames := 0, cells := 0, slots := 0, locals := 0 } : Room) s m #[(.int x0_4)] below meth c s₁ [] 0 0 := Stand.of_body Bd
  have e0 : s₁.heap = h0 := by rw [← hh, Bd.state]; rfl
  have N0 := Fr.nil n0
  show own_Ends p.tables e below s (Q4 Z x0_4 w_CREATE w_UPDATE w_Operation_DELETE h0 n0) 0 0 (s₁.setTop (entryFrame m #[(.int x0_4)] 1))
  rw [ef_4 m x0_4]
  show own_Ends p.tables e below s _ _ _ (s₁.setTop (mkF m 0 #[.val (.int x0_4)] []))
  refine own_step (fun t k => XS.iloadN X0.here hx rfl (hb hby d4_0) rfl k) ?_
  show own_Ends p.tables e below s _ _ _ (s₁.setTop (mkF m 1 #[.val (.int x0_4)] [(.int x0_4)]))
  refine own_step (fun t k => XS.iconst X0.here hx rfl (hb hby d4_1) k) ?_
  show own_Ends p.tables e below s _ _ _ (s₁.setTop (mkF m 2 #[.val (.int x0_4)] [(.int (2 : Int32)), (.int x0_4)]))
  by_cases hc2_1 : x0_4 = (2 : Int32)
  · skip
    refine own_step (fun t k => XS.icmpNo X0.here hx rfl (hb hby d4_2) rfl (teq hc2_1).2 k) ?_
    show own_Ends p.tables e below s _ _ _ (s₁.setTop (mkF m 5 #[.val (.int x0_4)] []))
    obtain ⟨T2, X2, e2, st2⟩ := getS2 X0 hx hZ hown (host := "") (Or.inl (hw _ (List.mem_of_getElem? (i := 41) rfl))) Via.refl e0 (S_CREATE.ext O0.2) (g := (mkF m 5 #[.val (.int x0_4)] [])) rfl (hb hby d4_5)
    refine own_step (fun t k => st2 _ k) ?_
    show own_Ends p.tables e below s _ _ _ (T2.setTop (mkF m 8 #[.val (.int x0_4)] [(.ref w_CREATE)]))
    exact own_retR X2 hx Bd.returns rfl rfl rfl (hb hby d4_8) hnl (by rw [e2]; exact ⟨(congrArg (fun z => some z) (Eq.symm (show (own_r4 x0_4 w_CREATE w_UPDATE w_Operation_DELETE) = (.ref w_CREATE) from by unfold own_r4; rw [if_pos hc2_1]))), N0, rfl⟩) (by decide) (by decide)
  · skip
    refine own_step (fun t k => XS.icmpYes X0.here hx rfl (pc0 := 2) (pc' := 9) rfl (hb hby d4_2) rfl (feq hc2_1).2 (by decide) (by decide) k) ?_
    show own_Ends p.tables e below s _ _ _ (s₁.setTop (mkF m 9 #[.val (.int x0_4)] []))
    refine own_step (fun t k => XS.iloadN X0.here hx rfl (hb hby d4_9) rfl k) ?_
    show own_Ends p.tables e below s _ _ _ (s₁.setTop (mkF m 10 #[.val (.int x0_4)] [(.int x0_4)]))
    refine own_step (fun t k => XS.iconst X0.here hx rfl (hb hby d4_10) k) ?_
    show own_Ends p.tables e below s _ _ _ (s₁.setTop (mkF m 11 #[.val (.int x0_4)] [(.int (3 : Int32)), (.int x0_4)]))
    by_cases hc11_3 : x0_4 = (3 : Int32)
    · skip
      refine own_step (fun t k => XS.icmpNo X0.here hx rfl (hb hby d4_11) rfl (teq hc11_3).2 k) ?_
      show own_Ends p.tables e below s _ _ _ (s₁.setTop (mkF m 14 #[.val (.int x0_4)] []))
      obtain ⟨T4, X4, e4, st4⟩ := getS2 X0 hx hZ hown (host := "") (Or.inl (hw _ (List.mem_of_getElem? (i := 39) rfl))) Via.refl e0 (S_UPDATE.ext O0.2) (g := (mkF m 14 #[.val (.int x0_4)] [])) rfl (hb hby d4_14)
      refine own_step (fun t k => st4 _ k) ?_
      show own_Ends p.tables e below s _ _ _ (T4.setTop (mkF m 17 #[.val (.int x0_4)] [(.ref w_UPDATE)]))
      exact own_retR X4 hx Bd.returns rfl rfl rfl (hb hby d4_17) hnl (by rw [e4]; exact ⟨(congrArg (fun z => some z) (Eq.symm (show (own_r4 x0_4 w_CREATE w_UPDATE w_Operation_DELETE) = (.ref w_UPDATE) from by unfold own_r4; rw [if_neg hc2_1, if_pos hc11_3]))), N0, rfl⟩) (by decide) (by decide)
    · skip
      refine own_step (fun t k => XS.icmpYes X0.here hx rfl (pc0 := 11) (pc' := 18) rfl (hb hby d4_11) rfl (feq hc11_3).2 (by decide) (by decide) k) ?_
      show own_Ends p.tables e below s _ _ _ (s₁.setTop (mkF m 18 #[.val (.int x0_4)] []))
      refine own_step (fun t k => XS.iloadN X0.here hx rfl (hb hby d4_18) rfl k) ?_
      show own_Ends p.tables e below s _ _ _ (s₁.setTop (mkF m 19 #[.val (.int x0_4)] [(.int x0_4)]))
      refine own_step (fun t k => XS.iconst X0.here hx rfl (hb hby d4_19) k) ?_
      show own_Ends p.tables e below s _ _ _ (s₁.setTop (mkF m 20 #[.val (.int x0_4)] [(.int (4 : Int32)), (.int x0_4)]))
      by_cases hc20_5 : x0_4 = (4 : Int32)
      · skip
        refine own_step (fun t k => XS.icmpNo X0.here hx rfl (hb hby d4_20) rfl (teq hc20_5).2 k) ?_
        show own_Ends p.tables e below s _ _ _ (s₁.setTop (mkF m 23 #[.val (.int x0_4)] []))
        obtain ⟨T6, X6, e6, st6⟩ := getS2 X0 hx hZ hown (host := "") (Or.inl (hw _ (List.mem_of_getElem? (i := 47) rfl))) Via.refl e0 (S_Operation_DELETE.ext O0.2) (g := (mkF m 23 #[.val (.int x0_4)] [])) rfl (hb hby d4_23)
        refine own_step (fun t k => st6 _ k) ?_
        show own_Ends p.tables e below s _ _ _ (T6.setTop (mkF m 26 #[.val (.int x0_4)] [(.ref w_Operation_DELETE)]))
        exact own_retR X6 hx Bd.returns rfl rfl rfl (hb hby d4_26) hnl (by rw [e6]; exact ⟨(congrArg (fun z => some z) (Eq.symm (show (own_r4 x0_4 w_CREATE w_UPDATE w_Operation_DELETE) = (.ref w_Operation_DELETE) from by unfold own_r4; rw [if_neg hc2_1, if_neg hc11_3, if_pos hc20_5]))), N0, rfl⟩) (by decide) (by decide)
      · skip
        refine own_step (fun t k => XS.icmpYes X0.here hx rfl (pc0 := 20) (pc' := 27) rfl (hb hby d4_20) rfl (feq hc20_5).2 (by decide) (by decide) k) ?_
        show own_Ends p.tables e below s _ _ _ (s₁.setTop (mkF m 27 #[.val (.int x0_4)] []))
        refine own_step (fun t k => XS.aconstNull X0.here hx rfl (hb hby d4_27) k) ?_
        show own_Ends p.tables e below s _ _ _ (s₁.setTop (mkF m 28 #[.val (.int x0_4)] [.null]))
        exact own_retR X0 hx Bd.returns rfl rfl rfl (hb hby d4_28) hnl (by rw [e0]; exact ⟨(congrArg (fun z => some z) (Eq.symm (show (own_r4 x0_4 w_CREATE w_UPDATE w_Operation_DELETE) = .null from by unfold own_r4; rw [if_neg hc2_1, if_neg hc11_3, if_neg hc20_5]))), N0, rfl⟩) (by decide) (by decide)
theorem pd_0 : parseMethodDescriptor "()[Lcom/example/navigable_rest/navigablerest/Operation;" = some ⟨[], some (.array (.object "com/example/navigable_rest/navigablerest/Operation"))⟩ := by decide +kernel
def own_r2 (w_CREATE : Addr) (w_UPDATE : Addr) (w_Operation_DELETE : Addr) (o0_2 : Addr) (w_method_w_CREATE : Addr) (w_method_w_UPDATE : Addr) (w_method_w_Operation_DELETE : Addr) : Value := (if w_method_w_CREATE = o0_2 then (.ref w_CREATE) else (if w_method_w_UPDATE = o0_2 then (.ref w_UPDATE) else (if w_method_w_Operation_DELETE = o0_2 then (.ref w_Operation_DELETE) else .null)))
theorem d2_0 : decode prog_10_method_4_code 0 = .ok (.aconst_null, 1) := by decide +kernel
theorem d2_1 : decode prog_10_method_4_code 1 = .ok (.astore_n 1, 1) := by decide +kernel
theorem d2_2 : decode prog_10_method_4_code 2 = .ok (.invokestatic 47, 3) := by decide +kernel
theorem d2_5 : decode prog_10_method_4_code 5 = .ok (.astore_n 2, 1) := by decide +kernel
theorem d2_6 : decode prog_10_method_4_code 6 = .ok (.aload_n 2, 1) := by decide +kernel
theorem d2_7 : decode prog_10_method_4_code 7 = .ok (.arraylength, 1) := by decide +kernel
theorem d2_8 : decode prog_10_method_4_code 8 = .ok (.istore_n 3, 1) := by decide +kernel
theorem d2_9 : decode prog_10_method_4_code 9 = .ok (.iconst 0, 1) := by decide +kernel
theorem d2_10 : decode prog_10_method_4_code 10 = .ok (.istore 4, 2) := by decide +kernel
theorem d2_12 : decode prog_10_method_4_code 12 = .ok (.iload 4, 2) := by decide +kernel
theorem d2_14 : decode prog_10_method_4_code 14 = .ok (.iload_n 3, 1) := by decide +kernel
theorem d2_15 : decode prog_10_method_4_code 15 = .ok (.if_icmp .ge 30, 3) := by decide +kernel
theorem d2_18 : decode prog_10_method_4_code 18 = .ok (.aload_n 2, 1) := by decide +kernel
theorem d2_19 : decode prog_10_method_4_code 19 = .ok (.iload 4, 2) := by decide +kernel
theorem d2_21 : decode prog_10_method_4_code 21 = .ok (.aaload, 1) := by decide +kernel
theorem d2_22 : decode prog_10_method_4_code 22 = .ok (.astore 5, 2) := by decide +kernel
theorem d2_24 : decode prog_10_method_4_code 24 = .ok (.aload 5, 2) := by decide +kernel
theorem d2_26 : decode prog_10_method_4_code 26 = .ok (.getfield 32, 3) := by decide +kernel
theorem d2_29 : decode prog_10_method_4_code 29 = .ok (.aload_n 0, 1) := by decide +kernel
theorem d2_30 : decode prog_10_method_4_code 30 = .ok (.if_acmp .ne 9, 3) := by decide +kernel
theorem d2_33 : decode prog_10_method_4_code 33 = .ok (.aload 5, 2) := by decide +kernel
theorem d2_35 : decode prog_10_method_4_code 35 = .ok (.astore_n 1, 1) := by decide +kernel
theorem d2_36 : decode prog_10_method_4_code 36 = .ok (.goto 9, 3) := by decide +kernel
theorem d2_39 : decode prog_10_method_4_code 39 = .ok (.iinc 4 1, 3) := by decide +kernel
theorem d2_42 : decode prog_10_method_4_code 42 = .ok (.goto (-30), 3) := by decide +kernel
theorem d2_45 : decode prog_10_method_4_code 45 = .ok (.aload_n 1, 1) := by decide +kernel
theorem d2_46 : decode prog_10_method_4_code 46 = .ok (.areturn, 1) := by decide +kernel
theorem ef_2 (m : MethodId) (o0_2 : Addr) : entryFrame m #[(.ref o0_2)] 6 = mkF m 0 #[.val (.ref o0_2), .unset, .unset, .unset, .unset, .unset] [] := by first | (simp [entryFrame, mkF, argsToLocals, Value.category]; done) | rfl
def Q2 (Z : State) (w__VALUES : Addr) (kV : ClassId) (w_CREATE : Addr) (w_UPDATE : Addr) (w_Operation_DELETE : Addr) (o0_2 : Addr) (w_method_w_CREATE : Addr) (w_method_w_UPDATE : Addr) (w_method_w_Operation_DELETE : Addr) (h0 : Heap) (n0 : Nat) (v : Option Value) (h : Heap) (L : List Loc) : Prop := v = some (own_r2 w_CREATE w_UPDATE w_Operation_DELETE o0_2 w_method_w_CREATE w_method_w_UPDATE w_method_w_Operation_DELETE) ∧ Fr n0 L ∧ Keep h0 h []
set_option maxRecDepth 65536 in
set_option maxHeartbeats 40000000 in
theorem rm2 (l : Launch) (Z : State) (a0 : Array Value) (hw : ∀ d ∈ tables_1, d.before a0 Z = true) (ws : List Jvm.Cond) (w__VALUES : Addr) (kV : ClassId) (w_CREATE : Addr) (w_UPDATE : Addr) (w_Operation_DELETE : Addr) (o0_2 : Addr) (w_method_w_CREATE : Addr) (w_method_w_UPDATE : Addr) (w_method_w_Operation_DELETE : Addr) (h0 : Heap) (n0 : Nat) (O0 : Old Z n0 h0) (VV : Arv Z h0 w__VALUES kV (.object "com/example/navigable_rest/navigablerest/Operation") (3 : Int32) [(.ref w_CREATE), (.ref w_UPDATE), (.ref w_Operation_DELETE)] .null) (EV : Exa Z h0 w__VALUES "[Lcom/example/navigable_rest/navigablerest/Operation;") (S__VALUES : Sta Z Z.heap "com/example/navigable_rest/navigablerest/Operation" "$VALUES" "[Lcom/example/navigable_rest/navigablerest/Operation;" (.ref w__VALUES)) (F_method_w_CREATE : Fld Z h0 w_CREATE "com/example/navigable_rest/navigablerest/Operation" "method" "Lcom/example/navigable_rest/navigablerest/Method;" (.ref w_method_w_CREATE)) (F_method_w_UPDATE : Fld Z h0 w_UPDATE "com/example/navigable_rest/navigablerest/Operation" "method" "Lcom/example/navigable_rest/navigablerest/Method;" (.ref w_method_w_UPDATE)) (F_method_w_Operation_DELETE : Fld Z h0 w_Operation_DELETE "com/example/navigable_rest/navigablerest/Operation" "method" "Lcom/example/navigable_rest/navigablerest/Method;" (.ref w_method_w_Operation_DELETE)) :
    MetFree l (⟨"com/example/navigable_rest/navigablerest/Operation", "of", "(Lcom/example/navigable_rest/navigablerest/Method;)Lcom/example/navigable_rest/navigablerest/Operation;"⟩ : MethodName) (head1 (Jvm.Cond.code (⟨"com/example/navigable_rest/navigablerest/Operation", "of", "(Lcom/example/navigable_rest/navigablerest/Method;)Lcom/example/navigable_rest/navigablerest/Operation;"⟩ : MethodName) prog_10_method_4_code 6 (some (.object "com/example/navigable_rest/navigablerest/Operation")) :: ws) ({ frames := 2, cells := 1, slots := 3, locals := 25 } : Room)) (fun a U => a = #[(.ref o0_2)] ∧ Z.Warmed39 U.vm ∧ U.heap = h0) (fun _ _ _ _ _ => True) (fun _ U o U' => ∃ v L, o = .returned v ∧ Q2 Z w__VALUES kV w_CREATE w_UPDATE w_Operation_DELETE o0_2 w_method_w_CREATE w_method_w_UPDATE w_method_w_Operation_DELETE h0 n0 v U'.heap L ∧ FrameEnd U o U' L ({ frames := 2, cells := 1, slots := 3, locals := 25 } : Room).cells ({ frames := 2, cells := 1, slots := 3, locals := 25 } : Room).slots) := by
  refine MetFree.of_bodySF (plainFor_of_name pn_0) hisR ?_
  intro p e s m args below meth c s₁ Bd hml0 hP hK
  obtain ⟨rfl, hZ, hh⟩ := hP
  have hx := Bd.exec
  have hby := Bd.bytes
  have hnl := BodyLoose.notSynchronized Bd
  have hml : c.maxLocals = 6 := hml0
  have hown : s.vm.findClass "com/example/navigable_rest/navigablerest/Operation" = some m.cls := findClass_of_methodNamed Bd.named
  have hnm := (name_of_methodNamed Bd.named Bd.method).1
  have X0 : Stand p l e ({ frames := 2, cells := 1, slots := 3, locals := 25 } : Room) s m #[(.ref o0_2)] below meth c s₁ [] 0 0 := Stand.of_body Bd
  have e0 : s₁.heap = h0 := by rw [← hh, Bd.state]; rfl
  have N0 := Fr.nil n0
  show own_Ends p.tables e below s (Q2 Z w__VALUES kV w_CREATE w_UPDATE w_Operation_DELETE o0_2 w_method_w_CREATE w_method_w_UPDATE w_method_w_Operation_DELETE h0 n0) 1 3 (s₁.setTop (entryFrame m #[(.ref o0_2)] 6))
  rw [ef_2 m o0_2]
  show own_Ends p.tables e below s _ _ _ (s₁.setTop (mkF m 0 #[.val (.ref o0_2), .unset, .unset, .unset, .unset, .unset] []))
  refine own_step (fun t k => XS.aconstNull X0.here hx rfl (hb hby d2_0) k) ?_
  show own_Ends p.tables e below s _ _ _ (s₁.setTop (mkF m 1 #[.val (.ref o0_2), .unset, .unset, .unset, .unset, .unset] [.null]))
  refine own_step (fun t k => XS.astoreN X0.here hx rfl (hb hby d2_1) rfl rfl (l' := #[.val (.ref o0_2), .val .null, .unset, .unset, .unset, .unset]) rfl k) ?_
  show own_Ends p.tables e below s _ _ _ (s₁.setTop (mkF m 2 #[.val (.ref o0_2), .val .null, .unset, .unset, .unset, .unset] []))
  obtain ⟨_, _, ⟨T1, L1, k1, n1⟩, -, X1, ⟨Lc1, hQ1, l1, y1, z1⟩, st1⟩ := Jvm.LawKit.callS X0 hx (y := (⟨"com/example/navigable_rest/navigablerest/Operation", "values", "()[Lcom/example/navigable_rest/navigablerest/Operation;"⟩ : MethodName)) hown (mvT hZ (hw _ (List.mem_of_getElem? (i := 12) rfl))) (mvT hZ (hw _ (List.mem_of_getElem? (i := 13) rfl))) (mvT hZ (hw _ (List.mem_of_getElem? (i := 10) rfl))) (mvT hZ (hw _ (List.mem_of_getElem? (i := 14) rfl))) (by decide) (backOf (W := 0) (rm3 l Z a0 hw [] w__VALUES kV w_CREATE w_UPDATE w_Operation_DELETE h0 n0 O0 VV EV S__VALUES) hZ (hw _ (List.mem_of_getElem? (i := 14) rfl)) (hw _ (List.mem_of_getElem? (i := 10) rfl)) (by decide) (by decide)) (g := (mkF m 2 #[.val (.ref o0_2), .val .null, .unset, .unset, .unset, .unset] [])) rfl (by rw [hml]; rfl) (argsL := []) (rest := []) (lenOf pd_0 rfl) rfl (by show 2 * 0 + _ ≤ _; exact Nat.le_of_eq rfl) (hb hby d2_2) (fun _ _ => ⟨rfl, e0, (by decide : 0 + 1 ≤ _), (by decide : 0 + 3 ≤ _)⟩)
  dsimp only [Pt.U, Pt.locs, Pt.cells, Pt.slots] at X1 l1 y1 z1 st1 hQ1
  subst y1 z1
  obtain ⟨b2_1, rfl, N1q, K1q, p1_0, p1_1, p1_2⟩ := hQ1
  refine own_step (fun t k => st1 _ k) ?_
  have N2 : Fr n0 L1 := by rw [l1]; exact Fr.app N0 N1q
  have sz_b2_1 : h0.size ≤ b2_1 := Nat.le_trans (Keep.refl h0 []).1 p1_0
  have g_b2_1 : n0 ≤ b2_1 := Nat.le_trans (Nat.le_trans (Nat.le_of_eq O0.1.symm) O0.2.1) p1_0
  have K3 : Keep h0 T1.heap [] := (Keep.refl h0 []).trans K1q all0
  show own_Ends p.tables e below s _ _ _ (T1.setTop (mkF m 5 #[.val (.ref o0_2), .val .null, .unset, .unset, .unset, .unset] [(.ref b2_1)]))
  refine own_step (fun t k => XS.astoreN X1.here hx rfl (hb hby d2_5) rfl rfl (l' := #[.val (.ref o0_2), .val .null, .val (.ref b2_1), .unset, .unset, .unset]) rfl k) ?_
  show own_Ends p.tables e below s _ _ _ (T1.setTop (mkF m 6 #[.val (.ref o0_2), .val .null, .val (.ref b2_1), .unset, .unset, .unset] []))
  refine own_step (fun t k => XS.aloadN X1.here hx rfl (hb hby d2_6) rfl rfl k) ?_
  show own_Ends p.tables e below s _ _ _ (T1.setTop (mkF m 7 #[.val (.ref o0_2), .val .null, .val (.ref b2_1), .unset, .unset, .unset] [(.ref b2_1)]))
  obtain ⟨cl4, Ar4, q4, S4, N4, H4, G4⟩ := id p1_1
  have hl4 := len_of S4 N4
  refine own_step (fun t k => X1.arraylength hx Ar4.1 (State.isArrayOf_alike hZ.alike Ar4.2.1) (g := (mkF m 7 #[.val (.ref o0_2), .val .null, .val (.ref b2_1), .unset, .unset, .unset] [(.ref b2_1)])) rfl rfl (hb hby d2_7) _ (hl4.symm ▸ k)) ?_
  show own_Ends p.tables e below s _ _ _ (T1.setTop (mkF m 8 #[.val (.ref o0_2), .val .null, .val (.ref b2_1), .unset, .unset, .unset] [(.int (3 : Int32))]))
  refine own_step (fun t k => XS.istoreN X1.here hx rfl (hb hby d2_8) rfl (l' := #[.val (.ref o0_2), .val .null, .val (.ref b2_1), .val (.int (3 : Int32)), .unset, .unset]) rfl k) ?_
  show own_Ends p.tables e below s _ _ _ (T1.setTop (mkF m 9 #[.val (.ref o0_2), .val .null, .val (.ref b2_1), .val (.int (3 : Int32)), .unset, .unset] []))
  refine own_step (fun t k => XS.iconst X1.here hx rfl (hb hby d2_9) k) ?_
  show own_Ends p.tables e below s _ _ _ (T1.setTop (mkF m 10 #[.val (.ref o0_2), .val .null, .val (.ref b2_1), .val (.int (3 : Int32)), .unset, .unset] [(.int (0 : Int32))]))
  refine own_step (fun t k => XS.istore X1.here hx rfl (hb hby d2_10) rfl (l' := #[.val (.ref o0_2), .val .null, .val (.ref b2_1), .val (.int (3 : Int32)), .val (.int (0 : Int32)), .unset]) rfl k) ?_
  show own_Ends p.tables e below s _ _ _ (T1.setTop (mkF m 12 #[.val (.ref o0_2), .val .null, .val (.ref b2_1), .val (.int (3 : Int32)), .val (.int (0 : Int32)), .unset] []))
  refine own_step (fun t k => XS.iload X1.here hx rfl (hb hby d2_12) rfl k) ?_
  show own_Ends p.tables e below s _ _ _ (T1.setTop (mkF m 14 #[.val (.ref o0_2), .val .null, .val (.ref b2_1), .val (.int (3 : Int32)), .val (.int (0 : Int32)), .unset] [(.int (0 : Int32))]))
  refine own_step (fun t k => XS.iloadN X1.here hx rfl (hb hby d2_14) rfl k) ?_
  show own_Ends p.tables e below s _ _ _ (T1.setTop (mkF m 15 #[.val (.ref o0_2), .val .null, .val (.ref b2_1), .val (.int (3 : Int32)), .val (.int (0 : Int32)), .unset] [(.int (3 : Int32)), (.int (0 : Int32))]))
  refine own_step (fun t k => XS.icmpNo X1.here hx rfl (hb hby d2_15) rfl (tlt (by decide : (0 : Int32) < (3 : Int32))).2.1 k) ?_
  show own_Ends p.tables e below s _ _ _ (T1.setTop (mkF m 18 #[.val (.ref o0_2), .val .null, .val (.ref b2_1), .val (.int (3 : Int32)), .val (.int (0 : Int32)), .unset] []))
  refine own_step (fun t k => XS.aloadN X1.here hx rfl (hb hby d2_18) rfl rfl k) ?_
  show own_Ends p.tables e below s _ _ _ (T1.setTop (mkF m 19 #[.val (.ref o0_2), .val .null, .val (.ref b2_1), .val (.int (3 : Int32)), .val (.int (0 : Int32)), .unset] [(.ref b2_1)]))
  refine own_step (fun t k => XS.iload X1.here hx rfl (hb hby d2_19) rfl k) ?_
  show own_Ends p.tables e below s _ _ _ (T1.setTop (mkF m 21 #[.val (.ref o0_2), .val .null, .val (.ref b2_1), .val (.int (3 : Int32)), .val (.int (0 : Int32)), .unset] [(.int (0 : Int32)), (.ref b2_1)]))
  obtain ⟨cl5, Ar5, q5, S5, N5, H5, G5⟩ := id p1_1
  have hin5 : ¬ ((0 : Int32) < 0 ∨ cl5.slots.size ≤ ((0 : Int32)).toNatClampNeg) := inb_of S5 ⟨by decide, by decide⟩
  have hat5 : cl5.slots[((0 : Int32)).toNatClampNeg]? = some (.ref w_CREATE) := H5.at hin5 rfl
  refine own_step (fun t k => X1.aaload hx (j := (0 : Int32)) (v := (.ref w_CREATE)) Ar5.1 (State.isArrayOf_alike hZ.alike Ar5.2.1) rfl Ar5.2.2 hin5 hat5 (g := (mkF m 21 #[.val (.ref o0_2), .val .null, .val (.ref b2_1), .val (.int (3 : Int32)), .val (.int (0 : Int32)), .unset] [(.int (0 : Int32)), (.ref b2_1)])) rfl rfl (hb hby d2_21) _ k) ?_
  show own_Ends p.tables e below s _ _ _ (T1.setTop (mkF m 22 #[.val (.ref o0_2), .val .null, .val (.ref b2_1), .val (.int (3 : Int32)), .val (.int (0 : Int32)), .unset] [(.ref w_CREATE)]))
  refine own_step (fun t k => XS.astore X1.here hx rfl (hb hby d2_22) rfl rfl (l' := #[.val (.ref o0_2), .val .null, .val (.ref b2_1), .val (.int (3 : Int32)), .val (.int (0 : Int32)), .val (.ref w_CREATE)]) rfl k) ?_
  show own_Ends p.tables e below s _ _ _ (T1.setTop (mkF m 24 #[.val (.ref o0_2), .val .null, .val (.ref b2_1), .val (.int (3 : Int32)), .val (.int (0 : Int32)), .val (.ref w_CREATE)] []))
  refine own_step (fun t k => XS.aload X1.here hx rfl (hb hby d2_24) rfl rfl k) ?_
  show own_Ends p.tables e below s _ _ _ (T1.setTop (mkF m 26 #[.val (.ref o0_2), .val .null, .val (.ref b2_1), .val (.int (3 : Int32)), .val (.int (0 : Int32)), .val (.ref w_CREATE)] [(.ref w_CREATE)]))
  have F6 : Fld Z T1.heap w_CREATE "com/example/navigable_rest/navigablerest/Operation" "method" "Lcom/example/navigable_rest/navigablerest/Method;" (.ref w_method_w_CREATE) := (F_method_w_CREATE.keep K1q nin0)
  obtain ⟨T7, X7, e7, st7⟩ := getF X1 hx hZ hown (host := "") (Or.inl (hw _ (List.mem_of_getElem? (i := 30) rfl))) Via.refl rfl F6 (g := (mkF m 26 #[.val (.ref o0_2), .val .null, .val (.ref b2_1), .val (.int (3 : Int32)), .val (.int (0 : Int32)), .val (.ref w_CREATE)] [(.ref w_CREATE)])) rfl rfl (hb hby d2_26)
  refine own_step (fun t k => st7 _ k) ?_
  show own_Ends p.tables e below s _ _ _ (T7.setTop (mkF m 29 #[.val (.ref o0_2), .val .null, .val (.ref b2_1), .val (.int (3 : Int32)), .val (.int (0 : Int32)), .val (.ref w_CREATE)] [(.ref w_method_w_CREATE)]))
  refine own_step (fun t k => XS.aloadN X7.here hx rfl (hb hby d2_29) rfl rfl k) ?_
  show own_Ends p.tables e below s _ _ _ (T7.setTop (mkF m 30 #[.val (.ref o0_2), .val .null, .val (.ref b2_1), .val (.int (3 : Int32)), .val (.int (0 : Int32)), .val (.ref w_CREATE)] [(.ref o0_2), (.ref w_method_w_CREATE)]))
  by_cases ha30_8 : w_method_w_CREATE = o0_2
  · skip
    refine own_step (fun t k => Jvm.RoadKit.acmp (g := (mkF m 30 #[.val (.ref o0_2), .val .null, .val (.ref b2_1), .val (.int (3 : Int32)), .val (.int (0 : Int32)), .val (.ref w_CREATE)] [(.ref o0_2), (.ref w_method_w_CREATE)])) X7 hx rfl rfl rfl (pc0 := 30) (pc' := 33) (same := true) rfl (hb hby d2_30) rfl (decide_eq_true (congrArg Value.ref ha30_8)) (by decide) (by decide) k) ?_
    show own_Ends p.tables e below s _ _ _ (T7.setTop (mkF m 33 #[.val (.ref o0_2), .val .null, .val (.ref b2_1), .val (.int (3 : Int32)), .val (.int (0 : Int32)), .val (.ref w_CREATE)] []))
    refine own_step (fun t k => XS.aload X7.here hx rfl (hb hby d2_33) rfl rfl k) ?_
    show own_Ends p.tables e below s _ _ _ (T7.setTop (mkF m 35 #[.val (.ref o0_2), .val .null, .val (.ref b2_1), .val (.int (3 : Int32)), .val (.int (0 : Int32)), .val (.ref w_CREATE)] [(.ref w_CREATE)]))
    refine own_step (fun t k => XS.astoreN X7.here hx rfl (hb hby d2_35) rfl rfl (l' := #[.val (.ref o0_2), .val (.ref w_CREATE), .val (.ref b2_1), .val (.int (3 : Int32)), .val (.int (0 : Int32)), .val (.ref w_CREATE)]) rfl k) ?_
    show own_Ends p.tables e below s _ _ _ (T7.setTop (mkF m 36 #[.val (.ref o0_2), .val (.ref w_CREATE), .val (.ref b2_1), .val (.int (3 : Int32)), .val (.int (0 : Int32)), .val (.ref w_CREATE)] []))
    refine own_step (fun t k => XS.goto X7.here hx rfl (pc0 := 36) (pc' := 45) rfl (hb hby d2_36) (by decide) (by decide) k) ?_
    show own_Ends p.tables e below s _ _ _ (T7.setTop (mkF m 45 #[.val (.ref o0_2), .val (.ref w_CREATE), .val (.ref b2_1), .val (.int (3 : Int32)), .val (.int (0 : Int32)), .val (.ref w_CREATE)] []))
    refine own_step (fun t k => XS.aloadN X7.here hx rfl (hb hby d2_45) rfl rfl k) ?_
    show own_Ends p.tables e below s _ _ _ (T7.setTop (mkF m 46 #[.val (.ref o0_2), .val (.ref w_CREATE), .val (.ref b2_1), .val (.int (3 : Int32)), .val (.int (0 : Int32)), .val (.ref w_CREATE)] [(.ref w_CREATE)]))
    exact own_retR X7 hx Bd.returns rfl rfl rfl (hb hby d2_46) hnl (by rw [e7]; exact ⟨(congrArg (fun z => some z) (Eq.symm (show (own_r2 w_CREATE w_UPDATE w_Operation_DELETE o0_2 w_method_w_CREATE w_method_w_UPDATE w_method_w_Operation_DELETE) = (.ref w_CREATE) from by unfold own_r2; rw [if_pos ha30_8]))), N2, K3⟩) (by decide) (by decide)
  · skip
    refine own_step (fun t k => Jvm.RoadKit.acmp (g := (mkF m 30 #[.val (.ref o0_2), .val .null, .val (.ref b2_1), .val (.int (3 : Int32)), .val (.int (0 : Int32)), .val (.ref w_CREATE)] [(.ref o0_2), (.ref w_method_w_CREATE)])) X7 hx rfl rfl rfl (pc0 := 30) (pc' := 39) (same := false) rfl (hb hby d2_30) rfl (decide_eq_false fun q => ha30_8 (Value.ref.inj q)) (by decide) (by decide) k) ?_
    show own_Ends p.tables e below s _ _ _ (T7.setTop (mkF m 39 #[.val (.ref o0_2), .val .null, .val (.ref b2_1), .val (.int (3 : Int32)), .val (.int (0 : Int32)), .val (.ref w_CREATE)] []))
    refine own_step (fun t k => XS.iinc X7.here hx rfl (hb hby d2_39) rfl (l' := #[.val (.ref o0_2), .val .null, .val (.ref b2_1), .val (.int (3 : Int32)), .val (.int (1 : Int32)), .val (.ref w_CREATE)]) rfl k) ?_
    show own_Ends p.tables e below s _ _ _ (T7.setTop (mkF m 42 #[.val (.ref o0_2), .val .null, .val (.ref b2_1), .val (.int (3 : Int32)), .val (.int (1 : Int32)), .val (.ref w_CREATE)] []))
    refine own_step (fun t k => XS.goto X7.here hx rfl (pc0 := 42) (pc' := 12) rfl (hb hby d2_42) (by decide) (by decide) k) ?_
    show own_Ends p.tables e below s _ _ _ (T7.setTop (mkF m 12 #[.val (.ref o0_2), .val .null, .val (.ref b2_1), .val (.int (3 : Int32)), .val (.int (1 : Int32)), .val (.ref w_CREATE)] []))
    refine own_step (fun t k => XS.iload X7.here hx rfl (hb hby d2_12) rfl k) ?_
    show own_Ends p.tables e below s _ _ _ (T7.setTop (mkF m 14 #[.val (.ref o0_2), .val .null, .val (.ref b2_1), .val (.int (3 : Int32)), .val (.int (1 : Int32)), .val (.ref w_CREATE)] [(.int (1 : Int32))]))
    refine own_step (fun t k => XS.iloadN X7.here hx rfl (hb hby d2_14) rfl k) ?_
    show own_Ends p.tables e below s _ _ _ (T7.setTop (mkF m 15 #[.val (.ref o0_2), .val .null, .val (.ref b2_1), .val (.int (3 : Int32)), .val (.int (1 : Int32)), .val (.ref w_CREATE)] [(.int (3 : Int32)), (.int (1 : Int32))]))
    refine own_step (fun t k => XS.icmpNo X7.here hx rfl (hb hby d2_15) rfl (tlt (by decide : (1 : Int32) < (3 : Int32))).2.1 k) ?_
    show own_Ends p.tables e below s _ _ _ (T7.setTop (mkF m 18 #[.val (.ref o0_2), .val .null, .val (.ref b2_1), .val (.int (3 : Int32)), .val (.int (1 : Int32)), .val (.ref w_CREATE)] []))
    refine own_step (fun t k => XS.aloadN X7.here hx rfl (hb hby d2_18) rfl rfl k) ?_
    show own_Ends p.tables e below s _ _ _ (T7.setTop (mkF m 19 #[.val (.ref o0_2), .val .null, .val (.ref b2_1), .val (.int (3 : Int32)), .val (.int (1 : Int32)), .val (.ref w_CREATE)] [(.ref b2_1)]))
    refine own_step (fun t k => XS.iload X7.here hx rfl (hb hby d2_19) rfl k) ?_
    show own_Ends p.tables e below s _ _ _ (T7.setTop (mkF m 21 #[.val (.ref o0_2), .val .null, .val (.ref b2_1), .val (.int (3 : Int32)), .val (.int (1 : Int32)), .val (.ref w_CREATE)] [(.int (1 : Int32)), (.ref b2_1)]))
    obtain ⟨cl9, Ar9, q9, S9, N9, H9, G9⟩ := id p1_1
    have hin9 : ¬ ((1 : Int32) < 0 ∨ cl9.slots.size ≤ ((1 : Int32)).toNatClampNeg) := inb_of S9 ⟨by decide, by decide⟩
    have hat9 : cl9.slots[((1 : Int32)).toNatClampNeg]? = some (.ref w_UPDATE) := H9.at hin9 rfl
    refine own_step (fun t k => X7.aaload hx (j := (1 : Int32)) (v := (.ref w_UPDATE)) (by rw [e7]; exact Ar9.1) (State.isArrayOf_alike hZ.alike Ar9.2.1) rfl Ar9.2.2 hin9 hat9 (g := (mkF m 21 #[.val (.ref o0_2), .val .null, .val (.ref b2_1), .val (.int (3 : Int32)), .val (.int (1 : Int32)), .val (.ref w_CREATE)] [(.int (1 : Int32)), (.ref b2_1)])) rfl rfl (hb hby d2_21) _ k) ?_
    show own_Ends p.tables e below s _ _ _ (T7.setTop (mkF m 22 #[.val (.ref o0_2), .val .null, .val (.ref b2_1), .val (.int (3 : Int32)), .val (.int (1 : Int32)), .val (.ref w_CREATE)] [(.ref w_UPDATE)]))
    refine own_step (fun t k => XS.astore X7.here hx rfl (hb hby d2_22) rfl rfl (l' := #[.val (.ref o0_2), .val .null, .val (.ref b2_1), .val (.int (3 : Int32)), .val (.int (1 : Int32)), .val (.ref w_UPDATE)]) rfl k) ?_
    show own_Ends p.tables e below s _ _ _ (T7.setTop (mkF m 24 #[.val (.ref o0_2), .val .null, .val (.ref b2_1), .val (.int (3 : Int32)), .val (.int (1 : Int32)), .val (.ref w_UPDATE)] []))
    refine own_step (fun t k => XS.aload X7.here hx rfl (hb hby d2_24) rfl rfl k) ?_
    show own_Ends p.tables e below s _ _ _ (T7.setTop (mkF m 26 #[.val (.ref o0_2), .val .null, .val (.ref b2_1), .val (.int (3 : Int32)), .val (.int (1 : Int32)), .val (.ref w_UPDATE)] [(.ref w_UPDATE)]))
    have F10 : Fld Z T1.heap w_UPDATE "com/example/navigable_rest/navigablerest/Operation" "method" "Lcom/example/navigable_rest/navigablerest/Method;" (.ref w_method_w_UPDATE) := (F_method_w_UPDATE.keep K1q nin0)
    obtain ⟨T11, X11, e11, st11⟩ := getF X7 hx hZ hown (host := "") (Or.inl (hw _ (List.mem_of_getElem? (i := 30) rfl))) Via.refl e7 F10 (g := (mkF m 26 #[.val (.ref o0_2), .val .null, .val (.ref b2_1), .val (.int (3 : Int32)), .val (.int (1 : Int32)), .val (.ref w_UPDATE)] [(.ref w_UPDATE)])) rfl rfl (hb hby d2_26)
    refine own_step (fun t k => st11 _ k) ?_
    show own_Ends p.tables e below s _ _ _ (T11.setTop (mkF m 29 #[.val (.ref o0_2), .val .null, .val (.ref b2_1), .val (.int (3 : Int32)), .val (.int (1 : Int32)), .val (.ref w_UPDATE)] [(.ref w_method_w_UPDATE)]))
    refine own_step (fun t k => XS.aloadN X11.here hx rfl (hb hby d2_29) rfl rfl k) ?_
    show own_Ends p.tables e below s _ _ _ (T11.setTop (mkF m 30 #[.val (.ref o0_2), .val .null, .val (.ref b2_1), .val (.int (3 : Int32)), .val (.int (1 : Int32)), .val (.ref w_UPDATE)] [(.ref o0_2), (.ref w_method_w_UPDATE)]))
    by_cases ha30_12 : w_method_w_UPDATE = o0_2
    · skip
      refine own_step (fun t k => Jvm.RoadKit.acmp (g := (mkF m 30 #[.val (.ref o0_2), .val .null, .val (.ref b2_1), .val (.int (3 : Int32)), .val (.int (1 : Int32)), .val (.ref w_UPDATE)] [(.ref o0_2), (.ref w_method_w_UPDATE)])) X11 hx rfl rfl rfl (pc0 := 30) (pc' := 33) (same := true) rfl (hb hby d2_30) rfl (decide_eq_true (congrArg Value.ref ha30_12)) (by decide) (by decide) k) ?_
      show own_Ends p.tables e below s _ _ _ (T11.setTop (mkF m 33 #[.val (.ref o0_2), .val .null, .val (.ref b2_1), .val (.int (3 : Int32)), .val (.int (1 : Int32)), .val (.ref w_UPDATE)] []))
      refine own_step (fun t k => XS.aload X11.here hx rfl (hb hby d2_33) rfl rfl k) ?_
      show own_Ends p.tables e below s _ _ _ (T11.setTop (mkF m 35 #[.val (.ref o0_2), .val .null, .val (.ref b2_1), .val (.int (3 : Int32)), .val (.int (1 : Int32)), .val (.ref w_UPDATE)] [(.ref w_UPDATE)]))
      refine own_step (fun t k => XS.astoreN X11.here hx rfl (hb hby d2_35) rfl rfl (l' := #[.val (.ref o0_2), .val (.ref w_UPDATE), .val (.ref b2_1), .val (.int (3 : Int32)), .val (.int (1 : Int32)), .val (.ref w_UPDATE)]) rfl k) ?_
      show own_Ends p.tables e below s _ _ _ (T11.setTop (mkF m 36 #[.val (.ref o0_2), .val (.ref w_UPDATE), .val (.ref b2_1), .val (.int (3 : Int32)), .val (.int (1 : Int32)), .val (.ref w_UPDATE)] []))
      refine own_step (fun t k => XS.goto X11.here hx rfl (pc0 := 36) (pc' := 45) rfl (hb hby d2_36) (by decide) (by decide) k) ?_
      show own_Ends p.tables e below s _ _ _ (T11.setTop (mkF m 45 #[.val (.ref o0_2), .val (.ref w_UPDATE), .val (.ref b2_1), .val (.int (3 : Int32)), .val (.int (1 : Int32)), .val (.ref w_UPDATE)] []))
      refine own_step (fun t k => XS.aloadN X11.here hx rfl (hb hby d2_45) rfl rfl k) ?_
      show own_Ends p.tables e below s _ _ _ (T11.setTop (mkF m 46 #[.val (.ref o0_2), .val (.ref w_UPDATE), .val (.ref b2_1), .val (.int (3 : Int32)), .val (.int (1 : Int32)), .val (.ref w_UPDATE)] [(.ref w_UPDATE)]))
      exact own_retR X11 hx Bd.returns rfl rfl rfl (hb hby d2_46) hnl (by rw [e11]; exact ⟨(congrArg (fun z => some z) (Eq.symm (show (own_r2 w_CREATE w_UPDATE w_Operation_DELETE o0_2 w_method_w_CREATE w_method_w_UPDATE w_method_w_Operation_DELETE) = (.ref w_UPDATE) from by unfold own_r2; rw [if_neg ha30_8, if_pos ha30_12]))), N2, K3⟩) (by decide) (by decide)
    · skip
      refine own_step (fun t k => Jvm.RoadKit.acmp (g := (mkF m 30 #[.val (.ref o0_2), .val .null, .val (.ref b2_1), .val (.int (3 : Int32)), .val (.int (1 : Int32)), .val (.ref w_UPDATE)] [(.ref o0_2), (.ref w_method_w_UPDATE)])) X11 hx rfl rfl rfl (pc0 := 30) (pc' := 39) (same := false) rfl (hb hby d2_30) rfl (decide_eq_false fun q => ha30_12 (Value.ref.inj q)) (by decide) (by decide) k) ?_
      show own_Ends p.tables e below s _ _ _ (T11.setTop (mkF m 39 #[.val (.ref o0_2), .val .null, .val (.ref b2_1), .val (.int (3 : Int32)), .val (.int (1 : Int32)), .val (.ref w_UPDATE)] []))
      refine own_step (fun t k => XS.iinc X11.here hx rfl (hb hby d2_39) rfl (l' := #[.val (.ref o0_2), .val .null, .val (.ref b2_1), .val (.int (3 : Int32)), .val (.int (2 : Int32)), .val (.ref w_UPDATE)]) rfl k) ?_
      show own_Ends p.tables e below s _ _ _ (T11.setTop (mkF m 42 #[.val (.ref o0_2), .val .null, .val (.ref b2_1), .val (.int (3 : Int32)), .val (.int (2 : Int32)), .val (.ref w_UPDATE)] []))
      refine own_step (fun t k => XS.goto X11.here hx rfl (pc0 := 42) (pc' := 12) rfl (hb hby d2_42) (by decide) (by decide) k) ?_
      show own_Ends p.tables e below s _ _ _ (T11.setTop (mkF m 12 #[.val (.ref o0_2), .val .null, .val (.ref b2_1), .val (.int (3 : Int32)), .val (.int (2 : Int32)), .val (.ref w_UPDATE)] []))
      refine own_step (fun t k => XS.iload X11.here hx rfl (hb hby d2_12) rfl k) ?_
      show own_Ends p.tables e below s _ _ _ (T11.setTop (mkF m 14 #[.val (.ref o0_2), .val .null, .val (.ref b2_1), .val (.int (3 : Int32)), .val (.int (2 : Int32)), .val (.ref w_UPDATE)] [(.int (2 : Int32))]))
      refine own_step (fun t k => XS.iloadN X11.here hx rfl (hb hby d2_14) rfl k) ?_
      show own_Ends p.tables e below s _ _ _ (T11.setTop (mkF m 15 #[.val (.ref o0_2), .val .null, .val (.ref b2_1), .val (.int (3 : Int32)), .val (.int (2 : Int32)), .val (.ref w_UPDATE)] [(.int (3 : Int32)), (.int (2 : Int32))]))
      refine own_step (fun t k => XS.icmpNo X11.here hx rfl (hb hby d2_15) rfl (tlt (by decide : (2 : Int32) < (3 : Int32))).2.1 k) ?_
      show own_Ends p.tables e below s _ _ _ (T11.setTop (mkF m 18 #[.val (.ref o0_2), .val .null, .val (.ref b2_1), .val (.int (3 : Int32)), .val (.int (2 : Int32)), .val (.ref w_UPDATE)] []))
      refine own_step (fun t k => XS.aloadN X11.here hx rfl (hb hby d2_18) rfl rfl k) ?_
      show own_Ends p.tables e below s _ _ _ (T11.setTop (mkF m 19 #[.val (.ref o0_2), .val .null, .val (.ref b2_1), .val (.int (3 : Int32)), .val (.int (2 : Int32)), .val (.ref w_UPDATE)] [(.ref b2_1)]))
      refine own_step (fun t k => XS.iload X11.here hx rfl (hb hby d2_19) rfl k) ?_
      show own_Ends p.tables e below s _ _ _ (T11.setTop (mkF m 21 #[.val (.ref o0_2), .val .null, .val (.ref b2_1), .val (.int (3 : Int32)), .val (.int (2 : Int32)), .val (.ref w_UPDATE)] [(.int (2 : Int32)), (.ref b2_1)]))
      obtain ⟨cl13, Ar13, q13, S13, N13, H13, G13⟩ := id p1_1
      have hin13 : ¬ ((2 : Int32) < 0 ∨ cl13.slots.size ≤ ((2 : Int32)).toNatClampNeg) := inb_of S13 ⟨by decide, by decide⟩
      have hat13 : cl13.slots[((2 : Int32)).toNatClampNeg]? = some (.ref w_Operation_DELETE) := H13.at hin13 rfl
      refine own_step (fun t k => X11.aaload hx (j := (2 : Int32)) (v := (.ref w_Operation_DELETE)) (by rw [e11]; exact Ar13.1) (State.isArrayOf_alike hZ.alike Ar13.2.1) rfl Ar13.2.2 hin13 hat13 (g := (mkF m 21 #[.val (.ref o0_2), .val .null, .val (.ref b2_1), .val (.int (3 : Int32)), .val (.int (2 : Int32)), .val (.ref w_UPDATE)] [(.int (2 : Int32)), (.ref b2_1)])) rfl rfl (hb hby d2_21) _ k) ?_
      show own_Ends p.tables e below s _ _ _ (T11.setTop (mkF m 22 #[.val (.ref o0_2), .val .null, .val (.ref b2_1), .val (.int (3 : Int32)), .val (.int (2 : Int32)), .val (.ref w_UPDATE)] [(.ref w_Operation_DELETE)]))
      refine own_step (fun t k => XS.astore X11.here hx rfl (hb hby d2_22) rfl rfl (l' := #[.val (.ref o0_2), .val .null, .val (.ref b2_1), .val (.int (3 : Int32)), .val (.int (2 : Int32)), .val (.ref w_Operation_DELETE)]) rfl k) ?_
      show own_Ends p.tables e below s _ _ _ (T11.setTop (mkF m 24 #[.val (.ref o0_2), .val .null, .val (.ref b2_1), .val (.int (3 : Int32)), .val (.int (2 : Int32)), .val (.ref w_Operation_DELETE)] []))
      refine own_step (fun t k => XS.aload X11.here hx rfl (hb hby d2_24) rfl rfl k) ?_
      show own_Ends p.tables e below s _ _ _ (T11.setTop (mkF m 26 #[.val (.ref o0_2), .val .null, .val (.ref b2_1), .val (.int (3 : Int32)), .val (.int (2 : Int32)), .val (.ref w_Operation_DELETE)] [(.ref w_Operation_DELETE)]))
      have F14 : Fld Z T1.heap w_Operation_DELETE "com/example/navigable_rest/navigablerest/Operation" "method" "Lcom/example/navigable_rest/navigablerest/Method;" (.ref w_method_w_Operation_DELETE) := (F_method_w_Operation_DELETE.keep K1q nin0)
      obtain ⟨T15, X15, e15, st15⟩ := getF X11 hx hZ hown (host := "") (Or.inl (hw _ (List.mem_of_getElem? (i := 30) rfl))) Via.refl e11 F14 (g := (mkF m 26 #[.val (.ref o0_2), .val .null, .val (.ref b2_1), .val (.int (3 : Int32)), .val (.int (2 : Int32)), .val (.ref w_Operation_DELETE)] [(.ref w_Operation_DELETE)])) rfl rfl (hb hby d2_26)
      refine own_step (fun t k => st15 _ k) ?_
      show own_Ends p.tables e below s _ _ _ (T15.setTop (mkF m 29 #[.val (.ref o0_2), .val .null, .val (.ref b2_1), .val (.int (3 : Int32)), .val (.int (2 : Int32)), .val (.ref w_Operation_DELETE)] [(.ref w_method_w_Operation_DELETE)]))
      refine own_step (fun t k => XS.aloadN X15.here hx rfl (hb hby d2_29) rfl rfl k) ?_
      show own_Ends p.tables e below s _ _ _ (T15.setTop (mkF m 30 #[.val (.ref o0_2), .val .null, .val (.ref b2_1), .val (.int (3 : Int32)), .val (.int (2 : Int32)), .val (.ref w_Operation_DELETE)] [(.ref o0_2), (.ref w_method_w_Operation_DELETE)]))
      by_cases ha30_16 : w_method_w_Operation_DELETE = o0_2
      · skip
        refine own_step (fun t k => Jvm.RoadKit.acmp (g := (mkF m 30 #[.val (.ref o0_2), .val .null, .val (.ref b2_1), .val (.int (3 : Int32)), .val (.int (2 : Int32)), .val (.ref w_Operation_DELETE)] [(.ref o0_2), (.ref w_method_w_Operation_DELETE)])) X15 hx rfl rfl rfl (pc0 := 30) (pc' := 33) (same := true) rfl (hb hby d2_30) rfl (decide_eq_true (congrArg Value.ref ha30_16)) (by decide) (by decide) k) ?_
        show own_Ends p.tables e below s _ _ _ (T15.setTop (mkF m 33 #[.val (.ref o0_2), .val .null, .val (.ref b2_1), .val (.int (3 : Int32)), .val (.int (2 : Int32)), .val (.ref w_Operation_DELETE)] []))
        refine own_step (fun t k => XS.aload X15.here hx rfl (hb hby d2_33) rfl rfl k) ?_
        show own_Ends p.tables e below s _ _ _ (T15.setTop (mkF m 35 #[.val (.ref o0_2), .val .null, .val (.ref b2_1), .val (.int (3 : Int32)), .val (.int (2 : Int32)), .val (.ref w_Operation_DELETE)] [(.ref w_Operation_DELETE)]))
        refine own_step (fun t k => XS.astoreN X15.here hx rfl (hb hby d2_35) rfl rfl (l' := #[.val (.ref o0_2), .val (.ref w_Operation_DELETE), .val (.ref b2_1), .val (.int (3 : Int32)), .val (.int (2 : Int32)), .val (.ref w_Operation_DELETE)]) rfl k) ?_
        show own_Ends p.tables e below s _ _ _ (T15.setTop (mkF m 36 #[.val (.ref o0_2), .val (.ref w_Operation_DELETE), .val (.ref b2_1), .val (.int (3 : Int32)), .val (.int (2 : Int32)), .val (.ref w_Operation_DELETE)] []))
        refine own_step (fun t k => XS.goto X15.here hx rfl (pc0 := 36) (pc' := 45) rfl (hb hby d2_36) (by decide) (by decide) k) ?_
        show own_Ends p.tables e below s _ _ _ (T15.setTop (mkF m 45 #[.val (.ref o0_2), .val (.ref w_Operation_DELETE), .val (.ref b2_1), .val (.int (3 : Int32)), .val (.int (2 : Int32)), .val (.ref w_Operation_DELETE)] []))
        refine own_step (fun t k => XS.aloadN X15.here hx rfl (hb hby d2_45) rfl rfl k) ?_
        show own_Ends p.tables e below s _ _ _ (T15.setTop (mkF m 46 #[.val (.ref o0_2), .val (.ref w_Operation_DELETE), .val (.ref b2_1), .val (.int (3 : Int32)), .val (.int (2 : Int32)), .val (.ref w_Operation_DELETE)] [(.ref w_Operation_DELETE)]))
        exact own_retR X15 hx Bd.returns rfl rfl rfl (hb hby d2_46) hnl (by rw [e15]; exact ⟨(congrArg (fun z => some z) (Eq.symm (show (own_r2 w_CREATE w_UPDATE w_Operation_DELETE o0_2 w_method_w_CREATE w_method_w_UPDATE w_method_w_Operation_DELETE) = (.ref w_Operation_DELETE) from by unfold own_r2; rw [if_neg ha30_8, if_neg ha30_12, if_pos ha30_16]))), N2, K3⟩) (by decide) (by decide)
      · skip
        refine own_step (fun t k => Jvm.RoadKit.acmp (g := (mkF m 30 #[.val (.ref o0_2), .val .null, .val (.ref b2_1), .val (.int (3 : Int32)), .val (.int (2 : Int32)), .val (.ref w_Operation_DELETE)] [(.ref o0_2), (.ref w_method_w_Operation_DELETE)])) X15 hx rfl rfl rfl (pc0 := 30) (pc' := 39) (same := false) rfl (hb hby d2_30) rfl (decide_eq_false fun q => ha30_16 (Value.ref.inj q)) (by decide) (by decide) k) ?_
        show own_Ends p.tables e below s _ _ _ (T15.setTop (mkF m 39 #[.val (.ref o0_2), .val .null, .val (.ref b2_1), .val (.int (3 : Int32)), .val (.int (2 : Int32)), .val (.ref w_Operation_DELETE)] []))
        refine own_step (fun t k => XS.iinc X15.here hx rfl (hb hby d2_39) rfl (l' := #[.val (.ref o0_2), .val .null, .val (.ref b2_1), .val (.int (3 : Int32)), .val (.int (3 : Int32)), .val (.ref w_Operation_DELETE)]) rfl k) ?_
        show own_Ends p.tables e below s _ _ _ (T15.setTop (mkF m 42 #[.val (.ref o0_2), .val .null, .val (.ref b2_1), .val (.int (3 : Int32)), .val (.int (3 : Int32)), .val (.ref w_Operation_DELETE)] []))
        refine own_step (fun t k => XS.goto X15.here hx rfl (pc0 := 42) (pc' := 12) rfl (hb hby d2_42) (by decide) (by decide) k) ?_
        show own_Ends p.tables e below s _ _ _ (T15.setTop (mkF m 12 #[.val (.ref o0_2), .val .null, .val (.ref b2_1), .val (.int (3 : Int32)), .val (.int (3 : Int32)), .val (.ref w_Operation_DELETE)] []))
        refine own_step (fun t k => XS.iload X15.here hx rfl (hb hby d2_12) rfl k) ?_
        show own_Ends p.tables e below s _ _ _ (T15.setTop (mkF m 14 #[.val (.ref o0_2), .val .null, .val (.ref b2_1), .val (.int (3 : Int32)), .val (.int (3 : Int32)), .val (.ref w_Operation_DELETE)] [(.int (3 : Int32))]))
        refine own_step (fun t k => XS.iloadN X15.here hx rfl (hb hby d2_14) rfl k) ?_
        show own_Ends p.tables e below s _ _ _ (T15.setTop (mkF m 15 #[.val (.ref o0_2), .val .null, .val (.ref b2_1), .val (.int (3 : Int32)), .val (.int (3 : Int32)), .val (.ref w_Operation_DELETE)] [(.int (3 : Int32)), (.int (3 : Int32))]))
        refine own_step (fun t k => XS.icmpYes X15.here hx rfl (pc0 := 15) (pc' := 45) rfl (hb hby d2_15) rfl (flt (by decide : ¬ ((3 : Int32) < (3 : Int32)))).2.1 (by decide) (by decide) k) ?_
        show own_Ends p.tables e below s _ _ _ (T15.setTop (mkF m 45 #[.val (.ref o0_2), .val .null, .val (.ref b2_1), .val (.int (3 : Int32)), .val (.int (3 : Int32)), .val (.ref w_Operation_DELETE)] []))
        refine own_step (fun t k => XS.aloadN X15.here hx rfl (hb hby d2_45) rfl rfl k) ?_
        show own_Ends p.tables e below s _ _ _ (T15.setTop (mkF m 46 #[.val (.ref o0_2), .val .null, .val (.ref b2_1), .val (.int (3 : Int32)), .val (.int (3 : Int32)), .val (.ref w_Operation_DELETE)] [.null]))
        exact own_retR X15 hx Bd.returns rfl rfl rfl (hb hby d2_46) hnl (by rw [e15]; exact ⟨(congrArg (fun z => some z) (Eq.symm (show (own_r2 w_CREATE w_UPDATE w_Operation_DELETE o0_2 w_method_w_CREATE w_method_w_UPDATE w_method_w_Operation_DELETE) = .null from by unfold own_r2; rw [if_neg ha30_8, if_neg ha30_12, if_neg ha30_16]))), N2, K3⟩) (by decide) (by decide)
theorem pd_1 : parseMethodDescriptor "(I)Lcom/example/navigable_rest/navigablerest/Method;" = some ⟨[.int], some (.object "com/example/navigable_rest/navigablerest/Method")⟩ := by decide +kernel
theorem pd_2 : parseMethodDescriptor "(Lcom/example/navigable_rest/navigablerest/Method;)Lcom/example/navigable_rest/navigablerest/Operation;" = some ⟨[(.object "com/example/navigable_rest/navigablerest/Method")], some (.object "com/example/navigable_rest/navigablerest/Operation")⟩ := by decide +kernel
theorem pd_3 : parseMethodDescriptor "(I)Lcom/example/navigable_rest/navigablerest/Operation;" = some ⟨[.int], some (.object "com/example/navigable_rest/navigablerest/Operation")⟩ := by decide +kernel
theorem ef_0 (m : MethodId) (x0_0 : Int32) : entryFrame m #[(.int x0_0)] maxLocals = mkF m 0 #[.val (.int x0_0), .unset, .unset, .unset] [] := by first | (simp [entryFrame, mkF, argsToLocals, Value.category, maxLocals]; done) | rfl
def Q0 (Z : State) (w__VALUES : Addr) (kV : ClassId) (w_CREATE : Addr) (w_UPDATE : Addr) (w_Operation_DELETE : Addr) (w_GET : Addr) (w_HEAD : Addr) (w_POST : Addr) (w_PATCH : Addr) (w_Method_DELETE : Addr) (w_OPTIONS : Addr) (x0_0 : Int32) (h0 : Heap) (n0 : Nat) (v : Option Value) (h : Heap) (L : List Loc) : Prop := v = some (.int 1) ∧ Fr n0 L
set_option maxRecDepth 65536 in
set_option maxHeartbeats 40000000 in
theorem rm0 (l : Launch) (Z : State) (a0 : Array Value) (hw : ∀ d ∈ tables_1, d.before a0 Z = true) (ws : List Jvm.Cond) (w__VALUES : Addr) (kV : ClassId) (w_CREATE : Addr) (w_UPDATE : Addr) (w_Operation_DELETE : Addr) (w_GET : Addr) (w_HEAD : Addr) (w_POST : Addr) (w_PATCH : Addr) (w_Method_DELETE : Addr) (w_OPTIONS : Addr) (x0_0 : Int32) (h0 : Heap) (n0 : Nat) (O0 : Old Z n0 h0) (VV : Arv Z h0 w__VALUES kV (.object "com/example/navigable_rest/navigablerest/Operation") (3 : Int32) [(.ref w_CREATE), (.ref w_UPDATE), (.ref w_Operation_DELETE)] .null) (EV : Exa Z h0 w__VALUES "[Lcom/example/navigable_rest/navigablerest/Operation;") (ne_w_GET_w_POST : w_GET ≠ w_POST) (ne_w_GET_w_PATCH : w_GET ≠ w_PATCH) (ne_w_GET_w_Method_DELETE : w_GET ≠ w_Method_DELETE) (ne_w_HEAD_w_POST : w_HEAD ≠ w_POST) (ne_w_HEAD_w_PATCH : w_HEAD ≠ w_PATCH) (ne_w_HEAD_w_Method_DELETE : w_HEAD ≠ w_Method_DELETE) (ne_w_POST_w_PATCH : w_POST ≠ w_PATCH) (ne_w_POST_w_Method_DELETE : w_POST ≠ w_Method_DELETE) (ne_w_PATCH_w_Method_DELETE : w_PATCH ≠ w_Method_DELETE) (ne_w_OPTIONS_w_POST : w_OPTIONS ≠ w_POST) (ne_w_OPTIONS_w_PATCH : w_OPTIONS ≠ w_PATCH) (ne_w_OPTIONS_w_Method_DELETE : w_OPTIONS ≠ w_Method_DELETE) (S_GET : Sta Z Z.heap "com/example/navigable_rest/navigablerest/Method" "GET" "Lcom/example/navigable_rest/navigablerest/Method;" (.ref w_GET)) (S_HEAD : Sta Z Z.heap "com/example/navigable_rest/navigablerest/Method" "HEAD" "Lcom/example/navigable_rest/navigablerest/Method;" (.ref w_HEAD)) (S_POST : Sta Z Z.heap "com/example/navigable_rest/navigablerest/Method" "POST" "Lcom/example/navigable_rest/navigablerest/Method;" (.ref w_POST)) (S_PATCH : Sta Z Z.heap "com/example/navigable_rest/navigablerest/Method" "PATCH" "Lcom/example/navigable_rest/navigablerest/Method;" (.ref w_PATCH)) (S_Method_DELETE : Sta Z Z.heap "com/example/navigable_rest/navigablerest/Method" "DELETE" "Lcom/example/navigable_rest/navigablerest/Method;" (.ref w_Method_DELETE)) (S_OPTIONS : Sta Z Z.heap "com/example/navigable_rest/navigablerest/Method" "OPTIONS" "Lcom/example/navigable_rest/navigablerest/Method;" (.ref w_OPTIONS)) (S__VALUES : Sta Z Z.heap "com/example/navigable_rest/navigablerest/Operation" "$VALUES" "[Lcom/example/navigable_rest/navigablerest/Operation;" (.ref w__VALUES)) (F_method_w_CREATE : Fld Z h0 w_CREATE "com/example/navigable_rest/navigablerest/Operation" "method" "Lcom/example/navigable_rest/navigablerest/Method;" (.ref w_POST)) (F_method_w_UPDATE : Fld Z h0 w_UPDATE "com/example/navigable_rest/navigablerest/Operation" "method" "Lcom/example/navigable_rest/navigablerest/Method;" (.ref w_PATCH)) (F_method_w_Operation_DELETE : Fld Z h0 w_Operation_DELETE "com/example/navigable_rest/navigablerest/Operation" "method" "Lcom/example/navigable_rest/navigablerest/Method;" (.ref w_Method_DELETE)) (S_CREATE : Sta Z Z.heap "com/example/navigable_rest/navigablerest/Operation" "CREATE" "Lcom/example/navigable_rest/navigablerest/Operation;" (.ref w_CREATE)) (S_UPDATE : Sta Z Z.heap "com/example/navigable_rest/navigablerest/Operation" "UPDATE" "Lcom/example/navigable_rest/navigablerest/Operation;" (.ref w_UPDATE)) (S_Operation_DELETE : Sta Z Z.heap "com/example/navigable_rest/navigablerest/Operation" "DELETE" "Lcom/example/navigable_rest/navigablerest/Operation;" (.ref w_Operation_DELETE)) :
    MetFree l x (head1 (Jvm.Cond.code x code maxLocals ret :: ws) room_1) (fun a U => a = #[(.int x0_0)] ∧ Z.Warmed39 U.vm ∧ U.heap = h0) (fun _ _ _ _ _ => True) (fun _ U o U' => ∃ v L, o = .returned v ∧ Q0 Z w__VALUES kV w_CREATE w_UPDATE w_Operation_DELETE w_GET w_HEAD w_POST w_PATCH w_Method_DELETE w_OPTIONS x0_0 h0 n0 v U'.heap L ∧ FrameEnd U o U' L 1 3) := by
  refine MetFree.of_bodySF (plainFor_of_name pn_1) hisR ?_
  intro p e s m args below meth c s₁ Bd hml0 hP hK
  obtain ⟨rfl, hZ, hh⟩ := hP
  have hx := Bd.exec
  have hby := Bd.bytes
  have hnl := BodyLoose.notSynchronized Bd
  have hml : c.maxLocals = 4 := hml0
  have hown : s.vm.findClass "com/example/navigable_rest/navigablerest/OperationOfPinLaw" = some m.cls := findClass_of_methodNamed Bd.named
  have hnm := (name_of_methodNamed Bd.named Bd.method).1
  have X0 : Stand p l e room_1 s m #[(.int x0_0)] below meth c s₁ [] 0 0 := Stand.of_body Bd
  have e0 : s₁.heap = h0 := by rw [← hh, Bd.state]; rfl
  have N0 := Fr.nil n0
  show own_Ends p.tables e below s (Q0 Z w__VALUES kV w_CREATE w_UPDATE w_Operation_DELETE w_GET w_HEAD w_POST w_PATCH w_Method_DELETE w_OPTIONS x0_0 h0 n0) 1 3 (s₁.setTop (entryFrame m #[(.int x0_0)] maxLocals))
  rw [ef_0 m x0_0]
  show own_Ends p.tables e below s _ _ _ (s₁.setTop (mkF m 0 #[.val (.int x0_0), .unset, .unset, .unset] []))
  refine own_step (fun t k => XS.iloadN X0.here hx rfl (hb hby at_0) rfl k) ?_
  show own_Ends p.tables e below s _ _ _ (s₁.setTop (mkF m 1 #[.val (.int x0_0), .unset, .unset, .unset] [(.int x0_0)]))
  refine own_step (fun t k => X0.ldcInt hx hown (mvT hZ (hw _ (List.mem_of_getElem? (i := 0) rfl))) (g := (mkF m 1 #[.val (.int x0_0), .unset, .unset, .unset] [(.int x0_0)])) rfl (hb hby at_1) _ k) ?_
  show own_Ends p.tables e below s _ _ _ (s₁.setTop (mkF m 3 #[.val (.int x0_0), .unset, .unset, .unset] [(.int (2147483647 : Int32)), (.int x0_0)]))
  refine own_step (fun t k => XS.iand X0.here hx rfl (hb hby at_3) rfl k) ?_
  show own_Ends p.tables e below s _ _ _ (s₁.setTop (mkF m 4 #[.val (.int x0_0), .unset, .unset, .unset] [(.int (x0_0 &&& (2147483647 : Int32)))]))
  refine own_step (fun t k => XS.bipush X0.here hx rfl (hb hby at_4) k) ?_
  show own_Ends p.tables e below s _ _ _ (s₁.setTop (mkF m 6 #[.val (.int x0_0), .unset, .unset, .unset] [(.int (6 : Int32)), (.int (x0_0 &&& (2147483647 : Int32)))]))
  refine own_step (fun t k => iremM X0 hx rfl (hb hby at_6) rfl (by decide) k) ?_
  show own_Ends p.tables e below s _ _ _ (s₁.setTop (mkF m 7 #[.val (.int x0_0), .unset, .unset, .unset] [(.int ((x0_0 &&& (2147483647 : Int32)) % (6 : Int32)))]))
  generalize hk6 : ((x0_0 &&& (2147483647 : Int32)) % (6 : Int32)) = k6
  show own_Ends p.tables e below s _ _ _ (s₁.setTop (mkF m 7 #[.val (.int x0_0), .unset, .unset, .unset] [(.int k6)]))
  refine own_step (fun t k => XS.istoreN X0.here hx rfl (hb hby at_7) rfl (l' := #[.val (.int x0_0), .val (.int k6), .unset, .unset]) rfl k) ?_
  show own_Ends p.tables e below s _ _ _ (s₁.setTop (mkF m 8 #[.val (.int x0_0), .val (.int k6), .unset, .unset] []))
  refine own_step (fun t k => XS.iloadN X0.here hx rfl (hb hby at_8) rfl k) ?_
  show own_Ends p.tables e below s _ _ _ (s₁.setTop (mkF m 9 #[.val (.int x0_0), .val (.int k6), .unset, .unset] [(.int k6)]))
  obtain ⟨_, _, ⟨T1, L1, k1, n1⟩, -, X1, ⟨Lc1, hQ1, l1, y1, z1⟩, st1⟩ := Jvm.LawKit.callS X0 hx (y := (⟨"com/example/navigable_rest/navigablerest/OperationOfPinLaw", "pick", "(I)Lcom/example/navigable_rest/navigablerest/Method;"⟩ : MethodName)) hown (mvT hZ (hw _ (List.mem_of_getElem? (i := 1) rfl))) (mvT hZ (hw _ (List.mem_of_getElem? (i := 2) rfl))) (mvT hZ (hw _ (List.mem_of_getElem? (i := 3) rfl))) (mvT hZ (hw _ (List.mem_of_getElem? (i := 4) rfl))) (by decide) (backOf (W := 0) (rm1 l Z a0 hw [] k6 w_GET w_HEAD w_POST w_PATCH w_Method_DELETE w_OPTIONS h0 n0 O0 S_GET S_HEAD S_POST S_PATCH S_Method_DELETE S_OPTIONS) hZ (hw _ (List.mem_of_getElem? (i := 4) rfl)) (hw _ (List.mem_of_getElem? (i := 3) rfl)) (by decide) (by decide)) (g := (mkF m 9 #[.val (.int x0_0), .val (.int k6), .unset, .unset] [(.int k6)])) rfl (by rw [hml]; rfl) (argsL := [(.int k6)]) (rest := []) (lenOf pd_1 rfl) rfl (by show 2 * 0 + _ ≤ _; exact Nat.le_of_eq rfl) (hb hby at_9) (fun _ _ => ⟨rfl, e0, (by decide : 0 + 0 ≤ _), (by decide : 0 + 0 ≤ _)⟩)
  dsimp only [Pt.U, Pt.locs, Pt.cells, Pt.slots] at X1 l1 y1 z1 st1 hQ1
  subst y1 z1
  obtain ⟨rfl, N1q, e1⟩ := hQ1
  refine own_step (fun t k => st1 _ k) ?_
  have N2 : Fr n0 L1 := by rw [l1]; exact Fr.app N0 N1q
  by_cases hs3 : k6 = (0 : Int32)
  · skip
    have hv4 : (own_r1 k6 w_GET w_HEAD w_POST w_PATCH w_Method_DELETE w_OPTIONS) = w_GET := by unfold own_r1; rw [if_pos hs3]
    show own_Ends p.tables e below s _ _ _ (T1.setTop (mkF m 12 #[.val (.int x0_0), .val (.int k6), .unset, .unset] [(.ref (own_r1 k6 w_GET w_HEAD w_POST w_PATCH w_Method_DELETE w_OPTIONS))]))
    rw [hv4]
    show own_Ends p.tables e below s _ _ _ (T1.setTop (mkF m 12 #[.val (.int x0_0), .val (.int k6), .unset, .unset] [(.ref w_GET)]))
    refine own_step (fun t k => XS.astoreN X1.here hx rfl (hb hby at_12) rfl rfl (l' := #[.val (.int x0_0), .val (.int k6), .val (.ref w_GET), .unset]) rfl k) ?_
    show own_Ends p.tables e below s _ _ _ (T1.setTop (mkF m 13 #[.val (.int x0_0), .val (.int k6), .val (.ref w_GET), .unset] []))
    refine own_step (fun t k => XS.aloadN X1.here hx rfl (hb hby at_13) rfl rfl k) ?_
    show own_Ends p.tables e below s _ _ _ (T1.setTop (mkF m 14 #[.val (.int x0_0), .val (.int k6), .val (.ref w_GET), .unset] [(.ref w_GET)]))
    obtain ⟨_, _, ⟨T5, L5, k5, n5⟩, -, X5, ⟨Lc5, hQ5, l5, y5, z5⟩, st5⟩ := Jvm.LawKit.callS X1 hx (y := (⟨"com/example/navigable_rest/navigablerest/Operation", "of", "(Lcom/example/navigable_rest/navigablerest/Method;)Lcom/example/navigable_rest/navigablerest/Operation;"⟩ : MethodName)) hown (mvT hZ (hw _ (List.mem_of_getElem? (i := 8) rfl))) (mvT hZ (hw _ (List.mem_of_getElem? (i := 9) rfl))) (mvT hZ (hw _ (List.mem_of_getElem? (i := 10) rfl))) (mvT hZ (hw _ (List.mem_of_getElem? (i := 11) rfl))) (by decide) (backOf (W := 0) (rm2 l Z a0 hw [] w__VALUES kV w_CREATE w_UPDATE w_Operation_DELETE w_GET w_POST w_PATCH w_Method_DELETE h0 n0 O0 VV EV S__VALUES F_method_w_CREATE F_method_w_UPDATE F_method_w_Operation_DELETE) hZ (hw _ (List.mem_of_getElem? (i := 11) rfl)) (hw _ (List.mem_of_getElem? (i := 10) rfl)) (by decide) (by decide)) (g := (mkF m 14 #[.val (.int x0_0), .val (.int k6), .val (.ref w_GET), .unset] [(.ref w_GET)])) rfl (by rw [hml]; rfl) (argsL := [(.ref w_GET)]) (rest := []) (lenOf pd_2 rfl) rfl (by show 2 * 0 + _ ≤ _; exact Nat.le_of_eq rfl) (hb hby at_14) (fun _ _ => ⟨rfl, e1, (by decide : 0 + 1 ≤ _), (by decide : 0 + 3 ≤ _)⟩)
    dsimp only [Pt.U, Pt.locs, Pt.cells, Pt.slots] at X5 l5 y5 z5 st5 hQ5
    subst y5 z5
    obtain ⟨rfl, N5q, K5q⟩ := hQ5
    refine own_step (fun t k => st5 _ k) ?_
    have N6 : Fr n0 L5 := by rw [l5]; exact Fr.app N2 N5q
    have K7 : Keep h0 T5.heap [] := (Keep.refl h0 []).trans K5q all0
    have hv8 : (own_r2 w_CREATE w_UPDATE w_Operation_DELETE w_GET w_POST w_PATCH w_Method_DELETE) = .null := by unfold own_r2; rw [if_neg (show ¬ (w_POST = w_GET) from (Ne.symm ne_w_GET_w_POST)), if_neg (show ¬ (w_PATCH = w_GET) from (Ne.symm ne_w_GET_w_PATCH)), if_neg (show ¬ (w_Method_DELETE = w_GET) from (Ne.symm ne_w_GET_w_Method_DELETE))]
    show own_Ends p.tables e below s _ _ _ (T5.setTop (mkF m 17 #[.val (.int x0_0), .val (.int k6), .val (.ref w_GET), .unset] [(own_r2 w_CREATE w_UPDATE w_Operation_DELETE w_GET w_POST w_PATCH w_Method_DELETE)]))
    rw [hv8]
    show own_Ends p.tables e below s _ _ _ (T5.setTop (mkF m 17 #[.val (.int x0_0), .val (.int k6), .val (.ref w_GET), .unset] [.null]))
    refine own_step (fun t k => XS.astoreN X5.here hx rfl (hb hby at_17) rfl rfl (l' := #[.val (.int x0_0), .val (.int k6), .val (.ref w_GET), .val .null]) rfl k) ?_
    show own_Ends p.tables e below s _ _ _ (T5.setTop (mkF m 18 #[.val (.int x0_0), .val (.int k6), .val (.ref w_GET), .val .null] []))
    refine own_step (fun t k => XS.aloadN X5.here hx rfl (hb hby at_18) rfl rfl k) ?_
    show own_Ends p.tables e below s _ _ _ (T5.setTop (mkF m 19 #[.val (.int x0_0), .val (.int k6), .val (.ref w_GET), .val .null] [.null]))
    refine own_step (fun t k => XS.iloadN X5.here hx rfl (hb hby at_19) rfl k) ?_
    show own_Ends p.tables e below s _ _ _ (T5.setTop (mkF m 20 #[.val (.int x0_0), .val (.int k6), .val (.ref w_GET), .val .null] [(.int k6), .null]))
    have O9 : Old Z n0 T5.heap := (O0.keep K5q all0)
    obtain ⟨_, _, ⟨T10, L10, k10, n10⟩, -, X10, ⟨Lc10, hQ10, l10, y10, z10⟩, st10⟩ := Jvm.LawKit.callS X5 hx (y := (⟨"com/example/navigable_rest/navigablerest/OperationOfPinLaw", "expected", "(I)Lcom/example/navigable_rest/navigablerest/Operation;"⟩ : MethodName)) hown (mvT hZ (hw _ (List.mem_of_getElem? (i := 35) rfl))) (mvT hZ (hw _ (List.mem_of_getElem? (i := 36) rfl))) (mvT hZ (hw _ (List.mem_of_getElem? (i := 3) rfl))) (mvT hZ (hw _ (List.mem_of_getElem? (i := 37) rfl))) (by decide) (backOf (W := 1) (rm4 l Z a0 hw [] k6 w_CREATE w_UPDATE w_Operation_DELETE T5.heap n0 O9 S_CREATE S_UPDATE S_Operation_DELETE) hZ (hw _ (List.mem_of_getElem? (i := 37) rfl)) (hw _ (List.mem_of_getElem? (i := 3) rfl)) (by decide) (by decide)) (g := (mkF m 20 #[.val (.int x0_0), .val (.int k6), .val (.ref w_GET), .val .null] [(.int k6), .null])) rfl (by rw [hml]; rfl) (argsL := [(.int k6)]) (rest := [.null]) (lenOf pd_3 rfl) rfl (by show 2 * 0 + _ ≤ _; exact Nat.le_of_eq rfl) (hb hby at_20) (fun _ _ => ⟨rfl, rfl, (by decide : 1 + 0 ≤ _), (by decide : 3 + 0 ≤ _)⟩)
    dsimp only [Pt.U, Pt.locs, Pt.cells, Pt.slots] at X10 l10 y10 z10 st10 hQ10
    subst y10 z10
    obtain ⟨rfl, N10q, e10⟩ := hQ10
    refine own_step (fun t k => st10 _ k) ?_
    have N11 : Fr n0 L10 := by rw [l10]; exact Fr.app N6 N10q
    by_cases hs12 : k6 = (2 : Int32)
    · skip
      have hv13 : (own_r4 k6 w_CREATE w_UPDATE w_Operation_DELETE) = (.ref w_CREATE) := by unfold own_r4; rw [if_pos hs12]
      show own_Ends p.tables e below s _ _ _ (T10.setTop (mkF m 23 #[.val (.int x0_0), .val (.int k6), .val (.ref w_GET), .val .null] [(own_r4 k6 w_CREATE w_UPDATE w_Operation_DELETE), .null]))
      rw [hv13]
      show own_Ends p.tables e below s _ _ _ (T10.setTop (mkF m 23 #[.val (.int x0_0), .val (.int k6), .val (.ref w_GET), .val .null] [(.ref w_CREATE), .null]))
      refine own_step (fun t k => Jvm.RoadKit.acmp (g := (mkF m 23 #[.val (.int x0_0), .val (.int k6), .val (.ref w_GET), .val .null] [(.ref w_CREATE), .null])) X10 hx rfl rfl rfl (pc0 := 23) (pc' := 30) (same := false) rfl (hb hby at_23) rfl (decide_eq_false nofun) (by decide) (by decide) k) ?_
      show own_Ends p.tables e below s _ _ _ (T10.setTop (mkF m 30 #[.val (.int x0_0), .val (.int k6), .val (.ref w_GET), .val .null] []))
      refine own_step (fun t k => XS.iconst X10.here hx rfl (hb hby at_30) k) ?_
      show own_Ends p.tables e below s _ _ _ (T10.setTop (mkF m 31 #[.val (.int x0_0), .val (.int k6), .val (.ref w_GET), .val .null] [(.int (0 : Int32))]))
      exfalso
      exact absurd (hs3.symm.trans hs12) (by decide)
    · skip
      by_cases hs14 : k6 = (3 : Int32)
      · skip
        have hv15 : (own_r4 k6 w_CREATE w_UPDATE w_Operation_DELETE) = (.ref w_UPDATE) := by unfold own_r4; rw [if_neg hs12, if_pos hs14]
        show own_Ends p.tables e below s _ _ _ (T10.setTop (mkF m 23 #[.val (.int x0_0), .val (.int k6), .val (.ref w_GET), .val .null] [(own_r4 k6 w_CREATE w_UPDATE w_Operation_DELETE), .null]))
        rw [hv15]
        show own_Ends p.tables e below s _ _ _ (T10.setTop (mkF m 23 #[.val (.int x0_0), .val (.int k6), .val (.ref w_GET), .val .null] [(.ref w_UPDATE), .null]))
        refine own_step (fun t k => Jvm.RoadKit.acmp (g := (mkF m 23 #[.val (.int x0_0), .val (.int k6), .val (.ref w_GET), .val .null] [(.ref w_UPDATE), .null])) X10 hx rfl rfl rfl (pc0 := 23) (pc' := 30) (same := false) rfl (hb hby at_23) rfl (decide_eq_false nofun) (by decide) (by decide) k) ?_
        show own_Ends p.tables e below s _ _ _ (T10.setTop (mkF m 30 #[.val (.int x0_0), .val (.int k6), .val (.ref w_GET), .val .null] []))
        refine own_step (fun t k => XS.iconst X10.here hx rfl (hb hby at_30) k) ?_
        show own_Ends p.tables e below s _ _ _ (T10.setTop (mkF m 31 #[.val (.int x0_0), .val (.int k6), .val (.ref w_GET), .val .null] [(.int (0 : Int32))]))
        exfalso
        exact absurd (hs3.symm.trans hs14) (by decide)
      · skip
        by_cases hs16 : k6 = (4 : Int32)
        · skip
          have hv17 : (own_r4 k6 w_CREATE w_UPDATE w_Operation_DELETE) = (.ref w_Operation_DELETE) := by unfold own_r4; rw [if_neg hs12, if_neg hs14, if_pos hs16]
          show own_Ends p.tables e below s _ _ _ (T10.setTop (mkF m 23 #[.val (.int x0_0), .val (.int k6), .val (.ref w_GET), .val .null] [(own_r4 k6 w_CREATE w_UPDATE w_Operation_DELETE), .null]))
          rw [hv17]
          show own_Ends p.tables e below s _ _ _ (T10.setTop (mkF m 23 #[.val (.int x0_0), .val (.int k6), .val (.ref w_GET), .val .null] [(.ref w_Operation_DELETE), .null]))
          refine own_step (fun t k => Jvm.RoadKit.acmp (g := (mkF m 23 #[.val (.int x0_0), .val (.int k6), .val (.ref w_GET), .val .null] [(.ref w_Operation_DELETE), .null])) X10 hx rfl rfl rfl (pc0 := 23) (pc' := 30) (same := false) rfl (hb hby at_23) rfl (decide_eq_false nofun) (by decide) (by decide) k) ?_
          show own_Ends p.tables e below s _ _ _ (T10.setTop (mkF m 30 #[.val (.int x0_0), .val (.int k6), .val (.ref w_GET), .val .null] []))
          refine own_step (fun t k => XS.iconst X10.here hx rfl (hb hby at_30) k) ?_
          show own_Ends p.tables e below s _ _ _ (T10.setTop (mkF m 31 #[.val (.int x0_0), .val (.int k6), .val (.ref w_GET), .val .null] [(.int (0 : Int32))]))
          exfalso
          exact absurd (hs3.symm.trans hs16) (by decide)
        · skip
          have hv18 : (own_r4 k6 w_CREATE w_UPDATE w_Operation_DELETE) = .null := by unfold own_r4; rw [if_neg hs12, if_neg hs14, if_neg hs16]
          show own_Ends p.tables e below s _ _ _ (T10.setTop (mkF m 23 #[.val (.int x0_0), .val (.int k6), .val (.ref w_GET), .val .null] [(own_r4 k6 w_CREATE w_UPDATE w_Operation_DELETE), .null]))
          rw [hv18]
          show own_Ends p.tables e below s _ _ _ (T10.setTop (mkF m 23 #[.val (.int x0_0), .val (.int k6), .val (.ref w_GET), .val .null] [.null, .null]))
          refine own_step (fun t k => Jvm.RoadKit.acmp (g := (mkF m 23 #[.val (.int x0_0), .val (.int k6), .val (.ref w_GET), .val .null] [.null, .null])) X10 hx rfl rfl rfl (pc0 := 23) (pc' := 26) (same := true) rfl (hb hby at_23) rfl (decide_eq_true rfl) (by decide) (by decide) k) ?_
          show own_Ends p.tables e below s _ _ _ (T10.setTop (mkF m 26 #[.val (.int x0_0), .val (.int k6), .val (.ref w_GET), .val .null] []))
          refine own_step (fun t k => XS.iconst X10.here hx rfl (hb hby at_26) k) ?_
          show own_Ends p.tables e below s _ _ _ (T10.setTop (mkF m 27 #[.val (.int x0_0), .val (.int k6), .val (.ref w_GET), .val .null] [(.int (1 : Int32))]))
          refine own_step (fun t k => XS.goto X10.here hx rfl (pc0 := 27) (pc' := 31) rfl (hb hby at_27) (by decide) (by decide) k) ?_
          show own_Ends p.tables e below s _ _ _ (T10.setTop (mkF m 31 #[.val (.int x0_0), .val (.int k6), .val (.ref w_GET), .val .null] [(.int (1 : Int32))]))
          exact own_retN X10 hx (t := .boolean) Bd.returns (by simp) (hb hby at_31) hnl (by rw [e10]; exact ⟨rfl, N11⟩) (by decide) (by decide)
  · skip
    by_cases hs19 : k6 = (1 : Int32)
    · skip
      have hv20 : (own_r1 k6 w_GET w_HEAD w_POST w_PATCH w_Method_DELETE w_OPTIONS) = w_HEAD := by unfold own_r1; rw [if_neg hs3, if_pos hs19]
      show own_Ends p.tables e below s _ _ _ (T1.setTop (mkF m 12 #[.val (.int x0_0), .val (.int k6), .unset, .unset] [(.ref (own_r1 k6 w_GET w_HEAD w_POST w_PATCH w_Method_DELETE w_OPTIONS))]))
      rw [hv20]
      show own_Ends p.tables e below s _ _ _ (T1.setTop (mkF m 12 #[.val (.int x0_0), .val (.int k6), .unset, .unset] [(.ref w_HEAD)]))
      refine own_step (fun t k => XS.astoreN X1.here hx rfl (hb hby at_12) rfl rfl (l' := #[.val (.int x0_0), .val (.int k6), .val (.ref w_HEAD), .unset]) rfl k) ?_
      show own_Ends p.tables e below s _ _ _ (T1.setTop (mkF m 13 #[.val (.int x0_0), .val (.int k6), .val (.ref w_HEAD), .unset] []))
      refine own_step (fun t k => XS.aloadN X1.here hx rfl (hb hby at_13) rfl rfl k) ?_
      show own_Ends p.tables e below s _ _ _ (T1.setTop (mkF m 14 #[.val (.int x0_0), .val (.int k6), .val (.ref w_HEAD), .unset] [(.ref w_HEAD)]))
      obtain ⟨_, _, ⟨T21, L21, k21, n21⟩, -, X21, ⟨Lc21, hQ21, l21, y21, z21⟩, st21⟩ := Jvm.LawKit.callS X1 hx (y := (⟨"com/example/navigable_rest/navigablerest/Operation", "of", "(Lcom/example/navigable_rest/navigablerest/Method;)Lcom/example/navigable_rest/navigablerest/Operation;"⟩ : MethodName)) hown (mvT hZ (hw _ (List.mem_of_getElem? (i := 8) rfl))) (mvT hZ (hw _ (List.mem_of_getElem? (i := 9) rfl))) (mvT hZ (hw _ (List.mem_of_getElem? (i := 10) rfl))) (mvT hZ (hw _ (List.mem_of_getElem? (i := 11) rfl))) (by decide) (backOf (W := 0) (rm2 l Z a0 hw [] w__VALUES kV w_CREATE w_UPDATE w_Operation_DELETE w_HEAD w_POST w_PATCH w_Method_DELETE h0 n0 O0 VV EV S__VALUES F_method_w_CREATE F_method_w_UPDATE F_method_w_Operation_DELETE) hZ (hw _ (List.mem_of_getElem? (i := 11) rfl)) (hw _ (List.mem_of_getElem? (i := 10) rfl)) (by decide) (by decide)) (g := (mkF m 14 #[.val (.int x0_0), .val (.int k6), .val (.ref w_HEAD), .unset] [(.ref w_HEAD)])) rfl (by rw [hml]; rfl) (argsL := [(.ref w_HEAD)]) (rest := []) (lenOf pd_2 rfl) rfl (by show 2 * 0 + _ ≤ _; exact Nat.le_of_eq rfl) (hb hby at_14) (fun _ _ => ⟨rfl, e1, (by decide : 0 + 1 ≤ _), (by decide : 0 + 3 ≤ _)⟩)
      dsimp only [Pt.U, Pt.locs, Pt.cells, Pt.slots] at X21 l21 y21 z21 st21 hQ21
      subst y21 z21
      obtain ⟨rfl, N21q, K21q⟩ := hQ21
      refine own_step (fun t k => st21 _ k) ?_
      have N22 : Fr n0 L21 := by rw [l21]; exact Fr.app N2 N21q
      have K23 : Keep h0 T21.heap [] := (Keep.refl h0 []).trans K21q all0
      have hv24 : (own_r2 w_CREATE w_UPDATE w_Operation_DELETE w_HEAD w_POST w_PATCH w_Method_DELETE) = .null := by unfold own_r2; rw [if_neg (show ¬ (w_POST = w_HEAD) from (Ne.symm ne_w_HEAD_w_POST)), if_neg (show ¬ (w_PATCH = w_HEAD) from (Ne.symm ne_w_HEAD_w_PATCH)), if_neg (show ¬ (w_Method_DELETE = w_HEAD) from (Ne.symm ne_w_HEAD_w_Method_DELETE))]
      show own_Ends p.tables e below s _ _ _ (T21.setTop (mkF m 17 #[.val (.int x0_0), .val (.int k6), .val (.ref w_HEAD), .unset] [(own_r2 w_CREATE w_UPDATE w_Operation_DELETE w_HEAD w_POST w_PATCH w_Method_DELETE)]))
      rw [hv24]
      show own_Ends p.tables e below s _ _ _ (T21.setTop (mkF m 17 #[.val (.int x0_0), .val (.int k6), .val (.ref w_HEAD), .unset] [.null]))
      refine own_step (fun t k => XS.astoreN X21.here hx rfl (hb hby at_17) rfl rfl (l' := #[.val (.int x0_0), .val (.int k6), .val (.ref w_HEAD), .val .null]) rfl k) ?_
      show own_Ends p.tables e below s _ _ _ (T21.setTop (mkF m 18 #[.val (.int x0_0), .val (.int k6), .val (.ref w_HEAD), .val .null] []))
      refine own_step (fun t k => XS.aloadN X21.here hx rfl (hb hby at_18) rfl rfl k) ?_
      show own_Ends p.tables e below s _ _ _ (T21.setTop (mkF m 19 #[.val (.int x0_0), .val (.int k6), .val (.ref w_HEAD), .val .null] [.null]))
      refine own_step (fun t k => XS.iloadN X21.here hx rfl (hb hby at_19) rfl k) ?_
      show own_Ends p.tables e below s _ _ _ (T21.setTop (mkF m 20 #[.val (.int x0_0), .val (.int k6), .val (.ref w_HEAD), .val .null] [(.int k6), .null]))
      have O25 : Old Z n0 T21.heap := (O0.keep K21q all0)
      obtain ⟨_, _, ⟨T26, L26, k26, n26⟩, -, X26, ⟨Lc26, hQ26, l26, y26, z26⟩, st26⟩ := Jvm.LawKit.callS X21 hx (y := (⟨"com/example/navigable_rest/navigablerest/OperationOfPinLaw", "expected", "(I)Lcom/example/navigable_rest/navigablerest/Operation;"⟩ : MethodName)) hown (mvT hZ (hw _ (List.mem_of_getElem? (i := 35) rfl))) (mvT hZ (hw _ (List.mem_of_getElem? (i := 36) rfl))) (mvT hZ (hw _ (List.mem_of_getElem? (i := 3) rfl))) (mvT hZ (hw _ (List.mem_of_getElem? (i := 37) rfl))) (by decide) (backOf (W := 1) (rm4 l Z a0 hw [] k6 w_CREATE w_UPDATE w_Operation_DELETE T21.heap n0 O25 S_CREATE S_UPDATE S_Operation_DELETE) hZ (hw _ (List.mem_of_getElem? (i := 37) rfl)) (hw _ (List.mem_of_getElem? (i := 3) rfl)) (by decide) (by decide)) (g := (mkF m 20 #[.val (.int x0_0), .val (.int k6), .val (.ref w_HEAD), .val .null] [(.int k6), .null])) rfl (by rw [hml]; rfl) (argsL := [(.int k6)]) (rest := [.null]) (lenOf pd_3 rfl) rfl (by show 2 * 0 + _ ≤ _; exact Nat.le_of_eq rfl) (hb hby at_20) (fun _ _ => ⟨rfl, rfl, (by decide : 1 + 0 ≤ _), (by decide : 3 + 0 ≤ _)⟩)
      dsimp only [Pt.U, Pt.locs, Pt.cells, Pt.slots] at X26 l26 y26 z26 st26 hQ26
      subst y26 z26
      obtain ⟨rfl, N26q, e26⟩ := hQ26
      refine own_step (fun t k => st26 _ k) ?_
      have N27 : Fr n0 L26 := by rw [l26]; exact Fr.app N22 N26q
      by_cases hs28 : k6 = (2 : Int32)
      · skip
        have hv29 : (own_r4 k6 w_CREATE w_UPDATE w_Operation_DELETE) = (.ref w_CREATE) := by unfold own_r4; rw [if_pos hs28]
        show own_Ends p.tables e below s _ _ _ (T26.setTop (mkF m 23 #[.val (.int x0_0), .val (.int k6), .val (.ref w_HEAD), .val .null] [(own_r4 k6 w_CREATE w_UPDATE w_Operation_DELETE), .null]))
        rw [hv29]
        show own_Ends p.tables e below s _ _ _ (T26.setTop (mkF m 23 #[.val (.int x0_0), .val (.int k6), .val (.ref w_HEAD), .val .null] [(.ref w_CREATE), .null]))
        refine own_step (fun t k => Jvm.RoadKit.acmp (g := (mkF m 23 #[.val (.int x0_0), .val (.int k6), .val (.ref w_HEAD), .val .null] [(.ref w_CREATE), .null])) X26 hx rfl rfl rfl (pc0 := 23) (pc' := 30) (same := false) rfl (hb hby at_23) rfl (decide_eq_false nofun) (by decide) (by decide) k) ?_
        show own_Ends p.tables e below s _ _ _ (T26.setTop (mkF m 30 #[.val (.int x0_0), .val (.int k6), .val (.ref w_HEAD), .val .null] []))
        refine own_step (fun t k => XS.iconst X26.here hx rfl (hb hby at_30) k) ?_
        show own_Ends p.tables e below s _ _ _ (T26.setTop (mkF m 31 #[.val (.int x0_0), .val (.int k6), .val (.ref w_HEAD), .val .null] [(.int (0 : Int32))]))
        exfalso
        exact absurd (hs19.symm.trans hs28) (by decide)
      · skip
        by_cases hs30 : k6 = (3 : Int32)
        · skip
          have hv31 : (own_r4 k6 w_CREATE w_UPDATE w_Operation_DELETE) = (.ref w_UPDATE) := by unfold own_r4; rw [if_neg hs28, if_pos hs30]
          show own_Ends p.tables e below s _ _ _ (T26.setTop (mkF m 23 #[.val (.int x0_0), .val (.int k6), .val (.ref w_HEAD), .val .null] [(own_r4 k6 w_CREATE w_UPDATE w_Operation_DELETE), .null]))
          rw [hv31]
          show own_Ends p.tables e below s _ _ _ (T26.setTop (mkF m 23 #[.val (.int x0_0), .val (.int k6), .val (.ref w_HEAD), .val .null] [(.ref w_UPDATE), .null]))
          refine own_step (fun t k => Jvm.RoadKit.acmp (g := (mkF m 23 #[.val (.int x0_0), .val (.int k6), .val (.ref w_HEAD), .val .null] [(.ref w_UPDATE), .null])) X26 hx rfl rfl rfl (pc0 := 23) (pc' := 30) (same := false) rfl (hb hby at_23) rfl (decide_eq_false nofun) (by decide) (by decide) k) ?_
          show own_Ends p.tables e below s _ _ _ (T26.setTop (mkF m 30 #[.val (.int x0_0), .val (.int k6), .val (.ref w_HEAD), .val .null] []))
          refine own_step (fun t k => XS.iconst X26.here hx rfl (hb hby at_30) k) ?_
          show own_Ends p.tables e below s _ _ _ (T26.setTop (mkF m 31 #[.val (.int x0_0), .val (.int k6), .val (.ref w_HEAD), .val .null] [(.int (0 : Int32))]))
          exfalso
          exact absurd (hs19.symm.trans hs30) (by decide)
        · skip
          by_cases hs32 : k6 = (4 : Int32)
          · skip
            have hv33 : (own_r4 k6 w_CREATE w_UPDATE w_Operation_DELETE) = (.ref w_Operation_DELETE) := by unfold own_r4; rw [if_neg hs28, if_neg hs30, if_pos hs32]
            show own_Ends p.tables e below s _ _ _ (T26.setTop (mkF m 23 #[.val (.int x0_0), .val (.int k6), .val (.ref w_HEAD), .val .null] [(own_r4 k6 w_CREATE w_UPDATE w_Operation_DELETE), .null]))
            rw [hv33]
            show own_Ends p.tables e below s _ _ _ (T26.setTop (mkF m 23 #[.val (.int x0_0), .val (.int k6), .val (.ref w_HEAD), .val .null] [(.ref w_Operation_DELETE), .null]))
            refine own_step (fun t k => Jvm.RoadKit.acmp (g := (mkF m 23 #[.val (.int x0_0), .val (.int k6), .val (.ref w_HEAD), .val .null] [(.ref w_Operation_DELETE), .null])) X26 hx rfl rfl rfl (pc0 := 23) (pc' := 30) (same := false) rfl (hb hby at_23) rfl (decide_eq_false nofun) (by decide) (by decide) k) ?_
            show own_Ends p.tables e below s _ _ _ (T26.setTop (mkF m 30 #[.val (.int x0_0), .val (.int k6), .val (.ref w_HEAD), .val .null] []))
            refine own_step (fun t k => XS.iconst X26.here hx rfl (hb hby at_30) k) ?_
            show own_Ends p.tables e below s _ _ _ (T26.setTop (mkF m 31 #[.val (.int x0_0), .val (.int k6), .val (.ref w_HEAD), .val .null] [(.int (0 : Int32))]))
            exfalso
            exact absurd (hs19.symm.trans hs32) (by decide)
          · skip
            have hv34 : (own_r4 k6 w_CREATE w_UPDATE w_Operation_DELETE) = .null := by unfold own_r4; rw [if_neg hs28, if_neg hs30, if_neg hs32]
            show own_Ends p.tables e below s _ _ _ (T26.setTop (mkF m 23 #[.val (.int x0_0), .val (.int k6), .val (.ref w_HEAD), .val .null] [(own_r4 k6 w_CREATE w_UPDATE w_Operation_DELETE), .null]))
            rw [hv34]
            show own_Ends p.tables e below s _ _ _ (T26.setTop (mkF m 23 #[.val (.int x0_0), .val (.int k6), .val (.ref w_HEAD), .val .null] [.null, .null]))
            refine own_step (fun t k => Jvm.RoadKit.acmp (g := (mkF m 23 #[.val (.int x0_0), .val (.int k6), .val (.ref w_HEAD), .val .null] [.null, .null])) X26 hx rfl rfl rfl (pc0 := 23) (pc' := 26) (same := true) rfl (hb hby at_23) rfl (decide_eq_true rfl) (by decide) (by decide) k) ?_
            show own_Ends p.tables e below s _ _ _ (T26.setTop (mkF m 26 #[.val (.int x0_0), .val (.int k6), .val (.ref w_HEAD), .val .null] []))
            refine own_step (fun t k => XS.iconst X26.here hx rfl (hb hby at_26) k) ?_
            show own_Ends p.tables e below s _ _ _ (T26.setTop (mkF m 27 #[.val (.int x0_0), .val (.int k6), .val (.ref w_HEAD), .val .null] [(.int (1 : Int32))]))
            refine own_step (fun t k => XS.goto X26.here hx rfl (pc0 := 27) (pc' := 31) rfl (hb hby at_27) (by decide) (by decide) k) ?_
            show own_Ends p.tables e below s _ _ _ (T26.setTop (mkF m 31 #[.val (.int x0_0), .val (.int k6), .val (.ref w_HEAD), .val .null] [(.int (1 : Int32))]))
            exact own_retN X26 hx (t := .boolean) Bd.returns (by simp) (hb hby at_31) hnl (by rw [e26]; exact ⟨rfl, N27⟩) (by decide) (by decide)
    · skip
      by_cases hs35 : k6 = (2 : Int32)
      · skip
        have hv36 : (own_r1 k6 w_GET w_HEAD w_POST w_PATCH w_Method_DELETE w_OPTIONS) = w_POST := by unfold own_r1; rw [if_neg hs3, if_neg hs19, if_pos hs35]
        show own_Ends p.tables e below s _ _ _ (T1.setTop (mkF m 12 #[.val (.int x0_0), .val (.int k6), .unset, .unset] [(.ref (own_r1 k6 w_GET w_HEAD w_POST w_PATCH w_Method_DELETE w_OPTIONS))]))
        rw [hv36]
        show own_Ends p.tables e below s _ _ _ (T1.setTop (mkF m 12 #[.val (.int x0_0), .val (.int k6), .unset, .unset] [(.ref w_POST)]))
        refine own_step (fun t k => XS.astoreN X1.here hx rfl (hb hby at_12) rfl rfl (l' := #[.val (.int x0_0), .val (.int k6), .val (.ref w_POST), .unset]) rfl k) ?_
        show own_Ends p.tables e below s _ _ _ (T1.setTop (mkF m 13 #[.val (.int x0_0), .val (.int k6), .val (.ref w_POST), .unset] []))
        refine own_step (fun t k => XS.aloadN X1.here hx rfl (hb hby at_13) rfl rfl k) ?_
        show own_Ends p.tables e below s _ _ _ (T1.setTop (mkF m 14 #[.val (.int x0_0), .val (.int k6), .val (.ref w_POST), .unset] [(.ref w_POST)]))
        obtain ⟨_, _, ⟨T37, L37, k37, n37⟩, -, X37, ⟨Lc37, hQ37, l37, y37, z37⟩, st37⟩ := Jvm.LawKit.callS X1 hx (y := (⟨"com/example/navigable_rest/navigablerest/Operation", "of", "(Lcom/example/navigable_rest/navigablerest/Method;)Lcom/example/navigable_rest/navigablerest/Operation;"⟩ : MethodName)) hown (mvT hZ (hw _ (List.mem_of_getElem? (i := 8) rfl))) (mvT hZ (hw _ (List.mem_of_getElem? (i := 9) rfl))) (mvT hZ (hw _ (List.mem_of_getElem? (i := 10) rfl))) (mvT hZ (hw _ (List.mem_of_getElem? (i := 11) rfl))) (by decide) (backOf (W := 0) (rm2 l Z a0 hw [] w__VALUES kV w_CREATE w_UPDATE w_Operation_DELETE w_POST w_POST w_PATCH w_Method_DELETE h0 n0 O0 VV EV S__VALUES F_method_w_CREATE F_method_w_UPDATE F_method_w_Operation_DELETE) hZ (hw _ (List.mem_of_getElem? (i := 11) rfl)) (hw _ (List.mem_of_getElem? (i := 10) rfl)) (by decide) (by decide)) (g := (mkF m 14 #[.val (.int x0_0), .val (.int k6), .val (.ref w_POST), .unset] [(.ref w_POST)])) rfl (by rw [hml]; rfl) (argsL := [(.ref w_POST)]) (rest := []) (lenOf pd_2 rfl) rfl (by show 2 * 0 + _ ≤ _; exact Nat.le_of_eq rfl) (hb hby at_14) (fun _ _ => ⟨rfl, e1, (by decide : 0 + 1 ≤ _), (by decide : 0 + 3 ≤ _)⟩)
        dsimp only [Pt.U, Pt.locs, Pt.cells, Pt.slots] at X37 l37 y37 z37 st37 hQ37
        subst y37 z37
        obtain ⟨rfl, N37q, K37q⟩ := hQ37
        refine own_step (fun t k => st37 _ k) ?_
        have N38 : Fr n0 L37 := by rw [l37]; exact Fr.app N2 N37q
        have K39 : Keep h0 T37.heap [] := (Keep.refl h0 []).trans K37q all0
        have hv40 : (own_r2 w_CREATE w_UPDATE w_Operation_DELETE w_POST w_POST w_PATCH w_Method_DELETE) = (.ref w_CREATE) := by unfold own_r2; rw [if_pos (rfl : w_POST = w_POST)]
        show own_Ends p.tables e below s _ _ _ (T37.setTop (mkF m 17 #[.val (.int x0_0), .val (.int k6), .val (.ref w_POST), .unset] [(own_r2 w_CREATE w_UPDATE w_Operation_DELETE w_POST w_POST w_PATCH w_Method_DELETE)]))
        rw [hv40]
        show own_Ends p.tables e below s _ _ _ (T37.setTop (mkF m 17 #[.val (.int x0_0), .val (.int k6), .val (.ref w_POST), .unset] [(.ref w_CREATE)]))
        refine own_step (fun t k => XS.astoreN X37.here hx rfl (hb hby at_17) rfl rfl (l' := #[.val (.int x0_0), .val (.int k6), .val (.ref w_POST), .val (.ref w_CREATE)]) rfl k) ?_
        show own_Ends p.tables e below s _ _ _ (T37.setTop (mkF m 18 #[.val (.int x0_0), .val (.int k6), .val (.ref w_POST), .val (.ref w_CREATE)] []))
        refine own_step (fun t k => XS.aloadN X37.here hx rfl (hb hby at_18) rfl rfl k) ?_
        show own_Ends p.tables e below s _ _ _ (T37.setTop (mkF m 19 #[.val (.int x0_0), .val (.int k6), .val (.ref w_POST), .val (.ref w_CREATE)] [(.ref w_CREATE)]))
        refine own_step (fun t k => XS.iloadN X37.here hx rfl (hb hby at_19) rfl k) ?_
        show own_Ends p.tables e below s _ _ _ (T37.setTop (mkF m 20 #[.val (.int x0_0), .val (.int k6), .val (.ref w_POST), .val (.ref w_CREATE)] [(.int k6), (.ref w_CREATE)]))
        have O41 : Old Z n0 T37.heap := (O0.keep K37q all0)
        obtain ⟨_, _, ⟨T42, L42, k42, n42⟩, -, X42, ⟨Lc42, hQ42, l42, y42, z42⟩, st42⟩ := Jvm.LawKit.callS X37 hx (y := (⟨"com/example/navigable_rest/navigablerest/OperationOfPinLaw", "expected", "(I)Lcom/example/navigable_rest/navigablerest/Operation;"⟩ : MethodName)) hown (mvT hZ (hw _ (List.mem_of_getElem? (i := 35) rfl))) (mvT hZ (hw _ (List.mem_of_getElem? (i := 36) rfl))) (mvT hZ (hw _ (List.mem_of_getElem? (i := 3) rfl))) (mvT hZ (hw _ (List.mem_of_getElem? (i := 37) rfl))) (by decide) (backOf (W := 1) (rm4 l Z a0 hw [] k6 w_CREATE w_UPDATE w_Operation_DELETE T37.heap n0 O41 S_CREATE S_UPDATE S_Operation_DELETE) hZ (hw _ (List.mem_of_getElem? (i := 37) rfl)) (hw _ (List.mem_of_getElem? (i := 3) rfl)) (by decide) (by decide)) (g := (mkF m 20 #[.val (.int x0_0), .val (.int k6), .val (.ref w_POST), .val (.ref w_CREATE)] [(.int k6), (.ref w_CREATE)])) rfl (by rw [hml]; rfl) (argsL := [(.int k6)]) (rest := [(.ref w_CREATE)]) (lenOf pd_3 rfl) rfl (by show 2 * 0 + _ ≤ _; exact Nat.le_of_eq rfl) (hb hby at_20) (fun _ _ => ⟨rfl, rfl, (by decide : 1 + 0 ≤ _), (by decide : 3 + 0 ≤ _)⟩)
        dsimp only [Pt.U, Pt.locs, Pt.cells, Pt.slots] at X42 l42 y42 z42 st42 hQ42
        subst y42 z42
        obtain ⟨rfl, N42q, e42⟩ := hQ42
        refine own_step (fun t k => st42 _ k) ?_
        have N43 : Fr n0 L42 := by rw [l42]; exact Fr.app N38 N42q
        have hv44 : (own_r4 k6 w_CREATE w_UPDATE w_Operation_DELETE) = (.ref w_CREATE) := by unfold own_r4; rw [if_pos hs35]
        show own_Ends p.tables e below s _ _ _ (T42.setTop (mkF m 23 #[.val (.int x0_0), .val (.int k6), .val (.ref w_POST), .val (.ref w_CREATE)] [(own_r4 k6 w_CREATE w_UPDATE w_Operation_DELETE), (.ref w_CREATE)]))
        rw [hv44]
        show own_Ends p.tables e below s _ _ _ (T42.setTop (mkF m 23 #[.val (.int x0_0), .val (.int k6), .val (.ref w_POST), .val (.ref w_CREATE)] [(.ref w_CREATE), (.ref w_CREATE)]))
        refine own_step (fun t k => Jvm.RoadKit.acmp (g := (mkF m 23 #[.val (.int x0_0), .val (.int k6), .val (.ref w_POST), .val (.ref w_CREATE)] [(.ref w_CREATE), (.ref w_CREATE)])) X42 hx rfl rfl rfl (pc0 := 23) (pc' := 26) (same := true) rfl (hb hby at_23) rfl (decide_eq_true rfl) (by decide) (by decide) k) ?_
        show own_Ends p.tables e below s _ _ _ (T42.setTop (mkF m 26 #[.val (.int x0_0), .val (.int k6), .val (.ref w_POST), .val (.ref w_CREATE)] []))
        refine own_step (fun t k => XS.iconst X42.here hx rfl (hb hby at_26) k) ?_
        show own_Ends p.tables e below s _ _ _ (T42.setTop (mkF m 27 #[.val (.int x0_0), .val (.int k6), .val (.ref w_POST), .val (.ref w_CREATE)] [(.int (1 : Int32))]))
        refine own_step (fun t k => XS.goto X42.here hx rfl (pc0 := 27) (pc' := 31) rfl (hb hby at_27) (by decide) (by decide) k) ?_
        show own_Ends p.tables e below s _ _ _ (T42.setTop (mkF m 31 #[.val (.int x0_0), .val (.int k6), .val (.ref w_POST), .val (.ref w_CREATE)] [(.int (1 : Int32))]))
        exact own_retN X42 hx (t := .boolean) Bd.returns (by simp) (hb hby at_31) hnl (by rw [e42]; exact ⟨rfl, N43⟩) (by decide) (by decide)
      · skip
        by_cases hs45 : k6 = (3 : Int32)
        · skip
          have hv46 : (own_r1 k6 w_GET w_HEAD w_POST w_PATCH w_Method_DELETE w_OPTIONS) = w_PATCH := by unfold own_r1; rw [if_neg hs3, if_neg hs19, if_neg hs35, if_pos hs45]
          show own_Ends p.tables e below s _ _ _ (T1.setTop (mkF m 12 #[.val (.int x0_0), .val (.int k6), .unset, .unset] [(.ref (own_r1 k6 w_GET w_HEAD w_POST w_PATCH w_Method_DELETE w_OPTIONS))]))
          rw [hv46]
          show own_Ends p.tables e below s _ _ _ (T1.setTop (mkF m 12 #[.val (.int x0_0), .val (.int k6), .unset, .unset] [(.ref w_PATCH)]))
          refine own_step (fun t k => XS.astoreN X1.here hx rfl (hb hby at_12) rfl rfl (l' := #[.val (.int x0_0), .val (.int k6), .val (.ref w_PATCH), .unset]) rfl k) ?_
          show own_Ends p.tables e below s _ _ _ (T1.setTop (mkF m 13 #[.val (.int x0_0), .val (.int k6), .val (.ref w_PATCH), .unset] []))
          refine own_step (fun t k => XS.aloadN X1.here hx rfl (hb hby at_13) rfl rfl k) ?_
          show own_Ends p.tables e below s _ _ _ (T1.setTop (mkF m 14 #[.val (.int x0_0), .val (.int k6), .val (.ref w_PATCH), .unset] [(.ref w_PATCH)]))
          obtain ⟨_, _, ⟨T47, L47, k47, n47⟩, -, X47, ⟨Lc47, hQ47, l47, y47, z47⟩, st47⟩ := Jvm.LawKit.callS X1 hx (y := (⟨"com/example/navigable_rest/navigablerest/Operation", "of", "(Lcom/example/navigable_rest/navigablerest/Method;)Lcom/example/navigable_rest/navigablerest/Operation;"⟩ : MethodName)) hown (mvT hZ (hw _ (List.mem_of_getElem? (i := 8) rfl))) (mvT hZ (hw _ (List.mem_of_getElem? (i := 9) rfl))) (mvT hZ (hw _ (List.mem_of_getElem? (i := 10) rfl))) (mvT hZ (hw _ (List.mem_of_getElem? (i := 11) rfl))) (by decide) (backOf (W := 0) (rm2 l Z a0 hw [] w__VALUES kV w_CREATE w_UPDATE w_Operation_DELETE w_PATCH w_POST w_PATCH w_Method_DELETE h0 n0 O0 VV EV S__VALUES F_method_w_CREATE F_method_w_UPDATE F_method_w_Operation_DELETE) hZ (hw _ (List.mem_of_getElem? (i := 11) rfl)) (hw _ (List.mem_of_getElem? (i := 10) rfl)) (by decide) (by decide)) (g := (mkF m 14 #[.val (.int x0_0), .val (.int k6), .val (.ref w_PATCH), .unset] [(.ref w_PATCH)])) rfl (by rw [hml]; rfl) (argsL := [(.ref w_PATCH)]) (rest := []) (lenOf pd_2 rfl) rfl (by show 2 * 0 + _ ≤ _; exact Nat.le_of_eq rfl) (hb hby at_14) (fun _ _ => ⟨rfl, e1, (by decide : 0 + 1 ≤ _), (by decide : 0 + 3 ≤ _)⟩)
          dsimp only [Pt.U, Pt.locs, Pt.cells, Pt.slots] at X47 l47 y47 z47 st47 hQ47
          subst y47 z47
          obtain ⟨rfl, N47q, K47q⟩ := hQ47
          refine own_step (fun t k => st47 _ k) ?_
          have N48 : Fr n0 L47 := by rw [l47]; exact Fr.app N2 N47q
          have K49 : Keep h0 T47.heap [] := (Keep.refl h0 []).trans K47q all0
          have hv50 : (own_r2 w_CREATE w_UPDATE w_Operation_DELETE w_PATCH w_POST w_PATCH w_Method_DELETE) = (.ref w_UPDATE) := by unfold own_r2; rw [if_neg (show ¬ (w_POST = w_PATCH) from ne_w_POST_w_PATCH), if_pos (rfl : w_PATCH = w_PATCH)]
          show own_Ends p.tables e below s _ _ _ (T47.setTop (mkF m 17 #[.val (.int x0_0), .val (.int k6), .val (.ref w_PATCH), .unset] [(own_r2 w_CREATE w_UPDATE w_Operation_DELETE w_PATCH w_POST w_PATCH w_Method_DELETE)]))
          rw [hv50]
          show own_Ends p.tables e below s _ _ _ (T47.setTop (mkF m 17 #[.val (.int x0_0), .val (.int k6), .val (.ref w_PATCH), .unset] [(.ref w_UPDATE)]))
          refine own_step (fun t k => XS.astoreN X47.here hx rfl (hb hby at_17) rfl rfl (l' := #[.val (.int x0_0), .val (.int k6), .val (.ref w_PATCH), .val (.ref w_UPDATE)]) rfl k) ?_
          show own_Ends p.tables e below s _ _ _ (T47.setTop (mkF m 18 #[.val (.int x0_0), .val (.int k6), .val (.ref w_PATCH), .val (.ref w_UPDATE)] []))
          refine own_step (fun t k => XS.aloadN X47.here hx rfl (hb hby at_18) rfl rfl k) ?_
          show own_Ends p.tables e below s _ _ _ (T47.setTop (mkF m 19 #[.val (.int x0_0), .val (.int k6), .val (.ref w_PATCH), .val (.ref w_UPDATE)] [(.ref w_UPDATE)]))
          refine own_step (fun t k => XS.iloadN X47.here hx rfl (hb hby at_19) rfl k) ?_
          show own_Ends p.tables e below s _ _ _ (T47.setTop (mkF m 20 #[.val (.int x0_0), .val (.int k6), .val (.ref w_PATCH), .val (.ref w_UPDATE)] [(.int k6), (.ref w_UPDATE)]))
          have O51 : Old Z n0 T47.heap := (O0.keep K47q all0)
          obtain ⟨_, _, ⟨T52, L52, k52, n52⟩, -, X52, ⟨Lc52, hQ52, l52, y52, z52⟩, st52⟩ := Jvm.LawKit.callS X47 hx (y := (⟨"com/example/navigable_rest/navigablerest/OperationOfPinLaw", "expected", "(I)Lcom/example/navigable_rest/navigablerest/Operation;"⟩ : MethodName)) hown (mvT hZ (hw _ (List.mem_of_getElem? (i := 35) rfl))) (mvT hZ (hw _ (List.mem_of_getElem? (i := 36) rfl))) (mvT hZ (hw _ (List.mem_of_getElem? (i := 3) rfl))) (mvT hZ (hw _ (List.mem_of_getElem? (i := 37) rfl))) (by decide) (backOf (W := 1) (rm4 l Z a0 hw [] k6 w_CREATE w_UPDATE w_Operation_DELETE T47.heap n0 O51 S_CREATE S_UPDATE S_Operation_DELETE) hZ (hw _ (List.mem_of_getElem? (i := 37) rfl)) (hw _ (List.mem_of_getElem? (i := 3) rfl)) (by decide) (by decide)) (g := (mkF m 20 #[.val (.int x0_0), .val (.int k6), .val (.ref w_PATCH), .val (.ref w_UPDATE)] [(.int k6), (.ref w_UPDATE)])) rfl (by rw [hml]; rfl) (argsL := [(.int k6)]) (rest := [(.ref w_UPDATE)]) (lenOf pd_3 rfl) rfl (by show 2 * 0 + _ ≤ _; exact Nat.le_of_eq rfl) (hb hby at_20) (fun _ _ => ⟨rfl, rfl, (by decide : 1 + 0 ≤ _), (by decide : 3 + 0 ≤ _)⟩)
          dsimp only [Pt.U, Pt.locs, Pt.cells, Pt.slots] at X52 l52 y52 z52 st52 hQ52
          subst y52 z52
          obtain ⟨rfl, N52q, e52⟩ := hQ52
          refine own_step (fun t k => st52 _ k) ?_
          have N53 : Fr n0 L52 := by rw [l52]; exact Fr.app N48 N52q
          have hv54 : (own_r4 k6 w_CREATE w_UPDATE w_Operation_DELETE) = (.ref w_UPDATE) := by unfold own_r4; rw [if_neg hs35, if_pos hs45]
          show own_Ends p.tables e below s _ _ _ (T52.setTop (mkF m 23 #[.val (.int x0_0), .val (.int k6), .val (.ref w_PATCH), .val (.ref w_UPDATE)] [(own_r4 k6 w_CREATE w_UPDATE w_Operation_DELETE), (.ref w_UPDATE)]))
          rw [hv54]
          show own_Ends p.tables e below s _ _ _ (T52.setTop (mkF m 23 #[.val (.int x0_0), .val (.int k6), .val (.ref w_PATCH), .val (.ref w_UPDATE)] [(.ref w_UPDATE), (.ref w_UPDATE)]))
          refine own_step (fun t k => Jvm.RoadKit.acmp (g := (mkF m 23 #[.val (.int x0_0), .val (.int k6), .val (.ref w_PATCH), .val (.ref w_UPDATE)] [(.ref w_UPDATE), (.ref w_UPDATE)])) X52 hx rfl rfl rfl (pc0 := 23) (pc' := 26) (same := true) rfl (hb hby at_23) rfl (decide_eq_true rfl) (by decide) (by decide) k) ?_
          show own_Ends p.tables e below s _ _ _ (T52.setTop (mkF m 26 #[.val (.int x0_0), .val (.int k6), .val (.ref w_PATCH), .val (.ref w_UPDATE)] []))
          refine own_step (fun t k => XS.iconst X52.here hx rfl (hb hby at_26) k) ?_
          show own_Ends p.tables e below s _ _ _ (T52.setTop (mkF m 27 #[.val (.int x0_0), .val (.int k6), .val (.ref w_PATCH), .val (.ref w_UPDATE)] [(.int (1 : Int32))]))
          refine own_step (fun t k => XS.goto X52.here hx rfl (pc0 := 27) (pc' := 31) rfl (hb hby at_27) (by decide) (by decide) k) ?_
          show own_Ends p.tables e below s _ _ _ (T52.setTop (mkF m 31 #[.val (.int x0_0), .val (.int k6), .val (.ref w_PATCH), .val (.ref w_UPDATE)] [(.int (1 : Int32))]))
          exact own_retN X52 hx (t := .boolean) Bd.returns (by simp) (hb hby at_31) hnl (by rw [e52]; exact ⟨rfl, N53⟩) (by decide) (by decide)
        · skip
          by_cases hs55 : k6 = (4 : Int32)
          · skip
            have hv56 : (own_r1 k6 w_GET w_HEAD w_POST w_PATCH w_Method_DELETE w_OPTIONS) = w_Method_DELETE := by unfold own_r1; rw [if_neg hs3, if_neg hs19, if_neg hs35, if_neg hs45, if_pos hs55]
            show own_Ends p.tables e below s _ _ _ (T1.setTop (mkF m 12 #[.val (.int x0_0), .val (.int k6), .unset, .unset] [(.ref (own_r1 k6 w_GET w_HEAD w_POST w_PATCH w_Method_DELETE w_OPTIONS))]))
            rw [hv56]
            show own_Ends p.tables e below s _ _ _ (T1.setTop (mkF m 12 #[.val (.int x0_0), .val (.int k6), .unset, .unset] [(.ref w_Method_DELETE)]))
            refine own_step (fun t k => XS.astoreN X1.here hx rfl (hb hby at_12) rfl rfl (l' := #[.val (.int x0_0), .val (.int k6), .val (.ref w_Method_DELETE), .unset]) rfl k) ?_
            show own_Ends p.tables e below s _ _ _ (T1.setTop (mkF m 13 #[.val (.int x0_0), .val (.int k6), .val (.ref w_Method_DELETE), .unset] []))
            refine own_step (fun t k => XS.aloadN X1.here hx rfl (hb hby at_13) rfl rfl k) ?_
            show own_Ends p.tables e below s _ _ _ (T1.setTop (mkF m 14 #[.val (.int x0_0), .val (.int k6), .val (.ref w_Method_DELETE), .unset] [(.ref w_Method_DELETE)]))
            obtain ⟨_, _, ⟨T57, L57, k57, n57⟩, -, X57, ⟨Lc57, hQ57, l57, y57, z57⟩, st57⟩ := Jvm.LawKit.callS X1 hx (y := (⟨"com/example/navigable_rest/navigablerest/Operation", "of", "(Lcom/example/navigable_rest/navigablerest/Method;)Lcom/example/navigable_rest/navigablerest/Operation;"⟩ : MethodName)) hown (mvT hZ (hw _ (List.mem_of_getElem? (i := 8) rfl))) (mvT hZ (hw _ (List.mem_of_getElem? (i := 9) rfl))) (mvT hZ (hw _ (List.mem_of_getElem? (i := 10) rfl))) (mvT hZ (hw _ (List.mem_of_getElem? (i := 11) rfl))) (by decide) (backOf (W := 0) (rm2 l Z a0 hw [] w__VALUES kV w_CREATE w_UPDATE w_Operation_DELETE w_Method_DELETE w_POST w_PATCH w_Method_DELETE h0 n0 O0 VV EV S__VALUES F_method_w_CREATE F_method_w_UPDATE F_method_w_Operation_DELETE) hZ (hw _ (List.mem_of_getElem? (i := 11) rfl)) (hw _ (List.mem_of_getElem? (i := 10) rfl)) (by decide) (by decide)) (g := (mkF m 14 #[.val (.int x0_0), .val (.int k6), .val (.ref w_Method_DELETE), .unset] [(.ref w_Method_DELETE)])) rfl (by rw [hml]; rfl) (argsL := [(.ref w_Method_DELETE)]) (rest := []) (lenOf pd_2 rfl) rfl (by show 2 * 0 + _ ≤ _; exact Nat.le_of_eq rfl) (hb hby at_14) (fun _ _ => ⟨rfl, e1, (by decide : 0 + 1 ≤ _), (by decide : 0 + 3 ≤ _)⟩)
            dsimp only [Pt.U, Pt.locs, Pt.cells, Pt.slots] at X57 l57 y57 z57 st57 hQ57
            subst y57 z57
            obtain ⟨rfl, N57q, K57q⟩ := hQ57
            refine own_step (fun t k => st57 _ k) ?_
            have N58 : Fr n0 L57 := by rw [l57]; exact Fr.app N2 N57q
            have K59 : Keep h0 T57.heap [] := (Keep.refl h0 []).trans K57q all0
            have hv60 : (own_r2 w_CREATE w_UPDATE w_Operation_DELETE w_Method_DELETE w_POST w_PATCH w_Method_DELETE) = (.ref w_Operation_DELETE) := by unfold own_r2; rw [if_neg (show ¬ (w_POST = w_Method_DELETE) from ne_w_POST_w_Method_DELETE), if_neg (show ¬ (w_PATCH = w_Method_DELETE) from ne_w_PATCH_w_Method_DELETE), if_pos (rfl : w_Method_DELETE = w_Method_DELETE)]
            show own_Ends p.tables e below s _ _ _ (T57.setTop (mkF m 17 #[.val (.int x0_0), .val (.int k6), .val (.ref w_Method_DELETE), .unset] [(own_r2 w_CREATE w_UPDATE w_Operation_DELETE w_Method_DELETE w_POST w_PATCH w_Method_DELETE)]))
            rw [hv60]
            show own_Ends p.tables e below s _ _ _ (T57.setTop (mkF m 17 #[.val (.int x0_0), .val (.int k6), .val (.ref w_Method_DELETE), .unset] [(.ref w_Operation_DELETE)]))
            refine own_step (fun t k => XS.astoreN X57.here hx rfl (hb hby at_17) rfl rfl (l' := #[.val (.int x0_0), .val (.int k6), .val (.ref w_Method_DELETE), .val (.ref w_Operation_DELETE)]) rfl k) ?_
            show own_Ends p.tables e below s _ _ _ (T57.setTop (mkF m 18 #[.val (.int x0_0), .val (.int k6), .val (.ref w_Method_DELETE), .val (.ref w_Operation_DELETE)] []))
            refine own_step (fun t k => XS.aloadN X57.here hx rfl (hb hby at_18) rfl rfl k) ?_
            show own_Ends p.tables e below s _ _ _ (T57.setTop (mkF m 19 #[.val (.int x0_0), .val (.int k6), .val (.ref w_Method_DELETE), .val (.ref w_Operation_DELETE)] [(.ref w_Operation_DELETE)]))
            refine own_step (fun t k => XS.iloadN X57.here hx rfl (hb hby at_19) rfl k) ?_
            show own_Ends p.tables e below s _ _ _ (T57.setTop (mkF m 20 #[.val (.int x0_0), .val (.int k6), .val (.ref w_Method_DELETE), .val (.ref w_Operation_DELETE)] [(.int k6), (.ref w_Operation_DELETE)]))
            have O61 : Old Z n0 T57.heap := (O0.keep K57q all0)
            obtain ⟨_, _, ⟨T62, L62, k62, n62⟩, -, X62, ⟨Lc62, hQ62, l62, y62, z62⟩, st62⟩ := Jvm.LawKit.callS X57 hx (y := (⟨"com/example/navigable_rest/navigablerest/OperationOfPinLaw", "expected", "(I)Lcom/example/navigable_rest/navigablerest/Operation;"⟩ : MethodName)) hown (mvT hZ (hw _ (List.mem_of_getElem? (i := 35) rfl))) (mvT hZ (hw _ (List.mem_of_getElem? (i := 36) rfl))) (mvT hZ (hw _ (List.mem_of_getElem? (i := 3) rfl))) (mvT hZ (hw _ (List.mem_of_getElem? (i := 37) rfl))) (by decide) (backOf (W := 1) (rm4 l Z a0 hw [] k6 w_CREATE w_UPDATE w_Operation_DELETE T57.heap n0 O61 S_CREATE S_UPDATE S_Operation_DELETE) hZ (hw _ (List.mem_of_getElem? (i := 37) rfl)) (hw _ (List.mem_of_getElem? (i := 3) rfl)) (by decide) (by decide)) (g := (mkF m 20 #[.val (.int x0_0), .val (.int k6), .val (.ref w_Method_DELETE), .val (.ref w_Operation_DELETE)] [(.int k6), (.ref w_Operation_DELETE)])) rfl (by rw [hml]; rfl) (argsL := [(.int k6)]) (rest := [(.ref w_Operation_DELETE)]) (lenOf pd_3 rfl) rfl (by show 2 * 0 + _ ≤ _; exact Nat.le_of_eq rfl) (hb hby at_20) (fun _ _ => ⟨rfl, rfl, (by decide : 1 + 0 ≤ _), (by decide : 3 + 0 ≤ _)⟩)
            dsimp only [Pt.U, Pt.locs, Pt.cells, Pt.slots] at X62 l62 y62 z62 st62 hQ62
            subst y62 z62
            obtain ⟨rfl, N62q, e62⟩ := hQ62
            refine own_step (fun t k => st62 _ k) ?_
            have N63 : Fr n0 L62 := by rw [l62]; exact Fr.app N58 N62q
            have hv64 : (own_r4 k6 w_CREATE w_UPDATE w_Operation_DELETE) = (.ref w_Operation_DELETE) := by unfold own_r4; rw [if_neg hs35, if_neg hs45, if_pos hs55]
            show own_Ends p.tables e below s _ _ _ (T62.setTop (mkF m 23 #[.val (.int x0_0), .val (.int k6), .val (.ref w_Method_DELETE), .val (.ref w_Operation_DELETE)] [(own_r4 k6 w_CREATE w_UPDATE w_Operation_DELETE), (.ref w_Operation_DELETE)]))
            rw [hv64]
            show own_Ends p.tables e below s _ _ _ (T62.setTop (mkF m 23 #[.val (.int x0_0), .val (.int k6), .val (.ref w_Method_DELETE), .val (.ref w_Operation_DELETE)] [(.ref w_Operation_DELETE), (.ref w_Operation_DELETE)]))
            refine own_step (fun t k => Jvm.RoadKit.acmp (g := (mkF m 23 #[.val (.int x0_0), .val (.int k6), .val (.ref w_Method_DELETE), .val (.ref w_Operation_DELETE)] [(.ref w_Operation_DELETE), (.ref w_Operation_DELETE)])) X62 hx rfl rfl rfl (pc0 := 23) (pc' := 26) (same := true) rfl (hb hby at_23) rfl (decide_eq_true rfl) (by decide) (by decide) k) ?_
            show own_Ends p.tables e below s _ _ _ (T62.setTop (mkF m 26 #[.val (.int x0_0), .val (.int k6), .val (.ref w_Method_DELETE), .val (.ref w_Operation_DELETE)] []))
            refine own_step (fun t k => XS.iconst X62.here hx rfl (hb hby at_26) k) ?_
            show own_Ends p.tables e below s _ _ _ (T62.setTop (mkF m 27 #[.val (.int x0_0), .val (.int k6), .val (.ref w_Method_DELETE), .val (.ref w_Operation_DELETE)] [(.int (1 : Int32))]))
            refine own_step (fun t k => XS.goto X62.here hx rfl (pc0 := 27) (pc' := 31) rfl (hb hby at_27) (by decide) (by decide) k) ?_
            show own_Ends p.tables e below s _ _ _ (T62.setTop (mkF m 31 #[.val (.int x0_0), .val (.int k6), .val (.ref w_Method_DELETE), .val (.ref w_Operation_DELETE)] [(.int (1 : Int32))]))
            exact own_retN X62 hx (t := .boolean) Bd.returns (by simp) (hb hby at_31) hnl (by rw [e62]; exact ⟨rfl, N63⟩) (by decide) (by decide)
          · skip
            have hv65 : (own_r1 k6 w_GET w_HEAD w_POST w_PATCH w_Method_DELETE w_OPTIONS) = w_OPTIONS := by unfold own_r1; rw [if_neg hs3, if_neg hs19, if_neg hs35, if_neg hs45, if_neg hs55]
            show own_Ends p.tables e below s _ _ _ (T1.setTop (mkF m 12 #[.val (.int x0_0), .val (.int k6), .unset, .unset] [(.ref (own_r1 k6 w_GET w_HEAD w_POST w_PATCH w_Method_DELETE w_OPTIONS))]))
            rw [hv65]
            show own_Ends p.tables e below s _ _ _ (T1.setTop (mkF m 12 #[.val (.int x0_0), .val (.int k6), .unset, .unset] [(.ref w_OPTIONS)]))
            refine own_step (fun t k => XS.astoreN X1.here hx rfl (hb hby at_12) rfl rfl (l' := #[.val (.int x0_0), .val (.int k6), .val (.ref w_OPTIONS), .unset]) rfl k) ?_
            show own_Ends p.tables e below s _ _ _ (T1.setTop (mkF m 13 #[.val (.int x0_0), .val (.int k6), .val (.ref w_OPTIONS), .unset] []))
            refine own_step (fun t k => XS.aloadN X1.here hx rfl (hb hby at_13) rfl rfl k) ?_
            show own_Ends p.tables e below s _ _ _ (T1.setTop (mkF m 14 #[.val (.int x0_0), .val (.int k6), .val (.ref w_OPTIONS), .unset] [(.ref w_OPTIONS)]))
            obtain ⟨_, _, ⟨T66, L66, k66, n66⟩, -, X66, ⟨Lc66, hQ66, l66, y66, z66⟩, st66⟩ := Jvm.LawKit.callS X1 hx (y := (⟨"com/example/navigable_rest/navigablerest/Operation", "of", "(Lcom/example/navigable_rest/navigablerest/Method;)Lcom/example/navigable_rest/navigablerest/Operation;"⟩ : MethodName)) hown (mvT hZ (hw _ (List.mem_of_getElem? (i := 8) rfl))) (mvT hZ (hw _ (List.mem_of_getElem? (i := 9) rfl))) (mvT hZ (hw _ (List.mem_of_getElem? (i := 10) rfl))) (mvT hZ (hw _ (List.mem_of_getElem? (i := 11) rfl))) (by decide) (backOf (W := 0) (rm2 l Z a0 hw [] w__VALUES kV w_CREATE w_UPDATE w_Operation_DELETE w_OPTIONS w_POST w_PATCH w_Method_DELETE h0 n0 O0 VV EV S__VALUES F_method_w_CREATE F_method_w_UPDATE F_method_w_Operation_DELETE) hZ (hw _ (List.mem_of_getElem? (i := 11) rfl)) (hw _ (List.mem_of_getElem? (i := 10) rfl)) (by decide) (by decide)) (g := (mkF m 14 #[.val (.int x0_0), .val (.int k6), .val (.ref w_OPTIONS), .unset] [(.ref w_OPTIONS)])) rfl (by rw [hml]; rfl) (argsL := [(.ref w_OPTIONS)]) (rest := []) (lenOf pd_2 rfl) rfl (by show 2 * 0 + _ ≤ _; exact Nat.le_of_eq rfl) (hb hby at_14) (fun _ _ => ⟨rfl, e1, (by decide : 0 + 1 ≤ _), (by decide : 0 + 3 ≤ _)⟩)
            dsimp only [Pt.U, Pt.locs, Pt.cells, Pt.slots] at X66 l66 y66 z66 st66 hQ66
            subst y66 z66
            obtain ⟨rfl, N66q, K66q⟩ := hQ66
            refine own_step (fun t k => st66 _ k) ?_
            have N67 : Fr n0 L66 := by rw [l66]; exact Fr.app N2 N66q
            have K68 : Keep h0 T66.heap [] := (Keep.refl h0 []).trans K66q all0
            have hv69 : (own_r2 w_CREATE w_UPDATE w_Operation_DELETE w_OPTIONS w_POST w_PATCH w_Method_DELETE) = .null := by unfold own_r2; rw [if_neg (show ¬ (w_POST = w_OPTIONS) from (Ne.symm ne_w_OPTIONS_w_POST)), if_neg (show ¬ (w_PATCH = w_OPTIONS) from (Ne.symm ne_w_OPTIONS_w_PATCH)), if_neg (show ¬ (w_Method_DELETE = w_OPTIONS) from (Ne.symm ne_w_OPTIONS_w_Method_DELETE))]
            show own_Ends p.tables e below s _ _ _ (T66.setTop (mkF m 17 #[.val (.int x0_0), .val (.int k6), .val (.ref w_OPTIONS), .unset] [(own_r2 w_CREATE w_UPDATE w_Operation_DELETE w_OPTIONS w_POST w_PATCH w_Method_DELETE)]))
            rw [hv69]
            show own_Ends p.tables e below s _ _ _ (T66.setTop (mkF m 17 #[.val (.int x0_0), .val (.int k6), .val (.ref w_OPTIONS), .unset] [.null]))
            refine own_step (fun t k => XS.astoreN X66.here hx rfl (hb hby at_17) rfl rfl (l' := #[.val (.int x0_0), .val (.int k6), .val (.ref w_OPTIONS), .val .null]) rfl k) ?_
            show own_Ends p.tables e below s _ _ _ (T66.setTop (mkF m 18 #[.val (.int x0_0), .val (.int k6), .val (.ref w_OPTIONS), .val .null] []))
            refine own_step (fun t k => XS.aloadN X66.here hx rfl (hb hby at_18) rfl rfl k) ?_
            show own_Ends p.tables e below s _ _ _ (T66.setTop (mkF m 19 #[.val (.int x0_0), .val (.int k6), .val (.ref w_OPTIONS), .val .null] [.null]))
            refine own_step (fun t k => XS.iloadN X66.here hx rfl (hb hby at_19) rfl k) ?_
            show own_Ends p.tables e below s _ _ _ (T66.setTop (mkF m 20 #[.val (.int x0_0), .val (.int k6), .val (.ref w_OPTIONS), .val .null] [(.int k6), .null]))
            have O70 : Old Z n0 T66.heap := (O0.keep K66q all0)
            obtain ⟨_, _, ⟨T71, L71, k71, n71⟩, -, X71, ⟨Lc71, hQ71, l71, y71, z71⟩, st71⟩ := Jvm.LawKit.callS X66 hx (y := (⟨"com/example/navigable_rest/navigablerest/OperationOfPinLaw", "expected", "(I)Lcom/example/navigable_rest/navigablerest/Operation;"⟩ : MethodName)) hown (mvT hZ (hw _ (List.mem_of_getElem? (i := 35) rfl))) (mvT hZ (hw _ (List.mem_of_getElem? (i := 36) rfl))) (mvT hZ (hw _ (List.mem_of_getElem? (i := 3) rfl))) (mvT hZ (hw _ (List.mem_of_getElem? (i := 37) rfl))) (by decide) (backOf (W := 1) (rm4 l Z a0 hw [] k6 w_CREATE w_UPDATE w_Operation_DELETE T66.heap n0 O70 S_CREATE S_UPDATE S_Operation_DELETE) hZ (hw _ (List.mem_of_getElem? (i := 37) rfl)) (hw _ (List.mem_of_getElem? (i := 3) rfl)) (by decide) (by decide)) (g := (mkF m 20 #[.val (.int x0_0), .val (.int k6), .val (.ref w_OPTIONS), .val .null] [(.int k6), .null])) rfl (by rw [hml]; rfl) (argsL := [(.int k6)]) (rest := [.null]) (lenOf pd_3 rfl) rfl (by show 2 * 0 + _ ≤ _; exact Nat.le_of_eq rfl) (hb hby at_20) (fun _ _ => ⟨rfl, rfl, (by decide : 1 + 0 ≤ _), (by decide : 3 + 0 ≤ _)⟩)
            dsimp only [Pt.U, Pt.locs, Pt.cells, Pt.slots] at X71 l71 y71 z71 st71 hQ71
            subst y71 z71
            obtain ⟨rfl, N71q, e71⟩ := hQ71
            refine own_step (fun t k => st71 _ k) ?_
            have N72 : Fr n0 L71 := by rw [l71]; exact Fr.app N67 N71q
            have hv73 : (own_r4 k6 w_CREATE w_UPDATE w_Operation_DELETE) = .null := by unfold own_r4; rw [if_neg hs35, if_neg hs45, if_neg hs55]
            show own_Ends p.tables e below s _ _ _ (T71.setTop (mkF m 23 #[.val (.int x0_0), .val (.int k6), .val (.ref w_OPTIONS), .val .null] [(own_r4 k6 w_CREATE w_UPDATE w_Operation_DELETE), .null]))
            rw [hv73]
            show own_Ends p.tables e below s _ _ _ (T71.setTop (mkF m 23 #[.val (.int x0_0), .val (.int k6), .val (.ref w_OPTIONS), .val .null] [.null, .null]))
            refine own_step (fun t k => Jvm.RoadKit.acmp (g := (mkF m 23 #[.val (.int x0_0), .val (.int k6), .val (.ref w_OPTIONS), .val .null] [.null, .null])) X71 hx rfl rfl rfl (pc0 := 23) (pc' := 26) (same := true) rfl (hb hby at_23) rfl (decide_eq_true rfl) (by decide) (by decide) k) ?_
            show own_Ends p.tables e below s _ _ _ (T71.setTop (mkF m 26 #[.val (.int x0_0), .val (.int k6), .val (.ref w_OPTIONS), .val .null] []))
            refine own_step (fun t k => XS.iconst X71.here hx rfl (hb hby at_26) k) ?_
            show own_Ends p.tables e below s _ _ _ (T71.setTop (mkF m 27 #[.val (.int x0_0), .val (.int k6), .val (.ref w_OPTIONS), .val .null] [(.int (1 : Int32))]))
            refine own_step (fun t k => XS.goto X71.here hx rfl (pc0 := 27) (pc' := 31) rfl (hb hby at_27) (by decide) (by decide) k) ?_
            show own_Ends p.tables e below s _ _ _ (T71.setTop (mkF m 31 #[.val (.int x0_0), .val (.int k6), .val (.ref w_OPTIONS), .val .null] [(.int (1 : Int32))]))
            exact own_retN X71 hx (t := .boolean) Bd.returns (by simp) (hb hby at_31) hnl (by rw [e71]; exact ⟨rfl, N72⟩) (by decide) (by decide)
set_option maxRecDepth 65536 in
set_option maxHeartbeats 40000000 in
theorem comes_1 {Post : Tables → Env → Array Value → State → Outcome → State → Prop} (hpost : ∀ tb e args s v u, (limb_1_1.after args s (.returned v) u = true ∧ limb_1_2.after args s (.returned v) u = true ∧ True) → FrameEnd s (.returned v) u (Jvm.fieldLocs frame_1_writes args s ++ Jvm.arrayLocs frame_1_arrays args s ++ Jvm.staticLocs frame_1_statics s) 16 128 → Post tb e args s (.returned v) u) :
    ArmFor flags0 classFile x code maxLocals ret World_1 tables_1 room_1 Calls_1 rest_1 Pre_1 Post := by
  intro l hfl _ _ p e ha hc hk s m args below hf hA hF happ hP
  obtain ⟨hcalls, hrest, hpre⟩ := hP
  obtain ⟨-, -, -, hnamed, -, -, -, hat⟩ := (Spec.applies_iff hf).mp happ
  obtain ⟨hg, hn⟩ := and_e (Cond.before_iff.mp (show (Jvm.Cond.and given_1 narrow_1).before args s = true from hpre))
  obtain ⟨hh1a, hh1b⟩ := and_e hg
  obtain ⟨hh2a, hh2b⟩ := and_e hn
  obtain ⟨hh3a, hh3b⟩ := and_e hh2b
  obtain ⟨hh4a, hh4b⟩ := and_e hh3b
  obtain ⟨hh5a, hh5b⟩ := and_e hh4b
  obtain ⟨hh6a, hh6b⟩ := and_e hh5b
  obtain ⟨hh7a, hh7b⟩ := and_e hh6b
  obtain ⟨hh8a, hh8b⟩ := and_e hh7b
  obtain ⟨hh9a, hh9b⟩ := and_e hh8b
  obtain ⟨hh10a, hh10b⟩ := and_e hh9b
  obtain ⟨hh11a, hh11b⟩ := and_e hh10b
  obtain ⟨hh12a, hh12b⟩ := and_e hh11b
  obtain ⟨hh13a, hh13b⟩ := and_e hh12b
  obtain ⟨hh14a, hh14b⟩ := and_e hh13b
  obtain ⟨hh15a, hh15b⟩ := and_e hh14b
  obtain ⟨hh16a, hh16b⟩ := and_e hh15b
  obtain ⟨hh17a, hh17b⟩ := and_e hh16b
  obtain ⟨hh18a, hh18b⟩ := and_e hh17b
  obtain ⟨hh19a, hh19b⟩ := and_e hh18b
  obtain ⟨hh20a, hh20b⟩ := and_e hh19b
  obtain ⟨hh21a, hh21b⟩ := and_e hh20b
  obtain ⟨hh22a, hh22b⟩ := and_e hh21b
  obtain ⟨hh23a, hh23b⟩ := and_e hh22b
  obtain ⟨hh24a, hh24b⟩ := and_e hh23b
  obtain ⟨w0, rfl⟩ : ∃ w0 : Value, args = #[w0] := by
    have hs : args.size = 1 := by simpa [Cond.value, given_1] using hh1a
    obtain ⟨L⟩ := args
    match L, hs with
    | [w0], _ => exact ⟨w0, rfl⟩
  have hw := fun d (hd : d ∈ tables_1) => atoms_spec (ws := Jvm.Cond.code x code maxLocals ret :: tables_1) hat d (List.mem_cons_of_mem _ hd)
  have hfit : Fit s := fun {y c} hc i hi => by
    obtain ⟨ha, rfl⟩ := Array.getElem?_eq_some_iff.mp hc
    have q := List.all_eq_true.mp ((Array.all_eq_true_iff_forall_mem.mp hF) _ (Array.getElem_mem ha)) i (List.mem_range.mpr hi)
    simpa [Array.getElem?_eq_getElem hi] using q
  obtain ⟨i0, ei0⟩ := is_v hh1b
  obtain rfl : w0 = (.int i0) := Option.some.inj ei0
  obtain ⟨w_GET, ev_GET⟩ := exa_v hh2a
  have S_GET : Sta s s.heap "com/example/navigable_rest/navigablerest/Method" "GET" "Lcom/example/navigable_rest/navigablerest/Method;" (.ref w_GET) := Sta.start ev_GET (Or.inr ⟨(hw _ (List.mem_of_getElem? (i := 6) rfl)), (hw _ (List.mem_of_getElem? (i := 7) rfl))⟩)
  have E_w_GET : Exa s s.heap w_GET "com/example/navigable_rest/navigablerest/Method" := Exa.start ev_GET hh2a
  obtain ⟨w__VALUES, ev__VALUES⟩ := exa_v hh4a
  have S__VALUES : Sta s s.heap "com/example/navigable_rest/navigablerest/Operation" "$VALUES" "[Lcom/example/navigable_rest/navigablerest/Operation;" (.ref w__VALUES) := Sta.start ev__VALUES (Or.inr ⟨(hw _ (List.mem_of_getElem? (i := 10) rfl)), (hw _ (List.mem_of_getElem? (i := 16) rfl))⟩)
  have E_w__VALUES : Exa s s.heap w__VALUES "[Lcom/example/navigable_rest/navigablerest/Operation;" := Exa.start ev__VALUES hh4a
  obtain ⟨w_CREATE, ev_CREATE⟩ := exa_v hh6a
  have S_CREATE : Sta s s.heap "com/example/navigable_rest/navigablerest/Operation" "CREATE" "Lcom/example/navigable_rest/navigablerest/Operation;" (.ref w_CREATE) := Sta.start ev_CREATE (Or.inr ⟨(hw _ (List.mem_of_getElem? (i := 10) rfl)), (hw _ (List.mem_of_getElem? (i := 24) rfl))⟩)
  have E_w_CREATE : Exa s s.heap w_CREATE "com/example/navigable_rest/navigablerest/Operation" := Exa.start ev_CREATE hh6a
  obtain ⟨w_UPDATE, ev_UPDATE⟩ := exa_v hh8a
  have S_UPDATE : Sta s s.heap "com/example/navigable_rest/navigablerest/Operation" "UPDATE" "Lcom/example/navigable_rest/navigablerest/Operation;" (.ref w_UPDATE) := Sta.start ev_UPDATE (Or.inr ⟨(hw _ (List.mem_of_getElem? (i := 10) rfl)), (hw _ (List.mem_of_getElem? (i := 25) rfl))⟩)
  have E_w_UPDATE : Exa s s.heap w_UPDATE "com/example/navigable_rest/navigablerest/Operation" := Exa.start ev_UPDATE hh8a
  obtain ⟨w_Operation_DELETE, ev_Operation_DELETE⟩ := exa_v hh10a
  have S_Operation_DELETE : Sta s s.heap "com/example/navigable_rest/navigablerest/Operation" "DELETE" "Lcom/example/navigable_rest/navigablerest/Operation;" (.ref w_Operation_DELETE) := Sta.start ev_Operation_DELETE (Or.inr ⟨(hw _ (List.mem_of_getElem? (i := 10) rfl)), (hw _ (List.mem_of_getElem? (i := 26) rfl))⟩)
  have E_w_Operation_DELETE : Exa s s.heap w_Operation_DELETE "com/example/navigable_rest/navigablerest/Operation" := Exa.start ev_Operation_DELETE hh10a
  obtain ⟨w_POST, ev_POST⟩ := exa_v hh12a
  have S_POST : Sta s s.heap "com/example/navigable_rest/navigablerest/Method" "POST" "Lcom/example/navigable_rest/navigablerest/Method;" (.ref w_POST) := Sta.start ev_POST (Or.inr ⟨(hw _ (List.mem_of_getElem? (i := 6) rfl)), (hw _ (List.mem_of_getElem? (i := 32) rfl))⟩)
  have E_w_POST : Exa s s.heap w_POST "com/example/navigable_rest/navigablerest/Method" := Exa.start ev_POST hh12a
  obtain ⟨w_PATCH, ev_PATCH⟩ := exa_v hh16a
  have S_PATCH : Sta s s.heap "com/example/navigable_rest/navigablerest/Method" "PATCH" "Lcom/example/navigable_rest/navigablerest/Method;" (.ref w_PATCH) := Sta.start ev_PATCH (Or.inr ⟨(hw _ (List.mem_of_getElem? (i := 6) rfl)), (hw _ (List.mem_of_getElem? (i := 33) rfl))⟩)
  have E_w_PATCH : Exa s s.heap w_PATCH "com/example/navigable_rest/navigablerest/Method" := Exa.start ev_PATCH hh16a
  obtain ⟨w_Method_DELETE, ev_Method_DELETE⟩ := exa_v hh19a
  have S_Method_DELETE : Sta s s.heap "com/example/navigable_rest/navigablerest/Method" "DELETE" "Lcom/example/navigable_rest/navigablerest/Method;" (.ref w_Method_DELETE) := Sta.start ev_Method_DELETE (Or.inr ⟨(hw _ (List.mem_of_getElem? (i := 6) rfl)), (hw _ (List.mem_of_getElem? (i := 34) rfl))⟩)
  have E_w_Method_DELETE : Exa s s.heap w_Method_DELETE "com/example/navigable_rest/navigablerest/Method" := Exa.start ev_Method_DELETE hh19a
  obtain ⟨w_HEAD, ev_HEAD⟩ := exa_v hh22a
  have S_HEAD : Sta s s.heap "com/example/navigable_rest/navigablerest/Method" "HEAD" "Lcom/example/navigable_rest/navigablerest/Method;" (.ref w_HEAD) := Sta.start ev_HEAD (Or.inr ⟨(hw _ (List.mem_of_getElem? (i := 6) rfl)), (hw _ (List.mem_of_getElem? (i := 43) rfl))⟩)
  have E_w_HEAD : Exa s s.heap w_HEAD "com/example/navigable_rest/navigablerest/Method" := Exa.start ev_HEAD hh22a
  obtain ⟨w_OPTIONS, ev_OPTIONS⟩ := exa_v hh24a
  have S_OPTIONS : Sta s s.heap "com/example/navigable_rest/navigablerest/Method" "OPTIONS" "Lcom/example/navigable_rest/navigablerest/Method;" (.ref w_OPTIONS) := Sta.start ev_OPTIONS (Or.inr ⟨(hw _ (List.mem_of_getElem? (i := 6) rfl)), (hw _ (List.mem_of_getElem? (i := 45) rfl))⟩)
  have E_w_OPTIONS : Exa s s.heap w_OPTIONS "com/example/navigable_rest/navigablerest/Method" := Exa.start ev_OPTIONS hh24a
  have F_ordinal_w_POST : Fld s s.heap w_POST "java/lang/Enum" "ordinal" "I" (.int (2 : Int32)) := own_fld ev_POST hh14a
  have F_ordinal_w_GET : Fld s s.heap w_GET "java/lang/Enum" "ordinal" "I" (.int (0 : Int32)) := own_fld ev_GET hh15a
  have F_ordinal_w_PATCH : Fld s s.heap w_PATCH "java/lang/Enum" "ordinal" "I" (.int (3 : Int32)) := own_fld ev_PATCH hh18a
  have F_ordinal_w_Method_DELETE : Fld s s.heap w_Method_DELETE "java/lang/Enum" "ordinal" "I" (.int (4 : Int32)) := own_fld ev_Method_DELETE hh21a
  have F_ordinal_w_HEAD : Fld s s.heap w_HEAD "java/lang/Enum" "ordinal" "I" (.int (1 : Int32)) := own_fld ev_HEAD hh23a
  have F_ordinal_w_OPTIONS : Fld s s.heap w_OPTIONS "java/lang/Enum" "ordinal" "I" (.int (5 : Int32)) := own_fld ev_OPTIONS hh24b
  obtain ⟨clV, ArV⟩ := Arr.start ev__VALUES hh3a
  obtain ⟨hq1, hq2⟩ := own_len ev__VALUES hh5a (Arr.fin (Vm.Alike.refl _) ArV)
  have hel0 := own_elemR ev__VALUES ev_CREATE hh7a ArV.1
  have hel1 := own_elemR ev__VALUES ev_UPDATE hh9a ArV.1
  have hel2 := own_elemR ev__VALUES ev_Operation_DELETE hh11a ArV.1
  have VV : Arv s s.heap w__VALUES clV.cls (.object "com/example/navigable_rest/navigablerest/Operation") (3 : Int32) [(.ref w_CREATE), (.ref w_UPDATE), (.ref w_Operation_DELETE)] .null := Arv.start hfit ArV hq1 hq2 (by decide) rfl ⟨hel0, hel1, hel2, trivial⟩
  have EV := E_w__VALUES
  have F_method_w_CREATE := own_fldR ev_CREATE ev_POST hh13a
  have F_method_w_UPDATE := own_fldR ev_UPDATE ev_PATCH hh17a
  have F_method_w_Operation_DELETE := own_fldR ev_Operation_DELETE ev_Method_DELETE hh20a
  let kV := clV.cls
  obtain ⟨n, o, h1, h2, h3, _, L, rfl, ⟨rfl, N⟩, hq⟩ := rm0 l s _ hw tables_1 w__VALUES kV w_CREATE w_UPDATE w_Operation_DELETE w_GET w_HEAD w_POST w_PATCH w_Method_DELETE w_OPTIONS i0 s.heap s.heap.size (Old.start s) VV EV (Fld.ne F_ordinal_w_GET F_ordinal_w_POST (by decide)) (Fld.ne F_ordinal_w_GET F_ordinal_w_PATCH (by decide)) (Fld.ne F_ordinal_w_GET F_ordinal_w_Method_DELETE (by decide)) (Fld.ne F_ordinal_w_HEAD F_ordinal_w_POST (by decide)) (Fld.ne F_ordinal_w_HEAD F_ordinal_w_PATCH (by decide)) (Fld.ne F_ordinal_w_HEAD F_ordinal_w_Method_DELETE (by decide)) (Fld.ne F_ordinal_w_POST F_ordinal_w_PATCH (by decide)) (Fld.ne F_ordinal_w_POST F_ordinal_w_Method_DELETE (by decide)) (Fld.ne F_ordinal_w_PATCH F_ordinal_w_Method_DELETE (by decide)) (Fld.ne F_ordinal_w_OPTIONS F_ordinal_w_POST (by decide)) (Fld.ne F_ordinal_w_OPTIONS F_ordinal_w_PATCH (by decide)) (Fld.ne F_ordinal_w_OPTIONS F_ordinal_w_Method_DELETE (by decide)) S_GET S_HEAD S_POST S_PATCH S_Method_DELETE S_OPTIONS S__VALUES F_method_w_CREATE F_method_w_UPDATE F_method_w_Operation_DELETE S_CREATE S_UPDATE S_Operation_DELETE p e ha hc hk s m _ below hf ((Spec.applies_iff_loose hf).mp happ).1 ⟨rfl, State.Warmed39.refl s, rfl⟩ trivial
  refine ⟨n, _, h1, h2, h3, hpost _ _ _ _ _ _ ⟨Cond.after_iff.mpr rfl, Cond.after_iff.mpr (eq_i res_at (Term.int_eval (1)) rfl), trivial⟩ ⟨hq.1, hq.2.1, (hq.2.2.sift fun y hy => Or.inr (N y hy)).mono (by decide) (by decide)⟩⟩
theorem main_1_1 : Claimed_1_1 := comes_1 fun _ _ _ _ _ _ h hF => ⟨h.1, hF⟩
theorem main_1_2 : Claimed_1_2 := comes_1 fun _ _ _ _ _ _ h hF => ⟨h.2.1, hF⟩
end Jvm.Pilot.@@N@@
namespace Jvm.Pilot.@@N@@
open Jvm Jvm.ClassFile Sem Op Lib Jvm.Free Jvm.Stand Jvm.Pilot.@@N@@.Jvm.D
/-! MADE BY PROGRAM (witnessworld.py) out of the Statement's table words and the real class files: 14 classes; the members and pool entries that the words name. The judged class is class 1, her method 3. -/
namespace start1
open Jvm.ClassFile
def u (s : String) : CpInfo := .utf8 (stringToUtf16 s)
/-- a pool by its gaps: so many unusable entries, then the entry; so many at the end -/
def gap : Nat → List CpInfo → List CpInfo
  | 0, r => r
  | n + 1, r => .unusable :: gap n r
def poolList (es : List (Nat × CpInfo)) (last : Nat) : List CpInfo := es.foldr (fun e r => gap e.1 (e.2 :: r)) (gap last [])
def pool (es : List (Nat × CpInfo)) (last : Nat) : Array CpInfo := ⟨poolList es last⟩
def fileOf (pool : Array CpInfo) (this : Nat) (attrs : Array Attribute := #[]) (ms : Array MethodInfo := #[]) (fl : Nat := 33) (sup : Nat := 0) (ifs : Array Nat := #[]) (fds : Array FieldInfo := #[]) : ClassFile where
  minorVersion := 0
  majorVersion := 65
  constantPool := pool
  accessFlags := fl
  thisClass := this
  superClass := sup
  interfaces := ifs
  fields := fds
  methods := ms
  attributes := attrs
def plain (name : String) (sup : Option ClassId) : Class where
  name := name
  kind := .ordinary
  loader := none
  accessFlags := 33
  super := sup
  interfaces := #[]
  cf := none
  fields := #[]
  methods := #[]
  instanceTypes := #[]
  staticTypes := #[]
  resolved := #[]
  callSites := []
  init := .initialized
  statics := none
  mirror := none

def pool0 : Array CpInfo := pool [(5, u "<init>"), (0, u "()V"), (1, .class_ 10), (1, u "java/lang/Object"), (85, u "clone"), (0, u "()Ljava/lang/Object;")] 26

def k0m0 : Method := { name := "<init>", desc := "()V", sig := { parameters := [], returnType := none }, accessFlags := 1, code := none }
def k0m1 : Method := { name := "clone", desc := "()Ljava/lang/Object;", sig := { parameters := [], returnType := some (.object "java/lang/Object") }, accessFlags := 260, code := none }
/-- java/lang/Object -/
def k0 : Class := { plain "java/lang/Object" none with
  accessFlags := 33
  interfaces := #[]
  cf := some (fileOf pool0 8 #[] #[{ accessFlags := 1, nameIndex := 5, descriptorIndex := 6, attributes := #[] }, { accessFlags := 260, nameIndex := 96, descriptorIndex := 97, attributes := #[] }] 33 0 #[] #[])
  fields := #[]
  methods := #[k0m0, k0m1]
  instanceTypes := #[]
  staticTypes := #[]
  resolved := Array.replicate 124 none
  statics := none }

def pool1 : Array CpInfo := pool [(2, .class_ 4), (1, u "java/lang/Object"), (0, u "<init>"), (0, u "()V"), (0, .fieldref 8 9), (0, .class_ 10), (0, .nameAndType 11 12), (0, u "com/example/navigable_rest/navigablerest/Method"), (0, u "GET"), (0, u "Lcom/example/navigable_rest/navigablerest/Method;"), (0, .fieldref 8 14), (0, .nameAndType 15 12), (0, u "HEAD"), (0, .fieldref 8 17), (0, .nameAndType 18 12), (0, u "POST"), (0, .fieldref 8 20), (0, .nameAndType 21 12), (0, u "PATCH"), (0, .fieldref 8 23), (0, .nameAndType 24 12), (0, u "DELETE"), (0, .fieldref 8 26), (0, .nameAndType 27 12), (0, u "OPTIONS"), (0, .fieldref 29 30), (0, .class_ 31), (0, .nameAndType 32 33), (0, u "com/example/navigable_rest/navigablerest/Operation"), (0, u "CREATE"), (0, u "Lcom/example/navigable_rest/navigablerest/Operation;"), (0, .fieldref 29 35), (0, .nameAndType 36 33), (0, u "UPDATE"), (0, .fieldref 29 38), (0, .nameAndType 24 33), (0, .integer 2147483647), (0, .methodref 41 42), (0, .class_ 43), (0, .nameAndType 44 45), (0, u "com/example/navigable_rest/navigablerest/OperationOfPinLaw"), (0, u "pick"), (0, u "(I)Lcom/example/navigable_rest/navigablerest/Method;"), (0, .methodref 29 47), (0, .nameAndType 48 49), (0, u "of"), (0, u "(Lcom/example/navigable_rest/navigablerest/Method;)Lcom/example/navigable_rest/navigablerest/Operation;"), (0, .methodref 41 51), (0, .nameAndType 52 53), (0, u "expected"), (0, u "(I)Lcom/example/navigable_rest/navigablerest/Operation;"), (3, u "law"), (0, u "(I)Z")] 2

def k1m0 : Method := { name := "<init>", desc := "()V", sig := { parameters := [], returnType := none }, accessFlags := 2, code := none }
def k1c1 : Code := { maxStack := 2, maxLocals := 1, code := method_2_code, exceptionTable := #[], attributes := #[] }
def k1m1 : Method := { name := "pick", desc := "(I)Lcom/example/navigable_rest/navigablerest/Method;", sig := { parameters := [.int], returnType := some (.object "com/example/navigable_rest/navigablerest/Method") }, accessFlags := 10, code := some k1c1 }
def k1c2 : Code := { maxStack := 2, maxLocals := 1, code := method_3_code, exceptionTable := #[], attributes := #[] }
def k1m2 : Method := { name := "expected", desc := "(I)Lcom/example/navigable_rest/navigablerest/Operation;", sig := { parameters := [.int], returnType := some (.object "com/example/navigable_rest/navigablerest/Operation") }, accessFlags := 10, code := some k1c2 }
def k1c3 : Code := { maxStack := 2, maxLocals := 4, code := code, exceptionTable := #[], attributes := #[] }
def k1m3 : Method := { name := "law", desc := "(I)Z", sig := { parameters := [.int], returnType := some .boolean }, accessFlags := 9, code := some k1c3 }
/-- com/example/navigable_rest/navigablerest/OperationOfPinLaw -/
def k1 : Class := { plain "com/example/navigable_rest/navigablerest/OperationOfPinLaw" (some 0) with
  accessFlags := 49
  interfaces := #[]
  cf := some (fileOf pool1 41 #[] #[{ accessFlags := 2, nameIndex := 5, descriptorIndex := 6, attributes := #[] }, { accessFlags := 10, nameIndex := 44, descriptorIndex := 45, attributes := #[] }, { accessFlags := 10, nameIndex := 52, descriptorIndex := 53, attributes := #[] }, { accessFlags := 9, nameIndex := 57, descriptorIndex := 58, attributes := #[] }] 49 2 #[] #[])
  fields := #[]
  methods := #[k1m0, k1m1, k1m2, k1m3]
  instanceTypes := #[]
  staticTypes := #[]
  resolved := Array.replicate 61 none
  statics := none }

def pool2 : Array CpInfo := pool [(1, .class_ 2), (0, u "java/lang/constant/Constable"), (0, .class_ 4), (0, u "java/lang/Object")] 6

/-- java/lang/constant/Constable -/
def k2 : Class := { plain "java/lang/constant/Constable" (some 0) with
  accessFlags := 1537
  interfaces := #[]
  cf := some (fileOf pool2 1 #[] #[] 1537 3 #[] #[])
  fields := #[]
  methods := #[]
  instanceTypes := #[]
  staticTypes := #[]
  resolved := Array.replicate 11 none
  statics := none }

def pool3 : Array CpInfo := pool [(1, .class_ 2), (0, u "java/lang/Comparable"), (0, .class_ 4), (0, u "java/lang/Object")] 7

/-- java/lang/Comparable -/
def k3 : Class := { plain "java/lang/Comparable" (some 0) with
  accessFlags := 1537
  interfaces := #[]
  cf := some (fileOf pool3 1 #[] #[] 1537 3 #[] #[])
  fields := #[]
  methods := #[]
  instanceTypes := #[]
  staticTypes := #[]
  resolved := Array.replicate 12 none
  statics := none }

def pool4 : Array CpInfo := pool [(1, .class_ 2), (0, u "java/io/Serializable"), (0, .class_ 4), (0, u "java/lang/Object")] 2

/-- java/io/Serializable -/
def k4 : Class := { plain "java/io/Serializable" (some 0) with
  accessFlags := 1537
  interfaces := #[]
  cf := some (fileOf pool4 1 #[] #[] 1537 3 #[] #[])
  fields := #[]
  methods := #[]
  instanceTypes := #[]
  staticTypes := #[]
  resolved := Array.replicate 7 none
  statics := none }

def pool5 : Array CpInfo := pool [(2, .class_ 4), (1, u "java/lang/Enum"), (0, u "name"), (0, u "Ljava/lang/String;"), (2, u "ordinal"), (0, u "I"), (1, .class_ 14), (1, u "java/lang/Object"), (4, u "hash"), (86, .class_ 108), (1, u "java/lang/Enum$EnumDesc"), (2, .class_ 112), (0, u "java/lang/constant/Constable"), (0, .class_ 114), (0, u "java/lang/Comparable"), (0, .class_ 116), (0, u "java/io/Serializable")] 87

/-- java/lang/Enum -/
def k5 : Class := { plain "java/lang/Enum" (some 0) with
  accessFlags := 1057
  interfaces := #[2, 3, 4]
  cf := some (fileOf pool5 2 #[.nestMembers #[106]] #[] 1057 12 #[111, 113, 115] #[{ accessFlags := 18, nameIndex := 5, descriptorIndex := 6, attributes := #[] }, { accessFlags := 18, nameIndex := 9, descriptorIndex := 10, attributes := #[] }, { accessFlags := 2, nameIndex := 19, descriptorIndex := 10, attributes := #[] }])
  fields := #[{ name := "name", type := (.object "java/lang/String"), accessFlags := 18, slot := 0, constantValue := 0 }, { name := "ordinal", type := .int, accessFlags := 18, slot := 1, constantValue := 0 }, { name := "hash", type := .int, accessFlags := 2, slot := 2, constantValue := 0 }]
  methods := #[]
  instanceTypes := #[(.object "java/lang/String"), .int, .int]
  staticTypes := #[]
  resolved := Array.replicate 204 none
  statics := none }

def pool6 : Array CpInfo := pool [(1, .class_ 2), (0, u "com/example/navigable_rest/navigablerest/Method"), (2, u "GET"), (0, u "Lcom/example/navigable_rest/navigablerest/Method;"), (2, u "HEAD"), (2, u "POST"), (2, u "PATCH"), (2, u "DELETE"), (2, u "OPTIONS"), (2, u "$VALUES"), (0, u "[Lcom/example/navigable_rest/navigablerest/Method;"), (6, .class_ 34), (1, u "java/lang/Enum"), (8, u "safe"), (0, u "Z")] 78

/-- com/example/navigable_rest/navigablerest/Method -/
def k6 : Class := { plain "com/example/navigable_rest/navigablerest/Method" (some 5) with
  accessFlags := 16432
  interfaces := #[]
  cf := some (fileOf pool6 1 #[] #[] 16432 32 #[] #[{ accessFlags := 16409, nameIndex := 5, descriptorIndex := 6, attributes := #[] }, { accessFlags := 16409, nameIndex := 9, descriptorIndex := 6, attributes := #[] }, { accessFlags := 16409, nameIndex := 12, descriptorIndex := 6, attributes := #[] }, { accessFlags := 16409, nameIndex := 15, descriptorIndex := 6, attributes := #[] }, { accessFlags := 16409, nameIndex := 18, descriptorIndex := 6, attributes := #[] }, { accessFlags := 16409, nameIndex := 21, descriptorIndex := 6, attributes := #[] }, { accessFlags := 18, nameIndex := 43, descriptorIndex := 44, attributes := #[] }, { accessFlags := 4122, nameIndex := 24, descriptorIndex := 25, attributes := #[] }])
  fields := #[{ name := "GET", type := (.object "com/example/navigable_rest/navigablerest/Method"), accessFlags := 16409, slot := 0, constantValue := 0 }, { name := "HEAD", type := (.object "com/example/navigable_rest/navigablerest/Method"), accessFlags := 16409, slot := 1, constantValue := 0 }, { name := "POST", type := (.object "com/example/navigable_rest/navigablerest/Method"), accessFlags := 16409, slot := 2, constantValue := 0 }, { name := "PATCH", type := (.object "com/example/navigable_rest/navigablerest/Method"), accessFlags := 16409, slot := 3, constantValue := 0 }, { name := "DELETE", type := (.object "com/example/navigable_rest/navigablerest/Method"), accessFlags := 16409, slot := 4, constantValue := 0 }, { name := "OPTIONS", type := (.object "com/example/navigable_rest/navigablerest/Method"), accessFlags := 16409, slot := 5, constantValue := 0 }, { name := "safe", type := .boolean, accessFlags := 18, slot := 3, constantValue := 0 }, { name := "$VALUES", type := (.array (.object "com/example/navigable_rest/navigablerest/Method")), accessFlags := 4122, slot := 6, constantValue := 0 }]
  methods := #[]
  instanceTypes := #[(.object "java/lang/String"), .int, .int, .boolean]
  staticTypes := #[(.object "com/example/navigable_rest/navigablerest/Method"), (.object "com/example/navigable_rest/navigablerest/Method"), (.object "com/example/navigable_rest/navigablerest/Method"), (.object "com/example/navigable_rest/navigablerest/Method"), (.object "com/example/navigable_rest/navigablerest/Method"), (.object "com/example/navigable_rest/navigablerest/Method"), (.array (.object "com/example/navigable_rest/navigablerest/Method"))]
  resolved := Array.replicate 123 none
  statics := some 0 }

def pool7 : Array CpInfo := pool [(1, .class_ 2), (0, u "com/example/navigable_rest/navigablerest/Operation"), (2, u "CREATE"), (0, u "Lcom/example/navigable_rest/navigablerest/Operation;"), (2, u "UPDATE"), (2, u "DELETE"), (0, .fieldref 1 14), (0, .nameAndType 15 16), (0, u "$VALUES"), (0, u "[Lcom/example/navigable_rest/navigablerest/Operation;"), (0, .methodref 18 19), (0, .class_ 16), (0, .nameAndType 20 21), (0, u "clone"), (0, u "()Ljava/lang/Object;"), (1, .class_ 25), (1, u "java/lang/Enum"), (6, .fieldref 1 33), (0, .nameAndType 34 35), (0, u "method"), (0, u "Lcom/example/navigable_rest/navigablerest/Method;"), (2, u "onItem"), (0, u "Z"), (2, u "acceptField"), (0, u "Ljava/lang/String;"), (2, u "mediaTypes"), (0, .methodref 1 48), (0, .nameAndType 49 50), (0, u "values"), (0, u "()[Lcom/example/navigable_rest/navigablerest/Operation;"), (29, u "of"), (41, u "(Lcom/example/navigable_rest/navigablerest/Method;)Lcom/example/navigable_rest/navigablerest/Operation;")] 13

def k7c0 : Code := { maxStack := 1, maxLocals := 0, code := prog_10_method_1_code, exceptionTable := #[], attributes := #[] }
def k7m0 : Method := { name := "values", desc := "()[Lcom/example/navigable_rest/navigablerest/Operation;", sig := { parameters := [], returnType := some (.array (.object "com/example/navigable_rest/navigablerest/Operation")) }, accessFlags := 9, code := some k7c0 }
def k7c1 : Code := { maxStack := 2, maxLocals := 6, code := prog_10_method_4_code, exceptionTable := #[], attributes := #[] }
def k7m1 : Method := { name := "of", desc := "(Lcom/example/navigable_rest/navigablerest/Method;)Lcom/example/navigable_rest/navigablerest/Operation;", sig := { parameters := [(.object "com/example/navigable_rest/navigablerest/Method")], returnType := some (.object "com/example/navigable_rest/navigablerest/Operation") }, accessFlags := 8, code := some k7c1 }
/-- com/example/navigable_rest/navigablerest/Operation -/
def k7 : Class := { plain "com/example/navigable_rest/navigablerest/Operation" (some 5) with
  accessFlags := 16433
  interfaces := #[]
  cf := some (fileOf pool7 1 #[] #[{ accessFlags := 9, nameIndex := 49, descriptorIndex := 50, attributes := #[] }, { accessFlags := 8, nameIndex := 80, descriptorIndex := 122, attributes := #[] }] 16433 23 #[] #[{ accessFlags := 16409, nameIndex := 5, descriptorIndex := 6, attributes := #[] }, { accessFlags := 16409, nameIndex := 9, descriptorIndex := 6, attributes := #[] }, { accessFlags := 16409, nameIndex := 12, descriptorIndex := 6, attributes := #[] }, { accessFlags := 18, nameIndex := 34, descriptorIndex := 35, attributes := #[] }, { accessFlags := 18, nameIndex := 38, descriptorIndex := 39, attributes := #[] }, { accessFlags := 18, nameIndex := 42, descriptorIndex := 43, attributes := #[] }, { accessFlags := 18, nameIndex := 46, descriptorIndex := 43, attributes := #[] }, { accessFlags := 4122, nameIndex := 15, descriptorIndex := 16, attributes := #[] }])
  fields := #[{ name := "CREATE", type := (.object "com/example/navigable_rest/navigablerest/Operation"), accessFlags := 16409, slot := 0, constantValue := 0 }, { name := "UPDATE", type := (.object "com/example/navigable_rest/navigablerest/Operation"), accessFlags := 16409, slot := 1, constantValue := 0 }, { name := "DELETE", type := (.object "com/example/navigable_rest/navigablerest/Operation"), accessFlags := 16409, slot := 2, constantValue := 0 }, { name := "method", type := (.object "com/example/navigable_rest/navigablerest/Method"), accessFlags := 18, slot := 3, constantValue := 0 }, { name := "onItem", type := .boolean, accessFlags := 18, slot := 4, constantValue := 0 }, { name := "acceptField", type := (.object "java/lang/String"), accessFlags := 18, slot := 5, constantValue := 0 }, { name := "mediaTypes", type := (.object "java/lang/String"), accessFlags := 18, slot := 6, constantValue := 0 }, { name := "$VALUES", type := (.array (.object "com/example/navigable_rest/navigablerest/Operation")), accessFlags := 4122, slot := 3, constantValue := 0 }]
  methods := #[k7m0, k7m1]
  instanceTypes := #[(.object "java/lang/String"), .int, .int, (.object "com/example/navigable_rest/navigablerest/Method"), .boolean, (.object "java/lang/String"), (.object "java/lang/String")]
  staticTypes := #[(.object "com/example/navigable_rest/navigablerest/Operation"), (.object "com/example/navigable_rest/navigablerest/Operation"), (.object "com/example/navigable_rest/navigablerest/Operation"), (.array (.object "com/example/navigable_rest/navigablerest/Operation"))]
  resolved := Array.replicate 136 none
  statics := some 1 }

def pool8 : Array CpInfo := pool [(1, .class_ 2), (0, u "java/lang/Cloneable"), (0, .class_ 4), (0, u "java/lang/Object")] 2

/-- java/lang/Cloneable -/
def k8 : Class := { plain "java/lang/Cloneable" (some 0) with
  accessFlags := 1537
  interfaces := #[]
  cf := some (fileOf pool8 1 #[] #[] 1537 3 #[] #[])
  fields := #[]
  methods := #[]
  instanceTypes := #[]
  staticTypes := #[]
  resolved := Array.replicate 7 none
  statics := none }

/-- the primitive byte -/
def k9 : Class := { plain "byte" none with kind := .primitive 'B', accessFlags := 0x411 }
/-- [B -/
def k10 : Class := { plain "[B" (some 0) with kind := .array 9 .byte, interfaces := #[8, 4], accessFlags := 1041 }

/-- the primitive int -/
def k11 : Class := { plain "int" none with kind := .primitive 'I', accessFlags := 0x411 }
/-- [I -/
def k12 : Class := { plain "[I" (some 0) with kind := .array 11 .int, interfaces := #[8, 4], accessFlags := 1041 }

/-- [Lcom/example/navigable_rest/navigablerest/Operation; -/
def k13 : Class := { plain "[Lcom/example/navigable_rest/navigablerest/Operation;" (some 0) with kind := .array 7 (.object "com/example/navigable_rest/navigablerest/Operation"), interfaces := #[8, 4], accessFlags := 1041 }

def heap : Heap := #[{ cls := 6, slots := #[.ref 6, .ref 7, .ref 8, .ref 9, .ref 10, .ref 11, .null], vm := .statics 6 },
  { cls := 7, slots := #[.ref 3, .ref 4, .ref 5, .ref 2], vm := .statics 7 },
  { cls := 13, slots := #[.ref 3, .ref 4, .ref 5], vm := .none },
  { cls := 7, slots := #[.null, .int 0, .int 0, .ref 8, .int 0, .null, .null], vm := .none },
  { cls := 7, slots := #[.null, .int 1, .int 0, .ref 9, .int 0, .null, .null], vm := .none },
  { cls := 7, slots := #[.null, .int 2, .int 0, .ref 10, .int 0, .null, .null], vm := .none },
  { cls := 6, slots := #[.null, .int 0, .int 0, .int 0], vm := .none },
  { cls := 6, slots := #[.null, .int 1, .int 0, .int 0], vm := .none },
  { cls := 6, slots := #[.null, .int 2, .int 0, .int 0], vm := .none },
  { cls := 6, slots := #[.null, .int 3, .int 0, .int 0], vm := .none },
  { cls := 6, slots := #[.null, .int 4, .int 0, .int 0], vm := .none },
  { cls := 6, slots := #[.null, .int 5, .int 0, .int 0], vm := .none }]
def classes : Array Class := #[k0, k1, k2, k3, k4, k5, k6, k7, k8, k9, k10, k11, k12, k13]
def interned : List (Array UInt16 × Addr) := []
def slotsUsed : Nat := 59
def theMethod : MethodId := ⟨1, 3⟩
def args0 : Array Value := #[.int 5]
def aboutOver (below : List Frame) : State where
  vm := { classes := classes, interned := interned.toArray }
  heap := heap
  slotsUsed := slotsUsed
  threads := #[{ frames := .invoking theMethod args0 :: below }]
def below0 : List Frame := [.native { method := ⟨0, 0⟩, args := #[] }]
def about1 : State := aboutOver below0
def p0 : Program := .bare "" "" ""
def e0 : Env := launch0.env 0 0 0
theorem w_frames : about1.frames = Frame.invoking theMethod args0 :: below0 := rfl
set_option maxRecDepth 65536 in
theorem w_args : argsFit about1.vm theMethod args0 = true := by decide +kernel
set_option maxRecDepth 65536 in
theorem w_heap : heapFits about1 = true := by decide +kernel
set_option maxRecDepth 65536 in
theorem w_runnable : about1.curStatus? = some .runnable := by decide +kernel
set_option maxRecDepth 65536 in
theorem w_alone : about1.alone = true := by decide +kernel
set_option maxRecDepth 65536 in
theorem w_named : about1.methodNamed? x = some theMethod := by decide +kernel
set_option maxRecDepth 65536 in
theorem w_hears : about1.hears theMethod below0 = true := by decide +kernel
set_option maxRecDepth 65536 in
theorem w_ripe : about1.ripe theMethod args0 below0 = true := by decide +kernel
theorem w_running : about1.status = .running := rfl
set_option maxRecDepth 65536 in
theorem w_room : about1.hasRoom e0.platform room_1 = true :=
  launch0.hasRoom_least _ room_1 (by decide +kernel) (by decide +kernel) (by decide +kernel) (by decide +kernel) (by decide +kernel) (by decide +kernel)
theorem allAtoms_all (ts : List Jvm.Cond) (a : Array Jvm.Value) (st : Jvm.State) : (allAtoms ts).before a st = ts.all (fun c => c.before a st) := by
  induction ts with
  | nil => rfl
  | cons c t ih =>
    show (Jvm.Cond.and c (allAtoms t)).before a st = _
    rw [Jvm.Cond.before_and, ih, List.all_cons]
def words1 : List Jvm.Cond := Jvm.Cond.code x code maxLocals ret :: tables_1
/-- a 'code' word, met by the world's own term for the bytes: nothing is compared byte by byte -/
theorem code_word {y : MethodName} {bytes : ByteArray} {mx : Nat} {rt : Option FieldType} {a : Array Value} {s : State} {m : MethodId} {meth : Method} {c : Code} (h1 : s.methodNamed? y = some m) (h2 : s.vm.method? m = some meth) (h3 : meth.code = some c) (h4 : c.code = bytes)
    (h5 : (c.maxLocals == mx && c.exceptionTable.isEmpty && decide (c.maxStack ≤ mostOperands) && decide (meth.sig.returnType = rt) && !meth.locks && decide (parseMethodDescriptor y.desc = some meth.sig)) = true) : (Jvm.Cond.code y bytes mx rt).before a s = true := by
  simp only [Bool.and_eq_true, beq_iff_eq, Bool.not_eq_true', decide_eq_true_eq] at h5
  obtain ⟨⟨⟨⟨⟨g1, g2⟩, g3⟩, g4⟩, g5⟩, g6⟩ := h5
  simp [Cond.before, Cond.holds, Cond.value, h1, h2, h3, h4, g1, g2, g3, g4, g5, g6]
def isCode : Jvm.Cond → Bool
  | .code _ _ _ _ => true
  | _ => false
theorem all_split {L : List Jvm.Cond} {P : Jvm.Cond → Bool} (h1 : L.all (fun c => isCode c || P c) = true) (h2 : ∀ c ∈ L.filter isCode, P c = true) : L.all P = true := by
  refine List.all_eq_true.mpr fun c hc => ?_
  have h := List.all_eq_true.mp h1 c hc
  rcases Bool.eq_false_or_eq_true (isCode c) with hi | hi
  · exact h2 c (List.mem_filter.mpr ⟨hc, hi⟩)
  · simpa [hi] using h
set_option maxRecDepth 65536 in
theorem w_c0 : (Jvm.Cond.code x code maxLocals ret).before args0 about1 = true := code_word (m := ⟨1, 3⟩) (meth := k1m3) (c := k1c3) (by decide +kernel) rfl rfl rfl (by decide +kernel)
set_option maxRecDepth 65536 in
theorem w_c1 : (Jvm.Cond.code ({ cls := "com/example/navigable_rest/navigablerest/OperationOfPinLaw", name := "pick", desc := "(I)Lcom/example/navigable_rest/navigablerest/Method;" } : Jvm.MethodName) method_2_code (1 : Nat) (Option.some (Jvm.ClassFile.FieldType.object "com/example/navigable_rest/navigablerest/Method"))).before args0 about1 = true := code_word (m := ⟨1, 1⟩) (meth := k1m1) (c := k1c1) (by decide +kernel) rfl rfl rfl (by decide +kernel)
set_option maxRecDepth 65536 in
theorem w_c2 : (Jvm.Cond.code ({ cls := "com/example/navigable_rest/navigablerest/Operation", name := "of", desc := "(Lcom/example/navigable_rest/navigablerest/Method;)Lcom/example/navigable_rest/navigablerest/Operation;" } : Jvm.MethodName) prog_10_method_4_code (6 : Nat) (Option.some (Jvm.ClassFile.FieldType.object "com/example/navigable_rest/navigablerest/Operation"))).before args0 about1 = true := code_word (m := ⟨7, 1⟩) (meth := k7m1) (c := k7c1) (by decide +kernel) rfl rfl rfl (by decide +kernel)
set_option maxRecDepth 65536 in
theorem w_c3 : (Jvm.Cond.code ({ cls := "com/example/navigable_rest/navigablerest/Operation", name := "values", desc := "()[Lcom/example/navigable_rest/navigablerest/Operation;" } : Jvm.MethodName) prog_10_method_1_code (0 : Nat) (Option.some (Jvm.ClassFile.FieldType.array (Jvm.ClassFile.FieldType.object "com/example/navigable_rest/navigablerest/Operation")))).before args0 about1 = true := code_word (m := ⟨7, 0⟩) (meth := k7m0) (c := k7c0) (by decide +kernel) rfl rfl rfl (by decide +kernel)
set_option maxRecDepth 65536 in
theorem w_c4 : (Jvm.Cond.code ({ cls := "com/example/navigable_rest/navigablerest/OperationOfPinLaw", name := "expected", desc := "(I)Lcom/example/navigable_rest/navigablerest/Operation;" } : Jvm.MethodName) method_3_code (1 : Nat) (Option.some (Jvm.ClassFile.FieldType.object "com/example/navigable_rest/navigablerest/Operation"))).before args0 about1 = true := code_word (m := ⟨1, 2⟩) (meth := k1m2) (c := k1c2) (by decide +kernel) rfl rfl rfl (by decide +kernel)
def codes1 : List Jvm.Cond := [Jvm.Cond.code x code maxLocals ret, Jvm.Cond.code ({ cls := "com/example/navigable_rest/navigablerest/OperationOfPinLaw", name := "pick", desc := "(I)Lcom/example/navigable_rest/navigablerest/Method;" } : Jvm.MethodName) method_2_code (1 : Nat) (Option.some (Jvm.ClassFile.FieldType.object "com/example/navigable_rest/navigablerest/Method")), Jvm.Cond.code ({ cls := "com/example/navigable_rest/navigablerest/Operation", name := "of", desc := "(Lcom/example/navigable_rest/navigablerest/Method;)Lcom/example/navigable_rest/navigablerest/Operation;" } : Jvm.MethodName) prog_10_method_4_code (6 : Nat) (Option.some (Jvm.ClassFile.FieldType.object "com/example/navigable_rest/navigablerest/Operation")), Jvm.Cond.code ({ cls := "com/example/navigable_rest/navigablerest/Operation", name := "values", desc := "()[Lcom/example/navigable_rest/navigablerest/Operation;" } : Jvm.MethodName) prog_10_method_1_code (0 : Nat) (Option.some (Jvm.ClassFile.FieldType.array (Jvm.ClassFile.FieldType.object "com/example/navigable_rest/navigablerest/Operation"))), Jvm.Cond.code ({ cls := "com/example/navigable_rest/navigablerest/OperationOfPinLaw", name := "expected", desc := "(I)Lcom/example/navigable_rest/navigablerest/Operation;" } : Jvm.MethodName) method_3_code (1 : Nat) (Option.some (Jvm.ClassFile.FieldType.object "com/example/navigable_rest/navigablerest/Operation"))]
set_option maxRecDepth 65536 in
theorem codes_eq : words1.filter isCode = codes1 := rfl
theorem w_codes : ∀ c ∈ words1.filter isCode, c.before args0 about1 = true := by
  rw [codes_eq]
  intro c hc
  simp only [codes1, List.mem_cons, List.not_mem_nil, or_false] at hc
  rcases hc with rfl | rfl | rfl | rfl | rfl
  · exact w_c0
  · exact w_c1
  · exact w_c2
  · exact w_c3
  · exact w_c4
set_option maxRecDepth 65536 in
theorem w_t1 : (words1.take 24).all (fun c => isCode c || c.before args0 about1) = true := by decide +kernel
set_option maxRecDepth 65536 in
theorem w_t2 : ((words1.drop 24).take 24).all (fun c => isCode c || c.before args0 about1) = true := by decide +kernel
set_option maxRecDepth 65536 in
theorem w_t3 : ((words1.drop 24).drop 24).all (fun c => isCode c || c.before args0 about1) = true := by decide +kernel
theorem w_tables : (allAtoms (Jvm.Cond.code x code maxLocals ret :: tables_1)).before args0 about1 = true := by
  rw [allAtoms_all]
  show words1.all (fun c => c.before args0 about1) = true
  refine all_split ?_ w_codes
  rw [← List.take_append_drop 24 words1, List.all_append, w_t1, ← List.take_append_drop 24 (words1.drop 24), List.all_append, w_t2, w_t3]
  rfl
set_option maxRecDepth 65536 in
theorem w_case : (Jvm.Cond.and given_1 narrow_1).before args0 about1 = true := by decide +kernel
theorem w_applies : (headSpec (Jvm.Cond.code x code maxLocals ret :: tables_1) room_1).applies x e0.platform about1 = true :=
  (Spec.applies_iff w_frames).mpr ⟨w_running, w_runnable, w_alone, w_named, w_hears, w_ripe, w_room, w_tables⟩
theorem atStart : AtStart classFile x code maxLocals ret World_1 tables_1 room_1 Calls_1 rest_1 Pre_1 launch0 p0 e0 about1 theMethod args0 below0 :=
  ⟨lists_1, trivial, launch0.admits_env _ _ _, launch0.least_env, fairChoices_fair.cas, fairChoices_fair.clock, w_frames, w_args, w_heap, w_applies, trivial, trivial, w_case⟩
end start1
theorem witness_1 : WitnessClaimed_1 := ⟨start1.p0, start1.e0, start1.about1, start1.theMethod, start1.args0, start1.below0, start1.atStart⟩
end Jvm.Pilot.@@N@@
