import JvmDerived
import JvmDerived.Pilot.@@N@@Statement
import JvmDerived.Pilot.@@N@@Code
set_option linter.unusedVariables false
set_option linter.unusedSimpArgs false
namespace Jvm.Pilot.@@N@@
open Jvm Jvm.ClassFile Sem Op Lib Jvm.Free Jvm.Stand Jvm.LawKit Jvm.RoadKit Bundle Jvm.Pilot.@@N@@.Jvm.D
/-- from the state st the run ends, of which Q says what it leaves -/
def own_Ends (tb : Tables) (e : Env) (below : List Frame) (s : State) (Q : Option Value → Heap → List Loc → Prop) (C S : Nat) (st : State) : Prop :=
  ∃ t o, Steps tb e below st t ∧ t.status = .running ∧ Ended t below o ∧ ∃ v L, o = .returned v ∧ Q v t.heap L ∧ FrameEnd s o t L C S
theorem own_step {tb : Tables} {e : Env} {below : List Frame} {s : State} {Q : Option Value → Heap → List Loc → Prop} {C S : Nat} {st st' : State}
    (h : ∀ t, Steps tb e below st' t → Steps tb e below st t) (k : own_Ends tb e below s Q C S st') : own_Ends tb e below s Q C S st := by
  obtain ⟨t, o, h1, h2⟩ := k
  exact ⟨t, o, h t h1, h2⟩
section OwnRet
variable {p : Program} {l : Launch} {e : Env} {R : Room} {s : State} {m : MethodId} {args : Array Value} {below : List Frame} {meth : Method} {c : Code} {T : State} {locs : List Loc} {cells slots : Nat} {Q : Option Value → Heap → List Loc → Prop} {C S : Nat} {pc : Nat} {Ls : Array Slot} {rest : List Value}
theorem own_retW (X : Stand p l e R s m args below meth c T locs cells slots) (hx : p.tables.exec = Jvm.exec) {w : Value} {t : FieldType} {i : Instr} (hret : meth.sig.returnType = some t) (hn : narrow t w = w)
    (hi : (i = .ireturn ∧ (t = .int ∨ t = .boolean ∨ t = .byte ∨ t = .char ∨ t = .short) ∧ ∃ z, w = .int z) ∨ (i = .lreturn ∧ t = .long ∧ ∃ z, w = .long z) ∨ (i = .dreturn ∧ t = .double ∧ ∃ z, w = .double z) ∨ (i = .freturn ∧ t = .float ∧ ∃ z, w = .float z) ∨ (i = .areturn ∧ t.isReference = true ∧ w.isRef = true))
    (hd : decode c.code pc = .ok (i, 1)) (hlocks : meth.locks = false) (hq : Q (some w) T.heap locs) (hc : cells ≤ C) (hs : slots ≤ S) :
    own_Ends p.tables e below s Q C S (T.setTop (mkF m pc Ls (w :: rest))) := by
  obtain ⟨fs, hr, hrun, hended, hW, hsame⟩ := X.leave (v := some w) (fun h => by rw [hret] at h; cases h) hlocks
  exact ⟨_, _, retOut X hx hret hn hi hd hr, hrun, hended, _, _, rfl, hq, ⟨_, rfl⟩, hW, hsame.mono hc hs⟩
theorem own_retI (X : Stand p l e R s m args below meth c T locs cells slots) (hx : p.tables.exec = Jvm.exec) {z : Int32} (hret : meth.sig.returnType = some .int)
    (hd : decode c.code pc = .ok (.ireturn, 1)) (hlocks : meth.locks = false) (hq : Q (some (.int z)) T.heap locs) (hc : cells ≤ C) (hs : slots ≤ S) :
    own_Ends p.tables e below s Q C S (T.setTop (mkF m pc Ls (.int z :: rest))) :=
  own_retW X hx hret rfl (Or.inl ⟨rfl, Or.inl rfl, z, rfl⟩) hd hlocks hq hc hs
theorem own_retJ (X : Stand p l e R s m args below meth c T locs cells slots) (hx : p.tables.exec = Jvm.exec) {z : Int64} (hret : meth.sig.returnType = some .long)
    (hd : decode c.code pc = .ok (.lreturn, 1)) (hlocks : meth.locks = false) (hq : Q (some (.long z)) T.heap locs) (hc : cells ≤ C) (hs : slots ≤ S) :
    own_Ends p.tables e below s Q C S (T.setTop (mkF m pc Ls (.long z :: rest))) :=
  own_retW X hx hret rfl (Or.inr (Or.inl ⟨rfl, rfl, z, rfl⟩)) hd hlocks hq hc hs
theorem own_retR (X : Stand p l e R s m args below meth c T locs cells slots) (hx : p.tables.exec = Jvm.exec) {w : Value} {t : FieldType} (hret : meth.sig.returnType = some t) (ht : t.isReference = true) (hw : w.isRef = true) (hn : narrow t w = w)
    (hd : decode c.code pc = .ok (.areturn, 1)) (hlocks : meth.locks = false) (hq : Q (some w) T.heap locs) (hc : cells ≤ C) (hs : slots ≤ S) :
    own_Ends p.tables e below s Q C S (T.setTop (mkF m pc Ls (w :: rest))) :=
  own_retW X hx hret hn (Or.inr (Or.inr (Or.inr (Or.inr ⟨rfl, ht, hw⟩)))) hd hlocks hq hc hs
theorem own_retN (X : Stand p l e R s m args below meth c T locs cells slots) (hx : p.tables.exec = Jvm.exec) {z : Int32} {t : FieldType} (hret : meth.sig.returnType = some t) (ht : t = .boolean ∨ t = .byte ∨ t = .char ∨ t = .short)
    (hd : decode c.code pc = .ok (.ireturn, 1)) (hlocks : meth.locks = false) (hq : Q (some (.int (nar t z))) T.heap locs) (hc : cells ≤ C) (hs : slots ≤ S) :
    own_Ends p.tables e below s Q C S (T.setTop (mkF m pc Ls (.int z :: rest))) := by
  obtain ⟨fs, hr, hrun, hended, hW, hsame⟩ := X.leave (v := some (.int (nar t z))) (fun h => by rw [hret] at h; cases h) hlocks
  exact ⟨_, _, retN X hx hret ht hd hr, hrun, hended, _, _, rfl, hq, ⟨_, rfl⟩, hW, hsame.mono hc hs⟩
theorem own_ret0 (X : Stand p l e R s m args below meth c T locs cells slots) (hx : p.tables.exec = Jvm.exec) (hret : meth.sig.returnType = none)
    (hd : decode c.code pc = .ok (.return_, 1)) (hlocks : meth.locks = false) (hq : Q none T.heap locs) (hc : cells ≤ C) (hs : slots ≤ S) :
    own_Ends p.tables e below s Q C S (T.setTop (mkF m pc Ls [])) := by
  obtain ⟨fs, hr, hrun, hended, hW, hsame⟩ := X.leave (v := none) (fun _ => rfl) hlocks
  exact ⟨_, _, X.returnOut hx hret hd hr, hrun, hended, _, _, rfl, hq, ⟨_, rfl⟩, hW, hsame.mono hc hs⟩
end OwnRet
theorem own_idx (b n : Int32) (hn : 0 < n.toInt) : ¬ ((b &&& 2147483647) % n) < 0 ∧ ((b &&& 2147483647) % n) < n := by
  have h1 := c_and b 2147483647 (by decide)
  have h2 := (c_iremV (b &&& 2147483647) n).1 h1.1 hn
  constructor
  · rw [Int32.lt_iff_toInt_lt]; show ¬ _ < (0 : Int); omega
  · rw [Int32.lt_iff_toInt_lt]; omega
theorem own_small (v : Int32) (k : Nat) (hk : k < 2147483648) (h1 : ¬ v < 0) (h2 : v < Int32.ofNat k) : ∃ n : Fin k, v = Int32.ofNat n.1 := by
  rw [Int32.lt_iff_toInt_lt] at h1 h2
  rw [Int32.toInt_ofNat_of_lt hk] at h2
  have a : 0 ≤ v.toInt := by simpa using h1
  refine ⟨⟨v.toInt.toNat, by omega⟩, ?_⟩
  apply Int32.toInt_inj.mp
  rw [Int32.toInt_ofNat_of_lt (by show v.toInt.toNat < _; omega)]
  show v.toInt = ((v.toInt.toNat : Nat) : Int)
  omega
theorem own_fld {s : State} {args : Array Value} {t : Term} {a : Addr} {C n d : String} {k : Int32} (ev : t.eval args s none [] s = some (.ref a)) (h : (Jvm.Cond.eq (.field t C n d) (.int k)).value args s none s [] = some true) : Fld s s.heap a C n d (.int k) := by
  obtain ⟨x, y, h1, h2, h3, h4⟩ := cmp_v (Or.inl h)
  rw [fld_at ev] at h1
  have h5 : y = .int k := by have := h2.symm.trans (Term.int_eval k); exact Option.some.inj this
  subst h5
  obtain ⟨z, rfl⟩ := h4
  have q : (Jvm.Cond.eq (.field t C n d) (.int k)).value args s none s [] = some (decide (z = k)) := Cond.eq_ints ((fld_at ev).trans h1) (Term.int_eval k)
  have : z = k := gotT q h
  subst this
  exact Fld.start h1
def own_r1 (x0_1 : Int32) (w_FILE : Addr) (w_MODULE : Addr) (w_INTERFACE : Addr) (w_VALUE_TYPE : Addr) (w_STRUCT : Addr) (w_UNION : Addr) (w_EXCEPTION : Addr) (w_OPERATION : Addr) (w_FACTORY : Addr) (w_COMPONENT : Addr) (w_COMPONENT_INTERFACE : Addr) (w_IDS : Addr) : Addr := (if x0_1 = (0 : Int32) then w_FILE else (if x0_1 = (1 : Int32) then w_MODULE else (if x0_1 = (2 : Int32) then w_INTERFACE else (if x0_1 = (3 : Int32) then w_VALUE_TYPE else (if x0_1 = (4 : Int32) then w_STRUCT else (if x0_1 = (5 : Int32) then w_UNION else (if x0_1 = (6 : Int32) then w_EXCEPTION else (if x0_1 = (7 : Int32) then w_OPERATION else (if x0_1 = (8 : Int32) then w_FACTORY else (if x0_1 = (9 : Int32) then w_COMPONENT else (if x0_1 = (10 : Int32) then w_COMPONENT_INTERFACE else w_IDS)))))))))))
theorem d1_0 : decode method_2_code 0 = .ok (.iload_n 0, 1) := by decide +kernel
theorem d1_1 : decode method_2_code 1 = .ok (.ifCond .ne 7, 3) := by decide +kernel
theorem d1_4 : decode method_2_code 4 = .ok (.getstatic 7, 3) := by decide +kernel
theorem d1_7 : decode method_2_code 7 = .ok (.areturn, 1) := by decide +kernel
theorem d1_8 : decode method_2_code 8 = .ok (.iload_n 0, 1) := by decide +kernel
theorem d1_9 : decode method_2_code 9 = .ok (.iconst 1, 1) := by decide +kernel
theorem d1_10 : decode method_2_code 10 = .ok (.if_icmp .ne 7, 3) := by decide +kernel
theorem d1_13 : decode method_2_code 13 = .ok (.getstatic 13, 3) := by decide +kernel
theorem d1_16 : decode method_2_code 16 = .ok (.areturn, 1) := by decide +kernel
theorem d1_17 : decode method_2_code 17 = .ok (.iload_n 0, 1) := by decide +kernel
theorem d1_18 : decode method_2_code 18 = .ok (.iconst 2, 1) := by decide +kernel
theorem d1_19 : decode method_2_code 19 = .ok (.if_icmp .ne 7, 3) := by decide +kernel
theorem d1_22 : decode method_2_code 22 = .ok (.getstatic 16, 3) := by decide +kernel
theorem d1_25 : decode method_2_code 25 = .ok (.areturn, 1) := by decide +kernel
theorem d1_26 : decode method_2_code 26 = .ok (.iload_n 0, 1) := by decide +kernel
theorem d1_27 : decode method_2_code 27 = .ok (.iconst 3, 1) := by decide +kernel
theorem d1_28 : decode method_2_code 28 = .ok (.if_icmp .ne 7, 3) := by decide +kernel
theorem d1_31 : decode method_2_code 31 = .ok (.getstatic 19, 3) := by decide +kernel
theorem d1_34 : decode method_2_code 34 = .ok (.areturn, 1) := by decide +kernel
theorem d1_35 : decode method_2_code 35 = .ok (.iload_n 0, 1) := by decide +kernel
theorem d1_36 : decode method_2_code 36 = .ok (.iconst 4, 1) := by decide +kernel
theorem d1_37 : decode method_2_code 37 = .ok (.if_icmp .ne 7, 3) := by decide +kernel
theorem d1_40 : decode method_2_code 40 = .ok (.getstatic 22, 3) := by decide +kernel
theorem d1_43 : decode method_2_code 43 = .ok (.areturn, 1) := by decide +kernel
theorem d1_44 : decode method_2_code 44 = .ok (.iload_n 0, 1) := by decide +kernel
theorem d1_45 : decode method_2_code 45 = .ok (.iconst 5, 1) := by decide +kernel
theorem d1_46 : decode method_2_code 46 = .ok (.if_icmp .ne 7, 3) := by decide +kernel
theorem d1_49 : decode method_2_code 49 = .ok (.getstatic 25, 3) := by decide +kernel
theorem d1_52 : decode method_2_code 52 = .ok (.areturn, 1) := by decide +kernel
theorem d1_53 : decode method_2_code 53 = .ok (.iload_n 0, 1) := by decide +kernel
theorem d1_54 : decode method_2_code 54 = .ok (.bipush 6, 2) := by decide +kernel
theorem d1_56 : decode method_2_code 56 = .ok (.if_icmp .ne 7, 3) := by decide +kernel
theorem d1_59 : decode method_2_code 59 = .ok (.getstatic 28, 3) := by decide +kernel
theorem d1_62 : decode method_2_code 62 = .ok (.areturn, 1) := by decide +kernel
theorem d1_63 : decode method_2_code 63 = .ok (.iload_n 0, 1) := by decide +kernel
theorem d1_64 : decode method_2_code 64 = .ok (.bipush 7, 2) := by decide +kernel
theorem d1_66 : decode method_2_code 66 = .ok (.if_icmp .ne 7, 3) := by decide +kernel
theorem d1_69 : decode method_2_code 69 = .ok (.getstatic 31, 3) := by decide +kernel
theorem d1_72 : decode method_2_code 72 = .ok (.areturn, 1) := by decide +kernel
theorem d1_73 : decode method_2_code 73 = .ok (.iload_n 0, 1) := by decide +kernel
theorem d1_74 : decode method_2_code 74 = .ok (.bipush 8, 2) := by decide +kernel
theorem d1_76 : decode method_2_code 76 = .ok (.if_icmp .ne 7, 3) := by decide +kernel
theorem d1_79 : decode method_2_code 79 = .ok (.getstatic 34, 3) := by decide +kernel
theorem d1_82 : decode method_2_code 82 = .ok (.areturn, 1) := by decide +kernel
theorem d1_83 : decode method_2_code 83 = .ok (.iload_n 0, 1) := by decide +kernel
theorem d1_84 : decode method_2_code 84 = .ok (.bipush 9, 2) := by decide +kernel
theorem d1_86 : decode method_2_code 86 = .ok (.if_icmp .ne 7, 3) := by decide +kernel
theorem d1_89 : decode method_2_code 89 = .ok (.getstatic 37, 3) := by decide +kernel
theorem d1_92 : decode method_2_code 92 = .ok (.areturn, 1) := by decide +kernel
theorem d1_93 : decode method_2_code 93 = .ok (.iload_n 0, 1) := by decide +kernel
theorem d1_94 : decode method_2_code 94 = .ok (.bipush 10, 2) := by decide +kernel
theorem d1_96 : decode method_2_code 96 = .ok (.if_icmp .ne 7, 3) := by decide +kernel
theorem d1_99 : decode method_2_code 99 = .ok (.getstatic 40, 3) := by decide +kernel
theorem d1_102 : decode method_2_code 102 = .ok (.areturn, 1) := by decide +kernel
theorem d1_103 : decode method_2_code 103 = .ok (.getstatic 43, 3) := by decide +kernel
theorem d1_106 : decode method_2_code 106 = .ok (.areturn, 1) := by decide +kernel
theorem pn_0 : plainName "com/example/idlect/idlect/core/KindNameReservedPinLaw" = true := by first | (simp [plainName, overriddenIn]; done) | decide +kernel
theorem ef_1 (m : MethodId) (x0_1 : Int32) : entryFrame m #[(.int x0_1)] 1 = mkF m 0 #[.val (.int x0_1)] [] := by first | (simp [entryFrame, mkF, argsToLocals, Value.category]; done) | rfl
def Q1 (Z : State) (x0_1 : Int32) (w_FILE : Addr) (w_MODULE : Addr) (w_INTERFACE : Addr) (w_VALUE_TYPE : Addr) (w_STRUCT : Addr) (w_UNION : Addr) (w_EXCEPTION : Addr) (w_OPERATION : Addr) (w_FACTORY : Addr) (w_COMPONENT : Addr) (w_COMPONENT_INTERFACE : Addr) (w_IDS : Addr) (h0 : Heap) (n0 : Nat) (v : Option Value) (h : Heap) (L : List Loc) : Prop := v = some (.ref (own_r1 x0_1 w_FILE w_MODULE w_INTERFACE w_VALUE_TYPE w_STRUCT w_UNION w_EXCEPTION w_OPERATION w_FACTORY w_COMPONENT w_COMPONENT_INTERFACE w_IDS)) ∧ Fr n0 L ∧ h = h0
set_option maxRecDepth 65536 in
set_option maxHeartbeats 40000000 in
theorem rm1 (l : Launch) (Z : State) (a0 : Array Value) (hw : ∀ d ∈ tables_1, d.before a0 Z = true) (ws : List Jvm.Cond) (x0_1 : Int32) (w_FILE : Addr) (w_MODULE : Addr) (w_INTERFACE : Addr) (w_VALUE_TYPE : Addr) (w_STRUCT : Addr) (w_UNION : Addr) (w_EXCEPTION : Addr) (w_OPERATION : Addr) (w_FACTORY : Addr) (w_COMPONENT : Addr) (w_COMPONENT_INTERFACE : Addr) (w_IDS : Addr) (h0 : Heap) (n0 : Nat) (O0 : Old Z n0 h0) (S_FILE : Sta Z Z.heap "com/example/idlect/idlect/core/Symbol$Container$Kind" "FILE" "Lcom/example/idlect/idlect/core/Symbol$Container$Kind;" (.ref w_FILE)) (S_MODULE : Sta Z Z.heap "com/example/idlect/idlect/core/Symbol$Container$Kind" "MODULE" "Lcom/example/idlect/idlect/core/Symbol$Container$Kind;" (.ref w_MODULE)) (S_INTERFACE : Sta Z Z.heap "com/example/idlect/idlect/core/Symbol$Container$Kind" "INTERFACE" "Lcom/example/idlect/idlect/core/Symbol$Container$Kind;" (.ref w_INTERFACE)) (S_VALUE_TYPE : Sta Z Z.heap "com/example/idlect/idlect/core/Symbol$Container$Kind" "VALUE_TYPE" "Lcom/example/idlect/idlect/core/Symbol$Container$Kind;" (.ref w_VALUE_TYPE)) (S_STRUCT : Sta Z Z.heap "com/example/idlect/idlect/core/Symbol$Container$Kind" "STRUCT" "Lcom/example/idlect/idlect/core/Symbol$Container$Kind;" (.ref w_STRUCT)) (S_UNION : Sta Z Z.heap "com/example/idlect/idlect/core/Symbol$Container$Kind" "UNION" "Lcom/example/idlect/idlect/core/Symbol$Container$Kind;" (.ref w_UNION)) (S_EXCEPTION : Sta Z Z.heap "com/example/idlect/idlect/core/Symbol$Container$Kind" "EXCEPTION" "Lcom/example/idlect/idlect/core/Symbol$Container$Kind;" (.ref w_EXCEPTION)) (S_OPERATION : Sta Z Z.heap "com/example/idlect/idlect/core/Symbol$Container$Kind" "OPERATION" "Lcom/example/idlect/idlect/core/Symbol$Container$Kind;" (.ref w_OPERATION)) (S_FACTORY : Sta Z Z.heap "com/example/idlect/idlect/core/Symbol$Container$Kind" "FACTORY" "Lcom/example/idlect/idlect/core/Symbol$Container$Kind;" (.ref w_FACTORY)) (S_COMPONENT : Sta Z Z.heap "com/example/idlect/idlect/core/Symbol$Container$Kind" "COMPONENT" "Lcom/example/idlect/idlect/core/Symbol$Container$Kind;" (.ref w_COMPONENT)) (S_COMPONENT_INTERFACE : Sta Z Z.heap "com/example/idlect/idlect/core/Symbol$Container$Kind" "COMPONENT_INTERFACE" "Lcom/example/idlect/idlect/core/Symbol$Container$Kind;" (.ref w_COMPONENT_INTERFACE)) (S_IDS : Sta Z Z.heap "com/example/idlect/idlect/core/Symbol$Container$Kind" "IDS" "Lcom/example/idlect/idlect/core/Symbol$Container$Kind;" (.ref w_IDS)) :
    MetFree l (⟨"com/example/idlect/idlect/core/KindNameReservedPinLaw", "pick", "(I)Lcom/example/idlect/idlect/core/Symbol$Container$Kind;"⟩ : MethodName) (head1 (Jvm.Cond.code (⟨"com/example/idlect/idlect/core/KindNameReservedPinLaw", "pick", "(I)Lcom/example/idlect/idlect/core/Symbol$Container$Kind;"⟩ : MethodName) method_2_code 1 (some (.object "com/example/idlect/idlect/core/Symbol$Container$Kind")) :: ws) ({ frames := 0, cells := 0, slots := 0, locals := 0 } : Room)) (fun a U => a = #[(.int x0_1)] ∧ Z.Warmed39 U.vm ∧ U.heap = h0) (fun _ _ _ _ _ => True) (fun _ U o U' => ∃ v L, o = .returned v ∧ Q1 Z x0_1 w_FILE w_MODULE w_INTERFACE w_VALUE_TYPE w_STRUCT w_UNION w_EXCEPTION w_OPERATION w_FACTORY w_COMPONENT w_COMPONENT_INTERFACE w_IDS h0 n0 v U'.heap L ∧ FrameEnd U o U' L ({ frames := 0, cells := 0, slots := 0, locals := 0 } : Room).cells ({ frames := 0, cells := 0, slots := 0, locals := 0 } : Room).slots) := by
  refine MetFree.of_bodySF (plainFor_of_name pn_0) hisR ?_
  intro p e s m args below meth c s₁ Bd hml0 hP hK
  obtain ⟨rfl, hZ, hh⟩ := hP
  have hx := Bd.exec
  have hby := Bd.bytes
  have hnl := BodyLoose.notSynchronized Bd
  have hml : c.maxLocals = 1 := hml0
  have hown : s.vm.findClass "com/example/idlect/idlect/core/KindNameReservedPinLaw" = some m.cls := findClass_of_methodNamed Bd.named
  have hnm := (name_of_methodNamed Bd.named Bd.method).1
  have X0 : Stand p l e ({ frames := 0, cells := 0, slots := 0, locals := 0 } : Room) s m #[(.int x0_1)] below meth c s₁ [] 0 0 := Stand.of_body Bd
  have e0 : s₁.heap = h0 := by rw [← hh, Bd.state]; rfl
  have N0 := Fr.nil n0
  show own_Ends p.tables e below s (Q1 Z x0_1 w_FILE w_MODULE w_INTERFACE w_VALUE_TYPE w_STRUCT w_UNION w_EXCEPTION w_OPERATION w_FACTORY w_COMPONENT w_COMPONENT_INTERFACE w_IDS h0 n0) 0 0 (s₁.setTop (entryFrame m #[(.int x0_1)] 1))
  rw [ef_1 m x0_1]
  show own_Ends p.tables e below s _ _ _ (s₁.setTop (mkF m 0 #[.val (.int x0_1)] []))
  refine own_step (fun t k => XS.iloadN X0.here hx rfl (hb hby d1_0) rfl k) ?_
  show own_Ends p.tables e below s _ _ _ (s₁.setTop (mkF m 1 #[.val (.int x0_1)] [(.int x0_1)]))
  by_cases hc1_1 : x0_1 = (0 : Int32)
  · skip
    refine own_step (fun t k => XS.ifNo X0.here hx rfl (hb hby d1_1) rfl ((if0 _ _).trans (teq hc1_1).2) k) ?_
    show own_Ends p.tables e below s _ _ _ (s₁.setTop (mkF m 4 #[.val (.int x0_1)] []))
    obtain ⟨T2, X2, e2, st2⟩ := getS2 X0 hx hZ hown (host := "") (Or.inl (hw _ (List.mem_of_getElem? (i := 5) rfl))) Via.refl e0 (S_FILE.ext O0.2) (g := (mkF m 4 #[.val (.int x0_1)] [])) rfl (hb hby d1_4)
    refine own_step (fun t k => st2 _ k) ?_
    show own_Ends p.tables e below s _ _ _ (T2.setTop (mkF m 7 #[.val (.int x0_1)] [(.ref w_FILE)]))
    exact own_retR X2 hx Bd.returns rfl rfl rfl (hb hby d1_7) hnl (by rw [e2]; exact ⟨(congrArg (fun z => some (Value.ref z)) (Eq.symm (show (own_r1 x0_1 w_FILE w_MODULE w_INTERFACE w_VALUE_TYPE w_STRUCT w_UNION w_EXCEPTION w_OPERATION w_FACTORY w_COMPONENT w_COMPONENT_INTERFACE w_IDS) = w_FILE from by unfold own_r1; rw [if_pos hc1_1]))), N0, rfl⟩) (by decide) (by decide)
  · skip
    refine own_step (fun t k => XS.ifYes X0.here hx rfl (pc0 := 1) (pc' := 8) rfl (hb hby d1_1) rfl ((if0 _ _).trans (feq hc1_1).2) (by decide) (by decide) k) ?_
    show own_Ends p.tables e below s _ _ _ (s₁.setTop (mkF m 8 #[.val (.int x0_1)] []))
    refine own_step (fun t k => XS.iloadN X0.here hx rfl (hb hby d1_8) rfl k) ?_
    show own_Ends p.tables e below s _ _ _ (s₁.setTop (mkF m 9 #[.val (.int x0_1)] [(.int x0_1)]))
    refine own_step (fun t k => XS.iconst X0.here hx rfl (hb hby d1_9) k) ?_
    show own_Ends p.tables e below s _ _ _ (s₁.setTop (mkF m 10 #[.val (.int x0_1)] [(.int (1 : Int32)), (.int x0_1)]))
    by_cases hc10_3 : x0_1 = (1 : Int32)
    · skip
      refine own_step (fun t k => XS.icmpNo X0.here hx rfl (hb hby d1_10) rfl (teq hc10_3).2 k) ?_
      show own_Ends p.tables e below s _ _ _ (s₁.setTop (mkF m 13 #[.val (.int x0_1)] []))
      obtain ⟨T4, X4, e4, st4⟩ := getS2 X0 hx hZ hown (host := "") (Or.inl (hw _ (List.mem_of_getElem? (i := 32) rfl))) Via.refl e0 (S_MODULE.ext O0.2) (g := (mkF m 13 #[.val (.int x0_1)] [])) rfl (hb hby d1_13)
      refine own_step (fun t k => st4 _ k) ?_
      show own_Ends p.tables e below s _ _ _ (T4.setTop (mkF m 16 #[.val (.int x0_1)] [(.ref w_MODULE)]))
      exact own_retR X4 hx Bd.returns rfl rfl rfl (hb hby d1_16) hnl (by rw [e4]; exact ⟨(congrArg (fun z => some (Value.ref z)) (Eq.symm (show (own_r1 x0_1 w_FILE w_MODULE w_INTERFACE w_VALUE_TYPE w_STRUCT w_UNION w_EXCEPTION w_OPERATION w_FACTORY w_COMPONENT w_COMPONENT_INTERFACE w_IDS) = w_MODULE from by unfold own_r1; rw [if_neg hc1_1, if_pos hc10_3]))), N0, rfl⟩) (by decide) (by decide)
    · skip
      refine own_step (fun t k => XS.icmpYes X0.here hx rfl (pc0 := 10) (pc' := 17) rfl (hb hby d1_10) rfl (feq hc10_3).2 (by decide) (by decide) k) ?_
      show own_Ends p.tables e below s _ _ _ (s₁.setTop (mkF m 17 #[.val (.int x0_1)] []))
      refine own_step (fun t k => XS.iloadN X0.here hx rfl (hb hby d1_17) rfl k) ?_
      show own_Ends p.tables e below s _ _ _ (s₁.setTop (mkF m 18 #[.val (.int x0_1)] [(.int x0_1)]))
      refine own_step (fun t k => XS.iconst X0.here hx rfl (hb hby d1_18) k) ?_
      show own_Ends p.tables e below s _ _ _ (s₁.setTop (mkF m 19 #[.val (.int x0_1)] [(.int (2 : Int32)), (.int x0_1)]))
      by_cases hc19_5 : x0_1 = (2 : Int32)
      · skip
        refine own_step (fun t k => XS.icmpNo X0.here hx rfl (hb hby d1_19) rfl (teq hc19_5).2 k) ?_
        show own_Ends p.tables e below s _ _ _ (s₁.setTop (mkF m 22 #[.val (.int x0_1)] []))
        obtain ⟨T6, X6, e6, st6⟩ := getS2 X0 hx hZ hown (host := "") (Or.inl (hw _ (List.mem_of_getElem? (i := 25) rfl))) Via.refl e0 (S_INTERFACE.ext O0.2) (g := (mkF m 22 #[.val (.int x0_1)] [])) rfl (hb hby d1_22)
        refine own_step (fun t k => st6 _ k) ?_
        show own_Ends p.tables e below s _ _ _ (T6.setTop (mkF m 25 #[.val (.int x0_1)] [(.ref w_INTERFACE)]))
        exact own_retR X6 hx Bd.returns rfl rfl rfl (hb hby d1_25) hnl (by rw [e6]; exact ⟨(congrArg (fun z => some (Value.ref z)) (Eq.symm (show (own_r1 x0_1 w_FILE w_MODULE w_INTERFACE w_VALUE_TYPE w_STRUCT w_UNION w_EXCEPTION w_OPERATION w_FACTORY w_COMPONENT w_COMPONENT_INTERFACE w_IDS) = w_INTERFACE from by unfold own_r1; rw [if_neg hc1_1, if_neg hc10_3, if_pos hc19_5]))), N0, rfl⟩) (by decide) (by decide)
      · skip
        refine own_step (fun t k => XS.icmpYes X0.here hx rfl (pc0 := 19) (pc' := 26) rfl (hb hby d1_19) rfl (feq hc19_5).2 (by decide) (by decide) k) ?_
        show own_Ends p.tables e below s _ _ _ (s₁.setTop (mkF m 26 #[.val (.int x0_1)] []))
        refine own_step (fun t k => XS.iloadN X0.here hx rfl (hb hby d1_26) rfl k) ?_
        show own_Ends p.tables e below s _ _ _ (s₁.setTop (mkF m 27 #[.val (.int x0_1)] [(.int x0_1)]))
        refine own_step (fun t k => XS.iconst X0.here hx rfl (hb hby d1_27) k) ?_
        show own_Ends p.tables e below s _ _ _ (s₁.setTop (mkF m 28 #[.val (.int x0_1)] [(.int (3 : Int32)), (.int x0_1)]))
        by_cases hc28_7 : x0_1 = (3 : Int32)
        · skip
          refine own_step (fun t k => XS.icmpNo X0.here hx rfl (hb hby d1_28) rfl (teq hc28_7).2 k) ?_
          show own_Ends p.tables e below s _ _ _ (s₁.setTop (mkF m 31 #[.val (.int x0_1)] []))
          obtain ⟨T8, X8, e8, st8⟩ := getS2 X0 hx hZ hown (host := "") (Or.inl (hw _ (List.mem_of_getElem? (i := 17) rfl))) Via.refl e0 (S_VALUE_TYPE.ext O0.2) (g := (mkF m 31 #[.val (.int x0_1)] [])) rfl (hb hby d1_31)
          refine own_step (fun t k => st8 _ k) ?_
          show own_Ends p.tables e below s _ _ _ (T8.setTop (mkF m 34 #[.val (.int x0_1)] [(.ref w_VALUE_TYPE)]))
          exact own_retR X8 hx Bd.returns rfl rfl rfl (hb hby d1_34) hnl (by rw [e8]; exact ⟨(congrArg (fun z => some (Value.ref z)) (Eq.symm (show (own_r1 x0_1 w_FILE w_MODULE w_INTERFACE w_VALUE_TYPE w_STRUCT w_UNION w_EXCEPTION w_OPERATION w_FACTORY w_COMPONENT w_COMPONENT_INTERFACE w_IDS) = w_VALUE_TYPE from by unfold own_r1; rw [if_neg hc1_1, if_neg hc10_3, if_neg hc19_5, if_pos hc28_7]))), N0, rfl⟩) (by decide) (by decide)
        · skip
          refine own_step (fun t k => XS.icmpYes X0.here hx rfl (pc0 := 28) (pc' := 35) rfl (hb hby d1_28) rfl (feq hc28_7).2 (by decide) (by decide) k) ?_
          show own_Ends p.tables e below s _ _ _ (s₁.setTop (mkF m 35 #[.val (.int x0_1)] []))
          refine own_step (fun t k => XS.iloadN X0.here hx rfl (hb hby d1_35) rfl k) ?_
          show own_Ends p.tables e below s _ _ _ (s₁.setTop (mkF m 36 #[.val (.int x0_1)] [(.int x0_1)]))
          refine own_step (fun t k => XS.iconst X0.here hx rfl (hb hby d1_36) k) ?_
          show own_Ends p.tables e below s _ _ _ (s₁.setTop (mkF m 37 #[.val (.int x0_1)] [(.int (4 : Int32)), (.int x0_1)]))
          by_cases hc37_9 : x0_1 = (4 : Int32)
          · skip
            refine own_step (fun t k => XS.icmpNo X0.here hx rfl (hb hby d1_37) rfl (teq hc37_9).2 k) ?_
            show own_Ends p.tables e below s _ _ _ (s₁.setTop (mkF m 40 #[.val (.int x0_1)] []))
            obtain ⟨T10, X10, e10, st10⟩ := getS2 X0 hx hZ hown (host := "") (Or.inl (hw _ (List.mem_of_getElem? (i := 29) rfl))) Via.refl e0 (S_STRUCT.ext O0.2) (g := (mkF m 40 #[.val (.int x0_1)] [])) rfl (hb hby d1_40)
            refine own_step (fun t k => st10 _ k) ?_
            show own_Ends p.tables e below s _ _ _ (T10.setTop (mkF m 43 #[.val (.int x0_1)] [(.ref w_STRUCT)]))
            exact own_retR X10 hx Bd.returns rfl rfl rfl (hb hby d1_43) hnl (by rw [e10]; exact ⟨(congrArg (fun z => some (Value.ref z)) (Eq.symm (show (own_r1 x0_1 w_FILE w_MODULE w_INTERFACE w_VALUE_TYPE w_STRUCT w_UNION w_EXCEPTION w_OPERATION w_FACTORY w_COMPONENT w_COMPONENT_INTERFACE w_IDS) = w_STRUCT from by unfold own_r1; rw [if_neg hc1_1, if_neg hc10_3, if_neg hc19_5, if_neg hc28_7, if_pos hc37_9]))), N0, rfl⟩) (by decide) (by decide)
          · skip
            refine own_step (fun t k => XS.icmpYes X0.here hx rfl (pc0 := 37) (pc' := 44) rfl (hb hby d1_37) rfl (feq hc37_9).2 (by decide) (by decide) k) ?_
            show own_Ends p.tables e below s _ _ _ (s₁.setTop (mkF m 44 #[.val (.int x0_1)] []))
            refine own_step (fun t k => XS.iloadN X0.here hx rfl (hb hby d1_44) rfl k) ?_
            show own_Ends p.tables e below s _ _ _ (s₁.setTop (mkF m 45 #[.val (.int x0_1)] [(.int x0_1)]))
            refine own_step (fun t k => XS.iconst X0.here hx rfl (hb hby d1_45) k) ?_
            show own_Ends p.tables e below s _ _ _ (s₁.setTop (mkF m 46 #[.val (.int x0_1)] [(.int (5 : Int32)), (.int x0_1)]))
            by_cases hc46_11 : x0_1 = (5 : Int32)
            · skip
              refine own_step (fun t k => XS.icmpNo X0.here hx rfl (hb hby d1_46) rfl (teq hc46_11).2 k) ?_
              show own_Ends p.tables e below s _ _ _ (s₁.setTop (mkF m 49 #[.val (.int x0_1)] []))
              obtain ⟨T12, X12, e12, st12⟩ := getS2 X0 hx hZ hown (host := "") (Or.inl (hw _ (List.mem_of_getElem? (i := 40) rfl))) Via.refl e0 (S_UNION.ext O0.2) (g := (mkF m 49 #[.val (.int x0_1)] [])) rfl (hb hby d1_49)
              refine own_step (fun t k => st12 _ k) ?_
              show own_Ends p.tables e below s _ _ _ (T12.setTop (mkF m 52 #[.val (.int x0_1)] [(.ref w_UNION)]))
              exact own_retR X12 hx Bd.returns rfl rfl rfl (hb hby d1_52) hnl (by rw [e12]; exact ⟨(congrArg (fun z => some (Value.ref z)) (Eq.symm (show (own_r1 x0_1 w_FILE w_MODULE w_INTERFACE w_VALUE_TYPE w_STRUCT w_UNION w_EXCEPTION w_OPERATION w_FACTORY w_COMPONENT w_COMPONENT_INTERFACE w_IDS) = w_UNION from by unfold own_r1; rw [if_neg hc1_1, if_neg hc10_3, if_neg hc19_5, if_neg hc28_7, if_neg hc37_9, if_pos hc46_11]))), N0, rfl⟩) (by decide) (by decide)
            · skip
              refine own_step (fun t k => XS.icmpYes X0.here hx rfl (pc0 := 46) (pc' := 53) rfl (hb hby d1_46) rfl (feq hc46_11).2 (by decide) (by decide) k) ?_
              show own_Ends p.tables e below s _ _ _ (s₁.setTop (mkF m 53 #[.val (.int x0_1)] []))
              refine own_step (fun t k => XS.iloadN X0.here hx rfl (hb hby d1_53) rfl k) ?_
              show own_Ends p.tables e below s _ _ _ (s₁.setTop (mkF m 54 #[.val (.int x0_1)] [(.int x0_1)]))
              refine own_step (fun t k => XS.bipush X0.here hx rfl (hb hby d1_54) k) ?_
              show own_Ends p.tables e below s _ _ _ (s₁.setTop (mkF m 56 #[.val (.int x0_1)] [(.int (6 : Int32)), (.int x0_1)]))
              by_cases hc56_13 : x0_1 = (6 : Int32)
              · skip
                refine own_step (fun t k => XS.icmpNo X0.here hx rfl (hb hby d1_56) rfl (teq hc56_13).2 k) ?_
                show own_Ends p.tables e below s _ _ _ (s₁.setTop (mkF m 59 #[.val (.int x0_1)] []))
                obtain ⟨T14, X14, e14, st14⟩ := getS2 X0 hx hZ hown (host := "") (Or.inl (hw _ (List.mem_of_getElem? (i := 38) rfl))) Via.refl e0 (S_EXCEPTION.ext O0.2) (g := (mkF m 59 #[.val (.int x0_1)] [])) rfl (hb hby d1_59)
                refine own_step (fun t k => st14 _ k) ?_
                show own_Ends p.tables e below s _ _ _ (T14.setTop (mkF m 62 #[.val (.int x0_1)] [(.ref w_EXCEPTION)]))
                exact own_retR X14 hx Bd.returns rfl rfl rfl (hb hby d1_62) hnl (by rw [e14]; exact ⟨(congrArg (fun z => some (Value.ref z)) (Eq.symm (show (own_r1 x0_1 w_FILE w_MODULE w_INTERFACE w_VALUE_TYPE w_STRUCT w_UNION w_EXCEPTION w_OPERATION w_FACTORY w_COMPONENT w_COMPONENT_INTERFACE w_IDS) = w_EXCEPTION from by unfold own_r1; rw [if_neg hc1_1, if_neg hc10_3, if_neg hc19_5, if_neg hc28_7, if_neg hc37_9, if_neg hc46_11, if_pos hc56_13]))), N0, rfl⟩) (by decide) (by decide)
              · skip
                refine own_step (fun t k => XS.icmpYes X0.here hx rfl (pc0 := 56) (pc' := 63) rfl (hb hby d1_56) rfl (feq hc56_13).2 (by decide) (by decide) k) ?_
                show own_Ends p.tables e below s _ _ _ (s₁.setTop (mkF m 63 #[.val (.int x0_1)] []))
                refine own_step (fun t k => XS.iloadN X0.here hx rfl (hb hby d1_63) rfl k) ?_
                show own_Ends p.tables e below s _ _ _ (s₁.setTop (mkF m 64 #[.val (.int x0_1)] [(.int x0_1)]))
                refine own_step (fun t k => XS.bipush X0.here hx rfl (hb hby d1_64) k) ?_
                show own_Ends p.tables e below s _ _ _ (s₁.setTop (mkF m 66 #[.val (.int x0_1)] [(.int (7 : Int32)), (.int x0_1)]))
                by_cases hc66_15 : x0_1 = (7 : Int32)
                · skip
                  refine own_step (fun t k => XS.icmpNo X0.here hx rfl (hb hby d1_66) rfl (teq hc66_15).2 k) ?_
                  show own_Ends p.tables e below s _ _ _ (s₁.setTop (mkF m 69 #[.val (.int x0_1)] []))
                  obtain ⟨T16, X16, e16, st16⟩ := getS2 X0 hx hZ hown (host := "") (Or.inl (hw _ (List.mem_of_getElem? (i := 27) rfl))) Via.refl e0 (S_OPERATION.ext O0.2) (g := (mkF m 69 #[.val (.int x0_1)] [])) rfl (hb hby d1_69)
                  refine own_step (fun t k => st16 _ k) ?_
                  show own_Ends p.tables e below s _ _ _ (T16.setTop (mkF m 72 #[.val (.int x0_1)] [(.ref w_OPERATION)]))
                  exact own_retR X16 hx Bd.returns rfl rfl rfl (hb hby d1_72) hnl (by rw [e16]; exact ⟨(congrArg (fun z => some (Value.ref z)) (Eq.symm (show (own_r1 x0_1 w_FILE w_MODULE w_INTERFACE w_VALUE_TYPE w_STRUCT w_UNION w_EXCEPTION w_OPERATION w_FACTORY w_COMPONENT w_COMPONENT_INTERFACE w_IDS) = w_OPERATION from by unfold own_r1; rw [if_neg hc1_1, if_neg hc10_3, if_neg hc19_5, if_neg hc28_7, if_neg hc37_9, if_neg hc46_11, if_neg hc56_13, if_pos hc66_15]))), N0, rfl⟩) (by decide) (by decide)
                · skip
                  refine own_step (fun t k => XS.icmpYes X0.here hx rfl (pc0 := 66) (pc' := 73) rfl (hb hby d1_66) rfl (feq hc66_15).2 (by decide) (by decide) k) ?_
                  show own_Ends p.tables e below s _ _ _ (s₁.setTop (mkF m 73 #[.val (.int x0_1)] []))
                  refine own_step (fun t k => XS.iloadN X0.here hx rfl (hb hby d1_73) rfl k) ?_
                  show own_Ends p.tables e below s _ _ _ (s₁.setTop (mkF m 74 #[.val (.int x0_1)] [(.int x0_1)]))
                  refine own_step (fun t k => XS.bipush X0.here hx rfl (hb hby d1_74) k) ?_
                  show own_Ends p.tables e below s _ _ _ (s₁.setTop (mkF m 76 #[.val (.int x0_1)] [(.int (8 : Int32)), (.int x0_1)]))
                  by_cases hc76_17 : x0_1 = (8 : Int32)
                  · skip
                    refine own_step (fun t k => XS.icmpNo X0.here hx rfl (hb hby d1_76) rfl (teq hc76_17).2 k) ?_
                    show own_Ends p.tables e below s _ _ _ (s₁.setTop (mkF m 79 #[.val (.int x0_1)] []))
                    obtain ⟨T18, X18, e18, st18⟩ := getS2 X0 hx hZ hown (host := "") (Or.inl (hw _ (List.mem_of_getElem? (i := 31) rfl))) Via.refl e0 (S_FACTORY.ext O0.2) (g := (mkF m 79 #[.val (.int x0_1)] [])) rfl (hb hby d1_79)
                    refine own_step (fun t k => st18 _ k) ?_
                    show own_Ends p.tables e below s _ _ _ (T18.setTop (mkF m 82 #[.val (.int x0_1)] [(.ref w_FACTORY)]))
                    exact own_retR X18 hx Bd.returns rfl rfl rfl (hb hby d1_82) hnl (by rw [e18]; exact ⟨(congrArg (fun z => some (Value.ref z)) (Eq.symm (show (own_r1 x0_1 w_FILE w_MODULE w_INTERFACE w_VALUE_TYPE w_STRUCT w_UNION w_EXCEPTION w_OPERATION w_FACTORY w_COMPONENT w_COMPONENT_INTERFACE w_IDS) = w_FACTORY from by unfold own_r1; rw [if_neg hc1_1, if_neg hc10_3, if_neg hc19_5, if_neg hc28_7, if_neg hc37_9, if_neg hc46_11, if_neg hc56_13, if_neg hc66_15, if_pos hc76_17]))), N0, rfl⟩) (by decide) (by decide)
                  · skip
                    refine own_step (fun t k => XS.icmpYes X0.here hx rfl (pc0 := 76) (pc' := 83) rfl (hb hby d1_76) rfl (feq hc76_17).2 (by decide) (by decide) k) ?_
                    show own_Ends p.tables e below s _ _ _ (s₁.setTop (mkF m 83 #[.val (.int x0_1)] []))
                    refine own_step (fun t k => XS.iloadN X0.here hx rfl (hb hby d1_83) rfl k) ?_
                    show own_Ends p.tables e below s _ _ _ (s₁.setTop (mkF m 84 #[.val (.int x0_1)] [(.int x0_1)]))
                    refine own_step (fun t k => XS.bipush X0.here hx rfl (hb hby d1_84) k) ?_
                    show own_Ends p.tables e below s _ _ _ (s₁.setTop (mkF m 86 #[.val (.int x0_1)] [(.int (9 : Int32)), (.int x0_1)]))
                    by_cases hc86_19 : x0_1 = (9 : Int32)
                    · skip
                      refine own_step (fun t k => XS.icmpNo X0.here hx rfl (hb hby d1_86) rfl (teq hc86_19).2 k) ?_
                      show own_Ends p.tables e below s _ _ _ (s₁.setTop (mkF m 89 #[.val (.int x0_1)] []))
                      obtain ⟨T20, X20, e20, st20⟩ := getS2 X0 hx hZ hown (host := "") (Or.inl (hw _ (List.mem_of_getElem? (i := 36) rfl))) Via.refl e0 (S_COMPONENT.ext O0.2) (g := (mkF m 89 #[.val (.int x0_1)] [])) rfl (hb hby d1_89)
                      refine own_step (fun t k => st20 _ k) ?_
                      show own_Ends p.tables e below s _ _ _ (T20.setTop (mkF m 92 #[.val (.int x0_1)] [(.ref w_COMPONENT)]))
                      exact own_retR X20 hx Bd.returns rfl rfl rfl (hb hby d1_92) hnl (by rw [e20]; exact ⟨(congrArg (fun z => some (Value.ref z)) (Eq.symm (show (own_r1 x0_1 w_FILE w_MODULE w_INTERFACE w_VALUE_TYPE w_STRUCT w_UNION w_EXCEPTION w_OPERATION w_FACTORY w_COMPONENT w_COMPONENT_INTERFACE w_IDS) = w_COMPONENT from by unfold own_r1; rw [if_neg hc1_1, if_neg hc10_3, if_neg hc19_5, if_neg hc28_7, if_neg hc37_9, if_neg hc46_11, if_neg hc56_13, if_neg hc66_15, if_neg hc76_17, if_pos hc86_19]))), N0, rfl⟩) (by decide) (by decide)
                    · skip
                      refine own_step (fun t k => XS.icmpYes X0.here hx rfl (pc0 := 86) (pc' := 93) rfl (hb hby d1_86) rfl (feq hc86_19).2 (by decide) (by decide) k) ?_
                      show own_Ends p.tables e below s _ _ _ (s₁.setTop (mkF m 93 #[.val (.int x0_1)] []))
                      refine own_step (fun t k => XS.iloadN X0.here hx rfl (hb hby d1_93) rfl k) ?_
                      show own_Ends p.tables e below s _ _ _ (s₁.setTop (mkF m 94 #[.val (.int x0_1)] [(.int x0_1)]))
                      refine own_step (fun t k => XS.bipush X0.here hx rfl (hb hby d1_94) k) ?_
                      show own_Ends p.tables e below s _ _ _ (s₁.setTop (mkF m 96 #[.val (.int x0_1)] [(.int (10 : Int32)), (.int x0_1)]))
                      by_cases hc96_21 : x0_1 = (10 : Int32)
                      · skip
                        refine own_step (fun t k => XS.icmpNo X0.here hx rfl (hb hby d1_96) rfl (teq hc96_21).2 k) ?_
                        show own_Ends p.tables e below s _ _ _ (s₁.setTop (mkF m 99 #[.val (.int x0_1)] []))
                        obtain ⟨T22, X22, e22, st22⟩ := getS2 X0 hx hZ hown (host := "") (Or.inl (hw _ (List.mem_of_getElem? (i := 34) rfl))) Via.refl e0 (S_COMPONENT_INTERFACE.ext O0.2) (g := (mkF m 99 #[.val (.int x0_1)] [])) rfl (hb hby d1_99)
                        refine own_step (fun t k => st22 _ k) ?_
                        show own_Ends p.tables e below s _ _ _ (T22.setTop (mkF m 102 #[.val (.int x0_1)] [(.ref w_COMPONENT_INTERFACE)]))
                        exact own_retR X22 hx Bd.returns rfl rfl rfl (hb hby d1_102) hnl (by rw [e22]; exact ⟨(congrArg (fun z => some (Value.ref z)) (Eq.symm (show (own_r1 x0_1 w_FILE w_MODULE w_INTERFACE w_VALUE_TYPE w_STRUCT w_UNION w_EXCEPTION w_OPERATION w_FACTORY w_COMPONENT w_COMPONENT_INTERFACE w_IDS) = w_COMPONENT_INTERFACE from by unfold own_r1; rw [if_neg hc1_1, if_neg hc10_3, if_neg hc19_5, if_neg hc28_7, if_neg hc37_9, if_neg hc46_11, if_neg hc56_13, if_neg hc66_15, if_neg hc76_17, if_neg hc86_19, if_pos hc96_21]))), N0, rfl⟩) (by decide) (by decide)
                      · skip
                        refine own_step (fun t k => XS.icmpYes X0.here hx rfl (pc0 := 96) (pc' := 103) rfl (hb hby d1_96) rfl (feq hc96_21).2 (by decide) (by decide) k) ?_
                        show own_Ends p.tables e below s _ _ _ (s₁.setTop (mkF m 103 #[.val (.int x0_1)] []))
                        obtain ⟨T23, X23, e23, st23⟩ := getS2 X0 hx hZ hown (host := "") (Or.inl (hw _ (List.mem_of_getElem? (i := 28) rfl))) Via.refl e0 (S_IDS.ext O0.2) (g := (mkF m 103 #[.val (.int x0_1)] [])) rfl (hb hby d1_103)
                        refine own_step (fun t k => st23 _ k) ?_
                        show own_Ends p.tables e below s _ _ _ (T23.setTop (mkF m 106 #[.val (.int x0_1)] [(.ref w_IDS)]))
                        exact own_retR X23 hx Bd.returns rfl rfl rfl (hb hby d1_106) hnl (by rw [e23]; exact ⟨(congrArg (fun z => some (Value.ref z)) (Eq.symm (show (own_r1 x0_1 w_FILE w_MODULE w_INTERFACE w_VALUE_TYPE w_STRUCT w_UNION w_EXCEPTION w_OPERATION w_FACTORY w_COMPONENT w_COMPONENT_INTERFACE w_IDS) = w_IDS from by unfold own_r1; rw [if_neg hc1_1, if_neg hc10_3, if_neg hc19_5, if_neg hc28_7, if_neg hc37_9, if_neg hc46_11, if_neg hc56_13, if_neg hc66_15, if_neg hc76_17, if_neg hc86_19, if_neg hc96_21]))), N0, rfl⟩) (by decide) (by decide)
def own_r2 (o0_2 : Addr) (w_FILE : Addr) (w_OPERATION : Addr) (w_FACTORY : Addr) (w_IDS : Addr) : Int32 := (if o0_2 = w_FILE then (0 : Int32) else (if o0_2 = w_OPERATION then (0 : Int32) else (if o0_2 = w_FACTORY then (0 : Int32) else (if o0_2 = w_IDS then (0 : Int32) else (1 : Int32)))))
theorem d2_0 : decode prog_128_method_7_code 0 = .ok (.aload_n 0, 1) := by decide +kernel
theorem d2_1 : decode prog_128_method_7_code 1 = .ok (.getstatic 3, 3) := by decide +kernel
theorem d2_4 : decode prog_128_method_7_code 4 = .ok (.if_acmp .eq 28, 3) := by decide +kernel
theorem d2_7 : decode prog_128_method_7_code 7 = .ok (.aload_n 0, 1) := by decide +kernel
theorem d2_8 : decode prog_128_method_7_code 8 = .ok (.getstatic 25, 3) := by decide +kernel
theorem d2_11 : decode prog_128_method_7_code 11 = .ok (.if_acmp .eq 21, 3) := by decide +kernel
theorem d2_14 : decode prog_128_method_7_code 14 = .ok (.aload_n 0, 1) := by decide +kernel
theorem d2_15 : decode prog_128_method_7_code 15 = .ok (.getstatic 28, 3) := by decide +kernel
theorem d2_18 : decode prog_128_method_7_code 18 = .ok (.if_acmp .eq 14, 3) := by decide +kernel
theorem d2_21 : decode prog_128_method_7_code 21 = .ok (.aload_n 0, 1) := by decide +kernel
theorem d2_22 : decode prog_128_method_7_code 22 = .ok (.getstatic 37, 3) := by decide +kernel
theorem d2_25 : decode prog_128_method_7_code 25 = .ok (.if_acmp .eq 7, 3) := by decide +kernel
theorem d2_28 : decode prog_128_method_7_code 28 = .ok (.iconst 1, 1) := by decide +kernel
theorem d2_29 : decode prog_128_method_7_code 29 = .ok (.goto 4, 3) := by decide +kernel
theorem d2_32 : decode prog_128_method_7_code 32 = .ok (.iconst 0, 1) := by decide +kernel
theorem d2_33 : decode prog_128_method_7_code 33 = .ok (.ireturn, 1) := by decide +kernel
theorem pn_1 : plainName "com/example/idlect/idlect/core/Symbol$Container$Kind" = true := by first | (simp [plainName, overriddenIn]; done) | decide +kernel
theorem ef_2 (m : MethodId) (o0_2 : Addr) : entryFrame m #[(.ref o0_2)] 1 = mkF m 0 #[.val (.ref o0_2)] [] := by first | (simp [entryFrame, mkF, argsToLocals, Value.category]; done) | rfl
def Q2 (Z : State) (o0_2 : Addr) (w_FILE : Addr) (w_OPERATION : Addr) (w_FACTORY : Addr) (w_IDS : Addr) (h0 : Heap) (n0 : Nat) (v : Option Value) (h : Heap) (L : List Loc) : Prop := v = some (.int (own_r2 o0_2 w_FILE w_OPERATION w_FACTORY w_IDS)) ∧ Fr n0 L ∧ h = h0
set_option maxRecDepth 65536 in
set_option maxHeartbeats 40000000 in
theorem rm2 (l : Launch) (Z : State) (a0 : Array Value) (hw : ∀ d ∈ tables_1, d.before a0 Z = true) (ws : List Jvm.Cond) (o0_2 : Addr) (w_FILE : Addr) (w_OPERATION : Addr) (w_FACTORY : Addr) (w_IDS : Addr) (h0 : Heap) (n0 : Nat) (O0 : Old Z n0 h0) (S_FILE : Sta Z Z.heap "com/example/idlect/idlect/core/Symbol$Container$Kind" "FILE" "Lcom/example/idlect/idlect/core/Symbol$Container$Kind;" (.ref w_FILE)) (S_OPERATION : Sta Z Z.heap "com/example/idlect/idlect/core/Symbol$Container$Kind" "OPERATION" "Lcom/example/idlect/idlect/core/Symbol$Container$Kind;" (.ref w_OPERATION)) (S_FACTORY : Sta Z Z.heap "com/example/idlect/idlect/core/Symbol$Container$Kind" "FACTORY" "Lcom/example/idlect/idlect/core/Symbol$Container$Kind;" (.ref w_FACTORY)) (S_IDS : Sta Z Z.heap "com/example/idlect/idlect/core/Symbol$Container$Kind" "IDS" "Lcom/example/idlect/idlect/core/Symbol$Container$Kind;" (.ref w_IDS)) :
    MetFree l (⟨"com/example/idlect/idlect/core/Symbol$Container$Kind", "nameReserved", "()Z"⟩ : MethodName) (head1 (Jvm.Cond.code (⟨"com/example/idlect/idlect/core/Symbol$Container$Kind", "nameReserved", "()Z"⟩ : MethodName) prog_128_method_7_code 1 (some .boolean) :: ws) ({ frames := 0, cells := 0, slots := 0, locals := 0 } : Room)) (fun a U => a = #[(.ref o0_2)] ∧ Z.Warmed39 U.vm ∧ U.heap = h0) (fun _ _ _ _ _ => True) (fun _ U o U' => ∃ v L, o = .returned v ∧ Q2 Z o0_2 w_FILE w_OPERATION w_FACTORY w_IDS h0 n0 v U'.heap L ∧ FrameEnd U o U' L ({ frames := 0, cells := 0, slots := 0, locals := 0 } : Room).cells ({ frames := 0, cells := 0, slots := 0, locals := 0 } : Room).slots) := by
  refine MetFree.of_bodySF (plainFor_of_name pn_1) hisR ?_
  intro p e s m args below meth c s₁ Bd hml0 hP hK
  obtain ⟨rfl, hZ, hh⟩ := hP
  have hx := Bd.exec
  have hby := Bd.bytes
  have hnl := BodyLoose.notSynchronized Bd
  have hml : c.maxLocals = 1 := hml0
  have hown : s.vm.findClass "com/example/idlect/idlect/core/Symbol$Container$Kind" = some m.cls := findClass_of_methodNamed Bd.named
  have hnm := (name_of_methodNamed Bd.named Bd.method).1
  have X0 : Stand p l e ({ frames := 0, cells := 0, slots := 0, locals := 0 } : Room) s m #[(.ref o0_2)] below meth c s₁ [] 0 0 := Stand.of_body Bd
  have e0 : s₁.heap = h0 := by rw [← hh, Bd.state]; rfl
  have N0 := Fr.nil n0
  show own_Ends p.tables e below s (Q2 Z o0_2 w_FILE w_OPERATION w_FACTORY w_IDS h0 n0) 0 0 (s₁.setTop (entryFrame m #[(.ref o0_2)] 1))
  rw [ef_2 m o0_2]
  show own_Ends p.tables e below s _ _ _ (s₁.setTop (mkF m 0 #[.val (.ref o0_2)] []))
  refine own_step (fun t k => XS.aloadN X0.here hx rfl (hb hby d2_0) rfl rfl k) ?_
  show own_Ends p.tables e below s _ _ _ (s₁.setTop (mkF m 1 #[.val (.ref o0_2)] [(.ref o0_2)]))
  obtain ⟨T1, X1, e1, st1⟩ := getS2 X0 hx hZ hown (host := "") (Or.inl (hw _ (List.mem_of_getElem? (i := 13) rfl))) Via.refl e0 (S_FILE.ext O0.2) (g := (mkF m 1 #[.val (.ref o0_2)] [(.ref o0_2)])) rfl (hb hby d2_1)
  refine own_step (fun t k => st1 _ k) ?_
  show own_Ends p.tables e below s _ _ _ (T1.setTop (mkF m 4 #[.val (.ref o0_2)] [(.ref w_FILE), (.ref o0_2)]))
  by_cases ha4_2 : o0_2 = w_FILE
  · skip
    refine own_step (fun t k => Jvm.RoadKit.acmp (g := (mkF m 4 #[.val (.ref o0_2)] [(.ref w_FILE), (.ref o0_2)])) X1 hx rfl rfl rfl (pc0 := 4) (pc' := 32) (same := true) rfl (hb hby d2_4) rfl (decide_eq_true (congrArg Value.ref ha4_2)) (by decide) (by decide) k) ?_
    show own_Ends p.tables e below s _ _ _ (T1.setTop (mkF m 32 #[.val (.ref o0_2)] []))
    refine own_step (fun t k => XS.iconst X1.here hx rfl (hb hby d2_32) k) ?_
    show own_Ends p.tables e below s _ _ _ (T1.setTop (mkF m 33 #[.val (.ref o0_2)] [(.int (0 : Int32))]))
    exact own_retN X1 hx (t := .boolean) Bd.returns (by simp) (hb hby d2_33) hnl (by rw [e1]; exact ⟨(congrArg (fun z => some (Value.int z)) (Eq.symm (show (own_r2 o0_2 w_FILE w_OPERATION w_FACTORY w_IDS) = (0 : Int32) from by unfold own_r2; rw [if_pos ha4_2]))), N0, rfl⟩) (by decide) (by decide)
  · skip
    refine own_step (fun t k => Jvm.RoadKit.acmp (g := (mkF m 4 #[.val (.ref o0_2)] [(.ref w_FILE), (.ref o0_2)])) X1 hx rfl rfl rfl (pc0 := 4) (pc' := 7) (same := false) rfl (hb hby d2_4) rfl (decide_eq_false fun q => ha4_2 (Value.ref.inj q)) (by decide) (by decide) k) ?_
    show own_Ends p.tables e below s _ _ _ (T1.setTop (mkF m 7 #[.val (.ref o0_2)] []))
    refine own_step (fun t k => XS.aloadN X1.here hx rfl (hb hby d2_7) rfl rfl k) ?_
    show own_Ends p.tables e below s _ _ _ (T1.setTop (mkF m 8 #[.val (.ref o0_2)] [(.ref o0_2)]))
    obtain ⟨T3, X3, e3, st3⟩ := getS2 X1 hx hZ hown (host := "") (Or.inl (hw _ (List.mem_of_getElem? (i := 19) rfl))) Via.refl e1 (S_OPERATION.ext O0.2) (g := (mkF m 8 #[.val (.ref o0_2)] [(.ref o0_2)])) rfl (hb hby d2_8)
    refine own_step (fun t k => st3 _ k) ?_
    show own_Ends p.tables e below s _ _ _ (T3.setTop (mkF m 11 #[.val (.ref o0_2)] [(.ref w_OPERATION), (.ref o0_2)]))
    by_cases ha11_4 : o0_2 = w_OPERATION
    · skip
      refine own_step (fun t k => Jvm.RoadKit.acmp (g := (mkF m 11 #[.val (.ref o0_2)] [(.ref w_OPERATION), (.ref o0_2)])) X3 hx rfl rfl rfl (pc0 := 11) (pc' := 32) (same := true) rfl (hb hby d2_11) rfl (decide_eq_true (congrArg Value.ref ha11_4)) (by decide) (by decide) k) ?_
      show own_Ends p.tables e below s _ _ _ (T3.setTop (mkF m 32 #[.val (.ref o0_2)] []))
      refine own_step (fun t k => XS.iconst X3.here hx rfl (hb hby d2_32) k) ?_
      show own_Ends p.tables e below s _ _ _ (T3.setTop (mkF m 33 #[.val (.ref o0_2)] [(.int (0 : Int32))]))
      exact own_retN X3 hx (t := .boolean) Bd.returns (by simp) (hb hby d2_33) hnl (by rw [e3]; exact ⟨(congrArg (fun z => some (Value.int z)) (Eq.symm (show (own_r2 o0_2 w_FILE w_OPERATION w_FACTORY w_IDS) = (0 : Int32) from by unfold own_r2; rw [if_neg ha4_2, if_pos ha11_4]))), N0, rfl⟩) (by decide) (by decide)
    · skip
      refine own_step (fun t k => Jvm.RoadKit.acmp (g := (mkF m 11 #[.val (.ref o0_2)] [(.ref w_OPERATION), (.ref o0_2)])) X3 hx rfl rfl rfl (pc0 := 11) (pc' := 14) (same := false) rfl (hb hby d2_11) rfl (decide_eq_false fun q => ha11_4 (Value.ref.inj q)) (by decide) (by decide) k) ?_
      show own_Ends p.tables e below s _ _ _ (T3.setTop (mkF m 14 #[.val (.ref o0_2)] []))
      refine own_step (fun t k => XS.aloadN X3.here hx rfl (hb hby d2_14) rfl rfl k) ?_
      show own_Ends p.tables e below s _ _ _ (T3.setTop (mkF m 15 #[.val (.ref o0_2)] [(.ref o0_2)]))
      obtain ⟨T5, X5, e5, st5⟩ := getS2 X3 hx hZ hown (host := "") (Or.inl (hw _ (List.mem_of_getElem? (i := 21) rfl))) Via.refl e3 (S_FACTORY.ext O0.2) (g := (mkF m 15 #[.val (.ref o0_2)] [(.ref o0_2)])) rfl (hb hby d2_15)
      refine own_step (fun t k => st5 _ k) ?_
      show own_Ends p.tables e below s _ _ _ (T5.setTop (mkF m 18 #[.val (.ref o0_2)] [(.ref w_FACTORY), (.ref o0_2)]))
      by_cases ha18_6 : o0_2 = w_FACTORY
      · skip
        refine own_step (fun t k => Jvm.RoadKit.acmp (g := (mkF m 18 #[.val (.ref o0_2)] [(.ref w_FACTORY), (.ref o0_2)])) X5 hx rfl rfl rfl (pc0 := 18) (pc' := 32) (same := true) rfl (hb hby d2_18) rfl (decide_eq_true (congrArg Value.ref ha18_6)) (by decide) (by decide) k) ?_
        show own_Ends p.tables e below s _ _ _ (T5.setTop (mkF m 32 #[.val (.ref o0_2)] []))
        refine own_step (fun t k => XS.iconst X5.here hx rfl (hb hby d2_32) k) ?_
        show own_Ends p.tables e below s _ _ _ (T5.setTop (mkF m 33 #[.val (.ref o0_2)] [(.int (0 : Int32))]))
        exact own_retN X5 hx (t := .boolean) Bd.returns (by simp) (hb hby d2_33) hnl (by rw [e5]; exact ⟨(congrArg (fun z => some (Value.int z)) (Eq.symm (show (own_r2 o0_2 w_FILE w_OPERATION w_FACTORY w_IDS) = (0 : Int32) from by unfold own_r2; rw [if_neg ha4_2, if_neg ha11_4, if_pos ha18_6]))), N0, rfl⟩) (by decide) (by decide)
      · skip
        refine own_step (fun t k => Jvm.RoadKit.acmp (g := (mkF m 18 #[.val (.ref o0_2)] [(.ref w_FACTORY), (.ref o0_2)])) X5 hx rfl rfl rfl (pc0 := 18) (pc' := 21) (same := false) rfl (hb hby d2_18) rfl (decide_eq_false fun q => ha18_6 (Value.ref.inj q)) (by decide) (by decide) k) ?_
        show own_Ends p.tables e below s _ _ _ (T5.setTop (mkF m 21 #[.val (.ref o0_2)] []))
        refine own_step (fun t k => XS.aloadN X5.here hx rfl (hb hby d2_21) rfl rfl k) ?_
        show own_Ends p.tables e below s _ _ _ (T5.setTop (mkF m 22 #[.val (.ref o0_2)] [(.ref o0_2)]))
        obtain ⟨T7, X7, e7, st7⟩ := getS2 X5 hx hZ hown (host := "") (Or.inl (hw _ (List.mem_of_getElem? (i := 23) rfl))) Via.refl e5 (S_IDS.ext O0.2) (g := (mkF m 22 #[.val (.ref o0_2)] [(.ref o0_2)])) rfl (hb hby d2_22)
        refine own_step (fun t k => st7 _ k) ?_
        show own_Ends p.tables e below s _ _ _ (T7.setTop (mkF m 25 #[.val (.ref o0_2)] [(.ref w_IDS), (.ref o0_2)]))
        by_cases ha25_8 : o0_2 = w_IDS
        · skip
          refine own_step (fun t k => Jvm.RoadKit.acmp (g := (mkF m 25 #[.val (.ref o0_2)] [(.ref w_IDS), (.ref o0_2)])) X7 hx rfl rfl rfl (pc0 := 25) (pc' := 32) (same := true) rfl (hb hby d2_25) rfl (decide_eq_true (congrArg Value.ref ha25_8)) (by decide) (by decide) k) ?_
          show own_Ends p.tables e below s _ _ _ (T7.setTop (mkF m 32 #[.val (.ref o0_2)] []))
          refine own_step (fun t k => XS.iconst X7.here hx rfl (hb hby d2_32) k) ?_
          show own_Ends p.tables e below s _ _ _ (T7.setTop (mkF m 33 #[.val (.ref o0_2)] [(.int (0 : Int32))]))
          exact own_retN X7 hx (t := .boolean) Bd.returns (by simp) (hb hby d2_33) hnl (by rw [e7]; exact ⟨(congrArg (fun z => some (Value.int z)) (Eq.symm (show (own_r2 o0_2 w_FILE w_OPERATION w_FACTORY w_IDS) = (0 : Int32) from by unfold own_r2; rw [if_neg ha4_2, if_neg ha11_4, if_neg ha18_6, if_pos ha25_8]))), N0, rfl⟩) (by decide) (by decide)
        · skip
          refine own_step (fun t k => Jvm.RoadKit.acmp (g := (mkF m 25 #[.val (.ref o0_2)] [(.ref w_IDS), (.ref o0_2)])) X7 hx rfl rfl rfl (pc0 := 25) (pc' := 28) (same := false) rfl (hb hby d2_25) rfl (decide_eq_false fun q => ha25_8 (Value.ref.inj q)) (by decide) (by decide) k) ?_
          show own_Ends p.tables e below s _ _ _ (T7.setTop (mkF m 28 #[.val (.ref o0_2)] []))
          refine own_step (fun t k => XS.iconst X7.here hx rfl (hb hby d2_28) k) ?_
          show own_Ends p.tables e below s _ _ _ (T7.setTop (mkF m 29 #[.val (.ref o0_2)] [(.int (1 : Int32))]))
          refine own_step (fun t k => XS.goto X7.here hx rfl (pc0 := 29) (pc' := 33) rfl (hb hby d2_29) (by decide) (by decide) k) ?_
          show own_Ends p.tables e below s _ _ _ (T7.setTop (mkF m 33 #[.val (.ref o0_2)] [(.int (1 : Int32))]))
          exact own_retN X7 hx (t := .boolean) Bd.returns (by simp) (hb hby d2_33) hnl (by rw [e7]; exact ⟨(congrArg (fun z => some (Value.int z)) (Eq.symm (show (own_r2 o0_2 w_FILE w_OPERATION w_FACTORY w_IDS) = (1 : Int32) from by unfold own_r2; rw [if_neg ha4_2, if_neg ha11_4, if_neg ha18_6, if_neg ha25_8]))), N0, rfl⟩) (by decide) (by decide)
def own_r3 (x0_3 : Int32) : Int32 := (if x0_3 = (0 : Int32) then (0 : Int32) else (if x0_3 = (7 : Int32) then (0 : Int32) else (if x0_3 = (8 : Int32) then (0 : Int32) else (if x0_3 = (11 : Int32) then (0 : Int32) else (1 : Int32)))))
theorem d3_0 : decode method_3_code 0 = .ok (.iload_n 0, 1) := by decide +kernel
theorem d3_1 : decode method_3_code 1 = .ok (.ifCond .ne 5, 3) := by decide +kernel
theorem d3_4 : decode method_3_code 4 = .ok (.iconst 0, 1) := by decide +kernel
theorem d3_5 : decode method_3_code 5 = .ok (.ireturn, 1) := by decide +kernel
theorem d3_6 : decode method_3_code 6 = .ok (.iload_n 0, 1) := by decide +kernel
theorem d3_7 : decode method_3_code 7 = .ok (.bipush 7, 2) := by decide +kernel
theorem d3_9 : decode method_3_code 9 = .ok (.if_icmp .ne 5, 3) := by decide +kernel
theorem d3_12 : decode method_3_code 12 = .ok (.iconst 0, 1) := by decide +kernel
theorem d3_13 : decode method_3_code 13 = .ok (.ireturn, 1) := by decide +kernel
theorem d3_14 : decode method_3_code 14 = .ok (.iload_n 0, 1) := by decide +kernel
theorem d3_15 : decode method_3_code 15 = .ok (.bipush 8, 2) := by decide +kernel
theorem d3_17 : decode method_3_code 17 = .ok (.if_icmp .ne 5, 3) := by decide +kernel
theorem d3_20 : decode method_3_code 20 = .ok (.iconst 0, 1) := by decide +kernel
theorem d3_21 : decode method_3_code 21 = .ok (.ireturn, 1) := by decide +kernel
theorem d3_22 : decode method_3_code 22 = .ok (.iload_n 0, 1) := by decide +kernel
theorem d3_23 : decode method_3_code 23 = .ok (.bipush 11, 2) := by decide +kernel
theorem d3_25 : decode method_3_code 25 = .ok (.if_icmp .ne 5, 3) := by decide +kernel
theorem d3_28 : decode method_3_code 28 = .ok (.iconst 0, 1) := by decide +kernel
theorem d3_29 : decode method_3_code 29 = .ok (.ireturn, 1) := by decide +kernel
theorem d3_30 : decode method_3_code 30 = .ok (.iconst 1, 1) := by decide +kernel
theorem d3_31 : decode method_3_code 31 = .ok (.ireturn, 1) := by decide +kernel
theorem ef_3 (m : MethodId) (x0_3 : Int32) : entryFrame m #[(.int x0_3)] 1 = mkF m 0 #[.val (.int x0_3)] [] := by first | (simp [entryFrame, mkF, argsToLocals, Value.category]; done) | rfl
def Q3 (Z : State) (x0_3 : Int32) (h0 : Heap) (n0 : Nat) (v : Option Value) (h : Heap) (L : List Loc) : Prop := v = some (.int (own_r3 x0_3)) ∧ Fr n0 L ∧ h = h0
set_option maxRecDepth 65536 in
set_option maxHeartbeats 40000000 in
theorem rm3 (l : Launch) (Z : State) (a0 : Array Value) (hw : ∀ d ∈ tables_1, d.before a0 Z = true) (ws : List Jvm.Cond) (x0_3 : Int32) (h0 : Heap) (n0 : Nat) (O0 : Old Z n0 h0) :
    MetFree l (⟨"com/example/idlect/idlect/core/KindNameReservedPinLaw", "expected", "(I)Z"⟩ : MethodName) (head1 (Jvm.Cond.code (⟨"com/example/idlect/idlect/core/KindNameReservedPinLaw", "expected", "(I)Z"⟩ : MethodName) method_3_code 1 (some .boolean) :: ws) ({ frames := 0, cells := 0, slots := 0, locals := 0 } : Room)) (fun a U => a = #[(.int x0_3)] ∧ Z.Warmed39 U.vm ∧ U.heap = h0) (fun _ _ _ _ _ => True) (fun _ U o U' => ∃ v L, o = .returned v ∧ Q3 Z x0_3 h0 n0 v U'.heap L ∧ FrameEnd U o U' L ({ frames := 0, cells := 0, slots := 0, locals := 0 } : Room).cells ({ frames := 0, cells := 0, slots := 0, locals := 0 } : Room).slots) := by
  refine MetFree.of_bodySF (plainFor_of_name pn_0) hisR ?_
  intro p e s m args below meth c s₁ Bd hml0 hP hK
  obtain ⟨rfl, hZ, hh⟩ := hP
  have hx := Bd.exec
  have hby := Bd.bytes
  have hnl := BodyLoose.notSynchronized Bd
  have hml : c.maxLocals = 1 := hml0
  have hown : s.vm.findClass "com/example/idlect/idlect/core/KindNameReservedPinLaw" = some m.cls := findClass_of_methodNamed Bd.named
  have hnm := (name_of_methodNamed Bd.named Bd.method).1
  have X0 : Stand p l e ({ frames := 0, cells := 0, slots := 0, locals := 0 } : Room) s m #[(.int x0_3)] below meth c s₁ [] 0 0 := Stand.of_body Bd
  have e0 : s₁.heap = h0 := by rw [← hh, Bd.state]; rfl
  have N0 := Fr.nil n0
  show own_Ends p.tables e below s (Q3 Z x0_3 h0 n0) 0 0 (s₁.setTop (entryFrame m #[(.int x0_3)] 1))
  rw [ef_3 m x0_3]
  show own_Ends p.tables e below s _ _ _ (s₁.setTop (mkF m 0 #[.val (.int x0_3)] []))
  refine own_step (fun t k => XS.iloadN X0.here hx rfl (hb hby d3_0) rfl k) ?_
  show own_Ends p.tables e below s _ _ _ (s₁.setTop (mkF m 1 #[.val (.int x0_3)] [(.int x0_3)]))
  by_cases hc1_1 : x0_3 = (0 : Int32)
  · skip
    refine own_step (fun t k => XS.ifNo X0.here hx rfl (hb hby d3_1) rfl ((if0 _ _).trans (teq hc1_1).2) k) ?_
    show own_Ends p.tables e below s _ _ _ (s₁.setTop (mkF m 4 #[.val (.int x0_3)] []))
    refine own_step (fun t k => XS.iconst X0.here hx rfl (hb hby d3_4) k) ?_
    show own_Ends p.tables e below s _ _ _ (s₁.setTop (mkF m 5 #[.val (.int x0_3)] [(.int (0 : Int32))]))
    exact own_retN X0 hx (t := .boolean) Bd.returns (by simp) (hb hby d3_5) hnl (by rw [e0]; exact ⟨(congrArg (fun z => some (Value.int z)) (Eq.symm (show (own_r3 x0_3) = (0 : Int32) from by unfold own_r3; rw [if_pos hc1_1]))), N0, rfl⟩) (by decide) (by decide)
  · skip
    refine own_step (fun t k => XS.ifYes X0.here hx rfl (pc0 := 1) (pc' := 6) rfl (hb hby d3_1) rfl ((if0 _ _).trans (feq hc1_1).2) (by decide) (by decide) k) ?_
    show own_Ends p.tables e below s _ _ _ (s₁.setTop (mkF m 6 #[.val (.int x0_3)] []))
    refine own_step (fun t k => XS.iloadN X0.here hx rfl (hb hby d3_6) rfl k) ?_
    show own_Ends p.tables e below s _ _ _ (s₁.setTop (mkF m 7 #[.val (.int x0_3)] [(.int x0_3)]))
    refine own_step (fun t k => XS.bipush X0.here hx rfl (hb hby d3_7) k) ?_
    show own_Ends p.tables e below s _ _ _ (s₁.setTop (mkF m 9 #[.val (.int x0_3)] [(.int (7 : Int32)), (.int x0_3)]))
    by_cases hc9_2 : x0_3 = (7 : Int32)
    · skip
      refine own_step (fun t k => XS.icmpNo X0.here hx rfl (hb hby d3_9) rfl (teq hc9_2).2 k) ?_
      show own_Ends p.tables e below s _ _ _ (s₁.setTop (mkF m 12 #[.val (.int x0_3)] []))
      refine own_step (fun t k => XS.iconst X0.here hx rfl (hb hby d3_12) k) ?_
      show own_Ends p.tables e below s _ _ _ (s₁.setTop (mkF m 13 #[.val (.int x0_3)] [(.int (0 : Int32))]))
      exact own_retN X0 hx (t := .boolean) Bd.returns (by simp) (hb hby d3_13) hnl (by rw [e0]; exact ⟨(congrArg (fun z => some (Value.int z)) (Eq.symm (show (own_r3 x0_3) = (0 : Int32) from by unfold own_r3; rw [if_neg hc1_1, if_pos hc9_2]))), N0, rfl⟩) (by decide) (by decide)
    · skip
      refine own_step (fun t k => XS.icmpYes X0.here hx rfl (pc0 := 9) (pc' := 14) rfl (hb hby d3_9) rfl (feq hc9_2).2 (by decide) (by decide) k) ?_
      show own_Ends p.tables e below s _ _ _ (s₁.setTop (mkF m 14 #[.val (.int x0_3)] []))
      refine own_step (fun t k => XS.iloadN X0.here hx rfl (hb hby d3_14) rfl k) ?_
      show own_Ends p.tables e below s _ _ _ (s₁.setTop (mkF m 15 #[.val (.int x0_3)] [(.int x0_3)]))
      refine own_step (fun t k => XS.bipush X0.here hx rfl (hb hby d3_15) k) ?_
      show own_Ends p.tables e below s _ _ _ (s₁.setTop (mkF m 17 #[.val (.int x0_3)] [(.int (8 : Int32)), (.int x0_3)]))
      by_cases hc17_3 : x0_3 = (8 : Int32)
      · skip
        refine own_step (fun t k => XS.icmpNo X0.here hx rfl (hb hby d3_17) rfl (teq hc17_3).2 k) ?_
        show own_Ends p.tables e below s _ _ _ (s₁.setTop (mkF m 20 #[.val (.int x0_3)] []))
        refine own_step (fun t k => XS.iconst X0.here hx rfl (hb hby d3_20) k) ?_
        show own_Ends p.tables e below s _ _ _ (s₁.setTop (mkF m 21 #[.val (.int x0_3)] [(.int (0 : Int32))]))
        exact own_retN X0 hx (t := .boolean) Bd.returns (by simp) (hb hby d3_21) hnl (by rw [e0]; exact ⟨(congrArg (fun z => some (Value.int z)) (Eq.symm (show (own_r3 x0_3) = (0 : Int32) from by unfold own_r3; rw [if_neg hc1_1, if_neg hc9_2, if_pos hc17_3]))), N0, rfl⟩) (by decide) (by decide)
      · skip
        refine own_step (fun t k => XS.icmpYes X0.here hx rfl (pc0 := 17) (pc' := 22) rfl (hb hby d3_17) rfl (feq hc17_3).2 (by decide) (by decide) k) ?_
        show own_Ends p.tables e below s _ _ _ (s₁.setTop (mkF m 22 #[.val (.int x0_3)] []))
        refine own_step (fun t k => XS.iloadN X0.here hx rfl (hb hby d3_22) rfl k) ?_
        show own_Ends p.tables e below s _ _ _ (s₁.setTop (mkF m 23 #[.val (.int x0_3)] [(.int x0_3)]))
        refine own_step (fun t k => XS.bipush X0.here hx rfl (hb hby d3_23) k) ?_
        show own_Ends p.tables e below s _ _ _ (s₁.setTop (mkF m 25 #[.val (.int x0_3)] [(.int (11 : Int32)), (.int x0_3)]))
        by_cases hc25_4 : x0_3 = (11 : Int32)
        · skip
          refine own_step (fun t k => XS.icmpNo X0.here hx rfl (hb hby d3_25) rfl (teq hc25_4).2 k) ?_
          show own_Ends p.tables e below s _ _ _ (s₁.setTop (mkF m 28 #[.val (.int x0_3)] []))
          refine own_step (fun t k => XS.iconst X0.here hx rfl (hb hby d3_28) k) ?_
          show own_Ends p.tables e below s _ _ _ (s₁.setTop (mkF m 29 #[.val (.int x0_3)] [(.int (0 : Int32))]))
          exact own_retN X0 hx (t := .boolean) Bd.returns (by simp) (hb hby d3_29) hnl (by rw [e0]; exact ⟨(congrArg (fun z => some (Value.int z)) (Eq.symm (show (own_r3 x0_3) = (0 : Int32) from by unfold own_r3; rw [if_neg hc1_1, if_neg hc9_2, if_neg hc17_3, if_pos hc25_4]))), N0, rfl⟩) (by decide) (by decide)
        · skip
          refine own_step (fun t k => XS.icmpYes X0.here hx rfl (pc0 := 25) (pc' := 30) rfl (hb hby d3_25) rfl (feq hc25_4).2 (by decide) (by decide) k) ?_
          show own_Ends p.tables e below s _ _ _ (s₁.setTop (mkF m 30 #[.val (.int x0_3)] []))
          refine own_step (fun t k => XS.iconst X0.here hx rfl (hb hby d3_30) k) ?_
          show own_Ends p.tables e below s _ _ _ (s₁.setTop (mkF m 31 #[.val (.int x0_3)] [(.int (1 : Int32))]))
          exact own_retN X0 hx (t := .boolean) Bd.returns (by simp) (hb hby d3_31) hnl (by rw [e0]; exact ⟨(congrArg (fun z => some (Value.int z)) (Eq.symm (show (own_r3 x0_3) = (1 : Int32) from by unfold own_r3; rw [if_neg hc1_1, if_neg hc9_2, if_neg hc17_3, if_neg hc25_4]))), N0, rfl⟩) (by decide) (by decide)
theorem own_cases12 (v : Int32) (h : ¬ v < 0 ∧ v < 12) : v = 0 ∨ v = 1 ∨ v = 2 ∨ v = 3 ∨ v = 4 ∨ v = 5 ∨ v = 6 ∨ v = 7 ∨ v = 8 ∨ v = 9 ∨ v = 10 ∨ v = 11 := by
  obtain ⟨n, rfl⟩ := own_small v 12 (by decide) h.1 h.2
  revert n; decide

theorem pd_0 : parseMethodDescriptor "(I)Lcom/example/idlect/idlect/core/Symbol$Container$Kind;" = some ⟨[.int], some (.object "com/example/idlect/idlect/core/Symbol$Container$Kind")⟩ := by decide +kernel
theorem pd_1 : parseMethodDescriptor "()Z" = some ⟨[], some .boolean⟩ := by decide +kernel
theorem pd_2 : parseMethodDescriptor "(I)Z" = some ⟨[.int], some .boolean⟩ := by decide +kernel
theorem ef_0 (m : MethodId) (x0_0 : Int32) : entryFrame m #[(.int x0_0)] maxLocals = mkF m 0 #[.val (.int x0_0), .unset, .unset] [] := by first | (simp [entryFrame, mkF, argsToLocals, Value.category, maxLocals]; done) | rfl
def Q0 (Z : State) (w_FILE : Addr) (w_MODULE : Addr) (w_INTERFACE : Addr) (w_VALUE_TYPE : Addr) (w_STRUCT : Addr) (w_UNION : Addr) (w_EXCEPTION : Addr) (w_OPERATION : Addr) (w_FACTORY : Addr) (w_COMPONENT : Addr) (w_COMPONENT_INTERFACE : Addr) (w_IDS : Addr) (x0_0 : Int32) (h0 : Heap) (n0 : Nat) (v : Option Value) (h : Heap) (L : List Loc) : Prop := v = some (.int 1) ∧ Fr n0 L
set_option maxRecDepth 65536 in
set_option maxHeartbeats 40000000 in
theorem rm0 (l : Launch) (Z : State) (a0 : Array Value) (hw : ∀ d ∈ tables_1, d.before a0 Z = true) (ws : List Jvm.Cond) (w_FILE : Addr) (w_MODULE : Addr) (w_INTERFACE : Addr) (w_VALUE_TYPE : Addr) (w_STRUCT : Addr) (w_UNION : Addr) (w_EXCEPTION : Addr) (w_OPERATION : Addr) (w_FACTORY : Addr) (w_COMPONENT : Addr) (w_COMPONENT_INTERFACE : Addr) (w_IDS : Addr) (x0_0 : Int32) (h0 : Heap) (n0 : Nat) (O0 : Old Z n0 h0) (ne_w_FILE_w_OPERATION : w_FILE ≠ w_OPERATION) (ne_w_FILE_w_FACTORY : w_FILE ≠ w_FACTORY) (ne_w_FILE_w_IDS : w_FILE ≠ w_IDS) (ne_w_MODULE_w_FILE : w_MODULE ≠ w_FILE) (ne_w_MODULE_w_OPERATION : w_MODULE ≠ w_OPERATION) (ne_w_MODULE_w_FACTORY : w_MODULE ≠ w_FACTORY) (ne_w_MODULE_w_IDS : w_MODULE ≠ w_IDS) (ne_w_INTERFACE_w_FILE : w_INTERFACE ≠ w_FILE) (ne_w_INTERFACE_w_OPERATION : w_INTERFACE ≠ w_OPERATION) (ne_w_INTERFACE_w_FACTORY : w_INTERFACE ≠ w_FACTORY) (ne_w_INTERFACE_w_IDS : w_INTERFACE ≠ w_IDS) (ne_w_VALUE_TYPE_w_FILE : w_VALUE_TYPE ≠ w_FILE) (ne_w_VALUE_TYPE_w_OPERATION : w_VALUE_TYPE ≠ w_OPERATION) (ne_w_VALUE_TYPE_w_FACTORY : w_VALUE_TYPE ≠ w_FACTORY) (ne_w_VALUE_TYPE_w_IDS : w_VALUE_TYPE ≠ w_IDS) (ne_w_STRUCT_w_FILE : w_STRUCT ≠ w_FILE) (ne_w_STRUCT_w_OPERATION : w_STRUCT ≠ w_OPERATION) (ne_w_STRUCT_w_FACTORY : w_STRUCT ≠ w_FACTORY) (ne_w_STRUCT_w_IDS : w_STRUCT ≠ w_IDS) (ne_w_UNION_w_FILE : w_UNION ≠ w_FILE) (ne_w_UNION_w_OPERATION : w_UNION ≠ w_OPERATION) (ne_w_UNION_w_FACTORY : w_UNION ≠ w_FACTORY) (ne_w_UNION_w_IDS : w_UNION ≠ w_IDS) (ne_w_EXCEPTION_w_FILE : w_EXCEPTION ≠ w_FILE) (ne_w_EXCEPTION_w_OPERATION : w_EXCEPTION ≠ w_OPERATION) (ne_w_EXCEPTION_w_FACTORY : w_EXCEPTION ≠ w_FACTORY) (ne_w_EXCEPTION_w_IDS : w_EXCEPTION ≠ w_IDS) (ne_w_OPERATION_w_FACTORY : w_OPERATION ≠ w_FACTORY) (ne_w_OPERATION_w_IDS : w_OPERATION ≠ w_IDS) (ne_w_FACTORY_w_IDS : w_FACTORY ≠ w_IDS) (ne_w_COMPONENT_w_FILE : w_COMPONENT ≠ w_FILE) (ne_w_COMPONENT_w_OPERATION : w_COMPONENT ≠ w_OPERATION) (ne_w_COMPONENT_w_FACTORY : w_COMPONENT ≠ w_FACTORY) (ne_w_COMPONENT_w_IDS : w_COMPONENT ≠ w_IDS) (ne_w_COMPONENT_INTERFACE_w_FILE : w_COMPONENT_INTERFACE ≠ w_FILE) (ne_w_COMPONENT_INTERFACE_w_OPERATION : w_COMPONENT_INTERFACE ≠ w_OPERATION) (ne_w_COMPONENT_INTERFACE_w_FACTORY : w_COMPONENT_INTERFACE ≠ w_FACTORY) (ne_w_COMPONENT_INTERFACE_w_IDS : w_COMPONENT_INTERFACE ≠ w_IDS) (S_FILE : Sta Z Z.heap "com/example/idlect/idlect/core/Symbol$Container$Kind" "FILE" "Lcom/example/idlect/idlect/core/Symbol$Container$Kind;" (.ref w_FILE)) (S_MODULE : Sta Z Z.heap "com/example/idlect/idlect/core/Symbol$Container$Kind" "MODULE" "Lcom/example/idlect/idlect/core/Symbol$Container$Kind;" (.ref w_MODULE)) (S_INTERFACE : Sta Z Z.heap "com/example/idlect/idlect/core/Symbol$Container$Kind" "INTERFACE" "Lcom/example/idlect/idlect/core/Symbol$Container$Kind;" (.ref w_INTERFACE)) (S_VALUE_TYPE : Sta Z Z.heap "com/example/idlect/idlect/core/Symbol$Container$Kind" "VALUE_TYPE" "Lcom/example/idlect/idlect/core/Symbol$Container$Kind;" (.ref w_VALUE_TYPE)) (S_STRUCT : Sta Z Z.heap "com/example/idlect/idlect/core/Symbol$Container$Kind" "STRUCT" "Lcom/example/idlect/idlect/core/Symbol$Container$Kind;" (.ref w_STRUCT)) (S_UNION : Sta Z Z.heap "com/example/idlect/idlect/core/Symbol$Container$Kind" "UNION" "Lcom/example/idlect/idlect/core/Symbol$Container$Kind;" (.ref w_UNION)) (S_EXCEPTION : Sta Z Z.heap "com/example/idlect/idlect/core/Symbol$Container$Kind" "EXCEPTION" "Lcom/example/idlect/idlect/core/Symbol$Container$Kind;" (.ref w_EXCEPTION)) (S_OPERATION : Sta Z Z.heap "com/example/idlect/idlect/core/Symbol$Container$Kind" "OPERATION" "Lcom/example/idlect/idlect/core/Symbol$Container$Kind;" (.ref w_OPERATION)) (S_FACTORY : Sta Z Z.heap "com/example/idlect/idlect/core/Symbol$Container$Kind" "FACTORY" "Lcom/example/idlect/idlect/core/Symbol$Container$Kind;" (.ref w_FACTORY)) (S_COMPONENT : Sta Z Z.heap "com/example/idlect/idlect/core/Symbol$Container$Kind" "COMPONENT" "Lcom/example/idlect/idlect/core/Symbol$Container$Kind;" (.ref w_COMPONENT)) (S_COMPONENT_INTERFACE : Sta Z Z.heap "com/example/idlect/idlect/core/Symbol$Container$Kind" "COMPONENT_INTERFACE" "Lcom/example/idlect/idlect/core/Symbol$Container$Kind;" (.ref w_COMPONENT_INTERFACE)) (S_IDS : Sta Z Z.heap "com/example/idlect/idlect/core/Symbol$Container$Kind" "IDS" "Lcom/example/idlect/idlect/core/Symbol$Container$Kind;" (.ref w_IDS)) (E_w_FILE : Exa Z h0 w_FILE "com/example/idlect/idlect/core/Symbol$Container$Kind") (E_w_MODULE : Exa Z h0 w_MODULE "com/example/idlect/idlect/core/Symbol$Container$Kind") (E_w_INTERFACE : Exa Z h0 w_INTERFACE "com/example/idlect/idlect/core/Symbol$Container$Kind") (E_w_VALUE_TYPE : Exa Z h0 w_VALUE_TYPE "com/example/idlect/idlect/core/Symbol$Container$Kind") (E_w_STRUCT : Exa Z h0 w_STRUCT "com/example/idlect/idlect/core/Symbol$Container$Kind") (E_w_UNION : Exa Z h0 w_UNION "com/example/idlect/idlect/core/Symbol$Container$Kind") (E_w_EXCEPTION : Exa Z h0 w_EXCEPTION "com/example/idlect/idlect/core/Symbol$Container$Kind") (E_w_OPERATION : Exa Z h0 w_OPERATION "com/example/idlect/idlect/core/Symbol$Container$Kind") (E_w_FACTORY : Exa Z h0 w_FACTORY "com/example/idlect/idlect/core/Symbol$Container$Kind") (E_w_COMPONENT : Exa Z h0 w_COMPONENT "com/example/idlect/idlect/core/Symbol$Container$Kind") (E_w_COMPONENT_INTERFACE : Exa Z h0 w_COMPONENT_INTERFACE "com/example/idlect/idlect/core/Symbol$Container$Kind") (E_w_IDS : Exa Z h0 w_IDS "com/example/idlect/idlect/core/Symbol$Container$Kind") :
    MetFree l x (head1 (Jvm.Cond.code x code maxLocals ret :: ws) room_1) (fun a U => a = #[(.int x0_0)] ∧ Z.Warmed39 U.vm ∧ U.heap = h0) (fun _ _ _ _ _ => True) (fun _ U o U' => ∃ v L, o = .returned v ∧ Q0 Z w_FILE w_MODULE w_INTERFACE w_VALUE_TYPE w_STRUCT w_UNION w_EXCEPTION w_OPERATION w_FACTORY w_COMPONENT w_COMPONENT_INTERFACE w_IDS x0_0 h0 n0 v U'.heap L ∧ FrameEnd U o U' L 0 0) := by
  refine MetFree.of_bodySF (plainFor_of_name pn_0) hisR ?_
  intro p e s m args below meth c s₁ Bd hml0 hP hK
  obtain ⟨rfl, hZ, hh⟩ := hP
  have hx := Bd.exec
  have hby := Bd.bytes
  have hnl := BodyLoose.notSynchronized Bd
  have hml : c.maxLocals = 3 := hml0
  have hown : s.vm.findClass "com/example/idlect/idlect/core/KindNameReservedPinLaw" = some m.cls := findClass_of_methodNamed Bd.named
  have hnm := (name_of_methodNamed Bd.named Bd.method).1
  have X0 : Stand p l e room_1 s m #[(.int x0_0)] below meth c s₁ [] 0 0 := Stand.of_body Bd
  have e0 : s₁.heap = h0 := by rw [← hh, Bd.state]; rfl
  have N0 := Fr.nil n0
  show own_Ends p.tables e below s (Q0 Z w_FILE w_MODULE w_INTERFACE w_VALUE_TYPE w_STRUCT w_UNION w_EXCEPTION w_OPERATION w_FACTORY w_COMPONENT w_COMPONENT_INTERFACE w_IDS x0_0 h0 n0) 0 0 (s₁.setTop (entryFrame m #[(.int x0_0)] maxLocals))
  rw [ef_0 m x0_0]
  show own_Ends p.tables e below s _ _ _ (s₁.setTop (mkF m 0 #[.val (.int x0_0), .unset, .unset] []))
  refine own_step (fun t k => XS.iloadN X0.here hx rfl (hb hby at_0) rfl k) ?_
  show own_Ends p.tables e below s _ _ _ (s₁.setTop (mkF m 1 #[.val (.int x0_0), .unset, .unset] [(.int x0_0)]))
  refine own_step (fun t k => X0.ldcInt hx hown (mvT hZ (hw _ (List.mem_of_getElem? (i := 0) rfl))) (g := (mkF m 1 #[.val (.int x0_0), .unset, .unset] [(.int x0_0)])) rfl (hb hby at_1) _ k) ?_
  show own_Ends p.tables e below s _ _ _ (s₁.setTop (mkF m 3 #[.val (.int x0_0), .unset, .unset] [(.int (2147483647 : Int32)), (.int x0_0)]))
  refine own_step (fun t k => XS.iand X0.here hx rfl (hb hby at_3) rfl k) ?_
  show own_Ends p.tables e below s _ _ _ (s₁.setTop (mkF m 4 #[.val (.int x0_0), .unset, .unset] [(.int (x0_0 &&& (2147483647 : Int32)))]))
  refine own_step (fun t k => XS.bipush X0.here hx rfl (hb hby at_4) k) ?_
  show own_Ends p.tables e below s _ _ _ (s₁.setTop (mkF m 6 #[.val (.int x0_0), .unset, .unset] [(.int (12 : Int32)), (.int (x0_0 &&& (2147483647 : Int32)))]))
  refine own_step (fun t k => iremM X0 hx rfl (hb hby at_6) rfl (by decide) k) ?_
  show own_Ends p.tables e below s _ _ _ (s₁.setTop (mkF m 7 #[.val (.int x0_0), .unset, .unset] [(.int ((x0_0 &&& (2147483647 : Int32)) % (12 : Int32)))]))
  generalize hk12 : ((x0_0 &&& (2147483647 : Int32)) % (12 : Int32)) = k12
  show own_Ends p.tables e below s _ _ _ (s₁.setTop (mkF m 7 #[.val (.int x0_0), .unset, .unset] [(.int k12)]))
  refine own_step (fun t k => XS.istoreN X0.here hx rfl (hb hby at_7) rfl (l' := #[.val (.int x0_0), .val (.int k12), .unset]) rfl k) ?_
  show own_Ends p.tables e below s _ _ _ (s₁.setTop (mkF m 8 #[.val (.int x0_0), .val (.int k12), .unset] []))
  refine own_step (fun t k => XS.iloadN X0.here hx rfl (hb hby at_8) rfl k) ?_
  show own_Ends p.tables e below s _ _ _ (s₁.setTop (mkF m 9 #[.val (.int x0_0), .val (.int k12), .unset] [(.int k12)]))
  obtain ⟨_, _, ⟨T1, L1, k1, n1⟩, -, X1, ⟨Lc1, hQ1, l1, y1, z1⟩, st1⟩ := Jvm.LawKit.callS X0 hx (y := (⟨"com/example/idlect/idlect/core/KindNameReservedPinLaw", "pick", "(I)Lcom/example/idlect/idlect/core/Symbol$Container$Kind;"⟩ : MethodName)) hown (mvT hZ (hw _ (List.mem_of_getElem? (i := 1) rfl))) (mvT hZ (hw _ (List.mem_of_getElem? (i := 2) rfl))) (mvT hZ (hw _ (List.mem_of_getElem? (i := 3) rfl))) (mvT hZ (hw _ (List.mem_of_getElem? (i := 4) rfl))) (by decide) (backOf (W := 0) (rm1 l Z a0 hw [] k12 w_FILE w_MODULE w_INTERFACE w_VALUE_TYPE w_STRUCT w_UNION w_EXCEPTION w_OPERATION w_FACTORY w_COMPONENT w_COMPONENT_INTERFACE w_IDS h0 n0 O0 S_FILE S_MODULE S_INTERFACE S_VALUE_TYPE S_STRUCT S_UNION S_EXCEPTION S_OPERATION S_FACTORY S_COMPONENT S_COMPONENT_INTERFACE S_IDS) hZ (hw _ (List.mem_of_getElem? (i := 4) rfl)) (hw _ (List.mem_of_getElem? (i := 3) rfl)) (by decide) (by decide)) (g := (mkF m 9 #[.val (.int x0_0), .val (.int k12), .unset] [(.int k12)])) rfl (by rw [hml]; rfl) (argsL := [(.int k12)]) (rest := []) (lenOf pd_0 rfl) rfl (by show 2 * 0 + _ ≤ _; exact Nat.le_of_eq rfl) (hb hby at_9) (fun _ _ => ⟨rfl, e0, (by decide : 0 + 0 ≤ _), (by decide : 0 + 0 ≤ _)⟩)
  dsimp only [Pt.U, Pt.locs, Pt.cells, Pt.slots] at X1 l1 y1 z1 st1 hQ1
  subst l1 y1 z1
  obtain ⟨rfl, N1q, e1⟩ := hQ1
  refine own_step (fun t k => st1 _ k) ?_
  have N2 := Fr.app N0 N1q
  by_cases hs3 : k12 = (0 : Int32)
  · skip
    have hv4 : (own_r1 k12 w_FILE w_MODULE w_INTERFACE w_VALUE_TYPE w_STRUCT w_UNION w_EXCEPTION w_OPERATION w_FACTORY w_COMPONENT w_COMPONENT_INTERFACE w_IDS) = w_FILE := by unfold own_r1; rw [if_pos hs3]
    show own_Ends p.tables e below s _ _ _ (T1.setTop (mkF m 12 #[.val (.int x0_0), .val (.int k12), .unset] [(.ref (own_r1 k12 w_FILE w_MODULE w_INTERFACE w_VALUE_TYPE w_STRUCT w_UNION w_EXCEPTION w_OPERATION w_FACTORY w_COMPONENT w_COMPONENT_INTERFACE w_IDS))]))
    rw [hv4]
    show own_Ends p.tables e below s _ _ _ (T1.setTop (mkF m 12 #[.val (.int x0_0), .val (.int k12), .unset] [(.ref w_FILE)]))
    refine own_step (fun t k => XS.astoreN X1.here hx rfl (hb hby at_12) rfl rfl (l' := #[.val (.int x0_0), .val (.int k12), .val (.ref w_FILE)]) rfl k) ?_
    show own_Ends p.tables e below s _ _ _ (T1.setTop (mkF m 13 #[.val (.int x0_0), .val (.int k12), .val (.ref w_FILE)] []))
    refine own_step (fun t k => XS.aloadN X1.here hx rfl (hb hby at_13) rfl rfl k) ?_
    show own_Ends p.tables e below s _ _ _ (T1.setTop (mkF m 14 #[.val (.int x0_0), .val (.int k12), .val (.ref w_FILE)] [(.ref w_FILE)]))
    obtain ⟨cq5, kq5, q5a, q5b, q5c⟩ := isOf hZ e1 E_w_FILE
    obtain ⟨_, _, ⟨T5, L5, k5, n5⟩, -, X5, ⟨Lc5, hQ5, l5, y5, z5⟩, st5⟩ := X1.virtualBack hx (y := (⟨"com/example/idlect/idlect/core/Symbol$Container$Kind", "nameReserved", "()Z"⟩ : MethodName)) (z := (⟨"com/example/idlect/idlect/core/Symbol$Container$Kind", "nameReserved", "()Z"⟩ : MethodName)) hown (mvT hZ (hw _ (List.mem_of_getElem? (i := 8) rfl))) (mvT hZ (hw _ (List.mem_of_getElem? (i := 9) rfl))) (notFace_of_selects (args := #[]) (mvT hZ (hw _ (List.mem_of_getElem? (i := 11) rfl)))) (mvT hZ (hw _ (List.mem_of_getElem? (i := 11) rfl))) (mvT hZ (hw _ (List.mem_of_getElem? (i := 10) rfl))) (by decide) (backOf (W := 0) (rm2 l Z a0 hw [] w_FILE w_FILE w_OPERATION w_FACTORY w_IDS h0 n0 O0 S_FILE S_OPERATION S_FACTORY S_IDS) hZ (hw _ (List.mem_of_getElem? (i := 12) rfl)) (hw _ (List.mem_of_getElem? (i := 6) rfl)) (by decide) (by decide)) q5a q5c (g := (mkF m 14 #[.val (.int x0_0), .val (.int k12), .val (.ref w_FILE)] [(.ref w_FILE)])) rfl (by rw [hml]; rfl) (Steps.refl _) (argsL := []) (rest := []) (lenOf pd_1 rfl) rfl (by show 2 * 0 + _ ≤ _; exact Nat.le_of_eq rfl) (hb hby at_14) (fun _ _ => ⟨rfl, e1, (by decide : 0 + 0 ≤ _), (by decide : 0 + 0 ≤ _)⟩)
    dsimp only [Pt.U, Pt.locs, Pt.cells, Pt.slots] at X5 l5 y5 z5 st5 hQ5
    subst l5 y5 z5
    obtain ⟨rfl, N5q, e5⟩ := hQ5
    refine own_step (fun t k => st5.trans k) ?_
    have N6 := Fr.app N2 N5q
    show own_Ends p.tables e below s _ _ _ (T5.setTop (mkF m 17 #[.val (.int x0_0), .val (.int k12), .val (.ref w_FILE)] [(.int (own_r2 w_FILE w_FILE w_OPERATION w_FACTORY w_IDS))]))
    refine own_step (fun t k => XS.iloadN X5.here hx rfl (hb hby at_17) rfl k) ?_
    show own_Ends p.tables e below s _ _ _ (T5.setTop (mkF m 18 #[.val (.int x0_0), .val (.int k12), .val (.ref w_FILE)] [(.int k12), (.int (own_r2 w_FILE w_FILE w_OPERATION w_FACTORY w_IDS))]))
    obtain ⟨_, _, ⟨T7, L7, k7, n7⟩, -, X7, ⟨Lc7, hQ7, l7, y7, z7⟩, st7⟩ := Jvm.LawKit.callS X5 hx (y := (⟨"com/example/idlect/idlect/core/KindNameReservedPinLaw", "expected", "(I)Z"⟩ : MethodName)) hown (mvT hZ (hw _ (List.mem_of_getElem? (i := 14) rfl))) (mvT hZ (hw _ (List.mem_of_getElem? (i := 15) rfl))) (mvT hZ (hw _ (List.mem_of_getElem? (i := 3) rfl))) (mvT hZ (hw _ (List.mem_of_getElem? (i := 16) rfl))) (by decide) (backOf (W := 1) (rm3 l Z a0 hw [] k12 h0 n0 O0 ) hZ (hw _ (List.mem_of_getElem? (i := 16) rfl)) (hw _ (List.mem_of_getElem? (i := 3) rfl)) (by decide) (by decide)) (g := (mkF m 18 #[.val (.int x0_0), .val (.int k12), .val (.ref w_FILE)] [(.int k12), (.int (own_r2 w_FILE w_FILE w_OPERATION w_FACTORY w_IDS))])) rfl (by rw [hml]; rfl) (argsL := [(.int k12)]) (rest := [(.int (own_r2 w_FILE w_FILE w_OPERATION w_FACTORY w_IDS))]) (lenOf pd_2 rfl) rfl (by show 2 * 0 + _ ≤ _; exact Nat.le_of_eq rfl) (hb hby at_18) (fun _ _ => ⟨rfl, e5, (by decide : 0 + 0 ≤ _), (by decide : 0 + 0 ≤ _)⟩)
    dsimp only [Pt.U, Pt.locs, Pt.cells, Pt.slots] at X7 l7 y7 z7 st7 hQ7
    subst l7 y7 z7
    obtain ⟨rfl, N7q, e7⟩ := hQ7
    refine own_step (fun t k => st7 _ k) ?_
    have N8 := Fr.app N6 N7q
    show own_Ends p.tables e below s _ _ _ (T7.setTop (mkF m 21 #[.val (.int x0_0), .val (.int k12), .val (.ref w_FILE)] [(.int (own_r3 k12)), (.int (own_r2 w_FILE w_FILE w_OPERATION w_FACTORY w_IDS))]))
    by_cases hc21_9 : (own_r2 w_FILE w_FILE w_OPERATION w_FACTORY w_IDS) = (own_r3 k12)
    · skip
      refine own_step (fun t k => XS.icmpNo X7.here hx rfl (hb hby at_21) rfl (teq hc21_9).2 k) ?_
      show own_Ends p.tables e below s _ _ _ (T7.setTop (mkF m 24 #[.val (.int x0_0), .val (.int k12), .val (.ref w_FILE)] []))
      refine own_step (fun t k => XS.iconst X7.here hx rfl (hb hby at_24) k) ?_
      show own_Ends p.tables e below s _ _ _ (T7.setTop (mkF m 25 #[.val (.int x0_0), .val (.int k12), .val (.ref w_FILE)] [(.int (1 : Int32))]))
      refine own_step (fun t k => XS.goto X7.here hx rfl (pc0 := 25) (pc' := 29) rfl (hb hby at_25) (by decide) (by decide) k) ?_
      show own_Ends p.tables e below s _ _ _ (T7.setTop (mkF m 29 #[.val (.int x0_0), .val (.int k12), .val (.ref w_FILE)] [(.int (1 : Int32))]))
      exact own_retN X7 hx (t := .boolean) Bd.returns (by simp) (hb hby at_29) hnl (by rw [e7]; exact ⟨rfl, N8⟩) (by decide) (by decide)
    · skip
      refine own_step (fun t k => XS.icmpYes X7.here hx rfl (pc0 := 21) (pc' := 28) rfl (hb hby at_21) rfl (feq hc21_9).2 (by decide) (by decide) k) ?_
      show own_Ends p.tables e below s _ _ _ (T7.setTop (mkF m 28 #[.val (.int x0_0), .val (.int k12), .val (.ref w_FILE)] []))
      refine own_step (fun t k => XS.iconst X7.here hx rfl (hb hby at_28) k) ?_
      show own_Ends p.tables e below s _ _ _ (T7.setTop (mkF m 29 #[.val (.int x0_0), .val (.int k12), .val (.ref w_FILE)] [(.int (0 : Int32))]))
      exfalso
      apply hc21_9
      simp [own_r2, own_r3, hs3, ne_w_FILE_w_OPERATION, ne_w_FILE_w_FACTORY, ne_w_FILE_w_IDS, ne_w_MODULE_w_FILE, ne_w_MODULE_w_OPERATION, ne_w_MODULE_w_FACTORY, ne_w_MODULE_w_IDS, ne_w_INTERFACE_w_FILE, ne_w_INTERFACE_w_OPERATION, ne_w_INTERFACE_w_FACTORY, ne_w_INTERFACE_w_IDS, ne_w_VALUE_TYPE_w_FILE, ne_w_VALUE_TYPE_w_OPERATION, ne_w_VALUE_TYPE_w_FACTORY, ne_w_VALUE_TYPE_w_IDS, ne_w_STRUCT_w_FILE, ne_w_STRUCT_w_OPERATION, ne_w_STRUCT_w_FACTORY, ne_w_STRUCT_w_IDS, ne_w_UNION_w_FILE, ne_w_UNION_w_OPERATION, ne_w_UNION_w_FACTORY, ne_w_UNION_w_IDS, ne_w_EXCEPTION_w_FILE, ne_w_EXCEPTION_w_OPERATION, ne_w_EXCEPTION_w_FACTORY, ne_w_EXCEPTION_w_IDS, ne_w_OPERATION_w_FACTORY, ne_w_OPERATION_w_IDS, ne_w_FACTORY_w_IDS, ne_w_COMPONENT_w_FILE, ne_w_COMPONENT_w_OPERATION, ne_w_COMPONENT_w_FACTORY, ne_w_COMPONENT_w_IDS, ne_w_COMPONENT_INTERFACE_w_FILE, ne_w_COMPONENT_INTERFACE_w_OPERATION, ne_w_COMPONENT_INTERFACE_w_FACTORY, ne_w_COMPONENT_INTERFACE_w_IDS, Ne.symm ne_w_FILE_w_OPERATION, Ne.symm ne_w_FILE_w_FACTORY, Ne.symm ne_w_FILE_w_IDS, Ne.symm ne_w_OPERATION_w_FACTORY, Ne.symm ne_w_OPERATION_w_IDS, Ne.symm ne_w_FACTORY_w_IDS]
  · skip
    by_cases hs10 : k12 = (1 : Int32)
    · skip
      have hv11 : (own_r1 k12 w_FILE w_MODULE w_INTERFACE w_VALUE_TYPE w_STRUCT w_UNION w_EXCEPTION w_OPERATION w_FACTORY w_COMPONENT w_COMPONENT_INTERFACE w_IDS) = w_MODULE := by unfold own_r1; rw [if_neg hs3, if_pos hs10]
      show own_Ends p.tables e below s _ _ _ (T1.setTop (mkF m 12 #[.val (.int x0_0), .val (.int k12), .unset] [(.ref (own_r1 k12 w_FILE w_MODULE w_INTERFACE w_VALUE_TYPE w_STRUCT w_UNION w_EXCEPTION w_OPERATION w_FACTORY w_COMPONENT w_COMPONENT_INTERFACE w_IDS))]))
      rw [hv11]
      show own_Ends p.tables e below s _ _ _ (T1.setTop (mkF m 12 #[.val (.int x0_0), .val (.int k12), .unset] [(.ref w_MODULE)]))
      refine own_step (fun t k => XS.astoreN X1.here hx rfl (hb hby at_12) rfl rfl (l' := #[.val (.int x0_0), .val (.int k12), .val (.ref w_MODULE)]) rfl k) ?_
      show own_Ends p.tables e below s _ _ _ (T1.setTop (mkF m 13 #[.val (.int x0_0), .val (.int k12), .val (.ref w_MODULE)] []))
      refine own_step (fun t k => XS.aloadN X1.here hx rfl (hb hby at_13) rfl rfl k) ?_
      show own_Ends p.tables e below s _ _ _ (T1.setTop (mkF m 14 #[.val (.int x0_0), .val (.int k12), .val (.ref w_MODULE)] [(.ref w_MODULE)]))
      obtain ⟨cq12, kq12, q12a, q12b, q12c⟩ := isOf hZ e1 E_w_MODULE
      obtain ⟨_, _, ⟨T12, L12, k12, n12⟩, -, X12, ⟨Lc12, hQ12, l12, y12, z12⟩, st12⟩ := X1.virtualBack hx (y := (⟨"com/example/idlect/idlect/core/Symbol$Container$Kind", "nameReserved", "()Z"⟩ : MethodName)) (z := (⟨"com/example/idlect/idlect/core/Symbol$Container$Kind", "nameReserved", "()Z"⟩ : MethodName)) hown (mvT hZ (hw _ (List.mem_of_getElem? (i := 8) rfl))) (mvT hZ (hw _ (List.mem_of_getElem? (i := 9) rfl))) (notFace_of_selects (args := #[]) (mvT hZ (hw _ (List.mem_of_getElem? (i := 11) rfl)))) (mvT hZ (hw _ (List.mem_of_getElem? (i := 11) rfl))) (mvT hZ (hw _ (List.mem_of_getElem? (i := 10) rfl))) (by decide) (backOf (W := 0) (rm2 l Z a0 hw [] w_MODULE w_FILE w_OPERATION w_FACTORY w_IDS h0 n0 O0 S_FILE S_OPERATION S_FACTORY S_IDS) hZ (hw _ (List.mem_of_getElem? (i := 12) rfl)) (hw _ (List.mem_of_getElem? (i := 6) rfl)) (by decide) (by decide)) q12a q12c (g := (mkF m 14 #[.val (.int x0_0), .val (.int k12), .val (.ref w_MODULE)] [(.ref w_MODULE)])) rfl (by rw [hml]; rfl) (Steps.refl _) (argsL := []) (rest := []) (lenOf pd_1 rfl) rfl (by show 2 * 0 + _ ≤ _; exact Nat.le_of_eq rfl) (hb hby at_14) (fun _ _ => ⟨rfl, e1, (by decide : 0 + 0 ≤ _), (by decide : 0 + 0 ≤ _)⟩)
      dsimp only [Pt.U, Pt.locs, Pt.cells, Pt.slots] at X12 l12 y12 z12 st12 hQ12
      subst l12 y12 z12
      obtain ⟨rfl, N12q, e12⟩ := hQ12
      refine own_step (fun t k => st12.trans k) ?_
      have N13 := Fr.app N2 N12q
      show own_Ends p.tables e below s _ _ _ (T12.setTop (mkF m 17 #[.val (.int x0_0), .val (.int k12), .val (.ref w_MODULE)] [(.int (own_r2 w_MODULE w_FILE w_OPERATION w_FACTORY w_IDS))]))
      refine own_step (fun t k => XS.iloadN X12.here hx rfl (hb hby at_17) rfl k) ?_
      show own_Ends p.tables e below s _ _ _ (T12.setTop (mkF m 18 #[.val (.int x0_0), .val (.int k12), .val (.ref w_MODULE)] [(.int k12), (.int (own_r2 w_MODULE w_FILE w_OPERATION w_FACTORY w_IDS))]))
      obtain ⟨_, _, ⟨T14, L14, k14, n14⟩, -, X14, ⟨Lc14, hQ14, l14, y14, z14⟩, st14⟩ := Jvm.LawKit.callS X12 hx (y := (⟨"com/example/idlect/idlect/core/KindNameReservedPinLaw", "expected", "(I)Z"⟩ : MethodName)) hown (mvT hZ (hw _ (List.mem_of_getElem? (i := 14) rfl))) (mvT hZ (hw _ (List.mem_of_getElem? (i := 15) rfl))) (mvT hZ (hw _ (List.mem_of_getElem? (i := 3) rfl))) (mvT hZ (hw _ (List.mem_of_getElem? (i := 16) rfl))) (by decide) (backOf (W := 1) (rm3 l Z a0 hw [] k12 h0 n0 O0 ) hZ (hw _ (List.mem_of_getElem? (i := 16) rfl)) (hw _ (List.mem_of_getElem? (i := 3) rfl)) (by decide) (by decide)) (g := (mkF m 18 #[.val (.int x0_0), .val (.int k12), .val (.ref w_MODULE)] [(.int k12), (.int (own_r2 w_MODULE w_FILE w_OPERATION w_FACTORY w_IDS))])) rfl (by rw [hml]; rfl) (argsL := [(.int k12)]) (rest := [(.int (own_r2 w_MODULE w_FILE w_OPERATION w_FACTORY w_IDS))]) (lenOf pd_2 rfl) rfl (by show 2 * 0 + _ ≤ _; exact Nat.le_of_eq rfl) (hb hby at_18) (fun _ _ => ⟨rfl, e12, (by decide : 0 + 0 ≤ _), (by decide : 0 + 0 ≤ _)⟩)
      dsimp only [Pt.U, Pt.locs, Pt.cells, Pt.slots] at X14 l14 y14 z14 st14 hQ14
      subst l14 y14 z14
      obtain ⟨rfl, N14q, e14⟩ := hQ14
      refine own_step (fun t k => st14 _ k) ?_
      have N15 := Fr.app N13 N14q
      show own_Ends p.tables e below s _ _ _ (T14.setTop (mkF m 21 #[.val (.int x0_0), .val (.int k12), .val (.ref w_MODULE)] [(.int (own_r3 k12)), (.int (own_r2 w_MODULE w_FILE w_OPERATION w_FACTORY w_IDS))]))
      by_cases hc21_16 : (own_r2 w_MODULE w_FILE w_OPERATION w_FACTORY w_IDS) = (own_r3 k12)
      · skip
        refine own_step (fun t k => XS.icmpNo X14.here hx rfl (hb hby at_21) rfl (teq hc21_16).2 k) ?_
        show own_Ends p.tables e below s _ _ _ (T14.setTop (mkF m 24 #[.val (.int x0_0), .val (.int k12), .val (.ref w_MODULE)] []))
        refine own_step (fun t k => XS.iconst X14.here hx rfl (hb hby at_24) k) ?_
        show own_Ends p.tables e below s _ _ _ (T14.setTop (mkF m 25 #[.val (.int x0_0), .val (.int k12), .val (.ref w_MODULE)] [(.int (1 : Int32))]))
        refine own_step (fun t k => XS.goto X14.here hx rfl (pc0 := 25) (pc' := 29) rfl (hb hby at_25) (by decide) (by decide) k) ?_
        show own_Ends p.tables e below s _ _ _ (T14.setTop (mkF m 29 #[.val (.int x0_0), .val (.int k12), .val (.ref w_MODULE)] [(.int (1 : Int32))]))
        exact own_retN X14 hx (t := .boolean) Bd.returns (by simp) (hb hby at_29) hnl (by rw [e14]; exact ⟨rfl, N15⟩) (by decide) (by decide)
      · skip
        refine own_step (fun t k => XS.icmpYes X14.here hx rfl (pc0 := 21) (pc' := 28) rfl (hb hby at_21) rfl (feq hc21_16).2 (by decide) (by decide) k) ?_
        show own_Ends p.tables e below s _ _ _ (T14.setTop (mkF m 28 #[.val (.int x0_0), .val (.int k12), .val (.ref w_MODULE)] []))
        refine own_step (fun t k => XS.iconst X14.here hx rfl (hb hby at_28) k) ?_
        show own_Ends p.tables e below s _ _ _ (T14.setTop (mkF m 29 #[.val (.int x0_0), .val (.int k12), .val (.ref w_MODULE)] [(.int (0 : Int32))]))
        exfalso
        apply hc21_16
        simp [own_r2, own_r3, hs3, hs10, ne_w_FILE_w_OPERATION, ne_w_FILE_w_FACTORY, ne_w_FILE_w_IDS, ne_w_MODULE_w_FILE, ne_w_MODULE_w_OPERATION, ne_w_MODULE_w_FACTORY, ne_w_MODULE_w_IDS, ne_w_INTERFACE_w_FILE, ne_w_INTERFACE_w_OPERATION, ne_w_INTERFACE_w_FACTORY, ne_w_INTERFACE_w_IDS, ne_w_VALUE_TYPE_w_FILE, ne_w_VALUE_TYPE_w_OPERATION, ne_w_VALUE_TYPE_w_FACTORY, ne_w_VALUE_TYPE_w_IDS, ne_w_STRUCT_w_FILE, ne_w_STRUCT_w_OPERATION, ne_w_STRUCT_w_FACTORY, ne_w_STRUCT_w_IDS, ne_w_UNION_w_FILE, ne_w_UNION_w_OPERATION, ne_w_UNION_w_FACTORY, ne_w_UNION_w_IDS, ne_w_EXCEPTION_w_FILE, ne_w_EXCEPTION_w_OPERATION, ne_w_EXCEPTION_w_FACTORY, ne_w_EXCEPTION_w_IDS, ne_w_OPERATION_w_FACTORY, ne_w_OPERATION_w_IDS, ne_w_FACTORY_w_IDS, ne_w_COMPONENT_w_FILE, ne_w_COMPONENT_w_OPERATION, ne_w_COMPONENT_w_FACTORY, ne_w_COMPONENT_w_IDS, ne_w_COMPONENT_INTERFACE_w_FILE, ne_w_COMPONENT_INTERFACE_w_OPERATION, ne_w_COMPONENT_INTERFACE_w_FACTORY, ne_w_COMPONENT_INTERFACE_w_IDS, Ne.symm ne_w_FILE_w_OPERATION, Ne.symm ne_w_FILE_w_FACTORY, Ne.symm ne_w_FILE_w_IDS, Ne.symm ne_w_OPERATION_w_FACTORY, Ne.symm ne_w_OPERATION_w_IDS, Ne.symm ne_w_FACTORY_w_IDS]
    · skip
      by_cases hs17 : k12 = (2 : Int32)
      · skip
        have hv18 : (own_r1 k12 w_FILE w_MODULE w_INTERFACE w_VALUE_TYPE w_STRUCT w_UNION w_EXCEPTION w_OPERATION w_FACTORY w_COMPONENT w_COMPONENT_INTERFACE w_IDS) = w_INTERFACE := by unfold own_r1; rw [if_neg hs3, if_neg hs10, if_pos hs17]
        show own_Ends p.tables e below s _ _ _ (T1.setTop (mkF m 12 #[.val (.int x0_0), .val (.int k12), .unset] [(.ref (own_r1 k12 w_FILE w_MODULE w_INTERFACE w_VALUE_TYPE w_STRUCT w_UNION w_EXCEPTION w_OPERATION w_FACTORY w_COMPONENT w_COMPONENT_INTERFACE w_IDS))]))
        rw [hv18]
        show own_Ends p.tables e below s _ _ _ (T1.setTop (mkF m 12 #[.val (.int x0_0), .val (.int k12), .unset] [(.ref w_INTERFACE)]))
        refine own_step (fun t k => XS.astoreN X1.here hx rfl (hb hby at_12) rfl rfl (l' := #[.val (.int x0_0), .val (.int k12), .val (.ref w_INTERFACE)]) rfl k) ?_
        show own_Ends p.tables e below s _ _ _ (T1.setTop (mkF m 13 #[.val (.int x0_0), .val (.int k12), .val (.ref w_INTERFACE)] []))
        refine own_step (fun t k => XS.aloadN X1.here hx rfl (hb hby at_13) rfl rfl k) ?_
        show own_Ends p.tables e below s _ _ _ (T1.setTop (mkF m 14 #[.val (.int x0_0), .val (.int k12), .val (.ref w_INTERFACE)] [(.ref w_INTERFACE)]))
        obtain ⟨cq19, kq19, q19a, q19b, q19c⟩ := isOf hZ e1 E_w_INTERFACE
        obtain ⟨_, _, ⟨T19, L19, k19, n19⟩, -, X19, ⟨Lc19, hQ19, l19, y19, z19⟩, st19⟩ := X1.virtualBack hx (y := (⟨"com/example/idlect/idlect/core/Symbol$Container$Kind", "nameReserved", "()Z"⟩ : MethodName)) (z := (⟨"com/example/idlect/idlect/core/Symbol$Container$Kind", "nameReserved", "()Z"⟩ : MethodName)) hown (mvT hZ (hw _ (List.mem_of_getElem? (i := 8) rfl))) (mvT hZ (hw _ (List.mem_of_getElem? (i := 9) rfl))) (notFace_of_selects (args := #[]) (mvT hZ (hw _ (List.mem_of_getElem? (i := 11) rfl)))) (mvT hZ (hw _ (List.mem_of_getElem? (i := 11) rfl))) (mvT hZ (hw _ (List.mem_of_getElem? (i := 10) rfl))) (by decide) (backOf (W := 0) (rm2 l Z a0 hw [] w_INTERFACE w_FILE w_OPERATION w_FACTORY w_IDS h0 n0 O0 S_FILE S_OPERATION S_FACTORY S_IDS) hZ (hw _ (List.mem_of_getElem? (i := 12) rfl)) (hw _ (List.mem_of_getElem? (i := 6) rfl)) (by decide) (by decide)) q19a q19c (g := (mkF m 14 #[.val (.int x0_0), .val (.int k12), .val (.ref w_INTERFACE)] [(.ref w_INTERFACE)])) rfl (by rw [hml]; rfl) (Steps.refl _) (argsL := []) (rest := []) (lenOf pd_1 rfl) rfl (by show 2 * 0 + _ ≤ _; exact Nat.le_of_eq rfl) (hb hby at_14) (fun _ _ => ⟨rfl, e1, (by decide : 0 + 0 ≤ _), (by decide : 0 + 0 ≤ _)⟩)
        dsimp only [Pt.U, Pt.locs, Pt.cells, Pt.slots] at X19 l19 y19 z19 st19 hQ19
        subst l19 y19 z19
        obtain ⟨rfl, N19q, e19⟩ := hQ19
        refine own_step (fun t k => st19.trans k) ?_
        have N20 := Fr.app N2 N19q
        show own_Ends p.tables e below s _ _ _ (T19.setTop (mkF m 17 #[.val (.int x0_0), .val (.int k12), .val (.ref w_INTERFACE)] [(.int (own_r2 w_INTERFACE w_FILE w_OPERATION w_FACTORY w_IDS))]))
        refine own_step (fun t k => XS.iloadN X19.here hx rfl (hb hby at_17) rfl k) ?_
        show own_Ends p.tables e below s _ _ _ (T19.setTop (mkF m 18 #[.val (.int x0_0), .val (.int k12), .val (.ref w_INTERFACE)] [(.int k12), (.int (own_r2 w_INTERFACE w_FILE w_OPERATION w_FACTORY w_IDS))]))
        obtain ⟨_, _, ⟨T21, L21, k21, n21⟩, -, X21, ⟨Lc21, hQ21, l21, y21, z21⟩, st21⟩ := Jvm.LawKit.callS X19 hx (y := (⟨"com/example/idlect/idlect/core/KindNameReservedPinLaw", "expected", "(I)Z"⟩ : MethodName)) hown (mvT hZ (hw _ (List.mem_of_getElem? (i := 14) rfl))) (mvT hZ (hw _ (List.mem_of_getElem? (i := 15) rfl))) (mvT hZ (hw _ (List.mem_of_getElem? (i := 3) rfl))) (mvT hZ (hw _ (List.mem_of_getElem? (i := 16) rfl))) (by decide) (backOf (W := 1) (rm3 l Z a0 hw [] k12 h0 n0 O0 ) hZ (hw _ (List.mem_of_getElem? (i := 16) rfl)) (hw _ (List.mem_of_getElem? (i := 3) rfl)) (by decide) (by decide)) (g := (mkF m 18 #[.val (.int x0_0), .val (.int k12), .val (.ref w_INTERFACE)] [(.int k12), (.int (own_r2 w_INTERFACE w_FILE w_OPERATION w_FACTORY w_IDS))])) rfl (by rw [hml]; rfl) (argsL := [(.int k12)]) (rest := [(.int (own_r2 w_INTERFACE w_FILE w_OPERATION w_FACTORY w_IDS))]) (lenOf pd_2 rfl) rfl (by show 2 * 0 + _ ≤ _; exact Nat.le_of_eq rfl) (hb hby at_18) (fun _ _ => ⟨rfl, e19, (by decide : 0 + 0 ≤ _), (by decide : 0 + 0 ≤ _)⟩)
        dsimp only [Pt.U, Pt.locs, Pt.cells, Pt.slots] at X21 l21 y21 z21 st21 hQ21
        subst l21 y21 z21
        obtain ⟨rfl, N21q, e21⟩ := hQ21
        refine own_step (fun t k => st21 _ k) ?_
        have N22 := Fr.app N20 N21q
        show own_Ends p.tables e below s _ _ _ (T21.setTop (mkF m 21 #[.val (.int x0_0), .val (.int k12), .val (.ref w_INTERFACE)] [(.int (own_r3 k12)), (.int (own_r2 w_INTERFACE w_FILE w_OPERATION w_FACTORY w_IDS))]))
        by_cases hc21_23 : (own_r2 w_INTERFACE w_FILE w_OPERATION w_FACTORY w_IDS) = (own_r3 k12)
        · skip
          refine own_step (fun t k => XS.icmpNo X21.here hx rfl (hb hby at_21) rfl (teq hc21_23).2 k) ?_
          show own_Ends p.tables e below s _ _ _ (T21.setTop (mkF m 24 #[.val (.int x0_0), .val (.int k12), .val (.ref w_INTERFACE)] []))
          refine own_step (fun t k => XS.iconst X21.here hx rfl (hb hby at_24) k) ?_
          show own_Ends p.tables e below s _ _ _ (T21.setTop (mkF m 25 #[.val (.int x0_0), .val (.int k12), .val (.ref w_INTERFACE)] [(.int (1 : Int32))]))
          refine own_step (fun t k => XS.goto X21.here hx rfl (pc0 := 25) (pc' := 29) rfl (hb hby at_25) (by decide) (by decide) k) ?_
          show own_Ends p.tables e below s _ _ _ (T21.setTop (mkF m 29 #[.val (.int x0_0), .val (.int k12), .val (.ref w_INTERFACE)] [(.int (1 : Int32))]))
          exact own_retN X21 hx (t := .boolean) Bd.returns (by simp) (hb hby at_29) hnl (by rw [e21]; exact ⟨rfl, N22⟩) (by decide) (by decide)
        · skip
          refine own_step (fun t k => XS.icmpYes X21.here hx rfl (pc0 := 21) (pc' := 28) rfl (hb hby at_21) rfl (feq hc21_23).2 (by decide) (by decide) k) ?_
          show own_Ends p.tables e below s _ _ _ (T21.setTop (mkF m 28 #[.val (.int x0_0), .val (.int k12), .val (.ref w_INTERFACE)] []))
          refine own_step (fun t k => XS.iconst X21.here hx rfl (hb hby at_28) k) ?_
          show own_Ends p.tables e below s _ _ _ (T21.setTop (mkF m 29 #[.val (.int x0_0), .val (.int k12), .val (.ref w_INTERFACE)] [(.int (0 : Int32))]))
          exfalso
          apply hc21_23
          simp [own_r2, own_r3, hs3, hs10, hs17, ne_w_FILE_w_OPERATION, ne_w_FILE_w_FACTORY, ne_w_FILE_w_IDS, ne_w_MODULE_w_FILE, ne_w_MODULE_w_OPERATION, ne_w_MODULE_w_FACTORY, ne_w_MODULE_w_IDS, ne_w_INTERFACE_w_FILE, ne_w_INTERFACE_w_OPERATION, ne_w_INTERFACE_w_FACTORY, ne_w_INTERFACE_w_IDS, ne_w_VALUE_TYPE_w_FILE, ne_w_VALUE_TYPE_w_OPERATION, ne_w_VALUE_TYPE_w_FACTORY, ne_w_VALUE_TYPE_w_IDS, ne_w_STRUCT_w_FILE, ne_w_STRUCT_w_OPERATION, ne_w_STRUCT_w_FACTORY, ne_w_STRUCT_w_IDS, ne_w_UNION_w_FILE, ne_w_UNION_w_OPERATION, ne_w_UNION_w_FACTORY, ne_w_UNION_w_IDS, ne_w_EXCEPTION_w_FILE, ne_w_EXCEPTION_w_OPERATION, ne_w_EXCEPTION_w_FACTORY, ne_w_EXCEPTION_w_IDS, ne_w_OPERATION_w_FACTORY, ne_w_OPERATION_w_IDS, ne_w_FACTORY_w_IDS, ne_w_COMPONENT_w_FILE, ne_w_COMPONENT_w_OPERATION, ne_w_COMPONENT_w_FACTORY, ne_w_COMPONENT_w_IDS, ne_w_COMPONENT_INTERFACE_w_FILE, ne_w_COMPONENT_INTERFACE_w_OPERATION, ne_w_COMPONENT_INTERFACE_w_FACTORY, ne_w_COMPONENT_INTERFACE_w_IDS, Ne.symm ne_w_FILE_w_OPERATION, Ne.symm ne_w_FILE_w_FACTORY, Ne.symm ne_w_FILE_w_IDS, Ne.symm ne_w_OPERATION_w_FACTORY, Ne.symm ne_w_OPERATION_w_IDS, Ne.symm ne_w_FACTORY_w_IDS]
      · skip
        by_cases hs24 : k12 = (3 : Int32)
        · skip
          have hv25 : (own_r1 k12 w_FILE w_MODULE w_INTERFACE w_VALUE_TYPE w_STRUCT w_UNION w_EXCEPTION w_OPERATION w_FACTORY w_COMPONENT w_COMPONENT_INTERFACE w_IDS) = w_VALUE_TYPE := by unfold own_r1; rw [if_neg hs3, if_neg hs10, if_neg hs17, if_pos hs24]
          show own_Ends p.tables e below s _ _ _ (T1.setTop (mkF m 12 #[.val (.int x0_0), .val (.int k12), .unset] [(.ref (own_r1 k12 w_FILE w_MODULE w_INTERFACE w_VALUE_TYPE w_STRUCT w_UNION w_EXCEPTION w_OPERATION w_FACTORY w_COMPONENT w_COMPONENT_INTERFACE w_IDS))]))
          rw [hv25]
          show own_Ends p.tables e below s _ _ _ (T1.setTop (mkF m 12 #[.val (.int x0_0), .val (.int k12), .unset] [(.ref w_VALUE_TYPE)]))
          refine own_step (fun t k => XS.astoreN X1.here hx rfl (hb hby at_12) rfl rfl (l' := #[.val (.int x0_0), .val (.int k12), .val (.ref w_VALUE_TYPE)]) rfl k) ?_
          show own_Ends p.tables e below s _ _ _ (T1.setTop (mkF m 13 #[.val (.int x0_0), .val (.int k12), .val (.ref w_VALUE_TYPE)] []))
          refine own_step (fun t k => XS.aloadN X1.here hx rfl (hb hby at_13) rfl rfl k) ?_
          show own_Ends p.tables e below s _ _ _ (T1.setTop (mkF m 14 #[.val (.int x0_0), .val (.int k12), .val (.ref w_VALUE_TYPE)] [(.ref w_VALUE_TYPE)]))
          obtain ⟨cq26, kq26, q26a, q26b, q26c⟩ := isOf hZ e1 E_w_VALUE_TYPE
          obtain ⟨_, _, ⟨T26, L26, k26, n26⟩, -, X26, ⟨Lc26, hQ26, l26, y26, z26⟩, st26⟩ := X1.virtualBack hx (y := (⟨"com/example/idlect/idlect/core/Symbol$Container$Kind", "nameReserved", "()Z"⟩ : MethodName)) (z := (⟨"com/example/idlect/idlect/core/Symbol$Container$Kind", "nameReserved", "()Z"⟩ : MethodName)) hown (mvT hZ (hw _ (List.mem_of_getElem? (i := 8) rfl))) (mvT hZ (hw _ (List.mem_of_getElem? (i := 9) rfl))) (notFace_of_selects (args := #[]) (mvT hZ (hw _ (List.mem_of_getElem? (i := 11) rfl)))) (mvT hZ (hw _ (List.mem_of_getElem? (i := 11) rfl))) (mvT hZ (hw _ (List.mem_of_getElem? (i := 10) rfl))) (by decide) (backOf (W := 0) (rm2 l Z a0 hw [] w_VALUE_TYPE w_FILE w_OPERATION w_FACTORY w_IDS h0 n0 O0 S_FILE S_OPERATION S_FACTORY S_IDS) hZ (hw _ (List.mem_of_getElem? (i := 12) rfl)) (hw _ (List.mem_of_getElem? (i := 6) rfl)) (by decide) (by decide)) q26a q26c (g := (mkF m 14 #[.val (.int x0_0), .val (.int k12), .val (.ref w_VALUE_TYPE)] [(.ref w_VALUE_TYPE)])) rfl (by rw [hml]; rfl) (Steps.refl _) (argsL := []) (rest := []) (lenOf pd_1 rfl) rfl (by show 2 * 0 + _ ≤ _; exact Nat.le_of_eq rfl) (hb hby at_14) (fun _ _ => ⟨rfl, e1, (by decide : 0 + 0 ≤ _), (by decide : 0 + 0 ≤ _)⟩)
          dsimp only [Pt.U, Pt.locs, Pt.cells, Pt.slots] at X26 l26 y26 z26 st26 hQ26
          subst l26 y26 z26
          obtain ⟨rfl, N26q, e26⟩ := hQ26
          refine own_step (fun t k => st26.trans k) ?_
          have N27 := Fr.app N2 N26q
          show own_Ends p.tables e below s _ _ _ (T26.setTop (mkF m 17 #[.val (.int x0_0), .val (.int k12), .val (.ref w_VALUE_TYPE)] [(.int (own_r2 w_VALUE_TYPE w_FILE w_OPERATION w_FACTORY w_IDS))]))
          refine own_step (fun t k => XS.iloadN X26.here hx rfl (hb hby at_17) rfl k) ?_
          show own_Ends p.tables e below s _ _ _ (T26.setTop (mkF m 18 #[.val (.int x0_0), .val (.int k12), .val (.ref w_VALUE_TYPE)] [(.int k12), (.int (own_r2 w_VALUE_TYPE w_FILE w_OPERATION w_FACTORY w_IDS))]))
          obtain ⟨_, _, ⟨T28, L28, k28, n28⟩, -, X28, ⟨Lc28, hQ28, l28, y28, z28⟩, st28⟩ := Jvm.LawKit.callS X26 hx (y := (⟨"com/example/idlect/idlect/core/KindNameReservedPinLaw", "expected", "(I)Z"⟩ : MethodName)) hown (mvT hZ (hw _ (List.mem_of_getElem? (i := 14) rfl))) (mvT hZ (hw _ (List.mem_of_getElem? (i := 15) rfl))) (mvT hZ (hw _ (List.mem_of_getElem? (i := 3) rfl))) (mvT hZ (hw _ (List.mem_of_getElem? (i := 16) rfl))) (by decide) (backOf (W := 1) (rm3 l Z a0 hw [] k12 h0 n0 O0 ) hZ (hw _ (List.mem_of_getElem? (i := 16) rfl)) (hw _ (List.mem_of_getElem? (i := 3) rfl)) (by decide) (by decide)) (g := (mkF m 18 #[.val (.int x0_0), .val (.int k12), .val (.ref w_VALUE_TYPE)] [(.int k12), (.int (own_r2 w_VALUE_TYPE w_FILE w_OPERATION w_FACTORY w_IDS))])) rfl (by rw [hml]; rfl) (argsL := [(.int k12)]) (rest := [(.int (own_r2 w_VALUE_TYPE w_FILE w_OPERATION w_FACTORY w_IDS))]) (lenOf pd_2 rfl) rfl (by show 2 * 0 + _ ≤ _; exact Nat.le_of_eq rfl) (hb hby at_18) (fun _ _ => ⟨rfl, e26, (by decide : 0 + 0 ≤ _), (by decide : 0 + 0 ≤ _)⟩)
          dsimp only [Pt.U, Pt.locs, Pt.cells, Pt.slots] at X28 l28 y28 z28 st28 hQ28
          subst l28 y28 z28
          obtain ⟨rfl, N28q, e28⟩ := hQ28
          refine own_step (fun t k => st28 _ k) ?_
          have N29 := Fr.app N27 N28q
          show own_Ends p.tables e below s _ _ _ (T28.setTop (mkF m 21 #[.val (.int x0_0), .val (.int k12), .val (.ref w_VALUE_TYPE)] [(.int (own_r3 k12)), (.int (own_r2 w_VALUE_TYPE w_FILE w_OPERATION w_FACTORY w_IDS))]))
          by_cases hc21_30 : (own_r2 w_VALUE_TYPE w_FILE w_OPERATION w_FACTORY w_IDS) = (own_r3 k12)
          · skip
            refine own_step (fun t k => XS.icmpNo X28.here hx rfl (hb hby at_21) rfl (teq hc21_30).2 k) ?_
            show own_Ends p.tables e below s _ _ _ (T28.setTop (mkF m 24 #[.val (.int x0_0), .val (.int k12), .val (.ref w_VALUE_TYPE)] []))
            refine own_step (fun t k => XS.iconst X28.here hx rfl (hb hby at_24) k) ?_
            show own_Ends p.tables e below s _ _ _ (T28.setTop (mkF m 25 #[.val (.int x0_0), .val (.int k12), .val (.ref w_VALUE_TYPE)] [(.int (1 : Int32))]))
            refine own_step (fun t k => XS.goto X28.here hx rfl (pc0 := 25) (pc' := 29) rfl (hb hby at_25) (by decide) (by decide) k) ?_
            show own_Ends p.tables e below s _ _ _ (T28.setTop (mkF m 29 #[.val (.int x0_0), .val (.int k12), .val (.ref w_VALUE_TYPE)] [(.int (1 : Int32))]))
            exact own_retN X28 hx (t := .boolean) Bd.returns (by simp) (hb hby at_29) hnl (by rw [e28]; exact ⟨rfl, N29⟩) (by decide) (by decide)
          · skip
            refine own_step (fun t k => XS.icmpYes X28.here hx rfl (pc0 := 21) (pc' := 28) rfl (hb hby at_21) rfl (feq hc21_30).2 (by decide) (by decide) k) ?_
            show own_Ends p.tables e below s _ _ _ (T28.setTop (mkF m 28 #[.val (.int x0_0), .val (.int k12), .val (.ref w_VALUE_TYPE)] []))
            refine own_step (fun t k => XS.iconst X28.here hx rfl (hb hby at_28) k) ?_
            show own_Ends p.tables e below s _ _ _ (T28.setTop (mkF m 29 #[.val (.int x0_0), .val (.int k12), .val (.ref w_VALUE_TYPE)] [(.int (0 : Int32))]))
            exfalso
            apply hc21_30
            simp [own_r2, own_r3, hs3, hs10, hs17, hs24, ne_w_FILE_w_OPERATION, ne_w_FILE_w_FACTORY, ne_w_FILE_w_IDS, ne_w_MODULE_w_FILE, ne_w_MODULE_w_OPERATION, ne_w_MODULE_w_FACTORY, ne_w_MODULE_w_IDS, ne_w_INTERFACE_w_FILE, ne_w_INTERFACE_w_OPERATION, ne_w_INTERFACE_w_FACTORY, ne_w_INTERFACE_w_IDS, ne_w_VALUE_TYPE_w_FILE, ne_w_VALUE_TYPE_w_OPERATION, ne_w_VALUE_TYPE_w_FACTORY, ne_w_VALUE_TYPE_w_IDS, ne_w_STRUCT_w_FILE, ne_w_STRUCT_w_OPERATION, ne_w_STRUCT_w_FACTORY, ne_w_STRUCT_w_IDS, ne_w_UNION_w_FILE, ne_w_UNION_w_OPERATION, ne_w_UNION_w_FACTORY, ne_w_UNION_w_IDS, ne_w_EXCEPTION_w_FILE, ne_w_EXCEPTION_w_OPERATION, ne_w_EXCEPTION_w_FACTORY, ne_w_EXCEPTION_w_IDS, ne_w_OPERATION_w_FACTORY, ne_w_OPERATION_w_IDS, ne_w_FACTORY_w_IDS, ne_w_COMPONENT_w_FILE, ne_w_COMPONENT_w_OPERATION, ne_w_COMPONENT_w_FACTORY, ne_w_COMPONENT_w_IDS, ne_w_COMPONENT_INTERFACE_w_FILE, ne_w_COMPONENT_INTERFACE_w_OPERATION, ne_w_COMPONENT_INTERFACE_w_FACTORY, ne_w_COMPONENT_INTERFACE_w_IDS, Ne.symm ne_w_FILE_w_OPERATION, Ne.symm ne_w_FILE_w_FACTORY, Ne.symm ne_w_FILE_w_IDS, Ne.symm ne_w_OPERATION_w_FACTORY, Ne.symm ne_w_OPERATION_w_IDS, Ne.symm ne_w_FACTORY_w_IDS]
        · skip
          by_cases hs31 : k12 = (4 : Int32)
          · skip
            have hv32 : (own_r1 k12 w_FILE w_MODULE w_INTERFACE w_VALUE_TYPE w_STRUCT w_UNION w_EXCEPTION w_OPERATION w_FACTORY w_COMPONENT w_COMPONENT_INTERFACE w_IDS) = w_STRUCT := by unfold own_r1; rw [if_neg hs3, if_neg hs10, if_neg hs17, if_neg hs24, if_pos hs31]
            show own_Ends p.tables e below s _ _ _ (T1.setTop (mkF m 12 #[.val (.int x0_0), .val (.int k12), .unset] [(.ref (own_r1 k12 w_FILE w_MODULE w_INTERFACE w_VALUE_TYPE w_STRUCT w_UNION w_EXCEPTION w_OPERATION w_FACTORY w_COMPONENT w_COMPONENT_INTERFACE w_IDS))]))
            rw [hv32]
            show own_Ends p.tables e below s _ _ _ (T1.setTop (mkF m 12 #[.val (.int x0_0), .val (.int k12), .unset] [(.ref w_STRUCT)]))
            refine own_step (fun t k => XS.astoreN X1.here hx rfl (hb hby at_12) rfl rfl (l' := #[.val (.int x0_0), .val (.int k12), .val (.ref w_STRUCT)]) rfl k) ?_
            show own_Ends p.tables e below s _ _ _ (T1.setTop (mkF m 13 #[.val (.int x0_0), .val (.int k12), .val (.ref w_STRUCT)] []))
            refine own_step (fun t k => XS.aloadN X1.here hx rfl (hb hby at_13) rfl rfl k) ?_
            show own_Ends p.tables e below s _ _ _ (T1.setTop (mkF m 14 #[.val (.int x0_0), .val (.int k12), .val (.ref w_STRUCT)] [(.ref w_STRUCT)]))
            obtain ⟨cq33, kq33, q33a, q33b, q33c⟩ := isOf hZ e1 E_w_STRUCT
            obtain ⟨_, _, ⟨T33, L33, k33, n33⟩, -, X33, ⟨Lc33, hQ33, l33, y33, z33⟩, st33⟩ := X1.virtualBack hx (y := (⟨"com/example/idlect/idlect/core/Symbol$Container$Kind", "nameReserved", "()Z"⟩ : MethodName)) (z := (⟨"com/example/idlect/idlect/core/Symbol$Container$Kind", "nameReserved", "()Z"⟩ : MethodName)) hown (mvT hZ (hw _ (List.mem_of_getElem? (i := 8) rfl))) (mvT hZ (hw _ (List.mem_of_getElem? (i := 9) rfl))) (notFace_of_selects (args := #[]) (mvT hZ (hw _ (List.mem_of_getElem? (i := 11) rfl)))) (mvT hZ (hw _ (List.mem_of_getElem? (i := 11) rfl))) (mvT hZ (hw _ (List.mem_of_getElem? (i := 10) rfl))) (by decide) (backOf (W := 0) (rm2 l Z a0 hw [] w_STRUCT w_FILE w_OPERATION w_FACTORY w_IDS h0 n0 O0 S_FILE S_OPERATION S_FACTORY S_IDS) hZ (hw _ (List.mem_of_getElem? (i := 12) rfl)) (hw _ (List.mem_of_getElem? (i := 6) rfl)) (by decide) (by decide)) q33a q33c (g := (mkF m 14 #[.val (.int x0_0), .val (.int k12), .val (.ref w_STRUCT)] [(.ref w_STRUCT)])) rfl (by rw [hml]; rfl) (Steps.refl _) (argsL := []) (rest := []) (lenOf pd_1 rfl) rfl (by show 2 * 0 + _ ≤ _; exact Nat.le_of_eq rfl) (hb hby at_14) (fun _ _ => ⟨rfl, e1, (by decide : 0 + 0 ≤ _), (by decide : 0 + 0 ≤ _)⟩)
            dsimp only [Pt.U, Pt.locs, Pt.cells, Pt.slots] at X33 l33 y33 z33 st33 hQ33
            subst l33 y33 z33
            obtain ⟨rfl, N33q, e33⟩ := hQ33
            refine own_step (fun t k => st33.trans k) ?_
            have N34 := Fr.app N2 N33q
            show own_Ends p.tables e below s _ _ _ (T33.setTop (mkF m 17 #[.val (.int x0_0), .val (.int k12), .val (.ref w_STRUCT)] [(.int (own_r2 w_STRUCT w_FILE w_OPERATION w_FACTORY w_IDS))]))
            refine own_step (fun t k => XS.iloadN X33.here hx rfl (hb hby at_17) rfl k) ?_
            show own_Ends p.tables e below s _ _ _ (T33.setTop (mkF m 18 #[.val (.int x0_0), .val (.int k12), .val (.ref w_STRUCT)] [(.int k12), (.int (own_r2 w_STRUCT w_FILE w_OPERATION w_FACTORY w_IDS))]))
            obtain ⟨_, _, ⟨T35, L35, k35, n35⟩, -, X35, ⟨Lc35, hQ35, l35, y35, z35⟩, st35⟩ := Jvm.LawKit.callS X33 hx (y := (⟨"com/example/idlect/idlect/core/KindNameReservedPinLaw", "expected", "(I)Z"⟩ : MethodName)) hown (mvT hZ (hw _ (List.mem_of_getElem? (i := 14) rfl))) (mvT hZ (hw _ (List.mem_of_getElem? (i := 15) rfl))) (mvT hZ (hw _ (List.mem_of_getElem? (i := 3) rfl))) (mvT hZ (hw _ (List.mem_of_getElem? (i := 16) rfl))) (by decide) (backOf (W := 1) (rm3 l Z a0 hw [] k12 h0 n0 O0 ) hZ (hw _ (List.mem_of_getElem? (i := 16) rfl)) (hw _ (List.mem_of_getElem? (i := 3) rfl)) (by decide) (by decide)) (g := (mkF m 18 #[.val (.int x0_0), .val (.int k12), .val (.ref w_STRUCT)] [(.int k12), (.int (own_r2 w_STRUCT w_FILE w_OPERATION w_FACTORY w_IDS))])) rfl (by rw [hml]; rfl) (argsL := [(.int k12)]) (rest := [(.int (own_r2 w_STRUCT w_FILE w_OPERATION w_FACTORY w_IDS))]) (lenOf pd_2 rfl) rfl (by show 2 * 0 + _ ≤ _; exact Nat.le_of_eq rfl) (hb hby at_18) (fun _ _ => ⟨rfl, e33, (by decide : 0 + 0 ≤ _), (by decide : 0 + 0 ≤ _)⟩)
            dsimp only [Pt.U, Pt.locs, Pt.cells, Pt.slots] at X35 l35 y35 z35 st35 hQ35
            subst l35 y35 z35
            obtain ⟨rfl, N35q, e35⟩ := hQ35
            refine own_step (fun t k => st35 _ k) ?_
            have N36 := Fr.app N34 N35q
            show own_Ends p.tables e below s _ _ _ (T35.setTop (mkF m 21 #[.val (.int x0_0), .val (.int k12), .val (.ref w_STRUCT)] [(.int (own_r3 k12)), (.int (own_r2 w_STRUCT w_FILE w_OPERATION w_FACTORY w_IDS))]))
            by_cases hc21_37 : (own_r2 w_STRUCT w_FILE w_OPERATION w_FACTORY w_IDS) = (own_r3 k12)
            · skip
              refine own_step (fun t k => XS.icmpNo X35.here hx rfl (hb hby at_21) rfl (teq hc21_37).2 k) ?_
              show own_Ends p.tables e below s _ _ _ (T35.setTop (mkF m 24 #[.val (.int x0_0), .val (.int k12), .val (.ref w_STRUCT)] []))
              refine own_step (fun t k => XS.iconst X35.here hx rfl (hb hby at_24) k) ?_
              show own_Ends p.tables e below s _ _ _ (T35.setTop (mkF m 25 #[.val (.int x0_0), .val (.int k12), .val (.ref w_STRUCT)] [(.int (1 : Int32))]))
              refine own_step (fun t k => XS.goto X35.here hx rfl (pc0 := 25) (pc' := 29) rfl (hb hby at_25) (by decide) (by decide) k) ?_
              show own_Ends p.tables e below s _ _ _ (T35.setTop (mkF m 29 #[.val (.int x0_0), .val (.int k12), .val (.ref w_STRUCT)] [(.int (1 : Int32))]))
              exact own_retN X35 hx (t := .boolean) Bd.returns (by simp) (hb hby at_29) hnl (by rw [e35]; exact ⟨rfl, N36⟩) (by decide) (by decide)
            · skip
              refine own_step (fun t k => XS.icmpYes X35.here hx rfl (pc0 := 21) (pc' := 28) rfl (hb hby at_21) rfl (feq hc21_37).2 (by decide) (by decide) k) ?_
              show own_Ends p.tables e below s _ _ _ (T35.setTop (mkF m 28 #[.val (.int x0_0), .val (.int k12), .val (.ref w_STRUCT)] []))
              refine own_step (fun t k => XS.iconst X35.here hx rfl (hb hby at_28) k) ?_
              show own_Ends p.tables e below s _ _ _ (T35.setTop (mkF m 29 #[.val (.int x0_0), .val (.int k12), .val (.ref w_STRUCT)] [(.int (0 : Int32))]))
              exfalso
              apply hc21_37
              simp [own_r2, own_r3, hs3, hs10, hs17, hs24, hs31, ne_w_FILE_w_OPERATION, ne_w_FILE_w_FACTORY, ne_w_FILE_w_IDS, ne_w_MODULE_w_FILE, ne_w_MODULE_w_OPERATION, ne_w_MODULE_w_FACTORY, ne_w_MODULE_w_IDS, ne_w_INTERFACE_w_FILE, ne_w_INTERFACE_w_OPERATION, ne_w_INTERFACE_w_FACTORY, ne_w_INTERFACE_w_IDS, ne_w_VALUE_TYPE_w_FILE, ne_w_VALUE_TYPE_w_OPERATION, ne_w_VALUE_TYPE_w_FACTORY, ne_w_VALUE_TYPE_w_IDS, ne_w_STRUCT_w_FILE, ne_w_STRUCT_w_OPERATION, ne_w_STRUCT_w_FACTORY, ne_w_STRUCT_w_IDS, ne_w_UNION_w_FILE, ne_w_UNION_w_OPERATION, ne_w_UNION_w_FACTORY, ne_w_UNION_w_IDS, ne_w_EXCEPTION_w_FILE, ne_w_EXCEPTION_w_OPERATION, ne_w_EXCEPTION_w_FACTORY, ne_w_EXCEPTION_w_IDS, ne_w_OPERATION_w_FACTORY, ne_w_OPERATION_w_IDS, ne_w_FACTORY_w_IDS, ne_w_COMPONENT_w_FILE, ne_w_COMPONENT_w_OPERATION, ne_w_COMPONENT_w_FACTORY, ne_w_COMPONENT_w_IDS, ne_w_COMPONENT_INTERFACE_w_FILE, ne_w_COMPONENT_INTERFACE_w_OPERATION, ne_w_COMPONENT_INTERFACE_w_FACTORY, ne_w_COMPONENT_INTERFACE_w_IDS, Ne.symm ne_w_FILE_w_OPERATION, Ne.symm ne_w_FILE_w_FACTORY, Ne.symm ne_w_FILE_w_IDS, Ne.symm ne_w_OPERATION_w_FACTORY, Ne.symm ne_w_OPERATION_w_IDS, Ne.symm ne_w_FACTORY_w_IDS]
          · skip
            by_cases hs38 : k12 = (5 : Int32)
            · skip
              have hv39 : (own_r1 k12 w_FILE w_MODULE w_INTERFACE w_VALUE_TYPE w_STRUCT w_UNION w_EXCEPTION w_OPERATION w_FACTORY w_COMPONENT w_COMPONENT_INTERFACE w_IDS) = w_UNION := by unfold own_r1; rw [if_neg hs3, if_neg hs10, if_neg hs17, if_neg hs24, if_neg hs31, if_pos hs38]
              show own_Ends p.tables e below s _ _ _ (T1.setTop (mkF m 12 #[.val (.int x0_0), .val (.int k12), .unset] [(.ref (own_r1 k12 w_FILE w_MODULE w_INTERFACE w_VALUE_TYPE w_STRUCT w_UNION w_EXCEPTION w_OPERATION w_FACTORY w_COMPONENT w_COMPONENT_INTERFACE w_IDS))]))
              rw [hv39]
              show own_Ends p.tables e below s _ _ _ (T1.setTop (mkF m 12 #[.val (.int x0_0), .val (.int k12), .unset] [(.ref w_UNION)]))
              refine own_step (fun t k => XS.astoreN X1.here hx rfl (hb hby at_12) rfl rfl (l' := #[.val (.int x0_0), .val (.int k12), .val (.ref w_UNION)]) rfl k) ?_
              show own_Ends p.tables e below s _ _ _ (T1.setTop (mkF m 13 #[.val (.int x0_0), .val (.int k12), .val (.ref w_UNION)] []))
              refine own_step (fun t k => XS.aloadN X1.here hx rfl (hb hby at_13) rfl rfl k) ?_
              show own_Ends p.tables e below s _ _ _ (T1.setTop (mkF m 14 #[.val (.int x0_0), .val (.int k12), .val (.ref w_UNION)] [(.ref w_UNION)]))
              obtain ⟨cq40, kq40, q40a, q40b, q40c⟩ := isOf hZ e1 E_w_UNION
              obtain ⟨_, _, ⟨T40, L40, k40, n40⟩, -, X40, ⟨Lc40, hQ40, l40, y40, z40⟩, st40⟩ := X1.virtualBack hx (y := (⟨"com/example/idlect/idlect/core/Symbol$Container$Kind", "nameReserved", "()Z"⟩ : MethodName)) (z := (⟨"com/example/idlect/idlect/core/Symbol$Container$Kind", "nameReserved", "()Z"⟩ : MethodName)) hown (mvT hZ (hw _ (List.mem_of_getElem? (i := 8) rfl))) (mvT hZ (hw _ (List.mem_of_getElem? (i := 9) rfl))) (notFace_of_selects (args := #[]) (mvT hZ (hw _ (List.mem_of_getElem? (i := 11) rfl)))) (mvT hZ (hw _ (List.mem_of_getElem? (i := 11) rfl))) (mvT hZ (hw _ (List.mem_of_getElem? (i := 10) rfl))) (by decide) (backOf (W := 0) (rm2 l Z a0 hw [] w_UNION w_FILE w_OPERATION w_FACTORY w_IDS h0 n0 O0 S_FILE S_OPERATION S_FACTORY S_IDS) hZ (hw _ (List.mem_of_getElem? (i := 12) rfl)) (hw _ (List.mem_of_getElem? (i := 6) rfl)) (by decide) (by decide)) q40a q40c (g := (mkF m 14 #[.val (.int x0_0), .val (.int k12), .val (.ref w_UNION)] [(.ref w_UNION)])) rfl (by rw [hml]; rfl) (Steps.refl _) (argsL := []) (rest := []) (lenOf pd_1 rfl) rfl (by show 2 * 0 + _ ≤ _; exact Nat.le_of_eq rfl) (hb hby at_14) (fun _ _ => ⟨rfl, e1, (by decide : 0 + 0 ≤ _), (by decide : 0 + 0 ≤ _)⟩)
              dsimp only [Pt.U, Pt.locs, Pt.cells, Pt.slots] at X40 l40 y40 z40 st40 hQ40
              subst l40 y40 z40
              obtain ⟨rfl, N40q, e40⟩ := hQ40
              refine own_step (fun t k => st40.trans k) ?_
              have N41 := Fr.app N2 N40q
              show own_Ends p.tables e below s _ _ _ (T40.setTop (mkF m 17 #[.val (.int x0_0), .val (.int k12), .val (.ref w_UNION)] [(.int (own_r2 w_UNION w_FILE w_OPERATION w_FACTORY w_IDS))]))
              refine own_step (fun t k => XS.iloadN X40.here hx rfl (hb hby at_17) rfl k) ?_
              show own_Ends p.tables e below s _ _ _ (T40.setTop (mkF m 18 #[.val (.int x0_0), .val (.int k12), .val (.ref w_UNION)] [(.int k12), (.int (own_r2 w_UNION w_FILE w_OPERATION w_FACTORY w_IDS))]))
              obtain ⟨_, _, ⟨T42, L42, k42, n42⟩, -, X42, ⟨Lc42, hQ42, l42, y42, z42⟩, st42⟩ := Jvm.LawKit.callS X40 hx (y := (⟨"com/example/idlect/idlect/core/KindNameReservedPinLaw", "expected", "(I)Z"⟩ : MethodName)) hown (mvT hZ (hw _ (List.mem_of_getElem? (i := 14) rfl))) (mvT hZ (hw _ (List.mem_of_getElem? (i := 15) rfl))) (mvT hZ (hw _ (List.mem_of_getElem? (i := 3) rfl))) (mvT hZ (hw _ (List.mem_of_getElem? (i := 16) rfl))) (by decide) (backOf (W := 1) (rm3 l Z a0 hw [] k12 h0 n0 O0 ) hZ (hw _ (List.mem_of_getElem? (i := 16) rfl)) (hw _ (List.mem_of_getElem? (i := 3) rfl)) (by decide) (by decide)) (g := (mkF m 18 #[.val (.int x0_0), .val (.int k12), .val (.ref w_UNION)] [(.int k12), (.int (own_r2 w_UNION w_FILE w_OPERATION w_FACTORY w_IDS))])) rfl (by rw [hml]; rfl) (argsL := [(.int k12)]) (rest := [(.int (own_r2 w_UNION w_FILE w_OPERATION w_FACTORY w_IDS))]) (lenOf pd_2 rfl) rfl (by show 2 * 0 + _ ≤ _; exact Nat.le_of_eq rfl) (hb hby at_18) (fun _ _ => ⟨rfl, e40, (by decide : 0 + 0 ≤ _), (by decide : 0 + 0 ≤ _)⟩)
              dsimp only [Pt.U, Pt.locs, Pt.cells, Pt.slots] at X42 l42 y42 z42 st42 hQ42
              subst l42 y42 z42
              obtain ⟨rfl, N42q, e42⟩ := hQ42
              refine own_step (fun t k => st42 _ k) ?_
              have N43 := Fr.app N41 N42q
              show own_Ends p.tables e below s _ _ _ (T42.setTop (mkF m 21 #[.val (.int x0_0), .val (.int k12), .val (.ref w_UNION)] [(.int (own_r3 k12)), (.int (own_r2 w_UNION w_FILE w_OPERATION w_FACTORY w_IDS))]))
              by_cases hc21_44 : (own_r2 w_UNION w_FILE w_OPERATION w_FACTORY w_IDS) = (own_r3 k12)
              · skip
                refine own_step (fun t k => XS.icmpNo X42.here hx rfl (hb hby at_21) rfl (teq hc21_44).2 k) ?_
                show own_Ends p.tables e below s _ _ _ (T42.setTop (mkF m 24 #[.val (.int x0_0), .val (.int k12), .val (.ref w_UNION)] []))
                refine own_step (fun t k => XS.iconst X42.here hx rfl (hb hby at_24) k) ?_
                show own_Ends p.tables e below s _ _ _ (T42.setTop (mkF m 25 #[.val (.int x0_0), .val (.int k12), .val (.ref w_UNION)] [(.int (1 : Int32))]))
                refine own_step (fun t k => XS.goto X42.here hx rfl (pc0 := 25) (pc' := 29) rfl (hb hby at_25) (by decide) (by decide) k) ?_
                show own_Ends p.tables e below s _ _ _ (T42.setTop (mkF m 29 #[.val (.int x0_0), .val (.int k12), .val (.ref w_UNION)] [(.int (1 : Int32))]))
                exact own_retN X42 hx (t := .boolean) Bd.returns (by simp) (hb hby at_29) hnl (by rw [e42]; exact ⟨rfl, N43⟩) (by decide) (by decide)
              · skip
                refine own_step (fun t k => XS.icmpYes X42.here hx rfl (pc0 := 21) (pc' := 28) rfl (hb hby at_21) rfl (feq hc21_44).2 (by decide) (by decide) k) ?_
                show own_Ends p.tables e below s _ _ _ (T42.setTop (mkF m 28 #[.val (.int x0_0), .val (.int k12), .val (.ref w_UNION)] []))
                refine own_step (fun t k => XS.iconst X42.here hx rfl (hb hby at_28) k) ?_
                show own_Ends p.tables e below s _ _ _ (T42.setTop (mkF m 29 #[.val (.int x0_0), .val (.int k12), .val (.ref w_UNION)] [(.int (0 : Int32))]))
                exfalso
                apply hc21_44
                simp [own_r2, own_r3, hs3, hs10, hs17, hs24, hs31, hs38, ne_w_FILE_w_OPERATION, ne_w_FILE_w_FACTORY, ne_w_FILE_w_IDS, ne_w_MODULE_w_FILE, ne_w_MODULE_w_OPERATION, ne_w_MODULE_w_FACTORY, ne_w_MODULE_w_IDS, ne_w_INTERFACE_w_FILE, ne_w_INTERFACE_w_OPERATION, ne_w_INTERFACE_w_FACTORY, ne_w_INTERFACE_w_IDS, ne_w_VALUE_TYPE_w_FILE, ne_w_VALUE_TYPE_w_OPERATION, ne_w_VALUE_TYPE_w_FACTORY, ne_w_VALUE_TYPE_w_IDS, ne_w_STRUCT_w_FILE, ne_w_STRUCT_w_OPERATION, ne_w_STRUCT_w_FACTORY, ne_w_STRUCT_w_IDS, ne_w_UNION_w_FILE, ne_w_UNION_w_OPERATION, ne_w_UNION_w_FACTORY, ne_w_UNION_w_IDS, ne_w_EXCEPTION_w_FILE, ne_w_EXCEPTION_w_OPERATION, ne_w_EXCEPTION_w_FACTORY, ne_w_EXCEPTION_w_IDS, ne_w_OPERATION_w_FACTORY, ne_w_OPERATION_w_IDS, ne_w_FACTORY_w_IDS, ne_w_COMPONENT_w_FILE, ne_w_COMPONENT_w_OPERATION, ne_w_COMPONENT_w_FACTORY, ne_w_COMPONENT_w_IDS, ne_w_COMPONENT_INTERFACE_w_FILE, ne_w_COMPONENT_INTERFACE_w_OPERATION, ne_w_COMPONENT_INTERFACE_w_FACTORY, ne_w_COMPONENT_INTERFACE_w_IDS, Ne.symm ne_w_FILE_w_OPERATION, Ne.symm ne_w_FILE_w_FACTORY, Ne.symm ne_w_FILE_w_IDS, Ne.symm ne_w_OPERATION_w_FACTORY, Ne.symm ne_w_OPERATION_w_IDS, Ne.symm ne_w_FACTORY_w_IDS]
            · skip
              by_cases hs45 : k12 = (6 : Int32)
              · skip
                have hv46 : (own_r1 k12 w_FILE w_MODULE w_INTERFACE w_VALUE_TYPE w_STRUCT w_UNION w_EXCEPTION w_OPERATION w_FACTORY w_COMPONENT w_COMPONENT_INTERFACE w_IDS) = w_EXCEPTION := by unfold own_r1; rw [if_neg hs3, if_neg hs10, if_neg hs17, if_neg hs24, if_neg hs31, if_neg hs38, if_pos hs45]
                show own_Ends p.tables e below s _ _ _ (T1.setTop (mkF m 12 #[.val (.int x0_0), .val (.int k12), .unset] [(.ref (own_r1 k12 w_FILE w_MODULE w_INTERFACE w_VALUE_TYPE w_STRUCT w_UNION w_EXCEPTION w_OPERATION w_FACTORY w_COMPONENT w_COMPONENT_INTERFACE w_IDS))]))
                rw [hv46]
                show own_Ends p.tables e below s _ _ _ (T1.setTop (mkF m 12 #[.val (.int x0_0), .val (.int k12), .unset] [(.ref w_EXCEPTION)]))
                refine own_step (fun t k => XS.astoreN X1.here hx rfl (hb hby at_12) rfl rfl (l' := #[.val (.int x0_0), .val (.int k12), .val (.ref w_EXCEPTION)]) rfl k) ?_
                show own_Ends p.tables e below s _ _ _ (T1.setTop (mkF m 13 #[.val (.int x0_0), .val (.int k12), .val (.ref w_EXCEPTION)] []))
                refine own_step (fun t k => XS.aloadN X1.here hx rfl (hb hby at_13) rfl rfl k) ?_
                show own_Ends p.tables e below s _ _ _ (T1.setTop (mkF m 14 #[.val (.int x0_0), .val (.int k12), .val (.ref w_EXCEPTION)] [(.ref w_EXCEPTION)]))
                obtain ⟨cq47, kq47, q47a, q47b, q47c⟩ := isOf hZ e1 E_w_EXCEPTION
                obtain ⟨_, _, ⟨T47, L47, k47, n47⟩, -, X47, ⟨Lc47, hQ47, l47, y47, z47⟩, st47⟩ := X1.virtualBack hx (y := (⟨"com/example/idlect/idlect/core/Symbol$Container$Kind", "nameReserved", "()Z"⟩ : MethodName)) (z := (⟨"com/example/idlect/idlect/core/Symbol$Container$Kind", "nameReserved", "()Z"⟩ : MethodName)) hown (mvT hZ (hw _ (List.mem_of_getElem? (i := 8) rfl))) (mvT hZ (hw _ (List.mem_of_getElem? (i := 9) rfl))) (notFace_of_selects (args := #[]) (mvT hZ (hw _ (List.mem_of_getElem? (i := 11) rfl)))) (mvT hZ (hw _ (List.mem_of_getElem? (i := 11) rfl))) (mvT hZ (hw _ (List.mem_of_getElem? (i := 10) rfl))) (by decide) (backOf (W := 0) (rm2 l Z a0 hw [] w_EXCEPTION w_FILE w_OPERATION w_FACTORY w_IDS h0 n0 O0 S_FILE S_OPERATION S_FACTORY S_IDS) hZ (hw _ (List.mem_of_getElem? (i := 12) rfl)) (hw _ (List.mem_of_getElem? (i := 6) rfl)) (by decide) (by decide)) q47a q47c (g := (mkF m 14 #[.val (.int x0_0), .val (.int k12), .val (.ref w_EXCEPTION)] [(.ref w_EXCEPTION)])) rfl (by rw [hml]; rfl) (Steps.refl _) (argsL := []) (rest := []) (lenOf pd_1 rfl) rfl (by show 2 * 0 + _ ≤ _; exact Nat.le_of_eq rfl) (hb hby at_14) (fun _ _ => ⟨rfl, e1, (by decide : 0 + 0 ≤ _), (by decide : 0 + 0 ≤ _)⟩)
                dsimp only [Pt.U, Pt.locs, Pt.cells, Pt.slots] at X47 l47 y47 z47 st47 hQ47
                subst l47 y47 z47
                obtain ⟨rfl, N47q, e47⟩ := hQ47
                refine own_step (fun t k => st47.trans k) ?_
                have N48 := Fr.app N2 N47q
                show own_Ends p.tables e below s _ _ _ (T47.setTop (mkF m 17 #[.val (.int x0_0), .val (.int k12), .val (.ref w_EXCEPTION)] [(.int (own_r2 w_EXCEPTION w_FILE w_OPERATION w_FACTORY w_IDS))]))
                refine own_step (fun t k => XS.iloadN X47.here hx rfl (hb hby at_17) rfl k) ?_
                show own_Ends p.tables e below s _ _ _ (T47.setTop (mkF m 18 #[.val (.int x0_0), .val (.int k12), .val (.ref w_EXCEPTION)] [(.int k12), (.int (own_r2 w_EXCEPTION w_FILE w_OPERATION w_FACTORY w_IDS))]))
                obtain ⟨_, _, ⟨T49, L49, k49, n49⟩, -, X49, ⟨Lc49, hQ49, l49, y49, z49⟩, st49⟩ := Jvm.LawKit.callS X47 hx (y := (⟨"com/example/idlect/idlect/core/KindNameReservedPinLaw", "expected", "(I)Z"⟩ : MethodName)) hown (mvT hZ (hw _ (List.mem_of_getElem? (i := 14) rfl))) (mvT hZ (hw _ (List.mem_of_getElem? (i := 15) rfl))) (mvT hZ (hw _ (List.mem_of_getElem? (i := 3) rfl))) (mvT hZ (hw _ (List.mem_of_getElem? (i := 16) rfl))) (by decide) (backOf (W := 1) (rm3 l Z a0 hw [] k12 h0 n0 O0 ) hZ (hw _ (List.mem_of_getElem? (i := 16) rfl)) (hw _ (List.mem_of_getElem? (i := 3) rfl)) (by decide) (by decide)) (g := (mkF m 18 #[.val (.int x0_0), .val (.int k12), .val (.ref w_EXCEPTION)] [(.int k12), (.int (own_r2 w_EXCEPTION w_FILE w_OPERATION w_FACTORY w_IDS))])) rfl (by rw [hml]; rfl) (argsL := [(.int k12)]) (rest := [(.int (own_r2 w_EXCEPTION w_FILE w_OPERATION w_FACTORY w_IDS))]) (lenOf pd_2 rfl) rfl (by show 2 * 0 + _ ≤ _; exact Nat.le_of_eq rfl) (hb hby at_18) (fun _ _ => ⟨rfl, e47, (by decide : 0 + 0 ≤ _), (by decide : 0 + 0 ≤ _)⟩)
                dsimp only [Pt.U, Pt.locs, Pt.cells, Pt.slots] at X49 l49 y49 z49 st49 hQ49
                subst l49 y49 z49
                obtain ⟨rfl, N49q, e49⟩ := hQ49
                refine own_step (fun t k => st49 _ k) ?_
                have N50 := Fr.app N48 N49q
                show own_Ends p.tables e below s _ _ _ (T49.setTop (mkF m 21 #[.val (.int x0_0), .val (.int k12), .val (.ref w_EXCEPTION)] [(.int (own_r3 k12)), (.int (own_r2 w_EXCEPTION w_FILE w_OPERATION w_FACTORY w_IDS))]))
                by_cases hc21_51 : (own_r2 w_EXCEPTION w_FILE w_OPERATION w_FACTORY w_IDS) = (own_r3 k12)
                · skip
                  refine own_step (fun t k => XS.icmpNo X49.here hx rfl (hb hby at_21) rfl (teq hc21_51).2 k) ?_
                  show own_Ends p.tables e below s _ _ _ (T49.setTop (mkF m 24 #[.val (.int x0_0), .val (.int k12), .val (.ref w_EXCEPTION)] []))
                  refine own_step (fun t k => XS.iconst X49.here hx rfl (hb hby at_24) k) ?_
                  show own_Ends p.tables e below s _ _ _ (T49.setTop (mkF m 25 #[.val (.int x0_0), .val (.int k12), .val (.ref w_EXCEPTION)] [(.int (1 : Int32))]))
                  refine own_step (fun t k => XS.goto X49.here hx rfl (pc0 := 25) (pc' := 29) rfl (hb hby at_25) (by decide) (by decide) k) ?_
                  show own_Ends p.tables e below s _ _ _ (T49.setTop (mkF m 29 #[.val (.int x0_0), .val (.int k12), .val (.ref w_EXCEPTION)] [(.int (1 : Int32))]))
                  exact own_retN X49 hx (t := .boolean) Bd.returns (by simp) (hb hby at_29) hnl (by rw [e49]; exact ⟨rfl, N50⟩) (by decide) (by decide)
                · skip
                  refine own_step (fun t k => XS.icmpYes X49.here hx rfl (pc0 := 21) (pc' := 28) rfl (hb hby at_21) rfl (feq hc21_51).2 (by decide) (by decide) k) ?_
                  show own_Ends p.tables e below s _ _ _ (T49.setTop (mkF m 28 #[.val (.int x0_0), .val (.int k12), .val (.ref w_EXCEPTION)] []))
                  refine own_step (fun t k => XS.iconst X49.here hx rfl (hb hby at_28) k) ?_
                  show own_Ends p.tables e below s _ _ _ (T49.setTop (mkF m 29 #[.val (.int x0_0), .val (.int k12), .val (.ref w_EXCEPTION)] [(.int (0 : Int32))]))
                  exfalso
                  apply hc21_51
                  simp [own_r2, own_r3, hs3, hs10, hs17, hs24, hs31, hs38, hs45, ne_w_FILE_w_OPERATION, ne_w_FILE_w_FACTORY, ne_w_FILE_w_IDS, ne_w_MODULE_w_FILE, ne_w_MODULE_w_OPERATION, ne_w_MODULE_w_FACTORY, ne_w_MODULE_w_IDS, ne_w_INTERFACE_w_FILE, ne_w_INTERFACE_w_OPERATION, ne_w_INTERFACE_w_FACTORY, ne_w_INTERFACE_w_IDS, ne_w_VALUE_TYPE_w_FILE, ne_w_VALUE_TYPE_w_OPERATION, ne_w_VALUE_TYPE_w_FACTORY, ne_w_VALUE_TYPE_w_IDS, ne_w_STRUCT_w_FILE, ne_w_STRUCT_w_OPERATION, ne_w_STRUCT_w_FACTORY, ne_w_STRUCT_w_IDS, ne_w_UNION_w_FILE, ne_w_UNION_w_OPERATION, ne_w_UNION_w_FACTORY, ne_w_UNION_w_IDS, ne_w_EXCEPTION_w_FILE, ne_w_EXCEPTION_w_OPERATION, ne_w_EXCEPTION_w_FACTORY, ne_w_EXCEPTION_w_IDS, ne_w_OPERATION_w_FACTORY, ne_w_OPERATION_w_IDS, ne_w_FACTORY_w_IDS, ne_w_COMPONENT_w_FILE, ne_w_COMPONENT_w_OPERATION, ne_w_COMPONENT_w_FACTORY, ne_w_COMPONENT_w_IDS, ne_w_COMPONENT_INTERFACE_w_FILE, ne_w_COMPONENT_INTERFACE_w_OPERATION, ne_w_COMPONENT_INTERFACE_w_FACTORY, ne_w_COMPONENT_INTERFACE_w_IDS, Ne.symm ne_w_FILE_w_OPERATION, Ne.symm ne_w_FILE_w_FACTORY, Ne.symm ne_w_FILE_w_IDS, Ne.symm ne_w_OPERATION_w_FACTORY, Ne.symm ne_w_OPERATION_w_IDS, Ne.symm ne_w_FACTORY_w_IDS]
              · skip
                by_cases hs52 : k12 = (7 : Int32)
                · skip
                  have hv53 : (own_r1 k12 w_FILE w_MODULE w_INTERFACE w_VALUE_TYPE w_STRUCT w_UNION w_EXCEPTION w_OPERATION w_FACTORY w_COMPONENT w_COMPONENT_INTERFACE w_IDS) = w_OPERATION := by unfold own_r1; rw [if_neg hs3, if_neg hs10, if_neg hs17, if_neg hs24, if_neg hs31, if_neg hs38, if_neg hs45, if_pos hs52]
                  show own_Ends p.tables e below s _ _ _ (T1.setTop (mkF m 12 #[.val (.int x0_0), .val (.int k12), .unset] [(.ref (own_r1 k12 w_FILE w_MODULE w_INTERFACE w_VALUE_TYPE w_STRUCT w_UNION w_EXCEPTION w_OPERATION w_FACTORY w_COMPONENT w_COMPONENT_INTERFACE w_IDS))]))
                  rw [hv53]
                  show own_Ends p.tables e below s _ _ _ (T1.setTop (mkF m 12 #[.val (.int x0_0), .val (.int k12), .unset] [(.ref w_OPERATION)]))
                  refine own_step (fun t k => XS.astoreN X1.here hx rfl (hb hby at_12) rfl rfl (l' := #[.val (.int x0_0), .val (.int k12), .val (.ref w_OPERATION)]) rfl k) ?_
                  show own_Ends p.tables e below s _ _ _ (T1.setTop (mkF m 13 #[.val (.int x0_0), .val (.int k12), .val (.ref w_OPERATION)] []))
                  refine own_step (fun t k => XS.aloadN X1.here hx rfl (hb hby at_13) rfl rfl k) ?_
                  show own_Ends p.tables e below s _ _ _ (T1.setTop (mkF m 14 #[.val (.int x0_0), .val (.int k12), .val (.ref w_OPERATION)] [(.ref w_OPERATION)]))
                  obtain ⟨cq54, kq54, q54a, q54b, q54c⟩ := isOf hZ e1 E_w_OPERATION
                  obtain ⟨_, _, ⟨T54, L54, k54, n54⟩, -, X54, ⟨Lc54, hQ54, l54, y54, z54⟩, st54⟩ := X1.virtualBack hx (y := (⟨"com/example/idlect/idlect/core/Symbol$Container$Kind", "nameReserved", "()Z"⟩ : MethodName)) (z := (⟨"com/example/idlect/idlect/core/Symbol$Container$Kind", "nameReserved", "()Z"⟩ : MethodName)) hown (mvT hZ (hw _ (List.mem_of_getElem? (i := 8) rfl))) (mvT hZ (hw _ (List.mem_of_getElem? (i := 9) rfl))) (notFace_of_selects (args := #[]) (mvT hZ (hw _ (List.mem_of_getElem? (i := 11) rfl)))) (mvT hZ (hw _ (List.mem_of_getElem? (i := 11) rfl))) (mvT hZ (hw _ (List.mem_of_getElem? (i := 10) rfl))) (by decide) (backOf (W := 0) (rm2 l Z a0 hw [] w_OPERATION w_FILE w_OPERATION w_FACTORY w_IDS h0 n0 O0 S_FILE S_OPERATION S_FACTORY S_IDS) hZ (hw _ (List.mem_of_getElem? (i := 12) rfl)) (hw _ (List.mem_of_getElem? (i := 6) rfl)) (by decide) (by decide)) q54a q54c (g := (mkF m 14 #[.val (.int x0_0), .val (.int k12), .val (.ref w_OPERATION)] [(.ref w_OPERATION)])) rfl (by rw [hml]; rfl) (Steps.refl _) (argsL := []) (rest := []) (lenOf pd_1 rfl) rfl (by show 2 * 0 + _ ≤ _; exact Nat.le_of_eq rfl) (hb hby at_14) (fun _ _ => ⟨rfl, e1, (by decide : 0 + 0 ≤ _), (by decide : 0 + 0 ≤ _)⟩)
                  dsimp only [Pt.U, Pt.locs, Pt.cells, Pt.slots] at X54 l54 y54 z54 st54 hQ54
                  subst l54 y54 z54
                  obtain ⟨rfl, N54q, e54⟩ := hQ54
                  refine own_step (fun t k => st54.trans k) ?_
                  have N55 := Fr.app N2 N54q
                  show own_Ends p.tables e below s _ _ _ (T54.setTop (mkF m 17 #[.val (.int x0_0), .val (.int k12), .val (.ref w_OPERATION)] [(.int (own_r2 w_OPERATION w_FILE w_OPERATION w_FACTORY w_IDS))]))
                  refine own_step (fun t k => XS.iloadN X54.here hx rfl (hb hby at_17) rfl k) ?_
                  show own_Ends p.tables e below s _ _ _ (T54.setTop (mkF m 18 #[.val (.int x0_0), .val (.int k12), .val (.ref w_OPERATION)] [(.int k12), (.int (own_r2 w_OPERATION w_FILE w_OPERATION w_FACTORY w_IDS))]))
                  obtain ⟨_, _, ⟨T56, L56, k56, n56⟩, -, X56, ⟨Lc56, hQ56, l56, y56, z56⟩, st56⟩ := Jvm.LawKit.callS X54 hx (y := (⟨"com/example/idlect/idlect/core/KindNameReservedPinLaw", "expected", "(I)Z"⟩ : MethodName)) hown (mvT hZ (hw _ (List.mem_of_getElem? (i := 14) rfl))) (mvT hZ (hw _ (List.mem_of_getElem? (i := 15) rfl))) (mvT hZ (hw _ (List.mem_of_getElem? (i := 3) rfl))) (mvT hZ (hw _ (List.mem_of_getElem? (i := 16) rfl))) (by decide) (backOf (W := 1) (rm3 l Z a0 hw [] k12 h0 n0 O0 ) hZ (hw _ (List.mem_of_getElem? (i := 16) rfl)) (hw _ (List.mem_of_getElem? (i := 3) rfl)) (by decide) (by decide)) (g := (mkF m 18 #[.val (.int x0_0), .val (.int k12), .val (.ref w_OPERATION)] [(.int k12), (.int (own_r2 w_OPERATION w_FILE w_OPERATION w_FACTORY w_IDS))])) rfl (by rw [hml]; rfl) (argsL := [(.int k12)]) (rest := [(.int (own_r2 w_OPERATION w_FILE w_OPERATION w_FACTORY w_IDS))]) (lenOf pd_2 rfl) rfl (by show 2 * 0 + _ ≤ _; exact Nat.le_of_eq rfl) (hb hby at_18) (fun _ _ => ⟨rfl, e54, (by decide : 0 + 0 ≤ _), (by decide : 0 + 0 ≤ _)⟩)
                  dsimp only [Pt.U, Pt.locs, Pt.cells, Pt.slots] at X56 l56 y56 z56 st56 hQ56
                  subst l56 y56 z56
                  obtain ⟨rfl, N56q, e56⟩ := hQ56
                  refine own_step (fun t k => st56 _ k) ?_
                  have N57 := Fr.app N55 N56q
                  show own_Ends p.tables e below s _ _ _ (T56.setTop (mkF m 21 #[.val (.int x0_0), .val (.int k12), .val (.ref w_OPERATION)] [(.int (own_r3 k12)), (.int (own_r2 w_OPERATION w_FILE w_OPERATION w_FACTORY w_IDS))]))
                  by_cases hc21_58 : (own_r2 w_OPERATION w_FILE w_OPERATION w_FACTORY w_IDS) = (own_r3 k12)
                  · skip
                    refine own_step (fun t k => XS.icmpNo X56.here hx rfl (hb hby at_21) rfl (teq hc21_58).2 k) ?_
                    show own_Ends p.tables e below s _ _ _ (T56.setTop (mkF m 24 #[.val (.int x0_0), .val (.int k12), .val (.ref w_OPERATION)] []))
                    refine own_step (fun t k => XS.iconst X56.here hx rfl (hb hby at_24) k) ?_
                    show own_Ends p.tables e below s _ _ _ (T56.setTop (mkF m 25 #[.val (.int x0_0), .val (.int k12), .val (.ref w_OPERATION)] [(.int (1 : Int32))]))
                    refine own_step (fun t k => XS.goto X56.here hx rfl (pc0 := 25) (pc' := 29) rfl (hb hby at_25) (by decide) (by decide) k) ?_
                    show own_Ends p.tables e below s _ _ _ (T56.setTop (mkF m 29 #[.val (.int x0_0), .val (.int k12), .val (.ref w_OPERATION)] [(.int (1 : Int32))]))
                    exact own_retN X56 hx (t := .boolean) Bd.returns (by simp) (hb hby at_29) hnl (by rw [e56]; exact ⟨rfl, N57⟩) (by decide) (by decide)
                  · skip
                    refine own_step (fun t k => XS.icmpYes X56.here hx rfl (pc0 := 21) (pc' := 28) rfl (hb hby at_21) rfl (feq hc21_58).2 (by decide) (by decide) k) ?_
                    show own_Ends p.tables e below s _ _ _ (T56.setTop (mkF m 28 #[.val (.int x0_0), .val (.int k12), .val (.ref w_OPERATION)] []))
                    refine own_step (fun t k => XS.iconst X56.here hx rfl (hb hby at_28) k) ?_
                    show own_Ends p.tables e below s _ _ _ (T56.setTop (mkF m 29 #[.val (.int x0_0), .val (.int k12), .val (.ref w_OPERATION)] [(.int (0 : Int32))]))
                    exfalso
                    apply hc21_58
                    simp [own_r2, own_r3, hs3, hs10, hs17, hs24, hs31, hs38, hs45, hs52, ne_w_FILE_w_OPERATION, ne_w_FILE_w_FACTORY, ne_w_FILE_w_IDS, ne_w_MODULE_w_FILE, ne_w_MODULE_w_OPERATION, ne_w_MODULE_w_FACTORY, ne_w_MODULE_w_IDS, ne_w_INTERFACE_w_FILE, ne_w_INTERFACE_w_OPERATION, ne_w_INTERFACE_w_FACTORY, ne_w_INTERFACE_w_IDS, ne_w_VALUE_TYPE_w_FILE, ne_w_VALUE_TYPE_w_OPERATION, ne_w_VALUE_TYPE_w_FACTORY, ne_w_VALUE_TYPE_w_IDS, ne_w_STRUCT_w_FILE, ne_w_STRUCT_w_OPERATION, ne_w_STRUCT_w_FACTORY, ne_w_STRUCT_w_IDS, ne_w_UNION_w_FILE, ne_w_UNION_w_OPERATION, ne_w_UNION_w_FACTORY, ne_w_UNION_w_IDS, ne_w_EXCEPTION_w_FILE, ne_w_EXCEPTION_w_OPERATION, ne_w_EXCEPTION_w_FACTORY, ne_w_EXCEPTION_w_IDS, ne_w_OPERATION_w_FACTORY, ne_w_OPERATION_w_IDS, ne_w_FACTORY_w_IDS, ne_w_COMPONENT_w_FILE, ne_w_COMPONENT_w_OPERATION, ne_w_COMPONENT_w_FACTORY, ne_w_COMPONENT_w_IDS, ne_w_COMPONENT_INTERFACE_w_FILE, ne_w_COMPONENT_INTERFACE_w_OPERATION, ne_w_COMPONENT_INTERFACE_w_FACTORY, ne_w_COMPONENT_INTERFACE_w_IDS, Ne.symm ne_w_FILE_w_OPERATION, Ne.symm ne_w_FILE_w_FACTORY, Ne.symm ne_w_FILE_w_IDS, Ne.symm ne_w_OPERATION_w_FACTORY, Ne.symm ne_w_OPERATION_w_IDS, Ne.symm ne_w_FACTORY_w_IDS]
                · skip
                  by_cases hs59 : k12 = (8 : Int32)
                  · skip
                    have hv60 : (own_r1 k12 w_FILE w_MODULE w_INTERFACE w_VALUE_TYPE w_STRUCT w_UNION w_EXCEPTION w_OPERATION w_FACTORY w_COMPONENT w_COMPONENT_INTERFACE w_IDS) = w_FACTORY := by unfold own_r1; rw [if_neg hs3, if_neg hs10, if_neg hs17, if_neg hs24, if_neg hs31, if_neg hs38, if_neg hs45, if_neg hs52, if_pos hs59]
                    show own_Ends p.tables e below s _ _ _ (T1.setTop (mkF m 12 #[.val (.int x0_0), .val (.int k12), .unset] [(.ref (own_r1 k12 w_FILE w_MODULE w_INTERFACE w_VALUE_TYPE w_STRUCT w_UNION w_EXCEPTION w_OPERATION w_FACTORY w_COMPONENT w_COMPONENT_INTERFACE w_IDS))]))
                    rw [hv60]
                    show own_Ends p.tables e below s _ _ _ (T1.setTop (mkF m 12 #[.val (.int x0_0), .val (.int k12), .unset] [(.ref w_FACTORY)]))
                    refine own_step (fun t k => XS.astoreN X1.here hx rfl (hb hby at_12) rfl rfl (l' := #[.val (.int x0_0), .val (.int k12), .val (.ref w_FACTORY)]) rfl k) ?_
                    show own_Ends p.tables e below s _ _ _ (T1.setTop (mkF m 13 #[.val (.int x0_0), .val (.int k12), .val (.ref w_FACTORY)] []))
                    refine own_step (fun t k => XS.aloadN X1.here hx rfl (hb hby at_13) rfl rfl k) ?_
                    show own_Ends p.tables e below s _ _ _ (T1.setTop (mkF m 14 #[.val (.int x0_0), .val (.int k12), .val (.ref w_FACTORY)] [(.ref w_FACTORY)]))
                    obtain ⟨cq61, kq61, q61a, q61b, q61c⟩ := isOf hZ e1 E_w_FACTORY
                    obtain ⟨_, _, ⟨T61, L61, k61, n61⟩, -, X61, ⟨Lc61, hQ61, l61, y61, z61⟩, st61⟩ := X1.virtualBack hx (y := (⟨"com/example/idlect/idlect/core/Symbol$Container$Kind", "nameReserved", "()Z"⟩ : MethodName)) (z := (⟨"com/example/idlect/idlect/core/Symbol$Container$Kind", "nameReserved", "()Z"⟩ : MethodName)) hown (mvT hZ (hw _ (List.mem_of_getElem? (i := 8) rfl))) (mvT hZ (hw _ (List.mem_of_getElem? (i := 9) rfl))) (notFace_of_selects (args := #[]) (mvT hZ (hw _ (List.mem_of_getElem? (i := 11) rfl)))) (mvT hZ (hw _ (List.mem_of_getElem? (i := 11) rfl))) (mvT hZ (hw _ (List.mem_of_getElem? (i := 10) rfl))) (by decide) (backOf (W := 0) (rm2 l Z a0 hw [] w_FACTORY w_FILE w_OPERATION w_FACTORY w_IDS h0 n0 O0 S_FILE S_OPERATION S_FACTORY S_IDS) hZ (hw _ (List.mem_of_getElem? (i := 12) rfl)) (hw _ (List.mem_of_getElem? (i := 6) rfl)) (by decide) (by decide)) q61a q61c (g := (mkF m 14 #[.val (.int x0_0), .val (.int k12), .val (.ref w_FACTORY)] [(.ref w_FACTORY)])) rfl (by rw [hml]; rfl) (Steps.refl _) (argsL := []) (rest := []) (lenOf pd_1 rfl) rfl (by show 2 * 0 + _ ≤ _; exact Nat.le_of_eq rfl) (hb hby at_14) (fun _ _ => ⟨rfl, e1, (by decide : 0 + 0 ≤ _), (by decide : 0 + 0 ≤ _)⟩)
                    dsimp only [Pt.U, Pt.locs, Pt.cells, Pt.slots] at X61 l61 y61 z61 st61 hQ61
                    subst l61 y61 z61
                    obtain ⟨rfl, N61q, e61⟩ := hQ61
                    refine own_step (fun t k => st61.trans k) ?_
                    have N62 := Fr.app N2 N61q
                    show own_Ends p.tables e below s _ _ _ (T61.setTop (mkF m 17 #[.val (.int x0_0), .val (.int k12), .val (.ref w_FACTORY)] [(.int (own_r2 w_FACTORY w_FILE w_OPERATION w_FACTORY w_IDS))]))
                    refine own_step (fun t k => XS.iloadN X61.here hx rfl (hb hby at_17) rfl k) ?_
                    show own_Ends p.tables e below s _ _ _ (T61.setTop (mkF m 18 #[.val (.int x0_0), .val (.int k12), .val (.ref w_FACTORY)] [(.int k12), (.int (own_r2 w_FACTORY w_FILE w_OPERATION w_FACTORY w_IDS))]))
                    obtain ⟨_, _, ⟨T63, L63, k63, n63⟩, -, X63, ⟨Lc63, hQ63, l63, y63, z63⟩, st63⟩ := Jvm.LawKit.callS X61 hx (y := (⟨"com/example/idlect/idlect/core/KindNameReservedPinLaw", "expected", "(I)Z"⟩ : MethodName)) hown (mvT hZ (hw _ (List.mem_of_getElem? (i := 14) rfl))) (mvT hZ (hw _ (List.mem_of_getElem? (i := 15) rfl))) (mvT hZ (hw _ (List.mem_of_getElem? (i := 3) rfl))) (mvT hZ (hw _ (List.mem_of_getElem? (i := 16) rfl))) (by decide) (backOf (W := 1) (rm3 l Z a0 hw [] k12 h0 n0 O0 ) hZ (hw _ (List.mem_of_getElem? (i := 16) rfl)) (hw _ (List.mem_of_getElem? (i := 3) rfl)) (by decide) (by decide)) (g := (mkF m 18 #[.val (.int x0_0), .val (.int k12), .val (.ref w_FACTORY)] [(.int k12), (.int (own_r2 w_FACTORY w_FILE w_OPERATION w_FACTORY w_IDS))])) rfl (by rw [hml]; rfl) (argsL := [(.int k12)]) (rest := [(.int (own_r2 w_FACTORY w_FILE w_OPERATION w_FACTORY w_IDS))]) (lenOf pd_2 rfl) rfl (by show 2 * 0 + _ ≤ _; exact Nat.le_of_eq rfl) (hb hby at_18) (fun _ _ => ⟨rfl, e61, (by decide : 0 + 0 ≤ _), (by decide : 0 + 0 ≤ _)⟩)
                    dsimp only [Pt.U, Pt.locs, Pt.cells, Pt.slots] at X63 l63 y63 z63 st63 hQ63
                    subst l63 y63 z63
                    obtain ⟨rfl, N63q, e63⟩ := hQ63
                    refine own_step (fun t k => st63 _ k) ?_
                    have N64 := Fr.app N62 N63q
                    show own_Ends p.tables e below s _ _ _ (T63.setTop (mkF m 21 #[.val (.int x0_0), .val (.int k12), .val (.ref w_FACTORY)] [(.int (own_r3 k12)), (.int (own_r2 w_FACTORY w_FILE w_OPERATION w_FACTORY w_IDS))]))
                    by_cases hc21_65 : (own_r2 w_FACTORY w_FILE w_OPERATION w_FACTORY w_IDS) = (own_r3 k12)
                    · skip
                      refine own_step (fun t k => XS.icmpNo X63.here hx rfl (hb hby at_21) rfl (teq hc21_65).2 k) ?_
                      show own_Ends p.tables e below s _ _ _ (T63.setTop (mkF m 24 #[.val (.int x0_0), .val (.int k12), .val (.ref w_FACTORY)] []))
                      refine own_step (fun t k => XS.iconst X63.here hx rfl (hb hby at_24) k) ?_
                      show own_Ends p.tables e below s _ _ _ (T63.setTop (mkF m 25 #[.val (.int x0_0), .val (.int k12), .val (.ref w_FACTORY)] [(.int (1 : Int32))]))
                      refine own_step (fun t k => XS.goto X63.here hx rfl (pc0 := 25) (pc' := 29) rfl (hb hby at_25) (by decide) (by decide) k) ?_
                      show own_Ends p.tables e below s _ _ _ (T63.setTop (mkF m 29 #[.val (.int x0_0), .val (.int k12), .val (.ref w_FACTORY)] [(.int (1 : Int32))]))
                      exact own_retN X63 hx (t := .boolean) Bd.returns (by simp) (hb hby at_29) hnl (by rw [e63]; exact ⟨rfl, N64⟩) (by decide) (by decide)
                    · skip
                      refine own_step (fun t k => XS.icmpYes X63.here hx rfl (pc0 := 21) (pc' := 28) rfl (hb hby at_21) rfl (feq hc21_65).2 (by decide) (by decide) k) ?_
                      show own_Ends p.tables e below s _ _ _ (T63.setTop (mkF m 28 #[.val (.int x0_0), .val (.int k12), .val (.ref w_FACTORY)] []))
                      refine own_step (fun t k => XS.iconst X63.here hx rfl (hb hby at_28) k) ?_
                      show own_Ends p.tables e below s _ _ _ (T63.setTop (mkF m 29 #[.val (.int x0_0), .val (.int k12), .val (.ref w_FACTORY)] [(.int (0 : Int32))]))
                      exfalso
                      apply hc21_65
                      simp [own_r2, own_r3, hs3, hs10, hs17, hs24, hs31, hs38, hs45, hs52, hs59, ne_w_FILE_w_OPERATION, ne_w_FILE_w_FACTORY, ne_w_FILE_w_IDS, ne_w_MODULE_w_FILE, ne_w_MODULE_w_OPERATION, ne_w_MODULE_w_FACTORY, ne_w_MODULE_w_IDS, ne_w_INTERFACE_w_FILE, ne_w_INTERFACE_w_OPERATION, ne_w_INTERFACE_w_FACTORY, ne_w_INTERFACE_w_IDS, ne_w_VALUE_TYPE_w_FILE, ne_w_VALUE_TYPE_w_OPERATION, ne_w_VALUE_TYPE_w_FACTORY, ne_w_VALUE_TYPE_w_IDS, ne_w_STRUCT_w_FILE, ne_w_STRUCT_w_OPERATION, ne_w_STRUCT_w_FACTORY, ne_w_STRUCT_w_IDS, ne_w_UNION_w_FILE, ne_w_UNION_w_OPERATION, ne_w_UNION_w_FACTORY, ne_w_UNION_w_IDS, ne_w_EXCEPTION_w_FILE, ne_w_EXCEPTION_w_OPERATION, ne_w_EXCEPTION_w_FACTORY, ne_w_EXCEPTION_w_IDS, ne_w_OPERATION_w_FACTORY, ne_w_OPERATION_w_IDS, ne_w_FACTORY_w_IDS, ne_w_COMPONENT_w_FILE, ne_w_COMPONENT_w_OPERATION, ne_w_COMPONENT_w_FACTORY, ne_w_COMPONENT_w_IDS, ne_w_COMPONENT_INTERFACE_w_FILE, ne_w_COMPONENT_INTERFACE_w_OPERATION, ne_w_COMPONENT_INTERFACE_w_FACTORY, ne_w_COMPONENT_INTERFACE_w_IDS, Ne.symm ne_w_FILE_w_OPERATION, Ne.symm ne_w_FILE_w_FACTORY, Ne.symm ne_w_FILE_w_IDS, Ne.symm ne_w_OPERATION_w_FACTORY, Ne.symm ne_w_OPERATION_w_IDS, Ne.symm ne_w_FACTORY_w_IDS]
                  · skip
                    by_cases hs66 : k12 = (9 : Int32)
                    · skip
                      have hv67 : (own_r1 k12 w_FILE w_MODULE w_INTERFACE w_VALUE_TYPE w_STRUCT w_UNION w_EXCEPTION w_OPERATION w_FACTORY w_COMPONENT w_COMPONENT_INTERFACE w_IDS) = w_COMPONENT := by unfold own_r1; rw [if_neg hs3, if_neg hs10, if_neg hs17, if_neg hs24, if_neg hs31, if_neg hs38, if_neg hs45, if_neg hs52, if_neg hs59, if_pos hs66]
                      show own_Ends p.tables e below s _ _ _ (T1.setTop (mkF m 12 #[.val (.int x0_0), .val (.int k12), .unset] [(.ref (own_r1 k12 w_FILE w_MODULE w_INTERFACE w_VALUE_TYPE w_STRUCT w_UNION w_EXCEPTION w_OPERATION w_FACTORY w_COMPONENT w_COMPONENT_INTERFACE w_IDS))]))
                      rw [hv67]
                      show own_Ends p.tables e below s _ _ _ (T1.setTop (mkF m 12 #[.val (.int x0_0), .val (.int k12), .unset] [(.ref w_COMPONENT)]))
                      refine own_step (fun t k => XS.astoreN X1.here hx rfl (hb hby at_12) rfl rfl (l' := #[.val (.int x0_0), .val (.int k12), .val (.ref w_COMPONENT)]) rfl k) ?_
                      show own_Ends p.tables e below s _ _ _ (T1.setTop (mkF m 13 #[.val (.int x0_0), .val (.int k12), .val (.ref w_COMPONENT)] []))
                      refine own_step (fun t k => XS.aloadN X1.here hx rfl (hb hby at_13) rfl rfl k) ?_
                      show own_Ends p.tables e below s _ _ _ (T1.setTop (mkF m 14 #[.val (.int x0_0), .val (.int k12), .val (.ref w_COMPONENT)] [(.ref w_COMPONENT)]))
                      obtain ⟨cq68, kq68, q68a, q68b, q68c⟩ := isOf hZ e1 E_w_COMPONENT
                      obtain ⟨_, _, ⟨T68, L68, k68, n68⟩, -, X68, ⟨Lc68, hQ68, l68, y68, z68⟩, st68⟩ := X1.virtualBack hx (y := (⟨"com/example/idlect/idlect/core/Symbol$Container$Kind", "nameReserved", "()Z"⟩ : MethodName)) (z := (⟨"com/example/idlect/idlect/core/Symbol$Container$Kind", "nameReserved", "()Z"⟩ : MethodName)) hown (mvT hZ (hw _ (List.mem_of_getElem? (i := 8) rfl))) (mvT hZ (hw _ (List.mem_of_getElem? (i := 9) rfl))) (notFace_of_selects (args := #[]) (mvT hZ (hw _ (List.mem_of_getElem? (i := 11) rfl)))) (mvT hZ (hw _ (List.mem_of_getElem? (i := 11) rfl))) (mvT hZ (hw _ (List.mem_of_getElem? (i := 10) rfl))) (by decide) (backOf (W := 0) (rm2 l Z a0 hw [] w_COMPONENT w_FILE w_OPERATION w_FACTORY w_IDS h0 n0 O0 S_FILE S_OPERATION S_FACTORY S_IDS) hZ (hw _ (List.mem_of_getElem? (i := 12) rfl)) (hw _ (List.mem_of_getElem? (i := 6) rfl)) (by decide) (by decide)) q68a q68c (g := (mkF m 14 #[.val (.int x0_0), .val (.int k12), .val (.ref w_COMPONENT)] [(.ref w_COMPONENT)])) rfl (by rw [hml]; rfl) (Steps.refl _) (argsL := []) (rest := []) (lenOf pd_1 rfl) rfl (by show 2 * 0 + _ ≤ _; exact Nat.le_of_eq rfl) (hb hby at_14) (fun _ _ => ⟨rfl, e1, (by decide : 0 + 0 ≤ _), (by decide : 0 + 0 ≤ _)⟩)
                      dsimp only [Pt.U, Pt.locs, Pt.cells, Pt.slots] at X68 l68 y68 z68 st68 hQ68
                      subst l68 y68 z68
                      obtain ⟨rfl, N68q, e68⟩ := hQ68
                      refine own_step (fun t k => st68.trans k) ?_
                      have N69 := Fr.app N2 N68q
                      show own_Ends p.tables e below s _ _ _ (T68.setTop (mkF m 17 #[.val (.int x0_0), .val (.int k12), .val (.ref w_COMPONENT)] [(.int (own_r2 w_COMPONENT w_FILE w_OPERATION w_FACTORY w_IDS))]))
                      refine own_step (fun t k => XS.iloadN X68.here hx rfl (hb hby at_17) rfl k) ?_
                      show own_Ends p.tables e below s _ _ _ (T68.setTop (mkF m 18 #[.val (.int x0_0), .val (.int k12), .val (.ref w_COMPONENT)] [(.int k12), (.int (own_r2 w_COMPONENT w_FILE w_OPERATION w_FACTORY w_IDS))]))
                      obtain ⟨_, _, ⟨T70, L70, k70, n70⟩, -, X70, ⟨Lc70, hQ70, l70, y70, z70⟩, st70⟩ := Jvm.LawKit.callS X68 hx (y := (⟨"com/example/idlect/idlect/core/KindNameReservedPinLaw", "expected", "(I)Z"⟩ : MethodName)) hown (mvT hZ (hw _ (List.mem_of_getElem? (i := 14) rfl))) (mvT hZ (hw _ (List.mem_of_getElem? (i := 15) rfl))) (mvT hZ (hw _ (List.mem_of_getElem? (i := 3) rfl))) (mvT hZ (hw _ (List.mem_of_getElem? (i := 16) rfl))) (by decide) (backOf (W := 1) (rm3 l Z a0 hw [] k12 h0 n0 O0 ) hZ (hw _ (List.mem_of_getElem? (i := 16) rfl)) (hw _ (List.mem_of_getElem? (i := 3) rfl)) (by decide) (by decide)) (g := (mkF m 18 #[.val (.int x0_0), .val (.int k12), .val (.ref w_COMPONENT)] [(.int k12), (.int (own_r2 w_COMPONENT w_FILE w_OPERATION w_FACTORY w_IDS))])) rfl (by rw [hml]; rfl) (argsL := [(.int k12)]) (rest := [(.int (own_r2 w_COMPONENT w_FILE w_OPERATION w_FACTORY w_IDS))]) (lenOf pd_2 rfl) rfl (by show 2 * 0 + _ ≤ _; exact Nat.le_of_eq rfl) (hb hby at_18) (fun _ _ => ⟨rfl, e68, (by decide : 0 + 0 ≤ _), (by decide : 0 + 0 ≤ _)⟩)
                      dsimp only [Pt.U, Pt.locs, Pt.cells, Pt.slots] at X70 l70 y70 z70 st70 hQ70
                      subst l70 y70 z70
                      obtain ⟨rfl, N70q, e70⟩ := hQ70
                      refine own_step (fun t k => st70 _ k) ?_
                      have N71 := Fr.app N69 N70q
                      show own_Ends p.tables e below s _ _ _ (T70.setTop (mkF m 21 #[.val (.int x0_0), .val (.int k12), .val (.ref w_COMPONENT)] [(.int (own_r3 k12)), (.int (own_r2 w_COMPONENT w_FILE w_OPERATION w_FACTORY w_IDS))]))
                      by_cases hc21_72 : (own_r2 w_COMPONENT w_FILE w_OPERATION w_FACTORY w_IDS) = (own_r3 k12)
                      · skip
                        refine own_step (fun t k => XS.icmpNo X70.here hx rfl (hb hby at_21) rfl (teq hc21_72).2 k) ?_
                        show own_Ends p.tables e below s _ _ _ (T70.setTop (mkF m 24 #[.val (.int x0_0), .val (.int k12), .val (.ref w_COMPONENT)] []))
                        refine own_step (fun t k => XS.iconst X70.here hx rfl (hb hby at_24) k) ?_
                        show own_Ends p.tables e below s _ _ _ (T70.setTop (mkF m 25 #[.val (.int x0_0), .val (.int k12), .val (.ref w_COMPONENT)] [(.int (1 : Int32))]))
                        refine own_step (fun t k => XS.goto X70.here hx rfl (pc0 := 25) (pc' := 29) rfl (hb hby at_25) (by decide) (by decide) k) ?_
                        show own_Ends p.tables e below s _ _ _ (T70.setTop (mkF m 29 #[.val (.int x0_0), .val (.int k12), .val (.ref w_COMPONENT)] [(.int (1 : Int32))]))
                        exact own_retN X70 hx (t := .boolean) Bd.returns (by simp) (hb hby at_29) hnl (by rw [e70]; exact ⟨rfl, N71⟩) (by decide) (by decide)
                      · skip
                        refine own_step (fun t k => XS.icmpYes X70.here hx rfl (pc0 := 21) (pc' := 28) rfl (hb hby at_21) rfl (feq hc21_72).2 (by decide) (by decide) k) ?_
                        show own_Ends p.tables e below s _ _ _ (T70.setTop (mkF m 28 #[.val (.int x0_0), .val (.int k12), .val (.ref w_COMPONENT)] []))
                        refine own_step (fun t k => XS.iconst X70.here hx rfl (hb hby at_28) k) ?_
                        show own_Ends p.tables e below s _ _ _ (T70.setTop (mkF m 29 #[.val (.int x0_0), .val (.int k12), .val (.ref w_COMPONENT)] [(.int (0 : Int32))]))
                        exfalso
                        apply hc21_72
                        simp [own_r2, own_r3, hs3, hs10, hs17, hs24, hs31, hs38, hs45, hs52, hs59, hs66, ne_w_FILE_w_OPERATION, ne_w_FILE_w_FACTORY, ne_w_FILE_w_IDS, ne_w_MODULE_w_FILE, ne_w_MODULE_w_OPERATION, ne_w_MODULE_w_FACTORY, ne_w_MODULE_w_IDS, ne_w_INTERFACE_w_FILE, ne_w_INTERFACE_w_OPERATION, ne_w_INTERFACE_w_FACTORY, ne_w_INTERFACE_w_IDS, ne_w_VALUE_TYPE_w_FILE, ne_w_VALUE_TYPE_w_OPERATION, ne_w_VALUE_TYPE_w_FACTORY, ne_w_VALUE_TYPE_w_IDS, ne_w_STRUCT_w_FILE, ne_w_STRUCT_w_OPERATION, ne_w_STRUCT_w_FACTORY, ne_w_STRUCT_w_IDS, ne_w_UNION_w_FILE, ne_w_UNION_w_OPERATION, ne_w_UNION_w_FACTORY, ne_w_UNION_w_IDS, ne_w_EXCEPTION_w_FILE, ne_w_EXCEPTION_w_OPERATION, ne_w_EXCEPTION_w_FACTORY, ne_w_EXCEPTION_w_IDS, ne_w_OPERATION_w_FACTORY, ne_w_OPERATION_w_IDS, ne_w_FACTORY_w_IDS, ne_w_COMPONENT_w_FILE, ne_w_COMPONENT_w_OPERATION, ne_w_COMPONENT_w_FACTORY, ne_w_COMPONENT_w_IDS, ne_w_COMPONENT_INTERFACE_w_FILE, ne_w_COMPONENT_INTERFACE_w_OPERATION, ne_w_COMPONENT_INTERFACE_w_FACTORY, ne_w_COMPONENT_INTERFACE_w_IDS, Ne.symm ne_w_FILE_w_OPERATION, Ne.symm ne_w_FILE_w_FACTORY, Ne.symm ne_w_FILE_w_IDS, Ne.symm ne_w_OPERATION_w_FACTORY, Ne.symm ne_w_OPERATION_w_IDS, Ne.symm ne_w_FACTORY_w_IDS]
                    · skip
                      by_cases hs73 : k12 = (10 : Int32)
                      · skip
                        have hv74 : (own_r1 k12 w_FILE w_MODULE w_INTERFACE w_VALUE_TYPE w_STRUCT w_UNION w_EXCEPTION w_OPERATION w_FACTORY w_COMPONENT w_COMPONENT_INTERFACE w_IDS) = w_COMPONENT_INTERFACE := by unfold own_r1; rw [if_neg hs3, if_neg hs10, if_neg hs17, if_neg hs24, if_neg hs31, if_neg hs38, if_neg hs45, if_neg hs52, if_neg hs59, if_neg hs66, if_pos hs73]
                        show own_Ends p.tables e below s _ _ _ (T1.setTop (mkF m 12 #[.val (.int x0_0), .val (.int k12), .unset] [(.ref (own_r1 k12 w_FILE w_MODULE w_INTERFACE w_VALUE_TYPE w_STRUCT w_UNION w_EXCEPTION w_OPERATION w_FACTORY w_COMPONENT w_COMPONENT_INTERFACE w_IDS))]))
                        rw [hv74]
                        show own_Ends p.tables e below s _ _ _ (T1.setTop (mkF m 12 #[.val (.int x0_0), .val (.int k12), .unset] [(.ref w_COMPONENT_INTERFACE)]))
                        refine own_step (fun t k => XS.astoreN X1.here hx rfl (hb hby at_12) rfl rfl (l' := #[.val (.int x0_0), .val (.int k12), .val (.ref w_COMPONENT_INTERFACE)]) rfl k) ?_
                        show own_Ends p.tables e below s _ _ _ (T1.setTop (mkF m 13 #[.val (.int x0_0), .val (.int k12), .val (.ref w_COMPONENT_INTERFACE)] []))
                        refine own_step (fun t k => XS.aloadN X1.here hx rfl (hb hby at_13) rfl rfl k) ?_
                        show own_Ends p.tables e below s _ _ _ (T1.setTop (mkF m 14 #[.val (.int x0_0), .val (.int k12), .val (.ref w_COMPONENT_INTERFACE)] [(.ref w_COMPONENT_INTERFACE)]))
                        obtain ⟨cq75, kq75, q75a, q75b, q75c⟩ := isOf hZ e1 E_w_COMPONENT_INTERFACE
                        obtain ⟨_, _, ⟨T75, L75, k75, n75⟩, -, X75, ⟨Lc75, hQ75, l75, y75, z75⟩, st75⟩ := X1.virtualBack hx (y := (⟨"com/example/idlect/idlect/core/Symbol$Container$Kind", "nameReserved", "()Z"⟩ : MethodName)) (z := (⟨"com/example/idlect/idlect/core/Symbol$Container$Kind", "nameReserved", "()Z"⟩ : MethodName)) hown (mvT hZ (hw _ (List.mem_of_getElem? (i := 8) rfl))) (mvT hZ (hw _ (List.mem_of_getElem? (i := 9) rfl))) (notFace_of_selects (args := #[]) (mvT hZ (hw _ (List.mem_of_getElem? (i := 11) rfl)))) (mvT hZ (hw _ (List.mem_of_getElem? (i := 11) rfl))) (mvT hZ (hw _ (List.mem_of_getElem? (i := 10) rfl))) (by decide) (backOf (W := 0) (rm2 l Z a0 hw [] w_COMPONENT_INTERFACE w_FILE w_OPERATION w_FACTORY w_IDS h0 n0 O0 S_FILE S_OPERATION S_FACTORY S_IDS) hZ (hw _ (List.mem_of_getElem? (i := 12) rfl)) (hw _ (List.mem_of_getElem? (i := 6) rfl)) (by decide) (by decide)) q75a q75c (g := (mkF m 14 #[.val (.int x0_0), .val (.int k12), .val (.ref w_COMPONENT_INTERFACE)] [(.ref w_COMPONENT_INTERFACE)])) rfl (by rw [hml]; rfl) (Steps.refl _) (argsL := []) (rest := []) (lenOf pd_1 rfl) rfl (by show 2 * 0 + _ ≤ _; exact Nat.le_of_eq rfl) (hb hby at_14) (fun _ _ => ⟨rfl, e1, (by decide : 0 + 0 ≤ _), (by decide : 0 + 0 ≤ _)⟩)
                        dsimp only [Pt.U, Pt.locs, Pt.cells, Pt.slots] at X75 l75 y75 z75 st75 hQ75
                        subst l75 y75 z75
                        obtain ⟨rfl, N75q, e75⟩ := hQ75
                        refine own_step (fun t k => st75.trans k) ?_
                        have N76 := Fr.app N2 N75q
                        show own_Ends p.tables e below s _ _ _ (T75.setTop (mkF m 17 #[.val (.int x0_0), .val (.int k12), .val (.ref w_COMPONENT_INTERFACE)] [(.int (own_r2 w_COMPONENT_INTERFACE w_FILE w_OPERATION w_FACTORY w_IDS))]))
                        refine own_step (fun t k => XS.iloadN X75.here hx rfl (hb hby at_17) rfl k) ?_
                        show own_Ends p.tables e below s _ _ _ (T75.setTop (mkF m 18 #[.val (.int x0_0), .val (.int k12), .val (.ref w_COMPONENT_INTERFACE)] [(.int k12), (.int (own_r2 w_COMPONENT_INTERFACE w_FILE w_OPERATION w_FACTORY w_IDS))]))
                        obtain ⟨_, _, ⟨T77, L77, k77, n77⟩, -, X77, ⟨Lc77, hQ77, l77, y77, z77⟩, st77⟩ := Jvm.LawKit.callS X75 hx (y := (⟨"com/example/idlect/idlect/core/KindNameReservedPinLaw", "expected", "(I)Z"⟩ : MethodName)) hown (mvT hZ (hw _ (List.mem_of_getElem? (i := 14) rfl))) (mvT hZ (hw _ (List.mem_of_getElem? (i := 15) rfl))) (mvT hZ (hw _ (List.mem_of_getElem? (i := 3) rfl))) (mvT hZ (hw _ (List.mem_of_getElem? (i := 16) rfl))) (by decide) (backOf (W := 1) (rm3 l Z a0 hw [] k12 h0 n0 O0 ) hZ (hw _ (List.mem_of_getElem? (i := 16) rfl)) (hw _ (List.mem_of_getElem? (i := 3) rfl)) (by decide) (by decide)) (g := (mkF m 18 #[.val (.int x0_0), .val (.int k12), .val (.ref w_COMPONENT_INTERFACE)] [(.int k12), (.int (own_r2 w_COMPONENT_INTERFACE w_FILE w_OPERATION w_FACTORY w_IDS))])) rfl (by rw [hml]; rfl) (argsL := [(.int k12)]) (rest := [(.int (own_r2 w_COMPONENT_INTERFACE w_FILE w_OPERATION w_FACTORY w_IDS))]) (lenOf pd_2 rfl) rfl (by show 2 * 0 + _ ≤ _; exact Nat.le_of_eq rfl) (hb hby at_18) (fun _ _ => ⟨rfl, e75, (by decide : 0 + 0 ≤ _), (by decide : 0 + 0 ≤ _)⟩)
                        dsimp only [Pt.U, Pt.locs, Pt.cells, Pt.slots] at X77 l77 y77 z77 st77 hQ77
                        subst l77 y77 z77
                        obtain ⟨rfl, N77q, e77⟩ := hQ77
                        refine own_step (fun t k => st77 _ k) ?_
                        have N78 := Fr.app N76 N77q
                        show own_Ends p.tables e below s _ _ _ (T77.setTop (mkF m 21 #[.val (.int x0_0), .val (.int k12), .val (.ref w_COMPONENT_INTERFACE)] [(.int (own_r3 k12)), (.int (own_r2 w_COMPONENT_INTERFACE w_FILE w_OPERATION w_FACTORY w_IDS))]))
                        by_cases hc21_79 : (own_r2 w_COMPONENT_INTERFACE w_FILE w_OPERATION w_FACTORY w_IDS) = (own_r3 k12)
                        · skip
                          refine own_step (fun t k => XS.icmpNo X77.here hx rfl (hb hby at_21) rfl (teq hc21_79).2 k) ?_
                          show own_Ends p.tables e below s _ _ _ (T77.setTop (mkF m 24 #[.val (.int x0_0), .val (.int k12), .val (.ref w_COMPONENT_INTERFACE)] []))
                          refine own_step (fun t k => XS.iconst X77.here hx rfl (hb hby at_24) k) ?_
                          show own_Ends p.tables e below s _ _ _ (T77.setTop (mkF m 25 #[.val (.int x0_0), .val (.int k12), .val (.ref w_COMPONENT_INTERFACE)] [(.int (1 : Int32))]))
                          refine own_step (fun t k => XS.goto X77.here hx rfl (pc0 := 25) (pc' := 29) rfl (hb hby at_25) (by decide) (by decide) k) ?_
                          show own_Ends p.tables e below s _ _ _ (T77.setTop (mkF m 29 #[.val (.int x0_0), .val (.int k12), .val (.ref w_COMPONENT_INTERFACE)] [(.int (1 : Int32))]))
                          exact own_retN X77 hx (t := .boolean) Bd.returns (by simp) (hb hby at_29) hnl (by rw [e77]; exact ⟨rfl, N78⟩) (by decide) (by decide)
                        · skip
                          refine own_step (fun t k => XS.icmpYes X77.here hx rfl (pc0 := 21) (pc' := 28) rfl (hb hby at_21) rfl (feq hc21_79).2 (by decide) (by decide) k) ?_
                          show own_Ends p.tables e below s _ _ _ (T77.setTop (mkF m 28 #[.val (.int x0_0), .val (.int k12), .val (.ref w_COMPONENT_INTERFACE)] []))
                          refine own_step (fun t k => XS.iconst X77.here hx rfl (hb hby at_28) k) ?_
                          show own_Ends p.tables e below s _ _ _ (T77.setTop (mkF m 29 #[.val (.int x0_0), .val (.int k12), .val (.ref w_COMPONENT_INTERFACE)] [(.int (0 : Int32))]))
                          exfalso
                          apply hc21_79
                          simp [own_r2, own_r3, hs3, hs10, hs17, hs24, hs31, hs38, hs45, hs52, hs59, hs66, hs73, ne_w_FILE_w_OPERATION, ne_w_FILE_w_FACTORY, ne_w_FILE_w_IDS, ne_w_MODULE_w_FILE, ne_w_MODULE_w_OPERATION, ne_w_MODULE_w_FACTORY, ne_w_MODULE_w_IDS, ne_w_INTERFACE_w_FILE, ne_w_INTERFACE_w_OPERATION, ne_w_INTERFACE_w_FACTORY, ne_w_INTERFACE_w_IDS, ne_w_VALUE_TYPE_w_FILE, ne_w_VALUE_TYPE_w_OPERATION, ne_w_VALUE_TYPE_w_FACTORY, ne_w_VALUE_TYPE_w_IDS, ne_w_STRUCT_w_FILE, ne_w_STRUCT_w_OPERATION, ne_w_STRUCT_w_FACTORY, ne_w_STRUCT_w_IDS, ne_w_UNION_w_FILE, ne_w_UNION_w_OPERATION, ne_w_UNION_w_FACTORY, ne_w_UNION_w_IDS, ne_w_EXCEPTION_w_FILE, ne_w_EXCEPTION_w_OPERATION, ne_w_EXCEPTION_w_FACTORY, ne_w_EXCEPTION_w_IDS, ne_w_OPERATION_w_FACTORY, ne_w_OPERATION_w_IDS, ne_w_FACTORY_w_IDS, ne_w_COMPONENT_w_FILE, ne_w_COMPONENT_w_OPERATION, ne_w_COMPONENT_w_FACTORY, ne_w_COMPONENT_w_IDS, ne_w_COMPONENT_INTERFACE_w_FILE, ne_w_COMPONENT_INTERFACE_w_OPERATION, ne_w_COMPONENT_INTERFACE_w_FACTORY, ne_w_COMPONENT_INTERFACE_w_IDS, Ne.symm ne_w_FILE_w_OPERATION, Ne.symm ne_w_FILE_w_FACTORY, Ne.symm ne_w_FILE_w_IDS, Ne.symm ne_w_OPERATION_w_FACTORY, Ne.symm ne_w_OPERATION_w_IDS, Ne.symm ne_w_FACTORY_w_IDS]
                      · skip
                        have hv80 : (own_r1 k12 w_FILE w_MODULE w_INTERFACE w_VALUE_TYPE w_STRUCT w_UNION w_EXCEPTION w_OPERATION w_FACTORY w_COMPONENT w_COMPONENT_INTERFACE w_IDS) = w_IDS := by unfold own_r1; rw [if_neg hs3, if_neg hs10, if_neg hs17, if_neg hs24, if_neg hs31, if_neg hs38, if_neg hs45, if_neg hs52, if_neg hs59, if_neg hs66, if_neg hs73]
                        show own_Ends p.tables e below s _ _ _ (T1.setTop (mkF m 12 #[.val (.int x0_0), .val (.int k12), .unset] [(.ref (own_r1 k12 w_FILE w_MODULE w_INTERFACE w_VALUE_TYPE w_STRUCT w_UNION w_EXCEPTION w_OPERATION w_FACTORY w_COMPONENT w_COMPONENT_INTERFACE w_IDS))]))
                        rw [hv80]
                        show own_Ends p.tables e below s _ _ _ (T1.setTop (mkF m 12 #[.val (.int x0_0), .val (.int k12), .unset] [(.ref w_IDS)]))
                        refine own_step (fun t k => XS.astoreN X1.here hx rfl (hb hby at_12) rfl rfl (l' := #[.val (.int x0_0), .val (.int k12), .val (.ref w_IDS)]) rfl k) ?_
                        show own_Ends p.tables e below s _ _ _ (T1.setTop (mkF m 13 #[.val (.int x0_0), .val (.int k12), .val (.ref w_IDS)] []))
                        refine own_step (fun t k => XS.aloadN X1.here hx rfl (hb hby at_13) rfl rfl k) ?_
                        show own_Ends p.tables e below s _ _ _ (T1.setTop (mkF m 14 #[.val (.int x0_0), .val (.int k12), .val (.ref w_IDS)] [(.ref w_IDS)]))
                        obtain ⟨cq81, kq81, q81a, q81b, q81c⟩ := isOf hZ e1 E_w_IDS
                        obtain ⟨_, _, ⟨T81, L81, k81, n81⟩, -, X81, ⟨Lc81, hQ81, l81, y81, z81⟩, st81⟩ := X1.virtualBack hx (y := (⟨"com/example/idlect/idlect/core/Symbol$Container$Kind", "nameReserved", "()Z"⟩ : MethodName)) (z := (⟨"com/example/idlect/idlect/core/Symbol$Container$Kind", "nameReserved", "()Z"⟩ : MethodName)) hown (mvT hZ (hw _ (List.mem_of_getElem? (i := 8) rfl))) (mvT hZ (hw _ (List.mem_of_getElem? (i := 9) rfl))) (notFace_of_selects (args := #[]) (mvT hZ (hw _ (List.mem_of_getElem? (i := 11) rfl)))) (mvT hZ (hw _ (List.mem_of_getElem? (i := 11) rfl))) (mvT hZ (hw _ (List.mem_of_getElem? (i := 10) rfl))) (by decide) (backOf (W := 0) (rm2 l Z a0 hw [] w_IDS w_FILE w_OPERATION w_FACTORY w_IDS h0 n0 O0 S_FILE S_OPERATION S_FACTORY S_IDS) hZ (hw _ (List.mem_of_getElem? (i := 12) rfl)) (hw _ (List.mem_of_getElem? (i := 6) rfl)) (by decide) (by decide)) q81a q81c (g := (mkF m 14 #[.val (.int x0_0), .val (.int k12), .val (.ref w_IDS)] [(.ref w_IDS)])) rfl (by rw [hml]; rfl) (Steps.refl _) (argsL := []) (rest := []) (lenOf pd_1 rfl) rfl (by show 2 * 0 + _ ≤ _; exact Nat.le_of_eq rfl) (hb hby at_14) (fun _ _ => ⟨rfl, e1, (by decide : 0 + 0 ≤ _), (by decide : 0 + 0 ≤ _)⟩)
                        dsimp only [Pt.U, Pt.locs, Pt.cells, Pt.slots] at X81 l81 y81 z81 st81 hQ81
                        subst l81 y81 z81
                        obtain ⟨rfl, N81q, e81⟩ := hQ81
                        refine own_step (fun t k => st81.trans k) ?_
                        have N82 := Fr.app N2 N81q
                        show own_Ends p.tables e below s _ _ _ (T81.setTop (mkF m 17 #[.val (.int x0_0), .val (.int k12), .val (.ref w_IDS)] [(.int (own_r2 w_IDS w_FILE w_OPERATION w_FACTORY w_IDS))]))
                        refine own_step (fun t k => XS.iloadN X81.here hx rfl (hb hby at_17) rfl k) ?_
                        show own_Ends p.tables e below s _ _ _ (T81.setTop (mkF m 18 #[.val (.int x0_0), .val (.int k12), .val (.ref w_IDS)] [(.int k12), (.int (own_r2 w_IDS w_FILE w_OPERATION w_FACTORY w_IDS))]))
                        obtain ⟨_, _, ⟨T83, L83, k83, n83⟩, -, X83, ⟨Lc83, hQ83, l83, y83, z83⟩, st83⟩ := Jvm.LawKit.callS X81 hx (y := (⟨"com/example/idlect/idlect/core/KindNameReservedPinLaw", "expected", "(I)Z"⟩ : MethodName)) hown (mvT hZ (hw _ (List.mem_of_getElem? (i := 14) rfl))) (mvT hZ (hw _ (List.mem_of_getElem? (i := 15) rfl))) (mvT hZ (hw _ (List.mem_of_getElem? (i := 3) rfl))) (mvT hZ (hw _ (List.mem_of_getElem? (i := 16) rfl))) (by decide) (backOf (W := 1) (rm3 l Z a0 hw [] k12 h0 n0 O0 ) hZ (hw _ (List.mem_of_getElem? (i := 16) rfl)) (hw _ (List.mem_of_getElem? (i := 3) rfl)) (by decide) (by decide)) (g := (mkF m 18 #[.val (.int x0_0), .val (.int k12), .val (.ref w_IDS)] [(.int k12), (.int (own_r2 w_IDS w_FILE w_OPERATION w_FACTORY w_IDS))])) rfl (by rw [hml]; rfl) (argsL := [(.int k12)]) (rest := [(.int (own_r2 w_IDS w_FILE w_OPERATION w_FACTORY w_IDS))]) (lenOf pd_2 rfl) rfl (by show 2 * 0 + _ ≤ _; exact Nat.le_of_eq rfl) (hb hby at_18) (fun _ _ => ⟨rfl, e81, (by decide : 0 + 0 ≤ _), (by decide : 0 + 0 ≤ _)⟩)
                        dsimp only [Pt.U, Pt.locs, Pt.cells, Pt.slots] at X83 l83 y83 z83 st83 hQ83
                        subst l83 y83 z83
                        obtain ⟨rfl, N83q, e83⟩ := hQ83
                        refine own_step (fun t k => st83 _ k) ?_
                        have N84 := Fr.app N82 N83q
                        show own_Ends p.tables e below s _ _ _ (T83.setTop (mkF m 21 #[.val (.int x0_0), .val (.int k12), .val (.ref w_IDS)] [(.int (own_r3 k12)), (.int (own_r2 w_IDS w_FILE w_OPERATION w_FACTORY w_IDS))]))
                        by_cases hc21_85 : (own_r2 w_IDS w_FILE w_OPERATION w_FACTORY w_IDS) = (own_r3 k12)
                        · skip
                          refine own_step (fun t k => XS.icmpNo X83.here hx rfl (hb hby at_21) rfl (teq hc21_85).2 k) ?_
                          show own_Ends p.tables e below s _ _ _ (T83.setTop (mkF m 24 #[.val (.int x0_0), .val (.int k12), .val (.ref w_IDS)] []))
                          refine own_step (fun t k => XS.iconst X83.here hx rfl (hb hby at_24) k) ?_
                          show own_Ends p.tables e below s _ _ _ (T83.setTop (mkF m 25 #[.val (.int x0_0), .val (.int k12), .val (.ref w_IDS)] [(.int (1 : Int32))]))
                          refine own_step (fun t k => XS.goto X83.here hx rfl (pc0 := 25) (pc' := 29) rfl (hb hby at_25) (by decide) (by decide) k) ?_
                          show own_Ends p.tables e below s _ _ _ (T83.setTop (mkF m 29 #[.val (.int x0_0), .val (.int k12), .val (.ref w_IDS)] [(.int (1 : Int32))]))
                          exact own_retN X83 hx (t := .boolean) Bd.returns (by simp) (hb hby at_29) hnl (by rw [e83]; exact ⟨rfl, N84⟩) (by decide) (by decide)
                        · skip
                          refine own_step (fun t k => XS.icmpYes X83.here hx rfl (pc0 := 21) (pc' := 28) rfl (hb hby at_21) rfl (feq hc21_85).2 (by decide) (by decide) k) ?_
                          show own_Ends p.tables e below s _ _ _ (T83.setTop (mkF m 28 #[.val (.int x0_0), .val (.int k12), .val (.ref w_IDS)] []))
                          refine own_step (fun t k => XS.iconst X83.here hx rfl (hb hby at_28) k) ?_
                          show own_Ends p.tables e below s _ _ _ (T83.setTop (mkF m 29 #[.val (.int x0_0), .val (.int k12), .val (.ref w_IDS)] [(.int (0 : Int32))]))
                          exfalso
                          have h11 : k12 = 11 := by
                            rcases own_cases12 k12 (hk12 ▸ own_idx _ 12 (by decide)) with h | h | h | h | h | h | h | h | h | h | h | h
                            · exact absurd h hs3
                            · exact absurd h hs10
                            · exact absurd h hs17
                            · exact absurd h hs24
                            · exact absurd h hs31
                            · exact absurd h hs38
                            · exact absurd h hs45
                            · exact absurd h hs52
                            · exact absurd h hs59
                            · exact absurd h hs66
                            · exact absurd h hs73
                            · exact h
                          apply hc21_85
                          subst h11
                          simp [own_r2, own_r3, ne_w_FILE_w_OPERATION, ne_w_FILE_w_FACTORY, ne_w_FILE_w_IDS, ne_w_MODULE_w_FILE, ne_w_MODULE_w_OPERATION, ne_w_MODULE_w_FACTORY, ne_w_MODULE_w_IDS, ne_w_INTERFACE_w_FILE, ne_w_INTERFACE_w_OPERATION, ne_w_INTERFACE_w_FACTORY, ne_w_INTERFACE_w_IDS, ne_w_VALUE_TYPE_w_FILE, ne_w_VALUE_TYPE_w_OPERATION, ne_w_VALUE_TYPE_w_FACTORY, ne_w_VALUE_TYPE_w_IDS, ne_w_STRUCT_w_FILE, ne_w_STRUCT_w_OPERATION, ne_w_STRUCT_w_FACTORY, ne_w_STRUCT_w_IDS, ne_w_UNION_w_FILE, ne_w_UNION_w_OPERATION, ne_w_UNION_w_FACTORY, ne_w_UNION_w_IDS, ne_w_EXCEPTION_w_FILE, ne_w_EXCEPTION_w_OPERATION, ne_w_EXCEPTION_w_FACTORY, ne_w_EXCEPTION_w_IDS, ne_w_OPERATION_w_FACTORY, ne_w_OPERATION_w_IDS, ne_w_FACTORY_w_IDS, ne_w_COMPONENT_w_FILE, ne_w_COMPONENT_w_OPERATION, ne_w_COMPONENT_w_FACTORY, ne_w_COMPONENT_w_IDS, ne_w_COMPONENT_INTERFACE_w_FILE, ne_w_COMPONENT_INTERFACE_w_OPERATION, ne_w_COMPONENT_INTERFACE_w_FACTORY, ne_w_COMPONENT_INTERFACE_w_IDS, Ne.symm ne_w_FILE_w_OPERATION, Ne.symm ne_w_FILE_w_FACTORY, Ne.symm ne_w_FILE_w_IDS, Ne.symm ne_w_OPERATION_w_FACTORY, Ne.symm ne_w_OPERATION_w_IDS, Ne.symm ne_w_FACTORY_w_IDS]
set_option maxRecDepth 65536 in
set_option maxHeartbeats 40000000 in
theorem comes_1 {Post : Tables → Env → Array Value → State → Outcome → State → Prop} (hpost : ∀ tb e args s v u, (limb_1_1.after args s (.returned v) u = true ∧ limb_1_2.after args s (.returned v) u = true ∧ True) → FrameEnd s (.returned v) u (Jvm.fieldLocs frame_1_writes args s ++ Jvm.arrayLocs frame_1_arrays args s ++ Jvm.staticLocs frame_1_statics s) 0 0 → Post tb e args s (.returned v) u) :
    ArmFor flags0 classFile x code maxLocals ret World_1 tables_1 room_1 Calls_1 rest_1 Pre_1 Post := by
  intro l hfl _ _ p e ha hc hk s m args below hf hA hF happ hP
  obtain ⟨hcalls, hrest, hpre⟩ := hP
  obtain ⟨-, -, -, hnamed, -, -, -, hat⟩ := (Spec.applies_iff hf).mp happ
  obtain ⟨hg, hn⟩ := and_e (Cond.before_iff.mp (show (Jvm.Cond.and given_1 narrow_1).before args s = true from hpre))
  obtain ⟨hh1a, hh1b⟩ := and_e hg
  obtain ⟨hh2a, hh2b⟩ := and_e hn
  obtain ⟨hh3a, hh3b⟩ := and_e hh2b
  obtain ⟨hh4a, hh4b⟩ := and_e hh3b
  obtain ⟨hh5a, hh5b⟩ := and_e hh4b
  obtain ⟨hh6a, hh6b⟩ := and_e hh5b
  obtain ⟨hh7a, hh7b⟩ := and_e hh6b
  obtain ⟨hh8a, hh8b⟩ := and_e hh7b
  obtain ⟨hh9a, hh9b⟩ := and_e hh8b
  obtain ⟨hh10a, hh10b⟩ := and_e hh9b
  obtain ⟨hh11a, hh11b⟩ := and_e hh10b
  obtain ⟨hh12a, hh12b⟩ := and_e hh11b
  obtain ⟨hh13a, hh13b⟩ := and_e hh12b
  obtain ⟨hh14a, hh14b⟩ := and_e hh13b
  obtain ⟨hh15a, hh15b⟩ := and_e hh14b
  obtain ⟨hh16a, hh16b⟩ := and_e hh15b
  obtain ⟨hh17a, hh17b⟩ := and_e hh16b
  obtain ⟨hh18a, hh18b⟩ := and_e hh17b
  obtain ⟨hh19a, hh19b⟩ := and_e hh18b
  obtain ⟨hh20a, hh20b⟩ := and_e hh19b
  obtain ⟨hh21a, hh21b⟩ := and_e hh20b
  obtain ⟨hh22a, hh22b⟩ := and_e hh21b
  obtain ⟨hh23a, hh23b⟩ := and_e hh22b
  obtain ⟨hh24a, hh24b⟩ := and_e hh23b
  obtain ⟨w0, rfl⟩ : ∃ w0 : Value, args = #[w0] := by
    have hs : args.size = 1 := by simpa [Cond.value, given_1] using hh1a
    obtain ⟨L⟩ := args
    match L, hs with
    | [w0], _ => exact ⟨w0, rfl⟩
  have hw := fun d (hd : d ∈ tables_1) => atoms_spec (ws := Jvm.Cond.code x code maxLocals ret :: tables_1) hat d (List.mem_cons_of_mem _ hd)
  have hfit : Fit s := fun {y c} hc i hi => by
    obtain ⟨ha, rfl⟩ := Array.getElem?_eq_some_iff.mp hc
    have q := List.all_eq_true.mp ((Array.all_eq_true_iff_forall_mem.mp hF) _ (Array.getElem_mem ha)) i (List.mem_range.mpr hi)
    simpa [Array.getElem?_eq_getElem hi] using q
  obtain ⟨i0, ei0⟩ := is_v hh1b
  obtain rfl : w0 = (.int i0) := Option.some.inj ei0
  obtain ⟨w_FILE, ev_FILE⟩ := exa_v hh2a
  have S_FILE : Sta s s.heap "com/example/idlect/idlect/core/Symbol$Container$Kind" "FILE" "Lcom/example/idlect/idlect/core/Symbol$Container$Kind;" (.ref w_FILE) := Sta.start ev_FILE (Or.inr ⟨(hw _ (List.mem_of_getElem? (i := 6) rfl)), (hw _ (List.mem_of_getElem? (i := 7) rfl))⟩)
  have E_w_FILE : Exa s s.heap w_FILE "com/example/idlect/idlect/core/Symbol$Container$Kind" := Exa.start ev_FILE hh2a
  obtain ⟨w_VALUE_TYPE, ev_VALUE_TYPE⟩ := exa_v hh3a
  have S_VALUE_TYPE : Sta s s.heap "com/example/idlect/idlect/core/Symbol$Container$Kind" "VALUE_TYPE" "Lcom/example/idlect/idlect/core/Symbol$Container$Kind;" (.ref w_VALUE_TYPE) := Sta.start ev_VALUE_TYPE (Or.inr ⟨(hw _ (List.mem_of_getElem? (i := 6) rfl)), (hw _ (List.mem_of_getElem? (i := 18) rfl))⟩)
  have E_w_VALUE_TYPE : Exa s s.heap w_VALUE_TYPE "com/example/idlect/idlect/core/Symbol$Container$Kind" := Exa.start ev_VALUE_TYPE hh3a
  obtain ⟨w_OPERATION, ev_OPERATION⟩ := exa_v hh6a
  have S_OPERATION : Sta s s.heap "com/example/idlect/idlect/core/Symbol$Container$Kind" "OPERATION" "Lcom/example/idlect/idlect/core/Symbol$Container$Kind;" (.ref w_OPERATION) := Sta.start ev_OPERATION (Or.inr ⟨(hw _ (List.mem_of_getElem? (i := 6) rfl)), (hw _ (List.mem_of_getElem? (i := 20) rfl))⟩)
  have E_w_OPERATION : Exa s s.heap w_OPERATION "com/example/idlect/idlect/core/Symbol$Container$Kind" := Exa.start ev_OPERATION hh6a
  obtain ⟨w_FACTORY, ev_FACTORY⟩ := exa_v hh8a
  have S_FACTORY : Sta s s.heap "com/example/idlect/idlect/core/Symbol$Container$Kind" "FACTORY" "Lcom/example/idlect/idlect/core/Symbol$Container$Kind;" (.ref w_FACTORY) := Sta.start ev_FACTORY (Or.inr ⟨(hw _ (List.mem_of_getElem? (i := 6) rfl)), (hw _ (List.mem_of_getElem? (i := 22) rfl))⟩)
  have E_w_FACTORY : Exa s s.heap w_FACTORY "com/example/idlect/idlect/core/Symbol$Container$Kind" := Exa.start ev_FACTORY hh8a
  obtain ⟨w_IDS, ev_IDS⟩ := exa_v hh10a
  have S_IDS : Sta s s.heap "com/example/idlect/idlect/core/Symbol$Container$Kind" "IDS" "Lcom/example/idlect/idlect/core/Symbol$Container$Kind;" (.ref w_IDS) := Sta.start ev_IDS (Or.inr ⟨(hw _ (List.mem_of_getElem? (i := 6) rfl)), (hw _ (List.mem_of_getElem? (i := 24) rfl))⟩)
  have E_w_IDS : Exa s s.heap w_IDS "com/example/idlect/idlect/core/Symbol$Container$Kind" := Exa.start ev_IDS hh10a
  obtain ⟨w_INTERFACE, ev_INTERFACE⟩ := exa_v hh12a
  have S_INTERFACE : Sta s s.heap "com/example/idlect/idlect/core/Symbol$Container$Kind" "INTERFACE" "Lcom/example/idlect/idlect/core/Symbol$Container$Kind;" (.ref w_INTERFACE) := Sta.start ev_INTERFACE (Or.inr ⟨(hw _ (List.mem_of_getElem? (i := 6) rfl)), (hw _ (List.mem_of_getElem? (i := 26) rfl))⟩)
  have E_w_INTERFACE : Exa s s.heap w_INTERFACE "com/example/idlect/idlect/core/Symbol$Container$Kind" := Exa.start ev_INTERFACE hh12a
  obtain ⟨w_STRUCT, ev_STRUCT⟩ := exa_v hh14a
  have S_STRUCT : Sta s s.heap "com/example/idlect/idlect/core/Symbol$Container$Kind" "STRUCT" "Lcom/example/idlect/idlect/core/Symbol$Container$Kind;" (.ref w_STRUCT) := Sta.start ev_STRUCT (Or.inr ⟨(hw _ (List.mem_of_getElem? (i := 6) rfl)), (hw _ (List.mem_of_getElem? (i := 30) rfl))⟩)
  have E_w_STRUCT : Exa s s.heap w_STRUCT "com/example/idlect/idlect/core/Symbol$Container$Kind" := Exa.start ev_STRUCT hh14a
  obtain ⟨w_MODULE, ev_MODULE⟩ := exa_v hh16a
  have S_MODULE : Sta s s.heap "com/example/idlect/idlect/core/Symbol$Container$Kind" "MODULE" "Lcom/example/idlect/idlect/core/Symbol$Container$Kind;" (.ref w_MODULE) := Sta.start ev_MODULE (Or.inr ⟨(hw _ (List.mem_of_getElem? (i := 6) rfl)), (hw _ (List.mem_of_getElem? (i := 33) rfl))⟩)
  have E_w_MODULE : Exa s s.heap w_MODULE "com/example/idlect/idlect/core/Symbol$Container$Kind" := Exa.start ev_MODULE hh16a
  obtain ⟨w_COMPONENT_INTERFACE, ev_COMPONENT_INTERFACE⟩ := exa_v hh18a
  have S_COMPONENT_INTERFACE : Sta s s.heap "com/example/idlect/idlect/core/Symbol$Container$Kind" "COMPONENT_INTERFACE" "Lcom/example/idlect/idlect/core/Symbol$Container$Kind;" (.ref w_COMPONENT_INTERFACE) := Sta.start ev_COMPONENT_INTERFACE (Or.inr ⟨(hw _ (List.mem_of_getElem? (i := 6) rfl)), (hw _ (List.mem_of_getElem? (i := 35) rfl))⟩)
  have E_w_COMPONENT_INTERFACE : Exa s s.heap w_COMPONENT_INTERFACE "com/example/idlect/idlect/core/Symbol$Container$Kind" := Exa.start ev_COMPONENT_INTERFACE hh18a
  obtain ⟨w_COMPONENT, ev_COMPONENT⟩ := exa_v hh20a
  have S_COMPONENT : Sta s s.heap "com/example/idlect/idlect/core/Symbol$Container$Kind" "COMPONENT" "Lcom/example/idlect/idlect/core/Symbol$Container$Kind;" (.ref w_COMPONENT) := Sta.start ev_COMPONENT (Or.inr ⟨(hw _ (List.mem_of_getElem? (i := 6) rfl)), (hw _ (List.mem_of_getElem? (i := 37) rfl))⟩)
  have E_w_COMPONENT : Exa s s.heap w_COMPONENT "com/example/idlect/idlect/core/Symbol$Container$Kind" := Exa.start ev_COMPONENT hh20a
  obtain ⟨w_EXCEPTION, ev_EXCEPTION⟩ := exa_v hh22a
  have S_EXCEPTION : Sta s s.heap "com/example/idlect/idlect/core/Symbol$Container$Kind" "EXCEPTION" "Lcom/example/idlect/idlect/core/Symbol$Container$Kind;" (.ref w_EXCEPTION) := Sta.start ev_EXCEPTION (Or.inr ⟨(hw _ (List.mem_of_getElem? (i := 6) rfl)), (hw _ (List.mem_of_getElem? (i := 39) rfl))⟩)
  have E_w_EXCEPTION : Exa s s.heap w_EXCEPTION "com/example/idlect/idlect/core/Symbol$Container$Kind" := Exa.start ev_EXCEPTION hh22a
  obtain ⟨w_UNION, ev_UNION⟩ := exa_v hh24a
  have S_UNION : Sta s s.heap "com/example/idlect/idlect/core/Symbol$Container$Kind" "UNION" "Lcom/example/idlect/idlect/core/Symbol$Container$Kind;" (.ref w_UNION) := Sta.start ev_UNION (Or.inr ⟨(hw _ (List.mem_of_getElem? (i := 6) rfl)), (hw _ (List.mem_of_getElem? (i := 41) rfl))⟩)
  have E_w_UNION : Exa s s.heap w_UNION "com/example/idlect/idlect/core/Symbol$Container$Kind" := Exa.start ev_UNION hh24a
  have F_ordinal_w_VALUE_TYPE : Fld s s.heap w_VALUE_TYPE "java/lang/Enum" "ordinal" "I" (.int (3 : Int32)) := own_fld ev_VALUE_TYPE hh4a
  have F_ordinal_w_FILE : Fld s s.heap w_FILE "java/lang/Enum" "ordinal" "I" (.int (0 : Int32)) := own_fld ev_FILE hh5a
  have F_ordinal_w_OPERATION : Fld s s.heap w_OPERATION "java/lang/Enum" "ordinal" "I" (.int (7 : Int32)) := own_fld ev_OPERATION hh7a
  have F_ordinal_w_FACTORY : Fld s s.heap w_FACTORY "java/lang/Enum" "ordinal" "I" (.int (8 : Int32)) := own_fld ev_FACTORY hh9a
  have F_ordinal_w_IDS : Fld s s.heap w_IDS "java/lang/Enum" "ordinal" "I" (.int (11 : Int32)) := own_fld ev_IDS hh11a
  have F_ordinal_w_INTERFACE : Fld s s.heap w_INTERFACE "java/lang/Enum" "ordinal" "I" (.int (2 : Int32)) := own_fld ev_INTERFACE hh13a
  have F_ordinal_w_STRUCT : Fld s s.heap w_STRUCT "java/lang/Enum" "ordinal" "I" (.int (4 : Int32)) := own_fld ev_STRUCT hh15a
  have F_ordinal_w_MODULE : Fld s s.heap w_MODULE "java/lang/Enum" "ordinal" "I" (.int (1 : Int32)) := own_fld ev_MODULE hh17a
  have F_ordinal_w_COMPONENT_INTERFACE : Fld s s.heap w_COMPONENT_INTERFACE "java/lang/Enum" "ordinal" "I" (.int (10 : Int32)) := own_fld ev_COMPONENT_INTERFACE hh19a
  have F_ordinal_w_COMPONENT : Fld s s.heap w_COMPONENT "java/lang/Enum" "ordinal" "I" (.int (9 : Int32)) := own_fld ev_COMPONENT hh21a
  have F_ordinal_w_EXCEPTION : Fld s s.heap w_EXCEPTION "java/lang/Enum" "ordinal" "I" (.int (6 : Int32)) := own_fld ev_EXCEPTION hh23a
  have F_ordinal_w_UNION : Fld s s.heap w_UNION "java/lang/Enum" "ordinal" "I" (.int (5 : Int32)) := own_fld ev_UNION hh24b
  obtain ⟨n, o, h1, h2, h3, _, L, rfl, ⟨rfl, N⟩, hq⟩ := rm0 l s _ hw tables_1 w_FILE w_MODULE w_INTERFACE w_VALUE_TYPE w_STRUCT w_UNION w_EXCEPTION w_OPERATION w_FACTORY w_COMPONENT w_COMPONENT_INTERFACE w_IDS i0 s.heap s.heap.size (Old.start s) (Fld.ne F_ordinal_w_FILE F_ordinal_w_OPERATION (by decide)) (Fld.ne F_ordinal_w_FILE F_ordinal_w_FACTORY (by decide)) (Fld.ne F_ordinal_w_FILE F_ordinal_w_IDS (by decide)) (Fld.ne F_ordinal_w_MODULE F_ordinal_w_FILE (by decide)) (Fld.ne F_ordinal_w_MODULE F_ordinal_w_OPERATION (by decide)) (Fld.ne F_ordinal_w_MODULE F_ordinal_w_FACTORY (by decide)) (Fld.ne F_ordinal_w_MODULE F_ordinal_w_IDS (by decide)) (Fld.ne F_ordinal_w_INTERFACE F_ordinal_w_FILE (by decide)) (Fld.ne F_ordinal_w_INTERFACE F_ordinal_w_OPERATION (by decide)) (Fld.ne F_ordinal_w_INTERFACE F_ordinal_w_FACTORY (by decide)) (Fld.ne F_ordinal_w_INTERFACE F_ordinal_w_IDS (by decide)) (Fld.ne F_ordinal_w_VALUE_TYPE F_ordinal_w_FILE (by decide)) (Fld.ne F_ordinal_w_VALUE_TYPE F_ordinal_w_OPERATION (by decide)) (Fld.ne F_ordinal_w_VALUE_TYPE F_ordinal_w_FACTORY (by decide)) (Fld.ne F_ordinal_w_VALUE_TYPE F_ordinal_w_IDS (by decide)) (Fld.ne F_ordinal_w_STRUCT F_ordinal_w_FILE (by decide)) (Fld.ne F_ordinal_w_STRUCT F_ordinal_w_OPERATION (by decide)) (Fld.ne F_ordinal_w_STRUCT F_ordinal_w_FACTORY (by decide)) (Fld.ne F_ordinal_w_STRUCT F_ordinal_w_IDS (by decide)) (Fld.ne F_ordinal_w_UNION F_ordinal_w_FILE (by decide)) (Fld.ne F_ordinal_w_UNION F_ordinal_w_OPERATION (by decide)) (Fld.ne F_ordinal_w_UNION F_ordinal_w_FACTORY (by decide)) (Fld.ne F_ordinal_w_UNION F_ordinal_w_IDS (by decide)) (Fld.ne F_ordinal_w_EXCEPTION F_ordinal_w_FILE (by decide)) (Fld.ne F_ordinal_w_EXCEPTION F_ordinal_w_OPERATION (by decide)) (Fld.ne F_ordinal_w_EXCEPTION F_ordinal_w_FACTORY (by decide)) (Fld.ne F_ordinal_w_EXCEPTION F_ordinal_w_IDS (by decide)) (Fld.ne F_ordinal_w_OPERATION F_ordinal_w_FACTORY (by decide)) (Fld.ne F_ordinal_w_OPERATION F_ordinal_w_IDS (by decide)) (Fld.ne F_ordinal_w_FACTORY F_ordinal_w_IDS (by decide)) (Fld.ne F_ordinal_w_COMPONENT F_ordinal_w_FILE (by decide)) (Fld.ne F_ordinal_w_COMPONENT F_ordinal_w_OPERATION (by decide)) (Fld.ne F_ordinal_w_COMPONENT F_ordinal_w_FACTORY (by decide)) (Fld.ne F_ordinal_w_COMPONENT F_ordinal_w_IDS (by decide)) (Fld.ne F_ordinal_w_COMPONENT_INTERFACE F_ordinal_w_FILE (by decide)) (Fld.ne F_ordinal_w_COMPONENT_INTERFACE F_ordinal_w_OPERATION (by decide)) (Fld.ne F_ordinal_w_COMPONENT_INTERFACE F_ordinal_w_FACTORY (by decide)) (Fld.ne F_ordinal_w_COMPONENT_INTERFACE F_ordinal_w_IDS (by decide)) S_FILE S_MODULE S_INTERFACE S_VALUE_TYPE S_STRUCT S_UNION S_EXCEPTION S_OPERATION S_FACTORY S_COMPONENT S_COMPONENT_INTERFACE S_IDS E_w_FILE E_w_MODULE E_w_INTERFACE E_w_VALUE_TYPE E_w_STRUCT E_w_UNION E_w_EXCEPTION E_w_OPERATION E_w_FACTORY E_w_COMPONENT E_w_COMPONENT_INTERFACE E_w_IDS p e ha hc hk s m _ below hf ((Spec.applies_iff_loose hf).mp happ).1 ⟨rfl, State.Warmed39.refl s, rfl⟩ trivial
  refine ⟨n, _, h1, h2, h3, hpost _ _ _ _ _ _ ⟨Cond.after_iff.mpr rfl, Cond.after_iff.mpr (eq_i res_at (Term.int_eval (1)) rfl), trivial⟩ ⟨hq.1, hq.2.1, (hq.2.2.sift fun y hy => Or.inr (N y hy)).mono (by decide) (by decide)⟩⟩
theorem main_1_1 : Claimed_1_1 := comes_1 fun _ _ _ _ _ _ h hF => ⟨h.1, hF⟩
theorem main_1_2 : Claimed_1_2 := comes_1 fun _ _ _ _ _ _ h hF => ⟨h.2.1, hF⟩
end Jvm.Pilot.@@N@@
namespace Jvm.Pilot.@@N@@
open Jvm Jvm.ClassFile Sem Op Lib Jvm.Free Jvm.Stand Jvm.Pilot.@@N@@.Jvm.D
/-! MADE BY PROGRAM (witnessworld.py) out of the Statement's table words and the real class files: 12 classes; the members and pool entries that the words name. The judged class is class 1, her method 3. -/
namespace start1
open Jvm.ClassFile
def u (s : String) : CpInfo := .utf8 (stringToUtf16 s)
/-- a pool by its gaps: so many unusable entries, then the entry; so many at the end -/
def gap : Nat → List CpInfo → List CpInfo
  | 0, r => r
  | n + 1, r => .unusable :: gap n r
def poolList (es : List (Nat × CpInfo)) (last : Nat) : List CpInfo := es.foldr (fun e r => gap e.1 (e.2 :: r)) (gap last [])
def pool (es : List (Nat × CpInfo)) (last : Nat) : Array CpInfo := ⟨poolList es last⟩
def fileOf (pool : Array CpInfo) (this : Nat) (attrs : Array Attribute := #[]) (ms : Array MethodInfo := #[]) (fl : Nat := 33) (sup : Nat := 0) (ifs : Array Nat := #[]) (fds : Array FieldInfo := #[]) : ClassFile where
  minorVersion := 0
  majorVersion := 65
  constantPool := pool
  accessFlags := fl
  thisClass := this
  superClass := sup
  interfaces := ifs
  fields := fds
  methods := ms
  attributes := attrs
def plain (name : String) (sup : Option ClassId) : Class where
  name := name
  kind := .ordinary
  loader := none
  accessFlags := 33
  super := sup
  interfaces := #[]
  cf := none
  fields := #[]
  methods := #[]
  instanceTypes := #[]
  staticTypes := #[]
  resolved := #[]
  callSites := []
  init := .initialized
  statics := none
  mirror := none

def pool0 : Array CpInfo := pool [(5, u "<init>"), (0, u "()V"), (1, .class_ 10), (1, u "java/lang/Object")] 113

def k0m0 : Method := { name := "<init>", desc := "()V", sig := { parameters := [], returnType := none }, accessFlags := 1, code := none }
/-- java/lang/Object -/
def k0 : Class := { plain "java/lang/Object" none with
  accessFlags := 33
  interfaces := #[]
  cf := some (fileOf pool0 8 #[] #[{ accessFlags := 1, nameIndex := 5, descriptorIndex := 6, attributes := #[] }] 33 0 #[] #[])
  fields := #[]
  methods := #[k0m0]
  instanceTypes := #[]
  staticTypes := #[]
  resolved := Array.replicate 124 none
  statics := none }

def pool1 : Array CpInfo := pool [(2, .class_ 4), (1, u "java/lang/Object"), (0, u "<init>"), (0, u "()V"), (0, .fieldref 8 9), (0, .class_ 10), (0, .nameAndType 11 12), (0, u "com/example/idlect/idlect/core/Symbol$Container$Kind"), (0, u "FILE"), (0, u "Lcom/example/idlect/idlect/core/Symbol$Container$Kind;"), (0, .fieldref 8 14), (0, .nameAndType 15 12), (0, u "MODULE"), (0, .fieldref 8 17), (0, .nameAndType 18 12), (0, u "INTERFACE"), (0, .fieldref 8 20), (0, .nameAndType 21 12), (0, u "VALUE_TYPE"), (0, .fieldref 8 23), (0, .nameAndType 24 12), (0, u "STRUCT"), (0, .fieldref 8 26), (0, .nameAndType 27 12), (0, u "UNION"), (0, .fieldref 8 29), (0, .nameAndType 30 12), (0, u "EXCEPTION"), (0, .fieldref 8 32), (0, .nameAndType 33 12), (0, u "OPERATION"), (0, .fieldref 8 35), (0, .nameAndType 36 12), (0, u "FACTORY"), (0, .fieldref 8 38), (0, .nameAndType 39 12), (0, u "COMPONENT"), (0, .fieldref 8 41), (0, .nameAndType 42 12), (0, u "COMPONENT_INTERFACE"), (0, .fieldref 8 44), (0, .nameAndType 45 12), (0, u "IDS"), (0, .integer 2147483647), (0, .methodref 48 49), (0, .class_ 50), (0, .nameAndType 51 52), (0, u "com/example/idlect/idlect/core/KindNameReservedPinLaw"), (0, u "pick"), (0, u "(I)Lcom/example/idlect/idlect/core/Symbol$Container$Kind;"), (0, .methodref 8 54), (0, .nameAndType 55 56), (0, u "nameReserved"), (0, u "()Z"), (0, .methodref 48 58), (0, .nameAndType 59 60), (0, u "expected"), (0, u "(I)Z"), (3, u "law")] 9

def k1m0 : Method := { name := "<init>", desc := "()V", sig := { parameters := [], returnType := none }, accessFlags := 1, code := none }
def k1c1 : Code := { maxStack := 2, maxLocals := 1, code := method_2_code, exceptionTable := #[], attributes := #[] }
def k1m1 : Method := { name := "pick", desc := "(I)Lcom/example/idlect/idlect/core/Symbol$Container$Kind;", sig := { parameters := [.int], returnType := some (.object "com/example/idlect/idlect/core/Symbol$Container$Kind") }, accessFlags := 10, code := some k1c1 }
def k1c2 : Code := { maxStack := 2, maxLocals := 1, code := method_3_code, exceptionTable := #[], attributes := #[] }
def k1m2 : Method := { name := "expected", desc := "(I)Z", sig := { parameters := [.int], returnType := some .boolean }, accessFlags := 10, code := some k1c2 }
def k1c3 : Code := { maxStack := 2, maxLocals := 3, code := code, exceptionTable := #[], attributes := #[] }
def k1m3 : Method := { name := "law", desc := "(I)Z", sig := { parameters := [.int], returnType := some .boolean }, accessFlags := 9, code := some k1c3 }
/-- com/example/idlect/idlect/core/KindNameReservedPinLaw -/
def k1 : Class := { plain "com/example/idlect/idlect/core/KindNameReservedPinLaw" (some 0) with
  accessFlags := 49
  interfaces := #[]
  cf := some (fileOf pool1 48 #[] #[{ accessFlags := 1, nameIndex := 5, descriptorIndex := 6, attributes := #[] }, { accessFlags := 10, nameIndex := 51, descriptorIndex := 52, attributes := #[] }, { accessFlags := 10, nameIndex := 59, descriptorIndex := 60, attributes := #[] }, { accessFlags := 9, nameIndex := 64, descriptorIndex := 60, attributes := #[] }] 49 2 #[] #[])
  fields := #[]
  methods := #[k1m0, k1m1, k1m2, k1m3]
  instanceTypes := #[]
  staticTypes := #[]
  resolved := Array.replicate 74 none
  statics := none }

def pool2 : Array CpInfo := pool [(1, .class_ 2), (0, u "java/lang/constant/Constable"), (0, .class_ 4), (0, u "java/lang/Object")] 6

/-- java/lang/constant/Constable -/
def k2 : Class := { plain "java/lang/constant/Constable" (some 0) with
  accessFlags := 1537
  interfaces := #[]
  cf := some (fileOf pool2 1 #[] #[] 1537 3 #[] #[])
  fields := #[]
  methods := #[]
  instanceTypes := #[]
  staticTypes := #[]
  resolved := Array.replicate 11 none
  statics := none }

def pool3 : Array CpInfo := pool [(1, .class_ 2), (0, u "java/lang/Comparable"), (0, .class_ 4), (0, u "java/lang/Object")] 7

/-- java/lang/Comparable -/
def k3 : Class := { plain "java/lang/Comparable" (some 0) with
  accessFlags := 1537
  interfaces := #[]
  cf := some (fileOf pool3 1 #[] #[] 1537 3 #[] #[])
  fields := #[]
  methods := #[]
  instanceTypes := #[]
  staticTypes := #[]
  resolved := Array.replicate 12 none
  statics := none }

def pool4 : Array CpInfo := pool [(1, .class_ 2), (0, u "java/io/Serializable"), (0, .class_ 4), (0, u "java/lang/Object")] 2

/-- java/io/Serializable -/
def k4 : Class := { plain "java/io/Serializable" (some 0) with
  accessFlags := 1537
  interfaces := #[]
  cf := some (fileOf pool4 1 #[] #[] 1537 3 #[] #[])
  fields := #[]
  methods := #[]
  instanceTypes := #[]
  staticTypes := #[]
  resolved := Array.replicate 7 none
  statics := none }

def pool5 : Array CpInfo := pool [(2, .class_ 4), (1, u "java/lang/Enum"), (0, u "name"), (0, u "Ljava/lang/String;"), (2, u "ordinal"), (0, u "I"), (1, .class_ 14), (1, u "java/lang/Object"), (4, u "hash"), (86, .class_ 108), (1, u "java/lang/Enum$EnumDesc"), (2, .class_ 112), (0, u "java/lang/constant/Constable"), (0, .class_ 114), (0, u "java/lang/Comparable"), (0, .class_ 116), (0, u "java/io/Serializable")] 87

/-- java/lang/Enum -/
def k5 : Class := { plain "java/lang/Enum" (some 0) with
  accessFlags := 1057
  interfaces := #[2, 3, 4]
  cf := some (fileOf pool5 2 #[.nestMembers #[106]] #[] 1057 12 #[111, 113, 115] #[{ accessFlags := 18, nameIndex := 5, descriptorIndex := 6, attributes := #[] }, { accessFlags := 18, nameIndex := 9, descriptorIndex := 10, attributes := #[] }, { accessFlags := 2, nameIndex := 19, descriptorIndex := 10, attributes := #[] }])
  fields := #[{ name := "name", type := (.object "java/lang/String"), accessFlags := 18, slot := 0, constantValue := 0 }, { name := "ordinal", type := .int, accessFlags := 18, slot := 1, constantValue := 0 }, { name := "hash", type := .int, accessFlags := 2, slot := 2, constantValue := 0 }]
  methods := #[]
  instanceTypes := #[(.object "java/lang/String"), .int, .int]
  staticTypes := #[]
  resolved := Array.replicate 204 none
  statics := none }

def pool6 : Array CpInfo := pool [(1, .class_ 2), (0, u "com/example/idlect/idlect/core/Symbol$Container$Kind"), (0, .fieldref 1 4), (0, .nameAndType 5 6), (0, u "FILE"), (0, u "Lcom/example/idlect/idlect/core/Symbol$Container$Kind;"), (2, u "MODULE"), (2, u "INTERFACE"), (2, u "VALUE_TYPE"), (2, u "STRUCT"), (2, u "UNION"), (2, u "EXCEPTION"), (0, .fieldref 1 26), (0, .nameAndType 27 6), (0, u "OPERATION"), (0, .fieldref 1 29), (0, .nameAndType 30 6), (0, u "FACTORY"), (2, u "COMPONENT"), (2, u "COMPONENT_INTERFACE"), (0, .fieldref 1 38), (0, .nameAndType 39 6), (0, u "IDS"), (2, u "$VALUES"), (0, u "[Lcom/example/idlect/idlect/core/Symbol$Container$Kind;"), (6, .class_ 52), (1, u "java/lang/Enum"), (76, u "()Z"), (0, u "nameReserved"), (7, .class_ 139), (0, u "com/example/idlect/idlect/core/Symbol")] 19

def k6c0 : Code := { maxStack := 2, maxLocals := 1, code := prog_128_method_7_code, exceptionTable := #[], attributes := #[] }
def k6m0 : Method := { name := "nameReserved", desc := "()Z", sig := { parameters := [], returnType := some .boolean }, accessFlags := 0, code := some k6c0 }
/-- com/example/idlect/idlect/core/Symbol$Container$Kind -/
def k6 : Class := { plain "com/example/idlect/idlect/core/Symbol$Container$Kind" (some 5) with
  accessFlags := 16433
  interfaces := #[]
  cf := some (fileOf pool6 1 #[.nestHost 138] #[{ accessFlags := 0, nameIndex := 130, descriptorIndex := 129, attributes := #[] }] 16433 50 #[] #[{ accessFlags := 16409, nameIndex := 5, descriptorIndex := 6, attributes := #[] }, { accessFlags := 16409, nameIndex := 9, descriptorIndex := 6, attributes := #[] }, { accessFlags := 16409, nameIndex := 12, descriptorIndex := 6, attributes := #[] }, { accessFlags := 16409, nameIndex := 15, descriptorIndex := 6, attributes := #[] }, { accessFlags := 16409, nameIndex := 18, descriptorIndex := 6, attributes := #[] }, { accessFlags := 16409, nameIndex := 21, descriptorIndex := 6, attributes := #[] }, { accessFlags := 16409, nameIndex := 24, descriptorIndex := 6, attributes := #[] }, { accessFlags := 16409, nameIndex := 27, descriptorIndex := 6, attributes := #[] }, { accessFlags := 16409, nameIndex := 30, descriptorIndex := 6, attributes := #[] }, { accessFlags := 16409, nameIndex := 33, descriptorIndex := 6, attributes := #[] }, { accessFlags := 16409, nameIndex := 36, descriptorIndex := 6, attributes := #[] }, { accessFlags := 16409, nameIndex := 39, descriptorIndex := 6, attributes := #[] }, { accessFlags := 4122, nameIndex := 42, descriptorIndex := 43, attributes := #[] }])
  fields := #[{ name := "FILE", type := (.object "com/example/idlect/idlect/core/Symbol$Container$Kind"), accessFlags := 16409, slot := 0, constantValue := 0 }, { name := "MODULE", type := (.object "com/example/idlect/idlect/core/Symbol$Container$Kind"), accessFlags := 16409, slot := 1, constantValue := 0 }, { name := "INTERFACE", type := (.object "com/example/idlect/idlect/core/Symbol$Container$Kind"), accessFlags := 16409, slot := 2, constantValue := 0 }, { name := "VALUE_TYPE", type := (.object "com/example/idlect/idlect/core/Symbol$Container$Kind"), accessFlags := 16409, slot := 3, constantValue := 0 }, { name := "STRUCT", type := (.object "com/example/idlect/idlect/core/Symbol$Container$Kind"), accessFlags := 16409, slot := 4, constantValue := 0 }, { name := "UNION", type := (.object "com/example/idlect/idlect/core/Symbol$Container$Kind"), accessFlags := 16409, slot := 5, constantValue := 0 }, { name := "EXCEPTION", type := (.object "com/example/idlect/idlect/core/Symbol$Container$Kind"), accessFlags := 16409, slot := 6, constantValue := 0 }, { name := "OPERATION", type := (.object "com/example/idlect/idlect/core/Symbol$Container$Kind"), accessFlags := 16409, slot := 7, constantValue := 0 }, { name := "FACTORY", type := (.object "com/example/idlect/idlect/core/Symbol$Container$Kind"), accessFlags := 16409, slot := 8, constantValue := 0 }, { name := "COMPONENT", type := (.object "com/example/idlect/idlect/core/Symbol$Container$Kind"), accessFlags := 16409, slot := 9, constantValue := 0 }, { name := "COMPONENT_INTERFACE", type := (.object "com/example/idlect/idlect/core/Symbol$Container$Kind"), accessFlags := 16409, slot := 10, constantValue := 0 }, { name := "IDS", type := (.object "com/example/idlect/idlect/core/Symbol$Container$Kind"), accessFlags := 16409, slot := 11, constantValue := 0 }, { name := "$VALUES", type := (.array (.object "com/example/idlect/idlect/core/Symbol$Container$Kind")), accessFlags := 4122, slot := 12, constantValue := 0 }]
  methods := #[k6m0]
  instanceTypes := #[(.object "java/lang/String"), .int, .int]
  staticTypes := #[(.object "com/example/idlect/idlect/core/Symbol$Container$Kind"), (.object "com/example/idlect/idlect/core/Symbol$Container$Kind"), (.object "com/example/idlect/idlect/core/Symbol$Container$Kind"), (.object "com/example/idlect/idlect/core/Symbol$Container$Kind"), (.object "com/example/idlect/idlect/core/Symbol$Container$Kind"), (.object "com/example/idlect/idlect/core/Symbol$Container$Kind"), (.object "com/example/idlect/idlect/core/Symbol$Container$Kind"), (.object "com/example/idlect/idlect/core/Symbol$Container$Kind"), (.object "com/example/idlect/idlect/core/Symbol$Container$Kind"), (.object "com/example/idlect/idlect/core/Symbol$Container$Kind"), (.object "com/example/idlect/idlect/core/Symbol$Container$Kind"), (.object "com/example/idlect/idlect/core/Symbol$Container$Kind"), (.array (.object "com/example/idlect/idlect/core/Symbol$Container$Kind"))]
  resolved := Array.replicate 159 none
  statics := some 0 }

def pool7 : Array CpInfo := pool [(1, u "java/lang/Cloneable"), (0, .class_ 1), (0, u "java/lang/Object"), (0, .class_ 3)] 3

/-- java/lang/Cloneable -/
def k7 : Class := { plain "java/lang/Cloneable" (some 0) with
  accessFlags := 1537
  interfaces := #[]
  cf := some (fileOf pool7 2 #[] #[] 1537 4 #[] #[])
  fields := #[]
  methods := #[]
  instanceTypes := #[]
  staticTypes := #[]
  resolved := Array.replicate 8 none
  statics := none }

/-- the primitive byte -/
def k8 : Class := { plain "byte" none with kind := .primitive 'B', accessFlags := 0x411 }
/-- [B -/
def k9 : Class := { plain "[B" (some 0) with kind := .array 8 .byte, interfaces := #[7, 4], accessFlags := 1041 }

/-- the primitive int -/
def k10 : Class := { plain "int" none with kind := .primitive 'I', accessFlags := 0x411 }
/-- [I -/
def k11 : Class := { plain "[I" (some 0) with kind := .array 10 .int, interfaces := #[7, 4], accessFlags := 1041 }

def heap : Heap := #[{ cls := 6, slots := #[.ref 1, .ref 2, .ref 3, .ref 4, .ref 5, .ref 6, .ref 7, .ref 8, .ref 9, .ref 10, .ref 11, .ref 12, .null], vm := .statics 6 },
  { cls := 6, slots := #[.null, .int 0, .int 0], vm := .none },
  { cls := 6, slots := #[.null, .int 1, .int 0], vm := .none },
  { cls := 6, slots := #[.null, .int 2, .int 0], vm := .none },
  { cls := 6, slots := #[.null, .int 3, .int 0], vm := .none },
  { cls := 6, slots := #[.null, .int 4, .int 0], vm := .none },
  { cls := 6, slots := #[.null, .int 5, .int 0], vm := .none },
  { cls := 6, slots := #[.null, .int 6, .int 0], vm := .none },
  { cls := 6, slots := #[.null, .int 7, .int 0], vm := .none },
  { cls := 6, slots := #[.null, .int 8, .int 0], vm := .none },
  { cls := 6, slots := #[.null, .int 9, .int 0], vm := .none },
  { cls := 6, slots := #[.null, .int 10, .int 0], vm := .none },
  { cls := 6, slots := #[.null, .int 11, .int 0], vm := .none }]
def classes : Array Class := #[k0, k1, k2, k3, k4, k5, k6, k7, k8, k9, k10, k11]
def interned : List (Array UInt16 × Addr) := []
def slotsUsed : Nat := 49
def theMethod : MethodId := ⟨1, 3⟩
def args0 : Array Value := #[.int 5]
def aboutOver (below : List Frame) : State where
  vm := { classes := classes, interned := interned.toArray }
  heap := heap
  slotsUsed := slotsUsed
  threads := #[{ frames := .invoking theMethod args0 :: below }]
def below0 : List Frame := [.native { method := ⟨0, 0⟩, args := #[] }]
def about1 : State := aboutOver below0
def p0 : Program := .bare "" "" ""
def e0 : Env := launch0.env 0 0 0
theorem w_frames : about1.frames = Frame.invoking theMethod args0 :: below0 := rfl
set_option maxRecDepth 65536 in
theorem w_args : argsFit about1.vm theMethod args0 = true := by decide +kernel
set_option maxRecDepth 65536 in
theorem w_heap : heapFits about1 = true := by decide +kernel
set_option maxRecDepth 65536 in
theorem w_runnable : about1.curStatus? = some .runnable := by decide +kernel
set_option maxRecDepth 65536 in
theorem w_alone : about1.alone = true := by decide +kernel
set_option maxRecDepth 65536 in
theorem w_named : about1.methodNamed? x = some theMethod := by decide +kernel
set_option maxRecDepth 65536 in
theorem w_hears : about1.hears theMethod below0 = true := by decide +kernel
set_option maxRecDepth 65536 in
theorem w_ripe : about1.ripe theMethod args0 below0 = true := by decide +kernel
theorem w_running : about1.status = .running := rfl
set_option maxRecDepth 65536 in
theorem w_room : about1.hasRoom e0.platform room_1 = true :=
  launch0.hasRoom_least _ room_1 (by decide +kernel) (by decide +kernel) (by decide +kernel) (by decide +kernel) (by decide +kernel) (by decide +kernel)
theorem allAtoms_all (ts : List Jvm.Cond) (a : Array Jvm.Value) (st : Jvm.State) : (allAtoms ts).before a st = ts.all (fun c => c.before a st) := by
  induction ts with
  | nil => rfl
  | cons c t ih =>
    show (Jvm.Cond.and c (allAtoms t)).before a st = _
    rw [Jvm.Cond.before_and, ih, List.all_cons]
def words1 : List Jvm.Cond := Jvm.Cond.code x code maxLocals ret :: tables_1
/-- a 'code' word, met by the world's own term for the bytes: nothing is compared byte by byte -/
theorem code_word {y : MethodName} {bytes : ByteArray} {mx : Nat} {rt : Option FieldType} {a : Array Value} {s : State} {m : MethodId} {meth : Method} {c : Code} (h1 : s.methodNamed? y = some m) (h2 : s.vm.method? m = some meth) (h3 : meth.code = some c) (h4 : c.code = bytes)
    (h5 : (c.maxLocals == mx && c.exceptionTable.isEmpty && decide (c.maxStack ≤ mostOperands) && decide (meth.sig.returnType = rt) && !meth.locks && decide (parseMethodDescriptor y.desc = some meth.sig)) = true) : (Jvm.Cond.code y bytes mx rt).before a s = true := by
  simp only [Bool.and_eq_true, beq_iff_eq, Bool.not_eq_true', decide_eq_true_eq] at h5
  obtain ⟨⟨⟨⟨⟨g1, g2⟩, g3⟩, g4⟩, g5⟩, g6⟩ := h5
  simp [Cond.before, Cond.holds, Cond.value, h1, h2, h3, h4, g1, g2, g3, g4, g5, g6]
def isCode : Jvm.Cond → Bool
  | .code _ _ _ _ => true
  | _ => false
theorem all_split {L : List Jvm.Cond} {P : Jvm.Cond → Bool} (h1 : L.all (fun c => isCode c || P c) = true) (h2 : ∀ c ∈ L.filter isCode, P c = true) : L.all P = true := by
  refine List.all_eq_true.mpr fun c hc => ?_
  have h := List.all_eq_true.mp h1 c hc
  rcases Bool.eq_false_or_eq_true (isCode c) with hi | hi
  · exact h2 c (List.mem_filter.mpr ⟨hc, hi⟩)
  · simpa [hi] using h
set_option maxRecDepth 65536 in
theorem w_c0 : (Jvm.Cond.code x code maxLocals ret).before args0 about1 = true := code_word (m := ⟨1, 3⟩) (meth := k1m3) (c := k1c3) (by decide +kernel) rfl rfl rfl (by decide +kernel)
set_option maxRecDepth 65536 in
theorem w_c1 : (Jvm.Cond.code ({ cls := "com/example/idlect/idlect/core/KindNameReservedPinLaw", name := "pick", desc := "(I)Lcom/example/idlect/idlect/core/Symbol$Container$Kind;" } : Jvm.MethodName) method_2_code (1 : Nat) (Option.some (Jvm.ClassFile.FieldType.object "com/example/idlect/idlect/core/Symbol$Container$Kind"))).before args0 about1 = true := code_word (m := ⟨1, 1⟩) (meth := k1m1) (c := k1c1) (by decide +kernel) rfl rfl rfl (by decide +kernel)
set_option maxRecDepth 65536 in
theorem w_c2 : (Jvm.Cond.code ({ cls := "com/example/idlect/idlect/core/Symbol$Container$Kind", name := "nameReserved", desc := "()Z" } : Jvm.MethodName) prog_128_method_7_code (1 : Nat) (Option.some Jvm.ClassFile.FieldType.boolean)).before args0 about1 = true := code_word (m := ⟨6, 0⟩) (meth := k6m0) (c := k6c0) (by decide +kernel) rfl rfl rfl (by decide +kernel)
set_option maxRecDepth 65536 in
theorem w_c3 : (Jvm.Cond.code ({ cls := "com/example/idlect/idlect/core/KindNameReservedPinLaw", name := "expected", desc := "(I)Z" } : Jvm.MethodName) method_3_code (1 : Nat) (Option.some Jvm.ClassFile.FieldType.boolean)).before args0 about1 = true := code_word (m := ⟨1, 2⟩) (meth := k1m2) (c := k1c2) (by decide +kernel) rfl rfl rfl (by decide +kernel)
def codes1 : List Jvm.Cond := [Jvm.Cond.code x code maxLocals ret, Jvm.Cond.code ({ cls := "com/example/idlect/idlect/core/KindNameReservedPinLaw", name := "pick", desc := "(I)Lcom/example/idlect/idlect/core/Symbol$Container$Kind;" } : Jvm.MethodName) method_2_code (1 : Nat) (Option.some (Jvm.ClassFile.FieldType.object "com/example/idlect/idlect/core/Symbol$Container$Kind")), Jvm.Cond.code ({ cls := "com/example/idlect/idlect/core/Symbol$Container$Kind", name := "nameReserved", desc := "()Z" } : Jvm.MethodName) prog_128_method_7_code (1 : Nat) (Option.some Jvm.ClassFile.FieldType.boolean), Jvm.Cond.code ({ cls := "com/example/idlect/idlect/core/KindNameReservedPinLaw", name := "expected", desc := "(I)Z" } : Jvm.MethodName) method_3_code (1 : Nat) (Option.some Jvm.ClassFile.FieldType.boolean)]
set_option maxRecDepth 65536 in
theorem codes_eq : words1.filter isCode = codes1 := rfl
theorem w_codes : ∀ c ∈ words1.filter isCode, c.before args0 about1 = true := by
  rw [codes_eq]
  intro c hc
  simp only [codes1, List.mem_cons, List.not_mem_nil, or_false] at hc
  rcases hc with rfl | rfl | rfl | rfl
  · exact w_c0
  · exact w_c1
  · exact w_c2
  · exact w_c3
set_option maxRecDepth 65536 in
theorem w_t1 : (words1.take 24).all (fun c => isCode c || c.before args0 about1) = true := by decide +kernel
set_option maxRecDepth 65536 in
theorem w_t2 : (words1.drop 24).all (fun c => isCode c || c.before args0 about1) = true := by decide +kernel
theorem w_tables : (allAtoms (Jvm.Cond.code x code maxLocals ret :: tables_1)).before args0 about1 = true := by
  rw [allAtoms_all]
  show words1.all (fun c => c.before args0 about1) = true
  refine all_split ?_ w_codes
  rw [← List.take_append_drop 24 words1, List.all_append, w_t1, w_t2]
  rfl
set_option maxRecDepth 65536 in
theorem w_case : (Jvm.Cond.and given_1 narrow_1).before args0 about1 = true := by decide +kernel
theorem w_applies : (headSpec (Jvm.Cond.code x code maxLocals ret :: tables_1) room_1).applies x e0.platform about1 = true :=
  (Spec.applies_iff w_frames).mpr ⟨w_running, w_runnable, w_alone, w_named, w_hears, w_ripe, w_room, w_tables⟩
theorem atStart : AtStart classFile x code maxLocals ret World_1 tables_1 room_1 Calls_1 rest_1 Pre_1 launch0 p0 e0 about1 theMethod args0 below0 :=
  ⟨lists_1, trivial, launch0.admits_env _ _ _, launch0.least_env, fairChoices_fair.cas, fairChoices_fair.clock, w_frames, w_args, w_heap, w_applies, trivial, trivial, w_case⟩
end start1
theorem witness_1 : WitnessClaimed_1 := ⟨start1.p0, start1.e0, start1.about1, start1.theMethod, start1.args0, start1.below0, start1.atStart⟩
end Jvm.Pilot.@@N@@
