import JvmDerived
import JvmDerived.Pilot.@@N@@Statement
import JvmDerived.Pilot.@@N@@Code
set_option linter.unusedVariables false
set_option linter.unusedSimpArgs false
namespace Jvm.Pilot.@@N@@
open Jvm Jvm.ClassFile Sem Op Lib Jvm.Free Jvm.Stand Jvm.LawKit Jvm.RoadKit Bundle Jvm.Pilot.@@N@@.Jvm.D
/-- from the state st the run ends, of which Q says what it leaves -/
def own_Ends (tb : Tables) (e : Env) (below : List Frame) (s : State) (Q : Option Value → Heap → List Loc → Prop) (C S : Nat) (st : State) : Prop :=
  ∃ t o, Steps tb e below st t ∧ t.status = .running ∧ Ended t below o ∧ ∃ v L, o = .returned v ∧ Q v t.heap L ∧ FrameEnd s o t L C S
theorem own_step {tb : Tables} {e : Env} {below : List Frame} {s : State} {Q : Option Value → Heap → List Loc → Prop} {C S : Nat} {st st' : State}
    (h : ∀ t, Steps tb e below st' t → Steps tb e below st t) (k : own_Ends tb e below s Q C S st') : own_Ends tb e below s Q C S st := by
  obtain ⟨t, o, h1, h2⟩ := k
  exact ⟨t, o, h t h1, h2⟩
section OwnRet
variable {p : Program} {l : Launch} {e : Env} {R : Room} {s : State} {m : MethodId} {args : Array Value} {below : List Frame} {meth : Method} {c : Code} {T : State} {locs : List Loc} {cells slots : Nat} {Q : Option Value → Heap → List Loc → Prop} {C S : Nat} {pc : Nat} {Ls : Array Slot} {rest : List Value}
theorem own_retW (X : Stand p l e R s m args below meth c T locs cells slots) (hx : p.tables.exec = Jvm.exec) {w : Value} {t : FieldType} {i : Instr} (hret : meth.sig.returnType = some t) (hn : narrow t w = w)
    (hi : (i = .ireturn ∧ (t = .int ∨ t = .boolean ∨ t = .byte ∨ t = .char ∨ t = .short) ∧ ∃ z, w = .int z) ∨ (i = .lreturn ∧ t = .long ∧ ∃ z, w = .long z) ∨ (i = .dreturn ∧ t = .double ∧ ∃ z, w = .double z) ∨ (i = .freturn ∧ t = .float ∧ ∃ z, w = .float z) ∨ (i = .areturn ∧ t.isReference = true ∧ w.isRef = true))
    (hd : decode c.code pc = .ok (i, 1)) (hlocks : meth.locks = false) (hq : Q (some w) T.heap locs) (hc : cells ≤ C) (hs : slots ≤ S) :
    own_Ends p.tables e below s Q C S (T.setTop (mkF m pc Ls (w :: rest))) := by
  obtain ⟨fs, hr, hrun, hended, hW, hsame⟩ := X.leave (v := some w) (fun h => by rw [hret] at h; cases h) hlocks
  exact ⟨_, _, retOut X hx hret hn hi hd hr, hrun, hended, _, _, rfl, hq, ⟨_, rfl⟩, hW, hsame.mono hc hs⟩
theorem own_retI (X : Stand p l e R s m args below meth c T locs cells slots) (hx : p.tables.exec = Jvm.exec) {z : Int32} (hret : meth.sig.returnType = some .int)
    (hd : decode c.code pc = .ok (.ireturn, 1)) (hlocks : meth.locks = false) (hq : Q (some (.int z)) T.heap locs) (hc : cells ≤ C) (hs : slots ≤ S) :
    own_Ends p.tables e below s Q C S (T.setTop (mkF m pc Ls (.int z :: rest))) :=
  own_retW X hx hret rfl (Or.inl ⟨rfl, Or.inl rfl, z, rfl⟩) hd hlocks hq hc hs
theorem own_retJ (X : Stand p l e R s m args below meth c T locs cells slots) (hx : p.tables.exec = Jvm.exec) {z : Int64} (hret : meth.sig.returnType = some .long)
    (hd : decode c.code pc = .ok (.lreturn, 1)) (hlocks : meth.locks = false) (hq : Q (some (.long z)) T.heap locs) (hc : cells ≤ C) (hs : slots ≤ S) :
    own_Ends p.tables e below s Q C S (T.setTop (mkF m pc Ls (.long z :: rest))) :=
  own_retW X hx hret rfl (Or.inr (Or.inl ⟨rfl, rfl, z, rfl⟩)) hd hlocks hq hc hs
theorem own_retR (X : Stand p l e R s m args below meth c T locs cells slots) (hx : p.tables.exec = Jvm.exec) {w : Value} {t : FieldType} (hret : meth.sig.returnType = some t) (ht : t.isReference = true) (hw : w.isRef = true) (hn : narrow t w = w)
    (hd : decode c.code pc = .ok (.areturn, 1)) (hlocks : meth.locks = false) (hq : Q (some w) T.heap locs) (hc : cells ≤ C) (hs : slots ≤ S) :
    own_Ends p.tables e below s Q C S (T.setTop (mkF m pc Ls (w :: rest))) :=
  own_retW X hx hret hn (Or.inr (Or.inr (Or.inr (Or.inr ⟨rfl, ht, hw⟩)))) hd hlocks hq hc hs
theorem own_retN (X : Stand p l e R s m args below meth c T locs cells slots) (hx : p.tables.exec = Jvm.exec) {z : Int32} {t : FieldType} (hret : meth.sig.returnType = some t) (ht : t = .boolean ∨ t = .byte ∨ t = .char ∨ t = .short)
    (hd : decode c.code pc = .ok (.ireturn, 1)) (hlocks : meth.locks = false) (hq : Q (some (.int (nar t z))) T.heap locs) (hc : cells ≤ C) (hs : slots ≤ S) :
    own_Ends p.tables e below s Q C S (T.setTop (mkF m pc Ls (.int z :: rest))) := by
  obtain ⟨fs, hr, hrun, hended, hW, hsame⟩ := X.leave (v := some (.int (nar t z))) (fun h => by rw [hret] at h; cases h) hlocks
  exact ⟨_, _, retN X hx hret ht hd hr, hrun, hended, _, _, rfl, hq, ⟨_, rfl⟩, hW, hsame.mono hc hs⟩
theorem own_ret0 (X : Stand p l e R s m args below meth c T locs cells slots) (hx : p.tables.exec = Jvm.exec) (hret : meth.sig.returnType = none)
    (hd : decode c.code pc = .ok (.return_, 1)) (hlocks : meth.locks = false) (hq : Q none T.heap locs) (hc : cells ≤ C) (hs : slots ≤ S) :
    own_Ends p.tables e below s Q C S (T.setTop (mkF m pc Ls [])) := by
  obtain ⟨fs, hr, hrun, hended, hW, hsame⟩ := X.leave (v := none) (fun _ => rfl) hlocks
  exact ⟨_, _, X.returnOut hx hret hd hr, hrun, hended, _, _, rfl, hq, ⟨_, rfl⟩, hW, hsame.mono hc hs⟩
end OwnRet
theorem own_idx (b n : Int32) (hn : 0 < n.toInt) : ¬ ((b &&& 2147483647) % n) < 0 ∧ ((b &&& 2147483647) % n) < n := by
  have h1 := c_and b 2147483647 (by decide)
  have h2 := (c_iremV (b &&& 2147483647) n).1 h1.1 hn
  constructor
  · rw [Int32.lt_iff_toInt_lt]; show ¬ _ < (0 : Int); omega
  · rw [Int32.lt_iff_toInt_lt]; omega
theorem own_small (v : Int32) (k : Nat) (hk : k < 2147483648) (h1 : ¬ v < 0) (h2 : v < Int32.ofNat k) : ∃ n : Fin k, v = Int32.ofNat n.1 := by
  rw [Int32.lt_iff_toInt_lt] at h1 h2
  rw [Int32.toInt_ofNat_of_lt hk] at h2
  have a : 0 ≤ v.toInt := by simpa using h1
  refine ⟨⟨v.toInt.toNat, by omega⟩, ?_⟩
  apply Int32.toInt_inj.mp
  rw [Int32.toInt_ofNat_of_lt (by show v.toInt.toNat < _; omega)]
  show v.toInt = ((v.toInt.toNat : Nat) : Int)
  omega
theorem own_selPriv {Z s : State} {a0 args : Array Value} {y : MethodName} {n : Nat} (hZ : Z.Warmed39 s.vm) (wi : (Jvm.Cond.instantiable y.cls n).before a0 Z = true) (wp : (Jvm.Cond.privateMethod y).before a0 Z = true) (wm : (Jvm.Cond.instanceMethod y).before a0 Z = true)
    (hy : y.cls ≠ "java/lang/invoke/MethodHandle" ∧ y.cls ≠ "java/lang/invoke/VarHandle") : (Jvm.Cond.selects y.cls y y).before args s = true := by
  obtain ⟨c, k, h1, h2, -, h4, -⟩ := Cond.instantiable_spec (mvT (args := args) hZ wi)
  exact selects_self_of_private h1 h2 (Bool.or_eq_false_iff.mp h4).1 (Cond.privateMethod_at (mvP (args := args) hZ wp)) (mvT hZ wm) hy
def own_upd {α : Type} (f : Int32 → α) (j : Int32) (v : α) : Int32 → α := fun k => if k = j then v else f k
theorem own_upd_ne {α : Type} {f : Int32 → α} {j k : Int32} {v : α} (h : k ≠ j) : own_upd f j v k = f k := if_neg h
theorem own_upd_eq {α : Type} {f : Int32 → α} {j k : Int32} {v : α} (h : k = j) : own_upd f j v k = v := if_pos h
def own_ArI (Z : State) (h : Heap) (a : Addr) (n : Int32) (f : Int32 → Int32) : Prop := ∃ c : Cell, Arr Z h a c .int ∧ c.slots.size = n.toNatClampNeg ∧ ¬ n < 0 ∧ ∀ j : Int32, ¬ j < 0 → j < n → c.slots[j.toNatClampNeg]? = some (.int (f j))
def own_ArJ (Z : State) (h : Heap) (a : Addr) (n : Int32) (f : Int32 → Int64) : Prop := ∃ c : Cell, Arr Z h a c .long ∧ c.slots.size = n.toNatClampNeg ∧ ¬ n < 0 ∧ ∀ j : Int32, ¬ j < 0 → j < n → c.slots[j.toNatClampNeg]? = some (.long (f j))
theorem own_ArI.lt {Z : State} {h : Heap} {a : Addr} {n : Int32} {f : Int32 → Int32} (F : own_ArI Z h a n f) : a < h.size := F.choose_spec.1.lt
theorem own_ArI.ext {Z : State} {h h' : Heap} {a : Addr} {n : Int32} {f : Int32 → Int32} (F : own_ArI Z h a n f) (E : Ext h h') : own_ArI Z h' a n f := by
  obtain ⟨c, A, r⟩ := F; exact ⟨c, A.ext E, r⟩
theorem own_ArI.other {Z : State} {h h' : Heap} {a b : Addr} {sl : Nat} {v : Value} {n : Int32} {f : Int32 → Int32} (F : own_ArI Z h b n f) (W : Wr h h' a sl v) (q : b ≠ a) : own_ArI Z h' b n f := by
  obtain ⟨c, A, r⟩ := F; exact ⟨c, A.other W q, r⟩
theorem own_ArI.keep {Z : State} {h h' : Heap} {a : Addr} {ws : List Addr} {n : Int32} {f : Int32 → Int32} (F : own_ArI Z h a n f) (K : Keep h h' ws) (q : a ∉ ws) : own_ArI Z h' a n f := by
  obtain ⟨c, A, r⟩ := F; exact ⟨c, ⟨K.2.1 _ _ A.1 q, A.2⟩, r⟩
theorem own_ArI.new {Z : State} {h : Heap} {a : Addr} {k : ClassId} {n : Int32} (A : Arr Z h a (newA k .int n) .int) (q : ¬ n < 0) : own_ArI Z h a n (fun _ => 0) := by
  refine ⟨_, A, sz_new _ _ _, q, fun j h1 h2 => ?_⟩
  exact get_new (by
    rw [← sz_new k .int n]
    exact inb_of (sz_new k .int n) ⟨h1, h2⟩)
theorem own_ArI.set {Z : State} {h h' : Heap} {a : Addr} {n j : Int32} {f : Int32 → Int32} {v : Int32} {c : Cell} (F : own_ArI Z h a n f) (hj : ¬ j < 0) (A : Arr Z h a c .int) (W : Wr h h' a j.toNatClampNeg (.int v)) : own_ArI Z h' a n (own_upd f j v) := by
  obtain ⟨c', A', S, N, G⟩ := F
  cases A.1.symm.trans A'.1
  refine ⟨_, A.same W, by rw [sz_set]; exact S, N, fun k h1 h2 => ?_⟩
  by_cases e : k = j
  · rw [own_upd_eq e]
    exact get_hit (inb_of S ⟨hj, e ▸ h2⟩) e
  · rw [own_upd_ne e, get_miss hj h1 e]
    exact G k h1 h2
theorem own_ArJ.lt {Z : State} {h : Heap} {a : Addr} {n : Int32} {f : Int32 → Int64} (F : own_ArJ Z h a n f) : a < h.size := F.choose_spec.1.lt
theorem own_ArJ.ext {Z : State} {h h' : Heap} {a : Addr} {n : Int32} {f : Int32 → Int64} (F : own_ArJ Z h a n f) (E : Ext h h') : own_ArJ Z h' a n f := by
  obtain ⟨c, A, r⟩ := F; exact ⟨c, A.ext E, r⟩
theorem own_ArJ.other {Z : State} {h h' : Heap} {a b : Addr} {sl : Nat} {v : Value} {n : Int32} {f : Int32 → Int64} (F : own_ArJ Z h b n f) (W : Wr h h' a sl v) (q : b ≠ a) : own_ArJ Z h' b n f := by
  obtain ⟨c, A, r⟩ := F; exact ⟨c, A.other W q, r⟩
theorem own_ArJ.keep {Z : State} {h h' : Heap} {a : Addr} {ws : List Addr} {n : Int32} {f : Int32 → Int64} (F : own_ArJ Z h a n f) (K : Keep h h' ws) (q : a ∉ ws) : own_ArJ Z h' a n f := by
  obtain ⟨c, A, r⟩ := F; exact ⟨c, ⟨K.2.1 _ _ A.1 q, A.2⟩, r⟩
theorem own_ArJ.new {Z : State} {h : Heap} {a : Addr} {k : ClassId} {n : Int32} (A : Arr Z h a (newA k .long n) .long) (q : ¬ n < 0) : own_ArJ Z h a n (fun _ => 0) := by
  refine ⟨_, A, sz_new _ _ _, q, fun j h1 h2 => ?_⟩
  exact get_new (by
    rw [← sz_new k .long n]
    exact inb_of (sz_new k .long n) ⟨h1, h2⟩)
theorem own_ArJ.set {Z : State} {h h' : Heap} {a : Addr} {n j : Int32} {f : Int32 → Int64} {v : Int64} {c : Cell} (F : own_ArJ Z h a n f) (hj : ¬ j < 0) (A : Arr Z h a c .long) (W : Wr h h' a j.toNatClampNeg (.long v)) : own_ArJ Z h' a n (own_upd f j v) := by
  obtain ⟨c', A', S, N, G⟩ := F
  cases A.1.symm.trans A'.1
  refine ⟨_, A.same W, by rw [sz_set]; exact S, N, fun k h1 h2 => ?_⟩
  by_cases e : k = j
  · rw [own_upd_eq e]
    exact get_hit (inb_of S ⟨hj, e ▸ h2⟩) e
  · rw [own_upd_ne e, get_miss hj h1 e]
    exact G k h1 h2
def own_h (x y : Int64) (nT : Int32) : Int32 := (((((x * (-7046029254386353131 : Int64)) + (y * (-4417276706812531889 : Int64))) ^^^ ((((x * (-7046029254386353131 : Int64)) + (y * (-4417276706812531889 : Int64))).toUInt64 >>> ((29 : Int32) &&& 0x3f).toInt64.toUInt64).toInt64)).toInt32) &&& (nT - (1 : Int32)))
def own_nx (nT s : Int32) : Int32 := (s + (1 : Int32)) &&& (nT - (1 : Int32))
theorem own_rng (v n : Int32) (hn : (0 : Int32) < n) : ¬ (v &&& (n - (1 : Int32))) < 0 ∧ (v &&& (n - (1 : Int32))) < n := by
  rw [Int32.lt_iff_toInt_lt] at hn
  have e0 : (0 : Int32).toInt = 0 := rfl
  have e1 : (1 : Int32).toInt = 1 := rfl
  have a := c_isub n 1
  have l1 := n.toInt_lt; have l2 := (n - 1).toInt_lt; have l3 := (n - 1).le_toInt
  have h := c_and v (n - 1) (by omega)
  rw [Int32.lt_iff_toInt_lt, Int32.lt_iff_toInt_lt]
  omega

theorem d5_0 : decode prog_30_method_9_code 0 = .ok (.lload_n 1, 1) := by decide +kernel
theorem d5_1 : decode prog_30_method_9_code 1 = .ok (.ldc2_w 52, 3) := by decide +kernel
theorem d5_4 : decode prog_30_method_9_code 4 = .ok (.lmul, 1) := by decide +kernel
theorem d5_5 : decode prog_30_method_9_code 5 = .ok (.lload_n 3, 1) := by decide +kernel
theorem d5_6 : decode prog_30_method_9_code 6 = .ok (.ldc2_w 54, 3) := by decide +kernel
theorem d5_9 : decode prog_30_method_9_code 9 = .ok (.lmul, 1) := by decide +kernel
theorem d5_10 : decode prog_30_method_9_code 10 = .ok (.ladd, 1) := by decide +kernel
theorem d5_11 : decode prog_30_method_9_code 11 = .ok (.lstore 5, 2) := by decide +kernel
theorem d5_13 : decode prog_30_method_9_code 13 = .ok (.lload 5, 2) := by decide +kernel
theorem d5_15 : decode prog_30_method_9_code 15 = .ok (.lload 5, 2) := by decide +kernel
theorem d5_17 : decode prog_30_method_9_code 17 = .ok (.bipush 29, 2) := by decide +kernel
theorem d5_19 : decode prog_30_method_9_code 19 = .ok (.lushr, 1) := by decide +kernel
theorem d5_20 : decode prog_30_method_9_code 20 = .ok (.lxor, 1) := by decide +kernel
theorem d5_21 : decode prog_30_method_9_code 21 = .ok (.lstore 5, 2) := by decide +kernel
theorem d5_23 : decode prog_30_method_9_code 23 = .ok (.lload 5, 2) := by decide +kernel
theorem d5_25 : decode prog_30_method_9_code 25 = .ok (.l2i, 1) := by decide +kernel
theorem d5_26 : decode prog_30_method_9_code 26 = .ok (.aload_n 0, 1) := by decide +kernel
theorem d5_27 : decode prog_30_method_9_code 27 = .ok (.getfield 19, 3) := by decide +kernel
theorem d5_30 : decode prog_30_method_9_code 30 = .ok (.arraylength, 1) := by decide +kernel
theorem d5_31 : decode prog_30_method_9_code 31 = .ok (.iconst 1, 1) := by decide +kernel
theorem d5_32 : decode prog_30_method_9_code 32 = .ok (.isub, 1) := by decide +kernel
theorem d5_33 : decode prog_30_method_9_code 33 = .ok (.iand, 1) := by decide +kernel
theorem d5_34 : decode prog_30_method_9_code 34 = .ok (.ireturn, 1) := by decide +kernel
theorem pn_0 : plainName "com/example/swanhall/swanhall/core/CellTable" = true := by first | (simp [plainName, overriddenIn]; done) | decide +kernel
theorem ef_5 (m : MethodId) (o0_5 : Addr) (y1_5 : Int64) (y2_5 : Int64) : entryFrame m #[(.ref o0_5), (.long y1_5), (.long y2_5)] 7 = mkF m 0 #[.val (.ref o0_5), .val (.long y1_5), .second, .val (.long y2_5), .second, .unset, .unset] [] := by first | (simp [entryFrame, mkF, argsToLocals, Value.category]; done) | rfl
def Q5 (Z : State) (o0_5 : Addr) (y1_5 : Int64) (y2_5 : Int64) (w_numbers_o0_5 : Addr) (nT : Int32) (num : Int32 → Int32) (h0 : Heap) (n0 : Nat) (v : Option Value) (h : Heap) (L : List Loc) : Prop := v = some (.int (own_h y1_5 y2_5 nT)) ∧ Fr n0 L ∧ h = h0
set_option maxRecDepth 65536 in
set_option maxHeartbeats 40000000 in
theorem rm5 (l : Launch) (Z : State) (a0 : Array Value) (hw : ∀ d ∈ tables_1, d.before a0 Z = true) (ws : List Jvm.Cond) (o0_5 : Addr) (y1_5 : Int64) (y2_5 : Int64) (w_numbers_o0_5 : Addr) (nT : Int32) (num : Int32 → Int32) (h0 : Heap) (n0 : Nat) (O0 : Old Z n0 h0) (F_numbers_o0_5 : Fld Z h0 o0_5 "com/example/swanhall/swanhall/core/CellTable" "numbers" "[I" (.ref w_numbers_o0_5)) (V_w_numbers_o0_5 : own_ArI Z h0 w_numbers_o0_5 nT num) :
    MetFree l (⟨"com/example/swanhall/swanhall/core/CellTable", "home", "(JJ)I"⟩ : MethodName) (head1 (Jvm.Cond.code (⟨"com/example/swanhall/swanhall/core/CellTable", "home", "(JJ)I"⟩ : MethodName) prog_30_method_9_code 7 (some .int) :: ws) ({ frames := 0, cells := 0, slots := 0, locals := 0 } : Room)) (fun a U => a = #[(.ref o0_5), (.long y1_5), (.long y2_5)] ∧ Z.Warmed39 U.vm ∧ U.heap = h0) (fun _ _ _ _ _ => True) (fun _ U o U' => ∃ v L, o = .returned v ∧ Q5 Z o0_5 y1_5 y2_5 w_numbers_o0_5 nT num h0 n0 v U'.heap L ∧ FrameEnd U o U' L ({ frames := 0, cells := 0, slots := 0, locals := 0 } : Room).cells ({ frames := 0, cells := 0, slots := 0, locals := 0 } : Room).slots) := by
  refine MetFree.of_bodySF (plainFor_of_name pn_0) hisR ?_
  intro p e s m args below meth c s₁ Bd hml0 hP hK
  obtain ⟨rfl, hZ, hh⟩ := hP
  have hx := Bd.exec
  have hby := Bd.bytes
  have hnl := BodyLoose.notSynchronized Bd
  have hml : c.maxLocals = 7 := hml0
  have hown : s.vm.findClass "com/example/swanhall/swanhall/core/CellTable" = some m.cls := findClass_of_methodNamed Bd.named
  have hnm := (name_of_methodNamed Bd.named Bd.method).1
  have X0 : Stand p l e ({ frames := 0, cells := 0, slots := 0, locals := 0 } : Room) s m #[(.ref o0_5), (.long y1_5), (.long y2_5)] below meth c s₁ [] 0 0 := Stand.of_body Bd
  have e0 : s₁.heap = h0 := by rw [← hh, Bd.state]; rfl
  have N0 := Fr.nil n0
  show own_Ends p.tables e below s (Q5 Z o0_5 y1_5 y2_5 w_numbers_o0_5 nT num h0 n0) 0 0 (s₁.setTop (entryFrame m #[(.ref o0_5), (.long y1_5), (.long y2_5)] 7))
  rw [ef_5 m o0_5 y1_5 y2_5]
  show own_Ends p.tables e below s _ _ _ (s₁.setTop (mkF m 0 #[.val (.ref o0_5), .val (.long y1_5), .second, .val (.long y2_5), .second, .unset, .unset] []))
  refine own_step (fun t k => XS.lloadN X0.here hx rfl (hb hby d5_0) rfl k) ?_
  show own_Ends p.tables e below s _ _ _ (s₁.setTop (mkF m 1 #[.val (.ref o0_5), .val (.long y1_5), .second, .val (.long y2_5), .second, .unset, .unset] [(.long y1_5)]))
  refine own_step (fun t k => X0.ldc2Long hx hown (mvT hZ (hw _ (List.mem_of_getElem? (i := 31) rfl))) (g := (mkF m 1 #[.val (.ref o0_5), .val (.long y1_5), .second, .val (.long y2_5), .second, .unset, .unset] [(.long y1_5)])) rfl (hb hby d5_1) _ k) ?_
  refine own_step (fun t k => XS.lmul X0.here hx rfl (hb hby d5_4) rfl k) ?_
  refine own_step (fun t k => XS.lloadN X0.here hx rfl (hb hby d5_5) rfl k) ?_
  show own_Ends p.tables e below s _ _ _ (s₁.setTop (mkF m 6 #[.val (.ref o0_5), .val (.long y1_5), .second, .val (.long y2_5), .second, .unset, .unset] [(.long y2_5), (.long (y1_5 * (-7046029254386353131 : Int64)))]))
  refine own_step (fun t k => X0.ldc2Long hx hown (mvT hZ (hw _ (List.mem_of_getElem? (i := 32) rfl))) (g := (mkF m 6 #[.val (.ref o0_5), .val (.long y1_5), .second, .val (.long y2_5), .second, .unset, .unset] [(.long y2_5), (.long (y1_5 * (-7046029254386353131 : Int64)))])) rfl (hb hby d5_6) _ k) ?_
  refine own_step (fun t k => XS.lmul X0.here hx rfl (hb hby d5_9) rfl k) ?_
  refine own_step (fun t k => XS.ladd X0.here hx rfl (hb hby d5_10) rfl k) ?_
  refine own_step (fun t k => XS.lstore X0.here hx rfl (hb hby d5_11) rfl (l' := #[.val (.ref o0_5), .val (.long y1_5), .second, .val (.long y2_5), .second, .val (.long ((y1_5 * (-7046029254386353131 : Int64)) + (y2_5 * (-4417276706812531889 : Int64)))), .second]) rfl k) ?_
  refine own_step (fun t k => XS.lload X0.here hx rfl (hb hby d5_13) rfl k) ?_
  refine own_step (fun t k => XS.lload X0.here hx rfl (hb hby d5_15) rfl k) ?_
  refine own_step (fun t k => XS.bipush X0.here hx rfl (hb hby d5_17) k) ?_
  show own_Ends p.tables e below s _ _ _ (s₁.setTop (mkF m 19 #[.val (.ref o0_5), .val (.long y1_5), .second, .val (.long y2_5), .second, .val (.long ((y1_5 * (-7046029254386353131 : Int64)) + (y2_5 * (-4417276706812531889 : Int64)))), .second] [(.int (29 : Int32)), (.long ((y1_5 * (-7046029254386353131 : Int64)) + (y2_5 * (-4417276706812531889 : Int64)))), (.long ((y1_5 * (-7046029254386353131 : Int64)) + (y2_5 * (-4417276706812531889 : Int64))))]))
  refine own_step (fun t k => XS.lushr X0.here hx rfl (hb hby d5_19) rfl k) ?_
  refine own_step (fun t k => XS.lxor X0.here hx rfl (hb hby d5_20) rfl k) ?_
  refine own_step (fun t k => XS.lstore X0.here hx rfl (hb hby d5_21) rfl (l' := #[.val (.ref o0_5), .val (.long y1_5), .second, .val (.long y2_5), .second, .val (.long (((y1_5 * (-7046029254386353131 : Int64)) + (y2_5 * (-4417276706812531889 : Int64))) ^^^ ((((y1_5 * (-7046029254386353131 : Int64)) + (y2_5 * (-4417276706812531889 : Int64))).toUInt64 >>> ((29 : Int32) &&& 0x3f).toInt64.toUInt64).toInt64))), .second]) rfl k) ?_
  refine own_step (fun t k => XS.lload X0.here hx rfl (hb hby d5_23) rfl k) ?_
  refine own_step (fun t k => XS.l2i X0.here hx rfl (hb hby d5_25) rfl k) ?_
  refine own_step (fun t k => XS.aloadN X0.here hx rfl (hb hby d5_26) rfl rfl k) ?_
  show own_Ends p.tables e below s _ _ _ (s₁.setTop (mkF m 27 #[.val (.ref o0_5), .val (.long y1_5), .second, .val (.long y2_5), .second, .val (.long (((y1_5 * (-7046029254386353131 : Int64)) + (y2_5 * (-4417276706812531889 : Int64))) ^^^ ((((y1_5 * (-7046029254386353131 : Int64)) + (y2_5 * (-4417276706812531889 : Int64))).toUInt64 >>> ((29 : Int32) &&& 0x3f).toInt64.toUInt64).toInt64))), .second] [(.ref o0_5), (.int ((((y1_5 * (-7046029254386353131 : Int64)) + (y2_5 * (-4417276706812531889 : Int64))) ^^^ ((((y1_5 * (-7046029254386353131 : Int64)) + (y2_5 * (-4417276706812531889 : Int64))).toUInt64 >>> ((29 : Int32) &&& 0x3f).toInt64.toUInt64).toInt64)).toInt32))]))
  obtain ⟨T1, X1, e1, st1⟩ := getF X0 hx hZ hown (host := "") (Or.inl (hw _ (List.mem_of_getElem? (i := 16) rfl))) Via.refl e0 F_numbers_o0_5 (g := (mkF m 27 #[.val (.ref o0_5), .val (.long y1_5), .second, .val (.long y2_5), .second, .val (.long (((y1_5 * (-7046029254386353131 : Int64)) + (y2_5 * (-4417276706812531889 : Int64))) ^^^ ((((y1_5 * (-7046029254386353131 : Int64)) + (y2_5 * (-4417276706812531889 : Int64))).toUInt64 >>> ((29 : Int32) &&& 0x3f).toInt64.toUInt64).toInt64))), .second] [(.ref o0_5), (.int ((((y1_5 * (-7046029254386353131 : Int64)) + (y2_5 * (-4417276706812531889 : Int64))) ^^^ ((((y1_5 * (-7046029254386353131 : Int64)) + (y2_5 * (-4417276706812531889 : Int64))).toUInt64 >>> ((29 : Int32) &&& 0x3f).toInt64.toUInt64).toInt64)).toInt32))])) rfl rfl (hb hby d5_27)
  refine own_step (fun t k => st1 _ k) ?_
  show own_Ends p.tables e below s _ _ _ (T1.setTop (mkF m 30 #[.val (.ref o0_5), .val (.long y1_5), .second, .val (.long y2_5), .second, .val (.long (((y1_5 * (-7046029254386353131 : Int64)) + (y2_5 * (-4417276706812531889 : Int64))) ^^^ ((((y1_5 * (-7046029254386353131 : Int64)) + (y2_5 * (-4417276706812531889 : Int64))).toUInt64 >>> ((29 : Int32) &&& 0x3f).toInt64.toUInt64).toInt64))), .second] [(.ref w_numbers_o0_5), (.int ((((y1_5 * (-7046029254386353131 : Int64)) + (y2_5 * (-4417276706812531889 : Int64))) ^^^ ((((y1_5 * (-7046029254386353131 : Int64)) + (y2_5 * (-4417276706812531889 : Int64))).toUInt64 >>> ((29 : Int32) &&& 0x3f).toInt64.toUInt64).toInt64)).toInt32))]))
  obtain ⟨cl2, Ar2, S2, N2, G2⟩ := id V_w_numbers_o0_5
  have hl2 := len_of S2 N2
  refine own_step (fun t k => X1.arraylength hx (by rw [e1]; exact Ar2.1) (State.isArrayOf_alike hZ.alike Ar2.2.1) (g := (mkF m 30 #[.val (.ref o0_5), .val (.long y1_5), .second, .val (.long y2_5), .second, .val (.long (((y1_5 * (-7046029254386353131 : Int64)) + (y2_5 * (-4417276706812531889 : Int64))) ^^^ ((((y1_5 * (-7046029254386353131 : Int64)) + (y2_5 * (-4417276706812531889 : Int64))).toUInt64 >>> ((29 : Int32) &&& 0x3f).toInt64.toUInt64).toInt64))), .second] [(.ref w_numbers_o0_5), (.int ((((y1_5 * (-7046029254386353131 : Int64)) + (y2_5 * (-4417276706812531889 : Int64))) ^^^ ((((y1_5 * (-7046029254386353131 : Int64)) + (y2_5 * (-4417276706812531889 : Int64))).toUInt64 >>> ((29 : Int32) &&& 0x3f).toInt64.toUInt64).toInt64)).toInt32))])) rfl rfl (hb hby d5_30) _ (hl2.symm ▸ k)) ?_
  refine own_step (fun t k => XS.iconst X1.here hx rfl (hb hby d5_31) k) ?_
  refine own_step (fun t k => XS.isub X1.here hx rfl (hb hby d5_32) rfl k) ?_
  refine own_step (fun t k => XS.iand X1.here hx rfl (hb hby d5_33) rfl k) ?_
  show own_Ends p.tables e below s _ _ _ (T1.setTop (mkF m 34 #[.val (.ref o0_5), .val (.long y1_5), .second, .val (.long y2_5), .second, .val (.long (((y1_5 * (-7046029254386353131 : Int64)) + (y2_5 * (-4417276706812531889 : Int64))) ^^^ ((((y1_5 * (-7046029254386353131 : Int64)) + (y2_5 * (-4417276706812531889 : Int64))).toUInt64 >>> ((29 : Int32) &&& 0x3f).toInt64.toUInt64).toInt64))), .second] [(.int (((((y1_5 * (-7046029254386353131 : Int64)) + (y2_5 * (-4417276706812531889 : Int64))) ^^^ ((((y1_5 * (-7046029254386353131 : Int64)) + (y2_5 * (-4417276706812531889 : Int64))).toUInt64 >>> ((29 : Int32) &&& 0x3f).toInt64.toUInt64).toInt64)).toInt32) &&& (nT - (1 : Int32))))]))
  exact own_retI X1 hx Bd.returns (hb hby d5_34) hnl (by rw [e1]; exact ⟨rfl, N0, rfl⟩) (by decide) (by decide)
def own_r7 (y0_7 : Int64) (y1_7 : Int64) (y2_7 : Int64) (y3_7 : Int64) : Int32 := (if (lcmpW y0_7 y2_7) = (0 : Int32) then (if (lcmpW y1_7 y3_7) = (0 : Int32) then (1 : Int32) else (0 : Int32)) else (0 : Int32))
theorem d7_0 : decode method_2_code 0 = .ok (.lload_n 0, 1) := by decide +kernel
theorem d7_1 : decode method_2_code 1 = .ok (.lload 4, 2) := by decide +kernel
theorem d7_3 : decode method_2_code 3 = .ok (.lcmp, 1) := by decide +kernel
theorem d7_4 : decode method_2_code 4 = .ok (.ifCond .ne 14, 3) := by decide +kernel
theorem d7_7 : decode method_2_code 7 = .ok (.lload_n 2, 1) := by decide +kernel
theorem d7_8 : decode method_2_code 8 = .ok (.lload 6, 2) := by decide +kernel
theorem d7_10 : decode method_2_code 10 = .ok (.lcmp, 1) := by decide +kernel
theorem d7_11 : decode method_2_code 11 = .ok (.ifCond .ne 7, 3) := by decide +kernel
theorem d7_14 : decode method_2_code 14 = .ok (.iconst 1, 1) := by decide +kernel
theorem d7_15 : decode method_2_code 15 = .ok (.goto 4, 3) := by decide +kernel
theorem d7_18 : decode method_2_code 18 = .ok (.iconst 0, 1) := by decide +kernel
theorem d7_19 : decode method_2_code 19 = .ok (.ireturn, 1) := by decide +kernel
theorem pn_1 : plainName "com/example/swanhall/swanhall/core/CellTableGetPinLaw" = true := by first | (simp [plainName, overriddenIn]; done) | decide +kernel
theorem ef_7 (m : MethodId) (y0_7 : Int64) (y1_7 : Int64) (y2_7 : Int64) (y3_7 : Int64) : entryFrame m #[(.long y0_7), (.long y1_7), (.long y2_7), (.long y3_7)] 8 = mkF m 0 #[.val (.long y0_7), .second, .val (.long y1_7), .second, .val (.long y2_7), .second, .val (.long y3_7), .second] [] := by first | (simp [entryFrame, mkF, argsToLocals, Value.category]; done) | rfl
def Q7 (Z : State) (y0_7 : Int64) (y1_7 : Int64) (y2_7 : Int64) (y3_7 : Int64) (h0 : Heap) (n0 : Nat) (v : Option Value) (h : Heap) (L : List Loc) : Prop := v = some (.int (own_r7 y0_7 y1_7 y2_7 y3_7)) ∧ Fr n0 L ∧ h = h0
set_option maxRecDepth 65536 in
set_option maxHeartbeats 40000000 in
theorem rm7 (l : Launch) (Z : State) (a0 : Array Value) (hw : ∀ d ∈ tables_1, d.before a0 Z = true) (ws : List Jvm.Cond) (y0_7 : Int64) (y1_7 : Int64) (y2_7 : Int64) (y3_7 : Int64) (h0 : Heap) (n0 : Nat) (O0 : Old Z n0 h0) :
    MetFree l (⟨"com/example/swanhall/swanhall/core/CellTableGetPinLaw", "same", "(JJJJ)Z"⟩ : MethodName) (head1 (Jvm.Cond.code (⟨"com/example/swanhall/swanhall/core/CellTableGetPinLaw", "same", "(JJJJ)Z"⟩ : MethodName) method_2_code 8 (some .boolean) :: ws) ({ frames := 0, cells := 0, slots := 0, locals := 0 } : Room)) (fun a U => a = #[(.long y0_7), (.long y1_7), (.long y2_7), (.long y3_7)] ∧ Z.Warmed39 U.vm ∧ U.heap = h0) (fun _ _ _ _ _ => True) (fun _ U o U' => ∃ v L, o = .returned v ∧ Q7 Z y0_7 y1_7 y2_7 y3_7 h0 n0 v U'.heap L ∧ FrameEnd U o U' L ({ frames := 0, cells := 0, slots := 0, locals := 0 } : Room).cells ({ frames := 0, cells := 0, slots := 0, locals := 0 } : Room).slots) := by
  refine MetFree.of_bodySF (plainFor_of_name pn_1) hisR ?_
  intro p e s m args below meth c s₁ Bd hml0 hP hK
  obtain ⟨rfl, hZ, hh⟩ := hP
  have hx := Bd.exec
  have hby := Bd.bytes
  have hnl := BodyLoose.notSynchronized Bd
  have hml : c.maxLocals = 8 := hml0
  have hown : s.vm.findClass "com/example/swanhall/swanhall/core/CellTableGetPinLaw" = some m.cls := findClass_of_methodNamed Bd.named
  have hnm := (name_of_methodNamed Bd.named Bd.method).1
  have X0 : Stand p l e ({ frames := 0, cells := 0, slots := 0, locals := 0 } : Room) s m #[(.long y0_7), (.long y1_7), (.long y2_7), (.long y3_7)] below meth c s₁ [] 0 0 := Stand.of_body Bd
  have e0 : s₁.heap = h0 := by rw [← hh, Bd.state]; rfl
  have N0 := Fr.nil n0
  show own_Ends p.tables e below s (Q7 Z y0_7 y1_7 y2_7 y3_7 h0 n0) 0 0 (s₁.setTop (entryFrame m #[(.long y0_7), (.long y1_7), (.long y2_7), (.long y3_7)] 8))
  rw [ef_7 m y0_7 y1_7 y2_7 y3_7]
  show own_Ends p.tables e below s _ _ _ (s₁.setTop (mkF m 0 #[.val (.long y0_7), .second, .val (.long y1_7), .second, .val (.long y2_7), .second, .val (.long y3_7), .second] []))
  refine own_step (fun t k => XS.lloadN X0.here hx rfl (hb hby d7_0) rfl k) ?_
  refine own_step (fun t k => XS.lload X0.here hx rfl (hb hby d7_1) rfl k) ?_
  refine own_step (fun t k => XS.lcmp X0.here hx rfl (hb hby d7_3) rfl k) ?_
  show own_Ends p.tables e below s _ _ _ (s₁.setTop (mkF m 4 #[.val (.long y0_7), .second, .val (.long y1_7), .second, .val (.long y2_7), .second, .val (.long y3_7), .second] [(.int (lcmpW y0_7 y2_7))]))
  by_cases hc4_1 : (lcmpW y0_7 y2_7) = (0 : Int32)
  · skip
    refine own_step (fun t k => XS.ifNo X0.here hx rfl (hb hby d7_4) rfl ((if0 _ _).trans (teq hc4_1).2) k) ?_
    refine own_step (fun t k => XS.lloadN X0.here hx rfl (hb hby d7_7) rfl k) ?_
    refine own_step (fun t k => XS.lload X0.here hx rfl (hb hby d7_8) rfl k) ?_
    refine own_step (fun t k => XS.lcmp X0.here hx rfl (hb hby d7_10) rfl k) ?_
    show own_Ends p.tables e below s _ _ _ (s₁.setTop (mkF m 11 #[.val (.long y0_7), .second, .val (.long y1_7), .second, .val (.long y2_7), .second, .val (.long y3_7), .second] [(.int (lcmpW y1_7 y3_7))]))
    by_cases hc11_2 : (lcmpW y1_7 y3_7) = (0 : Int32)
    · skip
      refine own_step (fun t k => XS.ifNo X0.here hx rfl (hb hby d7_11) rfl ((if0 _ _).trans (teq hc11_2).2) k) ?_
      refine own_step (fun t k => XS.iconst X0.here hx rfl (hb hby d7_14) k) ?_
      refine own_step (fun t k => XS.goto X0.here hx rfl (pc0 := 15) (pc' := 19) rfl (hb hby d7_15) (by decide) (by decide) k) ?_
      show own_Ends p.tables e below s _ _ _ (s₁.setTop (mkF m 19 #[.val (.long y0_7), .second, .val (.long y1_7), .second, .val (.long y2_7), .second, .val (.long y3_7), .second] [(.int (1 : Int32))]))
      exact own_retN X0 hx (t := .boolean) Bd.returns (by simp) (hb hby d7_19) hnl (by rw [e0]; exact ⟨(congrArg (fun z => some (Value.int z)) (Eq.symm (show (own_r7 y0_7 y1_7 y2_7 y3_7) = (1 : Int32) from by unfold own_r7; rw [if_pos hc4_1, if_pos hc11_2]))), N0, rfl⟩) (by decide) (by decide)
    · skip
      refine own_step (fun t k => XS.ifYes X0.here hx rfl (pc0 := 11) (pc' := 18) rfl (hb hby d7_11) rfl ((if0 _ _).trans (feq hc11_2).2) (by decide) (by decide) k) ?_
      refine own_step (fun t k => XS.iconst X0.here hx rfl (hb hby d7_18) k) ?_
      show own_Ends p.tables e below s _ _ _ (s₁.setTop (mkF m 19 #[.val (.long y0_7), .second, .val (.long y1_7), .second, .val (.long y2_7), .second, .val (.long y3_7), .second] [(.int (0 : Int32))]))
      exact own_retN X0 hx (t := .boolean) Bd.returns (by simp) (hb hby d7_19) hnl (by rw [e0]; exact ⟨(congrArg (fun z => some (Value.int z)) (Eq.symm (show (own_r7 y0_7 y1_7 y2_7 y3_7) = (0 : Int32) from by unfold own_r7; rw [if_pos hc4_1, if_neg hc11_2]))), N0, rfl⟩) (by decide) (by decide)
  · skip
    refine own_step (fun t k => XS.ifYes X0.here hx rfl (pc0 := 4) (pc' := 18) rfl (hb hby d7_4) rfl ((if0 _ _).trans (feq hc4_1).2) (by decide) (by decide) k) ?_
    refine own_step (fun t k => XS.iconst X0.here hx rfl (hb hby d7_18) k) ?_
    show own_Ends p.tables e below s _ _ _ (s₁.setTop (mkF m 19 #[.val (.long y0_7), .second, .val (.long y1_7), .second, .val (.long y2_7), .second, .val (.long y3_7), .second] [(.int (0 : Int32))]))
    exact own_retN X0 hx (t := .boolean) Bd.returns (by simp) (hb hby d7_19) hnl (by rw [e0]; exact ⟨(congrArg (fun z => some (Value.int z)) (Eq.symm (show (own_r7 y0_7 y1_7 y2_7 y3_7) = (0 : Int32) from by unfold own_r7; rw [if_neg hc4_1]))), N0, rfl⟩) (by decide) (by decide)
theorem pd_0 : parseMethodDescriptor "(JJ)I" = some ⟨[.long, .long], some .int⟩ := by decide +kernel
def own_r4 (y1_4 : Int64) (y2_4 : Int64) (nT : Int32) (num : Int32 → Int32) (Xs : Int32 → Int64) (Ys : Int32 → Int64) : Int32 := (if (num (own_h y1_4 y2_4 nT)) = (0 : Int32) then (own_h y1_4 y2_4 nT) else (if (lcmpW (Xs (own_h y1_4 y2_4 nT)) y1_4) = (0 : Int32) then (if (lcmpW (Ys (own_h y1_4 y2_4 nT)) y2_4) = (0 : Int32) then (own_h y1_4 y2_4 nT) else (if (num (own_nx nT (own_h y1_4 y2_4 nT))) = (0 : Int32) then (own_nx nT (own_h y1_4 y2_4 nT)) else (if (lcmpW (Xs (own_nx nT (own_h y1_4 y2_4 nT))) y1_4) = (0 : Int32) then (if (lcmpW (Ys (own_nx nT (own_h y1_4 y2_4 nT))) y2_4) = (0 : Int32) then (own_nx nT (own_h y1_4 y2_4 nT)) else (own_nx nT (own_nx nT (own_h y1_4 y2_4 nT)))) else (own_nx nT (own_nx nT (own_h y1_4 y2_4 nT)))))) else (if (num (own_nx nT (own_h y1_4 y2_4 nT))) = (0 : Int32) then (own_nx nT (own_h y1_4 y2_4 nT)) else (if (lcmpW (Xs (own_nx nT (own_h y1_4 y2_4 nT))) y1_4) = (0 : Int32) then (if (lcmpW (Ys (own_nx nT (own_h y1_4 y2_4 nT))) y2_4) = (0 : Int32) then (own_nx nT (own_h y1_4 y2_4 nT)) else (own_nx nT (own_nx nT (own_h y1_4 y2_4 nT)))) else (own_nx nT (own_nx nT (own_h y1_4 y2_4 nT)))))))
theorem d4_0 : decode prog_30_method_8_code 0 = .ok (.aload_n 0, 1) := by decide +kernel
theorem d4_1 : decode prog_30_method_8_code 1 = .ok (.getfield 19, 3) := by decide +kernel
theorem d4_4 : decode prog_30_method_8_code 4 = .ok (.arraylength, 1) := by decide +kernel
theorem d4_5 : decode prog_30_method_8_code 5 = .ok (.iconst 1, 1) := by decide +kernel
theorem d4_6 : decode prog_30_method_8_code 6 = .ok (.isub, 1) := by decide +kernel
theorem d4_7 : decode prog_30_method_8_code 7 = .ok (.istore 5, 2) := by decide +kernel
theorem d4_9 : decode prog_30_method_8_code 9 = .ok (.aload_n 0, 1) := by decide +kernel
theorem d4_10 : decode prog_30_method_8_code 10 = .ok (.lload_n 1, 1) := by decide +kernel
theorem d4_11 : decode prog_30_method_8_code 11 = .ok (.lload_n 3, 1) := by decide +kernel
theorem d4_12 : decode prog_30_method_8_code 12 = .ok (.invokevirtual 27, 3) := by decide +kernel
theorem d4_15 : decode prog_30_method_8_code 15 = .ok (.istore 6, 2) := by decide +kernel
theorem d4_17 : decode prog_30_method_8_code 17 = .ok (.aload_n 0, 1) := by decide +kernel
theorem d4_18 : decode prog_30_method_8_code 18 = .ok (.getfield 19, 3) := by decide +kernel
theorem d4_21 : decode prog_30_method_8_code 21 = .ok (.iload 6, 2) := by decide +kernel
theorem d4_23 : decode prog_30_method_8_code 23 = .ok (.iaload, 1) := by decide +kernel
theorem d4_24 : decode prog_30_method_8_code 24 = .ok (.ifCond .eq 39, 3) := by decide +kernel
theorem d4_27 : decode prog_30_method_8_code 27 = .ok (.aload_n 0, 1) := by decide +kernel
theorem d4_28 : decode prog_30_method_8_code 28 = .ok (.getfield 12, 3) := by decide +kernel
theorem d4_31 : decode prog_30_method_8_code 31 = .ok (.iload 6, 2) := by decide +kernel
theorem d4_33 : decode prog_30_method_8_code 33 = .ok (.laload, 1) := by decide +kernel
theorem d4_34 : decode prog_30_method_8_code 34 = .ok (.lload_n 1, 1) := by decide +kernel
theorem d4_35 : decode prog_30_method_8_code 35 = .ok (.lcmp, 1) := by decide +kernel
theorem d4_36 : decode prog_30_method_8_code 36 = .ok (.ifCond .ne 15, 3) := by decide +kernel
theorem d4_39 : decode prog_30_method_8_code 39 = .ok (.aload_n 0, 1) := by decide +kernel
theorem d4_40 : decode prog_30_method_8_code 40 = .ok (.getfield 16, 3) := by decide +kernel
theorem d4_43 : decode prog_30_method_8_code 43 = .ok (.iload 6, 2) := by decide +kernel
theorem d4_45 : decode prog_30_method_8_code 45 = .ok (.laload, 1) := by decide +kernel
theorem d4_46 : decode prog_30_method_8_code 46 = .ok (.lload_n 3, 1) := by decide +kernel
theorem d4_47 : decode prog_30_method_8_code 47 = .ok (.lcmp, 1) := by decide +kernel
theorem d4_48 : decode prog_30_method_8_code 48 = .ok (.ifCond .eq 15, 3) := by decide +kernel
theorem d4_51 : decode prog_30_method_8_code 51 = .ok (.iload 6, 2) := by decide +kernel
theorem d4_53 : decode prog_30_method_8_code 53 = .ok (.iconst 1, 1) := by decide +kernel
theorem d4_54 : decode prog_30_method_8_code 54 = .ok (.iadd, 1) := by decide +kernel
theorem d4_55 : decode prog_30_method_8_code 55 = .ok (.iload 5, 2) := by decide +kernel
theorem d4_57 : decode prog_30_method_8_code 57 = .ok (.iand, 1) := by decide +kernel
theorem d4_58 : decode prog_30_method_8_code 58 = .ok (.istore 6, 2) := by decide +kernel
theorem d4_60 : decode prog_30_method_8_code 60 = .ok (.goto (-43), 3) := by decide +kernel
theorem d4_63 : decode prog_30_method_8_code 63 = .ok (.iload 6, 2) := by decide +kernel
theorem d4_65 : decode prog_30_method_8_code 65 = .ok (.ireturn, 1) := by decide +kernel
theorem ef_4 (m : MethodId) (o0_4 : Addr) (y1_4 : Int64) (y2_4 : Int64) : entryFrame m #[(.ref o0_4), (.long y1_4), (.long y2_4)] 7 = mkF m 0 #[.val (.ref o0_4), .val (.long y1_4), .second, .val (.long y2_4), .second, .unset, .unset] [] := by first | (simp [entryFrame, mkF, argsToLocals, Value.category]; done) | rfl
def Q4 (Z : State) (o0_4 : Addr) (y1_4 : Int64) (y2_4 : Int64) (w_numbers_o0_4 : Addr) (nT : Int32) (num : Int32 → Int32) (w_xs_o0_4 : Addr) (Xs : Int32 → Int64) (w_ys_o0_4 : Addr) (Ys : Int32 → Int64) (h0 : Heap) (n0 : Nat) (v : Option Value) (h : Heap) (L : List Loc) : Prop := v = some (.int (own_r4 y1_4 y2_4 nT num Xs Ys)) ∧ Fr n0 L ∧ h = h0
set_option maxRecDepth 65536 in
set_option maxHeartbeats 40000000 in
theorem rm4 (l : Launch) (Z : State) (a0 : Array Value) (hw : ∀ d ∈ tables_1, d.before a0 Z = true) (ws : List Jvm.Cond) (o0_4 : Addr) (y1_4 : Int64) (y2_4 : Int64) (w_numbers_o0_4 : Addr) (nT : Int32) (num : Int32 → Int32) (w_xs_o0_4 : Addr) (Xs : Int32 → Int64) (w_ys_o0_4 : Addr) (Ys : Int32 → Int64) (h0 : Heap) (n0 : Nat) (O0 : Old Z n0 h0) (hnT : (0 : Int32) < nT) (hst : ∀ s : Int32, ¬ num s = 0 → ¬ num (own_nx nT s) = 0 → num (own_nx nT (own_nx nT s)) = 0) (F_numbers_o0_4 : Fld Z h0 o0_4 "com/example/swanhall/swanhall/core/CellTable" "numbers" "[I" (.ref w_numbers_o0_4)) (V_w_numbers_o0_4 : own_ArI Z h0 w_numbers_o0_4 nT num) (E_o0_4 : Exa Z h0 o0_4 "com/example/swanhall/swanhall/core/CellTable") (F_xs_o0_4 : Fld Z h0 o0_4 "com/example/swanhall/swanhall/core/CellTable" "xs" "[J" (.ref w_xs_o0_4)) (V_w_xs_o0_4 : own_ArJ Z h0 w_xs_o0_4 nT Xs) (F_ys_o0_4 : Fld Z h0 o0_4 "com/example/swanhall/swanhall/core/CellTable" "ys" "[J" (.ref w_ys_o0_4)) (V_w_ys_o0_4 : own_ArJ Z h0 w_ys_o0_4 nT Ys) :
    MetFree l (⟨"com/example/swanhall/swanhall/core/CellTable", "slot", "(JJ)I"⟩ : MethodName) (head1 (Jvm.Cond.code (⟨"com/example/swanhall/swanhall/core/CellTable", "slot", "(JJ)I"⟩ : MethodName) prog_30_method_8_code 7 (some .int) :: ws) ({ frames := 1, cells := 0, slots := 0, locals := 18 } : Room)) (fun a U => a = #[(.ref o0_4), (.long y1_4), (.long y2_4)] ∧ Z.Warmed39 U.vm ∧ U.heap = h0) (fun _ _ _ _ _ => True) (fun _ U o U' => ∃ v L, o = .returned v ∧ Q4 Z o0_4 y1_4 y2_4 w_numbers_o0_4 nT num w_xs_o0_4 Xs w_ys_o0_4 Ys h0 n0 v U'.heap L ∧ FrameEnd U o U' L ({ frames := 1, cells := 0, slots := 0, locals := 18 } : Room).cells ({ frames := 1, cells := 0, slots := 0, locals := 18 } : Room).slots) := by
  refine MetFree.of_bodySF (plainFor_of_name pn_0) hisR ?_
  intro p e s m args below meth c s₁ Bd hml0 hP hK
  obtain ⟨rfl, hZ, hh⟩ := hP
  have hx := Bd.exec
  have hby := Bd.bytes
  have hnl := BodyLoose.notSynchronized Bd
  have hml : c.maxLocals = 7 := hml0
  have hown : s.vm.findClass "com/example/swanhall/swanhall/core/CellTable" = some m.cls := findClass_of_methodNamed Bd.named
  have hnm := (name_of_methodNamed Bd.named Bd.method).1
  have X0 : Stand p l e ({ frames := 1, cells := 0, slots := 0, locals := 18 } : Room) s m #[(.ref o0_4), (.long y1_4), (.long y2_4)] below meth c s₁ [] 0 0 := Stand.of_body Bd
  have e0 : s₁.heap = h0 := by rw [← hh, Bd.state]; rfl
  have N0 := Fr.nil n0
  show own_Ends p.tables e below s (Q4 Z o0_4 y1_4 y2_4 w_numbers_o0_4 nT num w_xs_o0_4 Xs w_ys_o0_4 Ys h0 n0) 0 0 (s₁.setTop (entryFrame m #[(.ref o0_4), (.long y1_4), (.long y2_4)] 7))
  rw [ef_4 m o0_4 y1_4 y2_4]
  show own_Ends p.tables e below s _ _ _ (s₁.setTop (mkF m 0 #[.val (.ref o0_4), .val (.long y1_4), .second, .val (.long y2_4), .second, .unset, .unset] []))
  refine own_step (fun t k => XS.aloadN X0.here hx rfl (hb hby d4_0) rfl rfl k) ?_
  show own_Ends p.tables e below s _ _ _ (s₁.setTop (mkF m 1 #[.val (.ref o0_4), .val (.long y1_4), .second, .val (.long y2_4), .second, .unset, .unset] [(.ref o0_4)]))
  obtain ⟨T1, X1, e1, st1⟩ := getF X0 hx hZ hown (host := "") (Or.inl (hw _ (List.mem_of_getElem? (i := 16) rfl))) Via.refl e0 F_numbers_o0_4 (g := (mkF m 1 #[.val (.ref o0_4), .val (.long y1_4), .second, .val (.long y2_4), .second, .unset, .unset] [(.ref o0_4)])) rfl rfl (hb hby d4_1)
  refine own_step (fun t k => st1 _ k) ?_
  show own_Ends p.tables e below s _ _ _ (T1.setTop (mkF m 4 #[.val (.ref o0_4), .val (.long y1_4), .second, .val (.long y2_4), .second, .unset, .unset] [(.ref w_numbers_o0_4)]))
  obtain ⟨cl2, Ar2, S2, N2, G2⟩ := id V_w_numbers_o0_4
  have hl2 := len_of S2 N2
  refine own_step (fun t k => X1.arraylength hx (by rw [e1]; exact Ar2.1) (State.isArrayOf_alike hZ.alike Ar2.2.1) (g := (mkF m 4 #[.val (.ref o0_4), .val (.long y1_4), .second, .val (.long y2_4), .second, .unset, .unset] [(.ref w_numbers_o0_4)])) rfl rfl (hb hby d4_4) _ (hl2.symm ▸ k)) ?_
  refine own_step (fun t k => XS.iconst X1.here hx rfl (hb hby d4_5) k) ?_
  refine own_step (fun t k => XS.isub X1.here hx rfl (hb hby d4_6) rfl k) ?_
  refine own_step (fun t k => XS.istore X1.here hx rfl (hb hby d4_7) rfl (l' := #[.val (.ref o0_4), .val (.long y1_4), .second, .val (.long y2_4), .second, .val (.int (nT - (1 : Int32))), .unset]) rfl k) ?_
  refine own_step (fun t k => XS.aloadN X1.here hx rfl (hb hby d4_9) rfl rfl k) ?_
  refine own_step (fun t k => XS.lloadN X1.here hx rfl (hb hby d4_10) rfl k) ?_
  refine own_step (fun t k => XS.lloadN X1.here hx rfl (hb hby d4_11) rfl k) ?_
  show own_Ends p.tables e below s _ _ _ (T1.setTop (mkF m 12 #[.val (.ref o0_4), .val (.long y1_4), .second, .val (.long y2_4), .second, .val (.int (nT - (1 : Int32))), .unset] [(.long y2_4), (.long y1_4), (.ref o0_4)]))
  obtain ⟨cq3, q3, q3'⟩ := E_o0_4.cell
  obtain ⟨_, _, ⟨T3, L3, k3, n3⟩, -, X3, ⟨Lc3, hQ3, l3, y3, z3⟩, st3⟩ := X1.privateBack hx (y := (⟨"com/example/swanhall/swanhall/core/CellTable", "home", "(JJ)I"⟩ : MethodName)) hown (mvT hZ (hw _ (List.mem_of_getElem? (i := 27) rfl))) (mvT hZ (hw _ (List.mem_of_getElem? (i := 28) rfl))) (own_selPriv hZ (hw _ (List.mem_of_getElem? (i := 2) rfl)) (hw _ (List.mem_of_getElem? (i := 29) rfl)) (hw _ (List.mem_of_getElem? (i := 28) rfl)) (by decide)) (Cond.privateMethod_at (mvP hZ (hw _ (List.mem_of_getElem? (i := 29) rfl)) (args := #[]))) (mvT hZ (hw _ (List.mem_of_getElem? (i := 30) rfl))) (by decide) (backOf (W := 0) (rm5 l Z a0 hw [] o0_4 y1_4 y2_4 w_numbers_o0_4 nT num h0 n0 O0 F_numbers_o0_4 V_w_numbers_o0_4) hZ (hw _ (List.mem_of_getElem? (i := 30) rfl)) (hw _ (List.mem_of_getElem? (i := 3) rfl)) (by decide) (by decide)) (g := (mkF m 12 #[.val (.ref o0_4), .val (.long y1_4), .second, .val (.long y2_4), .second, .val (.int (nT - (1 : Int32))), .unset] [(.long y2_4), (.long y1_4), (.ref o0_4)])) rfl (by rw [hml]; rfl) (Steps.refl _) (a := o0_4) (by rw [e1]; exact q3) q3' (argsL := [(.long y1_4), (.long y2_4)]) (rest := []) (lenOf pd_0 rfl) rfl (by show 2 * 0 + _ ≤ _; exact Nat.le_of_eq rfl) (hb hby d4_12) (fun _ _ => ⟨rfl, e1, (by decide : 0 + 0 ≤ _), (by decide : 0 + 0 ≤ _)⟩)
  dsimp only [Pt.U, Pt.locs, Pt.cells, Pt.slots] at X3 l3 y3 z3 st3 hQ3
  subst y3 z3
  obtain ⟨rfl, N3q, e3⟩ := hQ3
  refine own_step (fun t k => st3.trans k) ?_
  have N4 : Fr n0 L3 := by rw [l3]; exact Fr.app N0 N3q
  refine own_step (fun t k => XS.istore X3.here hx rfl (hb hby d4_15) rfl (l' := #[.val (.ref o0_4), .val (.long y1_4), .second, .val (.long y2_4), .second, .val (.int (nT - (1 : Int32))), .val (.int (own_h y1_4 y2_4 nT))]) rfl k) ?_
  refine own_step (fun t k => XS.aloadN X3.here hx rfl (hb hby d4_17) rfl rfl k) ?_
  show own_Ends p.tables e below s _ _ _ (T3.setTop (mkF m 18 #[.val (.ref o0_4), .val (.long y1_4), .second, .val (.long y2_4), .second, .val (.int (nT - (1 : Int32))), .val (.int (own_h y1_4 y2_4 nT))] [(.ref o0_4)]))
  obtain ⟨T5, X5, e5, st5⟩ := getF X3 hx hZ hown (host := "") (Or.inl (hw _ (List.mem_of_getElem? (i := 16) rfl))) Via.refl e3 F_numbers_o0_4 (g := (mkF m 18 #[.val (.ref o0_4), .val (.long y1_4), .second, .val (.long y2_4), .second, .val (.int (nT - (1 : Int32))), .val (.int (own_h y1_4 y2_4 nT))] [(.ref o0_4)])) rfl rfl (hb hby d4_18)
  refine own_step (fun t k => st5 _ k) ?_
  refine own_step (fun t k => XS.iload X5.here hx rfl (hb hby d4_21) rfl k) ?_
  show own_Ends p.tables e below s _ _ _ (T5.setTop (mkF m 23 #[.val (.ref o0_4), .val (.long y1_4), .second, .val (.long y2_4), .second, .val (.int (nT - (1 : Int32))), .val (.int (own_h y1_4 y2_4 nT))] [(.int (own_h y1_4 y2_4 nT)), (.ref w_numbers_o0_4)]))
  obtain ⟨cl6, Ar6, S6, N6, G6⟩ := id V_w_numbers_o0_4
  have hr6 : ¬ (own_h y1_4 y2_4 nT) < 0 ∧ (own_h y1_4 y2_4 nT) < nT := (own_rng _ _ hnT)
  have hin6 : ¬ ((own_h y1_4 y2_4 nT) < 0 ∨ cl6.slots.size ≤ ((own_h y1_4 y2_4 nT)).toNatClampNeg) := inb_of S6 hr6
  have hat6 : cl6.slots[((own_h y1_4 y2_4 nT)).toNatClampNeg]? = some (.int (num (own_h y1_4 y2_4 nT))) := G6 _ hr6.1 hr6.2
  refine own_step (fun t k => X5.iaload hx (j := (own_h y1_4 y2_4 nT)) (v := (.int (num (own_h y1_4 y2_4 nT)))) (by rw [e5]; exact Ar6.1) (State.isArrayOf_alike hZ.alike Ar6.2.1) Ar6.2.2 hin6 hat6 (g := (mkF m 23 #[.val (.ref o0_4), .val (.long y1_4), .second, .val (.long y2_4), .second, .val (.int (nT - (1 : Int32))), .val (.int (own_h y1_4 y2_4 nT))] [(.int (own_h y1_4 y2_4 nT)), (.ref w_numbers_o0_4)])) rfl rfl (hb hby d4_23) _ k) ?_
  show own_Ends p.tables e below s _ _ _ (T5.setTop (mkF m 24 #[.val (.ref o0_4), .val (.long y1_4), .second, .val (.long y2_4), .second, .val (.int (nT - (1 : Int32))), .val (.int (own_h y1_4 y2_4 nT))] [(.int (num (own_h y1_4 y2_4 nT)))]))
  by_cases hc24_7 : (num (own_h y1_4 y2_4 nT)) = (0 : Int32)
  · skip
    refine own_step (fun t k => XS.ifYes X5.here hx rfl (pc0 := 24) (pc' := 63) rfl (hb hby d4_24) rfl ((if0 _ _).trans (teq hc24_7).1) (by decide) (by decide) k) ?_
    refine own_step (fun t k => XS.iload X5.here hx rfl (hb hby d4_63) rfl k) ?_
    show own_Ends p.tables e below s _ _ _ (T5.setTop (mkF m 65 #[.val (.ref o0_4), .val (.long y1_4), .second, .val (.long y2_4), .second, .val (.int (nT - (1 : Int32))), .val (.int (own_h y1_4 y2_4 nT))] [(.int (own_h y1_4 y2_4 nT))]))
    exact own_retI X5 hx Bd.returns (hb hby d4_65) hnl (by rw [e5]; exact ⟨(congrArg (fun z => some (Value.int z)) (Eq.symm (show (own_r4 y1_4 y2_4 nT num Xs Ys) = (own_h y1_4 y2_4 nT) from by unfold own_r4; rw [if_pos hc24_7]))), N4, rfl⟩) (by decide) (by decide)
  · skip
    refine own_step (fun t k => XS.ifNo X5.here hx rfl (hb hby d4_24) rfl ((if0 _ _).trans (feq hc24_7).1) k) ?_
    refine own_step (fun t k => XS.aloadN X5.here hx rfl (hb hby d4_27) rfl rfl k) ?_
    show own_Ends p.tables e below s _ _ _ (T5.setTop (mkF m 28 #[.val (.ref o0_4), .val (.long y1_4), .second, .val (.long y2_4), .second, .val (.int (nT - (1 : Int32))), .val (.int (own_h y1_4 y2_4 nT))] [(.ref o0_4)]))
    obtain ⟨T8, X8, e8, st8⟩ := getF X5 hx hZ hown (host := "") (Or.inl (hw _ (List.mem_of_getElem? (i := 11) rfl))) Via.refl e5 F_xs_o0_4 (g := (mkF m 28 #[.val (.ref o0_4), .val (.long y1_4), .second, .val (.long y2_4), .second, .val (.int (nT - (1 : Int32))), .val (.int (own_h y1_4 y2_4 nT))] [(.ref o0_4)])) rfl rfl (hb hby d4_28)
    refine own_step (fun t k => st8 _ k) ?_
    refine own_step (fun t k => XS.iload X8.here hx rfl (hb hby d4_31) rfl k) ?_
    show own_Ends p.tables e below s _ _ _ (T8.setTop (mkF m 33 #[.val (.ref o0_4), .val (.long y1_4), .second, .val (.long y2_4), .second, .val (.int (nT - (1 : Int32))), .val (.int (own_h y1_4 y2_4 nT))] [(.int (own_h y1_4 y2_4 nT)), (.ref w_xs_o0_4)]))
    obtain ⟨cl9, Ar9, S9, N9, G9⟩ := id V_w_xs_o0_4
    have hr9 : ¬ (own_h y1_4 y2_4 nT) < 0 ∧ (own_h y1_4 y2_4 nT) < nT := (own_rng _ _ hnT)
    have hin9 : ¬ ((own_h y1_4 y2_4 nT) < 0 ∨ cl9.slots.size ≤ ((own_h y1_4 y2_4 nT)).toNatClampNeg) := inb_of S9 hr9
    have hat9 : cl9.slots[((own_h y1_4 y2_4 nT)).toNatClampNeg]? = some (.long (Xs (own_h y1_4 y2_4 nT))) := G9 _ hr9.1 hr9.2
    refine own_step (fun t k => X8.laload hx (j := (own_h y1_4 y2_4 nT)) (v := (.long (Xs (own_h y1_4 y2_4 nT)))) (by rw [e8]; exact Ar9.1) (State.isArrayOf_alike hZ.alike Ar9.2.1) Ar9.2.2 hin9 hat9 (g := (mkF m 33 #[.val (.ref o0_4), .val (.long y1_4), .second, .val (.long y2_4), .second, .val (.int (nT - (1 : Int32))), .val (.int (own_h y1_4 y2_4 nT))] [(.int (own_h y1_4 y2_4 nT)), (.ref w_xs_o0_4)])) rfl rfl (hb hby d4_33) _ k) ?_
    refine own_step (fun t k => XS.lloadN X8.here hx rfl (hb hby d4_34) rfl k) ?_
    refine own_step (fun t k => XS.lcmp X8.here hx rfl (hb hby d4_35) rfl k) ?_
    show own_Ends p.tables e below s _ _ _ (T8.setTop (mkF m 36 #[.val (.ref o0_4), .val (.long y1_4), .second, .val (.long y2_4), .second, .val (.int (nT - (1 : Int32))), .val (.int (own_h y1_4 y2_4 nT))] [(.int (lcmpW (Xs (own_h y1_4 y2_4 nT)) y1_4))]))
    by_cases hc36_10 : (lcmpW (Xs (own_h y1_4 y2_4 nT)) y1_4) = (0 : Int32)
    · skip
      refine own_step (fun t k => XS.ifNo X8.here hx rfl (hb hby d4_36) rfl ((if0 _ _).trans (teq hc36_10).2) k) ?_
      refine own_step (fun t k => XS.aloadN X8.here hx rfl (hb hby d4_39) rfl rfl k) ?_
      show own_Ends p.tables e below s _ _ _ (T8.setTop (mkF m 40 #[.val (.ref o0_4), .val (.long y1_4), .second, .val (.long y2_4), .second, .val (.int (nT - (1 : Int32))), .val (.int (own_h y1_4 y2_4 nT))] [(.ref o0_4)]))
      obtain ⟨T11, X11, e11, st11⟩ := getF X8 hx hZ hown (host := "") (Or.inl (hw _ (List.mem_of_getElem? (i := 13) rfl))) Via.refl e8 F_ys_o0_4 (g := (mkF m 40 #[.val (.ref o0_4), .val (.long y1_4), .second, .val (.long y2_4), .second, .val (.int (nT - (1 : Int32))), .val (.int (own_h y1_4 y2_4 nT))] [(.ref o0_4)])) rfl rfl (hb hby d4_40)
      refine own_step (fun t k => st11 _ k) ?_
      refine own_step (fun t k => XS.iload X11.here hx rfl (hb hby d4_43) rfl k) ?_
      show own_Ends p.tables e below s _ _ _ (T11.setTop (mkF m 45 #[.val (.ref o0_4), .val (.long y1_4), .second, .val (.long y2_4), .second, .val (.int (nT - (1 : Int32))), .val (.int (own_h y1_4 y2_4 nT))] [(.int (own_h y1_4 y2_4 nT)), (.ref w_ys_o0_4)]))
      obtain ⟨cl12, Ar12, S12, N12, G12⟩ := id V_w_ys_o0_4
      have hr12 : ¬ (own_h y1_4 y2_4 nT) < 0 ∧ (own_h y1_4 y2_4 nT) < nT := (own_rng _ _ hnT)
      have hin12 : ¬ ((own_h y1_4 y2_4 nT) < 0 ∨ cl12.slots.size ≤ ((own_h y1_4 y2_4 nT)).toNatClampNeg) := inb_of S12 hr12
      have hat12 : cl12.slots[((own_h y1_4 y2_4 nT)).toNatClampNeg]? = some (.long (Ys (own_h y1_4 y2_4 nT))) := G12 _ hr12.1 hr12.2
      refine own_step (fun t k => X11.laload hx (j := (own_h y1_4 y2_4 nT)) (v := (.long (Ys (own_h y1_4 y2_4 nT)))) (by rw [e11]; exact Ar12.1) (State.isArrayOf_alike hZ.alike Ar12.2.1) Ar12.2.2 hin12 hat12 (g := (mkF m 45 #[.val (.ref o0_4), .val (.long y1_4), .second, .val (.long y2_4), .second, .val (.int (nT - (1 : Int32))), .val (.int (own_h y1_4 y2_4 nT))] [(.int (own_h y1_4 y2_4 nT)), (.ref w_ys_o0_4)])) rfl rfl (hb hby d4_45) _ k) ?_
      refine own_step (fun t k => XS.lloadN X11.here hx rfl (hb hby d4_46) rfl k) ?_
      refine own_step (fun t k => XS.lcmp X11.here hx rfl (hb hby d4_47) rfl k) ?_
      show own_Ends p.tables e below s _ _ _ (T11.setTop (mkF m 48 #[.val (.ref o0_4), .val (.long y1_4), .second, .val (.long y2_4), .second, .val (.int (nT - (1 : Int32))), .val (.int (own_h y1_4 y2_4 nT))] [(.int (lcmpW (Ys (own_h y1_4 y2_4 nT)) y2_4))]))
      by_cases hc48_13 : (lcmpW (Ys (own_h y1_4 y2_4 nT)) y2_4) = (0 : Int32)
      · skip
        refine own_step (fun t k => XS.ifYes X11.here hx rfl (pc0 := 48) (pc' := 63) rfl (hb hby d4_48) rfl ((if0 _ _).trans (teq hc48_13).1) (by decide) (by decide) k) ?_
        refine own_step (fun t k => XS.iload X11.here hx rfl (hb hby d4_63) rfl k) ?_
        show own_Ends p.tables e below s _ _ _ (T11.setTop (mkF m 65 #[.val (.ref o0_4), .val (.long y1_4), .second, .val (.long y2_4), .second, .val (.int (nT - (1 : Int32))), .val (.int (own_h y1_4 y2_4 nT))] [(.int (own_h y1_4 y2_4 nT))]))
        exact own_retI X11 hx Bd.returns (hb hby d4_65) hnl (by rw [e11]; exact ⟨(congrArg (fun z => some (Value.int z)) (Eq.symm (show (own_r4 y1_4 y2_4 nT num Xs Ys) = (own_h y1_4 y2_4 nT) from by unfold own_r4; rw [if_neg hc24_7, if_pos hc36_10, if_pos hc48_13]))), N4, rfl⟩) (by decide) (by decide)
      · skip
        refine own_step (fun t k => XS.ifNo X11.here hx rfl (hb hby d4_48) rfl ((if0 _ _).trans (feq hc48_13).1) k) ?_
        refine own_step (fun t k => XS.iload X11.here hx rfl (hb hby d4_51) rfl k) ?_
        refine own_step (fun t k => XS.iconst X11.here hx rfl (hb hby d4_53) k) ?_
        refine own_step (fun t k => XS.iadd X11.here hx rfl (hb hby d4_54) rfl k) ?_
        refine own_step (fun t k => XS.iload X11.here hx rfl (hb hby d4_55) rfl k) ?_
        refine own_step (fun t k => XS.iand X11.here hx rfl (hb hby d4_57) rfl k) ?_
        refine own_step (fun t k => XS.istore X11.here hx rfl (hb hby d4_58) rfl (l' := #[.val (.ref o0_4), .val (.long y1_4), .second, .val (.long y2_4), .second, .val (.int (nT - (1 : Int32))), .val (.int (own_nx nT (own_h y1_4 y2_4 nT)))]) rfl k) ?_
        show own_Ends p.tables e below s _ _ _ (T11.setTop (mkF m 60 #[.val (.ref o0_4), .val (.long y1_4), .second, .val (.long y2_4), .second, .val (.int (nT - (1 : Int32))), .val (.int (own_nx nT (own_h y1_4 y2_4 nT)))] []))
        refine own_step (fun t k => XS.goto X11.here hx rfl (pc0 := 60) (pc' := 17) rfl (hb hby d4_60) (by decide) (by decide) k) ?_
        refine own_step (fun t k => XS.aloadN X11.here hx rfl (hb hby d4_17) rfl rfl k) ?_
        show own_Ends p.tables e below s _ _ _ (T11.setTop (mkF m 18 #[.val (.ref o0_4), .val (.long y1_4), .second, .val (.long y2_4), .second, .val (.int (nT - (1 : Int32))), .val (.int (own_nx nT (own_h y1_4 y2_4 nT)))] [(.ref o0_4)]))
        obtain ⟨T14, X14, e14, st14⟩ := getF X11 hx hZ hown (host := "") (Or.inl (hw _ (List.mem_of_getElem? (i := 16) rfl))) Via.refl e11 F_numbers_o0_4 (g := (mkF m 18 #[.val (.ref o0_4), .val (.long y1_4), .second, .val (.long y2_4), .second, .val (.int (nT - (1 : Int32))), .val (.int (own_nx nT (own_h y1_4 y2_4 nT)))] [(.ref o0_4)])) rfl rfl (hb hby d4_18)
        refine own_step (fun t k => st14 _ k) ?_
        refine own_step (fun t k => XS.iload X14.here hx rfl (hb hby d4_21) rfl k) ?_
        show own_Ends p.tables e below s _ _ _ (T14.setTop (mkF m 23 #[.val (.ref o0_4), .val (.long y1_4), .second, .val (.long y2_4), .second, .val (.int (nT - (1 : Int32))), .val (.int (own_nx nT (own_h y1_4 y2_4 nT)))] [(.int (own_nx nT (own_h y1_4 y2_4 nT))), (.ref w_numbers_o0_4)]))
        obtain ⟨cl15, Ar15, S15, N15, G15⟩ := id V_w_numbers_o0_4
        have hr15 : ¬ (own_nx nT (own_h y1_4 y2_4 nT)) < 0 ∧ (own_nx nT (own_h y1_4 y2_4 nT)) < nT := (own_rng _ _ hnT)
        have hin15 : ¬ ((own_nx nT (own_h y1_4 y2_4 nT)) < 0 ∨ cl15.slots.size ≤ ((own_nx nT (own_h y1_4 y2_4 nT))).toNatClampNeg) := inb_of S15 hr15
        have hat15 : cl15.slots[((own_nx nT (own_h y1_4 y2_4 nT))).toNatClampNeg]? = some (.int (num (own_nx nT (own_h y1_4 y2_4 nT)))) := G15 _ hr15.1 hr15.2
        refine own_step (fun t k => X14.iaload hx (j := (own_nx nT (own_h y1_4 y2_4 nT))) (v := (.int (num (own_nx nT (own_h y1_4 y2_4 nT))))) (by rw [e14]; exact Ar15.1) (State.isArrayOf_alike hZ.alike Ar15.2.1) Ar15.2.2 hin15 hat15 (g := (mkF m 23 #[.val (.ref o0_4), .val (.long y1_4), .second, .val (.long y2_4), .second, .val (.int (nT - (1 : Int32))), .val (.int (own_nx nT (own_h y1_4 y2_4 nT)))] [(.int (own_nx nT (own_h y1_4 y2_4 nT))), (.ref w_numbers_o0_4)])) rfl rfl (hb hby d4_23) _ k) ?_
        show own_Ends p.tables e below s _ _ _ (T14.setTop (mkF m 24 #[.val (.ref o0_4), .val (.long y1_4), .second, .val (.long y2_4), .second, .val (.int (nT - (1 : Int32))), .val (.int (own_nx nT (own_h y1_4 y2_4 nT)))] [(.int (num (own_nx nT (own_h y1_4 y2_4 nT))))]))
        by_cases hc24_16 : (num (own_nx nT (own_h y1_4 y2_4 nT))) = (0 : Int32)
        · skip
          refine own_step (fun t k => XS.ifYes X14.here hx rfl (pc0 := 24) (pc' := 63) rfl (hb hby d4_24) rfl ((if0 _ _).trans (teq hc24_16).1) (by decide) (by decide) k) ?_
          refine own_step (fun t k => XS.iload X14.here hx rfl (hb hby d4_63) rfl k) ?_
          show own_Ends p.tables e below s _ _ _ (T14.setTop (mkF m 65 #[.val (.ref o0_4), .val (.long y1_4), .second, .val (.long y2_4), .second, .val (.int (nT - (1 : Int32))), .val (.int (own_nx nT (own_h y1_4 y2_4 nT)))] [(.int (own_nx nT (own_h y1_4 y2_4 nT)))]))
          exact own_retI X14 hx Bd.returns (hb hby d4_65) hnl (by rw [e14]; exact ⟨(congrArg (fun z => some (Value.int z)) (Eq.symm (show (own_r4 y1_4 y2_4 nT num Xs Ys) = (own_nx nT (own_h y1_4 y2_4 nT)) from by unfold own_r4; rw [if_neg hc24_7, if_pos hc36_10, if_neg hc48_13, if_pos hc24_16]))), N4, rfl⟩) (by decide) (by decide)
        · skip
          refine own_step (fun t k => XS.ifNo X14.here hx rfl (hb hby d4_24) rfl ((if0 _ _).trans (feq hc24_16).1) k) ?_
          refine own_step (fun t k => XS.aloadN X14.here hx rfl (hb hby d4_27) rfl rfl k) ?_
          show own_Ends p.tables e below s _ _ _ (T14.setTop (mkF m 28 #[.val (.ref o0_4), .val (.long y1_4), .second, .val (.long y2_4), .second, .val (.int (nT - (1 : Int32))), .val (.int (own_nx nT (own_h y1_4 y2_4 nT)))] [(.ref o0_4)]))
          obtain ⟨T17, X17, e17, st17⟩ := getF X14 hx hZ hown (host := "") (Or.inl (hw _ (List.mem_of_getElem? (i := 11) rfl))) Via.refl e14 F_xs_o0_4 (g := (mkF m 28 #[.val (.ref o0_4), .val (.long y1_4), .second, .val (.long y2_4), .second, .val (.int (nT - (1 : Int32))), .val (.int (own_nx nT (own_h y1_4 y2_4 nT)))] [(.ref o0_4)])) rfl rfl (hb hby d4_28)
          refine own_step (fun t k => st17 _ k) ?_
          refine own_step (fun t k => XS.iload X17.here hx rfl (hb hby d4_31) rfl k) ?_
          show own_Ends p.tables e below s _ _ _ (T17.setTop (mkF m 33 #[.val (.ref o0_4), .val (.long y1_4), .second, .val (.long y2_4), .second, .val (.int (nT - (1 : Int32))), .val (.int (own_nx nT (own_h y1_4 y2_4 nT)))] [(.int (own_nx nT (own_h y1_4 y2_4 nT))), (.ref w_xs_o0_4)]))
          obtain ⟨cl18, Ar18, S18, N18, G18⟩ := id V_w_xs_o0_4
          have hr18 : ¬ (own_nx nT (own_h y1_4 y2_4 nT)) < 0 ∧ (own_nx nT (own_h y1_4 y2_4 nT)) < nT := (own_rng _ _ hnT)
          have hin18 : ¬ ((own_nx nT (own_h y1_4 y2_4 nT)) < 0 ∨ cl18.slots.size ≤ ((own_nx nT (own_h y1_4 y2_4 nT))).toNatClampNeg) := inb_of S18 hr18
          have hat18 : cl18.slots[((own_nx nT (own_h y1_4 y2_4 nT))).toNatClampNeg]? = some (.long (Xs (own_nx nT (own_h y1_4 y2_4 nT)))) := G18 _ hr18.1 hr18.2
          refine own_step (fun t k => X17.laload hx (j := (own_nx nT (own_h y1_4 y2_4 nT))) (v := (.long (Xs (own_nx nT (own_h y1_4 y2_4 nT))))) (by rw [e17]; exact Ar18.1) (State.isArrayOf_alike hZ.alike Ar18.2.1) Ar18.2.2 hin18 hat18 (g := (mkF m 33 #[.val (.ref o0_4), .val (.long y1_4), .second, .val (.long y2_4), .second, .val (.int (nT - (1 : Int32))), .val (.int (own_nx nT (own_h y1_4 y2_4 nT)))] [(.int (own_nx nT (own_h y1_4 y2_4 nT))), (.ref w_xs_o0_4)])) rfl rfl (hb hby d4_33) _ k) ?_
          refine own_step (fun t k => XS.lloadN X17.here hx rfl (hb hby d4_34) rfl k) ?_
          refine own_step (fun t k => XS.lcmp X17.here hx rfl (hb hby d4_35) rfl k) ?_
          show own_Ends p.tables e below s _ _ _ (T17.setTop (mkF m 36 #[.val (.ref o0_4), .val (.long y1_4), .second, .val (.long y2_4), .second, .val (.int (nT - (1 : Int32))), .val (.int (own_nx nT (own_h y1_4 y2_4 nT)))] [(.int (lcmpW (Xs (own_nx nT (own_h y1_4 y2_4 nT))) y1_4))]))
          by_cases hc36_19 : (lcmpW (Xs (own_nx nT (own_h y1_4 y2_4 nT))) y1_4) = (0 : Int32)
          · skip
            refine own_step (fun t k => XS.ifNo X17.here hx rfl (hb hby d4_36) rfl ((if0 _ _).trans (teq hc36_19).2) k) ?_
            refine own_step (fun t k => XS.aloadN X17.here hx rfl (hb hby d4_39) rfl rfl k) ?_
            show own_Ends p.tables e below s _ _ _ (T17.setTop (mkF m 40 #[.val (.ref o0_4), .val (.long y1_4), .second, .val (.long y2_4), .second, .val (.int (nT - (1 : Int32))), .val (.int (own_nx nT (own_h y1_4 y2_4 nT)))] [(.ref o0_4)]))
            obtain ⟨T20, X20, e20, st20⟩ := getF X17 hx hZ hown (host := "") (Or.inl (hw _ (List.mem_of_getElem? (i := 13) rfl))) Via.refl e17 F_ys_o0_4 (g := (mkF m 40 #[.val (.ref o0_4), .val (.long y1_4), .second, .val (.long y2_4), .second, .val (.int (nT - (1 : Int32))), .val (.int (own_nx nT (own_h y1_4 y2_4 nT)))] [(.ref o0_4)])) rfl rfl (hb hby d4_40)
            refine own_step (fun t k => st20 _ k) ?_
            refine own_step (fun t k => XS.iload X20.here hx rfl (hb hby d4_43) rfl k) ?_
            show own_Ends p.tables e below s _ _ _ (T20.setTop (mkF m 45 #[.val (.ref o0_4), .val (.long y1_4), .second, .val (.long y2_4), .second, .val (.int (nT - (1 : Int32))), .val (.int (own_nx nT (own_h y1_4 y2_4 nT)))] [(.int (own_nx nT (own_h y1_4 y2_4 nT))), (.ref w_ys_o0_4)]))
            obtain ⟨cl21, Ar21, S21, N21, G21⟩ := id V_w_ys_o0_4
            have hr21 : ¬ (own_nx nT (own_h y1_4 y2_4 nT)) < 0 ∧ (own_nx nT (own_h y1_4 y2_4 nT)) < nT := (own_rng _ _ hnT)
            have hin21 : ¬ ((own_nx nT (own_h y1_4 y2_4 nT)) < 0 ∨ cl21.slots.size ≤ ((own_nx nT (own_h y1_4 y2_4 nT))).toNatClampNeg) := inb_of S21 hr21
            have hat21 : cl21.slots[((own_nx nT (own_h y1_4 y2_4 nT))).toNatClampNeg]? = some (.long (Ys (own_nx nT (own_h y1_4 y2_4 nT)))) := G21 _ hr21.1 hr21.2
            refine own_step (fun t k => X20.laload hx (j := (own_nx nT (own_h y1_4 y2_4 nT))) (v := (.long (Ys (own_nx nT (own_h y1_4 y2_4 nT))))) (by rw [e20]; exact Ar21.1) (State.isArrayOf_alike hZ.alike Ar21.2.1) Ar21.2.2 hin21 hat21 (g := (mkF m 45 #[.val (.ref o0_4), .val (.long y1_4), .second, .val (.long y2_4), .second, .val (.int (nT - (1 : Int32))), .val (.int (own_nx nT (own_h y1_4 y2_4 nT)))] [(.int (own_nx nT (own_h y1_4 y2_4 nT))), (.ref w_ys_o0_4)])) rfl rfl (hb hby d4_45) _ k) ?_
            refine own_step (fun t k => XS.lloadN X20.here hx rfl (hb hby d4_46) rfl k) ?_
            refine own_step (fun t k => XS.lcmp X20.here hx rfl (hb hby d4_47) rfl k) ?_
            show own_Ends p.tables e below s _ _ _ (T20.setTop (mkF m 48 #[.val (.ref o0_4), .val (.long y1_4), .second, .val (.long y2_4), .second, .val (.int (nT - (1 : Int32))), .val (.int (own_nx nT (own_h y1_4 y2_4 nT)))] [(.int (lcmpW (Ys (own_nx nT (own_h y1_4 y2_4 nT))) y2_4))]))
            by_cases hc48_22 : (lcmpW (Ys (own_nx nT (own_h y1_4 y2_4 nT))) y2_4) = (0 : Int32)
            · skip
              refine own_step (fun t k => XS.ifYes X20.here hx rfl (pc0 := 48) (pc' := 63) rfl (hb hby d4_48) rfl ((if0 _ _).trans (teq hc48_22).1) (by decide) (by decide) k) ?_
              refine own_step (fun t k => XS.iload X20.here hx rfl (hb hby d4_63) rfl k) ?_
              show own_Ends p.tables e below s _ _ _ (T20.setTop (mkF m 65 #[.val (.ref o0_4), .val (.long y1_4), .second, .val (.long y2_4), .second, .val (.int (nT - (1 : Int32))), .val (.int (own_nx nT (own_h y1_4 y2_4 nT)))] [(.int (own_nx nT (own_h y1_4 y2_4 nT)))]))
              exact own_retI X20 hx Bd.returns (hb hby d4_65) hnl (by rw [e20]; exact ⟨(congrArg (fun z => some (Value.int z)) (Eq.symm (show (own_r4 y1_4 y2_4 nT num Xs Ys) = (own_nx nT (own_h y1_4 y2_4 nT)) from by unfold own_r4; rw [if_neg hc24_7, if_pos hc36_10, if_neg hc48_13, if_neg hc24_16, if_pos hc36_19, if_pos hc48_22]))), N4, rfl⟩) (by decide) (by decide)
            · skip
              refine own_step (fun t k => XS.ifNo X20.here hx rfl (hb hby d4_48) rfl ((if0 _ _).trans (feq hc48_22).1) k) ?_
              refine own_step (fun t k => XS.iload X20.here hx rfl (hb hby d4_51) rfl k) ?_
              refine own_step (fun t k => XS.iconst X20.here hx rfl (hb hby d4_53) k) ?_
              refine own_step (fun t k => XS.iadd X20.here hx rfl (hb hby d4_54) rfl k) ?_
              refine own_step (fun t k => XS.iload X20.here hx rfl (hb hby d4_55) rfl k) ?_
              refine own_step (fun t k => XS.iand X20.here hx rfl (hb hby d4_57) rfl k) ?_
              refine own_step (fun t k => XS.istore X20.here hx rfl (hb hby d4_58) rfl (l' := #[.val (.ref o0_4), .val (.long y1_4), .second, .val (.long y2_4), .second, .val (.int (nT - (1 : Int32))), .val (.int (own_nx nT (own_nx nT (own_h y1_4 y2_4 nT))))]) rfl k) ?_
              show own_Ends p.tables e below s _ _ _ (T20.setTop (mkF m 60 #[.val (.ref o0_4), .val (.long y1_4), .second, .val (.long y2_4), .second, .val (.int (nT - (1 : Int32))), .val (.int (own_nx nT (own_nx nT (own_h y1_4 y2_4 nT))))] []))
              refine own_step (fun t k => XS.goto X20.here hx rfl (pc0 := 60) (pc' := 17) rfl (hb hby d4_60) (by decide) (by decide) k) ?_
              refine own_step (fun t k => XS.aloadN X20.here hx rfl (hb hby d4_17) rfl rfl k) ?_
              show own_Ends p.tables e below s _ _ _ (T20.setTop (mkF m 18 #[.val (.ref o0_4), .val (.long y1_4), .second, .val (.long y2_4), .second, .val (.int (nT - (1 : Int32))), .val (.int (own_nx nT (own_nx nT (own_h y1_4 y2_4 nT))))] [(.ref o0_4)]))
              obtain ⟨T23, X23, e23, st23⟩ := getF X20 hx hZ hown (host := "") (Or.inl (hw _ (List.mem_of_getElem? (i := 16) rfl))) Via.refl e20 F_numbers_o0_4 (g := (mkF m 18 #[.val (.ref o0_4), .val (.long y1_4), .second, .val (.long y2_4), .second, .val (.int (nT - (1 : Int32))), .val (.int (own_nx nT (own_nx nT (own_h y1_4 y2_4 nT))))] [(.ref o0_4)])) rfl rfl (hb hby d4_18)
              refine own_step (fun t k => st23 _ k) ?_
              refine own_step (fun t k => XS.iload X23.here hx rfl (hb hby d4_21) rfl k) ?_
              show own_Ends p.tables e below s _ _ _ (T23.setTop (mkF m 23 #[.val (.ref o0_4), .val (.long y1_4), .second, .val (.long y2_4), .second, .val (.int (nT - (1 : Int32))), .val (.int (own_nx nT (own_nx nT (own_h y1_4 y2_4 nT))))] [(.int (own_nx nT (own_nx nT (own_h y1_4 y2_4 nT)))), (.ref w_numbers_o0_4)]))
              obtain ⟨cl24, Ar24, S24, N24, G24⟩ := id V_w_numbers_o0_4
              have hr24 : ¬ (own_nx nT (own_nx nT (own_h y1_4 y2_4 nT))) < 0 ∧ (own_nx nT (own_nx nT (own_h y1_4 y2_4 nT))) < nT := (own_rng _ _ hnT)
              have hin24 : ¬ ((own_nx nT (own_nx nT (own_h y1_4 y2_4 nT))) < 0 ∨ cl24.slots.size ≤ ((own_nx nT (own_nx nT (own_h y1_4 y2_4 nT)))).toNatClampNeg) := inb_of S24 hr24
              have hat24 : cl24.slots[((own_nx nT (own_nx nT (own_h y1_4 y2_4 nT)))).toNatClampNeg]? = some (.int (num (own_nx nT (own_nx nT (own_h y1_4 y2_4 nT))))) := G24 _ hr24.1 hr24.2
              refine own_step (fun t k => X23.iaload hx (j := (own_nx nT (own_nx nT (own_h y1_4 y2_4 nT)))) (v := (.int (num (own_nx nT (own_nx nT (own_h y1_4 y2_4 nT)))))) (by rw [e23]; exact Ar24.1) (State.isArrayOf_alike hZ.alike Ar24.2.1) Ar24.2.2 hin24 hat24 (g := (mkF m 23 #[.val (.ref o0_4), .val (.long y1_4), .second, .val (.long y2_4), .second, .val (.int (nT - (1 : Int32))), .val (.int (own_nx nT (own_nx nT (own_h y1_4 y2_4 nT))))] [(.int (own_nx nT (own_nx nT (own_h y1_4 y2_4 nT)))), (.ref w_numbers_o0_4)])) rfl rfl (hb hby d4_23) _ k) ?_
              show own_Ends p.tables e below s _ _ _ (T23.setTop (mkF m 24 #[.val (.ref o0_4), .val (.long y1_4), .second, .val (.long y2_4), .second, .val (.int (nT - (1 : Int32))), .val (.int (own_nx nT (own_nx nT (own_h y1_4 y2_4 nT))))] [(.int (num (own_nx nT (own_nx nT (own_h y1_4 y2_4 nT)))))]))
              have hc25 : (num (own_nx nT (own_nx nT (own_h y1_4 y2_4 nT)))) = (0 : Int32) := (hst _ hc24_7 hc24_16)
              refine own_step (fun t k => XS.ifYes X23.here hx rfl (pc0 := 24) (pc' := 63) rfl (hb hby d4_24) rfl ((if0 _ _).trans (teq hc25).1) (by decide) (by decide) k) ?_
              refine own_step (fun t k => XS.iload X23.here hx rfl (hb hby d4_63) rfl k) ?_
              show own_Ends p.tables e below s _ _ _ (T23.setTop (mkF m 65 #[.val (.ref o0_4), .val (.long y1_4), .second, .val (.long y2_4), .second, .val (.int (nT - (1 : Int32))), .val (.int (own_nx nT (own_nx nT (own_h y1_4 y2_4 nT))))] [(.int (own_nx nT (own_nx nT (own_h y1_4 y2_4 nT))))]))
              exact own_retI X23 hx Bd.returns (hb hby d4_65) hnl (by rw [e23]; exact ⟨(congrArg (fun z => some (Value.int z)) (Eq.symm (show (own_r4 y1_4 y2_4 nT num Xs Ys) = (own_nx nT (own_nx nT (own_h y1_4 y2_4 nT))) from by unfold own_r4; rw [if_neg hc24_7, if_pos hc36_10, if_neg hc48_13, if_neg hc24_16, if_pos hc36_19, if_neg hc48_22]))), N4, rfl⟩) (by decide) (by decide)
          · skip
            refine own_step (fun t k => XS.ifYes X17.here hx rfl (pc0 := 36) (pc' := 51) rfl (hb hby d4_36) rfl ((if0 _ _).trans (feq hc36_19).2) (by decide) (by decide) k) ?_
            refine own_step (fun t k => XS.iload X17.here hx rfl (hb hby d4_51) rfl k) ?_
            refine own_step (fun t k => XS.iconst X17.here hx rfl (hb hby d4_53) k) ?_
            refine own_step (fun t k => XS.iadd X17.here hx rfl (hb hby d4_54) rfl k) ?_
            refine own_step (fun t k => XS.iload X17.here hx rfl (hb hby d4_55) rfl k) ?_
            refine own_step (fun t k => XS.iand X17.here hx rfl (hb hby d4_57) rfl k) ?_
            refine own_step (fun t k => XS.istore X17.here hx rfl (hb hby d4_58) rfl (l' := #[.val (.ref o0_4), .val (.long y1_4), .second, .val (.long y2_4), .second, .val (.int (nT - (1 : Int32))), .val (.int (own_nx nT (own_nx nT (own_h y1_4 y2_4 nT))))]) rfl k) ?_
            show own_Ends p.tables e below s _ _ _ (T17.setTop (mkF m 60 #[.val (.ref o0_4), .val (.long y1_4), .second, .val (.long y2_4), .second, .val (.int (nT - (1 : Int32))), .val (.int (own_nx nT (own_nx nT (own_h y1_4 y2_4 nT))))] []))
            refine own_step (fun t k => XS.goto X17.here hx rfl (pc0 := 60) (pc' := 17) rfl (hb hby d4_60) (by decide) (by decide) k) ?_
            refine own_step (fun t k => XS.aloadN X17.here hx rfl (hb hby d4_17) rfl rfl k) ?_
            show own_Ends p.tables e below s _ _ _ (T17.setTop (mkF m 18 #[.val (.ref o0_4), .val (.long y1_4), .second, .val (.long y2_4), .second, .val (.int (nT - (1 : Int32))), .val (.int (own_nx nT (own_nx nT (own_h y1_4 y2_4 nT))))] [(.ref o0_4)]))
            obtain ⟨T26, X26, e26, st26⟩ := getF X17 hx hZ hown (host := "") (Or.inl (hw _ (List.mem_of_getElem? (i := 16) rfl))) Via.refl e17 F_numbers_o0_4 (g := (mkF m 18 #[.val (.ref o0_4), .val (.long y1_4), .second, .val (.long y2_4), .second, .val (.int (nT - (1 : Int32))), .val (.int (own_nx nT (own_nx nT (own_h y1_4 y2_4 nT))))] [(.ref o0_4)])) rfl rfl (hb hby d4_18)
            refine own_step (fun t k => st26 _ k) ?_
            refine own_step (fun t k => XS.iload X26.here hx rfl (hb hby d4_21) rfl k) ?_
            show own_Ends p.tables e below s _ _ _ (T26.setTop (mkF m 23 #[.val (.ref o0_4), .val (.long y1_4), .second, .val (.long y2_4), .second, .val (.int (nT - (1 : Int32))), .val (.int (own_nx nT (own_nx nT (own_h y1_4 y2_4 nT))))] [(.int (own_nx nT (own_nx nT (own_h y1_4 y2_4 nT)))), (.ref w_numbers_o0_4)]))
            obtain ⟨cl27, Ar27, S27, N27, G27⟩ := id V_w_numbers_o0_4
            have hr27 : ¬ (own_nx nT (own_nx nT (own_h y1_4 y2_4 nT))) < 0 ∧ (own_nx nT (own_nx nT (own_h y1_4 y2_4 nT))) < nT := (own_rng _ _ hnT)
            have hin27 : ¬ ((own_nx nT (own_nx nT (own_h y1_4 y2_4 nT))) < 0 ∨ cl27.slots.size ≤ ((own_nx nT (own_nx nT (own_h y1_4 y2_4 nT)))).toNatClampNeg) := inb_of S27 hr27
            have hat27 : cl27.slots[((own_nx nT (own_nx nT (own_h y1_4 y2_4 nT)))).toNatClampNeg]? = some (.int (num (own_nx nT (own_nx nT (own_h y1_4 y2_4 nT))))) := G27 _ hr27.1 hr27.2
            refine own_step (fun t k => X26.iaload hx (j := (own_nx nT (own_nx nT (own_h y1_4 y2_4 nT)))) (v := (.int (num (own_nx nT (own_nx nT (own_h y1_4 y2_4 nT)))))) (by rw [e26]; exact Ar27.1) (State.isArrayOf_alike hZ.alike Ar27.2.1) Ar27.2.2 hin27 hat27 (g := (mkF m 23 #[.val (.ref o0_4), .val (.long y1_4), .second, .val (.long y2_4), .second, .val (.int (nT - (1 : Int32))), .val (.int (own_nx nT (own_nx nT (own_h y1_4 y2_4 nT))))] [(.int (own_nx nT (own_nx nT (own_h y1_4 y2_4 nT)))), (.ref w_numbers_o0_4)])) rfl rfl (hb hby d4_23) _ k) ?_
            show own_Ends p.tables e below s _ _ _ (T26.setTop (mkF m 24 #[.val (.ref o0_4), .val (.long y1_4), .second, .val (.long y2_4), .second, .val (.int (nT - (1 : Int32))), .val (.int (own_nx nT (own_nx nT (own_h y1_4 y2_4 nT))))] [(.int (num (own_nx nT (own_nx nT (own_h y1_4 y2_4 nT)))))]))
            have hc28 : (num (own_nx nT (own_nx nT (own_h y1_4 y2_4 nT)))) = (0 : Int32) := (hst _ hc24_7 hc24_16)
            refine own_step (fun t k => XS.ifYes X26.here hx rfl (pc0 := 24) (pc' := 63) rfl (hb hby d4_24) rfl ((if0 _ _).trans (teq hc28).1) (by decide) (by decide) k) ?_
            refine own_step (fun t k => XS.iload X26.here hx rfl (hb hby d4_63) rfl k) ?_
            show own_Ends p.tables e below s _ _ _ (T26.setTop (mkF m 65 #[.val (.ref o0_4), .val (.long y1_4), .second, .val (.long y2_4), .second, .val (.int (nT - (1 : Int32))), .val (.int (own_nx nT (own_nx nT (own_h y1_4 y2_4 nT))))] [(.int (own_nx nT (own_nx nT (own_h y1_4 y2_4 nT))))]))
            exact own_retI X26 hx Bd.returns (hb hby d4_65) hnl (by rw [e26]; exact ⟨(congrArg (fun z => some (Value.int z)) (Eq.symm (show (own_r4 y1_4 y2_4 nT num Xs Ys) = (own_nx nT (own_nx nT (own_h y1_4 y2_4 nT))) from by unfold own_r4; rw [if_neg hc24_7, if_pos hc36_10, if_neg hc48_13, if_neg hc24_16, if_neg hc36_19]))), N4, rfl⟩) (by decide) (by decide)
    · skip
      refine own_step (fun t k => XS.ifYes X8.here hx rfl (pc0 := 36) (pc' := 51) rfl (hb hby d4_36) rfl ((if0 _ _).trans (feq hc36_10).2) (by decide) (by decide) k) ?_
      refine own_step (fun t k => XS.iload X8.here hx rfl (hb hby d4_51) rfl k) ?_
      refine own_step (fun t k => XS.iconst X8.here hx rfl (hb hby d4_53) k) ?_
      refine own_step (fun t k => XS.iadd X8.here hx rfl (hb hby d4_54) rfl k) ?_
      refine own_step (fun t k => XS.iload X8.here hx rfl (hb hby d4_55) rfl k) ?_
      refine own_step (fun t k => XS.iand X8.here hx rfl (hb hby d4_57) rfl k) ?_
      refine own_step (fun t k => XS.istore X8.here hx rfl (hb hby d4_58) rfl (l' := #[.val (.ref o0_4), .val (.long y1_4), .second, .val (.long y2_4), .second, .val (.int (nT - (1 : Int32))), .val (.int (own_nx nT (own_h y1_4 y2_4 nT)))]) rfl k) ?_
      show own_Ends p.tables e below s _ _ _ (T8.setTop (mkF m 60 #[.val (.ref o0_4), .val (.long y1_4), .second, .val (.long y2_4), .second, .val (.int (nT - (1 : Int32))), .val (.int (own_nx nT (own_h y1_4 y2_4 nT)))] []))
      refine own_step (fun t k => XS.goto X8.here hx rfl (pc0 := 60) (pc' := 17) rfl (hb hby d4_60) (by decide) (by decide) k) ?_
      refine own_step (fun t k => XS.aloadN X8.here hx rfl (hb hby d4_17) rfl rfl k) ?_
      show own_Ends p.tables e below s _ _ _ (T8.setTop (mkF m 18 #[.val (.ref o0_4), .val (.long y1_4), .second, .val (.long y2_4), .second, .val (.int (nT - (1 : Int32))), .val (.int (own_nx nT (own_h y1_4 y2_4 nT)))] [(.ref o0_4)]))
      obtain ⟨T29, X29, e29, st29⟩ := getF X8 hx hZ hown (host := "") (Or.inl (hw _ (List.mem_of_getElem? (i := 16) rfl))) Via.refl e8 F_numbers_o0_4 (g := (mkF m 18 #[.val (.ref o0_4), .val (.long y1_4), .second, .val (.long y2_4), .second, .val (.int (nT - (1 : Int32))), .val (.int (own_nx nT (own_h y1_4 y2_4 nT)))] [(.ref o0_4)])) rfl rfl (hb hby d4_18)
      refine own_step (fun t k => st29 _ k) ?_
      refine own_step (fun t k => XS.iload X29.here hx rfl (hb hby d4_21) rfl k) ?_
      show own_Ends p.tables e below s _ _ _ (T29.setTop (mkF m 23 #[.val (.ref o0_4), .val (.long y1_4), .second, .val (.long y2_4), .second, .val (.int (nT - (1 : Int32))), .val (.int (own_nx nT (own_h y1_4 y2_4 nT)))] [(.int (own_nx nT (own_h y1_4 y2_4 nT))), (.ref w_numbers_o0_4)]))
      obtain ⟨cl30, Ar30, S30, N30, G30⟩ := id V_w_numbers_o0_4
      have hr30 : ¬ (own_nx nT (own_h y1_4 y2_4 nT)) < 0 ∧ (own_nx nT (own_h y1_4 y2_4 nT)) < nT := (own_rng _ _ hnT)
      have hin30 : ¬ ((own_nx nT (own_h y1_4 y2_4 nT)) < 0 ∨ cl30.slots.size ≤ ((own_nx nT (own_h y1_4 y2_4 nT))).toNatClampNeg) := inb_of S30 hr30
      have hat30 : cl30.slots[((own_nx nT (own_h y1_4 y2_4 nT))).toNatClampNeg]? = some (.int (num (own_nx nT (own_h y1_4 y2_4 nT)))) := G30 _ hr30.1 hr30.2
      refine own_step (fun t k => X29.iaload hx (j := (own_nx nT (own_h y1_4 y2_4 nT))) (v := (.int (num (own_nx nT (own_h y1_4 y2_4 nT))))) (by rw [e29]; exact Ar30.1) (State.isArrayOf_alike hZ.alike Ar30.2.1) Ar30.2.2 hin30 hat30 (g := (mkF m 23 #[.val (.ref o0_4), .val (.long y1_4), .second, .val (.long y2_4), .second, .val (.int (nT - (1 : Int32))), .val (.int (own_nx nT (own_h y1_4 y2_4 nT)))] [(.int (own_nx nT (own_h y1_4 y2_4 nT))), (.ref w_numbers_o0_4)])) rfl rfl (hb hby d4_23) _ k) ?_
      show own_Ends p.tables e below s _ _ _ (T29.setTop (mkF m 24 #[.val (.ref o0_4), .val (.long y1_4), .second, .val (.long y2_4), .second, .val (.int (nT - (1 : Int32))), .val (.int (own_nx nT (own_h y1_4 y2_4 nT)))] [(.int (num (own_nx nT (own_h y1_4 y2_4 nT))))]))
      by_cases hc24_31 : (num (own_nx nT (own_h y1_4 y2_4 nT))) = (0 : Int32)
      · skip
        refine own_step (fun t k => XS.ifYes X29.here hx rfl (pc0 := 24) (pc' := 63) rfl (hb hby d4_24) rfl ((if0 _ _).trans (teq hc24_31).1) (by decide) (by decide) k) ?_
        refine own_step (fun t k => XS.iload X29.here hx rfl (hb hby d4_63) rfl k) ?_
        show own_Ends p.tables e below s _ _ _ (T29.setTop (mkF m 65 #[.val (.ref o0_4), .val (.long y1_4), .second, .val (.long y2_4), .second, .val (.int (nT - (1 : Int32))), .val (.int (own_nx nT (own_h y1_4 y2_4 nT)))] [(.int (own_nx nT (own_h y1_4 y2_4 nT)))]))
        exact own_retI X29 hx Bd.returns (hb hby d4_65) hnl (by rw [e29]; exact ⟨(congrArg (fun z => some (Value.int z)) (Eq.symm (show (own_r4 y1_4 y2_4 nT num Xs Ys) = (own_nx nT (own_h y1_4 y2_4 nT)) from by unfold own_r4; rw [if_neg hc24_7, if_neg hc36_10, if_pos hc24_31]))), N4, rfl⟩) (by decide) (by decide)
      · skip
        refine own_step (fun t k => XS.ifNo X29.here hx rfl (hb hby d4_24) rfl ((if0 _ _).trans (feq hc24_31).1) k) ?_
        refine own_step (fun t k => XS.aloadN X29.here hx rfl (hb hby d4_27) rfl rfl k) ?_
        show own_Ends p.tables e below s _ _ _ (T29.setTop (mkF m 28 #[.val (.ref o0_4), .val (.long y1_4), .second, .val (.long y2_4), .second, .val (.int (nT - (1 : Int32))), .val (.int (own_nx nT (own_h y1_4 y2_4 nT)))] [(.ref o0_4)]))
        obtain ⟨T32, X32, e32, st32⟩ := getF X29 hx hZ hown (host := "") (Or.inl (hw _ (List.mem_of_getElem? (i := 11) rfl))) Via.refl e29 F_xs_o0_4 (g := (mkF m 28 #[.val (.ref o0_4), .val (.long y1_4), .second, .val (.long y2_4), .second, .val (.int (nT - (1 : Int32))), .val (.int (own_nx nT (own_h y1_4 y2_4 nT)))] [(.ref o0_4)])) rfl rfl (hb hby d4_28)
        refine own_step (fun t k => st32 _ k) ?_
        refine own_step (fun t k => XS.iload X32.here hx rfl (hb hby d4_31) rfl k) ?_
        show own_Ends p.tables e below s _ _ _ (T32.setTop (mkF m 33 #[.val (.ref o0_4), .val (.long y1_4), .second, .val (.long y2_4), .second, .val (.int (nT - (1 : Int32))), .val (.int (own_nx nT (own_h y1_4 y2_4 nT)))] [(.int (own_nx nT (own_h y1_4 y2_4 nT))), (.ref w_xs_o0_4)]))
        obtain ⟨cl33, Ar33, S33, N33, G33⟩ := id V_w_xs_o0_4
        have hr33 : ¬ (own_nx nT (own_h y1_4 y2_4 nT)) < 0 ∧ (own_nx nT (own_h y1_4 y2_4 nT)) < nT := (own_rng _ _ hnT)
        have hin33 : ¬ ((own_nx nT (own_h y1_4 y2_4 nT)) < 0 ∨ cl33.slots.size ≤ ((own_nx nT (own_h y1_4 y2_4 nT))).toNatClampNeg) := inb_of S33 hr33
        have hat33 : cl33.slots[((own_nx nT (own_h y1_4 y2_4 nT))).toNatClampNeg]? = some (.long (Xs (own_nx nT (own_h y1_4 y2_4 nT)))) := G33 _ hr33.1 hr33.2
        refine own_step (fun t k => X32.laload hx (j := (own_nx nT (own_h y1_4 y2_4 nT))) (v := (.long (Xs (own_nx nT (own_h y1_4 y2_4 nT))))) (by rw [e32]; exact Ar33.1) (State.isArrayOf_alike hZ.alike Ar33.2.1) Ar33.2.2 hin33 hat33 (g := (mkF m 33 #[.val (.ref o0_4), .val (.long y1_4), .second, .val (.long y2_4), .second, .val (.int (nT - (1 : Int32))), .val (.int (own_nx nT (own_h y1_4 y2_4 nT)))] [(.int (own_nx nT (own_h y1_4 y2_4 nT))), (.ref w_xs_o0_4)])) rfl rfl (hb hby d4_33) _ k) ?_
        refine own_step (fun t k => XS.lloadN X32.here hx rfl (hb hby d4_34) rfl k) ?_
        refine own_step (fun t k => XS.lcmp X32.here hx rfl (hb hby d4_35) rfl k) ?_
        show own_Ends p.tables e below s _ _ _ (T32.setTop (mkF m 36 #[.val (.ref o0_4), .val (.long y1_4), .second, .val (.long y2_4), .second, .val (.int (nT - (1 : Int32))), .val (.int (own_nx nT (own_h y1_4 y2_4 nT)))] [(.int (lcmpW (Xs (own_nx nT (own_h y1_4 y2_4 nT))) y1_4))]))
        by_cases hc36_34 : (lcmpW (Xs (own_nx nT (own_h y1_4 y2_4 nT))) y1_4) = (0 : Int32)
        · skip
          refine own_step (fun t k => XS.ifNo X32.here hx rfl (hb hby d4_36) rfl ((if0 _ _).trans (teq hc36_34).2) k) ?_
          refine own_step (fun t k => XS.aloadN X32.here hx rfl (hb hby d4_39) rfl rfl k) ?_
          show own_Ends p.tables e below s _ _ _ (T32.setTop (mkF m 40 #[.val (.ref o0_4), .val (.long y1_4), .second, .val (.long y2_4), .second, .val (.int (nT - (1 : Int32))), .val (.int (own_nx nT (own_h y1_4 y2_4 nT)))] [(.ref o0_4)]))
          obtain ⟨T35, X35, e35, st35⟩ := getF X32 hx hZ hown (host := "") (Or.inl (hw _ (List.mem_of_getElem? (i := 13) rfl))) Via.refl e32 F_ys_o0_4 (g := (mkF m 40 #[.val (.ref o0_4), .val (.long y1_4), .second, .val (.long y2_4), .second, .val (.int (nT - (1 : Int32))), .val (.int (own_nx nT (own_h y1_4 y2_4 nT)))] [(.ref o0_4)])) rfl rfl (hb hby d4_40)
          refine own_step (fun t k => st35 _ k) ?_
          refine own_step (fun t k => XS.iload X35.here hx rfl (hb hby d4_43) rfl k) ?_
          show own_Ends p.tables e below s _ _ _ (T35.setTop (mkF m 45 #[.val (.ref o0_4), .val (.long y1_4), .second, .val (.long y2_4), .second, .val (.int (nT - (1 : Int32))), .val (.int (own_nx nT (own_h y1_4 y2_4 nT)))] [(.int (own_nx nT (own_h y1_4 y2_4 nT))), (.ref w_ys_o0_4)]))
          obtain ⟨cl36, Ar36, S36, N36, G36⟩ := id V_w_ys_o0_4
          have hr36 : ¬ (own_nx nT (own_h y1_4 y2_4 nT)) < 0 ∧ (own_nx nT (own_h y1_4 y2_4 nT)) < nT := (own_rng _ _ hnT)
          have hin36 : ¬ ((own_nx nT (own_h y1_4 y2_4 nT)) < 0 ∨ cl36.slots.size ≤ ((own_nx nT (own_h y1_4 y2_4 nT))).toNatClampNeg) := inb_of S36 hr36
          have hat36 : cl36.slots[((own_nx nT (own_h y1_4 y2_4 nT))).toNatClampNeg]? = some (.long (Ys (own_nx nT (own_h y1_4 y2_4 nT)))) := G36 _ hr36.1 hr36.2
          refine own_step (fun t k => X35.laload hx (j := (own_nx nT (own_h y1_4 y2_4 nT))) (v := (.long (Ys (own_nx nT (own_h y1_4 y2_4 nT))))) (by rw [e35]; exact Ar36.1) (State.isArrayOf_alike hZ.alike Ar36.2.1) Ar36.2.2 hin36 hat36 (g := (mkF m 45 #[.val (.ref o0_4), .val (.long y1_4), .second, .val (.long y2_4), .second, .val (.int (nT - (1 : Int32))), .val (.int (own_nx nT (own_h y1_4 y2_4 nT)))] [(.int (own_nx nT (own_h y1_4 y2_4 nT))), (.ref w_ys_o0_4)])) rfl rfl (hb hby d4_45) _ k) ?_
          refine own_step (fun t k => XS.lloadN X35.here hx rfl (hb hby d4_46) rfl k) ?_
          refine own_step (fun t k => XS.lcmp X35.here hx rfl (hb hby d4_47) rfl k) ?_
          show own_Ends p.tables e below s _ _ _ (T35.setTop (mkF m 48 #[.val (.ref o0_4), .val (.long y1_4), .second, .val (.long y2_4), .second, .val (.int (nT - (1 : Int32))), .val (.int (own_nx nT (own_h y1_4 y2_4 nT)))] [(.int (lcmpW (Ys (own_nx nT (own_h y1_4 y2_4 nT))) y2_4))]))
          by_cases hc48_37 : (lcmpW (Ys (own_nx nT (own_h y1_4 y2_4 nT))) y2_4) = (0 : Int32)
          · skip
            refine own_step (fun t k => XS.ifYes X35.here hx rfl (pc0 := 48) (pc' := 63) rfl (hb hby d4_48) rfl ((if0 _ _).trans (teq hc48_37).1) (by decide) (by decide) k) ?_
            refine own_step (fun t k => XS.iload X35.here hx rfl (hb hby d4_63) rfl k) ?_
            show own_Ends p.tables e below s _ _ _ (T35.setTop (mkF m 65 #[.val (.ref o0_4), .val (.long y1_4), .second, .val (.long y2_4), .second, .val (.int (nT - (1 : Int32))), .val (.int (own_nx nT (own_h y1_4 y2_4 nT)))] [(.int (own_nx nT (own_h y1_4 y2_4 nT)))]))
            exact own_retI X35 hx Bd.returns (hb hby d4_65) hnl (by rw [e35]; exact ⟨(congrArg (fun z => some (Value.int z)) (Eq.symm (show (own_r4 y1_4 y2_4 nT num Xs Ys) = (own_nx nT (own_h y1_4 y2_4 nT)) from by unfold own_r4; rw [if_neg hc24_7, if_neg hc36_10, if_neg hc24_31, if_pos hc36_34, if_pos hc48_37]))), N4, rfl⟩) (by decide) (by decide)
          · skip
            refine own_step (fun t k => XS.ifNo X35.here hx rfl (hb hby d4_48) rfl ((if0 _ _).trans (feq hc48_37).1) k) ?_
            refine own_step (fun t k => XS.iload X35.here hx rfl (hb hby d4_51) rfl k) ?_
            refine own_step (fun t k => XS.iconst X35.here hx rfl (hb hby d4_53) k) ?_
            refine own_step (fun t k => XS.iadd X35.here hx rfl (hb hby d4_54) rfl k) ?_
            refine own_step (fun t k => XS.iload X35.here hx rfl (hb hby d4_55) rfl k) ?_
            refine own_step (fun t k => XS.iand X35.here hx rfl (hb hby d4_57) rfl k) ?_
            refine own_step (fun t k => XS.istore X35.here hx rfl (hb hby d4_58) rfl (l' := #[.val (.ref o0_4), .val (.long y1_4), .second, .val (.long y2_4), .second, .val (.int (nT - (1 : Int32))), .val (.int (own_nx nT (own_nx nT (own_h y1_4 y2_4 nT))))]) rfl k) ?_
            show own_Ends p.tables e below s _ _ _ (T35.setTop (mkF m 60 #[.val (.ref o0_4), .val (.long y1_4), .second, .val (.long y2_4), .second, .val (.int (nT - (1 : Int32))), .val (.int (own_nx nT (own_nx nT (own_h y1_4 y2_4 nT))))] []))
            refine own_step (fun t k => XS.goto X35.here hx rfl (pc0 := 60) (pc' := 17) rfl (hb hby d4_60) (by decide) (by decide) k) ?_
            refine own_step (fun t k => XS.aloadN X35.here hx rfl (hb hby d4_17) rfl rfl k) ?_
            show own_Ends p.tables e below s _ _ _ (T35.setTop (mkF m 18 #[.val (.ref o0_4), .val (.long y1_4), .second, .val (.long y2_4), .second, .val (.int (nT - (1 : Int32))), .val (.int (own_nx nT (own_nx nT (own_h y1_4 y2_4 nT))))] [(.ref o0_4)]))
            obtain ⟨T38, X38, e38, st38⟩ := getF X35 hx hZ hown (host := "") (Or.inl (hw _ (List.mem_of_getElem? (i := 16) rfl))) Via.refl e35 F_numbers_o0_4 (g := (mkF m 18 #[.val (.ref o0_4), .val (.long y1_4), .second, .val (.long y2_4), .second, .val (.int (nT - (1 : Int32))), .val (.int (own_nx nT (own_nx nT (own_h y1_4 y2_4 nT))))] [(.ref o0_4)])) rfl rfl (hb hby d4_18)
            refine own_step (fun t k => st38 _ k) ?_
            refine own_step (fun t k => XS.iload X38.here hx rfl (hb hby d4_21) rfl k) ?_
            show own_Ends p.tables e below s _ _ _ (T38.setTop (mkF m 23 #[.val (.ref o0_4), .val (.long y1_4), .second, .val (.long y2_4), .second, .val (.int (nT - (1 : Int32))), .val (.int (own_nx nT (own_nx nT (own_h y1_4 y2_4 nT))))] [(.int (own_nx nT (own_nx nT (own_h y1_4 y2_4 nT)))), (.ref w_numbers_o0_4)]))
            obtain ⟨cl39, Ar39, S39, N39, G39⟩ := id V_w_numbers_o0_4
            have hr39 : ¬ (own_nx nT (own_nx nT (own_h y1_4 y2_4 nT))) < 0 ∧ (own_nx nT (own_nx nT (own_h y1_4 y2_4 nT))) < nT := (own_rng _ _ hnT)
            have hin39 : ¬ ((own_nx nT (own_nx nT (own_h y1_4 y2_4 nT))) < 0 ∨ cl39.slots.size ≤ ((own_nx nT (own_nx nT (own_h y1_4 y2_4 nT)))).toNatClampNeg) := inb_of S39 hr39
            have hat39 : cl39.slots[((own_nx nT (own_nx nT (own_h y1_4 y2_4 nT)))).toNatClampNeg]? = some (.int (num (own_nx nT (own_nx nT (own_h y1_4 y2_4 nT))))) := G39 _ hr39.1 hr39.2
            refine own_step (fun t k => X38.iaload hx (j := (own_nx nT (own_nx nT (own_h y1_4 y2_4 nT)))) (v := (.int (num (own_nx nT (own_nx nT (own_h y1_4 y2_4 nT)))))) (by rw [e38]; exact Ar39.1) (State.isArrayOf_alike hZ.alike Ar39.2.1) Ar39.2.2 hin39 hat39 (g := (mkF m 23 #[.val (.ref o0_4), .val (.long y1_4), .second, .val (.long y2_4), .second, .val (.int (nT - (1 : Int32))), .val (.int (own_nx nT (own_nx nT (own_h y1_4 y2_4 nT))))] [(.int (own_nx nT (own_nx nT (own_h y1_4 y2_4 nT)))), (.ref w_numbers_o0_4)])) rfl rfl (hb hby d4_23) _ k) ?_
            show own_Ends p.tables e below s _ _ _ (T38.setTop (mkF m 24 #[.val (.ref o0_4), .val (.long y1_4), .second, .val (.long y2_4), .second, .val (.int (nT - (1 : Int32))), .val (.int (own_nx nT (own_nx nT (own_h y1_4 y2_4 nT))))] [(.int (num (own_nx nT (own_nx nT (own_h y1_4 y2_4 nT)))))]))
            have hc40 : (num (own_nx nT (own_nx nT (own_h y1_4 y2_4 nT)))) = (0 : Int32) := (hst _ hc24_7 hc24_31)
            refine own_step (fun t k => XS.ifYes X38.here hx rfl (pc0 := 24) (pc' := 63) rfl (hb hby d4_24) rfl ((if0 _ _).trans (teq hc40).1) (by decide) (by decide) k) ?_
            refine own_step (fun t k => XS.iload X38.here hx rfl (hb hby d4_63) rfl k) ?_
            show own_Ends p.tables e below s _ _ _ (T38.setTop (mkF m 65 #[.val (.ref o0_4), .val (.long y1_4), .second, .val (.long y2_4), .second, .val (.int (nT - (1 : Int32))), .val (.int (own_nx nT (own_nx nT (own_h y1_4 y2_4 nT))))] [(.int (own_nx nT (own_nx nT (own_h y1_4 y2_4 nT))))]))
            exact own_retI X38 hx Bd.returns (hb hby d4_65) hnl (by rw [e38]; exact ⟨(congrArg (fun z => some (Value.int z)) (Eq.symm (show (own_r4 y1_4 y2_4 nT num Xs Ys) = (own_nx nT (own_nx nT (own_h y1_4 y2_4 nT))) from by unfold own_r4; rw [if_neg hc24_7, if_neg hc36_10, if_neg hc24_31, if_pos hc36_34, if_neg hc48_37]))), N4, rfl⟩) (by decide) (by decide)
        · skip
          refine own_step (fun t k => XS.ifYes X32.here hx rfl (pc0 := 36) (pc' := 51) rfl (hb hby d4_36) rfl ((if0 _ _).trans (feq hc36_34).2) (by decide) (by decide) k) ?_
          refine own_step (fun t k => XS.iload X32.here hx rfl (hb hby d4_51) rfl k) ?_
          refine own_step (fun t k => XS.iconst X32.here hx rfl (hb hby d4_53) k) ?_
          refine own_step (fun t k => XS.iadd X32.here hx rfl (hb hby d4_54) rfl k) ?_
          refine own_step (fun t k => XS.iload X32.here hx rfl (hb hby d4_55) rfl k) ?_
          refine own_step (fun t k => XS.iand X32.here hx rfl (hb hby d4_57) rfl k) ?_
          refine own_step (fun t k => XS.istore X32.here hx rfl (hb hby d4_58) rfl (l' := #[.val (.ref o0_4), .val (.long y1_4), .second, .val (.long y2_4), .second, .val (.int (nT - (1 : Int32))), .val (.int (own_nx nT (own_nx nT (own_h y1_4 y2_4 nT))))]) rfl k) ?_
          show own_Ends p.tables e below s _ _ _ (T32.setTop (mkF m 60 #[.val (.ref o0_4), .val (.long y1_4), .second, .val (.long y2_4), .second, .val (.int (nT - (1 : Int32))), .val (.int (own_nx nT (own_nx nT (own_h y1_4 y2_4 nT))))] []))
          refine own_step (fun t k => XS.goto X32.here hx rfl (pc0 := 60) (pc' := 17) rfl (hb hby d4_60) (by decide) (by decide) k) ?_
          refine own_step (fun t k => XS.aloadN X32.here hx rfl (hb hby d4_17) rfl rfl k) ?_
          show own_Ends p.tables e below s _ _ _ (T32.setTop (mkF m 18 #[.val (.ref o0_4), .val (.long y1_4), .second, .val (.long y2_4), .second, .val (.int (nT - (1 : Int32))), .val (.int (own_nx nT (own_nx nT (own_h y1_4 y2_4 nT))))] [(.ref o0_4)]))
          obtain ⟨T41, X41, e41, st41⟩ := getF X32 hx hZ hown (host := "") (Or.inl (hw _ (List.mem_of_getElem? (i := 16) rfl))) Via.refl e32 F_numbers_o0_4 (g := (mkF m 18 #[.val (.ref o0_4), .val (.long y1_4), .second, .val (.long y2_4), .second, .val (.int (nT - (1 : Int32))), .val (.int (own_nx nT (own_nx nT (own_h y1_4 y2_4 nT))))] [(.ref o0_4)])) rfl rfl (hb hby d4_18)
          refine own_step (fun t k => st41 _ k) ?_
          refine own_step (fun t k => XS.iload X41.here hx rfl (hb hby d4_21) rfl k) ?_
          show own_Ends p.tables e below s _ _ _ (T41.setTop (mkF m 23 #[.val (.ref o0_4), .val (.long y1_4), .second, .val (.long y2_4), .second, .val (.int (nT - (1 : Int32))), .val (.int (own_nx nT (own_nx nT (own_h y1_4 y2_4 nT))))] [(.int (own_nx nT (own_nx nT (own_h y1_4 y2_4 nT)))), (.ref w_numbers_o0_4)]))
          obtain ⟨cl42, Ar42, S42, N42, G42⟩ := id V_w_numbers_o0_4
          have hr42 : ¬ (own_nx nT (own_nx nT (own_h y1_4 y2_4 nT))) < 0 ∧ (own_nx nT (own_nx nT (own_h y1_4 y2_4 nT))) < nT := (own_rng _ _ hnT)
          have hin42 : ¬ ((own_nx nT (own_nx nT (own_h y1_4 y2_4 nT))) < 0 ∨ cl42.slots.size ≤ ((own_nx nT (own_nx nT (own_h y1_4 y2_4 nT)))).toNatClampNeg) := inb_of S42 hr42
          have hat42 : cl42.slots[((own_nx nT (own_nx nT (own_h y1_4 y2_4 nT)))).toNatClampNeg]? = some (.int (num (own_nx nT (own_nx nT (own_h y1_4 y2_4 nT))))) := G42 _ hr42.1 hr42.2
          refine own_step (fun t k => X41.iaload hx (j := (own_nx nT (own_nx nT (own_h y1_4 y2_4 nT)))) (v := (.int (num (own_nx nT (own_nx nT (own_h y1_4 y2_4 nT)))))) (by rw [e41]; exact Ar42.1) (State.isArrayOf_alike hZ.alike Ar42.2.1) Ar42.2.2 hin42 hat42 (g := (mkF m 23 #[.val (.ref o0_4), .val (.long y1_4), .second, .val (.long y2_4), .second, .val (.int (nT - (1 : Int32))), .val (.int (own_nx nT (own_nx nT (own_h y1_4 y2_4 nT))))] [(.int (own_nx nT (own_nx nT (own_h y1_4 y2_4 nT)))), (.ref w_numbers_o0_4)])) rfl rfl (hb hby d4_23) _ k) ?_
          show own_Ends p.tables e below s _ _ _ (T41.setTop (mkF m 24 #[.val (.ref o0_4), .val (.long y1_4), .second, .val (.long y2_4), .second, .val (.int (nT - (1 : Int32))), .val (.int (own_nx nT (own_nx nT (own_h y1_4 y2_4 nT))))] [(.int (num (own_nx nT (own_nx nT (own_h y1_4 y2_4 nT)))))]))
          have hc43 : (num (own_nx nT (own_nx nT (own_h y1_4 y2_4 nT)))) = (0 : Int32) := (hst _ hc24_7 hc24_31)
          refine own_step (fun t k => XS.ifYes X41.here hx rfl (pc0 := 24) (pc' := 63) rfl (hb hby d4_24) rfl ((if0 _ _).trans (teq hc43).1) (by decide) (by decide) k) ?_
          refine own_step (fun t k => XS.iload X41.here hx rfl (hb hby d4_63) rfl k) ?_
          show own_Ends p.tables e below s _ _ _ (T41.setTop (mkF m 65 #[.val (.ref o0_4), .val (.long y1_4), .second, .val (.long y2_4), .second, .val (.int (nT - (1 : Int32))), .val (.int (own_nx nT (own_nx nT (own_h y1_4 y2_4 nT))))] [(.int (own_nx nT (own_nx nT (own_h y1_4 y2_4 nT))))]))
          exact own_retI X41 hx Bd.returns (hb hby d4_65) hnl (by rw [e41]; exact ⟨(congrArg (fun z => some (Value.int z)) (Eq.symm (show (own_r4 y1_4 y2_4 nT num Xs Ys) = (own_nx nT (own_nx nT (own_h y1_4 y2_4 nT))) from by unfold own_r4; rw [if_neg hc24_7, if_neg hc36_10, if_neg hc24_31, if_neg hc36_34]))), N4, rfl⟩) (by decide) (by decide)
theorem own_srng (x y : Int64) (nT : Int32) (num : Int32 → Int32) (Xs Ys : Int32 → Int64) (hn : (0 : Int32) < nT) : ¬ own_r4 x y nT num Xs Ys < 0 ∧ own_r4 x y nT num Xs Ys < nT := by
  unfold own_r4
  repeat' split
  all_goals exact own_rng _ _ hn

def own_r6 (y1_6 : Int64) (y2_6 : Int64) (nT : Int32) (num : Int32 → Int32) (Xs : Int32 → Int64) (Ys : Int32 → Int64) : Int32 := (if (num (own_h y1_6 y2_6 nT)) = (0 : Int32) then ((num (own_h y1_6 y2_6 nT)) - (1 : Int32)) else (if (lcmpW (Xs (own_h y1_6 y2_6 nT)) y1_6) = (0 : Int32) then (if (lcmpW (Ys (own_h y1_6 y2_6 nT)) y2_6) = (0 : Int32) then ((num (own_h y1_6 y2_6 nT)) - (1 : Int32)) else (if (num (own_nx nT (own_h y1_6 y2_6 nT))) = (0 : Int32) then ((num (own_nx nT (own_h y1_6 y2_6 nT))) - (1 : Int32)) else (if (lcmpW (Xs (own_nx nT (own_h y1_6 y2_6 nT))) y1_6) = (0 : Int32) then (if (lcmpW (Ys (own_nx nT (own_h y1_6 y2_6 nT))) y2_6) = (0 : Int32) then ((num (own_nx nT (own_h y1_6 y2_6 nT))) - (1 : Int32)) else ((num (own_nx nT (own_nx nT (own_h y1_6 y2_6 nT)))) - (1 : Int32))) else ((num (own_nx nT (own_nx nT (own_h y1_6 y2_6 nT)))) - (1 : Int32))))) else (if (num (own_nx nT (own_h y1_6 y2_6 nT))) = (0 : Int32) then ((num (own_nx nT (own_h y1_6 y2_6 nT))) - (1 : Int32)) else (if (lcmpW (Xs (own_nx nT (own_h y1_6 y2_6 nT))) y1_6) = (0 : Int32) then (if (lcmpW (Ys (own_nx nT (own_h y1_6 y2_6 nT))) y2_6) = (0 : Int32) then ((num (own_nx nT (own_h y1_6 y2_6 nT))) - (1 : Int32)) else ((num (own_nx nT (own_nx nT (own_h y1_6 y2_6 nT)))) - (1 : Int32))) else ((num (own_nx nT (own_nx nT (own_h y1_6 y2_6 nT)))) - (1 : Int32))))))
theorem d6_0 : decode prog_30_method_4_code 0 = .ok (.aload_n 0, 1) := by decide +kernel
theorem d6_1 : decode prog_30_method_4_code 1 = .ok (.getfield 19, 3) := by decide +kernel
theorem d6_4 : decode prog_30_method_4_code 4 = .ok (.arraylength, 1) := by decide +kernel
theorem d6_5 : decode prog_30_method_4_code 5 = .ok (.iconst 1, 1) := by decide +kernel
theorem d6_6 : decode prog_30_method_4_code 6 = .ok (.isub, 1) := by decide +kernel
theorem d6_7 : decode prog_30_method_4_code 7 = .ok (.istore 5, 2) := by decide +kernel
theorem d6_9 : decode prog_30_method_4_code 9 = .ok (.aload_n 0, 1) := by decide +kernel
theorem d6_10 : decode prog_30_method_4_code 10 = .ok (.lload_n 1, 1) := by decide +kernel
theorem d6_11 : decode prog_30_method_4_code 11 = .ok (.lload_n 3, 1) := by decide +kernel
theorem d6_12 : decode prog_30_method_4_code 12 = .ok (.invokevirtual 27, 3) := by decide +kernel
theorem d6_15 : decode prog_30_method_4_code 15 = .ok (.istore 6, 2) := by decide +kernel
theorem d6_17 : decode prog_30_method_4_code 17 = .ok (.aload_n 0, 1) := by decide +kernel
theorem d6_18 : decode prog_30_method_4_code 18 = .ok (.getfield 19, 3) := by decide +kernel
theorem d6_21 : decode prog_30_method_4_code 21 = .ok (.iload 6, 2) := by decide +kernel
theorem d6_23 : decode prog_30_method_4_code 23 = .ok (.iaload, 1) := by decide +kernel
theorem d6_24 : decode prog_30_method_4_code 24 = .ok (.istore 7, 2) := by decide +kernel
theorem d6_26 : decode prog_30_method_4_code 26 = .ok (.iload 7, 2) := by decide +kernel
theorem d6_28 : decode prog_30_method_4_code 28 = .ok (.ifCond .eq 27, 3) := by decide +kernel
theorem d6_31 : decode prog_30_method_4_code 31 = .ok (.aload_n 0, 1) := by decide +kernel
theorem d6_32 : decode prog_30_method_4_code 32 = .ok (.getfield 12, 3) := by decide +kernel
theorem d6_35 : decode prog_30_method_4_code 35 = .ok (.iload 6, 2) := by decide +kernel
theorem d6_37 : decode prog_30_method_4_code 37 = .ok (.laload, 1) := by decide +kernel
theorem d6_38 : decode prog_30_method_4_code 38 = .ok (.lload_n 1, 1) := by decide +kernel
theorem d6_39 : decode prog_30_method_4_code 39 = .ok (.lcmp, 1) := by decide +kernel
theorem d6_40 : decode prog_30_method_4_code 40 = .ok (.ifCond .ne 20, 3) := by decide +kernel
theorem d6_43 : decode prog_30_method_4_code 43 = .ok (.aload_n 0, 1) := by decide +kernel
theorem d6_44 : decode prog_30_method_4_code 44 = .ok (.getfield 16, 3) := by decide +kernel
theorem d6_47 : decode prog_30_method_4_code 47 = .ok (.iload 6, 2) := by decide +kernel
theorem d6_49 : decode prog_30_method_4_code 49 = .ok (.laload, 1) := by decide +kernel
theorem d6_50 : decode prog_30_method_4_code 50 = .ok (.lload_n 3, 1) := by decide +kernel
theorem d6_51 : decode prog_30_method_4_code 51 = .ok (.lcmp, 1) := by decide +kernel
theorem d6_52 : decode prog_30_method_4_code 52 = .ok (.ifCond .ne 8, 3) := by decide +kernel
theorem d6_55 : decode prog_30_method_4_code 55 = .ok (.iload 7, 2) := by decide +kernel
theorem d6_57 : decode prog_30_method_4_code 57 = .ok (.iconst 1, 1) := by decide +kernel
theorem d6_58 : decode prog_30_method_4_code 58 = .ok (.isub, 1) := by decide +kernel
theorem d6_59 : decode prog_30_method_4_code 59 = .ok (.ireturn, 1) := by decide +kernel
theorem d6_60 : decode prog_30_method_4_code 60 = .ok (.iload 6, 2) := by decide +kernel
theorem d6_62 : decode prog_30_method_4_code 62 = .ok (.iconst 1, 1) := by decide +kernel
theorem d6_63 : decode prog_30_method_4_code 63 = .ok (.iadd, 1) := by decide +kernel
theorem d6_64 : decode prog_30_method_4_code 64 = .ok (.iload 5, 2) := by decide +kernel
theorem d6_66 : decode prog_30_method_4_code 66 = .ok (.iand, 1) := by decide +kernel
theorem d6_67 : decode prog_30_method_4_code 67 = .ok (.istore 6, 2) := by decide +kernel
theorem d6_69 : decode prog_30_method_4_code 69 = .ok (.goto (-52), 3) := by decide +kernel
theorem ef_6 (m : MethodId) (o0_6 : Addr) (y1_6 : Int64) (y2_6 : Int64) : entryFrame m #[(.ref o0_6), (.long y1_6), (.long y2_6)] 8 = mkF m 0 #[.val (.ref o0_6), .val (.long y1_6), .second, .val (.long y2_6), .second, .unset, .unset, .unset] [] := by first | (simp [entryFrame, mkF, argsToLocals, Value.category]; done) | rfl
def Q6 (Z : State) (o0_6 : Addr) (y1_6 : Int64) (y2_6 : Int64) (w_numbers_o0_6 : Addr) (nT : Int32) (num : Int32 → Int32) (w_xs_o0_6 : Addr) (Xs : Int32 → Int64) (w_ys_o0_6 : Addr) (Ys : Int32 → Int64) (h0 : Heap) (n0 : Nat) (v : Option Value) (h : Heap) (L : List Loc) : Prop := v = some (.int (own_r6 y1_6 y2_6 nT num Xs Ys)) ∧ Fr n0 L ∧ h = h0
set_option maxRecDepth 65536 in
set_option maxHeartbeats 40000000 in
theorem rm6 (l : Launch) (Z : State) (a0 : Array Value) (hw : ∀ d ∈ tables_1, d.before a0 Z = true) (ws : List Jvm.Cond) (o0_6 : Addr) (y1_6 : Int64) (y2_6 : Int64) (w_numbers_o0_6 : Addr) (nT : Int32) (num : Int32 → Int32) (w_xs_o0_6 : Addr) (Xs : Int32 → Int64) (w_ys_o0_6 : Addr) (Ys : Int32 → Int64) (h0 : Heap) (n0 : Nat) (O0 : Old Z n0 h0) (hnT : (0 : Int32) < nT) (hst : ∀ s : Int32, ¬ num s = 0 → ¬ num (own_nx nT s) = 0 → num (own_nx nT (own_nx nT s)) = 0) (F_numbers_o0_6 : Fld Z h0 o0_6 "com/example/swanhall/swanhall/core/CellTable" "numbers" "[I" (.ref w_numbers_o0_6)) (V_w_numbers_o0_6 : own_ArI Z h0 w_numbers_o0_6 nT num) (E_o0_6 : Exa Z h0 o0_6 "com/example/swanhall/swanhall/core/CellTable") (F_xs_o0_6 : Fld Z h0 o0_6 "com/example/swanhall/swanhall/core/CellTable" "xs" "[J" (.ref w_xs_o0_6)) (V_w_xs_o0_6 : own_ArJ Z h0 w_xs_o0_6 nT Xs) (F_ys_o0_6 : Fld Z h0 o0_6 "com/example/swanhall/swanhall/core/CellTable" "ys" "[J" (.ref w_ys_o0_6)) (V_w_ys_o0_6 : own_ArJ Z h0 w_ys_o0_6 nT Ys) :
    MetFree l (⟨"com/example/swanhall/swanhall/core/CellTable", "get", "(JJ)I"⟩ : MethodName) (head1 (Jvm.Cond.code (⟨"com/example/swanhall/swanhall/core/CellTable", "get", "(JJ)I"⟩ : MethodName) prog_30_method_4_code 8 (some .int) :: ws) ({ frames := 1, cells := 0, slots := 0, locals := 18 } : Room)) (fun a U => a = #[(.ref o0_6), (.long y1_6), (.long y2_6)] ∧ Z.Warmed39 U.vm ∧ U.heap = h0) (fun _ _ _ _ _ => True) (fun _ U o U' => ∃ v L, o = .returned v ∧ Q6 Z o0_6 y1_6 y2_6 w_numbers_o0_6 nT num w_xs_o0_6 Xs w_ys_o0_6 Ys h0 n0 v U'.heap L ∧ FrameEnd U o U' L ({ frames := 1, cells := 0, slots := 0, locals := 18 } : Room).cells ({ frames := 1, cells := 0, slots := 0, locals := 18 } : Room).slots) := by
  refine MetFree.of_bodySF (plainFor_of_name pn_0) hisR ?_
  intro p e s m args below meth c s₁ Bd hml0 hP hK
  obtain ⟨rfl, hZ, hh⟩ := hP
  have hx := Bd.exec
  have hby := Bd.bytes
  have hnl := BodyLoose.notSynchronized Bd
  have hml : c.maxLocals = 8 := hml0
  have hown : s.vm.findClass "com/example/swanhall/swanhall/core/CellTable" = some m.cls := findClass_of_methodNamed Bd.named
  have hnm := (name_of_methodNamed Bd.named Bd.method).1
  have X0 : Stand p l e ({ frames := 1, cells := 0, slots := 0, locals := 18 } : Room) s m #[(.ref o0_6), (.long y1_6), (.long y2_6)] below meth c s₁ [] 0 0 := Stand.of_body Bd
  have e0 : s₁.heap = h0 := by rw [← hh, Bd.state]; rfl
  have N0 := Fr.nil n0
  show own_Ends p.tables e below s (Q6 Z o0_6 y1_6 y2_6 w_numbers_o0_6 nT num w_xs_o0_6 Xs w_ys_o0_6 Ys h0 n0) 0 0 (s₁.setTop (entryFrame m #[(.ref o0_6), (.long y1_6), (.long y2_6)] 8))
  rw [ef_6 m o0_6 y1_6 y2_6]
  show own_Ends p.tables e below s _ _ _ (s₁.setTop (mkF m 0 #[.val (.ref o0_6), .val (.long y1_6), .second, .val (.long y2_6), .second, .unset, .unset, .unset] []))
  refine own_step (fun t k => XS.aloadN X0.here hx rfl (hb hby d6_0) rfl rfl k) ?_
  show own_Ends p.tables e below s _ _ _ (s₁.setTop (mkF m 1 #[.val (.ref o0_6), .val (.long y1_6), .second, .val (.long y2_6), .second, .unset, .unset, .unset] [(.ref o0_6)]))
  obtain ⟨T1, X1, e1, st1⟩ := getF X0 hx hZ hown (host := "") (Or.inl (hw _ (List.mem_of_getElem? (i := 16) rfl))) Via.refl e0 F_numbers_o0_6 (g := (mkF m 1 #[.val (.ref o0_6), .val (.long y1_6), .second, .val (.long y2_6), .second, .unset, .unset, .unset] [(.ref o0_6)])) rfl rfl (hb hby d6_1)
  refine own_step (fun t k => st1 _ k) ?_
  show own_Ends p.tables e below s _ _ _ (T1.setTop (mkF m 4 #[.val (.ref o0_6), .val (.long y1_6), .second, .val (.long y2_6), .second, .unset, .unset, .unset] [(.ref w_numbers_o0_6)]))
  obtain ⟨cl2, Ar2, S2, N2, G2⟩ := id V_w_numbers_o0_6
  have hl2 := len_of S2 N2
  refine own_step (fun t k => X1.arraylength hx (by rw [e1]; exact Ar2.1) (State.isArrayOf_alike hZ.alike Ar2.2.1) (g := (mkF m 4 #[.val (.ref o0_6), .val (.long y1_6), .second, .val (.long y2_6), .second, .unset, .unset, .unset] [(.ref w_numbers_o0_6)])) rfl rfl (hb hby d6_4) _ (hl2.symm ▸ k)) ?_
  refine own_step (fun t k => XS.iconst X1.here hx rfl (hb hby d6_5) k) ?_
  refine own_step (fun t k => XS.isub X1.here hx rfl (hb hby d6_6) rfl k) ?_
  refine own_step (fun t k => XS.istore X1.here hx rfl (hb hby d6_7) rfl (l' := #[.val (.ref o0_6), .val (.long y1_6), .second, .val (.long y2_6), .second, .val (.int (nT - (1 : Int32))), .unset, .unset]) rfl k) ?_
  refine own_step (fun t k => XS.aloadN X1.here hx rfl (hb hby d6_9) rfl rfl k) ?_
  refine own_step (fun t k => XS.lloadN X1.here hx rfl (hb hby d6_10) rfl k) ?_
  refine own_step (fun t k => XS.lloadN X1.here hx rfl (hb hby d6_11) rfl k) ?_
  show own_Ends p.tables e below s _ _ _ (T1.setTop (mkF m 12 #[.val (.ref o0_6), .val (.long y1_6), .second, .val (.long y2_6), .second, .val (.int (nT - (1 : Int32))), .unset, .unset] [(.long y2_6), (.long y1_6), (.ref o0_6)]))
  obtain ⟨cq3, q3, q3'⟩ := E_o0_6.cell
  obtain ⟨_, _, ⟨T3, L3, k3, n3⟩, -, X3, ⟨Lc3, hQ3, l3, y3, z3⟩, st3⟩ := X1.privateBack hx (y := (⟨"com/example/swanhall/swanhall/core/CellTable", "home", "(JJ)I"⟩ : MethodName)) hown (mvT hZ (hw _ (List.mem_of_getElem? (i := 27) rfl))) (mvT hZ (hw _ (List.mem_of_getElem? (i := 28) rfl))) (own_selPriv hZ (hw _ (List.mem_of_getElem? (i := 2) rfl)) (hw _ (List.mem_of_getElem? (i := 29) rfl)) (hw _ (List.mem_of_getElem? (i := 28) rfl)) (by decide)) (Cond.privateMethod_at (mvP hZ (hw _ (List.mem_of_getElem? (i := 29) rfl)) (args := #[]))) (mvT hZ (hw _ (List.mem_of_getElem? (i := 30) rfl))) (by decide) (backOf (W := 0) (rm5 l Z a0 hw [] o0_6 y1_6 y2_6 w_numbers_o0_6 nT num h0 n0 O0 F_numbers_o0_6 V_w_numbers_o0_6) hZ (hw _ (List.mem_of_getElem? (i := 30) rfl)) (hw _ (List.mem_of_getElem? (i := 3) rfl)) (by decide) (by decide)) (g := (mkF m 12 #[.val (.ref o0_6), .val (.long y1_6), .second, .val (.long y2_6), .second, .val (.int (nT - (1 : Int32))), .unset, .unset] [(.long y2_6), (.long y1_6), (.ref o0_6)])) rfl (by rw [hml]; rfl) (Steps.refl _) (a := o0_6) (by rw [e1]; exact q3) q3' (argsL := [(.long y1_6), (.long y2_6)]) (rest := []) (lenOf pd_0 rfl) rfl (by show 2 * 0 + _ ≤ _; exact Nat.le_of_eq rfl) (hb hby d6_12) (fun _ _ => ⟨rfl, e1, (by decide : 0 + 0 ≤ _), (by decide : 0 + 0 ≤ _)⟩)
  dsimp only [Pt.U, Pt.locs, Pt.cells, Pt.slots] at X3 l3 y3 z3 st3 hQ3
  subst y3 z3
  obtain ⟨rfl, N3q, e3⟩ := hQ3
  refine own_step (fun t k => st3.trans k) ?_
  have N4 : Fr n0 L3 := by rw [l3]; exact Fr.app N0 N3q
  refine own_step (fun t k => XS.istore X3.here hx rfl (hb hby d6_15) rfl (l' := #[.val (.ref o0_6), .val (.long y1_6), .second, .val (.long y2_6), .second, .val (.int (nT - (1 : Int32))), .val (.int (own_h y1_6 y2_6 nT)), .unset]) rfl k) ?_
  refine own_step (fun t k => XS.aloadN X3.here hx rfl (hb hby d6_17) rfl rfl k) ?_
  show own_Ends p.tables e below s _ _ _ (T3.setTop (mkF m 18 #[.val (.ref o0_6), .val (.long y1_6), .second, .val (.long y2_6), .second, .val (.int (nT - (1 : Int32))), .val (.int (own_h y1_6 y2_6 nT)), .unset] [(.ref o0_6)]))
  obtain ⟨T5, X5, e5, st5⟩ := getF X3 hx hZ hown (host := "") (Or.inl (hw _ (List.mem_of_getElem? (i := 16) rfl))) Via.refl e3 F_numbers_o0_6 (g := (mkF m 18 #[.val (.ref o0_6), .val (.long y1_6), .second, .val (.long y2_6), .second, .val (.int (nT - (1 : Int32))), .val (.int (own_h y1_6 y2_6 nT)), .unset] [(.ref o0_6)])) rfl rfl (hb hby d6_18)
  refine own_step (fun t k => st5 _ k) ?_
  refine own_step (fun t k => XS.iload X5.here hx rfl (hb hby d6_21) rfl k) ?_
  show own_Ends p.tables e below s _ _ _ (T5.setTop (mkF m 23 #[.val (.ref o0_6), .val (.long y1_6), .second, .val (.long y2_6), .second, .val (.int (nT - (1 : Int32))), .val (.int (own_h y1_6 y2_6 nT)), .unset] [(.int (own_h y1_6 y2_6 nT)), (.ref w_numbers_o0_6)]))
  obtain ⟨cl6, Ar6, S6, N6, G6⟩ := id V_w_numbers_o0_6
  have hr6 : ¬ (own_h y1_6 y2_6 nT) < 0 ∧ (own_h y1_6 y2_6 nT) < nT := (own_rng _ _ hnT)
  have hin6 : ¬ ((own_h y1_6 y2_6 nT) < 0 ∨ cl6.slots.size ≤ ((own_h y1_6 y2_6 nT)).toNatClampNeg) := inb_of S6 hr6
  have hat6 : cl6.slots[((own_h y1_6 y2_6 nT)).toNatClampNeg]? = some (.int (num (own_h y1_6 y2_6 nT))) := G6 _ hr6.1 hr6.2
  refine own_step (fun t k => X5.iaload hx (j := (own_h y1_6 y2_6 nT)) (v := (.int (num (own_h y1_6 y2_6 nT)))) (by rw [e5]; exact Ar6.1) (State.isArrayOf_alike hZ.alike Ar6.2.1) Ar6.2.2 hin6 hat6 (g := (mkF m 23 #[.val (.ref o0_6), .val (.long y1_6), .second, .val (.long y2_6), .second, .val (.int (nT - (1 : Int32))), .val (.int (own_h y1_6 y2_6 nT)), .unset] [(.int (own_h y1_6 y2_6 nT)), (.ref w_numbers_o0_6)])) rfl rfl (hb hby d6_23) _ k) ?_
  refine own_step (fun t k => XS.istore X5.here hx rfl (hb hby d6_24) rfl (l' := #[.val (.ref o0_6), .val (.long y1_6), .second, .val (.long y2_6), .second, .val (.int (nT - (1 : Int32))), .val (.int (own_h y1_6 y2_6 nT)), .val (.int (num (own_h y1_6 y2_6 nT)))]) rfl k) ?_
  refine own_step (fun t k => XS.iload X5.here hx rfl (hb hby d6_26) rfl k) ?_
  show own_Ends p.tables e below s _ _ _ (T5.setTop (mkF m 28 #[.val (.ref o0_6), .val (.long y1_6), .second, .val (.long y2_6), .second, .val (.int (nT - (1 : Int32))), .val (.int (own_h y1_6 y2_6 nT)), .val (.int (num (own_h y1_6 y2_6 nT)))] [(.int (num (own_h y1_6 y2_6 nT)))]))
  by_cases hc28_7 : (num (own_h y1_6 y2_6 nT)) = (0 : Int32)
  · skip
    refine own_step (fun t k => XS.ifYes X5.here hx rfl (pc0 := 28) (pc' := 55) rfl (hb hby d6_28) rfl ((if0 _ _).trans (teq hc28_7).1) (by decide) (by decide) k) ?_
    refine own_step (fun t k => XS.iload X5.here hx rfl (hb hby d6_55) rfl k) ?_
    refine own_step (fun t k => XS.iconst X5.here hx rfl (hb hby d6_57) k) ?_
    refine own_step (fun t k => XS.isub X5.here hx rfl (hb hby d6_58) rfl k) ?_
    show own_Ends p.tables e below s _ _ _ (T5.setTop (mkF m 59 #[.val (.ref o0_6), .val (.long y1_6), .second, .val (.long y2_6), .second, .val (.int (nT - (1 : Int32))), .val (.int (own_h y1_6 y2_6 nT)), .val (.int (num (own_h y1_6 y2_6 nT)))] [(.int ((num (own_h y1_6 y2_6 nT)) - (1 : Int32)))]))
    exact own_retI X5 hx Bd.returns (hb hby d6_59) hnl (by rw [e5]; exact ⟨(congrArg (fun z => some (Value.int z)) (Eq.symm (show (own_r6 y1_6 y2_6 nT num Xs Ys) = ((num (own_h y1_6 y2_6 nT)) - (1 : Int32)) from by unfold own_r6; rw [if_pos hc28_7]))), N4, rfl⟩) (by decide) (by decide)
  · skip
    refine own_step (fun t k => XS.ifNo X5.here hx rfl (hb hby d6_28) rfl ((if0 _ _).trans (feq hc28_7).1) k) ?_
    refine own_step (fun t k => XS.aloadN X5.here hx rfl (hb hby d6_31) rfl rfl k) ?_
    show own_Ends p.tables e below s _ _ _ (T5.setTop (mkF m 32 #[.val (.ref o0_6), .val (.long y1_6), .second, .val (.long y2_6), .second, .val (.int (nT - (1 : Int32))), .val (.int (own_h y1_6 y2_6 nT)), .val (.int (num (own_h y1_6 y2_6 nT)))] [(.ref o0_6)]))
    obtain ⟨T8, X8, e8, st8⟩ := getF X5 hx hZ hown (host := "") (Or.inl (hw _ (List.mem_of_getElem? (i := 11) rfl))) Via.refl e5 F_xs_o0_6 (g := (mkF m 32 #[.val (.ref o0_6), .val (.long y1_6), .second, .val (.long y2_6), .second, .val (.int (nT - (1 : Int32))), .val (.int (own_h y1_6 y2_6 nT)), .val (.int (num (own_h y1_6 y2_6 nT)))] [(.ref o0_6)])) rfl rfl (hb hby d6_32)
    refine own_step (fun t k => st8 _ k) ?_
    refine own_step (fun t k => XS.iload X8.here hx rfl (hb hby d6_35) rfl k) ?_
    show own_Ends p.tables e below s _ _ _ (T8.setTop (mkF m 37 #[.val (.ref o0_6), .val (.long y1_6), .second, .val (.long y2_6), .second, .val (.int (nT - (1 : Int32))), .val (.int (own_h y1_6 y2_6 nT)), .val (.int (num (own_h y1_6 y2_6 nT)))] [(.int (own_h y1_6 y2_6 nT)), (.ref w_xs_o0_6)]))
    obtain ⟨cl9, Ar9, S9, N9, G9⟩ := id V_w_xs_o0_6
    have hr9 : ¬ (own_h y1_6 y2_6 nT) < 0 ∧ (own_h y1_6 y2_6 nT) < nT := (own_rng _ _ hnT)
    have hin9 : ¬ ((own_h y1_6 y2_6 nT) < 0 ∨ cl9.slots.size ≤ ((own_h y1_6 y2_6 nT)).toNatClampNeg) := inb_of S9 hr9
    have hat9 : cl9.slots[((own_h y1_6 y2_6 nT)).toNatClampNeg]? = some (.long (Xs (own_h y1_6 y2_6 nT))) := G9 _ hr9.1 hr9.2
    refine own_step (fun t k => X8.laload hx (j := (own_h y1_6 y2_6 nT)) (v := (.long (Xs (own_h y1_6 y2_6 nT)))) (by rw [e8]; exact Ar9.1) (State.isArrayOf_alike hZ.alike Ar9.2.1) Ar9.2.2 hin9 hat9 (g := (mkF m 37 #[.val (.ref o0_6), .val (.long y1_6), .second, .val (.long y2_6), .second, .val (.int (nT - (1 : Int32))), .val (.int (own_h y1_6 y2_6 nT)), .val (.int (num (own_h y1_6 y2_6 nT)))] [(.int (own_h y1_6 y2_6 nT)), (.ref w_xs_o0_6)])) rfl rfl (hb hby d6_37) _ k) ?_
    refine own_step (fun t k => XS.lloadN X8.here hx rfl (hb hby d6_38) rfl k) ?_
    refine own_step (fun t k => XS.lcmp X8.here hx rfl (hb hby d6_39) rfl k) ?_
    show own_Ends p.tables e below s _ _ _ (T8.setTop (mkF m 40 #[.val (.ref o0_6), .val (.long y1_6), .second, .val (.long y2_6), .second, .val (.int (nT - (1 : Int32))), .val (.int (own_h y1_6 y2_6 nT)), .val (.int (num (own_h y1_6 y2_6 nT)))] [(.int (lcmpW (Xs (own_h y1_6 y2_6 nT)) y1_6))]))
    by_cases hc40_10 : (lcmpW (Xs (own_h y1_6 y2_6 nT)) y1_6) = (0 : Int32)
    · skip
      refine own_step (fun t k => XS.ifNo X8.here hx rfl (hb hby d6_40) rfl ((if0 _ _).trans (teq hc40_10).2) k) ?_
      refine own_step (fun t k => XS.aloadN X8.here hx rfl (hb hby d6_43) rfl rfl k) ?_
      show own_Ends p.tables e below s _ _ _ (T8.setTop (mkF m 44 #[.val (.ref o0_6), .val (.long y1_6), .second, .val (.long y2_6), .second, .val (.int (nT - (1 : Int32))), .val (.int (own_h y1_6 y2_6 nT)), .val (.int (num (own_h y1_6 y2_6 nT)))] [(.ref o0_6)]))
      obtain ⟨T11, X11, e11, st11⟩ := getF X8 hx hZ hown (host := "") (Or.inl (hw _ (List.mem_of_getElem? (i := 13) rfl))) Via.refl e8 F_ys_o0_6 (g := (mkF m 44 #[.val (.ref o0_6), .val (.long y1_6), .second, .val (.long y2_6), .second, .val (.int (nT - (1 : Int32))), .val (.int (own_h y1_6 y2_6 nT)), .val (.int (num (own_h y1_6 y2_6 nT)))] [(.ref o0_6)])) rfl rfl (hb hby d6_44)
      refine own_step (fun t k => st11 _ k) ?_
      refine own_step (fun t k => XS.iload X11.here hx rfl (hb hby d6_47) rfl k) ?_
      show own_Ends p.tables e below s _ _ _ (T11.setTop (mkF m 49 #[.val (.ref o0_6), .val (.long y1_6), .second, .val (.long y2_6), .second, .val (.int (nT - (1 : Int32))), .val (.int (own_h y1_6 y2_6 nT)), .val (.int (num (own_h y1_6 y2_6 nT)))] [(.int (own_h y1_6 y2_6 nT)), (.ref w_ys_o0_6)]))
      obtain ⟨cl12, Ar12, S12, N12, G12⟩ := id V_w_ys_o0_6
      have hr12 : ¬ (own_h y1_6 y2_6 nT) < 0 ∧ (own_h y1_6 y2_6 nT) < nT := (own_rng _ _ hnT)
      have hin12 : ¬ ((own_h y1_6 y2_6 nT) < 0 ∨ cl12.slots.size ≤ ((own_h y1_6 y2_6 nT)).toNatClampNeg) := inb_of S12 hr12
      have hat12 : cl12.slots[((own_h y1_6 y2_6 nT)).toNatClampNeg]? = some (.long (Ys (own_h y1_6 y2_6 nT))) := G12 _ hr12.1 hr12.2
      refine own_step (fun t k => X11.laload hx (j := (own_h y1_6 y2_6 nT)) (v := (.long (Ys (own_h y1_6 y2_6 nT)))) (by rw [e11]; exact Ar12.1) (State.isArrayOf_alike hZ.alike Ar12.2.1) Ar12.2.2 hin12 hat12 (g := (mkF m 49 #[.val (.ref o0_6), .val (.long y1_6), .second, .val (.long y2_6), .second, .val (.int (nT - (1 : Int32))), .val (.int (own_h y1_6 y2_6 nT)), .val (.int (num (own_h y1_6 y2_6 nT)))] [(.int (own_h y1_6 y2_6 nT)), (.ref w_ys_o0_6)])) rfl rfl (hb hby d6_49) _ k) ?_
      refine own_step (fun t k => XS.lloadN X11.here hx rfl (hb hby d6_50) rfl k) ?_
      refine own_step (fun t k => XS.lcmp X11.here hx rfl (hb hby d6_51) rfl k) ?_
      show own_Ends p.tables e below s _ _ _ (T11.setTop (mkF m 52 #[.val (.ref o0_6), .val (.long y1_6), .second, .val (.long y2_6), .second, .val (.int (nT - (1 : Int32))), .val (.int (own_h y1_6 y2_6 nT)), .val (.int (num (own_h y1_6 y2_6 nT)))] [(.int (lcmpW (Ys (own_h y1_6 y2_6 nT)) y2_6))]))
      by_cases hc52_13 : (lcmpW (Ys (own_h y1_6 y2_6 nT)) y2_6) = (0 : Int32)
      · skip
        refine own_step (fun t k => XS.ifNo X11.here hx rfl (hb hby d6_52) rfl ((if0 _ _).trans (teq hc52_13).2) k) ?_
        refine own_step (fun t k => XS.iload X11.here hx rfl (hb hby d6_55) rfl k) ?_
        refine own_step (fun t k => XS.iconst X11.here hx rfl (hb hby d6_57) k) ?_
        refine own_step (fun t k => XS.isub X11.here hx rfl (hb hby d6_58) rfl k) ?_
        show own_Ends p.tables e below s _ _ _ (T11.setTop (mkF m 59 #[.val (.ref o0_6), .val (.long y1_6), .second, .val (.long y2_6), .second, .val (.int (nT - (1 : Int32))), .val (.int (own_h y1_6 y2_6 nT)), .val (.int (num (own_h y1_6 y2_6 nT)))] [(.int ((num (own_h y1_6 y2_6 nT)) - (1 : Int32)))]))
        exact own_retI X11 hx Bd.returns (hb hby d6_59) hnl (by rw [e11]; exact ⟨(congrArg (fun z => some (Value.int z)) (Eq.symm (show (own_r6 y1_6 y2_6 nT num Xs Ys) = ((num (own_h y1_6 y2_6 nT)) - (1 : Int32)) from by unfold own_r6; rw [if_neg hc28_7, if_pos hc40_10, if_pos hc52_13]))), N4, rfl⟩) (by decide) (by decide)
      · skip
        refine own_step (fun t k => XS.ifYes X11.here hx rfl (pc0 := 52) (pc' := 60) rfl (hb hby d6_52) rfl ((if0 _ _).trans (feq hc52_13).2) (by decide) (by decide) k) ?_
        refine own_step (fun t k => XS.iload X11.here hx rfl (hb hby d6_60) rfl k) ?_
        refine own_step (fun t k => XS.iconst X11.here hx rfl (hb hby d6_62) k) ?_
        refine own_step (fun t k => XS.iadd X11.here hx rfl (hb hby d6_63) rfl k) ?_
        refine own_step (fun t k => XS.iload X11.here hx rfl (hb hby d6_64) rfl k) ?_
        refine own_step (fun t k => XS.iand X11.here hx rfl (hb hby d6_66) rfl k) ?_
        refine own_step (fun t k => XS.istore X11.here hx rfl (hb hby d6_67) rfl (l' := #[.val (.ref o0_6), .val (.long y1_6), .second, .val (.long y2_6), .second, .val (.int (nT - (1 : Int32))), .val (.int (own_nx nT (own_h y1_6 y2_6 nT))), .val (.int (num (own_h y1_6 y2_6 nT)))]) rfl k) ?_
        show own_Ends p.tables e below s _ _ _ (T11.setTop (mkF m 69 #[.val (.ref o0_6), .val (.long y1_6), .second, .val (.long y2_6), .second, .val (.int (nT - (1 : Int32))), .val (.int (own_nx nT (own_h y1_6 y2_6 nT))), .val (.int (num (own_h y1_6 y2_6 nT)))] []))
        refine own_step (fun t k => XS.goto X11.here hx rfl (pc0 := 69) (pc' := 17) rfl (hb hby d6_69) (by decide) (by decide) k) ?_
        refine own_step (fun t k => XS.aloadN X11.here hx rfl (hb hby d6_17) rfl rfl k) ?_
        show own_Ends p.tables e below s _ _ _ (T11.setTop (mkF m 18 #[.val (.ref o0_6), .val (.long y1_6), .second, .val (.long y2_6), .second, .val (.int (nT - (1 : Int32))), .val (.int (own_nx nT (own_h y1_6 y2_6 nT))), .val (.int (num (own_h y1_6 y2_6 nT)))] [(.ref o0_6)]))
        obtain ⟨T14, X14, e14, st14⟩ := getF X11 hx hZ hown (host := "") (Or.inl (hw _ (List.mem_of_getElem? (i := 16) rfl))) Via.refl e11 F_numbers_o0_6 (g := (mkF m 18 #[.val (.ref o0_6), .val (.long y1_6), .second, .val (.long y2_6), .second, .val (.int (nT - (1 : Int32))), .val (.int (own_nx nT (own_h y1_6 y2_6 nT))), .val (.int (num (own_h y1_6 y2_6 nT)))] [(.ref o0_6)])) rfl rfl (hb hby d6_18)
        refine own_step (fun t k => st14 _ k) ?_
        refine own_step (fun t k => XS.iload X14.here hx rfl (hb hby d6_21) rfl k) ?_
        show own_Ends p.tables e below s _ _ _ (T14.setTop (mkF m 23 #[.val (.ref o0_6), .val (.long y1_6), .second, .val (.long y2_6), .second, .val (.int (nT - (1 : Int32))), .val (.int (own_nx nT (own_h y1_6 y2_6 nT))), .val (.int (num (own_h y1_6 y2_6 nT)))] [(.int (own_nx nT (own_h y1_6 y2_6 nT))), (.ref w_numbers_o0_6)]))
        obtain ⟨cl15, Ar15, S15, N15, G15⟩ := id V_w_numbers_o0_6
        have hr15 : ¬ (own_nx nT (own_h y1_6 y2_6 nT)) < 0 ∧ (own_nx nT (own_h y1_6 y2_6 nT)) < nT := (own_rng _ _ hnT)
        have hin15 : ¬ ((own_nx nT (own_h y1_6 y2_6 nT)) < 0 ∨ cl15.slots.size ≤ ((own_nx nT (own_h y1_6 y2_6 nT))).toNatClampNeg) := inb_of S15 hr15
        have hat15 : cl15.slots[((own_nx nT (own_h y1_6 y2_6 nT))).toNatClampNeg]? = some (.int (num (own_nx nT (own_h y1_6 y2_6 nT)))) := G15 _ hr15.1 hr15.2
        refine own_step (fun t k => X14.iaload hx (j := (own_nx nT (own_h y1_6 y2_6 nT))) (v := (.int (num (own_nx nT (own_h y1_6 y2_6 nT))))) (by rw [e14]; exact Ar15.1) (State.isArrayOf_alike hZ.alike Ar15.2.1) Ar15.2.2 hin15 hat15 (g := (mkF m 23 #[.val (.ref o0_6), .val (.long y1_6), .second, .val (.long y2_6), .second, .val (.int (nT - (1 : Int32))), .val (.int (own_nx nT (own_h y1_6 y2_6 nT))), .val (.int (num (own_h y1_6 y2_6 nT)))] [(.int (own_nx nT (own_h y1_6 y2_6 nT))), (.ref w_numbers_o0_6)])) rfl rfl (hb hby d6_23) _ k) ?_
        refine own_step (fun t k => XS.istore X14.here hx rfl (hb hby d6_24) rfl (l' := #[.val (.ref o0_6), .val (.long y1_6), .second, .val (.long y2_6), .second, .val (.int (nT - (1 : Int32))), .val (.int (own_nx nT (own_h y1_6 y2_6 nT))), .val (.int (num (own_nx nT (own_h y1_6 y2_6 nT))))]) rfl k) ?_
        refine own_step (fun t k => XS.iload X14.here hx rfl (hb hby d6_26) rfl k) ?_
        show own_Ends p.tables e below s _ _ _ (T14.setTop (mkF m 28 #[.val (.ref o0_6), .val (.long y1_6), .second, .val (.long y2_6), .second, .val (.int (nT - (1 : Int32))), .val (.int (own_nx nT (own_h y1_6 y2_6 nT))), .val (.int (num (own_nx nT (own_h y1_6 y2_6 nT))))] [(.int (num (own_nx nT (own_h y1_6 y2_6 nT))))]))
        by_cases hc28_16 : (num (own_nx nT (own_h y1_6 y2_6 nT))) = (0 : Int32)
        · skip
          refine own_step (fun t k => XS.ifYes X14.here hx rfl (pc0 := 28) (pc' := 55) rfl (hb hby d6_28) rfl ((if0 _ _).trans (teq hc28_16).1) (by decide) (by decide) k) ?_
          refine own_step (fun t k => XS.iload X14.here hx rfl (hb hby d6_55) rfl k) ?_
          refine own_step (fun t k => XS.iconst X14.here hx rfl (hb hby d6_57) k) ?_
          refine own_step (fun t k => XS.isub X14.here hx rfl (hb hby d6_58) rfl k) ?_
          show own_Ends p.tables e below s _ _ _ (T14.setTop (mkF m 59 #[.val (.ref o0_6), .val (.long y1_6), .second, .val (.long y2_6), .second, .val (.int (nT - (1 : Int32))), .val (.int (own_nx nT (own_h y1_6 y2_6 nT))), .val (.int (num (own_nx nT (own_h y1_6 y2_6 nT))))] [(.int ((num (own_nx nT (own_h y1_6 y2_6 nT))) - (1 : Int32)))]))
          exact own_retI X14 hx Bd.returns (hb hby d6_59) hnl (by rw [e14]; exact ⟨(congrArg (fun z => some (Value.int z)) (Eq.symm (show (own_r6 y1_6 y2_6 nT num Xs Ys) = ((num (own_nx nT (own_h y1_6 y2_6 nT))) - (1 : Int32)) from by unfold own_r6; rw [if_neg hc28_7, if_pos hc40_10, if_neg hc52_13, if_pos hc28_16]))), N4, rfl⟩) (by decide) (by decide)
        · skip
          refine own_step (fun t k => XS.ifNo X14.here hx rfl (hb hby d6_28) rfl ((if0 _ _).trans (feq hc28_16).1) k) ?_
          refine own_step (fun t k => XS.aloadN X14.here hx rfl (hb hby d6_31) rfl rfl k) ?_
          show own_Ends p.tables e below s _ _ _ (T14.setTop (mkF m 32 #[.val (.ref o0_6), .val (.long y1_6), .second, .val (.long y2_6), .second, .val (.int (nT - (1 : Int32))), .val (.int (own_nx nT (own_h y1_6 y2_6 nT))), .val (.int (num (own_nx nT (own_h y1_6 y2_6 nT))))] [(.ref o0_6)]))
          obtain ⟨T17, X17, e17, st17⟩ := getF X14 hx hZ hown (host := "") (Or.inl (hw _ (List.mem_of_getElem? (i := 11) rfl))) Via.refl e14 F_xs_o0_6 (g := (mkF m 32 #[.val (.ref o0_6), .val (.long y1_6), .second, .val (.long y2_6), .second, .val (.int (nT - (1 : Int32))), .val (.int (own_nx nT (own_h y1_6 y2_6 nT))), .val (.int (num (own_nx nT (own_h y1_6 y2_6 nT))))] [(.ref o0_6)])) rfl rfl (hb hby d6_32)
          refine own_step (fun t k => st17 _ k) ?_
          refine own_step (fun t k => XS.iload X17.here hx rfl (hb hby d6_35) rfl k) ?_
          show own_Ends p.tables e below s _ _ _ (T17.setTop (mkF m 37 #[.val (.ref o0_6), .val (.long y1_6), .second, .val (.long y2_6), .second, .val (.int (nT - (1 : Int32))), .val (.int (own_nx nT (own_h y1_6 y2_6 nT))), .val (.int (num (own_nx nT (own_h y1_6 y2_6 nT))))] [(.int (own_nx nT (own_h y1_6 y2_6 nT))), (.ref w_xs_o0_6)]))
          obtain ⟨cl18, Ar18, S18, N18, G18⟩ := id V_w_xs_o0_6
          have hr18 : ¬ (own_nx nT (own_h y1_6 y2_6 nT)) < 0 ∧ (own_nx nT (own_h y1_6 y2_6 nT)) < nT := (own_rng _ _ hnT)
          have hin18 : ¬ ((own_nx nT (own_h y1_6 y2_6 nT)) < 0 ∨ cl18.slots.size ≤ ((own_nx nT (own_h y1_6 y2_6 nT))).toNatClampNeg) := inb_of S18 hr18
          have hat18 : cl18.slots[((own_nx nT (own_h y1_6 y2_6 nT))).toNatClampNeg]? = some (.long (Xs (own_nx nT (own_h y1_6 y2_6 nT)))) := G18 _ hr18.1 hr18.2
          refine own_step (fun t k => X17.laload hx (j := (own_nx nT (own_h y1_6 y2_6 nT))) (v := (.long (Xs (own_nx nT (own_h y1_6 y2_6 nT))))) (by rw [e17]; exact Ar18.1) (State.isArrayOf_alike hZ.alike Ar18.2.1) Ar18.2.2 hin18 hat18 (g := (mkF m 37 #[.val (.ref o0_6), .val (.long y1_6), .second, .val (.long y2_6), .second, .val (.int (nT - (1 : Int32))), .val (.int (own_nx nT (own_h y1_6 y2_6 nT))), .val (.int (num (own_nx nT (own_h y1_6 y2_6 nT))))] [(.int (own_nx nT (own_h y1_6 y2_6 nT))), (.ref w_xs_o0_6)])) rfl rfl (hb hby d6_37) _ k) ?_
          refine own_step (fun t k => XS.lloadN X17.here hx rfl (hb hby d6_38) rfl k) ?_
          refine own_step (fun t k => XS.lcmp X17.here hx rfl (hb hby d6_39) rfl k) ?_
          show own_Ends p.tables e below s _ _ _ (T17.setTop (mkF m 40 #[.val (.ref o0_6), .val (.long y1_6), .second, .val (.long y2_6), .second, .val (.int (nT - (1 : Int32))), .val (.int (own_nx nT (own_h y1_6 y2_6 nT))), .val (.int (num (own_nx nT (own_h y1_6 y2_6 nT))))] [(.int (lcmpW (Xs (own_nx nT (own_h y1_6 y2_6 nT))) y1_6))]))
          by_cases hc40_19 : (lcmpW (Xs (own_nx nT (own_h y1_6 y2_6 nT))) y1_6) = (0 : Int32)
          · skip
            refine own_step (fun t k => XS.ifNo X17.here hx rfl (hb hby d6_40) rfl ((if0 _ _).trans (teq hc40_19).2) k) ?_
            refine own_step (fun t k => XS.aloadN X17.here hx rfl (hb hby d6_43) rfl rfl k) ?_
            show own_Ends p.tables e below s _ _ _ (T17.setTop (mkF m 44 #[.val (.ref o0_6), .val (.long y1_6), .second, .val (.long y2_6), .second, .val (.int (nT - (1 : Int32))), .val (.int (own_nx nT (own_h y1_6 y2_6 nT))), .val (.int (num (own_nx nT (own_h y1_6 y2_6 nT))))] [(.ref o0_6)]))
            obtain ⟨T20, X20, e20, st20⟩ := getF X17 hx hZ hown (host := "") (Or.inl (hw _ (List.mem_of_getElem? (i := 13) rfl))) Via.refl e17 F_ys_o0_6 (g := (mkF m 44 #[.val (.ref o0_6), .val (.long y1_6), .second, .val (.long y2_6), .second, .val (.int (nT - (1 : Int32))), .val (.int (own_nx nT (own_h y1_6 y2_6 nT))), .val (.int (num (own_nx nT (own_h y1_6 y2_6 nT))))] [(.ref o0_6)])) rfl rfl (hb hby d6_44)
            refine own_step (fun t k => st20 _ k) ?_
            refine own_step (fun t k => XS.iload X20.here hx rfl (hb hby d6_47) rfl k) ?_
            show own_Ends p.tables e below s _ _ _ (T20.setTop (mkF m 49 #[.val (.ref o0_6), .val (.long y1_6), .second, .val (.long y2_6), .second, .val (.int (nT - (1 : Int32))), .val (.int (own_nx nT (own_h y1_6 y2_6 nT))), .val (.int (num (own_nx nT (own_h y1_6 y2_6 nT))))] [(.int (own_nx nT (own_h y1_6 y2_6 nT))), (.ref w_ys_o0_6)]))
            obtain ⟨cl21, Ar21, S21, N21, G21⟩ := id V_w_ys_o0_6
            have hr21 : ¬ (own_nx nT (own_h y1_6 y2_6 nT)) < 0 ∧ (own_nx nT (own_h y1_6 y2_6 nT)) < nT := (own_rng _ _ hnT)
            have hin21 : ¬ ((own_nx nT (own_h y1_6 y2_6 nT)) < 0 ∨ cl21.slots.size ≤ ((own_nx nT (own_h y1_6 y2_6 nT))).toNatClampNeg) := inb_of S21 hr21
            have hat21 : cl21.slots[((own_nx nT (own_h y1_6 y2_6 nT))).toNatClampNeg]? = some (.long (Ys (own_nx nT (own_h y1_6 y2_6 nT)))) := G21 _ hr21.1 hr21.2
            refine own_step (fun t k => X20.laload hx (j := (own_nx nT (own_h y1_6 y2_6 nT))) (v := (.long (Ys (own_nx nT (own_h y1_6 y2_6 nT))))) (by rw [e20]; exact Ar21.1) (State.isArrayOf_alike hZ.alike Ar21.2.1) Ar21.2.2 hin21 hat21 (g := (mkF m 49 #[.val (.ref o0_6), .val (.long y1_6), .second, .val (.long y2_6), .second, .val (.int (nT - (1 : Int32))), .val (.int (own_nx nT (own_h y1_6 y2_6 nT))), .val (.int (num (own_nx nT (own_h y1_6 y2_6 nT))))] [(.int (own_nx nT (own_h y1_6 y2_6 nT))), (.ref w_ys_o0_6)])) rfl rfl (hb hby d6_49) _ k) ?_
            refine own_step (fun t k => XS.lloadN X20.here hx rfl (hb hby d6_50) rfl k) ?_
            refine own_step (fun t k => XS.lcmp X20.here hx rfl (hb hby d6_51) rfl k) ?_
            show own_Ends p.tables e below s _ _ _ (T20.setTop (mkF m 52 #[.val (.ref o0_6), .val (.long y1_6), .second, .val (.long y2_6), .second, .val (.int (nT - (1 : Int32))), .val (.int (own_nx nT (own_h y1_6 y2_6 nT))), .val (.int (num (own_nx nT (own_h y1_6 y2_6 nT))))] [(.int (lcmpW (Ys (own_nx nT (own_h y1_6 y2_6 nT))) y2_6))]))
            by_cases hc52_22 : (lcmpW (Ys (own_nx nT (own_h y1_6 y2_6 nT))) y2_6) = (0 : Int32)
            · skip
              refine own_step (fun t k => XS.ifNo X20.here hx rfl (hb hby d6_52) rfl ((if0 _ _).trans (teq hc52_22).2) k) ?_
              refine own_step (fun t k => XS.iload X20.here hx rfl (hb hby d6_55) rfl k) ?_
              refine own_step (fun t k => XS.iconst X20.here hx rfl (hb hby d6_57) k) ?_
              refine own_step (fun t k => XS.isub X20.here hx rfl (hb hby d6_58) rfl k) ?_
              show own_Ends p.tables e below s _ _ _ (T20.setTop (mkF m 59 #[.val (.ref o0_6), .val (.long y1_6), .second, .val (.long y2_6), .second, .val (.int (nT - (1 : Int32))), .val (.int (own_nx nT (own_h y1_6 y2_6 nT))), .val (.int (num (own_nx nT (own_h y1_6 y2_6 nT))))] [(.int ((num (own_nx nT (own_h y1_6 y2_6 nT))) - (1 : Int32)))]))
              exact own_retI X20 hx Bd.returns (hb hby d6_59) hnl (by rw [e20]; exact ⟨(congrArg (fun z => some (Value.int z)) (Eq.symm (show (own_r6 y1_6 y2_6 nT num Xs Ys) = ((num (own_nx nT (own_h y1_6 y2_6 nT))) - (1 : Int32)) from by unfold own_r6; rw [if_neg hc28_7, if_pos hc40_10, if_neg hc52_13, if_neg hc28_16, if_pos hc40_19, if_pos hc52_22]))), N4, rfl⟩) (by decide) (by decide)
            · skip
              refine own_step (fun t k => XS.ifYes X20.here hx rfl (pc0 := 52) (pc' := 60) rfl (hb hby d6_52) rfl ((if0 _ _).trans (feq hc52_22).2) (by decide) (by decide) k) ?_
              refine own_step (fun t k => XS.iload X20.here hx rfl (hb hby d6_60) rfl k) ?_
              refine own_step (fun t k => XS.iconst X20.here hx rfl (hb hby d6_62) k) ?_
              refine own_step (fun t k => XS.iadd X20.here hx rfl (hb hby d6_63) rfl k) ?_
              refine own_step (fun t k => XS.iload X20.here hx rfl (hb hby d6_64) rfl k) ?_
              refine own_step (fun t k => XS.iand X20.here hx rfl (hb hby d6_66) rfl k) ?_
              refine own_step (fun t k => XS.istore X20.here hx rfl (hb hby d6_67) rfl (l' := #[.val (.ref o0_6), .val (.long y1_6), .second, .val (.long y2_6), .second, .val (.int (nT - (1 : Int32))), .val (.int (own_nx nT (own_nx nT (own_h y1_6 y2_6 nT)))), .val (.int (num (own_nx nT (own_h y1_6 y2_6 nT))))]) rfl k) ?_
              show own_Ends p.tables e below s _ _ _ (T20.setTop (mkF m 69 #[.val (.ref o0_6), .val (.long y1_6), .second, .val (.long y2_6), .second, .val (.int (nT - (1 : Int32))), .val (.int (own_nx nT (own_nx nT (own_h y1_6 y2_6 nT)))), .val (.int (num (own_nx nT (own_h y1_6 y2_6 nT))))] []))
              refine own_step (fun t k => XS.goto X20.here hx rfl (pc0 := 69) (pc' := 17) rfl (hb hby d6_69) (by decide) (by decide) k) ?_
              refine own_step (fun t k => XS.aloadN X20.here hx rfl (hb hby d6_17) rfl rfl k) ?_
              show own_Ends p.tables e below s _ _ _ (T20.setTop (mkF m 18 #[.val (.ref o0_6), .val (.long y1_6), .second, .val (.long y2_6), .second, .val (.int (nT - (1 : Int32))), .val (.int (own_nx nT (own_nx nT (own_h y1_6 y2_6 nT)))), .val (.int (num (own_nx nT (own_h y1_6 y2_6 nT))))] [(.ref o0_6)]))
              obtain ⟨T23, X23, e23, st23⟩ := getF X20 hx hZ hown (host := "") (Or.inl (hw _ (List.mem_of_getElem? (i := 16) rfl))) Via.refl e20 F_numbers_o0_6 (g := (mkF m 18 #[.val (.ref o0_6), .val (.long y1_6), .second, .val (.long y2_6), .second, .val (.int (nT - (1 : Int32))), .val (.int (own_nx nT (own_nx nT (own_h y1_6 y2_6 nT)))), .val (.int (num (own_nx nT (own_h y1_6 y2_6 nT))))] [(.ref o0_6)])) rfl rfl (hb hby d6_18)
              refine own_step (fun t k => st23 _ k) ?_
              refine own_step (fun t k => XS.iload X23.here hx rfl (hb hby d6_21) rfl k) ?_
              show own_Ends p.tables e below s _ _ _ (T23.setTop (mkF m 23 #[.val (.ref o0_6), .val (.long y1_6), .second, .val (.long y2_6), .second, .val (.int (nT - (1 : Int32))), .val (.int (own_nx nT (own_nx nT (own_h y1_6 y2_6 nT)))), .val (.int (num (own_nx nT (own_h y1_6 y2_6 nT))))] [(.int (own_nx nT (own_nx nT (own_h y1_6 y2_6 nT)))), (.ref w_numbers_o0_6)]))
              obtain ⟨cl24, Ar24, S24, N24, G24⟩ := id V_w_numbers_o0_6
              have hr24 : ¬ (own_nx nT (own_nx nT (own_h y1_6 y2_6 nT))) < 0 ∧ (own_nx nT (own_nx nT (own_h y1_6 y2_6 nT))) < nT := (own_rng _ _ hnT)
              have hin24 : ¬ ((own_nx nT (own_nx nT (own_h y1_6 y2_6 nT))) < 0 ∨ cl24.slots.size ≤ ((own_nx nT (own_nx nT (own_h y1_6 y2_6 nT)))).toNatClampNeg) := inb_of S24 hr24
              have hat24 : cl24.slots[((own_nx nT (own_nx nT (own_h y1_6 y2_6 nT)))).toNatClampNeg]? = some (.int (num (own_nx nT (own_nx nT (own_h y1_6 y2_6 nT))))) := G24 _ hr24.1 hr24.2
              refine own_step (fun t k => X23.iaload hx (j := (own_nx nT (own_nx nT (own_h y1_6 y2_6 nT)))) (v := (.int (num (own_nx nT (own_nx nT (own_h y1_6 y2_6 nT)))))) (by rw [e23]; exact Ar24.1) (State.isArrayOf_alike hZ.alike Ar24.2.1) Ar24.2.2 hin24 hat24 (g := (mkF m 23 #[.val (.ref o0_6), .val (.long y1_6), .second, .val (.long y2_6), .second, .val (.int (nT - (1 : Int32))), .val (.int (own_nx nT (own_nx nT (own_h y1_6 y2_6 nT)))), .val (.int (num (own_nx nT (own_h y1_6 y2_6 nT))))] [(.int (own_nx nT (own_nx nT (own_h y1_6 y2_6 nT)))), (.ref w_numbers_o0_6)])) rfl rfl (hb hby d6_23) _ k) ?_
              refine own_step (fun t k => XS.istore X23.here hx rfl (hb hby d6_24) rfl (l' := #[.val (.ref o0_6), .val (.long y1_6), .second, .val (.long y2_6), .second, .val (.int (nT - (1 : Int32))), .val (.int (own_nx nT (own_nx nT (own_h y1_6 y2_6 nT)))), .val (.int (num (own_nx nT (own_nx nT (own_h y1_6 y2_6 nT)))))]) rfl k) ?_
              refine own_step (fun t k => XS.iload X23.here hx rfl (hb hby d6_26) rfl k) ?_
              show own_Ends p.tables e below s _ _ _ (T23.setTop (mkF m 28 #[.val (.ref o0_6), .val (.long y1_6), .second, .val (.long y2_6), .second, .val (.int (nT - (1 : Int32))), .val (.int (own_nx nT (own_nx nT (own_h y1_6 y2_6 nT)))), .val (.int (num (own_nx nT (own_nx nT (own_h y1_6 y2_6 nT)))))] [(.int (num (own_nx nT (own_nx nT (own_h y1_6 y2_6 nT)))))]))
              have hc25 : (num (own_nx nT (own_nx nT (own_h y1_6 y2_6 nT)))) = (0 : Int32) := (hst _ hc28_7 hc28_16)
              refine own_step (fun t k => XS.ifYes X23.here hx rfl (pc0 := 28) (pc' := 55) rfl (hb hby d6_28) rfl ((if0 _ _).trans (teq hc25).1) (by decide) (by decide) k) ?_
              refine own_step (fun t k => XS.iload X23.here hx rfl (hb hby d6_55) rfl k) ?_
              refine own_step (fun t k => XS.iconst X23.here hx rfl (hb hby d6_57) k) ?_
              refine own_step (fun t k => XS.isub X23.here hx rfl (hb hby d6_58) rfl k) ?_
              show own_Ends p.tables e below s _ _ _ (T23.setTop (mkF m 59 #[.val (.ref o0_6), .val (.long y1_6), .second, .val (.long y2_6), .second, .val (.int (nT - (1 : Int32))), .val (.int (own_nx nT (own_nx nT (own_h y1_6 y2_6 nT)))), .val (.int (num (own_nx nT (own_nx nT (own_h y1_6 y2_6 nT)))))] [(.int ((num (own_nx nT (own_nx nT (own_h y1_6 y2_6 nT)))) - (1 : Int32)))]))
              exact own_retI X23 hx Bd.returns (hb hby d6_59) hnl (by rw [e23]; exact ⟨(congrArg (fun z => some (Value.int z)) (Eq.symm (show (own_r6 y1_6 y2_6 nT num Xs Ys) = ((num (own_nx nT (own_nx nT (own_h y1_6 y2_6 nT)))) - (1 : Int32)) from by unfold own_r6; rw [if_neg hc28_7, if_pos hc40_10, if_neg hc52_13, if_neg hc28_16, if_pos hc40_19, if_neg hc52_22]))), N4, rfl⟩) (by decide) (by decide)
          · skip
            refine own_step (fun t k => XS.ifYes X17.here hx rfl (pc0 := 40) (pc' := 60) rfl (hb hby d6_40) rfl ((if0 _ _).trans (feq hc40_19).2) (by decide) (by decide) k) ?_
            refine own_step (fun t k => XS.iload X17.here hx rfl (hb hby d6_60) rfl k) ?_
            refine own_step (fun t k => XS.iconst X17.here hx rfl (hb hby d6_62) k) ?_
            refine own_step (fun t k => XS.iadd X17.here hx rfl (hb hby d6_63) rfl k) ?_
            refine own_step (fun t k => XS.iload X17.here hx rfl (hb hby d6_64) rfl k) ?_
            refine own_step (fun t k => XS.iand X17.here hx rfl (hb hby d6_66) rfl k) ?_
            refine own_step (fun t k => XS.istore X17.here hx rfl (hb hby d6_67) rfl (l' := #[.val (.ref o0_6), .val (.long y1_6), .second, .val (.long y2_6), .second, .val (.int (nT - (1 : Int32))), .val (.int (own_nx nT (own_nx nT (own_h y1_6 y2_6 nT)))), .val (.int (num (own_nx nT (own_h y1_6 y2_6 nT))))]) rfl k) ?_
            show own_Ends p.tables e below s _ _ _ (T17.setTop (mkF m 69 #[.val (.ref o0_6), .val (.long y1_6), .second, .val (.long y2_6), .second, .val (.int (nT - (1 : Int32))), .val (.int (own_nx nT (own_nx nT (own_h y1_6 y2_6 nT)))), .val (.int (num (own_nx nT (own_h y1_6 y2_6 nT))))] []))
            refine own_step (fun t k => XS.goto X17.here hx rfl (pc0 := 69) (pc' := 17) rfl (hb hby d6_69) (by decide) (by decide) k) ?_
            refine own_step (fun t k => XS.aloadN X17.here hx rfl (hb hby d6_17) rfl rfl k) ?_
            show own_Ends p.tables e below s _ _ _ (T17.setTop (mkF m 18 #[.val (.ref o0_6), .val (.long y1_6), .second, .val (.long y2_6), .second, .val (.int (nT - (1 : Int32))), .val (.int (own_nx nT (own_nx nT (own_h y1_6 y2_6 nT)))), .val (.int (num (own_nx nT (own_h y1_6 y2_6 nT))))] [(.ref o0_6)]))
            obtain ⟨T26, X26, e26, st26⟩ := getF X17 hx hZ hown (host := "") (Or.inl (hw _ (List.mem_of_getElem? (i := 16) rfl))) Via.refl e17 F_numbers_o0_6 (g := (mkF m 18 #[.val (.ref o0_6), .val (.long y1_6), .second, .val (.long y2_6), .second, .val (.int (nT - (1 : Int32))), .val (.int (own_nx nT (own_nx nT (own_h y1_6 y2_6 nT)))), .val (.int (num (own_nx nT (own_h y1_6 y2_6 nT))))] [(.ref o0_6)])) rfl rfl (hb hby d6_18)
            refine own_step (fun t k => st26 _ k) ?_
            refine own_step (fun t k => XS.iload X26.here hx rfl (hb hby d6_21) rfl k) ?_
            show own_Ends p.tables e below s _ _ _ (T26.setTop (mkF m 23 #[.val (.ref o0_6), .val (.long y1_6), .second, .val (.long y2_6), .second, .val (.int (nT - (1 : Int32))), .val (.int (own_nx nT (own_nx nT (own_h y1_6 y2_6 nT)))), .val (.int (num (own_nx nT (own_h y1_6 y2_6 nT))))] [(.int (own_nx nT (own_nx nT (own_h y1_6 y2_6 nT)))), (.ref w_numbers_o0_6)]))
            obtain ⟨cl27, Ar27, S27, N27, G27⟩ := id V_w_numbers_o0_6
            have hr27 : ¬ (own_nx nT (own_nx nT (own_h y1_6 y2_6 nT))) < 0 ∧ (own_nx nT (own_nx nT (own_h y1_6 y2_6 nT))) < nT := (own_rng _ _ hnT)
            have hin27 : ¬ ((own_nx nT (own_nx nT (own_h y1_6 y2_6 nT))) < 0 ∨ cl27.slots.size ≤ ((own_nx nT (own_nx nT (own_h y1_6 y2_6 nT)))).toNatClampNeg) := inb_of S27 hr27
            have hat27 : cl27.slots[((own_nx nT (own_nx nT (own_h y1_6 y2_6 nT)))).toNatClampNeg]? = some (.int (num (own_nx nT (own_nx nT (own_h y1_6 y2_6 nT))))) := G27 _ hr27.1 hr27.2
            refine own_step (fun t k => X26.iaload hx (j := (own_nx nT (own_nx nT (own_h y1_6 y2_6 nT)))) (v := (.int (num (own_nx nT (own_nx nT (own_h y1_6 y2_6 nT)))))) (by rw [e26]; exact Ar27.1) (State.isArrayOf_alike hZ.alike Ar27.2.1) Ar27.2.2 hin27 hat27 (g := (mkF m 23 #[.val (.ref o0_6), .val (.long y1_6), .second, .val (.long y2_6), .second, .val (.int (nT - (1 : Int32))), .val (.int (own_nx nT (own_nx nT (own_h y1_6 y2_6 nT)))), .val (.int (num (own_nx nT (own_h y1_6 y2_6 nT))))] [(.int (own_nx nT (own_nx nT (own_h y1_6 y2_6 nT)))), (.ref w_numbers_o0_6)])) rfl rfl (hb hby d6_23) _ k) ?_
            refine own_step (fun t k => XS.istore X26.here hx rfl (hb hby d6_24) rfl (l' := #[.val (.ref o0_6), .val (.long y1_6), .second, .val (.long y2_6), .second, .val (.int (nT - (1 : Int32))), .val (.int (own_nx nT (own_nx nT (own_h y1_6 y2_6 nT)))), .val (.int (num (own_nx nT (own_nx nT (own_h y1_6 y2_6 nT)))))]) rfl k) ?_
            refine own_step (fun t k => XS.iload X26.here hx rfl (hb hby d6_26) rfl k) ?_
            show own_Ends p.tables e below s _ _ _ (T26.setTop (mkF m 28 #[.val (.ref o0_6), .val (.long y1_6), .second, .val (.long y2_6), .second, .val (.int (nT - (1 : Int32))), .val (.int (own_nx nT (own_nx nT (own_h y1_6 y2_6 nT)))), .val (.int (num (own_nx nT (own_nx nT (own_h y1_6 y2_6 nT)))))] [(.int (num (own_nx nT (own_nx nT (own_h y1_6 y2_6 nT)))))]))
            have hc28 : (num (own_nx nT (own_nx nT (own_h y1_6 y2_6 nT)))) = (0 : Int32) := (hst _ hc28_7 hc28_16)
            refine own_step (fun t k => XS.ifYes X26.here hx rfl (pc0 := 28) (pc' := 55) rfl (hb hby d6_28) rfl ((if0 _ _).trans (teq hc28).1) (by decide) (by decide) k) ?_
            refine own_step (fun t k => XS.iload X26.here hx rfl (hb hby d6_55) rfl k) ?_
            refine own_step (fun t k => XS.iconst X26.here hx rfl (hb hby d6_57) k) ?_
            refine own_step (fun t k => XS.isub X26.here hx rfl (hb hby d6_58) rfl k) ?_
            show own_Ends p.tables e below s _ _ _ (T26.setTop (mkF m 59 #[.val (.ref o0_6), .val (.long y1_6), .second, .val (.long y2_6), .second, .val (.int (nT - (1 : Int32))), .val (.int (own_nx nT (own_nx nT (own_h y1_6 y2_6 nT)))), .val (.int (num (own_nx nT (own_nx nT (own_h y1_6 y2_6 nT)))))] [(.int ((num (own_nx nT (own_nx nT (own_h y1_6 y2_6 nT)))) - (1 : Int32)))]))
            exact own_retI X26 hx Bd.returns (hb hby d6_59) hnl (by rw [e26]; exact ⟨(congrArg (fun z => some (Value.int z)) (Eq.symm (show (own_r6 y1_6 y2_6 nT num Xs Ys) = ((num (own_nx nT (own_nx nT (own_h y1_6 y2_6 nT)))) - (1 : Int32)) from by unfold own_r6; rw [if_neg hc28_7, if_pos hc40_10, if_neg hc52_13, if_neg hc28_16, if_neg hc40_19]))), N4, rfl⟩) (by decide) (by decide)
    · skip
      refine own_step (fun t k => XS.ifYes X8.here hx rfl (pc0 := 40) (pc' := 60) rfl (hb hby d6_40) rfl ((if0 _ _).trans (feq hc40_10).2) (by decide) (by decide) k) ?_
      refine own_step (fun t k => XS.iload X8.here hx rfl (hb hby d6_60) rfl k) ?_
      refine own_step (fun t k => XS.iconst X8.here hx rfl (hb hby d6_62) k) ?_
      refine own_step (fun t k => XS.iadd X8.here hx rfl (hb hby d6_63) rfl k) ?_
      refine own_step (fun t k => XS.iload X8.here hx rfl (hb hby d6_64) rfl k) ?_
      refine own_step (fun t k => XS.iand X8.here hx rfl (hb hby d6_66) rfl k) ?_
      refine own_step (fun t k => XS.istore X8.here hx rfl (hb hby d6_67) rfl (l' := #[.val (.ref o0_6), .val (.long y1_6), .second, .val (.long y2_6), .second, .val (.int (nT - (1 : Int32))), .val (.int (own_nx nT (own_h y1_6 y2_6 nT))), .val (.int (num (own_h y1_6 y2_6 nT)))]) rfl k) ?_
      show own_Ends p.tables e below s _ _ _ (T8.setTop (mkF m 69 #[.val (.ref o0_6), .val (.long y1_6), .second, .val (.long y2_6), .second, .val (.int (nT - (1 : Int32))), .val (.int (own_nx nT (own_h y1_6 y2_6 nT))), .val (.int (num (own_h y1_6 y2_6 nT)))] []))
      refine own_step (fun t k => XS.goto X8.here hx rfl (pc0 := 69) (pc' := 17) rfl (hb hby d6_69) (by decide) (by decide) k) ?_
      refine own_step (fun t k => XS.aloadN X8.here hx rfl (hb hby d6_17) rfl rfl k) ?_
      show own_Ends p.tables e below s _ _ _ (T8.setTop (mkF m 18 #[.val (.ref o0_6), .val (.long y1_6), .second, .val (.long y2_6), .second, .val (.int (nT - (1 : Int32))), .val (.int (own_nx nT (own_h y1_6 y2_6 nT))), .val (.int (num (own_h y1_6 y2_6 nT)))] [(.ref o0_6)]))
      obtain ⟨T29, X29, e29, st29⟩ := getF X8 hx hZ hown (host := "") (Or.inl (hw _ (List.mem_of_getElem? (i := 16) rfl))) Via.refl e8 F_numbers_o0_6 (g := (mkF m 18 #[.val (.ref o0_6), .val (.long y1_6), .second, .val (.long y2_6), .second, .val (.int (nT - (1 : Int32))), .val (.int (own_nx nT (own_h y1_6 y2_6 nT))), .val (.int (num (own_h y1_6 y2_6 nT)))] [(.ref o0_6)])) rfl rfl (hb hby d6_18)
      refine own_step (fun t k => st29 _ k) ?_
      refine own_step (fun t k => XS.iload X29.here hx rfl (hb hby d6_21) rfl k) ?_
      show own_Ends p.tables e below s _ _ _ (T29.setTop (mkF m 23 #[.val (.ref o0_6), .val (.long y1_6), .second, .val (.long y2_6), .second, .val (.int (nT - (1 : Int32))), .val (.int (own_nx nT (own_h y1_6 y2_6 nT))), .val (.int (num (own_h y1_6 y2_6 nT)))] [(.int (own_nx nT (own_h y1_6 y2_6 nT))), (.ref w_numbers_o0_6)]))
      obtain ⟨cl30, Ar30, S30, N30, G30⟩ := id V_w_numbers_o0_6
      have hr30 : ¬ (own_nx nT (own_h y1_6 y2_6 nT)) < 0 ∧ (own_nx nT (own_h y1_6 y2_6 nT)) < nT := (own_rng _ _ hnT)
      have hin30 : ¬ ((own_nx nT (own_h y1_6 y2_6 nT)) < 0 ∨ cl30.slots.size ≤ ((own_nx nT (own_h y1_6 y2_6 nT))).toNatClampNeg) := inb_of S30 hr30
      have hat30 : cl30.slots[((own_nx nT (own_h y1_6 y2_6 nT))).toNatClampNeg]? = some (.int (num (own_nx nT (own_h y1_6 y2_6 nT)))) := G30 _ hr30.1 hr30.2
      refine own_step (fun t k => X29.iaload hx (j := (own_nx nT (own_h y1_6 y2_6 nT))) (v := (.int (num (own_nx nT (own_h y1_6 y2_6 nT))))) (by rw [e29]; exact Ar30.1) (State.isArrayOf_alike hZ.alike Ar30.2.1) Ar30.2.2 hin30 hat30 (g := (mkF m 23 #[.val (.ref o0_6), .val (.long y1_6), .second, .val (.long y2_6), .second, .val (.int (nT - (1 : Int32))), .val (.int (own_nx nT (own_h y1_6 y2_6 nT))), .val (.int (num (own_h y1_6 y2_6 nT)))] [(.int (own_nx nT (own_h y1_6 y2_6 nT))), (.ref w_numbers_o0_6)])) rfl rfl (hb hby d6_23) _ k) ?_
      refine own_step (fun t k => XS.istore X29.here hx rfl (hb hby d6_24) rfl (l' := #[.val (.ref o0_6), .val (.long y1_6), .second, .val (.long y2_6), .second, .val (.int (nT - (1 : Int32))), .val (.int (own_nx nT (own_h y1_6 y2_6 nT))), .val (.int (num (own_nx nT (own_h y1_6 y2_6 nT))))]) rfl k) ?_
      refine own_step (fun t k => XS.iload X29.here hx rfl (hb hby d6_26) rfl k) ?_
      show own_Ends p.tables e below s _ _ _ (T29.setTop (mkF m 28 #[.val (.ref o0_6), .val (.long y1_6), .second, .val (.long y2_6), .second, .val (.int (nT - (1 : Int32))), .val (.int (own_nx nT (own_h y1_6 y2_6 nT))), .val (.int (num (own_nx nT (own_h y1_6 y2_6 nT))))] [(.int (num (own_nx nT (own_h y1_6 y2_6 nT))))]))
      by_cases hc28_31 : (num (own_nx nT (own_h y1_6 y2_6 nT))) = (0 : Int32)
      · skip
        refine own_step (fun t k => XS.ifYes X29.here hx rfl (pc0 := 28) (pc' := 55) rfl (hb hby d6_28) rfl ((if0 _ _).trans (teq hc28_31).1) (by decide) (by decide) k) ?_
        refine own_step (fun t k => XS.iload X29.here hx rfl (hb hby d6_55) rfl k) ?_
        refine own_step (fun t k => XS.iconst X29.here hx rfl (hb hby d6_57) k) ?_
        refine own_step (fun t k => XS.isub X29.here hx rfl (hb hby d6_58) rfl k) ?_
        show own_Ends p.tables e below s _ _ _ (T29.setTop (mkF m 59 #[.val (.ref o0_6), .val (.long y1_6), .second, .val (.long y2_6), .second, .val (.int (nT - (1 : Int32))), .val (.int (own_nx nT (own_h y1_6 y2_6 nT))), .val (.int (num (own_nx nT (own_h y1_6 y2_6 nT))))] [(.int ((num (own_nx nT (own_h y1_6 y2_6 nT))) - (1 : Int32)))]))
        exact own_retI X29 hx Bd.returns (hb hby d6_59) hnl (by rw [e29]; exact ⟨(congrArg (fun z => some (Value.int z)) (Eq.symm (show (own_r6 y1_6 y2_6 nT num Xs Ys) = ((num (own_nx nT (own_h y1_6 y2_6 nT))) - (1 : Int32)) from by unfold own_r6; rw [if_neg hc28_7, if_neg hc40_10, if_pos hc28_31]))), N4, rfl⟩) (by decide) (by decide)
      · skip
        refine own_step (fun t k => XS.ifNo X29.here hx rfl (hb hby d6_28) rfl ((if0 _ _).trans (feq hc28_31).1) k) ?_
        refine own_step (fun t k => XS.aloadN X29.here hx rfl (hb hby d6_31) rfl rfl k) ?_
        show own_Ends p.tables e below s _ _ _ (T29.setTop (mkF m 32 #[.val (.ref o0_6), .val (.long y1_6), .second, .val (.long y2_6), .second, .val (.int (nT - (1 : Int32))), .val (.int (own_nx nT (own_h y1_6 y2_6 nT))), .val (.int (num (own_nx nT (own_h y1_6 y2_6 nT))))] [(.ref o0_6)]))
        obtain ⟨T32, X32, e32, st32⟩ := getF X29 hx hZ hown (host := "") (Or.inl (hw _ (List.mem_of_getElem? (i := 11) rfl))) Via.refl e29 F_xs_o0_6 (g := (mkF m 32 #[.val (.ref o0_6), .val (.long y1_6), .second, .val (.long y2_6), .second, .val (.int (nT - (1 : Int32))), .val (.int (own_nx nT (own_h y1_6 y2_6 nT))), .val (.int (num (own_nx nT (own_h y1_6 y2_6 nT))))] [(.ref o0_6)])) rfl rfl (hb hby d6_32)
        refine own_step (fun t k => st32 _ k) ?_
        refine own_step (fun t k => XS.iload X32.here hx rfl (hb hby d6_35) rfl k) ?_
        show own_Ends p.tables e below s _ _ _ (T32.setTop (mkF m 37 #[.val (.ref o0_6), .val (.long y1_6), .second, .val (.long y2_6), .second, .val (.int (nT - (1 : Int32))), .val (.int (own_nx nT (own_h y1_6 y2_6 nT))), .val (.int (num (own_nx nT (own_h y1_6 y2_6 nT))))] [(.int (own_nx nT (own_h y1_6 y2_6 nT))), (.ref w_xs_o0_6)]))
        obtain ⟨cl33, Ar33, S33, N33, G33⟩ := id V_w_xs_o0_6
        have hr33 : ¬ (own_nx nT (own_h y1_6 y2_6 nT)) < 0 ∧ (own_nx nT (own_h y1_6 y2_6 nT)) < nT := (own_rng _ _ hnT)
        have hin33 : ¬ ((own_nx nT (own_h y1_6 y2_6 nT)) < 0 ∨ cl33.slots.size ≤ ((own_nx nT (own_h y1_6 y2_6 nT))).toNatClampNeg) := inb_of S33 hr33
        have hat33 : cl33.slots[((own_nx nT (own_h y1_6 y2_6 nT))).toNatClampNeg]? = some (.long (Xs (own_nx nT (own_h y1_6 y2_6 nT)))) := G33 _ hr33.1 hr33.2
        refine own_step (fun t k => X32.laload hx (j := (own_nx nT (own_h y1_6 y2_6 nT))) (v := (.long (Xs (own_nx nT (own_h y1_6 y2_6 nT))))) (by rw [e32]; exact Ar33.1) (State.isArrayOf_alike hZ.alike Ar33.2.1) Ar33.2.2 hin33 hat33 (g := (mkF m 37 #[.val (.ref o0_6), .val (.long y1_6), .second, .val (.long y2_6), .second, .val (.int (nT - (1 : Int32))), .val (.int (own_nx nT (own_h y1_6 y2_6 nT))), .val (.int (num (own_nx nT (own_h y1_6 y2_6 nT))))] [(.int (own_nx nT (own_h y1_6 y2_6 nT))), (.ref w_xs_o0_6)])) rfl rfl (hb hby d6_37) _ k) ?_
        refine own_step (fun t k => XS.lloadN X32.here hx rfl (hb hby d6_38) rfl k) ?_
        refine own_step (fun t k => XS.lcmp X32.here hx rfl (hb hby d6_39) rfl k) ?_
        show own_Ends p.tables e below s _ _ _ (T32.setTop (mkF m 40 #[.val (.ref o0_6), .val (.long y1_6), .second, .val (.long y2_6), .second, .val (.int (nT - (1 : Int32))), .val (.int (own_nx nT (own_h y1_6 y2_6 nT))), .val (.int (num (own_nx nT (own_h y1_6 y2_6 nT))))] [(.int (lcmpW (Xs (own_nx nT (own_h y1_6 y2_6 nT))) y1_6))]))
        by_cases hc40_34 : (lcmpW (Xs (own_nx nT (own_h y1_6 y2_6 nT))) y1_6) = (0 : Int32)
        · skip
          refine own_step (fun t k => XS.ifNo X32.here hx rfl (hb hby d6_40) rfl ((if0 _ _).trans (teq hc40_34).2) k) ?_
          refine own_step (fun t k => XS.aloadN X32.here hx rfl (hb hby d6_43) rfl rfl k) ?_
          show own_Ends p.tables e below s _ _ _ (T32.setTop (mkF m 44 #[.val (.ref o0_6), .val (.long y1_6), .second, .val (.long y2_6), .second, .val (.int (nT - (1 : Int32))), .val (.int (own_nx nT (own_h y1_6 y2_6 nT))), .val (.int (num (own_nx nT (own_h y1_6 y2_6 nT))))] [(.ref o0_6)]))
          obtain ⟨T35, X35, e35, st35⟩ := getF X32 hx hZ hown (host := "") (Or.inl (hw _ (List.mem_of_getElem? (i := 13) rfl))) Via.refl e32 F_ys_o0_6 (g := (mkF m 44 #[.val (.ref o0_6), .val (.long y1_6), .second, .val (.long y2_6), .second, .val (.int (nT - (1 : Int32))), .val (.int (own_nx nT (own_h y1_6 y2_6 nT))), .val (.int (num (own_nx nT (own_h y1_6 y2_6 nT))))] [(.ref o0_6)])) rfl rfl (hb hby d6_44)
          refine own_step (fun t k => st35 _ k) ?_
          refine own_step (fun t k => XS.iload X35.here hx rfl (hb hby d6_47) rfl k) ?_
          show own_Ends p.tables e below s _ _ _ (T35.setTop (mkF m 49 #[.val (.ref o0_6), .val (.long y1_6), .second, .val (.long y2_6), .second, .val (.int (nT - (1 : Int32))), .val (.int (own_nx nT (own_h y1_6 y2_6 nT))), .val (.int (num (own_nx nT (own_h y1_6 y2_6 nT))))] [(.int (own_nx nT (own_h y1_6 y2_6 nT))), (.ref w_ys_o0_6)]))
          obtain ⟨cl36, Ar36, S36, N36, G36⟩ := id V_w_ys_o0_6
          have hr36 : ¬ (own_nx nT (own_h y1_6 y2_6 nT)) < 0 ∧ (own_nx nT (own_h y1_6 y2_6 nT)) < nT := (own_rng _ _ hnT)
          have hin36 : ¬ ((own_nx nT (own_h y1_6 y2_6 nT)) < 0 ∨ cl36.slots.size ≤ ((own_nx nT (own_h y1_6 y2_6 nT))).toNatClampNeg) := inb_of S36 hr36
          have hat36 : cl36.slots[((own_nx nT (own_h y1_6 y2_6 nT))).toNatClampNeg]? = some (.long (Ys (own_nx nT (own_h y1_6 y2_6 nT)))) := G36 _ hr36.1 hr36.2
          refine own_step (fun t k => X35.laload hx (j := (own_nx nT (own_h y1_6 y2_6 nT))) (v := (.long (Ys (own_nx nT (own_h y1_6 y2_6 nT))))) (by rw [e35]; exact Ar36.1) (State.isArrayOf_alike hZ.alike Ar36.2.1) Ar36.2.2 hin36 hat36 (g := (mkF m 49 #[.val (.ref o0_6), .val (.long y1_6), .second, .val (.long y2_6), .second, .val (.int (nT - (1 : Int32))), .val (.int (own_nx nT (own_h y1_6 y2_6 nT))), .val (.int (num (own_nx nT (own_h y1_6 y2_6 nT))))] [(.int (own_nx nT (own_h y1_6 y2_6 nT))), (.ref w_ys_o0_6)])) rfl rfl (hb hby d6_49) _ k) ?_
          refine own_step (fun t k => XS.lloadN X35.here hx rfl (hb hby d6_50) rfl k) ?_
          refine own_step (fun t k => XS.lcmp X35.here hx rfl (hb hby d6_51) rfl k) ?_
          show own_Ends p.tables e below s _ _ _ (T35.setTop (mkF m 52 #[.val (.ref o0_6), .val (.long y1_6), .second, .val (.long y2_6), .second, .val (.int (nT - (1 : Int32))), .val (.int (own_nx nT (own_h y1_6 y2_6 nT))), .val (.int (num (own_nx nT (own_h y1_6 y2_6 nT))))] [(.int (lcmpW (Ys (own_nx nT (own_h y1_6 y2_6 nT))) y2_6))]))
          by_cases hc52_37 : (lcmpW (Ys (own_nx nT (own_h y1_6 y2_6 nT))) y2_6) = (0 : Int32)
          · skip
            refine own_step (fun t k => XS.ifNo X35.here hx rfl (hb hby d6_52) rfl ((if0 _ _).trans (teq hc52_37).2) k) ?_
            refine own_step (fun t k => XS.iload X35.here hx rfl (hb hby d6_55) rfl k) ?_
            refine own_step (fun t k => XS.iconst X35.here hx rfl (hb hby d6_57) k) ?_
            refine own_step (fun t k => XS.isub X35.here hx rfl (hb hby d6_58) rfl k) ?_
            show own_Ends p.tables e below s _ _ _ (T35.setTop (mkF m 59 #[.val (.ref o0_6), .val (.long y1_6), .second, .val (.long y2_6), .second, .val (.int (nT - (1 : Int32))), .val (.int (own_nx nT (own_h y1_6 y2_6 nT))), .val (.int (num (own_nx nT (own_h y1_6 y2_6 nT))))] [(.int ((num (own_nx nT (own_h y1_6 y2_6 nT))) - (1 : Int32)))]))
            exact own_retI X35 hx Bd.returns (hb hby d6_59) hnl (by rw [e35]; exact ⟨(congrArg (fun z => some (Value.int z)) (Eq.symm (show (own_r6 y1_6 y2_6 nT num Xs Ys) = ((num (own_nx nT (own_h y1_6 y2_6 nT))) - (1 : Int32)) from by unfold own_r6; rw [if_neg hc28_7, if_neg hc40_10, if_neg hc28_31, if_pos hc40_34, if_pos hc52_37]))), N4, rfl⟩) (by decide) (by decide)
          · skip
            refine own_step (fun t k => XS.ifYes X35.here hx rfl (pc0 := 52) (pc' := 60) rfl (hb hby d6_52) rfl ((if0 _ _).trans (feq hc52_37).2) (by decide) (by decide) k) ?_
            refine own_step (fun t k => XS.iload X35.here hx rfl (hb hby d6_60) rfl k) ?_
            refine own_step (fun t k => XS.iconst X35.here hx rfl (hb hby d6_62) k) ?_
            refine own_step (fun t k => XS.iadd X35.here hx rfl (hb hby d6_63) rfl k) ?_
            refine own_step (fun t k => XS.iload X35.here hx rfl (hb hby d6_64) rfl k) ?_
            refine own_step (fun t k => XS.iand X35.here hx rfl (hb hby d6_66) rfl k) ?_
            refine own_step (fun t k => XS.istore X35.here hx rfl (hb hby d6_67) rfl (l' := #[.val (.ref o0_6), .val (.long y1_6), .second, .val (.long y2_6), .second, .val (.int (nT - (1 : Int32))), .val (.int (own_nx nT (own_nx nT (own_h y1_6 y2_6 nT)))), .val (.int (num (own_nx nT (own_h y1_6 y2_6 nT))))]) rfl k) ?_
            show own_Ends p.tables e below s _ _ _ (T35.setTop (mkF m 69 #[.val (.ref o0_6), .val (.long y1_6), .second, .val (.long y2_6), .second, .val (.int (nT - (1 : Int32))), .val (.int (own_nx nT (own_nx nT (own_h y1_6 y2_6 nT)))), .val (.int (num (own_nx nT (own_h y1_6 y2_6 nT))))] []))
            refine own_step (fun t k => XS.goto X35.here hx rfl (pc0 := 69) (pc' := 17) rfl (hb hby d6_69) (by decide) (by decide) k) ?_
            refine own_step (fun t k => XS.aloadN X35.here hx rfl (hb hby d6_17) rfl rfl k) ?_
            show own_Ends p.tables e below s _ _ _ (T35.setTop (mkF m 18 #[.val (.ref o0_6), .val (.long y1_6), .second, .val (.long y2_6), .second, .val (.int (nT - (1 : Int32))), .val (.int (own_nx nT (own_nx nT (own_h y1_6 y2_6 nT)))), .val (.int (num (own_nx nT (own_h y1_6 y2_6 nT))))] [(.ref o0_6)]))
            obtain ⟨T38, X38, e38, st38⟩ := getF X35 hx hZ hown (host := "") (Or.inl (hw _ (List.mem_of_getElem? (i := 16) rfl))) Via.refl e35 F_numbers_o0_6 (g := (mkF m 18 #[.val (.ref o0_6), .val (.long y1_6), .second, .val (.long y2_6), .second, .val (.int (nT - (1 : Int32))), .val (.int (own_nx nT (own_nx nT (own_h y1_6 y2_6 nT)))), .val (.int (num (own_nx nT (own_h y1_6 y2_6 nT))))] [(.ref o0_6)])) rfl rfl (hb hby d6_18)
            refine own_step (fun t k => st38 _ k) ?_
            refine own_step (fun t k => XS.iload X38.here hx rfl (hb hby d6_21) rfl k) ?_
            show own_Ends p.tables e below s _ _ _ (T38.setTop (mkF m 23 #[.val (.ref o0_6), .val (.long y1_6), .second, .val (.long y2_6), .second, .val (.int (nT - (1 : Int32))), .val (.int (own_nx nT (own_nx nT (own_h y1_6 y2_6 nT)))), .val (.int (num (own_nx nT (own_h y1_6 y2_6 nT))))] [(.int (own_nx nT (own_nx nT (own_h y1_6 y2_6 nT)))), (.ref w_numbers_o0_6)]))
            obtain ⟨cl39, Ar39, S39, N39, G39⟩ := id V_w_numbers_o0_6
            have hr39 : ¬ (own_nx nT (own_nx nT (own_h y1_6 y2_6 nT))) < 0 ∧ (own_nx nT (own_nx nT (own_h y1_6 y2_6 nT))) < nT := (own_rng _ _ hnT)
            have hin39 : ¬ ((own_nx nT (own_nx nT (own_h y1_6 y2_6 nT))) < 0 ∨ cl39.slots.size ≤ ((own_nx nT (own_nx nT (own_h y1_6 y2_6 nT)))).toNatClampNeg) := inb_of S39 hr39
            have hat39 : cl39.slots[((own_nx nT (own_nx nT (own_h y1_6 y2_6 nT)))).toNatClampNeg]? = some (.int (num (own_nx nT (own_nx nT (own_h y1_6 y2_6 nT))))) := G39 _ hr39.1 hr39.2
            refine own_step (fun t k => X38.iaload hx (j := (own_nx nT (own_nx nT (own_h y1_6 y2_6 nT)))) (v := (.int (num (own_nx nT (own_nx nT (own_h y1_6 y2_6 nT)))))) (by rw [e38]; exact Ar39.1) (State.isArrayOf_alike hZ.alike Ar39.2.1) Ar39.2.2 hin39 hat39 (g := (mkF m 23 #[.val (.ref o0_6), .val (.long y1_6), .second, .val (.long y2_6), .second, .val (.int (nT - (1 : Int32))), .val (.int (own_nx nT (own_nx nT (own_h y1_6 y2_6 nT)))), .val (.int (num (own_nx nT (own_h y1_6 y2_6 nT))))] [(.int (own_nx nT (own_nx nT (own_h y1_6 y2_6 nT)))), (.ref w_numbers_o0_6)])) rfl rfl (hb hby d6_23) _ k) ?_
            refine own_step (fun t k => XS.istore X38.here hx rfl (hb hby d6_24) rfl (l' := #[.val (.ref o0_6), .val (.long y1_6), .second, .val (.long y2_6), .second, .val (.int (nT - (1 : Int32))), .val (.int (own_nx nT (own_nx nT (own_h y1_6 y2_6 nT)))), .val (.int (num (own_nx nT (own_nx nT (own_h y1_6 y2_6 nT)))))]) rfl k) ?_
            refine own_step (fun t k => XS.iload X38.here hx rfl (hb hby d6_26) rfl k) ?_
            show own_Ends p.tables e below s _ _ _ (T38.setTop (mkF m 28 #[.val (.ref o0_6), .val (.long y1_6), .second, .val (.long y2_6), .second, .val (.int (nT - (1 : Int32))), .val (.int (own_nx nT (own_nx nT (own_h y1_6 y2_6 nT)))), .val (.int (num (own_nx nT (own_nx nT (own_h y1_6 y2_6 nT)))))] [(.int (num (own_nx nT (own_nx nT (own_h y1_6 y2_6 nT)))))]))
            have hc40 : (num (own_nx nT (own_nx nT (own_h y1_6 y2_6 nT)))) = (0 : Int32) := (hst _ hc28_7 hc28_31)
            refine own_step (fun t k => XS.ifYes X38.here hx rfl (pc0 := 28) (pc' := 55) rfl (hb hby d6_28) rfl ((if0 _ _).trans (teq hc40).1) (by decide) (by decide) k) ?_
            refine own_step (fun t k => XS.iload X38.here hx rfl (hb hby d6_55) rfl k) ?_
            refine own_step (fun t k => XS.iconst X38.here hx rfl (hb hby d6_57) k) ?_
            refine own_step (fun t k => XS.isub X38.here hx rfl (hb hby d6_58) rfl k) ?_
            show own_Ends p.tables e below s _ _ _ (T38.setTop (mkF m 59 #[.val (.ref o0_6), .val (.long y1_6), .second, .val (.long y2_6), .second, .val (.int (nT - (1 : Int32))), .val (.int (own_nx nT (own_nx nT (own_h y1_6 y2_6 nT)))), .val (.int (num (own_nx nT (own_nx nT (own_h y1_6 y2_6 nT)))))] [(.int ((num (own_nx nT (own_nx nT (own_h y1_6 y2_6 nT)))) - (1 : Int32)))]))
            exact own_retI X38 hx Bd.returns (hb hby d6_59) hnl (by rw [e38]; exact ⟨(congrArg (fun z => some (Value.int z)) (Eq.symm (show (own_r6 y1_6 y2_6 nT num Xs Ys) = ((num (own_nx nT (own_nx nT (own_h y1_6 y2_6 nT)))) - (1 : Int32)) from by unfold own_r6; rw [if_neg hc28_7, if_neg hc40_10, if_neg hc28_31, if_pos hc40_34, if_neg hc52_37]))), N4, rfl⟩) (by decide) (by decide)
        · skip
          refine own_step (fun t k => XS.ifYes X32.here hx rfl (pc0 := 40) (pc' := 60) rfl (hb hby d6_40) rfl ((if0 _ _).trans (feq hc40_34).2) (by decide) (by decide) k) ?_
          refine own_step (fun t k => XS.iload X32.here hx rfl (hb hby d6_60) rfl k) ?_
          refine own_step (fun t k => XS.iconst X32.here hx rfl (hb hby d6_62) k) ?_
          refine own_step (fun t k => XS.iadd X32.here hx rfl (hb hby d6_63) rfl k) ?_
          refine own_step (fun t k => XS.iload X32.here hx rfl (hb hby d6_64) rfl k) ?_
          refine own_step (fun t k => XS.iand X32.here hx rfl (hb hby d6_66) rfl k) ?_
          refine own_step (fun t k => XS.istore X32.here hx rfl (hb hby d6_67) rfl (l' := #[.val (.ref o0_6), .val (.long y1_6), .second, .val (.long y2_6), .second, .val (.int (nT - (1 : Int32))), .val (.int (own_nx nT (own_nx nT (own_h y1_6 y2_6 nT)))), .val (.int (num (own_nx nT (own_h y1_6 y2_6 nT))))]) rfl k) ?_
          show own_Ends p.tables e below s _ _ _ (T32.setTop (mkF m 69 #[.val (.ref o0_6), .val (.long y1_6), .second, .val (.long y2_6), .second, .val (.int (nT - (1 : Int32))), .val (.int (own_nx nT (own_nx nT (own_h y1_6 y2_6 nT)))), .val (.int (num (own_nx nT (own_h y1_6 y2_6 nT))))] []))
          refine own_step (fun t k => XS.goto X32.here hx rfl (pc0 := 69) (pc' := 17) rfl (hb hby d6_69) (by decide) (by decide) k) ?_
          refine own_step (fun t k => XS.aloadN X32.here hx rfl (hb hby d6_17) rfl rfl k) ?_
          show own_Ends p.tables e below s _ _ _ (T32.setTop (mkF m 18 #[.val (.ref o0_6), .val (.long y1_6), .second, .val (.long y2_6), .second, .val (.int (nT - (1 : Int32))), .val (.int (own_nx nT (own_nx nT (own_h y1_6 y2_6 nT)))), .val (.int (num (own_nx nT (own_h y1_6 y2_6 nT))))] [(.ref o0_6)]))
          obtain ⟨T41, X41, e41, st41⟩ := getF X32 hx hZ hown (host := "") (Or.inl (hw _ (List.mem_of_getElem? (i := 16) rfl))) Via.refl e32 F_numbers_o0_6 (g := (mkF m 18 #[.val (.ref o0_6), .val (.long y1_6), .second, .val (.long y2_6), .second, .val (.int (nT - (1 : Int32))), .val (.int (own_nx nT (own_nx nT (own_h y1_6 y2_6 nT)))), .val (.int (num (own_nx nT (own_h y1_6 y2_6 nT))))] [(.ref o0_6)])) rfl rfl (hb hby d6_18)
          refine own_step (fun t k => st41 _ k) ?_
          refine own_step (fun t k => XS.iload X41.here hx rfl (hb hby d6_21) rfl k) ?_
          show own_Ends p.tables e below s _ _ _ (T41.setTop (mkF m 23 #[.val (.ref o0_6), .val (.long y1_6), .second, .val (.long y2_6), .second, .val (.int (nT - (1 : Int32))), .val (.int (own_nx nT (own_nx nT (own_h y1_6 y2_6 nT)))), .val (.int (num (own_nx nT (own_h y1_6 y2_6 nT))))] [(.int (own_nx nT (own_nx nT (own_h y1_6 y2_6 nT)))), (.ref w_numbers_o0_6)]))
          obtain ⟨cl42, Ar42, S42, N42, G42⟩ := id V_w_numbers_o0_6
          have hr42 : ¬ (own_nx nT (own_nx nT (own_h y1_6 y2_6 nT))) < 0 ∧ (own_nx nT (own_nx nT (own_h y1_6 y2_6 nT))) < nT := (own_rng _ _ hnT)
          have hin42 : ¬ ((own_nx nT (own_nx nT (own_h y1_6 y2_6 nT))) < 0 ∨ cl42.slots.size ≤ ((own_nx nT (own_nx nT (own_h y1_6 y2_6 nT)))).toNatClampNeg) := inb_of S42 hr42
          have hat42 : cl42.slots[((own_nx nT (own_nx nT (own_h y1_6 y2_6 nT)))).toNatClampNeg]? = some (.int (num (own_nx nT (own_nx nT (own_h y1_6 y2_6 nT))))) := G42 _ hr42.1 hr42.2
          refine own_step (fun t k => X41.iaload hx (j := (own_nx nT (own_nx nT (own_h y1_6 y2_6 nT)))) (v := (.int (num (own_nx nT (own_nx nT (own_h y1_6 y2_6 nT)))))) (by rw [e41]; exact Ar42.1) (State.isArrayOf_alike hZ.alike Ar42.2.1) Ar42.2.2 hin42 hat42 (g := (mkF m 23 #[.val (.ref o0_6), .val (.long y1_6), .second, .val (.long y2_6), .second, .val (.int (nT - (1 : Int32))), .val (.int (own_nx nT (own_nx nT (own_h y1_6 y2_6 nT)))), .val (.int (num (own_nx nT (own_h y1_6 y2_6 nT))))] [(.int (own_nx nT (own_nx nT (own_h y1_6 y2_6 nT)))), (.ref w_numbers_o0_6)])) rfl rfl (hb hby d6_23) _ k) ?_
          refine own_step (fun t k => XS.istore X41.here hx rfl (hb hby d6_24) rfl (l' := #[.val (.ref o0_6), .val (.long y1_6), .second, .val (.long y2_6), .second, .val (.int (nT - (1 : Int32))), .val (.int (own_nx nT (own_nx nT (own_h y1_6 y2_6 nT)))), .val (.int (num (own_nx nT (own_nx nT (own_h y1_6 y2_6 nT)))))]) rfl k) ?_
          refine own_step (fun t k => XS.iload X41.here hx rfl (hb hby d6_26) rfl k) ?_
          show own_Ends p.tables e below s _ _ _ (T41.setTop (mkF m 28 #[.val (.ref o0_6), .val (.long y1_6), .second, .val (.long y2_6), .second, .val (.int (nT - (1 : Int32))), .val (.int (own_nx nT (own_nx nT (own_h y1_6 y2_6 nT)))), .val (.int (num (own_nx nT (own_nx nT (own_h y1_6 y2_6 nT)))))] [(.int (num (own_nx nT (own_nx nT (own_h y1_6 y2_6 nT)))))]))
          have hc43 : (num (own_nx nT (own_nx nT (own_h y1_6 y2_6 nT)))) = (0 : Int32) := (hst _ hc28_7 hc28_31)
          refine own_step (fun t k => XS.ifYes X41.here hx rfl (pc0 := 28) (pc' := 55) rfl (hb hby d6_28) rfl ((if0 _ _).trans (teq hc43).1) (by decide) (by decide) k) ?_
          refine own_step (fun t k => XS.iload X41.here hx rfl (hb hby d6_55) rfl k) ?_
          refine own_step (fun t k => XS.iconst X41.here hx rfl (hb hby d6_57) k) ?_
          refine own_step (fun t k => XS.isub X41.here hx rfl (hb hby d6_58) rfl k) ?_
          show own_Ends p.tables e below s _ _ _ (T41.setTop (mkF m 59 #[.val (.ref o0_6), .val (.long y1_6), .second, .val (.long y2_6), .second, .val (.int (nT - (1 : Int32))), .val (.int (own_nx nT (own_nx nT (own_h y1_6 y2_6 nT)))), .val (.int (num (own_nx nT (own_nx nT (own_h y1_6 y2_6 nT)))))] [(.int ((num (own_nx nT (own_nx nT (own_h y1_6 y2_6 nT)))) - (1 : Int32)))]))
          exact own_retI X41 hx Bd.returns (hb hby d6_59) hnl (by rw [e41]; exact ⟨(congrArg (fun z => some (Value.int z)) (Eq.symm (show (own_r6 y1_6 y2_6 nT num Xs Ys) = ((num (own_nx nT (own_nx nT (own_h y1_6 y2_6 nT)))) - (1 : Int32)) from by unfold own_r6; rw [if_neg hc28_7, if_neg hc40_10, if_neg hc28_31, if_neg hc40_34]))), N4, rfl⟩) (by decide) (by decide)
def own_p3_0 (y1_3 : Int64) (y2_3 : Int64) (nT : Int32) (num : Int32 → Int32) (Xs : Int32 → Int64) (Ys : Int32 → Int64) : Int32 → Int64 := (if (num (own_r4 y1_3 y2_3 nT num Xs Ys)) = (0 : Int32) then (own_upd Xs (own_r4 y1_3 y2_3 nT num Xs Ys) y1_3) else Xs)
def own_p3_1 (y1_3 : Int64) (y2_3 : Int64) (nT : Int32) (num : Int32 → Int32) (Xs : Int32 → Int64) (Ys : Int32 → Int64) : Int32 → Int64 := (if (num (own_r4 y1_3 y2_3 nT num Xs Ys)) = (0 : Int32) then (own_upd Ys (own_r4 y1_3 y2_3 nT num Xs Ys) y2_3) else Ys)
def own_p3_2 (y1_3 : Int64) (y2_3 : Int64) (nT : Int32) (num : Int32 → Int32) (Xs : Int32 → Int64) (Ys : Int32 → Int64) (w_size_o0_3 : Int32) : Int32 := (if (num (own_r4 y1_3 y2_3 nT num Xs Ys)) = (0 : Int32) then (w_size_o0_3 + (1 : Int32)) else w_size_o0_3)
theorem d3_0 : decode prog_30_method_5_code 0 = .ok (.iload 5, 2) := by decide +kernel
theorem d3_2 : decode prog_30_method_5_code 2 = .ok (.ifCond .ge 18, 3) := by decide +kernel
theorem d3_20 : decode prog_30_method_5_code 20 = .ok (.aload_n 0, 1) := by decide +kernel
theorem d3_21 : decode prog_30_method_5_code 21 = .ok (.lload_n 1, 1) := by decide +kernel
theorem d3_22 : decode prog_30_method_5_code 22 = .ok (.lload_n 3, 1) := by decide +kernel
theorem d3_23 : decode prog_30_method_5_code 23 = .ok (.invokevirtual 40, 3) := by decide +kernel
theorem d3_26 : decode prog_30_method_5_code 26 = .ok (.istore 6, 2) := by decide +kernel
theorem d3_28 : decode prog_30_method_5_code 28 = .ok (.aload_n 0, 1) := by decide +kernel
theorem d3_29 : decode prog_30_method_5_code 29 = .ok (.getfield 19, 3) := by decide +kernel
theorem d3_32 : decode prog_30_method_5_code 32 = .ok (.iload 6, 2) := by decide +kernel
theorem d3_34 : decode prog_30_method_5_code 34 = .ok (.iaload, 1) := by decide +kernel
theorem d3_35 : decode prog_30_method_5_code 35 = .ok (.ifCond .ne 57, 3) := by decide +kernel
theorem d3_38 : decode prog_30_method_5_code 38 = .ok (.iconst 2, 1) := by decide +kernel
theorem d3_39 : decode prog_30_method_5_code 39 = .ok (.aload_n 0, 1) := by decide +kernel
theorem d3_40 : decode prog_30_method_5_code 40 = .ok (.getfield 23, 3) := by decide +kernel
theorem d3_43 : decode prog_30_method_5_code 43 = .ok (.iconst 1, 1) := by decide +kernel
theorem d3_44 : decode prog_30_method_5_code 44 = .ok (.iadd, 1) := by decide +kernel
theorem d3_45 : decode prog_30_method_5_code 45 = .ok (.imul, 1) := by decide +kernel
theorem d3_46 : decode prog_30_method_5_code 46 = .ok (.aload_n 0, 1) := by decide +kernel
theorem d3_47 : decode prog_30_method_5_code 47 = .ok (.getfield 19, 3) := by decide +kernel
theorem d3_50 : decode prog_30_method_5_code 50 = .ok (.arraylength, 1) := by decide +kernel
theorem d3_51 : decode prog_30_method_5_code 51 = .ok (.if_icmp .le 15, 3) := by decide +kernel
theorem d3_66 : decode prog_30_method_5_code 66 = .ok (.aload_n 0, 1) := by decide +kernel
theorem d3_67 : decode prog_30_method_5_code 67 = .ok (.getfield 12, 3) := by decide +kernel
theorem d3_70 : decode prog_30_method_5_code 70 = .ok (.iload 6, 2) := by decide +kernel
theorem d3_72 : decode prog_30_method_5_code 72 = .ok (.lload_n 1, 1) := by decide +kernel
theorem d3_73 : decode prog_30_method_5_code 73 = .ok (.lastore, 1) := by decide +kernel
theorem d3_74 : decode prog_30_method_5_code 74 = .ok (.aload_n 0, 1) := by decide +kernel
theorem d3_75 : decode prog_30_method_5_code 75 = .ok (.getfield 16, 3) := by decide +kernel
theorem d3_78 : decode prog_30_method_5_code 78 = .ok (.iload 6, 2) := by decide +kernel
theorem d3_80 : decode prog_30_method_5_code 80 = .ok (.lload_n 3, 1) := by decide +kernel
theorem d3_81 : decode prog_30_method_5_code 81 = .ok (.lastore, 1) := by decide +kernel
theorem d3_82 : decode prog_30_method_5_code 82 = .ok (.aload_n 0, 1) := by decide +kernel
theorem d3_83 : decode prog_30_method_5_code 83 = .ok (.dup, 1) := by decide +kernel
theorem d3_84 : decode prog_30_method_5_code 84 = .ok (.getfield 23, 3) := by decide +kernel
theorem d3_87 : decode prog_30_method_5_code 87 = .ok (.iconst 1, 1) := by decide +kernel
theorem d3_88 : decode prog_30_method_5_code 88 = .ok (.iadd, 1) := by decide +kernel
theorem d3_89 : decode prog_30_method_5_code 89 = .ok (.putfield 23, 3) := by decide +kernel
theorem d3_92 : decode prog_30_method_5_code 92 = .ok (.aload_n 0, 1) := by decide +kernel
theorem d3_93 : decode prog_30_method_5_code 93 = .ok (.getfield 19, 3) := by decide +kernel
theorem d3_96 : decode prog_30_method_5_code 96 = .ok (.iload 6, 2) := by decide +kernel
theorem d3_98 : decode prog_30_method_5_code 98 = .ok (.iload 5, 2) := by decide +kernel
theorem d3_100 : decode prog_30_method_5_code 100 = .ok (.iconst 1, 1) := by decide +kernel
theorem d3_101 : decode prog_30_method_5_code 101 = .ok (.iadd, 1) := by decide +kernel
theorem d3_102 : decode prog_30_method_5_code 102 = .ok (.iastore, 1) := by decide +kernel
theorem d3_103 : decode prog_30_method_5_code 103 = .ok (.return_, 1) := by decide +kernel
theorem ef_3 (m : MethodId) (o0_3 : Addr) (y1_3 : Int64) (y2_3 : Int64) (x3_3 : Int32) : entryFrame m #[(.ref o0_3), (.long y1_3), (.long y2_3), (.int x3_3)] 7 = mkF m 0 #[.val (.ref o0_3), .val (.long y1_3), .second, .val (.long y2_3), .second, .val (.int x3_3), .unset] [] := by first | (simp [entryFrame, mkF, argsToLocals, Value.category]; done) | rfl
def Q3 (Z : State) (o0_3 : Addr) (y1_3 : Int64) (y2_3 : Int64) (x3_3 : Int32) (w_numbers_o0_3 : Addr) (nT : Int32) (num : Int32 → Int32) (w_xs_o0_3 : Addr) (Xs : Int32 → Int64) (w_ys_o0_3 : Addr) (Ys : Int32 → Int64) (w_size_o0_3 : Int32) (h0 : Heap) (n0 : Nat) (v : Option Value) (h : Heap) (L : List Loc) : Prop := v = none ∧ Fr n0 L ∧ Keep h0 h [w_xs_o0_3, w_ys_o0_3, o0_3, w_numbers_o0_3] ∧ own_ArJ Z h w_xs_o0_3 nT (own_p3_0 y1_3 y2_3 nT num Xs Ys) ∧ own_ArJ Z h w_ys_o0_3 nT (own_p3_1 y1_3 y2_3 nT num Xs Ys) ∧ Fld Z h o0_3 "com/example/swanhall/swanhall/core/CellTable" "numbers" "[I" (.ref w_numbers_o0_3) ∧ Fld Z h o0_3 "com/example/swanhall/swanhall/core/CellTable" "xs" "[J" (.ref w_xs_o0_3) ∧ Fld Z h o0_3 "com/example/swanhall/swanhall/core/CellTable" "ys" "[J" (.ref w_ys_o0_3) ∧ Fld Z h o0_3 "com/example/swanhall/swanhall/core/CellTable" "size" "I" (.int (own_p3_2 y1_3 y2_3 nT num Xs Ys w_size_o0_3)) ∧ Exa Z h o0_3 "com/example/swanhall/swanhall/core/CellTable" ∧ own_ArI Z h w_numbers_o0_3 nT (own_upd num (own_r4 y1_3 y2_3 nT num Xs Ys) (x3_3 + (1 : Int32)))
set_option maxRecDepth 65536 in
set_option maxHeartbeats 40000000 in
theorem rm3 (l : Launch) (Z : State) (a0 : Array Value) (hw : ∀ d ∈ tables_1, d.before a0 Z = true) (ws : List Jvm.Cond) (o0_3 : Addr) (y1_3 : Int64) (y2_3 : Int64) (x3_3 : Int32) (w_numbers_o0_3 : Addr) (nT : Int32) (num : Int32 → Int32) (w_xs_o0_3 : Addr) (Xs : Int32 → Int64) (w_ys_o0_3 : Addr) (Ys : Int32 → Int64) (w_size_o0_3 : Int32) (h0 : Heap) (n0 : Nat) (O0 : Old Z n0 h0) (hnT : (0 : Int32) < nT) (hst : ∀ s : Int32, ¬ num s = 0 → ¬ num (own_nx nT s) = 0 → num (own_nx nT (own_nx nT s)) = 0) (hpos : ¬ x3_3 < (0 : Int32)) (hgrow : ¬ nT < ((2 : Int32) * (w_size_o0_3 + (1 : Int32)))) (F_numbers_o0_3 : Fld Z h0 o0_3 "com/example/swanhall/swanhall/core/CellTable" "numbers" "[I" (.ref w_numbers_o0_3)) (V_w_numbers_o0_3 : own_ArI Z h0 w_numbers_o0_3 nT num) (F_xs_o0_3 : Fld Z h0 o0_3 "com/example/swanhall/swanhall/core/CellTable" "xs" "[J" (.ref w_xs_o0_3)) (V_w_xs_o0_3 : own_ArJ Z h0 w_xs_o0_3 nT Xs) (F_ys_o0_3 : Fld Z h0 o0_3 "com/example/swanhall/swanhall/core/CellTable" "ys" "[J" (.ref w_ys_o0_3)) (V_w_ys_o0_3 : own_ArJ Z h0 w_ys_o0_3 nT Ys) (F_size_o0_3 : Fld Z h0 o0_3 "com/example/swanhall/swanhall/core/CellTable" "size" "I" (.int w_size_o0_3)) (E_o0_3 : Exa Z h0 o0_3 "com/example/swanhall/swanhall/core/CellTable") (g_w_xs_o0_3 : n0 ≤ w_xs_o0_3) (ne_o0_3_w_xs_o0_3 : o0_3 ≠ w_xs_o0_3) (ne_w_ys_o0_3_w_xs_o0_3 : w_ys_o0_3 ≠ w_xs_o0_3) (g_w_ys_o0_3 : n0 ≤ w_ys_o0_3) (ne_o0_3_w_ys_o0_3 : o0_3 ≠ w_ys_o0_3) (g_o0_3 : n0 ≤ o0_3) (ne_w_numbers_o0_3_w_xs_o0_3 : w_numbers_o0_3 ≠ w_xs_o0_3) (ne_w_numbers_o0_3_w_ys_o0_3 : w_numbers_o0_3 ≠ w_ys_o0_3) (ne_w_numbers_o0_3_o0_3 : w_numbers_o0_3 ≠ o0_3) (g_w_numbers_o0_3 : n0 ≤ w_numbers_o0_3) :
    MetFree l (⟨"com/example/swanhall/swanhall/core/CellTable", "put", "(JJI)V"⟩ : MethodName) (head1 (Jvm.Cond.code (⟨"com/example/swanhall/swanhall/core/CellTable", "put", "(JJI)V"⟩ : MethodName) prog_30_method_5_code 7 none :: ws) ({ frames := 2, cells := 0, slots := 0, locals := 36 } : Room)) (fun a U => a = #[(.ref o0_3), (.long y1_3), (.long y2_3), (.int x3_3)] ∧ Z.Warmed39 U.vm ∧ U.heap = h0) (fun _ _ _ _ _ => True) (fun _ U o U' => ∃ v L, o = .returned v ∧ Q3 Z o0_3 y1_3 y2_3 x3_3 w_numbers_o0_3 nT num w_xs_o0_3 Xs w_ys_o0_3 Ys w_size_o0_3 h0 n0 v U'.heap L ∧ FrameEnd U o U' L ({ frames := 2, cells := 0, slots := 0, locals := 36 } : Room).cells ({ frames := 2, cells := 0, slots := 0, locals := 36 } : Room).slots) := by
  refine MetFree.of_bodySF (plainFor_of_name pn_0) hisR ?_
  intro p e s m args below meth c s₁ Bd hml0 hP hK
  obtain ⟨rfl, hZ, hh⟩ := hP
  have hx := Bd.exec
  have hby := Bd.bytes
  have hnl := BodyLoose.notSynchronized Bd
  have hml : c.maxLocals = 7 := hml0
  have hown : s.vm.findClass "com/example/swanhall/swanhall/core/CellTable" = some m.cls := findClass_of_methodNamed Bd.named
  have hnm := (name_of_methodNamed Bd.named Bd.method).1
  have X0 : Stand p l e ({ frames := 2, cells := 0, slots := 0, locals := 36 } : Room) s m #[(.ref o0_3), (.long y1_3), (.long y2_3), (.int x3_3)] below meth c s₁ [] 0 0 := Stand.of_body Bd
  have e0 : s₁.heap = h0 := by rw [← hh, Bd.state]; rfl
  have N0 := Fr.nil n0
  show own_Ends p.tables e below s (Q3 Z o0_3 y1_3 y2_3 x3_3 w_numbers_o0_3 nT num w_xs_o0_3 Xs w_ys_o0_3 Ys w_size_o0_3 h0 n0) 0 0 (s₁.setTop (entryFrame m #[(.ref o0_3), (.long y1_3), (.long y2_3), (.int x3_3)] 7))
  rw [ef_3 m o0_3 y1_3 y2_3 x3_3]
  show own_Ends p.tables e below s _ _ _ (s₁.setTop (mkF m 0 #[.val (.ref o0_3), .val (.long y1_3), .second, .val (.long y2_3), .second, .val (.int x3_3), .unset] []))
  refine own_step (fun t k => XS.iload X0.here hx rfl (hb hby d3_0) rfl k) ?_
  show own_Ends p.tables e below s _ _ _ (s₁.setTop (mkF m 2 #[.val (.ref o0_3), .val (.long y1_3), .second, .val (.long y2_3), .second, .val (.int x3_3), .unset] [(.int x3_3)]))
  have hc1 : ¬ (x3_3 < (0 : Int32)) := hpos
  refine own_step (fun t k => XS.ifYes X0.here hx rfl (pc0 := 2) (pc' := 20) rfl (hb hby d3_2) rfl ((if0 _ _).trans (flt hc1).2.1) (by decide) (by decide) k) ?_
  refine own_step (fun t k => XS.aloadN X0.here hx rfl (hb hby d3_20) rfl rfl k) ?_
  refine own_step (fun t k => XS.lloadN X0.here hx rfl (hb hby d3_21) rfl k) ?_
  refine own_step (fun t k => XS.lloadN X0.here hx rfl (hb hby d3_22) rfl k) ?_
  show own_Ends p.tables e below s _ _ _ (s₁.setTop (mkF m 23 #[.val (.ref o0_3), .val (.long y1_3), .second, .val (.long y2_3), .second, .val (.int x3_3), .unset] [(.long y2_3), (.long y1_3), (.ref o0_3)]))
  obtain ⟨cq2, q2, q2'⟩ := E_o0_3.cell
  obtain ⟨_, _, ⟨T2, L2, k2, n2⟩, -, X2, ⟨Lc2, hQ2, l2, y2, z2⟩, st2⟩ := X0.privateBack hx (y := (⟨"com/example/swanhall/swanhall/core/CellTable", "slot", "(JJ)I"⟩ : MethodName)) hown (mvT hZ (hw _ (List.mem_of_getElem? (i := 23) rfl))) (mvT hZ (hw _ (List.mem_of_getElem? (i := 24) rfl))) (own_selPriv hZ (hw _ (List.mem_of_getElem? (i := 2) rfl)) (hw _ (List.mem_of_getElem? (i := 25) rfl)) (hw _ (List.mem_of_getElem? (i := 24) rfl)) (by decide)) (Cond.privateMethod_at (mvP hZ (hw _ (List.mem_of_getElem? (i := 25) rfl)) (args := #[]))) (mvT hZ (hw _ (List.mem_of_getElem? (i := 26) rfl))) (by decide) (backOf (W := 0) (rm4 l Z a0 hw [] o0_3 y1_3 y2_3 w_numbers_o0_3 nT num w_xs_o0_3 Xs w_ys_o0_3 Ys h0 n0 O0 hnT hst F_numbers_o0_3 V_w_numbers_o0_3 E_o0_3 F_xs_o0_3 V_w_xs_o0_3 F_ys_o0_3 V_w_ys_o0_3) hZ (hw _ (List.mem_of_getElem? (i := 26) rfl)) (hw _ (List.mem_of_getElem? (i := 3) rfl)) (by decide) (by decide)) (g := (mkF m 23 #[.val (.ref o0_3), .val (.long y1_3), .second, .val (.long y2_3), .second, .val (.int x3_3), .unset] [(.long y2_3), (.long y1_3), (.ref o0_3)])) rfl (by rw [hml]; rfl) (Steps.refl _) (a := o0_3) (by rw [e0]; exact q2) q2' (argsL := [(.long y1_3), (.long y2_3)]) (rest := []) (lenOf pd_0 rfl) rfl (by show 2 * 0 + _ ≤ _; exact Nat.le_of_eq rfl) (hb hby d3_23) (fun _ _ => ⟨rfl, e0, (by decide : 0 + 0 ≤ _), (by decide : 0 + 0 ≤ _)⟩)
  dsimp only [Pt.U, Pt.locs, Pt.cells, Pt.slots] at X2 l2 y2 z2 st2 hQ2
  subst y2 z2
  obtain ⟨rfl, N2q, e2⟩ := hQ2
  refine own_step (fun t k => st2.trans k) ?_
  have N3 : Fr n0 L2 := by rw [l2]; exact Fr.app N0 N2q
  refine own_step (fun t k => XS.istore X2.here hx rfl (hb hby d3_26) rfl (l' := #[.val (.ref o0_3), .val (.long y1_3), .second, .val (.long y2_3), .second, .val (.int x3_3), .val (.int (own_r4 y1_3 y2_3 nT num Xs Ys))]) rfl k) ?_
  refine own_step (fun t k => XS.aloadN X2.here hx rfl (hb hby d3_28) rfl rfl k) ?_
  show own_Ends p.tables e below s _ _ _ (T2.setTop (mkF m 29 #[.val (.ref o0_3), .val (.long y1_3), .second, .val (.long y2_3), .second, .val (.int x3_3), .val (.int (own_r4 y1_3 y2_3 nT num Xs Ys))] [(.ref o0_3)]))
  obtain ⟨T4, X4, e4, st4⟩ := getF X2 hx hZ hown (host := "") (Or.inl (hw _ (List.mem_of_getElem? (i := 16) rfl))) Via.refl e2 F_numbers_o0_3 (g := (mkF m 29 #[.val (.ref o0_3), .val (.long y1_3), .second, .val (.long y2_3), .second, .val (.int x3_3), .val (.int (own_r4 y1_3 y2_3 nT num Xs Ys))] [(.ref o0_3)])) rfl rfl (hb hby d3_29)
  refine own_step (fun t k => st4 _ k) ?_
  refine own_step (fun t k => XS.iload X4.here hx rfl (hb hby d3_32) rfl k) ?_
  show own_Ends p.tables e below s _ _ _ (T4.setTop (mkF m 34 #[.val (.ref o0_3), .val (.long y1_3), .second, .val (.long y2_3), .second, .val (.int x3_3), .val (.int (own_r4 y1_3 y2_3 nT num Xs Ys))] [(.int (own_r4 y1_3 y2_3 nT num Xs Ys)), (.ref w_numbers_o0_3)]))
  obtain ⟨cl5, Ar5, S5, N5, G5⟩ := id V_w_numbers_o0_3
  have hr5 : ¬ (own_r4 y1_3 y2_3 nT num Xs Ys) < 0 ∧ (own_r4 y1_3 y2_3 nT num Xs Ys) < nT := (own_srng _ _ _ _ _ _ hnT)
  have hin5 : ¬ ((own_r4 y1_3 y2_3 nT num Xs Ys) < 0 ∨ cl5.slots.size ≤ ((own_r4 y1_3 y2_3 nT num Xs Ys)).toNatClampNeg) := inb_of S5 hr5
  have hat5 : cl5.slots[((own_r4 y1_3 y2_3 nT num Xs Ys)).toNatClampNeg]? = some (.int (num (own_r4 y1_3 y2_3 nT num Xs Ys))) := G5 _ hr5.1 hr5.2
  refine own_step (fun t k => X4.iaload hx (j := (own_r4 y1_3 y2_3 nT num Xs Ys)) (v := (.int (num (own_r4 y1_3 y2_3 nT num Xs Ys)))) (by rw [e4]; exact Ar5.1) (State.isArrayOf_alike hZ.alike Ar5.2.1) Ar5.2.2 hin5 hat5 (g := (mkF m 34 #[.val (.ref o0_3), .val (.long y1_3), .second, .val (.long y2_3), .second, .val (.int x3_3), .val (.int (own_r4 y1_3 y2_3 nT num Xs Ys))] [(.int (own_r4 y1_3 y2_3 nT num Xs Ys)), (.ref w_numbers_o0_3)])) rfl rfl (hb hby d3_34) _ k) ?_
  show own_Ends p.tables e below s _ _ _ (T4.setTop (mkF m 35 #[.val (.ref o0_3), .val (.long y1_3), .second, .val (.long y2_3), .second, .val (.int x3_3), .val (.int (own_r4 y1_3 y2_3 nT num Xs Ys))] [(.int (num (own_r4 y1_3 y2_3 nT num Xs Ys)))]))
  by_cases hc35_6 : (num (own_r4 y1_3 y2_3 nT num Xs Ys)) = (0 : Int32)
  · skip
    refine own_step (fun t k => XS.ifNo X4.here hx rfl (hb hby d3_35) rfl ((if0 _ _).trans (teq hc35_6).2) k) ?_
    refine own_step (fun t k => XS.iconst X4.here hx rfl (hb hby d3_38) k) ?_
    refine own_step (fun t k => XS.aloadN X4.here hx rfl (hb hby d3_39) rfl rfl k) ?_
    show own_Ends p.tables e below s _ _ _ (T4.setTop (mkF m 40 #[.val (.ref o0_3), .val (.long y1_3), .second, .val (.long y2_3), .second, .val (.int x3_3), .val (.int (own_r4 y1_3 y2_3 nT num Xs Ys))] [(.ref o0_3), (.int (2 : Int32))]))
    obtain ⟨T7, X7, e7, st7⟩ := getF X4 hx hZ hown (host := "") (Or.inl (hw _ (List.mem_of_getElem? (i := 33) rfl))) Via.refl e4 F_size_o0_3 (g := (mkF m 40 #[.val (.ref o0_3), .val (.long y1_3), .second, .val (.long y2_3), .second, .val (.int x3_3), .val (.int (own_r4 y1_3 y2_3 nT num Xs Ys))] [(.ref o0_3), (.int (2 : Int32))])) rfl rfl (hb hby d3_40)
    refine own_step (fun t k => st7 _ k) ?_
    refine own_step (fun t k => XS.iconst X7.here hx rfl (hb hby d3_43) k) ?_
    refine own_step (fun t k => XS.iadd X7.here hx rfl (hb hby d3_44) rfl k) ?_
    refine own_step (fun t k => XS.imul X7.here hx rfl (hb hby d3_45) rfl k) ?_
    refine own_step (fun t k => XS.aloadN X7.here hx rfl (hb hby d3_46) rfl rfl k) ?_
    show own_Ends p.tables e below s _ _ _ (T7.setTop (mkF m 47 #[.val (.ref o0_3), .val (.long y1_3), .second, .val (.long y2_3), .second, .val (.int x3_3), .val (.int (own_r4 y1_3 y2_3 nT num Xs Ys))] [(.ref o0_3), (.int ((2 : Int32) * (w_size_o0_3 + (1 : Int32))))]))
    obtain ⟨T8, X8, e8, st8⟩ := getF X7 hx hZ hown (host := "") (Or.inl (hw _ (List.mem_of_getElem? (i := 16) rfl))) Via.refl e7 F_numbers_o0_3 (g := (mkF m 47 #[.val (.ref o0_3), .val (.long y1_3), .second, .val (.long y2_3), .second, .val (.int x3_3), .val (.int (own_r4 y1_3 y2_3 nT num Xs Ys))] [(.ref o0_3), (.int ((2 : Int32) * (w_size_o0_3 + (1 : Int32))))])) rfl rfl (hb hby d3_47)
    refine own_step (fun t k => st8 _ k) ?_
    show own_Ends p.tables e below s _ _ _ (T8.setTop (mkF m 50 #[.val (.ref o0_3), .val (.long y1_3), .second, .val (.long y2_3), .second, .val (.int x3_3), .val (.int (own_r4 y1_3 y2_3 nT num Xs Ys))] [(.ref w_numbers_o0_3), (.int ((2 : Int32) * (w_size_o0_3 + (1 : Int32))))]))
    obtain ⟨cl9, Ar9, S9, N9, G9⟩ := id V_w_numbers_o0_3
    have hl9 := len_of S9 N9
    refine own_step (fun t k => X8.arraylength hx (by rw [e8]; exact Ar9.1) (State.isArrayOf_alike hZ.alike Ar9.2.1) (g := (mkF m 50 #[.val (.ref o0_3), .val (.long y1_3), .second, .val (.long y2_3), .second, .val (.int x3_3), .val (.int (own_r4 y1_3 y2_3 nT num Xs Ys))] [(.ref w_numbers_o0_3), (.int ((2 : Int32) * (w_size_o0_3 + (1 : Int32))))])) rfl rfl (hb hby d3_50) _ (hl9.symm ▸ k)) ?_
    show own_Ends p.tables e below s _ _ _ (T8.setTop (mkF m 51 #[.val (.ref o0_3), .val (.long y1_3), .second, .val (.long y2_3), .second, .val (.int x3_3), .val (.int (own_r4 y1_3 y2_3 nT num Xs Ys))] [(.int nT), (.int ((2 : Int32) * (w_size_o0_3 + (1 : Int32))))]))
    have hc10 : ¬ (nT < ((2 : Int32) * (w_size_o0_3 + (1 : Int32)))) := hgrow
    refine own_step (fun t k => XS.icmpYes X8.here hx rfl (pc0 := 51) (pc' := 66) rfl (hb hby d3_51) rfl (flt hc10).2.2.2 (by decide) (by decide) k) ?_
    refine own_step (fun t k => XS.aloadN X8.here hx rfl (hb hby d3_66) rfl rfl k) ?_
    show own_Ends p.tables e below s _ _ _ (T8.setTop (mkF m 67 #[.val (.ref o0_3), .val (.long y1_3), .second, .val (.long y2_3), .second, .val (.int x3_3), .val (.int (own_r4 y1_3 y2_3 nT num Xs Ys))] [(.ref o0_3)]))
    obtain ⟨T11, X11, e11, st11⟩ := getF X8 hx hZ hown (host := "") (Or.inl (hw _ (List.mem_of_getElem? (i := 11) rfl))) Via.refl e8 F_xs_o0_3 (g := (mkF m 67 #[.val (.ref o0_3), .val (.long y1_3), .second, .val (.long y2_3), .second, .val (.int x3_3), .val (.int (own_r4 y1_3 y2_3 nT num Xs Ys))] [(.ref o0_3)])) rfl rfl (hb hby d3_67)
    refine own_step (fun t k => st11 _ k) ?_
    refine own_step (fun t k => XS.iload X11.here hx rfl (hb hby d3_70) rfl k) ?_
    refine own_step (fun t k => XS.lloadN X11.here hx rfl (hb hby d3_72) rfl k) ?_
    show own_Ends p.tables e below s _ _ _ (T11.setTop (mkF m 73 #[.val (.ref o0_3), .val (.long y1_3), .second, .val (.long y2_3), .second, .val (.int x3_3), .val (.int (own_r4 y1_3 y2_3 nT num Xs Ys))] [(.long y1_3), (.int (own_r4 y1_3 y2_3 nT num Xs Ys)), (.ref w_xs_o0_3)]))
    obtain ⟨cl12, Ar12, S12, N12, G12⟩ := id V_w_xs_o0_3
    have hr12 : ¬ (own_r4 y1_3 y2_3 nT num Xs Ys) < 0 ∧ (own_r4 y1_3 y2_3 nT num Xs Ys) < nT := (own_srng _ _ _ _ _ _ hnT)
    have hin12 : ¬ ((own_r4 y1_3 y2_3 nT num Xs Ys) < 0 ∨ cl12.slots.size ≤ ((own_r4 y1_3 y2_3 nT num Xs Ys)).toNatClampNeg) := inb_of S12 hr12
    obtain ⟨T13, h13, X13, e13, W13, st13⟩ := stJ X11 hx hZ e11 Ar12 (j := (own_r4 y1_3 y2_3 nT num Xs Ys)) hin12 (g := (mkF m 73 #[.val (.ref o0_3), .val (.long y1_3), .second, .val (.long y2_3), .second, .val (.int x3_3), .val (.int (own_r4 y1_3 y2_3 nT num Xs Ys))] [(.long y1_3), (.int (own_r4 y1_3 y2_3 nT num Xs Ys)), (.ref w_xs_o0_3)])) rfl rfl (hb hby d3_73)
    refine own_step (fun t k => st13 _ k) ?_
    have V13 : own_ArJ Z h13 w_xs_o0_3 nT (own_upd Xs (own_r4 y1_3 y2_3 nT num Xs Ys) y1_3) := own_ArJ.set (v := y1_3) ⟨cl12, Ar12, S12, N12, G12⟩ hr12.1 Ar12 W13
    have K14 : Keep h0 h13 [w_xs_o0_3, w_ys_o0_3, o0_3, w_numbers_o0_3] := (Keep.refl h0 [w_xs_o0_3, w_ys_o0_3, o0_3, w_numbers_o0_3]).wr W13 (Or.inl (List.mem_of_getElem? (i := 0) rfl))
    have N15 := Fr.snoc X13 N3 g_w_xs_o0_3
    refine own_step (fun t k => XS.aloadN X13.here hx rfl (hb hby d3_74) rfl rfl k) ?_
    show own_Ends p.tables e below s _ _ _ (T13.setTop (mkF m 75 #[.val (.ref o0_3), .val (.long y1_3), .second, .val (.long y2_3), .second, .val (.int x3_3), .val (.int (own_r4 y1_3 y2_3 nT num Xs Ys))] [(.ref o0_3)]))
    have F16 : Fld Z h13 o0_3 "com/example/swanhall/swanhall/core/CellTable" "ys" "[J" (.ref w_ys_o0_3) := (F_ys_o0_3.other W13 (Or.inl ne_o0_3_w_xs_o0_3))
    obtain ⟨T17, X17, e17, st17⟩ := getF X13 hx hZ hown (host := "") (Or.inl (hw _ (List.mem_of_getElem? (i := 13) rfl))) Via.refl e13 F16 (g := (mkF m 75 #[.val (.ref o0_3), .val (.long y1_3), .second, .val (.long y2_3), .second, .val (.int x3_3), .val (.int (own_r4 y1_3 y2_3 nT num Xs Ys))] [(.ref o0_3)])) rfl rfl (hb hby d3_75)
    refine own_step (fun t k => st17 _ k) ?_
    refine own_step (fun t k => XS.iload X17.here hx rfl (hb hby d3_78) rfl k) ?_
    refine own_step (fun t k => XS.lloadN X17.here hx rfl (hb hby d3_80) rfl k) ?_
    show own_Ends p.tables e below s _ _ _ (T17.setTop (mkF m 81 #[.val (.ref o0_3), .val (.long y1_3), .second, .val (.long y2_3), .second, .val (.int x3_3), .val (.int (own_r4 y1_3 y2_3 nT num Xs Ys))] [(.long y2_3), (.int (own_r4 y1_3 y2_3 nT num Xs Ys)), (.ref w_ys_o0_3)]))
    have F18 : own_ArJ Z h13 w_ys_o0_3 nT Ys := (V_w_ys_o0_3.other W13 ne_w_ys_o0_3_w_xs_o0_3)
    obtain ⟨cl19, Ar19, S19, N19, G19⟩ := id F18
    have hr19 : ¬ (own_r4 y1_3 y2_3 nT num Xs Ys) < 0 ∧ (own_r4 y1_3 y2_3 nT num Xs Ys) < nT := (own_srng _ _ _ _ _ _ hnT)
    have hin19 : ¬ ((own_r4 y1_3 y2_3 nT num Xs Ys) < 0 ∨ cl19.slots.size ≤ ((own_r4 y1_3 y2_3 nT num Xs Ys)).toNatClampNeg) := inb_of S19 hr19
    obtain ⟨T20, h20, X20, e20, W20, st20⟩ := stJ X17 hx hZ e17 Ar19 (j := (own_r4 y1_3 y2_3 nT num Xs Ys)) hin19 (g := (mkF m 81 #[.val (.ref o0_3), .val (.long y1_3), .second, .val (.long y2_3), .second, .val (.int x3_3), .val (.int (own_r4 y1_3 y2_3 nT num Xs Ys))] [(.long y2_3), (.int (own_r4 y1_3 y2_3 nT num Xs Ys)), (.ref w_ys_o0_3)])) rfl rfl (hb hby d3_81)
    refine own_step (fun t k => st20 _ k) ?_
    have V20 : own_ArJ Z h20 w_ys_o0_3 nT (own_upd Ys (own_r4 y1_3 y2_3 nT num Xs Ys) y2_3) := own_ArJ.set (v := y2_3) ⟨cl19, Ar19, S19, N19, G19⟩ hr19.1 Ar19 W20
    have K21 : Keep h0 h20 [w_xs_o0_3, w_ys_o0_3, o0_3, w_numbers_o0_3] := K14.wr W20 (Or.inl (List.mem_of_getElem? (i := 1) rfl))
    have N22 := Fr.snoc X20 N15 g_w_ys_o0_3
    refine own_step (fun t k => XS.aloadN X20.here hx rfl (hb hby d3_82) rfl rfl k) ?_
    refine own_step (fun t k => XS.dup X20.here hx rfl (hb hby d3_83) rfl rfl k) ?_
    show own_Ends p.tables e below s _ _ _ (T20.setTop (mkF m 84 #[.val (.ref o0_3), .val (.long y1_3), .second, .val (.long y2_3), .second, .val (.int x3_3), .val (.int (own_r4 y1_3 y2_3 nT num Xs Ys))] [(.ref o0_3), (.ref o0_3)]))
    have F23 : Fld Z h20 o0_3 "com/example/swanhall/swanhall/core/CellTable" "size" "I" (.int w_size_o0_3) := ((F_size_o0_3.other W13 (Or.inl ne_o0_3_w_xs_o0_3)).other W20 (Or.inl ne_o0_3_w_ys_o0_3))
    obtain ⟨T24, X24, e24, st24⟩ := getF X20 hx hZ hown (host := "") (Or.inl (hw _ (List.mem_of_getElem? (i := 33) rfl))) Via.refl e20 F23 (g := (mkF m 84 #[.val (.ref o0_3), .val (.long y1_3), .second, .val (.long y2_3), .second, .val (.int x3_3), .val (.int (own_r4 y1_3 y2_3 nT num Xs Ys))] [(.ref o0_3), (.ref o0_3)])) rfl rfl (hb hby d3_84)
    refine own_step (fun t k => st24 _ k) ?_
    refine own_step (fun t k => XS.iconst X24.here hx rfl (hb hby d3_87) k) ?_
    refine own_step (fun t k => XS.iadd X24.here hx rfl (hb hby d3_88) rfl k) ?_
    show own_Ends p.tables e below s _ _ _ (T24.setTop (mkF m 89 #[.val (.ref o0_3), .val (.long y1_3), .second, .val (.long y2_3), .second, .val (.int x3_3), .val (.int (own_r4 y1_3 y2_3 nT num Xs Ys))] [(.int (w_size_o0_3 + (1 : Int32))), (.ref o0_3)]))
    have F25 : Exa Z h20 o0_3 "com/example/swanhall/swanhall/core/CellTable" := ((E_o0_3.wr W13).wr W20)
    obtain ⟨T26, h26, X26, e26, W26, st26⟩ := putF X24 hx hZ hown (host := "") (Or.inl (hw _ (List.mem_of_getElem? (i := 33) rfl))) Via.refl e24 F23 F25 (Or.inl (hw _ (List.mem_of_getElem? (i := 34) rfl))) (hw _ (List.mem_of_getElem? (i := 2) rfl)) (ty := .int) (by decide) rfl rfl (g := (mkF m 89 #[.val (.ref o0_3), .val (.long y1_3), .second, .val (.long y2_3), .second, .val (.int x3_3), .val (.int (own_r4 y1_3 y2_3 nT num Xs Ys))] [(.int (w_size_o0_3 + (1 : Int32))), (.ref o0_3)])) rfl rfl (hb hby d3_89)
    refine own_step (fun t k => st26 _ k) ?_
    have F27 : Fld Z h26 o0_3 "com/example/swanhall/swanhall/core/CellTable" "size" "I" (.int (w_size_o0_3 + (1 : Int32))) := F23.same W26
    have K28 : Keep h0 h26 [w_xs_o0_3, w_ys_o0_3, o0_3, w_numbers_o0_3] := K21.wr W26 (Or.inl (List.mem_of_getElem? (i := 2) rfl))
    have N29 := Fr.snoc X26 N22 g_o0_3
    refine own_step (fun t k => XS.aloadN X26.here hx rfl (hb hby d3_92) rfl rfl k) ?_
    show own_Ends p.tables e below s _ _ _ (T26.setTop (mkF m 93 #[.val (.ref o0_3), .val (.long y1_3), .second, .val (.long y2_3), .second, .val (.int x3_3), .val (.int (own_r4 y1_3 y2_3 nT num Xs Ys))] [(.ref o0_3)]))
    have F30 : Fld Z h26 o0_3 "com/example/swanhall/swanhall/core/CellTable" "numbers" "[I" (.ref w_numbers_o0_3) := (((F_numbers_o0_3.other W13 (Or.inl ne_o0_3_w_xs_o0_3)).other W20 (Or.inl ne_o0_3_w_ys_o0_3)).other W26 (Or.inr (slot_ne (Or.inl (hw _ (List.mem_of_getElem? (i := 17) rfl))) (Or.inl (hw _ (List.mem_of_getElem? (i := 34) rfl))) (by decide) (t := (.array .int)) (t' := .int) (by decide) (by decide))))
    obtain ⟨T31, X31, e31, st31⟩ := getF X26 hx hZ hown (host := "") (Or.inl (hw _ (List.mem_of_getElem? (i := 16) rfl))) Via.refl e26 F30 (g := (mkF m 93 #[.val (.ref o0_3), .val (.long y1_3), .second, .val (.long y2_3), .second, .val (.int x3_3), .val (.int (own_r4 y1_3 y2_3 nT num Xs Ys))] [(.ref o0_3)])) rfl rfl (hb hby d3_93)
    refine own_step (fun t k => st31 _ k) ?_
    refine own_step (fun t k => XS.iload X31.here hx rfl (hb hby d3_96) rfl k) ?_
    refine own_step (fun t k => XS.iload X31.here hx rfl (hb hby d3_98) rfl k) ?_
    refine own_step (fun t k => XS.iconst X31.here hx rfl (hb hby d3_100) k) ?_
    refine own_step (fun t k => XS.iadd X31.here hx rfl (hb hby d3_101) rfl k) ?_
    show own_Ends p.tables e below s _ _ _ (T31.setTop (mkF m 102 #[.val (.ref o0_3), .val (.long y1_3), .second, .val (.long y2_3), .second, .val (.int x3_3), .val (.int (own_r4 y1_3 y2_3 nT num Xs Ys))] [(.int (x3_3 + (1 : Int32))), (.int (own_r4 y1_3 y2_3 nT num Xs Ys)), (.ref w_numbers_o0_3)]))
    have F32 : own_ArI Z h26 w_numbers_o0_3 nT num := (((V_w_numbers_o0_3.other W13 ne_w_numbers_o0_3_w_xs_o0_3).other W20 ne_w_numbers_o0_3_w_ys_o0_3).other W26 ne_w_numbers_o0_3_o0_3)
    obtain ⟨cl33, Ar33, S33, N33, G33⟩ := id F32
    have hr33 : ¬ (own_r4 y1_3 y2_3 nT num Xs Ys) < 0 ∧ (own_r4 y1_3 y2_3 nT num Xs Ys) < nT := (own_srng _ _ _ _ _ _ hnT)
    have hin33 : ¬ ((own_r4 y1_3 y2_3 nT num Xs Ys) < 0 ∨ cl33.slots.size ≤ ((own_r4 y1_3 y2_3 nT num Xs Ys)).toNatClampNeg) := inb_of S33 hr33
    obtain ⟨T34, h34, X34, e34, W34, st34⟩ := stI X31 hx hZ e31 Ar33 (j := (own_r4 y1_3 y2_3 nT num Xs Ys)) hin33 (g := (mkF m 102 #[.val (.ref o0_3), .val (.long y1_3), .second, .val (.long y2_3), .second, .val (.int x3_3), .val (.int (own_r4 y1_3 y2_3 nT num Xs Ys))] [(.int (x3_3 + (1 : Int32))), (.int (own_r4 y1_3 y2_3 nT num Xs Ys)), (.ref w_numbers_o0_3)])) rfl rfl (hb hby d3_102)
    refine own_step (fun t k => st34 _ k) ?_
    have V34 : own_ArI Z h34 w_numbers_o0_3 nT (own_upd num (own_r4 y1_3 y2_3 nT num Xs Ys) (x3_3 + (1 : Int32))) := own_ArI.set (v := (x3_3 + (1 : Int32))) ⟨cl33, Ar33, S33, N33, G33⟩ hr33.1 Ar33 W34
    have K35 : Keep h0 h34 [w_xs_o0_3, w_ys_o0_3, o0_3, w_numbers_o0_3] := K28.wr W34 (Or.inl (List.mem_of_getElem? (i := 3) rfl))
    have N36 := Fr.snoc X34 N29 g_w_numbers_o0_3
    show own_Ends p.tables e below s _ _ _ (T34.setTop (mkF m 103 #[.val (.ref o0_3), .val (.long y1_3), .second, .val (.long y2_3), .second, .val (.int x3_3), .val (.int (own_r4 y1_3 y2_3 nT num Xs Ys))] []))
    have F42 : own_ArJ Z h34 w_xs_o0_3 nT (own_upd Xs (own_r4 y1_3 y2_3 nT num Xs Ys) y1_3) := (((V13.other W20 (Ne.symm ne_w_ys_o0_3_w_xs_o0_3)).other W26 (Ne.symm ne_o0_3_w_xs_o0_3)).other W34 (Ne.symm ne_w_numbers_o0_3_w_xs_o0_3))
    have F43 : own_ArJ Z h34 w_ys_o0_3 nT (own_upd Ys (own_r4 y1_3 y2_3 nT num Xs Ys) y2_3) := ((V20.other W26 (Ne.symm ne_o0_3_w_ys_o0_3)).other W34 (Ne.symm ne_w_numbers_o0_3_w_ys_o0_3))
    have F44 : Fld Z h34 o0_3 "com/example/swanhall/swanhall/core/CellTable" "numbers" "[I" (.ref w_numbers_o0_3) := (F30.other W34 (Or.inl (Ne.symm ne_w_numbers_o0_3_o0_3)))
    have F45 : Fld Z h26 o0_3 "com/example/swanhall/swanhall/core/CellTable" "xs" "[J" (.ref w_xs_o0_3) := (((F_xs_o0_3.other W13 (Or.inl ne_o0_3_w_xs_o0_3)).other W20 (Or.inl ne_o0_3_w_ys_o0_3)).other W26 (Or.inr (slot_ne (Or.inl (hw _ (List.mem_of_getElem? (i := 12) rfl))) (Or.inl (hw _ (List.mem_of_getElem? (i := 34) rfl))) (by decide) (t := (.array .long)) (t' := .int) (by decide) (by decide))))
    have F46 : Fld Z h34 o0_3 "com/example/swanhall/swanhall/core/CellTable" "xs" "[J" (.ref w_xs_o0_3) := (F45.other W34 (Or.inl (Ne.symm ne_w_numbers_o0_3_o0_3)))
    have F47 : Fld Z h34 o0_3 "com/example/swanhall/swanhall/core/CellTable" "ys" "[J" (.ref w_ys_o0_3) := (((F16.other W20 (Or.inl ne_o0_3_w_ys_o0_3)).other W26 (Or.inr (slot_ne (Or.inl (hw _ (List.mem_of_getElem? (i := 14) rfl))) (Or.inl (hw _ (List.mem_of_getElem? (i := 34) rfl))) (by decide) (t := (.array .long)) (t' := .int) (by decide) (by decide)))).other W34 (Or.inl (Ne.symm ne_w_numbers_o0_3_o0_3)))
    have F48 : Fld Z h34 o0_3 "com/example/swanhall/swanhall/core/CellTable" "size" "I" (.int (w_size_o0_3 + (1 : Int32))) := (F27.other W34 (Or.inl (Ne.symm ne_w_numbers_o0_3_o0_3)))
    have F49 : Exa Z h34 o0_3 "com/example/swanhall/swanhall/core/CellTable" := ((F25.wr W26).wr W34)
    exact own_ret0 X34 hx Bd.returns (hb hby d3_103) hnl (by rw [e34]; exact ⟨rfl, N36, K35, (Eq.mpr (congrArg (fun z => own_ArJ Z h34 w_xs_o0_3 nT z) (show (own_p3_0 y1_3 y2_3 nT num Xs Ys) = (own_upd Xs (own_r4 y1_3 y2_3 nT num Xs Ys) y1_3) from by unfold own_p3_0; rw [if_pos hc35_6])) F42), (Eq.mpr (congrArg (fun z => own_ArJ Z h34 w_ys_o0_3 nT z) (show (own_p3_1 y1_3 y2_3 nT num Xs Ys) = (own_upd Ys (own_r4 y1_3 y2_3 nT num Xs Ys) y2_3) from by unfold own_p3_1; rw [if_pos hc35_6])) F43), F44, F46, F47, (Eq.mpr (congrArg (fun z => Fld Z h34 o0_3 "com/example/swanhall/swanhall/core/CellTable" "size" "I" (.int z)) (show (own_p3_2 y1_3 y2_3 nT num Xs Ys w_size_o0_3) = (w_size_o0_3 + (1 : Int32)) from by unfold own_p3_2; rw [if_pos hc35_6])) F48), F49, V34⟩) (by decide) (by decide)
  · skip
    refine own_step (fun t k => XS.ifYes X4.here hx rfl (pc0 := 35) (pc' := 92) rfl (hb hby d3_35) rfl ((if0 _ _).trans (feq hc35_6).2) (by decide) (by decide) k) ?_
    refine own_step (fun t k => XS.aloadN X4.here hx rfl (hb hby d3_92) rfl rfl k) ?_
    show own_Ends p.tables e below s _ _ _ (T4.setTop (mkF m 93 #[.val (.ref o0_3), .val (.long y1_3), .second, .val (.long y2_3), .second, .val (.int x3_3), .val (.int (own_r4 y1_3 y2_3 nT num Xs Ys))] [(.ref o0_3)]))
    obtain ⟨T37, X37, e37, st37⟩ := getF X4 hx hZ hown (host := "") (Or.inl (hw _ (List.mem_of_getElem? (i := 16) rfl))) Via.refl e4 F_numbers_o0_3 (g := (mkF m 93 #[.val (.ref o0_3), .val (.long y1_3), .second, .val (.long y2_3), .second, .val (.int x3_3), .val (.int (own_r4 y1_3 y2_3 nT num Xs Ys))] [(.ref o0_3)])) rfl rfl (hb hby d3_93)
    refine own_step (fun t k => st37 _ k) ?_
    refine own_step (fun t k => XS.iload X37.here hx rfl (hb hby d3_96) rfl k) ?_
    refine own_step (fun t k => XS.iload X37.here hx rfl (hb hby d3_98) rfl k) ?_
    refine own_step (fun t k => XS.iconst X37.here hx rfl (hb hby d3_100) k) ?_
    refine own_step (fun t k => XS.iadd X37.here hx rfl (hb hby d3_101) rfl k) ?_
    show own_Ends p.tables e below s _ _ _ (T37.setTop (mkF m 102 #[.val (.ref o0_3), .val (.long y1_3), .second, .val (.long y2_3), .second, .val (.int x3_3), .val (.int (own_r4 y1_3 y2_3 nT num Xs Ys))] [(.int (x3_3 + (1 : Int32))), (.int (own_r4 y1_3 y2_3 nT num Xs Ys)), (.ref w_numbers_o0_3)]))
    obtain ⟨cl38, Ar38, S38, N38, G38⟩ := id V_w_numbers_o0_3
    have hr38 : ¬ (own_r4 y1_3 y2_3 nT num Xs Ys) < 0 ∧ (own_r4 y1_3 y2_3 nT num Xs Ys) < nT := (own_srng _ _ _ _ _ _ hnT)
    have hin38 : ¬ ((own_r4 y1_3 y2_3 nT num Xs Ys) < 0 ∨ cl38.slots.size ≤ ((own_r4 y1_3 y2_3 nT num Xs Ys)).toNatClampNeg) := inb_of S38 hr38
    obtain ⟨T39, h39, X39, e39, W39, st39⟩ := stI X37 hx hZ e37 Ar38 (j := (own_r4 y1_3 y2_3 nT num Xs Ys)) hin38 (g := (mkF m 102 #[.val (.ref o0_3), .val (.long y1_3), .second, .val (.long y2_3), .second, .val (.int x3_3), .val (.int (own_r4 y1_3 y2_3 nT num Xs Ys))] [(.int (x3_3 + (1 : Int32))), (.int (own_r4 y1_3 y2_3 nT num Xs Ys)), (.ref w_numbers_o0_3)])) rfl rfl (hb hby d3_102)
    refine own_step (fun t k => st39 _ k) ?_
    have V39 : own_ArI Z h39 w_numbers_o0_3 nT (own_upd num (own_r4 y1_3 y2_3 nT num Xs Ys) (x3_3 + (1 : Int32))) := own_ArI.set (v := (x3_3 + (1 : Int32))) ⟨cl38, Ar38, S38, N38, G38⟩ hr38.1 Ar38 W39
    have K40 : Keep h0 h39 [w_xs_o0_3, w_ys_o0_3, o0_3, w_numbers_o0_3] := (Keep.refl h0 [w_xs_o0_3, w_ys_o0_3, o0_3, w_numbers_o0_3]).wr W39 (Or.inl (List.mem_of_getElem? (i := 3) rfl))
    have N41 := Fr.snoc X39 N3 g_w_numbers_o0_3
    show own_Ends p.tables e below s _ _ _ (T39.setTop (mkF m 103 #[.val (.ref o0_3), .val (.long y1_3), .second, .val (.long y2_3), .second, .val (.int x3_3), .val (.int (own_r4 y1_3 y2_3 nT num Xs Ys))] []))
    have F50 : own_ArJ Z h39 w_xs_o0_3 nT Xs := (V_w_xs_o0_3.other W39 (Ne.symm ne_w_numbers_o0_3_w_xs_o0_3))
    have F51 : own_ArJ Z h39 w_ys_o0_3 nT Ys := (V_w_ys_o0_3.other W39 (Ne.symm ne_w_numbers_o0_3_w_ys_o0_3))
    have F52 : Fld Z h39 o0_3 "com/example/swanhall/swanhall/core/CellTable" "numbers" "[I" (.ref w_numbers_o0_3) := (F_numbers_o0_3.other W39 (Or.inl (Ne.symm ne_w_numbers_o0_3_o0_3)))
    have F53 : Fld Z h39 o0_3 "com/example/swanhall/swanhall/core/CellTable" "xs" "[J" (.ref w_xs_o0_3) := (F_xs_o0_3.other W39 (Or.inl (Ne.symm ne_w_numbers_o0_3_o0_3)))
    have F54 : Fld Z h39 o0_3 "com/example/swanhall/swanhall/core/CellTable" "ys" "[J" (.ref w_ys_o0_3) := (F_ys_o0_3.other W39 (Or.inl (Ne.symm ne_w_numbers_o0_3_o0_3)))
    have F55 : Fld Z h39 o0_3 "com/example/swanhall/swanhall/core/CellTable" "size" "I" (.int w_size_o0_3) := (F_size_o0_3.other W39 (Or.inl (Ne.symm ne_w_numbers_o0_3_o0_3)))
    have F56 : Exa Z h39 o0_3 "com/example/swanhall/swanhall/core/CellTable" := (E_o0_3.wr W39)
    exact own_ret0 X39 hx Bd.returns (hb hby d3_103) hnl (by rw [e39]; exact ⟨rfl, N41, K40, (Eq.mpr (congrArg (fun z => own_ArJ Z h39 w_xs_o0_3 nT z) (show (own_p3_0 y1_3 y2_3 nT num Xs Ys) = Xs from by unfold own_p3_0; rw [if_neg hc35_6])) F50), (Eq.mpr (congrArg (fun z => own_ArJ Z h39 w_ys_o0_3 nT z) (show (own_p3_1 y1_3 y2_3 nT num Xs Ys) = Ys from by unfold own_p3_1; rw [if_neg hc35_6])) F51), F52, F53, F54, (Eq.mpr (congrArg (fun z => Fld Z h39 o0_3 "com/example/swanhall/swanhall/core/CellTable" "size" "I" (.int z)) (show (own_p3_2 y1_3 y2_3 nT num Xs Ys w_size_o0_3) = w_size_o0_3 from by unfold own_p3_2; rw [if_neg hc35_6])) F55), F56, V39⟩) (by decide) (by decide)
def own_p8_0 (y1_8 : Int64) (y2_8 : Int64) (nT : Int32) (num : Int32 → Int32) (Xs : Int32 → Int64) (Ys : Int32 → Int64) : Int32 → Int32 := (if (num (own_r4 y1_8 y2_8 nT num Xs Ys)) = (0 : Int32) then num else (if (num (own_nx nT (own_r4 y1_8 y2_8 nT num Xs Ys))) = (0 : Int32) then (own_upd num (own_r4 y1_8 y2_8 nT num Xs Ys) (0 : Int32)) else (if (own_nx nT (own_r4 y1_8 y2_8 nT num Xs Ys)) < (own_r4 y1_8 y2_8 nT num Xs Ys) then (if (own_r4 y1_8 y2_8 nT num Xs Ys) < (own_h (Xs (own_nx nT (own_r4 y1_8 y2_8 nT num Xs Ys))) (Ys (own_nx nT (own_r4 y1_8 y2_8 nT num Xs Ys))) nT) then (own_upd num (own_r4 y1_8 y2_8 nT num Xs Ys) (0 : Int32)) else (if (own_nx nT (own_r4 y1_8 y2_8 nT num Xs Ys)) < (own_h (Xs (own_nx nT (own_r4 y1_8 y2_8 nT num Xs Ys))) (Ys (own_nx nT (own_r4 y1_8 y2_8 nT num Xs Ys))) nT) then (own_upd (own_upd num (own_r4 y1_8 y2_8 nT num Xs Ys) (num (own_nx nT (own_r4 y1_8 y2_8 nT num Xs Ys)))) (own_nx nT (own_r4 y1_8 y2_8 nT num Xs Ys)) (0 : Int32)) else (own_upd num (own_r4 y1_8 y2_8 nT num Xs Ys) (0 : Int32)))) else (if (own_r4 y1_8 y2_8 nT num Xs Ys) < (own_h (Xs (own_nx nT (own_r4 y1_8 y2_8 nT num Xs Ys))) (Ys (own_nx nT (own_r4 y1_8 y2_8 nT num Xs Ys))) nT) then (if (own_nx nT (own_r4 y1_8 y2_8 nT num Xs Ys)) < (own_h (Xs (own_nx nT (own_r4 y1_8 y2_8 nT num Xs Ys))) (Ys (own_nx nT (own_r4 y1_8 y2_8 nT num Xs Ys))) nT) then (own_upd (own_upd num (own_r4 y1_8 y2_8 nT num Xs Ys) (num (own_nx nT (own_r4 y1_8 y2_8 nT num Xs Ys)))) (own_nx nT (own_r4 y1_8 y2_8 nT num Xs Ys)) (0 : Int32)) else (own_upd num (own_r4 y1_8 y2_8 nT num Xs Ys) (0 : Int32))) else (own_upd (own_upd num (own_r4 y1_8 y2_8 nT num Xs Ys) (num (own_nx nT (own_r4 y1_8 y2_8 nT num Xs Ys)))) (own_nx nT (own_r4 y1_8 y2_8 nT num Xs Ys)) (0 : Int32))))))
def own_p8_1 (y1_8 : Int64) (y2_8 : Int64) (nT : Int32) (num : Int32 → Int32) (Xs : Int32 → Int64) (Ys : Int32 → Int64) (w_size_o0_8 : Int32) : Int32 := (if (num (own_r4 y1_8 y2_8 nT num Xs Ys)) = (0 : Int32) then w_size_o0_8 else (if (num (own_nx nT (own_r4 y1_8 y2_8 nT num Xs Ys))) = (0 : Int32) then (w_size_o0_8 - (1 : Int32)) else (if (own_nx nT (own_r4 y1_8 y2_8 nT num Xs Ys)) < (own_r4 y1_8 y2_8 nT num Xs Ys) then (if (own_r4 y1_8 y2_8 nT num Xs Ys) < (own_h (Xs (own_nx nT (own_r4 y1_8 y2_8 nT num Xs Ys))) (Ys (own_nx nT (own_r4 y1_8 y2_8 nT num Xs Ys))) nT) then (w_size_o0_8 - (1 : Int32)) else (if (own_nx nT (own_r4 y1_8 y2_8 nT num Xs Ys)) < (own_h (Xs (own_nx nT (own_r4 y1_8 y2_8 nT num Xs Ys))) (Ys (own_nx nT (own_r4 y1_8 y2_8 nT num Xs Ys))) nT) then (w_size_o0_8 - (1 : Int32)) else (w_size_o0_8 - (1 : Int32)))) else (if (own_r4 y1_8 y2_8 nT num Xs Ys) < (own_h (Xs (own_nx nT (own_r4 y1_8 y2_8 nT num Xs Ys))) (Ys (own_nx nT (own_r4 y1_8 y2_8 nT num Xs Ys))) nT) then (if (own_nx nT (own_r4 y1_8 y2_8 nT num Xs Ys)) < (own_h (Xs (own_nx nT (own_r4 y1_8 y2_8 nT num Xs Ys))) (Ys (own_nx nT (own_r4 y1_8 y2_8 nT num Xs Ys))) nT) then (w_size_o0_8 - (1 : Int32)) else (w_size_o0_8 - (1 : Int32))) else (w_size_o0_8 - (1 : Int32))))))
def own_p8_2 (y1_8 : Int64) (y2_8 : Int64) (nT : Int32) (num : Int32 → Int32) (Xs : Int32 → Int64) (Ys : Int32 → Int64) : Int32 → Int64 := (if (num (own_r4 y1_8 y2_8 nT num Xs Ys)) = (0 : Int32) then Xs else (if (num (own_nx nT (own_r4 y1_8 y2_8 nT num Xs Ys))) = (0 : Int32) then Xs else (if (own_nx nT (own_r4 y1_8 y2_8 nT num Xs Ys)) < (own_r4 y1_8 y2_8 nT num Xs Ys) then (if (own_r4 y1_8 y2_8 nT num Xs Ys) < (own_h (Xs (own_nx nT (own_r4 y1_8 y2_8 nT num Xs Ys))) (Ys (own_nx nT (own_r4 y1_8 y2_8 nT num Xs Ys))) nT) then Xs else (if (own_nx nT (own_r4 y1_8 y2_8 nT num Xs Ys)) < (own_h (Xs (own_nx nT (own_r4 y1_8 y2_8 nT num Xs Ys))) (Ys (own_nx nT (own_r4 y1_8 y2_8 nT num Xs Ys))) nT) then (own_upd Xs (own_r4 y1_8 y2_8 nT num Xs Ys) (Xs (own_nx nT (own_r4 y1_8 y2_8 nT num Xs Ys)))) else Xs)) else (if (own_r4 y1_8 y2_8 nT num Xs Ys) < (own_h (Xs (own_nx nT (own_r4 y1_8 y2_8 nT num Xs Ys))) (Ys (own_nx nT (own_r4 y1_8 y2_8 nT num Xs Ys))) nT) then (if (own_nx nT (own_r4 y1_8 y2_8 nT num Xs Ys)) < (own_h (Xs (own_nx nT (own_r4 y1_8 y2_8 nT num Xs Ys))) (Ys (own_nx nT (own_r4 y1_8 y2_8 nT num Xs Ys))) nT) then (own_upd Xs (own_r4 y1_8 y2_8 nT num Xs Ys) (Xs (own_nx nT (own_r4 y1_8 y2_8 nT num Xs Ys)))) else Xs) else (own_upd Xs (own_r4 y1_8 y2_8 nT num Xs Ys) (Xs (own_nx nT (own_r4 y1_8 y2_8 nT num Xs Ys))))))))
def own_p8_3 (y1_8 : Int64) (y2_8 : Int64) (nT : Int32) (num : Int32 → Int32) (Xs : Int32 → Int64) (Ys : Int32 → Int64) : Int32 → Int64 := (if (num (own_r4 y1_8 y2_8 nT num Xs Ys)) = (0 : Int32) then Ys else (if (num (own_nx nT (own_r4 y1_8 y2_8 nT num Xs Ys))) = (0 : Int32) then Ys else (if (own_nx nT (own_r4 y1_8 y2_8 nT num Xs Ys)) < (own_r4 y1_8 y2_8 nT num Xs Ys) then (if (own_r4 y1_8 y2_8 nT num Xs Ys) < (own_h (Xs (own_nx nT (own_r4 y1_8 y2_8 nT num Xs Ys))) (Ys (own_nx nT (own_r4 y1_8 y2_8 nT num Xs Ys))) nT) then Ys else (if (own_nx nT (own_r4 y1_8 y2_8 nT num Xs Ys)) < (own_h (Xs (own_nx nT (own_r4 y1_8 y2_8 nT num Xs Ys))) (Ys (own_nx nT (own_r4 y1_8 y2_8 nT num Xs Ys))) nT) then (own_upd Ys (own_r4 y1_8 y2_8 nT num Xs Ys) (Ys (own_nx nT (own_r4 y1_8 y2_8 nT num Xs Ys)))) else Ys)) else (if (own_r4 y1_8 y2_8 nT num Xs Ys) < (own_h (Xs (own_nx nT (own_r4 y1_8 y2_8 nT num Xs Ys))) (Ys (own_nx nT (own_r4 y1_8 y2_8 nT num Xs Ys))) nT) then (if (own_nx nT (own_r4 y1_8 y2_8 nT num Xs Ys)) < (own_h (Xs (own_nx nT (own_r4 y1_8 y2_8 nT num Xs Ys))) (Ys (own_nx nT (own_r4 y1_8 y2_8 nT num Xs Ys))) nT) then (own_upd Ys (own_r4 y1_8 y2_8 nT num Xs Ys) (Ys (own_nx nT (own_r4 y1_8 y2_8 nT num Xs Ys)))) else Ys) else (own_upd Ys (own_r4 y1_8 y2_8 nT num Xs Ys) (Ys (own_nx nT (own_r4 y1_8 y2_8 nT num Xs Ys))))))))
theorem d8_0 : decode prog_30_method_6_code 0 = .ok (.aload_n 0, 1) := by decide +kernel
theorem d8_1 : decode prog_30_method_6_code 1 = .ok (.lload_n 1, 1) := by decide +kernel
theorem d8_2 : decode prog_30_method_6_code 2 = .ok (.lload_n 3, 1) := by decide +kernel
theorem d8_3 : decode prog_30_method_6_code 3 = .ok (.invokevirtual 40, 3) := by decide +kernel
theorem d8_6 : decode prog_30_method_6_code 6 = .ok (.istore 5, 2) := by decide +kernel
theorem d8_8 : decode prog_30_method_6_code 8 = .ok (.aload_n 0, 1) := by decide +kernel
theorem d8_9 : decode prog_30_method_6_code 9 = .ok (.getfield 19, 3) := by decide +kernel
theorem d8_12 : decode prog_30_method_6_code 12 = .ok (.iload 5, 2) := by decide +kernel
theorem d8_14 : decode prog_30_method_6_code 14 = .ok (.iaload, 1) := by decide +kernel
theorem d8_15 : decode prog_30_method_6_code 15 = .ok (.ifCond .ne 4, 3) := by decide +kernel
theorem d8_18 : decode prog_30_method_6_code 18 = .ok (.return_, 1) := by decide +kernel
theorem d8_19 : decode prog_30_method_6_code 19 = .ok (.aload_n 0, 1) := by decide +kernel
theorem d8_20 : decode prog_30_method_6_code 20 = .ok (.getfield 19, 3) := by decide +kernel
theorem d8_23 : decode prog_30_method_6_code 23 = .ok (.arraylength, 1) := by decide +kernel
theorem d8_24 : decode prog_30_method_6_code 24 = .ok (.iconst 1, 1) := by decide +kernel
theorem d8_25 : decode prog_30_method_6_code 25 = .ok (.isub, 1) := by decide +kernel
theorem d8_26 : decode prog_30_method_6_code 26 = .ok (.istore 6, 2) := by decide +kernel
theorem d8_28 : decode prog_30_method_6_code 28 = .ok (.iload 5, 2) := by decide +kernel
theorem d8_30 : decode prog_30_method_6_code 30 = .ok (.iconst 1, 1) := by decide +kernel
theorem d8_31 : decode prog_30_method_6_code 31 = .ok (.iadd, 1) := by decide +kernel
theorem d8_32 : decode prog_30_method_6_code 32 = .ok (.iload 6, 2) := by decide +kernel
theorem d8_34 : decode prog_30_method_6_code 34 = .ok (.iand, 1) := by decide +kernel
theorem d8_35 : decode prog_30_method_6_code 35 = .ok (.istore 7, 2) := by decide +kernel
theorem d8_37 : decode prog_30_method_6_code 37 = .ok (.aload_n 0, 1) := by decide +kernel
theorem d8_38 : decode prog_30_method_6_code 38 = .ok (.getfield 19, 3) := by decide +kernel
theorem d8_41 : decode prog_30_method_6_code 41 = .ok (.iload 7, 2) := by decide +kernel
theorem d8_43 : decode prog_30_method_6_code 43 = .ok (.iaload, 1) := by decide +kernel
theorem d8_44 : decode prog_30_method_6_code 44 = .ok (.ifCond .eq 139, 3) := by decide +kernel
theorem d8_47 : decode prog_30_method_6_code 47 = .ok (.aload_n 0, 1) := by decide +kernel
theorem d8_48 : decode prog_30_method_6_code 48 = .ok (.aload_n 0, 1) := by decide +kernel
theorem d8_49 : decode prog_30_method_6_code 49 = .ok (.getfield 12, 3) := by decide +kernel
theorem d8_52 : decode prog_30_method_6_code 52 = .ok (.iload 7, 2) := by decide +kernel
theorem d8_54 : decode prog_30_method_6_code 54 = .ok (.laload, 1) := by decide +kernel
theorem d8_55 : decode prog_30_method_6_code 55 = .ok (.aload_n 0, 1) := by decide +kernel
theorem d8_56 : decode prog_30_method_6_code 56 = .ok (.getfield 16, 3) := by decide +kernel
theorem d8_59 : decode prog_30_method_6_code 59 = .ok (.iload 7, 2) := by decide +kernel
theorem d8_61 : decode prog_30_method_6_code 61 = .ok (.laload, 1) := by decide +kernel
theorem d8_62 : decode prog_30_method_6_code 62 = .ok (.invokevirtual 27, 3) := by decide +kernel
theorem d8_65 : decode prog_30_method_6_code 65 = .ok (.istore 8, 2) := by decide +kernel
theorem d8_67 : decode prog_30_method_6_code 67 = .ok (.iload 5, 2) := by decide +kernel
theorem d8_69 : decode prog_30_method_6_code 69 = .ok (.iload 7, 2) := by decide +kernel
theorem d8_71 : decode prog_30_method_6_code 71 = .ok (.if_icmp .gt 25, 3) := by decide +kernel
theorem d8_74 : decode prog_30_method_6_code 74 = .ok (.iload 5, 2) := by decide +kernel
theorem d8_76 : decode prog_30_method_6_code 76 = .ok (.iload 8, 2) := by decide +kernel
theorem d8_78 : decode prog_30_method_6_code 78 = .ok (.if_icmp .ge 14, 3) := by decide +kernel
theorem d8_81 : decode prog_30_method_6_code 81 = .ok (.iload 8, 2) := by decide +kernel
theorem d8_83 : decode prog_30_method_6_code 83 = .ok (.iload 7, 2) := by decide +kernel
theorem d8_85 : decode prog_30_method_6_code 85 = .ok (.if_icmp .gt 7, 3) := by decide +kernel
theorem d8_88 : decode prog_30_method_6_code 88 = .ok (.iconst 1, 1) := by decide +kernel
theorem d8_89 : decode prog_30_method_6_code 89 = .ok (.goto 26, 3) := by decide +kernel
theorem d8_92 : decode prog_30_method_6_code 92 = .ok (.iconst 0, 1) := by decide +kernel
theorem d8_93 : decode prog_30_method_6_code 93 = .ok (.goto 22, 3) := by decide +kernel
theorem d8_96 : decode prog_30_method_6_code 96 = .ok (.iload 5, 2) := by decide +kernel
theorem d8_98 : decode prog_30_method_6_code 98 = .ok (.iload 8, 2) := by decide +kernel
theorem d8_100 : decode prog_30_method_6_code 100 = .ok (.if_icmp .lt 10, 3) := by decide +kernel
theorem d8_103 : decode prog_30_method_6_code 103 = .ok (.iload 8, 2) := by decide +kernel
theorem d8_105 : decode prog_30_method_6_code 105 = .ok (.iload 7, 2) := by decide +kernel
theorem d8_107 : decode prog_30_method_6_code 107 = .ok (.if_icmp .gt 7, 3) := by decide +kernel
theorem d8_110 : decode prog_30_method_6_code 110 = .ok (.iconst 1, 1) := by decide +kernel
theorem d8_111 : decode prog_30_method_6_code 111 = .ok (.goto 4, 3) := by decide +kernel
theorem d8_114 : decode prog_30_method_6_code 114 = .ok (.iconst 0, 1) := by decide +kernel
theorem d8_115 : decode prog_30_method_6_code 115 = .ok (.istore 9, 2) := by decide +kernel
theorem d8_117 : decode prog_30_method_6_code 117 = .ok (.iload 9, 2) := by decide +kernel
theorem d8_119 : decode prog_30_method_6_code 119 = .ok (.ifCond .eq 6, 3) := by decide +kernel
theorem d8_122 : decode prog_30_method_6_code 122 = .ok (.goto 49, 3) := by decide +kernel
theorem d8_125 : decode prog_30_method_6_code 125 = .ok (.aload_n 0, 1) := by decide +kernel
theorem d8_126 : decode prog_30_method_6_code 126 = .ok (.getfield 12, 3) := by decide +kernel
theorem d8_129 : decode prog_30_method_6_code 129 = .ok (.iload 5, 2) := by decide +kernel
theorem d8_131 : decode prog_30_method_6_code 131 = .ok (.aload_n 0, 1) := by decide +kernel
theorem d8_132 : decode prog_30_method_6_code 132 = .ok (.getfield 12, 3) := by decide +kernel
theorem d8_135 : decode prog_30_method_6_code 135 = .ok (.iload 7, 2) := by decide +kernel
theorem d8_137 : decode prog_30_method_6_code 137 = .ok (.laload, 1) := by decide +kernel
theorem d8_138 : decode prog_30_method_6_code 138 = .ok (.lastore, 1) := by decide +kernel
theorem d8_139 : decode prog_30_method_6_code 139 = .ok (.aload_n 0, 1) := by decide +kernel
theorem d8_140 : decode prog_30_method_6_code 140 = .ok (.getfield 16, 3) := by decide +kernel
theorem d8_143 : decode prog_30_method_6_code 143 = .ok (.iload 5, 2) := by decide +kernel
theorem d8_145 : decode prog_30_method_6_code 145 = .ok (.aload_n 0, 1) := by decide +kernel
theorem d8_146 : decode prog_30_method_6_code 146 = .ok (.getfield 16, 3) := by decide +kernel
theorem d8_149 : decode prog_30_method_6_code 149 = .ok (.iload 7, 2) := by decide +kernel
theorem d8_151 : decode prog_30_method_6_code 151 = .ok (.laload, 1) := by decide +kernel
theorem d8_152 : decode prog_30_method_6_code 152 = .ok (.lastore, 1) := by decide +kernel
theorem d8_153 : decode prog_30_method_6_code 153 = .ok (.aload_n 0, 1) := by decide +kernel
theorem d8_154 : decode prog_30_method_6_code 154 = .ok (.getfield 19, 3) := by decide +kernel
theorem d8_157 : decode prog_30_method_6_code 157 = .ok (.iload 5, 2) := by decide +kernel
theorem d8_159 : decode prog_30_method_6_code 159 = .ok (.aload_n 0, 1) := by decide +kernel
theorem d8_160 : decode prog_30_method_6_code 160 = .ok (.getfield 19, 3) := by decide +kernel
theorem d8_163 : decode prog_30_method_6_code 163 = .ok (.iload 7, 2) := by decide +kernel
theorem d8_165 : decode prog_30_method_6_code 165 = .ok (.iaload, 1) := by decide +kernel
theorem d8_166 : decode prog_30_method_6_code 166 = .ok (.iastore, 1) := by decide +kernel
theorem d8_167 : decode prog_30_method_6_code 167 = .ok (.iload 7, 2) := by decide +kernel
theorem d8_169 : decode prog_30_method_6_code 169 = .ok (.istore 5, 2) := by decide +kernel
theorem d8_171 : decode prog_30_method_6_code 171 = .ok (.iload 7, 2) := by decide +kernel
theorem d8_173 : decode prog_30_method_6_code 173 = .ok (.iconst 1, 1) := by decide +kernel
theorem d8_174 : decode prog_30_method_6_code 174 = .ok (.iadd, 1) := by decide +kernel
theorem d8_175 : decode prog_30_method_6_code 175 = .ok (.iload 6, 2) := by decide +kernel
theorem d8_177 : decode prog_30_method_6_code 177 = .ok (.iand, 1) := by decide +kernel
theorem d8_178 : decode prog_30_method_6_code 178 = .ok (.istore 7, 2) := by decide +kernel
theorem d8_180 : decode prog_30_method_6_code 180 = .ok (.goto (-143), 3) := by decide +kernel
theorem d8_183 : decode prog_30_method_6_code 183 = .ok (.aload_n 0, 1) := by decide +kernel
theorem d8_184 : decode prog_30_method_6_code 184 = .ok (.getfield 19, 3) := by decide +kernel
theorem d8_187 : decode prog_30_method_6_code 187 = .ok (.iload 5, 2) := by decide +kernel
theorem d8_189 : decode prog_30_method_6_code 189 = .ok (.iconst 0, 1) := by decide +kernel
theorem d8_190 : decode prog_30_method_6_code 190 = .ok (.iastore, 1) := by decide +kernel
theorem d8_191 : decode prog_30_method_6_code 191 = .ok (.aload_n 0, 1) := by decide +kernel
theorem d8_192 : decode prog_30_method_6_code 192 = .ok (.dup, 1) := by decide +kernel
theorem d8_193 : decode prog_30_method_6_code 193 = .ok (.getfield 23, 3) := by decide +kernel
theorem d8_196 : decode prog_30_method_6_code 196 = .ok (.iconst 1, 1) := by decide +kernel
theorem d8_197 : decode prog_30_method_6_code 197 = .ok (.isub, 1) := by decide +kernel
theorem d8_198 : decode prog_30_method_6_code 198 = .ok (.putfield 23, 3) := by decide +kernel
theorem d8_201 : decode prog_30_method_6_code 201 = .ok (.return_, 1) := by decide +kernel
theorem ef_8 (m : MethodId) (o0_8 : Addr) (y1_8 : Int64) (y2_8 : Int64) : entryFrame m #[(.ref o0_8), (.long y1_8), (.long y2_8)] 10 = mkF m 0 #[.val (.ref o0_8), .val (.long y1_8), .second, .val (.long y2_8), .second, .unset, .unset, .unset, .unset, .unset] [] := by first | (simp [entryFrame, mkF, argsToLocals, Value.category]; done) | rfl
def Q8 (Z : State) (o0_8 : Addr) (y1_8 : Int64) (y2_8 : Int64) (w_numbers_o0_8 : Addr) (nT : Int32) (num : Int32 → Int32) (w_xs_o0_8 : Addr) (Xs : Int32 → Int64) (w_ys_o0_8 : Addr) (Ys : Int32 → Int64) (w_size_o0_8 : Int32) (h0 : Heap) (n0 : Nat) (v : Option Value) (h : Heap) (L : List Loc) : Prop := v = none ∧ Fr n0 L ∧ Keep h0 h [w_numbers_o0_8, o0_8, w_xs_o0_8, w_ys_o0_8] ∧ own_ArI Z h w_numbers_o0_8 nT (own_p8_0 y1_8 y2_8 nT num Xs Ys) ∧ Fld Z h o0_8 "com/example/swanhall/swanhall/core/CellTable" "numbers" "[I" (.ref w_numbers_o0_8) ∧ Fld Z h o0_8 "com/example/swanhall/swanhall/core/CellTable" "xs" "[J" (.ref w_xs_o0_8) ∧ Fld Z h o0_8 "com/example/swanhall/swanhall/core/CellTable" "ys" "[J" (.ref w_ys_o0_8) ∧ Fld Z h o0_8 "com/example/swanhall/swanhall/core/CellTable" "size" "I" (.int (own_p8_1 y1_8 y2_8 nT num Xs Ys w_size_o0_8)) ∧ Exa Z h o0_8 "com/example/swanhall/swanhall/core/CellTable" ∧ own_ArJ Z h w_xs_o0_8 nT (own_p8_2 y1_8 y2_8 nT num Xs Ys) ∧ own_ArJ Z h w_ys_o0_8 nT (own_p8_3 y1_8 y2_8 nT num Xs Ys)
set_option maxRecDepth 65536 in
set_option maxHeartbeats 40000000 in
theorem rm8 (l : Launch) (Z : State) (a0 : Array Value) (hw : ∀ d ∈ tables_1, d.before a0 Z = true) (ws : List Jvm.Cond) (o0_8 : Addr) (y1_8 : Int64) (y2_8 : Int64) (w_numbers_o0_8 : Addr) (nT : Int32) (num : Int32 → Int32) (w_xs_o0_8 : Addr) (Xs : Int32 → Int64) (w_ys_o0_8 : Addr) (Ys : Int32 → Int64) (w_size_o0_8 : Int32) (h0 : Heap) (n0 : Nat) (O0 : Old Z n0 h0) (hnT : (0 : Int32) < nT) (hst : ∀ s : Int32, ¬ num s = 0 → ¬ num (own_nx nT s) = 0 → num (own_nx nT (own_nx nT s)) = 0) (hn2 : ∀ s : Int32, ¬ s < 0 → s < nT → own_nx nT (own_nx nT s) ≠ s) (F_numbers_o0_8 : Fld Z h0 o0_8 "com/example/swanhall/swanhall/core/CellTable" "numbers" "[I" (.ref w_numbers_o0_8)) (V_w_numbers_o0_8 : own_ArI Z h0 w_numbers_o0_8 nT num) (F_xs_o0_8 : Fld Z h0 o0_8 "com/example/swanhall/swanhall/core/CellTable" "xs" "[J" (.ref w_xs_o0_8)) (V_w_xs_o0_8 : own_ArJ Z h0 w_xs_o0_8 nT Xs) (F_ys_o0_8 : Fld Z h0 o0_8 "com/example/swanhall/swanhall/core/CellTable" "ys" "[J" (.ref w_ys_o0_8)) (V_w_ys_o0_8 : own_ArJ Z h0 w_ys_o0_8 nT Ys) (F_size_o0_8 : Fld Z h0 o0_8 "com/example/swanhall/swanhall/core/CellTable" "size" "I" (.int w_size_o0_8)) (E_o0_8 : Exa Z h0 o0_8 "com/example/swanhall/swanhall/core/CellTable") (g_w_numbers_o0_8 : n0 ≤ w_numbers_o0_8) (ne_o0_8_w_numbers_o0_8 : o0_8 ≠ w_numbers_o0_8) (g_o0_8 : n0 ≤ o0_8) (g_w_xs_o0_8 : n0 ≤ w_xs_o0_8) (ne_o0_8_w_xs_o0_8 : o0_8 ≠ w_xs_o0_8) (ne_w_ys_o0_8_w_xs_o0_8 : w_ys_o0_8 ≠ w_xs_o0_8) (g_w_ys_o0_8 : n0 ≤ w_ys_o0_8) (ne_o0_8_w_ys_o0_8 : o0_8 ≠ w_ys_o0_8) (ne_w_numbers_o0_8_w_xs_o0_8 : w_numbers_o0_8 ≠ w_xs_o0_8) (ne_w_numbers_o0_8_w_ys_o0_8 : w_numbers_o0_8 ≠ w_ys_o0_8) :
    MetFree l (⟨"com/example/swanhall/swanhall/core/CellTable", "remove", "(JJ)V"⟩ : MethodName) (head1 (Jvm.Cond.code (⟨"com/example/swanhall/swanhall/core/CellTable", "remove", "(JJ)V"⟩ : MethodName) prog_30_method_6_code 10 none :: ws) ({ frames := 2, cells := 0, slots := 0, locals := 36 } : Room)) (fun a U => a = #[(.ref o0_8), (.long y1_8), (.long y2_8)] ∧ Z.Warmed39 U.vm ∧ U.heap = h0) (fun _ _ _ _ _ => True) (fun _ U o U' => ∃ v L, o = .returned v ∧ Q8 Z o0_8 y1_8 y2_8 w_numbers_o0_8 nT num w_xs_o0_8 Xs w_ys_o0_8 Ys w_size_o0_8 h0 n0 v U'.heap L ∧ FrameEnd U o U' L ({ frames := 2, cells := 0, slots := 0, locals := 36 } : Room).cells ({ frames := 2, cells := 0, slots := 0, locals := 36 } : Room).slots) := by
  refine MetFree.of_bodySF (plainFor_of_name pn_0) hisR ?_
  intro p e s m args below meth c s₁ Bd hml0 hP hK
  obtain ⟨rfl, hZ, hh⟩ := hP
  have hx := Bd.exec
  have hby := Bd.bytes
  have hnl := BodyLoose.notSynchronized Bd
  have hml : c.maxLocals = 10 := hml0
  have hown : s.vm.findClass "com/example/swanhall/swanhall/core/CellTable" = some m.cls := findClass_of_methodNamed Bd.named
  have hnm := (name_of_methodNamed Bd.named Bd.method).1
  have X0 : Stand p l e ({ frames := 2, cells := 0, slots := 0, locals := 36 } : Room) s m #[(.ref o0_8), (.long y1_8), (.long y2_8)] below meth c s₁ [] 0 0 := Stand.of_body Bd
  have e0 : s₁.heap = h0 := by rw [← hh, Bd.state]; rfl
  have N0 := Fr.nil n0
  show own_Ends p.tables e below s (Q8 Z o0_8 y1_8 y2_8 w_numbers_o0_8 nT num w_xs_o0_8 Xs w_ys_o0_8 Ys w_size_o0_8 h0 n0) 0 0 (s₁.setTop (entryFrame m #[(.ref o0_8), (.long y1_8), (.long y2_8)] 10))
  rw [ef_8 m o0_8 y1_8 y2_8]
  show own_Ends p.tables e below s _ _ _ (s₁.setTop (mkF m 0 #[.val (.ref o0_8), .val (.long y1_8), .second, .val (.long y2_8), .second, .unset, .unset, .unset, .unset, .unset] []))
  refine own_step (fun t k => XS.aloadN X0.here hx rfl (hb hby d8_0) rfl rfl k) ?_
  refine own_step (fun t k => XS.lloadN X0.here hx rfl (hb hby d8_1) rfl k) ?_
  refine own_step (fun t k => XS.lloadN X0.here hx rfl (hb hby d8_2) rfl k) ?_
  show own_Ends p.tables e below s _ _ _ (s₁.setTop (mkF m 3 #[.val (.ref o0_8), .val (.long y1_8), .second, .val (.long y2_8), .second, .unset, .unset, .unset, .unset, .unset] [(.long y2_8), (.long y1_8), (.ref o0_8)]))
  obtain ⟨cq1, q1, q1'⟩ := E_o0_8.cell
  obtain ⟨_, _, ⟨T1, L1, k1, n1⟩, -, X1, ⟨Lc1, hQ1, l1, y1, z1⟩, st1⟩ := X0.privateBack hx (y := (⟨"com/example/swanhall/swanhall/core/CellTable", "slot", "(JJ)I"⟩ : MethodName)) hown (mvT hZ (hw _ (List.mem_of_getElem? (i := 23) rfl))) (mvT hZ (hw _ (List.mem_of_getElem? (i := 24) rfl))) (own_selPriv hZ (hw _ (List.mem_of_getElem? (i := 2) rfl)) (hw _ (List.mem_of_getElem? (i := 25) rfl)) (hw _ (List.mem_of_getElem? (i := 24) rfl)) (by decide)) (Cond.privateMethod_at (mvP hZ (hw _ (List.mem_of_getElem? (i := 25) rfl)) (args := #[]))) (mvT hZ (hw _ (List.mem_of_getElem? (i := 26) rfl))) (by decide) (backOf (W := 0) (rm4 l Z a0 hw [] o0_8 y1_8 y2_8 w_numbers_o0_8 nT num w_xs_o0_8 Xs w_ys_o0_8 Ys h0 n0 O0 hnT hst F_numbers_o0_8 V_w_numbers_o0_8 E_o0_8 F_xs_o0_8 V_w_xs_o0_8 F_ys_o0_8 V_w_ys_o0_8) hZ (hw _ (List.mem_of_getElem? (i := 26) rfl)) (hw _ (List.mem_of_getElem? (i := 3) rfl)) (by decide) (by decide)) (g := (mkF m 3 #[.val (.ref o0_8), .val (.long y1_8), .second, .val (.long y2_8), .second, .unset, .unset, .unset, .unset, .unset] [(.long y2_8), (.long y1_8), (.ref o0_8)])) rfl (by rw [hml]; rfl) (Steps.refl _) (a := o0_8) (by rw [e0]; exact q1) q1' (argsL := [(.long y1_8), (.long y2_8)]) (rest := []) (lenOf pd_0 rfl) rfl (by show 2 * 0 + _ ≤ _; exact Nat.le_of_eq rfl) (hb hby d8_3) (fun _ _ => ⟨rfl, e0, (by decide : 0 + 0 ≤ _), (by decide : 0 + 0 ≤ _)⟩)
  dsimp only [Pt.U, Pt.locs, Pt.cells, Pt.slots] at X1 l1 y1 z1 st1 hQ1
  subst y1 z1
  obtain ⟨rfl, N1q, e1⟩ := hQ1
  refine own_step (fun t k => st1.trans k) ?_
  have N2 : Fr n0 L1 := by rw [l1]; exact Fr.app N0 N1q
  refine own_step (fun t k => XS.istore X1.here hx rfl (hb hby d8_6) rfl (l' := #[.val (.ref o0_8), .val (.long y1_8), .second, .val (.long y2_8), .second, .val (.int (own_r4 y1_8 y2_8 nT num Xs Ys)), .unset, .unset, .unset, .unset]) rfl k) ?_
  refine own_step (fun t k => XS.aloadN X1.here hx rfl (hb hby d8_8) rfl rfl k) ?_
  show own_Ends p.tables e below s _ _ _ (T1.setTop (mkF m 9 #[.val (.ref o0_8), .val (.long y1_8), .second, .val (.long y2_8), .second, .val (.int (own_r4 y1_8 y2_8 nT num Xs Ys)), .unset, .unset, .unset, .unset] [(.ref o0_8)]))
  obtain ⟨T3, X3, e3, st3⟩ := getF X1 hx hZ hown (host := "") (Or.inl (hw _ (List.mem_of_getElem? (i := 16) rfl))) Via.refl e1 F_numbers_o0_8 (g := (mkF m 9 #[.val (.ref o0_8), .val (.long y1_8), .second, .val (.long y2_8), .second, .val (.int (own_r4 y1_8 y2_8 nT num Xs Ys)), .unset, .unset, .unset, .unset] [(.ref o0_8)])) rfl rfl (hb hby d8_9)
  refine own_step (fun t k => st3 _ k) ?_
  refine own_step (fun t k => XS.iload X3.here hx rfl (hb hby d8_12) rfl k) ?_
  show own_Ends p.tables e below s _ _ _ (T3.setTop (mkF m 14 #[.val (.ref o0_8), .val (.long y1_8), .second, .val (.long y2_8), .second, .val (.int (own_r4 y1_8 y2_8 nT num Xs Ys)), .unset, .unset, .unset, .unset] [(.int (own_r4 y1_8 y2_8 nT num Xs Ys)), (.ref w_numbers_o0_8)]))
  obtain ⟨cl4, Ar4, S4, N4, G4⟩ := id V_w_numbers_o0_8
  have hr4 : ¬ (own_r4 y1_8 y2_8 nT num Xs Ys) < 0 ∧ (own_r4 y1_8 y2_8 nT num Xs Ys) < nT := (own_srng _ _ _ _ _ _ hnT)
  have hin4 : ¬ ((own_r4 y1_8 y2_8 nT num Xs Ys) < 0 ∨ cl4.slots.size ≤ ((own_r4 y1_8 y2_8 nT num Xs Ys)).toNatClampNeg) := inb_of S4 hr4
  have hat4 : cl4.slots[((own_r4 y1_8 y2_8 nT num Xs Ys)).toNatClampNeg]? = some (.int (num (own_r4 y1_8 y2_8 nT num Xs Ys))) := G4 _ hr4.1 hr4.2
  refine own_step (fun t k => X3.iaload hx (j := (own_r4 y1_8 y2_8 nT num Xs Ys)) (v := (.int (num (own_r4 y1_8 y2_8 nT num Xs Ys)))) (by rw [e3]; exact Ar4.1) (State.isArrayOf_alike hZ.alike Ar4.2.1) Ar4.2.2 hin4 hat4 (g := (mkF m 14 #[.val (.ref o0_8), .val (.long y1_8), .second, .val (.long y2_8), .second, .val (.int (own_r4 y1_8 y2_8 nT num Xs Ys)), .unset, .unset, .unset, .unset] [(.int (own_r4 y1_8 y2_8 nT num Xs Ys)), (.ref w_numbers_o0_8)])) rfl rfl (hb hby d8_14) _ k) ?_
  show own_Ends p.tables e below s _ _ _ (T3.setTop (mkF m 15 #[.val (.ref o0_8), .val (.long y1_8), .second, .val (.long y2_8), .second, .val (.int (own_r4 y1_8 y2_8 nT num Xs Ys)), .unset, .unset, .unset, .unset] [(.int (num (own_r4 y1_8 y2_8 nT num Xs Ys)))]))
  by_cases hc15_5 : (num (own_r4 y1_8 y2_8 nT num Xs Ys)) = (0 : Int32)
  · skip
    refine own_step (fun t k => XS.ifNo X3.here hx rfl (hb hby d8_15) rfl ((if0 _ _).trans (teq hc15_5).2) k) ?_
    show own_Ends p.tables e below s _ _ _ (T3.setTop (mkF m 18 #[.val (.ref o0_8), .val (.long y1_8), .second, .val (.long y2_8), .second, .val (.int (own_r4 y1_8 y2_8 nT num Xs Ys)), .unset, .unset, .unset, .unset] []))
    exact own_ret0 X3 hx Bd.returns (hb hby d8_18) hnl (by rw [e3]; exact ⟨rfl, N2, (Keep.refl h0 [w_numbers_o0_8, o0_8, w_xs_o0_8, w_ys_o0_8]), (Eq.mpr (congrArg (fun z => own_ArI Z h0 w_numbers_o0_8 nT z) (show (own_p8_0 y1_8 y2_8 nT num Xs Ys) = num from by unfold own_p8_0; rw [if_pos hc15_5])) V_w_numbers_o0_8), F_numbers_o0_8, F_xs_o0_8, F_ys_o0_8, (Eq.mpr (congrArg (fun z => Fld Z h0 o0_8 "com/example/swanhall/swanhall/core/CellTable" "size" "I" (.int z)) (show (own_p8_1 y1_8 y2_8 nT num Xs Ys w_size_o0_8) = w_size_o0_8 from by unfold own_p8_1; rw [if_pos hc15_5])) F_size_o0_8), E_o0_8, (Eq.mpr (congrArg (fun z => own_ArJ Z h0 w_xs_o0_8 nT z) (show (own_p8_2 y1_8 y2_8 nT num Xs Ys) = Xs from by unfold own_p8_2; rw [if_pos hc15_5])) V_w_xs_o0_8), (Eq.mpr (congrArg (fun z => own_ArJ Z h0 w_ys_o0_8 nT z) (show (own_p8_3 y1_8 y2_8 nT num Xs Ys) = Ys from by unfold own_p8_3; rw [if_pos hc15_5])) V_w_ys_o0_8)⟩) (by decide) (by decide)
  · skip
    refine own_step (fun t k => XS.ifYes X3.here hx rfl (pc0 := 15) (pc' := 19) rfl (hb hby d8_15) rfl ((if0 _ _).trans (feq hc15_5).2) (by decide) (by decide) k) ?_
    refine own_step (fun t k => XS.aloadN X3.here hx rfl (hb hby d8_19) rfl rfl k) ?_
    show own_Ends p.tables e below s _ _ _ (T3.setTop (mkF m 20 #[.val (.ref o0_8), .val (.long y1_8), .second, .val (.long y2_8), .second, .val (.int (own_r4 y1_8 y2_8 nT num Xs Ys)), .unset, .unset, .unset, .unset] [(.ref o0_8)]))
    obtain ⟨T6, X6, e6, st6⟩ := getF X3 hx hZ hown (host := "") (Or.inl (hw _ (List.mem_of_getElem? (i := 16) rfl))) Via.refl e3 F_numbers_o0_8 (g := (mkF m 20 #[.val (.ref o0_8), .val (.long y1_8), .second, .val (.long y2_8), .second, .val (.int (own_r4 y1_8 y2_8 nT num Xs Ys)), .unset, .unset, .unset, .unset] [(.ref o0_8)])) rfl rfl (hb hby d8_20)
    refine own_step (fun t k => st6 _ k) ?_
    show own_Ends p.tables e below s _ _ _ (T6.setTop (mkF m 23 #[.val (.ref o0_8), .val (.long y1_8), .second, .val (.long y2_8), .second, .val (.int (own_r4 y1_8 y2_8 nT num Xs Ys)), .unset, .unset, .unset, .unset] [(.ref w_numbers_o0_8)]))
    obtain ⟨cl7, Ar7, S7, N7, G7⟩ := id V_w_numbers_o0_8
    have hl7 := len_of S7 N7
    refine own_step (fun t k => X6.arraylength hx (by rw [e6]; exact Ar7.1) (State.isArrayOf_alike hZ.alike Ar7.2.1) (g := (mkF m 23 #[.val (.ref o0_8), .val (.long y1_8), .second, .val (.long y2_8), .second, .val (.int (own_r4 y1_8 y2_8 nT num Xs Ys)), .unset, .unset, .unset, .unset] [(.ref w_numbers_o0_8)])) rfl rfl (hb hby d8_23) _ (hl7.symm ▸ k)) ?_
    refine own_step (fun t k => XS.iconst X6.here hx rfl (hb hby d8_24) k) ?_
    refine own_step (fun t k => XS.isub X6.here hx rfl (hb hby d8_25) rfl k) ?_
    refine own_step (fun t k => XS.istore X6.here hx rfl (hb hby d8_26) rfl (l' := #[.val (.ref o0_8), .val (.long y1_8), .second, .val (.long y2_8), .second, .val (.int (own_r4 y1_8 y2_8 nT num Xs Ys)), .val (.int (nT - (1 : Int32))), .unset, .unset, .unset]) rfl k) ?_
    refine own_step (fun t k => XS.iload X6.here hx rfl (hb hby d8_28) rfl k) ?_
    refine own_step (fun t k => XS.iconst X6.here hx rfl (hb hby d8_30) k) ?_
    refine own_step (fun t k => XS.iadd X6.here hx rfl (hb hby d8_31) rfl k) ?_
    show own_Ends p.tables e below s _ _ _ (T6.setTop (mkF m 32 #[.val (.ref o0_8), .val (.long y1_8), .second, .val (.long y2_8), .second, .val (.int (own_r4 y1_8 y2_8 nT num Xs Ys)), .val (.int (nT - (1 : Int32))), .unset, .unset, .unset] [(.int ((own_r4 y1_8 y2_8 nT num Xs Ys) + (1 : Int32)))]))
    refine own_step (fun t k => XS.iload X6.here hx rfl (hb hby d8_32) rfl k) ?_
    refine own_step (fun t k => XS.iand X6.here hx rfl (hb hby d8_34) rfl k) ?_
    refine own_step (fun t k => XS.istore X6.here hx rfl (hb hby d8_35) rfl (l' := #[.val (.ref o0_8), .val (.long y1_8), .second, .val (.long y2_8), .second, .val (.int (own_r4 y1_8 y2_8 nT num Xs Ys)), .val (.int (nT - (1 : Int32))), .val (.int (own_nx nT (own_r4 y1_8 y2_8 nT num Xs Ys))), .unset, .unset]) rfl k) ?_
    refine own_step (fun t k => XS.aloadN X6.here hx rfl (hb hby d8_37) rfl rfl k) ?_
    show own_Ends p.tables e below s _ _ _ (T6.setTop (mkF m 38 #[.val (.ref o0_8), .val (.long y1_8), .second, .val (.long y2_8), .second, .val (.int (own_r4 y1_8 y2_8 nT num Xs Ys)), .val (.int (nT - (1 : Int32))), .val (.int (own_nx nT (own_r4 y1_8 y2_8 nT num Xs Ys))), .unset, .unset] [(.ref o0_8)]))
    obtain ⟨T8, X8, e8, st8⟩ := getF X6 hx hZ hown (host := "") (Or.inl (hw _ (List.mem_of_getElem? (i := 16) rfl))) Via.refl e6 F_numbers_o0_8 (g := (mkF m 38 #[.val (.ref o0_8), .val (.long y1_8), .second, .val (.long y2_8), .second, .val (.int (own_r4 y1_8 y2_8 nT num Xs Ys)), .val (.int (nT - (1 : Int32))), .val (.int (own_nx nT (own_r4 y1_8 y2_8 nT num Xs Ys))), .unset, .unset] [(.ref o0_8)])) rfl rfl (hb hby d8_38)
    refine own_step (fun t k => st8 _ k) ?_
    refine own_step (fun t k => XS.iload X8.here hx rfl (hb hby d8_41) rfl k) ?_
    show own_Ends p.tables e below s _ _ _ (T8.setTop (mkF m 43 #[.val (.ref o0_8), .val (.long y1_8), .second, .val (.long y2_8), .second, .val (.int (own_r4 y1_8 y2_8 nT num Xs Ys)), .val (.int (nT - (1 : Int32))), .val (.int (own_nx nT (own_r4 y1_8 y2_8 nT num Xs Ys))), .unset, .unset] [(.int (own_nx nT (own_r4 y1_8 y2_8 nT num Xs Ys))), (.ref w_numbers_o0_8)]))
    obtain ⟨cl9, Ar9, S9, N9, G9⟩ := id V_w_numbers_o0_8
    have hr9 : ¬ (own_nx nT (own_r4 y1_8 y2_8 nT num Xs Ys)) < 0 ∧ (own_nx nT (own_r4 y1_8 y2_8 nT num Xs Ys)) < nT := (own_rng _ _ hnT)
    have hin9 : ¬ ((own_nx nT (own_r4 y1_8 y2_8 nT num Xs Ys)) < 0 ∨ cl9.slots.size ≤ ((own_nx nT (own_r4 y1_8 y2_8 nT num Xs Ys))).toNatClampNeg) := inb_of S9 hr9
    have hat9 : cl9.slots[((own_nx nT (own_r4 y1_8 y2_8 nT num Xs Ys))).toNatClampNeg]? = some (.int (num (own_nx nT (own_r4 y1_8 y2_8 nT num Xs Ys)))) := G9 _ hr9.1 hr9.2
    refine own_step (fun t k => X8.iaload hx (j := (own_nx nT (own_r4 y1_8 y2_8 nT num Xs Ys))) (v := (.int (num (own_nx nT (own_r4 y1_8 y2_8 nT num Xs Ys))))) (by rw [e8]; exact Ar9.1) (State.isArrayOf_alike hZ.alike Ar9.2.1) Ar9.2.2 hin9 hat9 (g := (mkF m 43 #[.val (.ref o0_8), .val (.long y1_8), .second, .val (.long y2_8), .second, .val (.int (own_r4 y1_8 y2_8 nT num Xs Ys)), .val (.int (nT - (1 : Int32))), .val (.int (own_nx nT (own_r4 y1_8 y2_8 nT num Xs Ys))), .unset, .unset] [(.int (own_nx nT (own_r4 y1_8 y2_8 nT num Xs Ys))), (.ref w_numbers_o0_8)])) rfl rfl (hb hby d8_43) _ k) ?_
    show own_Ends p.tables e below s _ _ _ (T8.setTop (mkF m 44 #[.val (.ref o0_8), .val (.long y1_8), .second, .val (.long y2_8), .second, .val (.int (own_r4 y1_8 y2_8 nT num Xs Ys)), .val (.int (nT - (1 : Int32))), .val (.int (own_nx nT (own_r4 y1_8 y2_8 nT num Xs Ys))), .unset, .unset] [(.int (num (own_nx nT (own_r4 y1_8 y2_8 nT num Xs Ys))))]))
    by_cases hc44_10 : (num (own_nx nT (own_r4 y1_8 y2_8 nT num Xs Ys))) = (0 : Int32)
    · skip
      refine own_step (fun t k => XS.ifYes X8.here hx rfl (pc0 := 44) (pc' := 183) rfl (hb hby d8_44) rfl ((if0 _ _).trans (teq hc44_10).1) (by decide) (by decide) k) ?_
      refine own_step (fun t k => XS.aloadN X8.here hx rfl (hb hby d8_183) rfl rfl k) ?_
      show own_Ends p.tables e below s _ _ _ (T8.setTop (mkF m 184 #[.val (.ref o0_8), .val (.long y1_8), .second, .val (.long y2_8), .second, .val (.int (own_r4 y1_8 y2_8 nT num Xs Ys)), .val (.int (nT - (1 : Int32))), .val (.int (own_nx nT (own_r4 y1_8 y2_8 nT num Xs Ys))), .unset, .unset] [(.ref o0_8)]))
      obtain ⟨T11, X11, e11, st11⟩ := getF X8 hx hZ hown (host := "") (Or.inl (hw _ (List.mem_of_getElem? (i := 16) rfl))) Via.refl e8 F_numbers_o0_8 (g := (mkF m 184 #[.val (.ref o0_8), .val (.long y1_8), .second, .val (.long y2_8), .second, .val (.int (own_r4 y1_8 y2_8 nT num Xs Ys)), .val (.int (nT - (1 : Int32))), .val (.int (own_nx nT (own_r4 y1_8 y2_8 nT num Xs Ys))), .unset, .unset] [(.ref o0_8)])) rfl rfl (hb hby d8_184)
      refine own_step (fun t k => st11 _ k) ?_
      refine own_step (fun t k => XS.iload X11.here hx rfl (hb hby d8_187) rfl k) ?_
      refine own_step (fun t k => XS.iconst X11.here hx rfl (hb hby d8_189) k) ?_
      show own_Ends p.tables e below s _ _ _ (T11.setTop (mkF m 190 #[.val (.ref o0_8), .val (.long y1_8), .second, .val (.long y2_8), .second, .val (.int (own_r4 y1_8 y2_8 nT num Xs Ys)), .val (.int (nT - (1 : Int32))), .val (.int (own_nx nT (own_r4 y1_8 y2_8 nT num Xs Ys))), .unset, .unset] [(.int (0 : Int32)), (.int (own_r4 y1_8 y2_8 nT num Xs Ys)), (.ref w_numbers_o0_8)]))
      obtain ⟨cl12, Ar12, S12, N12, G12⟩ := id V_w_numbers_o0_8
      have hr12 : ¬ (own_r4 y1_8 y2_8 nT num Xs Ys) < 0 ∧ (own_r4 y1_8 y2_8 nT num Xs Ys) < nT := (own_srng _ _ _ _ _ _ hnT)
      have hin12 : ¬ ((own_r4 y1_8 y2_8 nT num Xs Ys) < 0 ∨ cl12.slots.size ≤ ((own_r4 y1_8 y2_8 nT num Xs Ys)).toNatClampNeg) := inb_of S12 hr12
      obtain ⟨T13, h13, X13, e13, W13, st13⟩ := stI X11 hx hZ e11 Ar12 (j := (own_r4 y1_8 y2_8 nT num Xs Ys)) hin12 (g := (mkF m 190 #[.val (.ref o0_8), .val (.long y1_8), .second, .val (.long y2_8), .second, .val (.int (own_r4 y1_8 y2_8 nT num Xs Ys)), .val (.int (nT - (1 : Int32))), .val (.int (own_nx nT (own_r4 y1_8 y2_8 nT num Xs Ys))), .unset, .unset] [(.int (0 : Int32)), (.int (own_r4 y1_8 y2_8 nT num Xs Ys)), (.ref w_numbers_o0_8)])) rfl rfl (hb hby d8_190)
      refine own_step (fun t k => st13 _ k) ?_
      have V13 : own_ArI Z h13 w_numbers_o0_8 nT (own_upd num (own_r4 y1_8 y2_8 nT num Xs Ys) (0 : Int32)) := own_ArI.set (v := (0 : Int32)) ⟨cl12, Ar12, S12, N12, G12⟩ hr12.1 Ar12 W13
      have K14 : Keep h0 h13 [w_numbers_o0_8, o0_8, w_xs_o0_8, w_ys_o0_8] := (Keep.refl h0 [w_numbers_o0_8, o0_8, w_xs_o0_8, w_ys_o0_8]).wr W13 (Or.inl (List.mem_of_getElem? (i := 0) rfl))
      have N15 := Fr.snoc X13 N2 g_w_numbers_o0_8
      refine own_step (fun t k => XS.aloadN X13.here hx rfl (hb hby d8_191) rfl rfl k) ?_
      refine own_step (fun t k => XS.dup X13.here hx rfl (hb hby d8_192) rfl rfl k) ?_
      show own_Ends p.tables e below s _ _ _ (T13.setTop (mkF m 193 #[.val (.ref o0_8), .val (.long y1_8), .second, .val (.long y2_8), .second, .val (.int (own_r4 y1_8 y2_8 nT num Xs Ys)), .val (.int (nT - (1 : Int32))), .val (.int (own_nx nT (own_r4 y1_8 y2_8 nT num Xs Ys))), .unset, .unset] [(.ref o0_8), (.ref o0_8)]))
      have F16 : Fld Z h13 o0_8 "com/example/swanhall/swanhall/core/CellTable" "size" "I" (.int w_size_o0_8) := (F_size_o0_8.other W13 (Or.inl ne_o0_8_w_numbers_o0_8))
      obtain ⟨T17, X17, e17, st17⟩ := getF X13 hx hZ hown (host := "") (Or.inl (hw _ (List.mem_of_getElem? (i := 33) rfl))) Via.refl e13 F16 (g := (mkF m 193 #[.val (.ref o0_8), .val (.long y1_8), .second, .val (.long y2_8), .second, .val (.int (own_r4 y1_8 y2_8 nT num Xs Ys)), .val (.int (nT - (1 : Int32))), .val (.int (own_nx nT (own_r4 y1_8 y2_8 nT num Xs Ys))), .unset, .unset] [(.ref o0_8), (.ref o0_8)])) rfl rfl (hb hby d8_193)
      refine own_step (fun t k => st17 _ k) ?_
      refine own_step (fun t k => XS.iconst X17.here hx rfl (hb hby d8_196) k) ?_
      refine own_step (fun t k => XS.isub X17.here hx rfl (hb hby d8_197) rfl k) ?_
      show own_Ends p.tables e below s _ _ _ (T17.setTop (mkF m 198 #[.val (.ref o0_8), .val (.long y1_8), .second, .val (.long y2_8), .second, .val (.int (own_r4 y1_8 y2_8 nT num Xs Ys)), .val (.int (nT - (1 : Int32))), .val (.int (own_nx nT (own_r4 y1_8 y2_8 nT num Xs Ys))), .unset, .unset] [(.int (w_size_o0_8 - (1 : Int32))), (.ref o0_8)]))
      have F18 : Exa Z h13 o0_8 "com/example/swanhall/swanhall/core/CellTable" := (E_o0_8.wr W13)
      obtain ⟨T19, h19, X19, e19, W19, st19⟩ := putF X17 hx hZ hown (host := "") (Or.inl (hw _ (List.mem_of_getElem? (i := 33) rfl))) Via.refl e17 F16 F18 (Or.inl (hw _ (List.mem_of_getElem? (i := 34) rfl))) (hw _ (List.mem_of_getElem? (i := 2) rfl)) (ty := .int) (by decide) rfl rfl (g := (mkF m 198 #[.val (.ref o0_8), .val (.long y1_8), .second, .val (.long y2_8), .second, .val (.int (own_r4 y1_8 y2_8 nT num Xs Ys)), .val (.int (nT - (1 : Int32))), .val (.int (own_nx nT (own_r4 y1_8 y2_8 nT num Xs Ys))), .unset, .unset] [(.int (w_size_o0_8 - (1 : Int32))), (.ref o0_8)])) rfl rfl (hb hby d8_198)
      refine own_step (fun t k => st19 _ k) ?_
      have F20 : Fld Z h19 o0_8 "com/example/swanhall/swanhall/core/CellTable" "size" "I" (.int (w_size_o0_8 - (1 : Int32))) := F16.same W19
      have K21 : Keep h0 h19 [w_numbers_o0_8, o0_8, w_xs_o0_8, w_ys_o0_8] := K14.wr W19 (Or.inl (List.mem_of_getElem? (i := 1) rfl))
      have N22 := Fr.snoc X19 N15 g_o0_8
      show own_Ends p.tables e below s _ _ _ (T19.setTop (mkF m 201 #[.val (.ref o0_8), .val (.long y1_8), .second, .val (.long y2_8), .second, .val (.int (own_r4 y1_8 y2_8 nT num Xs Ys)), .val (.int (nT - (1 : Int32))), .val (.int (own_nx nT (own_r4 y1_8 y2_8 nT num Xs Ys))), .unset, .unset] []))
      have F208 : own_ArI Z h19 w_numbers_o0_8 nT (own_upd num (own_r4 y1_8 y2_8 nT num Xs Ys) (0 : Int32)) := (V13.other W19 (Ne.symm ne_o0_8_w_numbers_o0_8))
      have F209 : Fld Z h19 o0_8 "com/example/swanhall/swanhall/core/CellTable" "numbers" "[I" (.ref w_numbers_o0_8) := ((F_numbers_o0_8.other W13 (Or.inl ne_o0_8_w_numbers_o0_8)).other W19 (Or.inr (slot_ne (Or.inl (hw _ (List.mem_of_getElem? (i := 17) rfl))) (Or.inl (hw _ (List.mem_of_getElem? (i := 34) rfl))) (by decide) (t := (.array .int)) (t' := .int) (by decide) (by decide))))
      have F210 : Fld Z h19 o0_8 "com/example/swanhall/swanhall/core/CellTable" "xs" "[J" (.ref w_xs_o0_8) := ((F_xs_o0_8.other W13 (Or.inl ne_o0_8_w_numbers_o0_8)).other W19 (Or.inr (slot_ne (Or.inl (hw _ (List.mem_of_getElem? (i := 12) rfl))) (Or.inl (hw _ (List.mem_of_getElem? (i := 34) rfl))) (by decide) (t := (.array .long)) (t' := .int) (by decide) (by decide))))
      have F211 : Fld Z h19 o0_8 "com/example/swanhall/swanhall/core/CellTable" "ys" "[J" (.ref w_ys_o0_8) := ((F_ys_o0_8.other W13 (Or.inl ne_o0_8_w_numbers_o0_8)).other W19 (Or.inr (slot_ne (Or.inl (hw _ (List.mem_of_getElem? (i := 14) rfl))) (Or.inl (hw _ (List.mem_of_getElem? (i := 34) rfl))) (by decide) (t := (.array .long)) (t' := .int) (by decide) (by decide))))
      have F212 : Exa Z h19 o0_8 "com/example/swanhall/swanhall/core/CellTable" := (F18.wr W19)
      have F213 : own_ArJ Z h19 w_xs_o0_8 nT Xs := ((V_w_xs_o0_8.other W13 (Ne.symm ne_w_numbers_o0_8_w_xs_o0_8)).other W19 (Ne.symm ne_o0_8_w_xs_o0_8))
      have F214 : own_ArJ Z h19 w_ys_o0_8 nT Ys := ((V_w_ys_o0_8.other W13 (Ne.symm ne_w_numbers_o0_8_w_ys_o0_8)).other W19 (Ne.symm ne_o0_8_w_ys_o0_8))
      exact own_ret0 X19 hx Bd.returns (hb hby d8_201) hnl (by rw [e19]; exact ⟨rfl, N22, K21, (Eq.mpr (congrArg (fun z => own_ArI Z h19 w_numbers_o0_8 nT z) (show (own_p8_0 y1_8 y2_8 nT num Xs Ys) = (own_upd num (own_r4 y1_8 y2_8 nT num Xs Ys) (0 : Int32)) from by unfold own_p8_0; rw [if_neg hc15_5, if_pos hc44_10])) F208), F209, F210, F211, (Eq.mpr (congrArg (fun z => Fld Z h19 o0_8 "com/example/swanhall/swanhall/core/CellTable" "size" "I" (.int z)) (show (own_p8_1 y1_8 y2_8 nT num Xs Ys w_size_o0_8) = (w_size_o0_8 - (1 : Int32)) from by unfold own_p8_1; rw [if_neg hc15_5, if_pos hc44_10])) F20), F212, (Eq.mpr (congrArg (fun z => own_ArJ Z h19 w_xs_o0_8 nT z) (show (own_p8_2 y1_8 y2_8 nT num Xs Ys) = Xs from by unfold own_p8_2; rw [if_neg hc15_5, if_pos hc44_10])) F213), (Eq.mpr (congrArg (fun z => own_ArJ Z h19 w_ys_o0_8 nT z) (show (own_p8_3 y1_8 y2_8 nT num Xs Ys) = Ys from by unfold own_p8_3; rw [if_neg hc15_5, if_pos hc44_10])) F214)⟩) (by decide) (by decide)
    · skip
      refine own_step (fun t k => XS.ifNo X8.here hx rfl (hb hby d8_44) rfl ((if0 _ _).trans (feq hc44_10).1) k) ?_
      refine own_step (fun t k => XS.aloadN X8.here hx rfl (hb hby d8_47) rfl rfl k) ?_
      refine own_step (fun t k => XS.aloadN X8.here hx rfl (hb hby d8_48) rfl rfl k) ?_
      show own_Ends p.tables e below s _ _ _ (T8.setTop (mkF m 49 #[.val (.ref o0_8), .val (.long y1_8), .second, .val (.long y2_8), .second, .val (.int (own_r4 y1_8 y2_8 nT num Xs Ys)), .val (.int (nT - (1 : Int32))), .val (.int (own_nx nT (own_r4 y1_8 y2_8 nT num Xs Ys))), .unset, .unset] [(.ref o0_8), (.ref o0_8)]))
      obtain ⟨T23, X23, e23, st23⟩ := getF X8 hx hZ hown (host := "") (Or.inl (hw _ (List.mem_of_getElem? (i := 11) rfl))) Via.refl e8 F_xs_o0_8 (g := (mkF m 49 #[.val (.ref o0_8), .val (.long y1_8), .second, .val (.long y2_8), .second, .val (.int (own_r4 y1_8 y2_8 nT num Xs Ys)), .val (.int (nT - (1 : Int32))), .val (.int (own_nx nT (own_r4 y1_8 y2_8 nT num Xs Ys))), .unset, .unset] [(.ref o0_8), (.ref o0_8)])) rfl rfl (hb hby d8_49)
      refine own_step (fun t k => st23 _ k) ?_
      refine own_step (fun t k => XS.iload X23.here hx rfl (hb hby d8_52) rfl k) ?_
      show own_Ends p.tables e below s _ _ _ (T23.setTop (mkF m 54 #[.val (.ref o0_8), .val (.long y1_8), .second, .val (.long y2_8), .second, .val (.int (own_r4 y1_8 y2_8 nT num Xs Ys)), .val (.int (nT - (1 : Int32))), .val (.int (own_nx nT (own_r4 y1_8 y2_8 nT num Xs Ys))), .unset, .unset] [(.int (own_nx nT (own_r4 y1_8 y2_8 nT num Xs Ys))), (.ref w_xs_o0_8), (.ref o0_8)]))
      obtain ⟨cl24, Ar24, S24, N24, G24⟩ := id V_w_xs_o0_8
      have hr24 : ¬ (own_nx nT (own_r4 y1_8 y2_8 nT num Xs Ys)) < 0 ∧ (own_nx nT (own_r4 y1_8 y2_8 nT num Xs Ys)) < nT := (own_rng _ _ hnT)
      have hin24 : ¬ ((own_nx nT (own_r4 y1_8 y2_8 nT num Xs Ys)) < 0 ∨ cl24.slots.size ≤ ((own_nx nT (own_r4 y1_8 y2_8 nT num Xs Ys))).toNatClampNeg) := inb_of S24 hr24
      have hat24 : cl24.slots[((own_nx nT (own_r4 y1_8 y2_8 nT num Xs Ys))).toNatClampNeg]? = some (.long (Xs (own_nx nT (own_r4 y1_8 y2_8 nT num Xs Ys)))) := G24 _ hr24.1 hr24.2
      refine own_step (fun t k => X23.laload hx (j := (own_nx nT (own_r4 y1_8 y2_8 nT num Xs Ys))) (v := (.long (Xs (own_nx nT (own_r4 y1_8 y2_8 nT num Xs Ys))))) (by rw [e23]; exact Ar24.1) (State.isArrayOf_alike hZ.alike Ar24.2.1) Ar24.2.2 hin24 hat24 (g := (mkF m 54 #[.val (.ref o0_8), .val (.long y1_8), .second, .val (.long y2_8), .second, .val (.int (own_r4 y1_8 y2_8 nT num Xs Ys)), .val (.int (nT - (1 : Int32))), .val (.int (own_nx nT (own_r4 y1_8 y2_8 nT num Xs Ys))), .unset, .unset] [(.int (own_nx nT (own_r4 y1_8 y2_8 nT num Xs Ys))), (.ref w_xs_o0_8), (.ref o0_8)])) rfl rfl (hb hby d8_54) _ k) ?_
      refine own_step (fun t k => XS.aloadN X23.here hx rfl (hb hby d8_55) rfl rfl k) ?_
      show own_Ends p.tables e below s _ _ _ (T23.setTop (mkF m 56 #[.val (.ref o0_8), .val (.long y1_8), .second, .val (.long y2_8), .second, .val (.int (own_r4 y1_8 y2_8 nT num Xs Ys)), .val (.int (nT - (1 : Int32))), .val (.int (own_nx nT (own_r4 y1_8 y2_8 nT num Xs Ys))), .unset, .unset] [(.ref o0_8), (.long (Xs (own_nx nT (own_r4 y1_8 y2_8 nT num Xs Ys)))), (.ref o0_8)]))
      obtain ⟨T25, X25, e25, st25⟩ := getF X23 hx hZ hown (host := "") (Or.inl (hw _ (List.mem_of_getElem? (i := 13) rfl))) Via.refl e23 F_ys_o0_8 (g := (mkF m 56 #[.val (.ref o0_8), .val (.long y1_8), .second, .val (.long y2_8), .second, .val (.int (own_r4 y1_8 y2_8 nT num Xs Ys)), .val (.int (nT - (1 : Int32))), .val (.int (own_nx nT (own_r4 y1_8 y2_8 nT num Xs Ys))), .unset, .unset] [(.ref o0_8), (.long (Xs (own_nx nT (own_r4 y1_8 y2_8 nT num Xs Ys)))), (.ref o0_8)])) rfl rfl (hb hby d8_56)
      refine own_step (fun t k => st25 _ k) ?_
      refine own_step (fun t k => XS.iload X25.here hx rfl (hb hby d8_59) rfl k) ?_
      show own_Ends p.tables e below s _ _ _ (T25.setTop (mkF m 61 #[.val (.ref o0_8), .val (.long y1_8), .second, .val (.long y2_8), .second, .val (.int (own_r4 y1_8 y2_8 nT num Xs Ys)), .val (.int (nT - (1 : Int32))), .val (.int (own_nx nT (own_r4 y1_8 y2_8 nT num Xs Ys))), .unset, .unset] [(.int (own_nx nT (own_r4 y1_8 y2_8 nT num Xs Ys))), (.ref w_ys_o0_8), (.long (Xs (own_nx nT (own_r4 y1_8 y2_8 nT num Xs Ys)))), (.ref o0_8)]))
      obtain ⟨cl26, Ar26, S26, N26, G26⟩ := id V_w_ys_o0_8
      have hr26 : ¬ (own_nx nT (own_r4 y1_8 y2_8 nT num Xs Ys)) < 0 ∧ (own_nx nT (own_r4 y1_8 y2_8 nT num Xs Ys)) < nT := (own_rng _ _ hnT)
      have hin26 : ¬ ((own_nx nT (own_r4 y1_8 y2_8 nT num Xs Ys)) < 0 ∨ cl26.slots.size ≤ ((own_nx nT (own_r4 y1_8 y2_8 nT num Xs Ys))).toNatClampNeg) := inb_of S26 hr26
      have hat26 : cl26.slots[((own_nx nT (own_r4 y1_8 y2_8 nT num Xs Ys))).toNatClampNeg]? = some (.long (Ys (own_nx nT (own_r4 y1_8 y2_8 nT num Xs Ys)))) := G26 _ hr26.1 hr26.2
      refine own_step (fun t k => X25.laload hx (j := (own_nx nT (own_r4 y1_8 y2_8 nT num Xs Ys))) (v := (.long (Ys (own_nx nT (own_r4 y1_8 y2_8 nT num Xs Ys))))) (by rw [e25]; exact Ar26.1) (State.isArrayOf_alike hZ.alike Ar26.2.1) Ar26.2.2 hin26 hat26 (g := (mkF m 61 #[.val (.ref o0_8), .val (.long y1_8), .second, .val (.long y2_8), .second, .val (.int (own_r4 y1_8 y2_8 nT num Xs Ys)), .val (.int (nT - (1 : Int32))), .val (.int (own_nx nT (own_r4 y1_8 y2_8 nT num Xs Ys))), .unset, .unset] [(.int (own_nx nT (own_r4 y1_8 y2_8 nT num Xs Ys))), (.ref w_ys_o0_8), (.long (Xs (own_nx nT (own_r4 y1_8 y2_8 nT num Xs Ys)))), (.ref o0_8)])) rfl rfl (hb hby d8_61) _ k) ?_
      show own_Ends p.tables e below s _ _ _ (T25.setTop (mkF m 62 #[.val (.ref o0_8), .val (.long y1_8), .second, .val (.long y2_8), .second, .val (.int (own_r4 y1_8 y2_8 nT num Xs Ys)), .val (.int (nT - (1 : Int32))), .val (.int (own_nx nT (own_r4 y1_8 y2_8 nT num Xs Ys))), .unset, .unset] [(.long (Ys (own_nx nT (own_r4 y1_8 y2_8 nT num Xs Ys)))), (.long (Xs (own_nx nT (own_r4 y1_8 y2_8 nT num Xs Ys)))), (.ref o0_8)]))
      obtain ⟨cq27, q27, q27'⟩ := E_o0_8.cell
      obtain ⟨_, _, ⟨T27, L27, k27, n27⟩, -, X27, ⟨Lc27, hQ27, l27, y27, z27⟩, st27⟩ := X25.privateBack hx (y := (⟨"com/example/swanhall/swanhall/core/CellTable", "home", "(JJ)I"⟩ : MethodName)) hown (mvT hZ (hw _ (List.mem_of_getElem? (i := 27) rfl))) (mvT hZ (hw _ (List.mem_of_getElem? (i := 28) rfl))) (own_selPriv hZ (hw _ (List.mem_of_getElem? (i := 2) rfl)) (hw _ (List.mem_of_getElem? (i := 29) rfl)) (hw _ (List.mem_of_getElem? (i := 28) rfl)) (by decide)) (Cond.privateMethod_at (mvP hZ (hw _ (List.mem_of_getElem? (i := 29) rfl)) (args := #[]))) (mvT hZ (hw _ (List.mem_of_getElem? (i := 30) rfl))) (by decide) (backOf (W := 0) (rm5 l Z a0 hw [] o0_8 (Xs (own_nx nT (own_r4 y1_8 y2_8 nT num Xs Ys))) (Ys (own_nx nT (own_r4 y1_8 y2_8 nT num Xs Ys))) w_numbers_o0_8 nT num h0 n0 O0 F_numbers_o0_8 V_w_numbers_o0_8) hZ (hw _ (List.mem_of_getElem? (i := 30) rfl)) (hw _ (List.mem_of_getElem? (i := 3) rfl)) (by decide) (by decide)) (g := (mkF m 62 #[.val (.ref o0_8), .val (.long y1_8), .second, .val (.long y2_8), .second, .val (.int (own_r4 y1_8 y2_8 nT num Xs Ys)), .val (.int (nT - (1 : Int32))), .val (.int (own_nx nT (own_r4 y1_8 y2_8 nT num Xs Ys))), .unset, .unset] [(.long (Ys (own_nx nT (own_r4 y1_8 y2_8 nT num Xs Ys)))), (.long (Xs (own_nx nT (own_r4 y1_8 y2_8 nT num Xs Ys)))), (.ref o0_8)])) rfl (by rw [hml]; rfl) (Steps.refl _) (a := o0_8) (by rw [e25]; exact q27) q27' (argsL := [(.long (Xs (own_nx nT (own_r4 y1_8 y2_8 nT num Xs Ys)))), (.long (Ys (own_nx nT (own_r4 y1_8 y2_8 nT num Xs Ys))))]) (rest := []) (lenOf pd_0 rfl) rfl (by show 2 * 0 + _ ≤ _; exact Nat.le_of_eq rfl) (hb hby d8_62) (fun _ _ => ⟨rfl, e25, (by decide : 0 + 0 ≤ _), (by decide : 0 + 0 ≤ _)⟩)
      dsimp only [Pt.U, Pt.locs, Pt.cells, Pt.slots] at X27 l27 y27 z27 st27 hQ27
      subst y27 z27
      obtain ⟨rfl, N27q, e27⟩ := hQ27
      refine own_step (fun t k => st27.trans k) ?_
      have N28 : Fr n0 L27 := by rw [l27]; exact Fr.app N2 N27q
      refine own_step (fun t k => XS.istore X27.here hx rfl (hb hby d8_65) rfl (l' := #[.val (.ref o0_8), .val (.long y1_8), .second, .val (.long y2_8), .second, .val (.int (own_r4 y1_8 y2_8 nT num Xs Ys)), .val (.int (nT - (1 : Int32))), .val (.int (own_nx nT (own_r4 y1_8 y2_8 nT num Xs Ys))), .val (.int (own_h (Xs (own_nx nT (own_r4 y1_8 y2_8 nT num Xs Ys))) (Ys (own_nx nT (own_r4 y1_8 y2_8 nT num Xs Ys))) nT)), .unset]) rfl k) ?_
      refine own_step (fun t k => XS.iload X27.here hx rfl (hb hby d8_67) rfl k) ?_
      refine own_step (fun t k => XS.iload X27.here hx rfl (hb hby d8_69) rfl k) ?_
      show own_Ends p.tables e below s _ _ _ (T27.setTop (mkF m 71 #[.val (.ref o0_8), .val (.long y1_8), .second, .val (.long y2_8), .second, .val (.int (own_r4 y1_8 y2_8 nT num Xs Ys)), .val (.int (nT - (1 : Int32))), .val (.int (own_nx nT (own_r4 y1_8 y2_8 nT num Xs Ys))), .val (.int (own_h (Xs (own_nx nT (own_r4 y1_8 y2_8 nT num Xs Ys))) (Ys (own_nx nT (own_r4 y1_8 y2_8 nT num Xs Ys))) nT)), .unset] [(.int (own_nx nT (own_r4 y1_8 y2_8 nT num Xs Ys))), (.int (own_r4 y1_8 y2_8 nT num Xs Ys))]))
      by_cases hc71_29 : (own_nx nT (own_r4 y1_8 y2_8 nT num Xs Ys)) < (own_r4 y1_8 y2_8 nT num Xs Ys)
      · skip
        refine own_step (fun t k => XS.icmpYes X27.here hx rfl (pc0 := 71) (pc' := 96) rfl (hb hby d8_71) rfl (tlt hc71_29).2.2.1 (by decide) (by decide) k) ?_
        refine own_step (fun t k => XS.iload X27.here hx rfl (hb hby d8_96) rfl k) ?_
        refine own_step (fun t k => XS.iload X27.here hx rfl (hb hby d8_98) rfl k) ?_
        show own_Ends p.tables e below s _ _ _ (T27.setTop (mkF m 100 #[.val (.ref o0_8), .val (.long y1_8), .second, .val (.long y2_8), .second, .val (.int (own_r4 y1_8 y2_8 nT num Xs Ys)), .val (.int (nT - (1 : Int32))), .val (.int (own_nx nT (own_r4 y1_8 y2_8 nT num Xs Ys))), .val (.int (own_h (Xs (own_nx nT (own_r4 y1_8 y2_8 nT num Xs Ys))) (Ys (own_nx nT (own_r4 y1_8 y2_8 nT num Xs Ys))) nT)), .unset] [(.int (own_h (Xs (own_nx nT (own_r4 y1_8 y2_8 nT num Xs Ys))) (Ys (own_nx nT (own_r4 y1_8 y2_8 nT num Xs Ys))) nT)), (.int (own_r4 y1_8 y2_8 nT num Xs Ys))]))
        by_cases hc100_30 : (own_r4 y1_8 y2_8 nT num Xs Ys) < (own_h (Xs (own_nx nT (own_r4 y1_8 y2_8 nT num Xs Ys))) (Ys (own_nx nT (own_r4 y1_8 y2_8 nT num Xs Ys))) nT)
        · skip
          refine own_step (fun t k => XS.icmpYes X27.here hx rfl (pc0 := 100) (pc' := 110) rfl (hb hby d8_100) rfl (tlt hc100_30).1 (by decide) (by decide) k) ?_
          refine own_step (fun t k => XS.iconst X27.here hx rfl (hb hby d8_110) k) ?_
          refine own_step (fun t k => XS.goto X27.here hx rfl (pc0 := 111) (pc' := 115) rfl (hb hby d8_111) (by decide) (by decide) k) ?_
          refine own_step (fun t k => XS.istore X27.here hx rfl (hb hby d8_115) rfl (l' := #[.val (.ref o0_8), .val (.long y1_8), .second, .val (.long y2_8), .second, .val (.int (own_r4 y1_8 y2_8 nT num Xs Ys)), .val (.int (nT - (1 : Int32))), .val (.int (own_nx nT (own_r4 y1_8 y2_8 nT num Xs Ys))), .val (.int (own_h (Xs (own_nx nT (own_r4 y1_8 y2_8 nT num Xs Ys))) (Ys (own_nx nT (own_r4 y1_8 y2_8 nT num Xs Ys))) nT)), .val (.int (1 : Int32))]) rfl k) ?_
          refine own_step (fun t k => XS.iload X27.here hx rfl (hb hby d8_117) rfl k) ?_
          show own_Ends p.tables e below s _ _ _ (T27.setTop (mkF m 119 #[.val (.ref o0_8), .val (.long y1_8), .second, .val (.long y2_8), .second, .val (.int (own_r4 y1_8 y2_8 nT num Xs Ys)), .val (.int (nT - (1 : Int32))), .val (.int (own_nx nT (own_r4 y1_8 y2_8 nT num Xs Ys))), .val (.int (own_h (Xs (own_nx nT (own_r4 y1_8 y2_8 nT num Xs Ys))) (Ys (own_nx nT (own_r4 y1_8 y2_8 nT num Xs Ys))) nT)), .val (.int (1 : Int32))] [(.int (1 : Int32))]))
          refine own_step (fun t k => XS.ifNo X27.here hx rfl (hb hby d8_119) rfl ((if0 _ _).trans (feq (by decide : ¬ ((1 : Int32) = (0 : Int32)))).1) k) ?_
          refine own_step (fun t k => XS.goto X27.here hx rfl (pc0 := 122) (pc' := 171) rfl (hb hby d8_122) (by decide) (by decide) k) ?_
          refine own_step (fun t k => XS.iload X27.here hx rfl (hb hby d8_171) rfl k) ?_
          refine own_step (fun t k => XS.iconst X27.here hx rfl (hb hby d8_173) k) ?_
          refine own_step (fun t k => XS.iadd X27.here hx rfl (hb hby d8_174) rfl k) ?_
          refine own_step (fun t k => XS.iload X27.here hx rfl (hb hby d8_175) rfl k) ?_
          refine own_step (fun t k => XS.iand X27.here hx rfl (hb hby d8_177) rfl k) ?_
          show own_Ends p.tables e below s _ _ _ (T27.setTop (mkF m 178 #[.val (.ref o0_8), .val (.long y1_8), .second, .val (.long y2_8), .second, .val (.int (own_r4 y1_8 y2_8 nT num Xs Ys)), .val (.int (nT - (1 : Int32))), .val (.int (own_nx nT (own_r4 y1_8 y2_8 nT num Xs Ys))), .val (.int (own_h (Xs (own_nx nT (own_r4 y1_8 y2_8 nT num Xs Ys))) (Ys (own_nx nT (own_r4 y1_8 y2_8 nT num Xs Ys))) nT)), .val (.int (1 : Int32))] [(.int (own_nx nT (own_nx nT (own_r4 y1_8 y2_8 nT num Xs Ys))))]))
          refine own_step (fun t k => XS.istore X27.here hx rfl (hb hby d8_178) rfl (l' := #[.val (.ref o0_8), .val (.long y1_8), .second, .val (.long y2_8), .second, .val (.int (own_r4 y1_8 y2_8 nT num Xs Ys)), .val (.int (nT - (1 : Int32))), .val (.int (own_nx nT (own_nx nT (own_r4 y1_8 y2_8 nT num Xs Ys)))), .val (.int (own_h (Xs (own_nx nT (own_r4 y1_8 y2_8 nT num Xs Ys))) (Ys (own_nx nT (own_r4 y1_8 y2_8 nT num Xs Ys))) nT)), .val (.int (1 : Int32))]) rfl k) ?_
          refine own_step (fun t k => XS.goto X27.here hx rfl (pc0 := 180) (pc' := 37) rfl (hb hby d8_180) (by decide) (by decide) k) ?_
          refine own_step (fun t k => XS.aloadN X27.here hx rfl (hb hby d8_37) rfl rfl k) ?_
          show own_Ends p.tables e below s _ _ _ (T27.setTop (mkF m 38 #[.val (.ref o0_8), .val (.long y1_8), .second, .val (.long y2_8), .second, .val (.int (own_r4 y1_8 y2_8 nT num Xs Ys)), .val (.int (nT - (1 : Int32))), .val (.int (own_nx nT (own_nx nT (own_r4 y1_8 y2_8 nT num Xs Ys)))), .val (.int (own_h (Xs (own_nx nT (own_r4 y1_8 y2_8 nT num Xs Ys))) (Ys (own_nx nT (own_r4 y1_8 y2_8 nT num Xs Ys))) nT)), .val (.int (1 : Int32))] [(.ref o0_8)]))
          obtain ⟨T31, X31, e31, st31⟩ := getF X27 hx hZ hown (host := "") (Or.inl (hw _ (List.mem_of_getElem? (i := 16) rfl))) Via.refl e27 F_numbers_o0_8 (g := (mkF m 38 #[.val (.ref o0_8), .val (.long y1_8), .second, .val (.long y2_8), .second, .val (.int (own_r4 y1_8 y2_8 nT num Xs Ys)), .val (.int (nT - (1 : Int32))), .val (.int (own_nx nT (own_nx nT (own_r4 y1_8 y2_8 nT num Xs Ys)))), .val (.int (own_h (Xs (own_nx nT (own_r4 y1_8 y2_8 nT num Xs Ys))) (Ys (own_nx nT (own_r4 y1_8 y2_8 nT num Xs Ys))) nT)), .val (.int (1 : Int32))] [(.ref o0_8)])) rfl rfl (hb hby d8_38)
          refine own_step (fun t k => st31 _ k) ?_
          refine own_step (fun t k => XS.iload X31.here hx rfl (hb hby d8_41) rfl k) ?_
          show own_Ends p.tables e below s _ _ _ (T31.setTop (mkF m 43 #[.val (.ref o0_8), .val (.long y1_8), .second, .val (.long y2_8), .second, .val (.int (own_r4 y1_8 y2_8 nT num Xs Ys)), .val (.int (nT - (1 : Int32))), .val (.int (own_nx nT (own_nx nT (own_r4 y1_8 y2_8 nT num Xs Ys)))), .val (.int (own_h (Xs (own_nx nT (own_r4 y1_8 y2_8 nT num Xs Ys))) (Ys (own_nx nT (own_r4 y1_8 y2_8 nT num Xs Ys))) nT)), .val (.int (1 : Int32))] [(.int (own_nx nT (own_nx nT (own_r4 y1_8 y2_8 nT num Xs Ys)))), (.ref w_numbers_o0_8)]))
          obtain ⟨cl32, Ar32, S32, N32, G32⟩ := id V_w_numbers_o0_8
          have hr32 : ¬ (own_nx nT (own_nx nT (own_r4 y1_8 y2_8 nT num Xs Ys))) < 0 ∧ (own_nx nT (own_nx nT (own_r4 y1_8 y2_8 nT num Xs Ys))) < nT := (own_rng _ _ hnT)
          have hin32 : ¬ ((own_nx nT (own_nx nT (own_r4 y1_8 y2_8 nT num Xs Ys))) < 0 ∨ cl32.slots.size ≤ ((own_nx nT (own_nx nT (own_r4 y1_8 y2_8 nT num Xs Ys)))).toNatClampNeg) := inb_of S32 hr32
          have hat32 : cl32.slots[((own_nx nT (own_nx nT (own_r4 y1_8 y2_8 nT num Xs Ys)))).toNatClampNeg]? = some (.int (num (own_nx nT (own_nx nT (own_r4 y1_8 y2_8 nT num Xs Ys))))) := G32 _ hr32.1 hr32.2
          refine own_step (fun t k => X31.iaload hx (j := (own_nx nT (own_nx nT (own_r4 y1_8 y2_8 nT num Xs Ys)))) (v := (.int (num (own_nx nT (own_nx nT (own_r4 y1_8 y2_8 nT num Xs Ys)))))) (by rw [e31]; exact Ar32.1) (State.isArrayOf_alike hZ.alike Ar32.2.1) Ar32.2.2 hin32 hat32 (g := (mkF m 43 #[.val (.ref o0_8), .val (.long y1_8), .second, .val (.long y2_8), .second, .val (.int (own_r4 y1_8 y2_8 nT num Xs Ys)), .val (.int (nT - (1 : Int32))), .val (.int (own_nx nT (own_nx nT (own_r4 y1_8 y2_8 nT num Xs Ys)))), .val (.int (own_h (Xs (own_nx nT (own_r4 y1_8 y2_8 nT num Xs Ys))) (Ys (own_nx nT (own_r4 y1_8 y2_8 nT num Xs Ys))) nT)), .val (.int (1 : Int32))] [(.int (own_nx nT (own_nx nT (own_r4 y1_8 y2_8 nT num Xs Ys)))), (.ref w_numbers_o0_8)])) rfl rfl (hb hby d8_43) _ k) ?_
          show own_Ends p.tables e below s _ _ _ (T31.setTop (mkF m 44 #[.val (.ref o0_8), .val (.long y1_8), .second, .val (.long y2_8), .second, .val (.int (own_r4 y1_8 y2_8 nT num Xs Ys)), .val (.int (nT - (1 : Int32))), .val (.int (own_nx nT (own_nx nT (own_r4 y1_8 y2_8 nT num Xs Ys)))), .val (.int (own_h (Xs (own_nx nT (own_r4 y1_8 y2_8 nT num Xs Ys))) (Ys (own_nx nT (own_r4 y1_8 y2_8 nT num Xs Ys))) nT)), .val (.int (1 : Int32))] [(.int (num (own_nx nT (own_nx nT (own_r4 y1_8 y2_8 nT num Xs Ys)))))]))
          have hc33 : (num (own_nx nT (own_nx nT (own_r4 y1_8 y2_8 nT num Xs Ys)))) = (0 : Int32) := (hst _ hc15_5 hc44_10)
          refine own_step (fun t k => XS.ifYes X31.here hx rfl (pc0 := 44) (pc' := 183) rfl (hb hby d8_44) rfl ((if0 _ _).trans (teq hc33).1) (by decide) (by decide) k) ?_
          refine own_step (fun t k => XS.aloadN X31.here hx rfl (hb hby d8_183) rfl rfl k) ?_
          show own_Ends p.tables e below s _ _ _ (T31.setTop (mkF m 184 #[.val (.ref o0_8), .val (.long y1_8), .second, .val (.long y2_8), .second, .val (.int (own_r4 y1_8 y2_8 nT num Xs Ys)), .val (.int (nT - (1 : Int32))), .val (.int (own_nx nT (own_nx nT (own_r4 y1_8 y2_8 nT num Xs Ys)))), .val (.int (own_h (Xs (own_nx nT (own_r4 y1_8 y2_8 nT num Xs Ys))) (Ys (own_nx nT (own_r4 y1_8 y2_8 nT num Xs Ys))) nT)), .val (.int (1 : Int32))] [(.ref o0_8)]))
          obtain ⟨T34, X34, e34, st34⟩ := getF X31 hx hZ hown (host := "") (Or.inl (hw _ (List.mem_of_getElem? (i := 16) rfl))) Via.refl e31 F_numbers_o0_8 (g := (mkF m 184 #[.val (.ref o0_8), .val (.long y1_8), .second, .val (.long y2_8), .second, .val (.int (own_r4 y1_8 y2_8 nT num Xs Ys)), .val (.int (nT - (1 : Int32))), .val (.int (own_nx nT (own_nx nT (own_r4 y1_8 y2_8 nT num Xs Ys)))), .val (.int (own_h (Xs (own_nx nT (own_r4 y1_8 y2_8 nT num Xs Ys))) (Ys (own_nx nT (own_r4 y1_8 y2_8 nT num Xs Ys))) nT)), .val (.int (1 : Int32))] [(.ref o0_8)])) rfl rfl (hb hby d8_184)
          refine own_step (fun t k => st34 _ k) ?_
          refine own_step (fun t k => XS.iload X34.here hx rfl (hb hby d8_187) rfl k) ?_
          refine own_step (fun t k => XS.iconst X34.here hx rfl (hb hby d8_189) k) ?_
          show own_Ends p.tables e below s _ _ _ (T34.setTop (mkF m 190 #[.val (.ref o0_8), .val (.long y1_8), .second, .val (.long y2_8), .second, .val (.int (own_r4 y1_8 y2_8 nT num Xs Ys)), .val (.int (nT - (1 : Int32))), .val (.int (own_nx nT (own_nx nT (own_r4 y1_8 y2_8 nT num Xs Ys)))), .val (.int (own_h (Xs (own_nx nT (own_r4 y1_8 y2_8 nT num Xs Ys))) (Ys (own_nx nT (own_r4 y1_8 y2_8 nT num Xs Ys))) nT)), .val (.int (1 : Int32))] [(.int (0 : Int32)), (.int (own_r4 y1_8 y2_8 nT num Xs Ys)), (.ref w_numbers_o0_8)]))
          obtain ⟨cl35, Ar35, S35, N35, G35⟩ := id V_w_numbers_o0_8
          have hr35 : ¬ (own_r4 y1_8 y2_8 nT num Xs Ys) < 0 ∧ (own_r4 y1_8 y2_8 nT num Xs Ys) < nT := (own_srng _ _ _ _ _ _ hnT)
          have hin35 : ¬ ((own_r4 y1_8 y2_8 nT num Xs Ys) < 0 ∨ cl35.slots.size ≤ ((own_r4 y1_8 y2_8 nT num Xs Ys)).toNatClampNeg) := inb_of S35 hr35
          obtain ⟨T36, h36, X36, e36, W36, st36⟩ := stI X34 hx hZ e34 Ar35 (j := (own_r4 y1_8 y2_8 nT num Xs Ys)) hin35 (g := (mkF m 190 #[.val (.ref o0_8), .val (.long y1_8), .second, .val (.long y2_8), .second, .val (.int (own_r4 y1_8 y2_8 nT num Xs Ys)), .val (.int (nT - (1 : Int32))), .val (.int (own_nx nT (own_nx nT (own_r4 y1_8 y2_8 nT num Xs Ys)))), .val (.int (own_h (Xs (own_nx nT (own_r4 y1_8 y2_8 nT num Xs Ys))) (Ys (own_nx nT (own_r4 y1_8 y2_8 nT num Xs Ys))) nT)), .val (.int (1 : Int32))] [(.int (0 : Int32)), (.int (own_r4 y1_8 y2_8 nT num Xs Ys)), (.ref w_numbers_o0_8)])) rfl rfl (hb hby d8_190)
          refine own_step (fun t k => st36 _ k) ?_
          have V36 : own_ArI Z h36 w_numbers_o0_8 nT (own_upd num (own_r4 y1_8 y2_8 nT num Xs Ys) (0 : Int32)) := own_ArI.set (v := (0 : Int32)) ⟨cl35, Ar35, S35, N35, G35⟩ hr35.1 Ar35 W36
          have K37 : Keep h0 h36 [w_numbers_o0_8, o0_8, w_xs_o0_8, w_ys_o0_8] := (Keep.refl h0 [w_numbers_o0_8, o0_8, w_xs_o0_8, w_ys_o0_8]).wr W36 (Or.inl (List.mem_of_getElem? (i := 0) rfl))
          have N38 := Fr.snoc X36 N28 g_w_numbers_o0_8
          refine own_step (fun t k => XS.aloadN X36.here hx rfl (hb hby d8_191) rfl rfl k) ?_
          refine own_step (fun t k => XS.dup X36.here hx rfl (hb hby d8_192) rfl rfl k) ?_
          show own_Ends p.tables e below s _ _ _ (T36.setTop (mkF m 193 #[.val (.ref o0_8), .val (.long y1_8), .second, .val (.long y2_8), .second, .val (.int (own_r4 y1_8 y2_8 nT num Xs Ys)), .val (.int (nT - (1 : Int32))), .val (.int (own_nx nT (own_nx nT (own_r4 y1_8 y2_8 nT num Xs Ys)))), .val (.int (own_h (Xs (own_nx nT (own_r4 y1_8 y2_8 nT num Xs Ys))) (Ys (own_nx nT (own_r4 y1_8 y2_8 nT num Xs Ys))) nT)), .val (.int (1 : Int32))] [(.ref o0_8), (.ref o0_8)]))
          have F39 : Fld Z h36 o0_8 "com/example/swanhall/swanhall/core/CellTable" "size" "I" (.int w_size_o0_8) := (F_size_o0_8.other W36 (Or.inl ne_o0_8_w_numbers_o0_8))
          obtain ⟨T40, X40, e40, st40⟩ := getF X36 hx hZ hown (host := "") (Or.inl (hw _ (List.mem_of_getElem? (i := 33) rfl))) Via.refl e36 F39 (g := (mkF m 193 #[.val (.ref o0_8), .val (.long y1_8), .second, .val (.long y2_8), .second, .val (.int (own_r4 y1_8 y2_8 nT num Xs Ys)), .val (.int (nT - (1 : Int32))), .val (.int (own_nx nT (own_nx nT (own_r4 y1_8 y2_8 nT num Xs Ys)))), .val (.int (own_h (Xs (own_nx nT (own_r4 y1_8 y2_8 nT num Xs Ys))) (Ys (own_nx nT (own_r4 y1_8 y2_8 nT num Xs Ys))) nT)), .val (.int (1 : Int32))] [(.ref o0_8), (.ref o0_8)])) rfl rfl (hb hby d8_193)
          refine own_step (fun t k => st40 _ k) ?_
          refine own_step (fun t k => XS.iconst X40.here hx rfl (hb hby d8_196) k) ?_
          refine own_step (fun t k => XS.isub X40.here hx rfl (hb hby d8_197) rfl k) ?_
          show own_Ends p.tables e below s _ _ _ (T40.setTop (mkF m 198 #[.val (.ref o0_8), .val (.long y1_8), .second, .val (.long y2_8), .second, .val (.int (own_r4 y1_8 y2_8 nT num Xs Ys)), .val (.int (nT - (1 : Int32))), .val (.int (own_nx nT (own_nx nT (own_r4 y1_8 y2_8 nT num Xs Ys)))), .val (.int (own_h (Xs (own_nx nT (own_r4 y1_8 y2_8 nT num Xs Ys))) (Ys (own_nx nT (own_r4 y1_8 y2_8 nT num Xs Ys))) nT)), .val (.int (1 : Int32))] [(.int (w_size_o0_8 - (1 : Int32))), (.ref o0_8)]))
          have F41 : Exa Z h36 o0_8 "com/example/swanhall/swanhall/core/CellTable" := (E_o0_8.wr W36)
          obtain ⟨T42, h42, X42, e42, W42, st42⟩ := putF X40 hx hZ hown (host := "") (Or.inl (hw _ (List.mem_of_getElem? (i := 33) rfl))) Via.refl e40 F39 F41 (Or.inl (hw _ (List.mem_of_getElem? (i := 34) rfl))) (hw _ (List.mem_of_getElem? (i := 2) rfl)) (ty := .int) (by decide) rfl rfl (g := (mkF m 198 #[.val (.ref o0_8), .val (.long y1_8), .second, .val (.long y2_8), .second, .val (.int (own_r4 y1_8 y2_8 nT num Xs Ys)), .val (.int (nT - (1 : Int32))), .val (.int (own_nx nT (own_nx nT (own_r4 y1_8 y2_8 nT num Xs Ys)))), .val (.int (own_h (Xs (own_nx nT (own_r4 y1_8 y2_8 nT num Xs Ys))) (Ys (own_nx nT (own_r4 y1_8 y2_8 nT num Xs Ys))) nT)), .val (.int (1 : Int32))] [(.int (w_size_o0_8 - (1 : Int32))), (.ref o0_8)])) rfl rfl (hb hby d8_198)
          refine own_step (fun t k => st42 _ k) ?_
          have F43 : Fld Z h42 o0_8 "com/example/swanhall/swanhall/core/CellTable" "size" "I" (.int (w_size_o0_8 - (1 : Int32))) := F39.same W42
          have K44 : Keep h0 h42 [w_numbers_o0_8, o0_8, w_xs_o0_8, w_ys_o0_8] := K37.wr W42 (Or.inl (List.mem_of_getElem? (i := 1) rfl))
          have N45 := Fr.snoc X42 N38 g_o0_8
          show own_Ends p.tables e below s _ _ _ (T42.setTop (mkF m 201 #[.val (.ref o0_8), .val (.long y1_8), .second, .val (.long y2_8), .second, .val (.int (own_r4 y1_8 y2_8 nT num Xs Ys)), .val (.int (nT - (1 : Int32))), .val (.int (own_nx nT (own_nx nT (own_r4 y1_8 y2_8 nT num Xs Ys)))), .val (.int (own_h (Xs (own_nx nT (own_r4 y1_8 y2_8 nT num Xs Ys))) (Ys (own_nx nT (own_r4 y1_8 y2_8 nT num Xs Ys))) nT)), .val (.int (1 : Int32))] []))
          have F215 : own_ArI Z h42 w_numbers_o0_8 nT (own_upd num (own_r4 y1_8 y2_8 nT num Xs Ys) (0 : Int32)) := (V36.other W42 (Ne.symm ne_o0_8_w_numbers_o0_8))
          have F216 : Fld Z h42 o0_8 "com/example/swanhall/swanhall/core/CellTable" "numbers" "[I" (.ref w_numbers_o0_8) := ((F_numbers_o0_8.other W36 (Or.inl ne_o0_8_w_numbers_o0_8)).other W42 (Or.inr (slot_ne (Or.inl (hw _ (List.mem_of_getElem? (i := 17) rfl))) (Or.inl (hw _ (List.mem_of_getElem? (i := 34) rfl))) (by decide) (t := (.array .int)) (t' := .int) (by decide) (by decide))))
          have F217 : Fld Z h42 o0_8 "com/example/swanhall/swanhall/core/CellTable" "xs" "[J" (.ref w_xs_o0_8) := ((F_xs_o0_8.other W36 (Or.inl ne_o0_8_w_numbers_o0_8)).other W42 (Or.inr (slot_ne (Or.inl (hw _ (List.mem_of_getElem? (i := 12) rfl))) (Or.inl (hw _ (List.mem_of_getElem? (i := 34) rfl))) (by decide) (t := (.array .long)) (t' := .int) (by decide) (by decide))))
          have F218 : Fld Z h42 o0_8 "com/example/swanhall/swanhall/core/CellTable" "ys" "[J" (.ref w_ys_o0_8) := ((F_ys_o0_8.other W36 (Or.inl ne_o0_8_w_numbers_o0_8)).other W42 (Or.inr (slot_ne (Or.inl (hw _ (List.mem_of_getElem? (i := 14) rfl))) (Or.inl (hw _ (List.mem_of_getElem? (i := 34) rfl))) (by decide) (t := (.array .long)) (t' := .int) (by decide) (by decide))))
          have F219 : Exa Z h42 o0_8 "com/example/swanhall/swanhall/core/CellTable" := (F41.wr W42)
          have F220 : own_ArJ Z h42 w_xs_o0_8 nT Xs := ((V_w_xs_o0_8.other W36 (Ne.symm ne_w_numbers_o0_8_w_xs_o0_8)).other W42 (Ne.symm ne_o0_8_w_xs_o0_8))
          have F221 : own_ArJ Z h42 w_ys_o0_8 nT Ys := ((V_w_ys_o0_8.other W36 (Ne.symm ne_w_numbers_o0_8_w_ys_o0_8)).other W42 (Ne.symm ne_o0_8_w_ys_o0_8))
          exact own_ret0 X42 hx Bd.returns (hb hby d8_201) hnl (by rw [e42]; exact ⟨rfl, N45, K44, (Eq.mpr (congrArg (fun z => own_ArI Z h42 w_numbers_o0_8 nT z) (show (own_p8_0 y1_8 y2_8 nT num Xs Ys) = (own_upd num (own_r4 y1_8 y2_8 nT num Xs Ys) (0 : Int32)) from by unfold own_p8_0; rw [if_neg hc15_5, if_neg hc44_10, if_pos hc71_29, if_pos hc100_30])) F215), F216, F217, F218, (Eq.mpr (congrArg (fun z => Fld Z h42 o0_8 "com/example/swanhall/swanhall/core/CellTable" "size" "I" (.int z)) (show (own_p8_1 y1_8 y2_8 nT num Xs Ys w_size_o0_8) = (w_size_o0_8 - (1 : Int32)) from by unfold own_p8_1; rw [if_neg hc15_5, if_neg hc44_10, if_pos hc71_29, if_pos hc100_30])) F43), F219, (Eq.mpr (congrArg (fun z => own_ArJ Z h42 w_xs_o0_8 nT z) (show (own_p8_2 y1_8 y2_8 nT num Xs Ys) = Xs from by unfold own_p8_2; rw [if_neg hc15_5, if_neg hc44_10, if_pos hc71_29, if_pos hc100_30])) F220), (Eq.mpr (congrArg (fun z => own_ArJ Z h42 w_ys_o0_8 nT z) (show (own_p8_3 y1_8 y2_8 nT num Xs Ys) = Ys from by unfold own_p8_3; rw [if_neg hc15_5, if_neg hc44_10, if_pos hc71_29, if_pos hc100_30])) F221)⟩) (by decide) (by decide)
        · skip
          refine own_step (fun t k => XS.icmpNo X27.here hx rfl (hb hby d8_100) rfl (flt hc100_30).1 k) ?_
          refine own_step (fun t k => XS.iload X27.here hx rfl (hb hby d8_103) rfl k) ?_
          refine own_step (fun t k => XS.iload X27.here hx rfl (hb hby d8_105) rfl k) ?_
          show own_Ends p.tables e below s _ _ _ (T27.setTop (mkF m 107 #[.val (.ref o0_8), .val (.long y1_8), .second, .val (.long y2_8), .second, .val (.int (own_r4 y1_8 y2_8 nT num Xs Ys)), .val (.int (nT - (1 : Int32))), .val (.int (own_nx nT (own_r4 y1_8 y2_8 nT num Xs Ys))), .val (.int (own_h (Xs (own_nx nT (own_r4 y1_8 y2_8 nT num Xs Ys))) (Ys (own_nx nT (own_r4 y1_8 y2_8 nT num Xs Ys))) nT)), .unset] [(.int (own_nx nT (own_r4 y1_8 y2_8 nT num Xs Ys))), (.int (own_h (Xs (own_nx nT (own_r4 y1_8 y2_8 nT num Xs Ys))) (Ys (own_nx nT (own_r4 y1_8 y2_8 nT num Xs Ys))) nT))]))
          by_cases hc107_46 : (own_nx nT (own_r4 y1_8 y2_8 nT num Xs Ys)) < (own_h (Xs (own_nx nT (own_r4 y1_8 y2_8 nT num Xs Ys))) (Ys (own_nx nT (own_r4 y1_8 y2_8 nT num Xs Ys))) nT)
          · skip
            refine own_step (fun t k => XS.icmpYes X27.here hx rfl (pc0 := 107) (pc' := 114) rfl (hb hby d8_107) rfl (tlt hc107_46).2.2.1 (by decide) (by decide) k) ?_
            refine own_step (fun t k => XS.iconst X27.here hx rfl (hb hby d8_114) k) ?_
            refine own_step (fun t k => XS.istore X27.here hx rfl (hb hby d8_115) rfl (l' := #[.val (.ref o0_8), .val (.long y1_8), .second, .val (.long y2_8), .second, .val (.int (own_r4 y1_8 y2_8 nT num Xs Ys)), .val (.int (nT - (1 : Int32))), .val (.int (own_nx nT (own_r4 y1_8 y2_8 nT num Xs Ys))), .val (.int (own_h (Xs (own_nx nT (own_r4 y1_8 y2_8 nT num Xs Ys))) (Ys (own_nx nT (own_r4 y1_8 y2_8 nT num Xs Ys))) nT)), .val (.int (0 : Int32))]) rfl k) ?_
            refine own_step (fun t k => XS.iload X27.here hx rfl (hb hby d8_117) rfl k) ?_
            show own_Ends p.tables e below s _ _ _ (T27.setTop (mkF m 119 #[.val (.ref o0_8), .val (.long y1_8), .second, .val (.long y2_8), .second, .val (.int (own_r4 y1_8 y2_8 nT num Xs Ys)), .val (.int (nT - (1 : Int32))), .val (.int (own_nx nT (own_r4 y1_8 y2_8 nT num Xs Ys))), .val (.int (own_h (Xs (own_nx nT (own_r4 y1_8 y2_8 nT num Xs Ys))) (Ys (own_nx nT (own_r4 y1_8 y2_8 nT num Xs Ys))) nT)), .val (.int (0 : Int32))] [(.int (0 : Int32))]))
            refine own_step (fun t k => XS.ifYes X27.here hx rfl (pc0 := 119) (pc' := 125) rfl (hb hby d8_119) rfl ((if0 _ _).trans (teq (by decide : (0 : Int32) = (0 : Int32))).1) (by decide) (by decide) k) ?_
            refine own_step (fun t k => XS.aloadN X27.here hx rfl (hb hby d8_125) rfl rfl k) ?_
            show own_Ends p.tables e below s _ _ _ (T27.setTop (mkF m 126 #[.val (.ref o0_8), .val (.long y1_8), .second, .val (.long y2_8), .second, .val (.int (own_r4 y1_8 y2_8 nT num Xs Ys)), .val (.int (nT - (1 : Int32))), .val (.int (own_nx nT (own_r4 y1_8 y2_8 nT num Xs Ys))), .val (.int (own_h (Xs (own_nx nT (own_r4 y1_8 y2_8 nT num Xs Ys))) (Ys (own_nx nT (own_r4 y1_8 y2_8 nT num Xs Ys))) nT)), .val (.int (0 : Int32))] [(.ref o0_8)]))
            obtain ⟨T47, X47, e47, st47⟩ := getF X27 hx hZ hown (host := "") (Or.inl (hw _ (List.mem_of_getElem? (i := 11) rfl))) Via.refl e27 F_xs_o0_8 (g := (mkF m 126 #[.val (.ref o0_8), .val (.long y1_8), .second, .val (.long y2_8), .second, .val (.int (own_r4 y1_8 y2_8 nT num Xs Ys)), .val (.int (nT - (1 : Int32))), .val (.int (own_nx nT (own_r4 y1_8 y2_8 nT num Xs Ys))), .val (.int (own_h (Xs (own_nx nT (own_r4 y1_8 y2_8 nT num Xs Ys))) (Ys (own_nx nT (own_r4 y1_8 y2_8 nT num Xs Ys))) nT)), .val (.int (0 : Int32))] [(.ref o0_8)])) rfl rfl (hb hby d8_126)
            refine own_step (fun t k => st47 _ k) ?_
            refine own_step (fun t k => XS.iload X47.here hx rfl (hb hby d8_129) rfl k) ?_
            refine own_step (fun t k => XS.aloadN X47.here hx rfl (hb hby d8_131) rfl rfl k) ?_
            show own_Ends p.tables e below s _ _ _ (T47.setTop (mkF m 132 #[.val (.ref o0_8), .val (.long y1_8), .second, .val (.long y2_8), .second, .val (.int (own_r4 y1_8 y2_8 nT num Xs Ys)), .val (.int (nT - (1 : Int32))), .val (.int (own_nx nT (own_r4 y1_8 y2_8 nT num Xs Ys))), .val (.int (own_h (Xs (own_nx nT (own_r4 y1_8 y2_8 nT num Xs Ys))) (Ys (own_nx nT (own_r4 y1_8 y2_8 nT num Xs Ys))) nT)), .val (.int (0 : Int32))] [(.ref o0_8), (.int (own_r4 y1_8 y2_8 nT num Xs Ys)), (.ref w_xs_o0_8)]))
            obtain ⟨T48, X48, e48, st48⟩ := getF X47 hx hZ hown (host := "") (Or.inl (hw _ (List.mem_of_getElem? (i := 11) rfl))) Via.refl e47 F_xs_o0_8 (g := (mkF m 132 #[.val (.ref o0_8), .val (.long y1_8), .second, .val (.long y2_8), .second, .val (.int (own_r4 y1_8 y2_8 nT num Xs Ys)), .val (.int (nT - (1 : Int32))), .val (.int (own_nx nT (own_r4 y1_8 y2_8 nT num Xs Ys))), .val (.int (own_h (Xs (own_nx nT (own_r4 y1_8 y2_8 nT num Xs Ys))) (Ys (own_nx nT (own_r4 y1_8 y2_8 nT num Xs Ys))) nT)), .val (.int (0 : Int32))] [(.ref o0_8), (.int (own_r4 y1_8 y2_8 nT num Xs Ys)), (.ref w_xs_o0_8)])) rfl rfl (hb hby d8_132)
            refine own_step (fun t k => st48 _ k) ?_
            refine own_step (fun t k => XS.iload X48.here hx rfl (hb hby d8_135) rfl k) ?_
            show own_Ends p.tables e below s _ _ _ (T48.setTop (mkF m 137 #[.val (.ref o0_8), .val (.long y1_8), .second, .val (.long y2_8), .second, .val (.int (own_r4 y1_8 y2_8 nT num Xs Ys)), .val (.int (nT - (1 : Int32))), .val (.int (own_nx nT (own_r4 y1_8 y2_8 nT num Xs Ys))), .val (.int (own_h (Xs (own_nx nT (own_r4 y1_8 y2_8 nT num Xs Ys))) (Ys (own_nx nT (own_r4 y1_8 y2_8 nT num Xs Ys))) nT)), .val (.int (0 : Int32))] [(.int (own_nx nT (own_r4 y1_8 y2_8 nT num Xs Ys))), (.ref w_xs_o0_8), (.int (own_r4 y1_8 y2_8 nT num Xs Ys)), (.ref w_xs_o0_8)]))
            obtain ⟨cl49, Ar49, S49, N49, G49⟩ := id V_w_xs_o0_8
            have hr49 : ¬ (own_nx nT (own_r4 y1_8 y2_8 nT num Xs Ys)) < 0 ∧ (own_nx nT (own_r4 y1_8 y2_8 nT num Xs Ys)) < nT := (own_rng _ _ hnT)
            have hin49 : ¬ ((own_nx nT (own_r4 y1_8 y2_8 nT num Xs Ys)) < 0 ∨ cl49.slots.size ≤ ((own_nx nT (own_r4 y1_8 y2_8 nT num Xs Ys))).toNatClampNeg) := inb_of S49 hr49
            have hat49 : cl49.slots[((own_nx nT (own_r4 y1_8 y2_8 nT num Xs Ys))).toNatClampNeg]? = some (.long (Xs (own_nx nT (own_r4 y1_8 y2_8 nT num Xs Ys)))) := G49 _ hr49.1 hr49.2
            refine own_step (fun t k => X48.laload hx (j := (own_nx nT (own_r4 y1_8 y2_8 nT num Xs Ys))) (v := (.long (Xs (own_nx nT (own_r4 y1_8 y2_8 nT num Xs Ys))))) (by rw [e48]; exact Ar49.1) (State.isArrayOf_alike hZ.alike Ar49.2.1) Ar49.2.2 hin49 hat49 (g := (mkF m 137 #[.val (.ref o0_8), .val (.long y1_8), .second, .val (.long y2_8), .second, .val (.int (own_r4 y1_8 y2_8 nT num Xs Ys)), .val (.int (nT - (1 : Int32))), .val (.int (own_nx nT (own_r4 y1_8 y2_8 nT num Xs Ys))), .val (.int (own_h (Xs (own_nx nT (own_r4 y1_8 y2_8 nT num Xs Ys))) (Ys (own_nx nT (own_r4 y1_8 y2_8 nT num Xs Ys))) nT)), .val (.int (0 : Int32))] [(.int (own_nx nT (own_r4 y1_8 y2_8 nT num Xs Ys))), (.ref w_xs_o0_8), (.int (own_r4 y1_8 y2_8 nT num Xs Ys)), (.ref w_xs_o0_8)])) rfl rfl (hb hby d8_137) _ k) ?_
            show own_Ends p.tables e below s _ _ _ (T48.setTop (mkF m 138 #[.val (.ref o0_8), .val (.long y1_8), .second, .val (.long y2_8), .second, .val (.int (own_r4 y1_8 y2_8 nT num Xs Ys)), .val (.int (nT - (1 : Int32))), .val (.int (own_nx nT (own_r4 y1_8 y2_8 nT num Xs Ys))), .val (.int (own_h (Xs (own_nx nT (own_r4 y1_8 y2_8 nT num Xs Ys))) (Ys (own_nx nT (own_r4 y1_8 y2_8 nT num Xs Ys))) nT)), .val (.int (0 : Int32))] [(.long (Xs (own_nx nT (own_r4 y1_8 y2_8 nT num Xs Ys)))), (.int (own_r4 y1_8 y2_8 nT num Xs Ys)), (.ref w_xs_o0_8)]))
            obtain ⟨cl50, Ar50, S50, N50, G50⟩ := id V_w_xs_o0_8
            have hr50 : ¬ (own_r4 y1_8 y2_8 nT num Xs Ys) < 0 ∧ (own_r4 y1_8 y2_8 nT num Xs Ys) < nT := (own_srng _ _ _ _ _ _ hnT)
            have hin50 : ¬ ((own_r4 y1_8 y2_8 nT num Xs Ys) < 0 ∨ cl50.slots.size ≤ ((own_r4 y1_8 y2_8 nT num Xs Ys)).toNatClampNeg) := inb_of S50 hr50
            obtain ⟨T51, h51, X51, e51, W51, st51⟩ := stJ X48 hx hZ e48 Ar50 (j := (own_r4 y1_8 y2_8 nT num Xs Ys)) hin50 (g := (mkF m 138 #[.val (.ref o0_8), .val (.long y1_8), .second, .val (.long y2_8), .second, .val (.int (own_r4 y1_8 y2_8 nT num Xs Ys)), .val (.int (nT - (1 : Int32))), .val (.int (own_nx nT (own_r4 y1_8 y2_8 nT num Xs Ys))), .val (.int (own_h (Xs (own_nx nT (own_r4 y1_8 y2_8 nT num Xs Ys))) (Ys (own_nx nT (own_r4 y1_8 y2_8 nT num Xs Ys))) nT)), .val (.int (0 : Int32))] [(.long (Xs (own_nx nT (own_r4 y1_8 y2_8 nT num Xs Ys)))), (.int (own_r4 y1_8 y2_8 nT num Xs Ys)), (.ref w_xs_o0_8)])) rfl rfl (hb hby d8_138)
            refine own_step (fun t k => st51 _ k) ?_
            have V51 : own_ArJ Z h51 w_xs_o0_8 nT (own_upd Xs (own_r4 y1_8 y2_8 nT num Xs Ys) (Xs (own_nx nT (own_r4 y1_8 y2_8 nT num Xs Ys)))) := own_ArJ.set (v := (Xs (own_nx nT (own_r4 y1_8 y2_8 nT num Xs Ys)))) ⟨cl50, Ar50, S50, N50, G50⟩ hr50.1 Ar50 W51
            have K52 : Keep h0 h51 [w_numbers_o0_8, o0_8, w_xs_o0_8, w_ys_o0_8] := (Keep.refl h0 [w_numbers_o0_8, o0_8, w_xs_o0_8, w_ys_o0_8]).wr W51 (Or.inl (List.mem_of_getElem? (i := 2) rfl))
            have N53 := Fr.snoc X51 N28 g_w_xs_o0_8
            refine own_step (fun t k => XS.aloadN X51.here hx rfl (hb hby d8_139) rfl rfl k) ?_
            show own_Ends p.tables e below s _ _ _ (T51.setTop (mkF m 140 #[.val (.ref o0_8), .val (.long y1_8), .second, .val (.long y2_8), .second, .val (.int (own_r4 y1_8 y2_8 nT num Xs Ys)), .val (.int (nT - (1 : Int32))), .val (.int (own_nx nT (own_r4 y1_8 y2_8 nT num Xs Ys))), .val (.int (own_h (Xs (own_nx nT (own_r4 y1_8 y2_8 nT num Xs Ys))) (Ys (own_nx nT (own_r4 y1_8 y2_8 nT num Xs Ys))) nT)), .val (.int (0 : Int32))] [(.ref o0_8)]))
            have F54 : Fld Z h51 o0_8 "com/example/swanhall/swanhall/core/CellTable" "ys" "[J" (.ref w_ys_o0_8) := (F_ys_o0_8.other W51 (Or.inl ne_o0_8_w_xs_o0_8))
            obtain ⟨T55, X55, e55, st55⟩ := getF X51 hx hZ hown (host := "") (Or.inl (hw _ (List.mem_of_getElem? (i := 13) rfl))) Via.refl e51 F54 (g := (mkF m 140 #[.val (.ref o0_8), .val (.long y1_8), .second, .val (.long y2_8), .second, .val (.int (own_r4 y1_8 y2_8 nT num Xs Ys)), .val (.int (nT - (1 : Int32))), .val (.int (own_nx nT (own_r4 y1_8 y2_8 nT num Xs Ys))), .val (.int (own_h (Xs (own_nx nT (own_r4 y1_8 y2_8 nT num Xs Ys))) (Ys (own_nx nT (own_r4 y1_8 y2_8 nT num Xs Ys))) nT)), .val (.int (0 : Int32))] [(.ref o0_8)])) rfl rfl (hb hby d8_140)
            refine own_step (fun t k => st55 _ k) ?_
            refine own_step (fun t k => XS.iload X55.here hx rfl (hb hby d8_143) rfl k) ?_
            refine own_step (fun t k => XS.aloadN X55.here hx rfl (hb hby d8_145) rfl rfl k) ?_
            show own_Ends p.tables e below s _ _ _ (T55.setTop (mkF m 146 #[.val (.ref o0_8), .val (.long y1_8), .second, .val (.long y2_8), .second, .val (.int (own_r4 y1_8 y2_8 nT num Xs Ys)), .val (.int (nT - (1 : Int32))), .val (.int (own_nx nT (own_r4 y1_8 y2_8 nT num Xs Ys))), .val (.int (own_h (Xs (own_nx nT (own_r4 y1_8 y2_8 nT num Xs Ys))) (Ys (own_nx nT (own_r4 y1_8 y2_8 nT num Xs Ys))) nT)), .val (.int (0 : Int32))] [(.ref o0_8), (.int (own_r4 y1_8 y2_8 nT num Xs Ys)), (.ref w_ys_o0_8)]))
            obtain ⟨T56, X56, e56, st56⟩ := getF X55 hx hZ hown (host := "") (Or.inl (hw _ (List.mem_of_getElem? (i := 13) rfl))) Via.refl e55 F54 (g := (mkF m 146 #[.val (.ref o0_8), .val (.long y1_8), .second, .val (.long y2_8), .second, .val (.int (own_r4 y1_8 y2_8 nT num Xs Ys)), .val (.int (nT - (1 : Int32))), .val (.int (own_nx nT (own_r4 y1_8 y2_8 nT num Xs Ys))), .val (.int (own_h (Xs (own_nx nT (own_r4 y1_8 y2_8 nT num Xs Ys))) (Ys (own_nx nT (own_r4 y1_8 y2_8 nT num Xs Ys))) nT)), .val (.int (0 : Int32))] [(.ref o0_8), (.int (own_r4 y1_8 y2_8 nT num Xs Ys)), (.ref w_ys_o0_8)])) rfl rfl (hb hby d8_146)
            refine own_step (fun t k => st56 _ k) ?_
            refine own_step (fun t k => XS.iload X56.here hx rfl (hb hby d8_149) rfl k) ?_
            show own_Ends p.tables e below s _ _ _ (T56.setTop (mkF m 151 #[.val (.ref o0_8), .val (.long y1_8), .second, .val (.long y2_8), .second, .val (.int (own_r4 y1_8 y2_8 nT num Xs Ys)), .val (.int (nT - (1 : Int32))), .val (.int (own_nx nT (own_r4 y1_8 y2_8 nT num Xs Ys))), .val (.int (own_h (Xs (own_nx nT (own_r4 y1_8 y2_8 nT num Xs Ys))) (Ys (own_nx nT (own_r4 y1_8 y2_8 nT num Xs Ys))) nT)), .val (.int (0 : Int32))] [(.int (own_nx nT (own_r4 y1_8 y2_8 nT num Xs Ys))), (.ref w_ys_o0_8), (.int (own_r4 y1_8 y2_8 nT num Xs Ys)), (.ref w_ys_o0_8)]))
            have F57 : own_ArJ Z h51 w_ys_o0_8 nT Ys := (V_w_ys_o0_8.other W51 ne_w_ys_o0_8_w_xs_o0_8)
            obtain ⟨cl58, Ar58, S58, N58, G58⟩ := id F57
            have hr58 : ¬ (own_nx nT (own_r4 y1_8 y2_8 nT num Xs Ys)) < 0 ∧ (own_nx nT (own_r4 y1_8 y2_8 nT num Xs Ys)) < nT := (own_rng _ _ hnT)
            have hin58 : ¬ ((own_nx nT (own_r4 y1_8 y2_8 nT num Xs Ys)) < 0 ∨ cl58.slots.size ≤ ((own_nx nT (own_r4 y1_8 y2_8 nT num Xs Ys))).toNatClampNeg) := inb_of S58 hr58
            have hat58 : cl58.slots[((own_nx nT (own_r4 y1_8 y2_8 nT num Xs Ys))).toNatClampNeg]? = some (.long (Ys (own_nx nT (own_r4 y1_8 y2_8 nT num Xs Ys)))) := G58 _ hr58.1 hr58.2
            refine own_step (fun t k => X56.laload hx (j := (own_nx nT (own_r4 y1_8 y2_8 nT num Xs Ys))) (v := (.long (Ys (own_nx nT (own_r4 y1_8 y2_8 nT num Xs Ys))))) (by rw [e56]; exact Ar58.1) (State.isArrayOf_alike hZ.alike Ar58.2.1) Ar58.2.2 hin58 hat58 (g := (mkF m 151 #[.val (.ref o0_8), .val (.long y1_8), .second, .val (.long y2_8), .second, .val (.int (own_r4 y1_8 y2_8 nT num Xs Ys)), .val (.int (nT - (1 : Int32))), .val (.int (own_nx nT (own_r4 y1_8 y2_8 nT num Xs Ys))), .val (.int (own_h (Xs (own_nx nT (own_r4 y1_8 y2_8 nT num Xs Ys))) (Ys (own_nx nT (own_r4 y1_8 y2_8 nT num Xs Ys))) nT)), .val (.int (0 : Int32))] [(.int (own_nx nT (own_r4 y1_8 y2_8 nT num Xs Ys))), (.ref w_ys_o0_8), (.int (own_r4 y1_8 y2_8 nT num Xs Ys)), (.ref w_ys_o0_8)])) rfl rfl (hb hby d8_151) _ k) ?_
            show own_Ends p.tables e below s _ _ _ (T56.setTop (mkF m 152 #[.val (.ref o0_8), .val (.long y1_8), .second, .val (.long y2_8), .second, .val (.int (own_r4 y1_8 y2_8 nT num Xs Ys)), .val (.int (nT - (1 : Int32))), .val (.int (own_nx nT (own_r4 y1_8 y2_8 nT num Xs Ys))), .val (.int (own_h (Xs (own_nx nT (own_r4 y1_8 y2_8 nT num Xs Ys))) (Ys (own_nx nT (own_r4 y1_8 y2_8 nT num Xs Ys))) nT)), .val (.int (0 : Int32))] [(.long (Ys (own_nx nT (own_r4 y1_8 y2_8 nT num Xs Ys)))), (.int (own_r4 y1_8 y2_8 nT num Xs Ys)), (.ref w_ys_o0_8)]))
            obtain ⟨cl59, Ar59, S59, N59, G59⟩ := id F57
            have hr59 : ¬ (own_r4 y1_8 y2_8 nT num Xs Ys) < 0 ∧ (own_r4 y1_8 y2_8 nT num Xs Ys) < nT := (own_srng _ _ _ _ _ _ hnT)
            have hin59 : ¬ ((own_r4 y1_8 y2_8 nT num Xs Ys) < 0 ∨ cl59.slots.size ≤ ((own_r4 y1_8 y2_8 nT num Xs Ys)).toNatClampNeg) := inb_of S59 hr59
            obtain ⟨T60, h60, X60, e60, W60, st60⟩ := stJ X56 hx hZ e56 Ar59 (j := (own_r4 y1_8 y2_8 nT num Xs Ys)) hin59 (g := (mkF m 152 #[.val (.ref o0_8), .val (.long y1_8), .second, .val (.long y2_8), .second, .val (.int (own_r4 y1_8 y2_8 nT num Xs Ys)), .val (.int (nT - (1 : Int32))), .val (.int (own_nx nT (own_r4 y1_8 y2_8 nT num Xs Ys))), .val (.int (own_h (Xs (own_nx nT (own_r4 y1_8 y2_8 nT num Xs Ys))) (Ys (own_nx nT (own_r4 y1_8 y2_8 nT num Xs Ys))) nT)), .val (.int (0 : Int32))] [(.long (Ys (own_nx nT (own_r4 y1_8 y2_8 nT num Xs Ys)))), (.int (own_r4 y1_8 y2_8 nT num Xs Ys)), (.ref w_ys_o0_8)])) rfl rfl (hb hby d8_152)
            refine own_step (fun t k => st60 _ k) ?_
            have V60 : own_ArJ Z h60 w_ys_o0_8 nT (own_upd Ys (own_r4 y1_8 y2_8 nT num Xs Ys) (Ys (own_nx nT (own_r4 y1_8 y2_8 nT num Xs Ys)))) := own_ArJ.set (v := (Ys (own_nx nT (own_r4 y1_8 y2_8 nT num Xs Ys)))) ⟨cl59, Ar59, S59, N59, G59⟩ hr59.1 Ar59 W60
            have K61 : Keep h0 h60 [w_numbers_o0_8, o0_8, w_xs_o0_8, w_ys_o0_8] := K52.wr W60 (Or.inl (List.mem_of_getElem? (i := 3) rfl))
            have N62 := Fr.snoc X60 N53 g_w_ys_o0_8
            refine own_step (fun t k => XS.aloadN X60.here hx rfl (hb hby d8_153) rfl rfl k) ?_
            show own_Ends p.tables e below s _ _ _ (T60.setTop (mkF m 154 #[.val (.ref o0_8), .val (.long y1_8), .second, .val (.long y2_8), .second, .val (.int (own_r4 y1_8 y2_8 nT num Xs Ys)), .val (.int (nT - (1 : Int32))), .val (.int (own_nx nT (own_r4 y1_8 y2_8 nT num Xs Ys))), .val (.int (own_h (Xs (own_nx nT (own_r4 y1_8 y2_8 nT num Xs Ys))) (Ys (own_nx nT (own_r4 y1_8 y2_8 nT num Xs Ys))) nT)), .val (.int (0 : Int32))] [(.ref o0_8)]))
            have F63 : Fld Z h60 o0_8 "com/example/swanhall/swanhall/core/CellTable" "numbers" "[I" (.ref w_numbers_o0_8) := ((F_numbers_o0_8.other W51 (Or.inl ne_o0_8_w_xs_o0_8)).other W60 (Or.inl ne_o0_8_w_ys_o0_8))
            obtain ⟨T64, X64, e64, st64⟩ := getF X60 hx hZ hown (host := "") (Or.inl (hw _ (List.mem_of_getElem? (i := 16) rfl))) Via.refl e60 F63 (g := (mkF m 154 #[.val (.ref o0_8), .val (.long y1_8), .second, .val (.long y2_8), .second, .val (.int (own_r4 y1_8 y2_8 nT num Xs Ys)), .val (.int (nT - (1 : Int32))), .val (.int (own_nx nT (own_r4 y1_8 y2_8 nT num Xs Ys))), .val (.int (own_h (Xs (own_nx nT (own_r4 y1_8 y2_8 nT num Xs Ys))) (Ys (own_nx nT (own_r4 y1_8 y2_8 nT num Xs Ys))) nT)), .val (.int (0 : Int32))] [(.ref o0_8)])) rfl rfl (hb hby d8_154)
            refine own_step (fun t k => st64 _ k) ?_
            refine own_step (fun t k => XS.iload X64.here hx rfl (hb hby d8_157) rfl k) ?_
            refine own_step (fun t k => XS.aloadN X64.here hx rfl (hb hby d8_159) rfl rfl k) ?_
            show own_Ends p.tables e below s _ _ _ (T64.setTop (mkF m 160 #[.val (.ref o0_8), .val (.long y1_8), .second, .val (.long y2_8), .second, .val (.int (own_r4 y1_8 y2_8 nT num Xs Ys)), .val (.int (nT - (1 : Int32))), .val (.int (own_nx nT (own_r4 y1_8 y2_8 nT num Xs Ys))), .val (.int (own_h (Xs (own_nx nT (own_r4 y1_8 y2_8 nT num Xs Ys))) (Ys (own_nx nT (own_r4 y1_8 y2_8 nT num Xs Ys))) nT)), .val (.int (0 : Int32))] [(.ref o0_8), (.int (own_r4 y1_8 y2_8 nT num Xs Ys)), (.ref w_numbers_o0_8)]))
            obtain ⟨T65, X65, e65, st65⟩ := getF X64 hx hZ hown (host := "") (Or.inl (hw _ (List.mem_of_getElem? (i := 16) rfl))) Via.refl e64 F63 (g := (mkF m 160 #[.val (.ref o0_8), .val (.long y1_8), .second, .val (.long y2_8), .second, .val (.int (own_r4 y1_8 y2_8 nT num Xs Ys)), .val (.int (nT - (1 : Int32))), .val (.int (own_nx nT (own_r4 y1_8 y2_8 nT num Xs Ys))), .val (.int (own_h (Xs (own_nx nT (own_r4 y1_8 y2_8 nT num Xs Ys))) (Ys (own_nx nT (own_r4 y1_8 y2_8 nT num Xs Ys))) nT)), .val (.int (0 : Int32))] [(.ref o0_8), (.int (own_r4 y1_8 y2_8 nT num Xs Ys)), (.ref w_numbers_o0_8)])) rfl rfl (hb hby d8_160)
            refine own_step (fun t k => st65 _ k) ?_
            refine own_step (fun t k => XS.iload X65.here hx rfl (hb hby d8_163) rfl k) ?_
            show own_Ends p.tables e below s _ _ _ (T65.setTop (mkF m 165 #[.val (.ref o0_8), .val (.long y1_8), .second, .val (.long y2_8), .second, .val (.int (own_r4 y1_8 y2_8 nT num Xs Ys)), .val (.int (nT - (1 : Int32))), .val (.int (own_nx nT (own_r4 y1_8 y2_8 nT num Xs Ys))), .val (.int (own_h (Xs (own_nx nT (own_r4 y1_8 y2_8 nT num Xs Ys))) (Ys (own_nx nT (own_r4 y1_8 y2_8 nT num Xs Ys))) nT)), .val (.int (0 : Int32))] [(.int (own_nx nT (own_r4 y1_8 y2_8 nT num Xs Ys))), (.ref w_numbers_o0_8), (.int (own_r4 y1_8 y2_8 nT num Xs Ys)), (.ref w_numbers_o0_8)]))
            have F66 : own_ArI Z h60 w_numbers_o0_8 nT num := ((V_w_numbers_o0_8.other W51 ne_w_numbers_o0_8_w_xs_o0_8).other W60 ne_w_numbers_o0_8_w_ys_o0_8)
            obtain ⟨cl67, Ar67, S67, N67, G67⟩ := id F66
            have hr67 : ¬ (own_nx nT (own_r4 y1_8 y2_8 nT num Xs Ys)) < 0 ∧ (own_nx nT (own_r4 y1_8 y2_8 nT num Xs Ys)) < nT := (own_rng _ _ hnT)
            have hin67 : ¬ ((own_nx nT (own_r4 y1_8 y2_8 nT num Xs Ys)) < 0 ∨ cl67.slots.size ≤ ((own_nx nT (own_r4 y1_8 y2_8 nT num Xs Ys))).toNatClampNeg) := inb_of S67 hr67
            have hat67 : cl67.slots[((own_nx nT (own_r4 y1_8 y2_8 nT num Xs Ys))).toNatClampNeg]? = some (.int (num (own_nx nT (own_r4 y1_8 y2_8 nT num Xs Ys)))) := G67 _ hr67.1 hr67.2
            refine own_step (fun t k => X65.iaload hx (j := (own_nx nT (own_r4 y1_8 y2_8 nT num Xs Ys))) (v := (.int (num (own_nx nT (own_r4 y1_8 y2_8 nT num Xs Ys))))) (by rw [e65]; exact Ar67.1) (State.isArrayOf_alike hZ.alike Ar67.2.1) Ar67.2.2 hin67 hat67 (g := (mkF m 165 #[.val (.ref o0_8), .val (.long y1_8), .second, .val (.long y2_8), .second, .val (.int (own_r4 y1_8 y2_8 nT num Xs Ys)), .val (.int (nT - (1 : Int32))), .val (.int (own_nx nT (own_r4 y1_8 y2_8 nT num Xs Ys))), .val (.int (own_h (Xs (own_nx nT (own_r4 y1_8 y2_8 nT num Xs Ys))) (Ys (own_nx nT (own_r4 y1_8 y2_8 nT num Xs Ys))) nT)), .val (.int (0 : Int32))] [(.int (own_nx nT (own_r4 y1_8 y2_8 nT num Xs Ys))), (.ref w_numbers_o0_8), (.int (own_r4 y1_8 y2_8 nT num Xs Ys)), (.ref w_numbers_o0_8)])) rfl rfl (hb hby d8_165) _ k) ?_
            show own_Ends p.tables e below s _ _ _ (T65.setTop (mkF m 166 #[.val (.ref o0_8), .val (.long y1_8), .second, .val (.long y2_8), .second, .val (.int (own_r4 y1_8 y2_8 nT num Xs Ys)), .val (.int (nT - (1 : Int32))), .val (.int (own_nx nT (own_r4 y1_8 y2_8 nT num Xs Ys))), .val (.int (own_h (Xs (own_nx nT (own_r4 y1_8 y2_8 nT num Xs Ys))) (Ys (own_nx nT (own_r4 y1_8 y2_8 nT num Xs Ys))) nT)), .val (.int (0 : Int32))] [(.int (num (own_nx nT (own_r4 y1_8 y2_8 nT num Xs Ys)))), (.int (own_r4 y1_8 y2_8 nT num Xs Ys)), (.ref w_numbers_o0_8)]))
            obtain ⟨cl68, Ar68, S68, N68, G68⟩ := id F66
            have hr68 : ¬ (own_r4 y1_8 y2_8 nT num Xs Ys) < 0 ∧ (own_r4 y1_8 y2_8 nT num Xs Ys) < nT := (own_srng _ _ _ _ _ _ hnT)
            have hin68 : ¬ ((own_r4 y1_8 y2_8 nT num Xs Ys) < 0 ∨ cl68.slots.size ≤ ((own_r4 y1_8 y2_8 nT num Xs Ys)).toNatClampNeg) := inb_of S68 hr68
            obtain ⟨T69, h69, X69, e69, W69, st69⟩ := stI X65 hx hZ e65 Ar68 (j := (own_r4 y1_8 y2_8 nT num Xs Ys)) hin68 (g := (mkF m 166 #[.val (.ref o0_8), .val (.long y1_8), .second, .val (.long y2_8), .second, .val (.int (own_r4 y1_8 y2_8 nT num Xs Ys)), .val (.int (nT - (1 : Int32))), .val (.int (own_nx nT (own_r4 y1_8 y2_8 nT num Xs Ys))), .val (.int (own_h (Xs (own_nx nT (own_r4 y1_8 y2_8 nT num Xs Ys))) (Ys (own_nx nT (own_r4 y1_8 y2_8 nT num Xs Ys))) nT)), .val (.int (0 : Int32))] [(.int (num (own_nx nT (own_r4 y1_8 y2_8 nT num Xs Ys)))), (.int (own_r4 y1_8 y2_8 nT num Xs Ys)), (.ref w_numbers_o0_8)])) rfl rfl (hb hby d8_166)
            refine own_step (fun t k => st69 _ k) ?_
            have V69 : own_ArI Z h69 w_numbers_o0_8 nT (own_upd num (own_r4 y1_8 y2_8 nT num Xs Ys) (num (own_nx nT (own_r4 y1_8 y2_8 nT num Xs Ys)))) := own_ArI.set (v := (num (own_nx nT (own_r4 y1_8 y2_8 nT num Xs Ys)))) ⟨cl68, Ar68, S68, N68, G68⟩ hr68.1 Ar68 W69
            have K70 : Keep h0 h69 [w_numbers_o0_8, o0_8, w_xs_o0_8, w_ys_o0_8] := K61.wr W69 (Or.inl (List.mem_of_getElem? (i := 0) rfl))
            have N71 := Fr.snoc X69 N62 g_w_numbers_o0_8
            refine own_step (fun t k => XS.iload X69.here hx rfl (hb hby d8_167) rfl k) ?_
            refine own_step (fun t k => XS.istore X69.here hx rfl (hb hby d8_169) rfl (l' := #[.val (.ref o0_8), .val (.long y1_8), .second, .val (.long y2_8), .second, .val (.int (own_nx nT (own_r4 y1_8 y2_8 nT num Xs Ys))), .val (.int (nT - (1 : Int32))), .val (.int (own_nx nT (own_r4 y1_8 y2_8 nT num Xs Ys))), .val (.int (own_h (Xs (own_nx nT (own_r4 y1_8 y2_8 nT num Xs Ys))) (Ys (own_nx nT (own_r4 y1_8 y2_8 nT num Xs Ys))) nT)), .val (.int (0 : Int32))]) rfl k) ?_
            refine own_step (fun t k => XS.iload X69.here hx rfl (hb hby d8_171) rfl k) ?_
            refine own_step (fun t k => XS.iconst X69.here hx rfl (hb hby d8_173) k) ?_
            refine own_step (fun t k => XS.iadd X69.here hx rfl (hb hby d8_174) rfl k) ?_
            refine own_step (fun t k => XS.iload X69.here hx rfl (hb hby d8_175) rfl k) ?_
            show own_Ends p.tables e below s _ _ _ (T69.setTop (mkF m 177 #[.val (.ref o0_8), .val (.long y1_8), .second, .val (.long y2_8), .second, .val (.int (own_nx nT (own_r4 y1_8 y2_8 nT num Xs Ys))), .val (.int (nT - (1 : Int32))), .val (.int (own_nx nT (own_r4 y1_8 y2_8 nT num Xs Ys))), .val (.int (own_h (Xs (own_nx nT (own_r4 y1_8 y2_8 nT num Xs Ys))) (Ys (own_nx nT (own_r4 y1_8 y2_8 nT num Xs Ys))) nT)), .val (.int (0 : Int32))] [(.int (nT - (1 : Int32))), (.int ((own_nx nT (own_r4 y1_8 y2_8 nT num Xs Ys)) + (1 : Int32)))]))
            refine own_step (fun t k => XS.iand X69.here hx rfl (hb hby d8_177) rfl k) ?_
            refine own_step (fun t k => XS.istore X69.here hx rfl (hb hby d8_178) rfl (l' := #[.val (.ref o0_8), .val (.long y1_8), .second, .val (.long y2_8), .second, .val (.int (own_nx nT (own_r4 y1_8 y2_8 nT num Xs Ys))), .val (.int (nT - (1 : Int32))), .val (.int (own_nx nT (own_nx nT (own_r4 y1_8 y2_8 nT num Xs Ys)))), .val (.int (own_h (Xs (own_nx nT (own_r4 y1_8 y2_8 nT num Xs Ys))) (Ys (own_nx nT (own_r4 y1_8 y2_8 nT num Xs Ys))) nT)), .val (.int (0 : Int32))]) rfl k) ?_
            refine own_step (fun t k => XS.goto X69.here hx rfl (pc0 := 180) (pc' := 37) rfl (hb hby d8_180) (by decide) (by decide) k) ?_
            refine own_step (fun t k => XS.aloadN X69.here hx rfl (hb hby d8_37) rfl rfl k) ?_
            show own_Ends p.tables e below s _ _ _ (T69.setTop (mkF m 38 #[.val (.ref o0_8), .val (.long y1_8), .second, .val (.long y2_8), .second, .val (.int (own_nx nT (own_r4 y1_8 y2_8 nT num Xs Ys))), .val (.int (nT - (1 : Int32))), .val (.int (own_nx nT (own_nx nT (own_r4 y1_8 y2_8 nT num Xs Ys)))), .val (.int (own_h (Xs (own_nx nT (own_r4 y1_8 y2_8 nT num Xs Ys))) (Ys (own_nx nT (own_r4 y1_8 y2_8 nT num Xs Ys))) nT)), .val (.int (0 : Int32))] [(.ref o0_8)]))
            have F72 : Fld Z h69 o0_8 "com/example/swanhall/swanhall/core/CellTable" "numbers" "[I" (.ref w_numbers_o0_8) := (F63.other W69 (Or.inl ne_o0_8_w_numbers_o0_8))
            obtain ⟨T73, X73, e73, st73⟩ := getF X69 hx hZ hown (host := "") (Or.inl (hw _ (List.mem_of_getElem? (i := 16) rfl))) Via.refl e69 F72 (g := (mkF m 38 #[.val (.ref o0_8), .val (.long y1_8), .second, .val (.long y2_8), .second, .val (.int (own_nx nT (own_r4 y1_8 y2_8 nT num Xs Ys))), .val (.int (nT - (1 : Int32))), .val (.int (own_nx nT (own_nx nT (own_r4 y1_8 y2_8 nT num Xs Ys)))), .val (.int (own_h (Xs (own_nx nT (own_r4 y1_8 y2_8 nT num Xs Ys))) (Ys (own_nx nT (own_r4 y1_8 y2_8 nT num Xs Ys))) nT)), .val (.int (0 : Int32))] [(.ref o0_8)])) rfl rfl (hb hby d8_38)
            refine own_step (fun t k => st73 _ k) ?_
            refine own_step (fun t k => XS.iload X73.here hx rfl (hb hby d8_41) rfl k) ?_
            show own_Ends p.tables e below s _ _ _ (T73.setTop (mkF m 43 #[.val (.ref o0_8), .val (.long y1_8), .second, .val (.long y2_8), .second, .val (.int (own_nx nT (own_r4 y1_8 y2_8 nT num Xs Ys))), .val (.int (nT - (1 : Int32))), .val (.int (own_nx nT (own_nx nT (own_r4 y1_8 y2_8 nT num Xs Ys)))), .val (.int (own_h (Xs (own_nx nT (own_r4 y1_8 y2_8 nT num Xs Ys))) (Ys (own_nx nT (own_r4 y1_8 y2_8 nT num Xs Ys))) nT)), .val (.int (0 : Int32))] [(.int (own_nx nT (own_nx nT (own_r4 y1_8 y2_8 nT num Xs Ys)))), (.ref w_numbers_o0_8)]))
            obtain ⟨cl74, Ar74, S74, N74, G74⟩ := id V69
            have hr74 : ¬ (own_nx nT (own_nx nT (own_r4 y1_8 y2_8 nT num Xs Ys))) < 0 ∧ (own_nx nT (own_nx nT (own_r4 y1_8 y2_8 nT num Xs Ys))) < nT := (own_rng _ _ hnT)
            have hin74 : ¬ ((own_nx nT (own_nx nT (own_r4 y1_8 y2_8 nT num Xs Ys))) < 0 ∨ cl74.slots.size ≤ ((own_nx nT (own_nx nT (own_r4 y1_8 y2_8 nT num Xs Ys)))).toNatClampNeg) := inb_of S74 hr74
            have hat74 : cl74.slots[((own_nx nT (own_nx nT (own_r4 y1_8 y2_8 nT num Xs Ys)))).toNatClampNeg]? = some (.int ((own_upd num (own_r4 y1_8 y2_8 nT num Xs Ys) (num (own_nx nT (own_r4 y1_8 y2_8 nT num Xs Ys)))) (own_nx nT (own_nx nT (own_r4 y1_8 y2_8 nT num Xs Ys))))) := G74 _ hr74.1 hr74.2
            refine own_step (fun t k => X73.iaload hx (j := (own_nx nT (own_nx nT (own_r4 y1_8 y2_8 nT num Xs Ys)))) (v := (.int ((own_upd num (own_r4 y1_8 y2_8 nT num Xs Ys) (num (own_nx nT (own_r4 y1_8 y2_8 nT num Xs Ys)))) (own_nx nT (own_nx nT (own_r4 y1_8 y2_8 nT num Xs Ys)))))) (by rw [e73]; exact Ar74.1) (State.isArrayOf_alike hZ.alike Ar74.2.1) Ar74.2.2 hin74 hat74 (g := (mkF m 43 #[.val (.ref o0_8), .val (.long y1_8), .second, .val (.long y2_8), .second, .val (.int (own_nx nT (own_r4 y1_8 y2_8 nT num Xs Ys))), .val (.int (nT - (1 : Int32))), .val (.int (own_nx nT (own_nx nT (own_r4 y1_8 y2_8 nT num Xs Ys)))), .val (.int (own_h (Xs (own_nx nT (own_r4 y1_8 y2_8 nT num Xs Ys))) (Ys (own_nx nT (own_r4 y1_8 y2_8 nT num Xs Ys))) nT)), .val (.int (0 : Int32))] [(.int (own_nx nT (own_nx nT (own_r4 y1_8 y2_8 nT num Xs Ys)))), (.ref w_numbers_o0_8)])) rfl rfl (hb hby d8_43) _ k) ?_
            show own_Ends p.tables e below s _ _ _ (T73.setTop (mkF m 44 #[.val (.ref o0_8), .val (.long y1_8), .second, .val (.long y2_8), .second, .val (.int (own_nx nT (own_r4 y1_8 y2_8 nT num Xs Ys))), .val (.int (nT - (1 : Int32))), .val (.int (own_nx nT (own_nx nT (own_r4 y1_8 y2_8 nT num Xs Ys)))), .val (.int (own_h (Xs (own_nx nT (own_r4 y1_8 y2_8 nT num Xs Ys))) (Ys (own_nx nT (own_r4 y1_8 y2_8 nT num Xs Ys))) nT)), .val (.int (0 : Int32))] [(.int ((own_upd num (own_r4 y1_8 y2_8 nT num Xs Ys) (num (own_nx nT (own_r4 y1_8 y2_8 nT num Xs Ys)))) (own_nx nT (own_nx nT (own_r4 y1_8 y2_8 nT num Xs Ys)))))]))
            have hc75 : ((own_upd num (own_r4 y1_8 y2_8 nT num Xs Ys) (num (own_nx nT (own_r4 y1_8 y2_8 nT num Xs Ys)))) (own_nx nT (own_nx nT (own_r4 y1_8 y2_8 nT num Xs Ys)))) = (0 : Int32) := ((own_upd_ne (hn2 _ (own_srng _ _ _ _ _ _ hnT).1 (own_srng _ _ _ _ _ _ hnT).2)).trans (hst _ hc15_5 hc44_10))
            refine own_step (fun t k => XS.ifYes X73.here hx rfl (pc0 := 44) (pc' := 183) rfl (hb hby d8_44) rfl ((if0 _ _).trans (teq hc75).1) (by decide) (by decide) k) ?_
            refine own_step (fun t k => XS.aloadN X73.here hx rfl (hb hby d8_183) rfl rfl k) ?_
            show own_Ends p.tables e below s _ _ _ (T73.setTop (mkF m 184 #[.val (.ref o0_8), .val (.long y1_8), .second, .val (.long y2_8), .second, .val (.int (own_nx nT (own_r4 y1_8 y2_8 nT num Xs Ys))), .val (.int (nT - (1 : Int32))), .val (.int (own_nx nT (own_nx nT (own_r4 y1_8 y2_8 nT num Xs Ys)))), .val (.int (own_h (Xs (own_nx nT (own_r4 y1_8 y2_8 nT num Xs Ys))) (Ys (own_nx nT (own_r4 y1_8 y2_8 nT num Xs Ys))) nT)), .val (.int (0 : Int32))] [(.ref o0_8)]))
            obtain ⟨T76, X76, e76, st76⟩ := getF X73 hx hZ hown (host := "") (Or.inl (hw _ (List.mem_of_getElem? (i := 16) rfl))) Via.refl e73 F72 (g := (mkF m 184 #[.val (.ref o0_8), .val (.long y1_8), .second, .val (.long y2_8), .second, .val (.int (own_nx nT (own_r4 y1_8 y2_8 nT num Xs Ys))), .val (.int (nT - (1 : Int32))), .val (.int (own_nx nT (own_nx nT (own_r4 y1_8 y2_8 nT num Xs Ys)))), .val (.int (own_h (Xs (own_nx nT (own_r4 y1_8 y2_8 nT num Xs Ys))) (Ys (own_nx nT (own_r4 y1_8 y2_8 nT num Xs Ys))) nT)), .val (.int (0 : Int32))] [(.ref o0_8)])) rfl rfl (hb hby d8_184)
            refine own_step (fun t k => st76 _ k) ?_
            refine own_step (fun t k => XS.iload X76.here hx rfl (hb hby d8_187) rfl k) ?_
            refine own_step (fun t k => XS.iconst X76.here hx rfl (hb hby d8_189) k) ?_
            show own_Ends p.tables e below s _ _ _ (T76.setTop (mkF m 190 #[.val (.ref o0_8), .val (.long y1_8), .second, .val (.long y2_8), .second, .val (.int (own_nx nT (own_r4 y1_8 y2_8 nT num Xs Ys))), .val (.int (nT - (1 : Int32))), .val (.int (own_nx nT (own_nx nT (own_r4 y1_8 y2_8 nT num Xs Ys)))), .val (.int (own_h (Xs (own_nx nT (own_r4 y1_8 y2_8 nT num Xs Ys))) (Ys (own_nx nT (own_r4 y1_8 y2_8 nT num Xs Ys))) nT)), .val (.int (0 : Int32))] [(.int (0 : Int32)), (.int (own_nx nT (own_r4 y1_8 y2_8 nT num Xs Ys))), (.ref w_numbers_o0_8)]))
            obtain ⟨cl77, Ar77, S77, N77, G77⟩ := id V69
            have hr77 : ¬ (own_nx nT (own_r4 y1_8 y2_8 nT num Xs Ys)) < 0 ∧ (own_nx nT (own_r4 y1_8 y2_8 nT num Xs Ys)) < nT := (own_rng _ _ hnT)
            have hin77 : ¬ ((own_nx nT (own_r4 y1_8 y2_8 nT num Xs Ys)) < 0 ∨ cl77.slots.size ≤ ((own_nx nT (own_r4 y1_8 y2_8 nT num Xs Ys))).toNatClampNeg) := inb_of S77 hr77
            obtain ⟨T78, h78, X78, e78, W78, st78⟩ := stI X76 hx hZ e76 Ar77 (j := (own_nx nT (own_r4 y1_8 y2_8 nT num Xs Ys))) hin77 (g := (mkF m 190 #[.val (.ref o0_8), .val (.long y1_8), .second, .val (.long y2_8), .second, .val (.int (own_nx nT (own_r4 y1_8 y2_8 nT num Xs Ys))), .val (.int (nT - (1 : Int32))), .val (.int (own_nx nT (own_nx nT (own_r4 y1_8 y2_8 nT num Xs Ys)))), .val (.int (own_h (Xs (own_nx nT (own_r4 y1_8 y2_8 nT num Xs Ys))) (Ys (own_nx nT (own_r4 y1_8 y2_8 nT num Xs Ys))) nT)), .val (.int (0 : Int32))] [(.int (0 : Int32)), (.int (own_nx nT (own_r4 y1_8 y2_8 nT num Xs Ys))), (.ref w_numbers_o0_8)])) rfl rfl (hb hby d8_190)
            refine own_step (fun t k => st78 _ k) ?_
            have V78 : own_ArI Z h78 w_numbers_o0_8 nT (own_upd (own_upd num (own_r4 y1_8 y2_8 nT num Xs Ys) (num (own_nx nT (own_r4 y1_8 y2_8 nT num Xs Ys)))) (own_nx nT (own_r4 y1_8 y2_8 nT num Xs Ys)) (0 : Int32)) := own_ArI.set (v := (0 : Int32)) ⟨cl77, Ar77, S77, N77, G77⟩ hr77.1 Ar77 W78
            have K79 : Keep h0 h78 [w_numbers_o0_8, o0_8, w_xs_o0_8, w_ys_o0_8] := K70.wr W78 (Or.inl (List.mem_of_getElem? (i := 0) rfl))
            have N80 := Fr.snoc X78 N71 g_w_numbers_o0_8
            refine own_step (fun t k => XS.aloadN X78.here hx rfl (hb hby d8_191) rfl rfl k) ?_
            refine own_step (fun t k => XS.dup X78.here hx rfl (hb hby d8_192) rfl rfl k) ?_
            show own_Ends p.tables e below s _ _ _ (T78.setTop (mkF m 193 #[.val (.ref o0_8), .val (.long y1_8), .second, .val (.long y2_8), .second, .val (.int (own_nx nT (own_r4 y1_8 y2_8 nT num Xs Ys))), .val (.int (nT - (1 : Int32))), .val (.int (own_nx nT (own_nx nT (own_r4 y1_8 y2_8 nT num Xs Ys)))), .val (.int (own_h (Xs (own_nx nT (own_r4 y1_8 y2_8 nT num Xs Ys))) (Ys (own_nx nT (own_r4 y1_8 y2_8 nT num Xs Ys))) nT)), .val (.int (0 : Int32))] [(.ref o0_8), (.ref o0_8)]))
            have F81 : Fld Z h69 o0_8 "com/example/swanhall/swanhall/core/CellTable" "size" "I" (.int w_size_o0_8) := (((F_size_o0_8.other W51 (Or.inl ne_o0_8_w_xs_o0_8)).other W60 (Or.inl ne_o0_8_w_ys_o0_8)).other W69 (Or.inl ne_o0_8_w_numbers_o0_8))
            have F82 : Fld Z h78 o0_8 "com/example/swanhall/swanhall/core/CellTable" "size" "I" (.int w_size_o0_8) := (F81.other W78 (Or.inl ne_o0_8_w_numbers_o0_8))
            obtain ⟨T83, X83, e83, st83⟩ := getF X78 hx hZ hown (host := "") (Or.inl (hw _ (List.mem_of_getElem? (i := 33) rfl))) Via.refl e78 F82 (g := (mkF m 193 #[.val (.ref o0_8), .val (.long y1_8), .second, .val (.long y2_8), .second, .val (.int (own_nx nT (own_r4 y1_8 y2_8 nT num Xs Ys))), .val (.int (nT - (1 : Int32))), .val (.int (own_nx nT (own_nx nT (own_r4 y1_8 y2_8 nT num Xs Ys)))), .val (.int (own_h (Xs (own_nx nT (own_r4 y1_8 y2_8 nT num Xs Ys))) (Ys (own_nx nT (own_r4 y1_8 y2_8 nT num Xs Ys))) nT)), .val (.int (0 : Int32))] [(.ref o0_8), (.ref o0_8)])) rfl rfl (hb hby d8_193)
            refine own_step (fun t k => st83 _ k) ?_
            refine own_step (fun t k => XS.iconst X83.here hx rfl (hb hby d8_196) k) ?_
            refine own_step (fun t k => XS.isub X83.here hx rfl (hb hby d8_197) rfl k) ?_
            show own_Ends p.tables e below s _ _ _ (T83.setTop (mkF m 198 #[.val (.ref o0_8), .val (.long y1_8), .second, .val (.long y2_8), .second, .val (.int (own_nx nT (own_r4 y1_8 y2_8 nT num Xs Ys))), .val (.int (nT - (1 : Int32))), .val (.int (own_nx nT (own_nx nT (own_r4 y1_8 y2_8 nT num Xs Ys)))), .val (.int (own_h (Xs (own_nx nT (own_r4 y1_8 y2_8 nT num Xs Ys))) (Ys (own_nx nT (own_r4 y1_8 y2_8 nT num Xs Ys))) nT)), .val (.int (0 : Int32))] [(.int (w_size_o0_8 - (1 : Int32))), (.ref o0_8)]))
            have F84 : Exa Z h69 o0_8 "com/example/swanhall/swanhall/core/CellTable" := (((E_o0_8.wr W51).wr W60).wr W69)
            have F85 : Exa Z h78 o0_8 "com/example/swanhall/swanhall/core/CellTable" := (F84.wr W78)
            obtain ⟨T86, h86, X86, e86, W86, st86⟩ := putF X83 hx hZ hown (host := "") (Or.inl (hw _ (List.mem_of_getElem? (i := 33) rfl))) Via.refl e83 F82 F85 (Or.inl (hw _ (List.mem_of_getElem? (i := 34) rfl))) (hw _ (List.mem_of_getElem? (i := 2) rfl)) (ty := .int) (by decide) rfl rfl (g := (mkF m 198 #[.val (.ref o0_8), .val (.long y1_8), .second, .val (.long y2_8), .second, .val (.int (own_nx nT (own_r4 y1_8 y2_8 nT num Xs Ys))), .val (.int (nT - (1 : Int32))), .val (.int (own_nx nT (own_nx nT (own_r4 y1_8 y2_8 nT num Xs Ys)))), .val (.int (own_h (Xs (own_nx nT (own_r4 y1_8 y2_8 nT num Xs Ys))) (Ys (own_nx nT (own_r4 y1_8 y2_8 nT num Xs Ys))) nT)), .val (.int (0 : Int32))] [(.int (w_size_o0_8 - (1 : Int32))), (.ref o0_8)])) rfl rfl (hb hby d8_198)
            refine own_step (fun t k => st86 _ k) ?_
            have F87 : Fld Z h86 o0_8 "com/example/swanhall/swanhall/core/CellTable" "size" "I" (.int (w_size_o0_8 - (1 : Int32))) := F82.same W86
            have K88 : Keep h0 h86 [w_numbers_o0_8, o0_8, w_xs_o0_8, w_ys_o0_8] := K79.wr W86 (Or.inl (List.mem_of_getElem? (i := 1) rfl))
            have N89 := Fr.snoc X86 N80 g_o0_8
            show own_Ends p.tables e below s _ _ _ (T86.setTop (mkF m 201 #[.val (.ref o0_8), .val (.long y1_8), .second, .val (.long y2_8), .second, .val (.int (own_nx nT (own_r4 y1_8 y2_8 nT num Xs Ys))), .val (.int (nT - (1 : Int32))), .val (.int (own_nx nT (own_nx nT (own_r4 y1_8 y2_8 nT num Xs Ys)))), .val (.int (own_h (Xs (own_nx nT (own_r4 y1_8 y2_8 nT num Xs Ys))) (Ys (own_nx nT (own_r4 y1_8 y2_8 nT num Xs Ys))) nT)), .val (.int (0 : Int32))] []))
            have F222 : own_ArI Z h86 w_numbers_o0_8 nT (own_upd (own_upd num (own_r4 y1_8 y2_8 nT num Xs Ys) (num (own_nx nT (own_r4 y1_8 y2_8 nT num Xs Ys)))) (own_nx nT (own_r4 y1_8 y2_8 nT num Xs Ys)) (0 : Int32)) := (V78.other W86 (Ne.symm ne_o0_8_w_numbers_o0_8))
            have F223 : Fld Z h86 o0_8 "com/example/swanhall/swanhall/core/CellTable" "numbers" "[I" (.ref w_numbers_o0_8) := ((F72.other W78 (Or.inl ne_o0_8_w_numbers_o0_8)).other W86 (Or.inr (slot_ne (Or.inl (hw _ (List.mem_of_getElem? (i := 17) rfl))) (Or.inl (hw _ (List.mem_of_getElem? (i := 34) rfl))) (by decide) (t := (.array .int)) (t' := .int) (by decide) (by decide))))
            have F224 : Fld Z h69 o0_8 "com/example/swanhall/swanhall/core/CellTable" "xs" "[J" (.ref w_xs_o0_8) := (((F_xs_o0_8.other W51 (Or.inl ne_o0_8_w_xs_o0_8)).other W60 (Or.inl ne_o0_8_w_ys_o0_8)).other W69 (Or.inl ne_o0_8_w_numbers_o0_8))
            have F225 : Fld Z h86 o0_8 "com/example/swanhall/swanhall/core/CellTable" "xs" "[J" (.ref w_xs_o0_8) := ((F224.other W78 (Or.inl ne_o0_8_w_numbers_o0_8)).other W86 (Or.inr (slot_ne (Or.inl (hw _ (List.mem_of_getElem? (i := 12) rfl))) (Or.inl (hw _ (List.mem_of_getElem? (i := 34) rfl))) (by decide) (t := (.array .long)) (t' := .int) (by decide) (by decide))))
            have F226 : Fld Z h78 o0_8 "com/example/swanhall/swanhall/core/CellTable" "ys" "[J" (.ref w_ys_o0_8) := (((F54.other W60 (Or.inl ne_o0_8_w_ys_o0_8)).other W69 (Or.inl ne_o0_8_w_numbers_o0_8)).other W78 (Or.inl ne_o0_8_w_numbers_o0_8))
            have F227 : Fld Z h86 o0_8 "com/example/swanhall/swanhall/core/CellTable" "ys" "[J" (.ref w_ys_o0_8) := (F226.other W86 (Or.inr (slot_ne (Or.inl (hw _ (List.mem_of_getElem? (i := 14) rfl))) (Or.inl (hw _ (List.mem_of_getElem? (i := 34) rfl))) (by decide) (t := (.array .long)) (t' := .int) (by decide) (by decide))))
            have F228 : Exa Z h86 o0_8 "com/example/swanhall/swanhall/core/CellTable" := (F85.wr W86)
            have F229 : own_ArJ Z h78 w_xs_o0_8 nT (own_upd Xs (own_r4 y1_8 y2_8 nT num Xs Ys) (Xs (own_nx nT (own_r4 y1_8 y2_8 nT num Xs Ys)))) := (((V51.other W60 (Ne.symm ne_w_ys_o0_8_w_xs_o0_8)).other W69 (Ne.symm ne_w_numbers_o0_8_w_xs_o0_8)).other W78 (Ne.symm ne_w_numbers_o0_8_w_xs_o0_8))
            have F230 : own_ArJ Z h86 w_xs_o0_8 nT (own_upd Xs (own_r4 y1_8 y2_8 nT num Xs Ys) (Xs (own_nx nT (own_r4 y1_8 y2_8 nT num Xs Ys)))) := (F229.other W86 (Ne.symm ne_o0_8_w_xs_o0_8))
            have F231 : own_ArJ Z h86 w_ys_o0_8 nT (own_upd Ys (own_r4 y1_8 y2_8 nT num Xs Ys) (Ys (own_nx nT (own_r4 y1_8 y2_8 nT num Xs Ys)))) := (((V60.other W69 (Ne.symm ne_w_numbers_o0_8_w_ys_o0_8)).other W78 (Ne.symm ne_w_numbers_o0_8_w_ys_o0_8)).other W86 (Ne.symm ne_o0_8_w_ys_o0_8))
            exact own_ret0 X86 hx Bd.returns (hb hby d8_201) hnl (by rw [e86]; exact ⟨rfl, N89, K88, (Eq.mpr (congrArg (fun z => own_ArI Z h86 w_numbers_o0_8 nT z) (show (own_p8_0 y1_8 y2_8 nT num Xs Ys) = (own_upd (own_upd num (own_r4 y1_8 y2_8 nT num Xs Ys) (num (own_nx nT (own_r4 y1_8 y2_8 nT num Xs Ys)))) (own_nx nT (own_r4 y1_8 y2_8 nT num Xs Ys)) (0 : Int32)) from by unfold own_p8_0; rw [if_neg hc15_5, if_neg hc44_10, if_pos hc71_29, if_neg hc100_30, if_pos hc107_46])) F222), F223, F225, F227, (Eq.mpr (congrArg (fun z => Fld Z h86 o0_8 "com/example/swanhall/swanhall/core/CellTable" "size" "I" (.int z)) (show (own_p8_1 y1_8 y2_8 nT num Xs Ys w_size_o0_8) = (w_size_o0_8 - (1 : Int32)) from by unfold own_p8_1; rw [if_neg hc15_5, if_neg hc44_10, if_pos hc71_29, if_neg hc100_30, if_pos hc107_46])) F87), F228, (Eq.mpr (congrArg (fun z => own_ArJ Z h86 w_xs_o0_8 nT z) (show (own_p8_2 y1_8 y2_8 nT num Xs Ys) = (own_upd Xs (own_r4 y1_8 y2_8 nT num Xs Ys) (Xs (own_nx nT (own_r4 y1_8 y2_8 nT num Xs Ys)))) from by unfold own_p8_2; rw [if_neg hc15_5, if_neg hc44_10, if_pos hc71_29, if_neg hc100_30, if_pos hc107_46])) F230), (Eq.mpr (congrArg (fun z => own_ArJ Z h86 w_ys_o0_8 nT z) (show (own_p8_3 y1_8 y2_8 nT num Xs Ys) = (own_upd Ys (own_r4 y1_8 y2_8 nT num Xs Ys) (Ys (own_nx nT (own_r4 y1_8 y2_8 nT num Xs Ys)))) from by unfold own_p8_3; rw [if_neg hc15_5, if_neg hc44_10, if_pos hc71_29, if_neg hc100_30, if_pos hc107_46])) F231)⟩) (by decide) (by decide)
          · skip
            refine own_step (fun t k => XS.icmpNo X27.here hx rfl (hb hby d8_107) rfl (flt hc107_46).2.2.1 k) ?_
            refine own_step (fun t k => XS.iconst X27.here hx rfl (hb hby d8_110) k) ?_
            refine own_step (fun t k => XS.goto X27.here hx rfl (pc0 := 111) (pc' := 115) rfl (hb hby d8_111) (by decide) (by decide) k) ?_
            refine own_step (fun t k => XS.istore X27.here hx rfl (hb hby d8_115) rfl (l' := #[.val (.ref o0_8), .val (.long y1_8), .second, .val (.long y2_8), .second, .val (.int (own_r4 y1_8 y2_8 nT num Xs Ys)), .val (.int (nT - (1 : Int32))), .val (.int (own_nx nT (own_r4 y1_8 y2_8 nT num Xs Ys))), .val (.int (own_h (Xs (own_nx nT (own_r4 y1_8 y2_8 nT num Xs Ys))) (Ys (own_nx nT (own_r4 y1_8 y2_8 nT num Xs Ys))) nT)), .val (.int (1 : Int32))]) rfl k) ?_
            refine own_step (fun t k => XS.iload X27.here hx rfl (hb hby d8_117) rfl k) ?_
            show own_Ends p.tables e below s _ _ _ (T27.setTop (mkF m 119 #[.val (.ref o0_8), .val (.long y1_8), .second, .val (.long y2_8), .second, .val (.int (own_r4 y1_8 y2_8 nT num Xs Ys)), .val (.int (nT - (1 : Int32))), .val (.int (own_nx nT (own_r4 y1_8 y2_8 nT num Xs Ys))), .val (.int (own_h (Xs (own_nx nT (own_r4 y1_8 y2_8 nT num Xs Ys))) (Ys (own_nx nT (own_r4 y1_8 y2_8 nT num Xs Ys))) nT)), .val (.int (1 : Int32))] [(.int (1 : Int32))]))
            refine own_step (fun t k => XS.ifNo X27.here hx rfl (hb hby d8_119) rfl ((if0 _ _).trans (feq (by decide : ¬ ((1 : Int32) = (0 : Int32)))).1) k) ?_
            refine own_step (fun t k => XS.goto X27.here hx rfl (pc0 := 122) (pc' := 171) rfl (hb hby d8_122) (by decide) (by decide) k) ?_
            refine own_step (fun t k => XS.iload X27.here hx rfl (hb hby d8_171) rfl k) ?_
            refine own_step (fun t k => XS.iconst X27.here hx rfl (hb hby d8_173) k) ?_
            refine own_step (fun t k => XS.iadd X27.here hx rfl (hb hby d8_174) rfl k) ?_
            refine own_step (fun t k => XS.iload X27.here hx rfl (hb hby d8_175) rfl k) ?_
            refine own_step (fun t k => XS.iand X27.here hx rfl (hb hby d8_177) rfl k) ?_
            show own_Ends p.tables e below s _ _ _ (T27.setTop (mkF m 178 #[.val (.ref o0_8), .val (.long y1_8), .second, .val (.long y2_8), .second, .val (.int (own_r4 y1_8 y2_8 nT num Xs Ys)), .val (.int (nT - (1 : Int32))), .val (.int (own_nx nT (own_r4 y1_8 y2_8 nT num Xs Ys))), .val (.int (own_h (Xs (own_nx nT (own_r4 y1_8 y2_8 nT num Xs Ys))) (Ys (own_nx nT (own_r4 y1_8 y2_8 nT num Xs Ys))) nT)), .val (.int (1 : Int32))] [(.int (own_nx nT (own_nx nT (own_r4 y1_8 y2_8 nT num Xs Ys))))]))
            refine own_step (fun t k => XS.istore X27.here hx rfl (hb hby d8_178) rfl (l' := #[.val (.ref o0_8), .val (.long y1_8), .second, .val (.long y2_8), .second, .val (.int (own_r4 y1_8 y2_8 nT num Xs Ys)), .val (.int (nT - (1 : Int32))), .val (.int (own_nx nT (own_nx nT (own_r4 y1_8 y2_8 nT num Xs Ys)))), .val (.int (own_h (Xs (own_nx nT (own_r4 y1_8 y2_8 nT num Xs Ys))) (Ys (own_nx nT (own_r4 y1_8 y2_8 nT num Xs Ys))) nT)), .val (.int (1 : Int32))]) rfl k) ?_
            refine own_step (fun t k => XS.goto X27.here hx rfl (pc0 := 180) (pc' := 37) rfl (hb hby d8_180) (by decide) (by decide) k) ?_
            refine own_step (fun t k => XS.aloadN X27.here hx rfl (hb hby d8_37) rfl rfl k) ?_
            show own_Ends p.tables e below s _ _ _ (T27.setTop (mkF m 38 #[.val (.ref o0_8), .val (.long y1_8), .second, .val (.long y2_8), .second, .val (.int (own_r4 y1_8 y2_8 nT num Xs Ys)), .val (.int (nT - (1 : Int32))), .val (.int (own_nx nT (own_nx nT (own_r4 y1_8 y2_8 nT num Xs Ys)))), .val (.int (own_h (Xs (own_nx nT (own_r4 y1_8 y2_8 nT num Xs Ys))) (Ys (own_nx nT (own_r4 y1_8 y2_8 nT num Xs Ys))) nT)), .val (.int (1 : Int32))] [(.ref o0_8)]))
            obtain ⟨T90, X90, e90, st90⟩ := getF X27 hx hZ hown (host := "") (Or.inl (hw _ (List.mem_of_getElem? (i := 16) rfl))) Via.refl e27 F_numbers_o0_8 (g := (mkF m 38 #[.val (.ref o0_8), .val (.long y1_8), .second, .val (.long y2_8), .second, .val (.int (own_r4 y1_8 y2_8 nT num Xs Ys)), .val (.int (nT - (1 : Int32))), .val (.int (own_nx nT (own_nx nT (own_r4 y1_8 y2_8 nT num Xs Ys)))), .val (.int (own_h (Xs (own_nx nT (own_r4 y1_8 y2_8 nT num Xs Ys))) (Ys (own_nx nT (own_r4 y1_8 y2_8 nT num Xs Ys))) nT)), .val (.int (1 : Int32))] [(.ref o0_8)])) rfl rfl (hb hby d8_38)
            refine own_step (fun t k => st90 _ k) ?_
            refine own_step (fun t k => XS.iload X90.here hx rfl (hb hby d8_41) rfl k) ?_
            show own_Ends p.tables e below s _ _ _ (T90.setTop (mkF m 43 #[.val (.ref o0_8), .val (.long y1_8), .second, .val (.long y2_8), .second, .val (.int (own_r4 y1_8 y2_8 nT num Xs Ys)), .val (.int (nT - (1 : Int32))), .val (.int (own_nx nT (own_nx nT (own_r4 y1_8 y2_8 nT num Xs Ys)))), .val (.int (own_h (Xs (own_nx nT (own_r4 y1_8 y2_8 nT num Xs Ys))) (Ys (own_nx nT (own_r4 y1_8 y2_8 nT num Xs Ys))) nT)), .val (.int (1 : Int32))] [(.int (own_nx nT (own_nx nT (own_r4 y1_8 y2_8 nT num Xs Ys)))), (.ref w_numbers_o0_8)]))
            obtain ⟨cl91, Ar91, S91, N91, G91⟩ := id V_w_numbers_o0_8
            have hr91 : ¬ (own_nx nT (own_nx nT (own_r4 y1_8 y2_8 nT num Xs Ys))) < 0 ∧ (own_nx nT (own_nx nT (own_r4 y1_8 y2_8 nT num Xs Ys))) < nT := (own_rng _ _ hnT)
            have hin91 : ¬ ((own_nx nT (own_nx nT (own_r4 y1_8 y2_8 nT num Xs Ys))) < 0 ∨ cl91.slots.size ≤ ((own_nx nT (own_nx nT (own_r4 y1_8 y2_8 nT num Xs Ys)))).toNatClampNeg) := inb_of S91 hr91
            have hat91 : cl91.slots[((own_nx nT (own_nx nT (own_r4 y1_8 y2_8 nT num Xs Ys)))).toNatClampNeg]? = some (.int (num (own_nx nT (own_nx nT (own_r4 y1_8 y2_8 nT num Xs Ys))))) := G91 _ hr91.1 hr91.2
            refine own_step (fun t k => X90.iaload hx (j := (own_nx nT (own_nx nT (own_r4 y1_8 y2_8 nT num Xs Ys)))) (v := (.int (num (own_nx nT (own_nx nT (own_r4 y1_8 y2_8 nT num Xs Ys)))))) (by rw [e90]; exact Ar91.1) (State.isArrayOf_alike hZ.alike Ar91.2.1) Ar91.2.2 hin91 hat91 (g := (mkF m 43 #[.val (.ref o0_8), .val (.long y1_8), .second, .val (.long y2_8), .second, .val (.int (own_r4 y1_8 y2_8 nT num Xs Ys)), .val (.int (nT - (1 : Int32))), .val (.int (own_nx nT (own_nx nT (own_r4 y1_8 y2_8 nT num Xs Ys)))), .val (.int (own_h (Xs (own_nx nT (own_r4 y1_8 y2_8 nT num Xs Ys))) (Ys (own_nx nT (own_r4 y1_8 y2_8 nT num Xs Ys))) nT)), .val (.int (1 : Int32))] [(.int (own_nx nT (own_nx nT (own_r4 y1_8 y2_8 nT num Xs Ys)))), (.ref w_numbers_o0_8)])) rfl rfl (hb hby d8_43) _ k) ?_
            show own_Ends p.tables e below s _ _ _ (T90.setTop (mkF m 44 #[.val (.ref o0_8), .val (.long y1_8), .second, .val (.long y2_8), .second, .val (.int (own_r4 y1_8 y2_8 nT num Xs Ys)), .val (.int (nT - (1 : Int32))), .val (.int (own_nx nT (own_nx nT (own_r4 y1_8 y2_8 nT num Xs Ys)))), .val (.int (own_h (Xs (own_nx nT (own_r4 y1_8 y2_8 nT num Xs Ys))) (Ys (own_nx nT (own_r4 y1_8 y2_8 nT num Xs Ys))) nT)), .val (.int (1 : Int32))] [(.int (num (own_nx nT (own_nx nT (own_r4 y1_8 y2_8 nT num Xs Ys)))))]))
            have hc92 : (num (own_nx nT (own_nx nT (own_r4 y1_8 y2_8 nT num Xs Ys)))) = (0 : Int32) := (hst _ hc15_5 hc44_10)
            refine own_step (fun t k => XS.ifYes X90.here hx rfl (pc0 := 44) (pc' := 183) rfl (hb hby d8_44) rfl ((if0 _ _).trans (teq hc92).1) (by decide) (by decide) k) ?_
            refine own_step (fun t k => XS.aloadN X90.here hx rfl (hb hby d8_183) rfl rfl k) ?_
            show own_Ends p.tables e below s _ _ _ (T90.setTop (mkF m 184 #[.val (.ref o0_8), .val (.long y1_8), .second, .val (.long y2_8), .second, .val (.int (own_r4 y1_8 y2_8 nT num Xs Ys)), .val (.int (nT - (1 : Int32))), .val (.int (own_nx nT (own_nx nT (own_r4 y1_8 y2_8 nT num Xs Ys)))), .val (.int (own_h (Xs (own_nx nT (own_r4 y1_8 y2_8 nT num Xs Ys))) (Ys (own_nx nT (own_r4 y1_8 y2_8 nT num Xs Ys))) nT)), .val (.int (1 : Int32))] [(.ref o0_8)]))
            obtain ⟨T93, X93, e93, st93⟩ := getF X90 hx hZ hown (host := "") (Or.inl (hw _ (List.mem_of_getElem? (i := 16) rfl))) Via.refl e90 F_numbers_o0_8 (g := (mkF m 184 #[.val (.ref o0_8), .val (.long y1_8), .second, .val (.long y2_8), .second, .val (.int (own_r4 y1_8 y2_8 nT num Xs Ys)), .val (.int (nT - (1 : Int32))), .val (.int (own_nx nT (own_nx nT (own_r4 y1_8 y2_8 nT num Xs Ys)))), .val (.int (own_h (Xs (own_nx nT (own_r4 y1_8 y2_8 nT num Xs Ys))) (Ys (own_nx nT (own_r4 y1_8 y2_8 nT num Xs Ys))) nT)), .val (.int (1 : Int32))] [(.ref o0_8)])) rfl rfl (hb hby d8_184)
            refine own_step (fun t k => st93 _ k) ?_
            refine own_step (fun t k => XS.iload X93.here hx rfl (hb hby d8_187) rfl k) ?_
            refine own_step (fun t k => XS.iconst X93.here hx rfl (hb hby d8_189) k) ?_
            show own_Ends p.tables e below s _ _ _ (T93.setTop (mkF m 190 #[.val (.ref o0_8), .val (.long y1_8), .second, .val (.long y2_8), .second, .val (.int (own_r4 y1_8 y2_8 nT num Xs Ys)), .val (.int (nT - (1 : Int32))), .val (.int (own_nx nT (own_nx nT (own_r4 y1_8 y2_8 nT num Xs Ys)))), .val (.int (own_h (Xs (own_nx nT (own_r4 y1_8 y2_8 nT num Xs Ys))) (Ys (own_nx nT (own_r4 y1_8 y2_8 nT num Xs Ys))) nT)), .val (.int (1 : Int32))] [(.int (0 : Int32)), (.int (own_r4 y1_8 y2_8 nT num Xs Ys)), (.ref w_numbers_o0_8)]))
            obtain ⟨cl94, Ar94, S94, N94, G94⟩ := id V_w_numbers_o0_8
            have hr94 : ¬ (own_r4 y1_8 y2_8 nT num Xs Ys) < 0 ∧ (own_r4 y1_8 y2_8 nT num Xs Ys) < nT := (own_srng _ _ _ _ _ _ hnT)
            have hin94 : ¬ ((own_r4 y1_8 y2_8 nT num Xs Ys) < 0 ∨ cl94.slots.size ≤ ((own_r4 y1_8 y2_8 nT num Xs Ys)).toNatClampNeg) := inb_of S94 hr94
            obtain ⟨T95, h95, X95, e95, W95, st95⟩ := stI X93 hx hZ e93 Ar94 (j := (own_r4 y1_8 y2_8 nT num Xs Ys)) hin94 (g := (mkF m 190 #[.val (.ref o0_8), .val (.long y1_8), .second, .val (.long y2_8), .second, .val (.int (own_r4 y1_8 y2_8 nT num Xs Ys)), .val (.int (nT - (1 : Int32))), .val (.int (own_nx nT (own_nx nT (own_r4 y1_8 y2_8 nT num Xs Ys)))), .val (.int (own_h (Xs (own_nx nT (own_r4 y1_8 y2_8 nT num Xs Ys))) (Ys (own_nx nT (own_r4 y1_8 y2_8 nT num Xs Ys))) nT)), .val (.int (1 : Int32))] [(.int (0 : Int32)), (.int (own_r4 y1_8 y2_8 nT num Xs Ys)), (.ref w_numbers_o0_8)])) rfl rfl (hb hby d8_190)
            refine own_step (fun t k => st95 _ k) ?_
            have V95 : own_ArI Z h95 w_numbers_o0_8 nT (own_upd num (own_r4 y1_8 y2_8 nT num Xs Ys) (0 : Int32)) := own_ArI.set (v := (0 : Int32)) ⟨cl94, Ar94, S94, N94, G94⟩ hr94.1 Ar94 W95
            have K96 : Keep h0 h95 [w_numbers_o0_8, o0_8, w_xs_o0_8, w_ys_o0_8] := (Keep.refl h0 [w_numbers_o0_8, o0_8, w_xs_o0_8, w_ys_o0_8]).wr W95 (Or.inl (List.mem_of_getElem? (i := 0) rfl))
            have N97 := Fr.snoc X95 N28 g_w_numbers_o0_8
            refine own_step (fun t k => XS.aloadN X95.here hx rfl (hb hby d8_191) rfl rfl k) ?_
            refine own_step (fun t k => XS.dup X95.here hx rfl (hb hby d8_192) rfl rfl k) ?_
            show own_Ends p.tables e below s _ _ _ (T95.setTop (mkF m 193 #[.val (.ref o0_8), .val (.long y1_8), .second, .val (.long y2_8), .second, .val (.int (own_r4 y1_8 y2_8 nT num Xs Ys)), .val (.int (nT - (1 : Int32))), .val (.int (own_nx nT (own_nx nT (own_r4 y1_8 y2_8 nT num Xs Ys)))), .val (.int (own_h (Xs (own_nx nT (own_r4 y1_8 y2_8 nT num Xs Ys))) (Ys (own_nx nT (own_r4 y1_8 y2_8 nT num Xs Ys))) nT)), .val (.int (1 : Int32))] [(.ref o0_8), (.ref o0_8)]))
            have F98 : Fld Z h95 o0_8 "com/example/swanhall/swanhall/core/CellTable" "size" "I" (.int w_size_o0_8) := (F_size_o0_8.other W95 (Or.inl ne_o0_8_w_numbers_o0_8))
            obtain ⟨T99, X99, e99, st99⟩ := getF X95 hx hZ hown (host := "") (Or.inl (hw _ (List.mem_of_getElem? (i := 33) rfl))) Via.refl e95 F98 (g := (mkF m 193 #[.val (.ref o0_8), .val (.long y1_8), .second, .val (.long y2_8), .second, .val (.int (own_r4 y1_8 y2_8 nT num Xs Ys)), .val (.int (nT - (1 : Int32))), .val (.int (own_nx nT (own_nx nT (own_r4 y1_8 y2_8 nT num Xs Ys)))), .val (.int (own_h (Xs (own_nx nT (own_r4 y1_8 y2_8 nT num Xs Ys))) (Ys (own_nx nT (own_r4 y1_8 y2_8 nT num Xs Ys))) nT)), .val (.int (1 : Int32))] [(.ref o0_8), (.ref o0_8)])) rfl rfl (hb hby d8_193)
            refine own_step (fun t k => st99 _ k) ?_
            refine own_step (fun t k => XS.iconst X99.here hx rfl (hb hby d8_196) k) ?_
            refine own_step (fun t k => XS.isub X99.here hx rfl (hb hby d8_197) rfl k) ?_
            show own_Ends p.tables e below s _ _ _ (T99.setTop (mkF m 198 #[.val (.ref o0_8), .val (.long y1_8), .second, .val (.long y2_8), .second, .val (.int (own_r4 y1_8 y2_8 nT num Xs Ys)), .val (.int (nT - (1 : Int32))), .val (.int (own_nx nT (own_nx nT (own_r4 y1_8 y2_8 nT num Xs Ys)))), .val (.int (own_h (Xs (own_nx nT (own_r4 y1_8 y2_8 nT num Xs Ys))) (Ys (own_nx nT (own_r4 y1_8 y2_8 nT num Xs Ys))) nT)), .val (.int (1 : Int32))] [(.int (w_size_o0_8 - (1 : Int32))), (.ref o0_8)]))
            have F100 : Exa Z h95 o0_8 "com/example/swanhall/swanhall/core/CellTable" := (E_o0_8.wr W95)
            obtain ⟨T101, h101, X101, e101, W101, st101⟩ := putF X99 hx hZ hown (host := "") (Or.inl (hw _ (List.mem_of_getElem? (i := 33) rfl))) Via.refl e99 F98 F100 (Or.inl (hw _ (List.mem_of_getElem? (i := 34) rfl))) (hw _ (List.mem_of_getElem? (i := 2) rfl)) (ty := .int) (by decide) rfl rfl (g := (mkF m 198 #[.val (.ref o0_8), .val (.long y1_8), .second, .val (.long y2_8), .second, .val (.int (own_r4 y1_8 y2_8 nT num Xs Ys)), .val (.int (nT - (1 : Int32))), .val (.int (own_nx nT (own_nx nT (own_r4 y1_8 y2_8 nT num Xs Ys)))), .val (.int (own_h (Xs (own_nx nT (own_r4 y1_8 y2_8 nT num Xs Ys))) (Ys (own_nx nT (own_r4 y1_8 y2_8 nT num Xs Ys))) nT)), .val (.int (1 : Int32))] [(.int (w_size_o0_8 - (1 : Int32))), (.ref o0_8)])) rfl rfl (hb hby d8_198)
            refine own_step (fun t k => st101 _ k) ?_
            have F102 : Fld Z h101 o0_8 "com/example/swanhall/swanhall/core/CellTable" "size" "I" (.int (w_size_o0_8 - (1 : Int32))) := F98.same W101
            have K103 : Keep h0 h101 [w_numbers_o0_8, o0_8, w_xs_o0_8, w_ys_o0_8] := K96.wr W101 (Or.inl (List.mem_of_getElem? (i := 1) rfl))
            have N104 := Fr.snoc X101 N97 g_o0_8
            show own_Ends p.tables e below s _ _ _ (T101.setTop (mkF m 201 #[.val (.ref o0_8), .val (.long y1_8), .second, .val (.long y2_8), .second, .val (.int (own_r4 y1_8 y2_8 nT num Xs Ys)), .val (.int (nT - (1 : Int32))), .val (.int (own_nx nT (own_nx nT (own_r4 y1_8 y2_8 nT num Xs Ys)))), .val (.int (own_h (Xs (own_nx nT (own_r4 y1_8 y2_8 nT num Xs Ys))) (Ys (own_nx nT (own_r4 y1_8 y2_8 nT num Xs Ys))) nT)), .val (.int (1 : Int32))] []))
            have F232 : own_ArI Z h101 w_numbers_o0_8 nT (own_upd num (own_r4 y1_8 y2_8 nT num Xs Ys) (0 : Int32)) := (V95.other W101 (Ne.symm ne_o0_8_w_numbers_o0_8))
            have F233 : Fld Z h101 o0_8 "com/example/swanhall/swanhall/core/CellTable" "numbers" "[I" (.ref w_numbers_o0_8) := ((F_numbers_o0_8.other W95 (Or.inl ne_o0_8_w_numbers_o0_8)).other W101 (Or.inr (slot_ne (Or.inl (hw _ (List.mem_of_getElem? (i := 17) rfl))) (Or.inl (hw _ (List.mem_of_getElem? (i := 34) rfl))) (by decide) (t := (.array .int)) (t' := .int) (by decide) (by decide))))
            have F234 : Fld Z h101 o0_8 "com/example/swanhall/swanhall/core/CellTable" "xs" "[J" (.ref w_xs_o0_8) := ((F_xs_o0_8.other W95 (Or.inl ne_o0_8_w_numbers_o0_8)).other W101 (Or.inr (slot_ne (Or.inl (hw _ (List.mem_of_getElem? (i := 12) rfl))) (Or.inl (hw _ (List.mem_of_getElem? (i := 34) rfl))) (by decide) (t := (.array .long)) (t' := .int) (by decide) (by decide))))
            have F235 : Fld Z h101 o0_8 "com/example/swanhall/swanhall/core/CellTable" "ys" "[J" (.ref w_ys_o0_8) := ((F_ys_o0_8.other W95 (Or.inl ne_o0_8_w_numbers_o0_8)).other W101 (Or.inr (slot_ne (Or.inl (hw _ (List.mem_of_getElem? (i := 14) rfl))) (Or.inl (hw _ (List.mem_of_getElem? (i := 34) rfl))) (by decide) (t := (.array .long)) (t' := .int) (by decide) (by decide))))
            have F236 : Exa Z h101 o0_8 "com/example/swanhall/swanhall/core/CellTable" := (F100.wr W101)
            have F237 : own_ArJ Z h101 w_xs_o0_8 nT Xs := ((V_w_xs_o0_8.other W95 (Ne.symm ne_w_numbers_o0_8_w_xs_o0_8)).other W101 (Ne.symm ne_o0_8_w_xs_o0_8))
            have F238 : own_ArJ Z h101 w_ys_o0_8 nT Ys := ((V_w_ys_o0_8.other W95 (Ne.symm ne_w_numbers_o0_8_w_ys_o0_8)).other W101 (Ne.symm ne_o0_8_w_ys_o0_8))
            exact own_ret0 X101 hx Bd.returns (hb hby d8_201) hnl (by rw [e101]; exact ⟨rfl, N104, K103, (Eq.mpr (congrArg (fun z => own_ArI Z h101 w_numbers_o0_8 nT z) (show (own_p8_0 y1_8 y2_8 nT num Xs Ys) = (own_upd num (own_r4 y1_8 y2_8 nT num Xs Ys) (0 : Int32)) from by unfold own_p8_0; rw [if_neg hc15_5, if_neg hc44_10, if_pos hc71_29, if_neg hc100_30, if_neg hc107_46])) F232), F233, F234, F235, (Eq.mpr (congrArg (fun z => Fld Z h101 o0_8 "com/example/swanhall/swanhall/core/CellTable" "size" "I" (.int z)) (show (own_p8_1 y1_8 y2_8 nT num Xs Ys w_size_o0_8) = (w_size_o0_8 - (1 : Int32)) from by unfold own_p8_1; rw [if_neg hc15_5, if_neg hc44_10, if_pos hc71_29, if_neg hc100_30, if_neg hc107_46])) F102), F236, (Eq.mpr (congrArg (fun z => own_ArJ Z h101 w_xs_o0_8 nT z) (show (own_p8_2 y1_8 y2_8 nT num Xs Ys) = Xs from by unfold own_p8_2; rw [if_neg hc15_5, if_neg hc44_10, if_pos hc71_29, if_neg hc100_30, if_neg hc107_46])) F237), (Eq.mpr (congrArg (fun z => own_ArJ Z h101 w_ys_o0_8 nT z) (show (own_p8_3 y1_8 y2_8 nT num Xs Ys) = Ys from by unfold own_p8_3; rw [if_neg hc15_5, if_neg hc44_10, if_pos hc71_29, if_neg hc100_30, if_neg hc107_46])) F238)⟩) (by decide) (by decide)
      · skip
        refine own_step (fun t k => XS.icmpNo X27.here hx rfl (hb hby d8_71) rfl (flt hc71_29).2.2.1 k) ?_
        refine own_step (fun t k => XS.iload X27.here hx rfl (hb hby d8_74) rfl k) ?_
        refine own_step (fun t k => XS.iload X27.here hx rfl (hb hby d8_76) rfl k) ?_
        show own_Ends p.tables e below s _ _ _ (T27.setTop (mkF m 78 #[.val (.ref o0_8), .val (.long y1_8), .second, .val (.long y2_8), .second, .val (.int (own_r4 y1_8 y2_8 nT num Xs Ys)), .val (.int (nT - (1 : Int32))), .val (.int (own_nx nT (own_r4 y1_8 y2_8 nT num Xs Ys))), .val (.int (own_h (Xs (own_nx nT (own_r4 y1_8 y2_8 nT num Xs Ys))) (Ys (own_nx nT (own_r4 y1_8 y2_8 nT num Xs Ys))) nT)), .unset] [(.int (own_h (Xs (own_nx nT (own_r4 y1_8 y2_8 nT num Xs Ys))) (Ys (own_nx nT (own_r4 y1_8 y2_8 nT num Xs Ys))) nT)), (.int (own_r4 y1_8 y2_8 nT num Xs Ys))]))
        by_cases hc78_105 : (own_r4 y1_8 y2_8 nT num Xs Ys) < (own_h (Xs (own_nx nT (own_r4 y1_8 y2_8 nT num Xs Ys))) (Ys (own_nx nT (own_r4 y1_8 y2_8 nT num Xs Ys))) nT)
        · skip
          refine own_step (fun t k => XS.icmpNo X27.here hx rfl (hb hby d8_78) rfl (tlt hc78_105).2.1 k) ?_
          refine own_step (fun t k => XS.iload X27.here hx rfl (hb hby d8_81) rfl k) ?_
          refine own_step (fun t k => XS.iload X27.here hx rfl (hb hby d8_83) rfl k) ?_
          show own_Ends p.tables e below s _ _ _ (T27.setTop (mkF m 85 #[.val (.ref o0_8), .val (.long y1_8), .second, .val (.long y2_8), .second, .val (.int (own_r4 y1_8 y2_8 nT num Xs Ys)), .val (.int (nT - (1 : Int32))), .val (.int (own_nx nT (own_r4 y1_8 y2_8 nT num Xs Ys))), .val (.int (own_h (Xs (own_nx nT (own_r4 y1_8 y2_8 nT num Xs Ys))) (Ys (own_nx nT (own_r4 y1_8 y2_8 nT num Xs Ys))) nT)), .unset] [(.int (own_nx nT (own_r4 y1_8 y2_8 nT num Xs Ys))), (.int (own_h (Xs (own_nx nT (own_r4 y1_8 y2_8 nT num Xs Ys))) (Ys (own_nx nT (own_r4 y1_8 y2_8 nT num Xs Ys))) nT))]))
          by_cases hc85_106 : (own_nx nT (own_r4 y1_8 y2_8 nT num Xs Ys)) < (own_h (Xs (own_nx nT (own_r4 y1_8 y2_8 nT num Xs Ys))) (Ys (own_nx nT (own_r4 y1_8 y2_8 nT num Xs Ys))) nT)
          · skip
            refine own_step (fun t k => XS.icmpYes X27.here hx rfl (pc0 := 85) (pc' := 92) rfl (hb hby d8_85) rfl (tlt hc85_106).2.2.1 (by decide) (by decide) k) ?_
            refine own_step (fun t k => XS.iconst X27.here hx rfl (hb hby d8_92) k) ?_
            refine own_step (fun t k => XS.goto X27.here hx rfl (pc0 := 93) (pc' := 115) rfl (hb hby d8_93) (by decide) (by decide) k) ?_
            refine own_step (fun t k => XS.istore X27.here hx rfl (hb hby d8_115) rfl (l' := #[.val (.ref o0_8), .val (.long y1_8), .second, .val (.long y2_8), .second, .val (.int (own_r4 y1_8 y2_8 nT num Xs Ys)), .val (.int (nT - (1 : Int32))), .val (.int (own_nx nT (own_r4 y1_8 y2_8 nT num Xs Ys))), .val (.int (own_h (Xs (own_nx nT (own_r4 y1_8 y2_8 nT num Xs Ys))) (Ys (own_nx nT (own_r4 y1_8 y2_8 nT num Xs Ys))) nT)), .val (.int (0 : Int32))]) rfl k) ?_
            refine own_step (fun t k => XS.iload X27.here hx rfl (hb hby d8_117) rfl k) ?_
            show own_Ends p.tables e below s _ _ _ (T27.setTop (mkF m 119 #[.val (.ref o0_8), .val (.long y1_8), .second, .val (.long y2_8), .second, .val (.int (own_r4 y1_8 y2_8 nT num Xs Ys)), .val (.int (nT - (1 : Int32))), .val (.int (own_nx nT (own_r4 y1_8 y2_8 nT num Xs Ys))), .val (.int (own_h (Xs (own_nx nT (own_r4 y1_8 y2_8 nT num Xs Ys))) (Ys (own_nx nT (own_r4 y1_8 y2_8 nT num Xs Ys))) nT)), .val (.int (0 : Int32))] [(.int (0 : Int32))]))
            refine own_step (fun t k => XS.ifYes X27.here hx rfl (pc0 := 119) (pc' := 125) rfl (hb hby d8_119) rfl ((if0 _ _).trans (teq (by decide : (0 : Int32) = (0 : Int32))).1) (by decide) (by decide) k) ?_
            refine own_step (fun t k => XS.aloadN X27.here hx rfl (hb hby d8_125) rfl rfl k) ?_
            show own_Ends p.tables e below s _ _ _ (T27.setTop (mkF m 126 #[.val (.ref o0_8), .val (.long y1_8), .second, .val (.long y2_8), .second, .val (.int (own_r4 y1_8 y2_8 nT num Xs Ys)), .val (.int (nT - (1 : Int32))), .val (.int (own_nx nT (own_r4 y1_8 y2_8 nT num Xs Ys))), .val (.int (own_h (Xs (own_nx nT (own_r4 y1_8 y2_8 nT num Xs Ys))) (Ys (own_nx nT (own_r4 y1_8 y2_8 nT num Xs Ys))) nT)), .val (.int (0 : Int32))] [(.ref o0_8)]))
            obtain ⟨T107, X107, e107, st107⟩ := getF X27 hx hZ hown (host := "") (Or.inl (hw _ (List.mem_of_getElem? (i := 11) rfl))) Via.refl e27 F_xs_o0_8 (g := (mkF m 126 #[.val (.ref o0_8), .val (.long y1_8), .second, .val (.long y2_8), .second, .val (.int (own_r4 y1_8 y2_8 nT num Xs Ys)), .val (.int (nT - (1 : Int32))), .val (.int (own_nx nT (own_r4 y1_8 y2_8 nT num Xs Ys))), .val (.int (own_h (Xs (own_nx nT (own_r4 y1_8 y2_8 nT num Xs Ys))) (Ys (own_nx nT (own_r4 y1_8 y2_8 nT num Xs Ys))) nT)), .val (.int (0 : Int32))] [(.ref o0_8)])) rfl rfl (hb hby d8_126)
            refine own_step (fun t k => st107 _ k) ?_
            refine own_step (fun t k => XS.iload X107.here hx rfl (hb hby d8_129) rfl k) ?_
            refine own_step (fun t k => XS.aloadN X107.here hx rfl (hb hby d8_131) rfl rfl k) ?_
            show own_Ends p.tables e below s _ _ _ (T107.setTop (mkF m 132 #[.val (.ref o0_8), .val (.long y1_8), .second, .val (.long y2_8), .second, .val (.int (own_r4 y1_8 y2_8 nT num Xs Ys)), .val (.int (nT - (1 : Int32))), .val (.int (own_nx nT (own_r4 y1_8 y2_8 nT num Xs Ys))), .val (.int (own_h (Xs (own_nx nT (own_r4 y1_8 y2_8 nT num Xs Ys))) (Ys (own_nx nT (own_r4 y1_8 y2_8 nT num Xs Ys))) nT)), .val (.int (0 : Int32))] [(.ref o0_8), (.int (own_r4 y1_8 y2_8 nT num Xs Ys)), (.ref w_xs_o0_8)]))
            obtain ⟨T108, X108, e108, st108⟩ := getF X107 hx hZ hown (host := "") (Or.inl (hw _ (List.mem_of_getElem? (i := 11) rfl))) Via.refl e107 F_xs_o0_8 (g := (mkF m 132 #[.val (.ref o0_8), .val (.long y1_8), .second, .val (.long y2_8), .second, .val (.int (own_r4 y1_8 y2_8 nT num Xs Ys)), .val (.int (nT - (1 : Int32))), .val (.int (own_nx nT (own_r4 y1_8 y2_8 nT num Xs Ys))), .val (.int (own_h (Xs (own_nx nT (own_r4 y1_8 y2_8 nT num Xs Ys))) (Ys (own_nx nT (own_r4 y1_8 y2_8 nT num Xs Ys))) nT)), .val (.int (0 : Int32))] [(.ref o0_8), (.int (own_r4 y1_8 y2_8 nT num Xs Ys)), (.ref w_xs_o0_8)])) rfl rfl (hb hby d8_132)
            refine own_step (fun t k => st108 _ k) ?_
            refine own_step (fun t k => XS.iload X108.here hx rfl (hb hby d8_135) rfl k) ?_
            show own_Ends p.tables e below s _ _ _ (T108.setTop (mkF m 137 #[.val (.ref o0_8), .val (.long y1_8), .second, .val (.long y2_8), .second, .val (.int (own_r4 y1_8 y2_8 nT num Xs Ys)), .val (.int (nT - (1 : Int32))), .val (.int (own_nx nT (own_r4 y1_8 y2_8 nT num Xs Ys))), .val (.int (own_h (Xs (own_nx nT (own_r4 y1_8 y2_8 nT num Xs Ys))) (Ys (own_nx nT (own_r4 y1_8 y2_8 nT num Xs Ys))) nT)), .val (.int (0 : Int32))] [(.int (own_nx nT (own_r4 y1_8 y2_8 nT num Xs Ys))), (.ref w_xs_o0_8), (.int (own_r4 y1_8 y2_8 nT num Xs Ys)), (.ref w_xs_o0_8)]))
            obtain ⟨cl109, Ar109, S109, N109, G109⟩ := id V_w_xs_o0_8
            have hr109 : ¬ (own_nx nT (own_r4 y1_8 y2_8 nT num Xs Ys)) < 0 ∧ (own_nx nT (own_r4 y1_8 y2_8 nT num Xs Ys)) < nT := (own_rng _ _ hnT)
            have hin109 : ¬ ((own_nx nT (own_r4 y1_8 y2_8 nT num Xs Ys)) < 0 ∨ cl109.slots.size ≤ ((own_nx nT (own_r4 y1_8 y2_8 nT num Xs Ys))).toNatClampNeg) := inb_of S109 hr109
            have hat109 : cl109.slots[((own_nx nT (own_r4 y1_8 y2_8 nT num Xs Ys))).toNatClampNeg]? = some (.long (Xs (own_nx nT (own_r4 y1_8 y2_8 nT num Xs Ys)))) := G109 _ hr109.1 hr109.2
            refine own_step (fun t k => X108.laload hx (j := (own_nx nT (own_r4 y1_8 y2_8 nT num Xs Ys))) (v := (.long (Xs (own_nx nT (own_r4 y1_8 y2_8 nT num Xs Ys))))) (by rw [e108]; exact Ar109.1) (State.isArrayOf_alike hZ.alike Ar109.2.1) Ar109.2.2 hin109 hat109 (g := (mkF m 137 #[.val (.ref o0_8), .val (.long y1_8), .second, .val (.long y2_8), .second, .val (.int (own_r4 y1_8 y2_8 nT num Xs Ys)), .val (.int (nT - (1 : Int32))), .val (.int (own_nx nT (own_r4 y1_8 y2_8 nT num Xs Ys))), .val (.int (own_h (Xs (own_nx nT (own_r4 y1_8 y2_8 nT num Xs Ys))) (Ys (own_nx nT (own_r4 y1_8 y2_8 nT num Xs Ys))) nT)), .val (.int (0 : Int32))] [(.int (own_nx nT (own_r4 y1_8 y2_8 nT num Xs Ys))), (.ref w_xs_o0_8), (.int (own_r4 y1_8 y2_8 nT num Xs Ys)), (.ref w_xs_o0_8)])) rfl rfl (hb hby d8_137) _ k) ?_
            show own_Ends p.tables e below s _ _ _ (T108.setTop (mkF m 138 #[.val (.ref o0_8), .val (.long y1_8), .second, .val (.long y2_8), .second, .val (.int (own_r4 y1_8 y2_8 nT num Xs Ys)), .val (.int (nT - (1 : Int32))), .val (.int (own_nx nT (own_r4 y1_8 y2_8 nT num Xs Ys))), .val (.int (own_h (Xs (own_nx nT (own_r4 y1_8 y2_8 nT num Xs Ys))) (Ys (own_nx nT (own_r4 y1_8 y2_8 nT num Xs Ys))) nT)), .val (.int (0 : Int32))] [(.long (Xs (own_nx nT (own_r4 y1_8 y2_8 nT num Xs Ys)))), (.int (own_r4 y1_8 y2_8 nT num Xs Ys)), (.ref w_xs_o0_8)]))
            obtain ⟨cl110, Ar110, S110, N110, G110⟩ := id V_w_xs_o0_8
            have hr110 : ¬ (own_r4 y1_8 y2_8 nT num Xs Ys) < 0 ∧ (own_r4 y1_8 y2_8 nT num Xs Ys) < nT := (own_srng _ _ _ _ _ _ hnT)
            have hin110 : ¬ ((own_r4 y1_8 y2_8 nT num Xs Ys) < 0 ∨ cl110.slots.size ≤ ((own_r4 y1_8 y2_8 nT num Xs Ys)).toNatClampNeg) := inb_of S110 hr110
            obtain ⟨T111, h111, X111, e111, W111, st111⟩ := stJ X108 hx hZ e108 Ar110 (j := (own_r4 y1_8 y2_8 nT num Xs Ys)) hin110 (g := (mkF m 138 #[.val (.ref o0_8), .val (.long y1_8), .second, .val (.long y2_8), .second, .val (.int (own_r4 y1_8 y2_8 nT num Xs Ys)), .val (.int (nT - (1 : Int32))), .val (.int (own_nx nT (own_r4 y1_8 y2_8 nT num Xs Ys))), .val (.int (own_h (Xs (own_nx nT (own_r4 y1_8 y2_8 nT num Xs Ys))) (Ys (own_nx nT (own_r4 y1_8 y2_8 nT num Xs Ys))) nT)), .val (.int (0 : Int32))] [(.long (Xs (own_nx nT (own_r4 y1_8 y2_8 nT num Xs Ys)))), (.int (own_r4 y1_8 y2_8 nT num Xs Ys)), (.ref w_xs_o0_8)])) rfl rfl (hb hby d8_138)
            refine own_step (fun t k => st111 _ k) ?_
            have V111 : own_ArJ Z h111 w_xs_o0_8 nT (own_upd Xs (own_r4 y1_8 y2_8 nT num Xs Ys) (Xs (own_nx nT (own_r4 y1_8 y2_8 nT num Xs Ys)))) := own_ArJ.set (v := (Xs (own_nx nT (own_r4 y1_8 y2_8 nT num Xs Ys)))) ⟨cl110, Ar110, S110, N110, G110⟩ hr110.1 Ar110 W111
            have K112 : Keep h0 h111 [w_numbers_o0_8, o0_8, w_xs_o0_8, w_ys_o0_8] := (Keep.refl h0 [w_numbers_o0_8, o0_8, w_xs_o0_8, w_ys_o0_8]).wr W111 (Or.inl (List.mem_of_getElem? (i := 2) rfl))
            have N113 := Fr.snoc X111 N28 g_w_xs_o0_8
            refine own_step (fun t k => XS.aloadN X111.here hx rfl (hb hby d8_139) rfl rfl k) ?_
            show own_Ends p.tables e below s _ _ _ (T111.setTop (mkF m 140 #[.val (.ref o0_8), .val (.long y1_8), .second, .val (.long y2_8), .second, .val (.int (own_r4 y1_8 y2_8 nT num Xs Ys)), .val (.int (nT - (1 : Int32))), .val (.int (own_nx nT (own_r4 y1_8 y2_8 nT num Xs Ys))), .val (.int (own_h (Xs (own_nx nT (own_r4 y1_8 y2_8 nT num Xs Ys))) (Ys (own_nx nT (own_r4 y1_8 y2_8 nT num Xs Ys))) nT)), .val (.int (0 : Int32))] [(.ref o0_8)]))
            have F114 : Fld Z h111 o0_8 "com/example/swanhall/swanhall/core/CellTable" "ys" "[J" (.ref w_ys_o0_8) := (F_ys_o0_8.other W111 (Or.inl ne_o0_8_w_xs_o0_8))
            obtain ⟨T115, X115, e115, st115⟩ := getF X111 hx hZ hown (host := "") (Or.inl (hw _ (List.mem_of_getElem? (i := 13) rfl))) Via.refl e111 F114 (g := (mkF m 140 #[.val (.ref o0_8), .val (.long y1_8), .second, .val (.long y2_8), .second, .val (.int (own_r4 y1_8 y2_8 nT num Xs Ys)), .val (.int (nT - (1 : Int32))), .val (.int (own_nx nT (own_r4 y1_8 y2_8 nT num Xs Ys))), .val (.int (own_h (Xs (own_nx nT (own_r4 y1_8 y2_8 nT num Xs Ys))) (Ys (own_nx nT (own_r4 y1_8 y2_8 nT num Xs Ys))) nT)), .val (.int (0 : Int32))] [(.ref o0_8)])) rfl rfl (hb hby d8_140)
            refine own_step (fun t k => st115 _ k) ?_
            refine own_step (fun t k => XS.iload X115.here hx rfl (hb hby d8_143) rfl k) ?_
            refine own_step (fun t k => XS.aloadN X115.here hx rfl (hb hby d8_145) rfl rfl k) ?_
            show own_Ends p.tables e below s _ _ _ (T115.setTop (mkF m 146 #[.val (.ref o0_8), .val (.long y1_8), .second, .val (.long y2_8), .second, .val (.int (own_r4 y1_8 y2_8 nT num Xs Ys)), .val (.int (nT - (1 : Int32))), .val (.int (own_nx nT (own_r4 y1_8 y2_8 nT num Xs Ys))), .val (.int (own_h (Xs (own_nx nT (own_r4 y1_8 y2_8 nT num Xs Ys))) (Ys (own_nx nT (own_r4 y1_8 y2_8 nT num Xs Ys))) nT)), .val (.int (0 : Int32))] [(.ref o0_8), (.int (own_r4 y1_8 y2_8 nT num Xs Ys)), (.ref w_ys_o0_8)]))
            obtain ⟨T116, X116, e116, st116⟩ := getF X115 hx hZ hown (host := "") (Or.inl (hw _ (List.mem_of_getElem? (i := 13) rfl))) Via.refl e115 F114 (g := (mkF m 146 #[.val (.ref o0_8), .val (.long y1_8), .second, .val (.long y2_8), .second, .val (.int (own_r4 y1_8 y2_8 nT num Xs Ys)), .val (.int (nT - (1 : Int32))), .val (.int (own_nx nT (own_r4 y1_8 y2_8 nT num Xs Ys))), .val (.int (own_h (Xs (own_nx nT (own_r4 y1_8 y2_8 nT num Xs Ys))) (Ys (own_nx nT (own_r4 y1_8 y2_8 nT num Xs Ys))) nT)), .val (.int (0 : Int32))] [(.ref o0_8), (.int (own_r4 y1_8 y2_8 nT num Xs Ys)), (.ref w_ys_o0_8)])) rfl rfl (hb hby d8_146)
            refine own_step (fun t k => st116 _ k) ?_
            refine own_step (fun t k => XS.iload X116.here hx rfl (hb hby d8_149) rfl k) ?_
            show own_Ends p.tables e below s _ _ _ (T116.setTop (mkF m 151 #[.val (.ref o0_8), .val (.long y1_8), .second, .val (.long y2_8), .second, .val (.int (own_r4 y1_8 y2_8 nT num Xs Ys)), .val (.int (nT - (1 : Int32))), .val (.int (own_nx nT (own_r4 y1_8 y2_8 nT num Xs Ys))), .val (.int (own_h (Xs (own_nx nT (own_r4 y1_8 y2_8 nT num Xs Ys))) (Ys (own_nx nT (own_r4 y1_8 y2_8 nT num Xs Ys))) nT)), .val (.int (0 : Int32))] [(.int (own_nx nT (own_r4 y1_8 y2_8 nT num Xs Ys))), (.ref w_ys_o0_8), (.int (own_r4 y1_8 y2_8 nT num Xs Ys)), (.ref w_ys_o0_8)]))
            have F117 : own_ArJ Z h111 w_ys_o0_8 nT Ys := (V_w_ys_o0_8.other W111 ne_w_ys_o0_8_w_xs_o0_8)
            obtain ⟨cl118, Ar118, S118, N118, G118⟩ := id F117
            have hr118 : ¬ (own_nx nT (own_r4 y1_8 y2_8 nT num Xs Ys)) < 0 ∧ (own_nx nT (own_r4 y1_8 y2_8 nT num Xs Ys)) < nT := (own_rng _ _ hnT)
            have hin118 : ¬ ((own_nx nT (own_r4 y1_8 y2_8 nT num Xs Ys)) < 0 ∨ cl118.slots.size ≤ ((own_nx nT (own_r4 y1_8 y2_8 nT num Xs Ys))).toNatClampNeg) := inb_of S118 hr118
            have hat118 : cl118.slots[((own_nx nT (own_r4 y1_8 y2_8 nT num Xs Ys))).toNatClampNeg]? = some (.long (Ys (own_nx nT (own_r4 y1_8 y2_8 nT num Xs Ys)))) := G118 _ hr118.1 hr118.2
            refine own_step (fun t k => X116.laload hx (j := (own_nx nT (own_r4 y1_8 y2_8 nT num Xs Ys))) (v := (.long (Ys (own_nx nT (own_r4 y1_8 y2_8 nT num Xs Ys))))) (by rw [e116]; exact Ar118.1) (State.isArrayOf_alike hZ.alike Ar118.2.1) Ar118.2.2 hin118 hat118 (g := (mkF m 151 #[.val (.ref o0_8), .val (.long y1_8), .second, .val (.long y2_8), .second, .val (.int (own_r4 y1_8 y2_8 nT num Xs Ys)), .val (.int (nT - (1 : Int32))), .val (.int (own_nx nT (own_r4 y1_8 y2_8 nT num Xs Ys))), .val (.int (own_h (Xs (own_nx nT (own_r4 y1_8 y2_8 nT num Xs Ys))) (Ys (own_nx nT (own_r4 y1_8 y2_8 nT num Xs Ys))) nT)), .val (.int (0 : Int32))] [(.int (own_nx nT (own_r4 y1_8 y2_8 nT num Xs Ys))), (.ref w_ys_o0_8), (.int (own_r4 y1_8 y2_8 nT num Xs Ys)), (.ref w_ys_o0_8)])) rfl rfl (hb hby d8_151) _ k) ?_
            show own_Ends p.tables e below s _ _ _ (T116.setTop (mkF m 152 #[.val (.ref o0_8), .val (.long y1_8), .second, .val (.long y2_8), .second, .val (.int (own_r4 y1_8 y2_8 nT num Xs Ys)), .val (.int (nT - (1 : Int32))), .val (.int (own_nx nT (own_r4 y1_8 y2_8 nT num Xs Ys))), .val (.int (own_h (Xs (own_nx nT (own_r4 y1_8 y2_8 nT num Xs Ys))) (Ys (own_nx nT (own_r4 y1_8 y2_8 nT num Xs Ys))) nT)), .val (.int (0 : Int32))] [(.long (Ys (own_nx nT (own_r4 y1_8 y2_8 nT num Xs Ys)))), (.int (own_r4 y1_8 y2_8 nT num Xs Ys)), (.ref w_ys_o0_8)]))
            obtain ⟨cl119, Ar119, S119, N119, G119⟩ := id F117
            have hr119 : ¬ (own_r4 y1_8 y2_8 nT num Xs Ys) < 0 ∧ (own_r4 y1_8 y2_8 nT num Xs Ys) < nT := (own_srng _ _ _ _ _ _ hnT)
            have hin119 : ¬ ((own_r4 y1_8 y2_8 nT num Xs Ys) < 0 ∨ cl119.slots.size ≤ ((own_r4 y1_8 y2_8 nT num Xs Ys)).toNatClampNeg) := inb_of S119 hr119
            obtain ⟨T120, h120, X120, e120, W120, st120⟩ := stJ X116 hx hZ e116 Ar119 (j := (own_r4 y1_8 y2_8 nT num Xs Ys)) hin119 (g := (mkF m 152 #[.val (.ref o0_8), .val (.long y1_8), .second, .val (.long y2_8), .second, .val (.int (own_r4 y1_8 y2_8 nT num Xs Ys)), .val (.int (nT - (1 : Int32))), .val (.int (own_nx nT (own_r4 y1_8 y2_8 nT num Xs Ys))), .val (.int (own_h (Xs (own_nx nT (own_r4 y1_8 y2_8 nT num Xs Ys))) (Ys (own_nx nT (own_r4 y1_8 y2_8 nT num Xs Ys))) nT)), .val (.int (0 : Int32))] [(.long (Ys (own_nx nT (own_r4 y1_8 y2_8 nT num Xs Ys)))), (.int (own_r4 y1_8 y2_8 nT num Xs Ys)), (.ref w_ys_o0_8)])) rfl rfl (hb hby d8_152)
            refine own_step (fun t k => st120 _ k) ?_
            have V120 : own_ArJ Z h120 w_ys_o0_8 nT (own_upd Ys (own_r4 y1_8 y2_8 nT num Xs Ys) (Ys (own_nx nT (own_r4 y1_8 y2_8 nT num Xs Ys)))) := own_ArJ.set (v := (Ys (own_nx nT (own_r4 y1_8 y2_8 nT num Xs Ys)))) ⟨cl119, Ar119, S119, N119, G119⟩ hr119.1 Ar119 W120
            have K121 : Keep h0 h120 [w_numbers_o0_8, o0_8, w_xs_o0_8, w_ys_o0_8] := K112.wr W120 (Or.inl (List.mem_of_getElem? (i := 3) rfl))
            have N122 := Fr.snoc X120 N113 g_w_ys_o0_8
            refine own_step (fun t k => XS.aloadN X120.here hx rfl (hb hby d8_153) rfl rfl k) ?_
            show own_Ends p.tables e below s _ _ _ (T120.setTop (mkF m 154 #[.val (.ref o0_8), .val (.long y1_8), .second, .val (.long y2_8), .second, .val (.int (own_r4 y1_8 y2_8 nT num Xs Ys)), .val (.int (nT - (1 : Int32))), .val (.int (own_nx nT (own_r4 y1_8 y2_8 nT num Xs Ys))), .val (.int (own_h (Xs (own_nx nT (own_r4 y1_8 y2_8 nT num Xs Ys))) (Ys (own_nx nT (own_r4 y1_8 y2_8 nT num Xs Ys))) nT)), .val (.int (0 : Int32))] [(.ref o0_8)]))
            have F123 : Fld Z h120 o0_8 "com/example/swanhall/swanhall/core/CellTable" "numbers" "[I" (.ref w_numbers_o0_8) := ((F_numbers_o0_8.other W111 (Or.inl ne_o0_8_w_xs_o0_8)).other W120 (Or.inl ne_o0_8_w_ys_o0_8))
            obtain ⟨T124, X124, e124, st124⟩ := getF X120 hx hZ hown (host := "") (Or.inl (hw _ (List.mem_of_getElem? (i := 16) rfl))) Via.refl e120 F123 (g := (mkF m 154 #[.val (.ref o0_8), .val (.long y1_8), .second, .val (.long y2_8), .second, .val (.int (own_r4 y1_8 y2_8 nT num Xs Ys)), .val (.int (nT - (1 : Int32))), .val (.int (own_nx nT (own_r4 y1_8 y2_8 nT num Xs Ys))), .val (.int (own_h (Xs (own_nx nT (own_r4 y1_8 y2_8 nT num Xs Ys))) (Ys (own_nx nT (own_r4 y1_8 y2_8 nT num Xs Ys))) nT)), .val (.int (0 : Int32))] [(.ref o0_8)])) rfl rfl (hb hby d8_154)
            refine own_step (fun t k => st124 _ k) ?_
            refine own_step (fun t k => XS.iload X124.here hx rfl (hb hby d8_157) rfl k) ?_
            refine own_step (fun t k => XS.aloadN X124.here hx rfl (hb hby d8_159) rfl rfl k) ?_
            show own_Ends p.tables e below s _ _ _ (T124.setTop (mkF m 160 #[.val (.ref o0_8), .val (.long y1_8), .second, .val (.long y2_8), .second, .val (.int (own_r4 y1_8 y2_8 nT num Xs Ys)), .val (.int (nT - (1 : Int32))), .val (.int (own_nx nT (own_r4 y1_8 y2_8 nT num Xs Ys))), .val (.int (own_h (Xs (own_nx nT (own_r4 y1_8 y2_8 nT num Xs Ys))) (Ys (own_nx nT (own_r4 y1_8 y2_8 nT num Xs Ys))) nT)), .val (.int (0 : Int32))] [(.ref o0_8), (.int (own_r4 y1_8 y2_8 nT num Xs Ys)), (.ref w_numbers_o0_8)]))
            obtain ⟨T125, X125, e125, st125⟩ := getF X124 hx hZ hown (host := "") (Or.inl (hw _ (List.mem_of_getElem? (i := 16) rfl))) Via.refl e124 F123 (g := (mkF m 160 #[.val (.ref o0_8), .val (.long y1_8), .second, .val (.long y2_8), .second, .val (.int (own_r4 y1_8 y2_8 nT num Xs Ys)), .val (.int (nT - (1 : Int32))), .val (.int (own_nx nT (own_r4 y1_8 y2_8 nT num Xs Ys))), .val (.int (own_h (Xs (own_nx nT (own_r4 y1_8 y2_8 nT num Xs Ys))) (Ys (own_nx nT (own_r4 y1_8 y2_8 nT num Xs Ys))) nT)), .val (.int (0 : Int32))] [(.ref o0_8), (.int (own_r4 y1_8 y2_8 nT num Xs Ys)), (.ref w_numbers_o0_8)])) rfl rfl (hb hby d8_160)
            refine own_step (fun t k => st125 _ k) ?_
            refine own_step (fun t k => XS.iload X125.here hx rfl (hb hby d8_163) rfl k) ?_
            show own_Ends p.tables e below s _ _ _ (T125.setTop (mkF m 165 #[.val (.ref o0_8), .val (.long y1_8), .second, .val (.long y2_8), .second, .val (.int (own_r4 y1_8 y2_8 nT num Xs Ys)), .val (.int (nT - (1 : Int32))), .val (.int (own_nx nT (own_r4 y1_8 y2_8 nT num Xs Ys))), .val (.int (own_h (Xs (own_nx nT (own_r4 y1_8 y2_8 nT num Xs Ys))) (Ys (own_nx nT (own_r4 y1_8 y2_8 nT num Xs Ys))) nT)), .val (.int (0 : Int32))] [(.int (own_nx nT (own_r4 y1_8 y2_8 nT num Xs Ys))), (.ref w_numbers_o0_8), (.int (own_r4 y1_8 y2_8 nT num Xs Ys)), (.ref w_numbers_o0_8)]))
            have F126 : own_ArI Z h120 w_numbers_o0_8 nT num := ((V_w_numbers_o0_8.other W111 ne_w_numbers_o0_8_w_xs_o0_8).other W120 ne_w_numbers_o0_8_w_ys_o0_8)
            obtain ⟨cl127, Ar127, S127, N127, G127⟩ := id F126
            have hr127 : ¬ (own_nx nT (own_r4 y1_8 y2_8 nT num Xs Ys)) < 0 ∧ (own_nx nT (own_r4 y1_8 y2_8 nT num Xs Ys)) < nT := (own_rng _ _ hnT)
            have hin127 : ¬ ((own_nx nT (own_r4 y1_8 y2_8 nT num Xs Ys)) < 0 ∨ cl127.slots.size ≤ ((own_nx nT (own_r4 y1_8 y2_8 nT num Xs Ys))).toNatClampNeg) := inb_of S127 hr127
            have hat127 : cl127.slots[((own_nx nT (own_r4 y1_8 y2_8 nT num Xs Ys))).toNatClampNeg]? = some (.int (num (own_nx nT (own_r4 y1_8 y2_8 nT num Xs Ys)))) := G127 _ hr127.1 hr127.2
            refine own_step (fun t k => X125.iaload hx (j := (own_nx nT (own_r4 y1_8 y2_8 nT num Xs Ys))) (v := (.int (num (own_nx nT (own_r4 y1_8 y2_8 nT num Xs Ys))))) (by rw [e125]; exact Ar127.1) (State.isArrayOf_alike hZ.alike Ar127.2.1) Ar127.2.2 hin127 hat127 (g := (mkF m 165 #[.val (.ref o0_8), .val (.long y1_8), .second, .val (.long y2_8), .second, .val (.int (own_r4 y1_8 y2_8 nT num Xs Ys)), .val (.int (nT - (1 : Int32))), .val (.int (own_nx nT (own_r4 y1_8 y2_8 nT num Xs Ys))), .val (.int (own_h (Xs (own_nx nT (own_r4 y1_8 y2_8 nT num Xs Ys))) (Ys (own_nx nT (own_r4 y1_8 y2_8 nT num Xs Ys))) nT)), .val (.int (0 : Int32))] [(.int (own_nx nT (own_r4 y1_8 y2_8 nT num Xs Ys))), (.ref w_numbers_o0_8), (.int (own_r4 y1_8 y2_8 nT num Xs Ys)), (.ref w_numbers_o0_8)])) rfl rfl (hb hby d8_165) _ k) ?_
            show own_Ends p.tables e below s _ _ _ (T125.setTop (mkF m 166 #[.val (.ref o0_8), .val (.long y1_8), .second, .val (.long y2_8), .second, .val (.int (own_r4 y1_8 y2_8 nT num Xs Ys)), .val (.int (nT - (1 : Int32))), .val (.int (own_nx nT (own_r4 y1_8 y2_8 nT num Xs Ys))), .val (.int (own_h (Xs (own_nx nT (own_r4 y1_8 y2_8 nT num Xs Ys))) (Ys (own_nx nT (own_r4 y1_8 y2_8 nT num Xs Ys))) nT)), .val (.int (0 : Int32))] [(.int (num (own_nx nT (own_r4 y1_8 y2_8 nT num Xs Ys)))), (.int (own_r4 y1_8 y2_8 nT num Xs Ys)), (.ref w_numbers_o0_8)]))
            obtain ⟨cl128, Ar128, S128, N128, G128⟩ := id F126
            have hr128 : ¬ (own_r4 y1_8 y2_8 nT num Xs Ys) < 0 ∧ (own_r4 y1_8 y2_8 nT num Xs Ys) < nT := (own_srng _ _ _ _ _ _ hnT)
            have hin128 : ¬ ((own_r4 y1_8 y2_8 nT num Xs Ys) < 0 ∨ cl128.slots.size ≤ ((own_r4 y1_8 y2_8 nT num Xs Ys)).toNatClampNeg) := inb_of S128 hr128
            obtain ⟨T129, h129, X129, e129, W129, st129⟩ := stI X125 hx hZ e125 Ar128 (j := (own_r4 y1_8 y2_8 nT num Xs Ys)) hin128 (g := (mkF m 166 #[.val (.ref o0_8), .val (.long y1_8), .second, .val (.long y2_8), .second, .val (.int (own_r4 y1_8 y2_8 nT num Xs Ys)), .val (.int (nT - (1 : Int32))), .val (.int (own_nx nT (own_r4 y1_8 y2_8 nT num Xs Ys))), .val (.int (own_h (Xs (own_nx nT (own_r4 y1_8 y2_8 nT num Xs Ys))) (Ys (own_nx nT (own_r4 y1_8 y2_8 nT num Xs Ys))) nT)), .val (.int (0 : Int32))] [(.int (num (own_nx nT (own_r4 y1_8 y2_8 nT num Xs Ys)))), (.int (own_r4 y1_8 y2_8 nT num Xs Ys)), (.ref w_numbers_o0_8)])) rfl rfl (hb hby d8_166)
            refine own_step (fun t k => st129 _ k) ?_
            have V129 : own_ArI Z h129 w_numbers_o0_8 nT (own_upd num (own_r4 y1_8 y2_8 nT num Xs Ys) (num (own_nx nT (own_r4 y1_8 y2_8 nT num Xs Ys)))) := own_ArI.set (v := (num (own_nx nT (own_r4 y1_8 y2_8 nT num Xs Ys)))) ⟨cl128, Ar128, S128, N128, G128⟩ hr128.1 Ar128 W129
            have K130 : Keep h0 h129 [w_numbers_o0_8, o0_8, w_xs_o0_8, w_ys_o0_8] := K121.wr W129 (Or.inl (List.mem_of_getElem? (i := 0) rfl))
            have N131 := Fr.snoc X129 N122 g_w_numbers_o0_8
            refine own_step (fun t k => XS.iload X129.here hx rfl (hb hby d8_167) rfl k) ?_
            refine own_step (fun t k => XS.istore X129.here hx rfl (hb hby d8_169) rfl (l' := #[.val (.ref o0_8), .val (.long y1_8), .second, .val (.long y2_8), .second, .val (.int (own_nx nT (own_r4 y1_8 y2_8 nT num Xs Ys))), .val (.int (nT - (1 : Int32))), .val (.int (own_nx nT (own_r4 y1_8 y2_8 nT num Xs Ys))), .val (.int (own_h (Xs (own_nx nT (own_r4 y1_8 y2_8 nT num Xs Ys))) (Ys (own_nx nT (own_r4 y1_8 y2_8 nT num Xs Ys))) nT)), .val (.int (0 : Int32))]) rfl k) ?_
            refine own_step (fun t k => XS.iload X129.here hx rfl (hb hby d8_171) rfl k) ?_
            refine own_step (fun t k => XS.iconst X129.here hx rfl (hb hby d8_173) k) ?_
            refine own_step (fun t k => XS.iadd X129.here hx rfl (hb hby d8_174) rfl k) ?_
            refine own_step (fun t k => XS.iload X129.here hx rfl (hb hby d8_175) rfl k) ?_
            show own_Ends p.tables e below s _ _ _ (T129.setTop (mkF m 177 #[.val (.ref o0_8), .val (.long y1_8), .second, .val (.long y2_8), .second, .val (.int (own_nx nT (own_r4 y1_8 y2_8 nT num Xs Ys))), .val (.int (nT - (1 : Int32))), .val (.int (own_nx nT (own_r4 y1_8 y2_8 nT num Xs Ys))), .val (.int (own_h (Xs (own_nx nT (own_r4 y1_8 y2_8 nT num Xs Ys))) (Ys (own_nx nT (own_r4 y1_8 y2_8 nT num Xs Ys))) nT)), .val (.int (0 : Int32))] [(.int (nT - (1 : Int32))), (.int ((own_nx nT (own_r4 y1_8 y2_8 nT num Xs Ys)) + (1 : Int32)))]))
            refine own_step (fun t k => XS.iand X129.here hx rfl (hb hby d8_177) rfl k) ?_
            refine own_step (fun t k => XS.istore X129.here hx rfl (hb hby d8_178) rfl (l' := #[.val (.ref o0_8), .val (.long y1_8), .second, .val (.long y2_8), .second, .val (.int (own_nx nT (own_r4 y1_8 y2_8 nT num Xs Ys))), .val (.int (nT - (1 : Int32))), .val (.int (own_nx nT (own_nx nT (own_r4 y1_8 y2_8 nT num Xs Ys)))), .val (.int (own_h (Xs (own_nx nT (own_r4 y1_8 y2_8 nT num Xs Ys))) (Ys (own_nx nT (own_r4 y1_8 y2_8 nT num Xs Ys))) nT)), .val (.int (0 : Int32))]) rfl k) ?_
            refine own_step (fun t k => XS.goto X129.here hx rfl (pc0 := 180) (pc' := 37) rfl (hb hby d8_180) (by decide) (by decide) k) ?_
            refine own_step (fun t k => XS.aloadN X129.here hx rfl (hb hby d8_37) rfl rfl k) ?_
            show own_Ends p.tables e below s _ _ _ (T129.setTop (mkF m 38 #[.val (.ref o0_8), .val (.long y1_8), .second, .val (.long y2_8), .second, .val (.int (own_nx nT (own_r4 y1_8 y2_8 nT num Xs Ys))), .val (.int (nT - (1 : Int32))), .val (.int (own_nx nT (own_nx nT (own_r4 y1_8 y2_8 nT num Xs Ys)))), .val (.int (own_h (Xs (own_nx nT (own_r4 y1_8 y2_8 nT num Xs Ys))) (Ys (own_nx nT (own_r4 y1_8 y2_8 nT num Xs Ys))) nT)), .val (.int (0 : Int32))] [(.ref o0_8)]))
            have F132 : Fld Z h129 o0_8 "com/example/swanhall/swanhall/core/CellTable" "numbers" "[I" (.ref w_numbers_o0_8) := (F123.other W129 (Or.inl ne_o0_8_w_numbers_o0_8))
            obtain ⟨T133, X133, e133, st133⟩ := getF X129 hx hZ hown (host := "") (Or.inl (hw _ (List.mem_of_getElem? (i := 16) rfl))) Via.refl e129 F132 (g := (mkF m 38 #[.val (.ref o0_8), .val (.long y1_8), .second, .val (.long y2_8), .second, .val (.int (own_nx nT (own_r4 y1_8 y2_8 nT num Xs Ys))), .val (.int (nT - (1 : Int32))), .val (.int (own_nx nT (own_nx nT (own_r4 y1_8 y2_8 nT num Xs Ys)))), .val (.int (own_h (Xs (own_nx nT (own_r4 y1_8 y2_8 nT num Xs Ys))) (Ys (own_nx nT (own_r4 y1_8 y2_8 nT num Xs Ys))) nT)), .val (.int (0 : Int32))] [(.ref o0_8)])) rfl rfl (hb hby d8_38)
            refine own_step (fun t k => st133 _ k) ?_
            refine own_step (fun t k => XS.iload X133.here hx rfl (hb hby d8_41) rfl k) ?_
            show own_Ends p.tables e below s _ _ _ (T133.setTop (mkF m 43 #[.val (.ref o0_8), .val (.long y1_8), .second, .val (.long y2_8), .second, .val (.int (own_nx nT (own_r4 y1_8 y2_8 nT num Xs Ys))), .val (.int (nT - (1 : Int32))), .val (.int (own_nx nT (own_nx nT (own_r4 y1_8 y2_8 nT num Xs Ys)))), .val (.int (own_h (Xs (own_nx nT (own_r4 y1_8 y2_8 nT num Xs Ys))) (Ys (own_nx nT (own_r4 y1_8 y2_8 nT num Xs Ys))) nT)), .val (.int (0 : Int32))] [(.int (own_nx nT (own_nx nT (own_r4 y1_8 y2_8 nT num Xs Ys)))), (.ref w_numbers_o0_8)]))
            obtain ⟨cl134, Ar134, S134, N134, G134⟩ := id V129
            have hr134 : ¬ (own_nx nT (own_nx nT (own_r4 y1_8 y2_8 nT num Xs Ys))) < 0 ∧ (own_nx nT (own_nx nT (own_r4 y1_8 y2_8 nT num Xs Ys))) < nT := (own_rng _ _ hnT)
            have hin134 : ¬ ((own_nx nT (own_nx nT (own_r4 y1_8 y2_8 nT num Xs Ys))) < 0 ∨ cl134.slots.size ≤ ((own_nx nT (own_nx nT (own_r4 y1_8 y2_8 nT num Xs Ys)))).toNatClampNeg) := inb_of S134 hr134
            have hat134 : cl134.slots[((own_nx nT (own_nx nT (own_r4 y1_8 y2_8 nT num Xs Ys)))).toNatClampNeg]? = some (.int ((own_upd num (own_r4 y1_8 y2_8 nT num Xs Ys) (num (own_nx nT (own_r4 y1_8 y2_8 nT num Xs Ys)))) (own_nx nT (own_nx nT (own_r4 y1_8 y2_8 nT num Xs Ys))))) := G134 _ hr134.1 hr134.2
            refine own_step (fun t k => X133.iaload hx (j := (own_nx nT (own_nx nT (own_r4 y1_8 y2_8 nT num Xs Ys)))) (v := (.int ((own_upd num (own_r4 y1_8 y2_8 nT num Xs Ys) (num (own_nx nT (own_r4 y1_8 y2_8 nT num Xs Ys)))) (own_nx nT (own_nx nT (own_r4 y1_8 y2_8 nT num Xs Ys)))))) (by rw [e133]; exact Ar134.1) (State.isArrayOf_alike hZ.alike Ar134.2.1) Ar134.2.2 hin134 hat134 (g := (mkF m 43 #[.val (.ref o0_8), .val (.long y1_8), .second, .val (.long y2_8), .second, .val (.int (own_nx nT (own_r4 y1_8 y2_8 nT num Xs Ys))), .val (.int (nT - (1 : Int32))), .val (.int (own_nx nT (own_nx nT (own_r4 y1_8 y2_8 nT num Xs Ys)))), .val (.int (own_h (Xs (own_nx nT (own_r4 y1_8 y2_8 nT num Xs Ys))) (Ys (own_nx nT (own_r4 y1_8 y2_8 nT num Xs Ys))) nT)), .val (.int (0 : Int32))] [(.int (own_nx nT (own_nx nT (own_r4 y1_8 y2_8 nT num Xs Ys)))), (.ref w_numbers_o0_8)])) rfl rfl (hb hby d8_43) _ k) ?_
            show own_Ends p.tables e below s _ _ _ (T133.setTop (mkF m 44 #[.val (.ref o0_8), .val (.long y1_8), .second, .val (.long y2_8), .second, .val (.int (own_nx nT (own_r4 y1_8 y2_8 nT num Xs Ys))), .val (.int (nT - (1 : Int32))), .val (.int (own_nx nT (own_nx nT (own_r4 y1_8 y2_8 nT num Xs Ys)))), .val (.int (own_h (Xs (own_nx nT (own_r4 y1_8 y2_8 nT num Xs Ys))) (Ys (own_nx nT (own_r4 y1_8 y2_8 nT num Xs Ys))) nT)), .val (.int (0 : Int32))] [(.int ((own_upd num (own_r4 y1_8 y2_8 nT num Xs Ys) (num (own_nx nT (own_r4 y1_8 y2_8 nT num Xs Ys)))) (own_nx nT (own_nx nT (own_r4 y1_8 y2_8 nT num Xs Ys)))))]))
            have hc135 : ((own_upd num (own_r4 y1_8 y2_8 nT num Xs Ys) (num (own_nx nT (own_r4 y1_8 y2_8 nT num Xs Ys)))) (own_nx nT (own_nx nT (own_r4 y1_8 y2_8 nT num Xs Ys)))) = (0 : Int32) := ((own_upd_ne (hn2 _ (own_srng _ _ _ _ _ _ hnT).1 (own_srng _ _ _ _ _ _ hnT).2)).trans (hst _ hc15_5 hc44_10))
            refine own_step (fun t k => XS.ifYes X133.here hx rfl (pc0 := 44) (pc' := 183) rfl (hb hby d8_44) rfl ((if0 _ _).trans (teq hc135).1) (by decide) (by decide) k) ?_
            refine own_step (fun t k => XS.aloadN X133.here hx rfl (hb hby d8_183) rfl rfl k) ?_
            show own_Ends p.tables e below s _ _ _ (T133.setTop (mkF m 184 #[.val (.ref o0_8), .val (.long y1_8), .second, .val (.long y2_8), .second, .val (.int (own_nx nT (own_r4 y1_8 y2_8 nT num Xs Ys))), .val (.int (nT - (1 : Int32))), .val (.int (own_nx nT (own_nx nT (own_r4 y1_8 y2_8 nT num Xs Ys)))), .val (.int (own_h (Xs (own_nx nT (own_r4 y1_8 y2_8 nT num Xs Ys))) (Ys (own_nx nT (own_r4 y1_8 y2_8 nT num Xs Ys))) nT)), .val (.int (0 : Int32))] [(.ref o0_8)]))
            obtain ⟨T136, X136, e136, st136⟩ := getF X133 hx hZ hown (host := "") (Or.inl (hw _ (List.mem_of_getElem? (i := 16) rfl))) Via.refl e133 F132 (g := (mkF m 184 #[.val (.ref o0_8), .val (.long y1_8), .second, .val (.long y2_8), .second, .val (.int (own_nx nT (own_r4 y1_8 y2_8 nT num Xs Ys))), .val (.int (nT - (1 : Int32))), .val (.int (own_nx nT (own_nx nT (own_r4 y1_8 y2_8 nT num Xs Ys)))), .val (.int (own_h (Xs (own_nx nT (own_r4 y1_8 y2_8 nT num Xs Ys))) (Ys (own_nx nT (own_r4 y1_8 y2_8 nT num Xs Ys))) nT)), .val (.int (0 : Int32))] [(.ref o0_8)])) rfl rfl (hb hby d8_184)
            refine own_step (fun t k => st136 _ k) ?_
            refine own_step (fun t k => XS.iload X136.here hx rfl (hb hby d8_187) rfl k) ?_
            refine own_step (fun t k => XS.iconst X136.here hx rfl (hb hby d8_189) k) ?_
            show own_Ends p.tables e below s _ _ _ (T136.setTop (mkF m 190 #[.val (.ref o0_8), .val (.long y1_8), .second, .val (.long y2_8), .second, .val (.int (own_nx nT (own_r4 y1_8 y2_8 nT num Xs Ys))), .val (.int (nT - (1 : Int32))), .val (.int (own_nx nT (own_nx nT (own_r4 y1_8 y2_8 nT num Xs Ys)))), .val (.int (own_h (Xs (own_nx nT (own_r4 y1_8 y2_8 nT num Xs Ys))) (Ys (own_nx nT (own_r4 y1_8 y2_8 nT num Xs Ys))) nT)), .val (.int (0 : Int32))] [(.int (0 : Int32)), (.int (own_nx nT (own_r4 y1_8 y2_8 nT num Xs Ys))), (.ref w_numbers_o0_8)]))
            obtain ⟨cl137, Ar137, S137, N137, G137⟩ := id V129
            have hr137 : ¬ (own_nx nT (own_r4 y1_8 y2_8 nT num Xs Ys)) < 0 ∧ (own_nx nT (own_r4 y1_8 y2_8 nT num Xs Ys)) < nT := (own_rng _ _ hnT)
            have hin137 : ¬ ((own_nx nT (own_r4 y1_8 y2_8 nT num Xs Ys)) < 0 ∨ cl137.slots.size ≤ ((own_nx nT (own_r4 y1_8 y2_8 nT num Xs Ys))).toNatClampNeg) := inb_of S137 hr137
            obtain ⟨T138, h138, X138, e138, W138, st138⟩ := stI X136 hx hZ e136 Ar137 (j := (own_nx nT (own_r4 y1_8 y2_8 nT num Xs Ys))) hin137 (g := (mkF m 190 #[.val (.ref o0_8), .val (.long y1_8), .second, .val (.long y2_8), .second, .val (.int (own_nx nT (own_r4 y1_8 y2_8 nT num Xs Ys))), .val (.int (nT - (1 : Int32))), .val (.int (own_nx nT (own_nx nT (own_r4 y1_8 y2_8 nT num Xs Ys)))), .val (.int (own_h (Xs (own_nx nT (own_r4 y1_8 y2_8 nT num Xs Ys))) (Ys (own_nx nT (own_r4 y1_8 y2_8 nT num Xs Ys))) nT)), .val (.int (0 : Int32))] [(.int (0 : Int32)), (.int (own_nx nT (own_r4 y1_8 y2_8 nT num Xs Ys))), (.ref w_numbers_o0_8)])) rfl rfl (hb hby d8_190)
            refine own_step (fun t k => st138 _ k) ?_
            have V138 : own_ArI Z h138 w_numbers_o0_8 nT (own_upd (own_upd num (own_r4 y1_8 y2_8 nT num Xs Ys) (num (own_nx nT (own_r4 y1_8 y2_8 nT num Xs Ys)))) (own_nx nT (own_r4 y1_8 y2_8 nT num Xs Ys)) (0 : Int32)) := own_ArI.set (v := (0 : Int32)) ⟨cl137, Ar137, S137, N137, G137⟩ hr137.1 Ar137 W138
            have K139 : Keep h0 h138 [w_numbers_o0_8, o0_8, w_xs_o0_8, w_ys_o0_8] := K130.wr W138 (Or.inl (List.mem_of_getElem? (i := 0) rfl))
            have N140 := Fr.snoc X138 N131 g_w_numbers_o0_8
            refine own_step (fun t k => XS.aloadN X138.here hx rfl (hb hby d8_191) rfl rfl k) ?_
            refine own_step (fun t k => XS.dup X138.here hx rfl (hb hby d8_192) rfl rfl k) ?_
            show own_Ends p.tables e below s _ _ _ (T138.setTop (mkF m 193 #[.val (.ref o0_8), .val (.long y1_8), .second, .val (.long y2_8), .second, .val (.int (own_nx nT (own_r4 y1_8 y2_8 nT num Xs Ys))), .val (.int (nT - (1 : Int32))), .val (.int (own_nx nT (own_nx nT (own_r4 y1_8 y2_8 nT num Xs Ys)))), .val (.int (own_h (Xs (own_nx nT (own_r4 y1_8 y2_8 nT num Xs Ys))) (Ys (own_nx nT (own_r4 y1_8 y2_8 nT num Xs Ys))) nT)), .val (.int (0 : Int32))] [(.ref o0_8), (.ref o0_8)]))
            have F141 : Fld Z h129 o0_8 "com/example/swanhall/swanhall/core/CellTable" "size" "I" (.int w_size_o0_8) := (((F_size_o0_8.other W111 (Or.inl ne_o0_8_w_xs_o0_8)).other W120 (Or.inl ne_o0_8_w_ys_o0_8)).other W129 (Or.inl ne_o0_8_w_numbers_o0_8))
            have F142 : Fld Z h138 o0_8 "com/example/swanhall/swanhall/core/CellTable" "size" "I" (.int w_size_o0_8) := (F141.other W138 (Or.inl ne_o0_8_w_numbers_o0_8))
            obtain ⟨T143, X143, e143, st143⟩ := getF X138 hx hZ hown (host := "") (Or.inl (hw _ (List.mem_of_getElem? (i := 33) rfl))) Via.refl e138 F142 (g := (mkF m 193 #[.val (.ref o0_8), .val (.long y1_8), .second, .val (.long y2_8), .second, .val (.int (own_nx nT (own_r4 y1_8 y2_8 nT num Xs Ys))), .val (.int (nT - (1 : Int32))), .val (.int (own_nx nT (own_nx nT (own_r4 y1_8 y2_8 nT num Xs Ys)))), .val (.int (own_h (Xs (own_nx nT (own_r4 y1_8 y2_8 nT num Xs Ys))) (Ys (own_nx nT (own_r4 y1_8 y2_8 nT num Xs Ys))) nT)), .val (.int (0 : Int32))] [(.ref o0_8), (.ref o0_8)])) rfl rfl (hb hby d8_193)
            refine own_step (fun t k => st143 _ k) ?_
            refine own_step (fun t k => XS.iconst X143.here hx rfl (hb hby d8_196) k) ?_
            refine own_step (fun t k => XS.isub X143.here hx rfl (hb hby d8_197) rfl k) ?_
            show own_Ends p.tables e below s _ _ _ (T143.setTop (mkF m 198 #[.val (.ref o0_8), .val (.long y1_8), .second, .val (.long y2_8), .second, .val (.int (own_nx nT (own_r4 y1_8 y2_8 nT num Xs Ys))), .val (.int (nT - (1 : Int32))), .val (.int (own_nx nT (own_nx nT (own_r4 y1_8 y2_8 nT num Xs Ys)))), .val (.int (own_h (Xs (own_nx nT (own_r4 y1_8 y2_8 nT num Xs Ys))) (Ys (own_nx nT (own_r4 y1_8 y2_8 nT num Xs Ys))) nT)), .val (.int (0 : Int32))] [(.int (w_size_o0_8 - (1 : Int32))), (.ref o0_8)]))
            have F144 : Exa Z h129 o0_8 "com/example/swanhall/swanhall/core/CellTable" := (((E_o0_8.wr W111).wr W120).wr W129)
            have F145 : Exa Z h138 o0_8 "com/example/swanhall/swanhall/core/CellTable" := (F144.wr W138)
            obtain ⟨T146, h146, X146, e146, W146, st146⟩ := putF X143 hx hZ hown (host := "") (Or.inl (hw _ (List.mem_of_getElem? (i := 33) rfl))) Via.refl e143 F142 F145 (Or.inl (hw _ (List.mem_of_getElem? (i := 34) rfl))) (hw _ (List.mem_of_getElem? (i := 2) rfl)) (ty := .int) (by decide) rfl rfl (g := (mkF m 198 #[.val (.ref o0_8), .val (.long y1_8), .second, .val (.long y2_8), .second, .val (.int (own_nx nT (own_r4 y1_8 y2_8 nT num Xs Ys))), .val (.int (nT - (1 : Int32))), .val (.int (own_nx nT (own_nx nT (own_r4 y1_8 y2_8 nT num Xs Ys)))), .val (.int (own_h (Xs (own_nx nT (own_r4 y1_8 y2_8 nT num Xs Ys))) (Ys (own_nx nT (own_r4 y1_8 y2_8 nT num Xs Ys))) nT)), .val (.int (0 : Int32))] [(.int (w_size_o0_8 - (1 : Int32))), (.ref o0_8)])) rfl rfl (hb hby d8_198)
            refine own_step (fun t k => st146 _ k) ?_
            have F147 : Fld Z h146 o0_8 "com/example/swanhall/swanhall/core/CellTable" "size" "I" (.int (w_size_o0_8 - (1 : Int32))) := F142.same W146
            have K148 : Keep h0 h146 [w_numbers_o0_8, o0_8, w_xs_o0_8, w_ys_o0_8] := K139.wr W146 (Or.inl (List.mem_of_getElem? (i := 1) rfl))
            have N149 := Fr.snoc X146 N140 g_o0_8
            show own_Ends p.tables e below s _ _ _ (T146.setTop (mkF m 201 #[.val (.ref o0_8), .val (.long y1_8), .second, .val (.long y2_8), .second, .val (.int (own_nx nT (own_r4 y1_8 y2_8 nT num Xs Ys))), .val (.int (nT - (1 : Int32))), .val (.int (own_nx nT (own_nx nT (own_r4 y1_8 y2_8 nT num Xs Ys)))), .val (.int (own_h (Xs (own_nx nT (own_r4 y1_8 y2_8 nT num Xs Ys))) (Ys (own_nx nT (own_r4 y1_8 y2_8 nT num Xs Ys))) nT)), .val (.int (0 : Int32))] []))
            have F239 : own_ArI Z h146 w_numbers_o0_8 nT (own_upd (own_upd num (own_r4 y1_8 y2_8 nT num Xs Ys) (num (own_nx nT (own_r4 y1_8 y2_8 nT num Xs Ys)))) (own_nx nT (own_r4 y1_8 y2_8 nT num Xs Ys)) (0 : Int32)) := (V138.other W146 (Ne.symm ne_o0_8_w_numbers_o0_8))
            have F240 : Fld Z h146 o0_8 "com/example/swanhall/swanhall/core/CellTable" "numbers" "[I" (.ref w_numbers_o0_8) := ((F132.other W138 (Or.inl ne_o0_8_w_numbers_o0_8)).other W146 (Or.inr (slot_ne (Or.inl (hw _ (List.mem_of_getElem? (i := 17) rfl))) (Or.inl (hw _ (List.mem_of_getElem? (i := 34) rfl))) (by decide) (t := (.array .int)) (t' := .int) (by decide) (by decide))))
            have F241 : Fld Z h129 o0_8 "com/example/swanhall/swanhall/core/CellTable" "xs" "[J" (.ref w_xs_o0_8) := (((F_xs_o0_8.other W111 (Or.inl ne_o0_8_w_xs_o0_8)).other W120 (Or.inl ne_o0_8_w_ys_o0_8)).other W129 (Or.inl ne_o0_8_w_numbers_o0_8))
            have F242 : Fld Z h146 o0_8 "com/example/swanhall/swanhall/core/CellTable" "xs" "[J" (.ref w_xs_o0_8) := ((F241.other W138 (Or.inl ne_o0_8_w_numbers_o0_8)).other W146 (Or.inr (slot_ne (Or.inl (hw _ (List.mem_of_getElem? (i := 12) rfl))) (Or.inl (hw _ (List.mem_of_getElem? (i := 34) rfl))) (by decide) (t := (.array .long)) (t' := .int) (by decide) (by decide))))
            have F243 : Fld Z h138 o0_8 "com/example/swanhall/swanhall/core/CellTable" "ys" "[J" (.ref w_ys_o0_8) := (((F114.other W120 (Or.inl ne_o0_8_w_ys_o0_8)).other W129 (Or.inl ne_o0_8_w_numbers_o0_8)).other W138 (Or.inl ne_o0_8_w_numbers_o0_8))
            have F244 : Fld Z h146 o0_8 "com/example/swanhall/swanhall/core/CellTable" "ys" "[J" (.ref w_ys_o0_8) := (F243.other W146 (Or.inr (slot_ne (Or.inl (hw _ (List.mem_of_getElem? (i := 14) rfl))) (Or.inl (hw _ (List.mem_of_getElem? (i := 34) rfl))) (by decide) (t := (.array .long)) (t' := .int) (by decide) (by decide))))
            have F245 : Exa Z h146 o0_8 "com/example/swanhall/swanhall/core/CellTable" := (F145.wr W146)
            have F246 : own_ArJ Z h138 w_xs_o0_8 nT (own_upd Xs (own_r4 y1_8 y2_8 nT num Xs Ys) (Xs (own_nx nT (own_r4 y1_8 y2_8 nT num Xs Ys)))) := (((V111.other W120 (Ne.symm ne_w_ys_o0_8_w_xs_o0_8)).other W129 (Ne.symm ne_w_numbers_o0_8_w_xs_o0_8)).other W138 (Ne.symm ne_w_numbers_o0_8_w_xs_o0_8))
            have F247 : own_ArJ Z h146 w_xs_o0_8 nT (own_upd Xs (own_r4 y1_8 y2_8 nT num Xs Ys) (Xs (own_nx nT (own_r4 y1_8 y2_8 nT num Xs Ys)))) := (F246.other W146 (Ne.symm ne_o0_8_w_xs_o0_8))
            have F248 : own_ArJ Z h146 w_ys_o0_8 nT (own_upd Ys (own_r4 y1_8 y2_8 nT num Xs Ys) (Ys (own_nx nT (own_r4 y1_8 y2_8 nT num Xs Ys)))) := (((V120.other W129 (Ne.symm ne_w_numbers_o0_8_w_ys_o0_8)).other W138 (Ne.symm ne_w_numbers_o0_8_w_ys_o0_8)).other W146 (Ne.symm ne_o0_8_w_ys_o0_8))
            exact own_ret0 X146 hx Bd.returns (hb hby d8_201) hnl (by rw [e146]; exact ⟨rfl, N149, K148, (Eq.mpr (congrArg (fun z => own_ArI Z h146 w_numbers_o0_8 nT z) (show (own_p8_0 y1_8 y2_8 nT num Xs Ys) = (own_upd (own_upd num (own_r4 y1_8 y2_8 nT num Xs Ys) (num (own_nx nT (own_r4 y1_8 y2_8 nT num Xs Ys)))) (own_nx nT (own_r4 y1_8 y2_8 nT num Xs Ys)) (0 : Int32)) from by unfold own_p8_0; rw [if_neg hc15_5, if_neg hc44_10, if_neg hc71_29, if_pos hc78_105, if_pos hc85_106])) F239), F240, F242, F244, (Eq.mpr (congrArg (fun z => Fld Z h146 o0_8 "com/example/swanhall/swanhall/core/CellTable" "size" "I" (.int z)) (show (own_p8_1 y1_8 y2_8 nT num Xs Ys w_size_o0_8) = (w_size_o0_8 - (1 : Int32)) from by unfold own_p8_1; rw [if_neg hc15_5, if_neg hc44_10, if_neg hc71_29, if_pos hc78_105, if_pos hc85_106])) F147), F245, (Eq.mpr (congrArg (fun z => own_ArJ Z h146 w_xs_o0_8 nT z) (show (own_p8_2 y1_8 y2_8 nT num Xs Ys) = (own_upd Xs (own_r4 y1_8 y2_8 nT num Xs Ys) (Xs (own_nx nT (own_r4 y1_8 y2_8 nT num Xs Ys)))) from by unfold own_p8_2; rw [if_neg hc15_5, if_neg hc44_10, if_neg hc71_29, if_pos hc78_105, if_pos hc85_106])) F247), (Eq.mpr (congrArg (fun z => own_ArJ Z h146 w_ys_o0_8 nT z) (show (own_p8_3 y1_8 y2_8 nT num Xs Ys) = (own_upd Ys (own_r4 y1_8 y2_8 nT num Xs Ys) (Ys (own_nx nT (own_r4 y1_8 y2_8 nT num Xs Ys)))) from by unfold own_p8_3; rw [if_neg hc15_5, if_neg hc44_10, if_neg hc71_29, if_pos hc78_105, if_pos hc85_106])) F248)⟩) (by decide) (by decide)
          · skip
            refine own_step (fun t k => XS.icmpNo X27.here hx rfl (hb hby d8_85) rfl (flt hc85_106).2.2.1 k) ?_
            refine own_step (fun t k => XS.iconst X27.here hx rfl (hb hby d8_88) k) ?_
            refine own_step (fun t k => XS.goto X27.here hx rfl (pc0 := 89) (pc' := 115) rfl (hb hby d8_89) (by decide) (by decide) k) ?_
            refine own_step (fun t k => XS.istore X27.here hx rfl (hb hby d8_115) rfl (l' := #[.val (.ref o0_8), .val (.long y1_8), .second, .val (.long y2_8), .second, .val (.int (own_r4 y1_8 y2_8 nT num Xs Ys)), .val (.int (nT - (1 : Int32))), .val (.int (own_nx nT (own_r4 y1_8 y2_8 nT num Xs Ys))), .val (.int (own_h (Xs (own_nx nT (own_r4 y1_8 y2_8 nT num Xs Ys))) (Ys (own_nx nT (own_r4 y1_8 y2_8 nT num Xs Ys))) nT)), .val (.int (1 : Int32))]) rfl k) ?_
            refine own_step (fun t k => XS.iload X27.here hx rfl (hb hby d8_117) rfl k) ?_
            show own_Ends p.tables e below s _ _ _ (T27.setTop (mkF m 119 #[.val (.ref o0_8), .val (.long y1_8), .second, .val (.long y2_8), .second, .val (.int (own_r4 y1_8 y2_8 nT num Xs Ys)), .val (.int (nT - (1 : Int32))), .val (.int (own_nx nT (own_r4 y1_8 y2_8 nT num Xs Ys))), .val (.int (own_h (Xs (own_nx nT (own_r4 y1_8 y2_8 nT num Xs Ys))) (Ys (own_nx nT (own_r4 y1_8 y2_8 nT num Xs Ys))) nT)), .val (.int (1 : Int32))] [(.int (1 : Int32))]))
            refine own_step (fun t k => XS.ifNo X27.here hx rfl (hb hby d8_119) rfl ((if0 _ _).trans (feq (by decide : ¬ ((1 : Int32) = (0 : Int32)))).1) k) ?_
            refine own_step (fun t k => XS.goto X27.here hx rfl (pc0 := 122) (pc' := 171) rfl (hb hby d8_122) (by decide) (by decide) k) ?_
            refine own_step (fun t k => XS.iload X27.here hx rfl (hb hby d8_171) rfl k) ?_
            refine own_step (fun t k => XS.iconst X27.here hx rfl (hb hby d8_173) k) ?_
            refine own_step (fun t k => XS.iadd X27.here hx rfl (hb hby d8_174) rfl k) ?_
            refine own_step (fun t k => XS.iload X27.here hx rfl (hb hby d8_175) rfl k) ?_
            refine own_step (fun t k => XS.iand X27.here hx rfl (hb hby d8_177) rfl k) ?_
            show own_Ends p.tables e below s _ _ _ (T27.setTop (mkF m 178 #[.val (.ref o0_8), .val (.long y1_8), .second, .val (.long y2_8), .second, .val (.int (own_r4 y1_8 y2_8 nT num Xs Ys)), .val (.int (nT - (1 : Int32))), .val (.int (own_nx nT (own_r4 y1_8 y2_8 nT num Xs Ys))), .val (.int (own_h (Xs (own_nx nT (own_r4 y1_8 y2_8 nT num Xs Ys))) (Ys (own_nx nT (own_r4 y1_8 y2_8 nT num Xs Ys))) nT)), .val (.int (1 : Int32))] [(.int (own_nx nT (own_nx nT (own_r4 y1_8 y2_8 nT num Xs Ys))))]))
            refine own_step (fun t k => XS.istore X27.here hx rfl (hb hby d8_178) rfl (l' := #[.val (.ref o0_8), .val (.long y1_8), .second, .val (.long y2_8), .second, .val (.int (own_r4 y1_8 y2_8 nT num Xs Ys)), .val (.int (nT - (1 : Int32))), .val (.int (own_nx nT (own_nx nT (own_r4 y1_8 y2_8 nT num Xs Ys)))), .val (.int (own_h (Xs (own_nx nT (own_r4 y1_8 y2_8 nT num Xs Ys))) (Ys (own_nx nT (own_r4 y1_8 y2_8 nT num Xs Ys))) nT)), .val (.int (1 : Int32))]) rfl k) ?_
            refine own_step (fun t k => XS.goto X27.here hx rfl (pc0 := 180) (pc' := 37) rfl (hb hby d8_180) (by decide) (by decide) k) ?_
            refine own_step (fun t k => XS.aloadN X27.here hx rfl (hb hby d8_37) rfl rfl k) ?_
            show own_Ends p.tables e below s _ _ _ (T27.setTop (mkF m 38 #[.val (.ref o0_8), .val (.long y1_8), .second, .val (.long y2_8), .second, .val (.int (own_r4 y1_8 y2_8 nT num Xs Ys)), .val (.int (nT - (1 : Int32))), .val (.int (own_nx nT (own_nx nT (own_r4 y1_8 y2_8 nT num Xs Ys)))), .val (.int (own_h (Xs (own_nx nT (own_r4 y1_8 y2_8 nT num Xs Ys))) (Ys (own_nx nT (own_r4 y1_8 y2_8 nT num Xs Ys))) nT)), .val (.int (1 : Int32))] [(.ref o0_8)]))
            obtain ⟨T150, X150, e150, st150⟩ := getF X27 hx hZ hown (host := "") (Or.inl (hw _ (List.mem_of_getElem? (i := 16) rfl))) Via.refl e27 F_numbers_o0_8 (g := (mkF m 38 #[.val (.ref o0_8), .val (.long y1_8), .second, .val (.long y2_8), .second, .val (.int (own_r4 y1_8 y2_8 nT num Xs Ys)), .val (.int (nT - (1 : Int32))), .val (.int (own_nx nT (own_nx nT (own_r4 y1_8 y2_8 nT num Xs Ys)))), .val (.int (own_h (Xs (own_nx nT (own_r4 y1_8 y2_8 nT num Xs Ys))) (Ys (own_nx nT (own_r4 y1_8 y2_8 nT num Xs Ys))) nT)), .val (.int (1 : Int32))] [(.ref o0_8)])) rfl rfl (hb hby d8_38)
            refine own_step (fun t k => st150 _ k) ?_
            refine own_step (fun t k => XS.iload X150.here hx rfl (hb hby d8_41) rfl k) ?_
            show own_Ends p.tables e below s _ _ _ (T150.setTop (mkF m 43 #[.val (.ref o0_8), .val (.long y1_8), .second, .val (.long y2_8), .second, .val (.int (own_r4 y1_8 y2_8 nT num Xs Ys)), .val (.int (nT - (1 : Int32))), .val (.int (own_nx nT (own_nx nT (own_r4 y1_8 y2_8 nT num Xs Ys)))), .val (.int (own_h (Xs (own_nx nT (own_r4 y1_8 y2_8 nT num Xs Ys))) (Ys (own_nx nT (own_r4 y1_8 y2_8 nT num Xs Ys))) nT)), .val (.int (1 : Int32))] [(.int (own_nx nT (own_nx nT (own_r4 y1_8 y2_8 nT num Xs Ys)))), (.ref w_numbers_o0_8)]))
            obtain ⟨cl151, Ar151, S151, N151, G151⟩ := id V_w_numbers_o0_8
            have hr151 : ¬ (own_nx nT (own_nx nT (own_r4 y1_8 y2_8 nT num Xs Ys))) < 0 ∧ (own_nx nT (own_nx nT (own_r4 y1_8 y2_8 nT num Xs Ys))) < nT := (own_rng _ _ hnT)
            have hin151 : ¬ ((own_nx nT (own_nx nT (own_r4 y1_8 y2_8 nT num Xs Ys))) < 0 ∨ cl151.slots.size ≤ ((own_nx nT (own_nx nT (own_r4 y1_8 y2_8 nT num Xs Ys)))).toNatClampNeg) := inb_of S151 hr151
            have hat151 : cl151.slots[((own_nx nT (own_nx nT (own_r4 y1_8 y2_8 nT num Xs Ys)))).toNatClampNeg]? = some (.int (num (own_nx nT (own_nx nT (own_r4 y1_8 y2_8 nT num Xs Ys))))) := G151 _ hr151.1 hr151.2
            refine own_step (fun t k => X150.iaload hx (j := (own_nx nT (own_nx nT (own_r4 y1_8 y2_8 nT num Xs Ys)))) (v := (.int (num (own_nx nT (own_nx nT (own_r4 y1_8 y2_8 nT num Xs Ys)))))) (by rw [e150]; exact Ar151.1) (State.isArrayOf_alike hZ.alike Ar151.2.1) Ar151.2.2 hin151 hat151 (g := (mkF m 43 #[.val (.ref o0_8), .val (.long y1_8), .second, .val (.long y2_8), .second, .val (.int (own_r4 y1_8 y2_8 nT num Xs Ys)), .val (.int (nT - (1 : Int32))), .val (.int (own_nx nT (own_nx nT (own_r4 y1_8 y2_8 nT num Xs Ys)))), .val (.int (own_h (Xs (own_nx nT (own_r4 y1_8 y2_8 nT num Xs Ys))) (Ys (own_nx nT (own_r4 y1_8 y2_8 nT num Xs Ys))) nT)), .val (.int (1 : Int32))] [(.int (own_nx nT (own_nx nT (own_r4 y1_8 y2_8 nT num Xs Ys)))), (.ref w_numbers_o0_8)])) rfl rfl (hb hby d8_43) _ k) ?_
            show own_Ends p.tables e below s _ _ _ (T150.setTop (mkF m 44 #[.val (.ref o0_8), .val (.long y1_8), .second, .val (.long y2_8), .second, .val (.int (own_r4 y1_8 y2_8 nT num Xs Ys)), .val (.int (nT - (1 : Int32))), .val (.int (own_nx nT (own_nx nT (own_r4 y1_8 y2_8 nT num Xs Ys)))), .val (.int (own_h (Xs (own_nx nT (own_r4 y1_8 y2_8 nT num Xs Ys))) (Ys (own_nx nT (own_r4 y1_8 y2_8 nT num Xs Ys))) nT)), .val (.int (1 : Int32))] [(.int (num (own_nx nT (own_nx nT (own_r4 y1_8 y2_8 nT num Xs Ys)))))]))
            have hc152 : (num (own_nx nT (own_nx nT (own_r4 y1_8 y2_8 nT num Xs Ys)))) = (0 : Int32) := (hst _ hc15_5 hc44_10)
            refine own_step (fun t k => XS.ifYes X150.here hx rfl (pc0 := 44) (pc' := 183) rfl (hb hby d8_44) rfl ((if0 _ _).trans (teq hc152).1) (by decide) (by decide) k) ?_
            refine own_step (fun t k => XS.aloadN X150.here hx rfl (hb hby d8_183) rfl rfl k) ?_
            show own_Ends p.tables e below s _ _ _ (T150.setTop (mkF m 184 #[.val (.ref o0_8), .val (.long y1_8), .second, .val (.long y2_8), .second, .val (.int (own_r4 y1_8 y2_8 nT num Xs Ys)), .val (.int (nT - (1 : Int32))), .val (.int (own_nx nT (own_nx nT (own_r4 y1_8 y2_8 nT num Xs Ys)))), .val (.int (own_h (Xs (own_nx nT (own_r4 y1_8 y2_8 nT num Xs Ys))) (Ys (own_nx nT (own_r4 y1_8 y2_8 nT num Xs Ys))) nT)), .val (.int (1 : Int32))] [(.ref o0_8)]))
            obtain ⟨T153, X153, e153, st153⟩ := getF X150 hx hZ hown (host := "") (Or.inl (hw _ (List.mem_of_getElem? (i := 16) rfl))) Via.refl e150 F_numbers_o0_8 (g := (mkF m 184 #[.val (.ref o0_8), .val (.long y1_8), .second, .val (.long y2_8), .second, .val (.int (own_r4 y1_8 y2_8 nT num Xs Ys)), .val (.int (nT - (1 : Int32))), .val (.int (own_nx nT (own_nx nT (own_r4 y1_8 y2_8 nT num Xs Ys)))), .val (.int (own_h (Xs (own_nx nT (own_r4 y1_8 y2_8 nT num Xs Ys))) (Ys (own_nx nT (own_r4 y1_8 y2_8 nT num Xs Ys))) nT)), .val (.int (1 : Int32))] [(.ref o0_8)])) rfl rfl (hb hby d8_184)
            refine own_step (fun t k => st153 _ k) ?_
            refine own_step (fun t k => XS.iload X153.here hx rfl (hb hby d8_187) rfl k) ?_
            refine own_step (fun t k => XS.iconst X153.here hx rfl (hb hby d8_189) k) ?_
            show own_Ends p.tables e below s _ _ _ (T153.setTop (mkF m 190 #[.val (.ref o0_8), .val (.long y1_8), .second, .val (.long y2_8), .second, .val (.int (own_r4 y1_8 y2_8 nT num Xs Ys)), .val (.int (nT - (1 : Int32))), .val (.int (own_nx nT (own_nx nT (own_r4 y1_8 y2_8 nT num Xs Ys)))), .val (.int (own_h (Xs (own_nx nT (own_r4 y1_8 y2_8 nT num Xs Ys))) (Ys (own_nx nT (own_r4 y1_8 y2_8 nT num Xs Ys))) nT)), .val (.int (1 : Int32))] [(.int (0 : Int32)), (.int (own_r4 y1_8 y2_8 nT num Xs Ys)), (.ref w_numbers_o0_8)]))
            obtain ⟨cl154, Ar154, S154, N154, G154⟩ := id V_w_numbers_o0_8
            have hr154 : ¬ (own_r4 y1_8 y2_8 nT num Xs Ys) < 0 ∧ (own_r4 y1_8 y2_8 nT num Xs Ys) < nT := (own_srng _ _ _ _ _ _ hnT)
            have hin154 : ¬ ((own_r4 y1_8 y2_8 nT num Xs Ys) < 0 ∨ cl154.slots.size ≤ ((own_r4 y1_8 y2_8 nT num Xs Ys)).toNatClampNeg) := inb_of S154 hr154
            obtain ⟨T155, h155, X155, e155, W155, st155⟩ := stI X153 hx hZ e153 Ar154 (j := (own_r4 y1_8 y2_8 nT num Xs Ys)) hin154 (g := (mkF m 190 #[.val (.ref o0_8), .val (.long y1_8), .second, .val (.long y2_8), .second, .val (.int (own_r4 y1_8 y2_8 nT num Xs Ys)), .val (.int (nT - (1 : Int32))), .val (.int (own_nx nT (own_nx nT (own_r4 y1_8 y2_8 nT num Xs Ys)))), .val (.int (own_h (Xs (own_nx nT (own_r4 y1_8 y2_8 nT num Xs Ys))) (Ys (own_nx nT (own_r4 y1_8 y2_8 nT num Xs Ys))) nT)), .val (.int (1 : Int32))] [(.int (0 : Int32)), (.int (own_r4 y1_8 y2_8 nT num Xs Ys)), (.ref w_numbers_o0_8)])) rfl rfl (hb hby d8_190)
            refine own_step (fun t k => st155 _ k) ?_
            have V155 : own_ArI Z h155 w_numbers_o0_8 nT (own_upd num (own_r4 y1_8 y2_8 nT num Xs Ys) (0 : Int32)) := own_ArI.set (v := (0 : Int32)) ⟨cl154, Ar154, S154, N154, G154⟩ hr154.1 Ar154 W155
            have K156 : Keep h0 h155 [w_numbers_o0_8, o0_8, w_xs_o0_8, w_ys_o0_8] := (Keep.refl h0 [w_numbers_o0_8, o0_8, w_xs_o0_8, w_ys_o0_8]).wr W155 (Or.inl (List.mem_of_getElem? (i := 0) rfl))
            have N157 := Fr.snoc X155 N28 g_w_numbers_o0_8
            refine own_step (fun t k => XS.aloadN X155.here hx rfl (hb hby d8_191) rfl rfl k) ?_
            refine own_step (fun t k => XS.dup X155.here hx rfl (hb hby d8_192) rfl rfl k) ?_
            show own_Ends p.tables e below s _ _ _ (T155.setTop (mkF m 193 #[.val (.ref o0_8), .val (.long y1_8), .second, .val (.long y2_8), .second, .val (.int (own_r4 y1_8 y2_8 nT num Xs Ys)), .val (.int (nT - (1 : Int32))), .val (.int (own_nx nT (own_nx nT (own_r4 y1_8 y2_8 nT num Xs Ys)))), .val (.int (own_h (Xs (own_nx nT (own_r4 y1_8 y2_8 nT num Xs Ys))) (Ys (own_nx nT (own_r4 y1_8 y2_8 nT num Xs Ys))) nT)), .val (.int (1 : Int32))] [(.ref o0_8), (.ref o0_8)]))
            have F158 : Fld Z h155 o0_8 "com/example/swanhall/swanhall/core/CellTable" "size" "I" (.int w_size_o0_8) := (F_size_o0_8.other W155 (Or.inl ne_o0_8_w_numbers_o0_8))
            obtain ⟨T159, X159, e159, st159⟩ := getF X155 hx hZ hown (host := "") (Or.inl (hw _ (List.mem_of_getElem? (i := 33) rfl))) Via.refl e155 F158 (g := (mkF m 193 #[.val (.ref o0_8), .val (.long y1_8), .second, .val (.long y2_8), .second, .val (.int (own_r4 y1_8 y2_8 nT num Xs Ys)), .val (.int (nT - (1 : Int32))), .val (.int (own_nx nT (own_nx nT (own_r4 y1_8 y2_8 nT num Xs Ys)))), .val (.int (own_h (Xs (own_nx nT (own_r4 y1_8 y2_8 nT num Xs Ys))) (Ys (own_nx nT (own_r4 y1_8 y2_8 nT num Xs Ys))) nT)), .val (.int (1 : Int32))] [(.ref o0_8), (.ref o0_8)])) rfl rfl (hb hby d8_193)
            refine own_step (fun t k => st159 _ k) ?_
            refine own_step (fun t k => XS.iconst X159.here hx rfl (hb hby d8_196) k) ?_
            refine own_step (fun t k => XS.isub X159.here hx rfl (hb hby d8_197) rfl k) ?_
            show own_Ends p.tables e below s _ _ _ (T159.setTop (mkF m 198 #[.val (.ref o0_8), .val (.long y1_8), .second, .val (.long y2_8), .second, .val (.int (own_r4 y1_8 y2_8 nT num Xs Ys)), .val (.int (nT - (1 : Int32))), .val (.int (own_nx nT (own_nx nT (own_r4 y1_8 y2_8 nT num Xs Ys)))), .val (.int (own_h (Xs (own_nx nT (own_r4 y1_8 y2_8 nT num Xs Ys))) (Ys (own_nx nT (own_r4 y1_8 y2_8 nT num Xs Ys))) nT)), .val (.int (1 : Int32))] [(.int (w_size_o0_8 - (1 : Int32))), (.ref o0_8)]))
            have F160 : Exa Z h155 o0_8 "com/example/swanhall/swanhall/core/CellTable" := (E_o0_8.wr W155)
            obtain ⟨T161, h161, X161, e161, W161, st161⟩ := putF X159 hx hZ hown (host := "") (Or.inl (hw _ (List.mem_of_getElem? (i := 33) rfl))) Via.refl e159 F158 F160 (Or.inl (hw _ (List.mem_of_getElem? (i := 34) rfl))) (hw _ (List.mem_of_getElem? (i := 2) rfl)) (ty := .int) (by decide) rfl rfl (g := (mkF m 198 #[.val (.ref o0_8), .val (.long y1_8), .second, .val (.long y2_8), .second, .val (.int (own_r4 y1_8 y2_8 nT num Xs Ys)), .val (.int (nT - (1 : Int32))), .val (.int (own_nx nT (own_nx nT (own_r4 y1_8 y2_8 nT num Xs Ys)))), .val (.int (own_h (Xs (own_nx nT (own_r4 y1_8 y2_8 nT num Xs Ys))) (Ys (own_nx nT (own_r4 y1_8 y2_8 nT num Xs Ys))) nT)), .val (.int (1 : Int32))] [(.int (w_size_o0_8 - (1 : Int32))), (.ref o0_8)])) rfl rfl (hb hby d8_198)
            refine own_step (fun t k => st161 _ k) ?_
            have F162 : Fld Z h161 o0_8 "com/example/swanhall/swanhall/core/CellTable" "size" "I" (.int (w_size_o0_8 - (1 : Int32))) := F158.same W161
            have K163 : Keep h0 h161 [w_numbers_o0_8, o0_8, w_xs_o0_8, w_ys_o0_8] := K156.wr W161 (Or.inl (List.mem_of_getElem? (i := 1) rfl))
            have N164 := Fr.snoc X161 N157 g_o0_8
            show own_Ends p.tables e below s _ _ _ (T161.setTop (mkF m 201 #[.val (.ref o0_8), .val (.long y1_8), .second, .val (.long y2_8), .second, .val (.int (own_r4 y1_8 y2_8 nT num Xs Ys)), .val (.int (nT - (1 : Int32))), .val (.int (own_nx nT (own_nx nT (own_r4 y1_8 y2_8 nT num Xs Ys)))), .val (.int (own_h (Xs (own_nx nT (own_r4 y1_8 y2_8 nT num Xs Ys))) (Ys (own_nx nT (own_r4 y1_8 y2_8 nT num Xs Ys))) nT)), .val (.int (1 : Int32))] []))
            have F249 : own_ArI Z h161 w_numbers_o0_8 nT (own_upd num (own_r4 y1_8 y2_8 nT num Xs Ys) (0 : Int32)) := (V155.other W161 (Ne.symm ne_o0_8_w_numbers_o0_8))
            have F250 : Fld Z h161 o0_8 "com/example/swanhall/swanhall/core/CellTable" "numbers" "[I" (.ref w_numbers_o0_8) := ((F_numbers_o0_8.other W155 (Or.inl ne_o0_8_w_numbers_o0_8)).other W161 (Or.inr (slot_ne (Or.inl (hw _ (List.mem_of_getElem? (i := 17) rfl))) (Or.inl (hw _ (List.mem_of_getElem? (i := 34) rfl))) (by decide) (t := (.array .int)) (t' := .int) (by decide) (by decide))))
            have F251 : Fld Z h161 o0_8 "com/example/swanhall/swanhall/core/CellTable" "xs" "[J" (.ref w_xs_o0_8) := ((F_xs_o0_8.other W155 (Or.inl ne_o0_8_w_numbers_o0_8)).other W161 (Or.inr (slot_ne (Or.inl (hw _ (List.mem_of_getElem? (i := 12) rfl))) (Or.inl (hw _ (List.mem_of_getElem? (i := 34) rfl))) (by decide) (t := (.array .long)) (t' := .int) (by decide) (by decide))))
            have F252 : Fld Z h161 o0_8 "com/example/swanhall/swanhall/core/CellTable" "ys" "[J" (.ref w_ys_o0_8) := ((F_ys_o0_8.other W155 (Or.inl ne_o0_8_w_numbers_o0_8)).other W161 (Or.inr (slot_ne (Or.inl (hw _ (List.mem_of_getElem? (i := 14) rfl))) (Or.inl (hw _ (List.mem_of_getElem? (i := 34) rfl))) (by decide) (t := (.array .long)) (t' := .int) (by decide) (by decide))))
            have F253 : Exa Z h161 o0_8 "com/example/swanhall/swanhall/core/CellTable" := (F160.wr W161)
            have F254 : own_ArJ Z h161 w_xs_o0_8 nT Xs := ((V_w_xs_o0_8.other W155 (Ne.symm ne_w_numbers_o0_8_w_xs_o0_8)).other W161 (Ne.symm ne_o0_8_w_xs_o0_8))
            have F255 : own_ArJ Z h161 w_ys_o0_8 nT Ys := ((V_w_ys_o0_8.other W155 (Ne.symm ne_w_numbers_o0_8_w_ys_o0_8)).other W161 (Ne.symm ne_o0_8_w_ys_o0_8))
            exact own_ret0 X161 hx Bd.returns (hb hby d8_201) hnl (by rw [e161]; exact ⟨rfl, N164, K163, (Eq.mpr (congrArg (fun z => own_ArI Z h161 w_numbers_o0_8 nT z) (show (own_p8_0 y1_8 y2_8 nT num Xs Ys) = (own_upd num (own_r4 y1_8 y2_8 nT num Xs Ys) (0 : Int32)) from by unfold own_p8_0; rw [if_neg hc15_5, if_neg hc44_10, if_neg hc71_29, if_pos hc78_105, if_neg hc85_106])) F249), F250, F251, F252, (Eq.mpr (congrArg (fun z => Fld Z h161 o0_8 "com/example/swanhall/swanhall/core/CellTable" "size" "I" (.int z)) (show (own_p8_1 y1_8 y2_8 nT num Xs Ys w_size_o0_8) = (w_size_o0_8 - (1 : Int32)) from by unfold own_p8_1; rw [if_neg hc15_5, if_neg hc44_10, if_neg hc71_29, if_pos hc78_105, if_neg hc85_106])) F162), F253, (Eq.mpr (congrArg (fun z => own_ArJ Z h161 w_xs_o0_8 nT z) (show (own_p8_2 y1_8 y2_8 nT num Xs Ys) = Xs from by unfold own_p8_2; rw [if_neg hc15_5, if_neg hc44_10, if_neg hc71_29, if_pos hc78_105, if_neg hc85_106])) F254), (Eq.mpr (congrArg (fun z => own_ArJ Z h161 w_ys_o0_8 nT z) (show (own_p8_3 y1_8 y2_8 nT num Xs Ys) = Ys from by unfold own_p8_3; rw [if_neg hc15_5, if_neg hc44_10, if_neg hc71_29, if_pos hc78_105, if_neg hc85_106])) F255)⟩) (by decide) (by decide)
        · skip
          refine own_step (fun t k => XS.icmpYes X27.here hx rfl (pc0 := 78) (pc' := 92) rfl (hb hby d8_78) rfl (flt hc78_105).2.1 (by decide) (by decide) k) ?_
          refine own_step (fun t k => XS.iconst X27.here hx rfl (hb hby d8_92) k) ?_
          refine own_step (fun t k => XS.goto X27.here hx rfl (pc0 := 93) (pc' := 115) rfl (hb hby d8_93) (by decide) (by decide) k) ?_
          refine own_step (fun t k => XS.istore X27.here hx rfl (hb hby d8_115) rfl (l' := #[.val (.ref o0_8), .val (.long y1_8), .second, .val (.long y2_8), .second, .val (.int (own_r4 y1_8 y2_8 nT num Xs Ys)), .val (.int (nT - (1 : Int32))), .val (.int (own_nx nT (own_r4 y1_8 y2_8 nT num Xs Ys))), .val (.int (own_h (Xs (own_nx nT (own_r4 y1_8 y2_8 nT num Xs Ys))) (Ys (own_nx nT (own_r4 y1_8 y2_8 nT num Xs Ys))) nT)), .val (.int (0 : Int32))]) rfl k) ?_
          refine own_step (fun t k => XS.iload X27.here hx rfl (hb hby d8_117) rfl k) ?_
          show own_Ends p.tables e below s _ _ _ (T27.setTop (mkF m 119 #[.val (.ref o0_8), .val (.long y1_8), .second, .val (.long y2_8), .second, .val (.int (own_r4 y1_8 y2_8 nT num Xs Ys)), .val (.int (nT - (1 : Int32))), .val (.int (own_nx nT (own_r4 y1_8 y2_8 nT num Xs Ys))), .val (.int (own_h (Xs (own_nx nT (own_r4 y1_8 y2_8 nT num Xs Ys))) (Ys (own_nx nT (own_r4 y1_8 y2_8 nT num Xs Ys))) nT)), .val (.int (0 : Int32))] [(.int (0 : Int32))]))
          refine own_step (fun t k => XS.ifYes X27.here hx rfl (pc0 := 119) (pc' := 125) rfl (hb hby d8_119) rfl ((if0 _ _).trans (teq (by decide : (0 : Int32) = (0 : Int32))).1) (by decide) (by decide) k) ?_
          refine own_step (fun t k => XS.aloadN X27.here hx rfl (hb hby d8_125) rfl rfl k) ?_
          show own_Ends p.tables e below s _ _ _ (T27.setTop (mkF m 126 #[.val (.ref o0_8), .val (.long y1_8), .second, .val (.long y2_8), .second, .val (.int (own_r4 y1_8 y2_8 nT num Xs Ys)), .val (.int (nT - (1 : Int32))), .val (.int (own_nx nT (own_r4 y1_8 y2_8 nT num Xs Ys))), .val (.int (own_h (Xs (own_nx nT (own_r4 y1_8 y2_8 nT num Xs Ys))) (Ys (own_nx nT (own_r4 y1_8 y2_8 nT num Xs Ys))) nT)), .val (.int (0 : Int32))] [(.ref o0_8)]))
          obtain ⟨T165, X165, e165, st165⟩ := getF X27 hx hZ hown (host := "") (Or.inl (hw _ (List.mem_of_getElem? (i := 11) rfl))) Via.refl e27 F_xs_o0_8 (g := (mkF m 126 #[.val (.ref o0_8), .val (.long y1_8), .second, .val (.long y2_8), .second, .val (.int (own_r4 y1_8 y2_8 nT num Xs Ys)), .val (.int (nT - (1 : Int32))), .val (.int (own_nx nT (own_r4 y1_8 y2_8 nT num Xs Ys))), .val (.int (own_h (Xs (own_nx nT (own_r4 y1_8 y2_8 nT num Xs Ys))) (Ys (own_nx nT (own_r4 y1_8 y2_8 nT num Xs Ys))) nT)), .val (.int (0 : Int32))] [(.ref o0_8)])) rfl rfl (hb hby d8_126)
          refine own_step (fun t k => st165 _ k) ?_
          refine own_step (fun t k => XS.iload X165.here hx rfl (hb hby d8_129) rfl k) ?_
          refine own_step (fun t k => XS.aloadN X165.here hx rfl (hb hby d8_131) rfl rfl k) ?_
          show own_Ends p.tables e below s _ _ _ (T165.setTop (mkF m 132 #[.val (.ref o0_8), .val (.long y1_8), .second, .val (.long y2_8), .second, .val (.int (own_r4 y1_8 y2_8 nT num Xs Ys)), .val (.int (nT - (1 : Int32))), .val (.int (own_nx nT (own_r4 y1_8 y2_8 nT num Xs Ys))), .val (.int (own_h (Xs (own_nx nT (own_r4 y1_8 y2_8 nT num Xs Ys))) (Ys (own_nx nT (own_r4 y1_8 y2_8 nT num Xs Ys))) nT)), .val (.int (0 : Int32))] [(.ref o0_8), (.int (own_r4 y1_8 y2_8 nT num Xs Ys)), (.ref w_xs_o0_8)]))
          obtain ⟨T166, X166, e166, st166⟩ := getF X165 hx hZ hown (host := "") (Or.inl (hw _ (List.mem_of_getElem? (i := 11) rfl))) Via.refl e165 F_xs_o0_8 (g := (mkF m 132 #[.val (.ref o0_8), .val (.long y1_8), .second, .val (.long y2_8), .second, .val (.int (own_r4 y1_8 y2_8 nT num Xs Ys)), .val (.int (nT - (1 : Int32))), .val (.int (own_nx nT (own_r4 y1_8 y2_8 nT num Xs Ys))), .val (.int (own_h (Xs (own_nx nT (own_r4 y1_8 y2_8 nT num Xs Ys))) (Ys (own_nx nT (own_r4 y1_8 y2_8 nT num Xs Ys))) nT)), .val (.int (0 : Int32))] [(.ref o0_8), (.int (own_r4 y1_8 y2_8 nT num Xs Ys)), (.ref w_xs_o0_8)])) rfl rfl (hb hby d8_132)
          refine own_step (fun t k => st166 _ k) ?_
          refine own_step (fun t k => XS.iload X166.here hx rfl (hb hby d8_135) rfl k) ?_
          show own_Ends p.tables e below s _ _ _ (T166.setTop (mkF m 137 #[.val (.ref o0_8), .val (.long y1_8), .second, .val (.long y2_8), .second, .val (.int (own_r4 y1_8 y2_8 nT num Xs Ys)), .val (.int (nT - (1 : Int32))), .val (.int (own_nx nT (own_r4 y1_8 y2_8 nT num Xs Ys))), .val (.int (own_h (Xs (own_nx nT (own_r4 y1_8 y2_8 nT num Xs Ys))) (Ys (own_nx nT (own_r4 y1_8 y2_8 nT num Xs Ys))) nT)), .val (.int (0 : Int32))] [(.int (own_nx nT (own_r4 y1_8 y2_8 nT num Xs Ys))), (.ref w_xs_o0_8), (.int (own_r4 y1_8 y2_8 nT num Xs Ys)), (.ref w_xs_o0_8)]))
          obtain ⟨cl167, Ar167, S167, N167, G167⟩ := id V_w_xs_o0_8
          have hr167 : ¬ (own_nx nT (own_r4 y1_8 y2_8 nT num Xs Ys)) < 0 ∧ (own_nx nT (own_r4 y1_8 y2_8 nT num Xs Ys)) < nT := (own_rng _ _ hnT)
          have hin167 : ¬ ((own_nx nT (own_r4 y1_8 y2_8 nT num Xs Ys)) < 0 ∨ cl167.slots.size ≤ ((own_nx nT (own_r4 y1_8 y2_8 nT num Xs Ys))).toNatClampNeg) := inb_of S167 hr167
          have hat167 : cl167.slots[((own_nx nT (own_r4 y1_8 y2_8 nT num Xs Ys))).toNatClampNeg]? = some (.long (Xs (own_nx nT (own_r4 y1_8 y2_8 nT num Xs Ys)))) := G167 _ hr167.1 hr167.2
          refine own_step (fun t k => X166.laload hx (j := (own_nx nT (own_r4 y1_8 y2_8 nT num Xs Ys))) (v := (.long (Xs (own_nx nT (own_r4 y1_8 y2_8 nT num Xs Ys))))) (by rw [e166]; exact Ar167.1) (State.isArrayOf_alike hZ.alike Ar167.2.1) Ar167.2.2 hin167 hat167 (g := (mkF m 137 #[.val (.ref o0_8), .val (.long y1_8), .second, .val (.long y2_8), .second, .val (.int (own_r4 y1_8 y2_8 nT num Xs Ys)), .val (.int (nT - (1 : Int32))), .val (.int (own_nx nT (own_r4 y1_8 y2_8 nT num Xs Ys))), .val (.int (own_h (Xs (own_nx nT (own_r4 y1_8 y2_8 nT num Xs Ys))) (Ys (own_nx nT (own_r4 y1_8 y2_8 nT num Xs Ys))) nT)), .val (.int (0 : Int32))] [(.int (own_nx nT (own_r4 y1_8 y2_8 nT num Xs Ys))), (.ref w_xs_o0_8), (.int (own_r4 y1_8 y2_8 nT num Xs Ys)), (.ref w_xs_o0_8)])) rfl rfl (hb hby d8_137) _ k) ?_
          show own_Ends p.tables e below s _ _ _ (T166.setTop (mkF m 138 #[.val (.ref o0_8), .val (.long y1_8), .second, .val (.long y2_8), .second, .val (.int (own_r4 y1_8 y2_8 nT num Xs Ys)), .val (.int (nT - (1 : Int32))), .val (.int (own_nx nT (own_r4 y1_8 y2_8 nT num Xs Ys))), .val (.int (own_h (Xs (own_nx nT (own_r4 y1_8 y2_8 nT num Xs Ys))) (Ys (own_nx nT (own_r4 y1_8 y2_8 nT num Xs Ys))) nT)), .val (.int (0 : Int32))] [(.long (Xs (own_nx nT (own_r4 y1_8 y2_8 nT num Xs Ys)))), (.int (own_r4 y1_8 y2_8 nT num Xs Ys)), (.ref w_xs_o0_8)]))
          obtain ⟨cl168, Ar168, S168, N168, G168⟩ := id V_w_xs_o0_8
          have hr168 : ¬ (own_r4 y1_8 y2_8 nT num Xs Ys) < 0 ∧ (own_r4 y1_8 y2_8 nT num Xs Ys) < nT := (own_srng _ _ _ _ _ _ hnT)
          have hin168 : ¬ ((own_r4 y1_8 y2_8 nT num Xs Ys) < 0 ∨ cl168.slots.size ≤ ((own_r4 y1_8 y2_8 nT num Xs Ys)).toNatClampNeg) := inb_of S168 hr168
          obtain ⟨T169, h169, X169, e169, W169, st169⟩ := stJ X166 hx hZ e166 Ar168 (j := (own_r4 y1_8 y2_8 nT num Xs Ys)) hin168 (g := (mkF m 138 #[.val (.ref o0_8), .val (.long y1_8), .second, .val (.long y2_8), .second, .val (.int (own_r4 y1_8 y2_8 nT num Xs Ys)), .val (.int (nT - (1 : Int32))), .val (.int (own_nx nT (own_r4 y1_8 y2_8 nT num Xs Ys))), .val (.int (own_h (Xs (own_nx nT (own_r4 y1_8 y2_8 nT num Xs Ys))) (Ys (own_nx nT (own_r4 y1_8 y2_8 nT num Xs Ys))) nT)), .val (.int (0 : Int32))] [(.long (Xs (own_nx nT (own_r4 y1_8 y2_8 nT num Xs Ys)))), (.int (own_r4 y1_8 y2_8 nT num Xs Ys)), (.ref w_xs_o0_8)])) rfl rfl (hb hby d8_138)
          refine own_step (fun t k => st169 _ k) ?_
          have V169 : own_ArJ Z h169 w_xs_o0_8 nT (own_upd Xs (own_r4 y1_8 y2_8 nT num Xs Ys) (Xs (own_nx nT (own_r4 y1_8 y2_8 nT num Xs Ys)))) := own_ArJ.set (v := (Xs (own_nx nT (own_r4 y1_8 y2_8 nT num Xs Ys)))) ⟨cl168, Ar168, S168, N168, G168⟩ hr168.1 Ar168 W169
          have K170 : Keep h0 h169 [w_numbers_o0_8, o0_8, w_xs_o0_8, w_ys_o0_8] := (Keep.refl h0 [w_numbers_o0_8, o0_8, w_xs_o0_8, w_ys_o0_8]).wr W169 (Or.inl (List.mem_of_getElem? (i := 2) rfl))
          have N171 := Fr.snoc X169 N28 g_w_xs_o0_8
          refine own_step (fun t k => XS.aloadN X169.here hx rfl (hb hby d8_139) rfl rfl k) ?_
          show own_Ends p.tables e below s _ _ _ (T169.setTop (mkF m 140 #[.val (.ref o0_8), .val (.long y1_8), .second, .val (.long y2_8), .second, .val (.int (own_r4 y1_8 y2_8 nT num Xs Ys)), .val (.int (nT - (1 : Int32))), .val (.int (own_nx nT (own_r4 y1_8 y2_8 nT num Xs Ys))), .val (.int (own_h (Xs (own_nx nT (own_r4 y1_8 y2_8 nT num Xs Ys))) (Ys (own_nx nT (own_r4 y1_8 y2_8 nT num Xs Ys))) nT)), .val (.int (0 : Int32))] [(.ref o0_8)]))
          have F172 : Fld Z h169 o0_8 "com/example/swanhall/swanhall/core/CellTable" "ys" "[J" (.ref w_ys_o0_8) := (F_ys_o0_8.other W169 (Or.inl ne_o0_8_w_xs_o0_8))
          obtain ⟨T173, X173, e173, st173⟩ := getF X169 hx hZ hown (host := "") (Or.inl (hw _ (List.mem_of_getElem? (i := 13) rfl))) Via.refl e169 F172 (g := (mkF m 140 #[.val (.ref o0_8), .val (.long y1_8), .second, .val (.long y2_8), .second, .val (.int (own_r4 y1_8 y2_8 nT num Xs Ys)), .val (.int (nT - (1 : Int32))), .val (.int (own_nx nT (own_r4 y1_8 y2_8 nT num Xs Ys))), .val (.int (own_h (Xs (own_nx nT (own_r4 y1_8 y2_8 nT num Xs Ys))) (Ys (own_nx nT (own_r4 y1_8 y2_8 nT num Xs Ys))) nT)), .val (.int (0 : Int32))] [(.ref o0_8)])) rfl rfl (hb hby d8_140)
          refine own_step (fun t k => st173 _ k) ?_
          refine own_step (fun t k => XS.iload X173.here hx rfl (hb hby d8_143) rfl k) ?_
          refine own_step (fun t k => XS.aloadN X173.here hx rfl (hb hby d8_145) rfl rfl k) ?_
          show own_Ends p.tables e below s _ _ _ (T173.setTop (mkF m 146 #[.val (.ref o0_8), .val (.long y1_8), .second, .val (.long y2_8), .second, .val (.int (own_r4 y1_8 y2_8 nT num Xs Ys)), .val (.int (nT - (1 : Int32))), .val (.int (own_nx nT (own_r4 y1_8 y2_8 nT num Xs Ys))), .val (.int (own_h (Xs (own_nx nT (own_r4 y1_8 y2_8 nT num Xs Ys))) (Ys (own_nx nT (own_r4 y1_8 y2_8 nT num Xs Ys))) nT)), .val (.int (0 : Int32))] [(.ref o0_8), (.int (own_r4 y1_8 y2_8 nT num Xs Ys)), (.ref w_ys_o0_8)]))
          obtain ⟨T174, X174, e174, st174⟩ := getF X173 hx hZ hown (host := "") (Or.inl (hw _ (List.mem_of_getElem? (i := 13) rfl))) Via.refl e173 F172 (g := (mkF m 146 #[.val (.ref o0_8), .val (.long y1_8), .second, .val (.long y2_8), .second, .val (.int (own_r4 y1_8 y2_8 nT num Xs Ys)), .val (.int (nT - (1 : Int32))), .val (.int (own_nx nT (own_r4 y1_8 y2_8 nT num Xs Ys))), .val (.int (own_h (Xs (own_nx nT (own_r4 y1_8 y2_8 nT num Xs Ys))) (Ys (own_nx nT (own_r4 y1_8 y2_8 nT num Xs Ys))) nT)), .val (.int (0 : Int32))] [(.ref o0_8), (.int (own_r4 y1_8 y2_8 nT num Xs Ys)), (.ref w_ys_o0_8)])) rfl rfl (hb hby d8_146)
          refine own_step (fun t k => st174 _ k) ?_
          refine own_step (fun t k => XS.iload X174.here hx rfl (hb hby d8_149) rfl k) ?_
          show own_Ends p.tables e below s _ _ _ (T174.setTop (mkF m 151 #[.val (.ref o0_8), .val (.long y1_8), .second, .val (.long y2_8), .second, .val (.int (own_r4 y1_8 y2_8 nT num Xs Ys)), .val (.int (nT - (1 : Int32))), .val (.int (own_nx nT (own_r4 y1_8 y2_8 nT num Xs Ys))), .val (.int (own_h (Xs (own_nx nT (own_r4 y1_8 y2_8 nT num Xs Ys))) (Ys (own_nx nT (own_r4 y1_8 y2_8 nT num Xs Ys))) nT)), .val (.int (0 : Int32))] [(.int (own_nx nT (own_r4 y1_8 y2_8 nT num Xs Ys))), (.ref w_ys_o0_8), (.int (own_r4 y1_8 y2_8 nT num Xs Ys)), (.ref w_ys_o0_8)]))
          have F175 : own_ArJ Z h169 w_ys_o0_8 nT Ys := (V_w_ys_o0_8.other W169 ne_w_ys_o0_8_w_xs_o0_8)
          obtain ⟨cl176, Ar176, S176, N176, G176⟩ := id F175
          have hr176 : ¬ (own_nx nT (own_r4 y1_8 y2_8 nT num Xs Ys)) < 0 ∧ (own_nx nT (own_r4 y1_8 y2_8 nT num Xs Ys)) < nT := (own_rng _ _ hnT)
          have hin176 : ¬ ((own_nx nT (own_r4 y1_8 y2_8 nT num Xs Ys)) < 0 ∨ cl176.slots.size ≤ ((own_nx nT (own_r4 y1_8 y2_8 nT num Xs Ys))).toNatClampNeg) := inb_of S176 hr176
          have hat176 : cl176.slots[((own_nx nT (own_r4 y1_8 y2_8 nT num Xs Ys))).toNatClampNeg]? = some (.long (Ys (own_nx nT (own_r4 y1_8 y2_8 nT num Xs Ys)))) := G176 _ hr176.1 hr176.2
          refine own_step (fun t k => X174.laload hx (j := (own_nx nT (own_r4 y1_8 y2_8 nT num Xs Ys))) (v := (.long (Ys (own_nx nT (own_r4 y1_8 y2_8 nT num Xs Ys))))) (by rw [e174]; exact Ar176.1) (State.isArrayOf_alike hZ.alike Ar176.2.1) Ar176.2.2 hin176 hat176 (g := (mkF m 151 #[.val (.ref o0_8), .val (.long y1_8), .second, .val (.long y2_8), .second, .val (.int (own_r4 y1_8 y2_8 nT num Xs Ys)), .val (.int (nT - (1 : Int32))), .val (.int (own_nx nT (own_r4 y1_8 y2_8 nT num Xs Ys))), .val (.int (own_h (Xs (own_nx nT (own_r4 y1_8 y2_8 nT num Xs Ys))) (Ys (own_nx nT (own_r4 y1_8 y2_8 nT num Xs Ys))) nT)), .val (.int (0 : Int32))] [(.int (own_nx nT (own_r4 y1_8 y2_8 nT num Xs Ys))), (.ref w_ys_o0_8), (.int (own_r4 y1_8 y2_8 nT num Xs Ys)), (.ref w_ys_o0_8)])) rfl rfl (hb hby d8_151) _ k) ?_
          show own_Ends p.tables e below s _ _ _ (T174.setTop (mkF m 152 #[.val (.ref o0_8), .val (.long y1_8), .second, .val (.long y2_8), .second, .val (.int (own_r4 y1_8 y2_8 nT num Xs Ys)), .val (.int (nT - (1 : Int32))), .val (.int (own_nx nT (own_r4 y1_8 y2_8 nT num Xs Ys))), .val (.int (own_h (Xs (own_nx nT (own_r4 y1_8 y2_8 nT num Xs Ys))) (Ys (own_nx nT (own_r4 y1_8 y2_8 nT num Xs Ys))) nT)), .val (.int (0 : Int32))] [(.long (Ys (own_nx nT (own_r4 y1_8 y2_8 nT num Xs Ys)))), (.int (own_r4 y1_8 y2_8 nT num Xs Ys)), (.ref w_ys_o0_8)]))
          obtain ⟨cl177, Ar177, S177, N177, G177⟩ := id F175
          have hr177 : ¬ (own_r4 y1_8 y2_8 nT num Xs Ys) < 0 ∧ (own_r4 y1_8 y2_8 nT num Xs Ys) < nT := (own_srng _ _ _ _ _ _ hnT)
          have hin177 : ¬ ((own_r4 y1_8 y2_8 nT num Xs Ys) < 0 ∨ cl177.slots.size ≤ ((own_r4 y1_8 y2_8 nT num Xs Ys)).toNatClampNeg) := inb_of S177 hr177
          obtain ⟨T178, h178, X178, e178, W178, st178⟩ := stJ X174 hx hZ e174 Ar177 (j := (own_r4 y1_8 y2_8 nT num Xs Ys)) hin177 (g := (mkF m 152 #[.val (.ref o0_8), .val (.long y1_8), .second, .val (.long y2_8), .second, .val (.int (own_r4 y1_8 y2_8 nT num Xs Ys)), .val (.int (nT - (1 : Int32))), .val (.int (own_nx nT (own_r4 y1_8 y2_8 nT num Xs Ys))), .val (.int (own_h (Xs (own_nx nT (own_r4 y1_8 y2_8 nT num Xs Ys))) (Ys (own_nx nT (own_r4 y1_8 y2_8 nT num Xs Ys))) nT)), .val (.int (0 : Int32))] [(.long (Ys (own_nx nT (own_r4 y1_8 y2_8 nT num Xs Ys)))), (.int (own_r4 y1_8 y2_8 nT num Xs Ys)), (.ref w_ys_o0_8)])) rfl rfl (hb hby d8_152)
          refine own_step (fun t k => st178 _ k) ?_
          have V178 : own_ArJ Z h178 w_ys_o0_8 nT (own_upd Ys (own_r4 y1_8 y2_8 nT num Xs Ys) (Ys (own_nx nT (own_r4 y1_8 y2_8 nT num Xs Ys)))) := own_ArJ.set (v := (Ys (own_nx nT (own_r4 y1_8 y2_8 nT num Xs Ys)))) ⟨cl177, Ar177, S177, N177, G177⟩ hr177.1 Ar177 W178
          have K179 : Keep h0 h178 [w_numbers_o0_8, o0_8, w_xs_o0_8, w_ys_o0_8] := K170.wr W178 (Or.inl (List.mem_of_getElem? (i := 3) rfl))
          have N180 := Fr.snoc X178 N171 g_w_ys_o0_8
          refine own_step (fun t k => XS.aloadN X178.here hx rfl (hb hby d8_153) rfl rfl k) ?_
          show own_Ends p.tables e below s _ _ _ (T178.setTop (mkF m 154 #[.val (.ref o0_8), .val (.long y1_8), .second, .val (.long y2_8), .second, .val (.int (own_r4 y1_8 y2_8 nT num Xs Ys)), .val (.int (nT - (1 : Int32))), .val (.int (own_nx nT (own_r4 y1_8 y2_8 nT num Xs Ys))), .val (.int (own_h (Xs (own_nx nT (own_r4 y1_8 y2_8 nT num Xs Ys))) (Ys (own_nx nT (own_r4 y1_8 y2_8 nT num Xs Ys))) nT)), .val (.int (0 : Int32))] [(.ref o0_8)]))
          have F181 : Fld Z h178 o0_8 "com/example/swanhall/swanhall/core/CellTable" "numbers" "[I" (.ref w_numbers_o0_8) := ((F_numbers_o0_8.other W169 (Or.inl ne_o0_8_w_xs_o0_8)).other W178 (Or.inl ne_o0_8_w_ys_o0_8))
          obtain ⟨T182, X182, e182, st182⟩ := getF X178 hx hZ hown (host := "") (Or.inl (hw _ (List.mem_of_getElem? (i := 16) rfl))) Via.refl e178 F181 (g := (mkF m 154 #[.val (.ref o0_8), .val (.long y1_8), .second, .val (.long y2_8), .second, .val (.int (own_r4 y1_8 y2_8 nT num Xs Ys)), .val (.int (nT - (1 : Int32))), .val (.int (own_nx nT (own_r4 y1_8 y2_8 nT num Xs Ys))), .val (.int (own_h (Xs (own_nx nT (own_r4 y1_8 y2_8 nT num Xs Ys))) (Ys (own_nx nT (own_r4 y1_8 y2_8 nT num Xs Ys))) nT)), .val (.int (0 : Int32))] [(.ref o0_8)])) rfl rfl (hb hby d8_154)
          refine own_step (fun t k => st182 _ k) ?_
          refine own_step (fun t k => XS.iload X182.here hx rfl (hb hby d8_157) rfl k) ?_
          refine own_step (fun t k => XS.aloadN X182.here hx rfl (hb hby d8_159) rfl rfl k) ?_
          show own_Ends p.tables e below s _ _ _ (T182.setTop (mkF m 160 #[.val (.ref o0_8), .val (.long y1_8), .second, .val (.long y2_8), .second, .val (.int (own_r4 y1_8 y2_8 nT num Xs Ys)), .val (.int (nT - (1 : Int32))), .val (.int (own_nx nT (own_r4 y1_8 y2_8 nT num Xs Ys))), .val (.int (own_h (Xs (own_nx nT (own_r4 y1_8 y2_8 nT num Xs Ys))) (Ys (own_nx nT (own_r4 y1_8 y2_8 nT num Xs Ys))) nT)), .val (.int (0 : Int32))] [(.ref o0_8), (.int (own_r4 y1_8 y2_8 nT num Xs Ys)), (.ref w_numbers_o0_8)]))
          obtain ⟨T183, X183, e183, st183⟩ := getF X182 hx hZ hown (host := "") (Or.inl (hw _ (List.mem_of_getElem? (i := 16) rfl))) Via.refl e182 F181 (g := (mkF m 160 #[.val (.ref o0_8), .val (.long y1_8), .second, .val (.long y2_8), .second, .val (.int (own_r4 y1_8 y2_8 nT num Xs Ys)), .val (.int (nT - (1 : Int32))), .val (.int (own_nx nT (own_r4 y1_8 y2_8 nT num Xs Ys))), .val (.int (own_h (Xs (own_nx nT (own_r4 y1_8 y2_8 nT num Xs Ys))) (Ys (own_nx nT (own_r4 y1_8 y2_8 nT num Xs Ys))) nT)), .val (.int (0 : Int32))] [(.ref o0_8), (.int (own_r4 y1_8 y2_8 nT num Xs Ys)), (.ref w_numbers_o0_8)])) rfl rfl (hb hby d8_160)
          refine own_step (fun t k => st183 _ k) ?_
          refine own_step (fun t k => XS.iload X183.here hx rfl (hb hby d8_163) rfl k) ?_
          show own_Ends p.tables e below s _ _ _ (T183.setTop (mkF m 165 #[.val (.ref o0_8), .val (.long y1_8), .second, .val (.long y2_8), .second, .val (.int (own_r4 y1_8 y2_8 nT num Xs Ys)), .val (.int (nT - (1 : Int32))), .val (.int (own_nx nT (own_r4 y1_8 y2_8 nT num Xs Ys))), .val (.int (own_h (Xs (own_nx nT (own_r4 y1_8 y2_8 nT num Xs Ys))) (Ys (own_nx nT (own_r4 y1_8 y2_8 nT num Xs Ys))) nT)), .val (.int (0 : Int32))] [(.int (own_nx nT (own_r4 y1_8 y2_8 nT num Xs Ys))), (.ref w_numbers_o0_8), (.int (own_r4 y1_8 y2_8 nT num Xs Ys)), (.ref w_numbers_o0_8)]))
          have F184 : own_ArI Z h178 w_numbers_o0_8 nT num := ((V_w_numbers_o0_8.other W169 ne_w_numbers_o0_8_w_xs_o0_8).other W178 ne_w_numbers_o0_8_w_ys_o0_8)
          obtain ⟨cl185, Ar185, S185, N185, G185⟩ := id F184
          have hr185 : ¬ (own_nx nT (own_r4 y1_8 y2_8 nT num Xs Ys)) < 0 ∧ (own_nx nT (own_r4 y1_8 y2_8 nT num Xs Ys)) < nT := (own_rng _ _ hnT)
          have hin185 : ¬ ((own_nx nT (own_r4 y1_8 y2_8 nT num Xs Ys)) < 0 ∨ cl185.slots.size ≤ ((own_nx nT (own_r4 y1_8 y2_8 nT num Xs Ys))).toNatClampNeg) := inb_of S185 hr185
          have hat185 : cl185.slots[((own_nx nT (own_r4 y1_8 y2_8 nT num Xs Ys))).toNatClampNeg]? = some (.int (num (own_nx nT (own_r4 y1_8 y2_8 nT num Xs Ys)))) := G185 _ hr185.1 hr185.2
          refine own_step (fun t k => X183.iaload hx (j := (own_nx nT (own_r4 y1_8 y2_8 nT num Xs Ys))) (v := (.int (num (own_nx nT (own_r4 y1_8 y2_8 nT num Xs Ys))))) (by rw [e183]; exact Ar185.1) (State.isArrayOf_alike hZ.alike Ar185.2.1) Ar185.2.2 hin185 hat185 (g := (mkF m 165 #[.val (.ref o0_8), .val (.long y1_8), .second, .val (.long y2_8), .second, .val (.int (own_r4 y1_8 y2_8 nT num Xs Ys)), .val (.int (nT - (1 : Int32))), .val (.int (own_nx nT (own_r4 y1_8 y2_8 nT num Xs Ys))), .val (.int (own_h (Xs (own_nx nT (own_r4 y1_8 y2_8 nT num Xs Ys))) (Ys (own_nx nT (own_r4 y1_8 y2_8 nT num Xs Ys))) nT)), .val (.int (0 : Int32))] [(.int (own_nx nT (own_r4 y1_8 y2_8 nT num Xs Ys))), (.ref w_numbers_o0_8), (.int (own_r4 y1_8 y2_8 nT num Xs Ys)), (.ref w_numbers_o0_8)])) rfl rfl (hb hby d8_165) _ k) ?_
          show own_Ends p.tables e below s _ _ _ (T183.setTop (mkF m 166 #[.val (.ref o0_8), .val (.long y1_8), .second, .val (.long y2_8), .second, .val (.int (own_r4 y1_8 y2_8 nT num Xs Ys)), .val (.int (nT - (1 : Int32))), .val (.int (own_nx nT (own_r4 y1_8 y2_8 nT num Xs Ys))), .val (.int (own_h (Xs (own_nx nT (own_r4 y1_8 y2_8 nT num Xs Ys))) (Ys (own_nx nT (own_r4 y1_8 y2_8 nT num Xs Ys))) nT)), .val (.int (0 : Int32))] [(.int (num (own_nx nT (own_r4 y1_8 y2_8 nT num Xs Ys)))), (.int (own_r4 y1_8 y2_8 nT num Xs Ys)), (.ref w_numbers_o0_8)]))
          obtain ⟨cl186, Ar186, S186, N186, G186⟩ := id F184
          have hr186 : ¬ (own_r4 y1_8 y2_8 nT num Xs Ys) < 0 ∧ (own_r4 y1_8 y2_8 nT num Xs Ys) < nT := (own_srng _ _ _ _ _ _ hnT)
          have hin186 : ¬ ((own_r4 y1_8 y2_8 nT num Xs Ys) < 0 ∨ cl186.slots.size ≤ ((own_r4 y1_8 y2_8 nT num Xs Ys)).toNatClampNeg) := inb_of S186 hr186
          obtain ⟨T187, h187, X187, e187, W187, st187⟩ := stI X183 hx hZ e183 Ar186 (j := (own_r4 y1_8 y2_8 nT num Xs Ys)) hin186 (g := (mkF m 166 #[.val (.ref o0_8), .val (.long y1_8), .second, .val (.long y2_8), .second, .val (.int (own_r4 y1_8 y2_8 nT num Xs Ys)), .val (.int (nT - (1 : Int32))), .val (.int (own_nx nT (own_r4 y1_8 y2_8 nT num Xs Ys))), .val (.int (own_h (Xs (own_nx nT (own_r4 y1_8 y2_8 nT num Xs Ys))) (Ys (own_nx nT (own_r4 y1_8 y2_8 nT num Xs Ys))) nT)), .val (.int (0 : Int32))] [(.int (num (own_nx nT (own_r4 y1_8 y2_8 nT num Xs Ys)))), (.int (own_r4 y1_8 y2_8 nT num Xs Ys)), (.ref w_numbers_o0_8)])) rfl rfl (hb hby d8_166)
          refine own_step (fun t k => st187 _ k) ?_
          have V187 : own_ArI Z h187 w_numbers_o0_8 nT (own_upd num (own_r4 y1_8 y2_8 nT num Xs Ys) (num (own_nx nT (own_r4 y1_8 y2_8 nT num Xs Ys)))) := own_ArI.set (v := (num (own_nx nT (own_r4 y1_8 y2_8 nT num Xs Ys)))) ⟨cl186, Ar186, S186, N186, G186⟩ hr186.1 Ar186 W187
          have K188 : Keep h0 h187 [w_numbers_o0_8, o0_8, w_xs_o0_8, w_ys_o0_8] := K179.wr W187 (Or.inl (List.mem_of_getElem? (i := 0) rfl))
          have N189 := Fr.snoc X187 N180 g_w_numbers_o0_8
          refine own_step (fun t k => XS.iload X187.here hx rfl (hb hby d8_167) rfl k) ?_
          refine own_step (fun t k => XS.istore X187.here hx rfl (hb hby d8_169) rfl (l' := #[.val (.ref o0_8), .val (.long y1_8), .second, .val (.long y2_8), .second, .val (.int (own_nx nT (own_r4 y1_8 y2_8 nT num Xs Ys))), .val (.int (nT - (1 : Int32))), .val (.int (own_nx nT (own_r4 y1_8 y2_8 nT num Xs Ys))), .val (.int (own_h (Xs (own_nx nT (own_r4 y1_8 y2_8 nT num Xs Ys))) (Ys (own_nx nT (own_r4 y1_8 y2_8 nT num Xs Ys))) nT)), .val (.int (0 : Int32))]) rfl k) ?_
          refine own_step (fun t k => XS.iload X187.here hx rfl (hb hby d8_171) rfl k) ?_
          refine own_step (fun t k => XS.iconst X187.here hx rfl (hb hby d8_173) k) ?_
          refine own_step (fun t k => XS.iadd X187.here hx rfl (hb hby d8_174) rfl k) ?_
          refine own_step (fun t k => XS.iload X187.here hx rfl (hb hby d8_175) rfl k) ?_
          show own_Ends p.tables e below s _ _ _ (T187.setTop (mkF m 177 #[.val (.ref o0_8), .val (.long y1_8), .second, .val (.long y2_8), .second, .val (.int (own_nx nT (own_r4 y1_8 y2_8 nT num Xs Ys))), .val (.int (nT - (1 : Int32))), .val (.int (own_nx nT (own_r4 y1_8 y2_8 nT num Xs Ys))), .val (.int (own_h (Xs (own_nx nT (own_r4 y1_8 y2_8 nT num Xs Ys))) (Ys (own_nx nT (own_r4 y1_8 y2_8 nT num Xs Ys))) nT)), .val (.int (0 : Int32))] [(.int (nT - (1 : Int32))), (.int ((own_nx nT (own_r4 y1_8 y2_8 nT num Xs Ys)) + (1 : Int32)))]))
          refine own_step (fun t k => XS.iand X187.here hx rfl (hb hby d8_177) rfl k) ?_
          refine own_step (fun t k => XS.istore X187.here hx rfl (hb hby d8_178) rfl (l' := #[.val (.ref o0_8), .val (.long y1_8), .second, .val (.long y2_8), .second, .val (.int (own_nx nT (own_r4 y1_8 y2_8 nT num Xs Ys))), .val (.int (nT - (1 : Int32))), .val (.int (own_nx nT (own_nx nT (own_r4 y1_8 y2_8 nT num Xs Ys)))), .val (.int (own_h (Xs (own_nx nT (own_r4 y1_8 y2_8 nT num Xs Ys))) (Ys (own_nx nT (own_r4 y1_8 y2_8 nT num Xs Ys))) nT)), .val (.int (0 : Int32))]) rfl k) ?_
          refine own_step (fun t k => XS.goto X187.here hx rfl (pc0 := 180) (pc' := 37) rfl (hb hby d8_180) (by decide) (by decide) k) ?_
          refine own_step (fun t k => XS.aloadN X187.here hx rfl (hb hby d8_37) rfl rfl k) ?_
          show own_Ends p.tables e below s _ _ _ (T187.setTop (mkF m 38 #[.val (.ref o0_8), .val (.long y1_8), .second, .val (.long y2_8), .second, .val (.int (own_nx nT (own_r4 y1_8 y2_8 nT num Xs Ys))), .val (.int (nT - (1 : Int32))), .val (.int (own_nx nT (own_nx nT (own_r4 y1_8 y2_8 nT num Xs Ys)))), .val (.int (own_h (Xs (own_nx nT (own_r4 y1_8 y2_8 nT num Xs Ys))) (Ys (own_nx nT (own_r4 y1_8 y2_8 nT num Xs Ys))) nT)), .val (.int (0 : Int32))] [(.ref o0_8)]))
          have F190 : Fld Z h187 o0_8 "com/example/swanhall/swanhall/core/CellTable" "numbers" "[I" (.ref w_numbers_o0_8) := (F181.other W187 (Or.inl ne_o0_8_w_numbers_o0_8))
          obtain ⟨T191, X191, e191, st191⟩ := getF X187 hx hZ hown (host := "") (Or.inl (hw _ (List.mem_of_getElem? (i := 16) rfl))) Via.refl e187 F190 (g := (mkF m 38 #[.val (.ref o0_8), .val (.long y1_8), .second, .val (.long y2_8), .second, .val (.int (own_nx nT (own_r4 y1_8 y2_8 nT num Xs Ys))), .val (.int (nT - (1 : Int32))), .val (.int (own_nx nT (own_nx nT (own_r4 y1_8 y2_8 nT num Xs Ys)))), .val (.int (own_h (Xs (own_nx nT (own_r4 y1_8 y2_8 nT num Xs Ys))) (Ys (own_nx nT (own_r4 y1_8 y2_8 nT num Xs Ys))) nT)), .val (.int (0 : Int32))] [(.ref o0_8)])) rfl rfl (hb hby d8_38)
          refine own_step (fun t k => st191 _ k) ?_
          refine own_step (fun t k => XS.iload X191.here hx rfl (hb hby d8_41) rfl k) ?_
          show own_Ends p.tables e below s _ _ _ (T191.setTop (mkF m 43 #[.val (.ref o0_8), .val (.long y1_8), .second, .val (.long y2_8), .second, .val (.int (own_nx nT (own_r4 y1_8 y2_8 nT num Xs Ys))), .val (.int (nT - (1 : Int32))), .val (.int (own_nx nT (own_nx nT (own_r4 y1_8 y2_8 nT num Xs Ys)))), .val (.int (own_h (Xs (own_nx nT (own_r4 y1_8 y2_8 nT num Xs Ys))) (Ys (own_nx nT (own_r4 y1_8 y2_8 nT num Xs Ys))) nT)), .val (.int (0 : Int32))] [(.int (own_nx nT (own_nx nT (own_r4 y1_8 y2_8 nT num Xs Ys)))), (.ref w_numbers_o0_8)]))
          obtain ⟨cl192, Ar192, S192, N192, G192⟩ := id V187
          have hr192 : ¬ (own_nx nT (own_nx nT (own_r4 y1_8 y2_8 nT num Xs Ys))) < 0 ∧ (own_nx nT (own_nx nT (own_r4 y1_8 y2_8 nT num Xs Ys))) < nT := (own_rng _ _ hnT)
          have hin192 : ¬ ((own_nx nT (own_nx nT (own_r4 y1_8 y2_8 nT num Xs Ys))) < 0 ∨ cl192.slots.size ≤ ((own_nx nT (own_nx nT (own_r4 y1_8 y2_8 nT num Xs Ys)))).toNatClampNeg) := inb_of S192 hr192
          have hat192 : cl192.slots[((own_nx nT (own_nx nT (own_r4 y1_8 y2_8 nT num Xs Ys)))).toNatClampNeg]? = some (.int ((own_upd num (own_r4 y1_8 y2_8 nT num Xs Ys) (num (own_nx nT (own_r4 y1_8 y2_8 nT num Xs Ys)))) (own_nx nT (own_nx nT (own_r4 y1_8 y2_8 nT num Xs Ys))))) := G192 _ hr192.1 hr192.2
          refine own_step (fun t k => X191.iaload hx (j := (own_nx nT (own_nx nT (own_r4 y1_8 y2_8 nT num Xs Ys)))) (v := (.int ((own_upd num (own_r4 y1_8 y2_8 nT num Xs Ys) (num (own_nx nT (own_r4 y1_8 y2_8 nT num Xs Ys)))) (own_nx nT (own_nx nT (own_r4 y1_8 y2_8 nT num Xs Ys)))))) (by rw [e191]; exact Ar192.1) (State.isArrayOf_alike hZ.alike Ar192.2.1) Ar192.2.2 hin192 hat192 (g := (mkF m 43 #[.val (.ref o0_8), .val (.long y1_8), .second, .val (.long y2_8), .second, .val (.int (own_nx nT (own_r4 y1_8 y2_8 nT num Xs Ys))), .val (.int (nT - (1 : Int32))), .val (.int (own_nx nT (own_nx nT (own_r4 y1_8 y2_8 nT num Xs Ys)))), .val (.int (own_h (Xs (own_nx nT (own_r4 y1_8 y2_8 nT num Xs Ys))) (Ys (own_nx nT (own_r4 y1_8 y2_8 nT num Xs Ys))) nT)), .val (.int (0 : Int32))] [(.int (own_nx nT (own_nx nT (own_r4 y1_8 y2_8 nT num Xs Ys)))), (.ref w_numbers_o0_8)])) rfl rfl (hb hby d8_43) _ k) ?_
          show own_Ends p.tables e below s _ _ _ (T191.setTop (mkF m 44 #[.val (.ref o0_8), .val (.long y1_8), .second, .val (.long y2_8), .second, .val (.int (own_nx nT (own_r4 y1_8 y2_8 nT num Xs Ys))), .val (.int (nT - (1 : Int32))), .val (.int (own_nx nT (own_nx nT (own_r4 y1_8 y2_8 nT num Xs Ys)))), .val (.int (own_h (Xs (own_nx nT (own_r4 y1_8 y2_8 nT num Xs Ys))) (Ys (own_nx nT (own_r4 y1_8 y2_8 nT num Xs Ys))) nT)), .val (.int (0 : Int32))] [(.int ((own_upd num (own_r4 y1_8 y2_8 nT num Xs Ys) (num (own_nx nT (own_r4 y1_8 y2_8 nT num Xs Ys)))) (own_nx nT (own_nx nT (own_r4 y1_8 y2_8 nT num Xs Ys)))))]))
          have hc193 : ((own_upd num (own_r4 y1_8 y2_8 nT num Xs Ys) (num (own_nx nT (own_r4 y1_8 y2_8 nT num Xs Ys)))) (own_nx nT (own_nx nT (own_r4 y1_8 y2_8 nT num Xs Ys)))) = (0 : Int32) := ((own_upd_ne (hn2 _ (own_srng _ _ _ _ _ _ hnT).1 (own_srng _ _ _ _ _ _ hnT).2)).trans (hst _ hc15_5 hc44_10))
          refine own_step (fun t k => XS.ifYes X191.here hx rfl (pc0 := 44) (pc' := 183) rfl (hb hby d8_44) rfl ((if0 _ _).trans (teq hc193).1) (by decide) (by decide) k) ?_
          refine own_step (fun t k => XS.aloadN X191.here hx rfl (hb hby d8_183) rfl rfl k) ?_
          show own_Ends p.tables e below s _ _ _ (T191.setTop (mkF m 184 #[.val (.ref o0_8), .val (.long y1_8), .second, .val (.long y2_8), .second, .val (.int (own_nx nT (own_r4 y1_8 y2_8 nT num Xs Ys))), .val (.int (nT - (1 : Int32))), .val (.int (own_nx nT (own_nx nT (own_r4 y1_8 y2_8 nT num Xs Ys)))), .val (.int (own_h (Xs (own_nx nT (own_r4 y1_8 y2_8 nT num Xs Ys))) (Ys (own_nx nT (own_r4 y1_8 y2_8 nT num Xs Ys))) nT)), .val (.int (0 : Int32))] [(.ref o0_8)]))
          obtain ⟨T194, X194, e194, st194⟩ := getF X191 hx hZ hown (host := "") (Or.inl (hw _ (List.mem_of_getElem? (i := 16) rfl))) Via.refl e191 F190 (g := (mkF m 184 #[.val (.ref o0_8), .val (.long y1_8), .second, .val (.long y2_8), .second, .val (.int (own_nx nT (own_r4 y1_8 y2_8 nT num Xs Ys))), .val (.int (nT - (1 : Int32))), .val (.int (own_nx nT (own_nx nT (own_r4 y1_8 y2_8 nT num Xs Ys)))), .val (.int (own_h (Xs (own_nx nT (own_r4 y1_8 y2_8 nT num Xs Ys))) (Ys (own_nx nT (own_r4 y1_8 y2_8 nT num Xs Ys))) nT)), .val (.int (0 : Int32))] [(.ref o0_8)])) rfl rfl (hb hby d8_184)
          refine own_step (fun t k => st194 _ k) ?_
          refine own_step (fun t k => XS.iload X194.here hx rfl (hb hby d8_187) rfl k) ?_
          refine own_step (fun t k => XS.iconst X194.here hx rfl (hb hby d8_189) k) ?_
          show own_Ends p.tables e below s _ _ _ (T194.setTop (mkF m 190 #[.val (.ref o0_8), .val (.long y1_8), .second, .val (.long y2_8), .second, .val (.int (own_nx nT (own_r4 y1_8 y2_8 nT num Xs Ys))), .val (.int (nT - (1 : Int32))), .val (.int (own_nx nT (own_nx nT (own_r4 y1_8 y2_8 nT num Xs Ys)))), .val (.int (own_h (Xs (own_nx nT (own_r4 y1_8 y2_8 nT num Xs Ys))) (Ys (own_nx nT (own_r4 y1_8 y2_8 nT num Xs Ys))) nT)), .val (.int (0 : Int32))] [(.int (0 : Int32)), (.int (own_nx nT (own_r4 y1_8 y2_8 nT num Xs Ys))), (.ref w_numbers_o0_8)]))
          obtain ⟨cl195, Ar195, S195, N195, G195⟩ := id V187
          have hr195 : ¬ (own_nx nT (own_r4 y1_8 y2_8 nT num Xs Ys)) < 0 ∧ (own_nx nT (own_r4 y1_8 y2_8 nT num Xs Ys)) < nT := (own_rng _ _ hnT)
          have hin195 : ¬ ((own_nx nT (own_r4 y1_8 y2_8 nT num Xs Ys)) < 0 ∨ cl195.slots.size ≤ ((own_nx nT (own_r4 y1_8 y2_8 nT num Xs Ys))).toNatClampNeg) := inb_of S195 hr195
          obtain ⟨T196, h196, X196, e196, W196, st196⟩ := stI X194 hx hZ e194 Ar195 (j := (own_nx nT (own_r4 y1_8 y2_8 nT num Xs Ys))) hin195 (g := (mkF m 190 #[.val (.ref o0_8), .val (.long y1_8), .second, .val (.long y2_8), .second, .val (.int (own_nx nT (own_r4 y1_8 y2_8 nT num Xs Ys))), .val (.int (nT - (1 : Int32))), .val (.int (own_nx nT (own_nx nT (own_r4 y1_8 y2_8 nT num Xs Ys)))), .val (.int (own_h (Xs (own_nx nT (own_r4 y1_8 y2_8 nT num Xs Ys))) (Ys (own_nx nT (own_r4 y1_8 y2_8 nT num Xs Ys))) nT)), .val (.int (0 : Int32))] [(.int (0 : Int32)), (.int (own_nx nT (own_r4 y1_8 y2_8 nT num Xs Ys))), (.ref w_numbers_o0_8)])) rfl rfl (hb hby d8_190)
          refine own_step (fun t k => st196 _ k) ?_
          have V196 : own_ArI Z h196 w_numbers_o0_8 nT (own_upd (own_upd num (own_r4 y1_8 y2_8 nT num Xs Ys) (num (own_nx nT (own_r4 y1_8 y2_8 nT num Xs Ys)))) (own_nx nT (own_r4 y1_8 y2_8 nT num Xs Ys)) (0 : Int32)) := own_ArI.set (v := (0 : Int32)) ⟨cl195, Ar195, S195, N195, G195⟩ hr195.1 Ar195 W196
          have K197 : Keep h0 h196 [w_numbers_o0_8, o0_8, w_xs_o0_8, w_ys_o0_8] := K188.wr W196 (Or.inl (List.mem_of_getElem? (i := 0) rfl))
          have N198 := Fr.snoc X196 N189 g_w_numbers_o0_8
          refine own_step (fun t k => XS.aloadN X196.here hx rfl (hb hby d8_191) rfl rfl k) ?_
          refine own_step (fun t k => XS.dup X196.here hx rfl (hb hby d8_192) rfl rfl k) ?_
          show own_Ends p.tables e below s _ _ _ (T196.setTop (mkF m 193 #[.val (.ref o0_8), .val (.long y1_8), .second, .val (.long y2_8), .second, .val (.int (own_nx nT (own_r4 y1_8 y2_8 nT num Xs Ys))), .val (.int (nT - (1 : Int32))), .val (.int (own_nx nT (own_nx nT (own_r4 y1_8 y2_8 nT num Xs Ys)))), .val (.int (own_h (Xs (own_nx nT (own_r4 y1_8 y2_8 nT num Xs Ys))) (Ys (own_nx nT (own_r4 y1_8 y2_8 nT num Xs Ys))) nT)), .val (.int (0 : Int32))] [(.ref o0_8), (.ref o0_8)]))
          have F199 : Fld Z h187 o0_8 "com/example/swanhall/swanhall/core/CellTable" "size" "I" (.int w_size_o0_8) := (((F_size_o0_8.other W169 (Or.inl ne_o0_8_w_xs_o0_8)).other W178 (Or.inl ne_o0_8_w_ys_o0_8)).other W187 (Or.inl ne_o0_8_w_numbers_o0_8))
          have F200 : Fld Z h196 o0_8 "com/example/swanhall/swanhall/core/CellTable" "size" "I" (.int w_size_o0_8) := (F199.other W196 (Or.inl ne_o0_8_w_numbers_o0_8))
          obtain ⟨T201, X201, e201, st201⟩ := getF X196 hx hZ hown (host := "") (Or.inl (hw _ (List.mem_of_getElem? (i := 33) rfl))) Via.refl e196 F200 (g := (mkF m 193 #[.val (.ref o0_8), .val (.long y1_8), .second, .val (.long y2_8), .second, .val (.int (own_nx nT (own_r4 y1_8 y2_8 nT num Xs Ys))), .val (.int (nT - (1 : Int32))), .val (.int (own_nx nT (own_nx nT (own_r4 y1_8 y2_8 nT num Xs Ys)))), .val (.int (own_h (Xs (own_nx nT (own_r4 y1_8 y2_8 nT num Xs Ys))) (Ys (own_nx nT (own_r4 y1_8 y2_8 nT num Xs Ys))) nT)), .val (.int (0 : Int32))] [(.ref o0_8), (.ref o0_8)])) rfl rfl (hb hby d8_193)
          refine own_step (fun t k => st201 _ k) ?_
          refine own_step (fun t k => XS.iconst X201.here hx rfl (hb hby d8_196) k) ?_
          refine own_step (fun t k => XS.isub X201.here hx rfl (hb hby d8_197) rfl k) ?_
          show own_Ends p.tables e below s _ _ _ (T201.setTop (mkF m 198 #[.val (.ref o0_8), .val (.long y1_8), .second, .val (.long y2_8), .second, .val (.int (own_nx nT (own_r4 y1_8 y2_8 nT num Xs Ys))), .val (.int (nT - (1 : Int32))), .val (.int (own_nx nT (own_nx nT (own_r4 y1_8 y2_8 nT num Xs Ys)))), .val (.int (own_h (Xs (own_nx nT (own_r4 y1_8 y2_8 nT num Xs Ys))) (Ys (own_nx nT (own_r4 y1_8 y2_8 nT num Xs Ys))) nT)), .val (.int (0 : Int32))] [(.int (w_size_o0_8 - (1 : Int32))), (.ref o0_8)]))
          have F202 : Exa Z h187 o0_8 "com/example/swanhall/swanhall/core/CellTable" := (((E_o0_8.wr W169).wr W178).wr W187)
          have F203 : Exa Z h196 o0_8 "com/example/swanhall/swanhall/core/CellTable" := (F202.wr W196)
          obtain ⟨T204, h204, X204, e204, W204, st204⟩ := putF X201 hx hZ hown (host := "") (Or.inl (hw _ (List.mem_of_getElem? (i := 33) rfl))) Via.refl e201 F200 F203 (Or.inl (hw _ (List.mem_of_getElem? (i := 34) rfl))) (hw _ (List.mem_of_getElem? (i := 2) rfl)) (ty := .int) (by decide) rfl rfl (g := (mkF m 198 #[.val (.ref o0_8), .val (.long y1_8), .second, .val (.long y2_8), .second, .val (.int (own_nx nT (own_r4 y1_8 y2_8 nT num Xs Ys))), .val (.int (nT - (1 : Int32))), .val (.int (own_nx nT (own_nx nT (own_r4 y1_8 y2_8 nT num Xs Ys)))), .val (.int (own_h (Xs (own_nx nT (own_r4 y1_8 y2_8 nT num Xs Ys))) (Ys (own_nx nT (own_r4 y1_8 y2_8 nT num Xs Ys))) nT)), .val (.int (0 : Int32))] [(.int (w_size_o0_8 - (1 : Int32))), (.ref o0_8)])) rfl rfl (hb hby d8_198)
          refine own_step (fun t k => st204 _ k) ?_
          have F205 : Fld Z h204 o0_8 "com/example/swanhall/swanhall/core/CellTable" "size" "I" (.int (w_size_o0_8 - (1 : Int32))) := F200.same W204
          have K206 : Keep h0 h204 [w_numbers_o0_8, o0_8, w_xs_o0_8, w_ys_o0_8] := K197.wr W204 (Or.inl (List.mem_of_getElem? (i := 1) rfl))
          have N207 := Fr.snoc X204 N198 g_o0_8
          show own_Ends p.tables e below s _ _ _ (T204.setTop (mkF m 201 #[.val (.ref o0_8), .val (.long y1_8), .second, .val (.long y2_8), .second, .val (.int (own_nx nT (own_r4 y1_8 y2_8 nT num Xs Ys))), .val (.int (nT - (1 : Int32))), .val (.int (own_nx nT (own_nx nT (own_r4 y1_8 y2_8 nT num Xs Ys)))), .val (.int (own_h (Xs (own_nx nT (own_r4 y1_8 y2_8 nT num Xs Ys))) (Ys (own_nx nT (own_r4 y1_8 y2_8 nT num Xs Ys))) nT)), .val (.int (0 : Int32))] []))
          have F256 : own_ArI Z h204 w_numbers_o0_8 nT (own_upd (own_upd num (own_r4 y1_8 y2_8 nT num Xs Ys) (num (own_nx nT (own_r4 y1_8 y2_8 nT num Xs Ys)))) (own_nx nT (own_r4 y1_8 y2_8 nT num Xs Ys)) (0 : Int32)) := (V196.other W204 (Ne.symm ne_o0_8_w_numbers_o0_8))
          have F257 : Fld Z h204 o0_8 "com/example/swanhall/swanhall/core/CellTable" "numbers" "[I" (.ref w_numbers_o0_8) := ((F190.other W196 (Or.inl ne_o0_8_w_numbers_o0_8)).other W204 (Or.inr (slot_ne (Or.inl (hw _ (List.mem_of_getElem? (i := 17) rfl))) (Or.inl (hw _ (List.mem_of_getElem? (i := 34) rfl))) (by decide) (t := (.array .int)) (t' := .int) (by decide) (by decide))))
          have F258 : Fld Z h187 o0_8 "com/example/swanhall/swanhall/core/CellTable" "xs" "[J" (.ref w_xs_o0_8) := (((F_xs_o0_8.other W169 (Or.inl ne_o0_8_w_xs_o0_8)).other W178 (Or.inl ne_o0_8_w_ys_o0_8)).other W187 (Or.inl ne_o0_8_w_numbers_o0_8))
          have F259 : Fld Z h204 o0_8 "com/example/swanhall/swanhall/core/CellTable" "xs" "[J" (.ref w_xs_o0_8) := ((F258.other W196 (Or.inl ne_o0_8_w_numbers_o0_8)).other W204 (Or.inr (slot_ne (Or.inl (hw _ (List.mem_of_getElem? (i := 12) rfl))) (Or.inl (hw _ (List.mem_of_getElem? (i := 34) rfl))) (by decide) (t := (.array .long)) (t' := .int) (by decide) (by decide))))
          have F260 : Fld Z h196 o0_8 "com/example/swanhall/swanhall/core/CellTable" "ys" "[J" (.ref w_ys_o0_8) := (((F172.other W178 (Or.inl ne_o0_8_w_ys_o0_8)).other W187 (Or.inl ne_o0_8_w_numbers_o0_8)).other W196 (Or.inl ne_o0_8_w_numbers_o0_8))
          have F261 : Fld Z h204 o0_8 "com/example/swanhall/swanhall/core/CellTable" "ys" "[J" (.ref w_ys_o0_8) := (F260.other W204 (Or.inr (slot_ne (Or.inl (hw _ (List.mem_of_getElem? (i := 14) rfl))) (Or.inl (hw _ (List.mem_of_getElem? (i := 34) rfl))) (by decide) (t := (.array .long)) (t' := .int) (by decide) (by decide))))
          have F262 : Exa Z h204 o0_8 "com/example/swanhall/swanhall/core/CellTable" := (F203.wr W204)
          have F263 : own_ArJ Z h196 w_xs_o0_8 nT (own_upd Xs (own_r4 y1_8 y2_8 nT num Xs Ys) (Xs (own_nx nT (own_r4 y1_8 y2_8 nT num Xs Ys)))) := (((V169.other W178 (Ne.symm ne_w_ys_o0_8_w_xs_o0_8)).other W187 (Ne.symm ne_w_numbers_o0_8_w_xs_o0_8)).other W196 (Ne.symm ne_w_numbers_o0_8_w_xs_o0_8))
          have F264 : own_ArJ Z h204 w_xs_o0_8 nT (own_upd Xs (own_r4 y1_8 y2_8 nT num Xs Ys) (Xs (own_nx nT (own_r4 y1_8 y2_8 nT num Xs Ys)))) := (F263.other W204 (Ne.symm ne_o0_8_w_xs_o0_8))
          have F265 : own_ArJ Z h204 w_ys_o0_8 nT (own_upd Ys (own_r4 y1_8 y2_8 nT num Xs Ys) (Ys (own_nx nT (own_r4 y1_8 y2_8 nT num Xs Ys)))) := (((V178.other W187 (Ne.symm ne_w_numbers_o0_8_w_ys_o0_8)).other W196 (Ne.symm ne_w_numbers_o0_8_w_ys_o0_8)).other W204 (Ne.symm ne_o0_8_w_ys_o0_8))
          exact own_ret0 X204 hx Bd.returns (hb hby d8_201) hnl (by rw [e204]; exact ⟨rfl, N207, K206, (Eq.mpr (congrArg (fun z => own_ArI Z h204 w_numbers_o0_8 nT z) (show (own_p8_0 y1_8 y2_8 nT num Xs Ys) = (own_upd (own_upd num (own_r4 y1_8 y2_8 nT num Xs Ys) (num (own_nx nT (own_r4 y1_8 y2_8 nT num Xs Ys)))) (own_nx nT (own_r4 y1_8 y2_8 nT num Xs Ys)) (0 : Int32)) from by unfold own_p8_0; rw [if_neg hc15_5, if_neg hc44_10, if_neg hc71_29, if_neg hc78_105])) F256), F257, F259, F261, (Eq.mpr (congrArg (fun z => Fld Z h204 o0_8 "com/example/swanhall/swanhall/core/CellTable" "size" "I" (.int z)) (show (own_p8_1 y1_8 y2_8 nT num Xs Ys w_size_o0_8) = (w_size_o0_8 - (1 : Int32)) from by unfold own_p8_1; rw [if_neg hc15_5, if_neg hc44_10, if_neg hc71_29, if_neg hc78_105])) F205), F262, (Eq.mpr (congrArg (fun z => own_ArJ Z h204 w_xs_o0_8 nT z) (show (own_p8_2 y1_8 y2_8 nT num Xs Ys) = (own_upd Xs (own_r4 y1_8 y2_8 nT num Xs Ys) (Xs (own_nx nT (own_r4 y1_8 y2_8 nT num Xs Ys)))) from by unfold own_p8_2; rw [if_neg hc15_5, if_neg hc44_10, if_neg hc71_29, if_neg hc78_105])) F264), (Eq.mpr (congrArg (fun z => own_ArJ Z h204 w_ys_o0_8 nT z) (show (own_p8_3 y1_8 y2_8 nT num Xs Ys) = (own_upd Ys (own_r4 y1_8 y2_8 nT num Xs Ys) (Ys (own_nx nT (own_r4 y1_8 y2_8 nT num Xs Ys)))) from by unfold own_p8_3; rw [if_neg hc15_5, if_neg hc44_10, if_neg hc71_29, if_neg hc78_105])) F265)⟩) (by decide) (by decide)
theorem d1_0 : decode prog_30_method_2_code 0 = .ok (.aload_n 0, 1) := by decide +kernel
theorem d1_1 : decode prog_30_method_2_code 1 = .ok (.invokespecial 7, 3) := by decide +kernel
theorem d1_4 : decode prog_30_method_2_code 4 = .ok (.bipush 64, 2) := by decide +kernel
theorem d1_6 : decode prog_30_method_2_code 6 = .ok (.istore_n 2, 1) := by decide +kernel
theorem d1_7 : decode prog_30_method_2_code 7 = .ok (.iload_n 2, 1) := by decide +kernel
theorem d1_8 : decode prog_30_method_2_code 8 = .ok (.iconst 2, 1) := by decide +kernel
theorem d1_9 : decode prog_30_method_2_code 9 = .ok (.iload_n 1, 1) := by decide +kernel
theorem d1_10 : decode prog_30_method_2_code 10 = .ok (.imul, 1) := by decide +kernel
theorem d1_11 : decode prog_30_method_2_code 11 = .ok (.if_icmp .ge 10, 3) := by decide +kernel
theorem d1_14 : decode prog_30_method_2_code 14 = .ok (.iload_n 2, 1) := by decide +kernel
theorem d1_15 : decode prog_30_method_2_code 15 = .ok (.iconst 2, 1) := by decide +kernel
theorem d1_16 : decode prog_30_method_2_code 16 = .ok (.imul, 1) := by decide +kernel
theorem d1_17 : decode prog_30_method_2_code 17 = .ok (.istore_n 2, 1) := by decide +kernel
theorem d1_18 : decode prog_30_method_2_code 18 = .ok (.goto (-11), 3) := by decide +kernel
theorem d1_21 : decode prog_30_method_2_code 21 = .ok (.aload_n 0, 1) := by decide +kernel
theorem d1_22 : decode prog_30_method_2_code 22 = .ok (.iload_n 2, 1) := by decide +kernel
theorem d1_23 : decode prog_30_method_2_code 23 = .ok (.newarray .long, 2) := by decide +kernel
theorem d1_25 : decode prog_30_method_2_code 25 = .ok (.putfield 12, 3) := by decide +kernel
theorem d1_28 : decode prog_30_method_2_code 28 = .ok (.aload_n 0, 1) := by decide +kernel
theorem d1_29 : decode prog_30_method_2_code 29 = .ok (.iload_n 2, 1) := by decide +kernel
theorem d1_30 : decode prog_30_method_2_code 30 = .ok (.newarray .long, 2) := by decide +kernel
theorem d1_32 : decode prog_30_method_2_code 32 = .ok (.putfield 16, 3) := by decide +kernel
theorem d1_35 : decode prog_30_method_2_code 35 = .ok (.aload_n 0, 1) := by decide +kernel
theorem d1_36 : decode prog_30_method_2_code 36 = .ok (.iload_n 2, 1) := by decide +kernel
theorem d1_37 : decode prog_30_method_2_code 37 = .ok (.newarray .int, 2) := by decide +kernel
theorem d1_39 : decode prog_30_method_2_code 39 = .ok (.putfield 19, 3) := by decide +kernel
theorem d1_42 : decode prog_30_method_2_code 42 = .ok (.return_, 1) := by decide +kernel
theorem ef_1 (m : MethodId) (o0_1 : Addr) (x1_1 : Int32) : entryFrame m #[(.ref o0_1), (.int x1_1)] 3 = mkF m 0 #[.val (.ref o0_1), .val (.int x1_1), .unset] [] := by first | (simp [entryFrame, mkF, argsToLocals, Value.category]; done) | rfl
def Q1 (Z : State) (o0_1 : Addr) (x1_1 : Int32) (u_size_o0_1 : Value) (u_xs_o0_1 : Value) (u_ys_o0_1 : Value) (u_numbers_o0_1 : Value) (h0 : Heap) (n0 : Nat) (v : Option Value) (h : Heap) (L : List Loc) : Prop := ∃ (ax : Addr), ∃ (ay : Addr), ∃ (an : Addr), ∃ (nC : Int32), v = none ∧ Fr n0 L ∧ Keep h0 h [o0_1] ∧ h0.size ≤ ax ∧ h0.size ≤ ay ∧ h0.size ≤ an ∧ (nC = 64 ∨ nC = 128 ∨ nC = 256) ∧ Exa Z h o0_1 "com/example/swanhall/swanhall/core/CellTable" ∧ Fld Z h o0_1 "com/example/swanhall/swanhall/core/CellTable" "size" "I" u_size_o0_1 ∧ Fld Z h o0_1 "com/example/swanhall/swanhall/core/CellTable" "xs" "[J" (.ref ax) ∧ Fld Z h o0_1 "com/example/swanhall/swanhall/core/CellTable" "ys" "[J" (.ref ay) ∧ Fld Z h o0_1 "com/example/swanhall/swanhall/core/CellTable" "numbers" "[I" (.ref an) ∧ own_ArJ Z h ax nC (fun _ => (0 : Int64)) ∧ own_ArJ Z h ay nC (fun _ => (0 : Int64)) ∧ own_ArI Z h an nC (fun _ => (0 : Int32)) ∧ ax ≠ ay ∧ ax ≠ an ∧ ay ≠ an
set_option maxRecDepth 65536 in
set_option maxHeartbeats 40000000 in
theorem rm1 (l : Launch) (Z : State) (a0 : Array Value) (hw : ∀ d ∈ tables_1, d.before a0 Z = true) (ws : List Jvm.Cond) (o0_1 : Addr) (x1_1 : Int32) (u_size_o0_1 : Value) (u_xs_o0_1 : Value) (u_ys_o0_1 : Value) (u_numbers_o0_1 : Value) (h0 : Heap) (n0 : Nat) (O0 : Old Z n0 h0) (hcl : ¬ (256 : Int32) < ((2 : Int32) * x1_1)) (F_size_o0_1 : Fld Z h0 o0_1 "com/example/swanhall/swanhall/core/CellTable" "size" "I" u_size_o0_1) (E_o0_1 : Exa Z h0 o0_1 "com/example/swanhall/swanhall/core/CellTable") (F_xs_o0_1 : Fld Z h0 o0_1 "com/example/swanhall/swanhall/core/CellTable" "xs" "[J" u_xs_o0_1) (g_o0_1 : n0 ≤ o0_1) (F_ys_o0_1 : Fld Z h0 o0_1 "com/example/swanhall/swanhall/core/CellTable" "ys" "[J" u_ys_o0_1) (F_numbers_o0_1 : Fld Z h0 o0_1 "com/example/swanhall/swanhall/core/CellTable" "numbers" "[I" u_numbers_o0_1) :
    MetFree l (⟨"com/example/swanhall/swanhall/core/CellTable", "<init>", "(I)V"⟩ : MethodName) (head1 (Jvm.Cond.code (⟨"com/example/swanhall/swanhall/core/CellTable", "<init>", "(I)V"⟩ : MethodName) prog_30_method_2_code 3 none :: ws) ({ frames := 1, cells := 3, slots := 768, locals := 12 } : Room)) (fun a U => a = #[(.ref o0_1), (.int x1_1)] ∧ Z.Warmed39 U.vm ∧ U.heap = h0) (fun _ _ _ _ _ => True) (fun _ U o U' => ∃ v L, o = .returned v ∧ Q1 Z o0_1 x1_1 u_size_o0_1 u_xs_o0_1 u_ys_o0_1 u_numbers_o0_1 h0 n0 v U'.heap L ∧ FrameEnd U o U' L ({ frames := 1, cells := 3, slots := 768, locals := 12 } : Room).cells ({ frames := 1, cells := 3, slots := 768, locals := 12 } : Room).slots) := by
  refine MetFree.of_bodySF (plainFor_of_name pn_0) hisR ?_
  intro p e s m args below meth c s₁ Bd hml0 hP hK
  obtain ⟨rfl, hZ, hh⟩ := hP
  have hx := Bd.exec
  have hby := Bd.bytes
  have hnl := BodyLoose.notSynchronized Bd
  have hml : c.maxLocals = 3 := hml0
  have hown : s.vm.findClass "com/example/swanhall/swanhall/core/CellTable" = some m.cls := findClass_of_methodNamed Bd.named
  have hnm := (name_of_methodNamed Bd.named Bd.method).1
  have X0 : Stand p l e ({ frames := 1, cells := 3, slots := 768, locals := 12 } : Room) s m #[(.ref o0_1), (.int x1_1)] below meth c s₁ [] 0 0 := Stand.of_body Bd
  have e0 : s₁.heap = h0 := by rw [← hh, Bd.state]; rfl
  have N0 := Fr.nil n0
  show own_Ends p.tables e below s (Q1 Z o0_1 x1_1 u_size_o0_1 u_xs_o0_1 u_ys_o0_1 u_numbers_o0_1 h0 n0) 3 768 (s₁.setTop (entryFrame m #[(.ref o0_1), (.int x1_1)] 3))
  rw [ef_1 m o0_1 x1_1]
  show own_Ends p.tables e below s _ _ _ (s₁.setTop (mkF m 0 #[.val (.ref o0_1), .val (.int x1_1), .unset] []))
  refine own_step (fun t k => XS.aloadN X0.here hx rfl (hb hby d1_0) rfl rfl k) ?_
  show own_Ends p.tables e below s _ _ _ (s₁.setTop (mkF m 1 #[.val (.ref o0_1), .val (.int x1_1), .unset] [(.ref o0_1)]))
  obtain ⟨T1, X1, e1, st1⟩ := initO X0 hx hZ hown (hw _ (List.mem_of_getElem? (i := 7) rfl)) (hw _ (List.mem_of_getElem? (i := 8) rfl)) (hw _ (List.mem_of_getElem? (i := 9) rfl)) e0 (g := (mkF m 1 #[.val (.ref o0_1), .val (.int x1_1), .unset] [(.ref o0_1)])) rfl (by rw [hml]; rfl) rfl (hb hby d1_1) (by decide) (W := 0) (by show 2 * 0 + _ ≤ _; exact Nat.le_of_eq rfl) (by decide)
  refine own_step (fun t k => st1 _ k) ?_
  refine own_step (fun t k => XS.bipush X1.here hx rfl (hb hby d1_4) k) ?_
  refine own_step (fun t k => XS.istoreN X1.here hx rfl (hb hby d1_6) rfl (l' := #[.val (.ref o0_1), .val (.int x1_1), .val (.int (64 : Int32))]) rfl k) ?_
  refine own_step (fun t k => XS.iloadN X1.here hx rfl (hb hby d1_7) rfl k) ?_
  refine own_step (fun t k => XS.iconst X1.here hx rfl (hb hby d1_8) k) ?_
  refine own_step (fun t k => XS.iloadN X1.here hx rfl (hb hby d1_9) rfl k) ?_
  refine own_step (fun t k => XS.imul X1.here hx rfl (hb hby d1_10) rfl k) ?_
  show own_Ends p.tables e below s _ _ _ (T1.setTop (mkF m 11 #[.val (.ref o0_1), .val (.int x1_1), .val (.int (64 : Int32))] [(.int ((2 : Int32) * x1_1)), (.int (64 : Int32))]))
  by_cases hc11_2 : (64 : Int32) < ((2 : Int32) * x1_1)
  · skip
    refine own_step (fun t k => XS.icmpNo X1.here hx rfl (hb hby d1_11) rfl (tlt hc11_2).2.1 k) ?_
    refine own_step (fun t k => XS.iloadN X1.here hx rfl (hb hby d1_14) rfl k) ?_
    refine own_step (fun t k => XS.iconst X1.here hx rfl (hb hby d1_15) k) ?_
    refine own_step (fun t k => XS.imul X1.here hx rfl (hb hby d1_16) rfl k) ?_
    refine own_step (fun t k => XS.istoreN X1.here hx rfl (hb hby d1_17) rfl (l' := #[.val (.ref o0_1), .val (.int x1_1), .val (.int (128 : Int32))]) rfl k) ?_
    refine own_step (fun t k => XS.goto X1.here hx rfl (pc0 := 18) (pc' := 7) rfl (hb hby d1_18) (by decide) (by decide) k) ?_
    refine own_step (fun t k => XS.iloadN X1.here hx rfl (hb hby d1_7) rfl k) ?_
    show own_Ends p.tables e below s _ _ _ (T1.setTop (mkF m 8 #[.val (.ref o0_1), .val (.int x1_1), .val (.int (128 : Int32))] [(.int (128 : Int32))]))
    refine own_step (fun t k => XS.iconst X1.here hx rfl (hb hby d1_8) k) ?_
    refine own_step (fun t k => XS.iloadN X1.here hx rfl (hb hby d1_9) rfl k) ?_
    refine own_step (fun t k => XS.imul X1.here hx rfl (hb hby d1_10) rfl k) ?_
    show own_Ends p.tables e below s _ _ _ (T1.setTop (mkF m 11 #[.val (.ref o0_1), .val (.int x1_1), .val (.int (128 : Int32))] [(.int ((2 : Int32) * x1_1)), (.int (128 : Int32))]))
    by_cases hc11_3 : (128 : Int32) < ((2 : Int32) * x1_1)
    · skip
      refine own_step (fun t k => XS.icmpNo X1.here hx rfl (hb hby d1_11) rfl (tlt hc11_3).2.1 k) ?_
      refine own_step (fun t k => XS.iloadN X1.here hx rfl (hb hby d1_14) rfl k) ?_
      refine own_step (fun t k => XS.iconst X1.here hx rfl (hb hby d1_15) k) ?_
      refine own_step (fun t k => XS.imul X1.here hx rfl (hb hby d1_16) rfl k) ?_
      refine own_step (fun t k => XS.istoreN X1.here hx rfl (hb hby d1_17) rfl (l' := #[.val (.ref o0_1), .val (.int x1_1), .val (.int (256 : Int32))]) rfl k) ?_
      refine own_step (fun t k => XS.goto X1.here hx rfl (pc0 := 18) (pc' := 7) rfl (hb hby d1_18) (by decide) (by decide) k) ?_
      refine own_step (fun t k => XS.iloadN X1.here hx rfl (hb hby d1_7) rfl k) ?_
      show own_Ends p.tables e below s _ _ _ (T1.setTop (mkF m 8 #[.val (.ref o0_1), .val (.int x1_1), .val (.int (256 : Int32))] [(.int (256 : Int32))]))
      refine own_step (fun t k => XS.iconst X1.here hx rfl (hb hby d1_8) k) ?_
      refine own_step (fun t k => XS.iloadN X1.here hx rfl (hb hby d1_9) rfl k) ?_
      refine own_step (fun t k => XS.imul X1.here hx rfl (hb hby d1_10) rfl k) ?_
      show own_Ends p.tables e below s _ _ _ (T1.setTop (mkF m 11 #[.val (.ref o0_1), .val (.int x1_1), .val (.int (256 : Int32))] [(.int ((2 : Int32) * x1_1)), (.int (256 : Int32))]))
      have hc4 : ¬ ((256 : Int32) < ((2 : Int32) * x1_1)) := hcl
      refine own_step (fun t k => XS.icmpYes X1.here hx rfl (pc0 := 11) (pc' := 21) rfl (hb hby d1_11) rfl (flt hc4).2.1 (by decide) (by decide) k) ?_
      refine own_step (fun t k => XS.aloadN X1.here hx rfl (hb hby d1_21) rfl rfl k) ?_
      refine own_step (fun t k => XS.iloadN X1.here hx rfl (hb hby d1_22) rfl k) ?_
      show own_Ends p.tables e below s _ _ _ (T1.setTop (mkF m 23 #[.val (.ref o0_1), .val (.int x1_1), .val (.int (256 : Int32))] [(.int (256 : Int32)), (.ref o0_1)]))
      obtain ⟨T5, h5, k5, X5, e5, E5, A5, st5⟩ := newP X1 hx hZ (hw _ (List.mem_of_getElem? (i := 10) rfl)) e1 (g := (mkF m 23 #[.val (.ref o0_1), .val (.int x1_1), .val (.int (256 : Int32))] [(.int (256 : Int32)), (.ref o0_1)])) rfl (hb hby d1_23) rfl (by decide) (cap := 256) (by decide) (by decide) (by decide) (by decide)
      obtain ⟨b5, g5⟩ : ∃ z, z = h0.size := ⟨_, rfl⟩
      rw [← g5] at A5 st5
      have g_b5 : n0 ≤ b5 := Nat.le_trans (Nat.le_trans (Nat.le_of_eq O0.1.symm) O0.2.1) (Nat.le_of_eq g5.symm)
      have sz_b5 : h0.size ≤ b5 := Nat.le_trans (Keep.refl h0 [o0_1]).1 (Nat.le_of_eq g5.symm)
      have ne_o0_1_b5 : o0_1 ≠ b5 := Nat.ne_of_lt (Nat.lt_of_lt_of_le F_size_o0_1.lt (Nat.le_of_eq g5.symm))
      have V5 : own_ArJ Z h5 b5 (256 : Int32) (fun _ => (0 : Int64)) := own_ArJ.new A5 (by decide)
      refine own_step (fun t k => st5 _ k) ?_
      have K6 : Keep h0 h5 [o0_1] := (Keep.refl h0 [o0_1]).ext E5
      show own_Ends p.tables e below s _ _ _ (T5.setTop (mkF m 25 #[.val (.ref o0_1), .val (.int x1_1), .val (.int (256 : Int32))] [(.ref b5), (.ref o0_1)]))
      have F7 : Exa Z h5 o0_1 "com/example/swanhall/swanhall/core/CellTable" := (E_o0_1.ext E5)
      have F8 : Fld Z h5 o0_1 "com/example/swanhall/swanhall/core/CellTable" "xs" "[J" u_xs_o0_1 := (F_xs_o0_1.ext E5)
      obtain ⟨T9, h9, X9, e9, W9, st9⟩ := putF X5 hx hZ hown (host := "") (Or.inl (hw _ (List.mem_of_getElem? (i := 11) rfl))) Via.refl e5 F8 F7 (Or.inl (hw _ (List.mem_of_getElem? (i := 12) rfl))) (hw _ (List.mem_of_getElem? (i := 2) rfl)) (ty := (.array .long)) (by decide) rfl rfl (g := (mkF m 25 #[.val (.ref o0_1), .val (.int x1_1), .val (.int (256 : Int32))] [(.ref b5), (.ref o0_1)])) rfl rfl (hb hby d1_25)
      refine own_step (fun t k => st9 _ k) ?_
      have F10 : Fld Z h9 o0_1 "com/example/swanhall/swanhall/core/CellTable" "xs" "[J" (.ref b5) := F8.same W9
      have K11 : Keep h0 h9 [o0_1] := K6.wr W9 (Or.inl (List.mem_of_getElem? (i := 0) rfl))
      have N12 := Fr.snoc X9 N0 g_o0_1
      refine own_step (fun t k => XS.aloadN X9.here hx rfl (hb hby d1_28) rfl rfl k) ?_
      refine own_step (fun t k => XS.iloadN X9.here hx rfl (hb hby d1_29) rfl k) ?_
      show own_Ends p.tables e below s _ _ _ (T9.setTop (mkF m 30 #[.val (.ref o0_1), .val (.int x1_1), .val (.int (256 : Int32))] [(.int (256 : Int32)), (.ref o0_1)]))
      have O13 : Old Z n0 h9 := ((O0.ext E5).wr W9 g_o0_1)
      have F14 : Fld Z h9 o0_1 "com/example/swanhall/swanhall/core/CellTable" "size" "I" u_size_o0_1 := ((F_size_o0_1.ext E5).other W9 (Or.inr (slot_ne (Or.inl (hw _ (List.mem_of_getElem? (i := 34) rfl))) (Or.inl (hw _ (List.mem_of_getElem? (i := 12) rfl))) (by decide) (t := .int) (t' := (.array .long)) (by decide) (by decide))))
      have F15 : own_ArJ Z h9 b5 (256 : Int32) (fun _ => (0 : Int64)) := (V5.other W9 (Ne.symm ne_o0_1_b5))
      obtain ⟨T16, h16, k16, X16, e16, E16, A16, st16⟩ := newP X9 hx hZ (hw _ (List.mem_of_getElem? (i := 10) rfl)) e9 (g := (mkF m 30 #[.val (.ref o0_1), .val (.int x1_1), .val (.int (256 : Int32))] [(.int (256 : Int32)), (.ref o0_1)])) rfl (hb hby d1_30) rfl (by decide) (cap := 256) (by decide) (by decide) (by decide) (by decide)
      obtain ⟨b16, g16⟩ : ∃ z, z = h9.size := ⟨_, rfl⟩
      rw [← g16] at A16 st16
      have g_b16 : n0 ≤ b16 := Nat.le_trans (Nat.le_trans (Nat.le_of_eq O13.1.symm) O13.2.1) (Nat.le_of_eq g16.symm)
      have sz_b16 : h0.size ≤ b16 := Nat.le_trans K11.1 (Nat.le_of_eq g16.symm)
      have ne_o0_1_b16 : o0_1 ≠ b16 := Nat.ne_of_lt (Nat.lt_of_lt_of_le F14.lt (Nat.le_of_eq g16.symm))
      have ne_b5_b16 : b5 ≠ b16 := Nat.ne_of_lt (Nat.lt_of_lt_of_le F15.lt (Nat.le_of_eq g16.symm))
      have V16 : own_ArJ Z h16 b16 (256 : Int32) (fun _ => (0 : Int64)) := own_ArJ.new A16 (by decide)
      refine own_step (fun t k => st16 _ k) ?_
      have K17 : Keep h0 h16 [o0_1] := K11.ext E16
      show own_Ends p.tables e below s _ _ _ (T16.setTop (mkF m 32 #[.val (.ref o0_1), .val (.int x1_1), .val (.int (256 : Int32))] [(.ref b16), (.ref o0_1)]))
      have F18 : Exa Z h16 o0_1 "com/example/swanhall/swanhall/core/CellTable" := ((F7.wr W9).ext E16)
      have F19 : Fld Z h16 o0_1 "com/example/swanhall/swanhall/core/CellTable" "ys" "[J" u_ys_o0_1 := (((F_ys_o0_1.ext E5).other W9 (Or.inr (slot_ne (Or.inl (hw _ (List.mem_of_getElem? (i := 14) rfl))) (Or.inl (hw _ (List.mem_of_getElem? (i := 12) rfl))) (by decide) (t := (.array .long)) (t' := (.array .long)) (by decide) (by decide)))).ext E16)
      obtain ⟨T20, h20, X20, e20, W20, st20⟩ := putF X16 hx hZ hown (host := "") (Or.inl (hw _ (List.mem_of_getElem? (i := 13) rfl))) Via.refl e16 F19 F18 (Or.inl (hw _ (List.mem_of_getElem? (i := 14) rfl))) (hw _ (List.mem_of_getElem? (i := 2) rfl)) (ty := (.array .long)) (by decide) rfl rfl (g := (mkF m 32 #[.val (.ref o0_1), .val (.int x1_1), .val (.int (256 : Int32))] [(.ref b16), (.ref o0_1)])) rfl rfl (hb hby d1_32)
      refine own_step (fun t k => st20 _ k) ?_
      have F21 : Fld Z h20 o0_1 "com/example/swanhall/swanhall/core/CellTable" "ys" "[J" (.ref b16) := F19.same W20
      have K22 : Keep h0 h20 [o0_1] := K17.wr W20 (Or.inl (List.mem_of_getElem? (i := 0) rfl))
      have N23 := Fr.snoc X20 N12 g_o0_1
      refine own_step (fun t k => XS.aloadN X20.here hx rfl (hb hby d1_35) rfl rfl k) ?_
      refine own_step (fun t k => XS.iloadN X20.here hx rfl (hb hby d1_36) rfl k) ?_
      show own_Ends p.tables e below s _ _ _ (T20.setTop (mkF m 37 #[.val (.ref o0_1), .val (.int x1_1), .val (.int (256 : Int32))] [(.int (256 : Int32)), (.ref o0_1)]))
      have O24 : Old Z n0 h20 := ((O13.ext E16).wr W20 g_o0_1)
      have F25 : Fld Z h20 o0_1 "com/example/swanhall/swanhall/core/CellTable" "size" "I" u_size_o0_1 := ((F14.ext E16).other W20 (Or.inr (slot_ne (Or.inl (hw _ (List.mem_of_getElem? (i := 34) rfl))) (Or.inl (hw _ (List.mem_of_getElem? (i := 14) rfl))) (by decide) (t := .int) (t' := (.array .long)) (by decide) (by decide))))
      have F26 : own_ArJ Z h20 b5 (256 : Int32) (fun _ => (0 : Int64)) := ((F15.ext E16).other W20 (Ne.symm ne_o0_1_b5))
      have F27 : own_ArJ Z h20 b16 (256 : Int32) (fun _ => (0 : Int64)) := (V16.other W20 (Ne.symm ne_o0_1_b16))
      obtain ⟨T28, h28, k28, X28, e28, E28, A28, st28⟩ := newP X20 hx hZ (hw _ (List.mem_of_getElem? (i := 15) rfl)) e20 (g := (mkF m 37 #[.val (.ref o0_1), .val (.int x1_1), .val (.int (256 : Int32))] [(.int (256 : Int32)), (.ref o0_1)])) rfl (hb hby d1_37) rfl (by decide) (cap := 256) (by decide) (by decide) (by decide) (by decide)
      obtain ⟨b28, g28⟩ : ∃ z, z = h20.size := ⟨_, rfl⟩
      rw [← g28] at A28 st28
      have g_b28 : n0 ≤ b28 := Nat.le_trans (Nat.le_trans (Nat.le_of_eq O24.1.symm) O24.2.1) (Nat.le_of_eq g28.symm)
      have sz_b28 : h0.size ≤ b28 := Nat.le_trans K22.1 (Nat.le_of_eq g28.symm)
      have ne_o0_1_b28 : o0_1 ≠ b28 := Nat.ne_of_lt (Nat.lt_of_lt_of_le F25.lt (Nat.le_of_eq g28.symm))
      have ne_b5_b28 : b5 ≠ b28 := Nat.ne_of_lt (Nat.lt_of_lt_of_le F26.lt (Nat.le_of_eq g28.symm))
      have ne_b16_b28 : b16 ≠ b28 := Nat.ne_of_lt (Nat.lt_of_lt_of_le F27.lt (Nat.le_of_eq g28.symm))
      have V28 : own_ArI Z h28 b28 (256 : Int32) (fun _ => (0 : Int32)) := own_ArI.new A28 (by decide)
      refine own_step (fun t k => st28 _ k) ?_
      have K29 : Keep h0 h28 [o0_1] := K22.ext E28
      show own_Ends p.tables e below s _ _ _ (T28.setTop (mkF m 39 #[.val (.ref o0_1), .val (.int x1_1), .val (.int (256 : Int32))] [(.ref b28), (.ref o0_1)]))
      have F30 : Exa Z h28 o0_1 "com/example/swanhall/swanhall/core/CellTable" := ((F18.wr W20).ext E28)
      have F31 : Fld Z h16 o0_1 "com/example/swanhall/swanhall/core/CellTable" "numbers" "[I" u_numbers_o0_1 := (((F_numbers_o0_1.ext E5).other W9 (Or.inr (slot_ne (Or.inl (hw _ (List.mem_of_getElem? (i := 17) rfl))) (Or.inl (hw _ (List.mem_of_getElem? (i := 12) rfl))) (by decide) (t := (.array .int)) (t' := (.array .long)) (by decide) (by decide)))).ext E16)
      have F32 : Fld Z h28 o0_1 "com/example/swanhall/swanhall/core/CellTable" "numbers" "[I" u_numbers_o0_1 := ((F31.other W20 (Or.inr (slot_ne (Or.inl (hw _ (List.mem_of_getElem? (i := 17) rfl))) (Or.inl (hw _ (List.mem_of_getElem? (i := 14) rfl))) (by decide) (t := (.array .int)) (t' := (.array .long)) (by decide) (by decide)))).ext E28)
      obtain ⟨T33, h33, X33, e33, W33, st33⟩ := putF X28 hx hZ hown (host := "") (Or.inl (hw _ (List.mem_of_getElem? (i := 16) rfl))) Via.refl e28 F32 F30 (Or.inl (hw _ (List.mem_of_getElem? (i := 17) rfl))) (hw _ (List.mem_of_getElem? (i := 2) rfl)) (ty := (.array .int)) (by decide) rfl rfl (g := (mkF m 39 #[.val (.ref o0_1), .val (.int x1_1), .val (.int (256 : Int32))] [(.ref b28), (.ref o0_1)])) rfl rfl (hb hby d1_39)
      refine own_step (fun t k => st33 _ k) ?_
      have F34 : Fld Z h33 o0_1 "com/example/swanhall/swanhall/core/CellTable" "numbers" "[I" (.ref b28) := F32.same W33
      have K35 : Keep h0 h33 [o0_1] := K29.wr W33 (Or.inl (List.mem_of_getElem? (i := 0) rfl))
      have N36 := Fr.snoc X33 N23 g_o0_1
      show own_Ends p.tables e below s _ _ _ (T33.setTop (mkF m 42 #[.val (.ref o0_1), .val (.int x1_1), .val (.int (256 : Int32))] []))
      have F101 : Exa Z h33 o0_1 "com/example/swanhall/swanhall/core/CellTable" := (F30.wr W33)
      have F102 : Fld Z h33 o0_1 "com/example/swanhall/swanhall/core/CellTable" "size" "I" u_size_o0_1 := ((F25.ext E28).other W33 (Or.inr (slot_ne (Or.inl (hw _ (List.mem_of_getElem? (i := 34) rfl))) (Or.inl (hw _ (List.mem_of_getElem? (i := 17) rfl))) (by decide) (t := .int) (t' := (.array .int)) (by decide) (by decide))))
      have F103 : Fld Z h28 o0_1 "com/example/swanhall/swanhall/core/CellTable" "xs" "[J" (.ref b5) := (((F10.ext E16).other W20 (Or.inr (slot_ne (Or.inl (hw _ (List.mem_of_getElem? (i := 12) rfl))) (Or.inl (hw _ (List.mem_of_getElem? (i := 14) rfl))) (by decide) (t := (.array .long)) (t' := (.array .long)) (by decide) (by decide)))).ext E28)
      have F104 : Fld Z h33 o0_1 "com/example/swanhall/swanhall/core/CellTable" "xs" "[J" (.ref b5) := (F103.other W33 (Or.inr (slot_ne (Or.inl (hw _ (List.mem_of_getElem? (i := 12) rfl))) (Or.inl (hw _ (List.mem_of_getElem? (i := 17) rfl))) (by decide) (t := (.array .long)) (t' := (.array .int)) (by decide) (by decide))))
      have F105 : Fld Z h33 o0_1 "com/example/swanhall/swanhall/core/CellTable" "ys" "[J" (.ref b16) := ((F21.ext E28).other W33 (Or.inr (slot_ne (Or.inl (hw _ (List.mem_of_getElem? (i := 14) rfl))) (Or.inl (hw _ (List.mem_of_getElem? (i := 17) rfl))) (by decide) (t := (.array .long)) (t' := (.array .int)) (by decide) (by decide))))
      have F106 : own_ArJ Z h33 b5 (256 : Int32) (fun _ => (0 : Int64)) := ((F26.ext E28).other W33 (Ne.symm ne_o0_1_b5))
      have F107 : own_ArJ Z h33 b16 (256 : Int32) (fun _ => (0 : Int64)) := ((F27.ext E28).other W33 (Ne.symm ne_o0_1_b16))
      have F108 : own_ArI Z h33 b28 (256 : Int32) (fun _ => (0 : Int32)) := (V28.other W33 (Ne.symm ne_o0_1_b28))
      exact own_ret0 X33 hx Bd.returns (hb hby d1_42) hnl (by rw [e33]; exact ⟨b5, b16, b28, (256 : Int32), rfl, N36, K35, sz_b5, sz_b16, sz_b28, (Or.inr (Or.inr rfl)), F101, F102, F104, F105, F34, F106, F107, F108, ne_b5_b16, ne_b5_b28, ne_b16_b28⟩) (by decide) (by decide)
    · skip
      refine own_step (fun t k => XS.icmpYes X1.here hx rfl (pc0 := 11) (pc' := 21) rfl (hb hby d1_11) rfl (flt hc11_3).2.1 (by decide) (by decide) k) ?_
      refine own_step (fun t k => XS.aloadN X1.here hx rfl (hb hby d1_21) rfl rfl k) ?_
      refine own_step (fun t k => XS.iloadN X1.here hx rfl (hb hby d1_22) rfl k) ?_
      show own_Ends p.tables e below s _ _ _ (T1.setTop (mkF m 23 #[.val (.ref o0_1), .val (.int x1_1), .val (.int (128 : Int32))] [(.int (128 : Int32)), (.ref o0_1)]))
      obtain ⟨T37, h37, k37, X37, e37, E37, A37, st37⟩ := newP X1 hx hZ (hw _ (List.mem_of_getElem? (i := 10) rfl)) e1 (g := (mkF m 23 #[.val (.ref o0_1), .val (.int x1_1), .val (.int (128 : Int32))] [(.int (128 : Int32)), (.ref o0_1)])) rfl (hb hby d1_23) rfl (by decide) (cap := 128) (by decide) (by decide) (by decide) (by decide)
      obtain ⟨b37, g37⟩ : ∃ z, z = h0.size := ⟨_, rfl⟩
      rw [← g37] at A37 st37
      have g_b37 : n0 ≤ b37 := Nat.le_trans (Nat.le_trans (Nat.le_of_eq O0.1.symm) O0.2.1) (Nat.le_of_eq g37.symm)
      have sz_b37 : h0.size ≤ b37 := Nat.le_trans (Keep.refl h0 [o0_1]).1 (Nat.le_of_eq g37.symm)
      have ne_o0_1_b37 : o0_1 ≠ b37 := Nat.ne_of_lt (Nat.lt_of_lt_of_le F_size_o0_1.lt (Nat.le_of_eq g37.symm))
      have V37 : own_ArJ Z h37 b37 (128 : Int32) (fun _ => (0 : Int64)) := own_ArJ.new A37 (by decide)
      refine own_step (fun t k => st37 _ k) ?_
      have K38 : Keep h0 h37 [o0_1] := (Keep.refl h0 [o0_1]).ext E37
      show own_Ends p.tables e below s _ _ _ (T37.setTop (mkF m 25 #[.val (.ref o0_1), .val (.int x1_1), .val (.int (128 : Int32))] [(.ref b37), (.ref o0_1)]))
      have F39 : Exa Z h37 o0_1 "com/example/swanhall/swanhall/core/CellTable" := (E_o0_1.ext E37)
      have F40 : Fld Z h37 o0_1 "com/example/swanhall/swanhall/core/CellTable" "xs" "[J" u_xs_o0_1 := (F_xs_o0_1.ext E37)
      obtain ⟨T41, h41, X41, e41, W41, st41⟩ := putF X37 hx hZ hown (host := "") (Or.inl (hw _ (List.mem_of_getElem? (i := 11) rfl))) Via.refl e37 F40 F39 (Or.inl (hw _ (List.mem_of_getElem? (i := 12) rfl))) (hw _ (List.mem_of_getElem? (i := 2) rfl)) (ty := (.array .long)) (by decide) rfl rfl (g := (mkF m 25 #[.val (.ref o0_1), .val (.int x1_1), .val (.int (128 : Int32))] [(.ref b37), (.ref o0_1)])) rfl rfl (hb hby d1_25)
      refine own_step (fun t k => st41 _ k) ?_
      have F42 : Fld Z h41 o0_1 "com/example/swanhall/swanhall/core/CellTable" "xs" "[J" (.ref b37) := F40.same W41
      have K43 : Keep h0 h41 [o0_1] := K38.wr W41 (Or.inl (List.mem_of_getElem? (i := 0) rfl))
      have N44 := Fr.snoc X41 N0 g_o0_1
      refine own_step (fun t k => XS.aloadN X41.here hx rfl (hb hby d1_28) rfl rfl k) ?_
      refine own_step (fun t k => XS.iloadN X41.here hx rfl (hb hby d1_29) rfl k) ?_
      show own_Ends p.tables e below s _ _ _ (T41.setTop (mkF m 30 #[.val (.ref o0_1), .val (.int x1_1), .val (.int (128 : Int32))] [(.int (128 : Int32)), (.ref o0_1)]))
      have O45 : Old Z n0 h41 := ((O0.ext E37).wr W41 g_o0_1)
      have F46 : Fld Z h41 o0_1 "com/example/swanhall/swanhall/core/CellTable" "size" "I" u_size_o0_1 := ((F_size_o0_1.ext E37).other W41 (Or.inr (slot_ne (Or.inl (hw _ (List.mem_of_getElem? (i := 34) rfl))) (Or.inl (hw _ (List.mem_of_getElem? (i := 12) rfl))) (by decide) (t := .int) (t' := (.array .long)) (by decide) (by decide))))
      have F47 : own_ArJ Z h41 b37 (128 : Int32) (fun _ => (0 : Int64)) := (V37.other W41 (Ne.symm ne_o0_1_b37))
      obtain ⟨T48, h48, k48, X48, e48, E48, A48, st48⟩ := newP X41 hx hZ (hw _ (List.mem_of_getElem? (i := 10) rfl)) e41 (g := (mkF m 30 #[.val (.ref o0_1), .val (.int x1_1), .val (.int (128 : Int32))] [(.int (128 : Int32)), (.ref o0_1)])) rfl (hb hby d1_30) rfl (by decide) (cap := 128) (by decide) (by decide) (by decide) (by decide)
      obtain ⟨b48, g48⟩ : ∃ z, z = h41.size := ⟨_, rfl⟩
      rw [← g48] at A48 st48
      have g_b48 : n0 ≤ b48 := Nat.le_trans (Nat.le_trans (Nat.le_of_eq O45.1.symm) O45.2.1) (Nat.le_of_eq g48.symm)
      have sz_b48 : h0.size ≤ b48 := Nat.le_trans K43.1 (Nat.le_of_eq g48.symm)
      have ne_o0_1_b48 : o0_1 ≠ b48 := Nat.ne_of_lt (Nat.lt_of_lt_of_le F46.lt (Nat.le_of_eq g48.symm))
      have ne_b37_b48 : b37 ≠ b48 := Nat.ne_of_lt (Nat.lt_of_lt_of_le F47.lt (Nat.le_of_eq g48.symm))
      have V48 : own_ArJ Z h48 b48 (128 : Int32) (fun _ => (0 : Int64)) := own_ArJ.new A48 (by decide)
      refine own_step (fun t k => st48 _ k) ?_
      have K49 : Keep h0 h48 [o0_1] := K43.ext E48
      show own_Ends p.tables e below s _ _ _ (T48.setTop (mkF m 32 #[.val (.ref o0_1), .val (.int x1_1), .val (.int (128 : Int32))] [(.ref b48), (.ref o0_1)]))
      have F50 : Exa Z h48 o0_1 "com/example/swanhall/swanhall/core/CellTable" := ((F39.wr W41).ext E48)
      have F51 : Fld Z h48 o0_1 "com/example/swanhall/swanhall/core/CellTable" "ys" "[J" u_ys_o0_1 := (((F_ys_o0_1.ext E37).other W41 (Or.inr (slot_ne (Or.inl (hw _ (List.mem_of_getElem? (i := 14) rfl))) (Or.inl (hw _ (List.mem_of_getElem? (i := 12) rfl))) (by decide) (t := (.array .long)) (t' := (.array .long)) (by decide) (by decide)))).ext E48)
      obtain ⟨T52, h52, X52, e52, W52, st52⟩ := putF X48 hx hZ hown (host := "") (Or.inl (hw _ (List.mem_of_getElem? (i := 13) rfl))) Via.refl e48 F51 F50 (Or.inl (hw _ (List.mem_of_getElem? (i := 14) rfl))) (hw _ (List.mem_of_getElem? (i := 2) rfl)) (ty := (.array .long)) (by decide) rfl rfl (g := (mkF m 32 #[.val (.ref o0_1), .val (.int x1_1), .val (.int (128 : Int32))] [(.ref b48), (.ref o0_1)])) rfl rfl (hb hby d1_32)
      refine own_step (fun t k => st52 _ k) ?_
      have F53 : Fld Z h52 o0_1 "com/example/swanhall/swanhall/core/CellTable" "ys" "[J" (.ref b48) := F51.same W52
      have K54 : Keep h0 h52 [o0_1] := K49.wr W52 (Or.inl (List.mem_of_getElem? (i := 0) rfl))
      have N55 := Fr.snoc X52 N44 g_o0_1
      refine own_step (fun t k => XS.aloadN X52.here hx rfl (hb hby d1_35) rfl rfl k) ?_
      refine own_step (fun t k => XS.iloadN X52.here hx rfl (hb hby d1_36) rfl k) ?_
      show own_Ends p.tables e below s _ _ _ (T52.setTop (mkF m 37 #[.val (.ref o0_1), .val (.int x1_1), .val (.int (128 : Int32))] [(.int (128 : Int32)), (.ref o0_1)]))
      have O56 : Old Z n0 h52 := ((O45.ext E48).wr W52 g_o0_1)
      have F57 : Fld Z h52 o0_1 "com/example/swanhall/swanhall/core/CellTable" "size" "I" u_size_o0_1 := ((F46.ext E48).other W52 (Or.inr (slot_ne (Or.inl (hw _ (List.mem_of_getElem? (i := 34) rfl))) (Or.inl (hw _ (List.mem_of_getElem? (i := 14) rfl))) (by decide) (t := .int) (t' := (.array .long)) (by decide) (by decide))))
      have F58 : own_ArJ Z h52 b37 (128 : Int32) (fun _ => (0 : Int64)) := ((F47.ext E48).other W52 (Ne.symm ne_o0_1_b37))
      have F59 : own_ArJ Z h52 b48 (128 : Int32) (fun _ => (0 : Int64)) := (V48.other W52 (Ne.symm ne_o0_1_b48))
      obtain ⟨T60, h60, k60, X60, e60, E60, A60, st60⟩ := newP X52 hx hZ (hw _ (List.mem_of_getElem? (i := 15) rfl)) e52 (g := (mkF m 37 #[.val (.ref o0_1), .val (.int x1_1), .val (.int (128 : Int32))] [(.int (128 : Int32)), (.ref o0_1)])) rfl (hb hby d1_37) rfl (by decide) (cap := 128) (by decide) (by decide) (by decide) (by decide)
      obtain ⟨b60, g60⟩ : ∃ z, z = h52.size := ⟨_, rfl⟩
      rw [← g60] at A60 st60
      have g_b60 : n0 ≤ b60 := Nat.le_trans (Nat.le_trans (Nat.le_of_eq O56.1.symm) O56.2.1) (Nat.le_of_eq g60.symm)
      have sz_b60 : h0.size ≤ b60 := Nat.le_trans K54.1 (Nat.le_of_eq g60.symm)
      have ne_o0_1_b60 : o0_1 ≠ b60 := Nat.ne_of_lt (Nat.lt_of_lt_of_le F57.lt (Nat.le_of_eq g60.symm))
      have ne_b37_b60 : b37 ≠ b60 := Nat.ne_of_lt (Nat.lt_of_lt_of_le F58.lt (Nat.le_of_eq g60.symm))
      have ne_b48_b60 : b48 ≠ b60 := Nat.ne_of_lt (Nat.lt_of_lt_of_le F59.lt (Nat.le_of_eq g60.symm))
      have V60 : own_ArI Z h60 b60 (128 : Int32) (fun _ => (0 : Int32)) := own_ArI.new A60 (by decide)
      refine own_step (fun t k => st60 _ k) ?_
      have K61 : Keep h0 h60 [o0_1] := K54.ext E60
      show own_Ends p.tables e below s _ _ _ (T60.setTop (mkF m 39 #[.val (.ref o0_1), .val (.int x1_1), .val (.int (128 : Int32))] [(.ref b60), (.ref o0_1)]))
      have F62 : Exa Z h60 o0_1 "com/example/swanhall/swanhall/core/CellTable" := ((F50.wr W52).ext E60)
      have F63 : Fld Z h48 o0_1 "com/example/swanhall/swanhall/core/CellTable" "numbers" "[I" u_numbers_o0_1 := (((F_numbers_o0_1.ext E37).other W41 (Or.inr (slot_ne (Or.inl (hw _ (List.mem_of_getElem? (i := 17) rfl))) (Or.inl (hw _ (List.mem_of_getElem? (i := 12) rfl))) (by decide) (t := (.array .int)) (t' := (.array .long)) (by decide) (by decide)))).ext E48)
      have F64 : Fld Z h60 o0_1 "com/example/swanhall/swanhall/core/CellTable" "numbers" "[I" u_numbers_o0_1 := ((F63.other W52 (Or.inr (slot_ne (Or.inl (hw _ (List.mem_of_getElem? (i := 17) rfl))) (Or.inl (hw _ (List.mem_of_getElem? (i := 14) rfl))) (by decide) (t := (.array .int)) (t' := (.array .long)) (by decide) (by decide)))).ext E60)
      obtain ⟨T65, h65, X65, e65, W65, st65⟩ := putF X60 hx hZ hown (host := "") (Or.inl (hw _ (List.mem_of_getElem? (i := 16) rfl))) Via.refl e60 F64 F62 (Or.inl (hw _ (List.mem_of_getElem? (i := 17) rfl))) (hw _ (List.mem_of_getElem? (i := 2) rfl)) (ty := (.array .int)) (by decide) rfl rfl (g := (mkF m 39 #[.val (.ref o0_1), .val (.int x1_1), .val (.int (128 : Int32))] [(.ref b60), (.ref o0_1)])) rfl rfl (hb hby d1_39)
      refine own_step (fun t k => st65 _ k) ?_
      have F66 : Fld Z h65 o0_1 "com/example/swanhall/swanhall/core/CellTable" "numbers" "[I" (.ref b60) := F64.same W65
      have K67 : Keep h0 h65 [o0_1] := K61.wr W65 (Or.inl (List.mem_of_getElem? (i := 0) rfl))
      have N68 := Fr.snoc X65 N55 g_o0_1
      show own_Ends p.tables e below s _ _ _ (T65.setTop (mkF m 42 #[.val (.ref o0_1), .val (.int x1_1), .val (.int (128 : Int32))] []))
      have F109 : Exa Z h65 o0_1 "com/example/swanhall/swanhall/core/CellTable" := (F62.wr W65)
      have F110 : Fld Z h65 o0_1 "com/example/swanhall/swanhall/core/CellTable" "size" "I" u_size_o0_1 := ((F57.ext E60).other W65 (Or.inr (slot_ne (Or.inl (hw _ (List.mem_of_getElem? (i := 34) rfl))) (Or.inl (hw _ (List.mem_of_getElem? (i := 17) rfl))) (by decide) (t := .int) (t' := (.array .int)) (by decide) (by decide))))
      have F111 : Fld Z h60 o0_1 "com/example/swanhall/swanhall/core/CellTable" "xs" "[J" (.ref b37) := (((F42.ext E48).other W52 (Or.inr (slot_ne (Or.inl (hw _ (List.mem_of_getElem? (i := 12) rfl))) (Or.inl (hw _ (List.mem_of_getElem? (i := 14) rfl))) (by decide) (t := (.array .long)) (t' := (.array .long)) (by decide) (by decide)))).ext E60)
      have F112 : Fld Z h65 o0_1 "com/example/swanhall/swanhall/core/CellTable" "xs" "[J" (.ref b37) := (F111.other W65 (Or.inr (slot_ne (Or.inl (hw _ (List.mem_of_getElem? (i := 12) rfl))) (Or.inl (hw _ (List.mem_of_getElem? (i := 17) rfl))) (by decide) (t := (.array .long)) (t' := (.array .int)) (by decide) (by decide))))
      have F113 : Fld Z h65 o0_1 "com/example/swanhall/swanhall/core/CellTable" "ys" "[J" (.ref b48) := ((F53.ext E60).other W65 (Or.inr (slot_ne (Or.inl (hw _ (List.mem_of_getElem? (i := 14) rfl))) (Or.inl (hw _ (List.mem_of_getElem? (i := 17) rfl))) (by decide) (t := (.array .long)) (t' := (.array .int)) (by decide) (by decide))))
      have F114 : own_ArJ Z h65 b37 (128 : Int32) (fun _ => (0 : Int64)) := ((F58.ext E60).other W65 (Ne.symm ne_o0_1_b37))
      have F115 : own_ArJ Z h65 b48 (128 : Int32) (fun _ => (0 : Int64)) := ((F59.ext E60).other W65 (Ne.symm ne_o0_1_b48))
      have F116 : own_ArI Z h65 b60 (128 : Int32) (fun _ => (0 : Int32)) := (V60.other W65 (Ne.symm ne_o0_1_b60))
      exact own_ret0 X65 hx Bd.returns (hb hby d1_42) hnl (by rw [e65]; exact ⟨b37, b48, b60, (128 : Int32), rfl, N68, K67, sz_b37, sz_b48, sz_b60, (Or.inr (Or.inl rfl)), F109, F110, F112, F113, F66, F114, F115, F116, ne_b37_b48, ne_b37_b60, ne_b48_b60⟩) (by decide) (by decide)
  · skip
    refine own_step (fun t k => XS.icmpYes X1.here hx rfl (pc0 := 11) (pc' := 21) rfl (hb hby d1_11) rfl (flt hc11_2).2.1 (by decide) (by decide) k) ?_
    refine own_step (fun t k => XS.aloadN X1.here hx rfl (hb hby d1_21) rfl rfl k) ?_
    refine own_step (fun t k => XS.iloadN X1.here hx rfl (hb hby d1_22) rfl k) ?_
    show own_Ends p.tables e below s _ _ _ (T1.setTop (mkF m 23 #[.val (.ref o0_1), .val (.int x1_1), .val (.int (64 : Int32))] [(.int (64 : Int32)), (.ref o0_1)]))
    obtain ⟨T69, h69, k69, X69, e69, E69, A69, st69⟩ := newP X1 hx hZ (hw _ (List.mem_of_getElem? (i := 10) rfl)) e1 (g := (mkF m 23 #[.val (.ref o0_1), .val (.int x1_1), .val (.int (64 : Int32))] [(.int (64 : Int32)), (.ref o0_1)])) rfl (hb hby d1_23) rfl (by decide) (cap := 64) (by decide) (by decide) (by decide) (by decide)
    obtain ⟨b69, g69⟩ : ∃ z, z = h0.size := ⟨_, rfl⟩
    rw [← g69] at A69 st69
    have g_b69 : n0 ≤ b69 := Nat.le_trans (Nat.le_trans (Nat.le_of_eq O0.1.symm) O0.2.1) (Nat.le_of_eq g69.symm)
    have sz_b69 : h0.size ≤ b69 := Nat.le_trans (Keep.refl h0 [o0_1]).1 (Nat.le_of_eq g69.symm)
    have ne_o0_1_b69 : o0_1 ≠ b69 := Nat.ne_of_lt (Nat.lt_of_lt_of_le F_size_o0_1.lt (Nat.le_of_eq g69.symm))
    have V69 : own_ArJ Z h69 b69 (64 : Int32) (fun _ => (0 : Int64)) := own_ArJ.new A69 (by decide)
    refine own_step (fun t k => st69 _ k) ?_
    have K70 : Keep h0 h69 [o0_1] := (Keep.refl h0 [o0_1]).ext E69
    show own_Ends p.tables e below s _ _ _ (T69.setTop (mkF m 25 #[.val (.ref o0_1), .val (.int x1_1), .val (.int (64 : Int32))] [(.ref b69), (.ref o0_1)]))
    have F71 : Exa Z h69 o0_1 "com/example/swanhall/swanhall/core/CellTable" := (E_o0_1.ext E69)
    have F72 : Fld Z h69 o0_1 "com/example/swanhall/swanhall/core/CellTable" "xs" "[J" u_xs_o0_1 := (F_xs_o0_1.ext E69)
    obtain ⟨T73, h73, X73, e73, W73, st73⟩ := putF X69 hx hZ hown (host := "") (Or.inl (hw _ (List.mem_of_getElem? (i := 11) rfl))) Via.refl e69 F72 F71 (Or.inl (hw _ (List.mem_of_getElem? (i := 12) rfl))) (hw _ (List.mem_of_getElem? (i := 2) rfl)) (ty := (.array .long)) (by decide) rfl rfl (g := (mkF m 25 #[.val (.ref o0_1), .val (.int x1_1), .val (.int (64 : Int32))] [(.ref b69), (.ref o0_1)])) rfl rfl (hb hby d1_25)
    refine own_step (fun t k => st73 _ k) ?_
    have F74 : Fld Z h73 o0_1 "com/example/swanhall/swanhall/core/CellTable" "xs" "[J" (.ref b69) := F72.same W73
    have K75 : Keep h0 h73 [o0_1] := K70.wr W73 (Or.inl (List.mem_of_getElem? (i := 0) rfl))
    have N76 := Fr.snoc X73 N0 g_o0_1
    refine own_step (fun t k => XS.aloadN X73.here hx rfl (hb hby d1_28) rfl rfl k) ?_
    refine own_step (fun t k => XS.iloadN X73.here hx rfl (hb hby d1_29) rfl k) ?_
    show own_Ends p.tables e below s _ _ _ (T73.setTop (mkF m 30 #[.val (.ref o0_1), .val (.int x1_1), .val (.int (64 : Int32))] [(.int (64 : Int32)), (.ref o0_1)]))
    have O77 : Old Z n0 h73 := ((O0.ext E69).wr W73 g_o0_1)
    have F78 : Fld Z h73 o0_1 "com/example/swanhall/swanhall/core/CellTable" "size" "I" u_size_o0_1 := ((F_size_o0_1.ext E69).other W73 (Or.inr (slot_ne (Or.inl (hw _ (List.mem_of_getElem? (i := 34) rfl))) (Or.inl (hw _ (List.mem_of_getElem? (i := 12) rfl))) (by decide) (t := .int) (t' := (.array .long)) (by decide) (by decide))))
    have F79 : own_ArJ Z h73 b69 (64 : Int32) (fun _ => (0 : Int64)) := (V69.other W73 (Ne.symm ne_o0_1_b69))
    obtain ⟨T80, h80, k80, X80, e80, E80, A80, st80⟩ := newP X73 hx hZ (hw _ (List.mem_of_getElem? (i := 10) rfl)) e73 (g := (mkF m 30 #[.val (.ref o0_1), .val (.int x1_1), .val (.int (64 : Int32))] [(.int (64 : Int32)), (.ref o0_1)])) rfl (hb hby d1_30) rfl (by decide) (cap := 64) (by decide) (by decide) (by decide) (by decide)
    obtain ⟨b80, g80⟩ : ∃ z, z = h73.size := ⟨_, rfl⟩
    rw [← g80] at A80 st80
    have g_b80 : n0 ≤ b80 := Nat.le_trans (Nat.le_trans (Nat.le_of_eq O77.1.symm) O77.2.1) (Nat.le_of_eq g80.symm)
    have sz_b80 : h0.size ≤ b80 := Nat.le_trans K75.1 (Nat.le_of_eq g80.symm)
    have ne_o0_1_b80 : o0_1 ≠ b80 := Nat.ne_of_lt (Nat.lt_of_lt_of_le F78.lt (Nat.le_of_eq g80.symm))
    have ne_b69_b80 : b69 ≠ b80 := Nat.ne_of_lt (Nat.lt_of_lt_of_le F79.lt (Nat.le_of_eq g80.symm))
    have V80 : own_ArJ Z h80 b80 (64 : Int32) (fun _ => (0 : Int64)) := own_ArJ.new A80 (by decide)
    refine own_step (fun t k => st80 _ k) ?_
    have K81 : Keep h0 h80 [o0_1] := K75.ext E80
    show own_Ends p.tables e below s _ _ _ (T80.setTop (mkF m 32 #[.val (.ref o0_1), .val (.int x1_1), .val (.int (64 : Int32))] [(.ref b80), (.ref o0_1)]))
    have F82 : Exa Z h80 o0_1 "com/example/swanhall/swanhall/core/CellTable" := ((F71.wr W73).ext E80)
    have F83 : Fld Z h80 o0_1 "com/example/swanhall/swanhall/core/CellTable" "ys" "[J" u_ys_o0_1 := (((F_ys_o0_1.ext E69).other W73 (Or.inr (slot_ne (Or.inl (hw _ (List.mem_of_getElem? (i := 14) rfl))) (Or.inl (hw _ (List.mem_of_getElem? (i := 12) rfl))) (by decide) (t := (.array .long)) (t' := (.array .long)) (by decide) (by decide)))).ext E80)
    obtain ⟨T84, h84, X84, e84, W84, st84⟩ := putF X80 hx hZ hown (host := "") (Or.inl (hw _ (List.mem_of_getElem? (i := 13) rfl))) Via.refl e80 F83 F82 (Or.inl (hw _ (List.mem_of_getElem? (i := 14) rfl))) (hw _ (List.mem_of_getElem? (i := 2) rfl)) (ty := (.array .long)) (by decide) rfl rfl (g := (mkF m 32 #[.val (.ref o0_1), .val (.int x1_1), .val (.int (64 : Int32))] [(.ref b80), (.ref o0_1)])) rfl rfl (hb hby d1_32)
    refine own_step (fun t k => st84 _ k) ?_
    have F85 : Fld Z h84 o0_1 "com/example/swanhall/swanhall/core/CellTable" "ys" "[J" (.ref b80) := F83.same W84
    have K86 : Keep h0 h84 [o0_1] := K81.wr W84 (Or.inl (List.mem_of_getElem? (i := 0) rfl))
    have N87 := Fr.snoc X84 N76 g_o0_1
    refine own_step (fun t k => XS.aloadN X84.here hx rfl (hb hby d1_35) rfl rfl k) ?_
    refine own_step (fun t k => XS.iloadN X84.here hx rfl (hb hby d1_36) rfl k) ?_
    show own_Ends p.tables e below s _ _ _ (T84.setTop (mkF m 37 #[.val (.ref o0_1), .val (.int x1_1), .val (.int (64 : Int32))] [(.int (64 : Int32)), (.ref o0_1)]))
    have O88 : Old Z n0 h84 := ((O77.ext E80).wr W84 g_o0_1)
    have F89 : Fld Z h84 o0_1 "com/example/swanhall/swanhall/core/CellTable" "size" "I" u_size_o0_1 := ((F78.ext E80).other W84 (Or.inr (slot_ne (Or.inl (hw _ (List.mem_of_getElem? (i := 34) rfl))) (Or.inl (hw _ (List.mem_of_getElem? (i := 14) rfl))) (by decide) (t := .int) (t' := (.array .long)) (by decide) (by decide))))
    have F90 : own_ArJ Z h84 b69 (64 : Int32) (fun _ => (0 : Int64)) := ((F79.ext E80).other W84 (Ne.symm ne_o0_1_b69))
    have F91 : own_ArJ Z h84 b80 (64 : Int32) (fun _ => (0 : Int64)) := (V80.other W84 (Ne.symm ne_o0_1_b80))
    obtain ⟨T92, h92, k92, X92, e92, E92, A92, st92⟩ := newP X84 hx hZ (hw _ (List.mem_of_getElem? (i := 15) rfl)) e84 (g := (mkF m 37 #[.val (.ref o0_1), .val (.int x1_1), .val (.int (64 : Int32))] [(.int (64 : Int32)), (.ref o0_1)])) rfl (hb hby d1_37) rfl (by decide) (cap := 64) (by decide) (by decide) (by decide) (by decide)
    obtain ⟨b92, g92⟩ : ∃ z, z = h84.size := ⟨_, rfl⟩
    rw [← g92] at A92 st92
    have g_b92 : n0 ≤ b92 := Nat.le_trans (Nat.le_trans (Nat.le_of_eq O88.1.symm) O88.2.1) (Nat.le_of_eq g92.symm)
    have sz_b92 : h0.size ≤ b92 := Nat.le_trans K86.1 (Nat.le_of_eq g92.symm)
    have ne_o0_1_b92 : o0_1 ≠ b92 := Nat.ne_of_lt (Nat.lt_of_lt_of_le F89.lt (Nat.le_of_eq g92.symm))
    have ne_b69_b92 : b69 ≠ b92 := Nat.ne_of_lt (Nat.lt_of_lt_of_le F90.lt (Nat.le_of_eq g92.symm))
    have ne_b80_b92 : b80 ≠ b92 := Nat.ne_of_lt (Nat.lt_of_lt_of_le F91.lt (Nat.le_of_eq g92.symm))
    have V92 : own_ArI Z h92 b92 (64 : Int32) (fun _ => (0 : Int32)) := own_ArI.new A92 (by decide)
    refine own_step (fun t k => st92 _ k) ?_
    have K93 : Keep h0 h92 [o0_1] := K86.ext E92
    show own_Ends p.tables e below s _ _ _ (T92.setTop (mkF m 39 #[.val (.ref o0_1), .val (.int x1_1), .val (.int (64 : Int32))] [(.ref b92), (.ref o0_1)]))
    have F94 : Exa Z h92 o0_1 "com/example/swanhall/swanhall/core/CellTable" := ((F82.wr W84).ext E92)
    have F95 : Fld Z h80 o0_1 "com/example/swanhall/swanhall/core/CellTable" "numbers" "[I" u_numbers_o0_1 := (((F_numbers_o0_1.ext E69).other W73 (Or.inr (slot_ne (Or.inl (hw _ (List.mem_of_getElem? (i := 17) rfl))) (Or.inl (hw _ (List.mem_of_getElem? (i := 12) rfl))) (by decide) (t := (.array .int)) (t' := (.array .long)) (by decide) (by decide)))).ext E80)
    have F96 : Fld Z h92 o0_1 "com/example/swanhall/swanhall/core/CellTable" "numbers" "[I" u_numbers_o0_1 := ((F95.other W84 (Or.inr (slot_ne (Or.inl (hw _ (List.mem_of_getElem? (i := 17) rfl))) (Or.inl (hw _ (List.mem_of_getElem? (i := 14) rfl))) (by decide) (t := (.array .int)) (t' := (.array .long)) (by decide) (by decide)))).ext E92)
    obtain ⟨T97, h97, X97, e97, W97, st97⟩ := putF X92 hx hZ hown (host := "") (Or.inl (hw _ (List.mem_of_getElem? (i := 16) rfl))) Via.refl e92 F96 F94 (Or.inl (hw _ (List.mem_of_getElem? (i := 17) rfl))) (hw _ (List.mem_of_getElem? (i := 2) rfl)) (ty := (.array .int)) (by decide) rfl rfl (g := (mkF m 39 #[.val (.ref o0_1), .val (.int x1_1), .val (.int (64 : Int32))] [(.ref b92), (.ref o0_1)])) rfl rfl (hb hby d1_39)
    refine own_step (fun t k => st97 _ k) ?_
    have F98 : Fld Z h97 o0_1 "com/example/swanhall/swanhall/core/CellTable" "numbers" "[I" (.ref b92) := F96.same W97
    have K99 : Keep h0 h97 [o0_1] := K93.wr W97 (Or.inl (List.mem_of_getElem? (i := 0) rfl))
    have N100 := Fr.snoc X97 N87 g_o0_1
    show own_Ends p.tables e below s _ _ _ (T97.setTop (mkF m 42 #[.val (.ref o0_1), .val (.int x1_1), .val (.int (64 : Int32))] []))
    have F117 : Exa Z h97 o0_1 "com/example/swanhall/swanhall/core/CellTable" := (F94.wr W97)
    have F118 : Fld Z h97 o0_1 "com/example/swanhall/swanhall/core/CellTable" "size" "I" u_size_o0_1 := ((F89.ext E92).other W97 (Or.inr (slot_ne (Or.inl (hw _ (List.mem_of_getElem? (i := 34) rfl))) (Or.inl (hw _ (List.mem_of_getElem? (i := 17) rfl))) (by decide) (t := .int) (t' := (.array .int)) (by decide) (by decide))))
    have F119 : Fld Z h92 o0_1 "com/example/swanhall/swanhall/core/CellTable" "xs" "[J" (.ref b69) := (((F74.ext E80).other W84 (Or.inr (slot_ne (Or.inl (hw _ (List.mem_of_getElem? (i := 12) rfl))) (Or.inl (hw _ (List.mem_of_getElem? (i := 14) rfl))) (by decide) (t := (.array .long)) (t' := (.array .long)) (by decide) (by decide)))).ext E92)
    have F120 : Fld Z h97 o0_1 "com/example/swanhall/swanhall/core/CellTable" "xs" "[J" (.ref b69) := (F119.other W97 (Or.inr (slot_ne (Or.inl (hw _ (List.mem_of_getElem? (i := 12) rfl))) (Or.inl (hw _ (List.mem_of_getElem? (i := 17) rfl))) (by decide) (t := (.array .long)) (t' := (.array .int)) (by decide) (by decide))))
    have F121 : Fld Z h97 o0_1 "com/example/swanhall/swanhall/core/CellTable" "ys" "[J" (.ref b80) := ((F85.ext E92).other W97 (Or.inr (slot_ne (Or.inl (hw _ (List.mem_of_getElem? (i := 14) rfl))) (Or.inl (hw _ (List.mem_of_getElem? (i := 17) rfl))) (by decide) (t := (.array .long)) (t' := (.array .int)) (by decide) (by decide))))
    have F122 : own_ArJ Z h97 b69 (64 : Int32) (fun _ => (0 : Int64)) := ((F90.ext E92).other W97 (Ne.symm ne_o0_1_b69))
    have F123 : own_ArJ Z h97 b80 (64 : Int32) (fun _ => (0 : Int64)) := ((F91.ext E92).other W97 (Ne.symm ne_o0_1_b80))
    have F124 : own_ArI Z h97 b92 (64 : Int32) (fun _ => (0 : Int32)) := (V92.other W97 (Ne.symm ne_o0_1_b92))
    exact own_ret0 X97 hx Bd.returns (hb hby d1_42) hnl (by rw [e97]; exact ⟨b69, b80, b92, (64 : Int32), rfl, N100, K99, sz_b69, sz_b80, sz_b92, (Or.inl rfl), F117, F118, F120, F121, F98, F122, F123, F124, ne_b69_b80, ne_b69_b92, ne_b80_b92⟩) (by decide) (by decide)
theorem own_lc (a b : Int64) : lcmpW a b = 0 ↔ a = b := by rw [lcW]; exact lc_eq a b
theorem own_same (x y u v : Int64) : own_r7 x y u v = 0 ↔ ¬ (x = u ∧ y = v) := by
  unfold own_r7
  simp only [own_lc]
  by_cases e1 : x = u <;> by_cases e2 : y = v <;> simp [e1, e2]
def own_N (n : Int32) : Prop := n = 64 ∨ n = 128 ∨ n = 256
theorem own_Npos {n : Int32} (hn : own_N n) : (0 : Int32) < n := by rcases hn with rfl | rfl | rfl <;> decide
def own_R (n s : Int32) : Prop := ¬ s < 0 ∧ s < n
theorem own_Rh {n : Int32} (hn : own_N n) (x y : Int64) : own_R n (own_h x y n) := own_rng _ _ (own_Npos hn)
theorem own_Rnx {n : Int32} (hn : own_N n) (s : Int32) : own_R n (own_nx n s) := own_rng _ _ (own_Npos hn)
theorem own_Ri {n s : Int32} (h : own_R n s) : 0 ≤ s.toInt ∧ s.toInt < n.toInt := by
  obtain ⟨h1, h2⟩ := h
  rw [Int32.lt_iff_toInt_lt] at h1 h2
  have e0 : (0 : Int32).toInt = 0 := rfl
  omega
theorem own_nxv {n s : Int32} (hn : own_N n) (h : own_R n s) : (n.toInt = 64 ∨ n.toInt = 128 ∨ n.toInt = 256) ∧ ((own_nx n s).toInt = s.toInt + 1 ∧ s.toInt + 1 < n.toInt ∨ (own_nx n s).toInt = 0 ∧ s.toInt + 1 = n.toInt) := by
  obtain ⟨r1, r2⟩ := own_Ri h
  have a := c_iadd s 1
  have e1 : (1 : Int32).toInt = 1 := rfl
  have l3 := (s + 1).toInt_lt; have l4 := (s + 1).le_toInt
  rcases hn with rfl | rfl | rfl
  · have m := c_mask (s + 1) 63 6 (by decide) (by decide)
    have e : (64 : Int32).toInt = 64 := rfl
    have q : own_nx 64 s = (s + 1) &&& 63 := rfl
    have p : ((2 ^ 6 : Nat) : Int) = 64 := rfl
    rw [q, m, p]
    omega
  · have m := c_mask (s + 1) 127 7 (by decide) (by decide)
    have e : (128 : Int32).toInt = 128 := rfl
    have q : own_nx 128 s = (s + 1) &&& 127 := rfl
    have p : ((2 ^ 7 : Nat) : Int) = 128 := rfl
    rw [q, m, p]
    omega
  · have m := c_mask (s + 1) 255 8 (by decide) (by decide)
    have e : (256 : Int32).toInt = 256 := rfl
    have q : own_nx 256 s = (s + 1) &&& 255 := rfl
    have p : ((2 ^ 8 : Nat) : Int) = 256 := rfl
    rw [q, m, p]
    omega
theorem own_nx1 {n s : Int32} (hn : own_N n) (h : own_R n s) : own_nx n s ≠ s := by
  intro e
  obtain ⟨a, b⟩ := own_nxv hn h
  obtain ⟨r1, r2⟩ := own_Ri h
  rw [e] at b
  omega
theorem own_nx2 {n s : Int32} (hn : own_N n) (h : own_R n s) : own_nx n (own_nx n s) ≠ s := by
  intro e
  obtain ⟨a, b⟩ := own_nxv hn h
  obtain ⟨c, d⟩ := own_nxv hn (own_Rnx hn s)
  obtain ⟨r1, r2⟩ := own_Ri h
  rw [e] at d
  omega
def own_Sup (n : Int32) (num : Int32 → Int32) (p q : Int32) : Prop := own_R n p ∧ own_R n q ∧ ∀ s, s ≠ p → s ≠ q → num s = 0
theorem own_stops {n : Int32} {num : Int32 → Int32} {p q : Int32} (hn : own_N n) (S : own_Sup n num p q) : ∀ s : Int32, ¬ num s = 0 → ¬ num (own_nx n s) = 0 → num (own_nx n (own_nx n s)) = 0 := by
  intro s h1 h2
  obtain ⟨rp, rq, hz⟩ := S
  have c1 : s = p ∨ s = q := by
    by_cases e1 : s = p
    · exact Or.inl e1
    · by_cases e2 : s = q
      · exact Or.inr e2
      · exact absurd (hz s e1 e2) h1
  have c2 : own_nx n s = p ∨ own_nx n s = q := by
    by_cases e1 : own_nx n s = p
    · exact Or.inl e1
    · by_cases e2 : own_nx n s = q
      · exact Or.inr e2
      · exact absurd (hz _ e1 e2) h2
  have rs : own_R n s := by rcases c1 with e | e <;> rw [e] <;> assumption
  have d1 := own_nx1 hn rs
  have d2 := own_nx2 hn rs
  have d3 := own_nx1 hn (own_Rnx hn s)
  apply hz
  · rcases c1 with e | e
    · rw [← e]; exact d2
    · rcases c2 with f | f
      · rw [← f]; exact d3
      · exact absurd (f.trans e.symm) d1
  · rcases c1 with e | e
    · rcases c2 with f | f
      · exact absurd (f.trans e.symm) d1
      · rw [← f]; exact d3
    · rw [← e]; exact d2
-- the slot
theorem own_s0 {x y : Int64} {n : Int32} {num : Int32 → Int32} {X Y : Int32 → Int64} (h : num (own_h x y n) = 0) : own_r4 x y n num X Y = own_h x y n := by
  unfold own_r4; rw [if_pos h]
theorem own_s1 {x y : Int64} {n : Int32} {num : Int32 → Int32} {X Y : Int32 → Int64} (h : ¬ num (own_h x y n) = 0) (hx : X (own_h x y n) = x) (hy : Y (own_h x y n) = y) : own_r4 x y n num X Y = own_h x y n := by
  unfold own_r4; rw [if_neg h, if_pos ((own_lc _ _).mpr hx), if_pos ((own_lc _ _).mpr hy)]
theorem own_s2 {x y : Int64} {n : Int32} {num : Int32 → Int32} {X Y : Int32 → Int64} (h : ¬ num (own_h x y n) = 0) (hm : ¬ (X (own_h x y n) = x ∧ Y (own_h x y n) = y)) (h2 : num (own_nx n (own_h x y n)) = 0) : own_r4 x y n num X Y = own_nx n (own_h x y n) := by
  unfold own_r4; rw [if_neg h]
  by_cases hx : X (own_h x y n) = x
  · have hy : ¬ Y (own_h x y n) = y := fun q => hm ⟨hx, q⟩
    rw [if_pos ((own_lc _ _).mpr hx), if_neg (fun q => hy ((own_lc _ _).mp q)), if_pos h2]
  · rw [if_neg (fun q => hx ((own_lc _ _).mp q)), if_pos h2]
-- get
theorem own_g0 {x y : Int64} {n : Int32} {num : Int32 → Int32} {X Y : Int32 → Int64} (h : num (own_h x y n) = 0) : own_r6 x y n num X Y = -1 := by
  unfold own_r6; rw [if_pos h, h]; rfl
theorem own_g1 {x y : Int64} {n : Int32} {num : Int32 → Int32} {X Y : Int32 → Int64} (h : ¬ num (own_h x y n) = 0) (hx : X (own_h x y n) = x) (hy : Y (own_h x y n) = y) : own_r6 x y n num X Y = num (own_h x y n) - 1 := by
  unfold own_r6; rw [if_neg h, if_pos ((own_lc _ _).mpr hx), if_pos ((own_lc _ _).mpr hy)]
theorem own_g2 {x y : Int64} {n : Int32} {num : Int32 → Int32} {X Y : Int32 → Int64} (h : ¬ num (own_h x y n) = 0) (hm : ¬ (X (own_h x y n) = x ∧ Y (own_h x y n) = y)) (h2 : num (own_nx n (own_h x y n)) = 0) : own_r6 x y n num X Y = -1 := by
  unfold own_r6; rw [if_neg h]
  by_cases hx : X (own_h x y n) = x
  · have hy : ¬ Y (own_h x y n) = y := fun q => hm ⟨hx, q⟩
    rw [if_pos ((own_lc _ _).mpr hx), if_neg (fun q => hy ((own_lc _ _).mp q)), if_pos h2, h2]; rfl
  · rw [if_neg (fun q => hx ((own_lc _ _).mp q)), if_pos h2, h2]; rfl
theorem own_g3 {x y : Int64} {n : Int32} {num : Int32 → Int32} {X Y : Int32 → Int64} (h : ¬ num (own_h x y n) = 0) (hm : ¬ (X (own_h x y n) = x ∧ Y (own_h x y n) = y)) (h2 : ¬ num (own_nx n (own_h x y n)) = 0) (h3 : num (own_nx n (own_nx n (own_h x y n))) = 0) :
    own_r6 x y n num X Y = if X (own_nx n (own_h x y n)) = x ∧ Y (own_nx n (own_h x y n)) = y then num (own_nx n (own_h x y n)) - 1 else -1 := by
  unfold own_r6; rw [if_neg h]
  have tail : (if lcmpW (X (own_nx n (own_h x y n))) x = 0 then if lcmpW (Y (own_nx n (own_h x y n))) y = 0 then num (own_nx n (own_h x y n)) - 1 else num (own_nx n (own_nx n (own_h x y n))) - 1 else num (own_nx n (own_nx n (own_h x y n))) - 1)
      = if X (own_nx n (own_h x y n)) = x ∧ Y (own_nx n (own_h x y n)) = y then num (own_nx n (own_h x y n)) - 1 else -1 := by
    simp only [own_lc, h3]
    by_cases e1 : X (own_nx n (own_h x y n)) = x <;> by_cases e2 : Y (own_nx n (own_h x y n)) = y <;> simp [e1, e2] <;> rfl
  by_cases hx : X (own_h x y n) = x
  · have hy : ¬ Y (own_h x y n) = y := fun q => hm ⟨hx, q⟩
    rw [if_pos ((own_lc _ _).mpr hx), if_neg (fun q => hy ((own_lc _ _).mp q)), if_neg h2]
    exact tail
  · rw [if_neg (fun q => hx ((own_lc _ _).mp q)), if_neg h2]
    exact tail
def own_One (n : Int32) (num : Int32 → Int32) (X Y : Int32 → Int64) (p : Int32) (u v : Int64) (k : Int32) : Prop :=
  p = own_h u v n ∧ num p = k + 1 ∧ ¬ k + 1 = 0 ∧ X p = u ∧ Y p = v ∧ ∀ s, s ≠ p → num s = 0
def own_Two (n : Int32) (num : Int32 → Int32) (X Y : Int32 → Int64) (p : Int32) (u v : Int64) (k : Int32) (p' : Int32) (u' v' : Int64) (k' : Int32) : Prop :=
  p = own_h u v n ∧ num p = k + 1 ∧ ¬ k + 1 = 0 ∧ X p = u ∧ Y p = v ∧ num p' = k' + 1 ∧ ¬ k' + 1 = 0 ∧ X p' = u' ∧ Y p' = v' ∧ p' ≠ p ∧ (p' = own_h u' v' n ∨ (own_h u' v' n = p ∧ p' = own_nx n p)) ∧ ∀ s, s ≠ p → s ≠ p' → num s = 0
theorem own_add1 (k : Int32) : k + 1 - 1 = k := by
  apply Int32.toInt_inj.mp
  have a := c_iadd k 1; have b := c_isub (k + 1) 1
  have l1 := k.toInt_lt; have l2 := k.le_toInt; have l3 := (k + 1 - 1).toInt_lt; have l4 := (k + 1 - 1).le_toInt
  have e1 : (1 : Int32).toInt = 1 := rfl
  omega
theorem own_nz (k : Int32) (h : ¬ k < 0) : ¬ k + 1 = 0 := by
  intro e
  have a := c_iadd k 1
  rw [e] at a
  rw [Int32.lt_iff_toInt_lt] at h
  have e1 : (1 : Int32).toInt = 1 := rfl
  have e0 : (0 : Int32).toInt = 0 := rfl
  have l1 := k.toInt_lt
  omega
theorem own_One.sup {n : Int32} {num : Int32 → Int32} {X Y : Int32 → Int64} {p : Int32} {u v : Int64} {k : Int32} (hn : own_N n) (h : own_One n num X Y p u v k) : own_Sup n num p p :=
  ⟨h.1 ▸ own_Rh hn u v, h.1 ▸ own_Rh hn u v, fun s q _ => h.2.2.2.2.2 s q⟩
theorem own_Two.rp {n : Int32} {num : Int32 → Int32} {X Y : Int32 → Int64} {p : Int32} {u v : Int64} {k p' : Int32} {u' v' : Int64} {k' : Int32} (hn : own_N n) (h : own_Two n num X Y p u v k p' u' v' k') : own_R n p' := by
  rcases h.2.2.2.2.2.2.2.2.2.2.1 with e | ⟨-, e⟩
  · rw [e]; exact own_Rh hn _ _
  · rw [e]; exact own_Rnx hn _
theorem own_Two.sup {n : Int32} {num : Int32 → Int32} {X Y : Int32 → Int64} {p : Int32} {u v : Int64} {k p' : Int32} {u' v' : Int64} {k' : Int32} (hn : own_N n) (h : own_Two n num X Y p u v k p' u' v' k') : own_Sup n num p p' :=
  ⟨h.1 ▸ own_Rh hn u v, h.rp hn, h.2.2.2.2.2.2.2.2.2.2.2⟩
theorem own_put0 {n : Int32} (x y : Int64) (k : Int32) (hk : ¬ k < 0) :
    own_One n (own_upd (fun _ => 0) (own_r4 x y n (fun _ => 0) (fun _ => 0) (fun _ => 0)) (k + 1)) (own_p3_0 x y n (fun _ => 0) (fun _ => 0) (fun _ => 0)) (own_p3_1 x y n (fun _ => 0) (fun _ => 0) (fun _ => 0)) (own_h x y n) x y k := by
  have e : own_r4 x y n (fun _ => (0 : Int32)) (fun _ => (0 : Int64)) (fun _ => (0 : Int64)) = own_h x y n := own_s0 rfl
  have e0 : own_p3_0 x y n (fun _ => 0) (fun _ => 0) (fun _ => 0) = own_upd (fun _ => 0) (own_h x y n) x := by unfold own_p3_0; rw [if_pos rfl, e]
  have e1 : own_p3_1 x y n (fun _ => 0) (fun _ => 0) (fun _ => 0) = own_upd (fun _ => 0) (own_h x y n) y := by unfold own_p3_1; rw [if_pos rfl, e]
  rw [e0, e1, e]
  exact ⟨rfl, own_upd_eq rfl, own_nz k hk, own_upd_eq rfl, own_upd_eq rfl, fun s q => own_upd_ne q⟩
theorem own_put1 {n : Int32} {num : Int32 → Int32} {X Y : Int32 → Int64} {p : Int32} {u v : Int64} {k : Int32} (hn : own_N n) (h : own_One n num X Y p u v k) (x y : Int64) (j : Int32) (hj : ¬ j < 0) :
    (x = u ∧ y = v ∧ own_One n (own_upd num (own_r4 x y n num X Y) (j + 1)) (own_p3_0 x y n num X Y) (own_p3_1 x y n num X Y) p u v j) ∨
    (¬ (x = u ∧ y = v) ∧ ∃ p', own_Two n (own_upd num (own_r4 x y n num X Y) (j + 1)) (own_p3_0 x y n num X Y) (own_p3_1 x y n num X Y) p u v k p' x y j) := by
  obtain ⟨hp, h1, h2, h3, h4, h5⟩ := h
  have hp0 : ¬ num p = 0 := by rw [h1]; exact h2
  have rp : own_R n p := hp ▸ own_Rh hn u v
  by_cases same : x = u ∧ y = v
  · left
    obtain ⟨rfl, rfl⟩ := same
    have e : own_r4 x y n num X Y = p := by rw [own_s1 (hp ▸ hp0) (hp ▸ h3) (hp ▸ h4)]; exact hp.symm
    have e0 : own_p3_0 x y n num X Y = X := by unfold own_p3_0; rw [e, if_neg hp0]
    have e1 : own_p3_1 x y n num X Y = Y := by unfold own_p3_1; rw [e, if_neg hp0]
    rw [e, e0, e1]
    exact ⟨rfl, rfl, hp, own_upd_eq rfl, own_nz j hj, h3, h4, fun s q => by rw [own_upd_ne q]; exact h5 s q⟩
  · right
    refine ⟨same, ?_⟩
    by_cases c : own_h x y n = p
    · -- a collision
      have z : num (own_nx n p) = 0 := h5 _ (own_nx1 hn rp)
      have hm : ¬ (X (own_h x y n) = x ∧ Y (own_h x y n) = y) := by rw [c, h3, h4]; exact fun q => same ⟨q.1.symm, q.2.symm⟩
      have e : own_r4 x y n num X Y = own_nx n p := by rw [own_s2 (by rw [c]; exact hp0) hm (by rw [c]; exact z), c]
      have e0 : own_p3_0 x y n num X Y = own_upd X (own_nx n p) x := by unfold own_p3_0; rw [e, if_pos z]
      have e1 : own_p3_1 x y n num X Y = own_upd Y (own_nx n p) y := by unfold own_p3_1; rw [e, if_pos z]
      have ne : p ≠ own_nx n p := Ne.symm (own_nx1 hn rp)
      rw [e, e0, e1]
      exact ⟨own_nx n p, hp, by rw [own_upd_ne ne]; exact h1, h2, by rw [own_upd_ne ne]; exact h3, by rw [own_upd_ne ne]; exact h4, own_upd_eq rfl, own_nz j hj, own_upd_eq rfl, own_upd_eq rfl, Ne.symm ne, Or.inr ⟨c, rfl⟩, fun s q1 q2 => by rw [own_upd_ne q2]; exact h5 s q1⟩
    · have z : num (own_h x y n) = 0 := h5 _ c
      have e : own_r4 x y n num X Y = own_h x y n := own_s0 z
      have e0 : own_p3_0 x y n num X Y = own_upd X (own_h x y n) x := by unfold own_p3_0; rw [e, if_pos z]
      have e1 : own_p3_1 x y n num X Y = own_upd Y (own_h x y n) y := by unfold own_p3_1; rw [e, if_pos z]
      have ne : p ≠ own_h x y n := fun q => c q.symm
      rw [e, e0, e1]
      exact ⟨own_h x y n, hp, by rw [own_upd_ne ne]; exact h1, h2, by rw [own_upd_ne ne]; exact h3, by rw [own_upd_ne ne]; exact h4, own_upd_eq rfl, own_nz j hj, own_upd_eq rfl, own_upd_eq rfl, c, Or.inl rfl, fun s q1 q2 => by rw [own_upd_ne q2]; exact h5 s q1⟩
theorem own_rem1 {n : Int32} {num : Int32 → Int32} {X Y : Int32 → Int64} {p : Int32} {u v : Int64} {k : Int32} (hn : own_N n) (h : own_One n num X Y p u v k) : ∀ s, own_p8_0 u v n num X Y s = 0 := by
  obtain ⟨hp, h1, h2, h3, h4, h5⟩ := h
  have hp0 : ¬ num p = 0 := by rw [h1]; exact h2
  have rp : own_R n p := hp ▸ own_Rh hn u v
  have e : own_r4 u v n num X Y = p := by rw [own_s1 (hp ▸ hp0) (hp ▸ h3) (hp ▸ h4)]; exact hp.symm
  have z : num (own_nx n p) = 0 := h5 _ (own_nx1 hn rp)
  have e0 : own_p8_0 u v n num X Y = own_upd num p 0 := by unfold own_p8_0; rw [e, if_neg hp0, if_pos z]
  intro s
  rw [e0]
  by_cases q : s = p
  · exact own_upd_eq q
  · rw [own_upd_ne q]; exact h5 s q
theorem own_rem2 {n : Int32} {num : Int32 → Int32} {X Y : Int32 → Int64} {p : Int32} {u v : Int64} {k p' : Int32} {u' v' : Int64} {k' : Int32} (hn : own_N n) (h : own_Two n num X Y p u v k p' u' v' k') :
    own_One n (own_p8_0 u v n num X Y) (own_p8_2 u v n num X Y) (own_p8_3 u v n num X Y) (own_h u' v' n) u' v' k' := by
  have rp' := h.rp hn
  obtain ⟨hp, h1, h2, h3, h4, g1, g2, g3, g4, ne, pl, h5⟩ := h
  have hp0 : ¬ num p = 0 := by rw [h1]; exact h2
  have rp : own_R n p := hp ▸ own_Rh hn u v
  have e : own_r4 u v n num X Y = p := by rw [own_s1 (hp ▸ hp0) (hp ▸ h3) (hp ▸ h4)]; exact hp.symm
  have hp'0 : ¬ num p' = 0 := by rw [g1]; exact g2
  by_cases c : p' = own_nx n p
  · have nz : ¬ num (own_nx n p) = 0 := by rw [← c]; exact hp'0
    have x1 : X (own_nx n p) = u' := by rw [← c]; exact g3
    have y1 : Y (own_nx n p) = v' := by rw [← c]; exact g4
    obtain ⟨nn, nv⟩ := own_nxv hn rp
    obtain ⟨r1, r2⟩ := own_Ri rp
    obtain ⟨r3, r4⟩ := own_Ri (own_Rnx hn p)
    rcases pl with pl | ⟨pl, -⟩
    · -- it stays: its home is the next place
      have hh : own_h u' v' n = own_nx n p := pl.symm.trans c
      have F : own_p8_0 u v n num X Y = own_upd num p 0 ∧ own_p8_2 u v n num X Y = X ∧ own_p8_3 u v n num X Y = Y := by
        unfold own_p8_0 own_p8_2 own_p8_3
        rw [e, if_neg hp0, if_neg nz, if_neg hp0, if_neg nz, if_neg hp0, if_neg nz, x1, y1, hh]
        by_cases w1 : own_nx n p < p
        · have a1 : ¬ p < own_nx n p := by rw [Int32.lt_iff_toInt_lt] at w1 ⊢; omega
          have a2 : ¬ own_nx n p < own_nx n p := by rw [Int32.lt_iff_toInt_lt]; omega
          rw [if_pos w1, if_neg a1, if_neg a2, if_pos w1, if_neg a1, if_neg a2, if_pos w1, if_neg a1, if_neg a2]
          exact ⟨rfl, rfl, rfl⟩
        · have a1 : p < own_nx n p := by rw [Int32.lt_iff_toInt_lt] at w1 ⊢; omega
          have a2 : ¬ own_nx n p < own_nx n p := by rw [Int32.lt_iff_toInt_lt]; omega
          rw [if_neg w1, if_pos a1, if_neg a2, if_neg w1, if_pos a1, if_neg a2, if_neg w1, if_pos a1, if_neg a2]
          exact ⟨rfl, rfl, rfl⟩
      rw [F.1, F.2.1, F.2.2, ← pl]
      exact ⟨pl, by rw [own_upd_ne ne]; exact g1, g2, g3, g4, fun s q => by
        by_cases q2 : s = p
        · exact own_upd_eq q2
        · rw [own_upd_ne q2]; exact h5 s q2 q⟩
    · -- it moves back to its home
      have F : own_p8_0 u v n num X Y = own_upd (own_upd num p (num (own_nx n p))) (own_nx n p) 0 ∧ own_p8_2 u v n num X Y = own_upd X p (X (own_nx n p)) ∧ own_p8_3 u v n num X Y = own_upd Y p (Y (own_nx n p)) := by
        unfold own_p8_0 own_p8_2 own_p8_3
        rw [e, if_neg hp0, if_neg nz, if_neg hp0, if_neg nz, if_neg hp0, if_neg nz, x1, y1, pl]
        have a1 : ¬ p < p := by rw [Int32.lt_iff_toInt_lt]; omega
        by_cases w1 : own_nx n p < p
        · rw [if_pos w1, if_neg a1, if_pos w1, if_pos w1, if_neg a1, if_pos w1, if_pos w1, if_neg a1, if_pos w1]
          exact ⟨rfl, rfl, rfl⟩
        · rw [if_neg w1, if_neg a1, if_neg w1, if_neg a1, if_neg w1, if_neg a1]
          exact ⟨rfl, rfl, rfl⟩
      rw [F.1, F.2.1, F.2.2, pl, x1, y1]
      have ne2 : p ≠ own_nx n p := Ne.symm (own_nx1 hn rp)
      exact ⟨pl.symm, by rw [own_upd_ne ne2, own_upd_eq rfl, ← c]; exact g1, g2, own_upd_eq rfl, own_upd_eq rfl, fun s q => by
        by_cases q2 : s = own_nx n p
        · exact own_upd_eq q2
        · rw [own_upd_ne q2, own_upd_ne q]; exact h5 s q (by rw [c]; exact q2)⟩
  · have z : num (own_nx n p) = 0 := h5 _ (own_nx1 hn rp) (fun q => c q.symm)
    have pl' : p' = own_h u' v' n := by
      rcases pl with pl | ⟨-, pl⟩
      · exact pl
      · exact absurd pl c
    have F : own_p8_0 u v n num X Y = own_upd num p 0 ∧ own_p8_2 u v n num X Y = X ∧ own_p8_3 u v n num X Y = Y := by
      unfold own_p8_0 own_p8_2 own_p8_3
      rw [e, if_neg hp0, if_pos z, if_neg hp0, if_pos z, if_neg hp0, if_pos z]
      exact ⟨rfl, rfl, rfl⟩
    rw [F.1, F.2.1, F.2.2, ← pl']
    exact ⟨pl', by rw [own_upd_ne ne]; exact g1, g2, g3, g4, fun s q => by
      by_cases q2 : s = p
      · exact own_upd_eq q2
      · rw [own_upd_ne q2]; exact h5 s q2 q⟩
theorem own_getOne {n : Int32} {num : Int32 → Int32} {X Y : Int32 → Int64} {p : Int32} {u v : Int64} {k : Int32} (hn : own_N n) (h : own_One n num X Y p u v k) (x y : Int64) : own_r6 x y n num X Y = if x = u ∧ y = v then k else -1 := by
  obtain ⟨hp, h1, h2, h3, h4, h5⟩ := h
  have hp0 : ¬ num p = 0 := by rw [h1]; exact h2
  have rp : own_R n p := hp ▸ own_Rh hn u v
  by_cases c : own_h x y n = p
  · by_cases m : x = u ∧ y = v
    · rw [if_pos m, own_g1 (by rw [c]; exact hp0) (by rw [c, h3]; exact m.1.symm) (by rw [c, h4]; exact m.2.symm), c, h1]
      exact own_add1 k
    · rw [if_neg m]
      exact own_g2 (by rw [c]; exact hp0) (by rw [c, h3, h4]; exact fun q => m ⟨q.1.symm, q.2.symm⟩) (by rw [c]; exact h5 _ (own_nx1 hn rp))
  · have m : ¬ (x = u ∧ y = v) := fun q => c (by rw [q.1, q.2]; exact hp.symm)
    rw [if_neg m]
    exact own_g0 (h5 _ c)
theorem own_getTwo {n : Int32} {num : Int32 → Int32} {X Y : Int32 → Int64} {p : Int32} {u v : Int64} {k p' : Int32} {u' v' : Int64} {k' : Int32} (hn : own_N n) (h : own_Two n num X Y p u v k p' u' v' k') (hne : ¬ (u' = u ∧ v' = v)) (x y : Int64) :
    own_r6 x y n num X Y = if x = u' ∧ y = v' then k' else if x = u ∧ y = v then k else -1 := by
  have rp' := h.rp hn
  obtain ⟨hp, h1, h2, h3, h4, g1, g2, g3, g4, ne, pl, h5⟩ := h
  have hp0 : ¬ num p = 0 := by rw [h1]; exact h2
  have hp'0 : ¬ num p' = 0 := by rw [g1]; exact g2
  have rp : own_R n p := hp ▸ own_Rh hn u v
  by_cases c : own_h x y n = p
  · by_cases m : x = u ∧ y = v
    · have m' : ¬ (x = u' ∧ y = v') := fun q => hne ⟨q.1.symm.trans m.1, q.2.symm.trans m.2⟩
      rw [if_neg m', if_pos m, own_g1 (by rw [c]; exact hp0) (by rw [c, h3]; exact m.1.symm) (by rw [c, h4]; exact m.2.symm), c, h1]
      exact own_add1 k
    · have hm : ¬ (X (own_h x y n) = x ∧ Y (own_h x y n) = y) := by rw [c, h3, h4]; exact fun q => m ⟨q.1.symm, q.2.symm⟩
      rw [if_neg m]
      by_cases d : own_nx n p = p'
      · have z3 : num (own_nx n (own_nx n p)) = 0 := h5 _ (own_nx2 hn rp) (by rw [← d]; exact own_nx1 hn (own_Rnx hn p))
        rw [own_g3 (by rw [c]; exact hp0) hm (by rw [c, d]; exact hp'0) (by rw [c]; exact z3), c, d, g3, g4, g1, own_add1]
        by_cases m' : x = u' ∧ y = v'
        · rw [if_pos m', if_pos ⟨m'.1.symm, m'.2.symm⟩]
        · rw [if_neg m', if_neg (fun q => m' ⟨q.1.symm, q.2.symm⟩)]
      · have z2 : num (own_nx n p) = 0 := h5 _ (own_nx1 hn rp) d
        have m' : ¬ (x = u' ∧ y = v') := fun q => by
          rcases pl with pl | ⟨-, pl⟩
          · exact ne (by rw [pl, ← q.1, ← q.2]; exact c)
          · exact d pl.symm
        rw [if_neg m']
        exact own_g2 (by rw [c]; exact hp0) hm (by rw [c]; exact z2)
  · have m : ¬ (x = u ∧ y = v) := fun q => c (by rw [q.1, q.2]; exact hp.symm)
    rw [if_neg m]
    by_cases d : own_h x y n = p'
    · by_cases m' : x = u' ∧ y = v'
      · rw [if_pos m', own_g1 (by rw [d]; exact hp'0) (by rw [d, g3]; exact m'.1.symm) (by rw [d, g4]; exact m'.2.symm), d, g1]
        exact own_add1 k'
      · have hm : ¬ (X (own_h x y n) = x ∧ Y (own_h x y n) = y) := by rw [d, g3, g4]; exact fun q => m' ⟨q.1.symm, q.2.symm⟩
        rw [if_neg m']
        by_cases e : own_nx n p' = p
        · have z3 : num (own_nx n (own_nx n p')) = 0 := h5 _ (by have := own_nx1 hn (own_Rnx hn p'); rw [e] at this ⊢; exact this) (own_nx2 hn rp')
          rw [own_g3 (by rw [d]; exact hp'0) hm (by rw [d, e]; exact hp0) (by rw [d]; exact z3), d, e, h3, h4, if_neg (fun q => m ⟨q.1.symm, q.2.symm⟩)]
        · exact own_g2 (by rw [d]; exact hp'0) hm (by rw [d]; exact h5 _ e (own_nx1 hn rp'))
    · have m' : ¬ (x = u' ∧ y = v') := fun q => by
        rcases pl with pl | ⟨pl, -⟩
        · exact d (by rw [pl, q.1, q.2])
        · exact c (by rw [q.1, q.2]; exact pl)
      rw [if_neg m']
      exact own_g0 (h5 _ c d)
theorem own_remSup {n : Int32} {num : Int32 → Int32} {X Y : Int32 → Int64} {p q : Int32} (S : own_Sup n num p q) (u v : Int64) : own_Sup n (own_p8_0 u v n num X Y) p q := by
  refine ⟨S.1, S.2.1, fun s h1 h2 => ?_⟩
  have z := S.2.2 s h1 h2
  unfold own_p8_0
  by_cases c0 : num (own_r4 u v n num X Y) = 0
  · rw [if_pos c0]; exact z
  · have d : s ≠ own_r4 u v n num X Y := fun e => c0 (by rw [← e]; exact z)
    have f1 : own_upd num (own_r4 u v n num X Y) 0 s = 0 := by rw [own_upd_ne d]; exact z
    have f2 : own_upd (own_upd num (own_r4 u v n num X Y) (num (own_nx n (own_r4 u v n num X Y)))) (own_nx n (own_r4 u v n num X Y)) 0 s = 0 := by
      by_cases e : s = own_nx n (own_r4 u v n num X Y)
      · exact own_upd_eq e
      · rw [own_upd_ne e, own_upd_ne d]; exact z
    rw [if_neg c0]
    repeat' split
    all_goals first | exact f1 | exact f2
theorem own_putSup {n : Int32} {num : Int32 → Int32} {p : Int32} (S : own_Sup n num p p) (s j : Int32) (hs : own_R n s) : own_Sup n (own_upd num s j) p s :=
  ⟨S.1, hs, fun t h1 h2 => by rw [own_upd_ne h2]; exact S.2.2 t h1 h1⟩
theorem own_zeroSup {n : Int32} (hn : own_N n) (x y : Int64) : own_Sup n (fun _ => 0) (own_h x y n) (own_h x y n) := ⟨own_Rh hn x y, own_Rh hn x y, fun _ _ _ => rfl⟩
/-- the tables behind each road -/
abbrev own_F0 : Int32 → Int32 := fun _ => (0 : Int32)
theorem own_specA {n : Int32} (hn : own_N n) (a b : Int64) (k : Int32) (hk : ¬ k < 0) (x y : Int64) :
    own_r6 x y n (own_upd (fun _ => 0) (own_r4 a b n (fun _ => 0) (fun _ => 0) (fun _ => 0)) (k + 1)) (own_p3_0 a b n (fun _ => 0) (fun _ => 0) (fun _ => 0)) (own_p3_1 a b n (fun _ => 0) (fun _ => 0) (fun _ => 0)) = if x = a ∧ y = b then k else -1 :=
  own_getOne hn (own_put0 a b k hk) x y
theorem own_specB {n : Int32} {num : Int32 → Int32} {X Y X' Y' : Int32 → Int64} {p : Int32} {u v : Int64} {k : Int32} (hn : own_N n) (h : own_One n num X Y p u v k) (x y : Int64) : own_r6 x y n (own_p8_0 u v n num X Y) X' Y' = -1 :=
  own_g0 (own_rem1 hn h _)
theorem own_specC {n : Int32} {num : Int32 → Int32} {X Y : Int32 → Int64} {p : Int32} {u v : Int64} {k : Int32} (hn : own_N n) (h : own_One n num X Y p u v k) (c d : Int64) (j : Int32) (hj : ¬ j < 0) (x y : Int64) :
    own_r6 x y n (own_upd num (own_r4 c d n num X Y) (j + 1)) (own_p3_0 c d n num X Y) (own_p3_1 c d n num X Y) = if x = c ∧ y = d then j else if x = u ∧ y = v then k else -1 := by
  rcases own_put1 hn h c d j hj with ⟨rfl, rfl, h'⟩ | ⟨ne, p', h'⟩
  · rw [own_getOne hn h' x y]
    by_cases m : x = c ∧ y = d
    · rw [if_pos m, if_pos m]
    · rw [if_neg m, if_neg m, if_neg m]
  · exact own_getTwo hn h' ne x y
theorem own_specD {n : Int32} {num : Int32 → Int32} {X Y : Int32 → Int64} {p : Int32} {u v : Int64} {k : Int32} (hn : own_N n) (h : own_One n num X Y p u v k) (c d : Int64) (j : Int32) (hj : ¬ j < 0) (x y : Int64) :
    own_r6 x y n (own_p8_0 u v n (own_upd num (own_r4 c d n num X Y) (j + 1)) (own_p3_0 c d n num X Y) (own_p3_1 c d n num X Y)) (own_p8_2 u v n (own_upd num (own_r4 c d n num X Y) (j + 1)) (own_p3_0 c d n num X Y) (own_p3_1 c d n num X Y)) (own_p8_3 u v n (own_upd num (own_r4 c d n num X Y) (j + 1)) (own_p3_0 c d n num X Y) (own_p3_1 c d n num X Y))
      = if ¬ (c = u ∧ d = v) ∧ x = c ∧ y = d then j else -1 := by
  rcases own_put1 hn h c d j hj with ⟨e1, e2, h'⟩ | ⟨ne, p', h'⟩
  · rw [if_neg (fun q => q.1 ⟨e1, e2⟩)]
    exact own_g0 (own_rem1 hn h' _)
  · rw [own_getOne hn (own_rem2 hn h') x y]
    by_cases m : x = c ∧ y = d
    · rw [if_pos m, if_pos ⟨ne, m⟩]
    · rw [if_neg m, if_neg (fun q => m q.2)]
theorem own_size1 (a b : Int64) (n : Int32) : own_p3_2 a b n (fun _ => 0) (fun _ => 0) (fun _ => 0) 0 = 1 := by
  unfold own_p3_2; rw [if_pos rfl]; rfl
theorem own_grow0 {n : Int32} (hn : own_N n) : ¬ n < ((2 : Int32) * ((0 : Int32) + (1 : Int32))) := by rcases hn with rfl | rfl | rfl <;> decide
theorem own_grow1 {n : Int32} (hn : own_N n) (a b : Int64) : ¬ n < ((2 : Int32) * (own_p3_2 a b n (fun _ => 0) (fun _ => 0) (fun _ => 0) 0 + (1 : Int32))) := by rw [own_size1]; rcases hn with rfl | rfl | rfl <;> decide
theorem own_hcl (c : Int32) (h : ¬ c < 0 ∧ c < 128) : ¬ (256 : Int32) < ((2 : Int32) * c) := by
  obtain ⟨n, rfl⟩ := own_small c 128 (by decide) h.1 h.2
  revert n; decide +kernel
theorem own_m127 (a : Int32) : ¬ (a &&& 127) < 0 ∧ (a &&& 127) < 128 := by
  have h := c_and a 127 (by decide)
  have h7 : (127 : Int32).toInt = 127 := rfl
  constructor
  · rw [Int32.lt_iff_toInt_lt]; show ¬ _ < (0 : Int); omega
  · rw [Int32.lt_iff_toInt_lt]; show _ < (128 : Int); omega
theorem own_m31 (a : Int32) : ¬ (a &&& 2147483647) < 0 := by
  have h := c_and a 2147483647 (by decide)
  rw [Int32.lt_iff_toInt_lt]; show ¬ _ < (0 : Int); omega
theorem own_u12 (a : Int32) : ¬ ((a.toUInt32 >>> ((12 : Int32) &&& 31).toUInt32).toInt32) < 0 := by
  have h := c_iushr a 12 12 (by decide) (by decide)
  rw [Int32.lt_iff_toInt_lt, h]; show ¬ _ < (0 : Int)
  have p : ((2 ^ 12 : Nat) : Int) = 4096 := rfl
  rw [p]; omega

theorem pd_1 : parseMethodDescriptor "(I)V" = some ⟨[.int], none⟩ := by decide +kernel
theorem pd_2 : parseMethodDescriptor "(JJI)V" = some ⟨[.long, .long, .int], none⟩ := by decide +kernel
theorem pd_3 : parseMethodDescriptor "(JJJJ)Z" = some ⟨[.long, .long, .long, .long], some .boolean⟩ := by decide +kernel
theorem pd_4 : parseMethodDescriptor "(JJ)V" = some ⟨[.long, .long], none⟩ := by decide +kernel
theorem ef_0 (m : MethodId) (y0_0 : Int64) (y1_0 : Int64) (y2_0 : Int64) (y3_0 : Int64) (x4_0 : Int32) (x5_0 : Int32) : entryFrame m #[(.long y0_0), (.long y1_0), (.long y2_0), (.long y3_0), (.int x4_0), (.int x5_0)] maxLocals = mkF m 0 #[.val (.long y0_0), .second, .val (.long y1_0), .second, .val (.long y2_0), .second, .val (.long y3_0), .second, .val (.int x4_0), .val (.int x5_0), .unset, .unset, .unset, .unset, .unset, .unset, .unset, .unset, .unset, .unset, .unset, .unset, .unset, .unset, .unset, .unset, .unset, .unset, .unset, .unset] [] := by first | (simp [entryFrame, mkF, argsToLocals, Value.category, maxLocals]; done) | rfl
def Q0 (Z : State) (y0_0 : Int64) (y1_0 : Int64) (y2_0 : Int64) (y3_0 : Int64) (x4_0 : Int32) (x5_0 : Int32) (h0 : Heap) (n0 : Nat) (v : Option Value) (h : Heap) (L : List Loc) : Prop := v = some (.int 1) ∧ Fr n0 L
set_option maxRecDepth 65536 in
set_option maxHeartbeats 40000000 in
theorem rm0 (l : Launch) (Z : State) (a0 : Array Value) (hw : ∀ d ∈ tables_1, d.before a0 Z = true) (ws : List Jvm.Cond) (y0_0 : Int64) (y1_0 : Int64) (y2_0 : Int64) (y3_0 : Int64) (x4_0 : Int32) (x5_0 : Int32) (h0 : Heap) (n0 : Nat) (O0 : Old Z n0 h0) :
    MetFree l x (head1 (Jvm.Cond.code x code maxLocals ret :: ws) room_1) (fun a U => a = #[(.long y0_0), (.long y1_0), (.long y2_0), (.long y3_0), (.int x4_0), (.int x5_0)] ∧ Z.Warmed39 U.vm ∧ U.heap = h0) (fun _ _ _ _ _ => True) (fun _ U o U' => ∃ v L, o = .returned v ∧ Q0 Z y0_0 y1_0 y2_0 y3_0 x4_0 x5_0 h0 n0 v U'.heap L ∧ FrameEnd U o U' L 4 772) := by
  refine MetFree.of_bodySF (plainFor_of_name pn_1) hisR ?_
  intro p e s m args below meth c s₁ Bd hml0 hP hK
  obtain ⟨rfl, hZ, hh⟩ := hP
  have hx := Bd.exec
  have hby := Bd.bytes
  have hnl := BodyLoose.notSynchronized Bd
  have hml : c.maxLocals = 30 := hml0
  have hown : s.vm.findClass "com/example/swanhall/swanhall/core/CellTableGetPinLaw" = some m.cls := findClass_of_methodNamed Bd.named
  have hnm := (name_of_methodNamed Bd.named Bd.method).1
  have X0 : Stand p l e room_1 s m #[(.long y0_0), (.long y1_0), (.long y2_0), (.long y3_0), (.int x4_0), (.int x5_0)] below meth c s₁ [] 0 0 := Stand.of_body Bd
  have e0 : s₁.heap = h0 := by rw [← hh, Bd.state]; rfl
  have N0 := Fr.nil n0
  show own_Ends p.tables e below s (Q0 Z y0_0 y1_0 y2_0 y3_0 x4_0 x5_0 h0 n0) 4 772 (s₁.setTop (entryFrame m #[(.long y0_0), (.long y1_0), (.long y2_0), (.long y3_0), (.int x4_0), (.int x5_0)] maxLocals))
  rw [ef_0 m y0_0 y1_0 y2_0 y3_0 x4_0 x5_0]
  have tail169 : ∀ (pk : Int32) (rm_ : Int32) (cl : Int32) (p2 : Int32) (ce : Int32) (n2 : Int32) (n1 : Int32) (x2 : Int64) (y2 : Int64) (qx : Int64) (qy : Int64) (hce : ¬ ce < 0 ∧ ce < 128) (hk1 : ¬ n1 < 0) (hk2 : ¬ n2 < 0), own_Ends p.tables e below s (Q0 Z y0_0 y1_0 y2_0 y3_0 x4_0 x5_0 h0 n0) 4 772 (s₁.setTop (mkF m 169 #[.val (.long y0_0), .second, .val (.long y1_0), .second, .val (.long y2_0), .second, .val (.long y3_0), .second, .val (.int x4_0), .val (.int x5_0), .val (.int pk), .val (.int rm_), .val (.int cl), .val (.int p2), .val (.int ce), .val (.int n2), .val (.int n1), .val (.long x2), .second, .val (.long y2), .second, .val (.long qx), .second, .val (.long qy), .second, .unset, .unset, .unset, .unset, .unset] [])) := by
    intro pk rm_ cl p2 ce n2 n1 x2 y2 qx qy hce hk1 hk2
    show own_Ends p.tables e below s _ _ _ (s₁.setTop (mkF m 169 #[.val (.long y0_0), .second, .val (.long y1_0), .second, .val (.long y2_0), .second, .val (.long y3_0), .second, .val (.int x4_0), .val (.int x5_0), .val (.int pk), .val (.int rm_), .val (.int cl), .val (.int p2), .val (.int ce), .val (.int n2), .val (.int n1), .val (.long x2), .second, .val (.long y2), .second, .val (.long qx), .second, .val (.long qy), .second, .unset, .unset, .unset, .unset, .unset] []))
    obtain ⟨T1, h1, X1, e1, E1, A1, D1, -, st1⟩ := newO X0 hx hZ hown (hw _ (List.mem_of_getElem? (i := 1) rfl)) (hw _ (List.mem_of_getElem? (i := 2) rfl)) (hw _ (List.mem_of_getElem? (i := 3) rfl)) e0 (g := (mkF m 169 #[.val (.long y0_0), .second, .val (.long y1_0), .second, .val (.long y2_0), .second, .val (.long y3_0), .second, .val (.int x4_0), .val (.int x5_0), .val (.int pk), .val (.int rm_), .val (.int cl), .val (.int p2), .val (.int ce), .val (.int n2), .val (.int n1), .val (.long x2), .second, .val (.long y2), .second, .val (.long qx), .second, .val (.long qy), .second, .unset, .unset, .unset, .unset, .unset] [])) rfl (hb hby at_169) (by decide) (by decide)
    obtain ⟨b1, g1⟩ : ∃ z, z = h0.size := ⟨_, rfl⟩
    rw [← g1] at A1 D1 st1
    have g_b1 : n0 ≤ b1 := Nat.le_trans (Nat.le_trans (Nat.le_of_eq O0.1.symm) O0.2.1) (Nat.le_of_eq g1.symm)
    have sz_b1 : h0.size ≤ b1 := Nat.le_trans (Keep.refl h0 []).1 (Nat.le_of_eq g1.symm)
    have F1_xs : Fld Z h1 b1 "com/example/swanhall/swanhall/core/CellTable" "xs" "[J" .null := D1 (Or.inl (hw _ (List.mem_of_getElem? (i := 12) rfl))) (ty := (.array .long)) (by decide)
    have F1_ys : Fld Z h1 b1 "com/example/swanhall/swanhall/core/CellTable" "ys" "[J" .null := D1 (Or.inl (hw _ (List.mem_of_getElem? (i := 14) rfl))) (ty := (.array .long)) (by decide)
    have F1_numbers : Fld Z h1 b1 "com/example/swanhall/swanhall/core/CellTable" "numbers" "[I" .null := D1 (Or.inl (hw _ (List.mem_of_getElem? (i := 17) rfl))) (ty := (.array .int)) (by decide)
    have F1_size : Fld Z h1 b1 "com/example/swanhall/swanhall/core/CellTable" "size" "I" (.int (0 : Int32)) := D1 (Or.inl (hw _ (List.mem_of_getElem? (i := 34) rfl))) (ty := .int) (by decide)
    refine own_step (fun t k => st1 _ k) ?_
    have K2 : Keep h0 h1 [] := (Keep.refl h0 []).ext E1
    refine own_step (fun t k => XS.dup X1.here hx rfl (hb hby at_172) rfl rfl k) ?_
    refine own_step (fun t k => XS.iload X1.here hx rfl (hb hby at_173) rfl k) ?_
    show own_Ends p.tables e below s _ _ _ (T1.setTop (mkF m 175 #[.val (.long y0_0), .second, .val (.long y1_0), .second, .val (.long y2_0), .second, .val (.long y3_0), .second, .val (.int x4_0), .val (.int x5_0), .val (.int pk), .val (.int rm_), .val (.int cl), .val (.int p2), .val (.int ce), .val (.int n2), .val (.int n1), .val (.long x2), .second, .val (.long y2), .second, .val (.long qx), .second, .val (.long qy), .second, .unset, .unset, .unset, .unset, .unset] [(.int ce), (.ref b1), (.ref b1)]))
    have O3 : Old Z n0 h1 := (O0.ext E1)
    obtain ⟨_, _, ⟨T4, L4, k4, n4⟩, -, X4, ⟨Lc4, hQ4, l4, y4, z4⟩, st4⟩ := X1.specialBack hx (y := (⟨"com/example/swanhall/swanhall/core/CellTable", "<init>", "(I)V"⟩ : MethodName)) rfl hown (mvT hZ (hw _ (List.mem_of_getElem? (i := 4) rfl))) (mvT hZ (hw _ (List.mem_of_getElem? (i := 5) rfl))) (mvT hZ (hw _ (List.mem_of_getElem? (i := 6) rfl))) (by decide) (backOf (W := 1) (rm1 l Z a0 hw [] b1 ce (.int (0 : Int32)) .null .null .null h1 n0 O3 (own_hcl _ hce) F1_size A1 F1_xs g_b1 F1_ys F1_numbers) hZ (hw _ (List.mem_of_getElem? (i := 6) rfl)) (hw _ (List.mem_of_getElem? (i := 3) rfl)) (by decide) (by decide)) (g := (mkF m 175 #[.val (.long y0_0), .second, .val (.long y1_0), .second, .val (.long y2_0), .second, .val (.long y3_0), .second, .val (.int x4_0), .val (.int x5_0), .val (.int pk), .val (.int rm_), .val (.int cl), .val (.int p2), .val (.int ce), .val (.int n2), .val (.int n1), .val (.long x2), .second, .val (.long y2), .second, .val (.long qx), .second, .val (.long qy), .second, .unset, .unset, .unset, .unset, .unset] [(.int ce), (.ref b1), (.ref b1)])) rfl (by rw [hml]; rfl) (Steps.refl _) (a := b1) (argsL := [(.int ce)]) (rest := [(.ref b1)]) (lenOf pd_1 rfl) rfl (by show 2 * 0 + _ ≤ _; exact Nat.le_of_eq rfl) (hb hby at_175) (fun _ _ => ⟨rfl, e1, (by decide : 1 + 3 ≤ _), (by decide : 4 + 768 ≤ _)⟩)
    dsimp only [Pt.U, Pt.locs, Pt.cells, Pt.slots] at X4 l4 y4 z4 st4 hQ4
    subst y4 z4
    obtain ⟨ax_4, ay_4, an_4, nC_4, rfl, N4q, K4q, p4_0, p4_1, p4_2, p4_3, p4_4, p4_5, p4_6, p4_7, p4_8, p4_9, p4_10, p4_11, p4_12, p4_13, p4_14⟩ := hQ4
    refine own_step (fun t k => st4.trans k) ?_
    have N5 : Fr n0 L4 := by rw [l4]; exact Fr.app N0 N4q
    have sz_ax_4 : h0.size ≤ ax_4 := Nat.le_trans K2.1 p4_0
    have g_ax_4 : n0 ≤ ax_4 := Nat.le_trans (Nat.le_trans (Nat.le_of_eq O3.1.symm) O3.2.1) p4_0
    have ne_b1_ax_4 : b1 ≠ ax_4 := Nat.ne_of_lt (Nat.lt_of_lt_of_le A1.lt p4_0)
    have sz_ay_4 : h0.size ≤ ay_4 := Nat.le_trans K2.1 p4_1
    have g_ay_4 : n0 ≤ ay_4 := Nat.le_trans (Nat.le_trans (Nat.le_of_eq O3.1.symm) O3.2.1) p4_1
    have ne_b1_ay_4 : b1 ≠ ay_4 := Nat.ne_of_lt (Nat.lt_of_lt_of_le A1.lt p4_1)
    have sz_an_4 : h0.size ≤ an_4 := Nat.le_trans K2.1 p4_2
    have g_an_4 : n0 ≤ an_4 := Nat.le_trans (Nat.le_trans (Nat.le_of_eq O3.1.symm) O3.2.1) p4_2
    have ne_b1_an_4 : b1 ≠ an_4 := Nat.ne_of_lt (Nat.lt_of_lt_of_le A1.lt p4_2)
    have K6 : Keep h0 T4.heap [] := K2.trans K4q (allS (Or.inr sz_b1) all0)
    have hN : own_N nC_4 := p4_3
    refine own_step (fun t k => XS.astore X4.here hx rfl (hb hby at_178) rfl rfl (l' := #[.val (.long y0_0), .second, .val (.long y1_0), .second, .val (.long y2_0), .second, .val (.long y3_0), .second, .val (.int x4_0), .val (.int x5_0), .val (.int pk), .val (.int rm_), .val (.int cl), .val (.int p2), .val (.int ce), .val (.int n2), .val (.int n1), .val (.long x2), .second, .val (.long y2), .second, .val (.long qx), .second, .val (.long qy), .second, .val (.ref b1), .unset, .unset, .unset, .unset]) rfl k) ?_
    refine own_step (fun t k => XS.aload X4.here hx rfl (hb hby at_180) rfl rfl k) ?_
    refine own_step (fun t k => XS.lloadN X4.here hx rfl (hb hby at_182) rfl k) ?_
    refine own_step (fun t k => XS.lloadN X4.here hx rfl (hb hby at_183) rfl k) ?_
    refine own_step (fun t k => XS.iload X4.here hx rfl (hb hby at_184) rfl k) ?_
    show own_Ends p.tables e below s _ _ _ (T4.setTop (mkF m 186 #[.val (.long y0_0), .second, .val (.long y1_0), .second, .val (.long y2_0), .second, .val (.long y3_0), .second, .val (.int x4_0), .val (.int x5_0), .val (.int pk), .val (.int rm_), .val (.int cl), .val (.int p2), .val (.int ce), .val (.int n2), .val (.int n1), .val (.long x2), .second, .val (.long y2), .second, .val (.long qx), .second, .val (.long qy), .second, .val (.ref b1), .unset, .unset, .unset, .unset] [(.int n1), (.long y1_0), (.long y0_0), (.ref b1)]))
    have O7 : Old Z n0 T4.heap := (O3.keep K4q (allS g_b1 all0))
    obtain ⟨cq8, kq8, q8a, q8b, q8c⟩ := isOf hZ rfl p4_4
    obtain ⟨_, _, ⟨T8, L8, k8, n8⟩, -, X8, ⟨Lc8, hQ8, l8, y8, z8⟩, st8⟩ := X4.virtualBack hx (y := (⟨"com/example/swanhall/swanhall/core/CellTable", "put", "(JJI)V"⟩ : MethodName)) (z := (⟨"com/example/swanhall/swanhall/core/CellTable", "put", "(JJI)V"⟩ : MethodName)) hown (mvT hZ (hw _ (List.mem_of_getElem? (i := 18) rfl))) (mvT hZ (hw _ (List.mem_of_getElem? (i := 19) rfl))) (notFace_of_selects (args := #[]) (mvT hZ (hw _ (List.mem_of_getElem? (i := 21) rfl)))) (mvT hZ (hw _ (List.mem_of_getElem? (i := 21) rfl))) (mvT hZ (hw _ (List.mem_of_getElem? (i := 20) rfl))) (by decide) (backOf (W := 0) (rm3 l Z a0 hw [] b1 y0_0 y1_0 n1 an_4 nC_4 (fun _ => (0 : Int32)) ax_4 (fun _ => (0 : Int64)) ay_4 (fun _ => (0 : Int64)) (0 : Int32) T4.heap n0 O7 (own_Npos hN) (own_stops hN (own_zeroSup hN y0_0 y1_0)) hk1 (own_grow0 hN) p4_8 p4_11 p4_6 p4_9 p4_7 p4_10 p4_5 p4_4 g_ax_4 ne_b1_ax_4 (Ne.symm p4_12) g_ay_4 ne_b1_ay_4 g_b1 (Ne.symm p4_13) (Ne.symm p4_14) (Ne.symm ne_b1_an_4) g_an_4) hZ (hw _ (List.mem_of_getElem? (i := 22) rfl)) (hw _ (List.mem_of_getElem? (i := 3) rfl)) (by decide) (by decide)) q8a q8c (g := (mkF m 186 #[.val (.long y0_0), .second, .val (.long y1_0), .second, .val (.long y2_0), .second, .val (.long y3_0), .second, .val (.int x4_0), .val (.int x5_0), .val (.int pk), .val (.int rm_), .val (.int cl), .val (.int p2), .val (.int ce), .val (.int n2), .val (.int n1), .val (.long x2), .second, .val (.long y2), .second, .val (.long qx), .second, .val (.long qy), .second, .val (.ref b1), .unset, .unset, .unset, .unset] [(.int n1), (.long y1_0), (.long y0_0), (.ref b1)])) rfl (by rw [hml]; rfl) (Steps.refl _) (argsL := [(.long y0_0), (.long y1_0), (.int n1)]) (rest := []) (lenOf pd_2 rfl) rfl (by show 2 * 0 + _ ≤ _; exact Nat.le_of_eq rfl) (hb hby at_186) (fun _ _ => ⟨rfl, rfl, (by decide : 4 + 0 ≤ _), (by decide : 772 + 0 ≤ _)⟩)
    dsimp only [Pt.U, Pt.locs, Pt.cells, Pt.slots] at X8 l8 y8 z8 st8 hQ8
    subst y8 z8
    obtain ⟨rfl, N8q, K8q, p8_0, p8_1, p8_2, p8_3, p8_4, p8_5, p8_6, p8_7⟩ := hQ8
    refine own_step (fun t k => st8.trans k) ?_
    have N9 : Fr n0 L8 := by rw [l8]; exact Fr.app N5 N8q
    have K10 : Keep h0 T8.heap [] := K6.trans K8q (allS (Or.inr sz_ax_4) (allS (Or.inr sz_ay_4) (allS (Or.inr sz_b1) (allS (Or.inr sz_an_4) all0))))
    refine own_step (fun t k => XS.iload X8.here hx rfl (hb hby at_189) rfl k) ?_
    show own_Ends p.tables e below s _ _ _ (T8.setTop (mkF m 191 #[.val (.long y0_0), .second, .val (.long y1_0), .second, .val (.long y2_0), .second, .val (.long y3_0), .second, .val (.int x4_0), .val (.int x5_0), .val (.int pk), .val (.int rm_), .val (.int cl), .val (.int p2), .val (.int ce), .val (.int n2), .val (.int n1), .val (.long x2), .second, .val (.long y2), .second, .val (.long qx), .second, .val (.long qy), .second, .val (.ref b1), .unset, .unset, .unset, .unset] [(.int p2)]))
    by_cases hc191_11 : p2 = (0 : Int32)
    · skip
      refine own_step (fun t k => XS.ifYes X8.here hx rfl (pc0 := 191) (pc' := 205) rfl (hb hby at_191) rfl ((if0 _ _).trans (teq hc191_11).1) (by decide) (by decide) k) ?_
      refine own_step (fun t k => XS.iload X8.here hx rfl (hb hby at_205) rfl k) ?_
      show own_Ends p.tables e below s _ _ _ (T8.setTop (mkF m 207 #[.val (.long y0_0), .second, .val (.long y1_0), .second, .val (.long y2_0), .second, .val (.long y3_0), .second, .val (.int x4_0), .val (.int x5_0), .val (.int pk), .val (.int rm_), .val (.int cl), .val (.int p2), .val (.int ce), .val (.int n2), .val (.int n1), .val (.long x2), .second, .val (.long y2), .second, .val (.long qx), .second, .val (.long qy), .second, .val (.ref b1), .unset, .unset, .unset, .unset] [(.int rm_)]))
      by_cases hc207_12 : rm_ = (0 : Int32)
      · skip
        refine own_step (fun t k => XS.ifYes X8.here hx rfl (pc0 := 207) (pc' := 217) rfl (hb hby at_207) rfl ((if0 _ _).trans (teq hc207_12).1) (by decide) (by decide) k) ?_
        refine own_step (fun t k => XS.aload X8.here hx rfl (hb hby at_217) rfl rfl k) ?_
        refine own_step (fun t k => XS.lload X8.here hx rfl (hb hby at_219) rfl k) ?_
        refine own_step (fun t k => XS.lload X8.here hx rfl (hb hby at_221) rfl k) ?_
        show own_Ends p.tables e below s _ _ _ (T8.setTop (mkF m 223 #[.val (.long y0_0), .second, .val (.long y1_0), .second, .val (.long y2_0), .second, .val (.long y3_0), .second, .val (.int x4_0), .val (.int x5_0), .val (.int pk), .val (.int rm_), .val (.int cl), .val (.int p2), .val (.int ce), .val (.int n2), .val (.int n1), .val (.long x2), .second, .val (.long y2), .second, .val (.long qx), .second, .val (.long qy), .second, .val (.ref b1), .unset, .unset, .unset, .unset] [(.long qy), (.long qx), (.ref b1)]))
        have O13 : Old Z n0 T8.heap := (O7.keep K8q (allS g_ax_4 (allS g_ay_4 (allS g_b1 (allS g_an_4 all0)))))
        obtain ⟨cq14, kq14, q14a, q14b, q14c⟩ := isOf hZ rfl p8_6
        obtain ⟨_, _, ⟨T14, L14, k14, n14⟩, -, X14, ⟨Lc14, hQ14, l14, y14, z14⟩, st14⟩ := X8.virtualBack hx (y := (⟨"com/example/swanhall/swanhall/core/CellTable", "get", "(JJ)I"⟩ : MethodName)) (z := (⟨"com/example/swanhall/swanhall/core/CellTable", "get", "(JJ)I"⟩ : MethodName)) hown (mvT hZ (hw _ (List.mem_of_getElem? (i := 35) rfl))) (mvT hZ (hw _ (List.mem_of_getElem? (i := 36) rfl))) (notFace_of_selects (args := #[]) (mvT hZ (hw _ (List.mem_of_getElem? (i := 38) rfl)))) (mvT hZ (hw _ (List.mem_of_getElem? (i := 38) rfl))) (mvT hZ (hw _ (List.mem_of_getElem? (i := 37) rfl))) (by decide) (backOf (W := 0) (rm6 l Z a0 hw [] b1 qx qy an_4 nC_4 (own_upd (fun _ => (0 : Int32)) (own_r4 y0_0 y1_0 nC_4 (fun _ => (0 : Int32)) (fun _ => (0 : Int64)) (fun _ => (0 : Int64))) (n1 + (1 : Int32))) ax_4 (own_p3_0 y0_0 y1_0 nC_4 (fun _ => (0 : Int32)) (fun _ => (0 : Int64)) (fun _ => (0 : Int64))) ay_4 (own_p3_1 y0_0 y1_0 nC_4 (fun _ => (0 : Int32)) (fun _ => (0 : Int64)) (fun _ => (0 : Int64))) T8.heap n0 O13 (own_Npos hN) (own_stops hN ((own_put0 y0_0 y1_0 n1 hk1).sup hN)) p8_2 p8_7 p8_6 p8_3 p8_0 p8_4 p8_1) hZ (hw _ (List.mem_of_getElem? (i := 39) rfl)) (hw _ (List.mem_of_getElem? (i := 3) rfl)) (by decide) (by decide)) q14a q14c (g := (mkF m 223 #[.val (.long y0_0), .second, .val (.long y1_0), .second, .val (.long y2_0), .second, .val (.long y3_0), .second, .val (.int x4_0), .val (.int x5_0), .val (.int pk), .val (.int rm_), .val (.int cl), .val (.int p2), .val (.int ce), .val (.int n2), .val (.int n1), .val (.long x2), .second, .val (.long y2), .second, .val (.long qx), .second, .val (.long qy), .second, .val (.ref b1), .unset, .unset, .unset, .unset] [(.long qy), (.long qx), (.ref b1)])) rfl (by rw [hml]; rfl) (Steps.refl _) (argsL := [(.long qx), (.long qy)]) (rest := []) (lenOf pd_0 rfl) rfl (by show 2 * 0 + _ ≤ _; exact Nat.le_of_eq rfl) (hb hby at_223) (fun _ _ => ⟨rfl, rfl, (by decide : 4 + 0 ≤ _), (by decide : 772 + 0 ≤ _)⟩)
        dsimp only [Pt.U, Pt.locs, Pt.cells, Pt.slots] at X14 l14 y14 z14 st14 hQ14
        subst y14 z14
        obtain ⟨rfl, N14q, e14⟩ := hQ14
        refine own_step (fun t k => st14.trans k) ?_
        have N15 : Fr n0 L14 := by rw [l14]; exact Fr.app N9 N14q
        show own_Ends p.tables e below s _ _ _ (T14.setTop (mkF m 226 #[.val (.long y0_0), .second, .val (.long y1_0), .second, .val (.long y2_0), .second, .val (.long y3_0), .second, .val (.int x4_0), .val (.int x5_0), .val (.int pk), .val (.int rm_), .val (.int cl), .val (.int p2), .val (.int ce), .val (.int n2), .val (.int n1), .val (.long x2), .second, .val (.long y2), .second, .val (.long qx), .second, .val (.long qy), .second, .val (.ref b1), .unset, .unset, .unset, .unset] [(.int (own_r6 qx qy nC_4 (own_upd (fun _ => (0 : Int32)) (own_r4 y0_0 y1_0 nC_4 (fun _ => (0 : Int32)) (fun _ => (0 : Int64)) (fun _ => (0 : Int64))) (n1 + (1 : Int32))) (own_p3_0 y0_0 y1_0 nC_4 (fun _ => (0 : Int32)) (fun _ => (0 : Int64)) (fun _ => (0 : Int64))) (own_p3_1 y0_0 y1_0 nC_4 (fun _ => (0 : Int32)) (fun _ => (0 : Int64)) (fun _ => (0 : Int64)))))]))
        generalize hgot : (own_r6 qx qy nC_4 (own_upd (fun _ => (0 : Int32)) (own_r4 y0_0 y1_0 nC_4 (fun _ => (0 : Int32)) (fun _ => (0 : Int64)) (fun _ => (0 : Int64))) (n1 + (1 : Int32))) (own_p3_0 y0_0 y1_0 nC_4 (fun _ => (0 : Int32)) (fun _ => (0 : Int64)) (fun _ => (0 : Int64))) (own_p3_1 y0_0 y1_0 nC_4 (fun _ => (0 : Int32)) (fun _ => (0 : Int64)) (fun _ => (0 : Int64)))) = got
        refine own_step (fun t k => XS.istore X14.here hx rfl (hb hby at_226) rfl (l' := #[.val (.long y0_0), .second, .val (.long y1_0), .second, .val (.long y2_0), .second, .val (.long y3_0), .second, .val (.int x4_0), .val (.int x5_0), .val (.int pk), .val (.int rm_), .val (.int cl), .val (.int p2), .val (.int ce), .val (.int n2), .val (.int n1), .val (.long x2), .second, .val (.long y2), .second, .val (.long qx), .second, .val (.long qy), .second, .val (.ref b1), .val (.int got), .unset, .unset, .unset]) rfl k) ?_
        refine own_step (fun t k => XS.iload X14.here hx rfl (hb hby at_228) rfl k) ?_
        show own_Ends p.tables e below s _ _ _ (T14.setTop (mkF m 230 #[.val (.long y0_0), .second, .val (.long y1_0), .second, .val (.long y2_0), .second, .val (.long y3_0), .second, .val (.int x4_0), .val (.int x5_0), .val (.int pk), .val (.int rm_), .val (.int cl), .val (.int p2), .val (.int ce), .val (.int n2), .val (.int n1), .val (.long x2), .second, .val (.long y2), .second, .val (.long qx), .second, .val (.long qy), .second, .val (.ref b1), .val (.int got), .unset, .unset, .unset] [(.int rm_)]))
        refine own_step (fun t k => XS.ifNo X14.here hx rfl (hb hby at_230) rfl ((if0 _ _).trans (teq hc207_12).2) k) ?_
        refine own_step (fun t k => XS.iconst X14.here hx rfl (hb hby at_233) k) ?_
        refine own_step (fun t k => XS.goto X14.here hx rfl (pc0 := 234) (pc' := 238) rfl (hb hby at_234) (by decide) (by decide) k) ?_
        refine own_step (fun t k => XS.istore X14.here hx rfl (hb hby at_238) rfl (l' := #[.val (.long y0_0), .second, .val (.long y1_0), .second, .val (.long y2_0), .second, .val (.long y3_0), .second, .val (.int x4_0), .val (.int x5_0), .val (.int pk), .val (.int rm_), .val (.int cl), .val (.int p2), .val (.int ce), .val (.int n2), .val (.int n1), .val (.long x2), .second, .val (.long y2), .second, .val (.long qx), .second, .val (.long qy), .second, .val (.ref b1), .val (.int got), .val (.int (1 : Int32)), .unset, .unset]) rfl k) ?_
        refine own_step (fun t k => XS.iload X14.here hx rfl (hb hby at_240) rfl k) ?_
        show own_Ends p.tables e below s _ _ _ (T14.setTop (mkF m 242 #[.val (.long y0_0), .second, .val (.long y1_0), .second, .val (.long y2_0), .second, .val (.long y3_0), .second, .val (.int x4_0), .val (.int x5_0), .val (.int pk), .val (.int rm_), .val (.int cl), .val (.int p2), .val (.int ce), .val (.int n2), .val (.int n1), .val (.long x2), .second, .val (.long y2), .second, .val (.long qx), .second, .val (.long qy), .second, .val (.ref b1), .val (.int got), .val (.int (1 : Int32)), .unset, .unset] [(.int p2)]))
        refine own_step (fun t k => XS.ifYes X14.here hx rfl (pc0 := 242) (pc' := 266) rfl (hb hby at_242) rfl ((if0 _ _).trans (teq hc191_11).1) (by decide) (by decide) k) ?_
        refine own_step (fun t k => XS.iconst X14.here hx rfl (hb hby at_266) k) ?_
        refine own_step (fun t k => XS.istore X14.here hx rfl (hb hby at_267) rfl (l' := #[.val (.long y0_0), .second, .val (.long y1_0), .second, .val (.long y2_0), .second, .val (.long y3_0), .second, .val (.int x4_0), .val (.int x5_0), .val (.int pk), .val (.int rm_), .val (.int cl), .val (.int p2), .val (.int ce), .val (.int n2), .val (.int n1), .val (.long x2), .second, .val (.long y2), .second, .val (.long qx), .second, .val (.long qy), .second, .val (.ref b1), .val (.int got), .val (.int (1 : Int32)), .val (.int (0 : Int32)), .unset]) rfl k) ?_
        refine own_step (fun t k => XS.iload X14.here hx rfl (hb hby at_269) rfl k) ?_
        show own_Ends p.tables e below s _ _ _ (T14.setTop (mkF m 271 #[.val (.long y0_0), .second, .val (.long y1_0), .second, .val (.long y2_0), .second, .val (.long y3_0), .second, .val (.int x4_0), .val (.int x5_0), .val (.int pk), .val (.int rm_), .val (.int cl), .val (.int p2), .val (.int ce), .val (.int n2), .val (.int n1), .val (.long x2), .second, .val (.long y2), .second, .val (.long qx), .second, .val (.long qy), .second, .val (.ref b1), .val (.int got), .val (.int (1 : Int32)), .val (.int (0 : Int32)), .unset] [(.int (0 : Int32))]))
        refine own_step (fun t k => XS.ifYes X14.here hx rfl (pc0 := 271) (pc' := 295) rfl (hb hby at_271) rfl ((if0 _ _).trans (teq (by decide : (0 : Int32) = (0 : Int32))).1) (by decide) (by decide) k) ?_
        refine own_step (fun t k => XS.iload X14.here hx rfl (hb hby at_295) rfl k) ?_
        show own_Ends p.tables e below s _ _ _ (T14.setTop (mkF m 297 #[.val (.long y0_0), .second, .val (.long y1_0), .second, .val (.long y2_0), .second, .val (.long y3_0), .second, .val (.int x4_0), .val (.int x5_0), .val (.int pk), .val (.int rm_), .val (.int cl), .val (.int p2), .val (.int ce), .val (.int n2), .val (.int n1), .val (.long x2), .second, .val (.long y2), .second, .val (.long qx), .second, .val (.long qy), .second, .val (.ref b1), .val (.int got), .val (.int (1 : Int32)), .val (.int (0 : Int32)), .unset] [(.int (1 : Int32))]))
        refine own_step (fun t k => XS.ifNo X14.here hx rfl (hb hby at_297) rfl ((if0 _ _).trans (feq (by decide : ¬ ((1 : Int32) = (0 : Int32)))).1) k) ?_
        refine own_step (fun t k => XS.lload X14.here hx rfl (hb hby at_300) rfl k) ?_
        refine own_step (fun t k => XS.lload X14.here hx rfl (hb hby at_302) rfl k) ?_
        refine own_step (fun t k => XS.lloadN X14.here hx rfl (hb hby at_304) rfl k) ?_
        refine own_step (fun t k => XS.lloadN X14.here hx rfl (hb hby at_305) rfl k) ?_
        show own_Ends p.tables e below s _ _ _ (T14.setTop (mkF m 306 #[.val (.long y0_0), .second, .val (.long y1_0), .second, .val (.long y2_0), .second, .val (.long y3_0), .second, .val (.int x4_0), .val (.int x5_0), .val (.int pk), .val (.int rm_), .val (.int cl), .val (.int p2), .val (.int ce), .val (.int n2), .val (.int n1), .val (.long x2), .second, .val (.long y2), .second, .val (.long qx), .second, .val (.long qy), .second, .val (.ref b1), .val (.int got), .val (.int (1 : Int32)), .val (.int (0 : Int32)), .unset] [(.long y1_0), (.long y0_0), (.long qy), (.long qx)]))
        obtain ⟨_, _, ⟨T16, L16, k16, n16⟩, -, X16, ⟨Lc16, hQ16, l16, y16, z16⟩, st16⟩ := Jvm.LawKit.callS X14 hx (y := (⟨"com/example/swanhall/swanhall/core/CellTableGetPinLaw", "same", "(JJJJ)Z"⟩ : MethodName)) hown (mvT hZ (hw _ (List.mem_of_getElem? (i := 40) rfl))) (mvT hZ (hw _ (List.mem_of_getElem? (i := 41) rfl))) (mvT hZ (hw _ (List.mem_of_getElem? (i := 42) rfl))) (mvT hZ (hw _ (List.mem_of_getElem? (i := 43) rfl))) (by decide) (backOf (W := 0) (rm7 l Z a0 hw [] qx qy y0_0 y1_0 T8.heap n0 O13 ) hZ (hw _ (List.mem_of_getElem? (i := 43) rfl)) (hw _ (List.mem_of_getElem? (i := 42) rfl)) (by decide) (by decide)) (g := (mkF m 306 #[.val (.long y0_0), .second, .val (.long y1_0), .second, .val (.long y2_0), .second, .val (.long y3_0), .second, .val (.int x4_0), .val (.int x5_0), .val (.int pk), .val (.int rm_), .val (.int cl), .val (.int p2), .val (.int ce), .val (.int n2), .val (.int n1), .val (.long x2), .second, .val (.long y2), .second, .val (.long qx), .second, .val (.long qy), .second, .val (.ref b1), .val (.int got), .val (.int (1 : Int32)), .val (.int (0 : Int32)), .unset] [(.long y1_0), (.long y0_0), (.long qy), (.long qx)])) rfl (by rw [hml]; rfl) (argsL := [(.long qx), (.long qy), (.long y0_0), (.long y1_0)]) (rest := []) (lenOf pd_3 rfl) rfl (by show 2 * 0 + _ ≤ _; exact Nat.le_of_eq rfl) (hb hby at_306) (fun _ _ => ⟨rfl, e14, (by decide : 4 + 0 ≤ _), (by decide : 772 + 0 ≤ _)⟩)
        dsimp only [Pt.U, Pt.locs, Pt.cells, Pt.slots] at X16 l16 y16 z16 st16 hQ16
        subst y16 z16
        obtain ⟨rfl, N16q, e16⟩ := hQ16
        refine own_step (fun t k => st16 _ k) ?_
        have N17 : Fr n0 L16 := by rw [l16]; exact Fr.app N15 N16q
        show own_Ends p.tables e below s _ _ _ (T16.setTop (mkF m 309 #[.val (.long y0_0), .second, .val (.long y1_0), .second, .val (.long y2_0), .second, .val (.long y3_0), .second, .val (.int x4_0), .val (.int x5_0), .val (.int pk), .val (.int rm_), .val (.int cl), .val (.int p2), .val (.int ce), .val (.int n2), .val (.int n1), .val (.long x2), .second, .val (.long y2), .second, .val (.long qx), .second, .val (.long qy), .second, .val (.ref b1), .val (.int got), .val (.int (1 : Int32)), .val (.int (0 : Int32)), .unset] [(.int (own_r7 qx qy y0_0 y1_0))]))
        by_cases hc309_18 : (own_r7 qx qy y0_0 y1_0) = (0 : Int32)
        · skip
          refine own_step (fun t k => XS.ifYes X16.here hx rfl (pc0 := 309) (pc' := 319) rfl (hb hby at_309) rfl ((if0 _ _).trans (teq hc309_18).1) (by decide) (by decide) k) ?_
          refine own_step (fun t k => XS.iconst X16.here hx rfl (hb hby at_319) k) ?_
          refine own_step (fun t k => XS.istore X16.here hx rfl (hb hby at_320) rfl (l' := #[.val (.long y0_0), .second, .val (.long y1_0), .second, .val (.long y2_0), .second, .val (.long y3_0), .second, .val (.int x4_0), .val (.int x5_0), .val (.int pk), .val (.int rm_), .val (.int cl), .val (.int p2), .val (.int ce), .val (.int n2), .val (.int n1), .val (.long x2), .second, .val (.long y2), .second, .val (.long qx), .second, .val (.long qy), .second, .val (.ref b1), .val (.int got), .val (.int (1 : Int32)), .val (.int (0 : Int32)), .val (.int (-1 : Int32))]) rfl k) ?_
          refine own_step (fun t k => XS.iload X16.here hx rfl (hb hby at_322) rfl k) ?_
          refine own_step (fun t k => XS.iload X16.here hx rfl (hb hby at_324) rfl k) ?_
          show own_Ends p.tables e below s _ _ _ (T16.setTop (mkF m 326 #[.val (.long y0_0), .second, .val (.long y1_0), .second, .val (.long y2_0), .second, .val (.long y3_0), .second, .val (.int x4_0), .val (.int x5_0), .val (.int pk), .val (.int rm_), .val (.int cl), .val (.int p2), .val (.int ce), .val (.int n2), .val (.int n1), .val (.long x2), .second, .val (.long y2), .second, .val (.long qx), .second, .val (.long qy), .second, .val (.ref b1), .val (.int got), .val (.int (1 : Int32)), .val (.int (0 : Int32)), .val (.int (-1 : Int32))] [(.int (-1 : Int32)), (.int got)]))
          by_cases hc326_19 : got = (-1 : Int32)
          · skip
            refine own_step (fun t k => XS.icmpNo X16.here hx rfl (hb hby at_326) rfl (teq hc326_19).2 k) ?_
            refine own_step (fun t k => XS.iconst X16.here hx rfl (hb hby at_329) k) ?_
            refine own_step (fun t k => XS.goto X16.here hx rfl (pc0 := 330) (pc' := 334) rfl (hb hby at_330) (by decide) (by decide) k) ?_
            show own_Ends p.tables e below s _ _ _ (T16.setTop (mkF m 334 #[.val (.long y0_0), .second, .val (.long y1_0), .second, .val (.long y2_0), .second, .val (.long y3_0), .second, .val (.int x4_0), .val (.int x5_0), .val (.int pk), .val (.int rm_), .val (.int cl), .val (.int p2), .val (.int ce), .val (.int n2), .val (.int n1), .val (.long x2), .second, .val (.long y2), .second, .val (.long qx), .second, .val (.long qy), .second, .val (.ref b1), .val (.int got), .val (.int (1 : Int32)), .val (.int (0 : Int32)), .val (.int (-1 : Int32))] [(.int (1 : Int32))]))
            exact own_retN X16 hx (t := .boolean) Bd.returns (by simp) (hb hby at_334) hnl (by rw [e16]; exact ⟨rfl, N17⟩) (by decide) (by decide)
          · skip
            refine own_step (fun t k => XS.icmpYes X16.here hx rfl (pc0 := 326) (pc' := 333) rfl (hb hby at_326) rfl (feq hc326_19).2 (by decide) (by decide) k) ?_
            refine own_step (fun t k => XS.iconst X16.here hx rfl (hb hby at_333) k) ?_
            show own_Ends p.tables e below s _ _ _ (T16.setTop (mkF m 334 #[.val (.long y0_0), .second, .val (.long y1_0), .second, .val (.long y2_0), .second, .val (.long y3_0), .second, .val (.int x4_0), .val (.int x5_0), .val (.int pk), .val (.int rm_), .val (.int cl), .val (.int p2), .val (.int ce), .val (.int n2), .val (.int n1), .val (.long x2), .second, .val (.long y2), .second, .val (.long qx), .second, .val (.long qy), .second, .val (.ref b1), .val (.int got), .val (.int (1 : Int32)), .val (.int (0 : Int32)), .val (.int (-1 : Int32))] [(.int (0 : Int32))]))
            exfalso
            exact hc326_19 (by rw [← hgot, own_specA hN y0_0 y1_0 n1 hk1 qx qy]; exact if_neg ((own_same _ _ _ _).mp hc309_18))
        · skip
          refine own_step (fun t k => XS.ifNo X16.here hx rfl (hb hby at_309) rfl ((if0 _ _).trans (feq hc309_18).1) k) ?_
          refine own_step (fun t k => XS.iload X16.here hx rfl (hb hby at_312) rfl k) ?_
          refine own_step (fun t k => XS.istore X16.here hx rfl (hb hby at_314) rfl (l' := #[.val (.long y0_0), .second, .val (.long y1_0), .second, .val (.long y2_0), .second, .val (.long y3_0), .second, .val (.int x4_0), .val (.int x5_0), .val (.int pk), .val (.int rm_), .val (.int cl), .val (.int p2), .val (.int ce), .val (.int n2), .val (.int n1), .val (.long x2), .second, .val (.long y2), .second, .val (.long qx), .second, .val (.long qy), .second, .val (.ref b1), .val (.int got), .val (.int (1 : Int32)), .val (.int (0 : Int32)), .val (.int n1)]) rfl k) ?_
          refine own_step (fun t k => XS.goto X16.here hx rfl (pc0 := 316) (pc' := 322) rfl (hb hby at_316) (by decide) (by decide) k) ?_
          refine own_step (fun t k => XS.iload X16.here hx rfl (hb hby at_322) rfl k) ?_
          refine own_step (fun t k => XS.iload X16.here hx rfl (hb hby at_324) rfl k) ?_
          show own_Ends p.tables e below s _ _ _ (T16.setTop (mkF m 326 #[.val (.long y0_0), .second, .val (.long y1_0), .second, .val (.long y2_0), .second, .val (.long y3_0), .second, .val (.int x4_0), .val (.int x5_0), .val (.int pk), .val (.int rm_), .val (.int cl), .val (.int p2), .val (.int ce), .val (.int n2), .val (.int n1), .val (.long x2), .second, .val (.long y2), .second, .val (.long qx), .second, .val (.long qy), .second, .val (.ref b1), .val (.int got), .val (.int (1 : Int32)), .val (.int (0 : Int32)), .val (.int n1)] [(.int n1), (.int got)]))
          by_cases hc326_20 : got = n1
          · skip
            refine own_step (fun t k => XS.icmpNo X16.here hx rfl (hb hby at_326) rfl (teq hc326_20).2 k) ?_
            refine own_step (fun t k => XS.iconst X16.here hx rfl (hb hby at_329) k) ?_
            refine own_step (fun t k => XS.goto X16.here hx rfl (pc0 := 330) (pc' := 334) rfl (hb hby at_330) (by decide) (by decide) k) ?_
            show own_Ends p.tables e below s _ _ _ (T16.setTop (mkF m 334 #[.val (.long y0_0), .second, .val (.long y1_0), .second, .val (.long y2_0), .second, .val (.long y3_0), .second, .val (.int x4_0), .val (.int x5_0), .val (.int pk), .val (.int rm_), .val (.int cl), .val (.int p2), .val (.int ce), .val (.int n2), .val (.int n1), .val (.long x2), .second, .val (.long y2), .second, .val (.long qx), .second, .val (.long qy), .second, .val (.ref b1), .val (.int got), .val (.int (1 : Int32)), .val (.int (0 : Int32)), .val (.int n1)] [(.int (1 : Int32))]))
            exact own_retN X16 hx (t := .boolean) Bd.returns (by simp) (hb hby at_334) hnl (by rw [e16]; exact ⟨rfl, N17⟩) (by decide) (by decide)
          · skip
            refine own_step (fun t k => XS.icmpYes X16.here hx rfl (pc0 := 326) (pc' := 333) rfl (hb hby at_326) rfl (feq hc326_20).2 (by decide) (by decide) k) ?_
            refine own_step (fun t k => XS.iconst X16.here hx rfl (hb hby at_333) k) ?_
            show own_Ends p.tables e below s _ _ _ (T16.setTop (mkF m 334 #[.val (.long y0_0), .second, .val (.long y1_0), .second, .val (.long y2_0), .second, .val (.long y3_0), .second, .val (.int x4_0), .val (.int x5_0), .val (.int pk), .val (.int rm_), .val (.int cl), .val (.int p2), .val (.int ce), .val (.int n2), .val (.int n1), .val (.long x2), .second, .val (.long y2), .second, .val (.long qx), .second, .val (.long qy), .second, .val (.ref b1), .val (.int got), .val (.int (1 : Int32)), .val (.int (0 : Int32)), .val (.int n1)] [(.int (0 : Int32))]))
            exfalso
            exact hc326_20 (by rw [← hgot, own_specA hN y0_0 y1_0 n1 hk1 qx qy]; exact if_pos (Classical.not_not.mp (fun q => hc309_18 ((own_same _ _ _ _).mpr q))))
      · skip
        refine own_step (fun t k => XS.ifNo X8.here hx rfl (hb hby at_207) rfl ((if0 _ _).trans (feq hc207_12).1) k) ?_
        refine own_step (fun t k => XS.aload X8.here hx rfl (hb hby at_210) rfl rfl k) ?_
        refine own_step (fun t k => XS.lloadN X8.here hx rfl (hb hby at_212) rfl k) ?_
        refine own_step (fun t k => XS.lloadN X8.here hx rfl (hb hby at_213) rfl k) ?_
        show own_Ends p.tables e below s _ _ _ (T8.setTop (mkF m 214 #[.val (.long y0_0), .second, .val (.long y1_0), .second, .val (.long y2_0), .second, .val (.long y3_0), .second, .val (.int x4_0), .val (.int x5_0), .val (.int pk), .val (.int rm_), .val (.int cl), .val (.int p2), .val (.int ce), .val (.int n2), .val (.int n1), .val (.long x2), .second, .val (.long y2), .second, .val (.long qx), .second, .val (.long qy), .second, .val (.ref b1), .unset, .unset, .unset, .unset] [(.long y1_0), (.long y0_0), (.ref b1)]))
        have O21 : Old Z n0 T8.heap := (O7.keep K8q (allS g_ax_4 (allS g_ay_4 (allS g_b1 (allS g_an_4 all0)))))
        obtain ⟨cq22, kq22, q22a, q22b, q22c⟩ := isOf hZ rfl p8_6
        obtain ⟨_, _, ⟨T22, L22, k22, n22⟩, -, X22, ⟨Lc22, hQ22, l22, y22, z22⟩, st22⟩ := X8.virtualBack hx (y := (⟨"com/example/swanhall/swanhall/core/CellTable", "remove", "(JJ)V"⟩ : MethodName)) (z := (⟨"com/example/swanhall/swanhall/core/CellTable", "remove", "(JJ)V"⟩ : MethodName)) hown (mvT hZ (hw _ (List.mem_of_getElem? (i := 46) rfl))) (mvT hZ (hw _ (List.mem_of_getElem? (i := 47) rfl))) (notFace_of_selects (args := #[]) (mvT hZ (hw _ (List.mem_of_getElem? (i := 49) rfl)))) (mvT hZ (hw _ (List.mem_of_getElem? (i := 49) rfl))) (mvT hZ (hw _ (List.mem_of_getElem? (i := 48) rfl))) (by decide) (backOf (W := 0) (rm8 l Z a0 hw [] b1 y0_0 y1_0 an_4 nC_4 (own_upd (fun _ => (0 : Int32)) (own_r4 y0_0 y1_0 nC_4 (fun _ => (0 : Int32)) (fun _ => (0 : Int64)) (fun _ => (0 : Int64))) (n1 + (1 : Int32))) ax_4 (own_p3_0 y0_0 y1_0 nC_4 (fun _ => (0 : Int32)) (fun _ => (0 : Int64)) (fun _ => (0 : Int64))) ay_4 (own_p3_1 y0_0 y1_0 nC_4 (fun _ => (0 : Int32)) (fun _ => (0 : Int64)) (fun _ => (0 : Int64))) (own_p3_2 y0_0 y1_0 nC_4 (fun _ => (0 : Int32)) (fun _ => (0 : Int64)) (fun _ => (0 : Int64)) (0 : Int32)) T8.heap n0 O21 (own_Npos hN) (own_stops hN ((own_put0 y0_0 y1_0 n1 hk1).sup hN)) (fun s h1 h2 => own_nx2 hN ⟨h1, h2⟩) p8_2 p8_7 p8_3 p8_0 p8_4 p8_1 p8_5 p8_6 g_an_4 ne_b1_an_4 g_b1 g_ax_4 ne_b1_ax_4 (Ne.symm p4_12) g_ay_4 ne_b1_ay_4 (Ne.symm p4_13) (Ne.symm p4_14)) hZ (hw _ (List.mem_of_getElem? (i := 50) rfl)) (hw _ (List.mem_of_getElem? (i := 3) rfl)) (by decide) (by decide)) q22a q22c (g := (mkF m 214 #[.val (.long y0_0), .second, .val (.long y1_0), .second, .val (.long y2_0), .second, .val (.long y3_0), .second, .val (.int x4_0), .val (.int x5_0), .val (.int pk), .val (.int rm_), .val (.int cl), .val (.int p2), .val (.int ce), .val (.int n2), .val (.int n1), .val (.long x2), .second, .val (.long y2), .second, .val (.long qx), .second, .val (.long qy), .second, .val (.ref b1), .unset, .unset, .unset, .unset] [(.long y1_0), (.long y0_0), (.ref b1)])) rfl (by rw [hml]; rfl) (Steps.refl _) (argsL := [(.long y0_0), (.long y1_0)]) (rest := []) (lenOf pd_4 rfl) rfl (by show 2 * 0 + _ ≤ _; exact Nat.le_of_eq rfl) (hb hby at_214) (fun _ _ => ⟨rfl, rfl, (by decide : 4 + 0 ≤ _), (by decide : 772 + 0 ≤ _)⟩)
        dsimp only [Pt.U, Pt.locs, Pt.cells, Pt.slots] at X22 l22 y22 z22 st22 hQ22
        subst y22 z22
        obtain ⟨rfl, N22q, K22q, p22_0, p22_1, p22_2, p22_3, p22_4, p22_5, p22_6, p22_7⟩ := hQ22
        refine own_step (fun t k => st22.trans k) ?_
        have N23 : Fr n0 L22 := by rw [l22]; exact Fr.app N9 N22q
        have K24 : Keep h0 T22.heap [] := K10.trans K22q (allS (Or.inr sz_an_4) (allS (Or.inr sz_b1) (allS (Or.inr sz_ax_4) (allS (Or.inr sz_ay_4) all0))))
        refine own_step (fun t k => XS.aload X22.here hx rfl (hb hby at_217) rfl rfl k) ?_
        refine own_step (fun t k => XS.lload X22.here hx rfl (hb hby at_219) rfl k) ?_
        refine own_step (fun t k => XS.lload X22.here hx rfl (hb hby at_221) rfl k) ?_
        show own_Ends p.tables e below s _ _ _ (T22.setTop (mkF m 223 #[.val (.long y0_0), .second, .val (.long y1_0), .second, .val (.long y2_0), .second, .val (.long y3_0), .second, .val (.int x4_0), .val (.int x5_0), .val (.int pk), .val (.int rm_), .val (.int cl), .val (.int p2), .val (.int ce), .val (.int n2), .val (.int n1), .val (.long x2), .second, .val (.long y2), .second, .val (.long qx), .second, .val (.long qy), .second, .val (.ref b1), .unset, .unset, .unset, .unset] [(.long qy), (.long qx), (.ref b1)]))
        have O25 : Old Z n0 T22.heap := (O21.keep K22q (allS g_an_4 (allS g_b1 (allS g_ax_4 (allS g_ay_4 all0)))))
        obtain ⟨cq26, kq26, q26a, q26b, q26c⟩ := isOf hZ rfl p22_5
        obtain ⟨_, _, ⟨T26, L26, k26, n26⟩, -, X26, ⟨Lc26, hQ26, l26, y26, z26⟩, st26⟩ := X22.virtualBack hx (y := (⟨"com/example/swanhall/swanhall/core/CellTable", "get", "(JJ)I"⟩ : MethodName)) (z := (⟨"com/example/swanhall/swanhall/core/CellTable", "get", "(JJ)I"⟩ : MethodName)) hown (mvT hZ (hw _ (List.mem_of_getElem? (i := 35) rfl))) (mvT hZ (hw _ (List.mem_of_getElem? (i := 36) rfl))) (notFace_of_selects (args := #[]) (mvT hZ (hw _ (List.mem_of_getElem? (i := 38) rfl)))) (mvT hZ (hw _ (List.mem_of_getElem? (i := 38) rfl))) (mvT hZ (hw _ (List.mem_of_getElem? (i := 37) rfl))) (by decide) (backOf (W := 0) (rm6 l Z a0 hw [] b1 qx qy an_4 nC_4 (own_p8_0 y0_0 y1_0 nC_4 (own_upd (fun _ => (0 : Int32)) (own_r4 y0_0 y1_0 nC_4 (fun _ => (0 : Int32)) (fun _ => (0 : Int64)) (fun _ => (0 : Int64))) (n1 + (1 : Int32))) (own_p3_0 y0_0 y1_0 nC_4 (fun _ => (0 : Int32)) (fun _ => (0 : Int64)) (fun _ => (0 : Int64))) (own_p3_1 y0_0 y1_0 nC_4 (fun _ => (0 : Int32)) (fun _ => (0 : Int64)) (fun _ => (0 : Int64)))) ax_4 (own_p8_2 y0_0 y1_0 nC_4 (own_upd (fun _ => (0 : Int32)) (own_r4 y0_0 y1_0 nC_4 (fun _ => (0 : Int32)) (fun _ => (0 : Int64)) (fun _ => (0 : Int64))) (n1 + (1 : Int32))) (own_p3_0 y0_0 y1_0 nC_4 (fun _ => (0 : Int32)) (fun _ => (0 : Int64)) (fun _ => (0 : Int64))) (own_p3_1 y0_0 y1_0 nC_4 (fun _ => (0 : Int32)) (fun _ => (0 : Int64)) (fun _ => (0 : Int64)))) ay_4 (own_p8_3 y0_0 y1_0 nC_4 (own_upd (fun _ => (0 : Int32)) (own_r4 y0_0 y1_0 nC_4 (fun _ => (0 : Int32)) (fun _ => (0 : Int64)) (fun _ => (0 : Int64))) (n1 + (1 : Int32))) (own_p3_0 y0_0 y1_0 nC_4 (fun _ => (0 : Int32)) (fun _ => (0 : Int64)) (fun _ => (0 : Int64))) (own_p3_1 y0_0 y1_0 nC_4 (fun _ => (0 : Int32)) (fun _ => (0 : Int64)) (fun _ => (0 : Int64)))) T22.heap n0 O25 (own_Npos hN) (own_stops hN (own_remSup ((own_put0 y0_0 y1_0 n1 hk1).sup hN) _ _)) p22_1 p22_0 p22_5 p22_2 p22_6 p22_3 p22_7) hZ (hw _ (List.mem_of_getElem? (i := 39) rfl)) (hw _ (List.mem_of_getElem? (i := 3) rfl)) (by decide) (by decide)) q26a q26c (g := (mkF m 223 #[.val (.long y0_0), .second, .val (.long y1_0), .second, .val (.long y2_0), .second, .val (.long y3_0), .second, .val (.int x4_0), .val (.int x5_0), .val (.int pk), .val (.int rm_), .val (.int cl), .val (.int p2), .val (.int ce), .val (.int n2), .val (.int n1), .val (.long x2), .second, .val (.long y2), .second, .val (.long qx), .second, .val (.long qy), .second, .val (.ref b1), .unset, .unset, .unset, .unset] [(.long qy), (.long qx), (.ref b1)])) rfl (by rw [hml]; rfl) (Steps.refl _) (argsL := [(.long qx), (.long qy)]) (rest := []) (lenOf pd_0 rfl) rfl (by show 2 * 0 + _ ≤ _; exact Nat.le_of_eq rfl) (hb hby at_223) (fun _ _ => ⟨rfl, rfl, (by decide : 4 + 0 ≤ _), (by decide : 772 + 0 ≤ _)⟩)
        dsimp only [Pt.U, Pt.locs, Pt.cells, Pt.slots] at X26 l26 y26 z26 st26 hQ26
        subst y26 z26
        obtain ⟨rfl, N26q, e26⟩ := hQ26
        refine own_step (fun t k => st26.trans k) ?_
        have N27 : Fr n0 L26 := by rw [l26]; exact Fr.app N23 N26q
        show own_Ends p.tables e below s _ _ _ (T26.setTop (mkF m 226 #[.val (.long y0_0), .second, .val (.long y1_0), .second, .val (.long y2_0), .second, .val (.long y3_0), .second, .val (.int x4_0), .val (.int x5_0), .val (.int pk), .val (.int rm_), .val (.int cl), .val (.int p2), .val (.int ce), .val (.int n2), .val (.int n1), .val (.long x2), .second, .val (.long y2), .second, .val (.long qx), .second, .val (.long qy), .second, .val (.ref b1), .unset, .unset, .unset, .unset] [(.int (own_r6 qx qy nC_4 (own_p8_0 y0_0 y1_0 nC_4 (own_upd (fun _ => (0 : Int32)) (own_r4 y0_0 y1_0 nC_4 (fun _ => (0 : Int32)) (fun _ => (0 : Int64)) (fun _ => (0 : Int64))) (n1 + (1 : Int32))) (own_p3_0 y0_0 y1_0 nC_4 (fun _ => (0 : Int32)) (fun _ => (0 : Int64)) (fun _ => (0 : Int64))) (own_p3_1 y0_0 y1_0 nC_4 (fun _ => (0 : Int32)) (fun _ => (0 : Int64)) (fun _ => (0 : Int64)))) (own_p8_2 y0_0 y1_0 nC_4 (own_upd (fun _ => (0 : Int32)) (own_r4 y0_0 y1_0 nC_4 (fun _ => (0 : Int32)) (fun _ => (0 : Int64)) (fun _ => (0 : Int64))) (n1 + (1 : Int32))) (own_p3_0 y0_0 y1_0 nC_4 (fun _ => (0 : Int32)) (fun _ => (0 : Int64)) (fun _ => (0 : Int64))) (own_p3_1 y0_0 y1_0 nC_4 (fun _ => (0 : Int32)) (fun _ => (0 : Int64)) (fun _ => (0 : Int64)))) (own_p8_3 y0_0 y1_0 nC_4 (own_upd (fun _ => (0 : Int32)) (own_r4 y0_0 y1_0 nC_4 (fun _ => (0 : Int32)) (fun _ => (0 : Int64)) (fun _ => (0 : Int64))) (n1 + (1 : Int32))) (own_p3_0 y0_0 y1_0 nC_4 (fun _ => (0 : Int32)) (fun _ => (0 : Int64)) (fun _ => (0 : Int64))) (own_p3_1 y0_0 y1_0 nC_4 (fun _ => (0 : Int32)) (fun _ => (0 : Int64)) (fun _ => (0 : Int64))))))]))
        generalize hgot : (own_r6 qx qy nC_4 (own_p8_0 y0_0 y1_0 nC_4 (own_upd (fun _ => (0 : Int32)) (own_r4 y0_0 y1_0 nC_4 (fun _ => (0 : Int32)) (fun _ => (0 : Int64)) (fun _ => (0 : Int64))) (n1 + (1 : Int32))) (own_p3_0 y0_0 y1_0 nC_4 (fun _ => (0 : Int32)) (fun _ => (0 : Int64)) (fun _ => (0 : Int64))) (own_p3_1 y0_0 y1_0 nC_4 (fun _ => (0 : Int32)) (fun _ => (0 : Int64)) (fun _ => (0 : Int64)))) (own_p8_2 y0_0 y1_0 nC_4 (own_upd (fun _ => (0 : Int32)) (own_r4 y0_0 y1_0 nC_4 (fun _ => (0 : Int32)) (fun _ => (0 : Int64)) (fun _ => (0 : Int64))) (n1 + (1 : Int32))) (own_p3_0 y0_0 y1_0 nC_4 (fun _ => (0 : Int32)) (fun _ => (0 : Int64)) (fun _ => (0 : Int64))) (own_p3_1 y0_0 y1_0 nC_4 (fun _ => (0 : Int32)) (fun _ => (0 : Int64)) (fun _ => (0 : Int64)))) (own_p8_3 y0_0 y1_0 nC_4 (own_upd (fun _ => (0 : Int32)) (own_r4 y0_0 y1_0 nC_4 (fun _ => (0 : Int32)) (fun _ => (0 : Int64)) (fun _ => (0 : Int64))) (n1 + (1 : Int32))) (own_p3_0 y0_0 y1_0 nC_4 (fun _ => (0 : Int32)) (fun _ => (0 : Int64)) (fun _ => (0 : Int64))) (own_p3_1 y0_0 y1_0 nC_4 (fun _ => (0 : Int32)) (fun _ => (0 : Int64)) (fun _ => (0 : Int64))))) = got
        refine own_step (fun t k => XS.istore X26.here hx rfl (hb hby at_226) rfl (l' := #[.val (.long y0_0), .second, .val (.long y1_0), .second, .val (.long y2_0), .second, .val (.long y3_0), .second, .val (.int x4_0), .val (.int x5_0), .val (.int pk), .val (.int rm_), .val (.int cl), .val (.int p2), .val (.int ce), .val (.int n2), .val (.int n1), .val (.long x2), .second, .val (.long y2), .second, .val (.long qx), .second, .val (.long qy), .second, .val (.ref b1), .val (.int got), .unset, .unset, .unset]) rfl k) ?_
        refine own_step (fun t k => XS.iload X26.here hx rfl (hb hby at_228) rfl k) ?_
        show own_Ends p.tables e below s _ _ _ (T26.setTop (mkF m 230 #[.val (.long y0_0), .second, .val (.long y1_0), .second, .val (.long y2_0), .second, .val (.long y3_0), .second, .val (.int x4_0), .val (.int x5_0), .val (.int pk), .val (.int rm_), .val (.int cl), .val (.int p2), .val (.int ce), .val (.int n2), .val (.int n1), .val (.long x2), .second, .val (.long y2), .second, .val (.long qx), .second, .val (.long qy), .second, .val (.ref b1), .val (.int got), .unset, .unset, .unset] [(.int rm_)]))
        refine own_step (fun t k => XS.ifYes X26.here hx rfl (pc0 := 230) (pc' := 237) rfl (hb hby at_230) rfl ((if0 _ _).trans (feq hc207_12).2) (by decide) (by decide) k) ?_
        refine own_step (fun t k => XS.iconst X26.here hx rfl (hb hby at_237) k) ?_
        refine own_step (fun t k => XS.istore X26.here hx rfl (hb hby at_238) rfl (l' := #[.val (.long y0_0), .second, .val (.long y1_0), .second, .val (.long y2_0), .second, .val (.long y3_0), .second, .val (.int x4_0), .val (.int x5_0), .val (.int pk), .val (.int rm_), .val (.int cl), .val (.int p2), .val (.int ce), .val (.int n2), .val (.int n1), .val (.long x2), .second, .val (.long y2), .second, .val (.long qx), .second, .val (.long qy), .second, .val (.ref b1), .val (.int got), .val (.int (0 : Int32)), .unset, .unset]) rfl k) ?_
        refine own_step (fun t k => XS.iload X26.here hx rfl (hb hby at_240) rfl k) ?_
        show own_Ends p.tables e below s _ _ _ (T26.setTop (mkF m 242 #[.val (.long y0_0), .second, .val (.long y1_0), .second, .val (.long y2_0), .second, .val (.long y3_0), .second, .val (.int x4_0), .val (.int x5_0), .val (.int pk), .val (.int rm_), .val (.int cl), .val (.int p2), .val (.int ce), .val (.int n2), .val (.int n1), .val (.long x2), .second, .val (.long y2), .second, .val (.long qx), .second, .val (.long qy), .second, .val (.ref b1), .val (.int got), .val (.int (0 : Int32)), .unset, .unset] [(.int p2)]))
        refine own_step (fun t k => XS.ifYes X26.here hx rfl (pc0 := 242) (pc' := 266) rfl (hb hby at_242) rfl ((if0 _ _).trans (teq hc191_11).1) (by decide) (by decide) k) ?_
        refine own_step (fun t k => XS.iconst X26.here hx rfl (hb hby at_266) k) ?_
        refine own_step (fun t k => XS.istore X26.here hx rfl (hb hby at_267) rfl (l' := #[.val (.long y0_0), .second, .val (.long y1_0), .second, .val (.long y2_0), .second, .val (.long y3_0), .second, .val (.int x4_0), .val (.int x5_0), .val (.int pk), .val (.int rm_), .val (.int cl), .val (.int p2), .val (.int ce), .val (.int n2), .val (.int n1), .val (.long x2), .second, .val (.long y2), .second, .val (.long qx), .second, .val (.long qy), .second, .val (.ref b1), .val (.int got), .val (.int (0 : Int32)), .val (.int (0 : Int32)), .unset]) rfl k) ?_
        refine own_step (fun t k => XS.iload X26.here hx rfl (hb hby at_269) rfl k) ?_
        show own_Ends p.tables e below s _ _ _ (T26.setTop (mkF m 271 #[.val (.long y0_0), .second, .val (.long y1_0), .second, .val (.long y2_0), .second, .val (.long y3_0), .second, .val (.int x4_0), .val (.int x5_0), .val (.int pk), .val (.int rm_), .val (.int cl), .val (.int p2), .val (.int ce), .val (.int n2), .val (.int n1), .val (.long x2), .second, .val (.long y2), .second, .val (.long qx), .second, .val (.long qy), .second, .val (.ref b1), .val (.int got), .val (.int (0 : Int32)), .val (.int (0 : Int32)), .unset] [(.int (0 : Int32))]))
        refine own_step (fun t k => XS.ifYes X26.here hx rfl (pc0 := 271) (pc' := 295) rfl (hb hby at_271) rfl ((if0 _ _).trans (teq (by decide : (0 : Int32) = (0 : Int32))).1) (by decide) (by decide) k) ?_
        refine own_step (fun t k => XS.iload X26.here hx rfl (hb hby at_295) rfl k) ?_
        show own_Ends p.tables e below s _ _ _ (T26.setTop (mkF m 297 #[.val (.long y0_0), .second, .val (.long y1_0), .second, .val (.long y2_0), .second, .val (.long y3_0), .second, .val (.int x4_0), .val (.int x5_0), .val (.int pk), .val (.int rm_), .val (.int cl), .val (.int p2), .val (.int ce), .val (.int n2), .val (.int n1), .val (.long x2), .second, .val (.long y2), .second, .val (.long qx), .second, .val (.long qy), .second, .val (.ref b1), .val (.int got), .val (.int (0 : Int32)), .val (.int (0 : Int32)), .unset] [(.int (0 : Int32))]))
        refine own_step (fun t k => XS.ifYes X26.here hx rfl (pc0 := 297) (pc' := 319) rfl (hb hby at_297) rfl ((if0 _ _).trans (teq (by decide : (0 : Int32) = (0 : Int32))).1) (by decide) (by decide) k) ?_
        refine own_step (fun t k => XS.iconst X26.here hx rfl (hb hby at_319) k) ?_
        refine own_step (fun t k => XS.istore X26.here hx rfl (hb hby at_320) rfl (l' := #[.val (.long y0_0), .second, .val (.long y1_0), .second, .val (.long y2_0), .second, .val (.long y3_0), .second, .val (.int x4_0), .val (.int x5_0), .val (.int pk), .val (.int rm_), .val (.int cl), .val (.int p2), .val (.int ce), .val (.int n2), .val (.int n1), .val (.long x2), .second, .val (.long y2), .second, .val (.long qx), .second, .val (.long qy), .second, .val (.ref b1), .val (.int got), .val (.int (0 : Int32)), .val (.int (0 : Int32)), .val (.int (-1 : Int32))]) rfl k) ?_
        refine own_step (fun t k => XS.iload X26.here hx rfl (hb hby at_322) rfl k) ?_
        refine own_step (fun t k => XS.iload X26.here hx rfl (hb hby at_324) rfl k) ?_
        show own_Ends p.tables e below s _ _ _ (T26.setTop (mkF m 326 #[.val (.long y0_0), .second, .val (.long y1_0), .second, .val (.long y2_0), .second, .val (.long y3_0), .second, .val (.int x4_0), .val (.int x5_0), .val (.int pk), .val (.int rm_), .val (.int cl), .val (.int p2), .val (.int ce), .val (.int n2), .val (.int n1), .val (.long x2), .second, .val (.long y2), .second, .val (.long qx), .second, .val (.long qy), .second, .val (.ref b1), .val (.int got), .val (.int (0 : Int32)), .val (.int (0 : Int32)), .val (.int (-1 : Int32))] [(.int (-1 : Int32)), (.int got)]))
        by_cases hc326_28 : got = (-1 : Int32)
        · skip
          refine own_step (fun t k => XS.icmpNo X26.here hx rfl (hb hby at_326) rfl (teq hc326_28).2 k) ?_
          refine own_step (fun t k => XS.iconst X26.here hx rfl (hb hby at_329) k) ?_
          refine own_step (fun t k => XS.goto X26.here hx rfl (pc0 := 330) (pc' := 334) rfl (hb hby at_330) (by decide) (by decide) k) ?_
          show own_Ends p.tables e below s _ _ _ (T26.setTop (mkF m 334 #[.val (.long y0_0), .second, .val (.long y1_0), .second, .val (.long y2_0), .second, .val (.long y3_0), .second, .val (.int x4_0), .val (.int x5_0), .val (.int pk), .val (.int rm_), .val (.int cl), .val (.int p2), .val (.int ce), .val (.int n2), .val (.int n1), .val (.long x2), .second, .val (.long y2), .second, .val (.long qx), .second, .val (.long qy), .second, .val (.ref b1), .val (.int got), .val (.int (0 : Int32)), .val (.int (0 : Int32)), .val (.int (-1 : Int32))] [(.int (1 : Int32))]))
          exact own_retN X26 hx (t := .boolean) Bd.returns (by simp) (hb hby at_334) hnl (by rw [e26]; exact ⟨rfl, N27⟩) (by decide) (by decide)
        · skip
          refine own_step (fun t k => XS.icmpYes X26.here hx rfl (pc0 := 326) (pc' := 333) rfl (hb hby at_326) rfl (feq hc326_28).2 (by decide) (by decide) k) ?_
          refine own_step (fun t k => XS.iconst X26.here hx rfl (hb hby at_333) k) ?_
          show own_Ends p.tables e below s _ _ _ (T26.setTop (mkF m 334 #[.val (.long y0_0), .second, .val (.long y1_0), .second, .val (.long y2_0), .second, .val (.long y3_0), .second, .val (.int x4_0), .val (.int x5_0), .val (.int pk), .val (.int rm_), .val (.int cl), .val (.int p2), .val (.int ce), .val (.int n2), .val (.int n1), .val (.long x2), .second, .val (.long y2), .second, .val (.long qx), .second, .val (.long qy), .second, .val (.ref b1), .val (.int got), .val (.int (0 : Int32)), .val (.int (0 : Int32)), .val (.int (-1 : Int32))] [(.int (0 : Int32))]))
          exfalso
          exact hc326_28 (hgot.symm.trans (own_specB hN (own_put0 y0_0 y1_0 n1 hk1) qx qy))
    · skip
      refine own_step (fun t k => XS.ifNo X8.here hx rfl (hb hby at_191) rfl ((if0 _ _).trans (feq hc191_11).1) k) ?_
      refine own_step (fun t k => XS.aload X8.here hx rfl (hb hby at_194) rfl rfl k) ?_
      refine own_step (fun t k => XS.lload X8.here hx rfl (hb hby at_196) rfl k) ?_
      refine own_step (fun t k => XS.lload X8.here hx rfl (hb hby at_198) rfl k) ?_
      refine own_step (fun t k => XS.iload X8.here hx rfl (hb hby at_200) rfl k) ?_
      show own_Ends p.tables e below s _ _ _ (T8.setTop (mkF m 202 #[.val (.long y0_0), .second, .val (.long y1_0), .second, .val (.long y2_0), .second, .val (.long y3_0), .second, .val (.int x4_0), .val (.int x5_0), .val (.int pk), .val (.int rm_), .val (.int cl), .val (.int p2), .val (.int ce), .val (.int n2), .val (.int n1), .val (.long x2), .second, .val (.long y2), .second, .val (.long qx), .second, .val (.long qy), .second, .val (.ref b1), .unset, .unset, .unset, .unset] [(.int n2), (.long y2), (.long x2), (.ref b1)]))
      have O29 : Old Z n0 T8.heap := (O7.keep K8q (allS g_ax_4 (allS g_ay_4 (allS g_b1 (allS g_an_4 all0)))))
      obtain ⟨cq30, kq30, q30a, q30b, q30c⟩ := isOf hZ rfl p8_6
      obtain ⟨_, _, ⟨T30, L30, k30, n30⟩, -, X30, ⟨Lc30, hQ30, l30, y30, z30⟩, st30⟩ := X8.virtualBack hx (y := (⟨"com/example/swanhall/swanhall/core/CellTable", "put", "(JJI)V"⟩ : MethodName)) (z := (⟨"com/example/swanhall/swanhall/core/CellTable", "put", "(JJI)V"⟩ : MethodName)) hown (mvT hZ (hw _ (List.mem_of_getElem? (i := 18) rfl))) (mvT hZ (hw _ (List.mem_of_getElem? (i := 19) rfl))) (notFace_of_selects (args := #[]) (mvT hZ (hw _ (List.mem_of_getElem? (i := 21) rfl)))) (mvT hZ (hw _ (List.mem_of_getElem? (i := 21) rfl))) (mvT hZ (hw _ (List.mem_of_getElem? (i := 20) rfl))) (by decide) (backOf (W := 0) (rm3 l Z a0 hw [] b1 x2 y2 n2 an_4 nC_4 (own_upd (fun _ => (0 : Int32)) (own_r4 y0_0 y1_0 nC_4 (fun _ => (0 : Int32)) (fun _ => (0 : Int64)) (fun _ => (0 : Int64))) (n1 + (1 : Int32))) ax_4 (own_p3_0 y0_0 y1_0 nC_4 (fun _ => (0 : Int32)) (fun _ => (0 : Int64)) (fun _ => (0 : Int64))) ay_4 (own_p3_1 y0_0 y1_0 nC_4 (fun _ => (0 : Int32)) (fun _ => (0 : Int64)) (fun _ => (0 : Int64))) (own_p3_2 y0_0 y1_0 nC_4 (fun _ => (0 : Int32)) (fun _ => (0 : Int64)) (fun _ => (0 : Int64)) (0 : Int32)) T8.heap n0 O29 (own_Npos hN) (own_stops hN ((own_put0 y0_0 y1_0 n1 hk1).sup hN)) hk2 (own_grow1 hN y0_0 y1_0) p8_2 p8_7 p8_3 p8_0 p8_4 p8_1 p8_5 p8_6 g_ax_4 ne_b1_ax_4 (Ne.symm p4_12) g_ay_4 ne_b1_ay_4 g_b1 (Ne.symm p4_13) (Ne.symm p4_14) (Ne.symm ne_b1_an_4) g_an_4) hZ (hw _ (List.mem_of_getElem? (i := 22) rfl)) (hw _ (List.mem_of_getElem? (i := 3) rfl)) (by decide) (by decide)) q30a q30c (g := (mkF m 202 #[.val (.long y0_0), .second, .val (.long y1_0), .second, .val (.long y2_0), .second, .val (.long y3_0), .second, .val (.int x4_0), .val (.int x5_0), .val (.int pk), .val (.int rm_), .val (.int cl), .val (.int p2), .val (.int ce), .val (.int n2), .val (.int n1), .val (.long x2), .second, .val (.long y2), .second, .val (.long qx), .second, .val (.long qy), .second, .val (.ref b1), .unset, .unset, .unset, .unset] [(.int n2), (.long y2), (.long x2), (.ref b1)])) rfl (by rw [hml]; rfl) (Steps.refl _) (argsL := [(.long x2), (.long y2), (.int n2)]) (rest := []) (lenOf pd_2 rfl) rfl (by show 2 * 0 + _ ≤ _; exact Nat.le_of_eq rfl) (hb hby at_202) (fun _ _ => ⟨rfl, rfl, (by decide : 4 + 0 ≤ _), (by decide : 772 + 0 ≤ _)⟩)
      dsimp only [Pt.U, Pt.locs, Pt.cells, Pt.slots] at X30 l30 y30 z30 st30 hQ30
      subst y30 z30
      obtain ⟨rfl, N30q, K30q, p30_0, p30_1, p30_2, p30_3, p30_4, p30_5, p30_6, p30_7⟩ := hQ30
      refine own_step (fun t k => st30.trans k) ?_
      have N31 : Fr n0 L30 := by rw [l30]; exact Fr.app N9 N30q
      have K32 : Keep h0 T30.heap [] := K10.trans K30q (allS (Or.inr sz_ax_4) (allS (Or.inr sz_ay_4) (allS (Or.inr sz_b1) (allS (Or.inr sz_an_4) all0))))
      refine own_step (fun t k => XS.iload X30.here hx rfl (hb hby at_205) rfl k) ?_
      show own_Ends p.tables e below s _ _ _ (T30.setTop (mkF m 207 #[.val (.long y0_0), .second, .val (.long y1_0), .second, .val (.long y2_0), .second, .val (.long y3_0), .second, .val (.int x4_0), .val (.int x5_0), .val (.int pk), .val (.int rm_), .val (.int cl), .val (.int p2), .val (.int ce), .val (.int n2), .val (.int n1), .val (.long x2), .second, .val (.long y2), .second, .val (.long qx), .second, .val (.long qy), .second, .val (.ref b1), .unset, .unset, .unset, .unset] [(.int rm_)]))
      by_cases hc207_33 : rm_ = (0 : Int32)
      · skip
        refine own_step (fun t k => XS.ifYes X30.here hx rfl (pc0 := 207) (pc' := 217) rfl (hb hby at_207) rfl ((if0 _ _).trans (teq hc207_33).1) (by decide) (by decide) k) ?_
        refine own_step (fun t k => XS.aload X30.here hx rfl (hb hby at_217) rfl rfl k) ?_
        refine own_step (fun t k => XS.lload X30.here hx rfl (hb hby at_219) rfl k) ?_
        refine own_step (fun t k => XS.lload X30.here hx rfl (hb hby at_221) rfl k) ?_
        show own_Ends p.tables e below s _ _ _ (T30.setTop (mkF m 223 #[.val (.long y0_0), .second, .val (.long y1_0), .second, .val (.long y2_0), .second, .val (.long y3_0), .second, .val (.int x4_0), .val (.int x5_0), .val (.int pk), .val (.int rm_), .val (.int cl), .val (.int p2), .val (.int ce), .val (.int n2), .val (.int n1), .val (.long x2), .second, .val (.long y2), .second, .val (.long qx), .second, .val (.long qy), .second, .val (.ref b1), .unset, .unset, .unset, .unset] [(.long qy), (.long qx), (.ref b1)]))
        have O34 : Old Z n0 T30.heap := (O29.keep K30q (allS g_ax_4 (allS g_ay_4 (allS g_b1 (allS g_an_4 all0)))))
        obtain ⟨cq35, kq35, q35a, q35b, q35c⟩ := isOf hZ rfl p30_6
        obtain ⟨_, _, ⟨T35, L35, k35, n35⟩, -, X35, ⟨Lc35, hQ35, l35, y35, z35⟩, st35⟩ := X30.virtualBack hx (y := (⟨"com/example/swanhall/swanhall/core/CellTable", "get", "(JJ)I"⟩ : MethodName)) (z := (⟨"com/example/swanhall/swanhall/core/CellTable", "get", "(JJ)I"⟩ : MethodName)) hown (mvT hZ (hw _ (List.mem_of_getElem? (i := 35) rfl))) (mvT hZ (hw _ (List.mem_of_getElem? (i := 36) rfl))) (notFace_of_selects (args := #[]) (mvT hZ (hw _ (List.mem_of_getElem? (i := 38) rfl)))) (mvT hZ (hw _ (List.mem_of_getElem? (i := 38) rfl))) (mvT hZ (hw _ (List.mem_of_getElem? (i := 37) rfl))) (by decide) (backOf (W := 0) (rm6 l Z a0 hw [] b1 qx qy an_4 nC_4 (own_upd (own_upd (fun _ => (0 : Int32)) (own_r4 y0_0 y1_0 nC_4 (fun _ => (0 : Int32)) (fun _ => (0 : Int64)) (fun _ => (0 : Int64))) (n1 + (1 : Int32))) (own_r4 x2 y2 nC_4 (own_upd (fun _ => (0 : Int32)) (own_r4 y0_0 y1_0 nC_4 (fun _ => (0 : Int32)) (fun _ => (0 : Int64)) (fun _ => (0 : Int64))) (n1 + (1 : Int32))) (own_p3_0 y0_0 y1_0 nC_4 (fun _ => (0 : Int32)) (fun _ => (0 : Int64)) (fun _ => (0 : Int64))) (own_p3_1 y0_0 y1_0 nC_4 (fun _ => (0 : Int32)) (fun _ => (0 : Int64)) (fun _ => (0 : Int64)))) (n2 + (1 : Int32))) ax_4 (own_p3_0 x2 y2 nC_4 (own_upd (fun _ => (0 : Int32)) (own_r4 y0_0 y1_0 nC_4 (fun _ => (0 : Int32)) (fun _ => (0 : Int64)) (fun _ => (0 : Int64))) (n1 + (1 : Int32))) (own_p3_0 y0_0 y1_0 nC_4 (fun _ => (0 : Int32)) (fun _ => (0 : Int64)) (fun _ => (0 : Int64))) (own_p3_1 y0_0 y1_0 nC_4 (fun _ => (0 : Int32)) (fun _ => (0 : Int64)) (fun _ => (0 : Int64)))) ay_4 (own_p3_1 x2 y2 nC_4 (own_upd (fun _ => (0 : Int32)) (own_r4 y0_0 y1_0 nC_4 (fun _ => (0 : Int32)) (fun _ => (0 : Int64)) (fun _ => (0 : Int64))) (n1 + (1 : Int32))) (own_p3_0 y0_0 y1_0 nC_4 (fun _ => (0 : Int32)) (fun _ => (0 : Int64)) (fun _ => (0 : Int64))) (own_p3_1 y0_0 y1_0 nC_4 (fun _ => (0 : Int32)) (fun _ => (0 : Int64)) (fun _ => (0 : Int64)))) T30.heap n0 O34 (own_Npos hN) (own_stops hN (own_putSup ((own_put0 y0_0 y1_0 n1 hk1).sup hN) _ _ (own_srng _ _ _ _ _ _ (own_Npos hN)))) p30_2 p30_7 p30_6 p30_3 p30_0 p30_4 p30_1) hZ (hw _ (List.mem_of_getElem? (i := 39) rfl)) (hw _ (List.mem_of_getElem? (i := 3) rfl)) (by decide) (by decide)) q35a q35c (g := (mkF m 223 #[.val (.long y0_0), .second, .val (.long y1_0), .second, .val (.long y2_0), .second, .val (.long y3_0), .second, .val (.int x4_0), .val (.int x5_0), .val (.int pk), .val (.int rm_), .val (.int cl), .val (.int p2), .val (.int ce), .val (.int n2), .val (.int n1), .val (.long x2), .second, .val (.long y2), .second, .val (.long qx), .second, .val (.long qy), .second, .val (.ref b1), .unset, .unset, .unset, .unset] [(.long qy), (.long qx), (.ref b1)])) rfl (by rw [hml]; rfl) (Steps.refl _) (argsL := [(.long qx), (.long qy)]) (rest := []) (lenOf pd_0 rfl) rfl (by show 2 * 0 + _ ≤ _; exact Nat.le_of_eq rfl) (hb hby at_223) (fun _ _ => ⟨rfl, rfl, (by decide : 4 + 0 ≤ _), (by decide : 772 + 0 ≤ _)⟩)
        dsimp only [Pt.U, Pt.locs, Pt.cells, Pt.slots] at X35 l35 y35 z35 st35 hQ35
        subst y35 z35
        obtain ⟨rfl, N35q, e35⟩ := hQ35
        refine own_step (fun t k => st35.trans k) ?_
        have N36 : Fr n0 L35 := by rw [l35]; exact Fr.app N31 N35q
        show own_Ends p.tables e below s _ _ _ (T35.setTop (mkF m 226 #[.val (.long y0_0), .second, .val (.long y1_0), .second, .val (.long y2_0), .second, .val (.long y3_0), .second, .val (.int x4_0), .val (.int x5_0), .val (.int pk), .val (.int rm_), .val (.int cl), .val (.int p2), .val (.int ce), .val (.int n2), .val (.int n1), .val (.long x2), .second, .val (.long y2), .second, .val (.long qx), .second, .val (.long qy), .second, .val (.ref b1), .unset, .unset, .unset, .unset] [(.int (own_r6 qx qy nC_4 (own_upd (own_upd (fun _ => (0 : Int32)) (own_r4 y0_0 y1_0 nC_4 (fun _ => (0 : Int32)) (fun _ => (0 : Int64)) (fun _ => (0 : Int64))) (n1 + (1 : Int32))) (own_r4 x2 y2 nC_4 (own_upd (fun _ => (0 : Int32)) (own_r4 y0_0 y1_0 nC_4 (fun _ => (0 : Int32)) (fun _ => (0 : Int64)) (fun _ => (0 : Int64))) (n1 + (1 : Int32))) (own_p3_0 y0_0 y1_0 nC_4 (fun _ => (0 : Int32)) (fun _ => (0 : Int64)) (fun _ => (0 : Int64))) (own_p3_1 y0_0 y1_0 nC_4 (fun _ => (0 : Int32)) (fun _ => (0 : Int64)) (fun _ => (0 : Int64)))) (n2 + (1 : Int32))) (own_p3_0 x2 y2 nC_4 (own_upd (fun _ => (0 : Int32)) (own_r4 y0_0 y1_0 nC_4 (fun _ => (0 : Int32)) (fun _ => (0 : Int64)) (fun _ => (0 : Int64))) (n1 + (1 : Int32))) (own_p3_0 y0_0 y1_0 nC_4 (fun _ => (0 : Int32)) (fun _ => (0 : Int64)) (fun _ => (0 : Int64))) (own_p3_1 y0_0 y1_0 nC_4 (fun _ => (0 : Int32)) (fun _ => (0 : Int64)) (fun _ => (0 : Int64)))) (own_p3_1 x2 y2 nC_4 (own_upd (fun _ => (0 : Int32)) (own_r4 y0_0 y1_0 nC_4 (fun _ => (0 : Int32)) (fun _ => (0 : Int64)) (fun _ => (0 : Int64))) (n1 + (1 : Int32))) (own_p3_0 y0_0 y1_0 nC_4 (fun _ => (0 : Int32)) (fun _ => (0 : Int64)) (fun _ => (0 : Int64))) (own_p3_1 y0_0 y1_0 nC_4 (fun _ => (0 : Int32)) (fun _ => (0 : Int64)) (fun _ => (0 : Int64))))))]))
        generalize hgot : (own_r6 qx qy nC_4 (own_upd (own_upd (fun _ => (0 : Int32)) (own_r4 y0_0 y1_0 nC_4 (fun _ => (0 : Int32)) (fun _ => (0 : Int64)) (fun _ => (0 : Int64))) (n1 + (1 : Int32))) (own_r4 x2 y2 nC_4 (own_upd (fun _ => (0 : Int32)) (own_r4 y0_0 y1_0 nC_4 (fun _ => (0 : Int32)) (fun _ => (0 : Int64)) (fun _ => (0 : Int64))) (n1 + (1 : Int32))) (own_p3_0 y0_0 y1_0 nC_4 (fun _ => (0 : Int32)) (fun _ => (0 : Int64)) (fun _ => (0 : Int64))) (own_p3_1 y0_0 y1_0 nC_4 (fun _ => (0 : Int32)) (fun _ => (0 : Int64)) (fun _ => (0 : Int64)))) (n2 + (1 : Int32))) (own_p3_0 x2 y2 nC_4 (own_upd (fun _ => (0 : Int32)) (own_r4 y0_0 y1_0 nC_4 (fun _ => (0 : Int32)) (fun _ => (0 : Int64)) (fun _ => (0 : Int64))) (n1 + (1 : Int32))) (own_p3_0 y0_0 y1_0 nC_4 (fun _ => (0 : Int32)) (fun _ => (0 : Int64)) (fun _ => (0 : Int64))) (own_p3_1 y0_0 y1_0 nC_4 (fun _ => (0 : Int32)) (fun _ => (0 : Int64)) (fun _ => (0 : Int64)))) (own_p3_1 x2 y2 nC_4 (own_upd (fun _ => (0 : Int32)) (own_r4 y0_0 y1_0 nC_4 (fun _ => (0 : Int32)) (fun _ => (0 : Int64)) (fun _ => (0 : Int64))) (n1 + (1 : Int32))) (own_p3_0 y0_0 y1_0 nC_4 (fun _ => (0 : Int32)) (fun _ => (0 : Int64)) (fun _ => (0 : Int64))) (own_p3_1 y0_0 y1_0 nC_4 (fun _ => (0 : Int32)) (fun _ => (0 : Int64)) (fun _ => (0 : Int64))))) = got
        refine own_step (fun t k => XS.istore X35.here hx rfl (hb hby at_226) rfl (l' := #[.val (.long y0_0), .second, .val (.long y1_0), .second, .val (.long y2_0), .second, .val (.long y3_0), .second, .val (.int x4_0), .val (.int x5_0), .val (.int pk), .val (.int rm_), .val (.int cl), .val (.int p2), .val (.int ce), .val (.int n2), .val (.int n1), .val (.long x2), .second, .val (.long y2), .second, .val (.long qx), .second, .val (.long qy), .second, .val (.ref b1), .val (.int got), .unset, .unset, .unset]) rfl k) ?_
        refine own_step (fun t k => XS.iload X35.here hx rfl (hb hby at_228) rfl k) ?_
        show own_Ends p.tables e below s _ _ _ (T35.setTop (mkF m 230 #[.val (.long y0_0), .second, .val (.long y1_0), .second, .val (.long y2_0), .second, .val (.long y3_0), .second, .val (.int x4_0), .val (.int x5_0), .val (.int pk), .val (.int rm_), .val (.int cl), .val (.int p2), .val (.int ce), .val (.int n2), .val (.int n1), .val (.long x2), .second, .val (.long y2), .second, .val (.long qx), .second, .val (.long qy), .second, .val (.ref b1), .val (.int got), .unset, .unset, .unset] [(.int rm_)]))
        refine own_step (fun t k => XS.ifNo X35.here hx rfl (hb hby at_230) rfl ((if0 _ _).trans (teq hc207_33).2) k) ?_
        refine own_step (fun t k => XS.iconst X35.here hx rfl (hb hby at_233) k) ?_
        refine own_step (fun t k => XS.goto X35.here hx rfl (pc0 := 234) (pc' := 238) rfl (hb hby at_234) (by decide) (by decide) k) ?_
        refine own_step (fun t k => XS.istore X35.here hx rfl (hb hby at_238) rfl (l' := #[.val (.long y0_0), .second, .val (.long y1_0), .second, .val (.long y2_0), .second, .val (.long y3_0), .second, .val (.int x4_0), .val (.int x5_0), .val (.int pk), .val (.int rm_), .val (.int cl), .val (.int p2), .val (.int ce), .val (.int n2), .val (.int n1), .val (.long x2), .second, .val (.long y2), .second, .val (.long qx), .second, .val (.long qy), .second, .val (.ref b1), .val (.int got), .val (.int (1 : Int32)), .unset, .unset]) rfl k) ?_
        refine own_step (fun t k => XS.iload X35.here hx rfl (hb hby at_240) rfl k) ?_
        show own_Ends p.tables e below s _ _ _ (T35.setTop (mkF m 242 #[.val (.long y0_0), .second, .val (.long y1_0), .second, .val (.long y2_0), .second, .val (.long y3_0), .second, .val (.int x4_0), .val (.int x5_0), .val (.int pk), .val (.int rm_), .val (.int cl), .val (.int p2), .val (.int ce), .val (.int n2), .val (.int n1), .val (.long x2), .second, .val (.long y2), .second, .val (.long qx), .second, .val (.long qy), .second, .val (.ref b1), .val (.int got), .val (.int (1 : Int32)), .unset, .unset] [(.int p2)]))
        refine own_step (fun t k => XS.ifNo X35.here hx rfl (hb hby at_242) rfl ((if0 _ _).trans (feq hc191_11).1) k) ?_
        refine own_step (fun t k => XS.iload X35.here hx rfl (hb hby at_245) rfl k) ?_
        show own_Ends p.tables e below s _ _ _ (T35.setTop (mkF m 247 #[.val (.long y0_0), .second, .val (.long y1_0), .second, .val (.long y2_0), .second, .val (.long y3_0), .second, .val (.int x4_0), .val (.int x5_0), .val (.int pk), .val (.int rm_), .val (.int cl), .val (.int p2), .val (.int ce), .val (.int n2), .val (.int n1), .val (.long x2), .second, .val (.long y2), .second, .val (.long qx), .second, .val (.long qy), .second, .val (.ref b1), .val (.int got), .val (.int (1 : Int32)), .unset, .unset] [(.int rm_)]))
        refine own_step (fun t k => XS.ifYes X35.here hx rfl (pc0 := 247) (pc' := 262) rfl (hb hby at_247) rfl ((if0 _ _).trans (teq hc207_33).1) (by decide) (by decide) k) ?_
        refine own_step (fun t k => XS.iconst X35.here hx rfl (hb hby at_262) k) ?_
        refine own_step (fun t k => XS.goto X35.here hx rfl (pc0 := 263) (pc' := 267) rfl (hb hby at_263) (by decide) (by decide) k) ?_
        refine own_step (fun t k => XS.istore X35.here hx rfl (hb hby at_267) rfl (l' := #[.val (.long y0_0), .second, .val (.long y1_0), .second, .val (.long y2_0), .second, .val (.long y3_0), .second, .val (.int x4_0), .val (.int x5_0), .val (.int pk), .val (.int rm_), .val (.int cl), .val (.int p2), .val (.int ce), .val (.int n2), .val (.int n1), .val (.long x2), .second, .val (.long y2), .second, .val (.long qx), .second, .val (.long qy), .second, .val (.ref b1), .val (.int got), .val (.int (1 : Int32)), .val (.int (1 : Int32)), .unset]) rfl k) ?_
        refine own_step (fun t k => XS.iload X35.here hx rfl (hb hby at_269) rfl k) ?_
        show own_Ends p.tables e below s _ _ _ (T35.setTop (mkF m 271 #[.val (.long y0_0), .second, .val (.long y1_0), .second, .val (.long y2_0), .second, .val (.long y3_0), .second, .val (.int x4_0), .val (.int x5_0), .val (.int pk), .val (.int rm_), .val (.int cl), .val (.int p2), .val (.int ce), .val (.int n2), .val (.int n1), .val (.long x2), .second, .val (.long y2), .second, .val (.long qx), .second, .val (.long qy), .second, .val (.ref b1), .val (.int got), .val (.int (1 : Int32)), .val (.int (1 : Int32)), .unset] [(.int (1 : Int32))]))
        refine own_step (fun t k => XS.ifNo X35.here hx rfl (hb hby at_271) rfl ((if0 _ _).trans (feq (by decide : ¬ ((1 : Int32) = (0 : Int32)))).1) k) ?_
        refine own_step (fun t k => XS.lload X35.here hx rfl (hb hby at_274) rfl k) ?_
        refine own_step (fun t k => XS.lload X35.here hx rfl (hb hby at_276) rfl k) ?_
        refine own_step (fun t k => XS.lload X35.here hx rfl (hb hby at_278) rfl k) ?_
        refine own_step (fun t k => XS.lload X35.here hx rfl (hb hby at_280) rfl k) ?_
        show own_Ends p.tables e below s _ _ _ (T35.setTop (mkF m 282 #[.val (.long y0_0), .second, .val (.long y1_0), .second, .val (.long y2_0), .second, .val (.long y3_0), .second, .val (.int x4_0), .val (.int x5_0), .val (.int pk), .val (.int rm_), .val (.int cl), .val (.int p2), .val (.int ce), .val (.int n2), .val (.int n1), .val (.long x2), .second, .val (.long y2), .second, .val (.long qx), .second, .val (.long qy), .second, .val (.ref b1), .val (.int got), .val (.int (1 : Int32)), .val (.int (1 : Int32)), .unset] [(.long y2), (.long x2), (.long qy), (.long qx)]))
        obtain ⟨_, _, ⟨T37, L37, k37, n37⟩, -, X37, ⟨Lc37, hQ37, l37, y37, z37⟩, st37⟩ := Jvm.LawKit.callS X35 hx (y := (⟨"com/example/swanhall/swanhall/core/CellTableGetPinLaw", "same", "(JJJJ)Z"⟩ : MethodName)) hown (mvT hZ (hw _ (List.mem_of_getElem? (i := 40) rfl))) (mvT hZ (hw _ (List.mem_of_getElem? (i := 41) rfl))) (mvT hZ (hw _ (List.mem_of_getElem? (i := 42) rfl))) (mvT hZ (hw _ (List.mem_of_getElem? (i := 43) rfl))) (by decide) (backOf (W := 0) (rm7 l Z a0 hw [] qx qy x2 y2 T30.heap n0 O34 ) hZ (hw _ (List.mem_of_getElem? (i := 43) rfl)) (hw _ (List.mem_of_getElem? (i := 42) rfl)) (by decide) (by decide)) (g := (mkF m 282 #[.val (.long y0_0), .second, .val (.long y1_0), .second, .val (.long y2_0), .second, .val (.long y3_0), .second, .val (.int x4_0), .val (.int x5_0), .val (.int pk), .val (.int rm_), .val (.int cl), .val (.int p2), .val (.int ce), .val (.int n2), .val (.int n1), .val (.long x2), .second, .val (.long y2), .second, .val (.long qx), .second, .val (.long qy), .second, .val (.ref b1), .val (.int got), .val (.int (1 : Int32)), .val (.int (1 : Int32)), .unset] [(.long y2), (.long x2), (.long qy), (.long qx)])) rfl (by rw [hml]; rfl) (argsL := [(.long qx), (.long qy), (.long x2), (.long y2)]) (rest := []) (lenOf pd_3 rfl) rfl (by show 2 * 0 + _ ≤ _; exact Nat.le_of_eq rfl) (hb hby at_282) (fun _ _ => ⟨rfl, e35, (by decide : 4 + 0 ≤ _), (by decide : 772 + 0 ≤ _)⟩)
        dsimp only [Pt.U, Pt.locs, Pt.cells, Pt.slots] at X37 l37 y37 z37 st37 hQ37
        subst y37 z37
        obtain ⟨rfl, N37q, e37⟩ := hQ37
        refine own_step (fun t k => st37 _ k) ?_
        have N38 : Fr n0 L37 := by rw [l37]; exact Fr.app N36 N37q
        show own_Ends p.tables e below s _ _ _ (T37.setTop (mkF m 285 #[.val (.long y0_0), .second, .val (.long y1_0), .second, .val (.long y2_0), .second, .val (.long y3_0), .second, .val (.int x4_0), .val (.int x5_0), .val (.int pk), .val (.int rm_), .val (.int cl), .val (.int p2), .val (.int ce), .val (.int n2), .val (.int n1), .val (.long x2), .second, .val (.long y2), .second, .val (.long qx), .second, .val (.long qy), .second, .val (.ref b1), .val (.int got), .val (.int (1 : Int32)), .val (.int (1 : Int32)), .unset] [(.int (own_r7 qx qy x2 y2))]))
        by_cases hc285_39 : (own_r7 qx qy x2 y2) = (0 : Int32)
        · skip
          refine own_step (fun t k => XS.ifYes X37.here hx rfl (pc0 := 285) (pc' := 295) rfl (hb hby at_285) rfl ((if0 _ _).trans (teq hc285_39).1) (by decide) (by decide) k) ?_
          refine own_step (fun t k => XS.iload X37.here hx rfl (hb hby at_295) rfl k) ?_
          show own_Ends p.tables e below s _ _ _ (T37.setTop (mkF m 297 #[.val (.long y0_0), .second, .val (.long y1_0), .second, .val (.long y2_0), .second, .val (.long y3_0), .second, .val (.int x4_0), .val (.int x5_0), .val (.int pk), .val (.int rm_), .val (.int cl), .val (.int p2), .val (.int ce), .val (.int n2), .val (.int n1), .val (.long x2), .second, .val (.long y2), .second, .val (.long qx), .second, .val (.long qy), .second, .val (.ref b1), .val (.int got), .val (.int (1 : Int32)), .val (.int (1 : Int32)), .unset] [(.int (1 : Int32))]))
          refine own_step (fun t k => XS.ifNo X37.here hx rfl (hb hby at_297) rfl ((if0 _ _).trans (feq (by decide : ¬ ((1 : Int32) = (0 : Int32)))).1) k) ?_
          refine own_step (fun t k => XS.lload X37.here hx rfl (hb hby at_300) rfl k) ?_
          refine own_step (fun t k => XS.lload X37.here hx rfl (hb hby at_302) rfl k) ?_
          refine own_step (fun t k => XS.lloadN X37.here hx rfl (hb hby at_304) rfl k) ?_
          refine own_step (fun t k => XS.lloadN X37.here hx rfl (hb hby at_305) rfl k) ?_
          show own_Ends p.tables e below s _ _ _ (T37.setTop (mkF m 306 #[.val (.long y0_0), .second, .val (.long y1_0), .second, .val (.long y2_0), .second, .val (.long y3_0), .second, .val (.int x4_0), .val (.int x5_0), .val (.int pk), .val (.int rm_), .val (.int cl), .val (.int p2), .val (.int ce), .val (.int n2), .val (.int n1), .val (.long x2), .second, .val (.long y2), .second, .val (.long qx), .second, .val (.long qy), .second, .val (.ref b1), .val (.int got), .val (.int (1 : Int32)), .val (.int (1 : Int32)), .unset] [(.long y1_0), (.long y0_0), (.long qy), (.long qx)]))
          obtain ⟨_, _, ⟨T40, L40, k40, n40⟩, -, X40, ⟨Lc40, hQ40, l40, y40, z40⟩, st40⟩ := Jvm.LawKit.callS X37 hx (y := (⟨"com/example/swanhall/swanhall/core/CellTableGetPinLaw", "same", "(JJJJ)Z"⟩ : MethodName)) hown (mvT hZ (hw _ (List.mem_of_getElem? (i := 40) rfl))) (mvT hZ (hw _ (List.mem_of_getElem? (i := 41) rfl))) (mvT hZ (hw _ (List.mem_of_getElem? (i := 42) rfl))) (mvT hZ (hw _ (List.mem_of_getElem? (i := 43) rfl))) (by decide) (backOf (W := 0) (rm7 l Z a0 hw [] qx qy y0_0 y1_0 T30.heap n0 O34 ) hZ (hw _ (List.mem_of_getElem? (i := 43) rfl)) (hw _ (List.mem_of_getElem? (i := 42) rfl)) (by decide) (by decide)) (g := (mkF m 306 #[.val (.long y0_0), .second, .val (.long y1_0), .second, .val (.long y2_0), .second, .val (.long y3_0), .second, .val (.int x4_0), .val (.int x5_0), .val (.int pk), .val (.int rm_), .val (.int cl), .val (.int p2), .val (.int ce), .val (.int n2), .val (.int n1), .val (.long x2), .second, .val (.long y2), .second, .val (.long qx), .second, .val (.long qy), .second, .val (.ref b1), .val (.int got), .val (.int (1 : Int32)), .val (.int (1 : Int32)), .unset] [(.long y1_0), (.long y0_0), (.long qy), (.long qx)])) rfl (by rw [hml]; rfl) (argsL := [(.long qx), (.long qy), (.long y0_0), (.long y1_0)]) (rest := []) (lenOf pd_3 rfl) rfl (by show 2 * 0 + _ ≤ _; exact Nat.le_of_eq rfl) (hb hby at_306) (fun _ _ => ⟨rfl, e37, (by decide : 4 + 0 ≤ _), (by decide : 772 + 0 ≤ _)⟩)
          dsimp only [Pt.U, Pt.locs, Pt.cells, Pt.slots] at X40 l40 y40 z40 st40 hQ40
          subst y40 z40
          obtain ⟨rfl, N40q, e40⟩ := hQ40
          refine own_step (fun t k => st40 _ k) ?_
          have N41 : Fr n0 L40 := by rw [l40]; exact Fr.app N38 N40q
          show own_Ends p.tables e below s _ _ _ (T40.setTop (mkF m 309 #[.val (.long y0_0), .second, .val (.long y1_0), .second, .val (.long y2_0), .second, .val (.long y3_0), .second, .val (.int x4_0), .val (.int x5_0), .val (.int pk), .val (.int rm_), .val (.int cl), .val (.int p2), .val (.int ce), .val (.int n2), .val (.int n1), .val (.long x2), .second, .val (.long y2), .second, .val (.long qx), .second, .val (.long qy), .second, .val (.ref b1), .val (.int got), .val (.int (1 : Int32)), .val (.int (1 : Int32)), .unset] [(.int (own_r7 qx qy y0_0 y1_0))]))
          by_cases hc309_42 : (own_r7 qx qy y0_0 y1_0) = (0 : Int32)
          · skip
            refine own_step (fun t k => XS.ifYes X40.here hx rfl (pc0 := 309) (pc' := 319) rfl (hb hby at_309) rfl ((if0 _ _).trans (teq hc309_42).1) (by decide) (by decide) k) ?_
            refine own_step (fun t k => XS.iconst X40.here hx rfl (hb hby at_319) k) ?_
            refine own_step (fun t k => XS.istore X40.here hx rfl (hb hby at_320) rfl (l' := #[.val (.long y0_0), .second, .val (.long y1_0), .second, .val (.long y2_0), .second, .val (.long y3_0), .second, .val (.int x4_0), .val (.int x5_0), .val (.int pk), .val (.int rm_), .val (.int cl), .val (.int p2), .val (.int ce), .val (.int n2), .val (.int n1), .val (.long x2), .second, .val (.long y2), .second, .val (.long qx), .second, .val (.long qy), .second, .val (.ref b1), .val (.int got), .val (.int (1 : Int32)), .val (.int (1 : Int32)), .val (.int (-1 : Int32))]) rfl k) ?_
            refine own_step (fun t k => XS.iload X40.here hx rfl (hb hby at_322) rfl k) ?_
            refine own_step (fun t k => XS.iload X40.here hx rfl (hb hby at_324) rfl k) ?_
            show own_Ends p.tables e below s _ _ _ (T40.setTop (mkF m 326 #[.val (.long y0_0), .second, .val (.long y1_0), .second, .val (.long y2_0), .second, .val (.long y3_0), .second, .val (.int x4_0), .val (.int x5_0), .val (.int pk), .val (.int rm_), .val (.int cl), .val (.int p2), .val (.int ce), .val (.int n2), .val (.int n1), .val (.long x2), .second, .val (.long y2), .second, .val (.long qx), .second, .val (.long qy), .second, .val (.ref b1), .val (.int got), .val (.int (1 : Int32)), .val (.int (1 : Int32)), .val (.int (-1 : Int32))] [(.int (-1 : Int32)), (.int got)]))
            by_cases hc326_43 : got = (-1 : Int32)
            · skip
              refine own_step (fun t k => XS.icmpNo X40.here hx rfl (hb hby at_326) rfl (teq hc326_43).2 k) ?_
              refine own_step (fun t k => XS.iconst X40.here hx rfl (hb hby at_329) k) ?_
              refine own_step (fun t k => XS.goto X40.here hx rfl (pc0 := 330) (pc' := 334) rfl (hb hby at_330) (by decide) (by decide) k) ?_
              show own_Ends p.tables e below s _ _ _ (T40.setTop (mkF m 334 #[.val (.long y0_0), .second, .val (.long y1_0), .second, .val (.long y2_0), .second, .val (.long y3_0), .second, .val (.int x4_0), .val (.int x5_0), .val (.int pk), .val (.int rm_), .val (.int cl), .val (.int p2), .val (.int ce), .val (.int n2), .val (.int n1), .val (.long x2), .second, .val (.long y2), .second, .val (.long qx), .second, .val (.long qy), .second, .val (.ref b1), .val (.int got), .val (.int (1 : Int32)), .val (.int (1 : Int32)), .val (.int (-1 : Int32))] [(.int (1 : Int32))]))
              exact own_retN X40 hx (t := .boolean) Bd.returns (by simp) (hb hby at_334) hnl (by rw [e40]; exact ⟨rfl, N41⟩) (by decide) (by decide)
            · skip
              refine own_step (fun t k => XS.icmpYes X40.here hx rfl (pc0 := 326) (pc' := 333) rfl (hb hby at_326) rfl (feq hc326_43).2 (by decide) (by decide) k) ?_
              refine own_step (fun t k => XS.iconst X40.here hx rfl (hb hby at_333) k) ?_
              show own_Ends p.tables e below s _ _ _ (T40.setTop (mkF m 334 #[.val (.long y0_0), .second, .val (.long y1_0), .second, .val (.long y2_0), .second, .val (.long y3_0), .second, .val (.int x4_0), .val (.int x5_0), .val (.int pk), .val (.int rm_), .val (.int cl), .val (.int p2), .val (.int ce), .val (.int n2), .val (.int n1), .val (.long x2), .second, .val (.long y2), .second, .val (.long qx), .second, .val (.long qy), .second, .val (.ref b1), .val (.int got), .val (.int (1 : Int32)), .val (.int (1 : Int32)), .val (.int (-1 : Int32))] [(.int (0 : Int32))]))
              exfalso
              exact hc326_43 (by rw [← hgot, own_specC hN (own_put0 y0_0 y1_0 n1 hk1) x2 y2 n2 hk2 qx qy]; exact (if_neg ((own_same _ _ _ _).mp hc285_39)).trans (if_neg ((own_same _ _ _ _).mp hc309_42)))
          · skip
            refine own_step (fun t k => XS.ifNo X40.here hx rfl (hb hby at_309) rfl ((if0 _ _).trans (feq hc309_42).1) k) ?_
            refine own_step (fun t k => XS.iload X40.here hx rfl (hb hby at_312) rfl k) ?_
            refine own_step (fun t k => XS.istore X40.here hx rfl (hb hby at_314) rfl (l' := #[.val (.long y0_0), .second, .val (.long y1_0), .second, .val (.long y2_0), .second, .val (.long y3_0), .second, .val (.int x4_0), .val (.int x5_0), .val (.int pk), .val (.int rm_), .val (.int cl), .val (.int p2), .val (.int ce), .val (.int n2), .val (.int n1), .val (.long x2), .second, .val (.long y2), .second, .val (.long qx), .second, .val (.long qy), .second, .val (.ref b1), .val (.int got), .val (.int (1 : Int32)), .val (.int (1 : Int32)), .val (.int n1)]) rfl k) ?_
            refine own_step (fun t k => XS.goto X40.here hx rfl (pc0 := 316) (pc' := 322) rfl (hb hby at_316) (by decide) (by decide) k) ?_
            refine own_step (fun t k => XS.iload X40.here hx rfl (hb hby at_322) rfl k) ?_
            refine own_step (fun t k => XS.iload X40.here hx rfl (hb hby at_324) rfl k) ?_
            show own_Ends p.tables e below s _ _ _ (T40.setTop (mkF m 326 #[.val (.long y0_0), .second, .val (.long y1_0), .second, .val (.long y2_0), .second, .val (.long y3_0), .second, .val (.int x4_0), .val (.int x5_0), .val (.int pk), .val (.int rm_), .val (.int cl), .val (.int p2), .val (.int ce), .val (.int n2), .val (.int n1), .val (.long x2), .second, .val (.long y2), .second, .val (.long qx), .second, .val (.long qy), .second, .val (.ref b1), .val (.int got), .val (.int (1 : Int32)), .val (.int (1 : Int32)), .val (.int n1)] [(.int n1), (.int got)]))
            by_cases hc326_44 : got = n1
            · skip
              refine own_step (fun t k => XS.icmpNo X40.here hx rfl (hb hby at_326) rfl (teq hc326_44).2 k) ?_
              refine own_step (fun t k => XS.iconst X40.here hx rfl (hb hby at_329) k) ?_
              refine own_step (fun t k => XS.goto X40.here hx rfl (pc0 := 330) (pc' := 334) rfl (hb hby at_330) (by decide) (by decide) k) ?_
              show own_Ends p.tables e below s _ _ _ (T40.setTop (mkF m 334 #[.val (.long y0_0), .second, .val (.long y1_0), .second, .val (.long y2_0), .second, .val (.long y3_0), .second, .val (.int x4_0), .val (.int x5_0), .val (.int pk), .val (.int rm_), .val (.int cl), .val (.int p2), .val (.int ce), .val (.int n2), .val (.int n1), .val (.long x2), .second, .val (.long y2), .second, .val (.long qx), .second, .val (.long qy), .second, .val (.ref b1), .val (.int got), .val (.int (1 : Int32)), .val (.int (1 : Int32)), .val (.int n1)] [(.int (1 : Int32))]))
              exact own_retN X40 hx (t := .boolean) Bd.returns (by simp) (hb hby at_334) hnl (by rw [e40]; exact ⟨rfl, N41⟩) (by decide) (by decide)
            · skip
              refine own_step (fun t k => XS.icmpYes X40.here hx rfl (pc0 := 326) (pc' := 333) rfl (hb hby at_326) rfl (feq hc326_44).2 (by decide) (by decide) k) ?_
              refine own_step (fun t k => XS.iconst X40.here hx rfl (hb hby at_333) k) ?_
              show own_Ends p.tables e below s _ _ _ (T40.setTop (mkF m 334 #[.val (.long y0_0), .second, .val (.long y1_0), .second, .val (.long y2_0), .second, .val (.long y3_0), .second, .val (.int x4_0), .val (.int x5_0), .val (.int pk), .val (.int rm_), .val (.int cl), .val (.int p2), .val (.int ce), .val (.int n2), .val (.int n1), .val (.long x2), .second, .val (.long y2), .second, .val (.long qx), .second, .val (.long qy), .second, .val (.ref b1), .val (.int got), .val (.int (1 : Int32)), .val (.int (1 : Int32)), .val (.int n1)] [(.int (0 : Int32))]))
              exfalso
              exact hc326_44 (by rw [← hgot, own_specC hN (own_put0 y0_0 y1_0 n1 hk1) x2 y2 n2 hk2 qx qy]; exact (if_neg ((own_same _ _ _ _).mp hc285_39)).trans (if_pos (Classical.not_not.mp (fun q => hc309_42 ((own_same _ _ _ _).mpr q)))))
        · skip
          refine own_step (fun t k => XS.ifNo X37.here hx rfl (hb hby at_285) rfl ((if0 _ _).trans (feq hc285_39).1) k) ?_
          refine own_step (fun t k => XS.iload X37.here hx rfl (hb hby at_288) rfl k) ?_
          refine own_step (fun t k => XS.istore X37.here hx rfl (hb hby at_290) rfl (l' := #[.val (.long y0_0), .second, .val (.long y1_0), .second, .val (.long y2_0), .second, .val (.long y3_0), .second, .val (.int x4_0), .val (.int x5_0), .val (.int pk), .val (.int rm_), .val (.int cl), .val (.int p2), .val (.int ce), .val (.int n2), .val (.int n1), .val (.long x2), .second, .val (.long y2), .second, .val (.long qx), .second, .val (.long qy), .second, .val (.ref b1), .val (.int got), .val (.int (1 : Int32)), .val (.int (1 : Int32)), .val (.int n2)]) rfl k) ?_
          refine own_step (fun t k => XS.goto X37.here hx rfl (pc0 := 292) (pc' := 322) rfl (hb hby at_292) (by decide) (by decide) k) ?_
          refine own_step (fun t k => XS.iload X37.here hx rfl (hb hby at_322) rfl k) ?_
          refine own_step (fun t k => XS.iload X37.here hx rfl (hb hby at_324) rfl k) ?_
          show own_Ends p.tables e below s _ _ _ (T37.setTop (mkF m 326 #[.val (.long y0_0), .second, .val (.long y1_0), .second, .val (.long y2_0), .second, .val (.long y3_0), .second, .val (.int x4_0), .val (.int x5_0), .val (.int pk), .val (.int rm_), .val (.int cl), .val (.int p2), .val (.int ce), .val (.int n2), .val (.int n1), .val (.long x2), .second, .val (.long y2), .second, .val (.long qx), .second, .val (.long qy), .second, .val (.ref b1), .val (.int got), .val (.int (1 : Int32)), .val (.int (1 : Int32)), .val (.int n2)] [(.int n2), (.int got)]))
          by_cases hc326_45 : got = n2
          · skip
            refine own_step (fun t k => XS.icmpNo X37.here hx rfl (hb hby at_326) rfl (teq hc326_45).2 k) ?_
            refine own_step (fun t k => XS.iconst X37.here hx rfl (hb hby at_329) k) ?_
            refine own_step (fun t k => XS.goto X37.here hx rfl (pc0 := 330) (pc' := 334) rfl (hb hby at_330) (by decide) (by decide) k) ?_
            show own_Ends p.tables e below s _ _ _ (T37.setTop (mkF m 334 #[.val (.long y0_0), .second, .val (.long y1_0), .second, .val (.long y2_0), .second, .val (.long y3_0), .second, .val (.int x4_0), .val (.int x5_0), .val (.int pk), .val (.int rm_), .val (.int cl), .val (.int p2), .val (.int ce), .val (.int n2), .val (.int n1), .val (.long x2), .second, .val (.long y2), .second, .val (.long qx), .second, .val (.long qy), .second, .val (.ref b1), .val (.int got), .val (.int (1 : Int32)), .val (.int (1 : Int32)), .val (.int n2)] [(.int (1 : Int32))]))
            exact own_retN X37 hx (t := .boolean) Bd.returns (by simp) (hb hby at_334) hnl (by rw [e37]; exact ⟨rfl, N38⟩) (by decide) (by decide)
          · skip
            refine own_step (fun t k => XS.icmpYes X37.here hx rfl (pc0 := 326) (pc' := 333) rfl (hb hby at_326) rfl (feq hc326_45).2 (by decide) (by decide) k) ?_
            refine own_step (fun t k => XS.iconst X37.here hx rfl (hb hby at_333) k) ?_
            show own_Ends p.tables e below s _ _ _ (T37.setTop (mkF m 334 #[.val (.long y0_0), .second, .val (.long y1_0), .second, .val (.long y2_0), .second, .val (.long y3_0), .second, .val (.int x4_0), .val (.int x5_0), .val (.int pk), .val (.int rm_), .val (.int cl), .val (.int p2), .val (.int ce), .val (.int n2), .val (.int n1), .val (.long x2), .second, .val (.long y2), .second, .val (.long qx), .second, .val (.long qy), .second, .val (.ref b1), .val (.int got), .val (.int (1 : Int32)), .val (.int (1 : Int32)), .val (.int n2)] [(.int (0 : Int32))]))
            exfalso
            exact hc326_45 (by rw [← hgot, own_specC hN (own_put0 y0_0 y1_0 n1 hk1) x2 y2 n2 hk2 qx qy]; exact if_pos (Classical.not_not.mp (fun q => hc285_39 ((own_same _ _ _ _).mpr q))))
      · skip
        refine own_step (fun t k => XS.ifNo X30.here hx rfl (hb hby at_207) rfl ((if0 _ _).trans (feq hc207_33).1) k) ?_
        refine own_step (fun t k => XS.aload X30.here hx rfl (hb hby at_210) rfl rfl k) ?_
        refine own_step (fun t k => XS.lloadN X30.here hx rfl (hb hby at_212) rfl k) ?_
        refine own_step (fun t k => XS.lloadN X30.here hx rfl (hb hby at_213) rfl k) ?_
        show own_Ends p.tables e below s _ _ _ (T30.setTop (mkF m 214 #[.val (.long y0_0), .second, .val (.long y1_0), .second, .val (.long y2_0), .second, .val (.long y3_0), .second, .val (.int x4_0), .val (.int x5_0), .val (.int pk), .val (.int rm_), .val (.int cl), .val (.int p2), .val (.int ce), .val (.int n2), .val (.int n1), .val (.long x2), .second, .val (.long y2), .second, .val (.long qx), .second, .val (.long qy), .second, .val (.ref b1), .unset, .unset, .unset, .unset] [(.long y1_0), (.long y0_0), (.ref b1)]))
        have O46 : Old Z n0 T30.heap := (O29.keep K30q (allS g_ax_4 (allS g_ay_4 (allS g_b1 (allS g_an_4 all0)))))
        obtain ⟨cq47, kq47, q47a, q47b, q47c⟩ := isOf hZ rfl p30_6
        obtain ⟨_, _, ⟨T47, L47, k47, n47⟩, -, X47, ⟨Lc47, hQ47, l47, y47, z47⟩, st47⟩ := X30.virtualBack hx (y := (⟨"com/example/swanhall/swanhall/core/CellTable", "remove", "(JJ)V"⟩ : MethodName)) (z := (⟨"com/example/swanhall/swanhall/core/CellTable", "remove", "(JJ)V"⟩ : MethodName)) hown (mvT hZ (hw _ (List.mem_of_getElem? (i := 46) rfl))) (mvT hZ (hw _ (List.mem_of_getElem? (i := 47) rfl))) (notFace_of_selects (args := #[]) (mvT hZ (hw _ (List.mem_of_getElem? (i := 49) rfl)))) (mvT hZ (hw _ (List.mem_of_getElem? (i := 49) rfl))) (mvT hZ (hw _ (List.mem_of_getElem? (i := 48) rfl))) (by decide) (backOf (W := 0) (rm8 l Z a0 hw [] b1 y0_0 y1_0 an_4 nC_4 (own_upd (own_upd (fun _ => (0 : Int32)) (own_r4 y0_0 y1_0 nC_4 (fun _ => (0 : Int32)) (fun _ => (0 : Int64)) (fun _ => (0 : Int64))) (n1 + (1 : Int32))) (own_r4 x2 y2 nC_4 (own_upd (fun _ => (0 : Int32)) (own_r4 y0_0 y1_0 nC_4 (fun _ => (0 : Int32)) (fun _ => (0 : Int64)) (fun _ => (0 : Int64))) (n1 + (1 : Int32))) (own_p3_0 y0_0 y1_0 nC_4 (fun _ => (0 : Int32)) (fun _ => (0 : Int64)) (fun _ => (0 : Int64))) (own_p3_1 y0_0 y1_0 nC_4 (fun _ => (0 : Int32)) (fun _ => (0 : Int64)) (fun _ => (0 : Int64)))) (n2 + (1 : Int32))) ax_4 (own_p3_0 x2 y2 nC_4 (own_upd (fun _ => (0 : Int32)) (own_r4 y0_0 y1_0 nC_4 (fun _ => (0 : Int32)) (fun _ => (0 : Int64)) (fun _ => (0 : Int64))) (n1 + (1 : Int32))) (own_p3_0 y0_0 y1_0 nC_4 (fun _ => (0 : Int32)) (fun _ => (0 : Int64)) (fun _ => (0 : Int64))) (own_p3_1 y0_0 y1_0 nC_4 (fun _ => (0 : Int32)) (fun _ => (0 : Int64)) (fun _ => (0 : Int64)))) ay_4 (own_p3_1 x2 y2 nC_4 (own_upd (fun _ => (0 : Int32)) (own_r4 y0_0 y1_0 nC_4 (fun _ => (0 : Int32)) (fun _ => (0 : Int64)) (fun _ => (0 : Int64))) (n1 + (1 : Int32))) (own_p3_0 y0_0 y1_0 nC_4 (fun _ => (0 : Int32)) (fun _ => (0 : Int64)) (fun _ => (0 : Int64))) (own_p3_1 y0_0 y1_0 nC_4 (fun _ => (0 : Int32)) (fun _ => (0 : Int64)) (fun _ => (0 : Int64)))) (own_p3_2 x2 y2 nC_4 (own_upd (fun _ => (0 : Int32)) (own_r4 y0_0 y1_0 nC_4 (fun _ => (0 : Int32)) (fun _ => (0 : Int64)) (fun _ => (0 : Int64))) (n1 + (1 : Int32))) (own_p3_0 y0_0 y1_0 nC_4 (fun _ => (0 : Int32)) (fun _ => (0 : Int64)) (fun _ => (0 : Int64))) (own_p3_1 y0_0 y1_0 nC_4 (fun _ => (0 : Int32)) (fun _ => (0 : Int64)) (fun _ => (0 : Int64))) (own_p3_2 y0_0 y1_0 nC_4 (fun _ => (0 : Int32)) (fun _ => (0 : Int64)) (fun _ => (0 : Int64)) (0 : Int32))) T30.heap n0 O46 (own_Npos hN) (own_stops hN (own_putSup ((own_put0 y0_0 y1_0 n1 hk1).sup hN) _ _ (own_srng _ _ _ _ _ _ (own_Npos hN)))) (fun s h1 h2 => own_nx2 hN ⟨h1, h2⟩) p30_2 p30_7 p30_3 p30_0 p30_4 p30_1 p30_5 p30_6 g_an_4 ne_b1_an_4 g_b1 g_ax_4 ne_b1_ax_4 (Ne.symm p4_12) g_ay_4 ne_b1_ay_4 (Ne.symm p4_13) (Ne.symm p4_14)) hZ (hw _ (List.mem_of_getElem? (i := 50) rfl)) (hw _ (List.mem_of_getElem? (i := 3) rfl)) (by decide) (by decide)) q47a q47c (g := (mkF m 214 #[.val (.long y0_0), .second, .val (.long y1_0), .second, .val (.long y2_0), .second, .val (.long y3_0), .second, .val (.int x4_0), .val (.int x5_0), .val (.int pk), .val (.int rm_), .val (.int cl), .val (.int p2), .val (.int ce), .val (.int n2), .val (.int n1), .val (.long x2), .second, .val (.long y2), .second, .val (.long qx), .second, .val (.long qy), .second, .val (.ref b1), .unset, .unset, .unset, .unset] [(.long y1_0), (.long y0_0), (.ref b1)])) rfl (by rw [hml]; rfl) (Steps.refl _) (argsL := [(.long y0_0), (.long y1_0)]) (rest := []) (lenOf pd_4 rfl) rfl (by show 2 * 0 + _ ≤ _; exact Nat.le_of_eq rfl) (hb hby at_214) (fun _ _ => ⟨rfl, rfl, (by decide : 4 + 0 ≤ _), (by decide : 772 + 0 ≤ _)⟩)
        dsimp only [Pt.U, Pt.locs, Pt.cells, Pt.slots] at X47 l47 y47 z47 st47 hQ47
        subst y47 z47
        obtain ⟨rfl, N47q, K47q, p47_0, p47_1, p47_2, p47_3, p47_4, p47_5, p47_6, p47_7⟩ := hQ47
        refine own_step (fun t k => st47.trans k) ?_
        have N48 : Fr n0 L47 := by rw [l47]; exact Fr.app N31 N47q
        have K49 : Keep h0 T47.heap [] := K32.trans K47q (allS (Or.inr sz_an_4) (allS (Or.inr sz_b1) (allS (Or.inr sz_ax_4) (allS (Or.inr sz_ay_4) all0))))
        refine own_step (fun t k => XS.aload X47.here hx rfl (hb hby at_217) rfl rfl k) ?_
        refine own_step (fun t k => XS.lload X47.here hx rfl (hb hby at_219) rfl k) ?_
        refine own_step (fun t k => XS.lload X47.here hx rfl (hb hby at_221) rfl k) ?_
        show own_Ends p.tables e below s _ _ _ (T47.setTop (mkF m 223 #[.val (.long y0_0), .second, .val (.long y1_0), .second, .val (.long y2_0), .second, .val (.long y3_0), .second, .val (.int x4_0), .val (.int x5_0), .val (.int pk), .val (.int rm_), .val (.int cl), .val (.int p2), .val (.int ce), .val (.int n2), .val (.int n1), .val (.long x2), .second, .val (.long y2), .second, .val (.long qx), .second, .val (.long qy), .second, .val (.ref b1), .unset, .unset, .unset, .unset] [(.long qy), (.long qx), (.ref b1)]))
        have O50 : Old Z n0 T47.heap := (O46.keep K47q (allS g_an_4 (allS g_b1 (allS g_ax_4 (allS g_ay_4 all0)))))
        obtain ⟨cq51, kq51, q51a, q51b, q51c⟩ := isOf hZ rfl p47_5
        obtain ⟨_, _, ⟨T51, L51, k51, n51⟩, -, X51, ⟨Lc51, hQ51, l51, y51, z51⟩, st51⟩ := X47.virtualBack hx (y := (⟨"com/example/swanhall/swanhall/core/CellTable", "get", "(JJ)I"⟩ : MethodName)) (z := (⟨"com/example/swanhall/swanhall/core/CellTable", "get", "(JJ)I"⟩ : MethodName)) hown (mvT hZ (hw _ (List.mem_of_getElem? (i := 35) rfl))) (mvT hZ (hw _ (List.mem_of_getElem? (i := 36) rfl))) (notFace_of_selects (args := #[]) (mvT hZ (hw _ (List.mem_of_getElem? (i := 38) rfl)))) (mvT hZ (hw _ (List.mem_of_getElem? (i := 38) rfl))) (mvT hZ (hw _ (List.mem_of_getElem? (i := 37) rfl))) (by decide) (backOf (W := 0) (rm6 l Z a0 hw [] b1 qx qy an_4 nC_4 (own_p8_0 y0_0 y1_0 nC_4 (own_upd (own_upd (fun _ => (0 : Int32)) (own_r4 y0_0 y1_0 nC_4 (fun _ => (0 : Int32)) (fun _ => (0 : Int64)) (fun _ => (0 : Int64))) (n1 + (1 : Int32))) (own_r4 x2 y2 nC_4 (own_upd (fun _ => (0 : Int32)) (own_r4 y0_0 y1_0 nC_4 (fun _ => (0 : Int32)) (fun _ => (0 : Int64)) (fun _ => (0 : Int64))) (n1 + (1 : Int32))) (own_p3_0 y0_0 y1_0 nC_4 (fun _ => (0 : Int32)) (fun _ => (0 : Int64)) (fun _ => (0 : Int64))) (own_p3_1 y0_0 y1_0 nC_4 (fun _ => (0 : Int32)) (fun _ => (0 : Int64)) (fun _ => (0 : Int64)))) (n2 + (1 : Int32))) (own_p3_0 x2 y2 nC_4 (own_upd (fun _ => (0 : Int32)) (own_r4 y0_0 y1_0 nC_4 (fun _ => (0 : Int32)) (fun _ => (0 : Int64)) (fun _ => (0 : Int64))) (n1 + (1 : Int32))) (own_p3_0 y0_0 y1_0 nC_4 (fun _ => (0 : Int32)) (fun _ => (0 : Int64)) (fun _ => (0 : Int64))) (own_p3_1 y0_0 y1_0 nC_4 (fun _ => (0 : Int32)) (fun _ => (0 : Int64)) (fun _ => (0 : Int64)))) (own_p3_1 x2 y2 nC_4 (own_upd (fun _ => (0 : Int32)) (own_r4 y0_0 y1_0 nC_4 (fun _ => (0 : Int32)) (fun _ => (0 : Int64)) (fun _ => (0 : Int64))) (n1 + (1 : Int32))) (own_p3_0 y0_0 y1_0 nC_4 (fun _ => (0 : Int32)) (fun _ => (0 : Int64)) (fun _ => (0 : Int64))) (own_p3_1 y0_0 y1_0 nC_4 (fun _ => (0 : Int32)) (fun _ => (0 : Int64)) (fun _ => (0 : Int64))))) ax_4 (own_p8_2 y0_0 y1_0 nC_4 (own_upd (own_upd (fun _ => (0 : Int32)) (own_r4 y0_0 y1_0 nC_4 (fun _ => (0 : Int32)) (fun _ => (0 : Int64)) (fun _ => (0 : Int64))) (n1 + (1 : Int32))) (own_r4 x2 y2 nC_4 (own_upd (fun _ => (0 : Int32)) (own_r4 y0_0 y1_0 nC_4 (fun _ => (0 : Int32)) (fun _ => (0 : Int64)) (fun _ => (0 : Int64))) (n1 + (1 : Int32))) (own_p3_0 y0_0 y1_0 nC_4 (fun _ => (0 : Int32)) (fun _ => (0 : Int64)) (fun _ => (0 : Int64))) (own_p3_1 y0_0 y1_0 nC_4 (fun _ => (0 : Int32)) (fun _ => (0 : Int64)) (fun _ => (0 : Int64)))) (n2 + (1 : Int32))) (own_p3_0 x2 y2 nC_4 (own_upd (fun _ => (0 : Int32)) (own_r4 y0_0 y1_0 nC_4 (fun _ => (0 : Int32)) (fun _ => (0 : Int64)) (fun _ => (0 : Int64))) (n1 + (1 : Int32))) (own_p3_0 y0_0 y1_0 nC_4 (fun _ => (0 : Int32)) (fun _ => (0 : Int64)) (fun _ => (0 : Int64))) (own_p3_1 y0_0 y1_0 nC_4 (fun _ => (0 : Int32)) (fun _ => (0 : Int64)) (fun _ => (0 : Int64)))) (own_p3_1 x2 y2 nC_4 (own_upd (fun _ => (0 : Int32)) (own_r4 y0_0 y1_0 nC_4 (fun _ => (0 : Int32)) (fun _ => (0 : Int64)) (fun _ => (0 : Int64))) (n1 + (1 : Int32))) (own_p3_0 y0_0 y1_0 nC_4 (fun _ => (0 : Int32)) (fun _ => (0 : Int64)) (fun _ => (0 : Int64))) (own_p3_1 y0_0 y1_0 nC_4 (fun _ => (0 : Int32)) (fun _ => (0 : Int64)) (fun _ => (0 : Int64))))) ay_4 (own_p8_3 y0_0 y1_0 nC_4 (own_upd (own_upd (fun _ => (0 : Int32)) (own_r4 y0_0 y1_0 nC_4 (fun _ => (0 : Int32)) (fun _ => (0 : Int64)) (fun _ => (0 : Int64))) (n1 + (1 : Int32))) (own_r4 x2 y2 nC_4 (own_upd (fun _ => (0 : Int32)) (own_r4 y0_0 y1_0 nC_4 (fun _ => (0 : Int32)) (fun _ => (0 : Int64)) (fun _ => (0 : Int64))) (n1 + (1 : Int32))) (own_p3_0 y0_0 y1_0 nC_4 (fun _ => (0 : Int32)) (fun _ => (0 : Int64)) (fun _ => (0 : Int64))) (own_p3_1 y0_0 y1_0 nC_4 (fun _ => (0 : Int32)) (fun _ => (0 : Int64)) (fun _ => (0 : Int64)))) (n2 + (1 : Int32))) (own_p3_0 x2 y2 nC_4 (own_upd (fun _ => (0 : Int32)) (own_r4 y0_0 y1_0 nC_4 (fun _ => (0 : Int32)) (fun _ => (0 : Int64)) (fun _ => (0 : Int64))) (n1 + (1 : Int32))) (own_p3_0 y0_0 y1_0 nC_4 (fun _ => (0 : Int32)) (fun _ => (0 : Int64)) (fun _ => (0 : Int64))) (own_p3_1 y0_0 y1_0 nC_4 (fun _ => (0 : Int32)) (fun _ => (0 : Int64)) (fun _ => (0 : Int64)))) (own_p3_1 x2 y2 nC_4 (own_upd (fun _ => (0 : Int32)) (own_r4 y0_0 y1_0 nC_4 (fun _ => (0 : Int32)) (fun _ => (0 : Int64)) (fun _ => (0 : Int64))) (n1 + (1 : Int32))) (own_p3_0 y0_0 y1_0 nC_4 (fun _ => (0 : Int32)) (fun _ => (0 : Int64)) (fun _ => (0 : Int64))) (own_p3_1 y0_0 y1_0 nC_4 (fun _ => (0 : Int32)) (fun _ => (0 : Int64)) (fun _ => (0 : Int64))))) T47.heap n0 O50 (own_Npos hN) (own_stops hN (own_remSup (own_putSup ((own_put0 y0_0 y1_0 n1 hk1).sup hN) _ _ (own_srng _ _ _ _ _ _ (own_Npos hN))) _ _)) p47_1 p47_0 p47_5 p47_2 p47_6 p47_3 p47_7) hZ (hw _ (List.mem_of_getElem? (i := 39) rfl)) (hw _ (List.mem_of_getElem? (i := 3) rfl)) (by decide) (by decide)) q51a q51c (g := (mkF m 223 #[.val (.long y0_0), .second, .val (.long y1_0), .second, .val (.long y2_0), .second, .val (.long y3_0), .second, .val (.int x4_0), .val (.int x5_0), .val (.int pk), .val (.int rm_), .val (.int cl), .val (.int p2), .val (.int ce), .val (.int n2), .val (.int n1), .val (.long x2), .second, .val (.long y2), .second, .val (.long qx), .second, .val (.long qy), .second, .val (.ref b1), .unset, .unset, .unset, .unset] [(.long qy), (.long qx), (.ref b1)])) rfl (by rw [hml]; rfl) (Steps.refl _) (argsL := [(.long qx), (.long qy)]) (rest := []) (lenOf pd_0 rfl) rfl (by show 2 * 0 + _ ≤ _; exact Nat.le_of_eq rfl) (hb hby at_223) (fun _ _ => ⟨rfl, rfl, (by decide : 4 + 0 ≤ _), (by decide : 772 + 0 ≤ _)⟩)
        dsimp only [Pt.U, Pt.locs, Pt.cells, Pt.slots] at X51 l51 y51 z51 st51 hQ51
        subst y51 z51
        obtain ⟨rfl, N51q, e51⟩ := hQ51
        refine own_step (fun t k => st51.trans k) ?_
        have N52 : Fr n0 L51 := by rw [l51]; exact Fr.app N48 N51q
        show own_Ends p.tables e below s _ _ _ (T51.setTop (mkF m 226 #[.val (.long y0_0), .second, .val (.long y1_0), .second, .val (.long y2_0), .second, .val (.long y3_0), .second, .val (.int x4_0), .val (.int x5_0), .val (.int pk), .val (.int rm_), .val (.int cl), .val (.int p2), .val (.int ce), .val (.int n2), .val (.int n1), .val (.long x2), .second, .val (.long y2), .second, .val (.long qx), .second, .val (.long qy), .second, .val (.ref b1), .unset, .unset, .unset, .unset] [(.int (own_r6 qx qy nC_4 (own_p8_0 y0_0 y1_0 nC_4 (own_upd (own_upd (fun _ => (0 : Int32)) (own_r4 y0_0 y1_0 nC_4 (fun _ => (0 : Int32)) (fun _ => (0 : Int64)) (fun _ => (0 : Int64))) (n1 + (1 : Int32))) (own_r4 x2 y2 nC_4 (own_upd (fun _ => (0 : Int32)) (own_r4 y0_0 y1_0 nC_4 (fun _ => (0 : Int32)) (fun _ => (0 : Int64)) (fun _ => (0 : Int64))) (n1 + (1 : Int32))) (own_p3_0 y0_0 y1_0 nC_4 (fun _ => (0 : Int32)) (fun _ => (0 : Int64)) (fun _ => (0 : Int64))) (own_p3_1 y0_0 y1_0 nC_4 (fun _ => (0 : Int32)) (fun _ => (0 : Int64)) (fun _ => (0 : Int64)))) (n2 + (1 : Int32))) (own_p3_0 x2 y2 nC_4 (own_upd (fun _ => (0 : Int32)) (own_r4 y0_0 y1_0 nC_4 (fun _ => (0 : Int32)) (fun _ => (0 : Int64)) (fun _ => (0 : Int64))) (n1 + (1 : Int32))) (own_p3_0 y0_0 y1_0 nC_4 (fun _ => (0 : Int32)) (fun _ => (0 : Int64)) (fun _ => (0 : Int64))) (own_p3_1 y0_0 y1_0 nC_4 (fun _ => (0 : Int32)) (fun _ => (0 : Int64)) (fun _ => (0 : Int64)))) (own_p3_1 x2 y2 nC_4 (own_upd (fun _ => (0 : Int32)) (own_r4 y0_0 y1_0 nC_4 (fun _ => (0 : Int32)) (fun _ => (0 : Int64)) (fun _ => (0 : Int64))) (n1 + (1 : Int32))) (own_p3_0 y0_0 y1_0 nC_4 (fun _ => (0 : Int32)) (fun _ => (0 : Int64)) (fun _ => (0 : Int64))) (own_p3_1 y0_0 y1_0 nC_4 (fun _ => (0 : Int32)) (fun _ => (0 : Int64)) (fun _ => (0 : Int64))))) (own_p8_2 y0_0 y1_0 nC_4 (own_upd (own_upd (fun _ => (0 : Int32)) (own_r4 y0_0 y1_0 nC_4 (fun _ => (0 : Int32)) (fun _ => (0 : Int64)) (fun _ => (0 : Int64))) (n1 + (1 : Int32))) (own_r4 x2 y2 nC_4 (own_upd (fun _ => (0 : Int32)) (own_r4 y0_0 y1_0 nC_4 (fun _ => (0 : Int32)) (fun _ => (0 : Int64)) (fun _ => (0 : Int64))) (n1 + (1 : Int32))) (own_p3_0 y0_0 y1_0 nC_4 (fun _ => (0 : Int32)) (fun _ => (0 : Int64)) (fun _ => (0 : Int64))) (own_p3_1 y0_0 y1_0 nC_4 (fun _ => (0 : Int32)) (fun _ => (0 : Int64)) (fun _ => (0 : Int64)))) (n2 + (1 : Int32))) (own_p3_0 x2 y2 nC_4 (own_upd (fun _ => (0 : Int32)) (own_r4 y0_0 y1_0 nC_4 (fun _ => (0 : Int32)) (fun _ => (0 : Int64)) (fun _ => (0 : Int64))) (n1 + (1 : Int32))) (own_p3_0 y0_0 y1_0 nC_4 (fun _ => (0 : Int32)) (fun _ => (0 : Int64)) (fun _ => (0 : Int64))) (own_p3_1 y0_0 y1_0 nC_4 (fun _ => (0 : Int32)) (fun _ => (0 : Int64)) (fun _ => (0 : Int64)))) (own_p3_1 x2 y2 nC_4 (own_upd (fun _ => (0 : Int32)) (own_r4 y0_0 y1_0 nC_4 (fun _ => (0 : Int32)) (fun _ => (0 : Int64)) (fun _ => (0 : Int64))) (n1 + (1 : Int32))) (own_p3_0 y0_0 y1_0 nC_4 (fun _ => (0 : Int32)) (fun _ => (0 : Int64)) (fun _ => (0 : Int64))) (own_p3_1 y0_0 y1_0 nC_4 (fun _ => (0 : Int32)) (fun _ => (0 : Int64)) (fun _ => (0 : Int64))))) (own_p8_3 y0_0 y1_0 nC_4 (own_upd (own_upd (fun _ => (0 : Int32)) (own_r4 y0_0 y1_0 nC_4 (fun _ => (0 : Int32)) (fun _ => (0 : Int64)) (fun _ => (0 : Int64))) (n1 + (1 : Int32))) (own_r4 x2 y2 nC_4 (own_upd (fun _ => (0 : Int32)) (own_r4 y0_0 y1_0 nC_4 (fun _ => (0 : Int32)) (fun _ => (0 : Int64)) (fun _ => (0 : Int64))) (n1 + (1 : Int32))) (own_p3_0 y0_0 y1_0 nC_4 (fun _ => (0 : Int32)) (fun _ => (0 : Int64)) (fun _ => (0 : Int64))) (own_p3_1 y0_0 y1_0 nC_4 (fun _ => (0 : Int32)) (fun _ => (0 : Int64)) (fun _ => (0 : Int64)))) (n2 + (1 : Int32))) (own_p3_0 x2 y2 nC_4 (own_upd (fun _ => (0 : Int32)) (own_r4 y0_0 y1_0 nC_4 (fun _ => (0 : Int32)) (fun _ => (0 : Int64)) (fun _ => (0 : Int64))) (n1 + (1 : Int32))) (own_p3_0 y0_0 y1_0 nC_4 (fun _ => (0 : Int32)) (fun _ => (0 : Int64)) (fun _ => (0 : Int64))) (own_p3_1 y0_0 y1_0 nC_4 (fun _ => (0 : Int32)) (fun _ => (0 : Int64)) (fun _ => (0 : Int64)))) (own_p3_1 x2 y2 nC_4 (own_upd (fun _ => (0 : Int32)) (own_r4 y0_0 y1_0 nC_4 (fun _ => (0 : Int32)) (fun _ => (0 : Int64)) (fun _ => (0 : Int64))) (n1 + (1 : Int32))) (own_p3_0 y0_0 y1_0 nC_4 (fun _ => (0 : Int32)) (fun _ => (0 : Int64)) (fun _ => (0 : Int64))) (own_p3_1 y0_0 y1_0 nC_4 (fun _ => (0 : Int32)) (fun _ => (0 : Int64)) (fun _ => (0 : Int64)))))))]))
        generalize hgot : (own_r6 qx qy nC_4 (own_p8_0 y0_0 y1_0 nC_4 (own_upd (own_upd (fun _ => (0 : Int32)) (own_r4 y0_0 y1_0 nC_4 (fun _ => (0 : Int32)) (fun _ => (0 : Int64)) (fun _ => (0 : Int64))) (n1 + (1 : Int32))) (own_r4 x2 y2 nC_4 (own_upd (fun _ => (0 : Int32)) (own_r4 y0_0 y1_0 nC_4 (fun _ => (0 : Int32)) (fun _ => (0 : Int64)) (fun _ => (0 : Int64))) (n1 + (1 : Int32))) (own_p3_0 y0_0 y1_0 nC_4 (fun _ => (0 : Int32)) (fun _ => (0 : Int64)) (fun _ => (0 : Int64))) (own_p3_1 y0_0 y1_0 nC_4 (fun _ => (0 : Int32)) (fun _ => (0 : Int64)) (fun _ => (0 : Int64)))) (n2 + (1 : Int32))) (own_p3_0 x2 y2 nC_4 (own_upd (fun _ => (0 : Int32)) (own_r4 y0_0 y1_0 nC_4 (fun _ => (0 : Int32)) (fun _ => (0 : Int64)) (fun _ => (0 : Int64))) (n1 + (1 : Int32))) (own_p3_0 y0_0 y1_0 nC_4 (fun _ => (0 : Int32)) (fun _ => (0 : Int64)) (fun _ => (0 : Int64))) (own_p3_1 y0_0 y1_0 nC_4 (fun _ => (0 : Int32)) (fun _ => (0 : Int64)) (fun _ => (0 : Int64)))) (own_p3_1 x2 y2 nC_4 (own_upd (fun _ => (0 : Int32)) (own_r4 y0_0 y1_0 nC_4 (fun _ => (0 : Int32)) (fun _ => (0 : Int64)) (fun _ => (0 : Int64))) (n1 + (1 : Int32))) (own_p3_0 y0_0 y1_0 nC_4 (fun _ => (0 : Int32)) (fun _ => (0 : Int64)) (fun _ => (0 : Int64))) (own_p3_1 y0_0 y1_0 nC_4 (fun _ => (0 : Int32)) (fun _ => (0 : Int64)) (fun _ => (0 : Int64))))) (own_p8_2 y0_0 y1_0 nC_4 (own_upd (own_upd (fun _ => (0 : Int32)) (own_r4 y0_0 y1_0 nC_4 (fun _ => (0 : Int32)) (fun _ => (0 : Int64)) (fun _ => (0 : Int64))) (n1 + (1 : Int32))) (own_r4 x2 y2 nC_4 (own_upd (fun _ => (0 : Int32)) (own_r4 y0_0 y1_0 nC_4 (fun _ => (0 : Int32)) (fun _ => (0 : Int64)) (fun _ => (0 : Int64))) (n1 + (1 : Int32))) (own_p3_0 y0_0 y1_0 nC_4 (fun _ => (0 : Int32)) (fun _ => (0 : Int64)) (fun _ => (0 : Int64))) (own_p3_1 y0_0 y1_0 nC_4 (fun _ => (0 : Int32)) (fun _ => (0 : Int64)) (fun _ => (0 : Int64)))) (n2 + (1 : Int32))) (own_p3_0 x2 y2 nC_4 (own_upd (fun _ => (0 : Int32)) (own_r4 y0_0 y1_0 nC_4 (fun _ => (0 : Int32)) (fun _ => (0 : Int64)) (fun _ => (0 : Int64))) (n1 + (1 : Int32))) (own_p3_0 y0_0 y1_0 nC_4 (fun _ => (0 : Int32)) (fun _ => (0 : Int64)) (fun _ => (0 : Int64))) (own_p3_1 y0_0 y1_0 nC_4 (fun _ => (0 : Int32)) (fun _ => (0 : Int64)) (fun _ => (0 : Int64)))) (own_p3_1 x2 y2 nC_4 (own_upd (fun _ => (0 : Int32)) (own_r4 y0_0 y1_0 nC_4 (fun _ => (0 : Int32)) (fun _ => (0 : Int64)) (fun _ => (0 : Int64))) (n1 + (1 : Int32))) (own_p3_0 y0_0 y1_0 nC_4 (fun _ => (0 : Int32)) (fun _ => (0 : Int64)) (fun _ => (0 : Int64))) (own_p3_1 y0_0 y1_0 nC_4 (fun _ => (0 : Int32)) (fun _ => (0 : Int64)) (fun _ => (0 : Int64))))) (own_p8_3 y0_0 y1_0 nC_4 (own_upd (own_upd (fun _ => (0 : Int32)) (own_r4 y0_0 y1_0 nC_4 (fun _ => (0 : Int32)) (fun _ => (0 : Int64)) (fun _ => (0 : Int64))) (n1 + (1 : Int32))) (own_r4 x2 y2 nC_4 (own_upd (fun _ => (0 : Int32)) (own_r4 y0_0 y1_0 nC_4 (fun _ => (0 : Int32)) (fun _ => (0 : Int64)) (fun _ => (0 : Int64))) (n1 + (1 : Int32))) (own_p3_0 y0_0 y1_0 nC_4 (fun _ => (0 : Int32)) (fun _ => (0 : Int64)) (fun _ => (0 : Int64))) (own_p3_1 y0_0 y1_0 nC_4 (fun _ => (0 : Int32)) (fun _ => (0 : Int64)) (fun _ => (0 : Int64)))) (n2 + (1 : Int32))) (own_p3_0 x2 y2 nC_4 (own_upd (fun _ => (0 : Int32)) (own_r4 y0_0 y1_0 nC_4 (fun _ => (0 : Int32)) (fun _ => (0 : Int64)) (fun _ => (0 : Int64))) (n1 + (1 : Int32))) (own_p3_0 y0_0 y1_0 nC_4 (fun _ => (0 : Int32)) (fun _ => (0 : Int64)) (fun _ => (0 : Int64))) (own_p3_1 y0_0 y1_0 nC_4 (fun _ => (0 : Int32)) (fun _ => (0 : Int64)) (fun _ => (0 : Int64)))) (own_p3_1 x2 y2 nC_4 (own_upd (fun _ => (0 : Int32)) (own_r4 y0_0 y1_0 nC_4 (fun _ => (0 : Int32)) (fun _ => (0 : Int64)) (fun _ => (0 : Int64))) (n1 + (1 : Int32))) (own_p3_0 y0_0 y1_0 nC_4 (fun _ => (0 : Int32)) (fun _ => (0 : Int64)) (fun _ => (0 : Int64))) (own_p3_1 y0_0 y1_0 nC_4 (fun _ => (0 : Int32)) (fun _ => (0 : Int64)) (fun _ => (0 : Int64)))))) = got
        refine own_step (fun t k => XS.istore X51.here hx rfl (hb hby at_226) rfl (l' := #[.val (.long y0_0), .second, .val (.long y1_0), .second, .val (.long y2_0), .second, .val (.long y3_0), .second, .val (.int x4_0), .val (.int x5_0), .val (.int pk), .val (.int rm_), .val (.int cl), .val (.int p2), .val (.int ce), .val (.int n2), .val (.int n1), .val (.long x2), .second, .val (.long y2), .second, .val (.long qx), .second, .val (.long qy), .second, .val (.ref b1), .val (.int got), .unset, .unset, .unset]) rfl k) ?_
        refine own_step (fun t k => XS.iload X51.here hx rfl (hb hby at_228) rfl k) ?_
        show own_Ends p.tables e below s _ _ _ (T51.setTop (mkF m 230 #[.val (.long y0_0), .second, .val (.long y1_0), .second, .val (.long y2_0), .second, .val (.long y3_0), .second, .val (.int x4_0), .val (.int x5_0), .val (.int pk), .val (.int rm_), .val (.int cl), .val (.int p2), .val (.int ce), .val (.int n2), .val (.int n1), .val (.long x2), .second, .val (.long y2), .second, .val (.long qx), .second, .val (.long qy), .second, .val (.ref b1), .val (.int got), .unset, .unset, .unset] [(.int rm_)]))
        refine own_step (fun t k => XS.ifYes X51.here hx rfl (pc0 := 230) (pc' := 237) rfl (hb hby at_230) rfl ((if0 _ _).trans (feq hc207_33).2) (by decide) (by decide) k) ?_
        refine own_step (fun t k => XS.iconst X51.here hx rfl (hb hby at_237) k) ?_
        refine own_step (fun t k => XS.istore X51.here hx rfl (hb hby at_238) rfl (l' := #[.val (.long y0_0), .second, .val (.long y1_0), .second, .val (.long y2_0), .second, .val (.long y3_0), .second, .val (.int x4_0), .val (.int x5_0), .val (.int pk), .val (.int rm_), .val (.int cl), .val (.int p2), .val (.int ce), .val (.int n2), .val (.int n1), .val (.long x2), .second, .val (.long y2), .second, .val (.long qx), .second, .val (.long qy), .second, .val (.ref b1), .val (.int got), .val (.int (0 : Int32)), .unset, .unset]) rfl k) ?_
        refine own_step (fun t k => XS.iload X51.here hx rfl (hb hby at_240) rfl k) ?_
        show own_Ends p.tables e below s _ _ _ (T51.setTop (mkF m 242 #[.val (.long y0_0), .second, .val (.long y1_0), .second, .val (.long y2_0), .second, .val (.long y3_0), .second, .val (.int x4_0), .val (.int x5_0), .val (.int pk), .val (.int rm_), .val (.int cl), .val (.int p2), .val (.int ce), .val (.int n2), .val (.int n1), .val (.long x2), .second, .val (.long y2), .second, .val (.long qx), .second, .val (.long qy), .second, .val (.ref b1), .val (.int got), .val (.int (0 : Int32)), .unset, .unset] [(.int p2)]))
        refine own_step (fun t k => XS.ifNo X51.here hx rfl (hb hby at_242) rfl ((if0 _ _).trans (feq hc191_11).1) k) ?_
        refine own_step (fun t k => XS.iload X51.here hx rfl (hb hby at_245) rfl k) ?_
        show own_Ends p.tables e below s _ _ _ (T51.setTop (mkF m 247 #[.val (.long y0_0), .second, .val (.long y1_0), .second, .val (.long y2_0), .second, .val (.long y3_0), .second, .val (.int x4_0), .val (.int x5_0), .val (.int pk), .val (.int rm_), .val (.int cl), .val (.int p2), .val (.int ce), .val (.int n2), .val (.int n1), .val (.long x2), .second, .val (.long y2), .second, .val (.long qx), .second, .val (.long qy), .second, .val (.ref b1), .val (.int got), .val (.int (0 : Int32)), .unset, .unset] [(.int rm_)]))
        refine own_step (fun t k => XS.ifNo X51.here hx rfl (hb hby at_247) rfl ((if0 _ _).trans (feq hc207_33).1) k) ?_
        refine own_step (fun t k => XS.lload X51.here hx rfl (hb hby at_250) rfl k) ?_
        refine own_step (fun t k => XS.lload X51.here hx rfl (hb hby at_252) rfl k) ?_
        refine own_step (fun t k => XS.lloadN X51.here hx rfl (hb hby at_254) rfl k) ?_
        refine own_step (fun t k => XS.lloadN X51.here hx rfl (hb hby at_255) rfl k) ?_
        show own_Ends p.tables e below s _ _ _ (T51.setTop (mkF m 256 #[.val (.long y0_0), .second, .val (.long y1_0), .second, .val (.long y2_0), .second, .val (.long y3_0), .second, .val (.int x4_0), .val (.int x5_0), .val (.int pk), .val (.int rm_), .val (.int cl), .val (.int p2), .val (.int ce), .val (.int n2), .val (.int n1), .val (.long x2), .second, .val (.long y2), .second, .val (.long qx), .second, .val (.long qy), .second, .val (.ref b1), .val (.int got), .val (.int (0 : Int32)), .unset, .unset] [(.long y1_0), (.long y0_0), (.long y2), (.long x2)]))
        obtain ⟨_, _, ⟨T53, L53, k53, n53⟩, -, X53, ⟨Lc53, hQ53, l53, y53, z53⟩, st53⟩ := Jvm.LawKit.callS X51 hx (y := (⟨"com/example/swanhall/swanhall/core/CellTableGetPinLaw", "same", "(JJJJ)Z"⟩ : MethodName)) hown (mvT hZ (hw _ (List.mem_of_getElem? (i := 40) rfl))) (mvT hZ (hw _ (List.mem_of_getElem? (i := 41) rfl))) (mvT hZ (hw _ (List.mem_of_getElem? (i := 42) rfl))) (mvT hZ (hw _ (List.mem_of_getElem? (i := 43) rfl))) (by decide) (backOf (W := 0) (rm7 l Z a0 hw [] x2 y2 y0_0 y1_0 T47.heap n0 O50 ) hZ (hw _ (List.mem_of_getElem? (i := 43) rfl)) (hw _ (List.mem_of_getElem? (i := 42) rfl)) (by decide) (by decide)) (g := (mkF m 256 #[.val (.long y0_0), .second, .val (.long y1_0), .second, .val (.long y2_0), .second, .val (.long y3_0), .second, .val (.int x4_0), .val (.int x5_0), .val (.int pk), .val (.int rm_), .val (.int cl), .val (.int p2), .val (.int ce), .val (.int n2), .val (.int n1), .val (.long x2), .second, .val (.long y2), .second, .val (.long qx), .second, .val (.long qy), .second, .val (.ref b1), .val (.int got), .val (.int (0 : Int32)), .unset, .unset] [(.long y1_0), (.long y0_0), (.long y2), (.long x2)])) rfl (by rw [hml]; rfl) (argsL := [(.long x2), (.long y2), (.long y0_0), (.long y1_0)]) (rest := []) (lenOf pd_3 rfl) rfl (by show 2 * 0 + _ ≤ _; exact Nat.le_of_eq rfl) (hb hby at_256) (fun _ _ => ⟨rfl, e51, (by decide : 4 + 0 ≤ _), (by decide : 772 + 0 ≤ _)⟩)
        dsimp only [Pt.U, Pt.locs, Pt.cells, Pt.slots] at X53 l53 y53 z53 st53 hQ53
        subst y53 z53
        obtain ⟨rfl, N53q, e53⟩ := hQ53
        refine own_step (fun t k => st53 _ k) ?_
        have N54 : Fr n0 L53 := by rw [l53]; exact Fr.app N52 N53q
        show own_Ends p.tables e below s _ _ _ (T53.setTop (mkF m 259 #[.val (.long y0_0), .second, .val (.long y1_0), .second, .val (.long y2_0), .second, .val (.long y3_0), .second, .val (.int x4_0), .val (.int x5_0), .val (.int pk), .val (.int rm_), .val (.int cl), .val (.int p2), .val (.int ce), .val (.int n2), .val (.int n1), .val (.long x2), .second, .val (.long y2), .second, .val (.long qx), .second, .val (.long qy), .second, .val (.ref b1), .val (.int got), .val (.int (0 : Int32)), .unset, .unset] [(.int (own_r7 x2 y2 y0_0 y1_0))]))
        by_cases hc259_55 : (own_r7 x2 y2 y0_0 y1_0) = (0 : Int32)
        · skip
          refine own_step (fun t k => XS.ifNo X53.here hx rfl (hb hby at_259) rfl ((if0 _ _).trans (teq hc259_55).2) k) ?_
          refine own_step (fun t k => XS.iconst X53.here hx rfl (hb hby at_262) k) ?_
          refine own_step (fun t k => XS.goto X53.here hx rfl (pc0 := 263) (pc' := 267) rfl (hb hby at_263) (by decide) (by decide) k) ?_
          refine own_step (fun t k => XS.istore X53.here hx rfl (hb hby at_267) rfl (l' := #[.val (.long y0_0), .second, .val (.long y1_0), .second, .val (.long y2_0), .second, .val (.long y3_0), .second, .val (.int x4_0), .val (.int x5_0), .val (.int pk), .val (.int rm_), .val (.int cl), .val (.int p2), .val (.int ce), .val (.int n2), .val (.int n1), .val (.long x2), .second, .val (.long y2), .second, .val (.long qx), .second, .val (.long qy), .second, .val (.ref b1), .val (.int got), .val (.int (0 : Int32)), .val (.int (1 : Int32)), .unset]) rfl k) ?_
          refine own_step (fun t k => XS.iload X53.here hx rfl (hb hby at_269) rfl k) ?_
          show own_Ends p.tables e below s _ _ _ (T53.setTop (mkF m 271 #[.val (.long y0_0), .second, .val (.long y1_0), .second, .val (.long y2_0), .second, .val (.long y3_0), .second, .val (.int x4_0), .val (.int x5_0), .val (.int pk), .val (.int rm_), .val (.int cl), .val (.int p2), .val (.int ce), .val (.int n2), .val (.int n1), .val (.long x2), .second, .val (.long y2), .second, .val (.long qx), .second, .val (.long qy), .second, .val (.ref b1), .val (.int got), .val (.int (0 : Int32)), .val (.int (1 : Int32)), .unset] [(.int (1 : Int32))]))
          refine own_step (fun t k => XS.ifNo X53.here hx rfl (hb hby at_271) rfl ((if0 _ _).trans (feq (by decide : ¬ ((1 : Int32) = (0 : Int32)))).1) k) ?_
          refine own_step (fun t k => XS.lload X53.here hx rfl (hb hby at_274) rfl k) ?_
          refine own_step (fun t k => XS.lload X53.here hx rfl (hb hby at_276) rfl k) ?_
          refine own_step (fun t k => XS.lload X53.here hx rfl (hb hby at_278) rfl k) ?_
          refine own_step (fun t k => XS.lload X53.here hx rfl (hb hby at_280) rfl k) ?_
          show own_Ends p.tables e below s _ _ _ (T53.setTop (mkF m 282 #[.val (.long y0_0), .second, .val (.long y1_0), .second, .val (.long y2_0), .second, .val (.long y3_0), .second, .val (.int x4_0), .val (.int x5_0), .val (.int pk), .val (.int rm_), .val (.int cl), .val (.int p2), .val (.int ce), .val (.int n2), .val (.int n1), .val (.long x2), .second, .val (.long y2), .second, .val (.long qx), .second, .val (.long qy), .second, .val (.ref b1), .val (.int got), .val (.int (0 : Int32)), .val (.int (1 : Int32)), .unset] [(.long y2), (.long x2), (.long qy), (.long qx)]))
          obtain ⟨_, _, ⟨T56, L56, k56, n56⟩, -, X56, ⟨Lc56, hQ56, l56, y56, z56⟩, st56⟩ := Jvm.LawKit.callS X53 hx (y := (⟨"com/example/swanhall/swanhall/core/CellTableGetPinLaw", "same", "(JJJJ)Z"⟩ : MethodName)) hown (mvT hZ (hw _ (List.mem_of_getElem? (i := 40) rfl))) (mvT hZ (hw _ (List.mem_of_getElem? (i := 41) rfl))) (mvT hZ (hw _ (List.mem_of_getElem? (i := 42) rfl))) (mvT hZ (hw _ (List.mem_of_getElem? (i := 43) rfl))) (by decide) (backOf (W := 0) (rm7 l Z a0 hw [] qx qy x2 y2 T47.heap n0 O50 ) hZ (hw _ (List.mem_of_getElem? (i := 43) rfl)) (hw _ (List.mem_of_getElem? (i := 42) rfl)) (by decide) (by decide)) (g := (mkF m 282 #[.val (.long y0_0), .second, .val (.long y1_0), .second, .val (.long y2_0), .second, .val (.long y3_0), .second, .val (.int x4_0), .val (.int x5_0), .val (.int pk), .val (.int rm_), .val (.int cl), .val (.int p2), .val (.int ce), .val (.int n2), .val (.int n1), .val (.long x2), .second, .val (.long y2), .second, .val (.long qx), .second, .val (.long qy), .second, .val (.ref b1), .val (.int got), .val (.int (0 : Int32)), .val (.int (1 : Int32)), .unset] [(.long y2), (.long x2), (.long qy), (.long qx)])) rfl (by rw [hml]; rfl) (argsL := [(.long qx), (.long qy), (.long x2), (.long y2)]) (rest := []) (lenOf pd_3 rfl) rfl (by show 2 * 0 + _ ≤ _; exact Nat.le_of_eq rfl) (hb hby at_282) (fun _ _ => ⟨rfl, e53, (by decide : 4 + 0 ≤ _), (by decide : 772 + 0 ≤ _)⟩)
          dsimp only [Pt.U, Pt.locs, Pt.cells, Pt.slots] at X56 l56 y56 z56 st56 hQ56
          subst y56 z56
          obtain ⟨rfl, N56q, e56⟩ := hQ56
          refine own_step (fun t k => st56 _ k) ?_
          have N57 : Fr n0 L56 := by rw [l56]; exact Fr.app N54 N56q
          show own_Ends p.tables e below s _ _ _ (T56.setTop (mkF m 285 #[.val (.long y0_0), .second, .val (.long y1_0), .second, .val (.long y2_0), .second, .val (.long y3_0), .second, .val (.int x4_0), .val (.int x5_0), .val (.int pk), .val (.int rm_), .val (.int cl), .val (.int p2), .val (.int ce), .val (.int n2), .val (.int n1), .val (.long x2), .second, .val (.long y2), .second, .val (.long qx), .second, .val (.long qy), .second, .val (.ref b1), .val (.int got), .val (.int (0 : Int32)), .val (.int (1 : Int32)), .unset] [(.int (own_r7 qx qy x2 y2))]))
          by_cases hc285_58 : (own_r7 qx qy x2 y2) = (0 : Int32)
          · skip
            refine own_step (fun t k => XS.ifYes X56.here hx rfl (pc0 := 285) (pc' := 295) rfl (hb hby at_285) rfl ((if0 _ _).trans (teq hc285_58).1) (by decide) (by decide) k) ?_
            refine own_step (fun t k => XS.iload X56.here hx rfl (hb hby at_295) rfl k) ?_
            show own_Ends p.tables e below s _ _ _ (T56.setTop (mkF m 297 #[.val (.long y0_0), .second, .val (.long y1_0), .second, .val (.long y2_0), .second, .val (.long y3_0), .second, .val (.int x4_0), .val (.int x5_0), .val (.int pk), .val (.int rm_), .val (.int cl), .val (.int p2), .val (.int ce), .val (.int n2), .val (.int n1), .val (.long x2), .second, .val (.long y2), .second, .val (.long qx), .second, .val (.long qy), .second, .val (.ref b1), .val (.int got), .val (.int (0 : Int32)), .val (.int (1 : Int32)), .unset] [(.int (0 : Int32))]))
            refine own_step (fun t k => XS.ifYes X56.here hx rfl (pc0 := 297) (pc' := 319) rfl (hb hby at_297) rfl ((if0 _ _).trans (teq (by decide : (0 : Int32) = (0 : Int32))).1) (by decide) (by decide) k) ?_
            refine own_step (fun t k => XS.iconst X56.here hx rfl (hb hby at_319) k) ?_
            refine own_step (fun t k => XS.istore X56.here hx rfl (hb hby at_320) rfl (l' := #[.val (.long y0_0), .second, .val (.long y1_0), .second, .val (.long y2_0), .second, .val (.long y3_0), .second, .val (.int x4_0), .val (.int x5_0), .val (.int pk), .val (.int rm_), .val (.int cl), .val (.int p2), .val (.int ce), .val (.int n2), .val (.int n1), .val (.long x2), .second, .val (.long y2), .second, .val (.long qx), .second, .val (.long qy), .second, .val (.ref b1), .val (.int got), .val (.int (0 : Int32)), .val (.int (1 : Int32)), .val (.int (-1 : Int32))]) rfl k) ?_
            refine own_step (fun t k => XS.iload X56.here hx rfl (hb hby at_322) rfl k) ?_
            refine own_step (fun t k => XS.iload X56.here hx rfl (hb hby at_324) rfl k) ?_
            show own_Ends p.tables e below s _ _ _ (T56.setTop (mkF m 326 #[.val (.long y0_0), .second, .val (.long y1_0), .second, .val (.long y2_0), .second, .val (.long y3_0), .second, .val (.int x4_0), .val (.int x5_0), .val (.int pk), .val (.int rm_), .val (.int cl), .val (.int p2), .val (.int ce), .val (.int n2), .val (.int n1), .val (.long x2), .second, .val (.long y2), .second, .val (.long qx), .second, .val (.long qy), .second, .val (.ref b1), .val (.int got), .val (.int (0 : Int32)), .val (.int (1 : Int32)), .val (.int (-1 : Int32))] [(.int (-1 : Int32)), (.int got)]))
            by_cases hc326_59 : got = (-1 : Int32)
            · skip
              refine own_step (fun t k => XS.icmpNo X56.here hx rfl (hb hby at_326) rfl (teq hc326_59).2 k) ?_
              refine own_step (fun t k => XS.iconst X56.here hx rfl (hb hby at_329) k) ?_
              refine own_step (fun t k => XS.goto X56.here hx rfl (pc0 := 330) (pc' := 334) rfl (hb hby at_330) (by decide) (by decide) k) ?_
              show own_Ends p.tables e below s _ _ _ (T56.setTop (mkF m 334 #[.val (.long y0_0), .second, .val (.long y1_0), .second, .val (.long y2_0), .second, .val (.long y3_0), .second, .val (.int x4_0), .val (.int x5_0), .val (.int pk), .val (.int rm_), .val (.int cl), .val (.int p2), .val (.int ce), .val (.int n2), .val (.int n1), .val (.long x2), .second, .val (.long y2), .second, .val (.long qx), .second, .val (.long qy), .second, .val (.ref b1), .val (.int got), .val (.int (0 : Int32)), .val (.int (1 : Int32)), .val (.int (-1 : Int32))] [(.int (1 : Int32))]))
              exact own_retN X56 hx (t := .boolean) Bd.returns (by simp) (hb hby at_334) hnl (by rw [e56]; exact ⟨rfl, N57⟩) (by decide) (by decide)
            · skip
              refine own_step (fun t k => XS.icmpYes X56.here hx rfl (pc0 := 326) (pc' := 333) rfl (hb hby at_326) rfl (feq hc326_59).2 (by decide) (by decide) k) ?_
              refine own_step (fun t k => XS.iconst X56.here hx rfl (hb hby at_333) k) ?_
              show own_Ends p.tables e below s _ _ _ (T56.setTop (mkF m 334 #[.val (.long y0_0), .second, .val (.long y1_0), .second, .val (.long y2_0), .second, .val (.long y3_0), .second, .val (.int x4_0), .val (.int x5_0), .val (.int pk), .val (.int rm_), .val (.int cl), .val (.int p2), .val (.int ce), .val (.int n2), .val (.int n1), .val (.long x2), .second, .val (.long y2), .second, .val (.long qx), .second, .val (.long qy), .second, .val (.ref b1), .val (.int got), .val (.int (0 : Int32)), .val (.int (1 : Int32)), .val (.int (-1 : Int32))] [(.int (0 : Int32))]))
              exfalso
              exact hc326_59 (by rw [← hgot, own_specD hN (own_put0 y0_0 y1_0 n1 hk1) x2 y2 n2 hk2 qx qy]; exact if_neg (fun q => ((own_same _ _ _ _).mp hc285_58) q.2))
          · skip
            refine own_step (fun t k => XS.ifNo X56.here hx rfl (hb hby at_285) rfl ((if0 _ _).trans (feq hc285_58).1) k) ?_
            refine own_step (fun t k => XS.iload X56.here hx rfl (hb hby at_288) rfl k) ?_
            refine own_step (fun t k => XS.istore X56.here hx rfl (hb hby at_290) rfl (l' := #[.val (.long y0_0), .second, .val (.long y1_0), .second, .val (.long y2_0), .second, .val (.long y3_0), .second, .val (.int x4_0), .val (.int x5_0), .val (.int pk), .val (.int rm_), .val (.int cl), .val (.int p2), .val (.int ce), .val (.int n2), .val (.int n1), .val (.long x2), .second, .val (.long y2), .second, .val (.long qx), .second, .val (.long qy), .second, .val (.ref b1), .val (.int got), .val (.int (0 : Int32)), .val (.int (1 : Int32)), .val (.int n2)]) rfl k) ?_
            refine own_step (fun t k => XS.goto X56.here hx rfl (pc0 := 292) (pc' := 322) rfl (hb hby at_292) (by decide) (by decide) k) ?_
            refine own_step (fun t k => XS.iload X56.here hx rfl (hb hby at_322) rfl k) ?_
            refine own_step (fun t k => XS.iload X56.here hx rfl (hb hby at_324) rfl k) ?_
            show own_Ends p.tables e below s _ _ _ (T56.setTop (mkF m 326 #[.val (.long y0_0), .second, .val (.long y1_0), .second, .val (.long y2_0), .second, .val (.long y3_0), .second, .val (.int x4_0), .val (.int x5_0), .val (.int pk), .val (.int rm_), .val (.int cl), .val (.int p2), .val (.int ce), .val (.int n2), .val (.int n1), .val (.long x2), .second, .val (.long y2), .second, .val (.long qx), .second, .val (.long qy), .second, .val (.ref b1), .val (.int got), .val (.int (0 : Int32)), .val (.int (1 : Int32)), .val (.int n2)] [(.int n2), (.int got)]))
            by_cases hc326_60 : got = n2
            · skip
              refine own_step (fun t k => XS.icmpNo X56.here hx rfl (hb hby at_326) rfl (teq hc326_60).2 k) ?_
              refine own_step (fun t k => XS.iconst X56.here hx rfl (hb hby at_329) k) ?_
              refine own_step (fun t k => XS.goto X56.here hx rfl (pc0 := 330) (pc' := 334) rfl (hb hby at_330) (by decide) (by decide) k) ?_
              show own_Ends p.tables e below s _ _ _ (T56.setTop (mkF m 334 #[.val (.long y0_0), .second, .val (.long y1_0), .second, .val (.long y2_0), .second, .val (.long y3_0), .second, .val (.int x4_0), .val (.int x5_0), .val (.int pk), .val (.int rm_), .val (.int cl), .val (.int p2), .val (.int ce), .val (.int n2), .val (.int n1), .val (.long x2), .second, .val (.long y2), .second, .val (.long qx), .second, .val (.long qy), .second, .val (.ref b1), .val (.int got), .val (.int (0 : Int32)), .val (.int (1 : Int32)), .val (.int n2)] [(.int (1 : Int32))]))
              exact own_retN X56 hx (t := .boolean) Bd.returns (by simp) (hb hby at_334) hnl (by rw [e56]; exact ⟨rfl, N57⟩) (by decide) (by decide)
            · skip
              refine own_step (fun t k => XS.icmpYes X56.here hx rfl (pc0 := 326) (pc' := 333) rfl (hb hby at_326) rfl (feq hc326_60).2 (by decide) (by decide) k) ?_
              refine own_step (fun t k => XS.iconst X56.here hx rfl (hb hby at_333) k) ?_
              show own_Ends p.tables e below s _ _ _ (T56.setTop (mkF m 334 #[.val (.long y0_0), .second, .val (.long y1_0), .second, .val (.long y2_0), .second, .val (.long y3_0), .second, .val (.int x4_0), .val (.int x5_0), .val (.int pk), .val (.int rm_), .val (.int cl), .val (.int p2), .val (.int ce), .val (.int n2), .val (.int n1), .val (.long x2), .second, .val (.long y2), .second, .val (.long qx), .second, .val (.long qy), .second, .val (.ref b1), .val (.int got), .val (.int (0 : Int32)), .val (.int (1 : Int32)), .val (.int n2)] [(.int (0 : Int32))]))
              exfalso
              exact hc326_60 (by rw [← hgot, own_specD hN (own_put0 y0_0 y1_0 n1 hk1) x2 y2 n2 hk2 qx qy]; exact if_pos ⟨((own_same _ _ _ _).mp hc259_55), (Classical.not_not.mp (fun q => hc285_58 ((own_same _ _ _ _).mpr q)))⟩)
        · skip
          refine own_step (fun t k => XS.ifYes X53.here hx rfl (pc0 := 259) (pc' := 266) rfl (hb hby at_259) rfl ((if0 _ _).trans (feq hc259_55).2) (by decide) (by decide) k) ?_
          refine own_step (fun t k => XS.iconst X53.here hx rfl (hb hby at_266) k) ?_
          refine own_step (fun t k => XS.istore X53.here hx rfl (hb hby at_267) rfl (l' := #[.val (.long y0_0), .second, .val (.long y1_0), .second, .val (.long y2_0), .second, .val (.long y3_0), .second, .val (.int x4_0), .val (.int x5_0), .val (.int pk), .val (.int rm_), .val (.int cl), .val (.int p2), .val (.int ce), .val (.int n2), .val (.int n1), .val (.long x2), .second, .val (.long y2), .second, .val (.long qx), .second, .val (.long qy), .second, .val (.ref b1), .val (.int got), .val (.int (0 : Int32)), .val (.int (0 : Int32)), .unset]) rfl k) ?_
          refine own_step (fun t k => XS.iload X53.here hx rfl (hb hby at_269) rfl k) ?_
          show own_Ends p.tables e below s _ _ _ (T53.setTop (mkF m 271 #[.val (.long y0_0), .second, .val (.long y1_0), .second, .val (.long y2_0), .second, .val (.long y3_0), .second, .val (.int x4_0), .val (.int x5_0), .val (.int pk), .val (.int rm_), .val (.int cl), .val (.int p2), .val (.int ce), .val (.int n2), .val (.int n1), .val (.long x2), .second, .val (.long y2), .second, .val (.long qx), .second, .val (.long qy), .second, .val (.ref b1), .val (.int got), .val (.int (0 : Int32)), .val (.int (0 : Int32)), .unset] [(.int (0 : Int32))]))
          refine own_step (fun t k => XS.ifYes X53.here hx rfl (pc0 := 271) (pc' := 295) rfl (hb hby at_271) rfl ((if0 _ _).trans (teq (by decide : (0 : Int32) = (0 : Int32))).1) (by decide) (by decide) k) ?_
          refine own_step (fun t k => XS.iload X53.here hx rfl (hb hby at_295) rfl k) ?_
          show own_Ends p.tables e below s _ _ _ (T53.setTop (mkF m 297 #[.val (.long y0_0), .second, .val (.long y1_0), .second, .val (.long y2_0), .second, .val (.long y3_0), .second, .val (.int x4_0), .val (.int x5_0), .val (.int pk), .val (.int rm_), .val (.int cl), .val (.int p2), .val (.int ce), .val (.int n2), .val (.int n1), .val (.long x2), .second, .val (.long y2), .second, .val (.long qx), .second, .val (.long qy), .second, .val (.ref b1), .val (.int got), .val (.int (0 : Int32)), .val (.int (0 : Int32)), .unset] [(.int (0 : Int32))]))
          refine own_step (fun t k => XS.ifYes X53.here hx rfl (pc0 := 297) (pc' := 319) rfl (hb hby at_297) rfl ((if0 _ _).trans (teq (by decide : (0 : Int32) = (0 : Int32))).1) (by decide) (by decide) k) ?_
          refine own_step (fun t k => XS.iconst X53.here hx rfl (hb hby at_319) k) ?_
          refine own_step (fun t k => XS.istore X53.here hx rfl (hb hby at_320) rfl (l' := #[.val (.long y0_0), .second, .val (.long y1_0), .second, .val (.long y2_0), .second, .val (.long y3_0), .second, .val (.int x4_0), .val (.int x5_0), .val (.int pk), .val (.int rm_), .val (.int cl), .val (.int p2), .val (.int ce), .val (.int n2), .val (.int n1), .val (.long x2), .second, .val (.long y2), .second, .val (.long qx), .second, .val (.long qy), .second, .val (.ref b1), .val (.int got), .val (.int (0 : Int32)), .val (.int (0 : Int32)), .val (.int (-1 : Int32))]) rfl k) ?_
          refine own_step (fun t k => XS.iload X53.here hx rfl (hb hby at_322) rfl k) ?_
          refine own_step (fun t k => XS.iload X53.here hx rfl (hb hby at_324) rfl k) ?_
          show own_Ends p.tables e below s _ _ _ (T53.setTop (mkF m 326 #[.val (.long y0_0), .second, .val (.long y1_0), .second, .val (.long y2_0), .second, .val (.long y3_0), .second, .val (.int x4_0), .val (.int x5_0), .val (.int pk), .val (.int rm_), .val (.int cl), .val (.int p2), .val (.int ce), .val (.int n2), .val (.int n1), .val (.long x2), .second, .val (.long y2), .second, .val (.long qx), .second, .val (.long qy), .second, .val (.ref b1), .val (.int got), .val (.int (0 : Int32)), .val (.int (0 : Int32)), .val (.int (-1 : Int32))] [(.int (-1 : Int32)), (.int got)]))
          by_cases hc326_61 : got = (-1 : Int32)
          · skip
            refine own_step (fun t k => XS.icmpNo X53.here hx rfl (hb hby at_326) rfl (teq hc326_61).2 k) ?_
            refine own_step (fun t k => XS.iconst X53.here hx rfl (hb hby at_329) k) ?_
            refine own_step (fun t k => XS.goto X53.here hx rfl (pc0 := 330) (pc' := 334) rfl (hb hby at_330) (by decide) (by decide) k) ?_
            show own_Ends p.tables e below s _ _ _ (T53.setTop (mkF m 334 #[.val (.long y0_0), .second, .val (.long y1_0), .second, .val (.long y2_0), .second, .val (.long y3_0), .second, .val (.int x4_0), .val (.int x5_0), .val (.int pk), .val (.int rm_), .val (.int cl), .val (.int p2), .val (.int ce), .val (.int n2), .val (.int n1), .val (.long x2), .second, .val (.long y2), .second, .val (.long qx), .second, .val (.long qy), .second, .val (.ref b1), .val (.int got), .val (.int (0 : Int32)), .val (.int (0 : Int32)), .val (.int (-1 : Int32))] [(.int (1 : Int32))]))
            exact own_retN X53 hx (t := .boolean) Bd.returns (by simp) (hb hby at_334) hnl (by rw [e53]; exact ⟨rfl, N54⟩) (by decide) (by decide)
          · skip
            refine own_step (fun t k => XS.icmpYes X53.here hx rfl (pc0 := 326) (pc' := 333) rfl (hb hby at_326) rfl (feq hc326_61).2 (by decide) (by decide) k) ?_
            refine own_step (fun t k => XS.iconst X53.here hx rfl (hb hby at_333) k) ?_
            show own_Ends p.tables e below s _ _ _ (T53.setTop (mkF m 334 #[.val (.long y0_0), .second, .val (.long y1_0), .second, .val (.long y2_0), .second, .val (.long y3_0), .second, .val (.int x4_0), .val (.int x5_0), .val (.int pk), .val (.int rm_), .val (.int cl), .val (.int p2), .val (.int ce), .val (.int n2), .val (.int n1), .val (.long x2), .second, .val (.long y2), .second, .val (.long qx), .second, .val (.long qy), .second, .val (.ref b1), .val (.int got), .val (.int (0 : Int32)), .val (.int (0 : Int32)), .val (.int (-1 : Int32))] [(.int (0 : Int32))]))
            exfalso
            exact hc326_61 (by rw [← hgot, own_specD hN (own_put0 y0_0 y1_0 n1 hk1) x2 y2 n2 hk2 qx qy]; exact if_neg (fun q => q.1 (Classical.not_not.mp (fun q => hc259_55 ((own_same _ _ _ _).mpr q)))))
  show own_Ends p.tables e below s _ _ _ (s₁.setTop (mkF m 0 #[.val (.long y0_0), .second, .val (.long y1_0), .second, .val (.long y2_0), .second, .val (.long y3_0), .second, .val (.int x4_0), .val (.int x5_0), .unset, .unset, .unset, .unset, .unset, .unset, .unset, .unset, .unset, .unset, .unset, .unset, .unset, .unset, .unset, .unset, .unset, .unset, .unset, .unset] []))
  refine own_step (fun t k => XS.iload X0.here hx rfl (hb hby at_0) rfl k) ?_
  refine own_step (fun t k => XS.iconst X0.here hx rfl (hb hby at_2) k) ?_
  refine own_step (fun t k => XS.iand X0.here hx rfl (hb hby at_3) rfl k) ?_
  refine own_step (fun t k => XS.istore X0.here hx rfl (hb hby at_4) rfl (l' := #[.val (.long y0_0), .second, .val (.long y1_0), .second, .val (.long y2_0), .second, .val (.long y3_0), .second, .val (.int x4_0), .val (.int x5_0), .val (.int (x5_0 &&& (3 : Int32))), .unset, .unset, .unset, .unset, .unset, .unset, .unset, .unset, .unset, .unset, .unset, .unset, .unset, .unset, .unset, .unset, .unset, .unset, .unset]) rfl k) ?_
  refine own_step (fun t k => XS.iload X0.here hx rfl (hb hby at_6) rfl k) ?_
  refine own_step (fun t k => XS.iconst X0.here hx rfl (hb hby at_8) k) ?_
  refine own_step (fun t k => XS.iand X0.here hx rfl (hb hby at_9) rfl k) ?_
  show own_Ends p.tables e below s _ _ _ (s₁.setTop (mkF m 10 #[.val (.long y0_0), .second, .val (.long y1_0), .second, .val (.long y2_0), .second, .val (.long y3_0), .second, .val (.int x4_0), .val (.int x5_0), .val (.int (x5_0 &&& (3 : Int32))), .unset, .unset, .unset, .unset, .unset, .unset, .unset, .unset, .unset, .unset, .unset, .unset, .unset, .unset, .unset, .unset, .unset, .unset, .unset] [(.int (x5_0 &&& (4 : Int32)))]))
  by_cases hc10_62 : (x5_0 &&& (4 : Int32)) = (0 : Int32)
  · skip
    refine own_step (fun t k => XS.ifYes X0.here hx rfl (pc0 := 10) (pc' := 17) rfl (hb hby at_10) rfl ((if0 _ _).trans (teq hc10_62).1) (by decide) (by decide) k) ?_
    refine own_step (fun t k => XS.iconst X0.here hx rfl (hb hby at_17) k) ?_
    refine own_step (fun t k => XS.istore X0.here hx rfl (hb hby at_18) rfl (l' := #[.val (.long y0_0), .second, .val (.long y1_0), .second, .val (.long y2_0), .second, .val (.long y3_0), .second, .val (.int x4_0), .val (.int x5_0), .val (.int (x5_0 &&& (3 : Int32))), .val (.int (0 : Int32)), .unset, .unset, .unset, .unset, .unset, .unset, .unset, .unset, .unset, .unset, .unset, .unset, .unset, .unset, .unset, .unset, .unset, .unset]) rfl k) ?_
    refine own_step (fun t k => XS.iload X0.here hx rfl (hb hby at_20) rfl k) ?_
    refine own_step (fun t k => XS.bipush X0.here hx rfl (hb hby at_22) k) ?_
    refine own_step (fun t k => XS.iand X0.here hx rfl (hb hby at_24) rfl k) ?_
    show own_Ends p.tables e below s _ _ _ (s₁.setTop (mkF m 25 #[.val (.long y0_0), .second, .val (.long y1_0), .second, .val (.long y2_0), .second, .val (.long y3_0), .second, .val (.int x4_0), .val (.int x5_0), .val (.int (x5_0 &&& (3 : Int32))), .val (.int (0 : Int32)), .unset, .unset, .unset, .unset, .unset, .unset, .unset, .unset, .unset, .unset, .unset, .unset, .unset, .unset, .unset, .unset, .unset, .unset] [(.int (x5_0 &&& (8 : Int32)))]))
    by_cases hc25_63 : (x5_0 &&& (8 : Int32)) = (0 : Int32)
    · skip
      refine own_step (fun t k => XS.ifYes X0.here hx rfl (pc0 := 25) (pc' := 32) rfl (hb hby at_25) rfl ((if0 _ _).trans (teq hc25_63).1) (by decide) (by decide) k) ?_
      refine own_step (fun t k => XS.iconst X0.here hx rfl (hb hby at_32) k) ?_
      refine own_step (fun t k => XS.istore X0.here hx rfl (hb hby at_33) rfl (l' := #[.val (.long y0_0), .second, .val (.long y1_0), .second, .val (.long y2_0), .second, .val (.long y3_0), .second, .val (.int x4_0), .val (.int x5_0), .val (.int (x5_0 &&& (3 : Int32))), .val (.int (0 : Int32)), .val (.int (0 : Int32)), .unset, .unset, .unset, .unset, .unset, .unset, .unset, .unset, .unset, .unset, .unset, .unset, .unset, .unset, .unset, .unset, .unset]) rfl k) ?_
      refine own_step (fun t k => XS.iload X0.here hx rfl (hb hby at_35) rfl k) ?_
      refine own_step (fun t k => XS.bipush X0.here hx rfl (hb hby at_37) k) ?_
      refine own_step (fun t k => XS.iand X0.here hx rfl (hb hby at_39) rfl k) ?_
      show own_Ends p.tables e below s _ _ _ (s₁.setTop (mkF m 40 #[.val (.long y0_0), .second, .val (.long y1_0), .second, .val (.long y2_0), .second, .val (.long y3_0), .second, .val (.int x4_0), .val (.int x5_0), .val (.int (x5_0 &&& (3 : Int32))), .val (.int (0 : Int32)), .val (.int (0 : Int32)), .unset, .unset, .unset, .unset, .unset, .unset, .unset, .unset, .unset, .unset, .unset, .unset, .unset, .unset, .unset, .unset, .unset] [(.int (x5_0 &&& (16 : Int32)))]))
      by_cases hc40_64 : (x5_0 &&& (16 : Int32)) = (0 : Int32)
      · skip
        refine own_step (fun t k => XS.ifYes X0.here hx rfl (pc0 := 40) (pc' := 47) rfl (hb hby at_40) rfl ((if0 _ _).trans (teq hc40_64).1) (by decide) (by decide) k) ?_
        refine own_step (fun t k => XS.iconst X0.here hx rfl (hb hby at_47) k) ?_
        refine own_step (fun t k => XS.istore X0.here hx rfl (hb hby at_48) rfl (l' := #[.val (.long y0_0), .second, .val (.long y1_0), .second, .val (.long y2_0), .second, .val (.long y3_0), .second, .val (.int x4_0), .val (.int x5_0), .val (.int (x5_0 &&& (3 : Int32))), .val (.int (0 : Int32)), .val (.int (0 : Int32)), .val (.int (0 : Int32)), .unset, .unset, .unset, .unset, .unset, .unset, .unset, .unset, .unset, .unset, .unset, .unset, .unset, .unset, .unset, .unset]) rfl k) ?_
        refine own_step (fun t k => XS.iload X0.here hx rfl (hb hby at_50) rfl k) ?_
        refine own_step (fun t k => XS.iconst X0.here hx rfl (hb hby at_52) k) ?_
        refine own_step (fun t k => XS.iushr X0.here hx rfl (hb hby at_53) rfl k) ?_
        refine own_step (fun t k => XS.bipush X0.here hx rfl (hb hby at_54) k) ?_
        show own_Ends p.tables e below s _ _ _ (s₁.setTop (mkF m 56 #[.val (.long y0_0), .second, .val (.long y1_0), .second, .val (.long y2_0), .second, .val (.long y3_0), .second, .val (.int x4_0), .val (.int x5_0), .val (.int (x5_0 &&& (3 : Int32))), .val (.int (0 : Int32)), .val (.int (0 : Int32)), .val (.int (0 : Int32)), .unset, .unset, .unset, .unset, .unset, .unset, .unset, .unset, .unset, .unset, .unset, .unset, .unset, .unset, .unset, .unset] [(.int (127 : Int32)), (.int ((x5_0.toUInt32 >>> ((5 : Int32) &&& 31).toUInt32).toInt32))]))
        refine own_step (fun t k => XS.iand X0.here hx rfl (hb hby at_56) rfl k) ?_
        refine own_step (fun t k => XS.istore X0.here hx rfl (hb hby at_57) rfl (l' := #[.val (.long y0_0), .second, .val (.long y1_0), .second, .val (.long y2_0), .second, .val (.long y3_0), .second, .val (.int x4_0), .val (.int x5_0), .val (.int (x5_0 &&& (3 : Int32))), .val (.int (0 : Int32)), .val (.int (0 : Int32)), .val (.int (0 : Int32)), .val (.int (((x5_0.toUInt32 >>> ((5 : Int32) &&& 31).toUInt32).toInt32) &&& (127 : Int32))), .unset, .unset, .unset, .unset, .unset, .unset, .unset, .unset, .unset, .unset, .unset, .unset, .unset, .unset, .unset]) rfl k) ?_
        refine own_step (fun t k => XS.iload X0.here hx rfl (hb hby at_59) rfl k) ?_
        refine own_step (fun t k => XS.bipush X0.here hx rfl (hb hby at_61) k) ?_
        refine own_step (fun t k => XS.iushr X0.here hx rfl (hb hby at_63) rfl k) ?_
        refine own_step (fun t k => XS.istore X0.here hx rfl (hb hby at_64) rfl (l' := #[.val (.long y0_0), .second, .val (.long y1_0), .second, .val (.long y2_0), .second, .val (.long y3_0), .second, .val (.int x4_0), .val (.int x5_0), .val (.int (x5_0 &&& (3 : Int32))), .val (.int (0 : Int32)), .val (.int (0 : Int32)), .val (.int (0 : Int32)), .val (.int (((x5_0.toUInt32 >>> ((5 : Int32) &&& 31).toUInt32).toInt32) &&& (127 : Int32))), .val (.int ((x5_0.toUInt32 >>> ((12 : Int32) &&& 31).toUInt32).toInt32)), .unset, .unset, .unset, .unset, .unset, .unset, .unset, .unset, .unset, .unset, .unset, .unset, .unset, .unset]) rfl k) ?_
        refine own_step (fun t k => XS.iload X0.here hx rfl (hb hby at_66) rfl k) ?_
        show own_Ends p.tables e below s _ _ _ (s₁.setTop (mkF m 68 #[.val (.long y0_0), .second, .val (.long y1_0), .second, .val (.long y2_0), .second, .val (.long y3_0), .second, .val (.int x4_0), .val (.int x5_0), .val (.int (x5_0 &&& (3 : Int32))), .val (.int (0 : Int32)), .val (.int (0 : Int32)), .val (.int (0 : Int32)), .val (.int (((x5_0.toUInt32 >>> ((5 : Int32) &&& 31).toUInt32).toInt32) &&& (127 : Int32))), .val (.int ((x5_0.toUInt32 >>> ((12 : Int32) &&& 31).toUInt32).toInt32)), .unset, .unset, .unset, .unset, .unset, .unset, .unset, .unset, .unset, .unset, .unset, .unset, .unset, .unset] [(.int x4_0)]))
        refine own_step (fun t k => X0.ldcInt hx hown (mvT hZ (hw _ (List.mem_of_getElem? (i := 0) rfl))) (g := (mkF m 68 #[.val (.long y0_0), .second, .val (.long y1_0), .second, .val (.long y2_0), .second, .val (.long y3_0), .second, .val (.int x4_0), .val (.int x5_0), .val (.int (x5_0 &&& (3 : Int32))), .val (.int (0 : Int32)), .val (.int (0 : Int32)), .val (.int (0 : Int32)), .val (.int (((x5_0.toUInt32 >>> ((5 : Int32) &&& 31).toUInt32).toInt32) &&& (127 : Int32))), .val (.int ((x5_0.toUInt32 >>> ((12 : Int32) &&& 31).toUInt32).toInt32)), .unset, .unset, .unset, .unset, .unset, .unset, .unset, .unset, .unset, .unset, .unset, .unset, .unset, .unset] [(.int x4_0)])) rfl (hb hby at_68) _ k) ?_
        refine own_step (fun t k => XS.iand X0.here hx rfl (hb hby at_70) rfl k) ?_
        refine own_step (fun t k => XS.istore X0.here hx rfl (hb hby at_71) rfl (l' := #[.val (.long y0_0), .second, .val (.long y1_0), .second, .val (.long y2_0), .second, .val (.long y3_0), .second, .val (.int x4_0), .val (.int x5_0), .val (.int (x5_0 &&& (3 : Int32))), .val (.int (0 : Int32)), .val (.int (0 : Int32)), .val (.int (0 : Int32)), .val (.int (((x5_0.toUInt32 >>> ((5 : Int32) &&& 31).toUInt32).toInt32) &&& (127 : Int32))), .val (.int ((x5_0.toUInt32 >>> ((12 : Int32) &&& 31).toUInt32).toInt32)), .val (.int (x4_0 &&& (2147483647 : Int32))), .unset, .unset, .unset, .unset, .unset, .unset, .unset, .unset, .unset, .unset, .unset, .unset, .unset]) rfl k) ?_
        refine own_step (fun t k => XS.iload X0.here hx rfl (hb hby at_73) rfl k) ?_
        show own_Ends p.tables e below s _ _ _ (s₁.setTop (mkF m 75 #[.val (.long y0_0), .second, .val (.long y1_0), .second, .val (.long y2_0), .second, .val (.long y3_0), .second, .val (.int x4_0), .val (.int x5_0), .val (.int (x5_0 &&& (3 : Int32))), .val (.int (0 : Int32)), .val (.int (0 : Int32)), .val (.int (0 : Int32)), .val (.int (((x5_0.toUInt32 >>> ((5 : Int32) &&& 31).toUInt32).toInt32) &&& (127 : Int32))), .val (.int ((x5_0.toUInt32 >>> ((12 : Int32) &&& 31).toUInt32).toInt32)), .val (.int (x4_0 &&& (2147483647 : Int32))), .unset, .unset, .unset, .unset, .unset, .unset, .unset, .unset, .unset, .unset, .unset, .unset, .unset] [(.int (0 : Int32))]))
        refine own_step (fun t k => XS.ifYes X0.here hx rfl (pc0 := 75) (pc' := 107) rfl (hb hby at_75) rfl ((if0 _ _).trans (teq (by decide : (0 : Int32) = (0 : Int32))).1) (by decide) (by decide) k) ?_
        refine own_step (fun t k => XS.lload X0.here hx rfl (hb hby at_107) rfl k) ?_
        refine own_step (fun t k => XS.lstore X0.here hx rfl (hb hby at_109) rfl (l' := #[.val (.long y0_0), .second, .val (.long y1_0), .second, .val (.long y2_0), .second, .val (.long y3_0), .second, .val (.int x4_0), .val (.int x5_0), .val (.int (x5_0 &&& (3 : Int32))), .val (.int (0 : Int32)), .val (.int (0 : Int32)), .val (.int (0 : Int32)), .val (.int (((x5_0.toUInt32 >>> ((5 : Int32) &&& 31).toUInt32).toInt32) &&& (127 : Int32))), .val (.int ((x5_0.toUInt32 >>> ((12 : Int32) &&& 31).toUInt32).toInt32)), .val (.int (x4_0 &&& (2147483647 : Int32))), .val (.long y2_0), .second, .unset, .unset, .unset, .unset, .unset, .unset, .unset, .unset, .unset, .unset, .unset]) rfl k) ?_
        refine own_step (fun t k => XS.lload X0.here hx rfl (hb hby at_111) rfl k) ?_
        refine own_step (fun t k => XS.lstore X0.here hx rfl (hb hby at_113) rfl (l' := #[.val (.long y0_0), .second, .val (.long y1_0), .second, .val (.long y2_0), .second, .val (.long y3_0), .second, .val (.int x4_0), .val (.int x5_0), .val (.int (x5_0 &&& (3 : Int32))), .val (.int (0 : Int32)), .val (.int (0 : Int32)), .val (.int (0 : Int32)), .val (.int (((x5_0.toUInt32 >>> ((5 : Int32) &&& 31).toUInt32).toInt32) &&& (127 : Int32))), .val (.int ((x5_0.toUInt32 >>> ((12 : Int32) &&& 31).toUInt32).toInt32)), .val (.int (x4_0 &&& (2147483647 : Int32))), .val (.long y2_0), .second, .val (.long y3_0), .second, .unset, .unset, .unset, .unset, .unset, .unset, .unset, .unset, .unset]) rfl k) ?_
        refine own_step (fun t k => XS.iload X0.here hx rfl (hb hby at_115) rfl k) ?_
        show own_Ends p.tables e below s _ _ _ (s₁.setTop (mkF m 117 #[.val (.long y0_0), .second, .val (.long y1_0), .second, .val (.long y2_0), .second, .val (.long y3_0), .second, .val (.int x4_0), .val (.int x5_0), .val (.int (x5_0 &&& (3 : Int32))), .val (.int (0 : Int32)), .val (.int (0 : Int32)), .val (.int (0 : Int32)), .val (.int (((x5_0.toUInt32 >>> ((5 : Int32) &&& 31).toUInt32).toInt32) &&& (127 : Int32))), .val (.int ((x5_0.toUInt32 >>> ((12 : Int32) &&& 31).toUInt32).toInt32)), .val (.int (x4_0 &&& (2147483647 : Int32))), .val (.long y2_0), .second, .val (.long y3_0), .second, .unset, .unset, .unset, .unset, .unset, .unset, .unset, .unset, .unset] [(.int (x5_0 &&& (3 : Int32)))]))
        by_cases hc117_65 : (x5_0 &&& (3 : Int32)) = (0 : Int32)
        · skip
          refine own_step (fun t k => XS.ifNo X0.here hx rfl (hb hby at_117) rfl ((if0 _ _).trans (teq hc117_65).2) k) ?_
          refine own_step (fun t k => XS.lloadN X0.here hx rfl (hb hby at_120) rfl k) ?_
          refine own_step (fun t k => XS.lstore X0.here hx rfl (hb hby at_121) rfl (l' := #[.val (.long y0_0), .second, .val (.long y1_0), .second, .val (.long y2_0), .second, .val (.long y3_0), .second, .val (.int x4_0), .val (.int x5_0), .val (.int (x5_0 &&& (3 : Int32))), .val (.int (0 : Int32)), .val (.int (0 : Int32)), .val (.int (0 : Int32)), .val (.int (((x5_0.toUInt32 >>> ((5 : Int32) &&& 31).toUInt32).toInt32) &&& (127 : Int32))), .val (.int ((x5_0.toUInt32 >>> ((12 : Int32) &&& 31).toUInt32).toInt32)), .val (.int (x4_0 &&& (2147483647 : Int32))), .val (.long y2_0), .second, .val (.long y3_0), .second, .val (.long y0_0), .second, .unset, .unset, .unset, .unset, .unset, .unset, .unset]) rfl k) ?_
          refine own_step (fun t k => XS.lloadN X0.here hx rfl (hb hby at_123) rfl k) ?_
          refine own_step (fun t k => XS.lstore X0.here hx rfl (hb hby at_124) rfl (l' := #[.val (.long y0_0), .second, .val (.long y1_0), .second, .val (.long y2_0), .second, .val (.long y3_0), .second, .val (.int x4_0), .val (.int x5_0), .val (.int (x5_0 &&& (3 : Int32))), .val (.int (0 : Int32)), .val (.int (0 : Int32)), .val (.int (0 : Int32)), .val (.int (((x5_0.toUInt32 >>> ((5 : Int32) &&& 31).toUInt32).toInt32) &&& (127 : Int32))), .val (.int ((x5_0.toUInt32 >>> ((12 : Int32) &&& 31).toUInt32).toInt32)), .val (.int (x4_0 &&& (2147483647 : Int32))), .val (.long y2_0), .second, .val (.long y3_0), .second, .val (.long y0_0), .second, .val (.long y1_0), .second, .unset, .unset, .unset, .unset, .unset]) rfl k) ?_
          refine own_step (fun t k => XS.goto X0.here hx rfl (pc0 := 126) (pc' := 169) rfl (hb hby at_126) (by decide) (by decide) k) ?_
          show own_Ends p.tables e below s _ _ _ (s₁.setTop (mkF m 169 #[.val (.long y0_0), .second, .val (.long y1_0), .second, .val (.long y2_0), .second, .val (.long y3_0), .second, .val (.int x4_0), .val (.int x5_0), .val (.int (x5_0 &&& (3 : Int32))), .val (.int (0 : Int32)), .val (.int (0 : Int32)), .val (.int (0 : Int32)), .val (.int (((x5_0.toUInt32 >>> ((5 : Int32) &&& 31).toUInt32).toInt32) &&& (127 : Int32))), .val (.int ((x5_0.toUInt32 >>> ((12 : Int32) &&& 31).toUInt32).toInt32)), .val (.int (x4_0 &&& (2147483647 : Int32))), .val (.long y2_0), .second, .val (.long y3_0), .second, .val (.long y0_0), .second, .val (.long y1_0), .second, .unset, .unset, .unset, .unset, .unset] []))
          exact tail169 (x5_0 &&& (3 : Int32)) (0 : Int32) (0 : Int32) (0 : Int32) (((x5_0.toUInt32 >>> ((5 : Int32) &&& 31).toUInt32).toInt32) &&& (127 : Int32)) ((x5_0.toUInt32 >>> ((12 : Int32) &&& 31).toUInt32).toInt32) (x4_0 &&& (2147483647 : Int32)) y2_0 y3_0 y0_0 y1_0 (own_m127 _) (own_m31 _) (own_u12 _)
        · skip
          refine own_step (fun t k => XS.ifYes X0.here hx rfl (pc0 := 117) (pc' := 129) rfl (hb hby at_117) rfl ((if0 _ _).trans (feq hc117_65).2) (by decide) (by decide) k) ?_
          refine own_step (fun t k => XS.iload X0.here hx rfl (hb hby at_129) rfl k) ?_
          refine own_step (fun t k => XS.iconst X0.here hx rfl (hb hby at_131) k) ?_
          show own_Ends p.tables e below s _ _ _ (s₁.setTop (mkF m 132 #[.val (.long y0_0), .second, .val (.long y1_0), .second, .val (.long y2_0), .second, .val (.long y3_0), .second, .val (.int x4_0), .val (.int x5_0), .val (.int (x5_0 &&& (3 : Int32))), .val (.int (0 : Int32)), .val (.int (0 : Int32)), .val (.int (0 : Int32)), .val (.int (((x5_0.toUInt32 >>> ((5 : Int32) &&& 31).toUInt32).toInt32) &&& (127 : Int32))), .val (.int ((x5_0.toUInt32 >>> ((12 : Int32) &&& 31).toUInt32).toInt32)), .val (.int (x4_0 &&& (2147483647 : Int32))), .val (.long y2_0), .second, .val (.long y3_0), .second, .unset, .unset, .unset, .unset, .unset, .unset, .unset, .unset, .unset] [(.int (1 : Int32)), (.int (x5_0 &&& (3 : Int32)))]))
          by_cases hc132_66 : (x5_0 &&& (3 : Int32)) = (1 : Int32)
          · skip
            refine own_step (fun t k => XS.icmpNo X0.here hx rfl (hb hby at_132) rfl (teq hc132_66).2 k) ?_
            refine own_step (fun t k => XS.lload X0.here hx rfl (hb hby at_135) rfl k) ?_
            refine own_step (fun t k => XS.lstore X0.here hx rfl (hb hby at_137) rfl (l' := #[.val (.long y0_0), .second, .val (.long y1_0), .second, .val (.long y2_0), .second, .val (.long y3_0), .second, .val (.int x4_0), .val (.int x5_0), .val (.int (x5_0 &&& (3 : Int32))), .val (.int (0 : Int32)), .val (.int (0 : Int32)), .val (.int (0 : Int32)), .val (.int (((x5_0.toUInt32 >>> ((5 : Int32) &&& 31).toUInt32).toInt32) &&& (127 : Int32))), .val (.int ((x5_0.toUInt32 >>> ((12 : Int32) &&& 31).toUInt32).toInt32)), .val (.int (x4_0 &&& (2147483647 : Int32))), .val (.long y2_0), .second, .val (.long y3_0), .second, .val (.long y2_0), .second, .unset, .unset, .unset, .unset, .unset, .unset, .unset]) rfl k) ?_
            refine own_step (fun t k => XS.lload X0.here hx rfl (hb hby at_139) rfl k) ?_
            refine own_step (fun t k => XS.lstore X0.here hx rfl (hb hby at_141) rfl (l' := #[.val (.long y0_0), .second, .val (.long y1_0), .second, .val (.long y2_0), .second, .val (.long y3_0), .second, .val (.int x4_0), .val (.int x5_0), .val (.int (x5_0 &&& (3 : Int32))), .val (.int (0 : Int32)), .val (.int (0 : Int32)), .val (.int (0 : Int32)), .val (.int (((x5_0.toUInt32 >>> ((5 : Int32) &&& 31).toUInt32).toInt32) &&& (127 : Int32))), .val (.int ((x5_0.toUInt32 >>> ((12 : Int32) &&& 31).toUInt32).toInt32)), .val (.int (x4_0 &&& (2147483647 : Int32))), .val (.long y2_0), .second, .val (.long y3_0), .second, .val (.long y2_0), .second, .val (.long y3_0), .second, .unset, .unset, .unset, .unset, .unset]) rfl k) ?_
            refine own_step (fun t k => XS.goto X0.here hx rfl (pc0 := 143) (pc' := 169) rfl (hb hby at_143) (by decide) (by decide) k) ?_
            show own_Ends p.tables e below s _ _ _ (s₁.setTop (mkF m 169 #[.val (.long y0_0), .second, .val (.long y1_0), .second, .val (.long y2_0), .second, .val (.long y3_0), .second, .val (.int x4_0), .val (.int x5_0), .val (.int (x5_0 &&& (3 : Int32))), .val (.int (0 : Int32)), .val (.int (0 : Int32)), .val (.int (0 : Int32)), .val (.int (((x5_0.toUInt32 >>> ((5 : Int32) &&& 31).toUInt32).toInt32) &&& (127 : Int32))), .val (.int ((x5_0.toUInt32 >>> ((12 : Int32) &&& 31).toUInt32).toInt32)), .val (.int (x4_0 &&& (2147483647 : Int32))), .val (.long y2_0), .second, .val (.long y3_0), .second, .val (.long y2_0), .second, .val (.long y3_0), .second, .unset, .unset, .unset, .unset, .unset] []))
            exact tail169 (x5_0 &&& (3 : Int32)) (0 : Int32) (0 : Int32) (0 : Int32) (((x5_0.toUInt32 >>> ((5 : Int32) &&& 31).toUInt32).toInt32) &&& (127 : Int32)) ((x5_0.toUInt32 >>> ((12 : Int32) &&& 31).toUInt32).toInt32) (x4_0 &&& (2147483647 : Int32)) y2_0 y3_0 y2_0 y3_0 (own_m127 _) (own_m31 _) (own_u12 _)
          · skip
            refine own_step (fun t k => XS.icmpYes X0.here hx rfl (pc0 := 132) (pc' := 146) rfl (hb hby at_132) rfl (feq hc132_66).2 (by decide) (by decide) k) ?_
            refine own_step (fun t k => XS.iload X0.here hx rfl (hb hby at_146) rfl k) ?_
            refine own_step (fun t k => XS.iconst X0.here hx rfl (hb hby at_148) k) ?_
            show own_Ends p.tables e below s _ _ _ (s₁.setTop (mkF m 149 #[.val (.long y0_0), .second, .val (.long y1_0), .second, .val (.long y2_0), .second, .val (.long y3_0), .second, .val (.int x4_0), .val (.int x5_0), .val (.int (x5_0 &&& (3 : Int32))), .val (.int (0 : Int32)), .val (.int (0 : Int32)), .val (.int (0 : Int32)), .val (.int (((x5_0.toUInt32 >>> ((5 : Int32) &&& 31).toUInt32).toInt32) &&& (127 : Int32))), .val (.int ((x5_0.toUInt32 >>> ((12 : Int32) &&& 31).toUInt32).toInt32)), .val (.int (x4_0 &&& (2147483647 : Int32))), .val (.long y2_0), .second, .val (.long y3_0), .second, .unset, .unset, .unset, .unset, .unset, .unset, .unset, .unset, .unset] [(.int (2 : Int32)), (.int (x5_0 &&& (3 : Int32)))]))
            by_cases hc149_67 : (x5_0 &&& (3 : Int32)) = (2 : Int32)
            · skip
              refine own_step (fun t k => XS.icmpNo X0.here hx rfl (hb hby at_149) rfl (teq hc149_67).2 k) ?_
              refine own_step (fun t k => XS.lloadN X0.here hx rfl (hb hby at_152) rfl k) ?_
              refine own_step (fun t k => XS.lstore X0.here hx rfl (hb hby at_153) rfl (l' := #[.val (.long y0_0), .second, .val (.long y1_0), .second, .val (.long y2_0), .second, .val (.long y3_0), .second, .val (.int x4_0), .val (.int x5_0), .val (.int (x5_0 &&& (3 : Int32))), .val (.int (0 : Int32)), .val (.int (0 : Int32)), .val (.int (0 : Int32)), .val (.int (((x5_0.toUInt32 >>> ((5 : Int32) &&& 31).toUInt32).toInt32) &&& (127 : Int32))), .val (.int ((x5_0.toUInt32 >>> ((12 : Int32) &&& 31).toUInt32).toInt32)), .val (.int (x4_0 &&& (2147483647 : Int32))), .val (.long y2_0), .second, .val (.long y3_0), .second, .val (.long y0_0), .second, .unset, .unset, .unset, .unset, .unset, .unset, .unset]) rfl k) ?_
              refine own_step (fun t k => XS.lload X0.here hx rfl (hb hby at_155) rfl k) ?_
              refine own_step (fun t k => XS.lstore X0.here hx rfl (hb hby at_157) rfl (l' := #[.val (.long y0_0), .second, .val (.long y1_0), .second, .val (.long y2_0), .second, .val (.long y3_0), .second, .val (.int x4_0), .val (.int x5_0), .val (.int (x5_0 &&& (3 : Int32))), .val (.int (0 : Int32)), .val (.int (0 : Int32)), .val (.int (0 : Int32)), .val (.int (((x5_0.toUInt32 >>> ((5 : Int32) &&& 31).toUInt32).toInt32) &&& (127 : Int32))), .val (.int ((x5_0.toUInt32 >>> ((12 : Int32) &&& 31).toUInt32).toInt32)), .val (.int (x4_0 &&& (2147483647 : Int32))), .val (.long y2_0), .second, .val (.long y3_0), .second, .val (.long y0_0), .second, .val (.long y3_0), .second, .unset, .unset, .unset, .unset, .unset]) rfl k) ?_
              refine own_step (fun t k => XS.goto X0.here hx rfl (pc0 := 159) (pc' := 169) rfl (hb hby at_159) (by decide) (by decide) k) ?_
              show own_Ends p.tables e below s _ _ _ (s₁.setTop (mkF m 169 #[.val (.long y0_0), .second, .val (.long y1_0), .second, .val (.long y2_0), .second, .val (.long y3_0), .second, .val (.int x4_0), .val (.int x5_0), .val (.int (x5_0 &&& (3 : Int32))), .val (.int (0 : Int32)), .val (.int (0 : Int32)), .val (.int (0 : Int32)), .val (.int (((x5_0.toUInt32 >>> ((5 : Int32) &&& 31).toUInt32).toInt32) &&& (127 : Int32))), .val (.int ((x5_0.toUInt32 >>> ((12 : Int32) &&& 31).toUInt32).toInt32)), .val (.int (x4_0 &&& (2147483647 : Int32))), .val (.long y2_0), .second, .val (.long y3_0), .second, .val (.long y0_0), .second, .val (.long y3_0), .second, .unset, .unset, .unset, .unset, .unset] []))
              exact tail169 (x5_0 &&& (3 : Int32)) (0 : Int32) (0 : Int32) (0 : Int32) (((x5_0.toUInt32 >>> ((5 : Int32) &&& 31).toUInt32).toInt32) &&& (127 : Int32)) ((x5_0.toUInt32 >>> ((12 : Int32) &&& 31).toUInt32).toInt32) (x4_0 &&& (2147483647 : Int32)) y2_0 y3_0 y0_0 y3_0 (own_m127 _) (own_m31 _) (own_u12 _)
            · skip
              refine own_step (fun t k => XS.icmpYes X0.here hx rfl (pc0 := 149) (pc' := 162) rfl (hb hby at_149) rfl (feq hc149_67).2 (by decide) (by decide) k) ?_
              refine own_step (fun t k => XS.lload X0.here hx rfl (hb hby at_162) rfl k) ?_
              refine own_step (fun t k => XS.lstore X0.here hx rfl (hb hby at_164) rfl (l' := #[.val (.long y0_0), .second, .val (.long y1_0), .second, .val (.long y2_0), .second, .val (.long y3_0), .second, .val (.int x4_0), .val (.int x5_0), .val (.int (x5_0 &&& (3 : Int32))), .val (.int (0 : Int32)), .val (.int (0 : Int32)), .val (.int (0 : Int32)), .val (.int (((x5_0.toUInt32 >>> ((5 : Int32) &&& 31).toUInt32).toInt32) &&& (127 : Int32))), .val (.int ((x5_0.toUInt32 >>> ((12 : Int32) &&& 31).toUInt32).toInt32)), .val (.int (x4_0 &&& (2147483647 : Int32))), .val (.long y2_0), .second, .val (.long y3_0), .second, .val (.long y2_0), .second, .unset, .unset, .unset, .unset, .unset, .unset, .unset]) rfl k) ?_
              refine own_step (fun t k => XS.lloadN X0.here hx rfl (hb hby at_166) rfl k) ?_
              refine own_step (fun t k => XS.lstore X0.here hx rfl (hb hby at_167) rfl (l' := #[.val (.long y0_0), .second, .val (.long y1_0), .second, .val (.long y2_0), .second, .val (.long y3_0), .second, .val (.int x4_0), .val (.int x5_0), .val (.int (x5_0 &&& (3 : Int32))), .val (.int (0 : Int32)), .val (.int (0 : Int32)), .val (.int (0 : Int32)), .val (.int (((x5_0.toUInt32 >>> ((5 : Int32) &&& 31).toUInt32).toInt32) &&& (127 : Int32))), .val (.int ((x5_0.toUInt32 >>> ((12 : Int32) &&& 31).toUInt32).toInt32)), .val (.int (x4_0 &&& (2147483647 : Int32))), .val (.long y2_0), .second, .val (.long y3_0), .second, .val (.long y2_0), .second, .val (.long y1_0), .second, .unset, .unset, .unset, .unset, .unset]) rfl k) ?_
              show own_Ends p.tables e below s _ _ _ (s₁.setTop (mkF m 169 #[.val (.long y0_0), .second, .val (.long y1_0), .second, .val (.long y2_0), .second, .val (.long y3_0), .second, .val (.int x4_0), .val (.int x5_0), .val (.int (x5_0 &&& (3 : Int32))), .val (.int (0 : Int32)), .val (.int (0 : Int32)), .val (.int (0 : Int32)), .val (.int (((x5_0.toUInt32 >>> ((5 : Int32) &&& 31).toUInt32).toInt32) &&& (127 : Int32))), .val (.int ((x5_0.toUInt32 >>> ((12 : Int32) &&& 31).toUInt32).toInt32)), .val (.int (x4_0 &&& (2147483647 : Int32))), .val (.long y2_0), .second, .val (.long y3_0), .second, .val (.long y2_0), .second, .val (.long y1_0), .second, .unset, .unset, .unset, .unset, .unset] []))
              exact tail169 (x5_0 &&& (3 : Int32)) (0 : Int32) (0 : Int32) (0 : Int32) (((x5_0.toUInt32 >>> ((5 : Int32) &&& 31).toUInt32).toInt32) &&& (127 : Int32)) ((x5_0.toUInt32 >>> ((12 : Int32) &&& 31).toUInt32).toInt32) (x4_0 &&& (2147483647 : Int32)) y2_0 y3_0 y2_0 y1_0 (own_m127 _) (own_m31 _) (own_u12 _)
      · skip
        refine own_step (fun t k => XS.ifNo X0.here hx rfl (hb hby at_40) rfl ((if0 _ _).trans (feq hc40_64).1) k) ?_
        refine own_step (fun t k => XS.iconst X0.here hx rfl (hb hby at_43) k) ?_
        refine own_step (fun t k => XS.goto X0.here hx rfl (pc0 := 44) (pc' := 48) rfl (hb hby at_44) (by decide) (by decide) k) ?_
        refine own_step (fun t k => XS.istore X0.here hx rfl (hb hby at_48) rfl (l' := #[.val (.long y0_0), .second, .val (.long y1_0), .second, .val (.long y2_0), .second, .val (.long y3_0), .second, .val (.int x4_0), .val (.int x5_0), .val (.int (x5_0 &&& (3 : Int32))), .val (.int (0 : Int32)), .val (.int (0 : Int32)), .val (.int (1 : Int32)), .unset, .unset, .unset, .unset, .unset, .unset, .unset, .unset, .unset, .unset, .unset, .unset, .unset, .unset, .unset, .unset]) rfl k) ?_
        refine own_step (fun t k => XS.iload X0.here hx rfl (hb hby at_50) rfl k) ?_
        refine own_step (fun t k => XS.iconst X0.here hx rfl (hb hby at_52) k) ?_
        refine own_step (fun t k => XS.iushr X0.here hx rfl (hb hby at_53) rfl k) ?_
        show own_Ends p.tables e below s _ _ _ (s₁.setTop (mkF m 54 #[.val (.long y0_0), .second, .val (.long y1_0), .second, .val (.long y2_0), .second, .val (.long y3_0), .second, .val (.int x4_0), .val (.int x5_0), .val (.int (x5_0 &&& (3 : Int32))), .val (.int (0 : Int32)), .val (.int (0 : Int32)), .val (.int (1 : Int32)), .unset, .unset, .unset, .unset, .unset, .unset, .unset, .unset, .unset, .unset, .unset, .unset, .unset, .unset, .unset, .unset] [(.int ((x5_0.toUInt32 >>> ((5 : Int32) &&& 31).toUInt32).toInt32))]))
        refine own_step (fun t k => XS.bipush X0.here hx rfl (hb hby at_54) k) ?_
        refine own_step (fun t k => XS.iand X0.here hx rfl (hb hby at_56) rfl k) ?_
        refine own_step (fun t k => XS.istore X0.here hx rfl (hb hby at_57) rfl (l' := #[.val (.long y0_0), .second, .val (.long y1_0), .second, .val (.long y2_0), .second, .val (.long y3_0), .second, .val (.int x4_0), .val (.int x5_0), .val (.int (x5_0 &&& (3 : Int32))), .val (.int (0 : Int32)), .val (.int (0 : Int32)), .val (.int (1 : Int32)), .val (.int (((x5_0.toUInt32 >>> ((5 : Int32) &&& 31).toUInt32).toInt32) &&& (127 : Int32))), .unset, .unset, .unset, .unset, .unset, .unset, .unset, .unset, .unset, .unset, .unset, .unset, .unset, .unset, .unset]) rfl k) ?_
        refine own_step (fun t k => XS.iload X0.here hx rfl (hb hby at_59) rfl k) ?_
        refine own_step (fun t k => XS.bipush X0.here hx rfl (hb hby at_61) k) ?_
        refine own_step (fun t k => XS.iushr X0.here hx rfl (hb hby at_63) rfl k) ?_
        refine own_step (fun t k => XS.istore X0.here hx rfl (hb hby at_64) rfl (l' := #[.val (.long y0_0), .second, .val (.long y1_0), .second, .val (.long y2_0), .second, .val (.long y3_0), .second, .val (.int x4_0), .val (.int x5_0), .val (.int (x5_0 &&& (3 : Int32))), .val (.int (0 : Int32)), .val (.int (0 : Int32)), .val (.int (1 : Int32)), .val (.int (((x5_0.toUInt32 >>> ((5 : Int32) &&& 31).toUInt32).toInt32) &&& (127 : Int32))), .val (.int ((x5_0.toUInt32 >>> ((12 : Int32) &&& 31).toUInt32).toInt32)), .unset, .unset, .unset, .unset, .unset, .unset, .unset, .unset, .unset, .unset, .unset, .unset, .unset, .unset]) rfl k) ?_
        show own_Ends p.tables e below s _ _ _ (s₁.setTop (mkF m 66 #[.val (.long y0_0), .second, .val (.long y1_0), .second, .val (.long y2_0), .second, .val (.long y3_0), .second, .val (.int x4_0), .val (.int x5_0), .val (.int (x5_0 &&& (3 : Int32))), .val (.int (0 : Int32)), .val (.int (0 : Int32)), .val (.int (1 : Int32)), .val (.int (((x5_0.toUInt32 >>> ((5 : Int32) &&& 31).toUInt32).toInt32) &&& (127 : Int32))), .val (.int ((x5_0.toUInt32 >>> ((12 : Int32) &&& 31).toUInt32).toInt32)), .unset, .unset, .unset, .unset, .unset, .unset, .unset, .unset, .unset, .unset, .unset, .unset, .unset, .unset] []))
        refine own_step (fun t k => XS.iload X0.here hx rfl (hb hby at_66) rfl k) ?_
        show own_Ends p.tables e below s _ _ _ (s₁.setTop (mkF m 68 #[.val (.long y0_0), .second, .val (.long y1_0), .second, .val (.long y2_0), .second, .val (.long y3_0), .second, .val (.int x4_0), .val (.int x5_0), .val (.int (x5_0 &&& (3 : Int32))), .val (.int (0 : Int32)), .val (.int (0 : Int32)), .val (.int (1 : Int32)), .val (.int (((x5_0.toUInt32 >>> ((5 : Int32) &&& 31).toUInt32).toInt32) &&& (127 : Int32))), .val (.int ((x5_0.toUInt32 >>> ((12 : Int32) &&& 31).toUInt32).toInt32)), .unset, .unset, .unset, .unset, .unset, .unset, .unset, .unset, .unset, .unset, .unset, .unset, .unset, .unset] [(.int x4_0)]))
        refine own_step (fun t k => X0.ldcInt hx hown (mvT hZ (hw _ (List.mem_of_getElem? (i := 0) rfl))) (g := (mkF m 68 #[.val (.long y0_0), .second, .val (.long y1_0), .second, .val (.long y2_0), .second, .val (.long y3_0), .second, .val (.int x4_0), .val (.int x5_0), .val (.int (x5_0 &&& (3 : Int32))), .val (.int (0 : Int32)), .val (.int (0 : Int32)), .val (.int (1 : Int32)), .val (.int (((x5_0.toUInt32 >>> ((5 : Int32) &&& 31).toUInt32).toInt32) &&& (127 : Int32))), .val (.int ((x5_0.toUInt32 >>> ((12 : Int32) &&& 31).toUInt32).toInt32)), .unset, .unset, .unset, .unset, .unset, .unset, .unset, .unset, .unset, .unset, .unset, .unset, .unset, .unset] [(.int x4_0)])) rfl (hb hby at_68) _ k) ?_
        refine own_step (fun t k => XS.iand X0.here hx rfl (hb hby at_70) rfl k) ?_
        refine own_step (fun t k => XS.istore X0.here hx rfl (hb hby at_71) rfl (l' := #[.val (.long y0_0), .second, .val (.long y1_0), .second, .val (.long y2_0), .second, .val (.long y3_0), .second, .val (.int x4_0), .val (.int x5_0), .val (.int (x5_0 &&& (3 : Int32))), .val (.int (0 : Int32)), .val (.int (0 : Int32)), .val (.int (1 : Int32)), .val (.int (((x5_0.toUInt32 >>> ((5 : Int32) &&& 31).toUInt32).toInt32) &&& (127 : Int32))), .val (.int ((x5_0.toUInt32 >>> ((12 : Int32) &&& 31).toUInt32).toInt32)), .val (.int (x4_0 &&& (2147483647 : Int32))), .unset, .unset, .unset, .unset, .unset, .unset, .unset, .unset, .unset, .unset, .unset, .unset, .unset]) rfl k) ?_
        refine own_step (fun t k => XS.iload X0.here hx rfl (hb hby at_73) rfl k) ?_
        show own_Ends p.tables e below s _ _ _ (s₁.setTop (mkF m 75 #[.val (.long y0_0), .second, .val (.long y1_0), .second, .val (.long y2_0), .second, .val (.long y3_0), .second, .val (.int x4_0), .val (.int x5_0), .val (.int (x5_0 &&& (3 : Int32))), .val (.int (0 : Int32)), .val (.int (0 : Int32)), .val (.int (1 : Int32)), .val (.int (((x5_0.toUInt32 >>> ((5 : Int32) &&& 31).toUInt32).toInt32) &&& (127 : Int32))), .val (.int ((x5_0.toUInt32 >>> ((12 : Int32) &&& 31).toUInt32).toInt32)), .val (.int (x4_0 &&& (2147483647 : Int32))), .unset, .unset, .unset, .unset, .unset, .unset, .unset, .unset, .unset, .unset, .unset, .unset, .unset] [(.int (0 : Int32))]))
        refine own_step (fun t k => XS.ifYes X0.here hx rfl (pc0 := 75) (pc' := 107) rfl (hb hby at_75) rfl ((if0 _ _).trans (teq (by decide : (0 : Int32) = (0 : Int32))).1) (by decide) (by decide) k) ?_
        refine own_step (fun t k => XS.lload X0.here hx rfl (hb hby at_107) rfl k) ?_
        refine own_step (fun t k => XS.lstore X0.here hx rfl (hb hby at_109) rfl (l' := #[.val (.long y0_0), .second, .val (.long y1_0), .second, .val (.long y2_0), .second, .val (.long y3_0), .second, .val (.int x4_0), .val (.int x5_0), .val (.int (x5_0 &&& (3 : Int32))), .val (.int (0 : Int32)), .val (.int (0 : Int32)), .val (.int (1 : Int32)), .val (.int (((x5_0.toUInt32 >>> ((5 : Int32) &&& 31).toUInt32).toInt32) &&& (127 : Int32))), .val (.int ((x5_0.toUInt32 >>> ((12 : Int32) &&& 31).toUInt32).toInt32)), .val (.int (x4_0 &&& (2147483647 : Int32))), .val (.long y2_0), .second, .unset, .unset, .unset, .unset, .unset, .unset, .unset, .unset, .unset, .unset, .unset]) rfl k) ?_
        refine own_step (fun t k => XS.lload X0.here hx rfl (hb hby at_111) rfl k) ?_
        refine own_step (fun t k => XS.lstore X0.here hx rfl (hb hby at_113) rfl (l' := #[.val (.long y0_0), .second, .val (.long y1_0), .second, .val (.long y2_0), .second, .val (.long y3_0), .second, .val (.int x4_0), .val (.int x5_0), .val (.int (x5_0 &&& (3 : Int32))), .val (.int (0 : Int32)), .val (.int (0 : Int32)), .val (.int (1 : Int32)), .val (.int (((x5_0.toUInt32 >>> ((5 : Int32) &&& 31).toUInt32).toInt32) &&& (127 : Int32))), .val (.int ((x5_0.toUInt32 >>> ((12 : Int32) &&& 31).toUInt32).toInt32)), .val (.int (x4_0 &&& (2147483647 : Int32))), .val (.long y2_0), .second, .val (.long y3_0), .second, .unset, .unset, .unset, .unset, .unset, .unset, .unset, .unset, .unset]) rfl k) ?_
        refine own_step (fun t k => XS.iload X0.here hx rfl (hb hby at_115) rfl k) ?_
        show own_Ends p.tables e below s _ _ _ (s₁.setTop (mkF m 117 #[.val (.long y0_0), .second, .val (.long y1_0), .second, .val (.long y2_0), .second, .val (.long y3_0), .second, .val (.int x4_0), .val (.int x5_0), .val (.int (x5_0 &&& (3 : Int32))), .val (.int (0 : Int32)), .val (.int (0 : Int32)), .val (.int (1 : Int32)), .val (.int (((x5_0.toUInt32 >>> ((5 : Int32) &&& 31).toUInt32).toInt32) &&& (127 : Int32))), .val (.int ((x5_0.toUInt32 >>> ((12 : Int32) &&& 31).toUInt32).toInt32)), .val (.int (x4_0 &&& (2147483647 : Int32))), .val (.long y2_0), .second, .val (.long y3_0), .second, .unset, .unset, .unset, .unset, .unset, .unset, .unset, .unset, .unset] [(.int (x5_0 &&& (3 : Int32)))]))
        by_cases hc117_68 : (x5_0 &&& (3 : Int32)) = (0 : Int32)
        · skip
          refine own_step (fun t k => XS.ifNo X0.here hx rfl (hb hby at_117) rfl ((if0 _ _).trans (teq hc117_68).2) k) ?_
          refine own_step (fun t k => XS.lloadN X0.here hx rfl (hb hby at_120) rfl k) ?_
          refine own_step (fun t k => XS.lstore X0.here hx rfl (hb hby at_121) rfl (l' := #[.val (.long y0_0), .second, .val (.long y1_0), .second, .val (.long y2_0), .second, .val (.long y3_0), .second, .val (.int x4_0), .val (.int x5_0), .val (.int (x5_0 &&& (3 : Int32))), .val (.int (0 : Int32)), .val (.int (0 : Int32)), .val (.int (1 : Int32)), .val (.int (((x5_0.toUInt32 >>> ((5 : Int32) &&& 31).toUInt32).toInt32) &&& (127 : Int32))), .val (.int ((x5_0.toUInt32 >>> ((12 : Int32) &&& 31).toUInt32).toInt32)), .val (.int (x4_0 &&& (2147483647 : Int32))), .val (.long y2_0), .second, .val (.long y3_0), .second, .val (.long y0_0), .second, .unset, .unset, .unset, .unset, .unset, .unset, .unset]) rfl k) ?_
          refine own_step (fun t k => XS.lloadN X0.here hx rfl (hb hby at_123) rfl k) ?_
          refine own_step (fun t k => XS.lstore X0.here hx rfl (hb hby at_124) rfl (l' := #[.val (.long y0_0), .second, .val (.long y1_0), .second, .val (.long y2_0), .second, .val (.long y3_0), .second, .val (.int x4_0), .val (.int x5_0), .val (.int (x5_0 &&& (3 : Int32))), .val (.int (0 : Int32)), .val (.int (0 : Int32)), .val (.int (1 : Int32)), .val (.int (((x5_0.toUInt32 >>> ((5 : Int32) &&& 31).toUInt32).toInt32) &&& (127 : Int32))), .val (.int ((x5_0.toUInt32 >>> ((12 : Int32) &&& 31).toUInt32).toInt32)), .val (.int (x4_0 &&& (2147483647 : Int32))), .val (.long y2_0), .second, .val (.long y3_0), .second, .val (.long y0_0), .second, .val (.long y1_0), .second, .unset, .unset, .unset, .unset, .unset]) rfl k) ?_
          refine own_step (fun t k => XS.goto X0.here hx rfl (pc0 := 126) (pc' := 169) rfl (hb hby at_126) (by decide) (by decide) k) ?_
          show own_Ends p.tables e below s _ _ _ (s₁.setTop (mkF m 169 #[.val (.long y0_0), .second, .val (.long y1_0), .second, .val (.long y2_0), .second, .val (.long y3_0), .second, .val (.int x4_0), .val (.int x5_0), .val (.int (x5_0 &&& (3 : Int32))), .val (.int (0 : Int32)), .val (.int (0 : Int32)), .val (.int (1 : Int32)), .val (.int (((x5_0.toUInt32 >>> ((5 : Int32) &&& 31).toUInt32).toInt32) &&& (127 : Int32))), .val (.int ((x5_0.toUInt32 >>> ((12 : Int32) &&& 31).toUInt32).toInt32)), .val (.int (x4_0 &&& (2147483647 : Int32))), .val (.long y2_0), .second, .val (.long y3_0), .second, .val (.long y0_0), .second, .val (.long y1_0), .second, .unset, .unset, .unset, .unset, .unset] []))
          exact tail169 (x5_0 &&& (3 : Int32)) (0 : Int32) (0 : Int32) (1 : Int32) (((x5_0.toUInt32 >>> ((5 : Int32) &&& 31).toUInt32).toInt32) &&& (127 : Int32)) ((x5_0.toUInt32 >>> ((12 : Int32) &&& 31).toUInt32).toInt32) (x4_0 &&& (2147483647 : Int32)) y2_0 y3_0 y0_0 y1_0 (own_m127 _) (own_m31 _) (own_u12 _)
        · skip
          refine own_step (fun t k => XS.ifYes X0.here hx rfl (pc0 := 117) (pc' := 129) rfl (hb hby at_117) rfl ((if0 _ _).trans (feq hc117_68).2) (by decide) (by decide) k) ?_
          refine own_step (fun t k => XS.iload X0.here hx rfl (hb hby at_129) rfl k) ?_
          refine own_step (fun t k => XS.iconst X0.here hx rfl (hb hby at_131) k) ?_
          show own_Ends p.tables e below s _ _ _ (s₁.setTop (mkF m 132 #[.val (.long y0_0), .second, .val (.long y1_0), .second, .val (.long y2_0), .second, .val (.long y3_0), .second, .val (.int x4_0), .val (.int x5_0), .val (.int (x5_0 &&& (3 : Int32))), .val (.int (0 : Int32)), .val (.int (0 : Int32)), .val (.int (1 : Int32)), .val (.int (((x5_0.toUInt32 >>> ((5 : Int32) &&& 31).toUInt32).toInt32) &&& (127 : Int32))), .val (.int ((x5_0.toUInt32 >>> ((12 : Int32) &&& 31).toUInt32).toInt32)), .val (.int (x4_0 &&& (2147483647 : Int32))), .val (.long y2_0), .second, .val (.long y3_0), .second, .unset, .unset, .unset, .unset, .unset, .unset, .unset, .unset, .unset] [(.int (1 : Int32)), (.int (x5_0 &&& (3 : Int32)))]))
          by_cases hc132_69 : (x5_0 &&& (3 : Int32)) = (1 : Int32)
          · skip
            refine own_step (fun t k => XS.icmpNo X0.here hx rfl (hb hby at_132) rfl (teq hc132_69).2 k) ?_
            refine own_step (fun t k => XS.lload X0.here hx rfl (hb hby at_135) rfl k) ?_
            refine own_step (fun t k => XS.lstore X0.here hx rfl (hb hby at_137) rfl (l' := #[.val (.long y0_0), .second, .val (.long y1_0), .second, .val (.long y2_0), .second, .val (.long y3_0), .second, .val (.int x4_0), .val (.int x5_0), .val (.int (x5_0 &&& (3 : Int32))), .val (.int (0 : Int32)), .val (.int (0 : Int32)), .val (.int (1 : Int32)), .val (.int (((x5_0.toUInt32 >>> ((5 : Int32) &&& 31).toUInt32).toInt32) &&& (127 : Int32))), .val (.int ((x5_0.toUInt32 >>> ((12 : Int32) &&& 31).toUInt32).toInt32)), .val (.int (x4_0 &&& (2147483647 : Int32))), .val (.long y2_0), .second, .val (.long y3_0), .second, .val (.long y2_0), .second, .unset, .unset, .unset, .unset, .unset, .unset, .unset]) rfl k) ?_
            refine own_step (fun t k => XS.lload X0.here hx rfl (hb hby at_139) rfl k) ?_
            refine own_step (fun t k => XS.lstore X0.here hx rfl (hb hby at_141) rfl (l' := #[.val (.long y0_0), .second, .val (.long y1_0), .second, .val (.long y2_0), .second, .val (.long y3_0), .second, .val (.int x4_0), .val (.int x5_0), .val (.int (x5_0 &&& (3 : Int32))), .val (.int (0 : Int32)), .val (.int (0 : Int32)), .val (.int (1 : Int32)), .val (.int (((x5_0.toUInt32 >>> ((5 : Int32) &&& 31).toUInt32).toInt32) &&& (127 : Int32))), .val (.int ((x5_0.toUInt32 >>> ((12 : Int32) &&& 31).toUInt32).toInt32)), .val (.int (x4_0 &&& (2147483647 : Int32))), .val (.long y2_0), .second, .val (.long y3_0), .second, .val (.long y2_0), .second, .val (.long y3_0), .second, .unset, .unset, .unset, .unset, .unset]) rfl k) ?_
            refine own_step (fun t k => XS.goto X0.here hx rfl (pc0 := 143) (pc' := 169) rfl (hb hby at_143) (by decide) (by decide) k) ?_
            show own_Ends p.tables e below s _ _ _ (s₁.setTop (mkF m 169 #[.val (.long y0_0), .second, .val (.long y1_0), .second, .val (.long y2_0), .second, .val (.long y3_0), .second, .val (.int x4_0), .val (.int x5_0), .val (.int (x5_0 &&& (3 : Int32))), .val (.int (0 : Int32)), .val (.int (0 : Int32)), .val (.int (1 : Int32)), .val (.int (((x5_0.toUInt32 >>> ((5 : Int32) &&& 31).toUInt32).toInt32) &&& (127 : Int32))), .val (.int ((x5_0.toUInt32 >>> ((12 : Int32) &&& 31).toUInt32).toInt32)), .val (.int (x4_0 &&& (2147483647 : Int32))), .val (.long y2_0), .second, .val (.long y3_0), .second, .val (.long y2_0), .second, .val (.long y3_0), .second, .unset, .unset, .unset, .unset, .unset] []))
            exact tail169 (x5_0 &&& (3 : Int32)) (0 : Int32) (0 : Int32) (1 : Int32) (((x5_0.toUInt32 >>> ((5 : Int32) &&& 31).toUInt32).toInt32) &&& (127 : Int32)) ((x5_0.toUInt32 >>> ((12 : Int32) &&& 31).toUInt32).toInt32) (x4_0 &&& (2147483647 : Int32)) y2_0 y3_0 y2_0 y3_0 (own_m127 _) (own_m31 _) (own_u12 _)
          · skip
            refine own_step (fun t k => XS.icmpYes X0.here hx rfl (pc0 := 132) (pc' := 146) rfl (hb hby at_132) rfl (feq hc132_69).2 (by decide) (by decide) k) ?_
            refine own_step (fun t k => XS.iload X0.here hx rfl (hb hby at_146) rfl k) ?_
            refine own_step (fun t k => XS.iconst X0.here hx rfl (hb hby at_148) k) ?_
            show own_Ends p.tables e below s _ _ _ (s₁.setTop (mkF m 149 #[.val (.long y0_0), .second, .val (.long y1_0), .second, .val (.long y2_0), .second, .val (.long y3_0), .second, .val (.int x4_0), .val (.int x5_0), .val (.int (x5_0 &&& (3 : Int32))), .val (.int (0 : Int32)), .val (.int (0 : Int32)), .val (.int (1 : Int32)), .val (.int (((x5_0.toUInt32 >>> ((5 : Int32) &&& 31).toUInt32).toInt32) &&& (127 : Int32))), .val (.int ((x5_0.toUInt32 >>> ((12 : Int32) &&& 31).toUInt32).toInt32)), .val (.int (x4_0 &&& (2147483647 : Int32))), .val (.long y2_0), .second, .val (.long y3_0), .second, .unset, .unset, .unset, .unset, .unset, .unset, .unset, .unset, .unset] [(.int (2 : Int32)), (.int (x5_0 &&& (3 : Int32)))]))
            by_cases hc149_70 : (x5_0 &&& (3 : Int32)) = (2 : Int32)
            · skip
              refine own_step (fun t k => XS.icmpNo X0.here hx rfl (hb hby at_149) rfl (teq hc149_70).2 k) ?_
              refine own_step (fun t k => XS.lloadN X0.here hx rfl (hb hby at_152) rfl k) ?_
              refine own_step (fun t k => XS.lstore X0.here hx rfl (hb hby at_153) rfl (l' := #[.val (.long y0_0), .second, .val (.long y1_0), .second, .val (.long y2_0), .second, .val (.long y3_0), .second, .val (.int x4_0), .val (.int x5_0), .val (.int (x5_0 &&& (3 : Int32))), .val (.int (0 : Int32)), .val (.int (0 : Int32)), .val (.int (1 : Int32)), .val (.int (((x5_0.toUInt32 >>> ((5 : Int32) &&& 31).toUInt32).toInt32) &&& (127 : Int32))), .val (.int ((x5_0.toUInt32 >>> ((12 : Int32) &&& 31).toUInt32).toInt32)), .val (.int (x4_0 &&& (2147483647 : Int32))), .val (.long y2_0), .second, .val (.long y3_0), .second, .val (.long y0_0), .second, .unset, .unset, .unset, .unset, .unset, .unset, .unset]) rfl k) ?_
              refine own_step (fun t k => XS.lload X0.here hx rfl (hb hby at_155) rfl k) ?_
              refine own_step (fun t k => XS.lstore X0.here hx rfl (hb hby at_157) rfl (l' := #[.val (.long y0_0), .second, .val (.long y1_0), .second, .val (.long y2_0), .second, .val (.long y3_0), .second, .val (.int x4_0), .val (.int x5_0), .val (.int (x5_0 &&& (3 : Int32))), .val (.int (0 : Int32)), .val (.int (0 : Int32)), .val (.int (1 : Int32)), .val (.int (((x5_0.toUInt32 >>> ((5 : Int32) &&& 31).toUInt32).toInt32) &&& (127 : Int32))), .val (.int ((x5_0.toUInt32 >>> ((12 : Int32) &&& 31).toUInt32).toInt32)), .val (.int (x4_0 &&& (2147483647 : Int32))), .val (.long y2_0), .second, .val (.long y3_0), .second, .val (.long y0_0), .second, .val (.long y3_0), .second, .unset, .unset, .unset, .unset, .unset]) rfl k) ?_
              refine own_step (fun t k => XS.goto X0.here hx rfl (pc0 := 159) (pc' := 169) rfl (hb hby at_159) (by decide) (by decide) k) ?_
              show own_Ends p.tables e below s _ _ _ (s₁.setTop (mkF m 169 #[.val (.long y0_0), .second, .val (.long y1_0), .second, .val (.long y2_0), .second, .val (.long y3_0), .second, .val (.int x4_0), .val (.int x5_0), .val (.int (x5_0 &&& (3 : Int32))), .val (.int (0 : Int32)), .val (.int (0 : Int32)), .val (.int (1 : Int32)), .val (.int (((x5_0.toUInt32 >>> ((5 : Int32) &&& 31).toUInt32).toInt32) &&& (127 : Int32))), .val (.int ((x5_0.toUInt32 >>> ((12 : Int32) &&& 31).toUInt32).toInt32)), .val (.int (x4_0 &&& (2147483647 : Int32))), .val (.long y2_0), .second, .val (.long y3_0), .second, .val (.long y0_0), .second, .val (.long y3_0), .second, .unset, .unset, .unset, .unset, .unset] []))
              exact tail169 (x5_0 &&& (3 : Int32)) (0 : Int32) (0 : Int32) (1 : Int32) (((x5_0.toUInt32 >>> ((5 : Int32) &&& 31).toUInt32).toInt32) &&& (127 : Int32)) ((x5_0.toUInt32 >>> ((12 : Int32) &&& 31).toUInt32).toInt32) (x4_0 &&& (2147483647 : Int32)) y2_0 y3_0 y0_0 y3_0 (own_m127 _) (own_m31 _) (own_u12 _)
            · skip
              refine own_step (fun t k => XS.icmpYes X0.here hx rfl (pc0 := 149) (pc' := 162) rfl (hb hby at_149) rfl (feq hc149_70).2 (by decide) (by decide) k) ?_
              refine own_step (fun t k => XS.lload X0.here hx rfl (hb hby at_162) rfl k) ?_
              refine own_step (fun t k => XS.lstore X0.here hx rfl (hb hby at_164) rfl (l' := #[.val (.long y0_0), .second, .val (.long y1_0), .second, .val (.long y2_0), .second, .val (.long y3_0), .second, .val (.int x4_0), .val (.int x5_0), .val (.int (x5_0 &&& (3 : Int32))), .val (.int (0 : Int32)), .val (.int (0 : Int32)), .val (.int (1 : Int32)), .val (.int (((x5_0.toUInt32 >>> ((5 : Int32) &&& 31).toUInt32).toInt32) &&& (127 : Int32))), .val (.int ((x5_0.toUInt32 >>> ((12 : Int32) &&& 31).toUInt32).toInt32)), .val (.int (x4_0 &&& (2147483647 : Int32))), .val (.long y2_0), .second, .val (.long y3_0), .second, .val (.long y2_0), .second, .unset, .unset, .unset, .unset, .unset, .unset, .unset]) rfl k) ?_
              refine own_step (fun t k => XS.lloadN X0.here hx rfl (hb hby at_166) rfl k) ?_
              refine own_step (fun t k => XS.lstore X0.here hx rfl (hb hby at_167) rfl (l' := #[.val (.long y0_0), .second, .val (.long y1_0), .second, .val (.long y2_0), .second, .val (.long y3_0), .second, .val (.int x4_0), .val (.int x5_0), .val (.int (x5_0 &&& (3 : Int32))), .val (.int (0 : Int32)), .val (.int (0 : Int32)), .val (.int (1 : Int32)), .val (.int (((x5_0.toUInt32 >>> ((5 : Int32) &&& 31).toUInt32).toInt32) &&& (127 : Int32))), .val (.int ((x5_0.toUInt32 >>> ((12 : Int32) &&& 31).toUInt32).toInt32)), .val (.int (x4_0 &&& (2147483647 : Int32))), .val (.long y2_0), .second, .val (.long y3_0), .second, .val (.long y2_0), .second, .val (.long y1_0), .second, .unset, .unset, .unset, .unset, .unset]) rfl k) ?_
              show own_Ends p.tables e below s _ _ _ (s₁.setTop (mkF m 169 #[.val (.long y0_0), .second, .val (.long y1_0), .second, .val (.long y2_0), .second, .val (.long y3_0), .second, .val (.int x4_0), .val (.int x5_0), .val (.int (x5_0 &&& (3 : Int32))), .val (.int (0 : Int32)), .val (.int (0 : Int32)), .val (.int (1 : Int32)), .val (.int (((x5_0.toUInt32 >>> ((5 : Int32) &&& 31).toUInt32).toInt32) &&& (127 : Int32))), .val (.int ((x5_0.toUInt32 >>> ((12 : Int32) &&& 31).toUInt32).toInt32)), .val (.int (x4_0 &&& (2147483647 : Int32))), .val (.long y2_0), .second, .val (.long y3_0), .second, .val (.long y2_0), .second, .val (.long y1_0), .second, .unset, .unset, .unset, .unset, .unset] []))
              exact tail169 (x5_0 &&& (3 : Int32)) (0 : Int32) (0 : Int32) (1 : Int32) (((x5_0.toUInt32 >>> ((5 : Int32) &&& 31).toUInt32).toInt32) &&& (127 : Int32)) ((x5_0.toUInt32 >>> ((12 : Int32) &&& 31).toUInt32).toInt32) (x4_0 &&& (2147483647 : Int32)) y2_0 y3_0 y2_0 y1_0 (own_m127 _) (own_m31 _) (own_u12 _)
    · skip
      refine own_step (fun t k => XS.ifNo X0.here hx rfl (hb hby at_25) rfl ((if0 _ _).trans (feq hc25_63).1) k) ?_
      refine own_step (fun t k => XS.iconst X0.here hx rfl (hb hby at_28) k) ?_
      refine own_step (fun t k => XS.goto X0.here hx rfl (pc0 := 29) (pc' := 33) rfl (hb hby at_29) (by decide) (by decide) k) ?_
      refine own_step (fun t k => XS.istore X0.here hx rfl (hb hby at_33) rfl (l' := #[.val (.long y0_0), .second, .val (.long y1_0), .second, .val (.long y2_0), .second, .val (.long y3_0), .second, .val (.int x4_0), .val (.int x5_0), .val (.int (x5_0 &&& (3 : Int32))), .val (.int (0 : Int32)), .val (.int (1 : Int32)), .unset, .unset, .unset, .unset, .unset, .unset, .unset, .unset, .unset, .unset, .unset, .unset, .unset, .unset, .unset, .unset, .unset]) rfl k) ?_
      refine own_step (fun t k => XS.iload X0.here hx rfl (hb hby at_35) rfl k) ?_
      refine own_step (fun t k => XS.bipush X0.here hx rfl (hb hby at_37) k) ?_
      refine own_step (fun t k => XS.iand X0.here hx rfl (hb hby at_39) rfl k) ?_
      show own_Ends p.tables e below s _ _ _ (s₁.setTop (mkF m 40 #[.val (.long y0_0), .second, .val (.long y1_0), .second, .val (.long y2_0), .second, .val (.long y3_0), .second, .val (.int x4_0), .val (.int x5_0), .val (.int (x5_0 &&& (3 : Int32))), .val (.int (0 : Int32)), .val (.int (1 : Int32)), .unset, .unset, .unset, .unset, .unset, .unset, .unset, .unset, .unset, .unset, .unset, .unset, .unset, .unset, .unset, .unset, .unset] [(.int (x5_0 &&& (16 : Int32)))]))
      by_cases hc40_71 : (x5_0 &&& (16 : Int32)) = (0 : Int32)
      · skip
        refine own_step (fun t k => XS.ifYes X0.here hx rfl (pc0 := 40) (pc' := 47) rfl (hb hby at_40) rfl ((if0 _ _).trans (teq hc40_71).1) (by decide) (by decide) k) ?_
        refine own_step (fun t k => XS.iconst X0.here hx rfl (hb hby at_47) k) ?_
        refine own_step (fun t k => XS.istore X0.here hx rfl (hb hby at_48) rfl (l' := #[.val (.long y0_0), .second, .val (.long y1_0), .second, .val (.long y2_0), .second, .val (.long y3_0), .second, .val (.int x4_0), .val (.int x5_0), .val (.int (x5_0 &&& (3 : Int32))), .val (.int (0 : Int32)), .val (.int (1 : Int32)), .val (.int (0 : Int32)), .unset, .unset, .unset, .unset, .unset, .unset, .unset, .unset, .unset, .unset, .unset, .unset, .unset, .unset, .unset, .unset]) rfl k) ?_
        refine own_step (fun t k => XS.iload X0.here hx rfl (hb hby at_50) rfl k) ?_
        refine own_step (fun t k => XS.iconst X0.here hx rfl (hb hby at_52) k) ?_
        refine own_step (fun t k => XS.iushr X0.here hx rfl (hb hby at_53) rfl k) ?_
        refine own_step (fun t k => XS.bipush X0.here hx rfl (hb hby at_54) k) ?_
        show own_Ends p.tables e below s _ _ _ (s₁.setTop (mkF m 56 #[.val (.long y0_0), .second, .val (.long y1_0), .second, .val (.long y2_0), .second, .val (.long y3_0), .second, .val (.int x4_0), .val (.int x5_0), .val (.int (x5_0 &&& (3 : Int32))), .val (.int (0 : Int32)), .val (.int (1 : Int32)), .val (.int (0 : Int32)), .unset, .unset, .unset, .unset, .unset, .unset, .unset, .unset, .unset, .unset, .unset, .unset, .unset, .unset, .unset, .unset] [(.int (127 : Int32)), (.int ((x5_0.toUInt32 >>> ((5 : Int32) &&& 31).toUInt32).toInt32))]))
        refine own_step (fun t k => XS.iand X0.here hx rfl (hb hby at_56) rfl k) ?_
        refine own_step (fun t k => XS.istore X0.here hx rfl (hb hby at_57) rfl (l' := #[.val (.long y0_0), .second, .val (.long y1_0), .second, .val (.long y2_0), .second, .val (.long y3_0), .second, .val (.int x4_0), .val (.int x5_0), .val (.int (x5_0 &&& (3 : Int32))), .val (.int (0 : Int32)), .val (.int (1 : Int32)), .val (.int (0 : Int32)), .val (.int (((x5_0.toUInt32 >>> ((5 : Int32) &&& 31).toUInt32).toInt32) &&& (127 : Int32))), .unset, .unset, .unset, .unset, .unset, .unset, .unset, .unset, .unset, .unset, .unset, .unset, .unset, .unset, .unset]) rfl k) ?_
        refine own_step (fun t k => XS.iload X0.here hx rfl (hb hby at_59) rfl k) ?_
        refine own_step (fun t k => XS.bipush X0.here hx rfl (hb hby at_61) k) ?_
        refine own_step (fun t k => XS.iushr X0.here hx rfl (hb hby at_63) rfl k) ?_
        refine own_step (fun t k => XS.istore X0.here hx rfl (hb hby at_64) rfl (l' := #[.val (.long y0_0), .second, .val (.long y1_0), .second, .val (.long y2_0), .second, .val (.long y3_0), .second, .val (.int x4_0), .val (.int x5_0), .val (.int (x5_0 &&& (3 : Int32))), .val (.int (0 : Int32)), .val (.int (1 : Int32)), .val (.int (0 : Int32)), .val (.int (((x5_0.toUInt32 >>> ((5 : Int32) &&& 31).toUInt32).toInt32) &&& (127 : Int32))), .val (.int ((x5_0.toUInt32 >>> ((12 : Int32) &&& 31).toUInt32).toInt32)), .unset, .unset, .unset, .unset, .unset, .unset, .unset, .unset, .unset, .unset, .unset, .unset, .unset, .unset]) rfl k) ?_
        refine own_step (fun t k => XS.iload X0.here hx rfl (hb hby at_66) rfl k) ?_
        show own_Ends p.tables e below s _ _ _ (s₁.setTop (mkF m 68 #[.val (.long y0_0), .second, .val (.long y1_0), .second, .val (.long y2_0), .second, .val (.long y3_0), .second, .val (.int x4_0), .val (.int x5_0), .val (.int (x5_0 &&& (3 : Int32))), .val (.int (0 : Int32)), .val (.int (1 : Int32)), .val (.int (0 : Int32)), .val (.int (((x5_0.toUInt32 >>> ((5 : Int32) &&& 31).toUInt32).toInt32) &&& (127 : Int32))), .val (.int ((x5_0.toUInt32 >>> ((12 : Int32) &&& 31).toUInt32).toInt32)), .unset, .unset, .unset, .unset, .unset, .unset, .unset, .unset, .unset, .unset, .unset, .unset, .unset, .unset] [(.int x4_0)]))
        refine own_step (fun t k => X0.ldcInt hx hown (mvT hZ (hw _ (List.mem_of_getElem? (i := 0) rfl))) (g := (mkF m 68 #[.val (.long y0_0), .second, .val (.long y1_0), .second, .val (.long y2_0), .second, .val (.long y3_0), .second, .val (.int x4_0), .val (.int x5_0), .val (.int (x5_0 &&& (3 : Int32))), .val (.int (0 : Int32)), .val (.int (1 : Int32)), .val (.int (0 : Int32)), .val (.int (((x5_0.toUInt32 >>> ((5 : Int32) &&& 31).toUInt32).toInt32) &&& (127 : Int32))), .val (.int ((x5_0.toUInt32 >>> ((12 : Int32) &&& 31).toUInt32).toInt32)), .unset, .unset, .unset, .unset, .unset, .unset, .unset, .unset, .unset, .unset, .unset, .unset, .unset, .unset] [(.int x4_0)])) rfl (hb hby at_68) _ k) ?_
        refine own_step (fun t k => XS.iand X0.here hx rfl (hb hby at_70) rfl k) ?_
        refine own_step (fun t k => XS.istore X0.here hx rfl (hb hby at_71) rfl (l' := #[.val (.long y0_0), .second, .val (.long y1_0), .second, .val (.long y2_0), .second, .val (.long y3_0), .second, .val (.int x4_0), .val (.int x5_0), .val (.int (x5_0 &&& (3 : Int32))), .val (.int (0 : Int32)), .val (.int (1 : Int32)), .val (.int (0 : Int32)), .val (.int (((x5_0.toUInt32 >>> ((5 : Int32) &&& 31).toUInt32).toInt32) &&& (127 : Int32))), .val (.int ((x5_0.toUInt32 >>> ((12 : Int32) &&& 31).toUInt32).toInt32)), .val (.int (x4_0 &&& (2147483647 : Int32))), .unset, .unset, .unset, .unset, .unset, .unset, .unset, .unset, .unset, .unset, .unset, .unset, .unset]) rfl k) ?_
        refine own_step (fun t k => XS.iload X0.here hx rfl (hb hby at_73) rfl k) ?_
        show own_Ends p.tables e below s _ _ _ (s₁.setTop (mkF m 75 #[.val (.long y0_0), .second, .val (.long y1_0), .second, .val (.long y2_0), .second, .val (.long y3_0), .second, .val (.int x4_0), .val (.int x5_0), .val (.int (x5_0 &&& (3 : Int32))), .val (.int (0 : Int32)), .val (.int (1 : Int32)), .val (.int (0 : Int32)), .val (.int (((x5_0.toUInt32 >>> ((5 : Int32) &&& 31).toUInt32).toInt32) &&& (127 : Int32))), .val (.int ((x5_0.toUInt32 >>> ((12 : Int32) &&& 31).toUInt32).toInt32)), .val (.int (x4_0 &&& (2147483647 : Int32))), .unset, .unset, .unset, .unset, .unset, .unset, .unset, .unset, .unset, .unset, .unset, .unset, .unset] [(.int (1 : Int32))]))
        refine own_step (fun t k => XS.ifNo X0.here hx rfl (hb hby at_75) rfl ((if0 _ _).trans (feq (by decide : ¬ ((1 : Int32) = (0 : Int32)))).1) k) ?_
        refine own_step (fun t k => XS.lload X0.here hx rfl (hb hby at_78) rfl k) ?_
        refine own_step (fun t k => XS.lconst X0.here hx rfl (hb hby at_80) k) ?_
        refine own_step (fun t k => XS.lor X0.here hx rfl (hb hby at_81) rfl k) ?_
        refine own_step (fun t k => XS.lstore X0.here hx rfl (hb hby at_82) rfl (l' := #[.val (.long y0_0), .second, .val (.long y1_0), .second, .val (.long y2_0), .second, .val (.long y3_0), .second, .val (.int x4_0), .val (.int x5_0), .val (.int (x5_0 &&& (3 : Int32))), .val (.int (0 : Int32)), .val (.int (1 : Int32)), .val (.int (0 : Int32)), .val (.int (((x5_0.toUInt32 >>> ((5 : Int32) &&& 31).toUInt32).toInt32) &&& (127 : Int32))), .val (.int ((x5_0.toUInt32 >>> ((12 : Int32) &&& 31).toUInt32).toInt32)), .val (.int (x4_0 &&& (2147483647 : Int32))), .unset, .unset, .unset, .unset, .val (.long (y2_0 ||| (1 : Int64))), .second, .unset, .unset, .unset, .unset, .unset, .unset, .unset]) rfl k) ?_
        refine own_step (fun t k => XS.lloadN X0.here hx rfl (hb hby at_84) rfl k) ?_
        show own_Ends p.tables e below s _ _ _ (s₁.setTop (mkF m 85 #[.val (.long y0_0), .second, .val (.long y1_0), .second, .val (.long y2_0), .second, .val (.long y3_0), .second, .val (.int x4_0), .val (.int x5_0), .val (.int (x5_0 &&& (3 : Int32))), .val (.int (0 : Int32)), .val (.int (1 : Int32)), .val (.int (0 : Int32)), .val (.int (((x5_0.toUInt32 >>> ((5 : Int32) &&& 31).toUInt32).toInt32) &&& (127 : Int32))), .val (.int ((x5_0.toUInt32 >>> ((12 : Int32) &&& 31).toUInt32).toInt32)), .val (.int (x4_0 &&& (2147483647 : Int32))), .unset, .unset, .unset, .unset, .val (.long (y2_0 ||| (1 : Int64))), .second, .unset, .unset, .unset, .unset, .unset, .unset, .unset] [(.long y0_0)]))
        refine own_step (fun t k => X0.ldc2Long hx hown (mvT hZ (hw _ (List.mem_of_getElem? (i := 44) rfl))) (g := (mkF m 85 #[.val (.long y0_0), .second, .val (.long y1_0), .second, .val (.long y2_0), .second, .val (.long y3_0), .second, .val (.int x4_0), .val (.int x5_0), .val (.int (x5_0 &&& (3 : Int32))), .val (.int (0 : Int32)), .val (.int (1 : Int32)), .val (.int (0 : Int32)), .val (.int (((x5_0.toUInt32 >>> ((5 : Int32) &&& 31).toUInt32).toInt32) &&& (127 : Int32))), .val (.int ((x5_0.toUInt32 >>> ((12 : Int32) &&& 31).toUInt32).toInt32)), .val (.int (x4_0 &&& (2147483647 : Int32))), .unset, .unset, .unset, .unset, .val (.long (y2_0 ||| (1 : Int64))), .second, .unset, .unset, .unset, .unset, .unset, .unset, .unset] [(.long y0_0)])) rfl (hb hby at_85) _ k) ?_
        refine own_step (fun t k => XS.lload X0.here hx rfl (hb hby at_88) rfl k) ?_
        refine own_step (fun t k => XS.lmul X0.here hx rfl (hb hby at_90) rfl k) ?_
        refine own_step (fun t k => XS.ladd X0.here hx rfl (hb hby at_91) rfl k) ?_
        refine own_step (fun t k => XS.lstore X0.here hx rfl (hb hby at_92) rfl (l' := #[.val (.long y0_0), .second, .val (.long y1_0), .second, .val (.long y2_0), .second, .val (.long y3_0), .second, .val (.int x4_0), .val (.int x5_0), .val (.int (x5_0 &&& (3 : Int32))), .val (.int (0 : Int32)), .val (.int (1 : Int32)), .val (.int (0 : Int32)), .val (.int (((x5_0.toUInt32 >>> ((5 : Int32) &&& 31).toUInt32).toInt32) &&& (127 : Int32))), .val (.int ((x5_0.toUInt32 >>> ((12 : Int32) &&& 31).toUInt32).toInt32)), .val (.int (x4_0 &&& (2147483647 : Int32))), .val (.long (y0_0 + ((-4417276706812531889 : Int64) * (y2_0 ||| (1 : Int64))))), .second, .unset, .unset, .val (.long (y2_0 ||| (1 : Int64))), .second, .unset, .unset, .unset, .unset, .unset, .unset, .unset]) rfl k) ?_
        refine own_step (fun t k => XS.lloadN X0.here hx rfl (hb hby at_94) rfl k) ?_
        show own_Ends p.tables e below s _ _ _ (s₁.setTop (mkF m 95 #[.val (.long y0_0), .second, .val (.long y1_0), .second, .val (.long y2_0), .second, .val (.long y3_0), .second, .val (.int x4_0), .val (.int x5_0), .val (.int (x5_0 &&& (3 : Int32))), .val (.int (0 : Int32)), .val (.int (1 : Int32)), .val (.int (0 : Int32)), .val (.int (((x5_0.toUInt32 >>> ((5 : Int32) &&& 31).toUInt32).toInt32) &&& (127 : Int32))), .val (.int ((x5_0.toUInt32 >>> ((12 : Int32) &&& 31).toUInt32).toInt32)), .val (.int (x4_0 &&& (2147483647 : Int32))), .val (.long (y0_0 + ((-4417276706812531889 : Int64) * (y2_0 ||| (1 : Int64))))), .second, .unset, .unset, .val (.long (y2_0 ||| (1 : Int64))), .second, .unset, .unset, .unset, .unset, .unset, .unset, .unset] [(.long y1_0)]))
        refine own_step (fun t k => X0.ldc2Long hx hown (mvT hZ (hw _ (List.mem_of_getElem? (i := 45) rfl))) (g := (mkF m 95 #[.val (.long y0_0), .second, .val (.long y1_0), .second, .val (.long y2_0), .second, .val (.long y3_0), .second, .val (.int x4_0), .val (.int x5_0), .val (.int (x5_0 &&& (3 : Int32))), .val (.int (0 : Int32)), .val (.int (1 : Int32)), .val (.int (0 : Int32)), .val (.int (((x5_0.toUInt32 >>> ((5 : Int32) &&& 31).toUInt32).toInt32) &&& (127 : Int32))), .val (.int ((x5_0.toUInt32 >>> ((12 : Int32) &&& 31).toUInt32).toInt32)), .val (.int (x4_0 &&& (2147483647 : Int32))), .val (.long (y0_0 + ((-4417276706812531889 : Int64) * (y2_0 ||| (1 : Int64))))), .second, .unset, .unset, .val (.long (y2_0 ||| (1 : Int64))), .second, .unset, .unset, .unset, .unset, .unset, .unset, .unset] [(.long y1_0)])) rfl (hb hby at_95) _ k) ?_
        refine own_step (fun t k => XS.lload X0.here hx rfl (hb hby at_98) rfl k) ?_
        refine own_step (fun t k => XS.lmul X0.here hx rfl (hb hby at_100) rfl k) ?_
        refine own_step (fun t k => XS.lsub X0.here hx rfl (hb hby at_101) rfl k) ?_
        refine own_step (fun t k => XS.lstore X0.here hx rfl (hb hby at_102) rfl (l' := #[.val (.long y0_0), .second, .val (.long y1_0), .second, .val (.long y2_0), .second, .val (.long y3_0), .second, .val (.int x4_0), .val (.int x5_0), .val (.int (x5_0 &&& (3 : Int32))), .val (.int (0 : Int32)), .val (.int (1 : Int32)), .val (.int (0 : Int32)), .val (.int (((x5_0.toUInt32 >>> ((5 : Int32) &&& 31).toUInt32).toInt32) &&& (127 : Int32))), .val (.int ((x5_0.toUInt32 >>> ((12 : Int32) &&& 31).toUInt32).toInt32)), .val (.int (x4_0 &&& (2147483647 : Int32))), .val (.long (y0_0 + ((-4417276706812531889 : Int64) * (y2_0 ||| (1 : Int64))))), .second, .val (.long (y1_0 - ((-7046029254386353131 : Int64) * (y2_0 ||| (1 : Int64))))), .second, .val (.long (y2_0 ||| (1 : Int64))), .second, .unset, .unset, .unset, .unset, .unset, .unset, .unset]) rfl k) ?_
        refine own_step (fun t k => XS.goto X0.here hx rfl (pc0 := 104) (pc' := 115) rfl (hb hby at_104) (by decide) (by decide) k) ?_
        refine own_step (fun t k => XS.iload X0.here hx rfl (hb hby at_115) rfl k) ?_
        show own_Ends p.tables e below s _ _ _ (s₁.setTop (mkF m 117 #[.val (.long y0_0), .second, .val (.long y1_0), .second, .val (.long y2_0), .second, .val (.long y3_0), .second, .val (.int x4_0), .val (.int x5_0), .val (.int (x5_0 &&& (3 : Int32))), .val (.int (0 : Int32)), .val (.int (1 : Int32)), .val (.int (0 : Int32)), .val (.int (((x5_0.toUInt32 >>> ((5 : Int32) &&& 31).toUInt32).toInt32) &&& (127 : Int32))), .val (.int ((x5_0.toUInt32 >>> ((12 : Int32) &&& 31).toUInt32).toInt32)), .val (.int (x4_0 &&& (2147483647 : Int32))), .val (.long (y0_0 + ((-4417276706812531889 : Int64) * (y2_0 ||| (1 : Int64))))), .second, .val (.long (y1_0 - ((-7046029254386353131 : Int64) * (y2_0 ||| (1 : Int64))))), .second, .val (.long (y2_0 ||| (1 : Int64))), .second, .unset, .unset, .unset, .unset, .unset, .unset, .unset] [(.int (x5_0 &&& (3 : Int32)))]))
        by_cases hc117_72 : (x5_0 &&& (3 : Int32)) = (0 : Int32)
        · skip
          refine own_step (fun t k => XS.ifNo X0.here hx rfl (hb hby at_117) rfl ((if0 _ _).trans (teq hc117_72).2) k) ?_
          refine own_step (fun t k => XS.lloadN X0.here hx rfl (hb hby at_120) rfl k) ?_
          refine own_step (fun t k => XS.lstore X0.here hx rfl (hb hby at_121) rfl (l' := #[.val (.long y0_0), .second, .val (.long y1_0), .second, .val (.long y2_0), .second, .val (.long y3_0), .second, .val (.int x4_0), .val (.int x5_0), .val (.int (x5_0 &&& (3 : Int32))), .val (.int (0 : Int32)), .val (.int (1 : Int32)), .val (.int (0 : Int32)), .val (.int (((x5_0.toUInt32 >>> ((5 : Int32) &&& 31).toUInt32).toInt32) &&& (127 : Int32))), .val (.int ((x5_0.toUInt32 >>> ((12 : Int32) &&& 31).toUInt32).toInt32)), .val (.int (x4_0 &&& (2147483647 : Int32))), .val (.long (y0_0 + ((-4417276706812531889 : Int64) * (y2_0 ||| (1 : Int64))))), .second, .val (.long (y1_0 - ((-7046029254386353131 : Int64) * (y2_0 ||| (1 : Int64))))), .second, .val (.long y0_0), .second, .unset, .unset, .unset, .unset, .unset, .unset, .unset]) rfl k) ?_
          refine own_step (fun t k => XS.lloadN X0.here hx rfl (hb hby at_123) rfl k) ?_
          refine own_step (fun t k => XS.lstore X0.here hx rfl (hb hby at_124) rfl (l' := #[.val (.long y0_0), .second, .val (.long y1_0), .second, .val (.long y2_0), .second, .val (.long y3_0), .second, .val (.int x4_0), .val (.int x5_0), .val (.int (x5_0 &&& (3 : Int32))), .val (.int (0 : Int32)), .val (.int (1 : Int32)), .val (.int (0 : Int32)), .val (.int (((x5_0.toUInt32 >>> ((5 : Int32) &&& 31).toUInt32).toInt32) &&& (127 : Int32))), .val (.int ((x5_0.toUInt32 >>> ((12 : Int32) &&& 31).toUInt32).toInt32)), .val (.int (x4_0 &&& (2147483647 : Int32))), .val (.long (y0_0 + ((-4417276706812531889 : Int64) * (y2_0 ||| (1 : Int64))))), .second, .val (.long (y1_0 - ((-7046029254386353131 : Int64) * (y2_0 ||| (1 : Int64))))), .second, .val (.long y0_0), .second, .val (.long y1_0), .second, .unset, .unset, .unset, .unset, .unset]) rfl k) ?_
          refine own_step (fun t k => XS.goto X0.here hx rfl (pc0 := 126) (pc' := 169) rfl (hb hby at_126) (by decide) (by decide) k) ?_
          show own_Ends p.tables e below s _ _ _ (s₁.setTop (mkF m 169 #[.val (.long y0_0), .second, .val (.long y1_0), .second, .val (.long y2_0), .second, .val (.long y3_0), .second, .val (.int x4_0), .val (.int x5_0), .val (.int (x5_0 &&& (3 : Int32))), .val (.int (0 : Int32)), .val (.int (1 : Int32)), .val (.int (0 : Int32)), .val (.int (((x5_0.toUInt32 >>> ((5 : Int32) &&& 31).toUInt32).toInt32) &&& (127 : Int32))), .val (.int ((x5_0.toUInt32 >>> ((12 : Int32) &&& 31).toUInt32).toInt32)), .val (.int (x4_0 &&& (2147483647 : Int32))), .val (.long (y0_0 + ((-4417276706812531889 : Int64) * (y2_0 ||| (1 : Int64))))), .second, .val (.long (y1_0 - ((-7046029254386353131 : Int64) * (y2_0 ||| (1 : Int64))))), .second, .val (.long y0_0), .second, .val (.long y1_0), .second, .unset, .unset, .unset, .unset, .unset] []))
          exact tail169 (x5_0 &&& (3 : Int32)) (0 : Int32) (1 : Int32) (0 : Int32) (((x5_0.toUInt32 >>> ((5 : Int32) &&& 31).toUInt32).toInt32) &&& (127 : Int32)) ((x5_0.toUInt32 >>> ((12 : Int32) &&& 31).toUInt32).toInt32) (x4_0 &&& (2147483647 : Int32)) (y0_0 + ((-4417276706812531889 : Int64) * (y2_0 ||| (1 : Int64)))) (y1_0 - ((-7046029254386353131 : Int64) * (y2_0 ||| (1 : Int64)))) y0_0 y1_0 (own_m127 _) (own_m31 _) (own_u12 _)
        · skip
          refine own_step (fun t k => XS.ifYes X0.here hx rfl (pc0 := 117) (pc' := 129) rfl (hb hby at_117) rfl ((if0 _ _).trans (feq hc117_72).2) (by decide) (by decide) k) ?_
          refine own_step (fun t k => XS.iload X0.here hx rfl (hb hby at_129) rfl k) ?_
          refine own_step (fun t k => XS.iconst X0.here hx rfl (hb hby at_131) k) ?_
          show own_Ends p.tables e below s _ _ _ (s₁.setTop (mkF m 132 #[.val (.long y0_0), .second, .val (.long y1_0), .second, .val (.long y2_0), .second, .val (.long y3_0), .second, .val (.int x4_0), .val (.int x5_0), .val (.int (x5_0 &&& (3 : Int32))), .val (.int (0 : Int32)), .val (.int (1 : Int32)), .val (.int (0 : Int32)), .val (.int (((x5_0.toUInt32 >>> ((5 : Int32) &&& 31).toUInt32).toInt32) &&& (127 : Int32))), .val (.int ((x5_0.toUInt32 >>> ((12 : Int32) &&& 31).toUInt32).toInt32)), .val (.int (x4_0 &&& (2147483647 : Int32))), .val (.long (y0_0 + ((-4417276706812531889 : Int64) * (y2_0 ||| (1 : Int64))))), .second, .val (.long (y1_0 - ((-7046029254386353131 : Int64) * (y2_0 ||| (1 : Int64))))), .second, .val (.long (y2_0 ||| (1 : Int64))), .second, .unset, .unset, .unset, .unset, .unset, .unset, .unset] [(.int (1 : Int32)), (.int (x5_0 &&& (3 : Int32)))]))
          by_cases hc132_73 : (x5_0 &&& (3 : Int32)) = (1 : Int32)
          · skip
            refine own_step (fun t k => XS.icmpNo X0.here hx rfl (hb hby at_132) rfl (teq hc132_73).2 k) ?_
            refine own_step (fun t k => XS.lload X0.here hx rfl (hb hby at_135) rfl k) ?_
            refine own_step (fun t k => XS.lstore X0.here hx rfl (hb hby at_137) rfl (l' := #[.val (.long y0_0), .second, .val (.long y1_0), .second, .val (.long y2_0), .second, .val (.long y3_0), .second, .val (.int x4_0), .val (.int x5_0), .val (.int (x5_0 &&& (3 : Int32))), .val (.int (0 : Int32)), .val (.int (1 : Int32)), .val (.int (0 : Int32)), .val (.int (((x5_0.toUInt32 >>> ((5 : Int32) &&& 31).toUInt32).toInt32) &&& (127 : Int32))), .val (.int ((x5_0.toUInt32 >>> ((12 : Int32) &&& 31).toUInt32).toInt32)), .val (.int (x4_0 &&& (2147483647 : Int32))), .val (.long (y0_0 + ((-4417276706812531889 : Int64) * (y2_0 ||| (1 : Int64))))), .second, .val (.long (y1_0 - ((-7046029254386353131 : Int64) * (y2_0 ||| (1 : Int64))))), .second, .val (.long (y0_0 + ((-4417276706812531889 : Int64) * (y2_0 ||| (1 : Int64))))), .second, .unset, .unset, .unset, .unset, .unset, .unset, .unset]) rfl k) ?_
            refine own_step (fun t k => XS.lload X0.here hx rfl (hb hby at_139) rfl k) ?_
            refine own_step (fun t k => XS.lstore X0.here hx rfl (hb hby at_141) rfl (l' := #[.val (.long y0_0), .second, .val (.long y1_0), .second, .val (.long y2_0), .second, .val (.long y3_0), .second, .val (.int x4_0), .val (.int x5_0), .val (.int (x5_0 &&& (3 : Int32))), .val (.int (0 : Int32)), .val (.int (1 : Int32)), .val (.int (0 : Int32)), .val (.int (((x5_0.toUInt32 >>> ((5 : Int32) &&& 31).toUInt32).toInt32) &&& (127 : Int32))), .val (.int ((x5_0.toUInt32 >>> ((12 : Int32) &&& 31).toUInt32).toInt32)), .val (.int (x4_0 &&& (2147483647 : Int32))), .val (.long (y0_0 + ((-4417276706812531889 : Int64) * (y2_0 ||| (1 : Int64))))), .second, .val (.long (y1_0 - ((-7046029254386353131 : Int64) * (y2_0 ||| (1 : Int64))))), .second, .val (.long (y0_0 + ((-4417276706812531889 : Int64) * (y2_0 ||| (1 : Int64))))), .second, .val (.long (y1_0 - ((-7046029254386353131 : Int64) * (y2_0 ||| (1 : Int64))))), .second, .unset, .unset, .unset, .unset, .unset]) rfl k) ?_
            refine own_step (fun t k => XS.goto X0.here hx rfl (pc0 := 143) (pc' := 169) rfl (hb hby at_143) (by decide) (by decide) k) ?_
            show own_Ends p.tables e below s _ _ _ (s₁.setTop (mkF m 169 #[.val (.long y0_0), .second, .val (.long y1_0), .second, .val (.long y2_0), .second, .val (.long y3_0), .second, .val (.int x4_0), .val (.int x5_0), .val (.int (x5_0 &&& (3 : Int32))), .val (.int (0 : Int32)), .val (.int (1 : Int32)), .val (.int (0 : Int32)), .val (.int (((x5_0.toUInt32 >>> ((5 : Int32) &&& 31).toUInt32).toInt32) &&& (127 : Int32))), .val (.int ((x5_0.toUInt32 >>> ((12 : Int32) &&& 31).toUInt32).toInt32)), .val (.int (x4_0 &&& (2147483647 : Int32))), .val (.long (y0_0 + ((-4417276706812531889 : Int64) * (y2_0 ||| (1 : Int64))))), .second, .val (.long (y1_0 - ((-7046029254386353131 : Int64) * (y2_0 ||| (1 : Int64))))), .second, .val (.long (y0_0 + ((-4417276706812531889 : Int64) * (y2_0 ||| (1 : Int64))))), .second, .val (.long (y1_0 - ((-7046029254386353131 : Int64) * (y2_0 ||| (1 : Int64))))), .second, .unset, .unset, .unset, .unset, .unset] []))
            exact tail169 (x5_0 &&& (3 : Int32)) (0 : Int32) (1 : Int32) (0 : Int32) (((x5_0.toUInt32 >>> ((5 : Int32) &&& 31).toUInt32).toInt32) &&& (127 : Int32)) ((x5_0.toUInt32 >>> ((12 : Int32) &&& 31).toUInt32).toInt32) (x4_0 &&& (2147483647 : Int32)) (y0_0 + ((-4417276706812531889 : Int64) * (y2_0 ||| (1 : Int64)))) (y1_0 - ((-7046029254386353131 : Int64) * (y2_0 ||| (1 : Int64)))) (y0_0 + ((-4417276706812531889 : Int64) * (y2_0 ||| (1 : Int64)))) (y1_0 - ((-7046029254386353131 : Int64) * (y2_0 ||| (1 : Int64)))) (own_m127 _) (own_m31 _) (own_u12 _)
          · skip
            refine own_step (fun t k => XS.icmpYes X0.here hx rfl (pc0 := 132) (pc' := 146) rfl (hb hby at_132) rfl (feq hc132_73).2 (by decide) (by decide) k) ?_
            refine own_step (fun t k => XS.iload X0.here hx rfl (hb hby at_146) rfl k) ?_
            refine own_step (fun t k => XS.iconst X0.here hx rfl (hb hby at_148) k) ?_
            show own_Ends p.tables e below s _ _ _ (s₁.setTop (mkF m 149 #[.val (.long y0_0), .second, .val (.long y1_0), .second, .val (.long y2_0), .second, .val (.long y3_0), .second, .val (.int x4_0), .val (.int x5_0), .val (.int (x5_0 &&& (3 : Int32))), .val (.int (0 : Int32)), .val (.int (1 : Int32)), .val (.int (0 : Int32)), .val (.int (((x5_0.toUInt32 >>> ((5 : Int32) &&& 31).toUInt32).toInt32) &&& (127 : Int32))), .val (.int ((x5_0.toUInt32 >>> ((12 : Int32) &&& 31).toUInt32).toInt32)), .val (.int (x4_0 &&& (2147483647 : Int32))), .val (.long (y0_0 + ((-4417276706812531889 : Int64) * (y2_0 ||| (1 : Int64))))), .second, .val (.long (y1_0 - ((-7046029254386353131 : Int64) * (y2_0 ||| (1 : Int64))))), .second, .val (.long (y2_0 ||| (1 : Int64))), .second, .unset, .unset, .unset, .unset, .unset, .unset, .unset] [(.int (2 : Int32)), (.int (x5_0 &&& (3 : Int32)))]))
            by_cases hc149_74 : (x5_0 &&& (3 : Int32)) = (2 : Int32)
            · skip
              refine own_step (fun t k => XS.icmpNo X0.here hx rfl (hb hby at_149) rfl (teq hc149_74).2 k) ?_
              refine own_step (fun t k => XS.lloadN X0.here hx rfl (hb hby at_152) rfl k) ?_
              refine own_step (fun t k => XS.lstore X0.here hx rfl (hb hby at_153) rfl (l' := #[.val (.long y0_0), .second, .val (.long y1_0), .second, .val (.long y2_0), .second, .val (.long y3_0), .second, .val (.int x4_0), .val (.int x5_0), .val (.int (x5_0 &&& (3 : Int32))), .val (.int (0 : Int32)), .val (.int (1 : Int32)), .val (.int (0 : Int32)), .val (.int (((x5_0.toUInt32 >>> ((5 : Int32) &&& 31).toUInt32).toInt32) &&& (127 : Int32))), .val (.int ((x5_0.toUInt32 >>> ((12 : Int32) &&& 31).toUInt32).toInt32)), .val (.int (x4_0 &&& (2147483647 : Int32))), .val (.long (y0_0 + ((-4417276706812531889 : Int64) * (y2_0 ||| (1 : Int64))))), .second, .val (.long (y1_0 - ((-7046029254386353131 : Int64) * (y2_0 ||| (1 : Int64))))), .second, .val (.long y0_0), .second, .unset, .unset, .unset, .unset, .unset, .unset, .unset]) rfl k) ?_
              refine own_step (fun t k => XS.lload X0.here hx rfl (hb hby at_155) rfl k) ?_
              refine own_step (fun t k => XS.lstore X0.here hx rfl (hb hby at_157) rfl (l' := #[.val (.long y0_0), .second, .val (.long y1_0), .second, .val (.long y2_0), .second, .val (.long y3_0), .second, .val (.int x4_0), .val (.int x5_0), .val (.int (x5_0 &&& (3 : Int32))), .val (.int (0 : Int32)), .val (.int (1 : Int32)), .val (.int (0 : Int32)), .val (.int (((x5_0.toUInt32 >>> ((5 : Int32) &&& 31).toUInt32).toInt32) &&& (127 : Int32))), .val (.int ((x5_0.toUInt32 >>> ((12 : Int32) &&& 31).toUInt32).toInt32)), .val (.int (x4_0 &&& (2147483647 : Int32))), .val (.long (y0_0 + ((-4417276706812531889 : Int64) * (y2_0 ||| (1 : Int64))))), .second, .val (.long (y1_0 - ((-7046029254386353131 : Int64) * (y2_0 ||| (1 : Int64))))), .second, .val (.long y0_0), .second, .val (.long (y1_0 - ((-7046029254386353131 : Int64) * (y2_0 ||| (1 : Int64))))), .second, .unset, .unset, .unset, .unset, .unset]) rfl k) ?_
              refine own_step (fun t k => XS.goto X0.here hx rfl (pc0 := 159) (pc' := 169) rfl (hb hby at_159) (by decide) (by decide) k) ?_
              show own_Ends p.tables e below s _ _ _ (s₁.setTop (mkF m 169 #[.val (.long y0_0), .second, .val (.long y1_0), .second, .val (.long y2_0), .second, .val (.long y3_0), .second, .val (.int x4_0), .val (.int x5_0), .val (.int (x5_0 &&& (3 : Int32))), .val (.int (0 : Int32)), .val (.int (1 : Int32)), .val (.int (0 : Int32)), .val (.int (((x5_0.toUInt32 >>> ((5 : Int32) &&& 31).toUInt32).toInt32) &&& (127 : Int32))), .val (.int ((x5_0.toUInt32 >>> ((12 : Int32) &&& 31).toUInt32).toInt32)), .val (.int (x4_0 &&& (2147483647 : Int32))), .val (.long (y0_0 + ((-4417276706812531889 : Int64) * (y2_0 ||| (1 : Int64))))), .second, .val (.long (y1_0 - ((-7046029254386353131 : Int64) * (y2_0 ||| (1 : Int64))))), .second, .val (.long y0_0), .second, .val (.long (y1_0 - ((-7046029254386353131 : Int64) * (y2_0 ||| (1 : Int64))))), .second, .unset, .unset, .unset, .unset, .unset] []))
              exact tail169 (x5_0 &&& (3 : Int32)) (0 : Int32) (1 : Int32) (0 : Int32) (((x5_0.toUInt32 >>> ((5 : Int32) &&& 31).toUInt32).toInt32) &&& (127 : Int32)) ((x5_0.toUInt32 >>> ((12 : Int32) &&& 31).toUInt32).toInt32) (x4_0 &&& (2147483647 : Int32)) (y0_0 + ((-4417276706812531889 : Int64) * (y2_0 ||| (1 : Int64)))) (y1_0 - ((-7046029254386353131 : Int64) * (y2_0 ||| (1 : Int64)))) y0_0 (y1_0 - ((-7046029254386353131 : Int64) * (y2_0 ||| (1 : Int64)))) (own_m127 _) (own_m31 _) (own_u12 _)
            · skip
              refine own_step (fun t k => XS.icmpYes X0.here hx rfl (pc0 := 149) (pc' := 162) rfl (hb hby at_149) rfl (feq hc149_74).2 (by decide) (by decide) k) ?_
              refine own_step (fun t k => XS.lload X0.here hx rfl (hb hby at_162) rfl k) ?_
              refine own_step (fun t k => XS.lstore X0.here hx rfl (hb hby at_164) rfl (l' := #[.val (.long y0_0), .second, .val (.long y1_0), .second, .val (.long y2_0), .second, .val (.long y3_0), .second, .val (.int x4_0), .val (.int x5_0), .val (.int (x5_0 &&& (3 : Int32))), .val (.int (0 : Int32)), .val (.int (1 : Int32)), .val (.int (0 : Int32)), .val (.int (((x5_0.toUInt32 >>> ((5 : Int32) &&& 31).toUInt32).toInt32) &&& (127 : Int32))), .val (.int ((x5_0.toUInt32 >>> ((12 : Int32) &&& 31).toUInt32).toInt32)), .val (.int (x4_0 &&& (2147483647 : Int32))), .val (.long (y0_0 + ((-4417276706812531889 : Int64) * (y2_0 ||| (1 : Int64))))), .second, .val (.long (y1_0 - ((-7046029254386353131 : Int64) * (y2_0 ||| (1 : Int64))))), .second, .val (.long (y0_0 + ((-4417276706812531889 : Int64) * (y2_0 ||| (1 : Int64))))), .second, .unset, .unset, .unset, .unset, .unset, .unset, .unset]) rfl k) ?_
              refine own_step (fun t k => XS.lloadN X0.here hx rfl (hb hby at_166) rfl k) ?_
              refine own_step (fun t k => XS.lstore X0.here hx rfl (hb hby at_167) rfl (l' := #[.val (.long y0_0), .second, .val (.long y1_0), .second, .val (.long y2_0), .second, .val (.long y3_0), .second, .val (.int x4_0), .val (.int x5_0), .val (.int (x5_0 &&& (3 : Int32))), .val (.int (0 : Int32)), .val (.int (1 : Int32)), .val (.int (0 : Int32)), .val (.int (((x5_0.toUInt32 >>> ((5 : Int32) &&& 31).toUInt32).toInt32) &&& (127 : Int32))), .val (.int ((x5_0.toUInt32 >>> ((12 : Int32) &&& 31).toUInt32).toInt32)), .val (.int (x4_0 &&& (2147483647 : Int32))), .val (.long (y0_0 + ((-4417276706812531889 : Int64) * (y2_0 ||| (1 : Int64))))), .second, .val (.long (y1_0 - ((-7046029254386353131 : Int64) * (y2_0 ||| (1 : Int64))))), .second, .val (.long (y0_0 + ((-4417276706812531889 : Int64) * (y2_0 ||| (1 : Int64))))), .second, .val (.long y1_0), .second, .unset, .unset, .unset, .unset, .unset]) rfl k) ?_
              show own_Ends p.tables e below s _ _ _ (s₁.setTop (mkF m 169 #[.val (.long y0_0), .second, .val (.long y1_0), .second, .val (.long y2_0), .second, .val (.long y3_0), .second, .val (.int x4_0), .val (.int x5_0), .val (.int (x5_0 &&& (3 : Int32))), .val (.int (0 : Int32)), .val (.int (1 : Int32)), .val (.int (0 : Int32)), .val (.int (((x5_0.toUInt32 >>> ((5 : Int32) &&& 31).toUInt32).toInt32) &&& (127 : Int32))), .val (.int ((x5_0.toUInt32 >>> ((12 : Int32) &&& 31).toUInt32).toInt32)), .val (.int (x4_0 &&& (2147483647 : Int32))), .val (.long (y0_0 + ((-4417276706812531889 : Int64) * (y2_0 ||| (1 : Int64))))), .second, .val (.long (y1_0 - ((-7046029254386353131 : Int64) * (y2_0 ||| (1 : Int64))))), .second, .val (.long (y0_0 + ((-4417276706812531889 : Int64) * (y2_0 ||| (1 : Int64))))), .second, .val (.long y1_0), .second, .unset, .unset, .unset, .unset, .unset] []))
              exact tail169 (x5_0 &&& (3 : Int32)) (0 : Int32) (1 : Int32) (0 : Int32) (((x5_0.toUInt32 >>> ((5 : Int32) &&& 31).toUInt32).toInt32) &&& (127 : Int32)) ((x5_0.toUInt32 >>> ((12 : Int32) &&& 31).toUInt32).toInt32) (x4_0 &&& (2147483647 : Int32)) (y0_0 + ((-4417276706812531889 : Int64) * (y2_0 ||| (1 : Int64)))) (y1_0 - ((-7046029254386353131 : Int64) * (y2_0 ||| (1 : Int64)))) (y0_0 + ((-4417276706812531889 : Int64) * (y2_0 ||| (1 : Int64)))) y1_0 (own_m127 _) (own_m31 _) (own_u12 _)
      · skip
        refine own_step (fun t k => XS.ifNo X0.here hx rfl (hb hby at_40) rfl ((if0 _ _).trans (feq hc40_71).1) k) ?_
        refine own_step (fun t k => XS.iconst X0.here hx rfl (hb hby at_43) k) ?_
        refine own_step (fun t k => XS.goto X0.here hx rfl (pc0 := 44) (pc' := 48) rfl (hb hby at_44) (by decide) (by decide) k) ?_
        refine own_step (fun t k => XS.istore X0.here hx rfl (hb hby at_48) rfl (l' := #[.val (.long y0_0), .second, .val (.long y1_0), .second, .val (.long y2_0), .second, .val (.long y3_0), .second, .val (.int x4_0), .val (.int x5_0), .val (.int (x5_0 &&& (3 : Int32))), .val (.int (0 : Int32)), .val (.int (1 : Int32)), .val (.int (1 : Int32)), .unset, .unset, .unset, .unset, .unset, .unset, .unset, .unset, .unset, .unset, .unset, .unset, .unset, .unset, .unset, .unset]) rfl k) ?_
        refine own_step (fun t k => XS.iload X0.here hx rfl (hb hby at_50) rfl k) ?_
        refine own_step (fun t k => XS.iconst X0.here hx rfl (hb hby at_52) k) ?_
        refine own_step (fun t k => XS.iushr X0.here hx rfl (hb hby at_53) rfl k) ?_
        show own_Ends p.tables e below s _ _ _ (s₁.setTop (mkF m 54 #[.val (.long y0_0), .second, .val (.long y1_0), .second, .val (.long y2_0), .second, .val (.long y3_0), .second, .val (.int x4_0), .val (.int x5_0), .val (.int (x5_0 &&& (3 : Int32))), .val (.int (0 : Int32)), .val (.int (1 : Int32)), .val (.int (1 : Int32)), .unset, .unset, .unset, .unset, .unset, .unset, .unset, .unset, .unset, .unset, .unset, .unset, .unset, .unset, .unset, .unset] [(.int ((x5_0.toUInt32 >>> ((5 : Int32) &&& 31).toUInt32).toInt32))]))
        refine own_step (fun t k => XS.bipush X0.here hx rfl (hb hby at_54) k) ?_
        refine own_step (fun t k => XS.iand X0.here hx rfl (hb hby at_56) rfl k) ?_
        refine own_step (fun t k => XS.istore X0.here hx rfl (hb hby at_57) rfl (l' := #[.val (.long y0_0), .second, .val (.long y1_0), .second, .val (.long y2_0), .second, .val (.long y3_0), .second, .val (.int x4_0), .val (.int x5_0), .val (.int (x5_0 &&& (3 : Int32))), .val (.int (0 : Int32)), .val (.int (1 : Int32)), .val (.int (1 : Int32)), .val (.int (((x5_0.toUInt32 >>> ((5 : Int32) &&& 31).toUInt32).toInt32) &&& (127 : Int32))), .unset, .unset, .unset, .unset, .unset, .unset, .unset, .unset, .unset, .unset, .unset, .unset, .unset, .unset, .unset]) rfl k) ?_
        refine own_step (fun t k => XS.iload X0.here hx rfl (hb hby at_59) rfl k) ?_
        refine own_step (fun t k => XS.bipush X0.here hx rfl (hb hby at_61) k) ?_
        refine own_step (fun t k => XS.iushr X0.here hx rfl (hb hby at_63) rfl k) ?_
        refine own_step (fun t k => XS.istore X0.here hx rfl (hb hby at_64) rfl (l' := #[.val (.long y0_0), .second, .val (.long y1_0), .second, .val (.long y2_0), .second, .val (.long y3_0), .second, .val (.int x4_0), .val (.int x5_0), .val (.int (x5_0 &&& (3 : Int32))), .val (.int (0 : Int32)), .val (.int (1 : Int32)), .val (.int (1 : Int32)), .val (.int (((x5_0.toUInt32 >>> ((5 : Int32) &&& 31).toUInt32).toInt32) &&& (127 : Int32))), .val (.int ((x5_0.toUInt32 >>> ((12 : Int32) &&& 31).toUInt32).toInt32)), .unset, .unset, .unset, .unset, .unset, .unset, .unset, .unset, .unset, .unset, .unset, .unset, .unset, .unset]) rfl k) ?_
        show own_Ends p.tables e below s _ _ _ (s₁.setTop (mkF m 66 #[.val (.long y0_0), .second, .val (.long y1_0), .second, .val (.long y2_0), .second, .val (.long y3_0), .second, .val (.int x4_0), .val (.int x5_0), .val (.int (x5_0 &&& (3 : Int32))), .val (.int (0 : Int32)), .val (.int (1 : Int32)), .val (.int (1 : Int32)), .val (.int (((x5_0.toUInt32 >>> ((5 : Int32) &&& 31).toUInt32).toInt32) &&& (127 : Int32))), .val (.int ((x5_0.toUInt32 >>> ((12 : Int32) &&& 31).toUInt32).toInt32)), .unset, .unset, .unset, .unset, .unset, .unset, .unset, .unset, .unset, .unset, .unset, .unset, .unset, .unset] []))
        refine own_step (fun t k => XS.iload X0.here hx rfl (hb hby at_66) rfl k) ?_
        show own_Ends p.tables e below s _ _ _ (s₁.setTop (mkF m 68 #[.val (.long y0_0), .second, .val (.long y1_0), .second, .val (.long y2_0), .second, .val (.long y3_0), .second, .val (.int x4_0), .val (.int x5_0), .val (.int (x5_0 &&& (3 : Int32))), .val (.int (0 : Int32)), .val (.int (1 : Int32)), .val (.int (1 : Int32)), .val (.int (((x5_0.toUInt32 >>> ((5 : Int32) &&& 31).toUInt32).toInt32) &&& (127 : Int32))), .val (.int ((x5_0.toUInt32 >>> ((12 : Int32) &&& 31).toUInt32).toInt32)), .unset, .unset, .unset, .unset, .unset, .unset, .unset, .unset, .unset, .unset, .unset, .unset, .unset, .unset] [(.int x4_0)]))
        refine own_step (fun t k => X0.ldcInt hx hown (mvT hZ (hw _ (List.mem_of_getElem? (i := 0) rfl))) (g := (mkF m 68 #[.val (.long y0_0), .second, .val (.long y1_0), .second, .val (.long y2_0), .second, .val (.long y3_0), .second, .val (.int x4_0), .val (.int x5_0), .val (.int (x5_0 &&& (3 : Int32))), .val (.int (0 : Int32)), .val (.int (1 : Int32)), .val (.int (1 : Int32)), .val (.int (((x5_0.toUInt32 >>> ((5 : Int32) &&& 31).toUInt32).toInt32) &&& (127 : Int32))), .val (.int ((x5_0.toUInt32 >>> ((12 : Int32) &&& 31).toUInt32).toInt32)), .unset, .unset, .unset, .unset, .unset, .unset, .unset, .unset, .unset, .unset, .unset, .unset, .unset, .unset] [(.int x4_0)])) rfl (hb hby at_68) _ k) ?_
        refine own_step (fun t k => XS.iand X0.here hx rfl (hb hby at_70) rfl k) ?_
        refine own_step (fun t k => XS.istore X0.here hx rfl (hb hby at_71) rfl (l' := #[.val (.long y0_0), .second, .val (.long y1_0), .second, .val (.long y2_0), .second, .val (.long y3_0), .second, .val (.int x4_0), .val (.int x5_0), .val (.int (x5_0 &&& (3 : Int32))), .val (.int (0 : Int32)), .val (.int (1 : Int32)), .val (.int (1 : Int32)), .val (.int (((x5_0.toUInt32 >>> ((5 : Int32) &&& 31).toUInt32).toInt32) &&& (127 : Int32))), .val (.int ((x5_0.toUInt32 >>> ((12 : Int32) &&& 31).toUInt32).toInt32)), .val (.int (x4_0 &&& (2147483647 : Int32))), .unset, .unset, .unset, .unset, .unset, .unset, .unset, .unset, .unset, .unset, .unset, .unset, .unset]) rfl k) ?_
        refine own_step (fun t k => XS.iload X0.here hx rfl (hb hby at_73) rfl k) ?_
        show own_Ends p.tables e below s _ _ _ (s₁.setTop (mkF m 75 #[.val (.long y0_0), .second, .val (.long y1_0), .second, .val (.long y2_0), .second, .val (.long y3_0), .second, .val (.int x4_0), .val (.int x5_0), .val (.int (x5_0 &&& (3 : Int32))), .val (.int (0 : Int32)), .val (.int (1 : Int32)), .val (.int (1 : Int32)), .val (.int (((x5_0.toUInt32 >>> ((5 : Int32) &&& 31).toUInt32).toInt32) &&& (127 : Int32))), .val (.int ((x5_0.toUInt32 >>> ((12 : Int32) &&& 31).toUInt32).toInt32)), .val (.int (x4_0 &&& (2147483647 : Int32))), .unset, .unset, .unset, .unset, .unset, .unset, .unset, .unset, .unset, .unset, .unset, .unset, .unset] [(.int (1 : Int32))]))
        refine own_step (fun t k => XS.ifNo X0.here hx rfl (hb hby at_75) rfl ((if0 _ _).trans (feq (by decide : ¬ ((1 : Int32) = (0 : Int32)))).1) k) ?_
        refine own_step (fun t k => XS.lload X0.here hx rfl (hb hby at_78) rfl k) ?_
        refine own_step (fun t k => XS.lconst X0.here hx rfl (hb hby at_80) k) ?_
        refine own_step (fun t k => XS.lor X0.here hx rfl (hb hby at_81) rfl k) ?_
        refine own_step (fun t k => XS.lstore X0.here hx rfl (hb hby at_82) rfl (l' := #[.val (.long y0_0), .second, .val (.long y1_0), .second, .val (.long y2_0), .second, .val (.long y3_0), .second, .val (.int x4_0), .val (.int x5_0), .val (.int (x5_0 &&& (3 : Int32))), .val (.int (0 : Int32)), .val (.int (1 : Int32)), .val (.int (1 : Int32)), .val (.int (((x5_0.toUInt32 >>> ((5 : Int32) &&& 31).toUInt32).toInt32) &&& (127 : Int32))), .val (.int ((x5_0.toUInt32 >>> ((12 : Int32) &&& 31).toUInt32).toInt32)), .val (.int (x4_0 &&& (2147483647 : Int32))), .unset, .unset, .unset, .unset, .val (.long (y2_0 ||| (1 : Int64))), .second, .unset, .unset, .unset, .unset, .unset, .unset, .unset]) rfl k) ?_
        refine own_step (fun t k => XS.lloadN X0.here hx rfl (hb hby at_84) rfl k) ?_
        show own_Ends p.tables e below s _ _ _ (s₁.setTop (mkF m 85 #[.val (.long y0_0), .second, .val (.long y1_0), .second, .val (.long y2_0), .second, .val (.long y3_0), .second, .val (.int x4_0), .val (.int x5_0), .val (.int (x5_0 &&& (3 : Int32))), .val (.int (0 : Int32)), .val (.int (1 : Int32)), .val (.int (1 : Int32)), .val (.int (((x5_0.toUInt32 >>> ((5 : Int32) &&& 31).toUInt32).toInt32) &&& (127 : Int32))), .val (.int ((x5_0.toUInt32 >>> ((12 : Int32) &&& 31).toUInt32).toInt32)), .val (.int (x4_0 &&& (2147483647 : Int32))), .unset, .unset, .unset, .unset, .val (.long (y2_0 ||| (1 : Int64))), .second, .unset, .unset, .unset, .unset, .unset, .unset, .unset] [(.long y0_0)]))
        refine own_step (fun t k => X0.ldc2Long hx hown (mvT hZ (hw _ (List.mem_of_getElem? (i := 44) rfl))) (g := (mkF m 85 #[.val (.long y0_0), .second, .val (.long y1_0), .second, .val (.long y2_0), .second, .val (.long y3_0), .second, .val (.int x4_0), .val (.int x5_0), .val (.int (x5_0 &&& (3 : Int32))), .val (.int (0 : Int32)), .val (.int (1 : Int32)), .val (.int (1 : Int32)), .val (.int (((x5_0.toUInt32 >>> ((5 : Int32) &&& 31).toUInt32).toInt32) &&& (127 : Int32))), .val (.int ((x5_0.toUInt32 >>> ((12 : Int32) &&& 31).toUInt32).toInt32)), .val (.int (x4_0 &&& (2147483647 : Int32))), .unset, .unset, .unset, .unset, .val (.long (y2_0 ||| (1 : Int64))), .second, .unset, .unset, .unset, .unset, .unset, .unset, .unset] [(.long y0_0)])) rfl (hb hby at_85) _ k) ?_
        refine own_step (fun t k => XS.lload X0.here hx rfl (hb hby at_88) rfl k) ?_
        refine own_step (fun t k => XS.lmul X0.here hx rfl (hb hby at_90) rfl k) ?_
        refine own_step (fun t k => XS.ladd X0.here hx rfl (hb hby at_91) rfl k) ?_
        refine own_step (fun t k => XS.lstore X0.here hx rfl (hb hby at_92) rfl (l' := #[.val (.long y0_0), .second, .val (.long y1_0), .second, .val (.long y2_0), .second, .val (.long y3_0), .second, .val (.int x4_0), .val (.int x5_0), .val (.int (x5_0 &&& (3 : Int32))), .val (.int (0 : Int32)), .val (.int (1 : Int32)), .val (.int (1 : Int32)), .val (.int (((x5_0.toUInt32 >>> ((5 : Int32) &&& 31).toUInt32).toInt32) &&& (127 : Int32))), .val (.int ((x5_0.toUInt32 >>> ((12 : Int32) &&& 31).toUInt32).toInt32)), .val (.int (x4_0 &&& (2147483647 : Int32))), .val (.long (y0_0 + ((-4417276706812531889 : Int64) * (y2_0 ||| (1 : Int64))))), .second, .unset, .unset, .val (.long (y2_0 ||| (1 : Int64))), .second, .unset, .unset, .unset, .unset, .unset, .unset, .unset]) rfl k) ?_
        refine own_step (fun t k => XS.lloadN X0.here hx rfl (hb hby at_94) rfl k) ?_
        show own_Ends p.tables e below s _ _ _ (s₁.setTop (mkF m 95 #[.val (.long y0_0), .second, .val (.long y1_0), .second, .val (.long y2_0), .second, .val (.long y3_0), .second, .val (.int x4_0), .val (.int x5_0), .val (.int (x5_0 &&& (3 : Int32))), .val (.int (0 : Int32)), .val (.int (1 : Int32)), .val (.int (1 : Int32)), .val (.int (((x5_0.toUInt32 >>> ((5 : Int32) &&& 31).toUInt32).toInt32) &&& (127 : Int32))), .val (.int ((x5_0.toUInt32 >>> ((12 : Int32) &&& 31).toUInt32).toInt32)), .val (.int (x4_0 &&& (2147483647 : Int32))), .val (.long (y0_0 + ((-4417276706812531889 : Int64) * (y2_0 ||| (1 : Int64))))), .second, .unset, .unset, .val (.long (y2_0 ||| (1 : Int64))), .second, .unset, .unset, .unset, .unset, .unset, .unset, .unset] [(.long y1_0)]))
        refine own_step (fun t k => X0.ldc2Long hx hown (mvT hZ (hw _ (List.mem_of_getElem? (i := 45) rfl))) (g := (mkF m 95 #[.val (.long y0_0), .second, .val (.long y1_0), .second, .val (.long y2_0), .second, .val (.long y3_0), .second, .val (.int x4_0), .val (.int x5_0), .val (.int (x5_0 &&& (3 : Int32))), .val (.int (0 : Int32)), .val (.int (1 : Int32)), .val (.int (1 : Int32)), .val (.int (((x5_0.toUInt32 >>> ((5 : Int32) &&& 31).toUInt32).toInt32) &&& (127 : Int32))), .val (.int ((x5_0.toUInt32 >>> ((12 : Int32) &&& 31).toUInt32).toInt32)), .val (.int (x4_0 &&& (2147483647 : Int32))), .val (.long (y0_0 + ((-4417276706812531889 : Int64) * (y2_0 ||| (1 : Int64))))), .second, .unset, .unset, .val (.long (y2_0 ||| (1 : Int64))), .second, .unset, .unset, .unset, .unset, .unset, .unset, .unset] [(.long y1_0)])) rfl (hb hby at_95) _ k) ?_
        refine own_step (fun t k => XS.lload X0.here hx rfl (hb hby at_98) rfl k) ?_
        refine own_step (fun t k => XS.lmul X0.here hx rfl (hb hby at_100) rfl k) ?_
        refine own_step (fun t k => XS.lsub X0.here hx rfl (hb hby at_101) rfl k) ?_
        refine own_step (fun t k => XS.lstore X0.here hx rfl (hb hby at_102) rfl (l' := #[.val (.long y0_0), .second, .val (.long y1_0), .second, .val (.long y2_0), .second, .val (.long y3_0), .second, .val (.int x4_0), .val (.int x5_0), .val (.int (x5_0 &&& (3 : Int32))), .val (.int (0 : Int32)), .val (.int (1 : Int32)), .val (.int (1 : Int32)), .val (.int (((x5_0.toUInt32 >>> ((5 : Int32) &&& 31).toUInt32).toInt32) &&& (127 : Int32))), .val (.int ((x5_0.toUInt32 >>> ((12 : Int32) &&& 31).toUInt32).toInt32)), .val (.int (x4_0 &&& (2147483647 : Int32))), .val (.long (y0_0 + ((-4417276706812531889 : Int64) * (y2_0 ||| (1 : Int64))))), .second, .val (.long (y1_0 - ((-7046029254386353131 : Int64) * (y2_0 ||| (1 : Int64))))), .second, .val (.long (y2_0 ||| (1 : Int64))), .second, .unset, .unset, .unset, .unset, .unset, .unset, .unset]) rfl k) ?_
        refine own_step (fun t k => XS.goto X0.here hx rfl (pc0 := 104) (pc' := 115) rfl (hb hby at_104) (by decide) (by decide) k) ?_
        refine own_step (fun t k => XS.iload X0.here hx rfl (hb hby at_115) rfl k) ?_
        show own_Ends p.tables e below s _ _ _ (s₁.setTop (mkF m 117 #[.val (.long y0_0), .second, .val (.long y1_0), .second, .val (.long y2_0), .second, .val (.long y3_0), .second, .val (.int x4_0), .val (.int x5_0), .val (.int (x5_0 &&& (3 : Int32))), .val (.int (0 : Int32)), .val (.int (1 : Int32)), .val (.int (1 : Int32)), .val (.int (((x5_0.toUInt32 >>> ((5 : Int32) &&& 31).toUInt32).toInt32) &&& (127 : Int32))), .val (.int ((x5_0.toUInt32 >>> ((12 : Int32) &&& 31).toUInt32).toInt32)), .val (.int (x4_0 &&& (2147483647 : Int32))), .val (.long (y0_0 + ((-4417276706812531889 : Int64) * (y2_0 ||| (1 : Int64))))), .second, .val (.long (y1_0 - ((-7046029254386353131 : Int64) * (y2_0 ||| (1 : Int64))))), .second, .val (.long (y2_0 ||| (1 : Int64))), .second, .unset, .unset, .unset, .unset, .unset, .unset, .unset] [(.int (x5_0 &&& (3 : Int32)))]))
        by_cases hc117_75 : (x5_0 &&& (3 : Int32)) = (0 : Int32)
        · skip
          refine own_step (fun t k => XS.ifNo X0.here hx rfl (hb hby at_117) rfl ((if0 _ _).trans (teq hc117_75).2) k) ?_
          refine own_step (fun t k => XS.lloadN X0.here hx rfl (hb hby at_120) rfl k) ?_
          refine own_step (fun t k => XS.lstore X0.here hx rfl (hb hby at_121) rfl (l' := #[.val (.long y0_0), .second, .val (.long y1_0), .second, .val (.long y2_0), .second, .val (.long y3_0), .second, .val (.int x4_0), .val (.int x5_0), .val (.int (x5_0 &&& (3 : Int32))), .val (.int (0 : Int32)), .val (.int (1 : Int32)), .val (.int (1 : Int32)), .val (.int (((x5_0.toUInt32 >>> ((5 : Int32) &&& 31).toUInt32).toInt32) &&& (127 : Int32))), .val (.int ((x5_0.toUInt32 >>> ((12 : Int32) &&& 31).toUInt32).toInt32)), .val (.int (x4_0 &&& (2147483647 : Int32))), .val (.long (y0_0 + ((-4417276706812531889 : Int64) * (y2_0 ||| (1 : Int64))))), .second, .val (.long (y1_0 - ((-7046029254386353131 : Int64) * (y2_0 ||| (1 : Int64))))), .second, .val (.long y0_0), .second, .unset, .unset, .unset, .unset, .unset, .unset, .unset]) rfl k) ?_
          refine own_step (fun t k => XS.lloadN X0.here hx rfl (hb hby at_123) rfl k) ?_
          refine own_step (fun t k => XS.lstore X0.here hx rfl (hb hby at_124) rfl (l' := #[.val (.long y0_0), .second, .val (.long y1_0), .second, .val (.long y2_0), .second, .val (.long y3_0), .second, .val (.int x4_0), .val (.int x5_0), .val (.int (x5_0 &&& (3 : Int32))), .val (.int (0 : Int32)), .val (.int (1 : Int32)), .val (.int (1 : Int32)), .val (.int (((x5_0.toUInt32 >>> ((5 : Int32) &&& 31).toUInt32).toInt32) &&& (127 : Int32))), .val (.int ((x5_0.toUInt32 >>> ((12 : Int32) &&& 31).toUInt32).toInt32)), .val (.int (x4_0 &&& (2147483647 : Int32))), .val (.long (y0_0 + ((-4417276706812531889 : Int64) * (y2_0 ||| (1 : Int64))))), .second, .val (.long (y1_0 - ((-7046029254386353131 : Int64) * (y2_0 ||| (1 : Int64))))), .second, .val (.long y0_0), .second, .val (.long y1_0), .second, .unset, .unset, .unset, .unset, .unset]) rfl k) ?_
          refine own_step (fun t k => XS.goto X0.here hx rfl (pc0 := 126) (pc' := 169) rfl (hb hby at_126) (by decide) (by decide) k) ?_
          show own_Ends p.tables e below s _ _ _ (s₁.setTop (mkF m 169 #[.val (.long y0_0), .second, .val (.long y1_0), .second, .val (.long y2_0), .second, .val (.long y3_0), .second, .val (.int x4_0), .val (.int x5_0), .val (.int (x5_0 &&& (3 : Int32))), .val (.int (0 : Int32)), .val (.int (1 : Int32)), .val (.int (1 : Int32)), .val (.int (((x5_0.toUInt32 >>> ((5 : Int32) &&& 31).toUInt32).toInt32) &&& (127 : Int32))), .val (.int ((x5_0.toUInt32 >>> ((12 : Int32) &&& 31).toUInt32).toInt32)), .val (.int (x4_0 &&& (2147483647 : Int32))), .val (.long (y0_0 + ((-4417276706812531889 : Int64) * (y2_0 ||| (1 : Int64))))), .second, .val (.long (y1_0 - ((-7046029254386353131 : Int64) * (y2_0 ||| (1 : Int64))))), .second, .val (.long y0_0), .second, .val (.long y1_0), .second, .unset, .unset, .unset, .unset, .unset] []))
          exact tail169 (x5_0 &&& (3 : Int32)) (0 : Int32) (1 : Int32) (1 : Int32) (((x5_0.toUInt32 >>> ((5 : Int32) &&& 31).toUInt32).toInt32) &&& (127 : Int32)) ((x5_0.toUInt32 >>> ((12 : Int32) &&& 31).toUInt32).toInt32) (x4_0 &&& (2147483647 : Int32)) (y0_0 + ((-4417276706812531889 : Int64) * (y2_0 ||| (1 : Int64)))) (y1_0 - ((-7046029254386353131 : Int64) * (y2_0 ||| (1 : Int64)))) y0_0 y1_0 (own_m127 _) (own_m31 _) (own_u12 _)
        · skip
          refine own_step (fun t k => XS.ifYes X0.here hx rfl (pc0 := 117) (pc' := 129) rfl (hb hby at_117) rfl ((if0 _ _).trans (feq hc117_75).2) (by decide) (by decide) k) ?_
          refine own_step (fun t k => XS.iload X0.here hx rfl (hb hby at_129) rfl k) ?_
          refine own_step (fun t k => XS.iconst X0.here hx rfl (hb hby at_131) k) ?_
          show own_Ends p.tables e below s _ _ _ (s₁.setTop (mkF m 132 #[.val (.long y0_0), .second, .val (.long y1_0), .second, .val (.long y2_0), .second, .val (.long y3_0), .second, .val (.int x4_0), .val (.int x5_0), .val (.int (x5_0 &&& (3 : Int32))), .val (.int (0 : Int32)), .val (.int (1 : Int32)), .val (.int (1 : Int32)), .val (.int (((x5_0.toUInt32 >>> ((5 : Int32) &&& 31).toUInt32).toInt32) &&& (127 : Int32))), .val (.int ((x5_0.toUInt32 >>> ((12 : Int32) &&& 31).toUInt32).toInt32)), .val (.int (x4_0 &&& (2147483647 : Int32))), .val (.long (y0_0 + ((-4417276706812531889 : Int64) * (y2_0 ||| (1 : Int64))))), .second, .val (.long (y1_0 - ((-7046029254386353131 : Int64) * (y2_0 ||| (1 : Int64))))), .second, .val (.long (y2_0 ||| (1 : Int64))), .second, .unset, .unset, .unset, .unset, .unset, .unset, .unset] [(.int (1 : Int32)), (.int (x5_0 &&& (3 : Int32)))]))
          by_cases hc132_76 : (x5_0 &&& (3 : Int32)) = (1 : Int32)
          · skip
            refine own_step (fun t k => XS.icmpNo X0.here hx rfl (hb hby at_132) rfl (teq hc132_76).2 k) ?_
            refine own_step (fun t k => XS.lload X0.here hx rfl (hb hby at_135) rfl k) ?_
            refine own_step (fun t k => XS.lstore X0.here hx rfl (hb hby at_137) rfl (l' := #[.val (.long y0_0), .second, .val (.long y1_0), .second, .val (.long y2_0), .second, .val (.long y3_0), .second, .val (.int x4_0), .val (.int x5_0), .val (.int (x5_0 &&& (3 : Int32))), .val (.int (0 : Int32)), .val (.int (1 : Int32)), .val (.int (1 : Int32)), .val (.int (((x5_0.toUInt32 >>> ((5 : Int32) &&& 31).toUInt32).toInt32) &&& (127 : Int32))), .val (.int ((x5_0.toUInt32 >>> ((12 : Int32) &&& 31).toUInt32).toInt32)), .val (.int (x4_0 &&& (2147483647 : Int32))), .val (.long (y0_0 + ((-4417276706812531889 : Int64) * (y2_0 ||| (1 : Int64))))), .second, .val (.long (y1_0 - ((-7046029254386353131 : Int64) * (y2_0 ||| (1 : Int64))))), .second, .val (.long (y0_0 + ((-4417276706812531889 : Int64) * (y2_0 ||| (1 : Int64))))), .second, .unset, .unset, .unset, .unset, .unset, .unset, .unset]) rfl k) ?_
            refine own_step (fun t k => XS.lload X0.here hx rfl (hb hby at_139) rfl k) ?_
            refine own_step (fun t k => XS.lstore X0.here hx rfl (hb hby at_141) rfl (l' := #[.val (.long y0_0), .second, .val (.long y1_0), .second, .val (.long y2_0), .second, .val (.long y3_0), .second, .val (.int x4_0), .val (.int x5_0), .val (.int (x5_0 &&& (3 : Int32))), .val (.int (0 : Int32)), .val (.int (1 : Int32)), .val (.int (1 : Int32)), .val (.int (((x5_0.toUInt32 >>> ((5 : Int32) &&& 31).toUInt32).toInt32) &&& (127 : Int32))), .val (.int ((x5_0.toUInt32 >>> ((12 : Int32) &&& 31).toUInt32).toInt32)), .val (.int (x4_0 &&& (2147483647 : Int32))), .val (.long (y0_0 + ((-4417276706812531889 : Int64) * (y2_0 ||| (1 : Int64))))), .second, .val (.long (y1_0 - ((-7046029254386353131 : Int64) * (y2_0 ||| (1 : Int64))))), .second, .val (.long (y0_0 + ((-4417276706812531889 : Int64) * (y2_0 ||| (1 : Int64))))), .second, .val (.long (y1_0 - ((-7046029254386353131 : Int64) * (y2_0 ||| (1 : Int64))))), .second, .unset, .unset, .unset, .unset, .unset]) rfl k) ?_
            refine own_step (fun t k => XS.goto X0.here hx rfl (pc0 := 143) (pc' := 169) rfl (hb hby at_143) (by decide) (by decide) k) ?_
            show own_Ends p.tables e below s _ _ _ (s₁.setTop (mkF m 169 #[.val (.long y0_0), .second, .val (.long y1_0), .second, .val (.long y2_0), .second, .val (.long y3_0), .second, .val (.int x4_0), .val (.int x5_0), .val (.int (x5_0 &&& (3 : Int32))), .val (.int (0 : Int32)), .val (.int (1 : Int32)), .val (.int (1 : Int32)), .val (.int (((x5_0.toUInt32 >>> ((5 : Int32) &&& 31).toUInt32).toInt32) &&& (127 : Int32))), .val (.int ((x5_0.toUInt32 >>> ((12 : Int32) &&& 31).toUInt32).toInt32)), .val (.int (x4_0 &&& (2147483647 : Int32))), .val (.long (y0_0 + ((-4417276706812531889 : Int64) * (y2_0 ||| (1 : Int64))))), .second, .val (.long (y1_0 - ((-7046029254386353131 : Int64) * (y2_0 ||| (1 : Int64))))), .second, .val (.long (y0_0 + ((-4417276706812531889 : Int64) * (y2_0 ||| (1 : Int64))))), .second, .val (.long (y1_0 - ((-7046029254386353131 : Int64) * (y2_0 ||| (1 : Int64))))), .second, .unset, .unset, .unset, .unset, .unset] []))
            exact tail169 (x5_0 &&& (3 : Int32)) (0 : Int32) (1 : Int32) (1 : Int32) (((x5_0.toUInt32 >>> ((5 : Int32) &&& 31).toUInt32).toInt32) &&& (127 : Int32)) ((x5_0.toUInt32 >>> ((12 : Int32) &&& 31).toUInt32).toInt32) (x4_0 &&& (2147483647 : Int32)) (y0_0 + ((-4417276706812531889 : Int64) * (y2_0 ||| (1 : Int64)))) (y1_0 - ((-7046029254386353131 : Int64) * (y2_0 ||| (1 : Int64)))) (y0_0 + ((-4417276706812531889 : Int64) * (y2_0 ||| (1 : Int64)))) (y1_0 - ((-7046029254386353131 : Int64) * (y2_0 ||| (1 : Int64)))) (own_m127 _) (own_m31 _) (own_u12 _)
          · skip
            refine own_step (fun t k => XS.icmpYes X0.here hx rfl (pc0 := 132) (pc' := 146) rfl (hb hby at_132) rfl (feq hc132_76).2 (by decide) (by decide) k) ?_
            refine own_step (fun t k => XS.iload X0.here hx rfl (hb hby at_146) rfl k) ?_
            refine own_step (fun t k => XS.iconst X0.here hx rfl (hb hby at_148) k) ?_
            show own_Ends p.tables e below s _ _ _ (s₁.setTop (mkF m 149 #[.val (.long y0_0), .second, .val (.long y1_0), .second, .val (.long y2_0), .second, .val (.long y3_0), .second, .val (.int x4_0), .val (.int x5_0), .val (.int (x5_0 &&& (3 : Int32))), .val (.int (0 : Int32)), .val (.int (1 : Int32)), .val (.int (1 : Int32)), .val (.int (((x5_0.toUInt32 >>> ((5 : Int32) &&& 31).toUInt32).toInt32) &&& (127 : Int32))), .val (.int ((x5_0.toUInt32 >>> ((12 : Int32) &&& 31).toUInt32).toInt32)), .val (.int (x4_0 &&& (2147483647 : Int32))), .val (.long (y0_0 + ((-4417276706812531889 : Int64) * (y2_0 ||| (1 : Int64))))), .second, .val (.long (y1_0 - ((-7046029254386353131 : Int64) * (y2_0 ||| (1 : Int64))))), .second, .val (.long (y2_0 ||| (1 : Int64))), .second, .unset, .unset, .unset, .unset, .unset, .unset, .unset] [(.int (2 : Int32)), (.int (x5_0 &&& (3 : Int32)))]))
            by_cases hc149_77 : (x5_0 &&& (3 : Int32)) = (2 : Int32)
            · skip
              refine own_step (fun t k => XS.icmpNo X0.here hx rfl (hb hby at_149) rfl (teq hc149_77).2 k) ?_
              refine own_step (fun t k => XS.lloadN X0.here hx rfl (hb hby at_152) rfl k) ?_
              refine own_step (fun t k => XS.lstore X0.here hx rfl (hb hby at_153) rfl (l' := #[.val (.long y0_0), .second, .val (.long y1_0), .second, .val (.long y2_0), .second, .val (.long y3_0), .second, .val (.int x4_0), .val (.int x5_0), .val (.int (x5_0 &&& (3 : Int32))), .val (.int (0 : Int32)), .val (.int (1 : Int32)), .val (.int (1 : Int32)), .val (.int (((x5_0.toUInt32 >>> ((5 : Int32) &&& 31).toUInt32).toInt32) &&& (127 : Int32))), .val (.int ((x5_0.toUInt32 >>> ((12 : Int32) &&& 31).toUInt32).toInt32)), .val (.int (x4_0 &&& (2147483647 : Int32))), .val (.long (y0_0 + ((-4417276706812531889 : Int64) * (y2_0 ||| (1 : Int64))))), .second, .val (.long (y1_0 - ((-7046029254386353131 : Int64) * (y2_0 ||| (1 : Int64))))), .second, .val (.long y0_0), .second, .unset, .unset, .unset, .unset, .unset, .unset, .unset]) rfl k) ?_
              refine own_step (fun t k => XS.lload X0.here hx rfl (hb hby at_155) rfl k) ?_
              refine own_step (fun t k => XS.lstore X0.here hx rfl (hb hby at_157) rfl (l' := #[.val (.long y0_0), .second, .val (.long y1_0), .second, .val (.long y2_0), .second, .val (.long y3_0), .second, .val (.int x4_0), .val (.int x5_0), .val (.int (x5_0 &&& (3 : Int32))), .val (.int (0 : Int32)), .val (.int (1 : Int32)), .val (.int (1 : Int32)), .val (.int (((x5_0.toUInt32 >>> ((5 : Int32) &&& 31).toUInt32).toInt32) &&& (127 : Int32))), .val (.int ((x5_0.toUInt32 >>> ((12 : Int32) &&& 31).toUInt32).toInt32)), .val (.int (x4_0 &&& (2147483647 : Int32))), .val (.long (y0_0 + ((-4417276706812531889 : Int64) * (y2_0 ||| (1 : Int64))))), .second, .val (.long (y1_0 - ((-7046029254386353131 : Int64) * (y2_0 ||| (1 : Int64))))), .second, .val (.long y0_0), .second, .val (.long (y1_0 - ((-7046029254386353131 : Int64) * (y2_0 ||| (1 : Int64))))), .second, .unset, .unset, .unset, .unset, .unset]) rfl k) ?_
              refine own_step (fun t k => XS.goto X0.here hx rfl (pc0 := 159) (pc' := 169) rfl (hb hby at_159) (by decide) (by decide) k) ?_
              show own_Ends p.tables e below s _ _ _ (s₁.setTop (mkF m 169 #[.val (.long y0_0), .second, .val (.long y1_0), .second, .val (.long y2_0), .second, .val (.long y3_0), .second, .val (.int x4_0), .val (.int x5_0), .val (.int (x5_0 &&& (3 : Int32))), .val (.int (0 : Int32)), .val (.int (1 : Int32)), .val (.int (1 : Int32)), .val (.int (((x5_0.toUInt32 >>> ((5 : Int32) &&& 31).toUInt32).toInt32) &&& (127 : Int32))), .val (.int ((x5_0.toUInt32 >>> ((12 : Int32) &&& 31).toUInt32).toInt32)), .val (.int (x4_0 &&& (2147483647 : Int32))), .val (.long (y0_0 + ((-4417276706812531889 : Int64) * (y2_0 ||| (1 : Int64))))), .second, .val (.long (y1_0 - ((-7046029254386353131 : Int64) * (y2_0 ||| (1 : Int64))))), .second, .val (.long y0_0), .second, .val (.long (y1_0 - ((-7046029254386353131 : Int64) * (y2_0 ||| (1 : Int64))))), .second, .unset, .unset, .unset, .unset, .unset] []))
              exact tail169 (x5_0 &&& (3 : Int32)) (0 : Int32) (1 : Int32) (1 : Int32) (((x5_0.toUInt32 >>> ((5 : Int32) &&& 31).toUInt32).toInt32) &&& (127 : Int32)) ((x5_0.toUInt32 >>> ((12 : Int32) &&& 31).toUInt32).toInt32) (x4_0 &&& (2147483647 : Int32)) (y0_0 + ((-4417276706812531889 : Int64) * (y2_0 ||| (1 : Int64)))) (y1_0 - ((-7046029254386353131 : Int64) * (y2_0 ||| (1 : Int64)))) y0_0 (y1_0 - ((-7046029254386353131 : Int64) * (y2_0 ||| (1 : Int64)))) (own_m127 _) (own_m31 _) (own_u12 _)
            · skip
              refine own_step (fun t k => XS.icmpYes X0.here hx rfl (pc0 := 149) (pc' := 162) rfl (hb hby at_149) rfl (feq hc149_77).2 (by decide) (by decide) k) ?_
              refine own_step (fun t k => XS.lload X0.here hx rfl (hb hby at_162) rfl k) ?_
              refine own_step (fun t k => XS.lstore X0.here hx rfl (hb hby at_164) rfl (l' := #[.val (.long y0_0), .second, .val (.long y1_0), .second, .val (.long y2_0), .second, .val (.long y3_0), .second, .val (.int x4_0), .val (.int x5_0), .val (.int (x5_0 &&& (3 : Int32))), .val (.int (0 : Int32)), .val (.int (1 : Int32)), .val (.int (1 : Int32)), .val (.int (((x5_0.toUInt32 >>> ((5 : Int32) &&& 31).toUInt32).toInt32) &&& (127 : Int32))), .val (.int ((x5_0.toUInt32 >>> ((12 : Int32) &&& 31).toUInt32).toInt32)), .val (.int (x4_0 &&& (2147483647 : Int32))), .val (.long (y0_0 + ((-4417276706812531889 : Int64) * (y2_0 ||| (1 : Int64))))), .second, .val (.long (y1_0 - ((-7046029254386353131 : Int64) * (y2_0 ||| (1 : Int64))))), .second, .val (.long (y0_0 + ((-4417276706812531889 : Int64) * (y2_0 ||| (1 : Int64))))), .second, .unset, .unset, .unset, .unset, .unset, .unset, .unset]) rfl k) ?_
              refine own_step (fun t k => XS.lloadN X0.here hx rfl (hb hby at_166) rfl k) ?_
              refine own_step (fun t k => XS.lstore X0.here hx rfl (hb hby at_167) rfl (l' := #[.val (.long y0_0), .second, .val (.long y1_0), .second, .val (.long y2_0), .second, .val (.long y3_0), .second, .val (.int x4_0), .val (.int x5_0), .val (.int (x5_0 &&& (3 : Int32))), .val (.int (0 : Int32)), .val (.int (1 : Int32)), .val (.int (1 : Int32)), .val (.int (((x5_0.toUInt32 >>> ((5 : Int32) &&& 31).toUInt32).toInt32) &&& (127 : Int32))), .val (.int ((x5_0.toUInt32 >>> ((12 : Int32) &&& 31).toUInt32).toInt32)), .val (.int (x4_0 &&& (2147483647 : Int32))), .val (.long (y0_0 + ((-4417276706812531889 : Int64) * (y2_0 ||| (1 : Int64))))), .second, .val (.long (y1_0 - ((-7046029254386353131 : Int64) * (y2_0 ||| (1 : Int64))))), .second, .val (.long (y0_0 + ((-4417276706812531889 : Int64) * (y2_0 ||| (1 : Int64))))), .second, .val (.long y1_0), .second, .unset, .unset, .unset, .unset, .unset]) rfl k) ?_
              show own_Ends p.tables e below s _ _ _ (s₁.setTop (mkF m 169 #[.val (.long y0_0), .second, .val (.long y1_0), .second, .val (.long y2_0), .second, .val (.long y3_0), .second, .val (.int x4_0), .val (.int x5_0), .val (.int (x5_0 &&& (3 : Int32))), .val (.int (0 : Int32)), .val (.int (1 : Int32)), .val (.int (1 : Int32)), .val (.int (((x5_0.toUInt32 >>> ((5 : Int32) &&& 31).toUInt32).toInt32) &&& (127 : Int32))), .val (.int ((x5_0.toUInt32 >>> ((12 : Int32) &&& 31).toUInt32).toInt32)), .val (.int (x4_0 &&& (2147483647 : Int32))), .val (.long (y0_0 + ((-4417276706812531889 : Int64) * (y2_0 ||| (1 : Int64))))), .second, .val (.long (y1_0 - ((-7046029254386353131 : Int64) * (y2_0 ||| (1 : Int64))))), .second, .val (.long (y0_0 + ((-4417276706812531889 : Int64) * (y2_0 ||| (1 : Int64))))), .second, .val (.long y1_0), .second, .unset, .unset, .unset, .unset, .unset] []))
              exact tail169 (x5_0 &&& (3 : Int32)) (0 : Int32) (1 : Int32) (1 : Int32) (((x5_0.toUInt32 >>> ((5 : Int32) &&& 31).toUInt32).toInt32) &&& (127 : Int32)) ((x5_0.toUInt32 >>> ((12 : Int32) &&& 31).toUInt32).toInt32) (x4_0 &&& (2147483647 : Int32)) (y0_0 + ((-4417276706812531889 : Int64) * (y2_0 ||| (1 : Int64)))) (y1_0 - ((-7046029254386353131 : Int64) * (y2_0 ||| (1 : Int64)))) (y0_0 + ((-4417276706812531889 : Int64) * (y2_0 ||| (1 : Int64)))) y1_0 (own_m127 _) (own_m31 _) (own_u12 _)
  · skip
    refine own_step (fun t k => XS.ifNo X0.here hx rfl (hb hby at_10) rfl ((if0 _ _).trans (feq hc10_62).1) k) ?_
    refine own_step (fun t k => XS.iconst X0.here hx rfl (hb hby at_13) k) ?_
    refine own_step (fun t k => XS.goto X0.here hx rfl (pc0 := 14) (pc' := 18) rfl (hb hby at_14) (by decide) (by decide) k) ?_
    refine own_step (fun t k => XS.istore X0.here hx rfl (hb hby at_18) rfl (l' := #[.val (.long y0_0), .second, .val (.long y1_0), .second, .val (.long y2_0), .second, .val (.long y3_0), .second, .val (.int x4_0), .val (.int x5_0), .val (.int (x5_0 &&& (3 : Int32))), .val (.int (1 : Int32)), .unset, .unset, .unset, .unset, .unset, .unset, .unset, .unset, .unset, .unset, .unset, .unset, .unset, .unset, .unset, .unset, .unset, .unset]) rfl k) ?_
    refine own_step (fun t k => XS.iload X0.here hx rfl (hb hby at_20) rfl k) ?_
    refine own_step (fun t k => XS.bipush X0.here hx rfl (hb hby at_22) k) ?_
    refine own_step (fun t k => XS.iand X0.here hx rfl (hb hby at_24) rfl k) ?_
    show own_Ends p.tables e below s _ _ _ (s₁.setTop (mkF m 25 #[.val (.long y0_0), .second, .val (.long y1_0), .second, .val (.long y2_0), .second, .val (.long y3_0), .second, .val (.int x4_0), .val (.int x5_0), .val (.int (x5_0 &&& (3 : Int32))), .val (.int (1 : Int32)), .unset, .unset, .unset, .unset, .unset, .unset, .unset, .unset, .unset, .unset, .unset, .unset, .unset, .unset, .unset, .unset, .unset, .unset] [(.int (x5_0 &&& (8 : Int32)))]))
    by_cases hc25_78 : (x5_0 &&& (8 : Int32)) = (0 : Int32)
    · skip
      refine own_step (fun t k => XS.ifYes X0.here hx rfl (pc0 := 25) (pc' := 32) rfl (hb hby at_25) rfl ((if0 _ _).trans (teq hc25_78).1) (by decide) (by decide) k) ?_
      refine own_step (fun t k => XS.iconst X0.here hx rfl (hb hby at_32) k) ?_
      refine own_step (fun t k => XS.istore X0.here hx rfl (hb hby at_33) rfl (l' := #[.val (.long y0_0), .second, .val (.long y1_0), .second, .val (.long y2_0), .second, .val (.long y3_0), .second, .val (.int x4_0), .val (.int x5_0), .val (.int (x5_0 &&& (3 : Int32))), .val (.int (1 : Int32)), .val (.int (0 : Int32)), .unset, .unset, .unset, .unset, .unset, .unset, .unset, .unset, .unset, .unset, .unset, .unset, .unset, .unset, .unset, .unset, .unset]) rfl k) ?_
      refine own_step (fun t k => XS.iload X0.here hx rfl (hb hby at_35) rfl k) ?_
      refine own_step (fun t k => XS.bipush X0.here hx rfl (hb hby at_37) k) ?_
      refine own_step (fun t k => XS.iand X0.here hx rfl (hb hby at_39) rfl k) ?_
      show own_Ends p.tables e below s _ _ _ (s₁.setTop (mkF m 40 #[.val (.long y0_0), .second, .val (.long y1_0), .second, .val (.long y2_0), .second, .val (.long y3_0), .second, .val (.int x4_0), .val (.int x5_0), .val (.int (x5_0 &&& (3 : Int32))), .val (.int (1 : Int32)), .val (.int (0 : Int32)), .unset, .unset, .unset, .unset, .unset, .unset, .unset, .unset, .unset, .unset, .unset, .unset, .unset, .unset, .unset, .unset, .unset] [(.int (x5_0 &&& (16 : Int32)))]))
      by_cases hc40_79 : (x5_0 &&& (16 : Int32)) = (0 : Int32)
      · skip
        refine own_step (fun t k => XS.ifYes X0.here hx rfl (pc0 := 40) (pc' := 47) rfl (hb hby at_40) rfl ((if0 _ _).trans (teq hc40_79).1) (by decide) (by decide) k) ?_
        refine own_step (fun t k => XS.iconst X0.here hx rfl (hb hby at_47) k) ?_
        refine own_step (fun t k => XS.istore X0.here hx rfl (hb hby at_48) rfl (l' := #[.val (.long y0_0), .second, .val (.long y1_0), .second, .val (.long y2_0), .second, .val (.long y3_0), .second, .val (.int x4_0), .val (.int x5_0), .val (.int (x5_0 &&& (3 : Int32))), .val (.int (1 : Int32)), .val (.int (0 : Int32)), .val (.int (0 : Int32)), .unset, .unset, .unset, .unset, .unset, .unset, .unset, .unset, .unset, .unset, .unset, .unset, .unset, .unset, .unset, .unset]) rfl k) ?_
        refine own_step (fun t k => XS.iload X0.here hx rfl (hb hby at_50) rfl k) ?_
        refine own_step (fun t k => XS.iconst X0.here hx rfl (hb hby at_52) k) ?_
        refine own_step (fun t k => XS.iushr X0.here hx rfl (hb hby at_53) rfl k) ?_
        refine own_step (fun t k => XS.bipush X0.here hx rfl (hb hby at_54) k) ?_
        show own_Ends p.tables e below s _ _ _ (s₁.setTop (mkF m 56 #[.val (.long y0_0), .second, .val (.long y1_0), .second, .val (.long y2_0), .second, .val (.long y3_0), .second, .val (.int x4_0), .val (.int x5_0), .val (.int (x5_0 &&& (3 : Int32))), .val (.int (1 : Int32)), .val (.int (0 : Int32)), .val (.int (0 : Int32)), .unset, .unset, .unset, .unset, .unset, .unset, .unset, .unset, .unset, .unset, .unset, .unset, .unset, .unset, .unset, .unset] [(.int (127 : Int32)), (.int ((x5_0.toUInt32 >>> ((5 : Int32) &&& 31).toUInt32).toInt32))]))
        refine own_step (fun t k => XS.iand X0.here hx rfl (hb hby at_56) rfl k) ?_
        refine own_step (fun t k => XS.istore X0.here hx rfl (hb hby at_57) rfl (l' := #[.val (.long y0_0), .second, .val (.long y1_0), .second, .val (.long y2_0), .second, .val (.long y3_0), .second, .val (.int x4_0), .val (.int x5_0), .val (.int (x5_0 &&& (3 : Int32))), .val (.int (1 : Int32)), .val (.int (0 : Int32)), .val (.int (0 : Int32)), .val (.int (((x5_0.toUInt32 >>> ((5 : Int32) &&& 31).toUInt32).toInt32) &&& (127 : Int32))), .unset, .unset, .unset, .unset, .unset, .unset, .unset, .unset, .unset, .unset, .unset, .unset, .unset, .unset, .unset]) rfl k) ?_
        refine own_step (fun t k => XS.iload X0.here hx rfl (hb hby at_59) rfl k) ?_
        refine own_step (fun t k => XS.bipush X0.here hx rfl (hb hby at_61) k) ?_
        refine own_step (fun t k => XS.iushr X0.here hx rfl (hb hby at_63) rfl k) ?_
        refine own_step (fun t k => XS.istore X0.here hx rfl (hb hby at_64) rfl (l' := #[.val (.long y0_0), .second, .val (.long y1_0), .second, .val (.long y2_0), .second, .val (.long y3_0), .second, .val (.int x4_0), .val (.int x5_0), .val (.int (x5_0 &&& (3 : Int32))), .val (.int (1 : Int32)), .val (.int (0 : Int32)), .val (.int (0 : Int32)), .val (.int (((x5_0.toUInt32 >>> ((5 : Int32) &&& 31).toUInt32).toInt32) &&& (127 : Int32))), .val (.int ((x5_0.toUInt32 >>> ((12 : Int32) &&& 31).toUInt32).toInt32)), .unset, .unset, .unset, .unset, .unset, .unset, .unset, .unset, .unset, .unset, .unset, .unset, .unset, .unset]) rfl k) ?_
        refine own_step (fun t k => XS.iload X0.here hx rfl (hb hby at_66) rfl k) ?_
        show own_Ends p.tables e below s _ _ _ (s₁.setTop (mkF m 68 #[.val (.long y0_0), .second, .val (.long y1_0), .second, .val (.long y2_0), .second, .val (.long y3_0), .second, .val (.int x4_0), .val (.int x5_0), .val (.int (x5_0 &&& (3 : Int32))), .val (.int (1 : Int32)), .val (.int (0 : Int32)), .val (.int (0 : Int32)), .val (.int (((x5_0.toUInt32 >>> ((5 : Int32) &&& 31).toUInt32).toInt32) &&& (127 : Int32))), .val (.int ((x5_0.toUInt32 >>> ((12 : Int32) &&& 31).toUInt32).toInt32)), .unset, .unset, .unset, .unset, .unset, .unset, .unset, .unset, .unset, .unset, .unset, .unset, .unset, .unset] [(.int x4_0)]))
        refine own_step (fun t k => X0.ldcInt hx hown (mvT hZ (hw _ (List.mem_of_getElem? (i := 0) rfl))) (g := (mkF m 68 #[.val (.long y0_0), .second, .val (.long y1_0), .second, .val (.long y2_0), .second, .val (.long y3_0), .second, .val (.int x4_0), .val (.int x5_0), .val (.int (x5_0 &&& (3 : Int32))), .val (.int (1 : Int32)), .val (.int (0 : Int32)), .val (.int (0 : Int32)), .val (.int (((x5_0.toUInt32 >>> ((5 : Int32) &&& 31).toUInt32).toInt32) &&& (127 : Int32))), .val (.int ((x5_0.toUInt32 >>> ((12 : Int32) &&& 31).toUInt32).toInt32)), .unset, .unset, .unset, .unset, .unset, .unset, .unset, .unset, .unset, .unset, .unset, .unset, .unset, .unset] [(.int x4_0)])) rfl (hb hby at_68) _ k) ?_
        refine own_step (fun t k => XS.iand X0.here hx rfl (hb hby at_70) rfl k) ?_
        refine own_step (fun t k => XS.istore X0.here hx rfl (hb hby at_71) rfl (l' := #[.val (.long y0_0), .second, .val (.long y1_0), .second, .val (.long y2_0), .second, .val (.long y3_0), .second, .val (.int x4_0), .val (.int x5_0), .val (.int (x5_0 &&& (3 : Int32))), .val (.int (1 : Int32)), .val (.int (0 : Int32)), .val (.int (0 : Int32)), .val (.int (((x5_0.toUInt32 >>> ((5 : Int32) &&& 31).toUInt32).toInt32) &&& (127 : Int32))), .val (.int ((x5_0.toUInt32 >>> ((12 : Int32) &&& 31).toUInt32).toInt32)), .val (.int (x4_0 &&& (2147483647 : Int32))), .unset, .unset, .unset, .unset, .unset, .unset, .unset, .unset, .unset, .unset, .unset, .unset, .unset]) rfl k) ?_
        refine own_step (fun t k => XS.iload X0.here hx rfl (hb hby at_73) rfl k) ?_
        show own_Ends p.tables e below s _ _ _ (s₁.setTop (mkF m 75 #[.val (.long y0_0), .second, .val (.long y1_0), .second, .val (.long y2_0), .second, .val (.long y3_0), .second, .val (.int x4_0), .val (.int x5_0), .val (.int (x5_0 &&& (3 : Int32))), .val (.int (1 : Int32)), .val (.int (0 : Int32)), .val (.int (0 : Int32)), .val (.int (((x5_0.toUInt32 >>> ((5 : Int32) &&& 31).toUInt32).toInt32) &&& (127 : Int32))), .val (.int ((x5_0.toUInt32 >>> ((12 : Int32) &&& 31).toUInt32).toInt32)), .val (.int (x4_0 &&& (2147483647 : Int32))), .unset, .unset, .unset, .unset, .unset, .unset, .unset, .unset, .unset, .unset, .unset, .unset, .unset] [(.int (0 : Int32))]))
        refine own_step (fun t k => XS.ifYes X0.here hx rfl (pc0 := 75) (pc' := 107) rfl (hb hby at_75) rfl ((if0 _ _).trans (teq (by decide : (0 : Int32) = (0 : Int32))).1) (by decide) (by decide) k) ?_
        refine own_step (fun t k => XS.lload X0.here hx rfl (hb hby at_107) rfl k) ?_
        refine own_step (fun t k => XS.lstore X0.here hx rfl (hb hby at_109) rfl (l' := #[.val (.long y0_0), .second, .val (.long y1_0), .second, .val (.long y2_0), .second, .val (.long y3_0), .second, .val (.int x4_0), .val (.int x5_0), .val (.int (x5_0 &&& (3 : Int32))), .val (.int (1 : Int32)), .val (.int (0 : Int32)), .val (.int (0 : Int32)), .val (.int (((x5_0.toUInt32 >>> ((5 : Int32) &&& 31).toUInt32).toInt32) &&& (127 : Int32))), .val (.int ((x5_0.toUInt32 >>> ((12 : Int32) &&& 31).toUInt32).toInt32)), .val (.int (x4_0 &&& (2147483647 : Int32))), .val (.long y2_0), .second, .unset, .unset, .unset, .unset, .unset, .unset, .unset, .unset, .unset, .unset, .unset]) rfl k) ?_
        refine own_step (fun t k => XS.lload X0.here hx rfl (hb hby at_111) rfl k) ?_
        refine own_step (fun t k => XS.lstore X0.here hx rfl (hb hby at_113) rfl (l' := #[.val (.long y0_0), .second, .val (.long y1_0), .second, .val (.long y2_0), .second, .val (.long y3_0), .second, .val (.int x4_0), .val (.int x5_0), .val (.int (x5_0 &&& (3 : Int32))), .val (.int (1 : Int32)), .val (.int (0 : Int32)), .val (.int (0 : Int32)), .val (.int (((x5_0.toUInt32 >>> ((5 : Int32) &&& 31).toUInt32).toInt32) &&& (127 : Int32))), .val (.int ((x5_0.toUInt32 >>> ((12 : Int32) &&& 31).toUInt32).toInt32)), .val (.int (x4_0 &&& (2147483647 : Int32))), .val (.long y2_0), .second, .val (.long y3_0), .second, .unset, .unset, .unset, .unset, .unset, .unset, .unset, .unset, .unset]) rfl k) ?_
        refine own_step (fun t k => XS.iload X0.here hx rfl (hb hby at_115) rfl k) ?_
        show own_Ends p.tables e below s _ _ _ (s₁.setTop (mkF m 117 #[.val (.long y0_0), .second, .val (.long y1_0), .second, .val (.long y2_0), .second, .val (.long y3_0), .second, .val (.int x4_0), .val (.int x5_0), .val (.int (x5_0 &&& (3 : Int32))), .val (.int (1 : Int32)), .val (.int (0 : Int32)), .val (.int (0 : Int32)), .val (.int (((x5_0.toUInt32 >>> ((5 : Int32) &&& 31).toUInt32).toInt32) &&& (127 : Int32))), .val (.int ((x5_0.toUInt32 >>> ((12 : Int32) &&& 31).toUInt32).toInt32)), .val (.int (x4_0 &&& (2147483647 : Int32))), .val (.long y2_0), .second, .val (.long y3_0), .second, .unset, .unset, .unset, .unset, .unset, .unset, .unset, .unset, .unset] [(.int (x5_0 &&& (3 : Int32)))]))
        by_cases hc117_80 : (x5_0 &&& (3 : Int32)) = (0 : Int32)
        · skip
          refine own_step (fun t k => XS.ifNo X0.here hx rfl (hb hby at_117) rfl ((if0 _ _).trans (teq hc117_80).2) k) ?_
          refine own_step (fun t k => XS.lloadN X0.here hx rfl (hb hby at_120) rfl k) ?_
          refine own_step (fun t k => XS.lstore X0.here hx rfl (hb hby at_121) rfl (l' := #[.val (.long y0_0), .second, .val (.long y1_0), .second, .val (.long y2_0), .second, .val (.long y3_0), .second, .val (.int x4_0), .val (.int x5_0), .val (.int (x5_0 &&& (3 : Int32))), .val (.int (1 : Int32)), .val (.int (0 : Int32)), .val (.int (0 : Int32)), .val (.int (((x5_0.toUInt32 >>> ((5 : Int32) &&& 31).toUInt32).toInt32) &&& (127 : Int32))), .val (.int ((x5_0.toUInt32 >>> ((12 : Int32) &&& 31).toUInt32).toInt32)), .val (.int (x4_0 &&& (2147483647 : Int32))), .val (.long y2_0), .second, .val (.long y3_0), .second, .val (.long y0_0), .second, .unset, .unset, .unset, .unset, .unset, .unset, .unset]) rfl k) ?_
          refine own_step (fun t k => XS.lloadN X0.here hx rfl (hb hby at_123) rfl k) ?_
          refine own_step (fun t k => XS.lstore X0.here hx rfl (hb hby at_124) rfl (l' := #[.val (.long y0_0), .second, .val (.long y1_0), .second, .val (.long y2_0), .second, .val (.long y3_0), .second, .val (.int x4_0), .val (.int x5_0), .val (.int (x5_0 &&& (3 : Int32))), .val (.int (1 : Int32)), .val (.int (0 : Int32)), .val (.int (0 : Int32)), .val (.int (((x5_0.toUInt32 >>> ((5 : Int32) &&& 31).toUInt32).toInt32) &&& (127 : Int32))), .val (.int ((x5_0.toUInt32 >>> ((12 : Int32) &&& 31).toUInt32).toInt32)), .val (.int (x4_0 &&& (2147483647 : Int32))), .val (.long y2_0), .second, .val (.long y3_0), .second, .val (.long y0_0), .second, .val (.long y1_0), .second, .unset, .unset, .unset, .unset, .unset]) rfl k) ?_
          refine own_step (fun t k => XS.goto X0.here hx rfl (pc0 := 126) (pc' := 169) rfl (hb hby at_126) (by decide) (by decide) k) ?_
          show own_Ends p.tables e below s _ _ _ (s₁.setTop (mkF m 169 #[.val (.long y0_0), .second, .val (.long y1_0), .second, .val (.long y2_0), .second, .val (.long y3_0), .second, .val (.int x4_0), .val (.int x5_0), .val (.int (x5_0 &&& (3 : Int32))), .val (.int (1 : Int32)), .val (.int (0 : Int32)), .val (.int (0 : Int32)), .val (.int (((x5_0.toUInt32 >>> ((5 : Int32) &&& 31).toUInt32).toInt32) &&& (127 : Int32))), .val (.int ((x5_0.toUInt32 >>> ((12 : Int32) &&& 31).toUInt32).toInt32)), .val (.int (x4_0 &&& (2147483647 : Int32))), .val (.long y2_0), .second, .val (.long y3_0), .second, .val (.long y0_0), .second, .val (.long y1_0), .second, .unset, .unset, .unset, .unset, .unset] []))
          exact tail169 (x5_0 &&& (3 : Int32)) (1 : Int32) (0 : Int32) (0 : Int32) (((x5_0.toUInt32 >>> ((5 : Int32) &&& 31).toUInt32).toInt32) &&& (127 : Int32)) ((x5_0.toUInt32 >>> ((12 : Int32) &&& 31).toUInt32).toInt32) (x4_0 &&& (2147483647 : Int32)) y2_0 y3_0 y0_0 y1_0 (own_m127 _) (own_m31 _) (own_u12 _)
        · skip
          refine own_step (fun t k => XS.ifYes X0.here hx rfl (pc0 := 117) (pc' := 129) rfl (hb hby at_117) rfl ((if0 _ _).trans (feq hc117_80).2) (by decide) (by decide) k) ?_
          refine own_step (fun t k => XS.iload X0.here hx rfl (hb hby at_129) rfl k) ?_
          refine own_step (fun t k => XS.iconst X0.here hx rfl (hb hby at_131) k) ?_
          show own_Ends p.tables e below s _ _ _ (s₁.setTop (mkF m 132 #[.val (.long y0_0), .second, .val (.long y1_0), .second, .val (.long y2_0), .second, .val (.long y3_0), .second, .val (.int x4_0), .val (.int x5_0), .val (.int (x5_0 &&& (3 : Int32))), .val (.int (1 : Int32)), .val (.int (0 : Int32)), .val (.int (0 : Int32)), .val (.int (((x5_0.toUInt32 >>> ((5 : Int32) &&& 31).toUInt32).toInt32) &&& (127 : Int32))), .val (.int ((x5_0.toUInt32 >>> ((12 : Int32) &&& 31).toUInt32).toInt32)), .val (.int (x4_0 &&& (2147483647 : Int32))), .val (.long y2_0), .second, .val (.long y3_0), .second, .unset, .unset, .unset, .unset, .unset, .unset, .unset, .unset, .unset] [(.int (1 : Int32)), (.int (x5_0 &&& (3 : Int32)))]))
          by_cases hc132_81 : (x5_0 &&& (3 : Int32)) = (1 : Int32)
          · skip
            refine own_step (fun t k => XS.icmpNo X0.here hx rfl (hb hby at_132) rfl (teq hc132_81).2 k) ?_
            refine own_step (fun t k => XS.lload X0.here hx rfl (hb hby at_135) rfl k) ?_
            refine own_step (fun t k => XS.lstore X0.here hx rfl (hb hby at_137) rfl (l' := #[.val (.long y0_0), .second, .val (.long y1_0), .second, .val (.long y2_0), .second, .val (.long y3_0), .second, .val (.int x4_0), .val (.int x5_0), .val (.int (x5_0 &&& (3 : Int32))), .val (.int (1 : Int32)), .val (.int (0 : Int32)), .val (.int (0 : Int32)), .val (.int (((x5_0.toUInt32 >>> ((5 : Int32) &&& 31).toUInt32).toInt32) &&& (127 : Int32))), .val (.int ((x5_0.toUInt32 >>> ((12 : Int32) &&& 31).toUInt32).toInt32)), .val (.int (x4_0 &&& (2147483647 : Int32))), .val (.long y2_0), .second, .val (.long y3_0), .second, .val (.long y2_0), .second, .unset, .unset, .unset, .unset, .unset, .unset, .unset]) rfl k) ?_
            refine own_step (fun t k => XS.lload X0.here hx rfl (hb hby at_139) rfl k) ?_
            refine own_step (fun t k => XS.lstore X0.here hx rfl (hb hby at_141) rfl (l' := #[.val (.long y0_0), .second, .val (.long y1_0), .second, .val (.long y2_0), .second, .val (.long y3_0), .second, .val (.int x4_0), .val (.int x5_0), .val (.int (x5_0 &&& (3 : Int32))), .val (.int (1 : Int32)), .val (.int (0 : Int32)), .val (.int (0 : Int32)), .val (.int (((x5_0.toUInt32 >>> ((5 : Int32) &&& 31).toUInt32).toInt32) &&& (127 : Int32))), .val (.int ((x5_0.toUInt32 >>> ((12 : Int32) &&& 31).toUInt32).toInt32)), .val (.int (x4_0 &&& (2147483647 : Int32))), .val (.long y2_0), .second, .val (.long y3_0), .second, .val (.long y2_0), .second, .val (.long y3_0), .second, .unset, .unset, .unset, .unset, .unset]) rfl k) ?_
            refine own_step (fun t k => XS.goto X0.here hx rfl (pc0 := 143) (pc' := 169) rfl (hb hby at_143) (by decide) (by decide) k) ?_
            show own_Ends p.tables e below s _ _ _ (s₁.setTop (mkF m 169 #[.val (.long y0_0), .second, .val (.long y1_0), .second, .val (.long y2_0), .second, .val (.long y3_0), .second, .val (.int x4_0), .val (.int x5_0), .val (.int (x5_0 &&& (3 : Int32))), .val (.int (1 : Int32)), .val (.int (0 : Int32)), .val (.int (0 : Int32)), .val (.int (((x5_0.toUInt32 >>> ((5 : Int32) &&& 31).toUInt32).toInt32) &&& (127 : Int32))), .val (.int ((x5_0.toUInt32 >>> ((12 : Int32) &&& 31).toUInt32).toInt32)), .val (.int (x4_0 &&& (2147483647 : Int32))), .val (.long y2_0), .second, .val (.long y3_0), .second, .val (.long y2_0), .second, .val (.long y3_0), .second, .unset, .unset, .unset, .unset, .unset] []))
            exact tail169 (x5_0 &&& (3 : Int32)) (1 : Int32) (0 : Int32) (0 : Int32) (((x5_0.toUInt32 >>> ((5 : Int32) &&& 31).toUInt32).toInt32) &&& (127 : Int32)) ((x5_0.toUInt32 >>> ((12 : Int32) &&& 31).toUInt32).toInt32) (x4_0 &&& (2147483647 : Int32)) y2_0 y3_0 y2_0 y3_0 (own_m127 _) (own_m31 _) (own_u12 _)
          · skip
            refine own_step (fun t k => XS.icmpYes X0.here hx rfl (pc0 := 132) (pc' := 146) rfl (hb hby at_132) rfl (feq hc132_81).2 (by decide) (by decide) k) ?_
            refine own_step (fun t k => XS.iload X0.here hx rfl (hb hby at_146) rfl k) ?_
            refine own_step (fun t k => XS.iconst X0.here hx rfl (hb hby at_148) k) ?_
            show own_Ends p.tables e below s _ _ _ (s₁.setTop (mkF m 149 #[.val (.long y0_0), .second, .val (.long y1_0), .second, .val (.long y2_0), .second, .val (.long y3_0), .second, .val (.int x4_0), .val (.int x5_0), .val (.int (x5_0 &&& (3 : Int32))), .val (.int (1 : Int32)), .val (.int (0 : Int32)), .val (.int (0 : Int32)), .val (.int (((x5_0.toUInt32 >>> ((5 : Int32) &&& 31).toUInt32).toInt32) &&& (127 : Int32))), .val (.int ((x5_0.toUInt32 >>> ((12 : Int32) &&& 31).toUInt32).toInt32)), .val (.int (x4_0 &&& (2147483647 : Int32))), .val (.long y2_0), .second, .val (.long y3_0), .second, .unset, .unset, .unset, .unset, .unset, .unset, .unset, .unset, .unset] [(.int (2 : Int32)), (.int (x5_0 &&& (3 : Int32)))]))
            by_cases hc149_82 : (x5_0 &&& (3 : Int32)) = (2 : Int32)
            · skip
              refine own_step (fun t k => XS.icmpNo X0.here hx rfl (hb hby at_149) rfl (teq hc149_82).2 k) ?_
              refine own_step (fun t k => XS.lloadN X0.here hx rfl (hb hby at_152) rfl k) ?_
              refine own_step (fun t k => XS.lstore X0.here hx rfl (hb hby at_153) rfl (l' := #[.val (.long y0_0), .second, .val (.long y1_0), .second, .val (.long y2_0), .second, .val (.long y3_0), .second, .val (.int x4_0), .val (.int x5_0), .val (.int (x5_0 &&& (3 : Int32))), .val (.int (1 : Int32)), .val (.int (0 : Int32)), .val (.int (0 : Int32)), .val (.int (((x5_0.toUInt32 >>> ((5 : Int32) &&& 31).toUInt32).toInt32) &&& (127 : Int32))), .val (.int ((x5_0.toUInt32 >>> ((12 : Int32) &&& 31).toUInt32).toInt32)), .val (.int (x4_0 &&& (2147483647 : Int32))), .val (.long y2_0), .second, .val (.long y3_0), .second, .val (.long y0_0), .second, .unset, .unset, .unset, .unset, .unset, .unset, .unset]) rfl k) ?_
              refine own_step (fun t k => XS.lload X0.here hx rfl (hb hby at_155) rfl k) ?_
              refine own_step (fun t k => XS.lstore X0.here hx rfl (hb hby at_157) rfl (l' := #[.val (.long y0_0), .second, .val (.long y1_0), .second, .val (.long y2_0), .second, .val (.long y3_0), .second, .val (.int x4_0), .val (.int x5_0), .val (.int (x5_0 &&& (3 : Int32))), .val (.int (1 : Int32)), .val (.int (0 : Int32)), .val (.int (0 : Int32)), .val (.int (((x5_0.toUInt32 >>> ((5 : Int32) &&& 31).toUInt32).toInt32) &&& (127 : Int32))), .val (.int ((x5_0.toUInt32 >>> ((12 : Int32) &&& 31).toUInt32).toInt32)), .val (.int (x4_0 &&& (2147483647 : Int32))), .val (.long y2_0), .second, .val (.long y3_0), .second, .val (.long y0_0), .second, .val (.long y3_0), .second, .unset, .unset, .unset, .unset, .unset]) rfl k) ?_
              refine own_step (fun t k => XS.goto X0.here hx rfl (pc0 := 159) (pc' := 169) rfl (hb hby at_159) (by decide) (by decide) k) ?_
              show own_Ends p.tables e below s _ _ _ (s₁.setTop (mkF m 169 #[.val (.long y0_0), .second, .val (.long y1_0), .second, .val (.long y2_0), .second, .val (.long y3_0), .second, .val (.int x4_0), .val (.int x5_0), .val (.int (x5_0 &&& (3 : Int32))), .val (.int (1 : Int32)), .val (.int (0 : Int32)), .val (.int (0 : Int32)), .val (.int (((x5_0.toUInt32 >>> ((5 : Int32) &&& 31).toUInt32).toInt32) &&& (127 : Int32))), .val (.int ((x5_0.toUInt32 >>> ((12 : Int32) &&& 31).toUInt32).toInt32)), .val (.int (x4_0 &&& (2147483647 : Int32))), .val (.long y2_0), .second, .val (.long y3_0), .second, .val (.long y0_0), .second, .val (.long y3_0), .second, .unset, .unset, .unset, .unset, .unset] []))
              exact tail169 (x5_0 &&& (3 : Int32)) (1 : Int32) (0 : Int32) (0 : Int32) (((x5_0.toUInt32 >>> ((5 : Int32) &&& 31).toUInt32).toInt32) &&& (127 : Int32)) ((x5_0.toUInt32 >>> ((12 : Int32) &&& 31).toUInt32).toInt32) (x4_0 &&& (2147483647 : Int32)) y2_0 y3_0 y0_0 y3_0 (own_m127 _) (own_m31 _) (own_u12 _)
            · skip
              refine own_step (fun t k => XS.icmpYes X0.here hx rfl (pc0 := 149) (pc' := 162) rfl (hb hby at_149) rfl (feq hc149_82).2 (by decide) (by decide) k) ?_
              refine own_step (fun t k => XS.lload X0.here hx rfl (hb hby at_162) rfl k) ?_
              refine own_step (fun t k => XS.lstore X0.here hx rfl (hb hby at_164) rfl (l' := #[.val (.long y0_0), .second, .val (.long y1_0), .second, .val (.long y2_0), .second, .val (.long y3_0), .second, .val (.int x4_0), .val (.int x5_0), .val (.int (x5_0 &&& (3 : Int32))), .val (.int (1 : Int32)), .val (.int (0 : Int32)), .val (.int (0 : Int32)), .val (.int (((x5_0.toUInt32 >>> ((5 : Int32) &&& 31).toUInt32).toInt32) &&& (127 : Int32))), .val (.int ((x5_0.toUInt32 >>> ((12 : Int32) &&& 31).toUInt32).toInt32)), .val (.int (x4_0 &&& (2147483647 : Int32))), .val (.long y2_0), .second, .val (.long y3_0), .second, .val (.long y2_0), .second, .unset, .unset, .unset, .unset, .unset, .unset, .unset]) rfl k) ?_
              refine own_step (fun t k => XS.lloadN X0.here hx rfl (hb hby at_166) rfl k) ?_
              refine own_step (fun t k => XS.lstore X0.here hx rfl (hb hby at_167) rfl (l' := #[.val (.long y0_0), .second, .val (.long y1_0), .second, .val (.long y2_0), .second, .val (.long y3_0), .second, .val (.int x4_0), .val (.int x5_0), .val (.int (x5_0 &&& (3 : Int32))), .val (.int (1 : Int32)), .val (.int (0 : Int32)), .val (.int (0 : Int32)), .val (.int (((x5_0.toUInt32 >>> ((5 : Int32) &&& 31).toUInt32).toInt32) &&& (127 : Int32))), .val (.int ((x5_0.toUInt32 >>> ((12 : Int32) &&& 31).toUInt32).toInt32)), .val (.int (x4_0 &&& (2147483647 : Int32))), .val (.long y2_0), .second, .val (.long y3_0), .second, .val (.long y2_0), .second, .val (.long y1_0), .second, .unset, .unset, .unset, .unset, .unset]) rfl k) ?_
              show own_Ends p.tables e below s _ _ _ (s₁.setTop (mkF m 169 #[.val (.long y0_0), .second, .val (.long y1_0), .second, .val (.long y2_0), .second, .val (.long y3_0), .second, .val (.int x4_0), .val (.int x5_0), .val (.int (x5_0 &&& (3 : Int32))), .val (.int (1 : Int32)), .val (.int (0 : Int32)), .val (.int (0 : Int32)), .val (.int (((x5_0.toUInt32 >>> ((5 : Int32) &&& 31).toUInt32).toInt32) &&& (127 : Int32))), .val (.int ((x5_0.toUInt32 >>> ((12 : Int32) &&& 31).toUInt32).toInt32)), .val (.int (x4_0 &&& (2147483647 : Int32))), .val (.long y2_0), .second, .val (.long y3_0), .second, .val (.long y2_0), .second, .val (.long y1_0), .second, .unset, .unset, .unset, .unset, .unset] []))
              exact tail169 (x5_0 &&& (3 : Int32)) (1 : Int32) (0 : Int32) (0 : Int32) (((x5_0.toUInt32 >>> ((5 : Int32) &&& 31).toUInt32).toInt32) &&& (127 : Int32)) ((x5_0.toUInt32 >>> ((12 : Int32) &&& 31).toUInt32).toInt32) (x4_0 &&& (2147483647 : Int32)) y2_0 y3_0 y2_0 y1_0 (own_m127 _) (own_m31 _) (own_u12 _)
      · skip
        refine own_step (fun t k => XS.ifNo X0.here hx rfl (hb hby at_40) rfl ((if0 _ _).trans (feq hc40_79).1) k) ?_
        refine own_step (fun t k => XS.iconst X0.here hx rfl (hb hby at_43) k) ?_
        refine own_step (fun t k => XS.goto X0.here hx rfl (pc0 := 44) (pc' := 48) rfl (hb hby at_44) (by decide) (by decide) k) ?_
        refine own_step (fun t k => XS.istore X0.here hx rfl (hb hby at_48) rfl (l' := #[.val (.long y0_0), .second, .val (.long y1_0), .second, .val (.long y2_0), .second, .val (.long y3_0), .second, .val (.int x4_0), .val (.int x5_0), .val (.int (x5_0 &&& (3 : Int32))), .val (.int (1 : Int32)), .val (.int (0 : Int32)), .val (.int (1 : Int32)), .unset, .unset, .unset, .unset, .unset, .unset, .unset, .unset, .unset, .unset, .unset, .unset, .unset, .unset, .unset, .unset]) rfl k) ?_
        refine own_step (fun t k => XS.iload X0.here hx rfl (hb hby at_50) rfl k) ?_
        refine own_step (fun t k => XS.iconst X0.here hx rfl (hb hby at_52) k) ?_
        refine own_step (fun t k => XS.iushr X0.here hx rfl (hb hby at_53) rfl k) ?_
        show own_Ends p.tables e below s _ _ _ (s₁.setTop (mkF m 54 #[.val (.long y0_0), .second, .val (.long y1_0), .second, .val (.long y2_0), .second, .val (.long y3_0), .second, .val (.int x4_0), .val (.int x5_0), .val (.int (x5_0 &&& (3 : Int32))), .val (.int (1 : Int32)), .val (.int (0 : Int32)), .val (.int (1 : Int32)), .unset, .unset, .unset, .unset, .unset, .unset, .unset, .unset, .unset, .unset, .unset, .unset, .unset, .unset, .unset, .unset] [(.int ((x5_0.toUInt32 >>> ((5 : Int32) &&& 31).toUInt32).toInt32))]))
        refine own_step (fun t k => XS.bipush X0.here hx rfl (hb hby at_54) k) ?_
        refine own_step (fun t k => XS.iand X0.here hx rfl (hb hby at_56) rfl k) ?_
        refine own_step (fun t k => XS.istore X0.here hx rfl (hb hby at_57) rfl (l' := #[.val (.long y0_0), .second, .val (.long y1_0), .second, .val (.long y2_0), .second, .val (.long y3_0), .second, .val (.int x4_0), .val (.int x5_0), .val (.int (x5_0 &&& (3 : Int32))), .val (.int (1 : Int32)), .val (.int (0 : Int32)), .val (.int (1 : Int32)), .val (.int (((x5_0.toUInt32 >>> ((5 : Int32) &&& 31).toUInt32).toInt32) &&& (127 : Int32))), .unset, .unset, .unset, .unset, .unset, .unset, .unset, .unset, .unset, .unset, .unset, .unset, .unset, .unset, .unset]) rfl k) ?_
        refine own_step (fun t k => XS.iload X0.here hx rfl (hb hby at_59) rfl k) ?_
        refine own_step (fun t k => XS.bipush X0.here hx rfl (hb hby at_61) k) ?_
        refine own_step (fun t k => XS.iushr X0.here hx rfl (hb hby at_63) rfl k) ?_
        refine own_step (fun t k => XS.istore X0.here hx rfl (hb hby at_64) rfl (l' := #[.val (.long y0_0), .second, .val (.long y1_0), .second, .val (.long y2_0), .second, .val (.long y3_0), .second, .val (.int x4_0), .val (.int x5_0), .val (.int (x5_0 &&& (3 : Int32))), .val (.int (1 : Int32)), .val (.int (0 : Int32)), .val (.int (1 : Int32)), .val (.int (((x5_0.toUInt32 >>> ((5 : Int32) &&& 31).toUInt32).toInt32) &&& (127 : Int32))), .val (.int ((x5_0.toUInt32 >>> ((12 : Int32) &&& 31).toUInt32).toInt32)), .unset, .unset, .unset, .unset, .unset, .unset, .unset, .unset, .unset, .unset, .unset, .unset, .unset, .unset]) rfl k) ?_
        show own_Ends p.tables e below s _ _ _ (s₁.setTop (mkF m 66 #[.val (.long y0_0), .second, .val (.long y1_0), .second, .val (.long y2_0), .second, .val (.long y3_0), .second, .val (.int x4_0), .val (.int x5_0), .val (.int (x5_0 &&& (3 : Int32))), .val (.int (1 : Int32)), .val (.int (0 : Int32)), .val (.int (1 : Int32)), .val (.int (((x5_0.toUInt32 >>> ((5 : Int32) &&& 31).toUInt32).toInt32) &&& (127 : Int32))), .val (.int ((x5_0.toUInt32 >>> ((12 : Int32) &&& 31).toUInt32).toInt32)), .unset, .unset, .unset, .unset, .unset, .unset, .unset, .unset, .unset, .unset, .unset, .unset, .unset, .unset] []))
        refine own_step (fun t k => XS.iload X0.here hx rfl (hb hby at_66) rfl k) ?_
        show own_Ends p.tables e below s _ _ _ (s₁.setTop (mkF m 68 #[.val (.long y0_0), .second, .val (.long y1_0), .second, .val (.long y2_0), .second, .val (.long y3_0), .second, .val (.int x4_0), .val (.int x5_0), .val (.int (x5_0 &&& (3 : Int32))), .val (.int (1 : Int32)), .val (.int (0 : Int32)), .val (.int (1 : Int32)), .val (.int (((x5_0.toUInt32 >>> ((5 : Int32) &&& 31).toUInt32).toInt32) &&& (127 : Int32))), .val (.int ((x5_0.toUInt32 >>> ((12 : Int32) &&& 31).toUInt32).toInt32)), .unset, .unset, .unset, .unset, .unset, .unset, .unset, .unset, .unset, .unset, .unset, .unset, .unset, .unset] [(.int x4_0)]))
        refine own_step (fun t k => X0.ldcInt hx hown (mvT hZ (hw _ (List.mem_of_getElem? (i := 0) rfl))) (g := (mkF m 68 #[.val (.long y0_0), .second, .val (.long y1_0), .second, .val (.long y2_0), .second, .val (.long y3_0), .second, .val (.int x4_0), .val (.int x5_0), .val (.int (x5_0 &&& (3 : Int32))), .val (.int (1 : Int32)), .val (.int (0 : Int32)), .val (.int (1 : Int32)), .val (.int (((x5_0.toUInt32 >>> ((5 : Int32) &&& 31).toUInt32).toInt32) &&& (127 : Int32))), .val (.int ((x5_0.toUInt32 >>> ((12 : Int32) &&& 31).toUInt32).toInt32)), .unset, .unset, .unset, .unset, .unset, .unset, .unset, .unset, .unset, .unset, .unset, .unset, .unset, .unset] [(.int x4_0)])) rfl (hb hby at_68) _ k) ?_
        refine own_step (fun t k => XS.iand X0.here hx rfl (hb hby at_70) rfl k) ?_
        refine own_step (fun t k => XS.istore X0.here hx rfl (hb hby at_71) rfl (l' := #[.val (.long y0_0), .second, .val (.long y1_0), .second, .val (.long y2_0), .second, .val (.long y3_0), .second, .val (.int x4_0), .val (.int x5_0), .val (.int (x5_0 &&& (3 : Int32))), .val (.int (1 : Int32)), .val (.int (0 : Int32)), .val (.int (1 : Int32)), .val (.int (((x5_0.toUInt32 >>> ((5 : Int32) &&& 31).toUInt32).toInt32) &&& (127 : Int32))), .val (.int ((x5_0.toUInt32 >>> ((12 : Int32) &&& 31).toUInt32).toInt32)), .val (.int (x4_0 &&& (2147483647 : Int32))), .unset, .unset, .unset, .unset, .unset, .unset, .unset, .unset, .unset, .unset, .unset, .unset, .unset]) rfl k) ?_
        refine own_step (fun t k => XS.iload X0.here hx rfl (hb hby at_73) rfl k) ?_
        show own_Ends p.tables e below s _ _ _ (s₁.setTop (mkF m 75 #[.val (.long y0_0), .second, .val (.long y1_0), .second, .val (.long y2_0), .second, .val (.long y3_0), .second, .val (.int x4_0), .val (.int x5_0), .val (.int (x5_0 &&& (3 : Int32))), .val (.int (1 : Int32)), .val (.int (0 : Int32)), .val (.int (1 : Int32)), .val (.int (((x5_0.toUInt32 >>> ((5 : Int32) &&& 31).toUInt32).toInt32) &&& (127 : Int32))), .val (.int ((x5_0.toUInt32 >>> ((12 : Int32) &&& 31).toUInt32).toInt32)), .val (.int (x4_0 &&& (2147483647 : Int32))), .unset, .unset, .unset, .unset, .unset, .unset, .unset, .unset, .unset, .unset, .unset, .unset, .unset] [(.int (0 : Int32))]))
        refine own_step (fun t k => XS.ifYes X0.here hx rfl (pc0 := 75) (pc' := 107) rfl (hb hby at_75) rfl ((if0 _ _).trans (teq (by decide : (0 : Int32) = (0 : Int32))).1) (by decide) (by decide) k) ?_
        refine own_step (fun t k => XS.lload X0.here hx rfl (hb hby at_107) rfl k) ?_
        refine own_step (fun t k => XS.lstore X0.here hx rfl (hb hby at_109) rfl (l' := #[.val (.long y0_0), .second, .val (.long y1_0), .second, .val (.long y2_0), .second, .val (.long y3_0), .second, .val (.int x4_0), .val (.int x5_0), .val (.int (x5_0 &&& (3 : Int32))), .val (.int (1 : Int32)), .val (.int (0 : Int32)), .val (.int (1 : Int32)), .val (.int (((x5_0.toUInt32 >>> ((5 : Int32) &&& 31).toUInt32).toInt32) &&& (127 : Int32))), .val (.int ((x5_0.toUInt32 >>> ((12 : Int32) &&& 31).toUInt32).toInt32)), .val (.int (x4_0 &&& (2147483647 : Int32))), .val (.long y2_0), .second, .unset, .unset, .unset, .unset, .unset, .unset, .unset, .unset, .unset, .unset, .unset]) rfl k) ?_
        refine own_step (fun t k => XS.lload X0.here hx rfl (hb hby at_111) rfl k) ?_
        refine own_step (fun t k => XS.lstore X0.here hx rfl (hb hby at_113) rfl (l' := #[.val (.long y0_0), .second, .val (.long y1_0), .second, .val (.long y2_0), .second, .val (.long y3_0), .second, .val (.int x4_0), .val (.int x5_0), .val (.int (x5_0 &&& (3 : Int32))), .val (.int (1 : Int32)), .val (.int (0 : Int32)), .val (.int (1 : Int32)), .val (.int (((x5_0.toUInt32 >>> ((5 : Int32) &&& 31).toUInt32).toInt32) &&& (127 : Int32))), .val (.int ((x5_0.toUInt32 >>> ((12 : Int32) &&& 31).toUInt32).toInt32)), .val (.int (x4_0 &&& (2147483647 : Int32))), .val (.long y2_0), .second, .val (.long y3_0), .second, .unset, .unset, .unset, .unset, .unset, .unset, .unset, .unset, .unset]) rfl k) ?_
        refine own_step (fun t k => XS.iload X0.here hx rfl (hb hby at_115) rfl k) ?_
        show own_Ends p.tables e below s _ _ _ (s₁.setTop (mkF m 117 #[.val (.long y0_0), .second, .val (.long y1_0), .second, .val (.long y2_0), .second, .val (.long y3_0), .second, .val (.int x4_0), .val (.int x5_0), .val (.int (x5_0 &&& (3 : Int32))), .val (.int (1 : Int32)), .val (.int (0 : Int32)), .val (.int (1 : Int32)), .val (.int (((x5_0.toUInt32 >>> ((5 : Int32) &&& 31).toUInt32).toInt32) &&& (127 : Int32))), .val (.int ((x5_0.toUInt32 >>> ((12 : Int32) &&& 31).toUInt32).toInt32)), .val (.int (x4_0 &&& (2147483647 : Int32))), .val (.long y2_0), .second, .val (.long y3_0), .second, .unset, .unset, .unset, .unset, .unset, .unset, .unset, .unset, .unset] [(.int (x5_0 &&& (3 : Int32)))]))
        by_cases hc117_83 : (x5_0 &&& (3 : Int32)) = (0 : Int32)
        · skip
          refine own_step (fun t k => XS.ifNo X0.here hx rfl (hb hby at_117) rfl ((if0 _ _).trans (teq hc117_83).2) k) ?_
          refine own_step (fun t k => XS.lloadN X0.here hx rfl (hb hby at_120) rfl k) ?_
          refine own_step (fun t k => XS.lstore X0.here hx rfl (hb hby at_121) rfl (l' := #[.val (.long y0_0), .second, .val (.long y1_0), .second, .val (.long y2_0), .second, .val (.long y3_0), .second, .val (.int x4_0), .val (.int x5_0), .val (.int (x5_0 &&& (3 : Int32))), .val (.int (1 : Int32)), .val (.int (0 : Int32)), .val (.int (1 : Int32)), .val (.int (((x5_0.toUInt32 >>> ((5 : Int32) &&& 31).toUInt32).toInt32) &&& (127 : Int32))), .val (.int ((x5_0.toUInt32 >>> ((12 : Int32) &&& 31).toUInt32).toInt32)), .val (.int (x4_0 &&& (2147483647 : Int32))), .val (.long y2_0), .second, .val (.long y3_0), .second, .val (.long y0_0), .second, .unset, .unset, .unset, .unset, .unset, .unset, .unset]) rfl k) ?_
          refine own_step (fun t k => XS.lloadN X0.here hx rfl (hb hby at_123) rfl k) ?_
          refine own_step (fun t k => XS.lstore X0.here hx rfl (hb hby at_124) rfl (l' := #[.val (.long y0_0), .second, .val (.long y1_0), .second, .val (.long y2_0), .second, .val (.long y3_0), .second, .val (.int x4_0), .val (.int x5_0), .val (.int (x5_0 &&& (3 : Int32))), .val (.int (1 : Int32)), .val (.int (0 : Int32)), .val (.int (1 : Int32)), .val (.int (((x5_0.toUInt32 >>> ((5 : Int32) &&& 31).toUInt32).toInt32) &&& (127 : Int32))), .val (.int ((x5_0.toUInt32 >>> ((12 : Int32) &&& 31).toUInt32).toInt32)), .val (.int (x4_0 &&& (2147483647 : Int32))), .val (.long y2_0), .second, .val (.long y3_0), .second, .val (.long y0_0), .second, .val (.long y1_0), .second, .unset, .unset, .unset, .unset, .unset]) rfl k) ?_
          refine own_step (fun t k => XS.goto X0.here hx rfl (pc0 := 126) (pc' := 169) rfl (hb hby at_126) (by decide) (by decide) k) ?_
          show own_Ends p.tables e below s _ _ _ (s₁.setTop (mkF m 169 #[.val (.long y0_0), .second, .val (.long y1_0), .second, .val (.long y2_0), .second, .val (.long y3_0), .second, .val (.int x4_0), .val (.int x5_0), .val (.int (x5_0 &&& (3 : Int32))), .val (.int (1 : Int32)), .val (.int (0 : Int32)), .val (.int (1 : Int32)), .val (.int (((x5_0.toUInt32 >>> ((5 : Int32) &&& 31).toUInt32).toInt32) &&& (127 : Int32))), .val (.int ((x5_0.toUInt32 >>> ((12 : Int32) &&& 31).toUInt32).toInt32)), .val (.int (x4_0 &&& (2147483647 : Int32))), .val (.long y2_0), .second, .val (.long y3_0), .second, .val (.long y0_0), .second, .val (.long y1_0), .second, .unset, .unset, .unset, .unset, .unset] []))
          exact tail169 (x5_0 &&& (3 : Int32)) (1 : Int32) (0 : Int32) (1 : Int32) (((x5_0.toUInt32 >>> ((5 : Int32) &&& 31).toUInt32).toInt32) &&& (127 : Int32)) ((x5_0.toUInt32 >>> ((12 : Int32) &&& 31).toUInt32).toInt32) (x4_0 &&& (2147483647 : Int32)) y2_0 y3_0 y0_0 y1_0 (own_m127 _) (own_m31 _) (own_u12 _)
        · skip
          refine own_step (fun t k => XS.ifYes X0.here hx rfl (pc0 := 117) (pc' := 129) rfl (hb hby at_117) rfl ((if0 _ _).trans (feq hc117_83).2) (by decide) (by decide) k) ?_
          refine own_step (fun t k => XS.iload X0.here hx rfl (hb hby at_129) rfl k) ?_
          refine own_step (fun t k => XS.iconst X0.here hx rfl (hb hby at_131) k) ?_
          show own_Ends p.tables e below s _ _ _ (s₁.setTop (mkF m 132 #[.val (.long y0_0), .second, .val (.long y1_0), .second, .val (.long y2_0), .second, .val (.long y3_0), .second, .val (.int x4_0), .val (.int x5_0), .val (.int (x5_0 &&& (3 : Int32))), .val (.int (1 : Int32)), .val (.int (0 : Int32)), .val (.int (1 : Int32)), .val (.int (((x5_0.toUInt32 >>> ((5 : Int32) &&& 31).toUInt32).toInt32) &&& (127 : Int32))), .val (.int ((x5_0.toUInt32 >>> ((12 : Int32) &&& 31).toUInt32).toInt32)), .val (.int (x4_0 &&& (2147483647 : Int32))), .val (.long y2_0), .second, .val (.long y3_0), .second, .unset, .unset, .unset, .unset, .unset, .unset, .unset, .unset, .unset] [(.int (1 : Int32)), (.int (x5_0 &&& (3 : Int32)))]))
          by_cases hc132_84 : (x5_0 &&& (3 : Int32)) = (1 : Int32)
          · skip
            refine own_step (fun t k => XS.icmpNo X0.here hx rfl (hb hby at_132) rfl (teq hc132_84).2 k) ?_
            refine own_step (fun t k => XS.lload X0.here hx rfl (hb hby at_135) rfl k) ?_
            refine own_step (fun t k => XS.lstore X0.here hx rfl (hb hby at_137) rfl (l' := #[.val (.long y0_0), .second, .val (.long y1_0), .second, .val (.long y2_0), .second, .val (.long y3_0), .second, .val (.int x4_0), .val (.int x5_0), .val (.int (x5_0 &&& (3 : Int32))), .val (.int (1 : Int32)), .val (.int (0 : Int32)), .val (.int (1 : Int32)), .val (.int (((x5_0.toUInt32 >>> ((5 : Int32) &&& 31).toUInt32).toInt32) &&& (127 : Int32))), .val (.int ((x5_0.toUInt32 >>> ((12 : Int32) &&& 31).toUInt32).toInt32)), .val (.int (x4_0 &&& (2147483647 : Int32))), .val (.long y2_0), .second, .val (.long y3_0), .second, .val (.long y2_0), .second, .unset, .unset, .unset, .unset, .unset, .unset, .unset]) rfl k) ?_
            refine own_step (fun t k => XS.lload X0.here hx rfl (hb hby at_139) rfl k) ?_
            refine own_step (fun t k => XS.lstore X0.here hx rfl (hb hby at_141) rfl (l' := #[.val (.long y0_0), .second, .val (.long y1_0), .second, .val (.long y2_0), .second, .val (.long y3_0), .second, .val (.int x4_0), .val (.int x5_0), .val (.int (x5_0 &&& (3 : Int32))), .val (.int (1 : Int32)), .val (.int (0 : Int32)), .val (.int (1 : Int32)), .val (.int (((x5_0.toUInt32 >>> ((5 : Int32) &&& 31).toUInt32).toInt32) &&& (127 : Int32))), .val (.int ((x5_0.toUInt32 >>> ((12 : Int32) &&& 31).toUInt32).toInt32)), .val (.int (x4_0 &&& (2147483647 : Int32))), .val (.long y2_0), .second, .val (.long y3_0), .second, .val (.long y2_0), .second, .val (.long y3_0), .second, .unset, .unset, .unset, .unset, .unset]) rfl k) ?_
            refine own_step (fun t k => XS.goto X0.here hx rfl (pc0 := 143) (pc' := 169) rfl (hb hby at_143) (by decide) (by decide) k) ?_
            show own_Ends p.tables e below s _ _ _ (s₁.setTop (mkF m 169 #[.val (.long y0_0), .second, .val (.long y1_0), .second, .val (.long y2_0), .second, .val (.long y3_0), .second, .val (.int x4_0), .val (.int x5_0), .val (.int (x5_0 &&& (3 : Int32))), .val (.int (1 : Int32)), .val (.int (0 : Int32)), .val (.int (1 : Int32)), .val (.int (((x5_0.toUInt32 >>> ((5 : Int32) &&& 31).toUInt32).toInt32) &&& (127 : Int32))), .val (.int ((x5_0.toUInt32 >>> ((12 : Int32) &&& 31).toUInt32).toInt32)), .val (.int (x4_0 &&& (2147483647 : Int32))), .val (.long y2_0), .second, .val (.long y3_0), .second, .val (.long y2_0), .second, .val (.long y3_0), .second, .unset, .unset, .unset, .unset, .unset] []))
            exact tail169 (x5_0 &&& (3 : Int32)) (1 : Int32) (0 : Int32) (1 : Int32) (((x5_0.toUInt32 >>> ((5 : Int32) &&& 31).toUInt32).toInt32) &&& (127 : Int32)) ((x5_0.toUInt32 >>> ((12 : Int32) &&& 31).toUInt32).toInt32) (x4_0 &&& (2147483647 : Int32)) y2_0 y3_0 y2_0 y3_0 (own_m127 _) (own_m31 _) (own_u12 _)
          · skip
            refine own_step (fun t k => XS.icmpYes X0.here hx rfl (pc0 := 132) (pc' := 146) rfl (hb hby at_132) rfl (feq hc132_84).2 (by decide) (by decide) k) ?_
            refine own_step (fun t k => XS.iload X0.here hx rfl (hb hby at_146) rfl k) ?_
            refine own_step (fun t k => XS.iconst X0.here hx rfl (hb hby at_148) k) ?_
            show own_Ends p.tables e below s _ _ _ (s₁.setTop (mkF m 149 #[.val (.long y0_0), .second, .val (.long y1_0), .second, .val (.long y2_0), .second, .val (.long y3_0), .second, .val (.int x4_0), .val (.int x5_0), .val (.int (x5_0 &&& (3 : Int32))), .val (.int (1 : Int32)), .val (.int (0 : Int32)), .val (.int (1 : Int32)), .val (.int (((x5_0.toUInt32 >>> ((5 : Int32) &&& 31).toUInt32).toInt32) &&& (127 : Int32))), .val (.int ((x5_0.toUInt32 >>> ((12 : Int32) &&& 31).toUInt32).toInt32)), .val (.int (x4_0 &&& (2147483647 : Int32))), .val (.long y2_0), .second, .val (.long y3_0), .second, .unset, .unset, .unset, .unset, .unset, .unset, .unset, .unset, .unset] [(.int (2 : Int32)), (.int (x5_0 &&& (3 : Int32)))]))
            by_cases hc149_85 : (x5_0 &&& (3 : Int32)) = (2 : Int32)
            · skip
              refine own_step (fun t k => XS.icmpNo X0.here hx rfl (hb hby at_149) rfl (teq hc149_85).2 k) ?_
              refine own_step (fun t k => XS.lloadN X0.here hx rfl (hb hby at_152) rfl k) ?_
              refine own_step (fun t k => XS.lstore X0.here hx rfl (hb hby at_153) rfl (l' := #[.val (.long y0_0), .second, .val (.long y1_0), .second, .val (.long y2_0), .second, .val (.long y3_0), .second, .val (.int x4_0), .val (.int x5_0), .val (.int (x5_0 &&& (3 : Int32))), .val (.int (1 : Int32)), .val (.int (0 : Int32)), .val (.int (1 : Int32)), .val (.int (((x5_0.toUInt32 >>> ((5 : Int32) &&& 31).toUInt32).toInt32) &&& (127 : Int32))), .val (.int ((x5_0.toUInt32 >>> ((12 : Int32) &&& 31).toUInt32).toInt32)), .val (.int (x4_0 &&& (2147483647 : Int32))), .val (.long y2_0), .second, .val (.long y3_0), .second, .val (.long y0_0), .second, .unset, .unset, .unset, .unset, .unset, .unset, .unset]) rfl k) ?_
              refine own_step (fun t k => XS.lload X0.here hx rfl (hb hby at_155) rfl k) ?_
              refine own_step (fun t k => XS.lstore X0.here hx rfl (hb hby at_157) rfl (l' := #[.val (.long y0_0), .second, .val (.long y1_0), .second, .val (.long y2_0), .second, .val (.long y3_0), .second, .val (.int x4_0), .val (.int x5_0), .val (.int (x5_0 &&& (3 : Int32))), .val (.int (1 : Int32)), .val (.int (0 : Int32)), .val (.int (1 : Int32)), .val (.int (((x5_0.toUInt32 >>> ((5 : Int32) &&& 31).toUInt32).toInt32) &&& (127 : Int32))), .val (.int ((x5_0.toUInt32 >>> ((12 : Int32) &&& 31).toUInt32).toInt32)), .val (.int (x4_0 &&& (2147483647 : Int32))), .val (.long y2_0), .second, .val (.long y3_0), .second, .val (.long y0_0), .second, .val (.long y3_0), .second, .unset, .unset, .unset, .unset, .unset]) rfl k) ?_
              refine own_step (fun t k => XS.goto X0.here hx rfl (pc0 := 159) (pc' := 169) rfl (hb hby at_159) (by decide) (by decide) k) ?_
              show own_Ends p.tables e below s _ _ _ (s₁.setTop (mkF m 169 #[.val (.long y0_0), .second, .val (.long y1_0), .second, .val (.long y2_0), .second, .val (.long y3_0), .second, .val (.int x4_0), .val (.int x5_0), .val (.int (x5_0 &&& (3 : Int32))), .val (.int (1 : Int32)), .val (.int (0 : Int32)), .val (.int (1 : Int32)), .val (.int (((x5_0.toUInt32 >>> ((5 : Int32) &&& 31).toUInt32).toInt32) &&& (127 : Int32))), .val (.int ((x5_0.toUInt32 >>> ((12 : Int32) &&& 31).toUInt32).toInt32)), .val (.int (x4_0 &&& (2147483647 : Int32))), .val (.long y2_0), .second, .val (.long y3_0), .second, .val (.long y0_0), .second, .val (.long y3_0), .second, .unset, .unset, .unset, .unset, .unset] []))
              exact tail169 (x5_0 &&& (3 : Int32)) (1 : Int32) (0 : Int32) (1 : Int32) (((x5_0.toUInt32 >>> ((5 : Int32) &&& 31).toUInt32).toInt32) &&& (127 : Int32)) ((x5_0.toUInt32 >>> ((12 : Int32) &&& 31).toUInt32).toInt32) (x4_0 &&& (2147483647 : Int32)) y2_0 y3_0 y0_0 y3_0 (own_m127 _) (own_m31 _) (own_u12 _)
            · skip
              refine own_step (fun t k => XS.icmpYes X0.here hx rfl (pc0 := 149) (pc' := 162) rfl (hb hby at_149) rfl (feq hc149_85).2 (by decide) (by decide) k) ?_
              refine own_step (fun t k => XS.lload X0.here hx rfl (hb hby at_162) rfl k) ?_
              refine own_step (fun t k => XS.lstore X0.here hx rfl (hb hby at_164) rfl (l' := #[.val (.long y0_0), .second, .val (.long y1_0), .second, .val (.long y2_0), .second, .val (.long y3_0), .second, .val (.int x4_0), .val (.int x5_0), .val (.int (x5_0 &&& (3 : Int32))), .val (.int (1 : Int32)), .val (.int (0 : Int32)), .val (.int (1 : Int32)), .val (.int (((x5_0.toUInt32 >>> ((5 : Int32) &&& 31).toUInt32).toInt32) &&& (127 : Int32))), .val (.int ((x5_0.toUInt32 >>> ((12 : Int32) &&& 31).toUInt32).toInt32)), .val (.int (x4_0 &&& (2147483647 : Int32))), .val (.long y2_0), .second, .val (.long y3_0), .second, .val (.long y2_0), .second, .unset, .unset, .unset, .unset, .unset, .unset, .unset]) rfl k) ?_
              refine own_step (fun t k => XS.lloadN X0.here hx rfl (hb hby at_166) rfl k) ?_
              refine own_step (fun t k => XS.lstore X0.here hx rfl (hb hby at_167) rfl (l' := #[.val (.long y0_0), .second, .val (.long y1_0), .second, .val (.long y2_0), .second, .val (.long y3_0), .second, .val (.int x4_0), .val (.int x5_0), .val (.int (x5_0 &&& (3 : Int32))), .val (.int (1 : Int32)), .val (.int (0 : Int32)), .val (.int (1 : Int32)), .val (.int (((x5_0.toUInt32 >>> ((5 : Int32) &&& 31).toUInt32).toInt32) &&& (127 : Int32))), .val (.int ((x5_0.toUInt32 >>> ((12 : Int32) &&& 31).toUInt32).toInt32)), .val (.int (x4_0 &&& (2147483647 : Int32))), .val (.long y2_0), .second, .val (.long y3_0), .second, .val (.long y2_0), .second, .val (.long y1_0), .second, .unset, .unset, .unset, .unset, .unset]) rfl k) ?_
              show own_Ends p.tables e below s _ _ _ (s₁.setTop (mkF m 169 #[.val (.long y0_0), .second, .val (.long y1_0), .second, .val (.long y2_0), .second, .val (.long y3_0), .second, .val (.int x4_0), .val (.int x5_0), .val (.int (x5_0 &&& (3 : Int32))), .val (.int (1 : Int32)), .val (.int (0 : Int32)), .val (.int (1 : Int32)), .val (.int (((x5_0.toUInt32 >>> ((5 : Int32) &&& 31).toUInt32).toInt32) &&& (127 : Int32))), .val (.int ((x5_0.toUInt32 >>> ((12 : Int32) &&& 31).toUInt32).toInt32)), .val (.int (x4_0 &&& (2147483647 : Int32))), .val (.long y2_0), .second, .val (.long y3_0), .second, .val (.long y2_0), .second, .val (.long y1_0), .second, .unset, .unset, .unset, .unset, .unset] []))
              exact tail169 (x5_0 &&& (3 : Int32)) (1 : Int32) (0 : Int32) (1 : Int32) (((x5_0.toUInt32 >>> ((5 : Int32) &&& 31).toUInt32).toInt32) &&& (127 : Int32)) ((x5_0.toUInt32 >>> ((12 : Int32) &&& 31).toUInt32).toInt32) (x4_0 &&& (2147483647 : Int32)) y2_0 y3_0 y2_0 y1_0 (own_m127 _) (own_m31 _) (own_u12 _)
    · skip
      refine own_step (fun t k => XS.ifNo X0.here hx rfl (hb hby at_25) rfl ((if0 _ _).trans (feq hc25_78).1) k) ?_
      refine own_step (fun t k => XS.iconst X0.here hx rfl (hb hby at_28) k) ?_
      refine own_step (fun t k => XS.goto X0.here hx rfl (pc0 := 29) (pc' := 33) rfl (hb hby at_29) (by decide) (by decide) k) ?_
      refine own_step (fun t k => XS.istore X0.here hx rfl (hb hby at_33) rfl (l' := #[.val (.long y0_0), .second, .val (.long y1_0), .second, .val (.long y2_0), .second, .val (.long y3_0), .second, .val (.int x4_0), .val (.int x5_0), .val (.int (x5_0 &&& (3 : Int32))), .val (.int (1 : Int32)), .val (.int (1 : Int32)), .unset, .unset, .unset, .unset, .unset, .unset, .unset, .unset, .unset, .unset, .unset, .unset, .unset, .unset, .unset, .unset, .unset]) rfl k) ?_
      refine own_step (fun t k => XS.iload X0.here hx rfl (hb hby at_35) rfl k) ?_
      refine own_step (fun t k => XS.bipush X0.here hx rfl (hb hby at_37) k) ?_
      refine own_step (fun t k => XS.iand X0.here hx rfl (hb hby at_39) rfl k) ?_
      show own_Ends p.tables e below s _ _ _ (s₁.setTop (mkF m 40 #[.val (.long y0_0), .second, .val (.long y1_0), .second, .val (.long y2_0), .second, .val (.long y3_0), .second, .val (.int x4_0), .val (.int x5_0), .val (.int (x5_0 &&& (3 : Int32))), .val (.int (1 : Int32)), .val (.int (1 : Int32)), .unset, .unset, .unset, .unset, .unset, .unset, .unset, .unset, .unset, .unset, .unset, .unset, .unset, .unset, .unset, .unset, .unset] [(.int (x5_0 &&& (16 : Int32)))]))
      by_cases hc40_86 : (x5_0 &&& (16 : Int32)) = (0 : Int32)
      · skip
        refine own_step (fun t k => XS.ifYes X0.here hx rfl (pc0 := 40) (pc' := 47) rfl (hb hby at_40) rfl ((if0 _ _).trans (teq hc40_86).1) (by decide) (by decide) k) ?_
        refine own_step (fun t k => XS.iconst X0.here hx rfl (hb hby at_47) k) ?_
        refine own_step (fun t k => XS.istore X0.here hx rfl (hb hby at_48) rfl (l' := #[.val (.long y0_0), .second, .val (.long y1_0), .second, .val (.long y2_0), .second, .val (.long y3_0), .second, .val (.int x4_0), .val (.int x5_0), .val (.int (x5_0 &&& (3 : Int32))), .val (.int (1 : Int32)), .val (.int (1 : Int32)), .val (.int (0 : Int32)), .unset, .unset, .unset, .unset, .unset, .unset, .unset, .unset, .unset, .unset, .unset, .unset, .unset, .unset, .unset, .unset]) rfl k) ?_
        refine own_step (fun t k => XS.iload X0.here hx rfl (hb hby at_50) rfl k) ?_
        refine own_step (fun t k => XS.iconst X0.here hx rfl (hb hby at_52) k) ?_
        refine own_step (fun t k => XS.iushr X0.here hx rfl (hb hby at_53) rfl k) ?_
        refine own_step (fun t k => XS.bipush X0.here hx rfl (hb hby at_54) k) ?_
        show own_Ends p.tables e below s _ _ _ (s₁.setTop (mkF m 56 #[.val (.long y0_0), .second, .val (.long y1_0), .second, .val (.long y2_0), .second, .val (.long y3_0), .second, .val (.int x4_0), .val (.int x5_0), .val (.int (x5_0 &&& (3 : Int32))), .val (.int (1 : Int32)), .val (.int (1 : Int32)), .val (.int (0 : Int32)), .unset, .unset, .unset, .unset, .unset, .unset, .unset, .unset, .unset, .unset, .unset, .unset, .unset, .unset, .unset, .unset] [(.int (127 : Int32)), (.int ((x5_0.toUInt32 >>> ((5 : Int32) &&& 31).toUInt32).toInt32))]))
        refine own_step (fun t k => XS.iand X0.here hx rfl (hb hby at_56) rfl k) ?_
        refine own_step (fun t k => XS.istore X0.here hx rfl (hb hby at_57) rfl (l' := #[.val (.long y0_0), .second, .val (.long y1_0), .second, .val (.long y2_0), .second, .val (.long y3_0), .second, .val (.int x4_0), .val (.int x5_0), .val (.int (x5_0 &&& (3 : Int32))), .val (.int (1 : Int32)), .val (.int (1 : Int32)), .val (.int (0 : Int32)), .val (.int (((x5_0.toUInt32 >>> ((5 : Int32) &&& 31).toUInt32).toInt32) &&& (127 : Int32))), .unset, .unset, .unset, .unset, .unset, .unset, .unset, .unset, .unset, .unset, .unset, .unset, .unset, .unset, .unset]) rfl k) ?_
        refine own_step (fun t k => XS.iload X0.here hx rfl (hb hby at_59) rfl k) ?_
        refine own_step (fun t k => XS.bipush X0.here hx rfl (hb hby at_61) k) ?_
        refine own_step (fun t k => XS.iushr X0.here hx rfl (hb hby at_63) rfl k) ?_
        refine own_step (fun t k => XS.istore X0.here hx rfl (hb hby at_64) rfl (l' := #[.val (.long y0_0), .second, .val (.long y1_0), .second, .val (.long y2_0), .second, .val (.long y3_0), .second, .val (.int x4_0), .val (.int x5_0), .val (.int (x5_0 &&& (3 : Int32))), .val (.int (1 : Int32)), .val (.int (1 : Int32)), .val (.int (0 : Int32)), .val (.int (((x5_0.toUInt32 >>> ((5 : Int32) &&& 31).toUInt32).toInt32) &&& (127 : Int32))), .val (.int ((x5_0.toUInt32 >>> ((12 : Int32) &&& 31).toUInt32).toInt32)), .unset, .unset, .unset, .unset, .unset, .unset, .unset, .unset, .unset, .unset, .unset, .unset, .unset, .unset]) rfl k) ?_
        refine own_step (fun t k => XS.iload X0.here hx rfl (hb hby at_66) rfl k) ?_
        show own_Ends p.tables e below s _ _ _ (s₁.setTop (mkF m 68 #[.val (.long y0_0), .second, .val (.long y1_0), .second, .val (.long y2_0), .second, .val (.long y3_0), .second, .val (.int x4_0), .val (.int x5_0), .val (.int (x5_0 &&& (3 : Int32))), .val (.int (1 : Int32)), .val (.int (1 : Int32)), .val (.int (0 : Int32)), .val (.int (((x5_0.toUInt32 >>> ((5 : Int32) &&& 31).toUInt32).toInt32) &&& (127 : Int32))), .val (.int ((x5_0.toUInt32 >>> ((12 : Int32) &&& 31).toUInt32).toInt32)), .unset, .unset, .unset, .unset, .unset, .unset, .unset, .unset, .unset, .unset, .unset, .unset, .unset, .unset] [(.int x4_0)]))
        refine own_step (fun t k => X0.ldcInt hx hown (mvT hZ (hw _ (List.mem_of_getElem? (i := 0) rfl))) (g := (mkF m 68 #[.val (.long y0_0), .second, .val (.long y1_0), .second, .val (.long y2_0), .second, .val (.long y3_0), .second, .val (.int x4_0), .val (.int x5_0), .val (.int (x5_0 &&& (3 : Int32))), .val (.int (1 : Int32)), .val (.int (1 : Int32)), .val (.int (0 : Int32)), .val (.int (((x5_0.toUInt32 >>> ((5 : Int32) &&& 31).toUInt32).toInt32) &&& (127 : Int32))), .val (.int ((x5_0.toUInt32 >>> ((12 : Int32) &&& 31).toUInt32).toInt32)), .unset, .unset, .unset, .unset, .unset, .unset, .unset, .unset, .unset, .unset, .unset, .unset, .unset, .unset] [(.int x4_0)])) rfl (hb hby at_68) _ k) ?_
        refine own_step (fun t k => XS.iand X0.here hx rfl (hb hby at_70) rfl k) ?_
        refine own_step (fun t k => XS.istore X0.here hx rfl (hb hby at_71) rfl (l' := #[.val (.long y0_0), .second, .val (.long y1_0), .second, .val (.long y2_0), .second, .val (.long y3_0), .second, .val (.int x4_0), .val (.int x5_0), .val (.int (x5_0 &&& (3 : Int32))), .val (.int (1 : Int32)), .val (.int (1 : Int32)), .val (.int (0 : Int32)), .val (.int (((x5_0.toUInt32 >>> ((5 : Int32) &&& 31).toUInt32).toInt32) &&& (127 : Int32))), .val (.int ((x5_0.toUInt32 >>> ((12 : Int32) &&& 31).toUInt32).toInt32)), .val (.int (x4_0 &&& (2147483647 : Int32))), .unset, .unset, .unset, .unset, .unset, .unset, .unset, .unset, .unset, .unset, .unset, .unset, .unset]) rfl k) ?_
        refine own_step (fun t k => XS.iload X0.here hx rfl (hb hby at_73) rfl k) ?_
        show own_Ends p.tables e below s _ _ _ (s₁.setTop (mkF m 75 #[.val (.long y0_0), .second, .val (.long y1_0), .second, .val (.long y2_0), .second, .val (.long y3_0), .second, .val (.int x4_0), .val (.int x5_0), .val (.int (x5_0 &&& (3 : Int32))), .val (.int (1 : Int32)), .val (.int (1 : Int32)), .val (.int (0 : Int32)), .val (.int (((x5_0.toUInt32 >>> ((5 : Int32) &&& 31).toUInt32).toInt32) &&& (127 : Int32))), .val (.int ((x5_0.toUInt32 >>> ((12 : Int32) &&& 31).toUInt32).toInt32)), .val (.int (x4_0 &&& (2147483647 : Int32))), .unset, .unset, .unset, .unset, .unset, .unset, .unset, .unset, .unset, .unset, .unset, .unset, .unset] [(.int (1 : Int32))]))
        refine own_step (fun t k => XS.ifNo X0.here hx rfl (hb hby at_75) rfl ((if0 _ _).trans (feq (by decide : ¬ ((1 : Int32) = (0 : Int32)))).1) k) ?_
        refine own_step (fun t k => XS.lload X0.here hx rfl (hb hby at_78) rfl k) ?_
        refine own_step (fun t k => XS.lconst X0.here hx rfl (hb hby at_80) k) ?_
        refine own_step (fun t k => XS.lor X0.here hx rfl (hb hby at_81) rfl k) ?_
        refine own_step (fun t k => XS.lstore X0.here hx rfl (hb hby at_82) rfl (l' := #[.val (.long y0_0), .second, .val (.long y1_0), .second, .val (.long y2_0), .second, .val (.long y3_0), .second, .val (.int x4_0), .val (.int x5_0), .val (.int (x5_0 &&& (3 : Int32))), .val (.int (1 : Int32)), .val (.int (1 : Int32)), .val (.int (0 : Int32)), .val (.int (((x5_0.toUInt32 >>> ((5 : Int32) &&& 31).toUInt32).toInt32) &&& (127 : Int32))), .val (.int ((x5_0.toUInt32 >>> ((12 : Int32) &&& 31).toUInt32).toInt32)), .val (.int (x4_0 &&& (2147483647 : Int32))), .unset, .unset, .unset, .unset, .val (.long (y2_0 ||| (1 : Int64))), .second, .unset, .unset, .unset, .unset, .unset, .unset, .unset]) rfl k) ?_
        refine own_step (fun t k => XS.lloadN X0.here hx rfl (hb hby at_84) rfl k) ?_
        show own_Ends p.tables e below s _ _ _ (s₁.setTop (mkF m 85 #[.val (.long y0_0), .second, .val (.long y1_0), .second, .val (.long y2_0), .second, .val (.long y3_0), .second, .val (.int x4_0), .val (.int x5_0), .val (.int (x5_0 &&& (3 : Int32))), .val (.int (1 : Int32)), .val (.int (1 : Int32)), .val (.int (0 : Int32)), .val (.int (((x5_0.toUInt32 >>> ((5 : Int32) &&& 31).toUInt32).toInt32) &&& (127 : Int32))), .val (.int ((x5_0.toUInt32 >>> ((12 : Int32) &&& 31).toUInt32).toInt32)), .val (.int (x4_0 &&& (2147483647 : Int32))), .unset, .unset, .unset, .unset, .val (.long (y2_0 ||| (1 : Int64))), .second, .unset, .unset, .unset, .unset, .unset, .unset, .unset] [(.long y0_0)]))
        refine own_step (fun t k => X0.ldc2Long hx hown (mvT hZ (hw _ (List.mem_of_getElem? (i := 44) rfl))) (g := (mkF m 85 #[.val (.long y0_0), .second, .val (.long y1_0), .second, .val (.long y2_0), .second, .val (.long y3_0), .second, .val (.int x4_0), .val (.int x5_0), .val (.int (x5_0 &&& (3 : Int32))), .val (.int (1 : Int32)), .val (.int (1 : Int32)), .val (.int (0 : Int32)), .val (.int (((x5_0.toUInt32 >>> ((5 : Int32) &&& 31).toUInt32).toInt32) &&& (127 : Int32))), .val (.int ((x5_0.toUInt32 >>> ((12 : Int32) &&& 31).toUInt32).toInt32)), .val (.int (x4_0 &&& (2147483647 : Int32))), .unset, .unset, .unset, .unset, .val (.long (y2_0 ||| (1 : Int64))), .second, .unset, .unset, .unset, .unset, .unset, .unset, .unset] [(.long y0_0)])) rfl (hb hby at_85) _ k) ?_
        refine own_step (fun t k => XS.lload X0.here hx rfl (hb hby at_88) rfl k) ?_
        refine own_step (fun t k => XS.lmul X0.here hx rfl (hb hby at_90) rfl k) ?_
        refine own_step (fun t k => XS.ladd X0.here hx rfl (hb hby at_91) rfl k) ?_
        refine own_step (fun t k => XS.lstore X0.here hx rfl (hb hby at_92) rfl (l' := #[.val (.long y0_0), .second, .val (.long y1_0), .second, .val (.long y2_0), .second, .val (.long y3_0), .second, .val (.int x4_0), .val (.int x5_0), .val (.int (x5_0 &&& (3 : Int32))), .val (.int (1 : Int32)), .val (.int (1 : Int32)), .val (.int (0 : Int32)), .val (.int (((x5_0.toUInt32 >>> ((5 : Int32) &&& 31).toUInt32).toInt32) &&& (127 : Int32))), .val (.int ((x5_0.toUInt32 >>> ((12 : Int32) &&& 31).toUInt32).toInt32)), .val (.int (x4_0 &&& (2147483647 : Int32))), .val (.long (y0_0 + ((-4417276706812531889 : Int64) * (y2_0 ||| (1 : Int64))))), .second, .unset, .unset, .val (.long (y2_0 ||| (1 : Int64))), .second, .unset, .unset, .unset, .unset, .unset, .unset, .unset]) rfl k) ?_
        refine own_step (fun t k => XS.lloadN X0.here hx rfl (hb hby at_94) rfl k) ?_
        show own_Ends p.tables e below s _ _ _ (s₁.setTop (mkF m 95 #[.val (.long y0_0), .second, .val (.long y1_0), .second, .val (.long y2_0), .second, .val (.long y3_0), .second, .val (.int x4_0), .val (.int x5_0), .val (.int (x5_0 &&& (3 : Int32))), .val (.int (1 : Int32)), .val (.int (1 : Int32)), .val (.int (0 : Int32)), .val (.int (((x5_0.toUInt32 >>> ((5 : Int32) &&& 31).toUInt32).toInt32) &&& (127 : Int32))), .val (.int ((x5_0.toUInt32 >>> ((12 : Int32) &&& 31).toUInt32).toInt32)), .val (.int (x4_0 &&& (2147483647 : Int32))), .val (.long (y0_0 + ((-4417276706812531889 : Int64) * (y2_0 ||| (1 : Int64))))), .second, .unset, .unset, .val (.long (y2_0 ||| (1 : Int64))), .second, .unset, .unset, .unset, .unset, .unset, .unset, .unset] [(.long y1_0)]))
        refine own_step (fun t k => X0.ldc2Long hx hown (mvT hZ (hw _ (List.mem_of_getElem? (i := 45) rfl))) (g := (mkF m 95 #[.val (.long y0_0), .second, .val (.long y1_0), .second, .val (.long y2_0), .second, .val (.long y3_0), .second, .val (.int x4_0), .val (.int x5_0), .val (.int (x5_0 &&& (3 : Int32))), .val (.int (1 : Int32)), .val (.int (1 : Int32)), .val (.int (0 : Int32)), .val (.int (((x5_0.toUInt32 >>> ((5 : Int32) &&& 31).toUInt32).toInt32) &&& (127 : Int32))), .val (.int ((x5_0.toUInt32 >>> ((12 : Int32) &&& 31).toUInt32).toInt32)), .val (.int (x4_0 &&& (2147483647 : Int32))), .val (.long (y0_0 + ((-4417276706812531889 : Int64) * (y2_0 ||| (1 : Int64))))), .second, .unset, .unset, .val (.long (y2_0 ||| (1 : Int64))), .second, .unset, .unset, .unset, .unset, .unset, .unset, .unset] [(.long y1_0)])) rfl (hb hby at_95) _ k) ?_
        refine own_step (fun t k => XS.lload X0.here hx rfl (hb hby at_98) rfl k) ?_
        refine own_step (fun t k => XS.lmul X0.here hx rfl (hb hby at_100) rfl k) ?_
        refine own_step (fun t k => XS.lsub X0.here hx rfl (hb hby at_101) rfl k) ?_
        refine own_step (fun t k => XS.lstore X0.here hx rfl (hb hby at_102) rfl (l' := #[.val (.long y0_0), .second, .val (.long y1_0), .second, .val (.long y2_0), .second, .val (.long y3_0), .second, .val (.int x4_0), .val (.int x5_0), .val (.int (x5_0 &&& (3 : Int32))), .val (.int (1 : Int32)), .val (.int (1 : Int32)), .val (.int (0 : Int32)), .val (.int (((x5_0.toUInt32 >>> ((5 : Int32) &&& 31).toUInt32).toInt32) &&& (127 : Int32))), .val (.int ((x5_0.toUInt32 >>> ((12 : Int32) &&& 31).toUInt32).toInt32)), .val (.int (x4_0 &&& (2147483647 : Int32))), .val (.long (y0_0 + ((-4417276706812531889 : Int64) * (y2_0 ||| (1 : Int64))))), .second, .val (.long (y1_0 - ((-7046029254386353131 : Int64) * (y2_0 ||| (1 : Int64))))), .second, .val (.long (y2_0 ||| (1 : Int64))), .second, .unset, .unset, .unset, .unset, .unset, .unset, .unset]) rfl k) ?_
        refine own_step (fun t k => XS.goto X0.here hx rfl (pc0 := 104) (pc' := 115) rfl (hb hby at_104) (by decide) (by decide) k) ?_
        refine own_step (fun t k => XS.iload X0.here hx rfl (hb hby at_115) rfl k) ?_
        show own_Ends p.tables e below s _ _ _ (s₁.setTop (mkF m 117 #[.val (.long y0_0), .second, .val (.long y1_0), .second, .val (.long y2_0), .second, .val (.long y3_0), .second, .val (.int x4_0), .val (.int x5_0), .val (.int (x5_0 &&& (3 : Int32))), .val (.int (1 : Int32)), .val (.int (1 : Int32)), .val (.int (0 : Int32)), .val (.int (((x5_0.toUInt32 >>> ((5 : Int32) &&& 31).toUInt32).toInt32) &&& (127 : Int32))), .val (.int ((x5_0.toUInt32 >>> ((12 : Int32) &&& 31).toUInt32).toInt32)), .val (.int (x4_0 &&& (2147483647 : Int32))), .val (.long (y0_0 + ((-4417276706812531889 : Int64) * (y2_0 ||| (1 : Int64))))), .second, .val (.long (y1_0 - ((-7046029254386353131 : Int64) * (y2_0 ||| (1 : Int64))))), .second, .val (.long (y2_0 ||| (1 : Int64))), .second, .unset, .unset, .unset, .unset, .unset, .unset, .unset] [(.int (x5_0 &&& (3 : Int32)))]))
        by_cases hc117_87 : (x5_0 &&& (3 : Int32)) = (0 : Int32)
        · skip
          refine own_step (fun t k => XS.ifNo X0.here hx rfl (hb hby at_117) rfl ((if0 _ _).trans (teq hc117_87).2) k) ?_
          refine own_step (fun t k => XS.lloadN X0.here hx rfl (hb hby at_120) rfl k) ?_
          refine own_step (fun t k => XS.lstore X0.here hx rfl (hb hby at_121) rfl (l' := #[.val (.long y0_0), .second, .val (.long y1_0), .second, .val (.long y2_0), .second, .val (.long y3_0), .second, .val (.int x4_0), .val (.int x5_0), .val (.int (x5_0 &&& (3 : Int32))), .val (.int (1 : Int32)), .val (.int (1 : Int32)), .val (.int (0 : Int32)), .val (.int (((x5_0.toUInt32 >>> ((5 : Int32) &&& 31).toUInt32).toInt32) &&& (127 : Int32))), .val (.int ((x5_0.toUInt32 >>> ((12 : Int32) &&& 31).toUInt32).toInt32)), .val (.int (x4_0 &&& (2147483647 : Int32))), .val (.long (y0_0 + ((-4417276706812531889 : Int64) * (y2_0 ||| (1 : Int64))))), .second, .val (.long (y1_0 - ((-7046029254386353131 : Int64) * (y2_0 ||| (1 : Int64))))), .second, .val (.long y0_0), .second, .unset, .unset, .unset, .unset, .unset, .unset, .unset]) rfl k) ?_
          refine own_step (fun t k => XS.lloadN X0.here hx rfl (hb hby at_123) rfl k) ?_
          refine own_step (fun t k => XS.lstore X0.here hx rfl (hb hby at_124) rfl (l' := #[.val (.long y0_0), .second, .val (.long y1_0), .second, .val (.long y2_0), .second, .val (.long y3_0), .second, .val (.int x4_0), .val (.int x5_0), .val (.int (x5_0 &&& (3 : Int32))), .val (.int (1 : Int32)), .val (.int (1 : Int32)), .val (.int (0 : Int32)), .val (.int (((x5_0.toUInt32 >>> ((5 : Int32) &&& 31).toUInt32).toInt32) &&& (127 : Int32))), .val (.int ((x5_0.toUInt32 >>> ((12 : Int32) &&& 31).toUInt32).toInt32)), .val (.int (x4_0 &&& (2147483647 : Int32))), .val (.long (y0_0 + ((-4417276706812531889 : Int64) * (y2_0 ||| (1 : Int64))))), .second, .val (.long (y1_0 - ((-7046029254386353131 : Int64) * (y2_0 ||| (1 : Int64))))), .second, .val (.long y0_0), .second, .val (.long y1_0), .second, .unset, .unset, .unset, .unset, .unset]) rfl k) ?_
          refine own_step (fun t k => XS.goto X0.here hx rfl (pc0 := 126) (pc' := 169) rfl (hb hby at_126) (by decide) (by decide) k) ?_
          show own_Ends p.tables e below s _ _ _ (s₁.setTop (mkF m 169 #[.val (.long y0_0), .second, .val (.long y1_0), .second, .val (.long y2_0), .second, .val (.long y3_0), .second, .val (.int x4_0), .val (.int x5_0), .val (.int (x5_0 &&& (3 : Int32))), .val (.int (1 : Int32)), .val (.int (1 : Int32)), .val (.int (0 : Int32)), .val (.int (((x5_0.toUInt32 >>> ((5 : Int32) &&& 31).toUInt32).toInt32) &&& (127 : Int32))), .val (.int ((x5_0.toUInt32 >>> ((12 : Int32) &&& 31).toUInt32).toInt32)), .val (.int (x4_0 &&& (2147483647 : Int32))), .val (.long (y0_0 + ((-4417276706812531889 : Int64) * (y2_0 ||| (1 : Int64))))), .second, .val (.long (y1_0 - ((-7046029254386353131 : Int64) * (y2_0 ||| (1 : Int64))))), .second, .val (.long y0_0), .second, .val (.long y1_0), .second, .unset, .unset, .unset, .unset, .unset] []))
          exact tail169 (x5_0 &&& (3 : Int32)) (1 : Int32) (1 : Int32) (0 : Int32) (((x5_0.toUInt32 >>> ((5 : Int32) &&& 31).toUInt32).toInt32) &&& (127 : Int32)) ((x5_0.toUInt32 >>> ((12 : Int32) &&& 31).toUInt32).toInt32) (x4_0 &&& (2147483647 : Int32)) (y0_0 + ((-4417276706812531889 : Int64) * (y2_0 ||| (1 : Int64)))) (y1_0 - ((-7046029254386353131 : Int64) * (y2_0 ||| (1 : Int64)))) y0_0 y1_0 (own_m127 _) (own_m31 _) (own_u12 _)
        · skip
          refine own_step (fun t k => XS.ifYes X0.here hx rfl (pc0 := 117) (pc' := 129) rfl (hb hby at_117) rfl ((if0 _ _).trans (feq hc117_87).2) (by decide) (by decide) k) ?_
          refine own_step (fun t k => XS.iload X0.here hx rfl (hb hby at_129) rfl k) ?_
          refine own_step (fun t k => XS.iconst X0.here hx rfl (hb hby at_131) k) ?_
          show own_Ends p.tables e below s _ _ _ (s₁.setTop (mkF m 132 #[.val (.long y0_0), .second, .val (.long y1_0), .second, .val (.long y2_0), .second, .val (.long y3_0), .second, .val (.int x4_0), .val (.int x5_0), .val (.int (x5_0 &&& (3 : Int32))), .val (.int (1 : Int32)), .val (.int (1 : Int32)), .val (.int (0 : Int32)), .val (.int (((x5_0.toUInt32 >>> ((5 : Int32) &&& 31).toUInt32).toInt32) &&& (127 : Int32))), .val (.int ((x5_0.toUInt32 >>> ((12 : Int32) &&& 31).toUInt32).toInt32)), .val (.int (x4_0 &&& (2147483647 : Int32))), .val (.long (y0_0 + ((-4417276706812531889 : Int64) * (y2_0 ||| (1 : Int64))))), .second, .val (.long (y1_0 - ((-7046029254386353131 : Int64) * (y2_0 ||| (1 : Int64))))), .second, .val (.long (y2_0 ||| (1 : Int64))), .second, .unset, .unset, .unset, .unset, .unset, .unset, .unset] [(.int (1 : Int32)), (.int (x5_0 &&& (3 : Int32)))]))
          by_cases hc132_88 : (x5_0 &&& (3 : Int32)) = (1 : Int32)
          · skip
            refine own_step (fun t k => XS.icmpNo X0.here hx rfl (hb hby at_132) rfl (teq hc132_88).2 k) ?_
            refine own_step (fun t k => XS.lload X0.here hx rfl (hb hby at_135) rfl k) ?_
            refine own_step (fun t k => XS.lstore X0.here hx rfl (hb hby at_137) rfl (l' := #[.val (.long y0_0), .second, .val (.long y1_0), .second, .val (.long y2_0), .second, .val (.long y3_0), .second, .val (.int x4_0), .val (.int x5_0), .val (.int (x5_0 &&& (3 : Int32))), .val (.int (1 : Int32)), .val (.int (1 : Int32)), .val (.int (0 : Int32)), .val (.int (((x5_0.toUInt32 >>> ((5 : Int32) &&& 31).toUInt32).toInt32) &&& (127 : Int32))), .val (.int ((x5_0.toUInt32 >>> ((12 : Int32) &&& 31).toUInt32).toInt32)), .val (.int (x4_0 &&& (2147483647 : Int32))), .val (.long (y0_0 + ((-4417276706812531889 : Int64) * (y2_0 ||| (1 : Int64))))), .second, .val (.long (y1_0 - ((-7046029254386353131 : Int64) * (y2_0 ||| (1 : Int64))))), .second, .val (.long (y0_0 + ((-4417276706812531889 : Int64) * (y2_0 ||| (1 : Int64))))), .second, .unset, .unset, .unset, .unset, .unset, .unset, .unset]) rfl k) ?_
            refine own_step (fun t k => XS.lload X0.here hx rfl (hb hby at_139) rfl k) ?_
            refine own_step (fun t k => XS.lstore X0.here hx rfl (hb hby at_141) rfl (l' := #[.val (.long y0_0), .second, .val (.long y1_0), .second, .val (.long y2_0), .second, .val (.long y3_0), .second, .val (.int x4_0), .val (.int x5_0), .val (.int (x5_0 &&& (3 : Int32))), .val (.int (1 : Int32)), .val (.int (1 : Int32)), .val (.int (0 : Int32)), .val (.int (((x5_0.toUInt32 >>> ((5 : Int32) &&& 31).toUInt32).toInt32) &&& (127 : Int32))), .val (.int ((x5_0.toUInt32 >>> ((12 : Int32) &&& 31).toUInt32).toInt32)), .val (.int (x4_0 &&& (2147483647 : Int32))), .val (.long (y0_0 + ((-4417276706812531889 : Int64) * (y2_0 ||| (1 : Int64))))), .second, .val (.long (y1_0 - ((-7046029254386353131 : Int64) * (y2_0 ||| (1 : Int64))))), .second, .val (.long (y0_0 + ((-4417276706812531889 : Int64) * (y2_0 ||| (1 : Int64))))), .second, .val (.long (y1_0 - ((-7046029254386353131 : Int64) * (y2_0 ||| (1 : Int64))))), .second, .unset, .unset, .unset, .unset, .unset]) rfl k) ?_
            refine own_step (fun t k => XS.goto X0.here hx rfl (pc0 := 143) (pc' := 169) rfl (hb hby at_143) (by decide) (by decide) k) ?_
            show own_Ends p.tables e below s _ _ _ (s₁.setTop (mkF m 169 #[.val (.long y0_0), .second, .val (.long y1_0), .second, .val (.long y2_0), .second, .val (.long y3_0), .second, .val (.int x4_0), .val (.int x5_0), .val (.int (x5_0 &&& (3 : Int32))), .val (.int (1 : Int32)), .val (.int (1 : Int32)), .val (.int (0 : Int32)), .val (.int (((x5_0.toUInt32 >>> ((5 : Int32) &&& 31).toUInt32).toInt32) &&& (127 : Int32))), .val (.int ((x5_0.toUInt32 >>> ((12 : Int32) &&& 31).toUInt32).toInt32)), .val (.int (x4_0 &&& (2147483647 : Int32))), .val (.long (y0_0 + ((-4417276706812531889 : Int64) * (y2_0 ||| (1 : Int64))))), .second, .val (.long (y1_0 - ((-7046029254386353131 : Int64) * (y2_0 ||| (1 : Int64))))), .second, .val (.long (y0_0 + ((-4417276706812531889 : Int64) * (y2_0 ||| (1 : Int64))))), .second, .val (.long (y1_0 - ((-7046029254386353131 : Int64) * (y2_0 ||| (1 : Int64))))), .second, .unset, .unset, .unset, .unset, .unset] []))
            exact tail169 (x5_0 &&& (3 : Int32)) (1 : Int32) (1 : Int32) (0 : Int32) (((x5_0.toUInt32 >>> ((5 : Int32) &&& 31).toUInt32).toInt32) &&& (127 : Int32)) ((x5_0.toUInt32 >>> ((12 : Int32) &&& 31).toUInt32).toInt32) (x4_0 &&& (2147483647 : Int32)) (y0_0 + ((-4417276706812531889 : Int64) * (y2_0 ||| (1 : Int64)))) (y1_0 - ((-7046029254386353131 : Int64) * (y2_0 ||| (1 : Int64)))) (y0_0 + ((-4417276706812531889 : Int64) * (y2_0 ||| (1 : Int64)))) (y1_0 - ((-7046029254386353131 : Int64) * (y2_0 ||| (1 : Int64)))) (own_m127 _) (own_m31 _) (own_u12 _)
          · skip
            refine own_step (fun t k => XS.icmpYes X0.here hx rfl (pc0 := 132) (pc' := 146) rfl (hb hby at_132) rfl (feq hc132_88).2 (by decide) (by decide) k) ?_
            refine own_step (fun t k => XS.iload X0.here hx rfl (hb hby at_146) rfl k) ?_
            refine own_step (fun t k => XS.iconst X0.here hx rfl (hb hby at_148) k) ?_
            show own_Ends p.tables e below s _ _ _ (s₁.setTop (mkF m 149 #[.val (.long y0_0), .second, .val (.long y1_0), .second, .val (.long y2_0), .second, .val (.long y3_0), .second, .val (.int x4_0), .val (.int x5_0), .val (.int (x5_0 &&& (3 : Int32))), .val (.int (1 : Int32)), .val (.int (1 : Int32)), .val (.int (0 : Int32)), .val (.int (((x5_0.toUInt32 >>> ((5 : Int32) &&& 31).toUInt32).toInt32) &&& (127 : Int32))), .val (.int ((x5_0.toUInt32 >>> ((12 : Int32) &&& 31).toUInt32).toInt32)), .val (.int (x4_0 &&& (2147483647 : Int32))), .val (.long (y0_0 + ((-4417276706812531889 : Int64) * (y2_0 ||| (1 : Int64))))), .second, .val (.long (y1_0 - ((-7046029254386353131 : Int64) * (y2_0 ||| (1 : Int64))))), .second, .val (.long (y2_0 ||| (1 : Int64))), .second, .unset, .unset, .unset, .unset, .unset, .unset, .unset] [(.int (2 : Int32)), (.int (x5_0 &&& (3 : Int32)))]))
            by_cases hc149_89 : (x5_0 &&& (3 : Int32)) = (2 : Int32)
            · skip
              refine own_step (fun t k => XS.icmpNo X0.here hx rfl (hb hby at_149) rfl (teq hc149_89).2 k) ?_
              refine own_step (fun t k => XS.lloadN X0.here hx rfl (hb hby at_152) rfl k) ?_
              refine own_step (fun t k => XS.lstore X0.here hx rfl (hb hby at_153) rfl (l' := #[.val (.long y0_0), .second, .val (.long y1_0), .second, .val (.long y2_0), .second, .val (.long y3_0), .second, .val (.int x4_0), .val (.int x5_0), .val (.int (x5_0 &&& (3 : Int32))), .val (.int (1 : Int32)), .val (.int (1 : Int32)), .val (.int (0 : Int32)), .val (.int (((x5_0.toUInt32 >>> ((5 : Int32) &&& 31).toUInt32).toInt32) &&& (127 : Int32))), .val (.int ((x5_0.toUInt32 >>> ((12 : Int32) &&& 31).toUInt32).toInt32)), .val (.int (x4_0 &&& (2147483647 : Int32))), .val (.long (y0_0 + ((-4417276706812531889 : Int64) * (y2_0 ||| (1 : Int64))))), .second, .val (.long (y1_0 - ((-7046029254386353131 : Int64) * (y2_0 ||| (1 : Int64))))), .second, .val (.long y0_0), .second, .unset, .unset, .unset, .unset, .unset, .unset, .unset]) rfl k) ?_
              refine own_step (fun t k => XS.lload X0.here hx rfl (hb hby at_155) rfl k) ?_
              refine own_step (fun t k => XS.lstore X0.here hx rfl (hb hby at_157) rfl (l' := #[.val (.long y0_0), .second, .val (.long y1_0), .second, .val (.long y2_0), .second, .val (.long y3_0), .second, .val (.int x4_0), .val (.int x5_0), .val (.int (x5_0 &&& (3 : Int32))), .val (.int (1 : Int32)), .val (.int (1 : Int32)), .val (.int (0 : Int32)), .val (.int (((x5_0.toUInt32 >>> ((5 : Int32) &&& 31).toUInt32).toInt32) &&& (127 : Int32))), .val (.int ((x5_0.toUInt32 >>> ((12 : Int32) &&& 31).toUInt32).toInt32)), .val (.int (x4_0 &&& (2147483647 : Int32))), .val (.long (y0_0 + ((-4417276706812531889 : Int64) * (y2_0 ||| (1 : Int64))))), .second, .val (.long (y1_0 - ((-7046029254386353131 : Int64) * (y2_0 ||| (1 : Int64))))), .second, .val (.long y0_0), .second, .val (.long (y1_0 - ((-7046029254386353131 : Int64) * (y2_0 ||| (1 : Int64))))), .second, .unset, .unset, .unset, .unset, .unset]) rfl k) ?_
              refine own_step (fun t k => XS.goto X0.here hx rfl (pc0 := 159) (pc' := 169) rfl (hb hby at_159) (by decide) (by decide) k) ?_
              show own_Ends p.tables e below s _ _ _ (s₁.setTop (mkF m 169 #[.val (.long y0_0), .second, .val (.long y1_0), .second, .val (.long y2_0), .second, .val (.long y3_0), .second, .val (.int x4_0), .val (.int x5_0), .val (.int (x5_0 &&& (3 : Int32))), .val (.int (1 : Int32)), .val (.int (1 : Int32)), .val (.int (0 : Int32)), .val (.int (((x5_0.toUInt32 >>> ((5 : Int32) &&& 31).toUInt32).toInt32) &&& (127 : Int32))), .val (.int ((x5_0.toUInt32 >>> ((12 : Int32) &&& 31).toUInt32).toInt32)), .val (.int (x4_0 &&& (2147483647 : Int32))), .val (.long (y0_0 + ((-4417276706812531889 : Int64) * (y2_0 ||| (1 : Int64))))), .second, .val (.long (y1_0 - ((-7046029254386353131 : Int64) * (y2_0 ||| (1 : Int64))))), .second, .val (.long y0_0), .second, .val (.long (y1_0 - ((-7046029254386353131 : Int64) * (y2_0 ||| (1 : Int64))))), .second, .unset, .unset, .unset, .unset, .unset] []))
              exact tail169 (x5_0 &&& (3 : Int32)) (1 : Int32) (1 : Int32) (0 : Int32) (((x5_0.toUInt32 >>> ((5 : Int32) &&& 31).toUInt32).toInt32) &&& (127 : Int32)) ((x5_0.toUInt32 >>> ((12 : Int32) &&& 31).toUInt32).toInt32) (x4_0 &&& (2147483647 : Int32)) (y0_0 + ((-4417276706812531889 : Int64) * (y2_0 ||| (1 : Int64)))) (y1_0 - ((-7046029254386353131 : Int64) * (y2_0 ||| (1 : Int64)))) y0_0 (y1_0 - ((-7046029254386353131 : Int64) * (y2_0 ||| (1 : Int64)))) (own_m127 _) (own_m31 _) (own_u12 _)
            · skip
              refine own_step (fun t k => XS.icmpYes X0.here hx rfl (pc0 := 149) (pc' := 162) rfl (hb hby at_149) rfl (feq hc149_89).2 (by decide) (by decide) k) ?_
              refine own_step (fun t k => XS.lload X0.here hx rfl (hb hby at_162) rfl k) ?_
              refine own_step (fun t k => XS.lstore X0.here hx rfl (hb hby at_164) rfl (l' := #[.val (.long y0_0), .second, .val (.long y1_0), .second, .val (.long y2_0), .second, .val (.long y3_0), .second, .val (.int x4_0), .val (.int x5_0), .val (.int (x5_0 &&& (3 : Int32))), .val (.int (1 : Int32)), .val (.int (1 : Int32)), .val (.int (0 : Int32)), .val (.int (((x5_0.toUInt32 >>> ((5 : Int32) &&& 31).toUInt32).toInt32) &&& (127 : Int32))), .val (.int ((x5_0.toUInt32 >>> ((12 : Int32) &&& 31).toUInt32).toInt32)), .val (.int (x4_0 &&& (2147483647 : Int32))), .val (.long (y0_0 + ((-4417276706812531889 : Int64) * (y2_0 ||| (1 : Int64))))), .second, .val (.long (y1_0 - ((-7046029254386353131 : Int64) * (y2_0 ||| (1 : Int64))))), .second, .val (.long (y0_0 + ((-4417276706812531889 : Int64) * (y2_0 ||| (1 : Int64))))), .second, .unset, .unset, .unset, .unset, .unset, .unset, .unset]) rfl k) ?_
              refine own_step (fun t k => XS.lloadN X0.here hx rfl (hb hby at_166) rfl k) ?_
              refine own_step (fun t k => XS.lstore X0.here hx rfl (hb hby at_167) rfl (l' := #[.val (.long y0_0), .second, .val (.long y1_0), .second, .val (.long y2_0), .second, .val (.long y3_0), .second, .val (.int x4_0), .val (.int x5_0), .val (.int (x5_0 &&& (3 : Int32))), .val (.int (1 : Int32)), .val (.int (1 : Int32)), .val (.int (0 : Int32)), .val (.int (((x5_0.toUInt32 >>> ((5 : Int32) &&& 31).toUInt32).toInt32) &&& (127 : Int32))), .val (.int ((x5_0.toUInt32 >>> ((12 : Int32) &&& 31).toUInt32).toInt32)), .val (.int (x4_0 &&& (2147483647 : Int32))), .val (.long (y0_0 + ((-4417276706812531889 : Int64) * (y2_0 ||| (1 : Int64))))), .second, .val (.long (y1_0 - ((-7046029254386353131 : Int64) * (y2_0 ||| (1 : Int64))))), .second, .val (.long (y0_0 + ((-4417276706812531889 : Int64) * (y2_0 ||| (1 : Int64))))), .second, .val (.long y1_0), .second, .unset, .unset, .unset, .unset, .unset]) rfl k) ?_
              show own_Ends p.tables e below s _ _ _ (s₁.setTop (mkF m 169 #[.val (.long y0_0), .second, .val (.long y1_0), .second, .val (.long y2_0), .second, .val (.long y3_0), .second, .val (.int x4_0), .val (.int x5_0), .val (.int (x5_0 &&& (3 : Int32))), .val (.int (1 : Int32)), .val (.int (1 : Int32)), .val (.int (0 : Int32)), .val (.int (((x5_0.toUInt32 >>> ((5 : Int32) &&& 31).toUInt32).toInt32) &&& (127 : Int32))), .val (.int ((x5_0.toUInt32 >>> ((12 : Int32) &&& 31).toUInt32).toInt32)), .val (.int (x4_0 &&& (2147483647 : Int32))), .val (.long (y0_0 + ((-4417276706812531889 : Int64) * (y2_0 ||| (1 : Int64))))), .second, .val (.long (y1_0 - ((-7046029254386353131 : Int64) * (y2_0 ||| (1 : Int64))))), .second, .val (.long (y0_0 + ((-4417276706812531889 : Int64) * (y2_0 ||| (1 : Int64))))), .second, .val (.long y1_0), .second, .unset, .unset, .unset, .unset, .unset] []))
              exact tail169 (x5_0 &&& (3 : Int32)) (1 : Int32) (1 : Int32) (0 : Int32) (((x5_0.toUInt32 >>> ((5 : Int32) &&& 31).toUInt32).toInt32) &&& (127 : Int32)) ((x5_0.toUInt32 >>> ((12 : Int32) &&& 31).toUInt32).toInt32) (x4_0 &&& (2147483647 : Int32)) (y0_0 + ((-4417276706812531889 : Int64) * (y2_0 ||| (1 : Int64)))) (y1_0 - ((-7046029254386353131 : Int64) * (y2_0 ||| (1 : Int64)))) (y0_0 + ((-4417276706812531889 : Int64) * (y2_0 ||| (1 : Int64)))) y1_0 (own_m127 _) (own_m31 _) (own_u12 _)
      · skip
        refine own_step (fun t k => XS.ifNo X0.here hx rfl (hb hby at_40) rfl ((if0 _ _).trans (feq hc40_86).1) k) ?_
        refine own_step (fun t k => XS.iconst X0.here hx rfl (hb hby at_43) k) ?_
        refine own_step (fun t k => XS.goto X0.here hx rfl (pc0 := 44) (pc' := 48) rfl (hb hby at_44) (by decide) (by decide) k) ?_
        refine own_step (fun t k => XS.istore X0.here hx rfl (hb hby at_48) rfl (l' := #[.val (.long y0_0), .second, .val (.long y1_0), .second, .val (.long y2_0), .second, .val (.long y3_0), .second, .val (.int x4_0), .val (.int x5_0), .val (.int (x5_0 &&& (3 : Int32))), .val (.int (1 : Int32)), .val (.int (1 : Int32)), .val (.int (1 : Int32)), .unset, .unset, .unset, .unset, .unset, .unset, .unset, .unset, .unset, .unset, .unset, .unset, .unset, .unset, .unset, .unset]) rfl k) ?_
        refine own_step (fun t k => XS.iload X0.here hx rfl (hb hby at_50) rfl k) ?_
        refine own_step (fun t k => XS.iconst X0.here hx rfl (hb hby at_52) k) ?_
        refine own_step (fun t k => XS.iushr X0.here hx rfl (hb hby at_53) rfl k) ?_
        show own_Ends p.tables e below s _ _ _ (s₁.setTop (mkF m 54 #[.val (.long y0_0), .second, .val (.long y1_0), .second, .val (.long y2_0), .second, .val (.long y3_0), .second, .val (.int x4_0), .val (.int x5_0), .val (.int (x5_0 &&& (3 : Int32))), .val (.int (1 : Int32)), .val (.int (1 : Int32)), .val (.int (1 : Int32)), .unset, .unset, .unset, .unset, .unset, .unset, .unset, .unset, .unset, .unset, .unset, .unset, .unset, .unset, .unset, .unset] [(.int ((x5_0.toUInt32 >>> ((5 : Int32) &&& 31).toUInt32).toInt32))]))
        refine own_step (fun t k => XS.bipush X0.here hx rfl (hb hby at_54) k) ?_
        refine own_step (fun t k => XS.iand X0.here hx rfl (hb hby at_56) rfl k) ?_
        refine own_step (fun t k => XS.istore X0.here hx rfl (hb hby at_57) rfl (l' := #[.val (.long y0_0), .second, .val (.long y1_0), .second, .val (.long y2_0), .second, .val (.long y3_0), .second, .val (.int x4_0), .val (.int x5_0), .val (.int (x5_0 &&& (3 : Int32))), .val (.int (1 : Int32)), .val (.int (1 : Int32)), .val (.int (1 : Int32)), .val (.int (((x5_0.toUInt32 >>> ((5 : Int32) &&& 31).toUInt32).toInt32) &&& (127 : Int32))), .unset, .unset, .unset, .unset, .unset, .unset, .unset, .unset, .unset, .unset, .unset, .unset, .unset, .unset, .unset]) rfl k) ?_
        refine own_step (fun t k => XS.iload X0.here hx rfl (hb hby at_59) rfl k) ?_
        refine own_step (fun t k => XS.bipush X0.here hx rfl (hb hby at_61) k) ?_
        refine own_step (fun t k => XS.iushr X0.here hx rfl (hb hby at_63) rfl k) ?_
        refine own_step (fun t k => XS.istore X0.here hx rfl (hb hby at_64) rfl (l' := #[.val (.long y0_0), .second, .val (.long y1_0), .second, .val (.long y2_0), .second, .val (.long y3_0), .second, .val (.int x4_0), .val (.int x5_0), .val (.int (x5_0 &&& (3 : Int32))), .val (.int (1 : Int32)), .val (.int (1 : Int32)), .val (.int (1 : Int32)), .val (.int (((x5_0.toUInt32 >>> ((5 : Int32) &&& 31).toUInt32).toInt32) &&& (127 : Int32))), .val (.int ((x5_0.toUInt32 >>> ((12 : Int32) &&& 31).toUInt32).toInt32)), .unset, .unset, .unset, .unset, .unset, .unset, .unset, .unset, .unset, .unset, .unset, .unset, .unset, .unset]) rfl k) ?_
        show own_Ends p.tables e below s _ _ _ (s₁.setTop (mkF m 66 #[.val (.long y0_0), .second, .val (.long y1_0), .second, .val (.long y2_0), .second, .val (.long y3_0), .second, .val (.int x4_0), .val (.int x5_0), .val (.int (x5_0 &&& (3 : Int32))), .val (.int (1 : Int32)), .val (.int (1 : Int32)), .val (.int (1 : Int32)), .val (.int (((x5_0.toUInt32 >>> ((5 : Int32) &&& 31).toUInt32).toInt32) &&& (127 : Int32))), .val (.int ((x5_0.toUInt32 >>> ((12 : Int32) &&& 31).toUInt32).toInt32)), .unset, .unset, .unset, .unset, .unset, .unset, .unset, .unset, .unset, .unset, .unset, .unset, .unset, .unset] []))
        refine own_step (fun t k => XS.iload X0.here hx rfl (hb hby at_66) rfl k) ?_
        show own_Ends p.tables e below s _ _ _ (s₁.setTop (mkF m 68 #[.val (.long y0_0), .second, .val (.long y1_0), .second, .val (.long y2_0), .second, .val (.long y3_0), .second, .val (.int x4_0), .val (.int x5_0), .val (.int (x5_0 &&& (3 : Int32))), .val (.int (1 : Int32)), .val (.int (1 : Int32)), .val (.int (1 : Int32)), .val (.int (((x5_0.toUInt32 >>> ((5 : Int32) &&& 31).toUInt32).toInt32) &&& (127 : Int32))), .val (.int ((x5_0.toUInt32 >>> ((12 : Int32) &&& 31).toUInt32).toInt32)), .unset, .unset, .unset, .unset, .unset, .unset, .unset, .unset, .unset, .unset, .unset, .unset, .unset, .unset] [(.int x4_0)]))
        refine own_step (fun t k => X0.ldcInt hx hown (mvT hZ (hw _ (List.mem_of_getElem? (i := 0) rfl))) (g := (mkF m 68 #[.val (.long y0_0), .second, .val (.long y1_0), .second, .val (.long y2_0), .second, .val (.long y3_0), .second, .val (.int x4_0), .val (.int x5_0), .val (.int (x5_0 &&& (3 : Int32))), .val (.int (1 : Int32)), .val (.int (1 : Int32)), .val (.int (1 : Int32)), .val (.int (((x5_0.toUInt32 >>> ((5 : Int32) &&& 31).toUInt32).toInt32) &&& (127 : Int32))), .val (.int ((x5_0.toUInt32 >>> ((12 : Int32) &&& 31).toUInt32).toInt32)), .unset, .unset, .unset, .unset, .unset, .unset, .unset, .unset, .unset, .unset, .unset, .unset, .unset, .unset] [(.int x4_0)])) rfl (hb hby at_68) _ k) ?_
        refine own_step (fun t k => XS.iand X0.here hx rfl (hb hby at_70) rfl k) ?_
        refine own_step (fun t k => XS.istore X0.here hx rfl (hb hby at_71) rfl (l' := #[.val (.long y0_0), .second, .val (.long y1_0), .second, .val (.long y2_0), .second, .val (.long y3_0), .second, .val (.int x4_0), .val (.int x5_0), .val (.int (x5_0 &&& (3 : Int32))), .val (.int (1 : Int32)), .val (.int (1 : Int32)), .val (.int (1 : Int32)), .val (.int (((x5_0.toUInt32 >>> ((5 : Int32) &&& 31).toUInt32).toInt32) &&& (127 : Int32))), .val (.int ((x5_0.toUInt32 >>> ((12 : Int32) &&& 31).toUInt32).toInt32)), .val (.int (x4_0 &&& (2147483647 : Int32))), .unset, .unset, .unset, .unset, .unset, .unset, .unset, .unset, .unset, .unset, .unset, .unset, .unset]) rfl k) ?_
        refine own_step (fun t k => XS.iload X0.here hx rfl (hb hby at_73) rfl k) ?_
        show own_Ends p.tables e below s _ _ _ (s₁.setTop (mkF m 75 #[.val (.long y0_0), .second, .val (.long y1_0), .second, .val (.long y2_0), .second, .val (.long y3_0), .second, .val (.int x4_0), .val (.int x5_0), .val (.int (x5_0 &&& (3 : Int32))), .val (.int (1 : Int32)), .val (.int (1 : Int32)), .val (.int (1 : Int32)), .val (.int (((x5_0.toUInt32 >>> ((5 : Int32) &&& 31).toUInt32).toInt32) &&& (127 : Int32))), .val (.int ((x5_0.toUInt32 >>> ((12 : Int32) &&& 31).toUInt32).toInt32)), .val (.int (x4_0 &&& (2147483647 : Int32))), .unset, .unset, .unset, .unset, .unset, .unset, .unset, .unset, .unset, .unset, .unset, .unset, .unset] [(.int (1 : Int32))]))
        refine own_step (fun t k => XS.ifNo X0.here hx rfl (hb hby at_75) rfl ((if0 _ _).trans (feq (by decide : ¬ ((1 : Int32) = (0 : Int32)))).1) k) ?_
        refine own_step (fun t k => XS.lload X0.here hx rfl (hb hby at_78) rfl k) ?_
        refine own_step (fun t k => XS.lconst X0.here hx rfl (hb hby at_80) k) ?_
        refine own_step (fun t k => XS.lor X0.here hx rfl (hb hby at_81) rfl k) ?_
        refine own_step (fun t k => XS.lstore X0.here hx rfl (hb hby at_82) rfl (l' := #[.val (.long y0_0), .second, .val (.long y1_0), .second, .val (.long y2_0), .second, .val (.long y3_0), .second, .val (.int x4_0), .val (.int x5_0), .val (.int (x5_0 &&& (3 : Int32))), .val (.int (1 : Int32)), .val (.int (1 : Int32)), .val (.int (1 : Int32)), .val (.int (((x5_0.toUInt32 >>> ((5 : Int32) &&& 31).toUInt32).toInt32) &&& (127 : Int32))), .val (.int ((x5_0.toUInt32 >>> ((12 : Int32) &&& 31).toUInt32).toInt32)), .val (.int (x4_0 &&& (2147483647 : Int32))), .unset, .unset, .unset, .unset, .val (.long (y2_0 ||| (1 : Int64))), .second, .unset, .unset, .unset, .unset, .unset, .unset, .unset]) rfl k) ?_
        refine own_step (fun t k => XS.lloadN X0.here hx rfl (hb hby at_84) rfl k) ?_
        show own_Ends p.tables e below s _ _ _ (s₁.setTop (mkF m 85 #[.val (.long y0_0), .second, .val (.long y1_0), .second, .val (.long y2_0), .second, .val (.long y3_0), .second, .val (.int x4_0), .val (.int x5_0), .val (.int (x5_0 &&& (3 : Int32))), .val (.int (1 : Int32)), .val (.int (1 : Int32)), .val (.int (1 : Int32)), .val (.int (((x5_0.toUInt32 >>> ((5 : Int32) &&& 31).toUInt32).toInt32) &&& (127 : Int32))), .val (.int ((x5_0.toUInt32 >>> ((12 : Int32) &&& 31).toUInt32).toInt32)), .val (.int (x4_0 &&& (2147483647 : Int32))), .unset, .unset, .unset, .unset, .val (.long (y2_0 ||| (1 : Int64))), .second, .unset, .unset, .unset, .unset, .unset, .unset, .unset] [(.long y0_0)]))
        refine own_step (fun t k => X0.ldc2Long hx hown (mvT hZ (hw _ (List.mem_of_getElem? (i := 44) rfl))) (g := (mkF m 85 #[.val (.long y0_0), .second, .val (.long y1_0), .second, .val (.long y2_0), .second, .val (.long y3_0), .second, .val (.int x4_0), .val (.int x5_0), .val (.int (x5_0 &&& (3 : Int32))), .val (.int (1 : Int32)), .val (.int (1 : Int32)), .val (.int (1 : Int32)), .val (.int (((x5_0.toUInt32 >>> ((5 : Int32) &&& 31).toUInt32).toInt32) &&& (127 : Int32))), .val (.int ((x5_0.toUInt32 >>> ((12 : Int32) &&& 31).toUInt32).toInt32)), .val (.int (x4_0 &&& (2147483647 : Int32))), .unset, .unset, .unset, .unset, .val (.long (y2_0 ||| (1 : Int64))), .second, .unset, .unset, .unset, .unset, .unset, .unset, .unset] [(.long y0_0)])) rfl (hb hby at_85) _ k) ?_
        refine own_step (fun t k => XS.lload X0.here hx rfl (hb hby at_88) rfl k) ?_
        refine own_step (fun t k => XS.lmul X0.here hx rfl (hb hby at_90) rfl k) ?_
        refine own_step (fun t k => XS.ladd X0.here hx rfl (hb hby at_91) rfl k) ?_
        refine own_step (fun t k => XS.lstore X0.here hx rfl (hb hby at_92) rfl (l' := #[.val (.long y0_0), .second, .val (.long y1_0), .second, .val (.long y2_0), .second, .val (.long y3_0), .second, .val (.int x4_0), .val (.int x5_0), .val (.int (x5_0 &&& (3 : Int32))), .val (.int (1 : Int32)), .val (.int (1 : Int32)), .val (.int (1 : Int32)), .val (.int (((x5_0.toUInt32 >>> ((5 : Int32) &&& 31).toUInt32).toInt32) &&& (127 : Int32))), .val (.int ((x5_0.toUInt32 >>> ((12 : Int32) &&& 31).toUInt32).toInt32)), .val (.int (x4_0 &&& (2147483647 : Int32))), .val (.long (y0_0 + ((-4417276706812531889 : Int64) * (y2_0 ||| (1 : Int64))))), .second, .unset, .unset, .val (.long (y2_0 ||| (1 : Int64))), .second, .unset, .unset, .unset, .unset, .unset, .unset, .unset]) rfl k) ?_
        refine own_step (fun t k => XS.lloadN X0.here hx rfl (hb hby at_94) rfl k) ?_
        show own_Ends p.tables e below s _ _ _ (s₁.setTop (mkF m 95 #[.val (.long y0_0), .second, .val (.long y1_0), .second, .val (.long y2_0), .second, .val (.long y3_0), .second, .val (.int x4_0), .val (.int x5_0), .val (.int (x5_0 &&& (3 : Int32))), .val (.int (1 : Int32)), .val (.int (1 : Int32)), .val (.int (1 : Int32)), .val (.int (((x5_0.toUInt32 >>> ((5 : Int32) &&& 31).toUInt32).toInt32) &&& (127 : Int32))), .val (.int ((x5_0.toUInt32 >>> ((12 : Int32) &&& 31).toUInt32).toInt32)), .val (.int (x4_0 &&& (2147483647 : Int32))), .val (.long (y0_0 + ((-4417276706812531889 : Int64) * (y2_0 ||| (1 : Int64))))), .second, .unset, .unset, .val (.long (y2_0 ||| (1 : Int64))), .second, .unset, .unset, .unset, .unset, .unset, .unset, .unset] [(.long y1_0)]))
        refine own_step (fun t k => X0.ldc2Long hx hown (mvT hZ (hw _ (List.mem_of_getElem? (i := 45) rfl))) (g := (mkF m 95 #[.val (.long y0_0), .second, .val (.long y1_0), .second, .val (.long y2_0), .second, .val (.long y3_0), .second, .val (.int x4_0), .val (.int x5_0), .val (.int (x5_0 &&& (3 : Int32))), .val (.int (1 : Int32)), .val (.int (1 : Int32)), .val (.int (1 : Int32)), .val (.int (((x5_0.toUInt32 >>> ((5 : Int32) &&& 31).toUInt32).toInt32) &&& (127 : Int32))), .val (.int ((x5_0.toUInt32 >>> ((12 : Int32) &&& 31).toUInt32).toInt32)), .val (.int (x4_0 &&& (2147483647 : Int32))), .val (.long (y0_0 + ((-4417276706812531889 : Int64) * (y2_0 ||| (1 : Int64))))), .second, .unset, .unset, .val (.long (y2_0 ||| (1 : Int64))), .second, .unset, .unset, .unset, .unset, .unset, .unset, .unset] [(.long y1_0)])) rfl (hb hby at_95) _ k) ?_
        refine own_step (fun t k => XS.lload X0.here hx rfl (hb hby at_98) rfl k) ?_
        refine own_step (fun t k => XS.lmul X0.here hx rfl (hb hby at_100) rfl k) ?_
        refine own_step (fun t k => XS.lsub X0.here hx rfl (hb hby at_101) rfl k) ?_
        refine own_step (fun t k => XS.lstore X0.here hx rfl (hb hby at_102) rfl (l' := #[.val (.long y0_0), .second, .val (.long y1_0), .second, .val (.long y2_0), .second, .val (.long y3_0), .second, .val (.int x4_0), .val (.int x5_0), .val (.int (x5_0 &&& (3 : Int32))), .val (.int (1 : Int32)), .val (.int (1 : Int32)), .val (.int (1 : Int32)), .val (.int (((x5_0.toUInt32 >>> ((5 : Int32) &&& 31).toUInt32).toInt32) &&& (127 : Int32))), .val (.int ((x5_0.toUInt32 >>> ((12 : Int32) &&& 31).toUInt32).toInt32)), .val (.int (x4_0 &&& (2147483647 : Int32))), .val (.long (y0_0 + ((-4417276706812531889 : Int64) * (y2_0 ||| (1 : Int64))))), .second, .val (.long (y1_0 - ((-7046029254386353131 : Int64) * (y2_0 ||| (1 : Int64))))), .second, .val (.long (y2_0 ||| (1 : Int64))), .second, .unset, .unset, .unset, .unset, .unset, .unset, .unset]) rfl k) ?_
        refine own_step (fun t k => XS.goto X0.here hx rfl (pc0 := 104) (pc' := 115) rfl (hb hby at_104) (by decide) (by decide) k) ?_
        refine own_step (fun t k => XS.iload X0.here hx rfl (hb hby at_115) rfl k) ?_
        show own_Ends p.tables e below s _ _ _ (s₁.setTop (mkF m 117 #[.val (.long y0_0), .second, .val (.long y1_0), .second, .val (.long y2_0), .second, .val (.long y3_0), .second, .val (.int x4_0), .val (.int x5_0), .val (.int (x5_0 &&& (3 : Int32))), .val (.int (1 : Int32)), .val (.int (1 : Int32)), .val (.int (1 : Int32)), .val (.int (((x5_0.toUInt32 >>> ((5 : Int32) &&& 31).toUInt32).toInt32) &&& (127 : Int32))), .val (.int ((x5_0.toUInt32 >>> ((12 : Int32) &&& 31).toUInt32).toInt32)), .val (.int (x4_0 &&& (2147483647 : Int32))), .val (.long (y0_0 + ((-4417276706812531889 : Int64) * (y2_0 ||| (1 : Int64))))), .second, .val (.long (y1_0 - ((-7046029254386353131 : Int64) * (y2_0 ||| (1 : Int64))))), .second, .val (.long (y2_0 ||| (1 : Int64))), .second, .unset, .unset, .unset, .unset, .unset, .unset, .unset] [(.int (x5_0 &&& (3 : Int32)))]))
        by_cases hc117_90 : (x5_0 &&& (3 : Int32)) = (0 : Int32)
        · skip
          refine own_step (fun t k => XS.ifNo X0.here hx rfl (hb hby at_117) rfl ((if0 _ _).trans (teq hc117_90).2) k) ?_
          refine own_step (fun t k => XS.lloadN X0.here hx rfl (hb hby at_120) rfl k) ?_
          refine own_step (fun t k => XS.lstore X0.here hx rfl (hb hby at_121) rfl (l' := #[.val (.long y0_0), .second, .val (.long y1_0), .second, .val (.long y2_0), .second, .val (.long y3_0), .second, .val (.int x4_0), .val (.int x5_0), .val (.int (x5_0 &&& (3 : Int32))), .val (.int (1 : Int32)), .val (.int (1 : Int32)), .val (.int (1 : Int32)), .val (.int (((x5_0.toUInt32 >>> ((5 : Int32) &&& 31).toUInt32).toInt32) &&& (127 : Int32))), .val (.int ((x5_0.toUInt32 >>> ((12 : Int32) &&& 31).toUInt32).toInt32)), .val (.int (x4_0 &&& (2147483647 : Int32))), .val (.long (y0_0 + ((-4417276706812531889 : Int64) * (y2_0 ||| (1 : Int64))))), .second, .val (.long (y1_0 - ((-7046029254386353131 : Int64) * (y2_0 ||| (1 : Int64))))), .second, .val (.long y0_0), .second, .unset, .unset, .unset, .unset, .unset, .unset, .unset]) rfl k) ?_
          refine own_step (fun t k => XS.lloadN X0.here hx rfl (hb hby at_123) rfl k) ?_
          refine own_step (fun t k => XS.lstore X0.here hx rfl (hb hby at_124) rfl (l' := #[.val (.long y0_0), .second, .val (.long y1_0), .second, .val (.long y2_0), .second, .val (.long y3_0), .second, .val (.int x4_0), .val (.int x5_0), .val (.int (x5_0 &&& (3 : Int32))), .val (.int (1 : Int32)), .val (.int (1 : Int32)), .val (.int (1 : Int32)), .val (.int (((x5_0.toUInt32 >>> ((5 : Int32) &&& 31).toUInt32).toInt32) &&& (127 : Int32))), .val (.int ((x5_0.toUInt32 >>> ((12 : Int32) &&& 31).toUInt32).toInt32)), .val (.int (x4_0 &&& (2147483647 : Int32))), .val (.long (y0_0 + ((-4417276706812531889 : Int64) * (y2_0 ||| (1 : Int64))))), .second, .val (.long (y1_0 - ((-7046029254386353131 : Int64) * (y2_0 ||| (1 : Int64))))), .second, .val (.long y0_0), .second, .val (.long y1_0), .second, .unset, .unset, .unset, .unset, .unset]) rfl k) ?_
          refine own_step (fun t k => XS.goto X0.here hx rfl (pc0 := 126) (pc' := 169) rfl (hb hby at_126) (by decide) (by decide) k) ?_
          show own_Ends p.tables e below s _ _ _ (s₁.setTop (mkF m 169 #[.val (.long y0_0), .second, .val (.long y1_0), .second, .val (.long y2_0), .second, .val (.long y3_0), .second, .val (.int x4_0), .val (.int x5_0), .val (.int (x5_0 &&& (3 : Int32))), .val (.int (1 : Int32)), .val (.int (1 : Int32)), .val (.int (1 : Int32)), .val (.int (((x5_0.toUInt32 >>> ((5 : Int32) &&& 31).toUInt32).toInt32) &&& (127 : Int32))), .val (.int ((x5_0.toUInt32 >>> ((12 : Int32) &&& 31).toUInt32).toInt32)), .val (.int (x4_0 &&& (2147483647 : Int32))), .val (.long (y0_0 + ((-4417276706812531889 : Int64) * (y2_0 ||| (1 : Int64))))), .second, .val (.long (y1_0 - ((-7046029254386353131 : Int64) * (y2_0 ||| (1 : Int64))))), .second, .val (.long y0_0), .second, .val (.long y1_0), .second, .unset, .unset, .unset, .unset, .unset] []))
          exact tail169 (x5_0 &&& (3 : Int32)) (1 : Int32) (1 : Int32) (1 : Int32) (((x5_0.toUInt32 >>> ((5 : Int32) &&& 31).toUInt32).toInt32) &&& (127 : Int32)) ((x5_0.toUInt32 >>> ((12 : Int32) &&& 31).toUInt32).toInt32) (x4_0 &&& (2147483647 : Int32)) (y0_0 + ((-4417276706812531889 : Int64) * (y2_0 ||| (1 : Int64)))) (y1_0 - ((-7046029254386353131 : Int64) * (y2_0 ||| (1 : Int64)))) y0_0 y1_0 (own_m127 _) (own_m31 _) (own_u12 _)
        · skip
          refine own_step (fun t k => XS.ifYes X0.here hx rfl (pc0 := 117) (pc' := 129) rfl (hb hby at_117) rfl ((if0 _ _).trans (feq hc117_90).2) (by decide) (by decide) k) ?_
          refine own_step (fun t k => XS.iload X0.here hx rfl (hb hby at_129) rfl k) ?_
          refine own_step (fun t k => XS.iconst X0.here hx rfl (hb hby at_131) k) ?_
          show own_Ends p.tables e below s _ _ _ (s₁.setTop (mkF m 132 #[.val (.long y0_0), .second, .val (.long y1_0), .second, .val (.long y2_0), .second, .val (.long y3_0), .second, .val (.int x4_0), .val (.int x5_0), .val (.int (x5_0 &&& (3 : Int32))), .val (.int (1 : Int32)), .val (.int (1 : Int32)), .val (.int (1 : Int32)), .val (.int (((x5_0.toUInt32 >>> ((5 : Int32) &&& 31).toUInt32).toInt32) &&& (127 : Int32))), .val (.int ((x5_0.toUInt32 >>> ((12 : Int32) &&& 31).toUInt32).toInt32)), .val (.int (x4_0 &&& (2147483647 : Int32))), .val (.long (y0_0 + ((-4417276706812531889 : Int64) * (y2_0 ||| (1 : Int64))))), .second, .val (.long (y1_0 - ((-7046029254386353131 : Int64) * (y2_0 ||| (1 : Int64))))), .second, .val (.long (y2_0 ||| (1 : Int64))), .second, .unset, .unset, .unset, .unset, .unset, .unset, .unset] [(.int (1 : Int32)), (.int (x5_0 &&& (3 : Int32)))]))
          by_cases hc132_91 : (x5_0 &&& (3 : Int32)) = (1 : Int32)
          · skip
            refine own_step (fun t k => XS.icmpNo X0.here hx rfl (hb hby at_132) rfl (teq hc132_91).2 k) ?_
            refine own_step (fun t k => XS.lload X0.here hx rfl (hb hby at_135) rfl k) ?_
            refine own_step (fun t k => XS.lstore X0.here hx rfl (hb hby at_137) rfl (l' := #[.val (.long y0_0), .second, .val (.long y1_0), .second, .val (.long y2_0), .second, .val (.long y3_0), .second, .val (.int x4_0), .val (.int x5_0), .val (.int (x5_0 &&& (3 : Int32))), .val (.int (1 : Int32)), .val (.int (1 : Int32)), .val (.int (1 : Int32)), .val (.int (((x5_0.toUInt32 >>> ((5 : Int32) &&& 31).toUInt32).toInt32) &&& (127 : Int32))), .val (.int ((x5_0.toUInt32 >>> ((12 : Int32) &&& 31).toUInt32).toInt32)), .val (.int (x4_0 &&& (2147483647 : Int32))), .val (.long (y0_0 + ((-4417276706812531889 : Int64) * (y2_0 ||| (1 : Int64))))), .second, .val (.long (y1_0 - ((-7046029254386353131 : Int64) * (y2_0 ||| (1 : Int64))))), .second, .val (.long (y0_0 + ((-4417276706812531889 : Int64) * (y2_0 ||| (1 : Int64))))), .second, .unset, .unset, .unset, .unset, .unset, .unset, .unset]) rfl k) ?_
            refine own_step (fun t k => XS.lload X0.here hx rfl (hb hby at_139) rfl k) ?_
            refine own_step (fun t k => XS.lstore X0.here hx rfl (hb hby at_141) rfl (l' := #[.val (.long y0_0), .second, .val (.long y1_0), .second, .val (.long y2_0), .second, .val (.long y3_0), .second, .val (.int x4_0), .val (.int x5_0), .val (.int (x5_0 &&& (3 : Int32))), .val (.int (1 : Int32)), .val (.int (1 : Int32)), .val (.int (1 : Int32)), .val (.int (((x5_0.toUInt32 >>> ((5 : Int32) &&& 31).toUInt32).toInt32) &&& (127 : Int32))), .val (.int ((x5_0.toUInt32 >>> ((12 : Int32) &&& 31).toUInt32).toInt32)), .val (.int (x4_0 &&& (2147483647 : Int32))), .val (.long (y0_0 + ((-4417276706812531889 : Int64) * (y2_0 ||| (1 : Int64))))), .second, .val (.long (y1_0 - ((-7046029254386353131 : Int64) * (y2_0 ||| (1 : Int64))))), .second, .val (.long (y0_0 + ((-4417276706812531889 : Int64) * (y2_0 ||| (1 : Int64))))), .second, .val (.long (y1_0 - ((-7046029254386353131 : Int64) * (y2_0 ||| (1 : Int64))))), .second, .unset, .unset, .unset, .unset, .unset]) rfl k) ?_
            refine own_step (fun t k => XS.goto X0.here hx rfl (pc0 := 143) (pc' := 169) rfl (hb hby at_143) (by decide) (by decide) k) ?_
            show own_Ends p.tables e below s _ _ _ (s₁.setTop (mkF m 169 #[.val (.long y0_0), .second, .val (.long y1_0), .second, .val (.long y2_0), .second, .val (.long y3_0), .second, .val (.int x4_0), .val (.int x5_0), .val (.int (x5_0 &&& (3 : Int32))), .val (.int (1 : Int32)), .val (.int (1 : Int32)), .val (.int (1 : Int32)), .val (.int (((x5_0.toUInt32 >>> ((5 : Int32) &&& 31).toUInt32).toInt32) &&& (127 : Int32))), .val (.int ((x5_0.toUInt32 >>> ((12 : Int32) &&& 31).toUInt32).toInt32)), .val (.int (x4_0 &&& (2147483647 : Int32))), .val (.long (y0_0 + ((-4417276706812531889 : Int64) * (y2_0 ||| (1 : Int64))))), .second, .val (.long (y1_0 - ((-7046029254386353131 : Int64) * (y2_0 ||| (1 : Int64))))), .second, .val (.long (y0_0 + ((-4417276706812531889 : Int64) * (y2_0 ||| (1 : Int64))))), .second, .val (.long (y1_0 - ((-7046029254386353131 : Int64) * (y2_0 ||| (1 : Int64))))), .second, .unset, .unset, .unset, .unset, .unset] []))
            exact tail169 (x5_0 &&& (3 : Int32)) (1 : Int32) (1 : Int32) (1 : Int32) (((x5_0.toUInt32 >>> ((5 : Int32) &&& 31).toUInt32).toInt32) &&& (127 : Int32)) ((x5_0.toUInt32 >>> ((12 : Int32) &&& 31).toUInt32).toInt32) (x4_0 &&& (2147483647 : Int32)) (y0_0 + ((-4417276706812531889 : Int64) * (y2_0 ||| (1 : Int64)))) (y1_0 - ((-7046029254386353131 : Int64) * (y2_0 ||| (1 : Int64)))) (y0_0 + ((-4417276706812531889 : Int64) * (y2_0 ||| (1 : Int64)))) (y1_0 - ((-7046029254386353131 : Int64) * (y2_0 ||| (1 : Int64)))) (own_m127 _) (own_m31 _) (own_u12 _)
          · skip
            refine own_step (fun t k => XS.icmpYes X0.here hx rfl (pc0 := 132) (pc' := 146) rfl (hb hby at_132) rfl (feq hc132_91).2 (by decide) (by decide) k) ?_
            refine own_step (fun t k => XS.iload X0.here hx rfl (hb hby at_146) rfl k) ?_
            refine own_step (fun t k => XS.iconst X0.here hx rfl (hb hby at_148) k) ?_
            show own_Ends p.tables e below s _ _ _ (s₁.setTop (mkF m 149 #[.val (.long y0_0), .second, .val (.long y1_0), .second, .val (.long y2_0), .second, .val (.long y3_0), .second, .val (.int x4_0), .val (.int x5_0), .val (.int (x5_0 &&& (3 : Int32))), .val (.int (1 : Int32)), .val (.int (1 : Int32)), .val (.int (1 : Int32)), .val (.int (((x5_0.toUInt32 >>> ((5 : Int32) &&& 31).toUInt32).toInt32) &&& (127 : Int32))), .val (.int ((x5_0.toUInt32 >>> ((12 : Int32) &&& 31).toUInt32).toInt32)), .val (.int (x4_0 &&& (2147483647 : Int32))), .val (.long (y0_0 + ((-4417276706812531889 : Int64) * (y2_0 ||| (1 : Int64))))), .second, .val (.long (y1_0 - ((-7046029254386353131 : Int64) * (y2_0 ||| (1 : Int64))))), .second, .val (.long (y2_0 ||| (1 : Int64))), .second, .unset, .unset, .unset, .unset, .unset, .unset, .unset] [(.int (2 : Int32)), (.int (x5_0 &&& (3 : Int32)))]))
            by_cases hc149_92 : (x5_0 &&& (3 : Int32)) = (2 : Int32)
            · skip
              refine own_step (fun t k => XS.icmpNo X0.here hx rfl (hb hby at_149) rfl (teq hc149_92).2 k) ?_
              refine own_step (fun t k => XS.lloadN X0.here hx rfl (hb hby at_152) rfl k) ?_
              refine own_step (fun t k => XS.lstore X0.here hx rfl (hb hby at_153) rfl (l' := #[.val (.long y0_0), .second, .val (.long y1_0), .second, .val (.long y2_0), .second, .val (.long y3_0), .second, .val (.int x4_0), .val (.int x5_0), .val (.int (x5_0 &&& (3 : Int32))), .val (.int (1 : Int32)), .val (.int (1 : Int32)), .val (.int (1 : Int32)), .val (.int (((x5_0.toUInt32 >>> ((5 : Int32) &&& 31).toUInt32).toInt32) &&& (127 : Int32))), .val (.int ((x5_0.toUInt32 >>> ((12 : Int32) &&& 31).toUInt32).toInt32)), .val (.int (x4_0 &&& (2147483647 : Int32))), .val (.long (y0_0 + ((-4417276706812531889 : Int64) * (y2_0 ||| (1 : Int64))))), .second, .val (.long (y1_0 - ((-7046029254386353131 : Int64) * (y2_0 ||| (1 : Int64))))), .second, .val (.long y0_0), .second, .unset, .unset, .unset, .unset, .unset, .unset, .unset]) rfl k) ?_
              refine own_step (fun t k => XS.lload X0.here hx rfl (hb hby at_155) rfl k) ?_
              refine own_step (fun t k => XS.lstore X0.here hx rfl (hb hby at_157) rfl (l' := #[.val (.long y0_0), .second, .val (.long y1_0), .second, .val (.long y2_0), .second, .val (.long y3_0), .second, .val (.int x4_0), .val (.int x5_0), .val (.int (x5_0 &&& (3 : Int32))), .val (.int (1 : Int32)), .val (.int (1 : Int32)), .val (.int (1 : Int32)), .val (.int (((x5_0.toUInt32 >>> ((5 : Int32) &&& 31).toUInt32).toInt32) &&& (127 : Int32))), .val (.int ((x5_0.toUInt32 >>> ((12 : Int32) &&& 31).toUInt32).toInt32)), .val (.int (x4_0 &&& (2147483647 : Int32))), .val (.long (y0_0 + ((-4417276706812531889 : Int64) * (y2_0 ||| (1 : Int64))))), .second, .val (.long (y1_0 - ((-7046029254386353131 : Int64) * (y2_0 ||| (1 : Int64))))), .second, .val (.long y0_0), .second, .val (.long (y1_0 - ((-7046029254386353131 : Int64) * (y2_0 ||| (1 : Int64))))), .second, .unset, .unset, .unset, .unset, .unset]) rfl k) ?_
              refine own_step (fun t k => XS.goto X0.here hx rfl (pc0 := 159) (pc' := 169) rfl (hb hby at_159) (by decide) (by decide) k) ?_
              show own_Ends p.tables e below s _ _ _ (s₁.setTop (mkF m 169 #[.val (.long y0_0), .second, .val (.long y1_0), .second, .val (.long y2_0), .second, .val (.long y3_0), .second, .val (.int x4_0), .val (.int x5_0), .val (.int (x5_0 &&& (3 : Int32))), .val (.int (1 : Int32)), .val (.int (1 : Int32)), .val (.int (1 : Int32)), .val (.int (((x5_0.toUInt32 >>> ((5 : Int32) &&& 31).toUInt32).toInt32) &&& (127 : Int32))), .val (.int ((x5_0.toUInt32 >>> ((12 : Int32) &&& 31).toUInt32).toInt32)), .val (.int (x4_0 &&& (2147483647 : Int32))), .val (.long (y0_0 + ((-4417276706812531889 : Int64) * (y2_0 ||| (1 : Int64))))), .second, .val (.long (y1_0 - ((-7046029254386353131 : Int64) * (y2_0 ||| (1 : Int64))))), .second, .val (.long y0_0), .second, .val (.long (y1_0 - ((-7046029254386353131 : Int64) * (y2_0 ||| (1 : Int64))))), .second, .unset, .unset, .unset, .unset, .unset] []))
              exact tail169 (x5_0 &&& (3 : Int32)) (1 : Int32) (1 : Int32) (1 : Int32) (((x5_0.toUInt32 >>> ((5 : Int32) &&& 31).toUInt32).toInt32) &&& (127 : Int32)) ((x5_0.toUInt32 >>> ((12 : Int32) &&& 31).toUInt32).toInt32) (x4_0 &&& (2147483647 : Int32)) (y0_0 + ((-4417276706812531889 : Int64) * (y2_0 ||| (1 : Int64)))) (y1_0 - ((-7046029254386353131 : Int64) * (y2_0 ||| (1 : Int64)))) y0_0 (y1_0 - ((-7046029254386353131 : Int64) * (y2_0 ||| (1 : Int64)))) (own_m127 _) (own_m31 _) (own_u12 _)
            · skip
              refine own_step (fun t k => XS.icmpYes X0.here hx rfl (pc0 := 149) (pc' := 162) rfl (hb hby at_149) rfl (feq hc149_92).2 (by decide) (by decide) k) ?_
              refine own_step (fun t k => XS.lload X0.here hx rfl (hb hby at_162) rfl k) ?_
              refine own_step (fun t k => XS.lstore X0.here hx rfl (hb hby at_164) rfl (l' := #[.val (.long y0_0), .second, .val (.long y1_0), .second, .val (.long y2_0), .second, .val (.long y3_0), .second, .val (.int x4_0), .val (.int x5_0), .val (.int (x5_0 &&& (3 : Int32))), .val (.int (1 : Int32)), .val (.int (1 : Int32)), .val (.int (1 : Int32)), .val (.int (((x5_0.toUInt32 >>> ((5 : Int32) &&& 31).toUInt32).toInt32) &&& (127 : Int32))), .val (.int ((x5_0.toUInt32 >>> ((12 : Int32) &&& 31).toUInt32).toInt32)), .val (.int (x4_0 &&& (2147483647 : Int32))), .val (.long (y0_0 + ((-4417276706812531889 : Int64) * (y2_0 ||| (1 : Int64))))), .second, .val (.long (y1_0 - ((-7046029254386353131 : Int64) * (y2_0 ||| (1 : Int64))))), .second, .val (.long (y0_0 + ((-4417276706812531889 : Int64) * (y2_0 ||| (1 : Int64))))), .second, .unset, .unset, .unset, .unset, .unset, .unset, .unset]) rfl k) ?_
              refine own_step (fun t k => XS.lloadN X0.here hx rfl (hb hby at_166) rfl k) ?_
              refine own_step (fun t k => XS.lstore X0.here hx rfl (hb hby at_167) rfl (l' := #[.val (.long y0_0), .second, .val (.long y1_0), .second, .val (.long y2_0), .second, .val (.long y3_0), .second, .val (.int x4_0), .val (.int x5_0), .val (.int (x5_0 &&& (3 : Int32))), .val (.int (1 : Int32)), .val (.int (1 : Int32)), .val (.int (1 : Int32)), .val (.int (((x5_0.toUInt32 >>> ((5 : Int32) &&& 31).toUInt32).toInt32) &&& (127 : Int32))), .val (.int ((x5_0.toUInt32 >>> ((12 : Int32) &&& 31).toUInt32).toInt32)), .val (.int (x4_0 &&& (2147483647 : Int32))), .val (.long (y0_0 + ((-4417276706812531889 : Int64) * (y2_0 ||| (1 : Int64))))), .second, .val (.long (y1_0 - ((-7046029254386353131 : Int64) * (y2_0 ||| (1 : Int64))))), .second, .val (.long (y0_0 + ((-4417276706812531889 : Int64) * (y2_0 ||| (1 : Int64))))), .second, .val (.long y1_0), .second, .unset, .unset, .unset, .unset, .unset]) rfl k) ?_
              show own_Ends p.tables e below s _ _ _ (s₁.setTop (mkF m 169 #[.val (.long y0_0), .second, .val (.long y1_0), .second, .val (.long y2_0), .second, .val (.long y3_0), .second, .val (.int x4_0), .val (.int x5_0), .val (.int (x5_0 &&& (3 : Int32))), .val (.int (1 : Int32)), .val (.int (1 : Int32)), .val (.int (1 : Int32)), .val (.int (((x5_0.toUInt32 >>> ((5 : Int32) &&& 31).toUInt32).toInt32) &&& (127 : Int32))), .val (.int ((x5_0.toUInt32 >>> ((12 : Int32) &&& 31).toUInt32).toInt32)), .val (.int (x4_0 &&& (2147483647 : Int32))), .val (.long (y0_0 + ((-4417276706812531889 : Int64) * (y2_0 ||| (1 : Int64))))), .second, .val (.long (y1_0 - ((-7046029254386353131 : Int64) * (y2_0 ||| (1 : Int64))))), .second, .val (.long (y0_0 + ((-4417276706812531889 : Int64) * (y2_0 ||| (1 : Int64))))), .second, .val (.long y1_0), .second, .unset, .unset, .unset, .unset, .unset] []))
              exact tail169 (x5_0 &&& (3 : Int32)) (1 : Int32) (1 : Int32) (1 : Int32) (((x5_0.toUInt32 >>> ((5 : Int32) &&& 31).toUInt32).toInt32) &&& (127 : Int32)) ((x5_0.toUInt32 >>> ((12 : Int32) &&& 31).toUInt32).toInt32) (x4_0 &&& (2147483647 : Int32)) (y0_0 + ((-4417276706812531889 : Int64) * (y2_0 ||| (1 : Int64)))) (y1_0 - ((-7046029254386353131 : Int64) * (y2_0 ||| (1 : Int64)))) (y0_0 + ((-4417276706812531889 : Int64) * (y2_0 ||| (1 : Int64)))) y1_0 (own_m127 _) (own_m31 _) (own_u12 _)
set_option maxRecDepth 65536 in
set_option maxHeartbeats 40000000 in
theorem comes_1 {Post : Tables → Env → Array Value → State → Outcome → State → Prop} (hpost : ∀ tb e args s v u, (limb_1_1.after args s (.returned v) u = true ∧ limb_1_2.after args s (.returned v) u = true ∧ True) → FrameEnd s (.returned v) u (Jvm.fieldLocs frame_1_writes args s ++ Jvm.arrayLocs frame_1_arrays args s ++ Jvm.staticLocs frame_1_statics s) 16 1664 → Post tb e args s (.returned v) u) :
    ArmFor flags0 classFile x code maxLocals ret World_1 tables_1 room_1 Calls_1 rest_1 Pre_1 Post := by
  intro l hfl _ _ p e ha hc hk s m args below hf hA hF happ hP
  obtain ⟨hcalls, hrest, hpre⟩ := hP
  obtain ⟨-, -, -, hnamed, -, -, -, hat⟩ := (Spec.applies_iff hf).mp happ
  obtain ⟨hg, hn⟩ := and_e (Cond.before_iff.mp (show (Jvm.Cond.and given_1 narrow_1).before args s = true from hpre))
  obtain ⟨hh1a, hh1b⟩ := and_e hg
  obtain ⟨hh2a, hh2b⟩ := and_e hh1b
  obtain ⟨hh3a, hh3b⟩ := and_e hh2b
  obtain ⟨hh4a, hh4b⟩ := and_e hh3b
  obtain ⟨hh5a, hh5b⟩ := and_e hh4b
  obtain ⟨hh6a, hh6b⟩ := and_e hh5b
  obtain ⟨w0, w1, w2, w3, w4, w5, rfl⟩ : ∃ w0 w1 w2 w3 w4 w5 : Value, args = #[w0, w1, w2, w3, w4, w5] := by
    have hs : args.size = 6 := by simpa [Cond.value, given_1] using hh1a
    obtain ⟨L⟩ := args
    match L, hs with
    | [w0, w1, w2, w3, w4, w5], _ => exact ⟨w0, w1, w2, w3, w4, w5, rfl⟩
  have hw := fun d (hd : d ∈ tables_1) => atoms_spec (ws := Jvm.Cond.code x code maxLocals ret :: tables_1) hat d (List.mem_cons_of_mem _ hd)
  have hfit : Fit s := fun {y c} hc i hi => by
    obtain ⟨ha, rfl⟩ := Array.getElem?_eq_some_iff.mp hc
    have q := List.all_eq_true.mp ((Array.all_eq_true_iff_forall_mem.mp hF) _ (Array.getElem_mem ha)) i (List.mem_range.mpr hi)
    simpa [Array.getElem?_eq_getElem hi] using q
  obtain ⟨i0, ei0⟩ := isL_v hh2a
  obtain rfl : w0 = (.long i0) := Option.some.inj ei0
  obtain ⟨i1, ei1⟩ := isL_v hh3a
  obtain rfl : w1 = (.long i1) := Option.some.inj ei1
  obtain ⟨i2, ei2⟩ := isL_v hh4a
  obtain rfl : w2 = (.long i2) := Option.some.inj ei2
  obtain ⟨i3, ei3⟩ := isL_v hh5a
  obtain rfl : w3 = (.long i3) := Option.some.inj ei3
  obtain ⟨i4, ei4⟩ := is_v hh6a
  obtain rfl : w4 = (.int i4) := Option.some.inj ei4
  obtain ⟨i5, ei5⟩ := is_v hh6b
  obtain rfl : w5 = (.int i5) := Option.some.inj ei5
  obtain ⟨n, o, h1, h2, h3, _, L, rfl, ⟨rfl, N⟩, hq⟩ := rm0 l s _ hw tables_1 i0 i1 i2 i3 i4 i5 s.heap s.heap.size (Old.start s) p e ha hc hk s m _ below hf ((Spec.applies_iff_loose hf).mp happ).1 ⟨rfl, State.Warmed39.refl s, rfl⟩ trivial
  refine ⟨n, _, h1, h2, h3, hpost _ _ _ _ _ _ ⟨Cond.after_iff.mpr rfl, Cond.after_iff.mpr (eq_i res_at (Term.int_eval (1)) rfl), trivial⟩ ⟨hq.1, hq.2.1, (hq.2.2.sift fun y hy => Or.inr (N y hy)).mono (by decide) (by decide)⟩⟩
theorem main_1_1 : Claimed_1_1 := comes_1 fun _ _ _ _ _ _ h hF => ⟨h.1, hF⟩
theorem main_1_2 : Claimed_1_2 := comes_1 fun _ _ _ _ _ _ h hF => ⟨h.2.1, hF⟩
end Jvm.Pilot.@@N@@
namespace Jvm.Pilot.@@N@@
open Jvm Jvm.ClassFile Sem Op Lib Jvm.Free Jvm.Stand Jvm.Pilot.@@N@@.Jvm.D
/-! MADE BY PROGRAM (witnessworld.py) out of the Statement's table words and the real class files: 11 classes; the members and pool entries that the words name. The judged class is class 1, her method 2. -/
namespace start1
open Jvm.ClassFile
def u (s : String) : CpInfo := .utf8 (stringToUtf16 s)
/-- a pool by its gaps: so many unusable entries, then the entry; so many at the end -/
def gap : Nat → List CpInfo → List CpInfo
  | 0, r => r
  | n + 1, r => .unusable :: gap n r
def poolList (es : List (Nat × CpInfo)) (last : Nat) : List CpInfo := es.foldr (fun e r => gap e.1 (e.2 :: r)) (gap last [])
def pool (es : List (Nat × CpInfo)) (last : Nat) : Array CpInfo := ⟨poolList es last⟩
def fileOf (pool : Array CpInfo) (this : Nat) (attrs : Array Attribute := #[]) (ms : Array MethodInfo := #[]) (fl : Nat := 33) (sup : Nat := 0) (ifs : Array Nat := #[]) (fds : Array FieldInfo := #[]) : ClassFile where
  minorVersion := 0
  majorVersion := 65
  constantPool := pool
  accessFlags := fl
  thisClass := this
  superClass := sup
  interfaces := ifs
  fields := fds
  methods := ms
  attributes := attrs
def plain (name : String) (sup : Option ClassId) : Class where
  name := name
  kind := .ordinary
  loader := none
  accessFlags := 33
  super := sup
  interfaces := #[]
  cf := none
  fields := #[]
  methods := #[]
  instanceTypes := #[]
  staticTypes := #[]
  resolved := #[]
  callSites := []
  init := .initialized
  statics := none
  mirror := none

def pool0 : Array CpInfo := pool [(5, u "<init>"), (0, u "()V"), (1, .class_ 10), (1, u "java/lang/Object")] 113

def k0c0 : Code := { maxStack := 0, maxLocals := 1, code := object_method_1_code, exceptionTable := #[], attributes := #[] }
def k0m0 : Method := { name := "<init>", desc := "()V", sig := { parameters := [], returnType := none }, accessFlags := 1, code := some k0c0 }
/-- java/lang/Object -/
def k0 : Class := { plain "java/lang/Object" none with
  accessFlags := 33
  interfaces := #[]
  cf := some (fileOf pool0 8 #[] #[{ accessFlags := 1, nameIndex := 5, descriptorIndex := 6, attributes := #[] }] 33 0 #[] #[])
  fields := #[]
  methods := #[k0m0]
  instanceTypes := #[]
  staticTypes := #[]
  resolved := Array.replicate 124 none
  statics := none }

def pool1 : Array CpInfo := pool [(2, .class_ 4), (1, u "java/lang/Object"), (0, u "<init>"), (0, u "()V"), (0, .integer 2147483647), (0, .long 14029467366897019727), (1, .long 11400714819323198485), (1, .class_ 13), (0, u "com/example/swanhall/swanhall/core/CellTable"), (0, .methodref 12 15), (0, .nameAndType 5 16), (0, u "(I)V"), (0, .methodref 12 18), (0, .nameAndType 19 20), (0, u "put"), (0, u "(JJI)V"), (0, .methodref 12 22), (0, .nameAndType 23 24), (0, u "remove"), (0, u "(JJ)V"), (0, .methodref 12 26), (0, .nameAndType 27 28), (0, u "get"), (0, u "(JJ)I"), (0, .methodref 30 31), (0, .class_ 32), (0, .nameAndType 33 34), (0, u "com/example/swanhall/swanhall/core/CellTableGetPinLaw"), (0, u "same"), (0, u "(JJJJ)Z"), (3, u "law"), (0, u "(JJJJII)Z")] 2

def k1m0 : Method := { name := "<init>", desc := "()V", sig := { parameters := [], returnType := none }, accessFlags := 1, code := none }
def k1c1 : Code := { maxStack := 4, maxLocals := 8, code := method_2_code, exceptionTable := #[], attributes := #[] }
def k1m1 : Method := { name := "same", desc := "(JJJJ)Z", sig := { parameters := [.long, .long, .long, .long], returnType := some .boolean }, accessFlags := 10, code := some k1c1 }
def k1c2 : Code := { maxStack := 8, maxLocals := 30, code := code, exceptionTable := #[], attributes := #[] }
def k1m2 : Method := { name := "law", desc := "(JJJJII)Z", sig := { parameters := [.long, .long, .long, .long, .int, .int], returnType := some .boolean }, accessFlags := 9, code := some k1c2 }
/-- com/example/swanhall/swanhall/core/CellTableGetPinLaw -/
def k1 : Class := { plain "com/example/swanhall/swanhall/core/CellTableGetPinLaw" (some 0) with
  accessFlags := 49
  interfaces := #[]
  cf := some (fileOf pool1 30 #[] #[{ accessFlags := 1, nameIndex := 5, descriptorIndex := 6, attributes := #[] }, { accessFlags := 10, nameIndex := 33, descriptorIndex := 34, attributes := #[] }, { accessFlags := 9, nameIndex := 38, descriptorIndex := 39, attributes := #[] }] 49 2 #[] #[])
  fields := #[]
  methods := #[k1m0, k1m1, k1m2]
  instanceTypes := #[]
  staticTypes := #[]
  resolved := Array.replicate 42 none
  statics := none }

def pool2 : Array CpInfo := pool [(1, .class_ 2), (0, u "com/example/swanhall/swanhall/core/CellTable"), (2, u "<init>"), (0, u "(I)V"), (0, .methodref 8 9), (0, .class_ 10), (0, .nameAndType 5 11), (0, u "java/lang/Object"), (0, u "()V"), (0, .fieldref 1 13), (0, .nameAndType 14 15), (0, u "xs"), (0, u "[J"), (0, .fieldref 1 17), (0, .nameAndType 18 15), (0, u "ys"), (0, .fieldref 1 20), (0, .nameAndType 21 22), (0, u "numbers"), (0, u "[I"), (0, .fieldref 1 24), (0, .nameAndType 25 26), (0, u "size"), (0, u "I"), (0, .methodref 1 28), (0, .nameAndType 29 30), (0, u "home"), (0, u "(JJ)I"), (9, .methodref 1 41), (0, .nameAndType 42 30), (0, u "slot"), (4, .class_ 49), (1, u "com/example/swanhall/swanhall/core/CellTable$CellAction"), (1, u "(JJ)V"), (0, .long 11400714819323198485), (1, .long 14029467366897019727), (1, u "FIRST_CAPACITY"), (6, u "get"), (0, u "put"), (0, u "(JJI)V"), (0, u "remove")] 23

def k2m0 : Method := { name := "<init>", desc := "()V", sig := { parameters := [], returnType := none }, accessFlags := 1, code := none }
def k2c1 : Code := { maxStack := 3, maxLocals := 3, code := prog_30_method_2_code, exceptionTable := #[], attributes := #[] }
def k2m1 : Method := { name := "<init>", desc := "(I)V", sig := { parameters := [.int], returnType := none }, accessFlags := 1, code := some k2c1 }
def k2c2 : Code := { maxStack := 5, maxLocals := 8, code := prog_30_method_4_code, exceptionTable := #[], attributes := #[] }
def k2m2 : Method := { name := "get", desc := "(JJ)I", sig := { parameters := [.long, .long], returnType := some .int }, accessFlags := 1, code := some k2c2 }
def k2c3 : Code := { maxStack := 5, maxLocals := 7, code := prog_30_method_5_code, exceptionTable := #[], attributes := #[] }
def k2m3 : Method := { name := "put", desc := "(JJI)V", sig := { parameters := [.long, .long, .int], returnType := none }, accessFlags := 1, code := some k2c3 }
def k2c4 : Code := { maxStack := 5, maxLocals := 10, code := prog_30_method_6_code, exceptionTable := #[], attributes := #[] }
def k2m4 : Method := { name := "remove", desc := "(JJ)V", sig := { parameters := [.long, .long], returnType := none }, accessFlags := 1, code := some k2c4 }
def k2c5 : Code := { maxStack := 5, maxLocals := 7, code := prog_30_method_8_code, exceptionTable := #[], attributes := #[] }
def k2m5 : Method := { name := "slot", desc := "(JJ)I", sig := { parameters := [.long, .long], returnType := some .int }, accessFlags := 2, code := some k2c5 }
def k2c6 : Code := { maxStack := 6, maxLocals := 7, code := prog_30_method_9_code, exceptionTable := #[], attributes := #[] }
def k2m6 : Method := { name := "home", desc := "(JJ)I", sig := { parameters := [.long, .long], returnType := some .int }, accessFlags := 2, code := some k2c6 }
/-- com/example/swanhall/swanhall/core/CellTable -/
def k2 : Class := { plain "com/example/swanhall/swanhall/core/CellTable" (some 0) with
  accessFlags := 49
  interfaces := #[]
  cf := some (fileOf pool2 1 #[.nestMembers #[47]] #[{ accessFlags := 1, nameIndex := 5, descriptorIndex := 11, attributes := #[] }, { accessFlags := 1, nameIndex := 5, descriptorIndex := 6, attributes := #[] }, { accessFlags := 1, nameIndex := 63, descriptorIndex := 30, attributes := #[] }, { accessFlags := 1, nameIndex := 64, descriptorIndex := 65, attributes := #[] }, { accessFlags := 1, nameIndex := 66, descriptorIndex := 51, attributes := #[] }, { accessFlags := 2, nameIndex := 42, descriptorIndex := 30, attributes := #[] }, { accessFlags := 2, nameIndex := 29, descriptorIndex := 30, attributes := #[] }] 49 8 #[] #[{ accessFlags := 26, nameIndex := 56, descriptorIndex := 26, attributes := #[] }, { accessFlags := 2, nameIndex := 14, descriptorIndex := 15, attributes := #[] }, { accessFlags := 2, nameIndex := 18, descriptorIndex := 15, attributes := #[] }, { accessFlags := 2, nameIndex := 21, descriptorIndex := 22, attributes := #[] }, { accessFlags := 2, nameIndex := 25, descriptorIndex := 26, attributes := #[] }])
  fields := #[{ name := "FIRST_CAPACITY", type := .int, accessFlags := 26, slot := 0, constantValue := 0 }, { name := "xs", type := (.array .long), accessFlags := 2, slot := 0, constantValue := 0 }, { name := "ys", type := (.array .long), accessFlags := 2, slot := 1, constantValue := 0 }, { name := "numbers", type := (.array .int), accessFlags := 2, slot := 2, constantValue := 0 }, { name := "size", type := .int, accessFlags := 2, slot := 3, constantValue := 0 }]
  methods := #[k2m0, k2m1, k2m2, k2m3, k2m4, k2m5, k2m6]
  instanceTypes := #[(.array .long), (.array .long), (.array .int), .int]
  staticTypes := #[.int]
  resolved := Array.replicate 90 none
  statics := none }

def pool3 : Array CpInfo := pool [(1, u "java/lang/Cloneable"), (0, .class_ 1), (0, u "java/lang/Object"), (0, .class_ 3)] 3

/-- java/lang/Cloneable -/
def k3 : Class := { plain "java/lang/Cloneable" (some 0) with
  accessFlags := 1537
  interfaces := #[]
  cf := some (fileOf pool3 2 #[] #[] 1537 4 #[] #[])
  fields := #[]
  methods := #[]
  instanceTypes := #[]
  staticTypes := #[]
  resolved := Array.replicate 8 none
  statics := none }

def pool4 : Array CpInfo := pool [(1, u "java/io/Serializable"), (0, .class_ 1), (0, u "java/lang/Object"), (0, .class_ 3)] 3

/-- java/io/Serializable -/
def k4 : Class := { plain "java/io/Serializable" (some 0) with
  accessFlags := 1537
  interfaces := #[]
  cf := some (fileOf pool4 2 #[] #[] 1537 4 #[] #[])
  fields := #[]
  methods := #[]
  instanceTypes := #[]
  staticTypes := #[]
  resolved := Array.replicate 8 none
  statics := none }

/-- the primitive byte -/
def k5 : Class := { plain "byte" none with kind := .primitive 'B', accessFlags := 0x411 }
/-- [B -/
def k6 : Class := { plain "[B" (some 0) with kind := .array 5 .byte, interfaces := #[3, 4], accessFlags := 1041 }

/-- the primitive int -/
def k7 : Class := { plain "int" none with kind := .primitive 'I', accessFlags := 0x411 }
/-- [I -/
def k8 : Class := { plain "[I" (some 0) with kind := .array 7 .int, interfaces := #[3, 4], accessFlags := 1041 }

/-- the primitive long -/
def k9 : Class := { plain "long" none with kind := .primitive 'J', accessFlags := 0x411 }
/-- [J -/
def k10 : Class := { plain "[J" (some 0) with kind := .array 9 .long, interfaces := #[3, 4], accessFlags := 1041 }

def heap : Heap := #[]
def classes : Array Class := #[k0, k1, k2, k3, k4, k5, k6, k7, k8, k9, k10]
def interned : List (Array UInt16 × Addr) := []
def slotsUsed : Nat := 0
def theMethod : MethodId := ⟨1, 2⟩
def args0 : Array Value := #[.long 5, .long 5, .long 5, .long 5, .int 5, .int 5]
def aboutOver (below : List Frame) : State where
  vm := { classes := classes, interned := interned.toArray }
  heap := heap
  slotsUsed := slotsUsed
  threads := #[{ frames := .invoking theMethod args0 :: below }]
def below0 : List Frame := [.native { method := ⟨0, 0⟩, args := #[] }]
def about1 : State := aboutOver below0
def p0 : Program := .bare "" "" ""
def e0 : Env := launch0.env 0 0 0
theorem w_frames : about1.frames = Frame.invoking theMethod args0 :: below0 := rfl
set_option maxRecDepth 65536 in
theorem w_args : argsFit about1.vm theMethod args0 = true := by decide +kernel
set_option maxRecDepth 65536 in
theorem w_heap : heapFits about1 = true := by decide +kernel
set_option maxRecDepth 65536 in
theorem w_runnable : about1.curStatus? = some .runnable := by decide +kernel
set_option maxRecDepth 65536 in
theorem w_alone : about1.alone = true := by decide +kernel
set_option maxRecDepth 65536 in
theorem w_named : about1.methodNamed? x = some theMethod := by decide +kernel
set_option maxRecDepth 65536 in
theorem w_hears : about1.hears theMethod below0 = true := by decide +kernel
set_option maxRecDepth 65536 in
theorem w_ripe : about1.ripe theMethod args0 below0 = true := by decide +kernel
theorem w_running : about1.status = .running := rfl
set_option maxRecDepth 65536 in
theorem w_room : about1.hasRoom e0.platform room_1 = true :=
  launch0.hasRoom_least _ room_1 (by decide +kernel) (by decide +kernel) (by decide +kernel) (by decide +kernel) (by decide +kernel) (by decide +kernel)
theorem allAtoms_all (ts : List Jvm.Cond) (a : Array Jvm.Value) (st : Jvm.State) : (allAtoms ts).before a st = ts.all (fun c => c.before a st) := by
  induction ts with
  | nil => rfl
  | cons c t ih =>
    show (Jvm.Cond.and c (allAtoms t)).before a st = _
    rw [Jvm.Cond.before_and, ih, List.all_cons]
def words1 : List Jvm.Cond := Jvm.Cond.code x code maxLocals ret :: tables_1
/-- a 'code' word, met by the world's own term for the bytes: nothing is compared byte by byte -/
theorem code_word {y : MethodName} {bytes : ByteArray} {mx : Nat} {rt : Option FieldType} {a : Array Value} {s : State} {m : MethodId} {meth : Method} {c : Code} (h1 : s.methodNamed? y = some m) (h2 : s.vm.method? m = some meth) (h3 : meth.code = some c) (h4 : c.code = bytes)
    (h5 : (c.maxLocals == mx && c.exceptionTable.isEmpty && decide (c.maxStack ≤ mostOperands) && decide (meth.sig.returnType = rt) && !meth.locks && decide (parseMethodDescriptor y.desc = some meth.sig)) = true) : (Jvm.Cond.code y bytes mx rt).before a s = true := by
  simp only [Bool.and_eq_true, beq_iff_eq, Bool.not_eq_true', decide_eq_true_eq] at h5
  obtain ⟨⟨⟨⟨⟨g1, g2⟩, g3⟩, g4⟩, g5⟩, g6⟩ := h5
  simp [Cond.before, Cond.holds, Cond.value, h1, h2, h3, h4, g1, g2, g3, g4, g5, g6]
def isCode : Jvm.Cond → Bool
  | .code _ _ _ _ => true
  | _ => false
theorem all_split {L : List Jvm.Cond} {P : Jvm.Cond → Bool} (h1 : L.all (fun c => isCode c || P c) = true) (h2 : ∀ c ∈ L.filter isCode, P c = true) : L.all P = true := by
  refine List.all_eq_true.mpr fun c hc => ?_
  have h := List.all_eq_true.mp h1 c hc
  rcases Bool.eq_false_or_eq_true (isCode c) with hi | hi
  · exact h2 c (List.mem_filter.mpr ⟨hc, hi⟩)
  · simpa [hi] using h
set_option maxRecDepth 65536 in
theorem w_c0 : (Jvm.Cond.code x code maxLocals ret).before args0 about1 = true := code_word (m := ⟨1, 2⟩) (meth := k1m2) (c := k1c2) (by decide +kernel) rfl rfl rfl (by decide +kernel)
set_option maxRecDepth 65536 in
theorem w_c1 : (Jvm.Cond.code ({ cls := "com/example/swanhall/swanhall/core/CellTable", name := "<init>", desc := "(I)V" } : Jvm.MethodName) prog_30_method_2_code (3 : Nat) (Option.none : Option Jvm.ClassFile.FieldType)).before args0 about1 = true := code_word (m := ⟨2, 1⟩) (meth := k2m1) (c := k2c1) (by decide +kernel) rfl rfl rfl (by decide +kernel)
set_option maxRecDepth 65536 in
theorem w_c2 : (Jvm.Cond.code ({ cls := "java/lang/Object", name := "<init>", desc := "()V" } : Jvm.MethodName) object_method_1_code (1 : Nat) (Option.none : Option Jvm.ClassFile.FieldType)).before args0 about1 = true := code_word (m := ⟨0, 0⟩) (meth := k0m0) (c := k0c0) (by decide +kernel) rfl rfl rfl (by decide +kernel)
set_option maxRecDepth 65536 in
theorem w_c3 : (Jvm.Cond.code ({ cls := "com/example/swanhall/swanhall/core/CellTable", name := "put", desc := "(JJI)V" } : Jvm.MethodName) prog_30_method_5_code (7 : Nat) (Option.none : Option Jvm.ClassFile.FieldType)).before args0 about1 = true := code_word (m := ⟨2, 3⟩) (meth := k2m3) (c := k2c3) (by decide +kernel) rfl rfl rfl (by decide +kernel)
set_option maxRecDepth 65536 in
theorem w_c4 : (Jvm.Cond.code ({ cls := "com/example/swanhall/swanhall/core/CellTable", name := "slot", desc := "(JJ)I" } : Jvm.MethodName) prog_30_method_8_code (7 : Nat) (Option.some Jvm.ClassFile.FieldType.int)).before args0 about1 = true := code_word (m := ⟨2, 5⟩) (meth := k2m5) (c := k2c5) (by decide +kernel) rfl rfl rfl (by decide +kernel)
set_option maxRecDepth 65536 in
theorem w_c5 : (Jvm.Cond.code ({ cls := "com/example/swanhall/swanhall/core/CellTable", name := "home", desc := "(JJ)I" } : Jvm.MethodName) prog_30_method_9_code (7 : Nat) (Option.some Jvm.ClassFile.FieldType.int)).before args0 about1 = true := code_word (m := ⟨2, 6⟩) (meth := k2m6) (c := k2c6) (by decide +kernel) rfl rfl rfl (by decide +kernel)
set_option maxRecDepth 65536 in
theorem w_c6 : (Jvm.Cond.code ({ cls := "com/example/swanhall/swanhall/core/CellTable", name := "get", desc := "(JJ)I" } : Jvm.MethodName) prog_30_method_4_code (8 : Nat) (Option.some Jvm.ClassFile.FieldType.int)).before args0 about1 = true := code_word (m := ⟨2, 2⟩) (meth := k2m2) (c := k2c2) (by decide +kernel) rfl rfl rfl (by decide +kernel)
set_option maxRecDepth 65536 in
theorem w_c7 : (Jvm.Cond.code ({ cls := "com/example/swanhall/swanhall/core/CellTableGetPinLaw", name := "same", desc := "(JJJJ)Z" } : Jvm.MethodName) method_2_code (8 : Nat) (Option.some Jvm.ClassFile.FieldType.boolean)).before args0 about1 = true := code_word (m := ⟨1, 1⟩) (meth := k1m1) (c := k1c1) (by decide +kernel) rfl rfl rfl (by decide +kernel)
set_option maxRecDepth 65536 in
theorem w_c8 : (Jvm.Cond.code ({ cls := "com/example/swanhall/swanhall/core/CellTable", name := "remove", desc := "(JJ)V" } : Jvm.MethodName) prog_30_method_6_code (10 : Nat) (Option.none : Option Jvm.ClassFile.FieldType)).before args0 about1 = true := code_word (m := ⟨2, 4⟩) (meth := k2m4) (c := k2c4) (by decide +kernel) rfl rfl rfl (by decide +kernel)
def codes1 : List Jvm.Cond := [Jvm.Cond.code x code maxLocals ret, Jvm.Cond.code ({ cls := "com/example/swanhall/swanhall/core/CellTable", name := "<init>", desc := "(I)V" } : Jvm.MethodName) prog_30_method_2_code (3 : Nat) (Option.none : Option Jvm.ClassFile.FieldType), Jvm.Cond.code ({ cls := "java/lang/Object", name := "<init>", desc := "()V" } : Jvm.MethodName) object_method_1_code (1 : Nat) (Option.none : Option Jvm.ClassFile.FieldType), Jvm.Cond.code ({ cls := "com/example/swanhall/swanhall/core/CellTable", name := "put", desc := "(JJI)V" } : Jvm.MethodName) prog_30_method_5_code (7 : Nat) (Option.none : Option Jvm.ClassFile.FieldType), Jvm.Cond.code ({ cls := "com/example/swanhall/swanhall/core/CellTable", name := "slot", desc := "(JJ)I" } : Jvm.MethodName) prog_30_method_8_code (7 : Nat) (Option.some Jvm.ClassFile.FieldType.int), Jvm.Cond.code ({ cls := "com/example/swanhall/swanhall/core/CellTable", name := "home", desc := "(JJ)I" } : Jvm.MethodName) prog_30_method_9_code (7 : Nat) (Option.some Jvm.ClassFile.FieldType.int), Jvm.Cond.code ({ cls := "com/example/swanhall/swanhall/core/CellTable", name := "get", desc := "(JJ)I" } : Jvm.MethodName) prog_30_method_4_code (8 : Nat) (Option.some Jvm.ClassFile.FieldType.int), Jvm.Cond.code ({ cls := "com/example/swanhall/swanhall/core/CellTableGetPinLaw", name := "same", desc := "(JJJJ)Z" } : Jvm.MethodName) method_2_code (8 : Nat) (Option.some Jvm.ClassFile.FieldType.boolean), Jvm.Cond.code ({ cls := "com/example/swanhall/swanhall/core/CellTable", name := "remove", desc := "(JJ)V" } : Jvm.MethodName) prog_30_method_6_code (10 : Nat) (Option.none : Option Jvm.ClassFile.FieldType)]
set_option maxRecDepth 65536 in
theorem codes_eq : words1.filter isCode = codes1 := rfl
theorem w_codes : ∀ c ∈ words1.filter isCode, c.before args0 about1 = true := by
  rw [codes_eq]
  intro c hc
  simp only [codes1, List.mem_cons, List.not_mem_nil, or_false] at hc
  rcases hc with rfl | rfl | rfl | rfl | rfl | rfl | rfl | rfl | rfl
  · exact w_c0
  · exact w_c1
  · exact w_c2
  · exact w_c3
  · exact w_c4
  · exact w_c5
  · exact w_c6
  · exact w_c7
  · exact w_c8
set_option maxRecDepth 65536 in
theorem w_t1 : (words1.take 24).all (fun c => isCode c || c.before args0 about1) = true := by decide +kernel
set_option maxRecDepth 65536 in
theorem w_t2 : ((words1.drop 24).take 24).all (fun c => isCode c || c.before args0 about1) = true := by decide +kernel
set_option maxRecDepth 65536 in
theorem w_t3 : ((words1.drop 24).drop 24).all (fun c => isCode c || c.before args0 about1) = true := by decide +kernel
theorem w_tables : (allAtoms (Jvm.Cond.code x code maxLocals ret :: tables_1)).before args0 about1 = true := by
  rw [allAtoms_all]
  show words1.all (fun c => c.before args0 about1) = true
  refine all_split ?_ w_codes
  rw [← List.take_append_drop 24 words1, List.all_append, w_t1, ← List.take_append_drop 24 (words1.drop 24), List.all_append, w_t2, w_t3]
  rfl
set_option maxRecDepth 65536 in
theorem w_case : (Jvm.Cond.and given_1 narrow_1).before args0 about1 = true := by decide +kernel
theorem w_applies : (headSpec (Jvm.Cond.code x code maxLocals ret :: tables_1) room_1).applies x e0.platform about1 = true :=
  (Spec.applies_iff w_frames).mpr ⟨w_running, w_runnable, w_alone, w_named, w_hears, w_ripe, w_room, w_tables⟩
theorem atStart : AtStart classFile x code maxLocals ret World_1 tables_1 room_1 Calls_1 rest_1 Pre_1 launch0 p0 e0 about1 theMethod args0 below0 :=
  ⟨lists_1, trivial, launch0.admits_env _ _ _, launch0.least_env, fairChoices_fair.cas, fairChoices_fair.clock, w_frames, w_args, w_heap, w_applies, trivial, trivial, w_case⟩
end start1
theorem witness_1 : WitnessClaimed_1 := ⟨start1.p0, start1.e0, start1.about1, start1.theMethod, start1.args0, start1.below0, start1.atStart⟩
end Jvm.Pilot.@@N@@
