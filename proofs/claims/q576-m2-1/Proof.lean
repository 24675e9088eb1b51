import JvmDerived
import JvmDerived.Pilot.@@N@@Statement
import JvmDerived.Pilot.@@N@@Code
set_option linter.unusedVariables false
set_option linter.unusedSimpArgs false
namespace Jvm.Pilot.@@N@@
open Jvm Jvm.ClassFile Sem Op Lib Jvm.Free Jvm.Stand Jvm.LawKit Jvm.RoadKit Bundle Jvm.Pilot.@@N@@.Jvm.D
/-! from A on the run returns, and F holds of the end -/
def own_Goes (p : Program) (e : Env) (below : List Frame) (F : State → Outcome → Prop) (A : State) : Prop := ∃ s₂ o, Steps p.tables e below A s₂ ∧ s₂.status = .running ∧ Ended s₂ below o ∧ F s₂ o
/-- the narrow end: Q of what it returned, of the heap and of the places written; the frame -/
def own_FN (s : State) (Q : Option Value → Heap → List Loc → Prop) (k n : Nat) : State → Outcome → Prop := fun s₂ o => ∃ v L, o = .returned v ∧ Q v s₂.heap L ∧ FrameEnd s o s₂ L k n
section OwnGoes
variable {p : Program} {l : Launch} {e : Env} {R : Room} {s : State} {m : MethodId} {args : Array Value} {below : List Frame} {meth : Method} {c : Code} {T : State} {locs : List Loc} {cells slots : Nat} {Q : Option Value → Heap → List Loc → Prop} {k n : Nat} {F : State → Outcome → Prop}
theorem own_to {A B : State} (h : ∀ t, Steps p.tables e below B t → Steps p.tables e below A t) (g : own_Goes p e below F B) : own_Goes p e below F A := by
  obtain ⟨s₂, o, h1, r⟩ := g
  exact ⟨s₂, o, h _ h1, r⟩
theorem own_tr {A B : State} (h : Steps p.tables e below A B) (g : own_Goes p e below F B) : own_Goes p e below F A := own_to (fun t q => h.trans q) g
/-! the shapes of a step: what lies on the stack and in the locals behind it -/
theorem own_tp {T' : State} {pc : Nat} {L : Array Slot} {S : List Value} (w : Value) (pc' : Nat) (h : ∀ t, Steps p.tables e below (T'.setTop (mkF m pc' L (w :: S))) t → Steps p.tables e below (T.setTop (mkF m pc L S)) t) (g : own_Goes p e below F (T'.setTop (mkF m pc' L (w :: S)))) : own_Goes p e below F (T.setTop (mkF m pc L S)) := own_to h g
theorem own_t1 {T' : State} {pc : Nat} {L : Array Slot} {S : List Value} {x : Value} (w : Value) (pc' : Nat) (h : ∀ t, Steps p.tables e below (T'.setTop (mkF m pc' L (w :: S))) t → Steps p.tables e below (T.setTop (mkF m pc L (x :: S))) t) (g : own_Goes p e below F (T'.setTop (mkF m pc' L (w :: S)))) : own_Goes p e below F (T.setTop (mkF m pc L (x :: S))) := own_to h g
theorem own_t2 {T' : State} {pc : Nat} {L : Array Slot} {S : List Value} {x y : Value} (w : Value) (pc' : Nat) (h : ∀ t, Steps p.tables e below (T'.setTop (mkF m pc' L (w :: S))) t → Steps p.tables e below (T.setTop (mkF m pc L (x :: y :: S))) t) (g : own_Goes p e below F (T'.setTop (mkF m pc' L (w :: S)))) : own_Goes p e below F (T.setTop (mkF m pc L (x :: y :: S))) := own_to h g
theorem own_d0 {T' : State} {pc : Nat} {L : Array Slot} {S : List Value} (pc' : Nat) (h : ∀ t, Steps p.tables e below (T'.setTop (mkF m pc' L S)) t → Steps p.tables e below (T.setTop (mkF m pc L S)) t) (g : own_Goes p e below F (T'.setTop (mkF m pc' L S))) : own_Goes p e below F (T.setTop (mkF m pc L S)) := own_to h g
theorem own_d1 {T' : State} {pc : Nat} {L : Array Slot} {S : List Value} {x : Value} (pc' : Nat) (h : ∀ t, Steps p.tables e below (T'.setTop (mkF m pc' L S)) t → Steps p.tables e below (T.setTop (mkF m pc L (x :: S))) t) (g : own_Goes p e below F (T'.setTop (mkF m pc' L S))) : own_Goes p e below F (T.setTop (mkF m pc L (x :: S))) := own_to h g
theorem own_d2 {T' : State} {pc : Nat} {L : Array Slot} {S : List Value} {x y : Value} (pc' : Nat) (h : ∀ t, Steps p.tables e below (T'.setTop (mkF m pc' L S)) t → Steps p.tables e below (T.setTop (mkF m pc L (x :: y :: S))) t) (g : own_Goes p e below F (T'.setTop (mkF m pc' L S))) : own_Goes p e below F (T.setTop (mkF m pc L (x :: y :: S))) := own_to h g
theorem own_cs {T' : State} {pc : Nat} {L : Array Slot} {S : List Value} (S' : List Value) (pc' : Nat) (h : ∀ t, Steps p.tables e below (T'.setTop (mkF m pc' L S')) t → Steps p.tables e below (T.setTop (mkF m pc L S)) t) (g : own_Goes p e below F (T'.setTop (mkF m pc' L S'))) : own_Goes p e below F (T.setTop (mkF m pc L S)) := own_to h g
theorem own_csR {T' : State} {pc : Nat} {L : Array Slot} {S : List Value} (S' : List Value) (pc' : Nat) (h : Steps p.tables e below (T.setTop (mkF m pc L S)) (T'.setTop (mkF m pc' L S'))) (g : own_Goes p e below F (T'.setTop (mkF m pc' L S'))) : own_Goes p e below F (T.setTop (mkF m pc L S)) := own_tr h g
theorem own_ls {T' : State} {pc : Nat} {L : Array Slot} {S : List Value} {x : Value} (L' : Array Slot) (pc' : Nat) (h : ∀ t, Steps p.tables e below (T'.setTop (mkF m pc' L' S)) t → Steps p.tables e below (T.setTop (mkF m pc L (x :: S))) t) (g : own_Goes p e below F (T'.setTop (mkF m pc' L' S))) : own_Goes p e below F (T.setTop (mkF m pc L (x :: S))) := own_to h g
theorem own_li {T' : State} {pc : Nat} {L : Array Slot} {S : List Value} (L' : Array Slot) (pc' : Nat) (h : ∀ t, Steps p.tables e below (T'.setTop (mkF m pc' L' S)) t → Steps p.tables e below (T.setTop (mkF m pc L S)) t) (g : own_Goes p e below F (T'.setTop (mkF m pc' L' S))) : own_Goes p e below F (T.setTop (mkF m pc L S)) := own_to h g
theorem own_start {A B : State} (h : ∀ t, Steps p.tables e below B t → Steps p.tables e below A t) (g : own_Goes p e below (own_FN s Q k n) B) :
    ∃ s₂ o, Steps p.tables e below A s₂ ∧ s₂.status = .running ∧ Ended s₂ below o ∧ ∃ v L, o = .returned v ∧ Q v s₂.heap L ∧ FrameEnd s o s₂ L k n := own_to h g
theorem own_retN (X : Stand p l e R s m args below meth c T locs cells slots) (hx : p.tables.exec = Jvm.exec) {pc : Nat} {Ls : Array Slot} {z : Int32} {t : FieldType} {rest : List Value} (hret : meth.sig.returnType = some t)
    (hd : decode c.code pc = .ok (.ireturn, 1)) (ht : t = .boolean ∨ t = .byte ∨ t = .char ∨ t = .short) (hlk : meth.locks = false) (hk : cells ≤ k) (hn : slots ≤ n) {h : Heap} (eT : T.heap = h) (hQ : Q (some (.int (nar t z))) h locs) :
    own_Goes p e below (own_FN s Q k n) (T.setTop (mkF m pc Ls (.int z :: rest))) := by
  obtain ⟨fs, hr, hrun, hended, hW, hsame⟩ := X.leave (v := some (.int (nar t z))) (fun q => by rw [hret] at q; cases q) hlk
  subst eT
  exact ⟨_, _, retN X hx hret ht hd hr, hrun, hended, _, _, rfl, hQ, ⟨_, rfl⟩, hW, hsame.mono hk hn⟩
theorem own_retI (X : Stand p l e R s m args below meth c T locs cells slots) (hx : p.tables.exec = Jvm.exec) {pc : Nat} {Ls : Array Slot} {z : Int32} {rest : List Value} (hret : meth.sig.returnType = some .int)
    (hd : decode c.code pc = .ok (.ireturn, 1)) (hlk : meth.locks = false) (hk : cells ≤ k) (hn : slots ≤ n) {h : Heap} (eT : T.heap = h) (hQ : Q (some (.int z)) h locs) :
    own_Goes p e below (own_FN s Q k n) (T.setTop (mkF m pc Ls (.int z :: rest))) := by
  obtain ⟨fs, hr, hrun, hended, hW, hsame⟩ := X.leave (v := some (.int z)) (fun q => by rw [hret] at q; cases q) hlk
  subst eT
  exact ⟨_, _, retOut X hx hret rfl (Or.inl ⟨rfl, Or.inl rfl, z, rfl⟩) hd hr, hrun, hended, _, _, rfl, hQ, ⟨_, rfl⟩, hW, hsame.mono hk hn⟩
theorem own_retJ (X : Stand p l e R s m args below meth c T locs cells slots) (hx : p.tables.exec = Jvm.exec) {pc : Nat} {Ls : Array Slot} {z : Int64} {rest : List Value} (hret : meth.sig.returnType = some .long)
    (hd : decode c.code pc = .ok (.lreturn, 1)) (hlk : meth.locks = false) (hk : cells ≤ k) (hn : slots ≤ n) {h : Heap} (eT : T.heap = h) (hQ : Q (some (.long z)) h locs) :
    own_Goes p e below (own_FN s Q k n) (T.setTop (mkF m pc Ls (.long z :: rest))) := by
  obtain ⟨fs, hr, hrun, hended, hW, hsame⟩ := X.leave (v := some (.long z)) (fun q => by rw [hret] at q; cases q) hlk
  subst eT
  exact ⟨_, _, retOut X hx hret rfl (Or.inr (Or.inl ⟨rfl, rfl, z, rfl⟩)) hd hr, hrun, hended, _, _, rfl, hQ, ⟨_, rfl⟩, hW, hsame.mono hk hn⟩
theorem own_nref {t : FieldType} {w : Value} (ht : t.isReference = true) : narrow t w = w := by cases t <;> first | rfl | (exact Bool.noConfusion ht)
theorem own_fits {t : FieldType} {w : Value} (ht : t.isReference = true) (hw : w.isRef = true) : fits t w = true := by
  cases t <;> first | (exact Bool.noConfusion ht) | (cases w <;> first | rfl | (exact Bool.noConfusion hw))
theorem own_retR (X : Stand p l e R s m args below meth c T locs cells slots) (hx : p.tables.exec = Jvm.exec) {pc : Nat} {Ls : Array Slot} {w : Value} {t : FieldType} {rest : List Value} (hret : meth.sig.returnType = some t)
    (hd : decode c.code pc = .ok (.areturn, 1)) (ht : t.isReference = true) (hw : w.isRef = true) (hlk : meth.locks = false) (hk : cells ≤ k) (hn : slots ≤ n) {h : Heap} (eT : T.heap = h) (hQ : Q (some w) h locs) :
    own_Goes p e below (own_FN s Q k n) (T.setTop (mkF m pc Ls (w :: rest))) := by
  obtain ⟨fs, hr, hrun, hended, hW, hsame⟩ := X.leave (v := some w) (fun q => by rw [hret] at q; cases q) hlk
  subst eT
  exact ⟨_, _, retOut X hx hret (own_nref ht) (Or.inr (Or.inr (Or.inr (Or.inr ⟨rfl, ht, hw⟩)))) hd hr, hrun, hended, _, _, rfl, hQ, ⟨_, rfl⟩, hW, hsame.mono hk hn⟩
theorem own_retV (X : Stand p l e R s m args below meth c T locs cells slots) (hx : p.tables.exec = Jvm.exec) {pc : Nat} {Ls : Array Slot} (hret : meth.sig.returnType = none)
    (hd : decode c.code pc = .ok (.return_, 1)) (hlk : meth.locks = false) (hk : cells ≤ k) (hn : slots ≤ n) {h : Heap} (eT : T.heap = h) (hQ : Q none h locs) :
    own_Goes p e below (own_FN s Q k n) (T.setTop (mkF m pc Ls [])) := by
  obtain ⟨fs, hr, hrun, hended, hW, hsame⟩ := X.leave (v := none) (fun _ => rfl) hlk
  subst eT
  exact ⟨_, _, X.returnOut hx hret hd hr, hrun, hended, _, _, rfl, hQ, ⟨_, rfl⟩, hW, hsame.mono hk hn⟩
end OwnGoes

/-- a body's contract, in lawnew's form -/
abbrev own_Met (l : Launch) (y : MethodName) (bytes : ByteArray) (ml : Nat) (rt : Option FieldType) (ws : List Jvm.Cond) (rm : Room) (Z : State) (as' : Array Value) (h0 : Heap) (Q : Option Value → Heap → List Loc → Prop) : Prop :=
  MetFree l y (head1 (Jvm.Cond.code y bytes ml rt :: ws) rm) (fun a U => a = as' ∧ Z.Warmed39 U.vm ∧ U.heap = h0) (fun _ _ _ _ _ => True) (fun _ U o U' => ∃ v L, o = .returned v ∧ Q v U'.heap L ∧ FrameEnd U o U' L rm.cells rm.slots)
theorem own_enter {l : Launch} {y : MethodName} {bytes : ByteArray} {ml : Nat} {rt : Option FieldType} {ws : List Jvm.Cond} {rm : Room} {Z : State} {as' : Array Value} {h0 : Heap} {Q : Option Value → Heap → List Loc → Prop} (L0 : Array Slot) (hp : plainFor y = true) (ef : ∀ m, entryFrame m as' ml = mkF m 0 L0 [])
    (go : ∀ (p : Program) (e : Env) (s : State) (m : MethodId) (below : List Frame) (meth : Method) (c : Code) (s₁ : State), p.tables.exec = Jvm.exec → c.code = bytes → c.maxLocals = ml → s.vm.findClass y.cls = some m.cls → meth.name = y.name → Z.Warmed39 s.vm → meth.sig.returnType = rt → meth.locks = false → Stand p l e rm s m as' below meth c s₁ [] 0 0 → s₁.heap = h0 → own_Goes p e below (own_FN s Q rm.cells rm.slots) (s₁.setTop (mkF m 0 L0 []))) :
    own_Met l y bytes ml rt ws rm Z as' h0 Q := by
  refine MetFree.of_bodySF hp hisR ?_
  intro p e s m args below meth c s₁ Bd hml0 hP hK
  obtain ⟨rfl, hZ, hh⟩ := hP
  have g := go p e s m below meth c s₁ Bd.exec Bd.bytes hml0 (findClass_of_methodNamed Bd.named) (name_of_methodNamed Bd.named Bd.method).1 hZ Bd.returns Bd.notSynchronized (Stand.of_body Bd) (by rw [← hh, Bd.state]; rfl)
  exact own_start (fun t k => castTop (ef m) k) g

theorem own_cat1 {x : Value} (h : x.isRef = true) : x.category = 1 := by cases x <;> first | rfl | exact Bool.noConfusion h
theorem own_catI (z : Int32) : (Value.int z).category = 1 := rfl
theorem own_catJ (z : Int64) : (Value.long z).category = 2 := rfl
theorem own_catR (z : Addr) : (Value.ref z).category = 1 := rfl
theorem own_w {a0 : Array Value} {Z : State} (hw : ∀ d ∈ tables_1, d.before a0 Z = true) (i : Nat) {d : Jvm.Cond} (h : tables_1[i]? = some d) : d.before a0 Z = true := hw _ (List.mem_of_getElem? h)
abbrev own_R_0_0_0_0 : Room := { frames := 0, cells := 0, slots := 0, locals := 0 }
abbrev own_R_1_0_0_13 : Room := { frames := 1, cells := 0, slots := 0, locals := 13 }
abbrev own_R_1_1_4_15 : Room := { frames := 1, cells := 1, slots := 4, locals := 15 }
abbrev own_R_1_0_0_14 : Room := { frames := 1, cells := 0, slots := 0, locals := 14 }
abbrev own_R_2_0_0_30 : Room := { frames := 2, cells := 0, slots := 0, locals := 30 }
abbrev own_R_3_0_0_44 : Room := { frames := 3, cells := 0, slots := 0, locals := 44 }
abbrev own_R_4_0_0_58 : Room := { frames := 4, cells := 0, slots := 0, locals := 58 }
abbrev own_R_1_4_8_12 : Room := { frames := 1, cells := 4, slots := 8, locals := 12 }
abbrev own_R_2_4_8_29 : Room := { frames := 2, cells := 4, slots := 8, locals := 29 }
abbrev own_R_1_1_2_12 : Room := { frames := 1, cells := 1, slots := 2, locals := 12 }
abbrev own_R_2_1_2_24 : Room := { frames := 2, cells := 1, slots := 2, locals := 24 }
abbrev own_R_3_2_3_42 : Room := { frames := 3, cells := 2, slots := 3, locals := 42 }
abbrev own_R_4_2_3_61 : Room := { frames := 4, cells := 2, slots := 3, locals := 61 }
abbrev own_R_5_2_3_78 : Room := { frames := 5, cells := 2, slots := 3, locals := 78 }
abbrev own_R_1_1_4_12 : Room := { frames := 1, cells := 1, slots := 4, locals := 12 }
abbrev own_R_2_1_4_24 : Room := { frames := 2, cells := 1, slots := 4, locals := 24 }
abbrev own_R_3_2_6_42 : Room := { frames := 3, cells := 2, slots := 6, locals := 42 }
abbrev own_R_4_2_6_61 : Room := { frames := 4, cells := 2, slots := 6, locals := 61 }
abbrev own_R_5_2_6_78 : Room := { frames := 5, cells := 2, slots := 6, locals := 78 }
abbrev own_R_1_1_6_12 : Room := { frames := 1, cells := 1, slots := 6, locals := 12 }
abbrev own_R_2_1_6_24 : Room := { frames := 2, cells := 1, slots := 6, locals := 24 }
abbrev own_R_3_2_9_42 : Room := { frames := 3, cells := 2, slots := 9, locals := 42 }
abbrev own_R_4_2_9_61 : Room := { frames := 4, cells := 2, slots := 9, locals := 61 }
abbrev own_R_5_2_9_78 : Room := { frames := 5, cells := 2, slots := 9, locals := 78 }
abbrev own_R_6_6_16_92 : Room := { frames := 6, cells := 6, slots := 16, locals := 92 }
theorem dq2_0 : decode method_2_code 0 = .ok (.lload_n 0, 1) := by decide +kernel
theorem dq2_1 : decode method_2_code 1 = .ok (.ldc2_w 7, 3) := by decide +kernel
theorem dq2_4 : decode method_2_code 4 = .ok (.land, 1) := by decide +kernel
theorem dq2_5 : decode method_2_code 5 = .ok (.l2i, 1) := by decide +kernel
theorem dq2_6 : decode method_2_code 6 = .ok (.istore_n 2, 1) := by decide +kernel
theorem dq2_7 : decode method_2_code 7 = .ok (.lload_n 0, 1) := by decide +kernel
theorem dq2_8 : decode method_2_code 8 = .ok (.iconst 2, 1) := by decide +kernel
theorem dq2_9 : decode method_2_code 9 = .ok (.lushr, 1) := by decide +kernel
theorem dq2_10 : decode method_2_code 10 = .ok (.ldc2_w 9, 3) := by decide +kernel
theorem dq2_13 : decode method_2_code 13 = .ok (.land, 1) := by decide +kernel
theorem dq2_14 : decode method_2_code 14 = .ok (.l2i, 1) := by decide +kernel
theorem dq2_15 : decode method_2_code 15 = .ok (.istore_n 3, 1) := by decide +kernel
theorem dq2_16 : decode method_2_code 16 = .ok (.iload_n 2, 1) := by decide +kernel
theorem dq2_17 : decode method_2_code 17 = .ok (.ifCond .ne 6, 3) := by decide +kernel
theorem dq2_20 : decode method_2_code 20 = .ok (.iload_n 3, 1) := by decide +kernel
theorem dq2_21 : decode method_2_code 21 = .ok (.i2c, 1) := by decide +kernel
theorem dq2_22 : decode method_2_code 22 = .ok (.ireturn, 1) := by decide +kernel
theorem dq2_23 : decode method_2_code 23 = .ok (.iload_n 2, 1) := by decide +kernel
theorem dq2_24 : decode method_2_code 24 = .ok (.iconst 1, 1) := by decide +kernel
theorem dq2_25 : decode method_2_code 25 = .ok (.if_icmp .ne 13, 3) := by decide +kernel
theorem dq2_28 : decode method_2_code 28 = .ok (.ldc 11, 2) := by decide +kernel
theorem dq2_30 : decode method_2_code 30 = .ok (.iload_n 3, 1) := by decide +kernel
theorem dq2_31 : decode method_2_code 31 = .ok (.sipush 1023, 3) := by decide +kernel
theorem dq2_34 : decode method_2_code 34 = .ok (.iand, 1) := by decide +kernel
theorem dq2_35 : decode method_2_code 35 = .ok (.iadd, 1) := by decide +kernel
theorem dq2_36 : decode method_2_code 36 = .ok (.i2c, 1) := by decide +kernel
theorem dq2_37 : decode method_2_code 37 = .ok (.ireturn, 1) := by decide +kernel
theorem dq2_38 : decode method_2_code 38 = .ok (.iload_n 2, 1) := by decide +kernel
theorem dq2_39 : decode method_2_code 39 = .ok (.iconst 2, 1) := by decide +kernel
theorem dq2_40 : decode method_2_code 40 = .ok (.if_icmp .ne 13, 3) := by decide +kernel
theorem dq2_43 : decode method_2_code 43 = .ok (.ldc 12, 2) := by decide +kernel
theorem dq2_45 : decode method_2_code 45 = .ok (.iload_n 3, 1) := by decide +kernel
theorem dq2_46 : decode method_2_code 46 = .ok (.sipush 1023, 3) := by decide +kernel
theorem dq2_49 : decode method_2_code 49 = .ok (.iand, 1) := by decide +kernel
theorem dq2_50 : decode method_2_code 50 = .ok (.iadd, 1) := by decide +kernel
theorem dq2_51 : decode method_2_code 51 = .ok (.i2c, 1) := by decide +kernel
theorem dq2_52 : decode method_2_code 52 = .ok (.ireturn, 1) := by decide +kernel
theorem dq2_53 : decode method_2_code 53 = .ok (.ldc 13, 2) := by decide +kernel
theorem dq2_55 : decode method_2_code 55 = .ok (.iload_n 3, 1) := by decide +kernel
theorem dq2_56 : decode method_2_code 56 = .ok (.sipush 8191, 3) := by decide +kernel
theorem dq2_59 : decode method_2_code 59 = .ok (.iand, 1) := by decide +kernel
theorem dq2_60 : decode method_2_code 60 = .ok (.iadd, 1) := by decide +kernel
theorem dq2_61 : decode method_2_code 61 = .ok (.i2c, 1) := by decide +kernel
theorem dq2_62 : decode method_2_code 62 = .ok (.ireturn, 1) := by decide +kernel
theorem pn_com_example_cited_experts_citedexperts_Utf8OrderComparePinLaw : plainName "com/example/cited_experts/citedexperts/Utf8OrderComparePinLaw" = true := by first | (simp [plainName, overriddenIn]; done) | decide +kernel
theorem ef_J_4 (m : MethodId) (x0 : Int64) : entryFrame m #[(.long x0)] 4 = mkF m 0 #[.val (.long x0), .second, .unset, .unset] [] := by first | (simp [entryFrame, mkF, argsToLocals, Value.category]; done) | rfl
theorem dq3_0 : decode method_3_code 0 = .ok (.iload_n 0, 1) := by decide +kernel
theorem dq3_1 : decode method_3_code 1 = .ok (.ldc 11, 2) := by decide +kernel
theorem dq3_3 : decode method_3_code 3 = .ok (.if_icmp .lt 13, 3) := by decide +kernel
theorem dq3_6 : decode method_3_code 6 = .ok (.iload_n 0, 1) := by decide +kernel
theorem dq3_7 : decode method_3_code 7 = .ok (.ldc 14, 2) := by decide +kernel
theorem dq3_9 : decode method_3_code 9 = .ok (.if_icmp .gt 7, 3) := by decide +kernel
theorem dq3_12 : decode method_3_code 12 = .ok (.iconst 1, 1) := by decide +kernel
theorem dq3_13 : decode method_3_code 13 = .ok (.goto 4, 3) := by decide +kernel
theorem dq3_16 : decode method_3_code 16 = .ok (.iconst 0, 1) := by decide +kernel
theorem dq3_17 : decode method_3_code 17 = .ok (.ireturn, 1) := by decide +kernel
theorem ef_I_1 (m : MethodId) (x0 : Int32) : entryFrame m #[(.int x0)] 1 = mkF m 0 #[.val (.int x0)] [] := by first | (simp [entryFrame, mkF, argsToLocals, Value.category]; done) | rfl
theorem dq4_0 : decode method_4_code 0 = .ok (.iload_n 0, 1) := by decide +kernel
theorem dq4_1 : decode method_4_code 1 = .ok (.ldc 12, 2) := by decide +kernel
theorem dq4_3 : decode method_4_code 3 = .ok (.if_icmp .lt 13, 3) := by decide +kernel
theorem dq4_6 : decode method_4_code 6 = .ok (.iload_n 0, 1) := by decide +kernel
theorem dq4_7 : decode method_4_code 7 = .ok (.ldc 15, 2) := by decide +kernel
theorem dq4_9 : decode method_4_code 9 = .ok (.if_icmp .gt 7, 3) := by decide +kernel
theorem dq4_12 : decode method_4_code 12 = .ok (.iconst 1, 1) := by decide +kernel
theorem dq4_13 : decode method_4_code 13 = .ok (.goto 4, 3) := by decide +kernel
theorem dq4_16 : decode method_4_code 16 = .ok (.iconst 0, 1) := by decide +kernel
theorem dq4_17 : decode method_4_code 17 = .ok (.ireturn, 1) := by decide +kernel
theorem dq5_0 : decode method_5_code 0 = .ok (.ldc 16, 2) := by decide +kernel
theorem dq5_2 : decode method_5_code 2 = .ok (.iload_n 0, 1) := by decide +kernel
theorem dq5_3 : decode method_5_code 3 = .ok (.ldc 11, 2) := by decide +kernel
theorem dq5_5 : decode method_5_code 5 = .ok (.isub, 1) := by decide +kernel
theorem dq5_6 : decode method_5_code 6 = .ok (.bipush 10, 2) := by decide +kernel
theorem dq5_8 : decode method_5_code 8 = .ok (.ishl, 1) := by decide +kernel
theorem dq5_9 : decode method_5_code 9 = .ok (.iadd, 1) := by decide +kernel
theorem dq5_10 : decode method_5_code 10 = .ok (.iload_n 1, 1) := by decide +kernel
theorem dq5_11 : decode method_5_code 11 = .ok (.ldc 12, 2) := by decide +kernel
theorem dq5_13 : decode method_5_code 13 = .ok (.isub, 1) := by decide +kernel
theorem dq5_14 : decode method_5_code 14 = .ok (.iadd, 1) := by decide +kernel
theorem dq5_15 : decode method_5_code 15 = .ok (.ireturn, 1) := by decide +kernel
theorem ef_II_2 (m : MethodId) (x0 : Int32) (x1 : Int32) : entryFrame m #[(.int x0), (.int x1)] 2 = mkF m 0 #[.val (.int x0), .val (.int x1)] [] := by first | (simp [entryFrame, mkF, argsToLocals, Value.category]; done) | rfl
theorem dq9_0 : decode method_9_code 0 = .ok (.iload_n 0, 1) := by decide +kernel
theorem dq9_1 : decode method_9_code 1 = .ok (.ifCond .ge 5, 3) := by decide +kernel
theorem dq9_4 : decode method_9_code 4 = .ok (.iconst (-1), 1) := by decide +kernel
theorem dq9_5 : decode method_9_code 5 = .ok (.ireturn, 1) := by decide +kernel
theorem dq9_6 : decode method_9_code 6 = .ok (.iload_n 0, 1) := by decide +kernel
theorem dq9_7 : decode method_9_code 7 = .ok (.ifCond .le 5, 3) := by decide +kernel
theorem dq9_10 : decode method_9_code 10 = .ok (.iconst 1, 1) := by decide +kernel
theorem dq9_11 : decode method_9_code 11 = .ok (.ireturn, 1) := by decide +kernel
theorem dq9_12 : decode method_9_code 12 = .ok (.iconst 0, 1) := by decide +kernel
theorem dq9_13 : decode method_9_code 13 = .ok (.ireturn, 1) := by decide +kernel
theorem dj89m14_0 : decode jdk_89_method_14_code 0 = .ok (.iload_n 0, 1) := by decide +kernel
theorem dj89m14_1 : decode jdk_89_method_14_code 1 = .ok (.ldc 75, 2) := by decide +kernel
theorem dj89m14_3 : decode jdk_89_method_14_code 3 = .ok (.if_icmp .lt 13, 3) := by decide +kernel
theorem dj89m14_6 : decode jdk_89_method_14_code 6 = .ok (.iload_n 0, 1) := by decide +kernel
theorem dj89m14_7 : decode jdk_89_method_14_code 7 = .ok (.ldc 76, 2) := by decide +kernel
theorem dj89m14_9 : decode jdk_89_method_14_code 9 = .ok (.if_icmp .ge 7, 3) := by decide +kernel
theorem dj89m14_12 : decode jdk_89_method_14_code 12 = .ok (.iconst 1, 1) := by decide +kernel
theorem dj89m14_13 : decode jdk_89_method_14_code 13 = .ok (.goto 4, 3) := by decide +kernel
theorem dj89m14_16 : decode jdk_89_method_14_code 16 = .ok (.iconst 0, 1) := by decide +kernel
theorem dj89m14_17 : decode jdk_89_method_14_code 17 = .ok (.ireturn, 1) := by decide +kernel
theorem pn_java_lang_Character : plainName "java/lang/Character" = true := by first | (simp [plainName, overriddenIn]; done) | decide +kernel
theorem dj89m15_0 : decode jdk_89_method_15_code 0 = .ok (.iload_n 0, 1) := by decide +kernel
theorem dj89m15_1 : decode jdk_89_method_15_code 1 = .ok (.ldc 76, 2) := by decide +kernel
theorem dj89m15_3 : decode jdk_89_method_15_code 3 = .ok (.if_icmp .lt 13, 3) := by decide +kernel
theorem dj89m15_6 : decode jdk_89_method_15_code 6 = .ok (.iload_n 0, 1) := by decide +kernel
theorem dj89m15_7 : decode jdk_89_method_15_code 7 = .ok (.ldc 77, 2) := by decide +kernel
theorem dj89m15_9 : decode jdk_89_method_15_code 9 = .ok (.if_icmp .ge 7, 3) := by decide +kernel
theorem dj89m15_12 : decode jdk_89_method_15_code 12 = .ok (.iconst 1, 1) := by decide +kernel
theorem dj89m15_13 : decode jdk_89_method_15_code 13 = .ok (.goto 4, 3) := by decide +kernel
theorem dj89m15_16 : decode jdk_89_method_15_code 16 = .ok (.iconst 0, 1) := by decide +kernel
theorem dj89m15_17 : decode jdk_89_method_15_code 17 = .ok (.ireturn, 1) := by decide +kernel
theorem dj89m18_0 : decode jdk_89_method_18_code 0 = .ok (.iload_n 0, 1) := by decide +kernel
theorem dj89m18_1 : decode jdk_89_method_18_code 1 = .ok (.ldc 73, 2) := by decide +kernel
theorem dj89m18_3 : decode jdk_89_method_18_code 3 = .ok (.if_icmp .lt 7, 3) := by decide +kernel
theorem dj89m18_6 : decode jdk_89_method_18_code 6 = .ok (.iconst 2, 1) := by decide +kernel
theorem dj89m18_7 : decode jdk_89_method_18_code 7 = .ok (.goto 4, 3) := by decide +kernel
theorem dj89m18_10 : decode jdk_89_method_18_code 10 = .ok (.iconst 1, 1) := by decide +kernel
theorem dj89m18_11 : decode jdk_89_method_18_code 11 = .ok (.ireturn, 1) := by decide +kernel
theorem dj89m19_0 : decode jdk_89_method_19_code 0 = .ok (.iload_n 0, 1) := by decide +kernel
theorem dj89m19_1 : decode jdk_89_method_19_code 1 = .ok (.bipush 10, 2) := by decide +kernel
theorem dj89m19_3 : decode jdk_89_method_19_code 3 = .ok (.ishl, 1) := by decide +kernel
theorem dj89m19_4 : decode jdk_89_method_19_code 4 = .ok (.iload_n 1, 1) := by decide +kernel
theorem dj89m19_5 : decode jdk_89_method_19_code 5 = .ok (.iadd, 1) := by decide +kernel
theorem dj89m19_6 : decode jdk_89_method_19_code 6 = .ok (.ldc 85, 2) := by decide +kernel
theorem dj89m19_8 : decode jdk_89_method_19_code 8 = .ok (.iadd, 1) := by decide +kernel
theorem dj89m19_9 : decode jdk_89_method_19_code 9 = .ok (.ireturn, 1) := by decide +kernel
theorem dj33m40_0 : decode jdk_33_method_40_code 0 = .ok (.iload_n 0, 1) := by decide +kernel
theorem dj33m40_1 : decode jdk_33_method_40_code 1 = .ok (.iload_n 1, 1) := by decide +kernel
theorem dj33m40_2 : decode jdk_33_method_40_code 2 = .ok (.if_icmp .ge 7, 3) := by decide +kernel
theorem dj33m40_5 : decode jdk_33_method_40_code 5 = .ok (.iconst (-1), 1) := by decide +kernel
theorem dj33m40_6 : decode jdk_33_method_40_code 6 = .ok (.goto 13, 3) := by decide +kernel
theorem dj33m40_9 : decode jdk_33_method_40_code 9 = .ok (.iload_n 0, 1) := by decide +kernel
theorem dj33m40_10 : decode jdk_33_method_40_code 10 = .ok (.iload_n 1, 1) := by decide +kernel
theorem dj33m40_11 : decode jdk_33_method_40_code 11 = .ok (.if_icmp .ne 7, 3) := by decide +kernel
theorem dj33m40_14 : decode jdk_33_method_40_code 14 = .ok (.iconst 0, 1) := by decide +kernel
theorem dj33m40_15 : decode jdk_33_method_40_code 15 = .ok (.goto 4, 3) := by decide +kernel
theorem dj33m40_18 : decode jdk_33_method_40_code 18 = .ok (.iconst 1, 1) := by decide +kernel
theorem dj33m40_19 : decode jdk_33_method_40_code 19 = .ok (.ireturn, 1) := by decide +kernel
theorem pn_java_lang_Integer : plainName "java/lang/Integer" = true := by first | (simp [plainName, overriddenIn]; done) | decide +kernel
theorem dj29m69_0 : decode jdk_29_method_69_code 0 = .ok (.iload_n 0, 1) := by decide +kernel
theorem dj29m69_1 : decode jdk_29_method_69_code 1 = .ok (.iload_n 1, 1) := by decide +kernel
theorem dj29m69_2 : decode jdk_29_method_69_code 2 = .ok (.if_icmp .gt 7, 3) := by decide +kernel
theorem dj29m69_5 : decode jdk_29_method_69_code 5 = .ok (.iload_n 0, 1) := by decide +kernel
theorem dj29m69_6 : decode jdk_29_method_69_code 6 = .ok (.goto 4, 3) := by decide +kernel
theorem dj29m69_9 : decode jdk_29_method_69_code 9 = .ok (.iload_n 1, 1) := by decide +kernel
theorem dj29m69_10 : decode jdk_29_method_69_code 10 = .ok (.ireturn, 1) := by decide +kernel
theorem dq8_0 : decode method_8_code 0 = .ok (.aload_n 0, 1) := by decide +kernel
theorem dq8_1 : decode method_8_code 1 = .ok (.iconst 0, 1) := by decide +kernel
theorem dq8_2 : decode method_8_code 2 = .ok (.iaload, 1) := by decide +kernel
theorem dq8_3 : decode method_8_code 3 = .ok (.aload_n 1, 1) := by decide +kernel
theorem dq8_4 : decode method_8_code 4 = .ok (.iconst 0, 1) := by decide +kernel
theorem dq8_5 : decode method_8_code 5 = .ok (.iaload, 1) := by decide +kernel
theorem dq8_6 : decode method_8_code 6 = .ok (.invokestatic 35, 3) := by decide +kernel
theorem dq8_9 : decode method_8_code 9 = .ok (.istore_n 2, 1) := by decide +kernel
theorem dq8_10 : decode method_8_code 10 = .ok (.iload_n 2, 1) := by decide +kernel
theorem dq8_11 : decode method_8_code 11 = .ok (.iconst 1, 1) := by decide +kernel
theorem dq8_12 : decode method_8_code 12 = .ok (.if_icmp .lt 27, 3) := by decide +kernel
theorem dq8_15 : decode method_8_code 15 = .ok (.aload_n 0, 1) := by decide +kernel
theorem dq8_16 : decode method_8_code 16 = .ok (.iconst 1, 1) := by decide +kernel
theorem dq8_17 : decode method_8_code 17 = .ok (.iaload, 1) := by decide +kernel
theorem dq8_18 : decode method_8_code 18 = .ok (.aload_n 1, 1) := by decide +kernel
theorem dq8_19 : decode method_8_code 19 = .ok (.iconst 1, 1) := by decide +kernel
theorem dq8_20 : decode method_8_code 20 = .ok (.iaload, 1) := by decide +kernel
theorem dq8_21 : decode method_8_code 21 = .ok (.if_icmp .eq 18, 3) := by decide +kernel
theorem dq8_24 : decode method_8_code 24 = .ok (.aload_n 0, 1) := by decide +kernel
theorem dq8_25 : decode method_8_code 25 = .ok (.iconst 1, 1) := by decide +kernel
theorem dq8_26 : decode method_8_code 26 = .ok (.iaload, 1) := by decide +kernel
theorem dq8_27 : decode method_8_code 27 = .ok (.aload_n 1, 1) := by decide +kernel
theorem dq8_28 : decode method_8_code 28 = .ok (.iconst 1, 1) := by decide +kernel
theorem dq8_29 : decode method_8_code 29 = .ok (.iaload, 1) := by decide +kernel
theorem dq8_30 : decode method_8_code 30 = .ok (.if_icmp .ge 7, 3) := by decide +kernel
theorem dq8_33 : decode method_8_code 33 = .ok (.iconst (-1), 1) := by decide +kernel
theorem dq8_34 : decode method_8_code 34 = .ok (.goto 4, 3) := by decide +kernel
theorem dq8_37 : decode method_8_code 37 = .ok (.iconst 1, 1) := by decide +kernel
theorem dq8_38 : decode method_8_code 38 = .ok (.ireturn, 1) := by decide +kernel
theorem dq8_39 : decode method_8_code 39 = .ok (.iload_n 2, 1) := by decide +kernel
theorem dq8_40 : decode method_8_code 40 = .ok (.iconst 2, 1) := by decide +kernel
theorem dq8_41 : decode method_8_code 41 = .ok (.if_icmp .lt 27, 3) := by decide +kernel
theorem dq8_44 : decode method_8_code 44 = .ok (.aload_n 0, 1) := by decide +kernel
theorem dq8_45 : decode method_8_code 45 = .ok (.iconst 2, 1) := by decide +kernel
theorem dq8_46 : decode method_8_code 46 = .ok (.iaload, 1) := by decide +kernel
theorem dq8_47 : decode method_8_code 47 = .ok (.aload_n 1, 1) := by decide +kernel
theorem dq8_48 : decode method_8_code 48 = .ok (.iconst 2, 1) := by decide +kernel
theorem dq8_49 : decode method_8_code 49 = .ok (.iaload, 1) := by decide +kernel
theorem dq8_50 : decode method_8_code 50 = .ok (.if_icmp .eq 18, 3) := by decide +kernel
theorem dq8_53 : decode method_8_code 53 = .ok (.aload_n 0, 1) := by decide +kernel
theorem dq8_54 : decode method_8_code 54 = .ok (.iconst 2, 1) := by decide +kernel
theorem dq8_55 : decode method_8_code 55 = .ok (.iaload, 1) := by decide +kernel
theorem dq8_56 : decode method_8_code 56 = .ok (.aload_n 1, 1) := by decide +kernel
theorem dq8_57 : decode method_8_code 57 = .ok (.iconst 2, 1) := by decide +kernel
theorem dq8_58 : decode method_8_code 58 = .ok (.iaload, 1) := by decide +kernel
theorem dq8_59 : decode method_8_code 59 = .ok (.if_icmp .ge 7, 3) := by decide +kernel
theorem dq8_62 : decode method_8_code 62 = .ok (.iconst (-1), 1) := by decide +kernel
theorem dq8_63 : decode method_8_code 63 = .ok (.goto 4, 3) := by decide +kernel
theorem dq8_66 : decode method_8_code 66 = .ok (.iconst 1, 1) := by decide +kernel
theorem dq8_67 : decode method_8_code 67 = .ok (.ireturn, 1) := by decide +kernel
theorem dq8_68 : decode method_8_code 68 = .ok (.iload_n 2, 1) := by decide +kernel
theorem dq8_69 : decode method_8_code 69 = .ok (.iconst 3, 1) := by decide +kernel
theorem dq8_70 : decode method_8_code 70 = .ok (.if_icmp .lt 27, 3) := by decide +kernel
theorem dq8_73 : decode method_8_code 73 = .ok (.aload_n 0, 1) := by decide +kernel
theorem dq8_74 : decode method_8_code 74 = .ok (.iconst 3, 1) := by decide +kernel
theorem dq8_75 : decode method_8_code 75 = .ok (.iaload, 1) := by decide +kernel
theorem dq8_76 : decode method_8_code 76 = .ok (.aload_n 1, 1) := by decide +kernel
theorem dq8_77 : decode method_8_code 77 = .ok (.iconst 3, 1) := by decide +kernel
theorem dq8_78 : decode method_8_code 78 = .ok (.iaload, 1) := by decide +kernel
theorem dq8_79 : decode method_8_code 79 = .ok (.if_icmp .eq 18, 3) := by decide +kernel
theorem dq8_82 : decode method_8_code 82 = .ok (.aload_n 0, 1) := by decide +kernel
theorem dq8_83 : decode method_8_code 83 = .ok (.iconst 3, 1) := by decide +kernel
theorem dq8_84 : decode method_8_code 84 = .ok (.iaload, 1) := by decide +kernel
theorem dq8_85 : decode method_8_code 85 = .ok (.aload_n 1, 1) := by decide +kernel
theorem dq8_86 : decode method_8_code 86 = .ok (.iconst 3, 1) := by decide +kernel
theorem dq8_87 : decode method_8_code 87 = .ok (.iaload, 1) := by decide +kernel
theorem dq8_88 : decode method_8_code 88 = .ok (.if_icmp .ge 7, 3) := by decide +kernel
theorem dq8_91 : decode method_8_code 91 = .ok (.iconst (-1), 1) := by decide +kernel
theorem dq8_92 : decode method_8_code 92 = .ok (.goto 4, 3) := by decide +kernel
theorem dq8_95 : decode method_8_code 95 = .ok (.iconst 1, 1) := by decide +kernel
theorem dq8_96 : decode method_8_code 96 = .ok (.ireturn, 1) := by decide +kernel
theorem dq8_97 : decode method_8_code 97 = .ok (.aload_n 0, 1) := by decide +kernel
theorem dq8_98 : decode method_8_code 98 = .ok (.iconst 0, 1) := by decide +kernel
theorem dq8_99 : decode method_8_code 99 = .ok (.iaload, 1) := by decide +kernel
theorem dq8_100 : decode method_8_code 100 = .ok (.aload_n 1, 1) := by decide +kernel
theorem dq8_101 : decode method_8_code 101 = .ok (.iconst 0, 1) := by decide +kernel
theorem dq8_102 : decode method_8_code 102 = .ok (.iaload, 1) := by decide +kernel
theorem dq8_103 : decode method_8_code 103 = .ok (.if_icmp .ge 5, 3) := by decide +kernel
theorem dq8_106 : decode method_8_code 106 = .ok (.iconst (-1), 1) := by decide +kernel
theorem dq8_107 : decode method_8_code 107 = .ok (.ireturn, 1) := by decide +kernel
theorem dq8_108 : decode method_8_code 108 = .ok (.aload_n 0, 1) := by decide +kernel
theorem dq8_109 : decode method_8_code 109 = .ok (.iconst 0, 1) := by decide +kernel
theorem dq8_110 : decode method_8_code 110 = .ok (.iaload, 1) := by decide +kernel
theorem dq8_111 : decode method_8_code 111 = .ok (.aload_n 1, 1) := by decide +kernel
theorem dq8_112 : decode method_8_code 112 = .ok (.iconst 0, 1) := by decide +kernel
theorem dq8_113 : decode method_8_code 113 = .ok (.iaload, 1) := by decide +kernel
theorem dq8_114 : decode method_8_code 114 = .ok (.if_icmp .le 5, 3) := by decide +kernel
theorem dq8_117 : decode method_8_code 117 = .ok (.iconst 1, 1) := by decide +kernel
theorem dq8_118 : decode method_8_code 118 = .ok (.ireturn, 1) := by decide +kernel
theorem dq8_119 : decode method_8_code 119 = .ok (.iconst 0, 1) := by decide +kernel
theorem dq8_120 : decode method_8_code 120 = .ok (.ireturn, 1) := by decide +kernel
theorem pd0 : parseMethodDescriptor "(II)I" = some ⟨[.int, .int], some .int⟩ := by decide +kernel
theorem ef_RR_3 (m : MethodId) (x0 : Addr) (x1 : Addr) : entryFrame m #[(.ref x0), (.ref x1)] 3 = mkF m 0 #[.val (.ref x0), .val (.ref x1), .unset] [] := by first | (simp [entryFrame, mkF, argsToLocals, Value.category]; done) | rfl
theorem dq7_0 : decode method_7_code 0 = .ok (.iconst 4, 1) := by decide +kernel
theorem dq7_1 : decode method_7_code 1 = .ok (.newarray .int, 2) := by decide +kernel
theorem dq7_3 : decode method_7_code 3 = .ok (.astore 4, 2) := by decide +kernel
theorem dq7_5 : decode method_7_code 5 = .ok (.iload_n 3, 1) := by decide +kernel
theorem dq7_6 : decode method_7_code 6 = .ok (.ifCond .ne 11, 3) := by decide +kernel
theorem dq7_9 : decode method_7_code 9 = .ok (.aload 4, 2) := by decide +kernel
theorem dq7_11 : decode method_7_code 11 = .ok (.iconst 0, 1) := by decide +kernel
theorem dq7_12 : decode method_7_code 12 = .ok (.iconst 0, 1) := by decide +kernel
theorem dq7_13 : decode method_7_code 13 = .ok (.iastore, 1) := by decide +kernel
theorem dq7_14 : decode method_7_code 14 = .ok (.goto 167, 3) := by decide +kernel
theorem dq7_17 : decode method_7_code 17 = .ok (.iload_n 3, 1) := by decide +kernel
theorem dq7_18 : decode method_7_code 18 = .ok (.iconst 1, 1) := by decide +kernel
theorem dq7_19 : decode method_7_code 19 = .ok (.if_icmp .ne 16, 3) := by decide +kernel
theorem dq7_22 : decode method_7_code 22 = .ok (.aload 4, 2) := by decide +kernel
theorem dq7_24 : decode method_7_code 24 = .ok (.iconst 0, 1) := by decide +kernel
theorem dq7_25 : decode method_7_code 25 = .ok (.iconst 1, 1) := by decide +kernel
theorem dq7_26 : decode method_7_code 26 = .ok (.iastore, 1) := by decide +kernel
theorem dq7_27 : decode method_7_code 27 = .ok (.aload 4, 2) := by decide +kernel
theorem dq7_29 : decode method_7_code 29 = .ok (.iconst 1, 1) := by decide +kernel
theorem dq7_30 : decode method_7_code 30 = .ok (.iload_n 0, 1) := by decide +kernel
theorem dq7_31 : decode method_7_code 31 = .ok (.iastore, 1) := by decide +kernel
theorem dq7_32 : decode method_7_code 32 = .ok (.goto 149, 3) := by decide +kernel
theorem dq7_35 : decode method_7_code 35 = .ok (.iload_n 3, 1) := by decide +kernel
theorem dq7_36 : decode method_7_code 36 = .ok (.iconst 2, 1) := by decide +kernel
theorem dq7_37 : decode method_7_code 37 = .ok (.if_icmp .ne 52, 3) := by decide +kernel
theorem dq7_40 : decode method_7_code 40 = .ok (.iload_n 0, 1) := by decide +kernel
theorem dq7_41 : decode method_7_code 41 = .ok (.invokestatic 22, 3) := by decide +kernel
theorem dq7_44 : decode method_7_code 44 = .ok (.ifCond .eq 27, 3) := by decide +kernel
theorem dq7_47 : decode method_7_code 47 = .ok (.iload_n 1, 1) := by decide +kernel
theorem dq7_48 : decode method_7_code 48 = .ok (.invokestatic 28, 3) := by decide +kernel
theorem dq7_51 : decode method_7_code 51 = .ok (.ifCond .eq 20, 3) := by decide +kernel
theorem dq7_54 : decode method_7_code 54 = .ok (.aload 4, 2) := by decide +kernel
theorem dq7_56 : decode method_7_code 56 = .ok (.iconst 0, 1) := by decide +kernel
theorem dq7_57 : decode method_7_code 57 = .ok (.iconst 1, 1) := by decide +kernel
theorem dq7_58 : decode method_7_code 58 = .ok (.iastore, 1) := by decide +kernel
theorem dq7_59 : decode method_7_code 59 = .ok (.aload 4, 2) := by decide +kernel
theorem dq7_61 : decode method_7_code 61 = .ok (.iconst 1, 1) := by decide +kernel
theorem dq7_62 : decode method_7_code 62 = .ok (.iload_n 0, 1) := by decide +kernel
theorem dq7_63 : decode method_7_code 63 = .ok (.iload_n 1, 1) := by decide +kernel
theorem dq7_64 : decode method_7_code 64 = .ok (.invokestatic 31, 3) := by decide +kernel
theorem dq7_67 : decode method_7_code 67 = .ok (.iastore, 1) := by decide +kernel
theorem dq7_68 : decode method_7_code 68 = .ok (.goto 113, 3) := by decide +kernel
theorem dq7_71 : decode method_7_code 71 = .ok (.aload 4, 2) := by decide +kernel
theorem dq7_73 : decode method_7_code 73 = .ok (.iconst 0, 1) := by decide +kernel
theorem dq7_74 : decode method_7_code 74 = .ok (.iconst 2, 1) := by decide +kernel
theorem dq7_75 : decode method_7_code 75 = .ok (.iastore, 1) := by decide +kernel
theorem dq7_76 : decode method_7_code 76 = .ok (.aload 4, 2) := by decide +kernel
theorem dq7_78 : decode method_7_code 78 = .ok (.iconst 1, 1) := by decide +kernel
theorem dq7_79 : decode method_7_code 79 = .ok (.iload_n 0, 1) := by decide +kernel
theorem dq7_80 : decode method_7_code 80 = .ok (.iastore, 1) := by decide +kernel
theorem dq7_81 : decode method_7_code 81 = .ok (.aload 4, 2) := by decide +kernel
theorem dq7_83 : decode method_7_code 83 = .ok (.iconst 2, 1) := by decide +kernel
theorem dq7_84 : decode method_7_code 84 = .ok (.iload_n 1, 1) := by decide +kernel
theorem dq7_85 : decode method_7_code 85 = .ok (.iastore, 1) := by decide +kernel
theorem dq7_86 : decode method_7_code 86 = .ok (.goto 95, 3) := by decide +kernel
theorem dq7_89 : decode method_7_code 89 = .ok (.iload_n 0, 1) := by decide +kernel
theorem dq7_90 : decode method_7_code 90 = .ok (.invokestatic 22, 3) := by decide +kernel
theorem dq7_93 : decode method_7_code 93 = .ok (.ifCond .eq 32, 3) := by decide +kernel
theorem dq7_96 : decode method_7_code 96 = .ok (.iload_n 1, 1) := by decide +kernel
theorem dq7_97 : decode method_7_code 97 = .ok (.invokestatic 28, 3) := by decide +kernel
theorem dq7_100 : decode method_7_code 100 = .ok (.ifCond .eq 25, 3) := by decide +kernel
theorem dq7_103 : decode method_7_code 103 = .ok (.aload 4, 2) := by decide +kernel
theorem dq7_105 : decode method_7_code 105 = .ok (.iconst 0, 1) := by decide +kernel
theorem dq7_106 : decode method_7_code 106 = .ok (.iconst 2, 1) := by decide +kernel
theorem dq7_107 : decode method_7_code 107 = .ok (.iastore, 1) := by decide +kernel
theorem dq7_108 : decode method_7_code 108 = .ok (.aload 4, 2) := by decide +kernel
theorem dq7_110 : decode method_7_code 110 = .ok (.iconst 1, 1) := by decide +kernel
theorem dq7_111 : decode method_7_code 111 = .ok (.iload_n 0, 1) := by decide +kernel
theorem dq7_112 : decode method_7_code 112 = .ok (.iload_n 1, 1) := by decide +kernel
theorem dq7_113 : decode method_7_code 113 = .ok (.invokestatic 31, 3) := by decide +kernel
theorem dq7_116 : decode method_7_code 116 = .ok (.iastore, 1) := by decide +kernel
theorem dq7_117 : decode method_7_code 117 = .ok (.aload 4, 2) := by decide +kernel
theorem dq7_119 : decode method_7_code 119 = .ok (.iconst 2, 1) := by decide +kernel
theorem dq7_120 : decode method_7_code 120 = .ok (.iload_n 2, 1) := by decide +kernel
theorem dq7_121 : decode method_7_code 121 = .ok (.iastore, 1) := by decide +kernel
theorem dq7_122 : decode method_7_code 122 = .ok (.goto 59, 3) := by decide +kernel
theorem dq7_125 : decode method_7_code 125 = .ok (.iload_n 1, 1) := by decide +kernel
theorem dq7_126 : decode method_7_code 126 = .ok (.invokestatic 22, 3) := by decide +kernel
theorem dq7_129 : decode method_7_code 129 = .ok (.ifCond .eq 32, 3) := by decide +kernel
theorem dq7_132 : decode method_7_code 132 = .ok (.iload_n 2, 1) := by decide +kernel
theorem dq7_133 : decode method_7_code 133 = .ok (.invokestatic 28, 3) := by decide +kernel
theorem dq7_136 : decode method_7_code 136 = .ok (.ifCond .eq 25, 3) := by decide +kernel
theorem dq7_139 : decode method_7_code 139 = .ok (.aload 4, 2) := by decide +kernel
theorem dq7_141 : decode method_7_code 141 = .ok (.iconst 0, 1) := by decide +kernel
theorem dq7_142 : decode method_7_code 142 = .ok (.iconst 2, 1) := by decide +kernel
theorem dq7_143 : decode method_7_code 143 = .ok (.iastore, 1) := by decide +kernel
theorem dq7_144 : decode method_7_code 144 = .ok (.aload 4, 2) := by decide +kernel
theorem dq7_146 : decode method_7_code 146 = .ok (.iconst 1, 1) := by decide +kernel
theorem dq7_147 : decode method_7_code 147 = .ok (.iload_n 0, 1) := by decide +kernel
theorem dq7_148 : decode method_7_code 148 = .ok (.iastore, 1) := by decide +kernel
theorem dq7_149 : decode method_7_code 149 = .ok (.aload 4, 2) := by decide +kernel
theorem dq7_151 : decode method_7_code 151 = .ok (.iconst 2, 1) := by decide +kernel
theorem dq7_152 : decode method_7_code 152 = .ok (.iload_n 1, 1) := by decide +kernel
theorem dq7_153 : decode method_7_code 153 = .ok (.iload_n 2, 1) := by decide +kernel
theorem dq7_154 : decode method_7_code 154 = .ok (.invokestatic 31, 3) := by decide +kernel
theorem dq7_157 : decode method_7_code 157 = .ok (.iastore, 1) := by decide +kernel
theorem dq7_158 : decode method_7_code 158 = .ok (.goto 23, 3) := by decide +kernel
theorem dq7_161 : decode method_7_code 161 = .ok (.aload 4, 2) := by decide +kernel
theorem dq7_163 : decode method_7_code 163 = .ok (.iconst 0, 1) := by decide +kernel
theorem dq7_164 : decode method_7_code 164 = .ok (.iconst 3, 1) := by decide +kernel
theorem dq7_165 : decode method_7_code 165 = .ok (.iastore, 1) := by decide +kernel
theorem dq7_166 : decode method_7_code 166 = .ok (.aload 4, 2) := by decide +kernel
theorem dq7_168 : decode method_7_code 168 = .ok (.iconst 1, 1) := by decide +kernel
theorem dq7_169 : decode method_7_code 169 = .ok (.iload_n 0, 1) := by decide +kernel
theorem dq7_170 : decode method_7_code 170 = .ok (.iastore, 1) := by decide +kernel
theorem dq7_171 : decode method_7_code 171 = .ok (.aload 4, 2) := by decide +kernel
theorem dq7_173 : decode method_7_code 173 = .ok (.iconst 2, 1) := by decide +kernel
theorem dq7_174 : decode method_7_code 174 = .ok (.iload_n 1, 1) := by decide +kernel
theorem dq7_175 : decode method_7_code 175 = .ok (.iastore, 1) := by decide +kernel
theorem dq7_176 : decode method_7_code 176 = .ok (.aload 4, 2) := by decide +kernel
theorem dq7_178 : decode method_7_code 178 = .ok (.iconst 3, 1) := by decide +kernel
theorem dq7_179 : decode method_7_code 179 = .ok (.iload_n 2, 1) := by decide +kernel
theorem dq7_180 : decode method_7_code 180 = .ok (.iastore, 1) := by decide +kernel
theorem dq7_181 : decode method_7_code 181 = .ok (.aload 4, 2) := by decide +kernel
theorem dq7_183 : decode method_7_code 183 = .ok (.areturn, 1) := by decide +kernel
theorem pd1 : parseMethodDescriptor "(C)Z" = some ⟨[.char], some .boolean⟩ := by decide +kernel
theorem pd2 : parseMethodDescriptor "(CC)I" = some ⟨[.char, .char], some .int⟩ := by decide +kernel
theorem ef_IIII_5 (m : MethodId) (x0 : Int32) (x1 : Int32) (x2 : Int32) (x3 : Int32) : entryFrame m #[(.int x0), (.int x1), (.int x2), (.int x3)] 5 = mkF m 0 #[.val (.int x0), .val (.int x1), .val (.int x2), .val (.int x3), .unset] [] := by first | (simp [entryFrame, mkF, argsToLocals, Value.category]; done) | rfl
theorem dj41m11_0 : decode jdk_41_method_11_code 0 = .ok (.iload_n 0, 1) := by decide +kernel
theorem dj41m11_1 : decode jdk_41_method_11_code 1 = .ok (.ifCond .lt 8, 3) := by decide +kernel
theorem dj41m11_4 : decode jdk_41_method_11_code 4 = .ok (.iload_n 0, 1) := by decide +kernel
theorem dj41m11_5 : decode jdk_41_method_11_code 5 = .ok (.iload_n 1, 1) := by decide +kernel
theorem dj41m11_6 : decode jdk_41_method_11_code 6 = .ok (.if_icmp .lt 10, 3) := by decide +kernel
theorem dj41m11_16 : decode jdk_41_method_11_code 16 = .ok (.iload_n 0, 1) := by decide +kernel
theorem dj41m11_17 : decode jdk_41_method_11_code 17 = .ok (.ireturn, 1) := by decide +kernel
theorem pn_jdk_internal_util_Preconditions : plainName "jdk/internal/util/Preconditions" = true := by first | (simp [plainName, overriddenIn]; done) | decide +kernel
theorem ef_IIV_3 (m : MethodId) (x0 : Int32) (x1 : Int32) (x2 : Value) (hx2 : x2.isRef = true) : entryFrame m #[(.int x0), (.int x1), x2] 3 = mkF m 0 #[.val (.int x0), .val (.int x1), .val x2] [] := by simp [entryFrame, mkF, argsToLocals, own_cat1 hx2, own_catI, own_catJ, own_catR]
theorem dj42m155_0 : decode jdk_42_method_155_code 0 = .ok (.iload_n 0, 1) := by decide +kernel
theorem dj42m155_1 : decode jdk_42_method_155_code 1 = .ok (.iload_n 1, 1) := by decide +kernel
theorem dj42m155_2 : decode jdk_42_method_155_code 2 = .ok (.getstatic 1053, 3) := by decide +kernel
theorem dj42m155_5 : decode jdk_42_method_155_code 5 = .ok (.invokestatic 1059, 3) := by decide +kernel
theorem dj42m155_8 : decode jdk_42_method_155_code 8 = .ok (.pop, 1) := by decide +kernel
theorem dj42m155_9 : decode jdk_42_method_155_code 9 = .ok (.return_, 1) := by decide +kernel
theorem pn_java_lang_String : plainName "java/lang/String" = true := by first | (simp [plainName, overriddenIn]; done) | decide +kernel
theorem pd3 : parseMethodDescriptor "(IILjava/util/function/BiFunction;)I" = some ⟨[.int, .int, (.object "java/util/function/BiFunction")], some .int⟩ := by decide +kernel
theorem dj52m5_0 : decode jdk_52_method_5_code 0 = .ok (.getstatic 44, 3) := by decide +kernel
theorem dj52m5_3 : decode jdk_52_method_5_code 3 = .ok (.ifCond .ne 25, 3) := by decide +kernel
theorem dj52m5_28 : decode jdk_52_method_5_code 28 = .ok (.iload_n 1, 1) := by decide +kernel
theorem dj52m5_29 : decode jdk_52_method_5_code 29 = .ok (.iconst 1, 1) := by decide +kernel
theorem dj52m5_30 : decode jdk_52_method_5_code 30 = .ok (.ishl, 1) := by decide +kernel
theorem dj52m5_31 : decode jdk_52_method_5_code 31 = .ok (.istore_n 1, 1) := by decide +kernel
theorem dj52m5_32 : decode jdk_52_method_5_code 32 = .ok (.aload_n 0, 1) := by decide +kernel
theorem dj52m5_33 : decode jdk_52_method_5_code 33 = .ok (.iload_n 1, 1) := by decide +kernel
theorem dj52m5_34 : decode jdk_52_method_5_code 34 = .ok (.iinc 1 1, 3) := by decide +kernel
theorem dj52m5_37 : decode jdk_52_method_5_code 37 = .ok (.baload, 1) := by decide +kernel
theorem dj52m5_38 : decode jdk_52_method_5_code 38 = .ok (.sipush 255, 3) := by decide +kernel
theorem dj52m5_41 : decode jdk_52_method_5_code 41 = .ok (.iand, 1) := by decide +kernel
theorem dj52m5_42 : decode jdk_52_method_5_code 42 = .ok (.getstatic 59, 3) := by decide +kernel
theorem dj52m5_45 : decode jdk_52_method_5_code 45 = .ok (.ishl, 1) := by decide +kernel
theorem dj52m5_46 : decode jdk_52_method_5_code 46 = .ok (.aload_n 0, 1) := by decide +kernel
theorem dj52m5_47 : decode jdk_52_method_5_code 47 = .ok (.iload_n 1, 1) := by decide +kernel
theorem dj52m5_48 : decode jdk_52_method_5_code 48 = .ok (.baload, 1) := by decide +kernel
theorem dj52m5_49 : decode jdk_52_method_5_code 49 = .ok (.sipush 255, 3) := by decide +kernel
theorem dj52m5_52 : decode jdk_52_method_5_code 52 = .ok (.iand, 1) := by decide +kernel
theorem dj52m5_53 : decode jdk_52_method_5_code 53 = .ok (.getstatic 63, 3) := by decide +kernel
theorem dj52m5_56 : decode jdk_52_method_5_code 56 = .ok (.ishl, 1) := by decide +kernel
theorem dj52m5_57 : decode jdk_52_method_5_code 57 = .ok (.ior, 1) := by decide +kernel
theorem dj52m5_58 : decode jdk_52_method_5_code 58 = .ok (.i2c, 1) := by decide +kernel
theorem dj52m5_59 : decode jdk_52_method_5_code 59 = .ok (.ireturn, 1) := by decide +kernel
theorem pn_java_lang_StringUTF16 : plainName "java/lang/StringUTF16" = true := by first | (simp [plainName, overriddenIn]; done) | decide +kernel
theorem ef_RI_2 (m : MethodId) (x0 : Addr) (x1 : Int32) : entryFrame m #[(.ref x0), (.int x1)] 2 = mkF m 0 #[.val (.ref x0), .val (.int x1)] [] := by first | (simp [entryFrame, mkF, argsToLocals, Value.category]; done) | rfl
theorem dj52m7_0 : decode jdk_52_method_7_code 0 = .ok (.getstatic 44, 3) := by decide +kernel
theorem dj52m7_3 : decode jdk_52_method_7_code 3 = .ok (.ifCond .ne 16, 3) := by decide +kernel
theorem dj52m7_19 : decode jdk_52_method_7_code 19 = .ok (.iload_n 3, 1) := by decide +kernel
theorem dj52m7_20 : decode jdk_52_method_7_code 20 = .ok (.ifCond .eq 8, 3) := by decide +kernel
theorem dj52m7_28 : decode jdk_52_method_7_code 28 = .ok (.aload_n 0, 1) := by decide +kernel
theorem dj52m7_29 : decode jdk_52_method_7_code 29 = .ok (.iload_n 1, 1) := by decide +kernel
theorem dj52m7_30 : decode jdk_52_method_7_code 30 = .ok (.invokestatic 71, 3) := by decide +kernel
theorem dj52m7_33 : decode jdk_52_method_7_code 33 = .ok (.istore 4, 2) := by decide +kernel
theorem dj52m7_35 : decode jdk_52_method_7_code 35 = .ok (.iload 4, 2) := by decide +kernel
theorem dj52m7_37 : decode jdk_52_method_7_code 37 = .ok (.invokestatic 75, 3) := by decide +kernel
theorem dj52m7_40 : decode jdk_52_method_7_code 40 = .ok (.ifCond .eq 43, 3) := by decide +kernel
theorem dj52m7_43 : decode jdk_52_method_7_code 43 = .ok (.iinc 1 1, 3) := by decide +kernel
theorem dj52m7_46 : decode jdk_52_method_7_code 46 = .ok (.iload_n 1, 1) := by decide +kernel
theorem dj52m7_47 : decode jdk_52_method_7_code 47 = .ok (.iload_n 2, 1) := by decide +kernel
theorem dj52m7_48 : decode jdk_52_method_7_code 48 = .ok (.if_icmp .ge 35, 3) := by decide +kernel
theorem dj52m7_51 : decode jdk_52_method_7_code 51 = .ok (.iload_n 3, 1) := by decide +kernel
theorem dj52m7_52 : decode jdk_52_method_7_code 52 = .ok (.ifCond .eq 8, 3) := by decide +kernel
theorem dj52m7_60 : decode jdk_52_method_7_code 60 = .ok (.aload_n 0, 1) := by decide +kernel
theorem dj52m7_61 : decode jdk_52_method_7_code 61 = .ok (.iload_n 1, 1) := by decide +kernel
theorem dj52m7_62 : decode jdk_52_method_7_code 62 = .ok (.invokestatic 71, 3) := by decide +kernel
theorem dj52m7_65 : decode jdk_52_method_7_code 65 = .ok (.istore 5, 2) := by decide +kernel
theorem dj52m7_67 : decode jdk_52_method_7_code 67 = .ok (.iload 5, 2) := by decide +kernel
theorem dj52m7_69 : decode jdk_52_method_7_code 69 = .ok (.invokestatic 81, 3) := by decide +kernel
theorem dj52m7_72 : decode jdk_52_method_7_code 72 = .ok (.ifCond .eq 11, 3) := by decide +kernel
theorem dj52m7_75 : decode jdk_52_method_7_code 75 = .ok (.iload 4, 2) := by decide +kernel
theorem dj52m7_77 : decode jdk_52_method_7_code 77 = .ok (.iload 5, 2) := by decide +kernel
theorem dj52m7_79 : decode jdk_52_method_7_code 79 = .ok (.invokestatic 84, 3) := by decide +kernel
theorem dj52m7_82 : decode jdk_52_method_7_code 82 = .ok (.ireturn, 1) := by decide +kernel
theorem dj52m7_83 : decode jdk_52_method_7_code 83 = .ok (.iload 4, 2) := by decide +kernel
theorem dj52m7_85 : decode jdk_52_method_7_code 85 = .ok (.ireturn, 1) := by decide +kernel
theorem pd4 : parseMethodDescriptor "([BI)C" = some ⟨[(.array .byte), .int], some .char⟩ := by decide +kernel
theorem ef_RIII_6 (m : MethodId) (x0 : Addr) (x1 : Int32) (x2 : Int32) (x3 : Int32) : entryFrame m #[(.ref x0), (.int x1), (.int x2), (.int x3)] 6 = mkF m 0 #[.val (.ref x0), .val (.int x1), .val (.int x2), .val (.int x3), .unset, .unset] [] := by first | (simp [entryFrame, mkF, argsToLocals, Value.category]; done) | rfl
theorem dj52m8_0 : decode jdk_52_method_8_code 0 = .ok (.aload_n 0, 1) := by decide +kernel
theorem dj52m8_1 : decode jdk_52_method_8_code 1 = .ok (.iload_n 1, 1) := by decide +kernel
theorem dj52m8_2 : decode jdk_52_method_8_code 2 = .ok (.iload_n 2, 1) := by decide +kernel
theorem dj52m8_3 : decode jdk_52_method_8_code 3 = .ok (.iconst 0, 1) := by decide +kernel
theorem dj52m8_4 : decode jdk_52_method_8_code 4 = .ok (.invokestatic 88, 3) := by decide +kernel
theorem dj52m8_7 : decode jdk_52_method_8_code 7 = .ok (.ireturn, 1) := by decide +kernel
theorem pd5 : parseMethodDescriptor "([BIIZ)I" = some ⟨[(.array .byte), .int, .int, .boolean], some .int⟩ := by decide +kernel
theorem ef_RII_3 (m : MethodId) (x0 : Addr) (x1 : Int32) (x2 : Int32) : entryFrame m #[(.ref x0), (.int x1), (.int x2)] 3 = mkF m 0 #[.val (.ref x0), .val (.int x1), .val (.int x2)] [] := by first | (simp [entryFrame, mkF, argsToLocals, Value.category]; done) | rfl
theorem dj42m152_0 : decode jdk_42_method_152_code 0 = .ok (.getstatic 38, 3) := by decide +kernel
theorem dj42m152_3 : decode jdk_42_method_152_code 3 = .ok (.ifCond .eq 10, 3) := by decide +kernel
theorem dj42m152_6 : decode jdk_42_method_152_code 6 = .ok (.aload_n 0, 1) := by decide +kernel
theorem dj42m152_7 : decode jdk_42_method_152_code 7 = .ok (.getfield 15, 3) := by decide +kernel
theorem dj42m152_10 : decode jdk_42_method_152_code 10 = .ok (.goto 4, 3) := by decide +kernel
theorem dj42m152_14 : decode jdk_42_method_152_code 14 = .ok (.ireturn, 1) := by decide +kernel
theorem ef_R_1 (m : MethodId) (x0 : Addr) : entryFrame m #[(.ref x0)] 1 = mkF m 0 #[.val (.ref x0)] [] := by first | (simp [entryFrame, mkF, argsToLocals, Value.category]; done) | rfl
theorem dj42m154_0 : decode jdk_42_method_154_code 0 = .ok (.getstatic 38, 3) := by decide +kernel
theorem dj42m154_3 : decode jdk_42_method_154_code 3 = .ok (.ifCond .eq 14, 3) := by decide +kernel
theorem dj42m154_6 : decode jdk_42_method_154_code 6 = .ok (.aload_n 0, 1) := by decide +kernel
theorem dj42m154_7 : decode jdk_42_method_154_code 7 = .ok (.getfield 15, 3) := by decide +kernel
theorem dj42m154_10 : decode jdk_42_method_154_code 10 = .ok (.ifCond .ne 7, 3) := by decide +kernel
theorem dj42m154_13 : decode jdk_42_method_154_code 13 = .ok (.iconst 1, 1) := by decide +kernel
theorem dj42m154_14 : decode jdk_42_method_154_code 14 = .ok (.goto 4, 3) := by decide +kernel
theorem dj42m154_18 : decode jdk_42_method_154_code 18 = .ok (.ireturn, 1) := by decide +kernel
theorem dj42m54_0 : decode jdk_42_method_54_code 0 = .ok (.aload_n 0, 1) := by decide +kernel
theorem dj42m54_1 : decode jdk_42_method_54_code 1 = .ok (.getfield 9, 3) := by decide +kernel
theorem dj42m54_4 : decode jdk_42_method_54_code 4 = .ok (.arraylength, 1) := by decide +kernel
theorem dj42m54_5 : decode jdk_42_method_54_code 5 = .ok (.aload_n 0, 1) := by decide +kernel
theorem dj42m54_6 : decode jdk_42_method_54_code 6 = .ok (.invokevirtual 335, 3) := by decide +kernel
theorem dj42m54_9 : decode jdk_42_method_54_code 9 = .ok (.ishr, 1) := by decide +kernel
theorem dj42m54_10 : decode jdk_42_method_54_code 10 = .ok (.ireturn, 1) := by decide +kernel
theorem pd6 : parseMethodDescriptor "()B" = some ⟨[], some .byte⟩ := by decide +kernel
theorem dj42m57_0 : decode jdk_42_method_57_code 0 = .ok (.aload_n 0, 1) := by decide +kernel
theorem dj42m57_1 : decode jdk_42_method_57_code 1 = .ok (.invokevirtual 492, 3) := by decide +kernel
theorem dj42m57_4 : decode jdk_42_method_57_code 4 = .ok (.ifCond .eq 23, 3) := by decide +kernel
theorem dj42m57_7 : decode jdk_42_method_57_code 7 = .ok (.iload_n 1, 1) := by decide +kernel
theorem dj42m57_8 : decode jdk_42_method_57_code 8 = .ok (.aload_n 0, 1) := by decide +kernel
theorem dj42m57_9 : decode jdk_42_method_57_code 9 = .ok (.getfield 9, 3) := by decide +kernel
theorem dj42m57_12 : decode jdk_42_method_57_code 12 = .ok (.arraylength, 1) := by decide +kernel
theorem dj42m57_13 : decode jdk_42_method_57_code 13 = .ok (.invokestatic 499, 3) := by decide +kernel
theorem dj42m57_16 : decode jdk_42_method_57_code 16 = .ok (.aload_n 0, 1) := by decide +kernel
theorem dj42m57_17 : decode jdk_42_method_57_code 17 = .ok (.getfield 9, 3) := by decide +kernel
theorem dj42m57_20 : decode jdk_42_method_57_code 20 = .ok (.iload_n 1, 1) := by decide +kernel
theorem dj42m57_21 : decode jdk_42_method_57_code 21 = .ok (.baload, 1) := by decide +kernel
theorem dj42m57_22 : decode jdk_42_method_57_code 22 = .ok (.sipush 255, 3) := by decide +kernel
theorem dj42m57_25 : decode jdk_42_method_57_code 25 = .ok (.iand, 1) := by decide +kernel
theorem dj42m57_26 : decode jdk_42_method_57_code 26 = .ok (.ireturn, 1) := by decide +kernel
theorem pd7 : parseMethodDescriptor "()Z" = some ⟨[], some .boolean⟩ := by decide +kernel
theorem pd8 : parseMethodDescriptor "(II)V" = some ⟨[.int, .int], none⟩ := by decide +kernel
theorem ef_RI_3 (m : MethodId) (x0 : Addr) (x1 : Int32) : entryFrame m #[(.ref x0), (.int x1)] 3 = mkF m 0 #[.val (.ref x0), .val (.int x1), .unset] [] := by first | (simp [entryFrame, mkF, argsToLocals, Value.category]; done) | rfl
theorem dj42m154_17 : decode jdk_42_method_154_code 17 = .ok (.iconst 0, 1) := by decide +kernel
theorem dj42m57_27 : decode jdk_42_method_57_code 27 = .ok (.aload_n 0, 1) := by decide +kernel
theorem dj42m57_28 : decode jdk_42_method_57_code 28 = .ok (.getfield 9, 3) := by decide +kernel
theorem dj42m57_31 : decode jdk_42_method_57_code 31 = .ok (.arraylength, 1) := by decide +kernel
theorem dj42m57_32 : decode jdk_42_method_57_code 32 = .ok (.iconst 1, 1) := by decide +kernel
theorem dj42m57_33 : decode jdk_42_method_57_code 33 = .ok (.ishr, 1) := by decide +kernel
theorem dj42m57_34 : decode jdk_42_method_57_code 34 = .ok (.istore_n 2, 1) := by decide +kernel
theorem dj42m57_35 : decode jdk_42_method_57_code 35 = .ok (.iload_n 1, 1) := by decide +kernel
theorem dj42m57_36 : decode jdk_42_method_57_code 36 = .ok (.iload_n 2, 1) := by decide +kernel
theorem dj42m57_37 : decode jdk_42_method_57_code 37 = .ok (.invokestatic 499, 3) := by decide +kernel
theorem dj42m57_40 : decode jdk_42_method_57_code 40 = .ok (.aload_n 0, 1) := by decide +kernel
theorem dj42m57_41 : decode jdk_42_method_57_code 41 = .ok (.getfield 9, 3) := by decide +kernel
theorem dj42m57_44 : decode jdk_42_method_57_code 44 = .ok (.iload_n 1, 1) := by decide +kernel
theorem dj42m57_45 : decode jdk_42_method_57_code 45 = .ok (.iload_n 2, 1) := by decide +kernel
theorem dj42m57_46 : decode jdk_42_method_57_code 46 = .ok (.invokestatic 502, 3) := by decide +kernel
theorem dj42m57_49 : decode jdk_42_method_57_code 49 = .ok (.ireturn, 1) := by decide +kernel
theorem pd9 : parseMethodDescriptor "([BII)I" = some ⟨[(.array .byte), .int, .int], some .int⟩ := by decide +kernel
theorem dp25m2_0 : decode prog_25_method_2_code 0 = .ok (.iconst 0, 1) := by decide +kernel
theorem dp25m2_1 : decode prog_25_method_2_code 1 = .ok (.istore_n 2, 1) := by decide +kernel
theorem dp25m2_2 : decode prog_25_method_2_code 2 = .ok (.iload_n 2, 1) := by decide +kernel
theorem dp25m2_3 : decode prog_25_method_2_code 3 = .ok (.aload_n 0, 1) := by decide +kernel
theorem dp25m2_4 : decode prog_25_method_2_code 4 = .ok (.invokevirtual 7, 3) := by decide +kernel
theorem dp25m2_7 : decode prog_25_method_2_code 7 = .ok (.if_icmp .ge 47, 3) := by decide +kernel
theorem dp25m2_10 : decode prog_25_method_2_code 10 = .ok (.iload_n 2, 1) := by decide +kernel
theorem dp25m2_11 : decode prog_25_method_2_code 11 = .ok (.aload_n 1, 1) := by decide +kernel
theorem dp25m2_12 : decode prog_25_method_2_code 12 = .ok (.invokevirtual 7, 3) := by decide +kernel
theorem dp25m2_15 : decode prog_25_method_2_code 15 = .ok (.if_icmp .ge 39, 3) := by decide +kernel
theorem dp25m2_18 : decode prog_25_method_2_code 18 = .ok (.aload_n 0, 1) := by decide +kernel
theorem dp25m2_19 : decode prog_25_method_2_code 19 = .ok (.iload_n 2, 1) := by decide +kernel
theorem dp25m2_20 : decode prog_25_method_2_code 20 = .ok (.invokevirtual 13, 3) := by decide +kernel
theorem dp25m2_23 : decode prog_25_method_2_code 23 = .ok (.istore_n 3, 1) := by decide +kernel
theorem dp25m2_24 : decode prog_25_method_2_code 24 = .ok (.aload_n 1, 1) := by decide +kernel
theorem dp25m2_25 : decode prog_25_method_2_code 25 = .ok (.iload_n 2, 1) := by decide +kernel
theorem dp25m2_26 : decode prog_25_method_2_code 26 = .ok (.invokevirtual 13, 3) := by decide +kernel
theorem dp25m2_29 : decode prog_25_method_2_code 29 = .ok (.istore 4, 2) := by decide +kernel
theorem dp25m2_31 : decode prog_25_method_2_code 31 = .ok (.iload_n 3, 1) := by decide +kernel
theorem dp25m2_32 : decode prog_25_method_2_code 32 = .ok (.iload 4, 2) := by decide +kernel
theorem dp25m2_34 : decode prog_25_method_2_code 34 = .ok (.if_icmp .eq 10, 3) := by decide +kernel
theorem dp25m2_37 : decode prog_25_method_2_code 37 = .ok (.iload_n 3, 1) := by decide +kernel
theorem dp25m2_38 : decode prog_25_method_2_code 38 = .ok (.iload 4, 2) := by decide +kernel
theorem dp25m2_40 : decode prog_25_method_2_code 40 = .ok (.invokestatic 17, 3) := by decide +kernel
theorem dp25m2_43 : decode prog_25_method_2_code 43 = .ok (.ireturn, 1) := by decide +kernel
theorem dp25m2_44 : decode prog_25_method_2_code 44 = .ok (.iload_n 2, 1) := by decide +kernel
theorem dp25m2_45 : decode prog_25_method_2_code 45 = .ok (.iload_n 3, 1) := by decide +kernel
theorem dp25m2_46 : decode prog_25_method_2_code 46 = .ok (.invokestatic 23, 3) := by decide +kernel
theorem dp25m2_49 : decode prog_25_method_2_code 49 = .ok (.iadd, 1) := by decide +kernel
theorem dp25m2_50 : decode prog_25_method_2_code 50 = .ok (.istore_n 2, 1) := by decide +kernel
theorem dp25m2_51 : decode prog_25_method_2_code 51 = .ok (.goto (-49), 3) := by decide +kernel
theorem dp25m2_54 : decode prog_25_method_2_code 54 = .ok (.aload_n 0, 1) := by decide +kernel
theorem dp25m2_55 : decode prog_25_method_2_code 55 = .ok (.invokevirtual 7, 3) := by decide +kernel
theorem dp25m2_58 : decode prog_25_method_2_code 58 = .ok (.iload_n 2, 1) := by decide +kernel
theorem dp25m2_59 : decode prog_25_method_2_code 59 = .ok (.isub, 1) := by decide +kernel
theorem dp25m2_60 : decode prog_25_method_2_code 60 = .ok (.aload_n 1, 1) := by decide +kernel
theorem dp25m2_61 : decode prog_25_method_2_code 61 = .ok (.invokevirtual 7, 3) := by decide +kernel
theorem dp25m2_64 : decode prog_25_method_2_code 64 = .ok (.iload_n 2, 1) := by decide +kernel
theorem dp25m2_65 : decode prog_25_method_2_code 65 = .ok (.isub, 1) := by decide +kernel
theorem dp25m2_66 : decode prog_25_method_2_code 66 = .ok (.invokestatic 17, 3) := by decide +kernel
theorem dp25m2_69 : decode prog_25_method_2_code 69 = .ok (.ireturn, 1) := by decide +kernel
theorem pn_com_example_cited_experts_citedexperts_Utf8Order : plainName "com/example/cited_experts/citedexperts/Utf8Order" = true := by first | (simp [plainName, overriddenIn]; done) | decide +kernel
theorem pd10 : parseMethodDescriptor "()I" = some ⟨[], some .int⟩ := by decide +kernel
theorem pd11 : parseMethodDescriptor "(I)I" = some ⟨[.int], some .int⟩ := by decide +kernel
theorem ef_RR_5 (m : MethodId) (x0 : Addr) (x1 : Addr) : entryFrame m #[(.ref x0), (.ref x1)] 5 = mkF m 0 #[.val (.ref x0), .val (.ref x1), .unset, .unset, .unset] [] := by first | (simp [entryFrame, mkF, argsToLocals, Value.category]; done) | rfl
theorem dj42m149_0 : decode jdk_42_method_149_code 0 = .ok (.aload_n 0, 1) := by decide +kernel
theorem dj42m149_1 : decode jdk_42_method_149_code 1 = .ok (.invokespecial 1, 3) := by decide +kernel
theorem dj42m149_4 : decode jdk_42_method_149_code 4 = .ok (.iload_n 3, 1) := by decide +kernel
theorem dj42m149_5 : decode jdk_42_method_149_code 5 = .ok (.ifCond .ne 22, 3) := by decide +kernel
theorem dj42m149_8 : decode jdk_42_method_149_code 8 = .ok (.aload_n 0, 1) := by decide +kernel
theorem dj42m149_9 : decode jdk_42_method_149_code 9 = .ok (.ldc 7, 2) := by decide +kernel
theorem dj42m149_11 : decode jdk_42_method_149_code 11 = .ok (.getfield 9, 3) := by decide +kernel
theorem dj42m149_14 : decode jdk_42_method_149_code 14 = .ok (.putfield 9, 3) := by decide +kernel
theorem dj42m149_17 : decode jdk_42_method_149_code 17 = .ok (.aload_n 0, 1) := by decide +kernel
theorem dj42m149_18 : decode jdk_42_method_149_code 18 = .ok (.ldc 7, 2) := by decide +kernel
theorem dj42m149_20 : decode jdk_42_method_149_code 20 = .ok (.getfield 15, 3) := by decide +kernel
theorem dj42m149_23 : decode jdk_42_method_149_code 23 = .ok (.putfield 15, 3) := by decide +kernel
theorem dj42m149_26 : decode jdk_42_method_149_code 26 = .ok (.return_, 1) := by decide +kernel
theorem ef_RRIIN_6 (m : MethodId) (x0 : Addr) (x1 : Addr) (x2 : Int32) (x3 : Int32) : entryFrame m #[(.ref x0), (.ref x1), (.int x2), (.int x3), .null] 6 = mkF m 0 #[.val (.ref x0), .val (.ref x1), .val (.int x2), .val (.int x3), .val .null, .unset] [] := by first | (simp [entryFrame, mkF, argsToLocals, Value.category]; done) | rfl
theorem dj42m3_0 : decode jdk_42_method_3_code 0 = .ok (.aload_n 0, 1) := by decide +kernel
theorem dj42m3_1 : decode jdk_42_method_3_code 1 = .ok (.aload_n 1, 1) := by decide +kernel
theorem dj42m3_2 : decode jdk_42_method_3_code 2 = .ok (.iconst 0, 1) := by decide +kernel
theorem dj42m3_3 : decode jdk_42_method_3_code 3 = .ok (.aload_n 1, 1) := by decide +kernel
theorem dj42m3_4 : decode jdk_42_method_3_code 4 = .ok (.arraylength, 1) := by decide +kernel
theorem dj42m3_5 : decode jdk_42_method_3_code 5 = .ok (.aconst_null, 1) := by decide +kernel
theorem dj42m3_6 : decode jdk_42_method_3_code 6 = .ok (.invokespecial 27, 3) := by decide +kernel
theorem dj42m3_9 : decode jdk_42_method_3_code 9 = .ok (.return_, 1) := by decide +kernel
theorem pd12 : parseMethodDescriptor "([CIILjava/lang/Void;)V" = some ⟨[(.array .char), .int, .int, (.object "java/lang/Void")], none⟩ := by decide +kernel
theorem ef_RR_2 (m : MethodId) (x0 : Addr) (x1 : Addr) : entryFrame m #[(.ref x0), (.ref x1)] 2 = mkF m 0 #[.val (.ref x0), .val (.ref x1)] [] := by first | (simp [entryFrame, mkF, argsToLocals, Value.category]; done) | rfl
theorem dj52m21_0 : decode jdk_52_method_21_code 0 = .ok (.iconst 0, 1) := by decide +kernel
theorem dj52m21_1 : decode jdk_52_method_21_code 1 = .ok (.istore 5, 2) := by decide +kernel
theorem dj52m21_3 : decode jdk_52_method_21_code 3 = .ok (.iload 5, 2) := by decide +kernel
theorem dj52m21_5 : decode jdk_52_method_21_code 5 = .ok (.iload 4, 2) := by decide +kernel
theorem dj52m21_7 : decode jdk_52_method_21_code 7 = .ok (.if_icmp .ge 37, 3) := by decide +kernel
theorem dj52m21_10 : decode jdk_52_method_21_code 10 = .ok (.aload_n 0, 1) := by decide +kernel
theorem dj52m21_11 : decode jdk_52_method_21_code 11 = .ok (.iload_n 1, 1) := by decide +kernel
theorem dj52m21_12 : decode jdk_52_method_21_code 12 = .ok (.caload, 1) := by decide +kernel
theorem dj52m21_13 : decode jdk_52_method_21_code 13 = .ok (.istore 6, 2) := by decide +kernel
theorem dj52m21_15 : decode jdk_52_method_21_code 15 = .ok (.iload 6, 2) := by decide +kernel
theorem dj52m21_17 : decode jdk_52_method_21_code 17 = .ok (.sipush 255, 3) := by decide +kernel
theorem dj52m21_20 : decode jdk_52_method_21_code 20 = .ok (.if_icmp .le 6, 3) := by decide +kernel
theorem dj52m21_23 : decode jdk_52_method_21_code 23 = .ok (.iload 5, 2) := by decide +kernel
theorem dj52m21_25 : decode jdk_52_method_21_code 25 = .ok (.ireturn, 1) := by decide +kernel
theorem dj52m21_26 : decode jdk_52_method_21_code 26 = .ok (.aload_n 2, 1) := by decide +kernel
theorem dj52m21_27 : decode jdk_52_method_21_code 27 = .ok (.iload_n 3, 1) := by decide +kernel
theorem dj52m21_28 : decode jdk_52_method_21_code 28 = .ok (.iload 6, 2) := by decide +kernel
theorem dj52m21_30 : decode jdk_52_method_21_code 30 = .ok (.i2b, 1) := by decide +kernel
theorem dj52m21_31 : decode jdk_52_method_21_code 31 = .ok (.bastore, 1) := by decide +kernel
theorem dj52m21_32 : decode jdk_52_method_21_code 32 = .ok (.iinc 1 1, 3) := by decide +kernel
theorem dj52m21_35 : decode jdk_52_method_21_code 35 = .ok (.iinc 3 1, 3) := by decide +kernel
theorem dj52m21_38 : decode jdk_52_method_21_code 38 = .ok (.iinc 5 1, 3) := by decide +kernel
theorem dj52m21_41 : decode jdk_52_method_21_code 41 = .ok (.goto (-38), 3) := by decide +kernel
theorem dj52m21_44 : decode jdk_52_method_21_code 44 = .ok (.iload 4, 2) := by decide +kernel
theorem dj52m21_46 : decode jdk_52_method_21_code 46 = .ok (.ireturn, 1) := by decide +kernel
theorem ef_RIRII_7 (m : MethodId) (x0 : Addr) (x1 : Int32) (x2 : Addr) (x3 : Int32) (x4 : Int32) : entryFrame m #[(.ref x0), (.int x1), (.ref x2), (.int x3), (.int x4)] 7 = mkF m 0 #[.val (.ref x0), .val (.int x1), .val (.ref x2), .val (.int x3), .val (.int x4), .unset, .unset] [] := by first | (simp [entryFrame, mkF, argsToLocals, Value.category]; done) | rfl
theorem dj52m3_0 : decode jdk_52_method_3_code 0 = .ok (.iload_n 0, 1) := by decide +kernel
theorem dj52m3_1 : decode jdk_52_method_3_code 1 = .ok (.ifCond .ge 11, 3) := by decide +kernel
theorem dj52m3_12 : decode jdk_52_method_3_code 12 = .ok (.iload_n 0, 1) := by decide +kernel
theorem dj52m3_13 : decode jdk_52_method_3_code 13 = .ok (.ldc 20, 2) := by decide +kernel
theorem dj52m3_15 : decode jdk_52_method_3_code 15 = .ok (.if_icmp .lt 40, 3) := by decide +kernel
theorem dj52m3_55 : decode jdk_52_method_3_code 55 = .ok (.iload_n 0, 1) := by decide +kernel
theorem dj52m3_56 : decode jdk_52_method_3_code 56 = .ok (.iconst 1, 1) := by decide +kernel
theorem dj52m3_57 : decode jdk_52_method_3_code 57 = .ok (.ishl, 1) := by decide +kernel
theorem dj52m3_58 : decode jdk_52_method_3_code 58 = .ok (.ireturn, 1) := by decide +kernel
theorem dj52m2_0 : decode jdk_52_method_2_code 0 = .ok (.iload_n 0, 1) := by decide +kernel
theorem dj52m2_1 : decode jdk_52_method_2_code 1 = .ok (.invokestatic 11, 3) := by decide +kernel
theorem dj52m2_4 : decode jdk_52_method_2_code 4 = .ok (.newarray .byte, 2) := by decide +kernel
theorem dj52m2_6 : decode jdk_52_method_2_code 6 = .ok (.areturn, 1) := by decide +kernel
theorem dj52m4_0 : decode jdk_52_method_4_code 0 = .ok (.getstatic 44, 3) := by decide +kernel
theorem dj52m4_3 : decode jdk_52_method_4_code 3 = .ok (.ifCond .ne 25, 3) := by decide +kernel
theorem dj52m4_28 : decode jdk_52_method_4_code 28 = .ok (.iload_n 1, 1) := by decide +kernel
theorem dj52m4_29 : decode jdk_52_method_4_code 29 = .ok (.iconst 1, 1) := by decide +kernel
theorem dj52m4_30 : decode jdk_52_method_4_code 30 = .ok (.ishl, 1) := by decide +kernel
theorem dj52m4_31 : decode jdk_52_method_4_code 31 = .ok (.istore_n 1, 1) := by decide +kernel
theorem dj52m4_32 : decode jdk_52_method_4_code 32 = .ok (.aload_n 0, 1) := by decide +kernel
theorem dj52m4_33 : decode jdk_52_method_4_code 33 = .ok (.iload_n 1, 1) := by decide +kernel
theorem dj52m4_34 : decode jdk_52_method_4_code 34 = .ok (.iinc 1 1, 3) := by decide +kernel
theorem dj52m4_37 : decode jdk_52_method_4_code 37 = .ok (.iload_n 2, 1) := by decide +kernel
theorem dj52m4_38 : decode jdk_52_method_4_code 38 = .ok (.getstatic 59, 3) := by decide +kernel
theorem dj52m4_41 : decode jdk_52_method_4_code 41 = .ok (.ishr, 1) := by decide +kernel
theorem dj52m4_42 : decode jdk_52_method_4_code 42 = .ok (.i2b, 1) := by decide +kernel
theorem dj52m4_43 : decode jdk_52_method_4_code 43 = .ok (.bastore, 1) := by decide +kernel
theorem dj52m4_44 : decode jdk_52_method_4_code 44 = .ok (.aload_n 0, 1) := by decide +kernel
theorem dj52m4_45 : decode jdk_52_method_4_code 45 = .ok (.iload_n 1, 1) := by decide +kernel
theorem dj52m4_46 : decode jdk_52_method_4_code 46 = .ok (.iload_n 2, 1) := by decide +kernel
theorem dj52m4_47 : decode jdk_52_method_4_code 47 = .ok (.getstatic 63, 3) := by decide +kernel
theorem dj52m4_50 : decode jdk_52_method_4_code 50 = .ok (.ishr, 1) := by decide +kernel
theorem dj52m4_51 : decode jdk_52_method_4_code 51 = .ok (.i2b, 1) := by decide +kernel
theorem dj52m4_52 : decode jdk_52_method_4_code 52 = .ok (.bastore, 1) := by decide +kernel
theorem dj52m4_53 : decode jdk_52_method_4_code 53 = .ok (.return_, 1) := by decide +kernel
theorem dj52m14_0 : decode jdk_52_method_14_code 0 = .ok (.iload_n 2, 1) := by decide +kernel
theorem dj52m14_1 : decode jdk_52_method_14_code 1 = .ok (.invokestatic 107, 3) := by decide +kernel
theorem dj52m14_4 : decode jdk_52_method_14_code 4 = .ok (.astore_n 3, 1) := by decide +kernel
theorem dj52m14_5 : decode jdk_52_method_14_code 5 = .ok (.iconst 0, 1) := by decide +kernel
theorem dj52m14_6 : decode jdk_52_method_14_code 6 = .ok (.istore 4, 2) := by decide +kernel
theorem dj52m14_8 : decode jdk_52_method_14_code 8 = .ok (.iload 4, 2) := by decide +kernel
theorem dj52m14_10 : decode jdk_52_method_14_code 10 = .ok (.iload_n 2, 1) := by decide +kernel
theorem dj52m14_11 : decode jdk_52_method_14_code 11 = .ok (.if_icmp .ge 21, 3) := by decide +kernel
theorem dj52m14_14 : decode jdk_52_method_14_code 14 = .ok (.aload_n 3, 1) := by decide +kernel
theorem dj52m14_15 : decode jdk_52_method_14_code 15 = .ok (.iload 4, 2) := by decide +kernel
theorem dj52m14_17 : decode jdk_52_method_14_code 17 = .ok (.aload_n 0, 1) := by decide +kernel
theorem dj52m14_18 : decode jdk_52_method_14_code 18 = .ok (.iload_n 1, 1) := by decide +kernel
theorem dj52m14_19 : decode jdk_52_method_14_code 19 = .ok (.caload, 1) := by decide +kernel
theorem dj52m14_20 : decode jdk_52_method_14_code 20 = .ok (.invokestatic 111, 3) := by decide +kernel
theorem dj52m14_23 : decode jdk_52_method_14_code 23 = .ok (.iinc 1 1, 3) := by decide +kernel
theorem dj52m14_26 : decode jdk_52_method_14_code 26 = .ok (.iinc 4 1, 3) := by decide +kernel
theorem dj52m14_29 : decode jdk_52_method_14_code 29 = .ok (.goto (-21), 3) := by decide +kernel
theorem dj52m14_32 : decode jdk_52_method_14_code 32 = .ok (.aload_n 3, 1) := by decide +kernel
theorem dj52m14_33 : decode jdk_52_method_14_code 33 = .ok (.areturn, 1) := by decide +kernel
theorem pd13 : parseMethodDescriptor "(I)[B" = some ⟨[.int], some (.array .byte)⟩ := by decide +kernel
theorem pd14 : parseMethodDescriptor "([BII)V" = some ⟨[(.array .byte), .int, .int], none⟩ := by decide +kernel
theorem ef_RII_5 (m : MethodId) (x0 : Addr) (x1 : Int32) (x2 : Int32) : entryFrame m #[(.ref x0), (.int x1), (.int x2)] 5 = mkF m 0 #[.val (.ref x0), .val (.int x1), .val (.int x2), .unset, .unset] [] := by first | (simp [entryFrame, mkF, argsToLocals, Value.category]; done) | rfl
theorem dj52m16_0 : decode jdk_52_method_16_code 0 = .ok (.iload_n 2, 1) := by decide +kernel
theorem dj52m16_1 : decode jdk_52_method_16_code 1 = .ok (.newarray .byte, 2) := by decide +kernel
theorem dj52m16_3 : decode jdk_52_method_16_code 3 = .ok (.astore_n 3, 1) := by decide +kernel
theorem dj52m16_4 : decode jdk_52_method_16_code 4 = .ok (.aload_n 0, 1) := by decide +kernel
theorem dj52m16_5 : decode jdk_52_method_16_code 5 = .ok (.iload_n 1, 1) := by decide +kernel
theorem dj52m16_6 : decode jdk_52_method_16_code 6 = .ok (.aload_n 3, 1) := by decide +kernel
theorem dj52m16_7 : decode jdk_52_method_16_code 7 = .ok (.iconst 0, 1) := by decide +kernel
theorem dj52m16_8 : decode jdk_52_method_16_code 8 = .ok (.iload_n 2, 1) := by decide +kernel
theorem dj52m16_9 : decode jdk_52_method_16_code 9 = .ok (.invokestatic 115, 3) := by decide +kernel
theorem dj52m16_12 : decode jdk_52_method_16_code 12 = .ok (.istore 4, 2) := by decide +kernel
theorem dj52m16_14 : decode jdk_52_method_16_code 14 = .ok (.iload 4, 2) := by decide +kernel
theorem dj52m16_16 : decode jdk_52_method_16_code 16 = .ok (.iload_n 2, 1) := by decide +kernel
theorem dj52m16_17 : decode jdk_52_method_16_code 17 = .ok (.if_icmp .eq 40, 3) := by decide +kernel
theorem dj52m16_20 : decode jdk_52_method_16_code 20 = .ok (.aload_n 0, 1) := by decide +kernel
theorem dj52m16_21 : decode jdk_52_method_16_code 21 = .ok (.iload_n 1, 1) := by decide +kernel
theorem dj52m16_22 : decode jdk_52_method_16_code 22 = .ok (.iload_n 2, 1) := by decide +kernel
theorem dj52m16_23 : decode jdk_52_method_16_code 23 = .ok (.invokestatic 119, 3) := by decide +kernel
theorem dj52m16_26 : decode jdk_52_method_16_code 26 = .ok (.astore 5, 2) := by decide +kernel
theorem dj52m16_28 : decode jdk_52_method_16_code 28 = .ok (.aload 5, 2) := by decide +kernel
theorem dj52m16_30 : decode jdk_52_method_16_code 30 = .ok (.iload 4, 2) := by decide +kernel
theorem dj52m16_32 : decode jdk_52_method_16_code 32 = .ok (.invokestatic 71, 3) := by decide +kernel
theorem dj52m16_35 : decode jdk_52_method_16_code 35 = .ok (.sipush 255, 3) := by decide +kernel
theorem dj52m16_38 : decode jdk_52_method_16_code 38 = .ok (.if_icmp .gt 16, 3) := by decide +kernel
theorem dj52m16_54 : decode jdk_52_method_16_code 54 = .ok (.aload 5, 2) := by decide +kernel
theorem dj52m16_56 : decode jdk_52_method_16_code 56 = .ok (.areturn, 1) := by decide +kernel
theorem dj52m16_57 : decode jdk_52_method_16_code 57 = .ok (.aload_n 3, 1) := by decide +kernel
theorem dj52m16_58 : decode jdk_52_method_16_code 58 = .ok (.areturn, 1) := by decide +kernel
theorem pd15 : parseMethodDescriptor "([CI[BII)I" = some ⟨[(.array .char), .int, (.array .byte), .int, .int], some .int⟩ := by decide +kernel
theorem pd16 : parseMethodDescriptor "([CII)[B" = some ⟨[(.array .char), .int, .int], some (.array .byte)⟩ := by decide +kernel
theorem ef_RII_6 (m : MethodId) (x0 : Addr) (x1 : Int32) (x2 : Int32) : entryFrame m #[(.ref x0), (.int x1), (.int x2)] 6 = mkF m 0 #[.val (.ref x0), .val (.int x1), .val (.int x2), .unset, .unset, .unset] [] := by first | (simp [entryFrame, mkF, argsToLocals, Value.category]; done) | rfl
theorem dj52m15_0 : decode jdk_52_method_15_code 0 = .ok (.iload_n 1, 1) := by decide +kernel
theorem dj52m15_1 : decode jdk_52_method_15_code 1 = .ok (.aload_n 0, 1) := by decide +kernel
theorem dj52m15_2 : decode jdk_52_method_15_code 2 = .ok (.arraylength, 1) := by decide +kernel
theorem dj52m15_3 : decode jdk_52_method_15_code 3 = .ok (.isub, 1) := by decide +kernel
theorem dj52m15_4 : decode jdk_52_method_15_code 4 = .ok (.bipush 31, 2) := by decide +kernel
theorem dj52m15_6 : decode jdk_52_method_15_code 6 = .ok (.iushr, 1) := by decide +kernel
theorem dj52m15_7 : decode jdk_52_method_15_code 7 = .ok (.i2b, 1) := by decide +kernel
theorem dj52m15_8 : decode jdk_52_method_15_code 8 = .ok (.ireturn, 1) := by decide +kernel
theorem dj42m149_27 : decode jdk_42_method_149_code 27 = .ok (.getstatic 38, 3) := by decide +kernel
theorem dj42m149_30 : decode jdk_42_method_149_code 30 = .ok (.ifCond .eq 28, 3) := by decide +kernel
theorem dj42m149_33 : decode jdk_42_method_149_code 33 = .ok (.aload_n 1, 1) := by decide +kernel
theorem dj42m149_34 : decode jdk_42_method_149_code 34 = .ok (.iload_n 2, 1) := by decide +kernel
theorem dj42m149_35 : decode jdk_42_method_149_code 35 = .ok (.iload_n 3, 1) := by decide +kernel
theorem dj42m149_36 : decode jdk_42_method_149_code 36 = .ok (.invokestatic 177, 3) := by decide +kernel
theorem dj42m149_39 : decode jdk_42_method_149_code 39 = .ok (.astore 5, 2) := by decide +kernel
theorem dj42m149_41 : decode jdk_42_method_149_code 41 = .ok (.aload_n 0, 1) := by decide +kernel
theorem dj42m149_42 : decode jdk_42_method_149_code 42 = .ok (.aload 5, 2) := by decide +kernel
theorem dj42m149_44 : decode jdk_42_method_149_code 44 = .ok (.iload_n 3, 1) := by decide +kernel
theorem dj42m149_45 : decode jdk_42_method_149_code 45 = .ok (.invokestatic 47, 3) := by decide +kernel
theorem dj42m149_48 : decode jdk_42_method_149_code 48 = .ok (.putfield 15, 3) := by decide +kernel
theorem dj42m149_51 : decode jdk_42_method_149_code 51 = .ok (.aload_n 0, 1) := by decide +kernel
theorem dj42m149_52 : decode jdk_42_method_149_code 52 = .ok (.aload 5, 2) := by decide +kernel
theorem dj42m149_54 : decode jdk_42_method_149_code 54 = .ok (.putfield 9, 3) := by decide +kernel
theorem dj42m149_57 : decode jdk_42_method_149_code 57 = .ok (.return_, 1) := by decide +kernel
theorem pd17 : parseMethodDescriptor "([BI)B" = some ⟨[(.array .byte), .int], some .byte⟩ := by decide +kernel
theorem dq6_0 : decode method_6_code 0 = .ok (.iload_n 3, 1) := by decide +kernel
theorem dq6_1 : decode method_6_code 1 = .ok (.ifCond .ne 14, 3) := by decide +kernel
theorem dq6_4 : decode method_6_code 4 = .ok (.new 17, 3) := by decide +kernel
theorem dq6_7 : decode method_6_code 7 = .ok (.dup, 1) := by decide +kernel
theorem dq6_8 : decode method_6_code 8 = .ok (.iconst 0, 1) := by decide +kernel
theorem dq6_9 : decode method_6_code 9 = .ok (.newarray .char, 2) := by decide +kernel
theorem dq6_11 : decode method_6_code 11 = .ok (.invokespecial 19, 3) := by decide +kernel
theorem dq6_14 : decode method_6_code 14 = .ok (.areturn, 1) := by decide +kernel
theorem dq6_15 : decode method_6_code 15 = .ok (.iload_n 3, 1) := by decide +kernel
theorem dq6_16 : decode method_6_code 16 = .ok (.iconst 1, 1) := by decide +kernel
theorem dq6_17 : decode method_6_code 17 = .ok (.if_icmp .ne 23, 3) := by decide +kernel
theorem dq6_20 : decode method_6_code 20 = .ok (.iconst 1, 1) := by decide +kernel
theorem dq6_21 : decode method_6_code 21 = .ok (.newarray .char, 2) := by decide +kernel
theorem dq6_23 : decode method_6_code 23 = .ok (.astore 4, 2) := by decide +kernel
theorem dq6_25 : decode method_6_code 25 = .ok (.aload 4, 2) := by decide +kernel
theorem dq6_27 : decode method_6_code 27 = .ok (.iconst 0, 1) := by decide +kernel
theorem dq6_28 : decode method_6_code 28 = .ok (.iload_n 0, 1) := by decide +kernel
theorem dq6_29 : decode method_6_code 29 = .ok (.castore, 1) := by decide +kernel
theorem dq6_30 : decode method_6_code 30 = .ok (.new 17, 3) := by decide +kernel
theorem dq6_33 : decode method_6_code 33 = .ok (.dup, 1) := by decide +kernel
theorem dq6_34 : decode method_6_code 34 = .ok (.aload 4, 2) := by decide +kernel
theorem dq6_36 : decode method_6_code 36 = .ok (.invokespecial 19, 3) := by decide +kernel
theorem dq6_39 : decode method_6_code 39 = .ok (.areturn, 1) := by decide +kernel
theorem dq6_40 : decode method_6_code 40 = .ok (.iload_n 3, 1) := by decide +kernel
theorem dq6_41 : decode method_6_code 41 = .ok (.iconst 2, 1) := by decide +kernel
theorem dq6_42 : decode method_6_code 42 = .ok (.if_icmp .ne 28, 3) := by decide +kernel
theorem dq6_45 : decode method_6_code 45 = .ok (.iconst 2, 1) := by decide +kernel
theorem dq6_46 : decode method_6_code 46 = .ok (.newarray .char, 2) := by decide +kernel
theorem dq6_48 : decode method_6_code 48 = .ok (.astore 4, 2) := by decide +kernel
theorem dq6_50 : decode method_6_code 50 = .ok (.aload 4, 2) := by decide +kernel
theorem dq6_52 : decode method_6_code 52 = .ok (.iconst 0, 1) := by decide +kernel
theorem dq6_53 : decode method_6_code 53 = .ok (.iload_n 0, 1) := by decide +kernel
theorem dq6_54 : decode method_6_code 54 = .ok (.castore, 1) := by decide +kernel
theorem dq6_55 : decode method_6_code 55 = .ok (.aload 4, 2) := by decide +kernel
theorem dq6_57 : decode method_6_code 57 = .ok (.iconst 1, 1) := by decide +kernel
theorem dq6_58 : decode method_6_code 58 = .ok (.iload_n 1, 1) := by decide +kernel
theorem dq6_59 : decode method_6_code 59 = .ok (.castore, 1) := by decide +kernel
theorem dq6_60 : decode method_6_code 60 = .ok (.new 17, 3) := by decide +kernel
theorem dq6_63 : decode method_6_code 63 = .ok (.dup, 1) := by decide +kernel
theorem dq6_64 : decode method_6_code 64 = .ok (.aload 4, 2) := by decide +kernel
theorem dq6_66 : decode method_6_code 66 = .ok (.invokespecial 19, 3) := by decide +kernel
theorem dq6_69 : decode method_6_code 69 = .ok (.areturn, 1) := by decide +kernel
theorem dq6_70 : decode method_6_code 70 = .ok (.iconst 3, 1) := by decide +kernel
theorem dq6_71 : decode method_6_code 71 = .ok (.newarray .char, 2) := by decide +kernel
theorem dq6_73 : decode method_6_code 73 = .ok (.astore 4, 2) := by decide +kernel
theorem dq6_75 : decode method_6_code 75 = .ok (.aload 4, 2) := by decide +kernel
theorem dq6_77 : decode method_6_code 77 = .ok (.iconst 0, 1) := by decide +kernel
theorem dq6_78 : decode method_6_code 78 = .ok (.iload_n 0, 1) := by decide +kernel
theorem dq6_79 : decode method_6_code 79 = .ok (.castore, 1) := by decide +kernel
theorem dq6_80 : decode method_6_code 80 = .ok (.aload 4, 2) := by decide +kernel
theorem dq6_82 : decode method_6_code 82 = .ok (.iconst 1, 1) := by decide +kernel
theorem dq6_83 : decode method_6_code 83 = .ok (.iload_n 1, 1) := by decide +kernel
theorem dq6_84 : decode method_6_code 84 = .ok (.castore, 1) := by decide +kernel
theorem dq6_85 : decode method_6_code 85 = .ok (.aload 4, 2) := by decide +kernel
theorem dq6_87 : decode method_6_code 87 = .ok (.iconst 2, 1) := by decide +kernel
theorem dq6_88 : decode method_6_code 88 = .ok (.iload_n 2, 1) := by decide +kernel
theorem dq6_89 : decode method_6_code 89 = .ok (.castore, 1) := by decide +kernel
theorem dq6_90 : decode method_6_code 90 = .ok (.new 17, 3) := by decide +kernel
theorem dq6_93 : decode method_6_code 93 = .ok (.dup, 1) := by decide +kernel
theorem dq6_94 : decode method_6_code 94 = .ok (.aload 4, 2) := by decide +kernel
theorem dq6_96 : decode method_6_code 96 = .ok (.invokespecial 19, 3) := by decide +kernel
theorem dq6_99 : decode method_6_code 99 = .ok (.areturn, 1) := by decide +kernel
theorem pd18 : parseMethodDescriptor "([C)V" = some ⟨[(.array .char)], none⟩ := by decide +kernel
theorem pd19 : parseMethodDescriptor "(J)C" = some ⟨[.long], some .char⟩ := by decide +kernel
theorem pd20 : parseMethodDescriptor "(CCCI)Ljava/lang/String;" = some ⟨[.char, .char, .char, .int], some (.object "java/lang/String")⟩ := by decide +kernel
theorem pd21 : parseMethodDescriptor "(Ljava/lang/String;Ljava/lang/String;)I" = some ⟨[(.object "java/lang/String"), (.object "java/lang/String")], some .int⟩ := by decide +kernel
theorem pd22 : parseMethodDescriptor "(CCCI)[I" = some ⟨[.char, .char, .char, .int], some (.array .int)⟩ := by decide +kernel
theorem pd23 : parseMethodDescriptor "([I[I)I" = some ⟨[(.array .int), (.array .int)], some .int⟩ := by decide +kernel
theorem ef_JJ_maxLocals (m : MethodId) (x0 : Int64) (x1 : Int64) : entryFrame m #[(.long x0), (.long x1)] maxLocals = mkF m 0 #[.val (.long x0), .second, .val (.long x1), .second, .unset, .unset, .unset, .unset, .unset, .unset, .unset, .unset, .unset, .unset, .unset, .unset] [] := by first | (simp [entryFrame, mkF, argsToLocals, Value.category, maxLocals]; done) | rfl
/-! the wide end: String constants may have been loaded meanwhile -/
def own_FW (Z : State) (EL : List (String × Nat)) (s : State) (h0 : Heap) (Q : Option Value → Heap → List Loc → Prop) (k n : Nat) : State → Outcome → Prop :=
  fun s₂ o => ∃ v L, o = .returned v ∧ Q v s₂.heap L ∧ CHr Z EL s.vm h0 s₂.vm s₂.heap ∧ ReturnedEndW s o s₂ L k n
/-- what a wide walk bears along, at the tables vm0 and the heap h -/
def own_Wd (Z : State) (a0 : Array Value) (EL : List (String × Nat)) (s : State) (h0 : Heap) (vm0 : Vm) (h : Heap) : Prop :=
  ∃ k0, s.Since vm0 k0 ∧ k0 ≤ h.size ∧ Z.Warmed39 vm0 ∧ EW Z a0 EL ∧ CHr Z EL s.vm h0 vm0 h
section OwnWide
variable {p : Program} {l : Launch} {e : Env} {R : Room} {s : State} {m : MethodId} {args : Array Value} {below : List Frame} {meth : Method} {c : Code} {T : State} {locs : List Loc} {cells slots : Nat} {Q : Option Value → Heap → List Loc → Prop} {k n : Nat}
variable {Z : State} {a0 : Array Value} {EL : List (String × Nat)} {h0 h h' : Heap} {vm0 vm1 : Vm}
theorem own_Wd.start (hZ : Z.Warmed39 s.vm) (hE : EW Z a0 EL) (hC : CHv Z EL s.vm h0) : own_Wd Z a0 EL s h0 s.vm h0 := ⟨0, (State.WarmedH.refl s).since 0, Nat.zero_le _, hZ, hE, CHr.refl hC⟩
theorem own_Wd.hZ (W : own_Wd Z a0 EL s h0 vm0 h) : Z.Warmed39 vm0 := by obtain ⟨_, _, _, q, _⟩ := W; exact q
theorem own_Wd.hE (W : own_Wd Z a0 EL s h0 vm0 h) : EW Z a0 EL := by obtain ⟨_, _, _, _, q, _⟩ := W; exact q
theorem own_Wd.chr (W : own_Wd Z a0 EL s h0 vm0 h) : CHr Z EL s.vm h0 vm0 h := by obtain ⟨_, _, _, _, _, q⟩ := W; exact q
theorem own_Wd.chv (W : own_Wd Z a0 EL s h0 vm0 h) : CHv Z EL vm0 h := W.chr.1
theorem own_Wd.ext (W : own_Wd Z a0 EL s h0 vm0 h) (E : Ext h h') : own_Wd Z a0 EL s h0 vm0 h' := by
  obtain ⟨k0, a, b, c, d, q⟩ := W
  exact ⟨k0, a, Nat.le_trans b E.1, c, d, q.trans (CHr.ext E q.1)⟩
theorem own_Wd.wr {a : Addr} {sl : Nat} {v : Value} (W : own_Wd Z a0 EL s h0 vm0 h) (w : Wr h h' a sl v) (S : Safe Z EL vm0 h a) : own_Wd Z a0 EL s h0 vm0 h' := by
  obtain ⟨k0, a, b, c, d, q⟩ := W
  exact ⟨k0, a, Nat.le_trans b (Nat.le_of_eq w.size.symm), c, d, q.trans (CHr.wr w S q.1)⟩
theorem own_Wd.keep {ws : List Addr} (W : own_Wd Z a0 EL s h0 vm0 h) (K : Keep h h' ws) (hs : ∀ x ∈ ws, Safe Z EL vm0 h x) : own_Wd Z a0 EL s h0 vm0 h' := by
  obtain ⟨k0, a, b, c, d, q⟩ := W
  exact ⟨k0, a, Nat.le_trans b K.1, c, d, q.trans (CHr.keep K hs q.1)⟩
theorem own_Wd.call {U : State} (W : own_Wd Z a0 EL s h0 vm0 h) (hS : (s.setVm vm0).Since U.vm U.heap.size) (C : CHr Z EL vm0 h U.vm U.heap) : own_Wd Z a0 EL s h0 U.vm U.heap := by
  obtain ⟨k0, a, b, c, d, q⟩ := W
  exact ⟨_, a.trans hS (Nat.le_trans b C.2.1), Nat.le_refl _, State.Warmed39.trans (t := s.setVm vm0) c hS.1, d, q.trans C⟩
theorem own_since_own {own : String} {U : State} {c : ClassId} (hS : (s.setVm vm0).Since U.vm n) (hown : vm0.findClass own = some c) : U.vm.findClass own = some c := (hS.1.alike.findClass _ _).trans hown
theorem own_startW {A B : State} (hh : s.heap = h0) (g1 : ∀ t, Steps p.tables e below B t → Steps p.tables e below A t) (g : own_Goes p e below (own_FW Z EL s h0 Q k n) B) :
    ∃ s₂ o, Steps p.tables e below A s₂ ∧ s₂.status = .running ∧ Ended s₂ below o ∧ ∃ v L, o = .returned v ∧ Q v s₂.heap L ∧ CHr Z EL s.vm s.heap s₂.vm s₂.heap ∧ ReturnedEndW s o s₂ L k n := by
  subst hh; exact own_to g1 g
theorem own_REW {s t : State} {o : Outcome} {L : List Loc} {k k' n n' : Nat} (h : ReturnedEndW s o t L k n) (hk : k ≤ k') (hn : n ≤ n') : ReturnedEndW s o t L k' n' := ⟨h.1, h.2.1, h.2.2.1, h.2.2.2.mono hk hn⟩
theorem own_leaveW (X : Stand p l e R (s.setVm vm0) m args below meth c T locs cells slots) (eT : T.heap = h) (W : own_Wd Z a0 EL s h0 vm0 h) (hlk : meth.locks = false) (hk : cells ≤ k) (hn : slots ≤ n) {v : Option Value} (hv : meth.sig.returnType = none → v = none) (hQ : Q v h locs) :
    ∃ fs, (∀ (f : JFrame) (acts : List Action), f.method = m → f.locked = none → f.entered = [] → (doReturn e (T.setTop f) acts v).1 = T.setFrames fs) ∧ (T.setFrames fs).status = .running ∧ Ended (T.setFrames fs) below (.returned v) ∧ own_FW Z EL s h0 Q k n (T.setFrames fs) (.returned v) := by
  subst eT
  obtain ⟨k0, hS, hk0, hZ, hE, hC⟩ := W
  obtain ⟨fs, h1, h2, h3, h4⟩ := X.leaveW hS hk0 hv hlk
  exact ⟨fs, h1, h2, h3, v, locs, rfl, hQ, hC.trans (show CHr Z EL vm0 T.heap T.vm T.heap from CHv.at X hZ hE hC.1), own_REW h4 hk hn⟩
theorem own_retNW (X : Stand p l e R (s.setVm vm0) m args below meth c T locs cells slots) (hx : p.tables.exec = Jvm.exec) {pc : Nat} {Ls : Array Slot} {z : Int32} {t : FieldType} {rest : List Value} (hret : meth.sig.returnType = some t)
    (hd : decode c.code pc = .ok (.ireturn, 1)) (ht : t = .boolean ∨ t = .byte ∨ t = .char ∨ t = .short) (hlk : meth.locks = false) (hk : cells ≤ k) (hn : slots ≤ n) (eT : T.heap = h) (W : own_Wd Z a0 EL s h0 vm0 h) (hQ : Q (some (.int (nar t z))) h locs) :
    own_Goes p e below (own_FW Z EL s h0 Q k n) (T.setTop (mkF m pc Ls (.int z :: rest))) := by
  obtain ⟨fs, hr, hrun, hended, hF⟩ := own_leaveW X eT W hlk hk hn (v := some (.int (nar t z))) (fun q => by rw [hret] at q; cases q) hQ
  exact ⟨_, _, retN X hx hret ht hd hr, hrun, hended, hF⟩
theorem own_retIW (X : Stand p l e R (s.setVm vm0) m args below meth c T locs cells slots) (hx : p.tables.exec = Jvm.exec) {pc : Nat} {Ls : Array Slot} {z : Int32} {rest : List Value} (hret : meth.sig.returnType = some .int)
    (hd : decode c.code pc = .ok (.ireturn, 1)) (hlk : meth.locks = false) (hk : cells ≤ k) (hn : slots ≤ n) (eT : T.heap = h) (W : own_Wd Z a0 EL s h0 vm0 h) (hQ : Q (some (.int z)) h locs) :
    own_Goes p e below (own_FW Z EL s h0 Q k n) (T.setTop (mkF m pc Ls (.int z :: rest))) := by
  obtain ⟨fs, hr, hrun, hended, hF⟩ := own_leaveW X eT W hlk hk hn (v := some (.int z)) (fun q => by rw [hret] at q; cases q) hQ
  exact ⟨_, _, retOut X hx hret rfl (Or.inl ⟨rfl, Or.inl rfl, z, rfl⟩) hd hr, hrun, hended, hF⟩
theorem own_retRW (X : Stand p l e R (s.setVm vm0) m args below meth c T locs cells slots) (hx : p.tables.exec = Jvm.exec) {pc : Nat} {Ls : Array Slot} {w : Value} {t : FieldType} {rest : List Value} (hret : meth.sig.returnType = some t)
    (hd : decode c.code pc = .ok (.areturn, 1)) (ht : t.isReference = true) (hw : w.isRef = true) (hlk : meth.locks = false) (hk : cells ≤ k) (hn : slots ≤ n) (eT : T.heap = h) (W : own_Wd Z a0 EL s h0 vm0 h) (hQ : Q (some w) h locs) :
    own_Goes p e below (own_FW Z EL s h0 Q k n) (T.setTop (mkF m pc Ls (w :: rest))) := by
  obtain ⟨fs, hr, hrun, hended, hF⟩ := own_leaveW X eT W hlk hk hn (v := some w) (fun q => by rw [hret] at q; cases q) hQ
  exact ⟨_, _, retOut X hx hret (own_nref ht) (Or.inr (Or.inr (Or.inr (Or.inr ⟨rfl, ht, hw⟩)))) hd hr, hrun, hended, hF⟩
theorem own_retVW (X : Stand p l e R (s.setVm vm0) m args below meth c T locs cells slots) (hx : p.tables.exec = Jvm.exec) {pc : Nat} {Ls : Array Slot} (hret : meth.sig.returnType = none)
    (hd : decode c.code pc = .ok (.return_, 1)) (hlk : meth.locks = false) (hk : cells ≤ k) (hn : slots ≤ n) (eT : T.heap = h) (W : own_Wd Z a0 EL s h0 vm0 h) (hQ : Q none h locs) :
    own_Goes p e below (own_FW Z EL s h0 Q k n) (T.setTop (mkF m pc Ls [])) := by
  obtain ⟨fs, hr, hrun, hended, hF⟩ := own_leaveW X eT W hlk hk hn (v := none) (fun _ => rfl) hQ
  exact ⟨_, _, X.returnOut hx hret hd hr, hrun, hended, hF⟩
/-- ldc of a constant whose text is known -/
theorem own_ldc (X : Stand p l e R (s.setVm vm0) m args below meth c T locs cells slots) (hx : p.tables.exec = Jvm.exec) (W : own_Wd Z a0 EL s h0 vm0 h) {own text : String} {index : Nat} (hown : vm0.findClass own = some m.cls) (w : (Cond.stringLink own index text).before a0 Z = true) (wS : ∀ a ∈ Bundle.stringAtoms, a.before a0 Z = true)
    (eT : T.heap = h) (hmem : (own, index) ∈ EL) {vs : List Value} {z : Int32} (ht : (∀ c ∈ text.toList, c.toNat < 256) ∧ text.toList.map (fun c => Value.int (Jvm.Lit.byteI c.toNat.toUInt16)) = vs) (hz : ¬ z < 0) (hl : z.toNatClampNeg = vs.length)
    {g : JFrame} (hg : g.method = m) (hd : decode c.code g.pc = .ok (.ldc index, 2)) {n : Nat} (hn : 4 * text.toList.length ≤ n) (hbig : n ≤ 536870912) (hc : cells + 2 ≤ R.cells) (hl' : slots + (n + 4) ≤ R.slots) :
    ∃ (a : Addr) (T' : State) (h' : Heap) (b : Addr) (k : ClassId), Stand p l e R (s.setVm T'.vm) m args below meth c T' locs (cells + 2) (slots + (n + 4)) ∧ T'.heap = h' ∧ Ext h h' ∧ own_Wd Z a0 EL s h0 T'.vm h' ∧ T'.vm.findClass own = some m.cls ∧
      Exa Z h' a "java/lang/String" ∧ Fld Z h' a "java/lang/String" "coder" "B" (.int 0) ∧ Fld Z h' a "java/lang/String" "value" "[B" (.ref b) ∧ Arv Z h' b k .byte z vs (.int 0) ∧ CHr Z EL vm0 h T'.vm h' ∧ (∀ x, Safe Z EL T'.vm h' x → x ≠ a ∧ x ≠ b) ∧
      ∀ target, Steps p.tables e below (T'.setTop { g with pc := g.pc + 2, stack := .ref a :: g.stack }) target → Steps p.tables e below (T.setTop g) target := by
  obtain ⟨k0, hS, hk0, hZ, hE, hC⟩ := W
  obtain ⟨a, T', h', k1, b, k, r1, r2, r3, r4, r5, r6, r7, r8, r9, r10, r11, -, -, r14, -, r16, r17⟩ := ldcCH X hx hZ hown w wS eT hS hk0 hE hmem hC.1 ht hz hl hg hd hn hbig hc hl'
  exact ⟨a, T', h', b, k, r1, r2, r3, ⟨k1, r4, r5, r6, hE, hC.trans r14⟩, r7, r8, r9, r10, r11, r14, r16, r17⟩
/-- ldc of a constant whose text isn't asked -/
theorem own_ldcO (X : Stand p l e R (s.setVm vm0) m args below meth c T locs cells slots) (hx : p.tables.exec = Jvm.exec) (W : own_Wd Z a0 EL s h0 vm0 h) {own text : String} {index : Nat} (hown : vm0.findClass own = some m.cls) (w : (Cond.stringLink own index text).before a0 Z = true) (wS : ∀ a ∈ Bundle.stringAtoms, a.before a0 Z = true)
    (eT : T.heap = h) {g : JFrame} (hg : g.method = m) (hd : decode c.code g.pc = .ok (.ldc index, 2)) {n : Nat} (hn : 4 * text.toList.length ≤ n) (hbig : n ≤ 536870912) (hc : cells + 2 ≤ R.cells) (hl' : slots + (n + 4) ≤ R.slots) :
    ∃ (a : Addr) (T' : State) (h' : Heap), Stand p l e R (s.setVm T'.vm) m args below meth c T' locs (cells + 2) (slots + (n + 4)) ∧ T'.heap = h' ∧ Ext h h' ∧ own_Wd Z a0 EL s h0 T'.vm h' ∧ T'.vm.findClass own = some m.cls ∧ CHr Z EL vm0 h T'.vm h' ∧
      ∀ target, Steps p.tables e below (T'.setTop { g with pc := g.pc + 2, stack := .ref a :: g.stack }) target → Steps p.tables e below (T.setTop g) target := by
  obtain ⟨k0, hS, hk0, hZ, hE, hC⟩ := W
  obtain ⟨a, T', h', k1, r1, r2, r3, r4, r5, r6, r7, r8, -, r9⟩ := ldcOH X hx hZ hown w wS eT hS hk0 hE hC.1 hg hd hn hbig hc hl'
  exact ⟨a, T', h', r1, r2, r3, ⟨k1, r4, r5, r6, hE, hC.trans r8⟩, r7, r8, r9⟩
end OwnWide
/-- a body's contract where String constants may be loaded -/
abbrev own_MetW (EL : List (String × Nat)) (l : Launch) (y : MethodName) (bytes : ByteArray) (ml : Nat) (rt : Option FieldType) (ws : List Jvm.Cond) (rm : Room) (Z : State) (as' : Array Value) (h0 : Heap) (Q : Option Value → Heap → List Loc → Prop) : Prop :=
  MetFree l y (head1 (Jvm.Cond.code y bytes ml rt :: ws) rm) (fun a U => a = as' ∧ Z.Warmed39 U.vm ∧ U.heap = h0 ∧ CHv Z EL U.vm h0) (fun _ _ _ _ _ => True) (fun _ U o U' => ∃ v L, o = .returned v ∧ Q v U'.heap L ∧ CHr Z EL U.vm U.heap U'.vm U'.heap ∧ ReturnedEndW U o U' L rm.cells rm.slots)
theorem own_enterW {EL : List (String × Nat)} {l : Launch} {y : MethodName} {bytes : ByteArray} {ml : Nat} {rt : Option FieldType} {ws : List Jvm.Cond} {rm : Room} {Z : State} {as' : Array Value} {h0 : Heap} {Q : Option Value → Heap → List Loc → Prop} (L0 : Array Slot) (hp : plainFor y = true) (ef : ∀ m, entryFrame m as' ml = mkF m 0 L0 []) {a0 : Array Value} (hE : EW Z a0 EL)
    (go : ∀ (p : Program) (e : Env) (s : State) (m : MethodId) (below : List Frame) (meth : Method) (c : Code) (s₁ : State), p.tables.exec = Jvm.exec → c.code = bytes → c.maxLocals = ml → (s.setVm s.vm).vm.findClass y.cls = some m.cls → meth.name = y.name → Z.Warmed39 (s.setVm s.vm).vm → meth.sig.returnType = rt → meth.locks = false → Stand p l e rm (s.setVm s.vm) m as' below meth c s₁ [] 0 0 → s₁.heap = h0 → own_Wd Z a0 EL s h0 s.vm h0 → own_Goes p e below (own_FW Z EL s h0 Q rm.cells rm.slots) (s₁.setTop (mkF m 0 L0 []))) :
    own_MetW EL l y bytes ml rt ws rm Z as' h0 Q := by
  refine MetFree.of_bodySF hp hisR ?_
  intro p e s m args below meth c s₁ Bd hml0 hP hK
  obtain ⟨rfl, hZ, hh, hC⟩ := hP
  have g := go p e s m below meth c s₁ Bd.exec Bd.bytes hml0 (findClass_of_methodNamed Bd.named) (name_of_methodNamed Bd.named Bd.method).1 hZ Bd.returns Bd.notSynchronized (Stand.of_body Bd) (by rw [← hh, Bd.state]; rfl) (own_Wd.start hZ hE hC)
  exact own_startW hh (fun t k => castTop (ef m) k) g

def Q0 (h0 : Heap) (n0 : Nat) (v : Option Value) (h : Heap) (L : List Loc) : Prop := v = some (.int 1) ∧ Fr n0 L

theorem own_nb (x : Int32) : nar .byte (x.toInt8.toInt32) = x.toInt8.toInt32 := by
  show x.toInt8.toInt32.toInt8.toInt32 = _
  have a := c_i2b x
  have b := c_i2b x.toInt8.toInt32
  rw [← Int32.toInt_inj]
  omega
theorem own_nb2 (x : Int32) : x.toInt8.toInt32.toInt8.toInt32 = x.toInt8.toInt32 := own_nb x
theorem own_i2c {x : Int32} (h : 0 ≤ x.toInt ∧ x.toInt ≤ 65535) : x.toUInt32.toUInt16.toUInt32.toInt32 = x := by
  have q := c_i2c x
  rw [← Int32.toInt_inj]
  omega
theorem own_narc {x : Int32} (h : 0 ≤ x.toInt ∧ x.toInt ≤ 65535) : nar .char x = x := own_i2c h
theorem own_up {x : Int32} (h : 0 ≤ x.toInt ∧ x.toInt ≤ 255) : 0 ≤ x.toInt ∧ x.toInt ≤ 65535 := by omega

theorem own_shr0 (z : Int32) : z >>> ((0 : Int32) &&& 31) = z := by
  rw [← Int32.toInt_inj, c_ishr z 0 0 (by decide)]
  simp

theorem own_wS {a0 : Array Value} {Z : State} (hw : ∀ d ∈ tables_1, d.before a0 Z = true) : ∀ a ∈ Bundle.stringAtoms, a.before a0 Z = true := fun d hd => hw d ((by decide +kernel : ∀ d ∈ Bundle.stringAtoms, d ∈ tables_1) d hd)
theorem own_safeV {Z : State} {EL : List (String × Nat)} {vm : Vm} {h : Heap} {x : Addr} {k : ClassId} {ty : FieldType} {z : Int32} {vs : List Value} {d : Value} (hal : Z.vm.Alike vm) (V : Arv Z h x k ty z vs d) (ht : ty ≠ .byte) : Safe Z EL vm h x := by
  obtain ⟨c, A, -⟩ := V
  exact Safe.arr hal A ht
def own_EL : List (String × Nat) := [("java/lang/String", 7)]

abbrev own_b0 (c : Int32) : Int32 := (c >>> ((0 : Int32) &&& 31)).toInt8.toInt32
abbrev own_b1 (c : Int32) : Int32 := (c >>> ((8 : Int32) &&& 31)).toInt8.toInt32
abbrev own_lo (c : Int32) : Int32 := c.toInt8.toInt32
def own_lows : List Int32 → List Value
  | [] => []
  | c :: cs => .int (own_lo c) :: own_lows cs
def own_wide : List Int32 → List Value
  | [] => []
  | c :: cs => .int (own_b0 c) :: .int (own_b1 c) :: own_wide cs
def own_Cod (cs : List Int32) (cd N : Int32) (vs : List Value) : Prop := (cd = 0 ∧ N = Int32.ofNat cs.length ∧ vs = own_lows cs ∧ ∀ c ∈ cs, ¬ (255 : Int32) < c) ∨ (cd = 1 ∧ N = Int32.ofNat (2 * cs.length) ∧ vs = own_wide cs ∧ ∃ c ∈ cs, (255 : Int32) < c)
/-- the String at a bears the signs cs -/
def own_S (Z : State) (h : Heap) (a : Addr) (cs : List Int32) : Prop := ∃ (t : Addr) (kb : ClassId) (cd N : Int32) (vs : List Value), Exa Z h a "java/lang/String" ∧ Fld Z h a "java/lang/String" "value" "[B" (.ref t) ∧ Fld Z h a "java/lang/String" "coder" "B" (.int cd) ∧ Arv Z h t kb .byte N vs (.int (0 : Int32)) ∧ own_Cod cs cd N vs
theorem own_S.ext {Z : State} {h h' : Heap} {a : Addr} {cs : List Int32} (F : own_S Z h a cs) (E : Ext h h') : own_S Z h' a cs := by
  obtain ⟨t, kb, cd, N, vs, f1, f2, f3, f4, f5⟩ := F
  exact ⟨t, kb, cd, N, vs, f1.ext E, f2.ext E, f3.ext E, f4.ext E, f5⟩
theorem own_shr8 (c : Int32) (h : 0 ≤ c.toInt ∧ c.toInt ≤ 65535) : (c >>> ((8 : Int32) &&& 31)).toInt = c.toInt / 256 := c_ishr c 8 8 (by decide)
theorem own_and255 (x : Int32) : (x &&& 255).toInt = x.toInt % 256 := c_mask x 255 8 (by decide) (by decide)
theorem own_gc (c : Int32) (h : 0 ≤ c.toInt ∧ c.toInt ≤ 65535) : (((own_b0 c &&& (255 : Int32)) <<< ((0 : Int32) &&& 31)) ||| ((own_b1 c &&& (255 : Int32)) <<< ((8 : Int32) &&& 31))).toUInt32.toUInt16.toUInt32.toInt32 = c := by
  have e0 : c >>> ((0 : Int32) &&& 31) = c := own_shr0 c
  have a0 := c_i2b c
  have a1 := c_i2b (c >>> ((8 : Int32) &&& 31))
  have s8 := own_shr8 c h
  have m0 := own_and255 (own_b0 c)
  have m1 := own_and255 (own_b1 c)
  have l0 : ((own_b0 c &&& (255 : Int32)) <<< ((0 : Int32) &&& 31)).toInt = c.toInt % 256 := by
    have q := c_ishl (own_b0 c &&& (255 : Int32)) 0 0 (by decide)
    have r := rng32 ((own_b0 c &&& (255 : Int32)) <<< ((0 : Int32) &&& 31))
    have z : (own_b0 c).toInt = c.toInt8.toInt32.toInt := by rw [show own_b0 c = c.toInt8.toInt32 from by show (c >>> ((0 : Int32) &&& 31)).toInt8.toInt32 = _; rw [e0]]
    simp only [Nat.pow_zero] at q
    omega
  have l1 : ((own_b1 c &&& (255 : Int32)) <<< ((8 : Int32) &&& 31)).toInt = (c.toInt / 256) * 256 := by
    have q := c_ishl (own_b1 c &&& (255 : Int32)) 8 8 (by decide)
    have r := rng32 ((own_b1 c &&& (255 : Int32)) <<< ((8 : Int32) &&& 31))
    have z : (own_b1 c).toInt = (c >>> ((8 : Int32) &&& 31)).toInt8.toInt32.toInt := rfl
    have p : ((2 ^ 8 : Nat) : Int) = 256 := rfl
    rw [p] at q
    omega
  have o := c_or ((own_b1 c &&& (255 : Int32)) <<< ((8 : Int32) &&& 31)) ((own_b0 c &&& (255 : Int32)) <<< ((0 : Int32) &&& 31)) 8 (by decide) 256 rfl (by omega) (by omega) (by omega)
  have r := rng32 (((own_b0 c &&& (255 : Int32)) <<< ((0 : Int32) &&& 31)) ||| ((own_b1 c &&& (255 : Int32)) <<< ((8 : Int32) &&& 31)))
  have e : (((own_b0 c &&& (255 : Int32)) <<< ((0 : Int32) &&& 31)) ||| ((own_b1 c &&& (255 : Int32)) <<< ((8 : Int32) &&& 31))).toInt = c.toInt := by
    rw [Int32.or_comm]
    have r2 := rng32 (((own_b1 c &&& (255 : Int32)) <<< ((8 : Int32) &&& 31)) ||| ((own_b0 c &&& (255 : Int32)) <<< ((0 : Int32) &&& 31)))
    omega
  have q := c_i2c (((own_b0 c &&& (255 : Int32)) <<< ((0 : Int32) &&& 31)) ||| ((own_b1 c &&& (255 : Int32)) <<< ((8 : Int32) &&& 31)))
  rw [← Int32.toInt_inj]
  omega
theorem own_lo_inj {a b : Int32} (ha : 0 ≤ a.toInt ∧ a.toInt ≤ 255) (hb : 0 ≤ b.toInt ∧ b.toInt ≤ 255) : a.toInt8.toInt32 = b.toInt8.toInt32 ↔ a = b := by
  have p := c_i2b a
  have q := c_i2b b
  simp only [← Int32.toInt_inj]
  omega
theorem own_le255 {c : Int32} (h : ¬ (255 : Int32) < c) (hc : 0 ≤ c.toInt ∧ c.toInt ≤ 65535) : 0 ≤ c.toInt ∧ c.toInt ≤ 255 := by
  have e : (255 : Int32).toInt = 255 := rfl
  rw [Int32.lt_iff_toInt_lt, e] at h
  omega

def own_US (Z : State) (G1 : Int32) : Prop := ¬ G1 = (0 : Int32) ∧ Sta Z Z.heap "java/lang/String" "COMPACT_STRINGS" "Z" (.int G1) ∧ Sta Z Z.heap "java/lang/StringUTF16" "$assertionsDisabled" "Z" (.int (1 : Int32)) ∧ Sta Z Z.heap "java/lang/StringUTF16" "HI_BYTE_SHIFT" "I" (.int (0 : Int32)) ∧ Sta Z Z.heap "java/lang/StringUTF16" "LO_BYTE_SHIFT" "I" (.int (8 : Int32))
theorem own_succ (i : Nat) : Int32.ofNat i + (1 : Int32) = Int32.ofNat (i + 1) := by rw [Int32.ofNat_add]; rfl
theorem own_ofn {i : Nat} (h : i < 2 ^ 31) : ¬ Int32.ofNat i < 0 ∧ (Int32.ofNat i).toNatClampNeg = i := by
  have e : (Int32.ofNat i).toInt = i := Int32.toInt_ofNat_small h
  have e0 : (0 : Int32).toInt = 0 := rfl
  have hn : ¬ Int32.ofNat i < 0 := by rw [Int32.lt_iff_toInt_lt, e, e0]; omega
  have q := nat_of hn
  exact ⟨hn, by omega⟩
theorem own_shl1 {i : Nat} (h : i < 4000) : Int32.ofNat i <<< ((1 : Int32) &&& 31) = Int32.ofNat (2 * i) := by
  have q := c_ishl (Int32.ofNat i) 1 1 (by decide)
  have r := rng32 (Int32.ofNat i <<< ((1 : Int32) &&& 31))
  have p : ((2 ^ 1 : Nat) : Int) = 2 := rfl
  rw [Int32.toInt_ofNat_small (by omega), p] at q
  rw [← Int32.toInt_inj, Int32.toInt_ofNat_small (by omega)]
  omega
theorem own_inb {i n : Nat} (hn : n < 2 ^ 31) (h : i < n) : ¬ Int32.ofNat i < 0 ∧ Int32.ofNat i < Int32.ofNat n := by
  refine ⟨(own_ofn (by omega)).1, ?_⟩
  rw [Int32.lt_iff_toInt_lt, Int32.toInt_ofNat_small (by omega), Int32.toInt_ofNat_small hn]
  omega
theorem own_wide_0 (d : Value) : ∀ (cs : List Int32) (i : Nat), i < cs.length → (own_wide cs).getD (2 * i) d = .int (own_b0 (cs.getD i 0))
  | [], i, h => absurd h (by simp)
  | c :: cs, 0, h => rfl
  | c :: cs, i + 1, h => by
    have q := own_wide_0 d cs i (by simpa using h)
    show (own_wide (c :: cs)).getD (2 * i + 2) d = _
    exact q
theorem own_wide_1 (d : Value) : ∀ (cs : List Int32) (i : Nat), i < cs.length → (own_wide cs).getD (2 * i + 1) d = .int (own_b1 (cs.getD i 0))
  | [], i, h => absurd h (by simp)
  | c :: cs, 0, h => rfl
  | c :: cs, i + 1, h => by
    have q := own_wide_1 d cs i (by simpa using h)
    show (own_wide (c :: cs)).getD (2 * i + 3) d = _
    exact q

def own_R (ch : Int32) (cs : List Int32) (r : Int32) : Prop := (r < (0 : Int32) ∧ ch ∉ cs) ∨ (¬ r < (0 : Int32) ∧ ch ∈ cs)
theorem own_lows_at (d : Value) : ∀ (cs : List Int32) (i : Nat), i < cs.length → (own_lows cs).getD i d = .int (own_lo (cs.getD i 0))
  | [], i, h => absurd h (by simp)
  | c :: cs, 0, h => rfl
  | c :: cs, i + 1, h => own_lows_at d cs i (by simpa using h)
theorem own_mem (cs : List Int32) (i : Nat) (h : i < cs.length) : cs.getD i 0 ∈ cs := by
  rw [List.getD_eq_getElem?_getD, List.getElem?_eq_getElem h]
  exact List.getElem_mem h
theorem own_notin {cs : List Int32} {p : Int32} (h : ∀ j, j < cs.length → cs.getD j 0 ≠ p) : p ∉ cs := fun q => by
  obtain ⟨i, hi, e⟩ := List.getElem_of_mem q
  have k := h i hi
  rw [List.getD_eq_getElem?_getD, List.getElem?_eq_getElem hi] at k
  exact k e
theorem own_more {cs : List Int32} {p : Int32} {i : Nat} (h : ∀ j, j < i → cs.getD j 0 ≠ p) (q : cs.getD i 0 ≠ p) : ∀ j, j < i + 1 → cs.getD j 0 ≠ p := fun j hj => by
  by_cases e : j = i
  · rw [e]; exact q
  · exact h j (by omega)
theorem own_foundL {cs : List Int32} {p : Int32} {i : Nat} (hi : i < cs.length) (hcs : ∀ c ∈ cs, ¬ (255 : Int32) < c) (hch : ∀ c ∈ cs, 0 ≤ c.toInt ∧ c.toInt ≤ 65535) (hp : 0 ≤ p.toInt ∧ p.toInt ≤ 255) : own_lo (cs.getD i 0) = p.toInt8.toInt32 ↔ cs.getD i 0 = p :=
  own_lo_inj (own_le255 (hcs _ (own_mem cs i hi)) (hch _ (own_mem cs i hi))) hp
theorem own_ltn {i n : Nat} (hn : n ≤ 1000) (hi : i ≤ n) : Int32.ofNat i < Int32.ofNat n ↔ i < n := by
  rw [Int32.lt_iff_toInt_lt, Int32.toInt_ofNat_small (by omega), Int32.toInt_ofNat_small (by omega)]
  omega
theorem own_shr1 {n : Nat} (hn : n ≤ 1000) : (Int32.ofNat (2 * n)) >>> ((1 : Int32) &&& 31) = Int32.ofNat n := by
  have q := c_ishr (Int32.ofNat (2 * n)) 1 1 (by decide)
  rw [← Int32.toInt_inj, q, Int32.toInt_ofNat_small (by omega), Int32.toInt_ofNat_small (by omega)]
  have p : ((2 ^ 1 : Nat) : Int) = 2 := rfl
  omega

def own_hs (c : Int32) : Int32 := if c < 55296 then 0 else if c < 56320 then 1 else 0
def own_lsu (c : Int32) : Int32 := if c < 56320 then 0 else if c < 57344 then 1 else 0
def own_hi (c : Int32) : Int32 := if c < 55296 then 0 else if (56319 : Int32) < c then 0 else 1
def own_lw (c : Int32) : Int32 := if c < 56320 then 0 else if (57343 : Int32) < c then 0 else 1
def own_tcp (h l : Int32) : Int32 := ((h <<< ((10 : Int32) &&& 31)) + l) + (-56613888 : Int32)
def own_pair (h l : Int32) : Int32 := ((65536 : Int32) + ((h - (55296 : Int32)) <<< ((10 : Int32) &&& 31))) + (l - (56320 : Int32))
def own_cc (x : Int32) : Int32 := if x < 65536 then 1 else 2
def own_ic (x y : Int32) : Int32 := if x < y then (-1) else if x = y then 0 else 1
def own_sg (r : Int32) : Int32 := if r < 0 then (-1) else if (0 : Int32) < r then 1 else 0
def own_mn (x y : Int32) : Int32 := if y < x then y else x
theorem own_hseq (c : Int32) : own_hs c = own_hi c := by
  have a : (56319 : Int32).toInt = 56319 := rfl
  have b : (56320 : Int32).toInt = 56320 := rfl
  unfold own_hs own_hi
  by_cases h : c < 55296
  · rw [if_pos h, if_pos h]
  · rw [if_neg h, if_neg h]
    by_cases h2 : c < 56320
    · rw [if_pos h2, if_neg (by rw [Int32.lt_iff_toInt_lt, b] at h2; rw [Int32.lt_iff_toInt_lt, a]; omega)]
    · rw [if_neg h2, if_pos (by rw [Int32.lt_iff_toInt_lt, b] at h2; rw [Int32.lt_iff_toInt_lt, a]; omega)]
theorem own_lseq (c : Int32) : own_lsu c = own_lw c := by
  have a : (57343 : Int32).toInt = 57343 := rfl
  have b : (57344 : Int32).toInt = 57344 := rfl
  unfold own_lsu own_lw
  by_cases h : c < 56320
  · rw [if_pos h, if_pos h]
  · rw [if_neg h, if_neg h]
    by_cases h2 : c < 57344
    · rw [if_pos h2, if_neg (by rw [Int32.lt_iff_toInt_lt, b] at h2; rw [Int32.lt_iff_toInt_lt, a]; omega)]
    · rw [if_neg h2, if_pos (by rw [Int32.lt_iff_toInt_lt, b] at h2; rw [Int32.lt_iff_toInt_lt, a]; omega)]
theorem own_hi1 {c : Int32} (h : ¬ own_hi c = 0) : 55296 ≤ c.toInt ∧ c.toInt ≤ 56319 := by
  have a : (56319 : Int32).toInt = 56319 := rfl
  have b : (55296 : Int32).toInt = 55296 := rfl
  by_cases h1 : c < 55296
  · exact absurd (by unfold own_hi; rw [if_pos h1]) h
  · by_cases h2 : (56319 : Int32) < c
    · exact absurd (by unfold own_hi; rw [if_neg h1, if_pos h2]) h
    · rw [Int32.lt_iff_toInt_lt] at h1 h2
      omega
theorem own_lw1 {c : Int32} (h : ¬ own_lw c = 0) : 56320 ≤ c.toInt ∧ c.toInt ≤ 57343 := by
  have a : (57343 : Int32).toInt = 57343 := rfl
  have b : (56320 : Int32).toInt = 56320 := rfl
  by_cases h1 : c < 56320
  · exact absurd (by unfold own_lw; rw [if_pos h1]) h
  · by_cases h2 : (57343 : Int32) < c
    · exact absurd (by unfold own_lw; rw [if_neg h1, if_pos h2]) h
    · rw [Int32.lt_iff_toInt_lt] at h1 h2
      omega
theorem own_addk {x k : Int32} (d : k.toInt = -56613888) (h : 0 ≤ x.toInt ∧ x.toInt ≤ 100000000) : (x + k).toInt = x.toInt - 56613888 := by
  have q := c_iadd x k
  have r := rng32 (x + k)
  omega
theorem own_pairI {h l : Int32} (hh : 55296 ≤ h.toInt ∧ h.toInt ≤ 56319) (hl : 56320 ≤ l.toInt ∧ l.toInt ≤ 57343) : (own_pair h l).toInt = 65536 + (h.toInt - 55296) * 1024 + (l.toInt - 56320) ∧ own_tcp h l = own_pair h l := by
  have a : (65536 : Int32).toInt = 65536 := rfl
  have b : (55296 : Int32).toInt = 55296 := rfl
  have c : (56320 : Int32).toInt = 56320 := rfl
  have d : (-56613888 : Int32).toInt = -56613888 := by decide +kernel
  have p : ((2 ^ 10 : Nat) : Int) = 1024 := rfl
  have v1 : (h - (55296 : Int32)).toInt = h.toInt - 55296 := by
    have q := c_isub h 55296
    have r := rng32 (h - 55296)
    omega
  have v2 : ((h - (55296 : Int32)) <<< ((10 : Int32) &&& 31)).toInt = (h.toInt - 55296) * 1024 := by
    have q := c_ishl (h - (55296 : Int32)) 10 10 (by decide)
    have r := rng32 ((h - (55296 : Int32)) <<< ((10 : Int32) &&& 31))
    rw [p, v1] at q
    omega
  have v3 : ((65536 : Int32) + ((h - (55296 : Int32)) <<< ((10 : Int32) &&& 31))).toInt = 65536 + (h.toInt - 55296) * 1024 := by
    have q := c_iadd (65536 : Int32) ((h - (55296 : Int32)) <<< ((10 : Int32) &&& 31))
    have r := rng32 ((65536 : Int32) + ((h - (55296 : Int32)) <<< ((10 : Int32) &&& 31)))
    rw [v2, a] at q
    omega
  have v4 : (l - (56320 : Int32)).toInt = l.toInt - 56320 := by
    have q := c_isub l 56320
    have r := rng32 (l - 56320)
    omega
  have e : (own_pair h l).toInt = 65536 + (h.toInt - 55296) * 1024 + (l.toInt - 56320) := by
    have q := c_iadd ((65536 : Int32) + ((h - (55296 : Int32)) <<< ((10 : Int32) &&& 31))) (l - (56320 : Int32))
    have r := rng32 (((65536 : Int32) + ((h - (55296 : Int32)) <<< ((10 : Int32) &&& 31))) + (l - (56320 : Int32)))
    rw [v3, v4] at q
    show (((65536 : Int32) + ((h - (55296 : Int32)) <<< ((10 : Int32) &&& 31))) + (l - (56320 : Int32))).toInt = _
    omega
  have w2 : (h <<< ((10 : Int32) &&& 31)).toInt = h.toInt * 1024 := by
    have q := c_ishl h 10 10 (by decide)
    have r := rng32 (h <<< ((10 : Int32) &&& 31))
    rw [p] at q
    omega
  have w3 : ((h <<< ((10 : Int32) &&& 31)) + l).toInt = h.toInt * 1024 + l.toInt := by
    have q := c_iadd (h <<< ((10 : Int32) &&& 31)) l
    have r := rng32 ((h <<< ((10 : Int32) &&& 31)) + l)
    rw [w2] at q
    omega
  refine ⟨e, ?_⟩
  have w4 : (((h <<< ((10 : Int32) &&& 31)) + l) + (-56613888 : Int32)).toInt = ((h <<< ((10 : Int32) &&& 31)) + l).toInt - 56613888 := own_addk d (by rw [w3]; omega)
  have k : (own_tcp h l).toInt = (own_pair h l).toInt := by
    rw [e]
    refine w4.trans ?_
    rw [w3]
    omega
  exact Int32.toInt_inj.mp k
def own_P : List Int32 → List Int32
  | [] => []
  | [a] => [a]
  | a :: b :: r => if own_hi a = 0 then a :: own_P (b :: r) else if own_lw b = 0 then a :: own_P (b :: r) else own_pair a b :: own_P r
def own_lx : List Int32 → List Int32 → Int32
  | [], [] => 0
  | [], _ :: _ => -1
  | _ :: _, [] => 1
  | x :: xs, y :: ys => if x = y then own_lx xs ys else if x < y then -1 else 1
def own_cp (cs : List Int32) (i : Nat) : Int32 := if own_hs (cs.getD i 0) = 0 then cs.getD i 0 else if i + 1 < cs.length then (if own_lsu (cs.getD (i + 1) 0) = 0 then cs.getD i 0 else own_tcp (cs.getD i 0) (cs.getD (i + 1) 0)) else cs.getD i 0
def own_cn (x : Int32) : Nat := if x < 65536 then 1 else 2
theorem own_cn1 {x : Int32} (h : 0 ≤ x.toInt ∧ x.toInt ≤ 65535) : own_cn x = 1 := by
  have a : (65536 : Int32).toInt = 65536 := rfl
  unfold own_cn
  rw [if_pos]
  rw [Int32.lt_iff_toInt_lt, a]
  omega
theorem own_cn2 {x : Int32} (h : 65536 ≤ x.toInt) : own_cn x = 2 := by
  have a : (65536 : Int32).toInt = 65536 := rfl
  unfold own_cn
  rw [if_neg]
  rw [Int32.lt_iff_toInt_lt, a]
  omega
theorem own_drop (cs : List Int32) (i : Nat) (h : i < cs.length) : cs.drop i = cs.getD i 0 :: cs.drop (i + 1) := by
  rw [List.drop_eq_getElem_cons h, List.getD_eq_getElem?_getD, List.getElem?_eq_getElem h]
  rfl
theorem own_P1 (a : Int32) (r : List Int32) (h : own_hi a = 0) : own_P (a :: r) = a :: own_P r := by
  cases r with
  | nil => rfl
  | cons b r => rw [own_P, if_pos h]
theorem own_P2 (a b : Int32) (r : List Int32) (h : ¬ own_hi a = 0) (h2 : own_lw b = 0) : own_P (a :: b :: r) = a :: own_P (b :: r) := by rw [own_P, if_neg h, if_pos h2]
theorem own_P3 (a b : Int32) (r : List Int32) (h : ¬ own_hi a = 0) (h2 : ¬ own_lw b = 0) : own_P (a :: b :: r) = own_pair a b :: own_P r := by rw [own_P, if_neg h, if_neg h2]
theorem own_P_at (cs : List Int32) (i : Nat) (h : i < cs.length) (hB : ∀ c ∈ cs, 0 ≤ c.toInt ∧ c.toInt ≤ 65535) : own_P (cs.drop i) = own_cp cs i :: own_P (cs.drop (i + own_cn (own_cp cs i))) ∧ i + own_cn (own_cp cs i) ≤ cs.length := by
  have e1 := own_drop cs i h
  have s1 := own_cn1 (hB _ (own_mem cs i h))
  unfold own_cp
  rw [own_hseq]
  by_cases ha : own_hi (cs.getD i 0) = 0
  · rw [if_pos ha, s1, e1, own_P1 _ _ ha]
    exact ⟨rfl, h⟩
  · rw [if_neg ha]
    by_cases hn : i + 1 < cs.length
    · rw [if_pos hn, own_lseq]
      have e2 := own_drop cs (i + 1) hn
      by_cases hb : own_lw (cs.getD (i + 1) 0) = 0
      · rw [if_pos hb, s1, e1, e2, own_P2 _ _ _ ha hb]
        exact ⟨rfl, h⟩
      · have q := own_pairI (own_hi1 ha) (own_lw1 hb)
        have s2 := own_cn2 (x := own_pair (cs.getD i 0) (cs.getD (i + 1) 0)) (by have := own_hi1 ha; have := own_lw1 hb; omega)
        rw [if_neg hb, q.2, s2, e1, e2, own_P3 _ _ _ ha hb]
        exact ⟨rfl, by omega⟩
    · rw [if_neg hn, s1, e1]
      have e3 : cs.drop (i + 1) = [] := List.drop_eq_nil_of_le (by omega)
      rw [e3]
      exact ⟨rfl, h⟩
theorem own_step {cs ds : List Int32} {i : Nat} (h1 : i < cs.length) (h2 : i < ds.length) (hB1 : ∀ c ∈ cs, 0 ≤ c.toInt ∧ c.toInt ≤ 65535) (hB2 : ∀ c ∈ ds, 0 ≤ c.toInt ∧ c.toInt ≤ 65535) :
    (own_cp cs i = own_cp ds i → own_lx (own_P (cs.drop i)) (own_P (ds.drop i)) = own_lx (own_P (cs.drop (i + own_cn (own_cp cs i)))) (own_P (ds.drop (i + own_cn (own_cp cs i)))) ∧ i + own_cn (own_cp cs i) ≤ cs.length ∧ i + own_cn (own_cp cs i) ≤ ds.length) ∧
    (¬ own_cp cs i = own_cp ds i → own_lx (own_P (cs.drop i)) (own_P (ds.drop i)) = own_ic (own_cp cs i) (own_cp ds i)) := by
  have a := own_P_at cs i h1 hB1
  have b := own_P_at ds i h2 hB2
  constructor
  · intro q
    rw [← q] at b
    refine ⟨?_, a.2, b.2⟩
    rw [a.1, b.1, own_lx, if_pos rfl]
  · intro q
    rw [a.1, b.1, own_lx, if_neg q]
    unfold own_ic
    by_cases h : own_cp cs i < own_cp ds i
    · rw [if_pos h, if_pos h]
    · rw [if_neg h, if_neg h, if_neg q]
theorem own_exit {cs ds : List Int32} {i : Nat} (l1 : cs.length ≤ 1000) (l2 : ds.length ≤ 1000) (h1 : i ≤ cs.length) (h2 : i ≤ ds.length) (h : ¬ (i < cs.length ∧ i < ds.length)) (hB1 : ∀ c ∈ cs, 0 ≤ c.toInt ∧ c.toInt ≤ 65535) (hB2 : ∀ c ∈ ds, 0 ≤ c.toInt ∧ c.toInt ≤ 65535) :
    own_ic (Int32.ofNat cs.length - Int32.ofNat i) (Int32.ofNat ds.length - Int32.ofNat i) = own_lx (own_P (cs.drop i)) (own_P (ds.drop i)) := by
  have n1 : (Int32.ofNat cs.length).toInt = cs.length := Int32.toInt_ofNat_small (by omega)
  have n2 : (Int32.ofNat ds.length).toInt = ds.length := Int32.toInt_ofNat_small (by omega)
  have n3 : (Int32.ofNat i).toInt = i := Int32.toInt_ofNat_small (by omega)
  have s1 := c_isub (Int32.ofNat cs.length) (Int32.ofNat i)
  have r1 := rng32 (Int32.ofNat cs.length - Int32.ofNat i)
  have s2 := c_isub (Int32.ofNat ds.length) (Int32.ofNat i)
  have r2 := rng32 (Int32.ofNat ds.length - Int32.ofNat i)
  have lt : Int32.ofNat cs.length - Int32.ofNat i < Int32.ofNat ds.length - Int32.ofNat i ↔ cs.length < ds.length := by rw [Int32.lt_iff_toInt_lt]; omega
  have eq : Int32.ofNat cs.length - Int32.ofNat i = Int32.ofNat ds.length - Int32.ofNat i ↔ cs.length = ds.length := by rw [← Int32.toInt_inj]; omega
  unfold own_ic
  by_cases c1 : i < cs.length
  · have e2 : ds.drop i = [] := List.drop_eq_nil_of_le (by omega)
    rw [if_neg (fun q => by have := lt.mp q; omega), if_neg (fun q => by have := eq.mp q; omega), e2, (own_P_at cs i c1 hB1).1]
    rfl
  · have e1 : cs.drop i = [] := List.drop_eq_nil_of_le (by omega)
    by_cases c2 : i < ds.length
    · rw [if_pos (lt.mpr (by omega)), e1, (own_P_at ds i c2 hB2).1]
      rfl
    · have e2 : ds.drop i = [] := List.drop_eq_nil_of_le (by omega)
      rw [if_neg (fun q => by have := lt.mp q; omega), if_pos (eq.mpr (by omega)), e1, e2]
      rfl
theorem own_lx3 : ∀ (xs ys : List Int32), own_lx xs ys = -1 ∨ own_lx xs ys = 0 ∨ own_lx xs ys = 1
  | [], [] => Or.inr (Or.inl rfl)
  | [], _ :: _ => Or.inl rfl
  | _ :: _, [] => Or.inr (Or.inr rfl)
  | x :: xs, y :: ys => by
    rw [own_lx]
    by_cases h : x = y
    · rw [if_pos h]; exact own_lx3 xs ys
    · rw [if_neg h]
      by_cases h2 : x < y
      · rw [if_pos h2]; exact Or.inl rfl
      · rw [if_neg h2]; exact Or.inr (Or.inr rfl)
theorem own_sg_lx (xs ys : List Int32) : own_sg (own_lx xs ys) = own_lx xs ys := by
  rcases own_lx3 xs ys with h | h | h <;> rw [h] <;> rfl
def own_tk (n c0 c1 c2 : Int32) : List Int32 := if n = 0 then [] else if n = 1 then [c0] else if n = 2 then [c0, c1] else [c0, c1, c2]
def own_pn (cs : List Int32) : Int32 := Int32.ofNat (own_P cs).length
def own_pe (cs : List Int32) (j : Nat) : Int32 := (own_P cs).getD j 0
def own_lex3 (n p0 p3 q0 q3 : Int32) : Int32 := if n < 3 then (if p0 < q0 then -1 else if q0 < p0 then 1 else 0) else if p3 = q3 then (if p0 < q0 then -1 else if q0 < p0 then 1 else 0) else if p3 < q3 then -1 else 1
def own_lex2 (n p0 p2 p3 q0 q2 q3 : Int32) : Int32 := if n < 2 then own_lex3 n p0 p3 q0 q3 else if p2 = q2 then own_lex3 n p0 p3 q0 q3 else if p2 < q2 then -1 else 1
def own_lex (p0 p1 p2 p3 q0 q1 q2 q3 : Int32) : Int32 := if own_mn p0 q0 < 1 then own_lex2 (own_mn p0 q0) p0 p2 p3 q0 q2 q3 else if p1 = q1 then own_lex2 (own_mn p0 q0) p0 p2 p3 q0 q2 q3 else if p1 < q1 then -1 else 1
theorem own_lexP : ∀ (xs ys : List Int32), xs.length ≤ 3 → ys.length ≤ 3 → own_lex (Int32.ofNat xs.length) (xs.getD 0 0) (xs.getD 1 0) (xs.getD 2 0) (Int32.ofNat ys.length) (ys.getD 0 0) (ys.getD 1 0) (ys.getD 2 0) = own_lx xs ys
  | [], [], _, _ => rfl
  | [], [a], _, _ => rfl
  | [], [a, b], _, _ => rfl
  | [], [a, b, c], _, _ => rfl
  | [a], [], _, _ => rfl
  | [a, b], [], _, _ => rfl
  | [a, b, c], [], _, _ => rfl
  | [a], [d], _, _ => rfl
  | [a], [d, e], _, _ => rfl
  | [a], [d, e, f], _, _ => rfl
  | [a, b], [d], _, _ => rfl
  | [a, b], [d, e], _, _ => rfl
  | [a, b], [d, e, f], _, _ => rfl
  | [a, b, c], [d], _, _ => rfl
  | [a, b, c], [d, e], _, _ => rfl
  | [a, b, c], [d, e, f], _, _ => rfl
  | _ :: _ :: _ :: _ :: _, _, h, _ => absurd h (by simp)
  | _, _ :: _ :: _ :: _ :: _, _, h => absurd h (by simp)
theorem own_Plen : ∀ (n : Nat) (cs : List Int32), cs.length ≤ n → (own_P cs).length ≤ cs.length
  | _, [], _ => Nat.le_refl _
  | _, [a], _ => Nat.le_refl _
  | 0, _ :: _ :: _, h => absurd h (by simp)
  | n + 1, a :: b :: r, h => by
    have h1 := own_Plen n (b :: r) (by simp only [List.length_cons] at h ⊢; omega)
    have h2 := own_Plen n r (by simp only [List.length_cons] at h ⊢; omega)
    rw [own_P]
    simp only [List.length_cons] at h1 ⊢
    split
    · simp only [List.length_cons]; omega
    · split
      · simp only [List.length_cons]; omega
      · simp only [List.length_cons]; omega
theorem own_tklen (n c0 c1 c2 : Int32) : (own_tk n c0 c1 c2).length ≤ 3 := by
  unfold own_tk
  split
  · simp
  · split
    · simp
    · split <;> simp
theorem own_tkB {n c0 c1 c2 : Int32} (h0 : 0 ≤ c0.toInt ∧ c0.toInt ≤ 65535) (h1 : 0 ≤ c1.toInt ∧ c1.toInt ≤ 65535) (h2 : 0 ≤ c2.toInt ∧ c2.toInt ≤ 65535) : ∀ c ∈ own_tk n c0 c1 c2, 0 ≤ c.toInt ∧ c.toInt ≤ 65535 := by
  intro c hc
  unfold own_tk at hc
  have k : c = c0 ∨ c = c1 ∨ c = c2 := by
    split at hc
    · cases hc
    · split at hc
      · simp only [List.mem_cons, List.not_mem_nil, or_false] at hc; exact Or.inl hc
      · split at hc
        · simp only [List.mem_cons, List.not_mem_nil, or_false] at hc; exact hc.imp_right Or.inl
        · simpa only [List.mem_cons, List.not_mem_nil, or_false] using hc
  rcases k with rfl | rfl | rfl
  · exact h0
  · exact h1
  · exact h2
theorem own_law (n m a0 a1 a2 b0 b1 b2 : Int32) : own_sg (own_lx (own_P (own_tk n a0 a1 a2)) (own_P (own_tk m b0 b1 b2))) = own_lex (own_pn (own_tk n a0 a1 a2)) (own_pe (own_tk n a0 a1 a2) 0) (own_pe (own_tk n a0 a1 a2) 1) (own_pe (own_tk n a0 a1 a2) 2) (own_pn (own_tk m b0 b1 b2)) (own_pe (own_tk m b0 b1 b2) 0) (own_pe (own_tk m b0 b1 b2) 1) (own_pe (own_tk m b0 b1 b2) 2) := by
  have p := own_Plen _ (own_tk n a0 a1 a2) (Nat.le_refl _)
  have q := own_Plen _ (own_tk m b0 b1 b2) (Nat.le_refl _)
  have l1 := own_tklen n a0 a1 a2
  have l2 := own_tklen m b0 b1 b2
  rw [own_sg_lx]
  exact (own_lexP _ _ (by omega) (by omega)).symm
theorem own_addn {i : Nat} (x : Int32) (h : i ≤ 1000) : Int32.ofNat i + own_cc x = Int32.ofNat (i + own_cn x) := by
  unfold own_cc own_cn
  by_cases q : x < 65536
  · rw [if_pos q, if_pos q]; exact own_succ i
  · rw [if_neg q, if_neg q, Int32.ofNat_add]; rfl
theorem own_lo255 {c : Int32} (h : 0 ≤ c.toInt ∧ c.toInt ≤ 255) : own_lo c &&& (255 : Int32) = c := by
  have a := own_and255 (own_lo c)
  have b := c_i2b c
  rw [← Int32.toInt_inj, a]
  show (c.toInt8.toInt32).toInt % 256 = _
  omega
theorem own_cpL {cs : List Int32} {i : Nat} (hi : i < cs.length) (hcs : ∀ c ∈ cs, ¬ (255 : Int32) < c) (hch : ∀ c ∈ cs, 0 ≤ c.toInt ∧ c.toInt ≤ 65535) : own_lo (cs.getD i 0) &&& (255 : Int32) = own_cp cs i := by
  have b := own_le255 (hcs _ (own_mem cs i hi)) (hch _ (own_mem cs i hi))
  rw [own_lo255 b]
  unfold own_cp
  rw [if_pos]
  unfold own_hs
  rw [if_pos]
  have a : (55296 : Int32).toInt = 55296 := rfl
  rw [Int32.lt_iff_toInt_lt, a]
  omega

theorem own_stI {s : State} {args : Array Value} {C n d : String} {z : Int32} (h : (Cond.eq (.static C n d) (.int z)).before args s = true) (hi : (Cond.initializedFor C n d).before args s = true) : Sta s s.heap C n d (.int z) := by
  have h := Cond.before_iff.mp h
  obtain ⟨x, y, e1, e2, -, k⟩ := cmp_v (Or.inl h)
  obtain rfl : y = .int z := (Option.some.inj ((Term.int_eval z).symm.trans e2)).symm
  obtain ⟨w, rfl⟩ : ∃ w, x = .int w := k
  have hz : w = z := gotT (Cond.eq_ints e1 (Term.int_eval z)) h
  subst hz
  exact Sta.start e1 (Or.inl hi)


theorem own_c16 (z : Int32) : 0 ≤ (nar .char z).toInt ∧ (nar .char z).toInt ≤ 65535 := by
  have q := c_i2c z
  have r : (nar .char z) = z.toUInt32.toUInt16.toUInt32.toInt32 := rfl
  rw [r]
  omega

def Q1 (h0 : Heap) (n0 : Nat) (v : Option Value) (h : Heap) (L : List Loc) : Prop := ∃ r : Int32, v = some (.int r) ∧ (0 ≤ r.toInt ∧ r.toInt ≤ 65535) ∧ Fr n0 L ∧ h = h0

set_option maxRecDepth 65536 in
set_option maxHeartbeats 40000000 in
theorem rm1 (l : Launch) (Z : State) (a0 : Array Value) (hw : ∀ d ∈ tables_1, d.before a0 Z = true) (ws : List Jvm.Cond) (q1 : Int64) (h0 : Heap) (n0 : Nat)  :
    own_Met l (⟨"com/example/cited_experts/citedexperts/Utf8OrderComparePinLaw", "pick", "(J)C"⟩ : MethodName) method_2_code 4 (some .char) ws own_R_0_0_0_0 Z #[(.long q1)] h0 (Q1 h0 n0) := by
  refine own_enter #[.val (.long q1), .second, .unset, .unset] (plainFor_of_name pn_com_example_cited_experts_citedexperts_Utf8OrderComparePinLaw) (fun m => ef_J_4 m q1) ?_
  intro p e s m below meth c s₁ hx hby hml hown hnm hZ hrt hlk X0 e0
  have N0 := Fr.nil n0
  refine own_tp (.long q1) 1 (fun _ q => XS.lloadN X0.here hx rfl (hb hby dq2_0) rfl q) ?_
  refine own_tp (.long (3 : Int64)) 4 (fun _ q => X0.ldc2Long hx hown (mvT hZ (own_w hw 0 rfl)) (g := (mkF m 1 #[.val (.long q1), .second, .unset, .unset] [(.long q1)])) rfl (hb hby dq2_1) _ q) ?_
  refine own_t2 (.long (q1 &&& (3 : Int64))) 5 (fun _ q => XS.land X0.here hx rfl (hb hby dq2_4) rfl q) ?_
  refine own_t1 (.int ((q1 &&& (3 : Int64)).toInt32)) 6 (fun _ q => XS.l2i X0.here hx rfl (hb hby dq2_5) rfl q) ?_
  refine own_ls #[.val (.long q1), .second, .val (.int ((q1 &&& (3 : Int64)).toInt32)), .unset] 7 (fun _ q => XS.istoreN X0.here hx rfl (hb hby dq2_6) rfl (l' := #[.val (.long q1), .second, .val (.int ((q1 &&& (3 : Int64)).toInt32)), .unset]) rfl q) ?_
  refine own_tp (.long q1) 8 (fun _ q => XS.lloadN X0.here hx rfl (hb hby dq2_7) rfl q) ?_
  refine own_tp (.int (2 : Int32)) 9 (fun _ q => XS.iconst X0.here hx rfl (hb hby dq2_8) q) ?_
  refine own_t2 (.long ((q1.toUInt64 >>> ((2 : Int32) &&& 0x3f).toInt64.toUInt64).toInt64)) 10 (fun _ q => XS.lushr X0.here hx rfl (hb hby dq2_9) rfl q) ?_
  refine own_tp (.long (65535 : Int64)) 13 (fun _ q => X0.ldc2Long hx hown (mvT hZ (own_w hw 5 rfl)) (g := (mkF m 10 #[.val (.long q1), .second, .val (.int ((q1 &&& (3 : Int64)).toInt32)), .unset] [(.long ((q1.toUInt64 >>> ((2 : Int32) &&& 0x3f).toInt64.toUInt64).toInt64))])) rfl (hb hby dq2_10) _ q) ?_
  refine own_t2 (.long (((q1.toUInt64 >>> ((2 : Int32) &&& 0x3f).toInt64.toUInt64).toInt64) &&& (65535 : Int64))) 14 (fun _ q => XS.land X0.here hx rfl (hb hby dq2_13) rfl q) ?_
  refine own_t1 (.int ((((q1.toUInt64 >>> ((2 : Int32) &&& 0x3f).toInt64.toUInt64).toInt64) &&& (65535 : Int64)).toInt32)) 15 (fun _ q => XS.l2i X0.here hx rfl (hb hby dq2_14) rfl q) ?_
  refine own_ls #[.val (.long q1), .second, .val (.int ((q1 &&& (3 : Int64)).toInt32)), .val (.int ((((q1.toUInt64 >>> ((2 : Int32) &&& 0x3f).toInt64.toUInt64).toInt64) &&& (65535 : Int64)).toInt32))] 16 (fun _ q => XS.istoreN X0.here hx rfl (hb hby dq2_15) rfl (l' := #[.val (.long q1), .second, .val (.int ((q1 &&& (3 : Int64)).toInt32)), .val (.int ((((q1.toUInt64 >>> ((2 : Int32) &&& 0x3f).toInt64.toUInt64).toInt64) &&& (65535 : Int64)).toInt32))]) rfl q) ?_
  refine own_tp (.int ((q1 &&& (3 : Int64)).toInt32)) 17 (fun _ q => XS.iloadN X0.here hx rfl (hb hby dq2_16) rfl q) ?_
  by_cases c51 : ((q1 &&& (3 : Int64)).toInt32) = (0 : Int32)
  ·
    refine own_d1 20 (fun _ q => XS.ifNo X0.here hx rfl (hb hby dq2_17) rfl ((if0 _ _).trans (teq c51).2) q) ?_
    refine own_tp (.int ((((q1.toUInt64 >>> ((2 : Int32) &&& 0x3f).toInt64.toUInt64).toInt64) &&& (65535 : Int64)).toInt32)) 21 (fun _ q => XS.iloadN X0.here hx rfl (hb hby dq2_20) rfl q) ?_
    refine own_t1 (.int (((((q1.toUInt64 >>> ((2 : Int32) &&& 0x3f).toInt64.toUInt64).toInt64) &&& (65535 : Int64)).toInt32).toUInt32.toUInt16.toUInt32.toInt32)) 22 (fun _ q => XS.i2c X0.here hx rfl (hb hby dq2_21) rfl q) ?_
    exact own_retN (t := .char) X0 hx hrt (hb hby dq2_22) (by simp) hlk (by decide) (by decide) e0 (⟨_, rfl, own_c16 _, N0, rfl⟩)
  ·
    refine own_d1 23 (fun _ q => XS.ifYes X0.here hx rfl (pc0 := 17) (pc' := 23) rfl (hb hby dq2_17) rfl ((if0 _ _).trans (feq c51).2) (by decide) (by decide) q) ?_
    refine own_tp (.int ((q1 &&& (3 : Int64)).toInt32)) 24 (fun _ q => XS.iloadN X0.here hx rfl (hb hby dq2_23) rfl q) ?_
    refine own_tp (.int (1 : Int32)) 25 (fun _ q => XS.iconst X0.here hx rfl (hb hby dq2_24) q) ?_
    by_cases c52 : ((q1 &&& (3 : Int64)).toInt32) = (1 : Int32)
    ·
      refine own_d2 28 (fun _ q => XS.icmpNo X0.here hx rfl (hb hby dq2_25) rfl (teq c52).2 q) ?_
      refine own_tp (.int (55296 : Int32)) 30 (fun _ q => X0.ldcInt hx hown (mvT hZ (own_w hw 7 rfl)) (g := (mkF m 28 #[.val (.long q1), .second, .val (.int ((q1 &&& (3 : Int64)).toInt32)), .val (.int ((((q1.toUInt64 >>> ((2 : Int32) &&& 0x3f).toInt64.toUInt64).toInt64) &&& (65535 : Int64)).toInt32))] [])) rfl (hb hby dq2_28) _ q) ?_
      refine own_tp (.int ((((q1.toUInt64 >>> ((2 : Int32) &&& 0x3f).toInt64.toUInt64).toInt64) &&& (65535 : Int64)).toInt32)) 31 (fun _ q => XS.iloadN X0.here hx rfl (hb hby dq2_30) rfl q) ?_
      refine own_tp (.int (1023 : Int32)) 34 (fun _ q => XS.sipush X0.here hx rfl (hb hby dq2_31) q) ?_
      refine own_t2 (.int (((((q1.toUInt64 >>> ((2 : Int32) &&& 0x3f).toInt64.toUInt64).toInt64) &&& (65535 : Int64)).toInt32) &&& (1023 : Int32))) 35 (fun _ q => XS.iand X0.here hx rfl (hb hby dq2_34) rfl q) ?_
      refine own_t2 (.int ((55296 : Int32) + (((((q1.toUInt64 >>> ((2 : Int32) &&& 0x3f).toInt64.toUInt64).toInt64) &&& (65535 : Int64)).toInt32) &&& (1023 : Int32)))) 36 (fun _ q => XS.iadd X0.here hx rfl (hb hby dq2_35) rfl q) ?_
      refine own_t1 (.int (((55296 : Int32) + (((((q1.toUInt64 >>> ((2 : Int32) &&& 0x3f).toInt64.toUInt64).toInt64) &&& (65535 : Int64)).toInt32) &&& (1023 : Int32))).toUInt32.toUInt16.toUInt32.toInt32)) 37 (fun _ q => XS.i2c X0.here hx rfl (hb hby dq2_36) rfl q) ?_
      exact own_retN (t := .char) X0 hx hrt (hb hby dq2_37) (by simp) hlk (by decide) (by decide) e0 (⟨_, rfl, own_c16 _, N0, rfl⟩)
    ·
      refine own_d2 38 (fun _ q => XS.icmpYes X0.here hx rfl (pc0 := 25) (pc' := 38) rfl (hb hby dq2_25) rfl (feq c52).2 (by decide) (by decide) q) ?_
      refine own_tp (.int ((q1 &&& (3 : Int64)).toInt32)) 39 (fun _ q => XS.iloadN X0.here hx rfl (hb hby dq2_38) rfl q) ?_
      refine own_tp (.int (2 : Int32)) 40 (fun _ q => XS.iconst X0.here hx rfl (hb hby dq2_39) q) ?_
      by_cases c53 : ((q1 &&& (3 : Int64)).toInt32) = (2 : Int32)
      ·
        refine own_d2 43 (fun _ q => XS.icmpNo X0.here hx rfl (hb hby dq2_40) rfl (teq c53).2 q) ?_
        refine own_tp (.int (56320 : Int32)) 45 (fun _ q => X0.ldcInt hx hown (mvT hZ (own_w hw 98 rfl)) (g := (mkF m 43 #[.val (.long q1), .second, .val (.int ((q1 &&& (3 : Int64)).toInt32)), .val (.int ((((q1.toUInt64 >>> ((2 : Int32) &&& 0x3f).toInt64.toUInt64).toInt64) &&& (65535 : Int64)).toInt32))] [])) rfl (hb hby dq2_43) _ q) ?_
        refine own_tp (.int ((((q1.toUInt64 >>> ((2 : Int32) &&& 0x3f).toInt64.toUInt64).toInt64) &&& (65535 : Int64)).toInt32)) 46 (fun _ q => XS.iloadN X0.here hx rfl (hb hby dq2_45) rfl q) ?_
        refine own_tp (.int (1023 : Int32)) 49 (fun _ q => XS.sipush X0.here hx rfl (hb hby dq2_46) q) ?_
        refine own_t2 (.int (((((q1.toUInt64 >>> ((2 : Int32) &&& 0x3f).toInt64.toUInt64).toInt64) &&& (65535 : Int64)).toInt32) &&& (1023 : Int32))) 50 (fun _ q => XS.iand X0.here hx rfl (hb hby dq2_49) rfl q) ?_
        refine own_t2 (.int ((56320 : Int32) + (((((q1.toUInt64 >>> ((2 : Int32) &&& 0x3f).toInt64.toUInt64).toInt64) &&& (65535 : Int64)).toInt32) &&& (1023 : Int32)))) 51 (fun _ q => XS.iadd X0.here hx rfl (hb hby dq2_50) rfl q) ?_
        refine own_t1 (.int (((56320 : Int32) + (((((q1.toUInt64 >>> ((2 : Int32) &&& 0x3f).toInt64.toUInt64).toInt64) &&& (65535 : Int64)).toInt32) &&& (1023 : Int32))).toUInt32.toUInt16.toUInt32.toInt32)) 52 (fun _ q => XS.i2c X0.here hx rfl (hb hby dq2_51) rfl q) ?_
        exact own_retN (t := .char) X0 hx hrt (hb hby dq2_52) (by simp) hlk (by decide) (by decide) e0 (⟨_, rfl, own_c16 _, N0, rfl⟩)
      ·
        refine own_d2 53 (fun _ q => XS.icmpYes X0.here hx rfl (pc0 := 40) (pc' := 53) rfl (hb hby dq2_40) rfl (feq c53).2 (by decide) (by decide) q) ?_
        refine own_tp (.int (57344 : Int32)) 55 (fun _ q => X0.ldcInt hx hown (mvT hZ (own_w hw 6 rfl)) (g := (mkF m 53 #[.val (.long q1), .second, .val (.int ((q1 &&& (3 : Int64)).toInt32)), .val (.int ((((q1.toUInt64 >>> ((2 : Int32) &&& 0x3f).toInt64.toUInt64).toInt64) &&& (65535 : Int64)).toInt32))] [])) rfl (hb hby dq2_53) _ q) ?_
        refine own_tp (.int ((((q1.toUInt64 >>> ((2 : Int32) &&& 0x3f).toInt64.toUInt64).toInt64) &&& (65535 : Int64)).toInt32)) 56 (fun _ q => XS.iloadN X0.here hx rfl (hb hby dq2_55) rfl q) ?_
        refine own_tp (.int (8191 : Int32)) 59 (fun _ q => XS.sipush X0.here hx rfl (hb hby dq2_56) q) ?_
        refine own_t2 (.int (((((q1.toUInt64 >>> ((2 : Int32) &&& 0x3f).toInt64.toUInt64).toInt64) &&& (65535 : Int64)).toInt32) &&& (8191 : Int32))) 60 (fun _ q => XS.iand X0.here hx rfl (hb hby dq2_59) rfl q) ?_
        refine own_t2 (.int ((57344 : Int32) + (((((q1.toUInt64 >>> ((2 : Int32) &&& 0x3f).toInt64.toUInt64).toInt64) &&& (65535 : Int64)).toInt32) &&& (8191 : Int32)))) 61 (fun _ q => XS.iadd X0.here hx rfl (hb hby dq2_60) rfl q) ?_
        refine own_t1 (.int (((57344 : Int32) + (((((q1.toUInt64 >>> ((2 : Int32) &&& 0x3f).toInt64.toUInt64).toInt64) &&& (65535 : Int64)).toInt32) &&& (8191 : Int32))).toUInt32.toUInt16.toUInt32.toInt32)) 62 (fun _ q => XS.i2c X0.here hx rfl (hb hby dq2_61) rfl q) ?_
        exact own_retN (t := .char) X0 hx hrt (hb hby dq2_62) (by simp) hlk (by decide) (by decide) e0 (⟨_, rfl, own_c16 _, N0, rfl⟩)

def Q2 (p1 : Int32) (h0 : Heap) (n0 : Nat) (v : Option Value) (h : Heap) (L : List Loc) : Prop := v = some (.int (own_hi p1)) ∧ Fr n0 L ∧ h = h0

set_option maxRecDepth 65536 in
set_option maxHeartbeats 40000000 in
theorem rm2 (l : Launch) (Z : State) (a0 : Array Value) (hw : ∀ d ∈ tables_1, d.before a0 Z = true) (ws : List Jvm.Cond) (p1 : Int32) (h0 : Heap) (n0 : Nat)  :
    own_Met l (⟨"com/example/cited_experts/citedexperts/Utf8OrderComparePinLaw", "hi", "(C)Z"⟩ : MethodName) method_3_code 1 (some .boolean) ws own_R_0_0_0_0 Z #[(.int p1)] h0 (Q2 p1 h0 n0) := by
  refine own_enter #[.val (.int p1)] (plainFor_of_name pn_com_example_cited_experts_citedexperts_Utf8OrderComparePinLaw) (fun m => ef_I_1 m p1) ?_
  intro p e s m below meth c s₁ hx hby hml hown hnm hZ hrt hlk X0 e0
  have N0 := Fr.nil n0
  refine own_tp (.int p1) 1 (fun _ q => XS.iloadN X0.here hx rfl (hb hby dq3_0) rfl q) ?_
  refine own_tp (.int (55296 : Int32)) 3 (fun _ q => X0.ldcInt hx hown (mvT hZ (own_w hw 7 rfl)) (g := (mkF m 1 #[.val (.int p1)] [(.int p1)])) rfl (hb hby dq3_1) _ q) ?_
  by_cases c51 : p1 < (55296 : Int32)
  ·
    refine own_d2 16 (fun _ q => XS.icmpYes X0.here hx rfl (pc0 := 3) (pc' := 16) rfl (hb hby dq3_3) rfl (tlt c51).1 (by decide) (by decide) q) ?_
    refine own_tp (.int (0 : Int32)) 17 (fun _ q => XS.iconst X0.here hx rfl (hb hby dq3_16) q) ?_
    exact own_retN (t := .boolean) X0 hx hrt (hb hby dq3_17) (by simp) hlk (by decide) (by decide) e0 (⟨by have hv : own_hi p1 = (0 : Int32) := (by first | (simp only [own_hi, c51, ↓reduceIte]; done) | (simp [own_hi, c51]; done)); rw [hv] <;> rfl, N0, rfl⟩)
  ·
    refine own_d2 6 (fun _ q => XS.icmpNo X0.here hx rfl (hb hby dq3_3) rfl (flt c51).1 q) ?_
    refine own_tp (.int p1) 7 (fun _ q => XS.iloadN X0.here hx rfl (hb hby dq3_6) rfl q) ?_
    refine own_tp (.int (56319 : Int32)) 9 (fun _ q => X0.ldcInt hx hown (mvT hZ (own_w hw 133 rfl)) (g := (mkF m 7 #[.val (.int p1)] [(.int p1)])) rfl (hb hby dq3_7) _ q) ?_
    by_cases c52 : (56319 : Int32) < p1
    ·
      refine own_d2 16 (fun _ q => XS.icmpYes X0.here hx rfl (pc0 := 9) (pc' := 16) rfl (hb hby dq3_9) rfl (tlt c52).2.2.1 (by decide) (by decide) q) ?_
      refine own_tp (.int (0 : Int32)) 17 (fun _ q => XS.iconst X0.here hx rfl (hb hby dq3_16) q) ?_
      exact own_retN (t := .boolean) X0 hx hrt (hb hby dq3_17) (by simp) hlk (by decide) (by decide) e0 (⟨by have hv : own_hi p1 = (0 : Int32) := (by first | (simp only [own_hi, c51, c52, ↓reduceIte]; done) | (simp [own_hi, c51, c52]; done)); rw [hv] <;> rfl, N0, rfl⟩)
    ·
      refine own_d2 12 (fun _ q => XS.icmpNo X0.here hx rfl (hb hby dq3_9) rfl (flt c52).2.2.1 q) ?_
      refine own_tp (.int (1 : Int32)) 13 (fun _ q => XS.iconst X0.here hx rfl (hb hby dq3_12) q) ?_
      refine own_d0 17 (fun _ q => XS.goto X0.here hx rfl (pc0 := 13) (pc' := 17) rfl (hb hby dq3_13) (by decide) (by decide) q) ?_
      exact own_retN (t := .boolean) X0 hx hrt (hb hby dq3_17) (by simp) hlk (by decide) (by decide) e0 (⟨by have hv : own_hi p1 = (1 : Int32) := (by first | (simp only [own_hi, c51, c52, ↓reduceIte]; done) | (simp [own_hi, c51, c52]; done)); rw [hv] <;> rfl, N0, rfl⟩)

def Q3 (p1 : Int32) (h0 : Heap) (n0 : Nat) (v : Option Value) (h : Heap) (L : List Loc) : Prop := v = some (.int (own_lw p1)) ∧ Fr n0 L ∧ h = h0

set_option maxRecDepth 65536 in
set_option maxHeartbeats 40000000 in
theorem rm3 (l : Launch) (Z : State) (a0 : Array Value) (hw : ∀ d ∈ tables_1, d.before a0 Z = true) (ws : List Jvm.Cond) (p1 : Int32) (h0 : Heap) (n0 : Nat)  :
    own_Met l (⟨"com/example/cited_experts/citedexperts/Utf8OrderComparePinLaw", "lo", "(C)Z"⟩ : MethodName) method_4_code 1 (some .boolean) ws own_R_0_0_0_0 Z #[(.int p1)] h0 (Q3 p1 h0 n0) := by
  refine own_enter #[.val (.int p1)] (plainFor_of_name pn_com_example_cited_experts_citedexperts_Utf8OrderComparePinLaw) (fun m => ef_I_1 m p1) ?_
  intro p e s m below meth c s₁ hx hby hml hown hnm hZ hrt hlk X0 e0
  have N0 := Fr.nil n0
  refine own_tp (.int p1) 1 (fun _ q => XS.iloadN X0.here hx rfl (hb hby dq4_0) rfl q) ?_
  refine own_tp (.int (56320 : Int32)) 3 (fun _ q => X0.ldcInt hx hown (mvT hZ (own_w hw 98 rfl)) (g := (mkF m 1 #[.val (.int p1)] [(.int p1)])) rfl (hb hby dq4_1) _ q) ?_
  by_cases c51 : p1 < (56320 : Int32)
  ·
    refine own_d2 16 (fun _ q => XS.icmpYes X0.here hx rfl (pc0 := 3) (pc' := 16) rfl (hb hby dq4_3) rfl (tlt c51).1 (by decide) (by decide) q) ?_
    refine own_tp (.int (0 : Int32)) 17 (fun _ q => XS.iconst X0.here hx rfl (hb hby dq4_16) q) ?_
    exact own_retN (t := .boolean) X0 hx hrt (hb hby dq4_17) (by simp) hlk (by decide) (by decide) e0 (⟨by have hv : own_lw p1 = (0 : Int32) := (by first | (simp only [own_lw, c51, ↓reduceIte]; done) | (simp [own_lw, c51]; done)); rw [hv] <;> rfl, N0, rfl⟩)
  ·
    refine own_d2 6 (fun _ q => XS.icmpNo X0.here hx rfl (hb hby dq4_3) rfl (flt c51).1 q) ?_
    refine own_tp (.int p1) 7 (fun _ q => XS.iloadN X0.here hx rfl (hb hby dq4_6) rfl q) ?_
    refine own_tp (.int (57343 : Int32)) 9 (fun _ q => X0.ldcInt hx hown (mvT hZ (own_w hw 140 rfl)) (g := (mkF m 7 #[.val (.int p1)] [(.int p1)])) rfl (hb hby dq4_7) _ q) ?_
    by_cases c52 : (57343 : Int32) < p1
    ·
      refine own_d2 16 (fun _ q => XS.icmpYes X0.here hx rfl (pc0 := 9) (pc' := 16) rfl (hb hby dq4_9) rfl (tlt c52).2.2.1 (by decide) (by decide) q) ?_
      refine own_tp (.int (0 : Int32)) 17 (fun _ q => XS.iconst X0.here hx rfl (hb hby dq4_16) q) ?_
      exact own_retN (t := .boolean) X0 hx hrt (hb hby dq4_17) (by simp) hlk (by decide) (by decide) e0 (⟨by have hv : own_lw p1 = (0 : Int32) := (by first | (simp only [own_lw, c51, c52, ↓reduceIte]; done) | (simp [own_lw, c51, c52]; done)); rw [hv] <;> rfl, N0, rfl⟩)
    ·
      refine own_d2 12 (fun _ q => XS.icmpNo X0.here hx rfl (hb hby dq4_9) rfl (flt c52).2.2.1 q) ?_
      refine own_tp (.int (1 : Int32)) 13 (fun _ q => XS.iconst X0.here hx rfl (hb hby dq4_12) q) ?_
      refine own_d0 17 (fun _ q => XS.goto X0.here hx rfl (pc0 := 13) (pc' := 17) rfl (hb hby dq4_13) (by decide) (by decide) q) ?_
      exact own_retN (t := .boolean) X0 hx hrt (hb hby dq4_17) (by simp) hlk (by decide) (by decide) e0 (⟨by have hv : own_lw p1 = (1 : Int32) := (by first | (simp only [own_lw, c51, c52, ↓reduceIte]; done) | (simp [own_lw, c51, c52]; done)); rw [hv] <;> rfl, N0, rfl⟩)

def Q4 (p1 p2 : Int32) (h0 : Heap) (n0 : Nat) (v : Option Value) (h : Heap) (L : List Loc) : Prop := v = some (.int (own_pair p1 p2)) ∧ Fr n0 L ∧ h = h0

set_option maxRecDepth 65536 in
set_option maxHeartbeats 40000000 in
theorem rm4 (l : Launch) (Z : State) (a0 : Array Value) (hw : ∀ d ∈ tables_1, d.before a0 Z = true) (ws : List Jvm.Cond) (p1 p2 : Int32) (h0 : Heap) (n0 : Nat)  :
    own_Met l (⟨"com/example/cited_experts/citedexperts/Utf8OrderComparePinLaw", "pair", "(CC)I"⟩ : MethodName) method_5_code 2 (some .int) ws own_R_0_0_0_0 Z #[(.int p1), (.int p2)] h0 (Q4 p1 p2 h0 n0) := by
  refine own_enter #[.val (.int p1), .val (.int p2)] (plainFor_of_name pn_com_example_cited_experts_citedexperts_Utf8OrderComparePinLaw) (fun m => ef_II_2 m p1 p2) ?_
  intro p e s m below meth c s₁ hx hby hml hown hnm hZ hrt hlk X0 e0
  have N0 := Fr.nil n0
  refine own_tp (.int (65536 : Int32)) 2 (fun _ q => X0.ldcInt hx hown (mvT hZ (own_w hw 149 rfl)) (g := (mkF m 0 #[.val (.int p1), .val (.int p2)] [])) rfl (hb hby dq5_0) _ q) ?_
  refine own_tp (.int p1) 3 (fun _ q => XS.iloadN X0.here hx rfl (hb hby dq5_2) rfl q) ?_
  refine own_tp (.int (55296 : Int32)) 5 (fun _ q => X0.ldcInt hx hown (mvT hZ (own_w hw 7 rfl)) (g := (mkF m 3 #[.val (.int p1), .val (.int p2)] [(.int p1), (.int (65536 : Int32))])) rfl (hb hby dq5_3) _ q) ?_
  refine own_t2 (.int (p1 - (55296 : Int32))) 6 (fun _ q => XS.isub X0.here hx rfl (hb hby dq5_5) rfl q) ?_
  refine own_tp (.int (10 : Int32)) 8 (fun _ q => XS.bipush X0.here hx rfl (hb hby dq5_6) q) ?_
  refine own_t2 (.int ((p1 - (55296 : Int32)) <<< ((10 : Int32) &&& 31))) 9 (fun _ q => XS.ishl X0.here hx rfl (hb hby dq5_8) rfl q) ?_
  refine own_t2 (.int ((65536 : Int32) + ((p1 - (55296 : Int32)) <<< ((10 : Int32) &&& 31)))) 10 (fun _ q => XS.iadd X0.here hx rfl (hb hby dq5_9) rfl q) ?_
  refine own_tp (.int p2) 11 (fun _ q => XS.iloadN X0.here hx rfl (hb hby dq5_10) rfl q) ?_
  refine own_tp (.int (56320 : Int32)) 13 (fun _ q => X0.ldcInt hx hown (mvT hZ (own_w hw 98 rfl)) (g := (mkF m 11 #[.val (.int p1), .val (.int p2)] [(.int p2), (.int ((65536 : Int32) + ((p1 - (55296 : Int32)) <<< ((10 : Int32) &&& 31))))])) rfl (hb hby dq5_11) _ q) ?_
  refine own_t2 (.int (p2 - (56320 : Int32))) 14 (fun _ q => XS.isub X0.here hx rfl (hb hby dq5_13) rfl q) ?_
  refine own_t2 (.int (((65536 : Int32) + ((p1 - (55296 : Int32)) <<< ((10 : Int32) &&& 31))) + (p2 - (56320 : Int32)))) 15 (fun _ q => XS.iadd X0.here hx rfl (hb hby dq5_14) rfl q) ?_
  exact own_retI X0 hx hrt (hb hby dq5_15) hlk (by decide) (by decide) e0 (⟨by have hv : own_pair p1 p2 = (((65536 : Int32) + ((p1 - (55296 : Int32)) <<< ((10 : Int32) &&& 31))) + (p2 - (56320 : Int32))) := (by first | (simp only [own_pair, ↓reduceIte]; done) | (simp [own_pair]; done)); rw [hv] <;> rfl, N0, rfl⟩)

def Q5 (p1 : Int32) (h0 : Heap) (n0 : Nat) (v : Option Value) (h : Heap) (L : List Loc) : Prop := v = some (.int (own_sg p1)) ∧ Fr n0 L ∧ h = h0

set_option maxRecDepth 65536 in
set_option maxHeartbeats 40000000 in
theorem rm5 (l : Launch) (Z : State) (a0 : Array Value) (hw : ∀ d ∈ tables_1, d.before a0 Z = true) (ws : List Jvm.Cond) (p1 : Int32) (h0 : Heap) (n0 : Nat)  :
    own_Met l (⟨"com/example/cited_experts/citedexperts/Utf8OrderComparePinLaw", "sign", "(I)I"⟩ : MethodName) method_9_code 1 (some .int) ws own_R_0_0_0_0 Z #[(.int p1)] h0 (Q5 p1 h0 n0) := by
  refine own_enter #[.val (.int p1)] (plainFor_of_name pn_com_example_cited_experts_citedexperts_Utf8OrderComparePinLaw) (fun m => ef_I_1 m p1) ?_
  intro p e s m below meth c s₁ hx hby hml hown hnm hZ hrt hlk X0 e0
  have N0 := Fr.nil n0
  refine own_tp (.int p1) 1 (fun _ q => XS.iloadN X0.here hx rfl (hb hby dq9_0) rfl q) ?_
  by_cases c51 : p1 < (0 : Int32)
  ·
    refine own_d1 4 (fun _ q => XS.ifNo X0.here hx rfl (hb hby dq9_1) rfl ((if0 _ _).trans (tlt c51).2.1) q) ?_
    refine own_tp (.int (-1 : Int32)) 5 (fun _ q => XS.iconst X0.here hx rfl (hb hby dq9_4) q) ?_
    exact own_retI X0 hx hrt (hb hby dq9_5) hlk (by decide) (by decide) e0 (⟨by have hv : own_sg p1 = (-1 : Int32) := (by first | (simp only [own_sg, c51, ↓reduceIte]; done) | (simp [own_sg, c51]; done)); rw [hv] <;> rfl, N0, rfl⟩)
  ·
    refine own_d1 6 (fun _ q => XS.ifYes X0.here hx rfl (pc0 := 1) (pc' := 6) rfl (hb hby dq9_1) rfl ((if0 _ _).trans (flt c51).2.1) (by decide) (by decide) q) ?_
    refine own_tp (.int p1) 7 (fun _ q => XS.iloadN X0.here hx rfl (hb hby dq9_6) rfl q) ?_
    by_cases c52 : (0 : Int32) < p1
    ·
      refine own_d1 10 (fun _ q => XS.ifNo X0.here hx rfl (hb hby dq9_7) rfl ((if0 _ _).trans (tlt c52).2.2.2) q) ?_
      refine own_tp (.int (1 : Int32)) 11 (fun _ q => XS.iconst X0.here hx rfl (hb hby dq9_10) q) ?_
      exact own_retI X0 hx hrt (hb hby dq9_11) hlk (by decide) (by decide) e0 (⟨by have hv : own_sg p1 = (1 : Int32) := (by first | (simp only [own_sg, c51, c52, ↓reduceIte]; done) | (simp [own_sg, c51, c52]; done)); rw [hv] <;> rfl, N0, rfl⟩)
    ·
      refine own_d1 12 (fun _ q => XS.ifYes X0.here hx rfl (pc0 := 7) (pc' := 12) rfl (hb hby dq9_7) rfl ((if0 _ _).trans (flt c52).2.2.2) (by decide) (by decide) q) ?_
      refine own_tp (.int (0 : Int32)) 13 (fun _ q => XS.iconst X0.here hx rfl (hb hby dq9_12) q) ?_
      exact own_retI X0 hx hrt (hb hby dq9_13) hlk (by decide) (by decide) e0 (⟨by have hv : own_sg p1 = (0 : Int32) := (by first | (simp only [own_sg, c51, c52, ↓reduceIte]; done) | (simp [own_sg, c51, c52]; done)); rw [hv] <;> rfl, N0, rfl⟩)

def Q6 (p1 : Int32) (h0 : Heap) (n0 : Nat) (v : Option Value) (h : Heap) (L : List Loc) : Prop := v = some (.int (own_hs p1)) ∧ Fr n0 L ∧ h = h0

set_option maxRecDepth 65536 in
set_option maxHeartbeats 40000000 in
theorem rm6 (l : Launch) (Z : State) (a0 : Array Value) (hw : ∀ d ∈ tables_1, d.before a0 Z = true) (ws : List Jvm.Cond) (p1 : Int32) (h0 : Heap) (n0 : Nat)  :
    own_Met l (⟨"java/lang/Character", "isHighSurrogate", "(C)Z"⟩ : MethodName) jdk_89_method_14_code 1 (some .boolean) ws own_R_0_0_0_0 Z #[(.int p1)] h0 (Q6 p1 h0 n0) := by
  refine own_enter #[.val (.int p1)] (plainFor_of_name pn_java_lang_Character) (fun m => ef_I_1 m p1) ?_
  intro p e s m below meth c s₁ hx hby hml hown hnm hZ hrt hlk X0 e0
  have N0 := Fr.nil n0
  refine own_tp (.int p1) 1 (fun _ q => XS.iloadN X0.here hx rfl (hb hby dj89m14_0) rfl q) ?_
  refine own_tp (.int (55296 : Int32)) 3 (fun _ q => X0.ldcInt hx hown (mvT hZ (own_w hw 127 rfl)) (g := (mkF m 1 #[.val (.int p1)] [(.int p1)])) rfl (hb hby dj89m14_1) _ q) ?_
  by_cases c51 : p1 < (55296 : Int32)
  ·
    refine own_d2 16 (fun _ q => XS.icmpYes X0.here hx rfl (pc0 := 3) (pc' := 16) rfl (hb hby dj89m14_3) rfl (tlt c51).1 (by decide) (by decide) q) ?_
    refine own_tp (.int (0 : Int32)) 17 (fun _ q => XS.iconst X0.here hx rfl (hb hby dj89m14_16) q) ?_
    exact own_retN (t := .boolean) X0 hx hrt (hb hby dj89m14_17) (by simp) hlk (by decide) (by decide) e0 (⟨by have hv : own_hs p1 = (0 : Int32) := (by first | (simp only [own_hs, c51, ↓reduceIte]; done) | (simp [own_hs, c51]; done)); rw [hv] <;> rfl, N0, rfl⟩)
  ·
    refine own_d2 6 (fun _ q => XS.icmpNo X0.here hx rfl (hb hby dj89m14_3) rfl (flt c51).1 q) ?_
    refine own_tp (.int p1) 7 (fun _ q => XS.iloadN X0.here hx rfl (hb hby dj89m14_6) rfl q) ?_
    refine own_tp (.int (56320 : Int32)) 9 (fun _ q => X0.ldcInt hx hown (mvT hZ (own_w hw 128 rfl)) (g := (mkF m 7 #[.val (.int p1)] [(.int p1)])) rfl (hb hby dj89m14_7) _ q) ?_
    by_cases c52 : p1 < (56320 : Int32)
    ·
      refine own_d2 12 (fun _ q => XS.icmpNo X0.here hx rfl (hb hby dj89m14_9) rfl (tlt c52).2.1 q) ?_
      refine own_tp (.int (1 : Int32)) 13 (fun _ q => XS.iconst X0.here hx rfl (hb hby dj89m14_12) q) ?_
      refine own_d0 17 (fun _ q => XS.goto X0.here hx rfl (pc0 := 13) (pc' := 17) rfl (hb hby dj89m14_13) (by decide) (by decide) q) ?_
      exact own_retN (t := .boolean) X0 hx hrt (hb hby dj89m14_17) (by simp) hlk (by decide) (by decide) e0 (⟨by have hv : own_hs p1 = (1 : Int32) := (by first | (simp only [own_hs, c51, c52, ↓reduceIte]; done) | (simp [own_hs, c51, c52]; done)); rw [hv] <;> rfl, N0, rfl⟩)
    ·
      refine own_d2 16 (fun _ q => XS.icmpYes X0.here hx rfl (pc0 := 9) (pc' := 16) rfl (hb hby dj89m14_9) rfl (flt c52).2.1 (by decide) (by decide) q) ?_
      refine own_tp (.int (0 : Int32)) 17 (fun _ q => XS.iconst X0.here hx rfl (hb hby dj89m14_16) q) ?_
      exact own_retN (t := .boolean) X0 hx hrt (hb hby dj89m14_17) (by simp) hlk (by decide) (by decide) e0 (⟨by have hv : own_hs p1 = (0 : Int32) := (by first | (simp only [own_hs, c51, c52, ↓reduceIte]; done) | (simp [own_hs, c51, c52]; done)); rw [hv] <;> rfl, N0, rfl⟩)

def Q7 (p1 : Int32) (h0 : Heap) (n0 : Nat) (v : Option Value) (h : Heap) (L : List Loc) : Prop := v = some (.int (own_lsu p1)) ∧ Fr n0 L ∧ h = h0

set_option maxRecDepth 65536 in
set_option maxHeartbeats 40000000 in
theorem rm7 (l : Launch) (Z : State) (a0 : Array Value) (hw : ∀ d ∈ tables_1, d.before a0 Z = true) (ws : List Jvm.Cond) (p1 : Int32) (h0 : Heap) (n0 : Nat)  :
    own_Met l (⟨"java/lang/Character", "isLowSurrogate", "(C)Z"⟩ : MethodName) jdk_89_method_15_code 1 (some .boolean) ws own_R_0_0_0_0 Z #[(.int p1)] h0 (Q7 p1 h0 n0) := by
  refine own_enter #[.val (.int p1)] (plainFor_of_name pn_java_lang_Character) (fun m => ef_I_1 m p1) ?_
  intro p e s m below meth c s₁ hx hby hml hown hnm hZ hrt hlk X0 e0
  have N0 := Fr.nil n0
  refine own_tp (.int p1) 1 (fun _ q => XS.iloadN X0.here hx rfl (hb hby dj89m15_0) rfl q) ?_
  refine own_tp (.int (56320 : Int32)) 3 (fun _ q => X0.ldcInt hx hown (mvT hZ (own_w hw 128 rfl)) (g := (mkF m 1 #[.val (.int p1)] [(.int p1)])) rfl (hb hby dj89m15_1) _ q) ?_
  by_cases c51 : p1 < (56320 : Int32)
  ·
    refine own_d2 16 (fun _ q => XS.icmpYes X0.here hx rfl (pc0 := 3) (pc' := 16) rfl (hb hby dj89m15_3) rfl (tlt c51).1 (by decide) (by decide) q) ?_
    refine own_tp (.int (0 : Int32)) 17 (fun _ q => XS.iconst X0.here hx rfl (hb hby dj89m15_16) q) ?_
    exact own_retN (t := .boolean) X0 hx hrt (hb hby dj89m15_17) (by simp) hlk (by decide) (by decide) e0 (⟨by have hv : own_lsu p1 = (0 : Int32) := (by first | (simp only [own_lsu, c51, ↓reduceIte]; done) | (simp [own_lsu, c51]; done)); rw [hv] <;> rfl, N0, rfl⟩)
  ·
    refine own_d2 6 (fun _ q => XS.icmpNo X0.here hx rfl (hb hby dj89m15_3) rfl (flt c51).1 q) ?_
    refine own_tp (.int p1) 7 (fun _ q => XS.iloadN X0.here hx rfl (hb hby dj89m15_6) rfl q) ?_
    refine own_tp (.int (57344 : Int32)) 9 (fun _ q => X0.ldcInt hx hown (mvT hZ (own_w hw 141 rfl)) (g := (mkF m 7 #[.val (.int p1)] [(.int p1)])) rfl (hb hby dj89m15_7) _ q) ?_
    by_cases c52 : p1 < (57344 : Int32)
    ·
      refine own_d2 12 (fun _ q => XS.icmpNo X0.here hx rfl (hb hby dj89m15_9) rfl (tlt c52).2.1 q) ?_
      refine own_tp (.int (1 : Int32)) 13 (fun _ q => XS.iconst X0.here hx rfl (hb hby dj89m15_12) q) ?_
      refine own_d0 17 (fun _ q => XS.goto X0.here hx rfl (pc0 := 13) (pc' := 17) rfl (hb hby dj89m15_13) (by decide) (by decide) q) ?_
      exact own_retN (t := .boolean) X0 hx hrt (hb hby dj89m15_17) (by simp) hlk (by decide) (by decide) e0 (⟨by have hv : own_lsu p1 = (1 : Int32) := (by first | (simp only [own_lsu, c51, c52, ↓reduceIte]; done) | (simp [own_lsu, c51, c52]; done)); rw [hv] <;> rfl, N0, rfl⟩)
    ·
      refine own_d2 16 (fun _ q => XS.icmpYes X0.here hx rfl (pc0 := 9) (pc' := 16) rfl (hb hby dj89m15_9) rfl (flt c52).2.1 (by decide) (by decide) q) ?_
      refine own_tp (.int (0 : Int32)) 17 (fun _ q => XS.iconst X0.here hx rfl (hb hby dj89m15_16) q) ?_
      exact own_retN (t := .boolean) X0 hx hrt (hb hby dj89m15_17) (by simp) hlk (by decide) (by decide) e0 (⟨by have hv : own_lsu p1 = (0 : Int32) := (by first | (simp only [own_lsu, c51, c52, ↓reduceIte]; done) | (simp [own_lsu, c51, c52]; done)); rw [hv] <;> rfl, N0, rfl⟩)

def Q8 (p1 : Int32) (h0 : Heap) (n0 : Nat) (v : Option Value) (h : Heap) (L : List Loc) : Prop := v = some (.int (own_cc p1)) ∧ Fr n0 L ∧ h = h0

set_option maxRecDepth 65536 in
set_option maxHeartbeats 40000000 in
theorem rm8 (l : Launch) (Z : State) (a0 : Array Value) (hw : ∀ d ∈ tables_1, d.before a0 Z = true) (ws : List Jvm.Cond) (p1 : Int32) (h0 : Heap) (n0 : Nat)  :
    own_Met l (⟨"java/lang/Character", "charCount", "(I)I"⟩ : MethodName) jdk_89_method_18_code 1 (some .int) ws own_R_0_0_0_0 Z #[(.int p1)] h0 (Q8 p1 h0 n0) := by
  refine own_enter #[.val (.int p1)] (plainFor_of_name pn_java_lang_Character) (fun m => ef_I_1 m p1) ?_
  intro p e s m below meth c s₁ hx hby hml hown hnm hZ hrt hlk X0 e0
  have N0 := Fr.nil n0
  refine own_tp (.int p1) 1 (fun _ q => XS.iloadN X0.here hx rfl (hb hby dj89m18_0) rfl q) ?_
  refine own_tp (.int (65536 : Int32)) 3 (fun _ q => X0.ldcInt hx hown (mvT hZ (own_w hw 132 rfl)) (g := (mkF m 1 #[.val (.int p1)] [(.int p1)])) rfl (hb hby dj89m18_1) _ q) ?_
  by_cases c51 : p1 < (65536 : Int32)
  ·
    refine own_d2 10 (fun _ q => XS.icmpYes X0.here hx rfl (pc0 := 3) (pc' := 10) rfl (hb hby dj89m18_3) rfl (tlt c51).1 (by decide) (by decide) q) ?_
    refine own_tp (.int (1 : Int32)) 11 (fun _ q => XS.iconst X0.here hx rfl (hb hby dj89m18_10) q) ?_
    exact own_retI X0 hx hrt (hb hby dj89m18_11) hlk (by decide) (by decide) e0 (⟨by have hv : own_cc p1 = (1 : Int32) := (by first | (simp only [own_cc, c51, ↓reduceIte]; done) | (simp [own_cc, c51]; done)); rw [hv] <;> rfl, N0, rfl⟩)
  ·
    refine own_d2 6 (fun _ q => XS.icmpNo X0.here hx rfl (hb hby dj89m18_3) rfl (flt c51).1 q) ?_
    refine own_tp (.int (2 : Int32)) 7 (fun _ q => XS.iconst X0.here hx rfl (hb hby dj89m18_6) q) ?_
    refine own_d0 11 (fun _ q => XS.goto X0.here hx rfl (pc0 := 7) (pc' := 11) rfl (hb hby dj89m18_7) (by decide) (by decide) q) ?_
    exact own_retI X0 hx hrt (hb hby dj89m18_11) hlk (by decide) (by decide) e0 (⟨by have hv : own_cc p1 = (2 : Int32) := (by first | (simp only [own_cc, c51, ↓reduceIte]; done) | (simp [own_cc, c51]; done)); rw [hv] <;> rfl, N0, rfl⟩)

def Q9 (p1 p2 : Int32) (h0 : Heap) (n0 : Nat) (v : Option Value) (h : Heap) (L : List Loc) : Prop := v = some (.int (own_tcp p1 p2)) ∧ Fr n0 L ∧ h = h0

set_option maxRecDepth 65536 in
set_option maxHeartbeats 40000000 in
theorem rm9 (l : Launch) (Z : State) (a0 : Array Value) (hw : ∀ d ∈ tables_1, d.before a0 Z = true) (ws : List Jvm.Cond) (p1 p2 : Int32) (h0 : Heap) (n0 : Nat)  :
    own_Met l (⟨"java/lang/Character", "toCodePoint", "(CC)I"⟩ : MethodName) jdk_89_method_19_code 2 (some .int) ws own_R_0_0_0_0 Z #[(.int p1), (.int p2)] h0 (Q9 p1 p2 h0 n0) := by
  refine own_enter #[.val (.int p1), .val (.int p2)] (plainFor_of_name pn_java_lang_Character) (fun m => ef_II_2 m p1 p2) ?_
  intro p e s m below meth c s₁ hx hby hml hown hnm hZ hrt hlk X0 e0
  have N0 := Fr.nil n0
  refine own_tp (.int p1) 1 (fun _ q => XS.iloadN X0.here hx rfl (hb hby dj89m19_0) rfl q) ?_
  refine own_tp (.int (10 : Int32)) 3 (fun _ q => XS.bipush X0.here hx rfl (hb hby dj89m19_1) q) ?_
  refine own_t2 (.int (p1 <<< ((10 : Int32) &&& 31))) 4 (fun _ q => XS.ishl X0.here hx rfl (hb hby dj89m19_3) rfl q) ?_
  refine own_tp (.int p2) 5 (fun _ q => XS.iloadN X0.here hx rfl (hb hby dj89m19_4) rfl q) ?_
  refine own_t2 (.int ((p1 <<< ((10 : Int32) &&& 31)) + p2)) 6 (fun _ q => XS.iadd X0.here hx rfl (hb hby dj89m19_5) rfl q) ?_
  refine own_tp (.int (-56613888 : Int32)) 8 (fun _ q => X0.ldcInt hx hown (mvT hZ (own_w hw 145 rfl)) (g := (mkF m 6 #[.val (.int p1), .val (.int p2)] [(.int ((p1 <<< ((10 : Int32) &&& 31)) + p2))])) rfl (hb hby dj89m19_6) _ q) ?_
  refine own_t2 (.int (((p1 <<< ((10 : Int32) &&& 31)) + p2) + (-56613888 : Int32))) 9 (fun _ q => XS.iadd X0.here hx rfl (hb hby dj89m19_8) rfl q) ?_
  exact own_retI X0 hx hrt (hb hby dj89m19_9) hlk (by decide) (by decide) e0 (⟨by have hv : own_tcp p1 p2 = (((p1 <<< ((10 : Int32) &&& 31)) + p2) + (-56613888 : Int32)) := (by first | (simp only [own_tcp, ↓reduceIte]; done) | (simp [own_tcp]; done)); rw [hv] <;> rfl, N0, rfl⟩)

def Q10 (p1 p2 : Int32) (h0 : Heap) (n0 : Nat) (v : Option Value) (h : Heap) (L : List Loc) : Prop := v = some (.int (own_ic p1 p2)) ∧ Fr n0 L ∧ h = h0

set_option maxRecDepth 65536 in
set_option maxHeartbeats 40000000 in
theorem rm10 (l : Launch) (Z : State) (a0 : Array Value) (hw : ∀ d ∈ tables_1, d.before a0 Z = true) (ws : List Jvm.Cond) (p1 p2 : Int32) (h0 : Heap) (n0 : Nat)  :
    own_Met l (⟨"java/lang/Integer", "compare", "(II)I"⟩ : MethodName) jdk_33_method_40_code 2 (some .int) ws own_R_0_0_0_0 Z #[(.int p1), (.int p2)] h0 (Q10 p1 p2 h0 n0) := by
  refine own_enter #[.val (.int p1), .val (.int p2)] (plainFor_of_name pn_java_lang_Integer) (fun m => ef_II_2 m p1 p2) ?_
  intro p e s m below meth c s₁ hx hby hml hown hnm hZ hrt hlk X0 e0
  have N0 := Fr.nil n0
  refine own_tp (.int p1) 1 (fun _ q => XS.iloadN X0.here hx rfl (hb hby dj33m40_0) rfl q) ?_
  refine own_tp (.int p2) 2 (fun _ q => XS.iloadN X0.here hx rfl (hb hby dj33m40_1) rfl q) ?_
  by_cases c51 : p1 < p2
  ·
    refine own_d2 5 (fun _ q => XS.icmpNo X0.here hx rfl (hb hby dj33m40_2) rfl (tlt c51).2.1 q) ?_
    refine own_tp (.int (-1 : Int32)) 6 (fun _ q => XS.iconst X0.here hx rfl (hb hby dj33m40_5) q) ?_
    refine own_d0 19 (fun _ q => XS.goto X0.here hx rfl (pc0 := 6) (pc' := 19) rfl (hb hby dj33m40_6) (by decide) (by decide) q) ?_
    exact own_retI X0 hx hrt (hb hby dj33m40_19) hlk (by decide) (by decide) e0 (⟨by have hv : own_ic p1 p2 = (-1 : Int32) := (by first | (simp only [own_ic, c51, ↓reduceIte]; done) | (simp [own_ic, c51]; done)); rw [hv] <;> rfl, N0, rfl⟩)
  ·
    refine own_d2 9 (fun _ q => XS.icmpYes X0.here hx rfl (pc0 := 2) (pc' := 9) rfl (hb hby dj33m40_2) rfl (flt c51).2.1 (by decide) (by decide) q) ?_
    refine own_tp (.int p1) 10 (fun _ q => XS.iloadN X0.here hx rfl (hb hby dj33m40_9) rfl q) ?_
    refine own_tp (.int p2) 11 (fun _ q => XS.iloadN X0.here hx rfl (hb hby dj33m40_10) rfl q) ?_
    by_cases c52 : p1 = p2
    ·
      refine own_d2 14 (fun _ q => XS.icmpNo X0.here hx rfl (hb hby dj33m40_11) rfl (teq c52).2 q) ?_
      refine own_tp (.int (0 : Int32)) 15 (fun _ q => XS.iconst X0.here hx rfl (hb hby dj33m40_14) q) ?_
      refine own_d0 19 (fun _ q => XS.goto X0.here hx rfl (pc0 := 15) (pc' := 19) rfl (hb hby dj33m40_15) (by decide) (by decide) q) ?_
      exact own_retI X0 hx hrt (hb hby dj33m40_19) hlk (by decide) (by decide) e0 (⟨by have hv : own_ic p1 p2 = (0 : Int32) := (by first | (simp only [own_ic, c51, c52, ↓reduceIte]; done) | (simp [own_ic, c51, c52]; done)); rw [hv] <;> rfl, N0, rfl⟩)
    ·
      refine own_d2 18 (fun _ q => XS.icmpYes X0.here hx rfl (pc0 := 11) (pc' := 18) rfl (hb hby dj33m40_11) rfl (feq c52).2 (by decide) (by decide) q) ?_
      refine own_tp (.int (1 : Int32)) 19 (fun _ q => XS.iconst X0.here hx rfl (hb hby dj33m40_18) q) ?_
      exact own_retI X0 hx hrt (hb hby dj33m40_19) hlk (by decide) (by decide) e0 (⟨by have hv : own_ic p1 p2 = (1 : Int32) := (by first | (simp only [own_ic, c51, c52, ↓reduceIte]; done) | (simp [own_ic, c51, c52]; done)); rw [hv] <;> rfl, N0, rfl⟩)

def Q11 (p1 p2 : Int32) (h0 : Heap) (n0 : Nat) (v : Option Value) (h : Heap) (L : List Loc) : Prop := v = some (.int (own_mn p1 p2)) ∧ Fr n0 L ∧ h = h0

set_option maxRecDepth 65536 in
set_option maxHeartbeats 40000000 in
theorem rm11 (l : Launch) (Z : State) (a0 : Array Value) (hw : ∀ d ∈ tables_1, d.before a0 Z = true) (ws : List Jvm.Cond) (p1 p2 : Int32) (h0 : Heap) (n0 : Nat)  :
    own_Met l (⟨"java/lang/Math", "min", "(II)I"⟩ : MethodName) jdk_29_method_69_code 2 (some .int) ws own_R_0_0_0_0 Z #[(.int p1), (.int p2)] h0 (Q11 p1 p2 h0 n0) := by
  refine own_enter #[.val (.int p1), .val (.int p2)] (Jvm.Free.JP.mathPlain rfl (by decide +kernel)) (fun m => ef_II_2 m p1 p2) ?_
  intro p e s m below meth c s₁ hx hby hml hown hnm hZ hrt hlk X0 e0
  have N0 := Fr.nil n0
  refine own_tp (.int p1) 1 (fun _ q => XS.iloadN X0.here hx rfl (hb hby dj29m69_0) rfl q) ?_
  refine own_tp (.int p2) 2 (fun _ q => XS.iloadN X0.here hx rfl (hb hby dj29m69_1) rfl q) ?_
  by_cases c51 : p2 < p1
  ·
    refine own_d2 9 (fun _ q => XS.icmpYes X0.here hx rfl (pc0 := 2) (pc' := 9) rfl (hb hby dj29m69_2) rfl (tlt c51).2.2.1 (by decide) (by decide) q) ?_
    refine own_tp (.int p2) 10 (fun _ q => XS.iloadN X0.here hx rfl (hb hby dj29m69_9) rfl q) ?_
    exact own_retI X0 hx hrt (hb hby dj29m69_10) hlk (by decide) (by decide) e0 (⟨by have hv : own_mn p1 p2 = p2 := (by first | (simp only [own_mn, c51, ↓reduceIte]; done) | (simp [own_mn, c51]; done)); rw [hv] <;> rfl, N0, rfl⟩)
  ·
    refine own_d2 5 (fun _ q => XS.icmpNo X0.here hx rfl (hb hby dj29m69_2) rfl (flt c51).2.2.1 q) ?_
    refine own_tp (.int p1) 6 (fun _ q => XS.iloadN X0.here hx rfl (hb hby dj29m69_5) rfl q) ?_
    refine own_d0 10 (fun _ q => XS.goto X0.here hx rfl (pc0 := 6) (pc' := 10) rfl (hb hby dj29m69_6) (by decide) (by decide) q) ?_
    exact own_retI X0 hx hrt (hb hby dj29m69_10) hlk (by decide) (by decide) e0 (⟨by have hv : own_mn p1 p2 = p1 := (by first | (simp only [own_mn, c51, ↓reduceIte]; done) | (simp [own_mn, c51]; done)); rw [hv] <;> rfl, N0, rfl⟩)

def Q12 (z : Int32) (h0 : Heap) (n0 : Nat) (v : Option Value) (h : Heap) (L : List Loc) : Prop := v = some (.int z) ∧ Fr n0 L ∧ h = h0

set_option maxRecDepth 65536 in
set_option maxHeartbeats 40000000 in
theorem rm12 (l : Launch) (Z : State) (a0 : Array Value) (hw : ∀ d ∈ tables_1, d.before a0 Z = true) (ws : List Jvm.Cond) (a1 a2 : Addr) (k1 k2 : ClassId) (p0 p1 p2 p3 r0 r1 r2 r3 : Int32) (h0 : Heap) (n0 : Nat) (Va1 : Arv Z h0 a1 k1 .int (4 : Int32) [.int p0, .int p1, .int p2, .int p3] (.int (0 : Int32))) (Va2 : Arv Z h0 a2 k2 .int (4 : Int32) [.int r0, .int r1, .int r2, .int r3] (.int (0 : Int32))) :
    own_Met l (⟨"com/example/cited_experts/citedexperts/Utf8OrderComparePinLaw", "lex", "([I[I)I"⟩ : MethodName) method_8_code 3 (some .int) ws own_R_1_0_0_13 Z #[(.ref a1), (.ref a2)] h0 (Q12 (own_lex p0 p1 p2 p3 r0 r1 r2 r3) h0 n0) := by
  refine own_enter #[.val (.ref a1), .val (.ref a2), .unset] (plainFor_of_name pn_com_example_cited_experts_citedexperts_Utf8OrderComparePinLaw) (fun m => ef_RR_3 m a1 a2) ?_
  intro p e s m below meth c s₁ hx hby hml hown hnm hZ hrt hlk X0 e0
  have N0 := Fr.nil n0
  refine own_tp (.ref a1) 1 (fun _ q => XS.aloadN X0.here hx rfl (hb hby dq8_0) rfl rfl q) ?_
  refine own_tp (.int (0 : Int32)) 2 (fun _ q => XS.iconst X0.here hx rfl (hb hby dq8_1) q) ?_
  obtain ⟨cl51, Ar51, q51, S51, Nn51, H51, G51⟩ := (id Va1)
  have hin51 : ¬ ((0 : Int32) < 0 ∨ cl51.slots.size ≤ ((0 : Int32)).toNatClampNeg) := inb_of S51 ⟨by decide, by decide⟩
  have hat51 : cl51.slots[((0 : Int32)).toNatClampNeg]? = some (.int p0) := H51.at hin51 rfl
  refine own_t2 (.int p0) 3 (fun _ q => X0.iaload hx (j := (0 : Int32)) (v := (.int p0)) (by rw [e0]; exact Ar51.1) (State.isArrayOf_alike hZ.alike Ar51.2.1) Ar51.2.2 hin51 hat51 (g := (mkF m 2 #[.val (.ref a1), .val (.ref a2), .unset] [(.int (0 : Int32)), (.ref a1)])) rfl rfl (hb hby dq8_2) _ q) ?_
  refine own_tp (.ref a2) 4 (fun _ q => XS.aloadN X0.here hx rfl (hb hby dq8_3) rfl rfl q) ?_
  refine own_tp (.int (0 : Int32)) 5 (fun _ q => XS.iconst X0.here hx rfl (hb hby dq8_4) q) ?_
  obtain ⟨cl52, Ar52, q52, S52, Nn52, H52, G52⟩ := (id Va2)
  have hin52 : ¬ ((0 : Int32) < 0 ∨ cl52.slots.size ≤ ((0 : Int32)).toNatClampNeg) := inb_of S52 ⟨by decide, by decide⟩
  have hat52 : cl52.slots[((0 : Int32)).toNatClampNeg]? = some (.int r0) := H52.at hin52 rfl
  refine own_t2 (.int r0) 6 (fun _ q => X0.iaload hx (j := (0 : Int32)) (v := (.int r0)) (by rw [e0]; exact Ar52.1) (State.isArrayOf_alike hZ.alike Ar52.2.1) Ar52.2.2 hin52 hat52 (g := (mkF m 5 #[.val (.ref a1), .val (.ref a2), .unset] [(.int (0 : Int32)), (.ref a2), (.int p0)])) rfl rfl (hb hby dq8_5) _ q) ?_
  obtain ⟨_, _, ⟨T53, L53, k53, n53⟩, -, X53, ⟨Lc53, hQ53, l53, y53, z53⟩, st53⟩ := Jvm.LawKit.callS X0 hx (y := (⟨"java/lang/Math", "min", "(II)I"⟩ : MethodName)) hown (mvT hZ (own_w hw 59 rfl)) (mvT hZ (own_w hw 60 rfl)) (mvT hZ (own_w hw 61 rfl)) (mvT hZ (own_w hw 62 rfl)) (by decide) (backOf (W := 0) (rm11 l Z a0 hw [] p0 r0 h0 n0 ) hZ (own_w hw 62 rfl) (own_w hw 61 rfl) (by decide) (by decide)) (g := (mkF m 6 #[.val (.ref a1), .val (.ref a2), .unset] [(.int r0), (.int p0)])) rfl (by rw [hml]; rfl) (argsL := [(.int p0), (.int r0)]) (rest := []) (lenOf pd0 rfl) rfl (by show 2 * 0 + _ ≤ _; exact Nat.le_of_eq rfl) (hb hby dq8_6) (fun _ _ => ⟨rfl, e0, (by decide : 0 + 0 ≤ _), (by decide : 0 + 0 ≤ _)⟩)
  dsimp only [Pt.U, Pt.locs, Pt.cells, Pt.slots] at X53 l53 y53 z53 st53 hQ53
  subst l53 y53 z53
  obtain ⟨rfl, Nq53, eq53⟩ := hQ53
  have N53 := Fr.app N0 Nq53
  refine own_t2 (.int (own_mn p0 r0)) 9 st53 ?_
  obtain ⟨n, hn12⟩ : ∃ z : Int32, (own_mn p0 r0) = z := ⟨_, rfl⟩
  rw [hn12]
  refine own_ls #[.val (.ref a1), .val (.ref a2), .val (.int n)] 10 (fun _ q => XS.istoreN X53.here hx rfl (hb hby dq8_9) rfl (l' := #[.val (.ref a1), .val (.ref a2), .val (.int n)]) rfl q) ?_
  have kj54 : ∀ (Tj54 : State) (lj54 : List Loc), Stand p l e own_R_1_0_0_13 s m #[(.ref a1), (.ref a2)] below meth c Tj54 lj54 0 0 → Fr n0 lj54 → Tj54.heap = h0 → own_lex p0 p1 p2 p3 r0 r1 r2 r3 = own_lex2 n p0 p2 p3 r0 r2 r3 → own_Goes p e below (own_FN s (Q12 (own_lex p0 p1 p2 p3 r0 r1 r2 r3) h0 n0) own_R_1_0_0_13.cells own_R_1_0_0_13.slots) (Tj54.setTop (mkF m 39 #[.val (.ref a1), .val (.ref a2), .val (.int n)] [])) := by
    intro Tj54 lj54 Xj54 Nj54 ej54 hl54
    have kj55 : ∀ (Tj55 : State) (lj55 : List Loc), Stand p l e own_R_1_0_0_13 s m #[(.ref a1), (.ref a2)] below meth c Tj55 lj55 0 0 → Fr n0 lj55 → Tj55.heap = h0 → own_lex p0 p1 p2 p3 r0 r1 r2 r3 = own_lex3 n p0 p3 r0 r3 → own_Goes p e below (own_FN s (Q12 (own_lex p0 p1 p2 p3 r0 r1 r2 r3) h0 n0) own_R_1_0_0_13.cells own_R_1_0_0_13.slots) (Tj55.setTop (mkF m 68 #[.val (.ref a1), .val (.ref a2), .val (.int n)] [])) := by
      intro Tj55 lj55 Xj55 Nj55 ej55 hl55
      have kj56 : ∀ (Tj56 : State) (lj56 : List Loc), Stand p l e own_R_1_0_0_13 s m #[(.ref a1), (.ref a2)] below meth c Tj56 lj56 0 0 → Fr n0 lj56 → Tj56.heap = h0 → own_lex p0 p1 p2 p3 r0 r1 r2 r3 = (if p0 < r0 then -1 else if r0 < p0 then 1 else 0) → own_Goes p e below (own_FN s (Q12 (own_lex p0 p1 p2 p3 r0 r1 r2 r3) h0 n0) own_R_1_0_0_13.cells own_R_1_0_0_13.slots) (Tj56.setTop (mkF m 97 #[.val (.ref a1), .val (.ref a2), .val (.int n)] [])) := by
        intro Tj56 lj56 Xj56 Nj56 ej56 hl56
        refine own_tp (.ref a1) 98 (fun _ q => XS.aloadN Xj56.here hx rfl (hb hby dq8_97) rfl rfl q) ?_
        refine own_tp (.int (0 : Int32)) 99 (fun _ q => XS.iconst Xj56.here hx rfl (hb hby dq8_98) q) ?_
        obtain ⟨cl57, Ar57, q57, S57, Nn57, H57, G57⟩ := (id Va1)
        have hin57 : ¬ ((0 : Int32) < 0 ∨ cl57.slots.size ≤ ((0 : Int32)).toNatClampNeg) := inb_of S57 ⟨by decide, by decide⟩
        have hat57 : cl57.slots[((0 : Int32)).toNatClampNeg]? = some (.int p0) := H57.at hin57 rfl
        refine own_t2 (.int p0) 100 (fun _ q => Xj56.iaload hx (j := (0 : Int32)) (v := (.int p0)) (by rw [ej56]; exact Ar57.1) (State.isArrayOf_alike hZ.alike Ar57.2.1) Ar57.2.2 hin57 hat57 (g := (mkF m 99 #[.val (.ref a1), .val (.ref a2), .val (.int n)] [(.int (0 : Int32)), (.ref a1)])) rfl rfl (hb hby dq8_99) _ q) ?_
        refine own_tp (.ref a2) 101 (fun _ q => XS.aloadN Xj56.here hx rfl (hb hby dq8_100) rfl rfl q) ?_
        refine own_tp (.int (0 : Int32)) 102 (fun _ q => XS.iconst Xj56.here hx rfl (hb hby dq8_101) q) ?_
        obtain ⟨cl58, Ar58, q58, S58, Nn58, H58, G58⟩ := (id Va2)
        have hin58 : ¬ ((0 : Int32) < 0 ∨ cl58.slots.size ≤ ((0 : Int32)).toNatClampNeg) := inb_of S58 ⟨by decide, by decide⟩
        have hat58 : cl58.slots[((0 : Int32)).toNatClampNeg]? = some (.int r0) := H58.at hin58 rfl
        refine own_t2 (.int r0) 103 (fun _ q => Xj56.iaload hx (j := (0 : Int32)) (v := (.int r0)) (by rw [ej56]; exact Ar58.1) (State.isArrayOf_alike hZ.alike Ar58.2.1) Ar58.2.2 hin58 hat58 (g := (mkF m 102 #[.val (.ref a1), .val (.ref a2), .val (.int n)] [(.int (0 : Int32)), (.ref a2), (.int p0)])) rfl rfl (hb hby dq8_102) _ q) ?_
        by_cases c59 : p0 < r0
        ·
          refine own_d2 106 (fun _ q => XS.icmpNo Xj56.here hx rfl (hb hby dq8_103) rfl (tlt c59).2.1 q) ?_
          refine own_tp (.int (-1 : Int32)) 107 (fun _ q => XS.iconst Xj56.here hx rfl (hb hby dq8_106) q) ?_
          have hv : own_lex p0 p1 p2 p3 r0 r1 r2 r3 = (-1 : Int32) := (by rw [hl56]; simp only [own_lex2, own_lex3, c59, ↓reduceIte])
          exact own_retI Xj56 hx hrt (hb hby dq8_107) hlk (by decide) (by decide) ej56 (⟨by rw [hv], Nj56, rfl⟩)
        ·
          refine own_d2 108 (fun _ q => XS.icmpYes Xj56.here hx rfl (pc0 := 103) (pc' := 108) rfl (hb hby dq8_103) rfl (flt c59).2.1 (by decide) (by decide) q) ?_
          refine own_tp (.ref a1) 109 (fun _ q => XS.aloadN Xj56.here hx rfl (hb hby dq8_108) rfl rfl q) ?_
          refine own_tp (.int (0 : Int32)) 110 (fun _ q => XS.iconst Xj56.here hx rfl (hb hby dq8_109) q) ?_
          obtain ⟨cl60, Ar60, q60, S60, Nn60, H60, G60⟩ := (id Va1)
          have hin60 : ¬ ((0 : Int32) < 0 ∨ cl60.slots.size ≤ ((0 : Int32)).toNatClampNeg) := inb_of S60 ⟨by decide, by decide⟩
          have hat60 : cl60.slots[((0 : Int32)).toNatClampNeg]? = some (.int p0) := H60.at hin60 rfl
          refine own_t2 (.int p0) 111 (fun _ q => Xj56.iaload hx (j := (0 : Int32)) (v := (.int p0)) (by rw [ej56]; exact Ar60.1) (State.isArrayOf_alike hZ.alike Ar60.2.1) Ar60.2.2 hin60 hat60 (g := (mkF m 110 #[.val (.ref a1), .val (.ref a2), .val (.int n)] [(.int (0 : Int32)), (.ref a1)])) rfl rfl (hb hby dq8_110) _ q) ?_
          refine own_tp (.ref a2) 112 (fun _ q => XS.aloadN Xj56.here hx rfl (hb hby dq8_111) rfl rfl q) ?_
          refine own_tp (.int (0 : Int32)) 113 (fun _ q => XS.iconst Xj56.here hx rfl (hb hby dq8_112) q) ?_
          obtain ⟨cl61, Ar61, q61, S61, Nn61, H61, G61⟩ := (id Va2)
          have hin61 : ¬ ((0 : Int32) < 0 ∨ cl61.slots.size ≤ ((0 : Int32)).toNatClampNeg) := inb_of S61 ⟨by decide, by decide⟩
          have hat61 : cl61.slots[((0 : Int32)).toNatClampNeg]? = some (.int r0) := H61.at hin61 rfl
          refine own_t2 (.int r0) 114 (fun _ q => Xj56.iaload hx (j := (0 : Int32)) (v := (.int r0)) (by rw [ej56]; exact Ar61.1) (State.isArrayOf_alike hZ.alike Ar61.2.1) Ar61.2.2 hin61 hat61 (g := (mkF m 113 #[.val (.ref a1), .val (.ref a2), .val (.int n)] [(.int (0 : Int32)), (.ref a2), (.int p0)])) rfl rfl (hb hby dq8_113) _ q) ?_
          by_cases c62 : r0 < p0
          ·
            refine own_d2 117 (fun _ q => XS.icmpNo Xj56.here hx rfl (hb hby dq8_114) rfl (tlt c62).2.2.2 q) ?_
            refine own_tp (.int (1 : Int32)) 118 (fun _ q => XS.iconst Xj56.here hx rfl (hb hby dq8_117) q) ?_
            have hv : own_lex p0 p1 p2 p3 r0 r1 r2 r3 = (1 : Int32) := (by rw [hl56]; simp only [own_lex2, own_lex3, c59, c62, ↓reduceIte])
            exact own_retI Xj56 hx hrt (hb hby dq8_118) hlk (by decide) (by decide) ej56 (⟨by rw [hv], Nj56, rfl⟩)
          ·
            refine own_d2 119 (fun _ q => XS.icmpYes Xj56.here hx rfl (pc0 := 114) (pc' := 119) rfl (hb hby dq8_114) rfl (flt c62).2.2.2 (by decide) (by decide) q) ?_
            refine own_tp (.int (0 : Int32)) 120 (fun _ q => XS.iconst Xj56.here hx rfl (hb hby dq8_119) q) ?_
            have hv : own_lex p0 p1 p2 p3 r0 r1 r2 r3 = (0 : Int32) := (by rw [hl56]; simp only [own_lex2, own_lex3, c59, c62, ↓reduceIte])
            exact own_retI Xj56 hx hrt (hb hby dq8_120) hlk (by decide) (by decide) ej56 (⟨by rw [hv], Nj56, rfl⟩)
      refine own_tp (.int n) 69 (fun _ q => XS.iloadN Xj55.here hx rfl (hb hby dq8_68) rfl q) ?_
      refine own_tp (.int (3 : Int32)) 70 (fun _ q => XS.iconst Xj55.here hx rfl (hb hby dq8_69) q) ?_
      by_cases c63 : n < (3 : Int32)
      ·
        refine own_d2 97 (fun _ q => XS.icmpYes Xj55.here hx rfl (pc0 := 70) (pc' := 97) rfl (hb hby dq8_70) rfl (tlt c63).1 (by decide) (by decide) q) ?_
        exact kj56 Tj55 _ Xj55 Nj55 ej55 (by rw [hl55]; simp only [own_lex3, c63, ↓reduceIte])
      ·
        refine own_d2 73 (fun _ q => XS.icmpNo Xj55.here hx rfl (hb hby dq8_70) rfl (flt c63).1 q) ?_
        refine own_tp (.ref a1) 74 (fun _ q => XS.aloadN Xj55.here hx rfl (hb hby dq8_73) rfl rfl q) ?_
        refine own_tp (.int (3 : Int32)) 75 (fun _ q => XS.iconst Xj55.here hx rfl (hb hby dq8_74) q) ?_
        obtain ⟨cl64, Ar64, q64, S64, Nn64, H64, G64⟩ := (id Va1)
        have hin64 : ¬ ((3 : Int32) < 0 ∨ cl64.slots.size ≤ ((3 : Int32)).toNatClampNeg) := inb_of S64 ⟨by decide, by decide⟩
        have hat64 : cl64.slots[((3 : Int32)).toNatClampNeg]? = some (.int p3) := H64.at hin64 rfl
        refine own_t2 (.int p3) 76 (fun _ q => Xj55.iaload hx (j := (3 : Int32)) (v := (.int p3)) (by rw [ej55]; exact Ar64.1) (State.isArrayOf_alike hZ.alike Ar64.2.1) Ar64.2.2 hin64 hat64 (g := (mkF m 75 #[.val (.ref a1), .val (.ref a2), .val (.int n)] [(.int (3 : Int32)), (.ref a1)])) rfl rfl (hb hby dq8_75) _ q) ?_
        refine own_tp (.ref a2) 77 (fun _ q => XS.aloadN Xj55.here hx rfl (hb hby dq8_76) rfl rfl q) ?_
        refine own_tp (.int (3 : Int32)) 78 (fun _ q => XS.iconst Xj55.here hx rfl (hb hby dq8_77) q) ?_
        obtain ⟨cl65, Ar65, q65, S65, Nn65, H65, G65⟩ := (id Va2)
        have hin65 : ¬ ((3 : Int32) < 0 ∨ cl65.slots.size ≤ ((3 : Int32)).toNatClampNeg) := inb_of S65 ⟨by decide, by decide⟩
        have hat65 : cl65.slots[((3 : Int32)).toNatClampNeg]? = some (.int r3) := H65.at hin65 rfl
        refine own_t2 (.int r3) 79 (fun _ q => Xj55.iaload hx (j := (3 : Int32)) (v := (.int r3)) (by rw [ej55]; exact Ar65.1) (State.isArrayOf_alike hZ.alike Ar65.2.1) Ar65.2.2 hin65 hat65 (g := (mkF m 78 #[.val (.ref a1), .val (.ref a2), .val (.int n)] [(.int (3 : Int32)), (.ref a2), (.int p3)])) rfl rfl (hb hby dq8_78) _ q) ?_
        by_cases c66 : p3 = r3
        ·
          refine own_d2 97 (fun _ q => XS.icmpYes Xj55.here hx rfl (pc0 := 79) (pc' := 97) rfl (hb hby dq8_79) rfl (teq c66).1 (by decide) (by decide) q) ?_
          exact kj56 Tj55 _ Xj55 Nj55 ej55 (by rw [hl55]; simp only [own_lex3, c63, c66, ↓reduceIte])
        ·
          refine own_d2 82 (fun _ q => XS.icmpNo Xj55.here hx rfl (hb hby dq8_79) rfl (feq c66).1 q) ?_
          refine own_tp (.ref a1) 83 (fun _ q => XS.aloadN Xj55.here hx rfl (hb hby dq8_82) rfl rfl q) ?_
          refine own_tp (.int (3 : Int32)) 84 (fun _ q => XS.iconst Xj55.here hx rfl (hb hby dq8_83) q) ?_
          obtain ⟨cl67, Ar67, q67, S67, Nn67, H67, G67⟩ := (id Va1)
          have hin67 : ¬ ((3 : Int32) < 0 ∨ cl67.slots.size ≤ ((3 : Int32)).toNatClampNeg) := inb_of S67 ⟨by decide, by decide⟩
          have hat67 : cl67.slots[((3 : Int32)).toNatClampNeg]? = some (.int p3) := H67.at hin67 rfl
          refine own_t2 (.int p3) 85 (fun _ q => Xj55.iaload hx (j := (3 : Int32)) (v := (.int p3)) (by rw [ej55]; exact Ar67.1) (State.isArrayOf_alike hZ.alike Ar67.2.1) Ar67.2.2 hin67 hat67 (g := (mkF m 84 #[.val (.ref a1), .val (.ref a2), .val (.int n)] [(.int (3 : Int32)), (.ref a1)])) rfl rfl (hb hby dq8_84) _ q) ?_
          refine own_tp (.ref a2) 86 (fun _ q => XS.aloadN Xj55.here hx rfl (hb hby dq8_85) rfl rfl q) ?_
          refine own_tp (.int (3 : Int32)) 87 (fun _ q => XS.iconst Xj55.here hx rfl (hb hby dq8_86) q) ?_
          obtain ⟨cl68, Ar68, q68, S68, Nn68, H68, G68⟩ := (id Va2)
          have hin68 : ¬ ((3 : Int32) < 0 ∨ cl68.slots.size ≤ ((3 : Int32)).toNatClampNeg) := inb_of S68 ⟨by decide, by decide⟩
          have hat68 : cl68.slots[((3 : Int32)).toNatClampNeg]? = some (.int r3) := H68.at hin68 rfl
          refine own_t2 (.int r3) 88 (fun _ q => Xj55.iaload hx (j := (3 : Int32)) (v := (.int r3)) (by rw [ej55]; exact Ar68.1) (State.isArrayOf_alike hZ.alike Ar68.2.1) Ar68.2.2 hin68 hat68 (g := (mkF m 87 #[.val (.ref a1), .val (.ref a2), .val (.int n)] [(.int (3 : Int32)), (.ref a2), (.int p3)])) rfl rfl (hb hby dq8_87) _ q) ?_
          by_cases c69 : p3 < r3
          ·
            refine own_d2 91 (fun _ q => XS.icmpNo Xj55.here hx rfl (hb hby dq8_88) rfl (tlt c69).2.1 q) ?_
            refine own_tp (.int (-1 : Int32)) 92 (fun _ q => XS.iconst Xj55.here hx rfl (hb hby dq8_91) q) ?_
            refine own_d0 96 (fun _ q => XS.goto Xj55.here hx rfl (pc0 := 92) (pc' := 96) rfl (hb hby dq8_92) (by decide) (by decide) q) ?_
            have hv : own_lex p0 p1 p2 p3 r0 r1 r2 r3 = (-1 : Int32) := (by rw [hl55]; simp only [own_lex2, own_lex3, c63, c66, c69, ↓reduceIte])
            exact own_retI Xj55 hx hrt (hb hby dq8_96) hlk (by decide) (by decide) ej55 (⟨by rw [hv], Nj55, rfl⟩)
          ·
            refine own_d2 95 (fun _ q => XS.icmpYes Xj55.here hx rfl (pc0 := 88) (pc' := 95) rfl (hb hby dq8_88) rfl (flt c69).2.1 (by decide) (by decide) q) ?_
            refine own_tp (.int (1 : Int32)) 96 (fun _ q => XS.iconst Xj55.here hx rfl (hb hby dq8_95) q) ?_
            have hv : own_lex p0 p1 p2 p3 r0 r1 r2 r3 = (1 : Int32) := (by rw [hl55]; simp only [own_lex2, own_lex3, c63, c66, c69, ↓reduceIte])
            exact own_retI Xj55 hx hrt (hb hby dq8_96) hlk (by decide) (by decide) ej55 (⟨by rw [hv], Nj55, rfl⟩)
    refine own_tp (.int n) 40 (fun _ q => XS.iloadN Xj54.here hx rfl (hb hby dq8_39) rfl q) ?_
    refine own_tp (.int (2 : Int32)) 41 (fun _ q => XS.iconst Xj54.here hx rfl (hb hby dq8_40) q) ?_
    by_cases c70 : n < (2 : Int32)
    ·
      refine own_d2 68 (fun _ q => XS.icmpYes Xj54.here hx rfl (pc0 := 41) (pc' := 68) rfl (hb hby dq8_41) rfl (tlt c70).1 (by decide) (by decide) q) ?_
      exact kj55 Tj54 _ Xj54 Nj54 ej54 (by rw [hl54]; simp only [own_lex2, c70, ↓reduceIte])
    ·
      refine own_d2 44 (fun _ q => XS.icmpNo Xj54.here hx rfl (hb hby dq8_41) rfl (flt c70).1 q) ?_
      refine own_tp (.ref a1) 45 (fun _ q => XS.aloadN Xj54.here hx rfl (hb hby dq8_44) rfl rfl q) ?_
      refine own_tp (.int (2 : Int32)) 46 (fun _ q => XS.iconst Xj54.here hx rfl (hb hby dq8_45) q) ?_
      obtain ⟨cl71, Ar71, q71, S71, Nn71, H71, G71⟩ := (id Va1)
      have hin71 : ¬ ((2 : Int32) < 0 ∨ cl71.slots.size ≤ ((2 : Int32)).toNatClampNeg) := inb_of S71 ⟨by decide, by decide⟩
      have hat71 : cl71.slots[((2 : Int32)).toNatClampNeg]? = some (.int p2) := H71.at hin71 rfl
      refine own_t2 (.int p2) 47 (fun _ q => Xj54.iaload hx (j := (2 : Int32)) (v := (.int p2)) (by rw [ej54]; exact Ar71.1) (State.isArrayOf_alike hZ.alike Ar71.2.1) Ar71.2.2 hin71 hat71 (g := (mkF m 46 #[.val (.ref a1), .val (.ref a2), .val (.int n)] [(.int (2 : Int32)), (.ref a1)])) rfl rfl (hb hby dq8_46) _ q) ?_
      refine own_tp (.ref a2) 48 (fun _ q => XS.aloadN Xj54.here hx rfl (hb hby dq8_47) rfl rfl q) ?_
      refine own_tp (.int (2 : Int32)) 49 (fun _ q => XS.iconst Xj54.here hx rfl (hb hby dq8_48) q) ?_
      obtain ⟨cl72, Ar72, q72, S72, Nn72, H72, G72⟩ := (id Va2)
      have hin72 : ¬ ((2 : Int32) < 0 ∨ cl72.slots.size ≤ ((2 : Int32)).toNatClampNeg) := inb_of S72 ⟨by decide, by decide⟩
      have hat72 : cl72.slots[((2 : Int32)).toNatClampNeg]? = some (.int r2) := H72.at hin72 rfl
      refine own_t2 (.int r2) 50 (fun _ q => Xj54.iaload hx (j := (2 : Int32)) (v := (.int r2)) (by rw [ej54]; exact Ar72.1) (State.isArrayOf_alike hZ.alike Ar72.2.1) Ar72.2.2 hin72 hat72 (g := (mkF m 49 #[.val (.ref a1), .val (.ref a2), .val (.int n)] [(.int (2 : Int32)), (.ref a2), (.int p2)])) rfl rfl (hb hby dq8_49) _ q) ?_
      by_cases c73 : p2 = r2
      ·
        refine own_d2 68 (fun _ q => XS.icmpYes Xj54.here hx rfl (pc0 := 50) (pc' := 68) rfl (hb hby dq8_50) rfl (teq c73).1 (by decide) (by decide) q) ?_
        exact kj55 Tj54 _ Xj54 Nj54 ej54 (by rw [hl54]; simp only [own_lex2, c70, c73, ↓reduceIte])
      ·
        refine own_d2 53 (fun _ q => XS.icmpNo Xj54.here hx rfl (hb hby dq8_50) rfl (feq c73).1 q) ?_
        refine own_tp (.ref a1) 54 (fun _ q => XS.aloadN Xj54.here hx rfl (hb hby dq8_53) rfl rfl q) ?_
        refine own_tp (.int (2 : Int32)) 55 (fun _ q => XS.iconst Xj54.here hx rfl (hb hby dq8_54) q) ?_
        obtain ⟨cl74, Ar74, q74, S74, Nn74, H74, G74⟩ := (id Va1)
        have hin74 : ¬ ((2 : Int32) < 0 ∨ cl74.slots.size ≤ ((2 : Int32)).toNatClampNeg) := inb_of S74 ⟨by decide, by decide⟩
        have hat74 : cl74.slots[((2 : Int32)).toNatClampNeg]? = some (.int p2) := H74.at hin74 rfl
        refine own_t2 (.int p2) 56 (fun _ q => Xj54.iaload hx (j := (2 : Int32)) (v := (.int p2)) (by rw [ej54]; exact Ar74.1) (State.isArrayOf_alike hZ.alike Ar74.2.1) Ar74.2.2 hin74 hat74 (g := (mkF m 55 #[.val (.ref a1), .val (.ref a2), .val (.int n)] [(.int (2 : Int32)), (.ref a1)])) rfl rfl (hb hby dq8_55) _ q) ?_
        refine own_tp (.ref a2) 57 (fun _ q => XS.aloadN Xj54.here hx rfl (hb hby dq8_56) rfl rfl q) ?_
        refine own_tp (.int (2 : Int32)) 58 (fun _ q => XS.iconst Xj54.here hx rfl (hb hby dq8_57) q) ?_
        obtain ⟨cl75, Ar75, q75, S75, Nn75, H75, G75⟩ := (id Va2)
        have hin75 : ¬ ((2 : Int32) < 0 ∨ cl75.slots.size ≤ ((2 : Int32)).toNatClampNeg) := inb_of S75 ⟨by decide, by decide⟩
        have hat75 : cl75.slots[((2 : Int32)).toNatClampNeg]? = some (.int r2) := H75.at hin75 rfl
        refine own_t2 (.int r2) 59 (fun _ q => Xj54.iaload hx (j := (2 : Int32)) (v := (.int r2)) (by rw [ej54]; exact Ar75.1) (State.isArrayOf_alike hZ.alike Ar75.2.1) Ar75.2.2 hin75 hat75 (g := (mkF m 58 #[.val (.ref a1), .val (.ref a2), .val (.int n)] [(.int (2 : Int32)), (.ref a2), (.int p2)])) rfl rfl (hb hby dq8_58) _ q) ?_
        by_cases c76 : p2 < r2
        ·
          refine own_d2 62 (fun _ q => XS.icmpNo Xj54.here hx rfl (hb hby dq8_59) rfl (tlt c76).2.1 q) ?_
          refine own_tp (.int (-1 : Int32)) 63 (fun _ q => XS.iconst Xj54.here hx rfl (hb hby dq8_62) q) ?_
          refine own_d0 67 (fun _ q => XS.goto Xj54.here hx rfl (pc0 := 63) (pc' := 67) rfl (hb hby dq8_63) (by decide) (by decide) q) ?_
          have hv : own_lex p0 p1 p2 p3 r0 r1 r2 r3 = (-1 : Int32) := (by rw [hl54]; simp only [own_lex2, own_lex3, c70, c73, c76, ↓reduceIte])
          exact own_retI Xj54 hx hrt (hb hby dq8_67) hlk (by decide) (by decide) ej54 (⟨by rw [hv], Nj54, rfl⟩)
        ·
          refine own_d2 66 (fun _ q => XS.icmpYes Xj54.here hx rfl (pc0 := 59) (pc' := 66) rfl (hb hby dq8_59) rfl (flt c76).2.1 (by decide) (by decide) q) ?_
          refine own_tp (.int (1 : Int32)) 67 (fun _ q => XS.iconst Xj54.here hx rfl (hb hby dq8_66) q) ?_
          have hv : own_lex p0 p1 p2 p3 r0 r1 r2 r3 = (1 : Int32) := (by rw [hl54]; simp only [own_lex2, own_lex3, c70, c73, c76, ↓reduceIte])
          exact own_retI Xj54 hx hrt (hb hby dq8_67) hlk (by decide) (by decide) ej54 (⟨by rw [hv], Nj54, rfl⟩)
  refine own_tp (.int n) 11 (fun _ q => XS.iloadN X53.here hx rfl (hb hby dq8_10) rfl q) ?_
  refine own_tp (.int (1 : Int32)) 12 (fun _ q => XS.iconst X53.here hx rfl (hb hby dq8_11) q) ?_
  by_cases c77 : n < (1 : Int32)
  ·
    refine own_d2 39 (fun _ q => XS.icmpYes X53.here hx rfl (pc0 := 12) (pc' := 39) rfl (hb hby dq8_12) rfl (tlt c77).1 (by decide) (by decide) q) ?_
    exact kj54 T53 _ X53 N53 eq53 (by have q : (own_mn p0 r0) = _ := hn12; simp only [own_lex, q, c77, ↓reduceIte])
  ·
    refine own_d2 15 (fun _ q => XS.icmpNo X53.here hx rfl (hb hby dq8_12) rfl (flt c77).1 q) ?_
    refine own_tp (.ref a1) 16 (fun _ q => XS.aloadN X53.here hx rfl (hb hby dq8_15) rfl rfl q) ?_
    refine own_tp (.int (1 : Int32)) 17 (fun _ q => XS.iconst X53.here hx rfl (hb hby dq8_16) q) ?_
    obtain ⟨cl78, Ar78, q78, S78, Nn78, H78, G78⟩ := (id Va1)
    have hin78 : ¬ ((1 : Int32) < 0 ∨ cl78.slots.size ≤ ((1 : Int32)).toNatClampNeg) := inb_of S78 ⟨by decide, by decide⟩
    have hat78 : cl78.slots[((1 : Int32)).toNatClampNeg]? = some (.int p1) := H78.at hin78 rfl
    refine own_t2 (.int p1) 18 (fun _ q => X53.iaload hx (j := (1 : Int32)) (v := (.int p1)) (by rw [eq53]; exact Ar78.1) (State.isArrayOf_alike hZ.alike Ar78.2.1) Ar78.2.2 hin78 hat78 (g := (mkF m 17 #[.val (.ref a1), .val (.ref a2), .val (.int n)] [(.int (1 : Int32)), (.ref a1)])) rfl rfl (hb hby dq8_17) _ q) ?_
    refine own_tp (.ref a2) 19 (fun _ q => XS.aloadN X53.here hx rfl (hb hby dq8_18) rfl rfl q) ?_
    refine own_tp (.int (1 : Int32)) 20 (fun _ q => XS.iconst X53.here hx rfl (hb hby dq8_19) q) ?_
    obtain ⟨cl79, Ar79, q79, S79, Nn79, H79, G79⟩ := (id Va2)
    have hin79 : ¬ ((1 : Int32) < 0 ∨ cl79.slots.size ≤ ((1 : Int32)).toNatClampNeg) := inb_of S79 ⟨by decide, by decide⟩
    have hat79 : cl79.slots[((1 : Int32)).toNatClampNeg]? = some (.int r1) := H79.at hin79 rfl
    refine own_t2 (.int r1) 21 (fun _ q => X53.iaload hx (j := (1 : Int32)) (v := (.int r1)) (by rw [eq53]; exact Ar79.1) (State.isArrayOf_alike hZ.alike Ar79.2.1) Ar79.2.2 hin79 hat79 (g := (mkF m 20 #[.val (.ref a1), .val (.ref a2), .val (.int n)] [(.int (1 : Int32)), (.ref a2), (.int p1)])) rfl rfl (hb hby dq8_20) _ q) ?_
    by_cases c80 : p1 = r1
    ·
      refine own_d2 39 (fun _ q => XS.icmpYes X53.here hx rfl (pc0 := 21) (pc' := 39) rfl (hb hby dq8_21) rfl (teq c80).1 (by decide) (by decide) q) ?_
      exact kj54 T53 _ X53 N53 eq53 (by have q : (own_mn p0 r0) = _ := hn12; simp only [own_lex, q, c77, c80, ↓reduceIte])
    ·
      refine own_d2 24 (fun _ q => XS.icmpNo X53.here hx rfl (hb hby dq8_21) rfl (feq c80).1 q) ?_
      refine own_tp (.ref a1) 25 (fun _ q => XS.aloadN X53.here hx rfl (hb hby dq8_24) rfl rfl q) ?_
      refine own_tp (.int (1 : Int32)) 26 (fun _ q => XS.iconst X53.here hx rfl (hb hby dq8_25) q) ?_
      obtain ⟨cl81, Ar81, q81, S81, Nn81, H81, G81⟩ := (id Va1)
      have hin81 : ¬ ((1 : Int32) < 0 ∨ cl81.slots.size ≤ ((1 : Int32)).toNatClampNeg) := inb_of S81 ⟨by decide, by decide⟩
      have hat81 : cl81.slots[((1 : Int32)).toNatClampNeg]? = some (.int p1) := H81.at hin81 rfl
      refine own_t2 (.int p1) 27 (fun _ q => X53.iaload hx (j := (1 : Int32)) (v := (.int p1)) (by rw [eq53]; exact Ar81.1) (State.isArrayOf_alike hZ.alike Ar81.2.1) Ar81.2.2 hin81 hat81 (g := (mkF m 26 #[.val (.ref a1), .val (.ref a2), .val (.int n)] [(.int (1 : Int32)), (.ref a1)])) rfl rfl (hb hby dq8_26) _ q) ?_
      refine own_tp (.ref a2) 28 (fun _ q => XS.aloadN X53.here hx rfl (hb hby dq8_27) rfl rfl q) ?_
      refine own_tp (.int (1 : Int32)) 29 (fun _ q => XS.iconst X53.here hx rfl (hb hby dq8_28) q) ?_
      obtain ⟨cl82, Ar82, q82, S82, Nn82, H82, G82⟩ := (id Va2)
      have hin82 : ¬ ((1 : Int32) < 0 ∨ cl82.slots.size ≤ ((1 : Int32)).toNatClampNeg) := inb_of S82 ⟨by decide, by decide⟩
      have hat82 : cl82.slots[((1 : Int32)).toNatClampNeg]? = some (.int r1) := H82.at hin82 rfl
      refine own_t2 (.int r1) 30 (fun _ q => X53.iaload hx (j := (1 : Int32)) (v := (.int r1)) (by rw [eq53]; exact Ar82.1) (State.isArrayOf_alike hZ.alike Ar82.2.1) Ar82.2.2 hin82 hat82 (g := (mkF m 29 #[.val (.ref a1), .val (.ref a2), .val (.int n)] [(.int (1 : Int32)), (.ref a2), (.int p1)])) rfl rfl (hb hby dq8_29) _ q) ?_
      by_cases c83 : p1 < r1
      ·
        refine own_d2 33 (fun _ q => XS.icmpNo X53.here hx rfl (hb hby dq8_30) rfl (tlt c83).2.1 q) ?_
        refine own_tp (.int (-1 : Int32)) 34 (fun _ q => XS.iconst X53.here hx rfl (hb hby dq8_33) q) ?_
        refine own_d0 38 (fun _ q => XS.goto X53.here hx rfl (pc0 := 34) (pc' := 38) rfl (hb hby dq8_34) (by decide) (by decide) q) ?_
        have hv : own_lex p0 p1 p2 p3 r0 r1 r2 r3 = (-1 : Int32) := (by have q : (own_mn p0 r0) = _ := hn12; simp only [own_lex, q, c77, c80, c83, ↓reduceIte])
        exact own_retI X53 hx hrt (hb hby dq8_38) hlk (by decide) (by decide) eq53 (⟨by rw [hv], N53, rfl⟩)
      ·
        refine own_d2 37 (fun _ q => XS.icmpYes X53.here hx rfl (pc0 := 30) (pc' := 37) rfl (hb hby dq8_30) rfl (flt c83).2.1 (by decide) (by decide) q) ?_
        refine own_tp (.int (1 : Int32)) 38 (fun _ q => XS.iconst X53.here hx rfl (hb hby dq8_37) q) ?_
        have hv : own_lex p0 p1 p2 p3 r0 r1 r2 r3 = (1 : Int32) := (by have q : (own_mn p0 r0) = _ := hn12; simp only [own_lex, q, c77, c80, c83, ↓reduceIte])
        exact own_retI X53 hx hrt (hb hby dq8_38) hlk (by decide) (by decide) eq53 (⟨by rw [hv], N53, rfl⟩)

def Q13 (Z : State) (cs : List Int32) (h0 : Heap) (n0 : Nat) (v : Option Value) (h : Heap) (L : List Loc) : Prop := ∃ (b : Addr) (k : ClassId), v = some (.ref b) ∧ Fr n0 L ∧ Keep h0 h [] ∧ n0 ≤ b ∧ h0.size ≤ b ∧ Arv Z h b k .int (4 : Int32) [.int (own_pn cs), .int (own_pe cs 0), .int (own_pe cs 1), .int (own_pe cs 2)] (.int (0 : Int32))

set_option maxRecDepth 65536 in
set_option maxHeartbeats 40000000 in
theorem rm13 (l : Launch) (Z : State) (a0 : Array Value) (hw : ∀ d ∈ tables_1, d.before a0 Z = true) (ws : List Jvm.Cond) (c0 c1 c2 n : Int32) (h0 : Heap) (n0 : Nat) (Z0 : n0 ≤ h0.size) :
    own_Met l (⟨"com/example/cited_experts/citedexperts/Utf8OrderComparePinLaw", "points", "(CCCI)[I"⟩ : MethodName) method_7_code 5 (some (.array .int)) ws own_R_1_1_4_15 Z #[(.int c0), (.int c1), (.int c2), (.int n)] h0 (Q13 Z (own_tk n c0 c1 c2) h0 n0) := by
  refine own_enter #[.val (.int c0), .val (.int c1), .val (.int c2), .val (.int n), .unset] (plainFor_of_name pn_com_example_cited_experts_citedexperts_Utf8OrderComparePinLaw) (fun m => ef_IIII_5 m c0 c1 c2 n) ?_
  intro p e s m below meth c s₁ hx hby hml hown hnm hZ hrt hlk X0 e0
  have N0 := Fr.nil n0
  refine own_tp (.int (4 : Int32)) 1 (fun _ q => XS.iconst X0.here hx rfl (hb hby dq7_0) q) ?_
  obtain ⟨T51, h51, k51, X51, e51, E51, A51, st51⟩ := newP X0 hx hZ (own_w hw 55 rfl) e0 (g := (mkF m 1 #[.val (.int c0), .val (.int c1), .val (.int c2), .val (.int n), .unset] [(.int (4 : Int32))])) rfl (hb hby dq7_1) rfl (by decide) (cap := 4) (by decide) (by decide) (by decide) (by decide)
  obtain ⟨b51, g51⟩ : ∃ z, z = h0.size := ⟨_, rfl⟩
  rw [← g51] at A51 st51
  have V51 : Arv Z h51 b51 k51 .int (4 : Int32) [(.int (0 : Int32)), (.int (0 : Int32)), (.int (0 : Int32)), (.int (0 : Int32))] (.int (0 : Int32)) := (Arv.new A51 (by decide)).pad (pad_rep [] (.int (0 : Int32)) 4)
  have ge51 : n0 ≤ b51 := Nat.le_trans Z0 (Nat.le_of_eq g51.symm)
  have sz51 : h0.size ≤ b51 := Nat.le_trans (Keep.refl h0 []).1 (Nat.le_of_eq g51.symm)
  have K51 : Keep h0 h51 [] := (Keep.refl h0 []).ext E51
  have Z51 : n0 ≤ h51.size := Nat.le_trans Z0 E51.1
  refine own_t1 (.ref b51) 3 st51 ?_
  refine own_ls #[.val (.int c0), .val (.int c1), .val (.int c2), .val (.int n), .val (.ref b51)] 5 (fun _ q => XS.astore X51.here hx rfl (hb hby dq7_3) rfl rfl (l' := #[.val (.int c0), .val (.int c1), .val (.int c2), .val (.int n), .val (.ref b51)]) rfl q) ?_
  refine own_tp (.int n) 6 (fun _ q => XS.iloadN X51.here hx rfl (hb hby dq7_5) rfl q) ?_
  by_cases c52 : n = (0 : Int32)
  ·
    refine own_d1 9 (fun _ q => XS.ifNo X51.here hx rfl (hb hby dq7_6) rfl ((if0 _ _).trans (teq c52).2) q) ?_
    refine own_tp (.ref b51) 11 (fun _ q => XS.aload X51.here hx rfl (hb hby dq7_9) rfl rfl q) ?_
    refine own_tp (.int (0 : Int32)) 12 (fun _ q => XS.iconst X51.here hx rfl (hb hby dq7_11) q) ?_
    refine own_tp (.int (0 : Int32)) 13 (fun _ q => XS.iconst X51.here hx rfl (hb hby dq7_12) q) ?_
    obtain ⟨cl53, Ar53, q53, S53, Nn53, H53, G53⟩ := (id V51)
    have hin53 : ¬ ((0 : Int32) < 0 ∨ cl53.slots.size ≤ ((0 : Int32)).toNatClampNeg) := inb_of S53 ⟨by decide, by decide⟩
    obtain ⟨T54, h54, X54, e54, W54, st54⟩ := stI X51 hx hZ e51 Ar53 (j := (0 : Int32)) hin53 (g := (mkF m 13 #[.val (.int c0), .val (.int c1), .val (.int c2), .val (.int n), .val (.ref b51)] [(.int (0 : Int32)), (.int (0 : Int32)), (.ref b51)])) rfl rfl (hb hby dq7_13)
    have V54 := Arv.set Ar53 q53 S53 Nn53 H53 G53 rfl W54 0 rfl (Nat.le_of_ble_eq_true rfl)
    have N54 := Fr.snoc X54 N0 ge51
    have K54 : Keep h0 h54 [] := K51.wr W54 (Or.inr sz51)
    have Z54 : n0 ≤ h54.size := Nat.le_trans Z51 (Nat.le_of_eq W54.size.symm)
    have V54' : Arv Z h54 b51 k51 .int (4 : Int32) [(.int (0 : Int32)), (.int (0 : Int32)), (.int (0 : Int32)), (.int (0 : Int32))] (.int (0 : Int32)) := V54
    refine own_cs [] 14 st54 ?_
    refine own_d0 181 (fun _ q => XS.goto X54.here hx rfl (pc0 := 14) (pc' := 181) rfl (hb hby dq7_14) (by decide) (by decide) q) ?_
    refine own_tp (.ref b51) 183 (fun _ q => XS.aload X54.here hx rfl (hb hby dq7_181) rfl rfl q) ?_
    have hP : own_tk n c0 c1 c2 = [] := (by unfold own_tk; rw [if_pos c52])
    have hPP : own_P (own_tk n c0 c1 c2) = [] := (by rw [hP] <;> rfl)
    have e0' : own_pn (own_tk n c0 c1 c2) = (0 : Int32) := (by unfold own_pn; rw [hPP] <;> rfl)
    have e1' : own_pe (own_tk n c0 c1 c2) 0 = (0 : Int32) := (by unfold own_pe; rw [hPP] <;> rfl)
    have e2' : own_pe (own_tk n c0 c1 c2) 1 = (0 : Int32) := (by unfold own_pe; rw [hPP] <;> rfl)
    have e3' : own_pe (own_tk n c0 c1 c2) 2 = (0 : Int32) := (by unfold own_pe; rw [hPP] <;> rfl)
    exact own_retR X54 hx hrt (hb hby dq7_183) rfl rfl hlk (by decide) (by decide) e54 (⟨b51, _, rfl, N54, K54, ge51, sz51, by rw [e0', e1', e2', e3']; exact V54'⟩)
  ·
    refine own_d1 17 (fun _ q => XS.ifYes X51.here hx rfl (pc0 := 6) (pc' := 17) rfl (hb hby dq7_6) rfl ((if0 _ _).trans (feq c52).2) (by decide) (by decide) q) ?_
    refine own_tp (.int n) 18 (fun _ q => XS.iloadN X51.here hx rfl (hb hby dq7_17) rfl q) ?_
    refine own_tp (.int (1 : Int32)) 19 (fun _ q => XS.iconst X51.here hx rfl (hb hby dq7_18) q) ?_
    by_cases c55 : n = (1 : Int32)
    ·
      refine own_d2 22 (fun _ q => XS.icmpNo X51.here hx rfl (hb hby dq7_19) rfl (teq c55).2 q) ?_
      refine own_tp (.ref b51) 24 (fun _ q => XS.aload X51.here hx rfl (hb hby dq7_22) rfl rfl q) ?_
      refine own_tp (.int (0 : Int32)) 25 (fun _ q => XS.iconst X51.here hx rfl (hb hby dq7_24) q) ?_
      refine own_tp (.int (1 : Int32)) 26 (fun _ q => XS.iconst X51.here hx rfl (hb hby dq7_25) q) ?_
      obtain ⟨cl56, Ar56, q56, S56, Nn56, H56, G56⟩ := (id V51)
      have hin56 : ¬ ((0 : Int32) < 0 ∨ cl56.slots.size ≤ ((0 : Int32)).toNatClampNeg) := inb_of S56 ⟨by decide, by decide⟩
      obtain ⟨T57, h57, X57, e57, W57, st57⟩ := stI X51 hx hZ e51 Ar56 (j := (0 : Int32)) hin56 (g := (mkF m 26 #[.val (.int c0), .val (.int c1), .val (.int c2), .val (.int n), .val (.ref b51)] [(.int (1 : Int32)), (.int (0 : Int32)), (.ref b51)])) rfl rfl (hb hby dq7_26)
      have V57 := Arv.set Ar56 q56 S56 Nn56 H56 G56 rfl W57 0 rfl (Nat.le_of_ble_eq_true rfl)
      have N57 := Fr.snoc X57 N0 ge51
      have K57 : Keep h0 h57 [] := K51.wr W57 (Or.inr sz51)
      have Z57 : n0 ≤ h57.size := Nat.le_trans Z51 (Nat.le_of_eq W57.size.symm)
      have V57' : Arv Z h57 b51 k51 .int (4 : Int32) [(.int (1 : Int32)), (.int (0 : Int32)), (.int (0 : Int32)), (.int (0 : Int32))] (.int (0 : Int32)) := V57
      refine own_cs [] 27 st57 ?_
      refine own_tp (.ref b51) 29 (fun _ q => XS.aload X57.here hx rfl (hb hby dq7_27) rfl rfl q) ?_
      refine own_tp (.int (1 : Int32)) 30 (fun _ q => XS.iconst X57.here hx rfl (hb hby dq7_29) q) ?_
      refine own_tp (.int c0) 31 (fun _ q => XS.iloadN X57.here hx rfl (hb hby dq7_30) rfl q) ?_
      obtain ⟨cl58, Ar58, q58, S58, Nn58, H58, G58⟩ := (id V57')
      have hin58 : ¬ ((1 : Int32) < 0 ∨ cl58.slots.size ≤ ((1 : Int32)).toNatClampNeg) := inb_of S58 ⟨by decide, by decide⟩
      obtain ⟨T59, h59, X59, e59, W59, st59⟩ := stI X57 hx hZ e57 Ar58 (j := (1 : Int32)) hin58 (g := (mkF m 31 #[.val (.int c0), .val (.int c1), .val (.int c2), .val (.int n), .val (.ref b51)] [(.int c0), (.int (1 : Int32)), (.ref b51)])) rfl rfl (hb hby dq7_31)
      have V59 := Arv.set Ar58 q58 S58 Nn58 H58 G58 rfl W59 1 rfl (Nat.le_of_ble_eq_true rfl)
      have N59 := Fr.snoc X59 N57 ge51
      have K59 : Keep h0 h59 [] := K57.wr W59 (Or.inr sz51)
      have Z59 : n0 ≤ h59.size := Nat.le_trans Z57 (Nat.le_of_eq W59.size.symm)
      have V59' : Arv Z h59 b51 k51 .int (4 : Int32) [(.int (1 : Int32)), (.int c0), (.int (0 : Int32)), (.int (0 : Int32))] (.int (0 : Int32)) := V59
      refine own_cs [] 32 st59 ?_
      refine own_d0 181 (fun _ q => XS.goto X59.here hx rfl (pc0 := 32) (pc' := 181) rfl (hb hby dq7_32) (by decide) (by decide) q) ?_
      refine own_tp (.ref b51) 183 (fun _ q => XS.aload X59.here hx rfl (hb hby dq7_181) rfl rfl q) ?_
      have hP : own_tk n c0 c1 c2 = [c0] := (by unfold own_tk; rw [if_neg c52, if_pos c55])
      have hPP : own_P (own_tk n c0 c1 c2) = [c0] := (by rw [hP] <;> rfl)
      have e0' : own_pn (own_tk n c0 c1 c2) = (1 : Int32) := (by unfold own_pn; rw [hPP] <;> rfl)
      have e1' : own_pe (own_tk n c0 c1 c2) 0 = c0 := (by unfold own_pe; rw [hPP] <;> rfl)
      have e2' : own_pe (own_tk n c0 c1 c2) 1 = (0 : Int32) := (by unfold own_pe; rw [hPP] <;> rfl)
      have e3' : own_pe (own_tk n c0 c1 c2) 2 = (0 : Int32) := (by unfold own_pe; rw [hPP] <;> rfl)
      exact own_retR X59 hx hrt (hb hby dq7_183) rfl rfl hlk (by decide) (by decide) e59 (⟨b51, _, rfl, N59, K59, ge51, sz51, by rw [e0', e1', e2', e3']; exact V59'⟩)
    ·
      refine own_d2 35 (fun _ q => XS.icmpYes X51.here hx rfl (pc0 := 19) (pc' := 35) rfl (hb hby dq7_19) rfl (feq c55).2 (by decide) (by decide) q) ?_
      refine own_tp (.int n) 36 (fun _ q => XS.iloadN X51.here hx rfl (hb hby dq7_35) rfl q) ?_
      refine own_tp (.int (2 : Int32)) 37 (fun _ q => XS.iconst X51.here hx rfl (hb hby dq7_36) q) ?_
      by_cases c60 : n = (2 : Int32)
      ·
        refine own_d2 40 (fun _ q => XS.icmpNo X51.here hx rfl (hb hby dq7_37) rfl (teq c60).2 q) ?_
        refine own_tp (.int c0) 41 (fun _ q => XS.iloadN X51.here hx rfl (hb hby dq7_40) rfl q) ?_
        obtain ⟨_, _, ⟨T61, L61, k61, n61⟩, -, X61, ⟨Lc61, hQ61, l61, y61, z61⟩, st61⟩ := Jvm.LawKit.callS X51 hx (y := (⟨"com/example/cited_experts/citedexperts/Utf8OrderComparePinLaw", "hi", "(C)Z"⟩ : MethodName)) hown (mvT hZ (own_w hw 95 rfl)) (mvT hZ (own_w hw 96 rfl)) (mvT hZ (own_w hw 3 rfl)) (mvT hZ (own_w hw 97 rfl)) (by decide) (backOf (W := 0) (rm2 l Z a0 hw [] c0 h51 n0 ) hZ (own_w hw 97 rfl) (own_w hw 3 rfl) (by decide) (by decide)) (g := (mkF m 41 #[.val (.int c0), .val (.int c1), .val (.int c2), .val (.int n), .val (.ref b51)] [(.int c0)])) rfl (by rw [hml]; rfl) (argsL := [(.int c0)]) (rest := []) (lenOf pd1 rfl) rfl (by show 2 * 0 + _ ≤ _; exact Nat.le_of_eq rfl) (hb hby dq7_41) (fun _ _ => ⟨rfl, e51, (by decide : 1 + 0 ≤ _), (by decide : 4 + 0 ≤ _)⟩)
        dsimp only [Pt.U, Pt.locs, Pt.cells, Pt.slots] at X61 l61 y61 z61 st61 hQ61
        subst l61 y61 z61
        obtain ⟨rfl, Nq61, eq61⟩ := hQ61
        have N61 := Fr.app N0 Nq61
        refine own_t1 (.int (own_hi c0)) 44 st61 ?_
        by_cases c62 : (own_hi c0) = (0 : Int32)
        ·
          refine own_d1 71 (fun _ q => XS.ifYes X61.here hx rfl (pc0 := 44) (pc' := 71) rfl (hb hby dq7_44) rfl ((if0 _ _).trans (teq c62).1) (by decide) (by decide) q) ?_
          refine own_tp (.ref b51) 73 (fun _ q => XS.aload X61.here hx rfl (hb hby dq7_71) rfl rfl q) ?_
          refine own_tp (.int (0 : Int32)) 74 (fun _ q => XS.iconst X61.here hx rfl (hb hby dq7_73) q) ?_
          refine own_tp (.int (2 : Int32)) 75 (fun _ q => XS.iconst X61.here hx rfl (hb hby dq7_74) q) ?_
          obtain ⟨cl63, Ar63, q63, S63, Nn63, H63, G63⟩ := (id V51)
          have hin63 : ¬ ((0 : Int32) < 0 ∨ cl63.slots.size ≤ ((0 : Int32)).toNatClampNeg) := inb_of S63 ⟨by decide, by decide⟩
          obtain ⟨T64, h64, X64, e64, W64, st64⟩ := stI X61 hx hZ eq61 Ar63 (j := (0 : Int32)) hin63 (g := (mkF m 75 #[.val (.int c0), .val (.int c1), .val (.int c2), .val (.int n), .val (.ref b51)] [(.int (2 : Int32)), (.int (0 : Int32)), (.ref b51)])) rfl rfl (hb hby dq7_75)
          have V64 := Arv.set Ar63 q63 S63 Nn63 H63 G63 rfl W64 0 rfl (Nat.le_of_ble_eq_true rfl)
          have N64 := Fr.snoc X64 N61 ge51
          have K64 : Keep h0 h64 [] := K51.wr W64 (Or.inr sz51)
          have Z64 : n0 ≤ h64.size := Nat.le_trans Z51 (Nat.le_of_eq W64.size.symm)
          have V64' : Arv Z h64 b51 k51 .int (4 : Int32) [(.int (2 : Int32)), (.int (0 : Int32)), (.int (0 : Int32)), (.int (0 : Int32))] (.int (0 : Int32)) := V64
          refine own_cs [] 76 st64 ?_
          refine own_tp (.ref b51) 78 (fun _ q => XS.aload X64.here hx rfl (hb hby dq7_76) rfl rfl q) ?_
          refine own_tp (.int (1 : Int32)) 79 (fun _ q => XS.iconst X64.here hx rfl (hb hby dq7_78) q) ?_
          refine own_tp (.int c0) 80 (fun _ q => XS.iloadN X64.here hx rfl (hb hby dq7_79) rfl q) ?_
          obtain ⟨cl65, Ar65, q65, S65, Nn65, H65, G65⟩ := (id V64')
          have hin65 : ¬ ((1 : Int32) < 0 ∨ cl65.slots.size ≤ ((1 : Int32)).toNatClampNeg) := inb_of S65 ⟨by decide, by decide⟩
          obtain ⟨T66, h66, X66, e66, W66, st66⟩ := stI X64 hx hZ e64 Ar65 (j := (1 : Int32)) hin65 (g := (mkF m 80 #[.val (.int c0), .val (.int c1), .val (.int c2), .val (.int n), .val (.ref b51)] [(.int c0), (.int (1 : Int32)), (.ref b51)])) rfl rfl (hb hby dq7_80)
          have V66 := Arv.set Ar65 q65 S65 Nn65 H65 G65 rfl W66 1 rfl (Nat.le_of_ble_eq_true rfl)
          have N66 := Fr.snoc X66 N64 ge51
          have K66 : Keep h0 h66 [] := K64.wr W66 (Or.inr sz51)
          have Z66 : n0 ≤ h66.size := Nat.le_trans Z64 (Nat.le_of_eq W66.size.symm)
          have V66' : Arv Z h66 b51 k51 .int (4 : Int32) [(.int (2 : Int32)), (.int c0), (.int (0 : Int32)), (.int (0 : Int32))] (.int (0 : Int32)) := V66
          refine own_cs [] 81 st66 ?_
          refine own_tp (.ref b51) 83 (fun _ q => XS.aload X66.here hx rfl (hb hby dq7_81) rfl rfl q) ?_
          refine own_tp (.int (2 : Int32)) 84 (fun _ q => XS.iconst X66.here hx rfl (hb hby dq7_83) q) ?_
          refine own_tp (.int c1) 85 (fun _ q => XS.iloadN X66.here hx rfl (hb hby dq7_84) rfl q) ?_
          obtain ⟨cl67, Ar67, q67, S67, Nn67, H67, G67⟩ := (id V66')
          have hin67 : ¬ ((2 : Int32) < 0 ∨ cl67.slots.size ≤ ((2 : Int32)).toNatClampNeg) := inb_of S67 ⟨by decide, by decide⟩
          obtain ⟨T68, h68, X68, e68, W68, st68⟩ := stI X66 hx hZ e66 Ar67 (j := (2 : Int32)) hin67 (g := (mkF m 85 #[.val (.int c0), .val (.int c1), .val (.int c2), .val (.int n), .val (.ref b51)] [(.int c1), (.int (2 : Int32)), (.ref b51)])) rfl rfl (hb hby dq7_85)
          have V68 := Arv.set Ar67 q67 S67 Nn67 H67 G67 rfl W68 2 rfl (Nat.le_of_ble_eq_true rfl)
          have N68 := Fr.snoc X68 N66 ge51
          have K68 : Keep h0 h68 [] := K66.wr W68 (Or.inr sz51)
          have Z68 : n0 ≤ h68.size := Nat.le_trans Z66 (Nat.le_of_eq W68.size.symm)
          have V68' : Arv Z h68 b51 k51 .int (4 : Int32) [(.int (2 : Int32)), (.int c0), (.int c1), (.int (0 : Int32))] (.int (0 : Int32)) := V68
          refine own_cs [] 86 st68 ?_
          refine own_d0 181 (fun _ q => XS.goto X68.here hx rfl (pc0 := 86) (pc' := 181) rfl (hb hby dq7_86) (by decide) (by decide) q) ?_
          refine own_tp (.ref b51) 183 (fun _ q => XS.aload X68.here hx rfl (hb hby dq7_181) rfl rfl q) ?_
          have hP : own_tk n c0 c1 c2 = [c0, c1] := (by unfold own_tk; rw [if_neg c52, if_neg c55, if_pos c60])
          have hPP : own_P (own_tk n c0 c1 c2) = [c0, c1] := (by rw [hP, own_P1 _ _ c62] <;> rfl)
          have e0' : own_pn (own_tk n c0 c1 c2) = (2 : Int32) := (by unfold own_pn; rw [hPP] <;> rfl)
          have e1' : own_pe (own_tk n c0 c1 c2) 0 = c0 := (by unfold own_pe; rw [hPP] <;> rfl)
          have e2' : own_pe (own_tk n c0 c1 c2) 1 = c1 := (by unfold own_pe; rw [hPP] <;> rfl)
          have e3' : own_pe (own_tk n c0 c1 c2) 2 = (0 : Int32) := (by unfold own_pe; rw [hPP] <;> rfl)
          exact own_retR X68 hx hrt (hb hby dq7_183) rfl rfl hlk (by decide) (by decide) e68 (⟨b51, _, rfl, N68, K68, ge51, sz51, by rw [e0', e1', e2', e3']; exact V68'⟩)
        ·
          refine own_d1 47 (fun _ q => XS.ifNo X61.here hx rfl (hb hby dq7_44) rfl ((if0 _ _).trans (feq c62).1) q) ?_
          refine own_tp (.int c1) 48 (fun _ q => XS.iloadN X61.here hx rfl (hb hby dq7_47) rfl q) ?_
          obtain ⟨_, _, ⟨T69, L69, k69, n69⟩, -, X69, ⟨Lc69, hQ69, l69, y69, z69⟩, st69⟩ := Jvm.LawKit.callS X61 hx (y := (⟨"com/example/cited_experts/citedexperts/Utf8OrderComparePinLaw", "lo", "(C)Z"⟩ : MethodName)) hown (mvT hZ (own_w hw 137 rfl)) (mvT hZ (own_w hw 138 rfl)) (mvT hZ (own_w hw 3 rfl)) (mvT hZ (own_w hw 139 rfl)) (by decide) (backOf (W := 0) (rm3 l Z a0 hw [] c1 h51 n0 ) hZ (own_w hw 139 rfl) (own_w hw 3 rfl) (by decide) (by decide)) (g := (mkF m 48 #[.val (.int c0), .val (.int c1), .val (.int c2), .val (.int n), .val (.ref b51)] [(.int c1)])) rfl (by rw [hml]; rfl) (argsL := [(.int c1)]) (rest := []) (lenOf pd1 rfl) rfl (by show 2 * 0 + _ ≤ _; exact Nat.le_of_eq rfl) (hb hby dq7_48) (fun _ _ => ⟨rfl, eq61, (by decide : 1 + 0 ≤ _), (by decide : 4 + 0 ≤ _)⟩)
          dsimp only [Pt.U, Pt.locs, Pt.cells, Pt.slots] at X69 l69 y69 z69 st69 hQ69
          subst l69 y69 z69
          obtain ⟨rfl, Nq69, eq69⟩ := hQ69
          have N69 := Fr.app N61 Nq69
          refine own_t1 (.int (own_lw c1)) 51 st69 ?_
          by_cases c70 : (own_lw c1) = (0 : Int32)
          ·
            refine own_d1 71 (fun _ q => XS.ifYes X69.here hx rfl (pc0 := 51) (pc' := 71) rfl (hb hby dq7_51) rfl ((if0 _ _).trans (teq c70).1) (by decide) (by decide) q) ?_
            refine own_tp (.ref b51) 73 (fun _ q => XS.aload X69.here hx rfl (hb hby dq7_71) rfl rfl q) ?_
            refine own_tp (.int (0 : Int32)) 74 (fun _ q => XS.iconst X69.here hx rfl (hb hby dq7_73) q) ?_
            refine own_tp (.int (2 : Int32)) 75 (fun _ q => XS.iconst X69.here hx rfl (hb hby dq7_74) q) ?_
            obtain ⟨cl71, Ar71, q71, S71, Nn71, H71, G71⟩ := (id V51)
            have hin71 : ¬ ((0 : Int32) < 0 ∨ cl71.slots.size ≤ ((0 : Int32)).toNatClampNeg) := inb_of S71 ⟨by decide, by decide⟩
            obtain ⟨T72, h72, X72, e72, W72, st72⟩ := stI X69 hx hZ eq69 Ar71 (j := (0 : Int32)) hin71 (g := (mkF m 75 #[.val (.int c0), .val (.int c1), .val (.int c2), .val (.int n), .val (.ref b51)] [(.int (2 : Int32)), (.int (0 : Int32)), (.ref b51)])) rfl rfl (hb hby dq7_75)
            have V72 := Arv.set Ar71 q71 S71 Nn71 H71 G71 rfl W72 0 rfl (Nat.le_of_ble_eq_true rfl)
            have N72 := Fr.snoc X72 N69 ge51
            have K72 : Keep h0 h72 [] := K51.wr W72 (Or.inr sz51)
            have Z72 : n0 ≤ h72.size := Nat.le_trans Z51 (Nat.le_of_eq W72.size.symm)
            have V72' : Arv Z h72 b51 k51 .int (4 : Int32) [(.int (2 : Int32)), (.int (0 : Int32)), (.int (0 : Int32)), (.int (0 : Int32))] (.int (0 : Int32)) := V72
            refine own_cs [] 76 st72 ?_
            refine own_tp (.ref b51) 78 (fun _ q => XS.aload X72.here hx rfl (hb hby dq7_76) rfl rfl q) ?_
            refine own_tp (.int (1 : Int32)) 79 (fun _ q => XS.iconst X72.here hx rfl (hb hby dq7_78) q) ?_
            refine own_tp (.int c0) 80 (fun _ q => XS.iloadN X72.here hx rfl (hb hby dq7_79) rfl q) ?_
            obtain ⟨cl73, Ar73, q73, S73, Nn73, H73, G73⟩ := (id V72')
            have hin73 : ¬ ((1 : Int32) < 0 ∨ cl73.slots.size ≤ ((1 : Int32)).toNatClampNeg) := inb_of S73 ⟨by decide, by decide⟩
            obtain ⟨T74, h74, X74, e74, W74, st74⟩ := stI X72 hx hZ e72 Ar73 (j := (1 : Int32)) hin73 (g := (mkF m 80 #[.val (.int c0), .val (.int c1), .val (.int c2), .val (.int n), .val (.ref b51)] [(.int c0), (.int (1 : Int32)), (.ref b51)])) rfl rfl (hb hby dq7_80)
            have V74 := Arv.set Ar73 q73 S73 Nn73 H73 G73 rfl W74 1 rfl (Nat.le_of_ble_eq_true rfl)
            have N74 := Fr.snoc X74 N72 ge51
            have K74 : Keep h0 h74 [] := K72.wr W74 (Or.inr sz51)
            have Z74 : n0 ≤ h74.size := Nat.le_trans Z72 (Nat.le_of_eq W74.size.symm)
            have V74' : Arv Z h74 b51 k51 .int (4 : Int32) [(.int (2 : Int32)), (.int c0), (.int (0 : Int32)), (.int (0 : Int32))] (.int (0 : Int32)) := V74
            refine own_cs [] 81 st74 ?_
            refine own_tp (.ref b51) 83 (fun _ q => XS.aload X74.here hx rfl (hb hby dq7_81) rfl rfl q) ?_
            refine own_tp (.int (2 : Int32)) 84 (fun _ q => XS.iconst X74.here hx rfl (hb hby dq7_83) q) ?_
            refine own_tp (.int c1) 85 (fun _ q => XS.iloadN X74.here hx rfl (hb hby dq7_84) rfl q) ?_
            obtain ⟨cl75, Ar75, q75, S75, Nn75, H75, G75⟩ := (id V74')
            have hin75 : ¬ ((2 : Int32) < 0 ∨ cl75.slots.size ≤ ((2 : Int32)).toNatClampNeg) := inb_of S75 ⟨by decide, by decide⟩
            obtain ⟨T76, h76, X76, e76, W76, st76⟩ := stI X74 hx hZ e74 Ar75 (j := (2 : Int32)) hin75 (g := (mkF m 85 #[.val (.int c0), .val (.int c1), .val (.int c2), .val (.int n), .val (.ref b51)] [(.int c1), (.int (2 : Int32)), (.ref b51)])) rfl rfl (hb hby dq7_85)
            have V76 := Arv.set Ar75 q75 S75 Nn75 H75 G75 rfl W76 2 rfl (Nat.le_of_ble_eq_true rfl)
            have N76 := Fr.snoc X76 N74 ge51
            have K76 : Keep h0 h76 [] := K74.wr W76 (Or.inr sz51)
            have Z76 : n0 ≤ h76.size := Nat.le_trans Z74 (Nat.le_of_eq W76.size.symm)
            have V76' : Arv Z h76 b51 k51 .int (4 : Int32) [(.int (2 : Int32)), (.int c0), (.int c1), (.int (0 : Int32))] (.int (0 : Int32)) := V76
            refine own_cs [] 86 st76 ?_
            refine own_d0 181 (fun _ q => XS.goto X76.here hx rfl (pc0 := 86) (pc' := 181) rfl (hb hby dq7_86) (by decide) (by decide) q) ?_
            refine own_tp (.ref b51) 183 (fun _ q => XS.aload X76.here hx rfl (hb hby dq7_181) rfl rfl q) ?_
            have hP : own_tk n c0 c1 c2 = [c0, c1] := (by unfold own_tk; rw [if_neg c52, if_neg c55, if_pos c60])
            have hPP : own_P (own_tk n c0 c1 c2) = [c0, c1] := (by rw [hP, own_P2 _ _ _ c62 c70] <;> rfl)
            have e0' : own_pn (own_tk n c0 c1 c2) = (2 : Int32) := (by unfold own_pn; rw [hPP] <;> rfl)
            have e1' : own_pe (own_tk n c0 c1 c2) 0 = c0 := (by unfold own_pe; rw [hPP] <;> rfl)
            have e2' : own_pe (own_tk n c0 c1 c2) 1 = c1 := (by unfold own_pe; rw [hPP] <;> rfl)
            have e3' : own_pe (own_tk n c0 c1 c2) 2 = (0 : Int32) := (by unfold own_pe; rw [hPP] <;> rfl)
            exact own_retR X76 hx hrt (hb hby dq7_183) rfl rfl hlk (by decide) (by decide) e76 (⟨b51, _, rfl, N76, K76, ge51, sz51, by rw [e0', e1', e2', e3']; exact V76'⟩)
          ·
            refine own_d1 54 (fun _ q => XS.ifNo X69.here hx rfl (hb hby dq7_51) rfl ((if0 _ _).trans (feq c70).1) q) ?_
            refine own_tp (.ref b51) 56 (fun _ q => XS.aload X69.here hx rfl (hb hby dq7_54) rfl rfl q) ?_
            refine own_tp (.int (0 : Int32)) 57 (fun _ q => XS.iconst X69.here hx rfl (hb hby dq7_56) q) ?_
            refine own_tp (.int (1 : Int32)) 58 (fun _ q => XS.iconst X69.here hx rfl (hb hby dq7_57) q) ?_
            obtain ⟨cl77, Ar77, q77, S77, Nn77, H77, G77⟩ := (id V51)
            have hin77 : ¬ ((0 : Int32) < 0 ∨ cl77.slots.size ≤ ((0 : Int32)).toNatClampNeg) := inb_of S77 ⟨by decide, by decide⟩
            obtain ⟨T78, h78, X78, e78, W78, st78⟩ := stI X69 hx hZ eq69 Ar77 (j := (0 : Int32)) hin77 (g := (mkF m 58 #[.val (.int c0), .val (.int c1), .val (.int c2), .val (.int n), .val (.ref b51)] [(.int (1 : Int32)), (.int (0 : Int32)), (.ref b51)])) rfl rfl (hb hby dq7_58)
            have V78 := Arv.set Ar77 q77 S77 Nn77 H77 G77 rfl W78 0 rfl (Nat.le_of_ble_eq_true rfl)
            have N78 := Fr.snoc X78 N69 ge51
            have K78 : Keep h0 h78 [] := K51.wr W78 (Or.inr sz51)
            have Z78 : n0 ≤ h78.size := Nat.le_trans Z51 (Nat.le_of_eq W78.size.symm)
            have V78' : Arv Z h78 b51 k51 .int (4 : Int32) [(.int (1 : Int32)), (.int (0 : Int32)), (.int (0 : Int32)), (.int (0 : Int32))] (.int (0 : Int32)) := V78
            refine own_cs [] 59 st78 ?_
            refine own_tp (.ref b51) 61 (fun _ q => XS.aload X78.here hx rfl (hb hby dq7_59) rfl rfl q) ?_
            refine own_tp (.int (1 : Int32)) 62 (fun _ q => XS.iconst X78.here hx rfl (hb hby dq7_61) q) ?_
            refine own_tp (.int c0) 63 (fun _ q => XS.iloadN X78.here hx rfl (hb hby dq7_62) rfl q) ?_
            refine own_tp (.int c1) 64 (fun _ q => XS.iloadN X78.here hx rfl (hb hby dq7_63) rfl q) ?_
            obtain ⟨_, _, ⟨T79, L79, k79, n79⟩, -, X79, ⟨Lc79, hQ79, l79, y79, z79⟩, st79⟩ := Jvm.LawKit.callS X78 hx (y := (⟨"com/example/cited_experts/citedexperts/Utf8OrderComparePinLaw", "pair", "(CC)I"⟩ : MethodName)) hown (mvT hZ (own_w hw 146 rfl)) (mvT hZ (own_w hw 147 rfl)) (mvT hZ (own_w hw 3 rfl)) (mvT hZ (own_w hw 148 rfl)) (by decide) (backOf (W := 2) (rm4 l Z a0 hw [] c0 c1 h78 n0 ) hZ (own_w hw 148 rfl) (own_w hw 3 rfl) (by decide) (by decide)) (g := (mkF m 64 #[.val (.int c0), .val (.int c1), .val (.int c2), .val (.int n), .val (.ref b51)] [(.int c1), (.int c0), (.int (1 : Int32)), (.ref b51)])) rfl (by rw [hml]; rfl) (argsL := [(.int c0), (.int c1)]) (rest := [(.int (1 : Int32)), (.ref b51)]) (lenOf pd2 rfl) rfl (by show 2 * 0 + _ ≤ _; exact Nat.le_of_eq rfl) (hb hby dq7_64) (fun _ _ => ⟨rfl, e78, (by decide : 1 + 0 ≤ _), (by decide : 4 + 0 ≤ _)⟩)
            dsimp only [Pt.U, Pt.locs, Pt.cells, Pt.slots] at X79 l79 y79 z79 st79 hQ79
            subst l79 y79 z79
            obtain ⟨rfl, Nq79, eq79⟩ := hQ79
            have N79 := Fr.app N78 Nq79
            refine own_t2 (.int (own_pair c0 c1)) 67 st79 ?_
            obtain ⟨cl80, Ar80, q80, S80, Nn80, H80, G80⟩ := (id V78')
            have hin80 : ¬ ((1 : Int32) < 0 ∨ cl80.slots.size ≤ ((1 : Int32)).toNatClampNeg) := inb_of S80 ⟨by decide, by decide⟩
            obtain ⟨T81, h81, X81, e81, W81, st81⟩ := stI X79 hx hZ eq79 Ar80 (j := (1 : Int32)) hin80 (g := (mkF m 67 #[.val (.int c0), .val (.int c1), .val (.int c2), .val (.int n), .val (.ref b51)] [(.int (own_pair c0 c1)), (.int (1 : Int32)), (.ref b51)])) rfl rfl (hb hby dq7_67)
            have V81 := Arv.set Ar80 q80 S80 Nn80 H80 G80 rfl W81 1 rfl (Nat.le_of_ble_eq_true rfl)
            have N81 := Fr.snoc X81 N79 ge51
            have K81 : Keep h0 h81 [] := K78.wr W81 (Or.inr sz51)
            have Z81 : n0 ≤ h81.size := Nat.le_trans Z78 (Nat.le_of_eq W81.size.symm)
            have V81' : Arv Z h81 b51 k51 .int (4 : Int32) [(.int (1 : Int32)), (.int (own_pair c0 c1)), (.int (0 : Int32)), (.int (0 : Int32))] (.int (0 : Int32)) := V81
            refine own_cs [] 68 st81 ?_
            refine own_d0 181 (fun _ q => XS.goto X81.here hx rfl (pc0 := 68) (pc' := 181) rfl (hb hby dq7_68) (by decide) (by decide) q) ?_
            refine own_tp (.ref b51) 183 (fun _ q => XS.aload X81.here hx rfl (hb hby dq7_181) rfl rfl q) ?_
            have hP : own_tk n c0 c1 c2 = [c0, c1] := (by unfold own_tk; rw [if_neg c52, if_neg c55, if_pos c60])
            have hPP : own_P (own_tk n c0 c1 c2) = [own_pair c0 c1] := (by rw [hP, own_P3 _ _ _ c62 c70] <;> rfl)
            have e0' : own_pn (own_tk n c0 c1 c2) = (1 : Int32) := (by unfold own_pn; rw [hPP] <;> rfl)
            have e1' : own_pe (own_tk n c0 c1 c2) 0 = own_pair c0 c1 := (by unfold own_pe; rw [hPP] <;> rfl)
            have e2' : own_pe (own_tk n c0 c1 c2) 1 = (0 : Int32) := (by unfold own_pe; rw [hPP] <;> rfl)
            have e3' : own_pe (own_tk n c0 c1 c2) 2 = (0 : Int32) := (by unfold own_pe; rw [hPP] <;> rfl)
            exact own_retR X81 hx hrt (hb hby dq7_183) rfl rfl hlk (by decide) (by decide) e81 (⟨b51, _, rfl, N81, K81, ge51, sz51, by rw [e0', e1', e2', e3']; exact V81'⟩)
      ·
        refine own_d2 89 (fun _ q => XS.icmpYes X51.here hx rfl (pc0 := 37) (pc' := 89) rfl (hb hby dq7_37) rfl (feq c60).2 (by decide) (by decide) q) ?_
        refine own_tp (.int c0) 90 (fun _ q => XS.iloadN X51.here hx rfl (hb hby dq7_89) rfl q) ?_
        obtain ⟨_, _, ⟨T82, L82, k82, n82⟩, -, X82, ⟨Lc82, hQ82, l82, y82, z82⟩, st82⟩ := Jvm.LawKit.callS X51 hx (y := (⟨"com/example/cited_experts/citedexperts/Utf8OrderComparePinLaw", "hi", "(C)Z"⟩ : MethodName)) hown (mvT hZ (own_w hw 95 rfl)) (mvT hZ (own_w hw 96 rfl)) (mvT hZ (own_w hw 3 rfl)) (mvT hZ (own_w hw 97 rfl)) (by decide) (backOf (W := 0) (rm2 l Z a0 hw [] c0 h51 n0 ) hZ (own_w hw 97 rfl) (own_w hw 3 rfl) (by decide) (by decide)) (g := (mkF m 90 #[.val (.int c0), .val (.int c1), .val (.int c2), .val (.int n), .val (.ref b51)] [(.int c0)])) rfl (by rw [hml]; rfl) (argsL := [(.int c0)]) (rest := []) (lenOf pd1 rfl) rfl (by show 2 * 0 + _ ≤ _; exact Nat.le_of_eq rfl) (hb hby dq7_90) (fun _ _ => ⟨rfl, e51, (by decide : 1 + 0 ≤ _), (by decide : 4 + 0 ≤ _)⟩)
        dsimp only [Pt.U, Pt.locs, Pt.cells, Pt.slots] at X82 l82 y82 z82 st82 hQ82
        subst l82 y82 z82
        obtain ⟨rfl, Nq82, eq82⟩ := hQ82
        have N82 := Fr.app N0 Nq82
        refine own_t1 (.int (own_hi c0)) 93 st82 ?_
        by_cases c83 : (own_hi c0) = (0 : Int32)
        ·
          refine own_d1 125 (fun _ q => XS.ifYes X82.here hx rfl (pc0 := 93) (pc' := 125) rfl (hb hby dq7_93) rfl ((if0 _ _).trans (teq c83).1) (by decide) (by decide) q) ?_
          refine own_tp (.int c1) 126 (fun _ q => XS.iloadN X82.here hx rfl (hb hby dq7_125) rfl q) ?_
          obtain ⟨_, _, ⟨T84, L84, k84, n84⟩, -, X84, ⟨Lc84, hQ84, l84, y84, z84⟩, st84⟩ := Jvm.LawKit.callS X82 hx (y := (⟨"com/example/cited_experts/citedexperts/Utf8OrderComparePinLaw", "hi", "(C)Z"⟩ : MethodName)) hown (mvT hZ (own_w hw 95 rfl)) (mvT hZ (own_w hw 96 rfl)) (mvT hZ (own_w hw 3 rfl)) (mvT hZ (own_w hw 97 rfl)) (by decide) (backOf (W := 0) (rm2 l Z a0 hw [] c1 h51 n0 ) hZ (own_w hw 97 rfl) (own_w hw 3 rfl) (by decide) (by decide)) (g := (mkF m 126 #[.val (.int c0), .val (.int c1), .val (.int c2), .val (.int n), .val (.ref b51)] [(.int c1)])) rfl (by rw [hml]; rfl) (argsL := [(.int c1)]) (rest := []) (lenOf pd1 rfl) rfl (by show 2 * 0 + _ ≤ _; exact Nat.le_of_eq rfl) (hb hby dq7_126) (fun _ _ => ⟨rfl, eq82, (by decide : 1 + 0 ≤ _), (by decide : 4 + 0 ≤ _)⟩)
          dsimp only [Pt.U, Pt.locs, Pt.cells, Pt.slots] at X84 l84 y84 z84 st84 hQ84
          subst l84 y84 z84
          obtain ⟨rfl, Nq84, eq84⟩ := hQ84
          have N84 := Fr.app N82 Nq84
          refine own_t1 (.int (own_hi c1)) 129 st84 ?_
          by_cases c85 : (own_hi c1) = (0 : Int32)
          ·
            refine own_d1 161 (fun _ q => XS.ifYes X84.here hx rfl (pc0 := 129) (pc' := 161) rfl (hb hby dq7_129) rfl ((if0 _ _).trans (teq c85).1) (by decide) (by decide) q) ?_
            refine own_tp (.ref b51) 163 (fun _ q => XS.aload X84.here hx rfl (hb hby dq7_161) rfl rfl q) ?_
            refine own_tp (.int (0 : Int32)) 164 (fun _ q => XS.iconst X84.here hx rfl (hb hby dq7_163) q) ?_
            refine own_tp (.int (3 : Int32)) 165 (fun _ q => XS.iconst X84.here hx rfl (hb hby dq7_164) q) ?_
            obtain ⟨cl86, Ar86, q86, S86, Nn86, H86, G86⟩ := (id V51)
            have hin86 : ¬ ((0 : Int32) < 0 ∨ cl86.slots.size ≤ ((0 : Int32)).toNatClampNeg) := inb_of S86 ⟨by decide, by decide⟩
            obtain ⟨T87, h87, X87, e87, W87, st87⟩ := stI X84 hx hZ eq84 Ar86 (j := (0 : Int32)) hin86 (g := (mkF m 165 #[.val (.int c0), .val (.int c1), .val (.int c2), .val (.int n), .val (.ref b51)] [(.int (3 : Int32)), (.int (0 : Int32)), (.ref b51)])) rfl rfl (hb hby dq7_165)
            have V87 := Arv.set Ar86 q86 S86 Nn86 H86 G86 rfl W87 0 rfl (Nat.le_of_ble_eq_true rfl)
            have N87 := Fr.snoc X87 N84 ge51
            have K87 : Keep h0 h87 [] := K51.wr W87 (Or.inr sz51)
            have Z87 : n0 ≤ h87.size := Nat.le_trans Z51 (Nat.le_of_eq W87.size.symm)
            have V87' : Arv Z h87 b51 k51 .int (4 : Int32) [(.int (3 : Int32)), (.int (0 : Int32)), (.int (0 : Int32)), (.int (0 : Int32))] (.int (0 : Int32)) := V87
            refine own_cs [] 166 st87 ?_
            refine own_tp (.ref b51) 168 (fun _ q => XS.aload X87.here hx rfl (hb hby dq7_166) rfl rfl q) ?_
            refine own_tp (.int (1 : Int32)) 169 (fun _ q => XS.iconst X87.here hx rfl (hb hby dq7_168) q) ?_
            refine own_tp (.int c0) 170 (fun _ q => XS.iloadN X87.here hx rfl (hb hby dq7_169) rfl q) ?_
            obtain ⟨cl88, Ar88, q88, S88, Nn88, H88, G88⟩ := (id V87')
            have hin88 : ¬ ((1 : Int32) < 0 ∨ cl88.slots.size ≤ ((1 : Int32)).toNatClampNeg) := inb_of S88 ⟨by decide, by decide⟩
            obtain ⟨T89, h89, X89, e89, W89, st89⟩ := stI X87 hx hZ e87 Ar88 (j := (1 : Int32)) hin88 (g := (mkF m 170 #[.val (.int c0), .val (.int c1), .val (.int c2), .val (.int n), .val (.ref b51)] [(.int c0), (.int (1 : Int32)), (.ref b51)])) rfl rfl (hb hby dq7_170)
            have V89 := Arv.set Ar88 q88 S88 Nn88 H88 G88 rfl W89 1 rfl (Nat.le_of_ble_eq_true rfl)
            have N89 := Fr.snoc X89 N87 ge51
            have K89 : Keep h0 h89 [] := K87.wr W89 (Or.inr sz51)
            have Z89 : n0 ≤ h89.size := Nat.le_trans Z87 (Nat.le_of_eq W89.size.symm)
            have V89' : Arv Z h89 b51 k51 .int (4 : Int32) [(.int (3 : Int32)), (.int c0), (.int (0 : Int32)), (.int (0 : Int32))] (.int (0 : Int32)) := V89
            refine own_cs [] 171 st89 ?_
            refine own_tp (.ref b51) 173 (fun _ q => XS.aload X89.here hx rfl (hb hby dq7_171) rfl rfl q) ?_
            refine own_tp (.int (2 : Int32)) 174 (fun _ q => XS.iconst X89.here hx rfl (hb hby dq7_173) q) ?_
            refine own_tp (.int c1) 175 (fun _ q => XS.iloadN X89.here hx rfl (hb hby dq7_174) rfl q) ?_
            obtain ⟨cl90, Ar90, q90, S90, Nn90, H90, G90⟩ := (id V89')
            have hin90 : ¬ ((2 : Int32) < 0 ∨ cl90.slots.size ≤ ((2 : Int32)).toNatClampNeg) := inb_of S90 ⟨by decide, by decide⟩
            obtain ⟨T91, h91, X91, e91, W91, st91⟩ := stI X89 hx hZ e89 Ar90 (j := (2 : Int32)) hin90 (g := (mkF m 175 #[.val (.int c0), .val (.int c1), .val (.int c2), .val (.int n), .val (.ref b51)] [(.int c1), (.int (2 : Int32)), (.ref b51)])) rfl rfl (hb hby dq7_175)
            have V91 := Arv.set Ar90 q90 S90 Nn90 H90 G90 rfl W91 2 rfl (Nat.le_of_ble_eq_true rfl)
            have N91 := Fr.snoc X91 N89 ge51
            have K91 : Keep h0 h91 [] := K89.wr W91 (Or.inr sz51)
            have Z91 : n0 ≤ h91.size := Nat.le_trans Z89 (Nat.le_of_eq W91.size.symm)
            have V91' : Arv Z h91 b51 k51 .int (4 : Int32) [(.int (3 : Int32)), (.int c0), (.int c1), (.int (0 : Int32))] (.int (0 : Int32)) := V91
            refine own_cs [] 176 st91 ?_
            refine own_tp (.ref b51) 178 (fun _ q => XS.aload X91.here hx rfl (hb hby dq7_176) rfl rfl q) ?_
            refine own_tp (.int (3 : Int32)) 179 (fun _ q => XS.iconst X91.here hx rfl (hb hby dq7_178) q) ?_
            refine own_tp (.int c2) 180 (fun _ q => XS.iloadN X91.here hx rfl (hb hby dq7_179) rfl q) ?_
            obtain ⟨cl92, Ar92, q92, S92, Nn92, H92, G92⟩ := (id V91')
            have hin92 : ¬ ((3 : Int32) < 0 ∨ cl92.slots.size ≤ ((3 : Int32)).toNatClampNeg) := inb_of S92 ⟨by decide, by decide⟩
            obtain ⟨T93, h93, X93, e93, W93, st93⟩ := stI X91 hx hZ e91 Ar92 (j := (3 : Int32)) hin92 (g := (mkF m 180 #[.val (.int c0), .val (.int c1), .val (.int c2), .val (.int n), .val (.ref b51)] [(.int c2), (.int (3 : Int32)), (.ref b51)])) rfl rfl (hb hby dq7_180)
            have V93 := Arv.set Ar92 q92 S92 Nn92 H92 G92 rfl W93 3 rfl (Nat.le_of_ble_eq_true rfl)
            have N93 := Fr.snoc X93 N91 ge51
            have K93 : Keep h0 h93 [] := K91.wr W93 (Or.inr sz51)
            have Z93 : n0 ≤ h93.size := Nat.le_trans Z91 (Nat.le_of_eq W93.size.symm)
            have V93' : Arv Z h93 b51 k51 .int (4 : Int32) [(.int (3 : Int32)), (.int c0), (.int c1), (.int c2)] (.int (0 : Int32)) := V93
            refine own_cs [] 181 st93 ?_
            refine own_tp (.ref b51) 183 (fun _ q => XS.aload X93.here hx rfl (hb hby dq7_181) rfl rfl q) ?_
            have hP : own_tk n c0 c1 c2 = [c0, c1, c2] := (by unfold own_tk; rw [if_neg c52, if_neg c55, if_neg c60])
            have hPP : own_P (own_tk n c0 c1 c2) = [c0, c1, c2] := (by rw [hP, own_P1 _ _ c83, own_P1 _ _ c85] <;> rfl)
            have e0' : own_pn (own_tk n c0 c1 c2) = (3 : Int32) := (by unfold own_pn; rw [hPP] <;> rfl)
            have e1' : own_pe (own_tk n c0 c1 c2) 0 = c0 := (by unfold own_pe; rw [hPP] <;> rfl)
            have e2' : own_pe (own_tk n c0 c1 c2) 1 = c1 := (by unfold own_pe; rw [hPP] <;> rfl)
            have e3' : own_pe (own_tk n c0 c1 c2) 2 = c2 := (by unfold own_pe; rw [hPP] <;> rfl)
            exact own_retR X93 hx hrt (hb hby dq7_183) rfl rfl hlk (by decide) (by decide) e93 (⟨b51, _, rfl, N93, K93, ge51, sz51, by rw [e0', e1', e2', e3']; exact V93'⟩)
          ·
            refine own_d1 132 (fun _ q => XS.ifNo X84.here hx rfl (hb hby dq7_129) rfl ((if0 _ _).trans (feq c85).1) q) ?_
            refine own_tp (.int c2) 133 (fun _ q => XS.iloadN X84.here hx rfl (hb hby dq7_132) rfl q) ?_
            obtain ⟨_, _, ⟨T94, L94, k94, n94⟩, -, X94, ⟨Lc94, hQ94, l94, y94, z94⟩, st94⟩ := Jvm.LawKit.callS X84 hx (y := (⟨"com/example/cited_experts/citedexperts/Utf8OrderComparePinLaw", "lo", "(C)Z"⟩ : MethodName)) hown (mvT hZ (own_w hw 137 rfl)) (mvT hZ (own_w hw 138 rfl)) (mvT hZ (own_w hw 3 rfl)) (mvT hZ (own_w hw 139 rfl)) (by decide) (backOf (W := 0) (rm3 l Z a0 hw [] c2 h51 n0 ) hZ (own_w hw 139 rfl) (own_w hw 3 rfl) (by decide) (by decide)) (g := (mkF m 133 #[.val (.int c0), .val (.int c1), .val (.int c2), .val (.int n), .val (.ref b51)] [(.int c2)])) rfl (by rw [hml]; rfl) (argsL := [(.int c2)]) (rest := []) (lenOf pd1 rfl) rfl (by show 2 * 0 + _ ≤ _; exact Nat.le_of_eq rfl) (hb hby dq7_133) (fun _ _ => ⟨rfl, eq84, (by decide : 1 + 0 ≤ _), (by decide : 4 + 0 ≤ _)⟩)
            dsimp only [Pt.U, Pt.locs, Pt.cells, Pt.slots] at X94 l94 y94 z94 st94 hQ94
            subst l94 y94 z94
            obtain ⟨rfl, Nq94, eq94⟩ := hQ94
            have N94 := Fr.app N84 Nq94
            refine own_t1 (.int (own_lw c2)) 136 st94 ?_
            by_cases c95 : (own_lw c2) = (0 : Int32)
            ·
              refine own_d1 161 (fun _ q => XS.ifYes X94.here hx rfl (pc0 := 136) (pc' := 161) rfl (hb hby dq7_136) rfl ((if0 _ _).trans (teq c95).1) (by decide) (by decide) q) ?_
              refine own_tp (.ref b51) 163 (fun _ q => XS.aload X94.here hx rfl (hb hby dq7_161) rfl rfl q) ?_
              refine own_tp (.int (0 : Int32)) 164 (fun _ q => XS.iconst X94.here hx rfl (hb hby dq7_163) q) ?_
              refine own_tp (.int (3 : Int32)) 165 (fun _ q => XS.iconst X94.here hx rfl (hb hby dq7_164) q) ?_
              obtain ⟨cl96, Ar96, q96, S96, Nn96, H96, G96⟩ := (id V51)
              have hin96 : ¬ ((0 : Int32) < 0 ∨ cl96.slots.size ≤ ((0 : Int32)).toNatClampNeg) := inb_of S96 ⟨by decide, by decide⟩
              obtain ⟨T97, h97, X97, e97, W97, st97⟩ := stI X94 hx hZ eq94 Ar96 (j := (0 : Int32)) hin96 (g := (mkF m 165 #[.val (.int c0), .val (.int c1), .val (.int c2), .val (.int n), .val (.ref b51)] [(.int (3 : Int32)), (.int (0 : Int32)), (.ref b51)])) rfl rfl (hb hby dq7_165)
              have V97 := Arv.set Ar96 q96 S96 Nn96 H96 G96 rfl W97 0 rfl (Nat.le_of_ble_eq_true rfl)
              have N97 := Fr.snoc X97 N94 ge51
              have K97 : Keep h0 h97 [] := K51.wr W97 (Or.inr sz51)
              have Z97 : n0 ≤ h97.size := Nat.le_trans Z51 (Nat.le_of_eq W97.size.symm)
              have V97' : Arv Z h97 b51 k51 .int (4 : Int32) [(.int (3 : Int32)), (.int (0 : Int32)), (.int (0 : Int32)), (.int (0 : Int32))] (.int (0 : Int32)) := V97
              refine own_cs [] 166 st97 ?_
              refine own_tp (.ref b51) 168 (fun _ q => XS.aload X97.here hx rfl (hb hby dq7_166) rfl rfl q) ?_
              refine own_tp (.int (1 : Int32)) 169 (fun _ q => XS.iconst X97.here hx rfl (hb hby dq7_168) q) ?_
              refine own_tp (.int c0) 170 (fun _ q => XS.iloadN X97.here hx rfl (hb hby dq7_169) rfl q) ?_
              obtain ⟨cl98, Ar98, q98, S98, Nn98, H98, G98⟩ := (id V97')
              have hin98 : ¬ ((1 : Int32) < 0 ∨ cl98.slots.size ≤ ((1 : Int32)).toNatClampNeg) := inb_of S98 ⟨by decide, by decide⟩
              obtain ⟨T99, h99, X99, e99, W99, st99⟩ := stI X97 hx hZ e97 Ar98 (j := (1 : Int32)) hin98 (g := (mkF m 170 #[.val (.int c0), .val (.int c1), .val (.int c2), .val (.int n), .val (.ref b51)] [(.int c0), (.int (1 : Int32)), (.ref b51)])) rfl rfl (hb hby dq7_170)
              have V99 := Arv.set Ar98 q98 S98 Nn98 H98 G98 rfl W99 1 rfl (Nat.le_of_ble_eq_true rfl)
              have N99 := Fr.snoc X99 N97 ge51
              have K99 : Keep h0 h99 [] := K97.wr W99 (Or.inr sz51)
              have Z99 : n0 ≤ h99.size := Nat.le_trans Z97 (Nat.le_of_eq W99.size.symm)
              have V99' : Arv Z h99 b51 k51 .int (4 : Int32) [(.int (3 : Int32)), (.int c0), (.int (0 : Int32)), (.int (0 : Int32))] (.int (0 : Int32)) := V99
              refine own_cs [] 171 st99 ?_
              refine own_tp (.ref b51) 173 (fun _ q => XS.aload X99.here hx rfl (hb hby dq7_171) rfl rfl q) ?_
              refine own_tp (.int (2 : Int32)) 174 (fun _ q => XS.iconst X99.here hx rfl (hb hby dq7_173) q) ?_
              refine own_tp (.int c1) 175 (fun _ q => XS.iloadN X99.here hx rfl (hb hby dq7_174) rfl q) ?_
              obtain ⟨cl100, Ar100, q100, S100, Nn100, H100, G100⟩ := (id V99')
              have hin100 : ¬ ((2 : Int32) < 0 ∨ cl100.slots.size ≤ ((2 : Int32)).toNatClampNeg) := inb_of S100 ⟨by decide, by decide⟩
              obtain ⟨T101, h101, X101, e101, W101, st101⟩ := stI X99 hx hZ e99 Ar100 (j := (2 : Int32)) hin100 (g := (mkF m 175 #[.val (.int c0), .val (.int c1), .val (.int c2), .val (.int n), .val (.ref b51)] [(.int c1), (.int (2 : Int32)), (.ref b51)])) rfl rfl (hb hby dq7_175)
              have V101 := Arv.set Ar100 q100 S100 Nn100 H100 G100 rfl W101 2 rfl (Nat.le_of_ble_eq_true rfl)
              have N101 := Fr.snoc X101 N99 ge51
              have K101 : Keep h0 h101 [] := K99.wr W101 (Or.inr sz51)
              have Z101 : n0 ≤ h101.size := Nat.le_trans Z99 (Nat.le_of_eq W101.size.symm)
              have V101' : Arv Z h101 b51 k51 .int (4 : Int32) [(.int (3 : Int32)), (.int c0), (.int c1), (.int (0 : Int32))] (.int (0 : Int32)) := V101
              refine own_cs [] 176 st101 ?_
              refine own_tp (.ref b51) 178 (fun _ q => XS.aload X101.here hx rfl (hb hby dq7_176) rfl rfl q) ?_
              refine own_tp (.int (3 : Int32)) 179 (fun _ q => XS.iconst X101.here hx rfl (hb hby dq7_178) q) ?_
              refine own_tp (.int c2) 180 (fun _ q => XS.iloadN X101.here hx rfl (hb hby dq7_179) rfl q) ?_
              obtain ⟨cl102, Ar102, q102, S102, Nn102, H102, G102⟩ := (id V101')
              have hin102 : ¬ ((3 : Int32) < 0 ∨ cl102.slots.size ≤ ((3 : Int32)).toNatClampNeg) := inb_of S102 ⟨by decide, by decide⟩
              obtain ⟨T103, h103, X103, e103, W103, st103⟩ := stI X101 hx hZ e101 Ar102 (j := (3 : Int32)) hin102 (g := (mkF m 180 #[.val (.int c0), .val (.int c1), .val (.int c2), .val (.int n), .val (.ref b51)] [(.int c2), (.int (3 : Int32)), (.ref b51)])) rfl rfl (hb hby dq7_180)
              have V103 := Arv.set Ar102 q102 S102 Nn102 H102 G102 rfl W103 3 rfl (Nat.le_of_ble_eq_true rfl)
              have N103 := Fr.snoc X103 N101 ge51
              have K103 : Keep h0 h103 [] := K101.wr W103 (Or.inr sz51)
              have Z103 : n0 ≤ h103.size := Nat.le_trans Z101 (Nat.le_of_eq W103.size.symm)
              have V103' : Arv Z h103 b51 k51 .int (4 : Int32) [(.int (3 : Int32)), (.int c0), (.int c1), (.int c2)] (.int (0 : Int32)) := V103
              refine own_cs [] 181 st103 ?_
              refine own_tp (.ref b51) 183 (fun _ q => XS.aload X103.here hx rfl (hb hby dq7_181) rfl rfl q) ?_
              have hP : own_tk n c0 c1 c2 = [c0, c1, c2] := (by unfold own_tk; rw [if_neg c52, if_neg c55, if_neg c60])
              have hPP : own_P (own_tk n c0 c1 c2) = [c0, c1, c2] := (by rw [hP, own_P1 _ _ c83, own_P2 _ _ _ c85 c95] <;> rfl)
              have e0' : own_pn (own_tk n c0 c1 c2) = (3 : Int32) := (by unfold own_pn; rw [hPP] <;> rfl)
              have e1' : own_pe (own_tk n c0 c1 c2) 0 = c0 := (by unfold own_pe; rw [hPP] <;> rfl)
              have e2' : own_pe (own_tk n c0 c1 c2) 1 = c1 := (by unfold own_pe; rw [hPP] <;> rfl)
              have e3' : own_pe (own_tk n c0 c1 c2) 2 = c2 := (by unfold own_pe; rw [hPP] <;> rfl)
              exact own_retR X103 hx hrt (hb hby dq7_183) rfl rfl hlk (by decide) (by decide) e103 (⟨b51, _, rfl, N103, K103, ge51, sz51, by rw [e0', e1', e2', e3']; exact V103'⟩)
            ·
              refine own_d1 139 (fun _ q => XS.ifNo X94.here hx rfl (hb hby dq7_136) rfl ((if0 _ _).trans (feq c95).1) q) ?_
              refine own_tp (.ref b51) 141 (fun _ q => XS.aload X94.here hx rfl (hb hby dq7_139) rfl rfl q) ?_
              refine own_tp (.int (0 : Int32)) 142 (fun _ q => XS.iconst X94.here hx rfl (hb hby dq7_141) q) ?_
              refine own_tp (.int (2 : Int32)) 143 (fun _ q => XS.iconst X94.here hx rfl (hb hby dq7_142) q) ?_
              obtain ⟨cl104, Ar104, q104, S104, Nn104, H104, G104⟩ := (id V51)
              have hin104 : ¬ ((0 : Int32) < 0 ∨ cl104.slots.size ≤ ((0 : Int32)).toNatClampNeg) := inb_of S104 ⟨by decide, by decide⟩
              obtain ⟨T105, h105, X105, e105, W105, st105⟩ := stI X94 hx hZ eq94 Ar104 (j := (0 : Int32)) hin104 (g := (mkF m 143 #[.val (.int c0), .val (.int c1), .val (.int c2), .val (.int n), .val (.ref b51)] [(.int (2 : Int32)), (.int (0 : Int32)), (.ref b51)])) rfl rfl (hb hby dq7_143)
              have V105 := Arv.set Ar104 q104 S104 Nn104 H104 G104 rfl W105 0 rfl (Nat.le_of_ble_eq_true rfl)
              have N105 := Fr.snoc X105 N94 ge51
              have K105 : Keep h0 h105 [] := K51.wr W105 (Or.inr sz51)
              have Z105 : n0 ≤ h105.size := Nat.le_trans Z51 (Nat.le_of_eq W105.size.symm)
              have V105' : Arv Z h105 b51 k51 .int (4 : Int32) [(.int (2 : Int32)), (.int (0 : Int32)), (.int (0 : Int32)), (.int (0 : Int32))] (.int (0 : Int32)) := V105
              refine own_cs [] 144 st105 ?_
              refine own_tp (.ref b51) 146 (fun _ q => XS.aload X105.here hx rfl (hb hby dq7_144) rfl rfl q) ?_
              refine own_tp (.int (1 : Int32)) 147 (fun _ q => XS.iconst X105.here hx rfl (hb hby dq7_146) q) ?_
              refine own_tp (.int c0) 148 (fun _ q => XS.iloadN X105.here hx rfl (hb hby dq7_147) rfl q) ?_
              obtain ⟨cl106, Ar106, q106, S106, Nn106, H106, G106⟩ := (id V105')
              have hin106 : ¬ ((1 : Int32) < 0 ∨ cl106.slots.size ≤ ((1 : Int32)).toNatClampNeg) := inb_of S106 ⟨by decide, by decide⟩
              obtain ⟨T107, h107, X107, e107, W107, st107⟩ := stI X105 hx hZ e105 Ar106 (j := (1 : Int32)) hin106 (g := (mkF m 148 #[.val (.int c0), .val (.int c1), .val (.int c2), .val (.int n), .val (.ref b51)] [(.int c0), (.int (1 : Int32)), (.ref b51)])) rfl rfl (hb hby dq7_148)
              have V107 := Arv.set Ar106 q106 S106 Nn106 H106 G106 rfl W107 1 rfl (Nat.le_of_ble_eq_true rfl)
              have N107 := Fr.snoc X107 N105 ge51
              have K107 : Keep h0 h107 [] := K105.wr W107 (Or.inr sz51)
              have Z107 : n0 ≤ h107.size := Nat.le_trans Z105 (Nat.le_of_eq W107.size.symm)
              have V107' : Arv Z h107 b51 k51 .int (4 : Int32) [(.int (2 : Int32)), (.int c0), (.int (0 : Int32)), (.int (0 : Int32))] (.int (0 : Int32)) := V107
              refine own_cs [] 149 st107 ?_
              refine own_tp (.ref b51) 151 (fun _ q => XS.aload X107.here hx rfl (hb hby dq7_149) rfl rfl q) ?_
              refine own_tp (.int (2 : Int32)) 152 (fun _ q => XS.iconst X107.here hx rfl (hb hby dq7_151) q) ?_
              refine own_tp (.int c1) 153 (fun _ q => XS.iloadN X107.here hx rfl (hb hby dq7_152) rfl q) ?_
              refine own_tp (.int c2) 154 (fun _ q => XS.iloadN X107.here hx rfl (hb hby dq7_153) rfl q) ?_
              obtain ⟨_, _, ⟨T108, L108, k108, n108⟩, -, X108, ⟨Lc108, hQ108, l108, y108, z108⟩, st108⟩ := Jvm.LawKit.callS X107 hx (y := (⟨"com/example/cited_experts/citedexperts/Utf8OrderComparePinLaw", "pair", "(CC)I"⟩ : MethodName)) hown (mvT hZ (own_w hw 146 rfl)) (mvT hZ (own_w hw 147 rfl)) (mvT hZ (own_w hw 3 rfl)) (mvT hZ (own_w hw 148 rfl)) (by decide) (backOf (W := 2) (rm4 l Z a0 hw [] c1 c2 h107 n0 ) hZ (own_w hw 148 rfl) (own_w hw 3 rfl) (by decide) (by decide)) (g := (mkF m 154 #[.val (.int c0), .val (.int c1), .val (.int c2), .val (.int n), .val (.ref b51)] [(.int c2), (.int c1), (.int (2 : Int32)), (.ref b51)])) rfl (by rw [hml]; rfl) (argsL := [(.int c1), (.int c2)]) (rest := [(.int (2 : Int32)), (.ref b51)]) (lenOf pd2 rfl) rfl (by show 2 * 0 + _ ≤ _; exact Nat.le_of_eq rfl) (hb hby dq7_154) (fun _ _ => ⟨rfl, e107, (by decide : 1 + 0 ≤ _), (by decide : 4 + 0 ≤ _)⟩)
              dsimp only [Pt.U, Pt.locs, Pt.cells, Pt.slots] at X108 l108 y108 z108 st108 hQ108
              subst l108 y108 z108
              obtain ⟨rfl, Nq108, eq108⟩ := hQ108
              have N108 := Fr.app N107 Nq108
              refine own_t2 (.int (own_pair c1 c2)) 157 st108 ?_
              obtain ⟨cl109, Ar109, q109, S109, Nn109, H109, G109⟩ := (id V107')
              have hin109 : ¬ ((2 : Int32) < 0 ∨ cl109.slots.size ≤ ((2 : Int32)).toNatClampNeg) := inb_of S109 ⟨by decide, by decide⟩
              obtain ⟨T110, h110, X110, e110, W110, st110⟩ := stI X108 hx hZ eq108 Ar109 (j := (2 : Int32)) hin109 (g := (mkF m 157 #[.val (.int c0), .val (.int c1), .val (.int c2), .val (.int n), .val (.ref b51)] [(.int (own_pair c1 c2)), (.int (2 : Int32)), (.ref b51)])) rfl rfl (hb hby dq7_157)
              have V110 := Arv.set Ar109 q109 S109 Nn109 H109 G109 rfl W110 2 rfl (Nat.le_of_ble_eq_true rfl)
              have N110 := Fr.snoc X110 N108 ge51
              have K110 : Keep h0 h110 [] := K107.wr W110 (Or.inr sz51)
              have Z110 : n0 ≤ h110.size := Nat.le_trans Z107 (Nat.le_of_eq W110.size.symm)
              have V110' : Arv Z h110 b51 k51 .int (4 : Int32) [(.int (2 : Int32)), (.int c0), (.int (own_pair c1 c2)), (.int (0 : Int32))] (.int (0 : Int32)) := V110
              refine own_cs [] 158 st110 ?_
              refine own_d0 181 (fun _ q => XS.goto X110.here hx rfl (pc0 := 158) (pc' := 181) rfl (hb hby dq7_158) (by decide) (by decide) q) ?_
              refine own_tp (.ref b51) 183 (fun _ q => XS.aload X110.here hx rfl (hb hby dq7_181) rfl rfl q) ?_
              have hP : own_tk n c0 c1 c2 = [c0, c1, c2] := (by unfold own_tk; rw [if_neg c52, if_neg c55, if_neg c60])
              have hPP : own_P (own_tk n c0 c1 c2) = [c0, own_pair c1 c2] := (by rw [hP, own_P1 _ _ c83, own_P3 _ _ _ c85 c95] <;> rfl)
              have e0' : own_pn (own_tk n c0 c1 c2) = (2 : Int32) := (by unfold own_pn; rw [hPP] <;> rfl)
              have e1' : own_pe (own_tk n c0 c1 c2) 0 = c0 := (by unfold own_pe; rw [hPP] <;> rfl)
              have e2' : own_pe (own_tk n c0 c1 c2) 1 = own_pair c1 c2 := (by unfold own_pe; rw [hPP] <;> rfl)
              have e3' : own_pe (own_tk n c0 c1 c2) 2 = (0 : Int32) := (by unfold own_pe; rw [hPP] <;> rfl)
              exact own_retR X110 hx hrt (hb hby dq7_183) rfl rfl hlk (by decide) (by decide) e110 (⟨b51, _, rfl, N110, K110, ge51, sz51, by rw [e0', e1', e2', e3']; exact V110'⟩)
        ·
          refine own_d1 96 (fun _ q => XS.ifNo X82.here hx rfl (hb hby dq7_93) rfl ((if0 _ _).trans (feq c83).1) q) ?_
          refine own_tp (.int c1) 97 (fun _ q => XS.iloadN X82.here hx rfl (hb hby dq7_96) rfl q) ?_
          obtain ⟨_, _, ⟨T111, L111, k111, n111⟩, -, X111, ⟨Lc111, hQ111, l111, y111, z111⟩, st111⟩ := Jvm.LawKit.callS X82 hx (y := (⟨"com/example/cited_experts/citedexperts/Utf8OrderComparePinLaw", "lo", "(C)Z"⟩ : MethodName)) hown (mvT hZ (own_w hw 137 rfl)) (mvT hZ (own_w hw 138 rfl)) (mvT hZ (own_w hw 3 rfl)) (mvT hZ (own_w hw 139 rfl)) (by decide) (backOf (W := 0) (rm3 l Z a0 hw [] c1 h51 n0 ) hZ (own_w hw 139 rfl) (own_w hw 3 rfl) (by decide) (by decide)) (g := (mkF m 97 #[.val (.int c0), .val (.int c1), .val (.int c2), .val (.int n), .val (.ref b51)] [(.int c1)])) rfl (by rw [hml]; rfl) (argsL := [(.int c1)]) (rest := []) (lenOf pd1 rfl) rfl (by show 2 * 0 + _ ≤ _; exact Nat.le_of_eq rfl) (hb hby dq7_97) (fun _ _ => ⟨rfl, eq82, (by decide : 1 + 0 ≤ _), (by decide : 4 + 0 ≤ _)⟩)
          dsimp only [Pt.U, Pt.locs, Pt.cells, Pt.slots] at X111 l111 y111 z111 st111 hQ111
          subst l111 y111 z111
          obtain ⟨rfl, Nq111, eq111⟩ := hQ111
          have N111 := Fr.app N82 Nq111
          refine own_t1 (.int (own_lw c1)) 100 st111 ?_
          by_cases c112 : (own_lw c1) = (0 : Int32)
          ·
            refine own_d1 125 (fun _ q => XS.ifYes X111.here hx rfl (pc0 := 100) (pc' := 125) rfl (hb hby dq7_100) rfl ((if0 _ _).trans (teq c112).1) (by decide) (by decide) q) ?_
            refine own_tp (.int c1) 126 (fun _ q => XS.iloadN X111.here hx rfl (hb hby dq7_125) rfl q) ?_
            obtain ⟨_, _, ⟨T113, L113, k113, n113⟩, -, X113, ⟨Lc113, hQ113, l113, y113, z113⟩, st113⟩ := Jvm.LawKit.callS X111 hx (y := (⟨"com/example/cited_experts/citedexperts/Utf8OrderComparePinLaw", "hi", "(C)Z"⟩ : MethodName)) hown (mvT hZ (own_w hw 95 rfl)) (mvT hZ (own_w hw 96 rfl)) (mvT hZ (own_w hw 3 rfl)) (mvT hZ (own_w hw 97 rfl)) (by decide) (backOf (W := 0) (rm2 l Z a0 hw [] c1 h51 n0 ) hZ (own_w hw 97 rfl) (own_w hw 3 rfl) (by decide) (by decide)) (g := (mkF m 126 #[.val (.int c0), .val (.int c1), .val (.int c2), .val (.int n), .val (.ref b51)] [(.int c1)])) rfl (by rw [hml]; rfl) (argsL := [(.int c1)]) (rest := []) (lenOf pd1 rfl) rfl (by show 2 * 0 + _ ≤ _; exact Nat.le_of_eq rfl) (hb hby dq7_126) (fun _ _ => ⟨rfl, eq111, (by decide : 1 + 0 ≤ _), (by decide : 4 + 0 ≤ _)⟩)
            dsimp only [Pt.U, Pt.locs, Pt.cells, Pt.slots] at X113 l113 y113 z113 st113 hQ113
            subst l113 y113 z113
            obtain ⟨rfl, Nq113, eq113⟩ := hQ113
            have N113 := Fr.app N111 Nq113
            refine own_t1 (.int (own_hi c1)) 129 st113 ?_
            by_cases c114 : (own_hi c1) = (0 : Int32)
            ·
              refine own_d1 161 (fun _ q => XS.ifYes X113.here hx rfl (pc0 := 129) (pc' := 161) rfl (hb hby dq7_129) rfl ((if0 _ _).trans (teq c114).1) (by decide) (by decide) q) ?_
              refine own_tp (.ref b51) 163 (fun _ q => XS.aload X113.here hx rfl (hb hby dq7_161) rfl rfl q) ?_
              refine own_tp (.int (0 : Int32)) 164 (fun _ q => XS.iconst X113.here hx rfl (hb hby dq7_163) q) ?_
              refine own_tp (.int (3 : Int32)) 165 (fun _ q => XS.iconst X113.here hx rfl (hb hby dq7_164) q) ?_
              obtain ⟨cl115, Ar115, q115, S115, Nn115, H115, G115⟩ := (id V51)
              have hin115 : ¬ ((0 : Int32) < 0 ∨ cl115.slots.size ≤ ((0 : Int32)).toNatClampNeg) := inb_of S115 ⟨by decide, by decide⟩
              obtain ⟨T116, h116, X116, e116, W116, st116⟩ := stI X113 hx hZ eq113 Ar115 (j := (0 : Int32)) hin115 (g := (mkF m 165 #[.val (.int c0), .val (.int c1), .val (.int c2), .val (.int n), .val (.ref b51)] [(.int (3 : Int32)), (.int (0 : Int32)), (.ref b51)])) rfl rfl (hb hby dq7_165)
              have V116 := Arv.set Ar115 q115 S115 Nn115 H115 G115 rfl W116 0 rfl (Nat.le_of_ble_eq_true rfl)
              have N116 := Fr.snoc X116 N113 ge51
              have K116 : Keep h0 h116 [] := K51.wr W116 (Or.inr sz51)
              have Z116 : n0 ≤ h116.size := Nat.le_trans Z51 (Nat.le_of_eq W116.size.symm)
              have V116' : Arv Z h116 b51 k51 .int (4 : Int32) [(.int (3 : Int32)), (.int (0 : Int32)), (.int (0 : Int32)), (.int (0 : Int32))] (.int (0 : Int32)) := V116
              refine own_cs [] 166 st116 ?_
              refine own_tp (.ref b51) 168 (fun _ q => XS.aload X116.here hx rfl (hb hby dq7_166) rfl rfl q) ?_
              refine own_tp (.int (1 : Int32)) 169 (fun _ q => XS.iconst X116.here hx rfl (hb hby dq7_168) q) ?_
              refine own_tp (.int c0) 170 (fun _ q => XS.iloadN X116.here hx rfl (hb hby dq7_169) rfl q) ?_
              obtain ⟨cl117, Ar117, q117, S117, Nn117, H117, G117⟩ := (id V116')
              have hin117 : ¬ ((1 : Int32) < 0 ∨ cl117.slots.size ≤ ((1 : Int32)).toNatClampNeg) := inb_of S117 ⟨by decide, by decide⟩
              obtain ⟨T118, h118, X118, e118, W118, st118⟩ := stI X116 hx hZ e116 Ar117 (j := (1 : Int32)) hin117 (g := (mkF m 170 #[.val (.int c0), .val (.int c1), .val (.int c2), .val (.int n), .val (.ref b51)] [(.int c0), (.int (1 : Int32)), (.ref b51)])) rfl rfl (hb hby dq7_170)
              have V118 := Arv.set Ar117 q117 S117 Nn117 H117 G117 rfl W118 1 rfl (Nat.le_of_ble_eq_true rfl)
              have N118 := Fr.snoc X118 N116 ge51
              have K118 : Keep h0 h118 [] := K116.wr W118 (Or.inr sz51)
              have Z118 : n0 ≤ h118.size := Nat.le_trans Z116 (Nat.le_of_eq W118.size.symm)
              have V118' : Arv Z h118 b51 k51 .int (4 : Int32) [(.int (3 : Int32)), (.int c0), (.int (0 : Int32)), (.int (0 : Int32))] (.int (0 : Int32)) := V118
              refine own_cs [] 171 st118 ?_
              refine own_tp (.ref b51) 173 (fun _ q => XS.aload X118.here hx rfl (hb hby dq7_171) rfl rfl q) ?_
              refine own_tp (.int (2 : Int32)) 174 (fun _ q => XS.iconst X118.here hx rfl (hb hby dq7_173) q) ?_
              refine own_tp (.int c1) 175 (fun _ q => XS.iloadN X118.here hx rfl (hb hby dq7_174) rfl q) ?_
              obtain ⟨cl119, Ar119, q119, S119, Nn119, H119, G119⟩ := (id V118')
              have hin119 : ¬ ((2 : Int32) < 0 ∨ cl119.slots.size ≤ ((2 : Int32)).toNatClampNeg) := inb_of S119 ⟨by decide, by decide⟩
              obtain ⟨T120, h120, X120, e120, W120, st120⟩ := stI X118 hx hZ e118 Ar119 (j := (2 : Int32)) hin119 (g := (mkF m 175 #[.val (.int c0), .val (.int c1), .val (.int c2), .val (.int n), .val (.ref b51)] [(.int c1), (.int (2 : Int32)), (.ref b51)])) rfl rfl (hb hby dq7_175)
              have V120 := Arv.set Ar119 q119 S119 Nn119 H119 G119 rfl W120 2 rfl (Nat.le_of_ble_eq_true rfl)
              have N120 := Fr.snoc X120 N118 ge51
              have K120 : Keep h0 h120 [] := K118.wr W120 (Or.inr sz51)
              have Z120 : n0 ≤ h120.size := Nat.le_trans Z118 (Nat.le_of_eq W120.size.symm)
              have V120' : Arv Z h120 b51 k51 .int (4 : Int32) [(.int (3 : Int32)), (.int c0), (.int c1), (.int (0 : Int32))] (.int (0 : Int32)) := V120
              refine own_cs [] 176 st120 ?_
              refine own_tp (.ref b51) 178 (fun _ q => XS.aload X120.here hx rfl (hb hby dq7_176) rfl rfl q) ?_
              refine own_tp (.int (3 : Int32)) 179 (fun _ q => XS.iconst X120.here hx rfl (hb hby dq7_178) q) ?_
              refine own_tp (.int c2) 180 (fun _ q => XS.iloadN X120.here hx rfl (hb hby dq7_179) rfl q) ?_
              obtain ⟨cl121, Ar121, q121, S121, Nn121, H121, G121⟩ := (id V120')
              have hin121 : ¬ ((3 : Int32) < 0 ∨ cl121.slots.size ≤ ((3 : Int32)).toNatClampNeg) := inb_of S121 ⟨by decide, by decide⟩
              obtain ⟨T122, h122, X122, e122, W122, st122⟩ := stI X120 hx hZ e120 Ar121 (j := (3 : Int32)) hin121 (g := (mkF m 180 #[.val (.int c0), .val (.int c1), .val (.int c2), .val (.int n), .val (.ref b51)] [(.int c2), (.int (3 : Int32)), (.ref b51)])) rfl rfl (hb hby dq7_180)
              have V122 := Arv.set Ar121 q121 S121 Nn121 H121 G121 rfl W122 3 rfl (Nat.le_of_ble_eq_true rfl)
              have N122 := Fr.snoc X122 N120 ge51
              have K122 : Keep h0 h122 [] := K120.wr W122 (Or.inr sz51)
              have Z122 : n0 ≤ h122.size := Nat.le_trans Z120 (Nat.le_of_eq W122.size.symm)
              have V122' : Arv Z h122 b51 k51 .int (4 : Int32) [(.int (3 : Int32)), (.int c0), (.int c1), (.int c2)] (.int (0 : Int32)) := V122
              refine own_cs [] 181 st122 ?_
              refine own_tp (.ref b51) 183 (fun _ q => XS.aload X122.here hx rfl (hb hby dq7_181) rfl rfl q) ?_
              have hP : own_tk n c0 c1 c2 = [c0, c1, c2] := (by unfold own_tk; rw [if_neg c52, if_neg c55, if_neg c60])
              have hPP : own_P (own_tk n c0 c1 c2) = [c0, c1, c2] := (by rw [hP, own_P2 _ _ _ c83 c112, own_P1 _ _ c114] <;> rfl)
              have e0' : own_pn (own_tk n c0 c1 c2) = (3 : Int32) := (by unfold own_pn; rw [hPP] <;> rfl)
              have e1' : own_pe (own_tk n c0 c1 c2) 0 = c0 := (by unfold own_pe; rw [hPP] <;> rfl)
              have e2' : own_pe (own_tk n c0 c1 c2) 1 = c1 := (by unfold own_pe; rw [hPP] <;> rfl)
              have e3' : own_pe (own_tk n c0 c1 c2) 2 = c2 := (by unfold own_pe; rw [hPP] <;> rfl)
              exact own_retR X122 hx hrt (hb hby dq7_183) rfl rfl hlk (by decide) (by decide) e122 (⟨b51, _, rfl, N122, K122, ge51, sz51, by rw [e0', e1', e2', e3']; exact V122'⟩)
            ·
              refine own_d1 132 (fun _ q => XS.ifNo X113.here hx rfl (hb hby dq7_129) rfl ((if0 _ _).trans (feq c114).1) q) ?_
              refine own_tp (.int c2) 133 (fun _ q => XS.iloadN X113.here hx rfl (hb hby dq7_132) rfl q) ?_
              obtain ⟨_, _, ⟨T123, L123, k123, n123⟩, -, X123, ⟨Lc123, hQ123, l123, y123, z123⟩, st123⟩ := Jvm.LawKit.callS X113 hx (y := (⟨"com/example/cited_experts/citedexperts/Utf8OrderComparePinLaw", "lo", "(C)Z"⟩ : MethodName)) hown (mvT hZ (own_w hw 137 rfl)) (mvT hZ (own_w hw 138 rfl)) (mvT hZ (own_w hw 3 rfl)) (mvT hZ (own_w hw 139 rfl)) (by decide) (backOf (W := 0) (rm3 l Z a0 hw [] c2 h51 n0 ) hZ (own_w hw 139 rfl) (own_w hw 3 rfl) (by decide) (by decide)) (g := (mkF m 133 #[.val (.int c0), .val (.int c1), .val (.int c2), .val (.int n), .val (.ref b51)] [(.int c2)])) rfl (by rw [hml]; rfl) (argsL := [(.int c2)]) (rest := []) (lenOf pd1 rfl) rfl (by show 2 * 0 + _ ≤ _; exact Nat.le_of_eq rfl) (hb hby dq7_133) (fun _ _ => ⟨rfl, eq113, (by decide : 1 + 0 ≤ _), (by decide : 4 + 0 ≤ _)⟩)
              dsimp only [Pt.U, Pt.locs, Pt.cells, Pt.slots] at X123 l123 y123 z123 st123 hQ123
              subst l123 y123 z123
              obtain ⟨rfl, Nq123, eq123⟩ := hQ123
              have N123 := Fr.app N113 Nq123
              refine own_t1 (.int (own_lw c2)) 136 st123 ?_
              by_cases c124 : (own_lw c2) = (0 : Int32)
              ·
                refine own_d1 161 (fun _ q => XS.ifYes X123.here hx rfl (pc0 := 136) (pc' := 161) rfl (hb hby dq7_136) rfl ((if0 _ _).trans (teq c124).1) (by decide) (by decide) q) ?_
                refine own_tp (.ref b51) 163 (fun _ q => XS.aload X123.here hx rfl (hb hby dq7_161) rfl rfl q) ?_
                refine own_tp (.int (0 : Int32)) 164 (fun _ q => XS.iconst X123.here hx rfl (hb hby dq7_163) q) ?_
                refine own_tp (.int (3 : Int32)) 165 (fun _ q => XS.iconst X123.here hx rfl (hb hby dq7_164) q) ?_
                obtain ⟨cl125, Ar125, q125, S125, Nn125, H125, G125⟩ := (id V51)
                have hin125 : ¬ ((0 : Int32) < 0 ∨ cl125.slots.size ≤ ((0 : Int32)).toNatClampNeg) := inb_of S125 ⟨by decide, by decide⟩
                obtain ⟨T126, h126, X126, e126, W126, st126⟩ := stI X123 hx hZ eq123 Ar125 (j := (0 : Int32)) hin125 (g := (mkF m 165 #[.val (.int c0), .val (.int c1), .val (.int c2), .val (.int n), .val (.ref b51)] [(.int (3 : Int32)), (.int (0 : Int32)), (.ref b51)])) rfl rfl (hb hby dq7_165)
                have V126 := Arv.set Ar125 q125 S125 Nn125 H125 G125 rfl W126 0 rfl (Nat.le_of_ble_eq_true rfl)
                have N126 := Fr.snoc X126 N123 ge51
                have K126 : Keep h0 h126 [] := K51.wr W126 (Or.inr sz51)
                have Z126 : n0 ≤ h126.size := Nat.le_trans Z51 (Nat.le_of_eq W126.size.symm)
                have V126' : Arv Z h126 b51 k51 .int (4 : Int32) [(.int (3 : Int32)), (.int (0 : Int32)), (.int (0 : Int32)), (.int (0 : Int32))] (.int (0 : Int32)) := V126
                refine own_cs [] 166 st126 ?_
                refine own_tp (.ref b51) 168 (fun _ q => XS.aload X126.here hx rfl (hb hby dq7_166) rfl rfl q) ?_
                refine own_tp (.int (1 : Int32)) 169 (fun _ q => XS.iconst X126.here hx rfl (hb hby dq7_168) q) ?_
                refine own_tp (.int c0) 170 (fun _ q => XS.iloadN X126.here hx rfl (hb hby dq7_169) rfl q) ?_
                obtain ⟨cl127, Ar127, q127, S127, Nn127, H127, G127⟩ := (id V126')
                have hin127 : ¬ ((1 : Int32) < 0 ∨ cl127.slots.size ≤ ((1 : Int32)).toNatClampNeg) := inb_of S127 ⟨by decide, by decide⟩
                obtain ⟨T128, h128, X128, e128, W128, st128⟩ := stI X126 hx hZ e126 Ar127 (j := (1 : Int32)) hin127 (g := (mkF m 170 #[.val (.int c0), .val (.int c1), .val (.int c2), .val (.int n), .val (.ref b51)] [(.int c0), (.int (1 : Int32)), (.ref b51)])) rfl rfl (hb hby dq7_170)
                have V128 := Arv.set Ar127 q127 S127 Nn127 H127 G127 rfl W128 1 rfl (Nat.le_of_ble_eq_true rfl)
                have N128 := Fr.snoc X128 N126 ge51
                have K128 : Keep h0 h128 [] := K126.wr W128 (Or.inr sz51)
                have Z128 : n0 ≤ h128.size := Nat.le_trans Z126 (Nat.le_of_eq W128.size.symm)
                have V128' : Arv Z h128 b51 k51 .int (4 : Int32) [(.int (3 : Int32)), (.int c0), (.int (0 : Int32)), (.int (0 : Int32))] (.int (0 : Int32)) := V128
                refine own_cs [] 171 st128 ?_
                refine own_tp (.ref b51) 173 (fun _ q => XS.aload X128.here hx rfl (hb hby dq7_171) rfl rfl q) ?_
                refine own_tp (.int (2 : Int32)) 174 (fun _ q => XS.iconst X128.here hx rfl (hb hby dq7_173) q) ?_
                refine own_tp (.int c1) 175 (fun _ q => XS.iloadN X128.here hx rfl (hb hby dq7_174) rfl q) ?_
                obtain ⟨cl129, Ar129, q129, S129, Nn129, H129, G129⟩ := (id V128')
                have hin129 : ¬ ((2 : Int32) < 0 ∨ cl129.slots.size ≤ ((2 : Int32)).toNatClampNeg) := inb_of S129 ⟨by decide, by decide⟩
                obtain ⟨T130, h130, X130, e130, W130, st130⟩ := stI X128 hx hZ e128 Ar129 (j := (2 : Int32)) hin129 (g := (mkF m 175 #[.val (.int c0), .val (.int c1), .val (.int c2), .val (.int n), .val (.ref b51)] [(.int c1), (.int (2 : Int32)), (.ref b51)])) rfl rfl (hb hby dq7_175)
                have V130 := Arv.set Ar129 q129 S129 Nn129 H129 G129 rfl W130 2 rfl (Nat.le_of_ble_eq_true rfl)
                have N130 := Fr.snoc X130 N128 ge51
                have K130 : Keep h0 h130 [] := K128.wr W130 (Or.inr sz51)
                have Z130 : n0 ≤ h130.size := Nat.le_trans Z128 (Nat.le_of_eq W130.size.symm)
                have V130' : Arv Z h130 b51 k51 .int (4 : Int32) [(.int (3 : Int32)), (.int c0), (.int c1), (.int (0 : Int32))] (.int (0 : Int32)) := V130
                refine own_cs [] 176 st130 ?_
                refine own_tp (.ref b51) 178 (fun _ q => XS.aload X130.here hx rfl (hb hby dq7_176) rfl rfl q) ?_
                refine own_tp (.int (3 : Int32)) 179 (fun _ q => XS.iconst X130.here hx rfl (hb hby dq7_178) q) ?_
                refine own_tp (.int c2) 180 (fun _ q => XS.iloadN X130.here hx rfl (hb hby dq7_179) rfl q) ?_
                obtain ⟨cl131, Ar131, q131, S131, Nn131, H131, G131⟩ := (id V130')
                have hin131 : ¬ ((3 : Int32) < 0 ∨ cl131.slots.size ≤ ((3 : Int32)).toNatClampNeg) := inb_of S131 ⟨by decide, by decide⟩
                obtain ⟨T132, h132, X132, e132, W132, st132⟩ := stI X130 hx hZ e130 Ar131 (j := (3 : Int32)) hin131 (g := (mkF m 180 #[.val (.int c0), .val (.int c1), .val (.int c2), .val (.int n), .val (.ref b51)] [(.int c2), (.int (3 : Int32)), (.ref b51)])) rfl rfl (hb hby dq7_180)
                have V132 := Arv.set Ar131 q131 S131 Nn131 H131 G131 rfl W132 3 rfl (Nat.le_of_ble_eq_true rfl)
                have N132 := Fr.snoc X132 N130 ge51
                have K132 : Keep h0 h132 [] := K130.wr W132 (Or.inr sz51)
                have Z132 : n0 ≤ h132.size := Nat.le_trans Z130 (Nat.le_of_eq W132.size.symm)
                have V132' : Arv Z h132 b51 k51 .int (4 : Int32) [(.int (3 : Int32)), (.int c0), (.int c1), (.int c2)] (.int (0 : Int32)) := V132
                refine own_cs [] 181 st132 ?_
                refine own_tp (.ref b51) 183 (fun _ q => XS.aload X132.here hx rfl (hb hby dq7_181) rfl rfl q) ?_
                have hP : own_tk n c0 c1 c2 = [c0, c1, c2] := (by unfold own_tk; rw [if_neg c52, if_neg c55, if_neg c60])
                have hPP : own_P (own_tk n c0 c1 c2) = [c0, c1, c2] := (by rw [hP, own_P2 _ _ _ c83 c112, own_P2 _ _ _ c114 c124] <;> rfl)
                have e0' : own_pn (own_tk n c0 c1 c2) = (3 : Int32) := (by unfold own_pn; rw [hPP] <;> rfl)
                have e1' : own_pe (own_tk n c0 c1 c2) 0 = c0 := (by unfold own_pe; rw [hPP] <;> rfl)
                have e2' : own_pe (own_tk n c0 c1 c2) 1 = c1 := (by unfold own_pe; rw [hPP] <;> rfl)
                have e3' : own_pe (own_tk n c0 c1 c2) 2 = c2 := (by unfold own_pe; rw [hPP] <;> rfl)
                exact own_retR X132 hx hrt (hb hby dq7_183) rfl rfl hlk (by decide) (by decide) e132 (⟨b51, _, rfl, N132, K132, ge51, sz51, by rw [e0', e1', e2', e3']; exact V132'⟩)
              ·
                refine own_d1 139 (fun _ q => XS.ifNo X123.here hx rfl (hb hby dq7_136) rfl ((if0 _ _).trans (feq c124).1) q) ?_
                refine own_tp (.ref b51) 141 (fun _ q => XS.aload X123.here hx rfl (hb hby dq7_139) rfl rfl q) ?_
                refine own_tp (.int (0 : Int32)) 142 (fun _ q => XS.iconst X123.here hx rfl (hb hby dq7_141) q) ?_
                refine own_tp (.int (2 : Int32)) 143 (fun _ q => XS.iconst X123.here hx rfl (hb hby dq7_142) q) ?_
                obtain ⟨cl133, Ar133, q133, S133, Nn133, H133, G133⟩ := (id V51)
                have hin133 : ¬ ((0 : Int32) < 0 ∨ cl133.slots.size ≤ ((0 : Int32)).toNatClampNeg) := inb_of S133 ⟨by decide, by decide⟩
                obtain ⟨T134, h134, X134, e134, W134, st134⟩ := stI X123 hx hZ eq123 Ar133 (j := (0 : Int32)) hin133 (g := (mkF m 143 #[.val (.int c0), .val (.int c1), .val (.int c2), .val (.int n), .val (.ref b51)] [(.int (2 : Int32)), (.int (0 : Int32)), (.ref b51)])) rfl rfl (hb hby dq7_143)
                have V134 := Arv.set Ar133 q133 S133 Nn133 H133 G133 rfl W134 0 rfl (Nat.le_of_ble_eq_true rfl)
                have N134 := Fr.snoc X134 N123 ge51
                have K134 : Keep h0 h134 [] := K51.wr W134 (Or.inr sz51)
                have Z134 : n0 ≤ h134.size := Nat.le_trans Z51 (Nat.le_of_eq W134.size.symm)
                have V134' : Arv Z h134 b51 k51 .int (4 : Int32) [(.int (2 : Int32)), (.int (0 : Int32)), (.int (0 : Int32)), (.int (0 : Int32))] (.int (0 : Int32)) := V134
                refine own_cs [] 144 st134 ?_
                refine own_tp (.ref b51) 146 (fun _ q => XS.aload X134.here hx rfl (hb hby dq7_144) rfl rfl q) ?_
                refine own_tp (.int (1 : Int32)) 147 (fun _ q => XS.iconst X134.here hx rfl (hb hby dq7_146) q) ?_
                refine own_tp (.int c0) 148 (fun _ q => XS.iloadN X134.here hx rfl (hb hby dq7_147) rfl q) ?_
                obtain ⟨cl135, Ar135, q135, S135, Nn135, H135, G135⟩ := (id V134')
                have hin135 : ¬ ((1 : Int32) < 0 ∨ cl135.slots.size ≤ ((1 : Int32)).toNatClampNeg) := inb_of S135 ⟨by decide, by decide⟩
                obtain ⟨T136, h136, X136, e136, W136, st136⟩ := stI X134 hx hZ e134 Ar135 (j := (1 : Int32)) hin135 (g := (mkF m 148 #[.val (.int c0), .val (.int c1), .val (.int c2), .val (.int n), .val (.ref b51)] [(.int c0), (.int (1 : Int32)), (.ref b51)])) rfl rfl (hb hby dq7_148)
                have V136 := Arv.set Ar135 q135 S135 Nn135 H135 G135 rfl W136 1 rfl (Nat.le_of_ble_eq_true rfl)
                have N136 := Fr.snoc X136 N134 ge51
                have K136 : Keep h0 h136 [] := K134.wr W136 (Or.inr sz51)
                have Z136 : n0 ≤ h136.size := Nat.le_trans Z134 (Nat.le_of_eq W136.size.symm)
                have V136' : Arv Z h136 b51 k51 .int (4 : Int32) [(.int (2 : Int32)), (.int c0), (.int (0 : Int32)), (.int (0 : Int32))] (.int (0 : Int32)) := V136
                refine own_cs [] 149 st136 ?_
                refine own_tp (.ref b51) 151 (fun _ q => XS.aload X136.here hx rfl (hb hby dq7_149) rfl rfl q) ?_
                refine own_tp (.int (2 : Int32)) 152 (fun _ q => XS.iconst X136.here hx rfl (hb hby dq7_151) q) ?_
                refine own_tp (.int c1) 153 (fun _ q => XS.iloadN X136.here hx rfl (hb hby dq7_152) rfl q) ?_
                refine own_tp (.int c2) 154 (fun _ q => XS.iloadN X136.here hx rfl (hb hby dq7_153) rfl q) ?_
                obtain ⟨_, _, ⟨T137, L137, k137, n137⟩, -, X137, ⟨Lc137, hQ137, l137, y137, z137⟩, st137⟩ := Jvm.LawKit.callS X136 hx (y := (⟨"com/example/cited_experts/citedexperts/Utf8OrderComparePinLaw", "pair", "(CC)I"⟩ : MethodName)) hown (mvT hZ (own_w hw 146 rfl)) (mvT hZ (own_w hw 147 rfl)) (mvT hZ (own_w hw 3 rfl)) (mvT hZ (own_w hw 148 rfl)) (by decide) (backOf (W := 2) (rm4 l Z a0 hw [] c1 c2 h136 n0 ) hZ (own_w hw 148 rfl) (own_w hw 3 rfl) (by decide) (by decide)) (g := (mkF m 154 #[.val (.int c0), .val (.int c1), .val (.int c2), .val (.int n), .val (.ref b51)] [(.int c2), (.int c1), (.int (2 : Int32)), (.ref b51)])) rfl (by rw [hml]; rfl) (argsL := [(.int c1), (.int c2)]) (rest := [(.int (2 : Int32)), (.ref b51)]) (lenOf pd2 rfl) rfl (by show 2 * 0 + _ ≤ _; exact Nat.le_of_eq rfl) (hb hby dq7_154) (fun _ _ => ⟨rfl, e136, (by decide : 1 + 0 ≤ _), (by decide : 4 + 0 ≤ _)⟩)
                dsimp only [Pt.U, Pt.locs, Pt.cells, Pt.slots] at X137 l137 y137 z137 st137 hQ137
                subst l137 y137 z137
                obtain ⟨rfl, Nq137, eq137⟩ := hQ137
                have N137 := Fr.app N136 Nq137
                refine own_t2 (.int (own_pair c1 c2)) 157 st137 ?_
                obtain ⟨cl138, Ar138, q138, S138, Nn138, H138, G138⟩ := (id V136')
                have hin138 : ¬ ((2 : Int32) < 0 ∨ cl138.slots.size ≤ ((2 : Int32)).toNatClampNeg) := inb_of S138 ⟨by decide, by decide⟩
                obtain ⟨T139, h139, X139, e139, W139, st139⟩ := stI X137 hx hZ eq137 Ar138 (j := (2 : Int32)) hin138 (g := (mkF m 157 #[.val (.int c0), .val (.int c1), .val (.int c2), .val (.int n), .val (.ref b51)] [(.int (own_pair c1 c2)), (.int (2 : Int32)), (.ref b51)])) rfl rfl (hb hby dq7_157)
                have V139 := Arv.set Ar138 q138 S138 Nn138 H138 G138 rfl W139 2 rfl (Nat.le_of_ble_eq_true rfl)
                have N139 := Fr.snoc X139 N137 ge51
                have K139 : Keep h0 h139 [] := K136.wr W139 (Or.inr sz51)
                have Z139 : n0 ≤ h139.size := Nat.le_trans Z136 (Nat.le_of_eq W139.size.symm)
                have V139' : Arv Z h139 b51 k51 .int (4 : Int32) [(.int (2 : Int32)), (.int c0), (.int (own_pair c1 c2)), (.int (0 : Int32))] (.int (0 : Int32)) := V139
                refine own_cs [] 158 st139 ?_
                refine own_d0 181 (fun _ q => XS.goto X139.here hx rfl (pc0 := 158) (pc' := 181) rfl (hb hby dq7_158) (by decide) (by decide) q) ?_
                refine own_tp (.ref b51) 183 (fun _ q => XS.aload X139.here hx rfl (hb hby dq7_181) rfl rfl q) ?_
                have hP : own_tk n c0 c1 c2 = [c0, c1, c2] := (by unfold own_tk; rw [if_neg c52, if_neg c55, if_neg c60])
                have hPP : own_P (own_tk n c0 c1 c2) = [c0, own_pair c1 c2] := (by rw [hP, own_P2 _ _ _ c83 c112, own_P3 _ _ _ c114 c124] <;> rfl)
                have e0' : own_pn (own_tk n c0 c1 c2) = (2 : Int32) := (by unfold own_pn; rw [hPP] <;> rfl)
                have e1' : own_pe (own_tk n c0 c1 c2) 0 = c0 := (by unfold own_pe; rw [hPP] <;> rfl)
                have e2' : own_pe (own_tk n c0 c1 c2) 1 = own_pair c1 c2 := (by unfold own_pe; rw [hPP] <;> rfl)
                have e3' : own_pe (own_tk n c0 c1 c2) 2 = (0 : Int32) := (by unfold own_pe; rw [hPP] <;> rfl)
                exact own_retR X139 hx hrt (hb hby dq7_183) rfl rfl hlk (by decide) (by decide) e139 (⟨b51, _, rfl, N139, K139, ge51, sz51, by rw [e0', e1', e2', e3']; exact V139'⟩)
          ·
            refine own_d1 103 (fun _ q => XS.ifNo X111.here hx rfl (hb hby dq7_100) rfl ((if0 _ _).trans (feq c112).1) q) ?_
            refine own_tp (.ref b51) 105 (fun _ q => XS.aload X111.here hx rfl (hb hby dq7_103) rfl rfl q) ?_
            refine own_tp (.int (0 : Int32)) 106 (fun _ q => XS.iconst X111.here hx rfl (hb hby dq7_105) q) ?_
            refine own_tp (.int (2 : Int32)) 107 (fun _ q => XS.iconst X111.here hx rfl (hb hby dq7_106) q) ?_
            obtain ⟨cl140, Ar140, q140, S140, Nn140, H140, G140⟩ := (id V51)
            have hin140 : ¬ ((0 : Int32) < 0 ∨ cl140.slots.size ≤ ((0 : Int32)).toNatClampNeg) := inb_of S140 ⟨by decide, by decide⟩
            obtain ⟨T141, h141, X141, e141, W141, st141⟩ := stI X111 hx hZ eq111 Ar140 (j := (0 : Int32)) hin140 (g := (mkF m 107 #[.val (.int c0), .val (.int c1), .val (.int c2), .val (.int n), .val (.ref b51)] [(.int (2 : Int32)), (.int (0 : Int32)), (.ref b51)])) rfl rfl (hb hby dq7_107)
            have V141 := Arv.set Ar140 q140 S140 Nn140 H140 G140 rfl W141 0 rfl (Nat.le_of_ble_eq_true rfl)
            have N141 := Fr.snoc X141 N111 ge51
            have K141 : Keep h0 h141 [] := K51.wr W141 (Or.inr sz51)
            have Z141 : n0 ≤ h141.size := Nat.le_trans Z51 (Nat.le_of_eq W141.size.symm)
            have V141' : Arv Z h141 b51 k51 .int (4 : Int32) [(.int (2 : Int32)), (.int (0 : Int32)), (.int (0 : Int32)), (.int (0 : Int32))] (.int (0 : Int32)) := V141
            refine own_cs [] 108 st141 ?_
            refine own_tp (.ref b51) 110 (fun _ q => XS.aload X141.here hx rfl (hb hby dq7_108) rfl rfl q) ?_
            refine own_tp (.int (1 : Int32)) 111 (fun _ q => XS.iconst X141.here hx rfl (hb hby dq7_110) q) ?_
            refine own_tp (.int c0) 112 (fun _ q => XS.iloadN X141.here hx rfl (hb hby dq7_111) rfl q) ?_
            refine own_tp (.int c1) 113 (fun _ q => XS.iloadN X141.here hx rfl (hb hby dq7_112) rfl q) ?_
            obtain ⟨_, _, ⟨T142, L142, k142, n142⟩, -, X142, ⟨Lc142, hQ142, l142, y142, z142⟩, st142⟩ := Jvm.LawKit.callS X141 hx (y := (⟨"com/example/cited_experts/citedexperts/Utf8OrderComparePinLaw", "pair", "(CC)I"⟩ : MethodName)) hown (mvT hZ (own_w hw 146 rfl)) (mvT hZ (own_w hw 147 rfl)) (mvT hZ (own_w hw 3 rfl)) (mvT hZ (own_w hw 148 rfl)) (by decide) (backOf (W := 2) (rm4 l Z a0 hw [] c0 c1 h141 n0 ) hZ (own_w hw 148 rfl) (own_w hw 3 rfl) (by decide) (by decide)) (g := (mkF m 113 #[.val (.int c0), .val (.int c1), .val (.int c2), .val (.int n), .val (.ref b51)] [(.int c1), (.int c0), (.int (1 : Int32)), (.ref b51)])) rfl (by rw [hml]; rfl) (argsL := [(.int c0), (.int c1)]) (rest := [(.int (1 : Int32)), (.ref b51)]) (lenOf pd2 rfl) rfl (by show 2 * 0 + _ ≤ _; exact Nat.le_of_eq rfl) (hb hby dq7_113) (fun _ _ => ⟨rfl, e141, (by decide : 1 + 0 ≤ _), (by decide : 4 + 0 ≤ _)⟩)
            dsimp only [Pt.U, Pt.locs, Pt.cells, Pt.slots] at X142 l142 y142 z142 st142 hQ142
            subst l142 y142 z142
            obtain ⟨rfl, Nq142, eq142⟩ := hQ142
            have N142 := Fr.app N141 Nq142
            refine own_t2 (.int (own_pair c0 c1)) 116 st142 ?_
            obtain ⟨cl143, Ar143, q143, S143, Nn143, H143, G143⟩ := (id V141')
            have hin143 : ¬ ((1 : Int32) < 0 ∨ cl143.slots.size ≤ ((1 : Int32)).toNatClampNeg) := inb_of S143 ⟨by decide, by decide⟩
            obtain ⟨T144, h144, X144, e144, W144, st144⟩ := stI X142 hx hZ eq142 Ar143 (j := (1 : Int32)) hin143 (g := (mkF m 116 #[.val (.int c0), .val (.int c1), .val (.int c2), .val (.int n), .val (.ref b51)] [(.int (own_pair c0 c1)), (.int (1 : Int32)), (.ref b51)])) rfl rfl (hb hby dq7_116)
            have V144 := Arv.set Ar143 q143 S143 Nn143 H143 G143 rfl W144 1 rfl (Nat.le_of_ble_eq_true rfl)
            have N144 := Fr.snoc X144 N142 ge51
            have K144 : Keep h0 h144 [] := K141.wr W144 (Or.inr sz51)
            have Z144 : n0 ≤ h144.size := Nat.le_trans Z141 (Nat.le_of_eq W144.size.symm)
            have V144' : Arv Z h144 b51 k51 .int (4 : Int32) [(.int (2 : Int32)), (.int (own_pair c0 c1)), (.int (0 : Int32)), (.int (0 : Int32))] (.int (0 : Int32)) := V144
            refine own_cs [] 117 st144 ?_
            refine own_tp (.ref b51) 119 (fun _ q => XS.aload X144.here hx rfl (hb hby dq7_117) rfl rfl q) ?_
            refine own_tp (.int (2 : Int32)) 120 (fun _ q => XS.iconst X144.here hx rfl (hb hby dq7_119) q) ?_
            refine own_tp (.int c2) 121 (fun _ q => XS.iloadN X144.here hx rfl (hb hby dq7_120) rfl q) ?_
            obtain ⟨cl145, Ar145, q145, S145, Nn145, H145, G145⟩ := (id V144')
            have hin145 : ¬ ((2 : Int32) < 0 ∨ cl145.slots.size ≤ ((2 : Int32)).toNatClampNeg) := inb_of S145 ⟨by decide, by decide⟩
            obtain ⟨T146, h146, X146, e146, W146, st146⟩ := stI X144 hx hZ e144 Ar145 (j := (2 : Int32)) hin145 (g := (mkF m 121 #[.val (.int c0), .val (.int c1), .val (.int c2), .val (.int n), .val (.ref b51)] [(.int c2), (.int (2 : Int32)), (.ref b51)])) rfl rfl (hb hby dq7_121)
            have V146 := Arv.set Ar145 q145 S145 Nn145 H145 G145 rfl W146 2 rfl (Nat.le_of_ble_eq_true rfl)
            have N146 := Fr.snoc X146 N144 ge51
            have K146 : Keep h0 h146 [] := K144.wr W146 (Or.inr sz51)
            have Z146 : n0 ≤ h146.size := Nat.le_trans Z144 (Nat.le_of_eq W146.size.symm)
            have V146' : Arv Z h146 b51 k51 .int (4 : Int32) [(.int (2 : Int32)), (.int (own_pair c0 c1)), (.int c2), (.int (0 : Int32))] (.int (0 : Int32)) := V146
            refine own_cs [] 122 st146 ?_
            refine own_d0 181 (fun _ q => XS.goto X146.here hx rfl (pc0 := 122) (pc' := 181) rfl (hb hby dq7_122) (by decide) (by decide) q) ?_
            refine own_tp (.ref b51) 183 (fun _ q => XS.aload X146.here hx rfl (hb hby dq7_181) rfl rfl q) ?_
            have hP : own_tk n c0 c1 c2 = [c0, c1, c2] := (by unfold own_tk; rw [if_neg c52, if_neg c55, if_neg c60])
            have hPP : own_P (own_tk n c0 c1 c2) = [own_pair c0 c1, c2] := (by rw [hP, own_P3 _ _ _ c83 c112] <;> rfl)
            have e0' : own_pn (own_tk n c0 c1 c2) = (2 : Int32) := (by unfold own_pn; rw [hPP] <;> rfl)
            have e1' : own_pe (own_tk n c0 c1 c2) 0 = own_pair c0 c1 := (by unfold own_pe; rw [hPP] <;> rfl)
            have e2' : own_pe (own_tk n c0 c1 c2) 1 = c2 := (by unfold own_pe; rw [hPP] <;> rfl)
            have e3' : own_pe (own_tk n c0 c1 c2) 2 = (0 : Int32) := (by unfold own_pe; rw [hPP] <;> rfl)
            exact own_retR X146 hx hrt (hb hby dq7_183) rfl rfl hlk (by decide) (by decide) e146 (⟨b51, _, rfl, N146, K146, ge51, sz51, by rw [e0', e1', e2', e3']; exact V146'⟩)

def Q14 (z : Int32) (h0 : Heap) (n0 : Nat) (v : Option Value) (h : Heap) (L : List Loc) : Prop := v = some (.int z) ∧ Fr n0 L ∧ h = h0

set_option maxRecDepth 65536 in
set_option maxHeartbeats 40000000 in
theorem rm14 (l : Launch) (Z : State) (a0 : Array Value) (hw : ∀ d ∈ tables_1, d.before a0 Z = true) (ws : List Jvm.Cond) (i n : Nat) (G3 : Value) (h0 : Heap) (n0 : Nat) (rG3 : G3.isRef = true) (hn : n ≤ 1000) (hi : i < n) :
    own_Met l (⟨"jdk/internal/util/Preconditions", "checkIndex", "(IILjava/util/function/BiFunction;)I"⟩ : MethodName) jdk_41_method_11_code 3 (some .int) ws own_R_0_0_0_0 Z #[(.int (Int32.ofNat i)), (.int (Int32.ofNat n)), G3] h0 (Q14 (Int32.ofNat i) h0 n0) := by
  refine own_enter #[.val (.int (Int32.ofNat i)), .val (.int (Int32.ofNat n)), .val G3] (plainFor_of_name pn_jdk_internal_util_Preconditions) (fun m => ef_IIV_3 m (Int32.ofNat i) (Int32.ofNat n) G3 rG3) ?_
  intro p e s m below meth c s₁ hx hby hml hown hnm hZ hrt hlk X0 e0
  have N0 := Fr.nil n0
  refine own_tp (.int (Int32.ofNat i)) 1 (fun _ q => XS.iloadN X0.here hx rfl (hb hby dj41m11_0) rfl q) ?_
  refine own_d1 4 (fun _ q => XS.ifNo X0.here hx rfl (hb hby dj41m11_1) rfl ((if0 _ _).trans (flt (own_inb (by omega) hi).1).1) q) ?_
  refine own_tp (.int (Int32.ofNat i)) 5 (fun _ q => XS.iloadN X0.here hx rfl (hb hby dj41m11_4) rfl q) ?_
  refine own_tp (.int (Int32.ofNat n)) 6 (fun _ q => XS.iloadN X0.here hx rfl (hb hby dj41m11_5) rfl q) ?_
  refine own_d2 16 (fun _ q => XS.icmpYes X0.here hx rfl (pc0 := 6) (pc' := 16) rfl (hb hby dj41m11_6) rfl (tlt (own_inb (by omega) hi).2).1 (by decide) (by decide) q) ?_
  refine own_tp (.int (Int32.ofNat i)) 17 (fun _ q => XS.iloadN X0.here hx rfl (hb hby dj41m11_16) rfl q) ?_
  exact own_retI X0 hx hrt (hb hby dj41m11_17) hlk (by decide) (by decide) e0 (⟨rfl, N0, rfl⟩)

def Q15  (h0 : Heap) (n0 : Nat) (v : Option Value) (h : Heap) (L : List Loc) : Prop := v = none ∧ Fr n0 L ∧ h = h0

set_option maxRecDepth 65536 in
set_option maxHeartbeats 40000000 in
theorem rm15 (l : Launch) (Z : State) (a0 : Array Value) (hw : ∀ d ∈ tables_1, d.before a0 Z = true) (ws : List Jvm.Cond) (i n : Nat) (h0 : Heap) (n0 : Nat) (hn : n ≤ 1000) (hi : i < n) (O0 : Old Z n0 h0) (G3 : Value) (rG3 : G3.isRef = true) (Sf : Sta Z Z.heap "jdk/internal/util/Preconditions" "SIOOBE_FORMATTER" "Ljava/util/function/BiFunction;" G3) :
    own_Met l (⟨"java/lang/String", "checkIndex", "(II)V"⟩ : MethodName) jdk_42_method_155_code 2 none ws own_R_1_0_0_14 Z #[(.int (Int32.ofNat i)), (.int (Int32.ofNat n))] h0 (Q15 h0 n0) := by
  refine own_enter #[.val (.int (Int32.ofNat i)), .val (.int (Int32.ofNat n))] (plainFor_of_name pn_java_lang_String) (fun m => ef_II_2 m (Int32.ofNat i) (Int32.ofNat n)) ?_
  intro p e s m below meth c s₁ hx hby hml hown hnm hZ hrt hlk X0 e0
  have N0 := Fr.nil n0
  refine own_tp (.int (Int32.ofNat i)) 1 (fun _ q => XS.iloadN X0.here hx rfl (hb hby dj42m155_0) rfl q) ?_
  refine own_tp (.int (Int32.ofNat n)) 2 (fun _ q => XS.iloadN X0.here hx rfl (hb hby dj42m155_1) rfl q) ?_
  obtain ⟨T51, X51, e51, st51⟩ := getS2 X0 hx hZ hown (host := "") (Or.inl (own_w hw 112 rfl)) Via.refl e0 (Sf.ext O0.2) (g := (mkF m 2 #[.val (.int (Int32.ofNat i)), .val (.int (Int32.ofNat n))] [(.int (Int32.ofNat n)), (.int (Int32.ofNat i))])) rfl (hb hby dj42m155_2)
  refine own_tp G3 5 st51 ?_
  obtain ⟨_, _, ⟨T52, L52, k52, n52⟩, -, X52, ⟨Lc52, hQ52, l52, y52, z52⟩, st52⟩ := Jvm.LawKit.callS X51 hx (y := (⟨"jdk/internal/util/Preconditions", "checkIndex", "(IILjava/util/function/BiFunction;)I"⟩ : MethodName)) hown (mvT hZ (own_w hw 114 rfl)) (mvT hZ (own_w hw 115 rfl)) (mvT hZ (own_w hw 113 rfl)) (mvT hZ (own_w hw 116 rfl)) (by decide) (backOf (W := 0) (rm14 l Z a0 hw [] i n G3 h0 n0 rG3 hn hi) hZ (own_w hw 116 rfl) (own_w hw 113 rfl) (by decide) (by decide)) (g := (mkF m 5 #[.val (.int (Int32.ofNat i)), .val (.int (Int32.ofNat n))] [G3, (.int (Int32.ofNat n)), (.int (Int32.ofNat i))])) rfl (by rw [hml]; rfl) (argsL := [(.int (Int32.ofNat i)), (.int (Int32.ofNat n)), G3]) (rest := []) (lenOf pd3 rfl) rfl (by show 2 * 0 + _ ≤ _; exact Nat.le_of_eq rfl) (hb hby dj42m155_5) (fun _ _ => ⟨rfl, e51, (by decide : 0 + 0 ≤ _), (by decide : 0 + 0 ≤ _)⟩)
  dsimp only [Pt.U, Pt.locs, Pt.cells, Pt.slots] at X52 l52 y52 z52 st52 hQ52
  subst l52 y52 z52
  obtain ⟨rfl, Nq52, eq52⟩ := hQ52
  have N52 := Fr.app N0 Nq52
  refine own_d2 8 st52 ?_
  refine own_d1 9 (fun _ q => XS.pop X52.here hx rfl (hb hby dj42m155_8) rfl rfl q) ?_
  exact own_retV X52 hx hrt (hb hby dj42m155_9) hlk (by decide) (by decide) eq52 (⟨rfl, N52, rfl⟩)

def Q100 (r : Int32) (h0 : Heap) (n0 : Nat) (v : Option Value) (h : Heap) (L : List Loc) : Prop := v = some (.int r) ∧ Fr n0 L ∧ h = h0

set_option maxRecDepth 65536 in
set_option maxHeartbeats 40000000 in
theorem rm100 (l : Launch) (Z : State) (a0 : Array Value) (hw : ∀ d ∈ tables_1, d.before a0 Z = true) (ws : List Jvm.Cond) (b1 : Addr) (k1 : ClassId) (i : Nat) (cs : List Int32) (h0 : Heap) (n0 : Nat) (hi : i < cs.length) (hl : cs.length ≤ 1000) (hc : 0 ≤ (cs.getD i 0).toInt ∧ (cs.getD i 0).toInt ≤ 65535) (V1 : Arv Z h0 b1 k1 .byte (Int32.ofNat (2 * cs.length)) (own_wide cs) (.int (0 : Int32))) (G1 : Int32) (US : own_US Z G1) (O0 : Old Z n0 h0) :
    own_Met l (⟨"java/lang/StringUTF16", "getChar", "([BI)C"⟩ : MethodName) jdk_52_method_5_code 2 (some .char) ws own_R_0_0_0_0 Z #[(.ref b1), (.int (Int32.ofNat i))] h0 (Q100 (cs.getD i 0) h0 n0) := by
  refine own_enter #[.val (.ref b1), .val (.int (Int32.ofNat i))] (plainFor_of_name pn_java_lang_StringUTF16) (fun m => ef_RI_2 m b1 (Int32.ofNat i)) ?_
  intro p e s m below meth c s₁ hx hby hml hown hnm hZ hrt hlk X0 e0
  have N0 := Fr.nil n0
  obtain ⟨T51, X51, e51, st51⟩ := getS2 X0 hx hZ hown (host := "") (Or.inl (own_w hw 86 rfl)) Via.refl e0 (US.2.2.1.ext O0.2) (g := (mkF m 0 #[.val (.ref b1), .val (.int (Int32.ofNat i))] [])) rfl (hb hby dj52m5_0)
  refine own_tp (.int (1 : Int32)) 3 st51 ?_
  refine own_d1 28 (fun _ q => XS.ifYes X51.here hx rfl (pc0 := 3) (pc' := 28) rfl (hb hby dj52m5_3) rfl ((if0 _ _).trans (feq (by decide : ¬ ((1 : Int32) = (0 : Int32)))).2) (by decide) (by decide) q) ?_
  refine own_tp (.int (Int32.ofNat i)) 29 (fun _ q => XS.iloadN X51.here hx rfl (hb hby dj52m5_28) rfl q) ?_
  refine own_tp (.int (1 : Int32)) 30 (fun _ q => XS.iconst X51.here hx rfl (hb hby dj52m5_29) q) ?_
  refine own_t2 (.int ((Int32.ofNat i) <<< ((1 : Int32) &&& 31))) 31 (fun _ q => XS.ishl X51.here hx rfl (hb hby dj52m5_30) rfl q) ?_
  rw [own_shl1 (by omega)]
  refine own_ls #[.val (.ref b1), .val (.int (Int32.ofNat (2 * i)))] 32 (fun _ q => XS.istoreN X51.here hx rfl (hb hby dj52m5_31) rfl (l' := #[.val (.ref b1), .val (.int (Int32.ofNat (2 * i)))]) rfl q) ?_
  refine own_tp (.ref b1) 33 (fun _ q => XS.aloadN X51.here hx rfl (hb hby dj52m5_32) rfl rfl q) ?_
  refine own_tp (.int (Int32.ofNat (2 * i))) 34 (fun _ q => XS.iloadN X51.here hx rfl (hb hby dj52m5_33) rfl q) ?_
  refine own_li #[.val (.ref b1), .val (.int ((Int32.ofNat (2 * i)) + (1 : Int32)))] 37 (fun _ q => XS.iinc X51.here hx rfl (hb hby dj52m5_34) rfl (l' := #[.val (.ref b1), .val (.int ((Int32.ofNat (2 * i)) + (1 : Int32)))]) rfl q) ?_
  rw [own_succ]
  obtain ⟨cl52, Ar52, q52, S52, Nn52, H52, G52⟩ := (id V1)
  have hin52 : ¬ ((Int32.ofNat (2 * i)) < 0 ∨ cl52.slots.size ≤ ((Int32.ofNat (2 * i))).toNatClampNeg) := inb_of S52 (own_inb (by omega) (by omega))
  have hat52 : cl52.slots[((Int32.ofNat (2 * i))).toNatClampNeg]? = some (.int (own_b0 (cs.getD i 0))) := H52.at hin52 (by rw [(own_ofn (by omega)).2]; exact own_wide_0 _ cs i hi)
  refine own_t2 (.int (own_b0 (cs.getD i 0))) 38 (fun _ q => X51.baloadBytes hx (j := (Int32.ofNat (2 * i))) (v := (.int (own_b0 (cs.getD i 0)))) (by rw [e51]; exact Ar52.1) (State.isArrayOf_alike hZ.alike Ar52.2.1) Ar52.2.2 hin52 hat52 (g := (mkF m 37 #[.val (.ref b1), .val (.int (Int32.ofNat (2 * i + 1)))] [(.int (Int32.ofNat (2 * i))), (.ref b1)])) rfl rfl (hb hby dj52m5_37) _ q) ?_
  refine own_tp (.int (255 : Int32)) 41 (fun _ q => XS.sipush X51.here hx rfl (hb hby dj52m5_38) q) ?_
  refine own_t2 (.int ((own_b0 (cs.getD i 0)) &&& (255 : Int32))) 42 (fun _ q => XS.iand X51.here hx rfl (hb hby dj52m5_41) rfl q) ?_
  obtain ⟨T53, X53, e53, st53⟩ := getS2 X51 hx hZ hown (host := "") (Or.inl (own_w hw 87 rfl)) Via.refl e51 (US.2.2.2.1.ext O0.2) (g := (mkF m 42 #[.val (.ref b1), .val (.int (Int32.ofNat (2 * i + 1)))] [(.int ((own_b0 (cs.getD i 0)) &&& (255 : Int32)))])) rfl (hb hby dj52m5_42)
  refine own_tp (.int (0 : Int32)) 45 st53 ?_
  refine own_t2 (.int (((own_b0 (cs.getD i 0)) &&& (255 : Int32)) <<< ((0 : Int32) &&& 31))) 46 (fun _ q => XS.ishl X53.here hx rfl (hb hby dj52m5_45) rfl q) ?_
  refine own_tp (.ref b1) 47 (fun _ q => XS.aloadN X53.here hx rfl (hb hby dj52m5_46) rfl rfl q) ?_
  refine own_tp (.int (Int32.ofNat (2 * i + 1))) 48 (fun _ q => XS.iloadN X53.here hx rfl (hb hby dj52m5_47) rfl q) ?_
  obtain ⟨cl54, Ar54, q54, S54, Nn54, H54, G54⟩ := (id V1)
  have hin54 : ¬ ((Int32.ofNat (2 * i + 1)) < 0 ∨ cl54.slots.size ≤ ((Int32.ofNat (2 * i + 1))).toNatClampNeg) := inb_of S54 (own_inb (by omega) (by omega))
  have hat54 : cl54.slots[((Int32.ofNat (2 * i + 1))).toNatClampNeg]? = some (.int (own_b1 (cs.getD i 0))) := H54.at hin54 (by rw [(own_ofn (by omega)).2]; exact own_wide_1 _ cs i hi)
  refine own_t2 (.int (own_b1 (cs.getD i 0))) 49 (fun _ q => X53.baloadBytes hx (j := (Int32.ofNat (2 * i + 1))) (v := (.int (own_b1 (cs.getD i 0)))) (by rw [e53]; exact Ar54.1) (State.isArrayOf_alike hZ.alike Ar54.2.1) Ar54.2.2 hin54 hat54 (g := (mkF m 48 #[.val (.ref b1), .val (.int (Int32.ofNat (2 * i + 1)))] [(.int (Int32.ofNat (2 * i + 1))), (.ref b1), (.int (((own_b0 (cs.getD i 0)) &&& (255 : Int32)) <<< ((0 : Int32) &&& 31)))])) rfl rfl (hb hby dj52m5_48) _ q) ?_
  refine own_tp (.int (255 : Int32)) 52 (fun _ q => XS.sipush X53.here hx rfl (hb hby dj52m5_49) q) ?_
  refine own_t2 (.int ((own_b1 (cs.getD i 0)) &&& (255 : Int32))) 53 (fun _ q => XS.iand X53.here hx rfl (hb hby dj52m5_52) rfl q) ?_
  obtain ⟨T55, X55, e55, st55⟩ := getS2 X53 hx hZ hown (host := "") (Or.inl (own_w hw 88 rfl)) Via.refl e53 (US.2.2.2.2.ext O0.2) (g := (mkF m 53 #[.val (.ref b1), .val (.int (Int32.ofNat (2 * i + 1)))] [(.int ((own_b1 (cs.getD i 0)) &&& (255 : Int32))), (.int (((own_b0 (cs.getD i 0)) &&& (255 : Int32)) <<< ((0 : Int32) &&& 31)))])) rfl (hb hby dj52m5_53)
  refine own_tp (.int (8 : Int32)) 56 st55 ?_
  refine own_t2 (.int (((own_b1 (cs.getD i 0)) &&& (255 : Int32)) <<< ((8 : Int32) &&& 31))) 57 (fun _ q => XS.ishl X55.here hx rfl (hb hby dj52m5_56) rfl q) ?_
  refine own_t2 (.int ((((own_b0 (cs.getD i 0)) &&& (255 : Int32)) <<< ((0 : Int32) &&& 31)) ||| (((own_b1 (cs.getD i 0)) &&& (255 : Int32)) <<< ((8 : Int32) &&& 31)))) 58 (fun _ q => XS.ior X55.here hx rfl (hb hby dj52m5_57) rfl q) ?_
  refine own_t1 (.int (((((own_b0 (cs.getD i 0)) &&& (255 : Int32)) <<< ((0 : Int32) &&& 31)) ||| (((own_b1 (cs.getD i 0)) &&& (255 : Int32)) <<< ((8 : Int32) &&& 31))).toUInt32.toUInt16.toUInt32.toInt32)) 59 (fun _ q => XS.i2c X55.here hx rfl (hb hby dj52m5_58) rfl q) ?_
  exact own_retN (t := .char) X55 hx hrt (hb hby dj52m5_59) (by simp) hlk (by decide) (by decide) e55 (⟨by rw [own_gc (cs.getD i 0) hc, own_narc hc], N0, rfl⟩)

def Q16 (z : Int32) (h0 : Heap) (n0 : Nat) (v : Option Value) (h : Heap) (L : List Loc) : Prop := v = some (.int z) ∧ Fr n0 L ∧ h = h0

set_option maxRecDepth 65536 in
set_option maxHeartbeats 40000000 in
theorem rm16 (l : Launch) (Z : State) (a0 : Array Value) (hw : ∀ d ∈ tables_1, d.before a0 Z = true) (ws : List Jvm.Cond) (b1 : Addr) (k1 : ClassId) (i : Nat) (cs : List Int32) (h0 : Heap) (n0 : Nat) (hi : i < cs.length) (hl : cs.length ≤ 1000) (hch : ∀ c ∈ cs, 0 ≤ c.toInt ∧ c.toInt ≤ 65535) (V1 : Arv Z h0 b1 k1 .byte (Int32.ofNat (2 * cs.length)) (own_wide cs) (.int (0 : Int32))) (G1 : Int32) (US : own_US Z G1) (O0 : Old Z n0 h0) :
    own_Met l (⟨"java/lang/StringUTF16", "codePointAt", "([BIIZ)I"⟩ : MethodName) jdk_52_method_7_code 6 (some .int) ws own_R_1_0_0_13 Z #[(.ref b1), (.int (Int32.ofNat i)), (.int (Int32.ofNat cs.length)), (.int (0 : Int32))] h0 (Q16 (own_cp cs i) h0 n0) := by
  refine own_enter #[.val (.ref b1), .val (.int (Int32.ofNat i)), .val (.int (Int32.ofNat cs.length)), .val (.int (0 : Int32)), .unset, .unset] (plainFor_of_name pn_java_lang_StringUTF16) (fun m => ef_RIII_6 m b1 (Int32.ofNat i) (Int32.ofNat cs.length) (0 : Int32)) ?_
  intro p e s m below meth c s₁ hx hby hml hown hnm hZ hrt hlk X0 e0
  have N0 := Fr.nil n0
  obtain ⟨T51, X51, e51, st51⟩ := getS2 X0 hx hZ hown (host := "") (Or.inl (own_w hw 86 rfl)) Via.refl e0 (US.2.2.1.ext O0.2) (g := (mkF m 0 #[.val (.ref b1), .val (.int (Int32.ofNat i)), .val (.int (Int32.ofNat cs.length)), .val (.int (0 : Int32)), .unset, .unset] [])) rfl (hb hby dj52m7_0)
  refine own_tp (.int (1 : Int32)) 3 st51 ?_
  refine own_d1 19 (fun _ q => XS.ifYes X51.here hx rfl (pc0 := 3) (pc' := 19) rfl (hb hby dj52m7_3) rfl ((if0 _ _).trans (feq (by decide : ¬ ((1 : Int32) = (0 : Int32)))).2) (by decide) (by decide) q) ?_
  refine own_tp (.int (0 : Int32)) 20 (fun _ q => XS.iloadN X51.here hx rfl (hb hby dj52m7_19) rfl q) ?_
  refine own_d1 28 (fun _ q => XS.ifYes X51.here hx rfl (pc0 := 20) (pc' := 28) rfl (hb hby dj52m7_20) rfl ((if0 _ _).trans (teq (by decide : (0 : Int32) = (0 : Int32))).1) (by decide) (by decide) q) ?_
  refine own_tp (.ref b1) 29 (fun _ q => XS.aloadN X51.here hx rfl (hb hby dj52m7_28) rfl rfl q) ?_
  refine own_tp (.int (Int32.ofNat i)) 30 (fun _ q => XS.iloadN X51.here hx rfl (hb hby dj52m7_29) rfl q) ?_
  obtain ⟨_, _, ⟨T52, L52, k52, n52⟩, -, X52, ⟨Lc52, hQ52, l52, y52, z52⟩, st52⟩ := Jvm.LawKit.callS X51 hx (y := (⟨"java/lang/StringUTF16", "getChar", "([BI)C"⟩ : MethodName)) hown (mvT hZ (own_w hw 89 rfl)) (mvT hZ (own_w hw 90 rfl)) (mvT hZ (own_w hw 68 rfl)) (mvT hZ (own_w hw 91 rfl)) (by decide) (backOf (W := 0) (rm100 l Z a0 hw [] b1 k1 i cs h0 n0 hi hl (hch _ (own_mem cs i hi)) V1 G1 US O0) hZ (own_w hw 91 rfl) (own_w hw 68 rfl) (by decide) (by decide)) (g := (mkF m 30 #[.val (.ref b1), .val (.int (Int32.ofNat i)), .val (.int (Int32.ofNat cs.length)), .val (.int (0 : Int32)), .unset, .unset] [(.int (Int32.ofNat i)), (.ref b1)])) rfl (by rw [hml]; rfl) (argsL := [(.ref b1), (.int (Int32.ofNat i))]) (rest := []) (lenOf pd4 rfl) rfl (by show 2 * 0 + _ ≤ _; exact Nat.le_of_eq rfl) (hb hby dj52m7_30) (fun _ _ => ⟨rfl, e51, (by decide : 0 + 0 ≤ _), (by decide : 0 + 0 ≤ _)⟩)
  dsimp only [Pt.U, Pt.locs, Pt.cells, Pt.slots] at X52 l52 y52 z52 st52 hQ52
  subst l52 y52 z52
  obtain ⟨rfl, Nq52, eq52⟩ := hQ52
  have N52 := Fr.app N0 Nq52
  refine own_t2 (.int (cs.getD i 0)) 33 st52 ?_
  refine own_ls #[.val (.ref b1), .val (.int (Int32.ofNat i)), .val (.int (Int32.ofNat cs.length)), .val (.int (0 : Int32)), .val (.int (cs.getD i 0)), .unset] 35 (fun _ q => XS.istore X52.here hx rfl (hb hby dj52m7_33) rfl (l' := #[.val (.ref b1), .val (.int (Int32.ofNat i)), .val (.int (Int32.ofNat cs.length)), .val (.int (0 : Int32)), .val (.int (cs.getD i 0)), .unset]) rfl q) ?_
  refine own_tp (.int (cs.getD i 0)) 37 (fun _ q => XS.iload X52.here hx rfl (hb hby dj52m7_35) rfl q) ?_
  obtain ⟨_, _, ⟨T53, L53, k53, n53⟩, -, X53, ⟨Lc53, hQ53, l53, y53, z53⟩, st53⟩ := Jvm.LawKit.callS X52 hx (y := (⟨"java/lang/Character", "isHighSurrogate", "(C)Z"⟩ : MethodName)) hown (mvT hZ (own_w hw 123 rfl)) (mvT hZ (own_w hw 124 rfl)) (mvT hZ (own_w hw 125 rfl)) (mvT hZ (own_w hw 126 rfl)) (by decide) (backOf (W := 0) (rm6 l Z a0 hw [] (cs.getD i 0) h0 n0 ) hZ (own_w hw 126 rfl) (own_w hw 125 rfl) (by decide) (by decide)) (g := (mkF m 37 #[.val (.ref b1), .val (.int (Int32.ofNat i)), .val (.int (Int32.ofNat cs.length)), .val (.int (0 : Int32)), .val (.int (cs.getD i 0)), .unset] [(.int (cs.getD i 0))])) rfl (by rw [hml]; rfl) (argsL := [(.int (cs.getD i 0))]) (rest := []) (lenOf pd1 rfl) rfl (by show 2 * 0 + _ ≤ _; exact Nat.le_of_eq rfl) (hb hby dj52m7_37) (fun _ _ => ⟨rfl, eq52, (by decide : 0 + 0 ≤ _), (by decide : 0 + 0 ≤ _)⟩)
  dsimp only [Pt.U, Pt.locs, Pt.cells, Pt.slots] at X53 l53 y53 z53 st53 hQ53
  subst l53 y53 z53
  obtain ⟨rfl, Nq53, eq53⟩ := hQ53
  have N53 := Fr.app N52 Nq53
  refine own_t1 (.int (own_hs (cs.getD i 0))) 40 st53 ?_
  by_cases c54 : (own_hs (cs.getD i 0)) = (0 : Int32)
  ·
    refine own_d1 83 (fun _ q => XS.ifYes X53.here hx rfl (pc0 := 40) (pc' := 83) rfl (hb hby dj52m7_40) rfl ((if0 _ _).trans (teq c54).1) (by decide) (by decide) q) ?_
    refine own_tp (.int (cs.getD i 0)) 85 (fun _ q => XS.iload X53.here hx rfl (hb hby dj52m7_83) rfl q) ?_
    exact own_retI X53 hx hrt (hb hby dj52m7_85) hlk (by decide) (by decide) eq53 (⟨by have hv : own_cp cs i = (cs.getD i 0) := (by first | (simp only [own_cp, c54, ↓reduceIte]; done) | (simp [own_cp, c54]; done)); rw [hv] <;> rfl, N53, rfl⟩)
  ·
    refine own_d1 43 (fun _ q => XS.ifNo X53.here hx rfl (hb hby dj52m7_40) rfl ((if0 _ _).trans (feq c54).1) q) ?_
    refine own_li #[.val (.ref b1), .val (.int ((Int32.ofNat i) + (1 : Int32))), .val (.int (Int32.ofNat cs.length)), .val (.int (0 : Int32)), .val (.int (cs.getD i 0)), .unset] 46 (fun _ q => XS.iinc X53.here hx rfl (hb hby dj52m7_43) rfl (l' := #[.val (.ref b1), .val (.int ((Int32.ofNat i) + (1 : Int32))), .val (.int (Int32.ofNat cs.length)), .val (.int (0 : Int32)), .val (.int (cs.getD i 0)), .unset]) rfl q) ?_
    rw [own_succ]
    by_cases hn1 : i + 1 < cs.length
    ·
      have hlt : (Int32.ofNat (i + 1)) < (Int32.ofNat cs.length) := (own_ltn hl (by omega)).mpr hn1
      refine own_tp (.int (Int32.ofNat (i + 1))) 47 (fun _ q => XS.iloadN X53.here hx rfl (hb hby dj52m7_46) rfl q) ?_
      refine own_tp (.int (Int32.ofNat cs.length)) 48 (fun _ q => XS.iloadN X53.here hx rfl (hb hby dj52m7_47) rfl q) ?_
      refine own_d2 51 (fun _ q => XS.icmpNo X53.here hx rfl (hb hby dj52m7_48) rfl (tlt hlt).2.1 q) ?_
      refine own_tp (.int (0 : Int32)) 52 (fun _ q => XS.iloadN X53.here hx rfl (hb hby dj52m7_51) rfl q) ?_
      refine own_d1 60 (fun _ q => XS.ifYes X53.here hx rfl (pc0 := 52) (pc' := 60) rfl (hb hby dj52m7_52) rfl ((if0 _ _).trans (teq (by decide : (0 : Int32) = (0 : Int32))).1) (by decide) (by decide) q) ?_
      refine own_tp (.ref b1) 61 (fun _ q => XS.aloadN X53.here hx rfl (hb hby dj52m7_60) rfl rfl q) ?_
      refine own_tp (.int (Int32.ofNat (i + 1))) 62 (fun _ q => XS.iloadN X53.here hx rfl (hb hby dj52m7_61) rfl q) ?_
      obtain ⟨_, _, ⟨T55, L55, k55, n55⟩, -, X55, ⟨Lc55, hQ55, l55, y55, z55⟩, st55⟩ := Jvm.LawKit.callS X53 hx (y := (⟨"java/lang/StringUTF16", "getChar", "([BI)C"⟩ : MethodName)) hown (mvT hZ (own_w hw 89 rfl)) (mvT hZ (own_w hw 90 rfl)) (mvT hZ (own_w hw 68 rfl)) (mvT hZ (own_w hw 91 rfl)) (by decide) (backOf (W := 0) (rm100 l Z a0 hw [] b1 k1 (i + 1) cs h0 n0 hn1 hl (hch _ (own_mem cs (i + 1) hn1)) V1 G1 US O0) hZ (own_w hw 91 rfl) (own_w hw 68 rfl) (by decide) (by decide)) (g := (mkF m 62 #[.val (.ref b1), .val (.int (Int32.ofNat (i + 1))), .val (.int (Int32.ofNat cs.length)), .val (.int (0 : Int32)), .val (.int (cs.getD i 0)), .unset] [(.int (Int32.ofNat (i + 1))), (.ref b1)])) rfl (by rw [hml]; rfl) (argsL := [(.ref b1), (.int (Int32.ofNat (i + 1)))]) (rest := []) (lenOf pd4 rfl) rfl (by show 2 * 0 + _ ≤ _; exact Nat.le_of_eq rfl) (hb hby dj52m7_62) (fun _ _ => ⟨rfl, eq53, (by decide : 0 + 0 ≤ _), (by decide : 0 + 0 ≤ _)⟩)
      dsimp only [Pt.U, Pt.locs, Pt.cells, Pt.slots] at X55 l55 y55 z55 st55 hQ55
      subst l55 y55 z55
      obtain ⟨rfl, Nq55, eq55⟩ := hQ55
      have N55 := Fr.app N53 Nq55
      refine own_t2 (.int (cs.getD (i + 1) 0)) 65 st55 ?_
      refine own_ls #[.val (.ref b1), .val (.int (Int32.ofNat (i + 1))), .val (.int (Int32.ofNat cs.length)), .val (.int (0 : Int32)), .val (.int (cs.getD i 0)), .val (.int (cs.getD (i + 1) 0))] 67 (fun _ q => XS.istore X55.here hx rfl (hb hby dj52m7_65) rfl (l' := #[.val (.ref b1), .val (.int (Int32.ofNat (i + 1))), .val (.int (Int32.ofNat cs.length)), .val (.int (0 : Int32)), .val (.int (cs.getD i 0)), .val (.int (cs.getD (i + 1) 0))]) rfl q) ?_
      refine own_tp (.int (cs.getD (i + 1) 0)) 69 (fun _ q => XS.iload X55.here hx rfl (hb hby dj52m7_67) rfl q) ?_
      obtain ⟨_, _, ⟨T56, L56, k56, n56⟩, -, X56, ⟨Lc56, hQ56, l56, y56, z56⟩, st56⟩ := Jvm.LawKit.callS X55 hx (y := (⟨"java/lang/Character", "isLowSurrogate", "(C)Z"⟩ : MethodName)) hown (mvT hZ (own_w hw 134 rfl)) (mvT hZ (own_w hw 135 rfl)) (mvT hZ (own_w hw 125 rfl)) (mvT hZ (own_w hw 136 rfl)) (by decide) (backOf (W := 0) (rm7 l Z a0 hw [] (cs.getD (i + 1) 0) h0 n0 ) hZ (own_w hw 136 rfl) (own_w hw 125 rfl) (by decide) (by decide)) (g := (mkF m 69 #[.val (.ref b1), .val (.int (Int32.ofNat (i + 1))), .val (.int (Int32.ofNat cs.length)), .val (.int (0 : Int32)), .val (.int (cs.getD i 0)), .val (.int (cs.getD (i + 1) 0))] [(.int (cs.getD (i + 1) 0))])) rfl (by rw [hml]; rfl) (argsL := [(.int (cs.getD (i + 1) 0))]) (rest := []) (lenOf pd1 rfl) rfl (by show 2 * 0 + _ ≤ _; exact Nat.le_of_eq rfl) (hb hby dj52m7_69) (fun _ _ => ⟨rfl, eq55, (by decide : 0 + 0 ≤ _), (by decide : 0 + 0 ≤ _)⟩)
      dsimp only [Pt.U, Pt.locs, Pt.cells, Pt.slots] at X56 l56 y56 z56 st56 hQ56
      subst l56 y56 z56
      obtain ⟨rfl, Nq56, eq56⟩ := hQ56
      have N56 := Fr.app N55 Nq56
      refine own_t1 (.int (own_lsu (cs.getD (i + 1) 0))) 72 st56 ?_
      by_cases c57 : (own_lsu (cs.getD (i + 1) 0)) = (0 : Int32)
      ·
        refine own_d1 83 (fun _ q => XS.ifYes X56.here hx rfl (pc0 := 72) (pc' := 83) rfl (hb hby dj52m7_72) rfl ((if0 _ _).trans (teq c57).1) (by decide) (by decide) q) ?_
        refine own_tp (.int (cs.getD i 0)) 85 (fun _ q => XS.iload X56.here hx rfl (hb hby dj52m7_83) rfl q) ?_
        exact own_retI X56 hx hrt (hb hby dj52m7_85) hlk (by decide) (by decide) eq56 (⟨by have hv : own_cp cs i = (cs.getD i 0) := (by first | (simp only [own_cp, c54, hn1, c57, ↓reduceIte]; done) | (simp [own_cp, c54, hn1, c57]; done)); rw [hv] <;> rfl, N56, rfl⟩)
      ·
        refine own_d1 75 (fun _ q => XS.ifNo X56.here hx rfl (hb hby dj52m7_72) rfl ((if0 _ _).trans (feq c57).1) q) ?_
        refine own_tp (.int (cs.getD i 0)) 77 (fun _ q => XS.iload X56.here hx rfl (hb hby dj52m7_75) rfl q) ?_
        refine own_tp (.int (cs.getD (i + 1) 0)) 79 (fun _ q => XS.iload X56.here hx rfl (hb hby dj52m7_77) rfl q) ?_
        obtain ⟨_, _, ⟨T58, L58, k58, n58⟩, -, X58, ⟨Lc58, hQ58, l58, y58, z58⟩, st58⟩ := Jvm.LawKit.callS X56 hx (y := (⟨"java/lang/Character", "toCodePoint", "(CC)I"⟩ : MethodName)) hown (mvT hZ (own_w hw 142 rfl)) (mvT hZ (own_w hw 143 rfl)) (mvT hZ (own_w hw 125 rfl)) (mvT hZ (own_w hw 144 rfl)) (by decide) (backOf (W := 0) (rm9 l Z a0 hw [] (cs.getD i 0) (cs.getD (i + 1) 0) h0 n0 ) hZ (own_w hw 144 rfl) (own_w hw 125 rfl) (by decide) (by decide)) (g := (mkF m 79 #[.val (.ref b1), .val (.int (Int32.ofNat (i + 1))), .val (.int (Int32.ofNat cs.length)), .val (.int (0 : Int32)), .val (.int (cs.getD i 0)), .val (.int (cs.getD (i + 1) 0))] [(.int (cs.getD (i + 1) 0)), (.int (cs.getD i 0))])) rfl (by rw [hml]; rfl) (argsL := [(.int (cs.getD i 0)), (.int (cs.getD (i + 1) 0))]) (rest := []) (lenOf pd2 rfl) rfl (by show 2 * 0 + _ ≤ _; exact Nat.le_of_eq rfl) (hb hby dj52m7_79) (fun _ _ => ⟨rfl, eq56, (by decide : 0 + 0 ≤ _), (by decide : 0 + 0 ≤ _)⟩)
        dsimp only [Pt.U, Pt.locs, Pt.cells, Pt.slots] at X58 l58 y58 z58 st58 hQ58
        subst l58 y58 z58
        obtain ⟨rfl, Nq58, eq58⟩ := hQ58
        have N58 := Fr.app N56 Nq58
        refine own_t2 (.int (own_tcp (cs.getD i 0) (cs.getD (i + 1) 0))) 82 st58 ?_
        exact own_retI X58 hx hrt (hb hby dj52m7_82) hlk (by decide) (by decide) eq58 (⟨by have hv : own_cp cs i = (own_tcp (cs.getD i 0) (cs.getD (i + 1) 0)) := (by first | (simp only [own_cp, c54, hn1, c57, ↓reduceIte]; done) | (simp [own_cp, c54, hn1, c57]; done)); rw [hv] <;> rfl, N58, rfl⟩)
    ·
      have hlt : ¬ ((Int32.ofNat (i + 1)) < (Int32.ofNat cs.length)) := fun q => hn1 ((own_ltn hl (by omega)).mp q)
      refine own_tp (.int (Int32.ofNat (i + 1))) 47 (fun _ q => XS.iloadN X53.here hx rfl (hb hby dj52m7_46) rfl q) ?_
      refine own_tp (.int (Int32.ofNat cs.length)) 48 (fun _ q => XS.iloadN X53.here hx rfl (hb hby dj52m7_47) rfl q) ?_
      refine own_d2 83 (fun _ q => XS.icmpYes X53.here hx rfl (pc0 := 48) (pc' := 83) rfl (hb hby dj52m7_48) rfl (flt hlt).2.1 (by decide) (by decide) q) ?_
      refine own_tp (.int (cs.getD i 0)) 85 (fun _ q => XS.iload X53.here hx rfl (hb hby dj52m7_83) rfl q) ?_
      exact own_retI X53 hx hrt (hb hby dj52m7_85) hlk (by decide) (by decide) eq53 (⟨by have hv : own_cp cs i = (cs.getD i 0) := (by first | (simp only [own_cp, c54, hn1, ↓reduceIte]; done) | (simp [own_cp, c54, hn1]; done)); rw [hv] <;> rfl, N53, rfl⟩)

def Q17 (z : Int32) (h0 : Heap) (n0 : Nat) (v : Option Value) (h : Heap) (L : List Loc) : Prop := v = some (.int z) ∧ Fr n0 L ∧ h = h0

set_option maxRecDepth 65536 in
set_option maxHeartbeats 40000000 in
theorem rm17 (l : Launch) (Z : State) (a0 : Array Value) (hw : ∀ d ∈ tables_1, d.before a0 Z = true) (ws : List Jvm.Cond) (b1 : Addr) (k1 : ClassId) (i : Nat) (cs : List Int32) (h0 : Heap) (n0 : Nat) (hi : i < cs.length) (hl : cs.length ≤ 1000) (hch : ∀ c ∈ cs, 0 ≤ c.toInt ∧ c.toInt ≤ 65535) (V1 : Arv Z h0 b1 k1 .byte (Int32.ofNat (2 * cs.length)) (own_wide cs) (.int (0 : Int32))) (G1 : Int32) (US : own_US Z G1) (O0 : Old Z n0 h0) :
    own_Met l (⟨"java/lang/StringUTF16", "codePointAt", "([BII)I"⟩ : MethodName) jdk_52_method_8_code 3 (some .int) ws own_R_2_0_0_30 Z #[(.ref b1), (.int (Int32.ofNat i)), (.int (Int32.ofNat cs.length))] h0 (Q17 (own_cp cs i) h0 n0) := by
  refine own_enter #[.val (.ref b1), .val (.int (Int32.ofNat i)), .val (.int (Int32.ofNat cs.length))] (plainFor_of_name pn_java_lang_StringUTF16) (fun m => ef_RII_3 m b1 (Int32.ofNat i) (Int32.ofNat cs.length)) ?_
  intro p e s m below meth c s₁ hx hby hml hown hnm hZ hrt hlk X0 e0
  have N0 := Fr.nil n0
  refine own_tp (.ref b1) 1 (fun _ q => XS.aloadN X0.here hx rfl (hb hby dj52m8_0) rfl rfl q) ?_
  refine own_tp (.int (Int32.ofNat i)) 2 (fun _ q => XS.iloadN X0.here hx rfl (hb hby dj52m8_1) rfl q) ?_
  refine own_tp (.int (Int32.ofNat cs.length)) 3 (fun _ q => XS.iloadN X0.here hx rfl (hb hby dj52m8_2) rfl q) ?_
  refine own_tp (.int (0 : Int32)) 4 (fun _ q => XS.iconst X0.here hx rfl (hb hby dj52m8_3) q) ?_
  obtain ⟨_, _, ⟨T51, L51, k51, n51⟩, -, X51, ⟨Lc51, hQ51, l51, y51, z51⟩, st51⟩ := Jvm.LawKit.callS X0 hx (y := (⟨"java/lang/StringUTF16", "codePointAt", "([BIIZ)I"⟩ : MethodName)) hown (mvT hZ (own_w hw 120 rfl)) (mvT hZ (own_w hw 121 rfl)) (mvT hZ (own_w hw 68 rfl)) (mvT hZ (own_w hw 122 rfl)) (by decide) (backOf (W := 0) (rm16 l Z a0 hw [] b1 k1 i cs h0 n0 hi hl hch V1 G1 US O0) hZ (own_w hw 122 rfl) (own_w hw 68 rfl) (by decide) (by decide)) (g := (mkF m 4 #[.val (.ref b1), .val (.int (Int32.ofNat i)), .val (.int (Int32.ofNat cs.length))] [(.int (0 : Int32)), (.int (Int32.ofNat cs.length)), (.int (Int32.ofNat i)), (.ref b1)])) rfl (by rw [hml]; rfl) (argsL := [(.ref b1), (.int (Int32.ofNat i)), (.int (Int32.ofNat cs.length)), (.int (0 : Int32))]) (rest := []) (lenOf pd5 rfl) rfl (by show 2 * 0 + _ ≤ _; exact Nat.le_of_eq rfl) (hb hby dj52m8_4) (fun _ _ => ⟨rfl, e0, (by decide : 0 + 0 ≤ _), (by decide : 0 + 0 ≤ _)⟩)
  dsimp only [Pt.U, Pt.locs, Pt.cells, Pt.slots] at X51 l51 y51 z51 st51 hQ51
  subst l51 y51 z51
  obtain ⟨rfl, Nq51, eq51⟩ := hQ51
  have N51 := Fr.app N0 Nq51
  refine own_cs [(.int (own_cp cs i))] 7 st51 ?_
  exact own_retI X51 hx hrt (hb hby dj52m8_7) hlk (by decide) (by decide) eq51 (⟨rfl, N51, rfl⟩)

theorem own_S.exa {Z : State} {h : Heap} {a : Addr} {cs : List Int32} (F : own_S Z h a cs) : Exa Z h a "java/lang/String" := by
  obtain ⟨t, kb, cd, N, vs, f1, f2, f3, f4, f5⟩ := F
  exact f1
theorem own_S.keep0 {Z : State} {h h' : Heap} {a : Addr} {cs : List Int32} (F : own_S Z h a cs) (K : Keep h h' []) : own_S Z h' a cs := by
  obtain ⟨t, kb, cd, N, vs, f1, f2, f3, f4, f5⟩ := F
  exact ⟨t, kb, cd, N, vs, f1.keep K, f2.keep K nin0, f3.keep K nin0, f4.keep K nin0, f5⟩

def Q18 (z : Int32) (h0 : Heap) (n0 : Nat) (v : Option Value) (h : Heap) (L : List Loc) : Prop := v = some (.int z) ∧ Fr n0 L ∧ h = h0

def Q19 (z : Int32) (h0 : Heap) (n0 : Nat) (v : Option Value) (h : Heap) (L : List Loc) : Prop := v = some (.int z) ∧ Fr n0 L ∧ h = h0

set_option maxRecDepth 65536 in
set_option maxHeartbeats 40000000 in
theorem rm20 (l : Launch) (Z : State) (a0 : Array Value) (hw : ∀ d ∈ tables_1, d.before a0 Z = true) (ws : List Jvm.Cond) (a1 b1 : Addr) (k1 : ClassId) (cs : List Int32) (h0 : Heap) (n0 : Nat) (hl : cs.length ≤ 1000) (hch : ∀ c ∈ cs, 0 ≤ c.toInt ∧ c.toInt ≤ 65535) (G1 : Int32) (US : own_US Z G1) (O0 : Old Z n0 h0) (G3 : Value) (rG3 : G3.isRef = true) (Sf : Sta Z Z.heap "jdk/internal/util/Preconditions" "SIOOBE_FORMATTER" "Ljava/util/function/BiFunction;" G3) (E1 : Exa Z h0 a1 "java/lang/String") (C1 : Fld Z h0 a1 "java/lang/String" "coder" "B" (.int (0 : Int32))) (L1 : Fld Z h0 a1 "java/lang/String" "value" "[B" (.ref b1)) (hcs : ∀ c ∈ cs, ¬ (255 : Int32) < c) (V1 : Arv Z h0 b1 k1 .byte (Int32.ofNat cs.length) (own_lows cs) (.int (0 : Int32))) :
    own_Met l (⟨"java/lang/String", "coder", "()B"⟩ : MethodName) jdk_42_method_152_code 1 (some .byte) ws own_R_0_0_0_0 Z #[(.ref a1)] h0 (Q18 (0 : Int32) h0 n0) := by
  refine own_enter #[.val (.ref a1)] (plainFor_of_name pn_java_lang_String) (fun m => ef_R_1 m a1) ?_
  intro p e s m below meth c s₁ hx hby hml hown hnm hZ hrt hlk X0 e0
  have N0 := Fr.nil n0
  obtain ⟨T51, X51, e51, st51⟩ := getS2 X0 hx hZ hown (host := "") (Or.inl (own_w hw 47 rfl)) Via.refl e0 (US.2.1.ext O0.2) (g := (mkF m 0 #[.val (.ref a1)] [])) rfl (hb hby dj42m152_0)
  refine own_tp (.int G1) 3 st51 ?_
  refine own_d1 6 (fun _ q => XS.ifNo X51.here hx rfl (hb hby dj42m152_3) rfl ((if0 _ _).trans (feq US.1).1) q) ?_
  refine own_tp (.ref a1) 7 (fun _ q => XS.aloadN X51.here hx rfl (hb hby dj42m152_6) rfl rfl q) ?_
  obtain ⟨T52, X52, e52, st52⟩ := getF X51 hx hZ hown (host := "") (Or.inl (own_w hw 32 rfl)) Via.refl e51 C1 (g := (mkF m 7 #[.val (.ref a1)] [(.ref a1)])) rfl rfl (hb hby dj42m152_7)
  refine own_t1 (.int (0 : Int32)) 10 st52 ?_
  refine own_d0 14 (fun _ q => XS.goto X52.here hx rfl (pc0 := 10) (pc' := 14) rfl (hb hby dj42m152_10) (by decide) (by decide) q) ?_
  exact own_retN (t := .byte) X52 hx hrt (hb hby dj42m152_14) (by simp) hlk (by decide) (by decide) e52 (⟨rfl, N0, rfl⟩)

set_option maxRecDepth 65536 in
set_option maxHeartbeats 40000000 in
theorem rm21 (l : Launch) (Z : State) (a0 : Array Value) (hw : ∀ d ∈ tables_1, d.before a0 Z = true) (ws : List Jvm.Cond) (a1 b1 : Addr) (k1 : ClassId) (cs : List Int32) (h0 : Heap) (n0 : Nat) (hl : cs.length ≤ 1000) (hch : ∀ c ∈ cs, 0 ≤ c.toInt ∧ c.toInt ≤ 65535) (G1 : Int32) (US : own_US Z G1) (O0 : Old Z n0 h0) (G3 : Value) (rG3 : G3.isRef = true) (Sf : Sta Z Z.heap "jdk/internal/util/Preconditions" "SIOOBE_FORMATTER" "Ljava/util/function/BiFunction;" G3) (E1 : Exa Z h0 a1 "java/lang/String") (C1 : Fld Z h0 a1 "java/lang/String" "coder" "B" (.int (0 : Int32))) (L1 : Fld Z h0 a1 "java/lang/String" "value" "[B" (.ref b1)) (hcs : ∀ c ∈ cs, ¬ (255 : Int32) < c) (V1 : Arv Z h0 b1 k1 .byte (Int32.ofNat cs.length) (own_lows cs) (.int (0 : Int32))) :
    own_Met l (⟨"java/lang/String", "isLatin1", "()Z"⟩ : MethodName) jdk_42_method_154_code 1 (some .boolean) ws own_R_0_0_0_0 Z #[(.ref a1)] h0 (Q18 (1 : Int32) h0 n0) := by
  refine own_enter #[.val (.ref a1)] (plainFor_of_name pn_java_lang_String) (fun m => ef_R_1 m a1) ?_
  intro p e s m below meth c s₁ hx hby hml hown hnm hZ hrt hlk X0 e0
  have N0 := Fr.nil n0
  obtain ⟨T51, X51, e51, st51⟩ := getS2 X0 hx hZ hown (host := "") (Or.inl (own_w hw 47 rfl)) Via.refl e0 (US.2.1.ext O0.2) (g := (mkF m 0 #[.val (.ref a1)] [])) rfl (hb hby dj42m154_0)
  refine own_tp (.int G1) 3 st51 ?_
  refine own_d1 6 (fun _ q => XS.ifNo X51.here hx rfl (hb hby dj42m154_3) rfl ((if0 _ _).trans (feq US.1).1) q) ?_
  refine own_tp (.ref a1) 7 (fun _ q => XS.aloadN X51.here hx rfl (hb hby dj42m154_6) rfl rfl q) ?_
  obtain ⟨T52, X52, e52, st52⟩ := getF X51 hx hZ hown (host := "") (Or.inl (own_w hw 32 rfl)) Via.refl e51 C1 (g := (mkF m 7 #[.val (.ref a1)] [(.ref a1)])) rfl rfl (hb hby dj42m154_7)
  refine own_t1 (.int (0 : Int32)) 10 st52 ?_
  refine own_d1 13 (fun _ q => XS.ifNo X52.here hx rfl (hb hby dj42m154_10) rfl ((if0 _ _).trans (teq (by decide : (0 : Int32) = (0 : Int32))).2) q) ?_
  refine own_tp (.int (1 : Int32)) 14 (fun _ q => XS.iconst X52.here hx rfl (hb hby dj42m154_13) q) ?_
  refine own_d0 18 (fun _ q => XS.goto X52.here hx rfl (pc0 := 14) (pc' := 18) rfl (hb hby dj42m154_14) (by decide) (by decide) q) ?_
  exact own_retN (t := .boolean) X52 hx hrt (hb hby dj42m154_18) (by simp) hlk (by decide) (by decide) e52 (⟨rfl, N0, rfl⟩)

set_option maxRecDepth 65536 in
set_option maxHeartbeats 40000000 in
theorem rm22 (l : Launch) (Z : State) (a0 : Array Value) (hw : ∀ d ∈ tables_1, d.before a0 Z = true) (ws : List Jvm.Cond) (a1 b1 : Addr) (k1 : ClassId) (cs : List Int32) (h0 : Heap) (n0 : Nat) (hl : cs.length ≤ 1000) (hch : ∀ c ∈ cs, 0 ≤ c.toInt ∧ c.toInt ≤ 65535) (G1 : Int32) (US : own_US Z G1) (O0 : Old Z n0 h0) (G3 : Value) (rG3 : G3.isRef = true) (Sf : Sta Z Z.heap "jdk/internal/util/Preconditions" "SIOOBE_FORMATTER" "Ljava/util/function/BiFunction;" G3) (E1 : Exa Z h0 a1 "java/lang/String") (C1 : Fld Z h0 a1 "java/lang/String" "coder" "B" (.int (0 : Int32))) (L1 : Fld Z h0 a1 "java/lang/String" "value" "[B" (.ref b1)) (hcs : ∀ c ∈ cs, ¬ (255 : Int32) < c) (V1 : Arv Z h0 b1 k1 .byte (Int32.ofNat cs.length) (own_lows cs) (.int (0 : Int32))) :
    own_Met l (⟨"java/lang/String", "length", "()I"⟩ : MethodName) jdk_42_method_54_code 1 (some .int) ws own_R_1_0_0_13 Z #[(.ref a1)] h0 (Q18 (Int32.ofNat cs.length) h0 n0) := by
  refine own_enter #[.val (.ref a1)] (plainFor_of_name pn_java_lang_String) (fun m => ef_R_1 m a1) ?_
  intro p e s m below meth c s₁ hx hby hml hown hnm hZ hrt hlk X0 e0
  have N0 := Fr.nil n0
  refine own_tp (.ref a1) 1 (fun _ q => XS.aloadN X0.here hx rfl (hb hby dj42m54_0) rfl rfl q) ?_
  obtain ⟨T51, X51, e51, st51⟩ := getF X0 hx hZ hown (host := "") (Or.inl (own_w hw 31 rfl)) Via.refl e0 L1 (g := (mkF m 1 #[.val (.ref a1)] [(.ref a1)])) rfl rfl (hb hby dj42m54_1)
  refine own_t1 (.ref b1) 4 st51 ?_
  obtain ⟨cl52, Ar52, -, Sz52, Nn52, -, -⟩ := (id V1)
  refine own_t1 (.int (Int32.ofNat cs.length)) 5 (fun t q => X51.arraylength hx (by rw [e51]; exact Ar52.1) (State.isArrayOf_alike hZ.alike Ar52.2.1) (g := (mkF m 4 #[.val (.ref a1)] [(.ref b1)])) rfl rfl (hb hby dj42m54_4) _ (by rw [len_of Sz52 Nn52]; exact q)) ?_
  refine own_tp (.ref a1) 6 (fun _ q => XS.aloadN X51.here hx rfl (hb hby dj42m54_5) rfl rfl q) ?_
  obtain ⟨cq53, kq53, q53a, q53b, q53c⟩ := isOf hZ e51 E1
  obtain ⟨_, _, ⟨T53, L53, k53, n53⟩, -, X53, ⟨Lc53, hQ53, l53, y53, z53⟩, st53⟩ := X51.virtualBack hx (y := (⟨"java/lang/String", "coder", "()B"⟩ : MethodName)) (z := (⟨"java/lang/String", "coder", "()B"⟩ : MethodName)) hown (mvT hZ (own_w hw 42 rfl)) (mvT hZ (own_w hw 43 rfl)) (notFace_of_selects (args := #[]) (mvT hZ (own_w hw 45 rfl))) (mvT hZ (own_w hw 45 rfl)) (mvT hZ (own_w hw 44 rfl)) (by decide) (backOf (W := 1) (rm20 l Z a0 hw [] a1 b1 k1 cs h0 n0 hl hch G1 US O0 G3 rG3 Sf E1 C1 L1 hcs V1) hZ (own_w hw 46 rfl) (own_w hw 13 rfl) (by decide) (by decide)) q53a q53c (g := (mkF m 6 #[.val (.ref a1)] [(.ref a1), (.int (Int32.ofNat cs.length))])) rfl (by rw [hml]; rfl) (Steps.refl _) (argsL := []) (rest := [(.int (Int32.ofNat cs.length))]) (lenOf pd6 rfl) rfl (by show 2 * 0 + _ ≤ _; exact Nat.le_of_eq rfl) (hb hby dj42m54_6) (fun _ _ => ⟨rfl, e51, (by decide : 0 + 0 ≤ _), (by decide : 0 + 0 ≤ _)⟩)
  dsimp only [Pt.U, Pt.locs, Pt.cells, Pt.slots] at X53 l53 y53 z53 st53 hQ53
  subst l53 y53 z53
  obtain ⟨rfl, Nq53, eq53⟩ := hQ53
  have N53 := Fr.app N0 Nq53
  refine own_csR [(.int (0 : Int32)), (.int (Int32.ofNat cs.length))] 9 st53 ?_
  refine own_t2 (.int ((Int32.ofNat cs.length) >>> ((0 : Int32) &&& 31))) 10 (fun _ q => XS.ishr X53.here hx rfl (hb hby dj42m54_9) rfl q) ?_
  exact own_retI X53 hx hrt (hb hby dj42m54_10) hlk (by decide) (by decide) eq53 (⟨by rw [own_shr0], N53, rfl⟩)

set_option maxRecDepth 65536 in
set_option maxHeartbeats 40000000 in
theorem rm23 (l : Launch) (Z : State) (a0 : Array Value) (hw : ∀ d ∈ tables_1, d.before a0 Z = true) (ws : List Jvm.Cond) (a1 b1 : Addr) (k1 : ClassId) (cs : List Int32) (i : Nat) (h0 : Heap) (n0 : Nat) (hi : i < cs.length) (hl : cs.length ≤ 1000) (hch : ∀ c ∈ cs, 0 ≤ c.toInt ∧ c.toInt ≤ 65535) (G1 : Int32) (US : own_US Z G1) (O0 : Old Z n0 h0) (G3 : Value) (rG3 : G3.isRef = true) (Sf : Sta Z Z.heap "jdk/internal/util/Preconditions" "SIOOBE_FORMATTER" "Ljava/util/function/BiFunction;" G3) (E1 : Exa Z h0 a1 "java/lang/String") (C1 : Fld Z h0 a1 "java/lang/String" "coder" "B" (.int (0 : Int32))) (L1 : Fld Z h0 a1 "java/lang/String" "value" "[B" (.ref b1)) (hcs : ∀ c ∈ cs, ¬ (255 : Int32) < c) (V1 : Arv Z h0 b1 k1 .byte (Int32.ofNat cs.length) (own_lows cs) (.int (0 : Int32))) :
    own_Met l (⟨"java/lang/String", "codePointAt", "(I)I"⟩ : MethodName) jdk_42_method_57_code 3 (some .int) ws own_R_3_0_0_44 Z #[(.ref a1), (.int (Int32.ofNat i))] h0 (Q19 (own_cp cs i) h0 n0) := by
  refine own_enter #[.val (.ref a1), .val (.int (Int32.ofNat i)), .unset] (plainFor_of_name pn_java_lang_String) (fun m => ef_RI_3 m a1 (Int32.ofNat i)) ?_
  intro p e s m below meth c s₁ hx hby hml hown hnm hZ hrt hlk X0 e0
  have N0 := Fr.nil n0
  refine own_tp (.ref a1) 1 (fun _ q => XS.aloadN X0.here hx rfl (hb hby dj42m57_0) rfl rfl q) ?_
  obtain ⟨cq51, kq51, q51a, q51b, q51c⟩ := isOf hZ e0 E1
  obtain ⟨_, _, ⟨T51, L51, k51, n51⟩, -, X51, ⟨Lc51, hQ51, l51, y51, z51⟩, st51⟩ := X0.virtualBack hx (y := (⟨"java/lang/String", "isLatin1", "()Z"⟩ : MethodName)) (z := (⟨"java/lang/String", "isLatin1", "()Z"⟩ : MethodName)) hown (mvT hZ (own_w hw 104 rfl)) (mvT hZ (own_w hw 105 rfl)) (notFace_of_selects (args := #[]) (mvT hZ (own_w hw 107 rfl))) (mvT hZ (own_w hw 107 rfl)) (mvT hZ (own_w hw 106 rfl)) (by decide) (backOf (W := 0) (rm21 l Z a0 hw [] a1 b1 k1 cs h0 n0 hl hch G1 US O0 G3 rG3 Sf E1 C1 L1 hcs V1) hZ (own_w hw 108 rfl) (own_w hw 13 rfl) (by decide) (by decide)) q51a q51c (g := (mkF m 1 #[.val (.ref a1), .val (.int (Int32.ofNat i)), .unset] [(.ref a1)])) rfl (by rw [hml]; rfl) (Steps.refl _) (argsL := []) (rest := []) (lenOf pd7 rfl) rfl (by show 2 * 0 + _ ≤ _; exact Nat.le_of_eq rfl) (hb hby dj42m57_1) (fun _ _ => ⟨rfl, e0, (by decide : 0 + 0 ≤ _), (by decide : 0 + 0 ≤ _)⟩)
  dsimp only [Pt.U, Pt.locs, Pt.cells, Pt.slots] at X51 l51 y51 z51 st51 hQ51
  subst l51 y51 z51
  obtain ⟨rfl, Nq51, eq51⟩ := hQ51
  have N51 := Fr.app N0 Nq51
  refine own_csR [(.int (1 : Int32))] 4 st51 ?_
  refine own_d1 7 (fun _ q => XS.ifNo X51.here hx rfl (hb hby dj42m57_4) rfl ((if0 _ _).trans (feq (by decide : ¬ ((1 : Int32) = (0 : Int32)))).1) q) ?_
  refine own_tp (.int (Int32.ofNat i)) 8 (fun _ q => XS.iloadN X51.here hx rfl (hb hby dj42m57_7) rfl q) ?_
  refine own_tp (.ref a1) 9 (fun _ q => XS.aloadN X51.here hx rfl (hb hby dj42m57_8) rfl rfl q) ?_
  obtain ⟨T52, X52, e52, st52⟩ := getF X51 hx hZ hown (host := "") (Or.inl (own_w hw 31 rfl)) Via.refl eq51 L1 (g := (mkF m 9 #[.val (.ref a1), .val (.int (Int32.ofNat i)), .unset] [(.ref a1), (.int (Int32.ofNat i))])) rfl rfl (hb hby dj42m57_9)
  refine own_t1 (.ref b1) 12 st52 ?_
  obtain ⟨cl53, Ar53, -, Sz53, Nn53, -, -⟩ := (id V1)
  refine own_t1 (.int (Int32.ofNat cs.length)) 13 (fun t q => X52.arraylength hx (by rw [e52]; exact Ar53.1) (State.isArrayOf_alike hZ.alike Ar53.2.1) (g := (mkF m 12 #[.val (.ref a1), .val (.int (Int32.ofNat i)), .unset] [(.ref b1), (.int (Int32.ofNat i))])) rfl rfl (hb hby dj42m57_12) _ (by rw [len_of Sz53 Nn53]; exact q)) ?_
  obtain ⟨_, _, ⟨T54, L54, k54, n54⟩, -, X54, ⟨Lc54, hQ54, l54, y54, z54⟩, st54⟩ := Jvm.LawKit.callS X52 hx (y := (⟨"java/lang/String", "checkIndex", "(II)V"⟩ : MethodName)) hown (mvT hZ (own_w hw 109 rfl)) (mvT hZ (own_w hw 110 rfl)) (mvT hZ (own_w hw 13 rfl)) (mvT hZ (own_w hw 111 rfl)) (by decide) (backOf (W := 0) (rm15 l Z a0 hw [] i cs.length h0 n0 hl hi O0 G3 rG3 Sf) hZ (own_w hw 111 rfl) (own_w hw 13 rfl) (by decide) (by decide)) (g := (mkF m 13 #[.val (.ref a1), .val (.int (Int32.ofNat i)), .unset] [(.int (Int32.ofNat cs.length)), (.int (Int32.ofNat i))])) rfl (by rw [hml]; rfl) (argsL := [(.int (Int32.ofNat i)), (.int (Int32.ofNat cs.length))]) (rest := []) (lenOf pd8 rfl) rfl (by show 2 * 0 + _ ≤ _; exact Nat.le_of_eq rfl) (hb hby dj42m57_13) (fun _ _ => ⟨rfl, e52, (by decide : 0 + 0 ≤ _), (by decide : 0 + 0 ≤ _)⟩)
  dsimp only [Pt.U, Pt.locs, Pt.cells, Pt.slots] at X54 l54 y54 z54 st54 hQ54
  subst l54 y54 z54
  obtain ⟨rfl, Nq54, eq54⟩ := hQ54
  have N54 := Fr.app N51 Nq54
  refine own_d2 16 st54 ?_
  refine own_tp (.ref a1) 17 (fun _ q => XS.aloadN X54.here hx rfl (hb hby dj42m57_16) rfl rfl q) ?_
  obtain ⟨T55, X55, e55, st55⟩ := getF X54 hx hZ hown (host := "") (Or.inl (own_w hw 31 rfl)) Via.refl eq54 L1 (g := (mkF m 17 #[.val (.ref a1), .val (.int (Int32.ofNat i)), .unset] [(.ref a1)])) rfl rfl (hb hby dj42m57_17)
  refine own_t1 (.ref b1) 20 st55 ?_
  refine own_tp (.int (Int32.ofNat i)) 21 (fun _ q => XS.iloadN X55.here hx rfl (hb hby dj42m57_20) rfl q) ?_
  obtain ⟨cl56, Ar56, q56, S56, Nn56, H56, G56⟩ := (id V1)
  have hin56 : ¬ ((Int32.ofNat i) < 0 ∨ cl56.slots.size ≤ ((Int32.ofNat i)).toNatClampNeg) := inb_of S56 (own_inb (by omega) (by omega))
  have hat56 : cl56.slots[((Int32.ofNat i)).toNatClampNeg]? = some (.int (own_lo (cs.getD i 0))) := H56.at hin56 (by rw [(own_ofn (by omega)).2]; exact own_lows_at _ cs i (by omega))
  refine own_t2 (.int (own_lo (cs.getD i 0))) 22 (fun _ q => X55.baloadBytes hx (j := (Int32.ofNat i)) (v := (.int (own_lo (cs.getD i 0)))) (by rw [e55]; exact Ar56.1) (State.isArrayOf_alike hZ.alike Ar56.2.1) Ar56.2.2 hin56 hat56 (g := (mkF m 21 #[.val (.ref a1), .val (.int (Int32.ofNat i)), .unset] [(.int (Int32.ofNat i)), (.ref b1)])) rfl rfl (hb hby dj42m57_21) _ q) ?_
  refine own_tp (.int (255 : Int32)) 25 (fun _ q => XS.sipush X55.here hx rfl (hb hby dj42m57_22) q) ?_
  refine own_t2 (.int ((own_lo (cs.getD i 0)) &&& (255 : Int32))) 26 (fun _ q => XS.iand X55.here hx rfl (hb hby dj42m57_25) rfl q) ?_
  exact own_retI X55 hx hrt (hb hby dj42m57_26) hlk (by decide) (by decide) e55 (⟨by rw [own_cpL hi hcs hch], N54, rfl⟩)

set_option maxRecDepth 65536 in
set_option maxHeartbeats 40000000 in
theorem rm24 (l : Launch) (Z : State) (a0 : Array Value) (hw : ∀ d ∈ tables_1, d.before a0 Z = true) (ws : List Jvm.Cond) (a1 b1 : Addr) (k1 : ClassId) (cs : List Int32) (h0 : Heap) (n0 : Nat) (hl : cs.length ≤ 1000) (hch : ∀ c ∈ cs, 0 ≤ c.toInt ∧ c.toInt ≤ 65535) (G1 : Int32) (US : own_US Z G1) (O0 : Old Z n0 h0) (G3 : Value) (rG3 : G3.isRef = true) (Sf : Sta Z Z.heap "jdk/internal/util/Preconditions" "SIOOBE_FORMATTER" "Ljava/util/function/BiFunction;" G3) (E1 : Exa Z h0 a1 "java/lang/String") (C1 : Fld Z h0 a1 "java/lang/String" "coder" "B" (.int (1 : Int32))) (L1 : Fld Z h0 a1 "java/lang/String" "value" "[B" (.ref b1)) (V1 : Arv Z h0 b1 k1 .byte (Int32.ofNat (2 * cs.length)) (own_wide cs) (.int (0 : Int32))) :
    own_Met l (⟨"java/lang/String", "coder", "()B"⟩ : MethodName) jdk_42_method_152_code 1 (some .byte) ws own_R_0_0_0_0 Z #[(.ref a1)] h0 (Q18 (1 : Int32) h0 n0) := by
  refine own_enter #[.val (.ref a1)] (plainFor_of_name pn_java_lang_String) (fun m => ef_R_1 m a1) ?_
  intro p e s m below meth c s₁ hx hby hml hown hnm hZ hrt hlk X0 e0
  have N0 := Fr.nil n0
  obtain ⟨T51, X51, e51, st51⟩ := getS2 X0 hx hZ hown (host := "") (Or.inl (own_w hw 47 rfl)) Via.refl e0 (US.2.1.ext O0.2) (g := (mkF m 0 #[.val (.ref a1)] [])) rfl (hb hby dj42m152_0)
  refine own_tp (.int G1) 3 st51 ?_
  refine own_d1 6 (fun _ q => XS.ifNo X51.here hx rfl (hb hby dj42m152_3) rfl ((if0 _ _).trans (feq US.1).1) q) ?_
  refine own_tp (.ref a1) 7 (fun _ q => XS.aloadN X51.here hx rfl (hb hby dj42m152_6) rfl rfl q) ?_
  obtain ⟨T52, X52, e52, st52⟩ := getF X51 hx hZ hown (host := "") (Or.inl (own_w hw 32 rfl)) Via.refl e51 C1 (g := (mkF m 7 #[.val (.ref a1)] [(.ref a1)])) rfl rfl (hb hby dj42m152_7)
  refine own_t1 (.int (1 : Int32)) 10 st52 ?_
  refine own_d0 14 (fun _ q => XS.goto X52.here hx rfl (pc0 := 10) (pc' := 14) rfl (hb hby dj42m152_10) (by decide) (by decide) q) ?_
  exact own_retN (t := .byte) X52 hx hrt (hb hby dj42m152_14) (by simp) hlk (by decide) (by decide) e52 (⟨rfl, N0, rfl⟩)

set_option maxRecDepth 65536 in
set_option maxHeartbeats 40000000 in
theorem rm25 (l : Launch) (Z : State) (a0 : Array Value) (hw : ∀ d ∈ tables_1, d.before a0 Z = true) (ws : List Jvm.Cond) (a1 b1 : Addr) (k1 : ClassId) (cs : List Int32) (h0 : Heap) (n0 : Nat) (hl : cs.length ≤ 1000) (hch : ∀ c ∈ cs, 0 ≤ c.toInt ∧ c.toInt ≤ 65535) (G1 : Int32) (US : own_US Z G1) (O0 : Old Z n0 h0) (G3 : Value) (rG3 : G3.isRef = true) (Sf : Sta Z Z.heap "jdk/internal/util/Preconditions" "SIOOBE_FORMATTER" "Ljava/util/function/BiFunction;" G3) (E1 : Exa Z h0 a1 "java/lang/String") (C1 : Fld Z h0 a1 "java/lang/String" "coder" "B" (.int (1 : Int32))) (L1 : Fld Z h0 a1 "java/lang/String" "value" "[B" (.ref b1)) (V1 : Arv Z h0 b1 k1 .byte (Int32.ofNat (2 * cs.length)) (own_wide cs) (.int (0 : Int32))) :
    own_Met l (⟨"java/lang/String", "isLatin1", "()Z"⟩ : MethodName) jdk_42_method_154_code 1 (some .boolean) ws own_R_0_0_0_0 Z #[(.ref a1)] h0 (Q18 (0 : Int32) h0 n0) := by
  refine own_enter #[.val (.ref a1)] (plainFor_of_name pn_java_lang_String) (fun m => ef_R_1 m a1) ?_
  intro p e s m below meth c s₁ hx hby hml hown hnm hZ hrt hlk X0 e0
  have N0 := Fr.nil n0
  obtain ⟨T51, X51, e51, st51⟩ := getS2 X0 hx hZ hown (host := "") (Or.inl (own_w hw 47 rfl)) Via.refl e0 (US.2.1.ext O0.2) (g := (mkF m 0 #[.val (.ref a1)] [])) rfl (hb hby dj42m154_0)
  refine own_tp (.int G1) 3 st51 ?_
  refine own_d1 6 (fun _ q => XS.ifNo X51.here hx rfl (hb hby dj42m154_3) rfl ((if0 _ _).trans (feq US.1).1) q) ?_
  refine own_tp (.ref a1) 7 (fun _ q => XS.aloadN X51.here hx rfl (hb hby dj42m154_6) rfl rfl q) ?_
  obtain ⟨T52, X52, e52, st52⟩ := getF X51 hx hZ hown (host := "") (Or.inl (own_w hw 32 rfl)) Via.refl e51 C1 (g := (mkF m 7 #[.val (.ref a1)] [(.ref a1)])) rfl rfl (hb hby dj42m154_7)
  refine own_t1 (.int (1 : Int32)) 10 st52 ?_
  refine own_d1 17 (fun _ q => XS.ifYes X52.here hx rfl (pc0 := 10) (pc' := 17) rfl (hb hby dj42m154_10) rfl ((if0 _ _).trans (feq (by decide : ¬ ((1 : Int32) = (0 : Int32)))).2) (by decide) (by decide) q) ?_
  refine own_tp (.int (0 : Int32)) 18 (fun _ q => XS.iconst X52.here hx rfl (hb hby dj42m154_17) q) ?_
  exact own_retN (t := .boolean) X52 hx hrt (hb hby dj42m154_18) (by simp) hlk (by decide) (by decide) e52 (⟨rfl, N0, rfl⟩)

set_option maxRecDepth 65536 in
set_option maxHeartbeats 40000000 in
theorem rm26 (l : Launch) (Z : State) (a0 : Array Value) (hw : ∀ d ∈ tables_1, d.before a0 Z = true) (ws : List Jvm.Cond) (a1 b1 : Addr) (k1 : ClassId) (cs : List Int32) (h0 : Heap) (n0 : Nat) (hl : cs.length ≤ 1000) (hch : ∀ c ∈ cs, 0 ≤ c.toInt ∧ c.toInt ≤ 65535) (G1 : Int32) (US : own_US Z G1) (O0 : Old Z n0 h0) (G3 : Value) (rG3 : G3.isRef = true) (Sf : Sta Z Z.heap "jdk/internal/util/Preconditions" "SIOOBE_FORMATTER" "Ljava/util/function/BiFunction;" G3) (E1 : Exa Z h0 a1 "java/lang/String") (C1 : Fld Z h0 a1 "java/lang/String" "coder" "B" (.int (1 : Int32))) (L1 : Fld Z h0 a1 "java/lang/String" "value" "[B" (.ref b1)) (V1 : Arv Z h0 b1 k1 .byte (Int32.ofNat (2 * cs.length)) (own_wide cs) (.int (0 : Int32))) :
    own_Met l (⟨"java/lang/String", "length", "()I"⟩ : MethodName) jdk_42_method_54_code 1 (some .int) ws own_R_1_0_0_13 Z #[(.ref a1)] h0 (Q18 (Int32.ofNat cs.length) h0 n0) := by
  refine own_enter #[.val (.ref a1)] (plainFor_of_name pn_java_lang_String) (fun m => ef_R_1 m a1) ?_
  intro p e s m below meth c s₁ hx hby hml hown hnm hZ hrt hlk X0 e0
  have N0 := Fr.nil n0
  refine own_tp (.ref a1) 1 (fun _ q => XS.aloadN X0.here hx rfl (hb hby dj42m54_0) rfl rfl q) ?_
  obtain ⟨T51, X51, e51, st51⟩ := getF X0 hx hZ hown (host := "") (Or.inl (own_w hw 31 rfl)) Via.refl e0 L1 (g := (mkF m 1 #[.val (.ref a1)] [(.ref a1)])) rfl rfl (hb hby dj42m54_1)
  refine own_t1 (.ref b1) 4 st51 ?_
  obtain ⟨cl52, Ar52, -, Sz52, Nn52, -, -⟩ := (id V1)
  refine own_t1 (.int (Int32.ofNat (2 * cs.length))) 5 (fun t q => X51.arraylength hx (by rw [e51]; exact Ar52.1) (State.isArrayOf_alike hZ.alike Ar52.2.1) (g := (mkF m 4 #[.val (.ref a1)] [(.ref b1)])) rfl rfl (hb hby dj42m54_4) _ (by rw [len_of Sz52 Nn52]; exact q)) ?_
  refine own_tp (.ref a1) 6 (fun _ q => XS.aloadN X51.here hx rfl (hb hby dj42m54_5) rfl rfl q) ?_
  obtain ⟨cq53, kq53, q53a, q53b, q53c⟩ := isOf hZ e51 E1
  obtain ⟨_, _, ⟨T53, L53, k53, n53⟩, -, X53, ⟨Lc53, hQ53, l53, y53, z53⟩, st53⟩ := X51.virtualBack hx (y := (⟨"java/lang/String", "coder", "()B"⟩ : MethodName)) (z := (⟨"java/lang/String", "coder", "()B"⟩ : MethodName)) hown (mvT hZ (own_w hw 42 rfl)) (mvT hZ (own_w hw 43 rfl)) (notFace_of_selects (args := #[]) (mvT hZ (own_w hw 45 rfl))) (mvT hZ (own_w hw 45 rfl)) (mvT hZ (own_w hw 44 rfl)) (by decide) (backOf (W := 1) (rm24 l Z a0 hw [] a1 b1 k1 cs h0 n0 hl hch G1 US O0 G3 rG3 Sf E1 C1 L1 V1) hZ (own_w hw 46 rfl) (own_w hw 13 rfl) (by decide) (by decide)) q53a q53c (g := (mkF m 6 #[.val (.ref a1)] [(.ref a1), (.int (Int32.ofNat (2 * cs.length)))])) rfl (by rw [hml]; rfl) (Steps.refl _) (argsL := []) (rest := [(.int (Int32.ofNat (2 * cs.length)))]) (lenOf pd6 rfl) rfl (by show 2 * 0 + _ ≤ _; exact Nat.le_of_eq rfl) (hb hby dj42m54_6) (fun _ _ => ⟨rfl, e51, (by decide : 0 + 0 ≤ _), (by decide : 0 + 0 ≤ _)⟩)
  dsimp only [Pt.U, Pt.locs, Pt.cells, Pt.slots] at X53 l53 y53 z53 st53 hQ53
  subst l53 y53 z53
  obtain ⟨rfl, Nq53, eq53⟩ := hQ53
  have N53 := Fr.app N0 Nq53
  refine own_csR [(.int (1 : Int32)), (.int (Int32.ofNat (2 * cs.length)))] 9 st53 ?_
  refine own_t2 (.int ((Int32.ofNat (2 * cs.length)) >>> ((1 : Int32) &&& 31))) 10 (fun _ q => XS.ishr X53.here hx rfl (hb hby dj42m54_9) rfl q) ?_
  exact own_retI X53 hx hrt (hb hby dj42m54_10) hlk (by decide) (by decide) eq53 (⟨by rw [own_shr1 hl], N53, rfl⟩)

set_option maxRecDepth 65536 in
set_option maxHeartbeats 40000000 in
theorem rm27 (l : Launch) (Z : State) (a0 : Array Value) (hw : ∀ d ∈ tables_1, d.before a0 Z = true) (ws : List Jvm.Cond) (a1 b1 : Addr) (k1 : ClassId) (cs : List Int32) (i : Nat) (h0 : Heap) (n0 : Nat) (hi : i < cs.length) (hl : cs.length ≤ 1000) (hch : ∀ c ∈ cs, 0 ≤ c.toInt ∧ c.toInt ≤ 65535) (G1 : Int32) (US : own_US Z G1) (O0 : Old Z n0 h0) (G3 : Value) (rG3 : G3.isRef = true) (Sf : Sta Z Z.heap "jdk/internal/util/Preconditions" "SIOOBE_FORMATTER" "Ljava/util/function/BiFunction;" G3) (E1 : Exa Z h0 a1 "java/lang/String") (C1 : Fld Z h0 a1 "java/lang/String" "coder" "B" (.int (1 : Int32))) (L1 : Fld Z h0 a1 "java/lang/String" "value" "[B" (.ref b1)) (V1 : Arv Z h0 b1 k1 .byte (Int32.ofNat (2 * cs.length)) (own_wide cs) (.int (0 : Int32))) :
    own_Met l (⟨"java/lang/String", "codePointAt", "(I)I"⟩ : MethodName) jdk_42_method_57_code 3 (some .int) ws own_R_3_0_0_44 Z #[(.ref a1), (.int (Int32.ofNat i))] h0 (Q19 (own_cp cs i) h0 n0) := by
  refine own_enter #[.val (.ref a1), .val (.int (Int32.ofNat i)), .unset] (plainFor_of_name pn_java_lang_String) (fun m => ef_RI_3 m a1 (Int32.ofNat i)) ?_
  intro p e s m below meth c s₁ hx hby hml hown hnm hZ hrt hlk X0 e0
  have N0 := Fr.nil n0
  refine own_tp (.ref a1) 1 (fun _ q => XS.aloadN X0.here hx rfl (hb hby dj42m57_0) rfl rfl q) ?_
  obtain ⟨cq51, kq51, q51a, q51b, q51c⟩ := isOf hZ e0 E1
  obtain ⟨_, _, ⟨T51, L51, k51, n51⟩, -, X51, ⟨Lc51, hQ51, l51, y51, z51⟩, st51⟩ := X0.virtualBack hx (y := (⟨"java/lang/String", "isLatin1", "()Z"⟩ : MethodName)) (z := (⟨"java/lang/String", "isLatin1", "()Z"⟩ : MethodName)) hown (mvT hZ (own_w hw 104 rfl)) (mvT hZ (own_w hw 105 rfl)) (notFace_of_selects (args := #[]) (mvT hZ (own_w hw 107 rfl))) (mvT hZ (own_w hw 107 rfl)) (mvT hZ (own_w hw 106 rfl)) (by decide) (backOf (W := 0) (rm25 l Z a0 hw [] a1 b1 k1 cs h0 n0 hl hch G1 US O0 G3 rG3 Sf E1 C1 L1 V1) hZ (own_w hw 108 rfl) (own_w hw 13 rfl) (by decide) (by decide)) q51a q51c (g := (mkF m 1 #[.val (.ref a1), .val (.int (Int32.ofNat i)), .unset] [(.ref a1)])) rfl (by rw [hml]; rfl) (Steps.refl _) (argsL := []) (rest := []) (lenOf pd7 rfl) rfl (by show 2 * 0 + _ ≤ _; exact Nat.le_of_eq rfl) (hb hby dj42m57_1) (fun _ _ => ⟨rfl, e0, (by decide : 0 + 0 ≤ _), (by decide : 0 + 0 ≤ _)⟩)
  dsimp only [Pt.U, Pt.locs, Pt.cells, Pt.slots] at X51 l51 y51 z51 st51 hQ51
  subst l51 y51 z51
  obtain ⟨rfl, Nq51, eq51⟩ := hQ51
  have N51 := Fr.app N0 Nq51
  refine own_csR [(.int (0 : Int32))] 4 st51 ?_
  refine own_d1 27 (fun _ q => XS.ifYes X51.here hx rfl (pc0 := 4) (pc' := 27) rfl (hb hby dj42m57_4) rfl ((if0 _ _).trans (teq (by decide : (0 : Int32) = (0 : Int32))).1) (by decide) (by decide) q) ?_
  refine own_tp (.ref a1) 28 (fun _ q => XS.aloadN X51.here hx rfl (hb hby dj42m57_27) rfl rfl q) ?_
  obtain ⟨T52, X52, e52, st52⟩ := getF X51 hx hZ hown (host := "") (Or.inl (own_w hw 31 rfl)) Via.refl eq51 L1 (g := (mkF m 28 #[.val (.ref a1), .val (.int (Int32.ofNat i)), .unset] [(.ref a1)])) rfl rfl (hb hby dj42m57_28)
  refine own_t1 (.ref b1) 31 st52 ?_
  obtain ⟨cl53, Ar53, -, Sz53, Nn53, -, -⟩ := (id V1)
  refine own_t1 (.int (Int32.ofNat (2 * cs.length))) 32 (fun t q => X52.arraylength hx (by rw [e52]; exact Ar53.1) (State.isArrayOf_alike hZ.alike Ar53.2.1) (g := (mkF m 31 #[.val (.ref a1), .val (.int (Int32.ofNat i)), .unset] [(.ref b1)])) rfl rfl (hb hby dj42m57_31) _ (by rw [len_of Sz53 Nn53]; exact q)) ?_
  refine own_tp (.int (1 : Int32)) 33 (fun _ q => XS.iconst X52.here hx rfl (hb hby dj42m57_32) q) ?_
  refine own_t2 (.int ((Int32.ofNat (2 * cs.length)) >>> ((1 : Int32) &&& 31))) 34 (fun _ q => XS.ishr X52.here hx rfl (hb hby dj42m57_33) rfl q) ?_
  rw [own_shr1 hl]
  refine own_ls #[.val (.ref a1), .val (.int (Int32.ofNat i)), .val (.int (Int32.ofNat cs.length))] 35 (fun _ q => XS.istoreN X52.here hx rfl (hb hby dj42m57_34) rfl (l' := #[.val (.ref a1), .val (.int (Int32.ofNat i)), .val (.int (Int32.ofNat cs.length))]) rfl q) ?_
  refine own_tp (.int (Int32.ofNat i)) 36 (fun _ q => XS.iloadN X52.here hx rfl (hb hby dj42m57_35) rfl q) ?_
  refine own_tp (.int (Int32.ofNat cs.length)) 37 (fun _ q => XS.iloadN X52.here hx rfl (hb hby dj42m57_36) rfl q) ?_
  obtain ⟨_, _, ⟨T54, L54, k54, n54⟩, -, X54, ⟨Lc54, hQ54, l54, y54, z54⟩, st54⟩ := Jvm.LawKit.callS X52 hx (y := (⟨"java/lang/String", "checkIndex", "(II)V"⟩ : MethodName)) hown (mvT hZ (own_w hw 109 rfl)) (mvT hZ (own_w hw 110 rfl)) (mvT hZ (own_w hw 13 rfl)) (mvT hZ (own_w hw 111 rfl)) (by decide) (backOf (W := 0) (rm15 l Z a0 hw [] i cs.length h0 n0 hl hi O0 G3 rG3 Sf) hZ (own_w hw 111 rfl) (own_w hw 13 rfl) (by decide) (by decide)) (g := (mkF m 37 #[.val (.ref a1), .val (.int (Int32.ofNat i)), .val (.int (Int32.ofNat cs.length))] [(.int (Int32.ofNat cs.length)), (.int (Int32.ofNat i))])) rfl (by rw [hml]; rfl) (argsL := [(.int (Int32.ofNat i)), (.int (Int32.ofNat cs.length))]) (rest := []) (lenOf pd8 rfl) rfl (by show 2 * 0 + _ ≤ _; exact Nat.le_of_eq rfl) (hb hby dj42m57_37) (fun _ _ => ⟨rfl, e52, (by decide : 0 + 0 ≤ _), (by decide : 0 + 0 ≤ _)⟩)
  dsimp only [Pt.U, Pt.locs, Pt.cells, Pt.slots] at X54 l54 y54 z54 st54 hQ54
  subst l54 y54 z54
  obtain ⟨rfl, Nq54, eq54⟩ := hQ54
  have N54 := Fr.app N51 Nq54
  refine own_d2 40 st54 ?_
  refine own_tp (.ref a1) 41 (fun _ q => XS.aloadN X54.here hx rfl (hb hby dj42m57_40) rfl rfl q) ?_
  obtain ⟨T55, X55, e55, st55⟩ := getF X54 hx hZ hown (host := "") (Or.inl (own_w hw 31 rfl)) Via.refl eq54 L1 (g := (mkF m 41 #[.val (.ref a1), .val (.int (Int32.ofNat i)), .val (.int (Int32.ofNat cs.length))] [(.ref a1)])) rfl rfl (hb hby dj42m57_41)
  refine own_t1 (.ref b1) 44 st55 ?_
  refine own_tp (.int (Int32.ofNat i)) 45 (fun _ q => XS.iloadN X55.here hx rfl (hb hby dj42m57_44) rfl q) ?_
  refine own_tp (.int (Int32.ofNat cs.length)) 46 (fun _ q => XS.iloadN X55.here hx rfl (hb hby dj42m57_45) rfl q) ?_
  obtain ⟨_, _, ⟨T56, L56, k56, n56⟩, -, X56, ⟨Lc56, hQ56, l56, y56, z56⟩, st56⟩ := Jvm.LawKit.callS X55 hx (y := (⟨"java/lang/StringUTF16", "codePointAt", "([BII)I"⟩ : MethodName)) hown (mvT hZ (own_w hw 117 rfl)) (mvT hZ (own_w hw 118 rfl)) (mvT hZ (own_w hw 68 rfl)) (mvT hZ (own_w hw 119 rfl)) (by decide) (backOf (W := 0) (rm17 l Z a0 hw [] b1 k1 i cs h0 n0 hi hl hch V1 G1 US O0) hZ (own_w hw 119 rfl) (own_w hw 68 rfl) (by decide) (by decide)) (g := (mkF m 46 #[.val (.ref a1), .val (.int (Int32.ofNat i)), .val (.int (Int32.ofNat cs.length))] [(.int (Int32.ofNat cs.length)), (.int (Int32.ofNat i)), (.ref b1)])) rfl (by rw [hml]; rfl) (argsL := [(.ref b1), (.int (Int32.ofNat i)), (.int (Int32.ofNat cs.length))]) (rest := []) (lenOf pd9 rfl) rfl (by show 2 * 0 + _ ≤ _; exact Nat.le_of_eq rfl) (hb hby dj42m57_46) (fun _ _ => ⟨rfl, e55, (by decide : 0 + 0 ≤ _), (by decide : 0 + 0 ≤ _)⟩)
  dsimp only [Pt.U, Pt.locs, Pt.cells, Pt.slots] at X56 l56 y56 z56 st56 hQ56
  subst l56 y56 z56
  obtain ⟨rfl, Nq56, eq56⟩ := hQ56
  have N56 := Fr.app N54 Nq56
  refine own_cs [(.int (own_cp cs i))] 49 st56 ?_
  exact own_retI X56 hx hrt (hb hby dj42m57_49) hlk (by decide) (by decide) eq56 (⟨rfl, N56, rfl⟩)

theorem rm30 (l : Launch) (Z : State) (a0 : Array Value) (hw : ∀ d ∈ tables_1, d.before a0 Z = true) (ws : List Jvm.Cond) (a1 : Addr) (cs : List Int32) (h0 : Heap) (n0 : Nat) (hl : cs.length ≤ 1000) (hch : ∀ c ∈ cs, 0 ≤ c.toInt ∧ c.toInt ≤ 65535) (G1 : Int32) (US : own_US Z G1) (O0 : Old Z n0 h0) (G3 : Value) (rG3 : G3.isRef = true) (Sf : Sta Z Z.heap "jdk/internal/util/Preconditions" "SIOOBE_FORMATTER" "Ljava/util/function/BiFunction;" G3) (SS : own_S Z h0 a1 cs) :
    own_Met l (⟨"java/lang/String", "length", "()I"⟩ : MethodName) jdk_42_method_54_code 1 (some .int) ws own_R_1_0_0_13 Z #[.ref a1] h0 (Q18 (Int32.ofNat cs.length) h0 n0) := by
  obtain ⟨t, kb, cd, N, vs, E1, L1, C1, V1, Co⟩ := SS
  rcases Co with ⟨rfl, rfl, rfl, hcs⟩ | ⟨rfl, rfl, rfl, hx⟩
  · exact rm22 l Z a0 hw ws a1 t kb cs h0 n0 hl hch G1 US O0 G3 rG3 Sf E1 C1 L1 hcs V1
  · exact rm26 l Z a0 hw ws a1 t kb cs h0 n0 hl hch G1 US O0 G3 rG3 Sf E1 C1 L1 V1

theorem rm31 (l : Launch) (Z : State) (a0 : Array Value) (hw : ∀ d ∈ tables_1, d.before a0 Z = true) (ws : List Jvm.Cond) (a1 : Addr) (cs : List Int32) (i : Nat) (h0 : Heap) (n0 : Nat) (hi : i < cs.length) (hl : cs.length ≤ 1000) (hch : ∀ c ∈ cs, 0 ≤ c.toInt ∧ c.toInt ≤ 65535) (G1 : Int32) (US : own_US Z G1) (O0 : Old Z n0 h0) (G3 : Value) (rG3 : G3.isRef = true) (Sf : Sta Z Z.heap "jdk/internal/util/Preconditions" "SIOOBE_FORMATTER" "Ljava/util/function/BiFunction;" G3) (SS : own_S Z h0 a1 cs) :
    own_Met l (⟨"java/lang/String", "codePointAt", "(I)I"⟩ : MethodName) jdk_42_method_57_code 3 (some .int) ws own_R_3_0_0_44 Z #[.ref a1, .int (Int32.ofNat i)] h0 (Q19 (own_cp cs i) h0 n0) := by
  obtain ⟨t, kb, cd, N, vs, E1, L1, C1, V1, Co⟩ := SS
  rcases Co with ⟨rfl, rfl, rfl, hcs⟩ | ⟨rfl, rfl, rfl, hx⟩
  · exact rm23 l Z a0 hw ws a1 t kb cs i h0 n0 hi hl hch G1 US O0 G3 rG3 Sf E1 C1 L1 hcs V1
  · exact rm27 l Z a0 hw ws a1 t kb cs i h0 n0 hi hl hch G1 US O0 G3 rG3 Sf E1 C1 L1 V1

theorem own_cnpos (x : Int32) : 1 ≤ own_cn x := by
  unfold own_cn
  split <;> omega

def Q32 (z : Int32) (h0 : Heap) (n0 : Nat) (v : Option Value) (h : Heap) (L : List Loc) : Prop := v = some (.int z) ∧ Fr n0 L ∧ h = h0

set_option maxRecDepth 65536 in
set_option maxHeartbeats 40000000 in
theorem rm32 (l : Launch) (Z : State) (a0 : Array Value) (hw : ∀ d ∈ tables_1, d.before a0 Z = true) (ws : List Jvm.Cond) (a1 a2 : Addr) (cs ds : List Int32) (h0 : Heap) (n0 : Nat) (hl : cs.length ≤ 1000) (hch : ∀ c ∈ cs, 0 ≤ c.toInt ∧ c.toInt ≤ 65535) (hl2 : ds.length ≤ 1000) (hch2 : ∀ c ∈ ds, 0 ≤ c.toInt ∧ c.toInt ≤ 65535) (G1 : Int32) (US : own_US Z G1) (O0 : Old Z n0 h0) (G3 : Value) (rG3 : G3.isRef = true) (Sf : Sta Z Z.heap "jdk/internal/util/Preconditions" "SIOOBE_FORMATTER" "Ljava/util/function/BiFunction;" G3) (SS1 : own_S Z h0 a1 cs) (SS2 : own_S Z h0 a2 ds) :
    own_Met l (⟨"com/example/cited_experts/citedexperts/Utf8Order", "compare", "(Ljava/lang/String;Ljava/lang/String;)I"⟩ : MethodName) prog_25_method_2_code 5 (some .int) ws own_R_4_0_0_58 Z #[(.ref a1), (.ref a2)] h0 (Q32 (own_lx (own_P cs) (own_P ds)) h0 n0) := by
  refine own_enter #[.val (.ref a1), .val (.ref a2), .unset, .unset, .unset] (plainFor_of_name pn_com_example_cited_experts_citedexperts_Utf8Order) (fun m => ef_RR_5 m a1 a2) ?_
  intro p e s m below meth c s₁ hx hby hml hown hnm hZ hrt hlk X0 e0
  have N0 := Fr.nil n0
  have E1 := own_S.exa SS1
  have E2 := own_S.exa SS2
  refine own_tp (.int (0 : Int32)) 1 (fun _ q => XS.iconst X0.here hx rfl (hb hby dp25m2_0) q) ?_
  refine own_ls #[.val (.ref a1), .val (.ref a2), .val (.int (0 : Int32)), .unset, .unset] 2 (fun _ q => XS.istoreN X0.here hx rfl (hb hby dp25m2_1) rfl (l' := #[.val (.ref a1), .val (.ref a2), .val (.int (0 : Int32)), .unset, .unset]) rfl q) ?_
  have loop : ∀ (f i : Nat) (s3 s4 : Slot) (Tj : State) (lj : List Loc), cs.length ≤ i + f → i ≤ cs.length → i ≤ ds.length → One s3 → One s4 → own_lx (own_P (cs.drop i)) (own_P (ds.drop i)) = own_lx (own_P cs) (own_P ds) → Stand p l e own_R_4_0_0_58 s m #[(.ref a1), (.ref a2)] below meth c Tj lj 0 0 → Fr n0 lj → Tj.heap = h0 → own_Goes p e below (own_FN s (Q32 (own_lx (own_P cs) (own_P ds)) h0 n0) own_R_4_0_0_58.cells own_R_4_0_0_58.slots) (Tj.setTop (mkF m 2 #[.val (.ref a1), .val (.ref a2), .val (.int (Int32.ofNat i)), s3, s4] [])) := by
    intro f
    induction f with
    | zero =>
      intro i s3 s4 Tj lj hf hi1 hi2 hs3 hs4 hlx Xj Nj ej
      have h1 : ¬ i < cs.length := by omega
      have hk1 : ¬ ((Int32.ofNat i) < (Int32.ofNat cs.length)) := fun q => h1 ((own_ltn hl (by omega)).mp q)
      refine own_tp (.int (Int32.ofNat i)) 3 (fun _ q => XS.iloadN Xj.here hx rfl (hb hby dp25m2_2) rfl q) ?_
      refine own_tp (.ref a1) 4 (fun _ q => XS.aloadN Xj.here hx rfl (hb hby dp25m2_3) rfl rfl q) ?_
      obtain ⟨cq51, kq51, q51a, q51b, q51c⟩ := isOf hZ ej E1
      obtain ⟨_, _, ⟨T51, L51, k51, n51⟩, -, X51, ⟨Lc51, hQ51, l51, y51, z51⟩, st51⟩ := Xj.virtualBack hx (y := (⟨"java/lang/String", "length", "()I"⟩ : MethodName)) (z := (⟨"java/lang/String", "length", "()I"⟩ : MethodName)) hown (mvT hZ (own_w hw 37 rfl)) (mvT hZ (own_w hw 38 rfl)) (notFace_of_selects (args := #[]) (mvT hZ (own_w hw 40 rfl))) (mvT hZ (own_w hw 40 rfl)) (mvT hZ (own_w hw 39 rfl)) (by decide) (backOf (W := 1) (rm30 l Z a0 hw [] a1 cs h0 n0 hl hch G1 US O0 G3 rG3 Sf SS1) hZ (own_w hw 41 rfl) (own_w hw 13 rfl) (by decide) (by decide)) q51a q51c (g := (mkF m 4 #[.val (.ref a1), .val (.ref a2), .val (.int (Int32.ofNat i)), s3, s4] [(.ref a1), (.int (Int32.ofNat i))])) rfl (by rw [hml]; rfl) (Steps.refl _) (argsL := []) (rest := [(.int (Int32.ofNat i))]) (lenOf pd10 rfl) rfl (by show 2 * 0 + _ ≤ _; exact Nat.le_of_eq rfl) (hb hby dp25m2_4) (fun _ _ => ⟨rfl, ej, (by decide : 0 + 0 ≤ _), (by decide : 0 + 0 ≤ _)⟩)
      dsimp only [Pt.U, Pt.locs, Pt.cells, Pt.slots] at X51 l51 y51 z51 st51 hQ51
      subst l51 y51 z51
      obtain ⟨rfl, Nq51, eq51⟩ := hQ51
      have N51 := Fr.app Nj Nq51
      refine own_csR [(.int (Int32.ofNat cs.length)), (.int (Int32.ofNat i))] 7 st51 ?_
      refine own_d2 54 (fun _ q => XS.icmpYes X51.here hx rfl (pc0 := 7) (pc' := 54) rfl (hb hby dp25m2_7) rfl (flt hk1).2.1 (by decide) (by decide) q) ?_
      refine own_tp (.ref a1) 55 (fun _ q => XS.aloadN X51.here hx rfl (hb hby dp25m2_54) rfl rfl q) ?_
      obtain ⟨cq52, kq52, q52a, q52b, q52c⟩ := isOf hZ eq51 E1
      obtain ⟨_, _, ⟨T52, L52, k52, n52⟩, -, X52, ⟨Lc52, hQ52, l52, y52, z52⟩, st52⟩ := X51.virtualBack hx (y := (⟨"java/lang/String", "length", "()I"⟩ : MethodName)) (z := (⟨"java/lang/String", "length", "()I"⟩ : MethodName)) hown (mvT hZ (own_w hw 37 rfl)) (mvT hZ (own_w hw 38 rfl)) (notFace_of_selects (args := #[]) (mvT hZ (own_w hw 40 rfl))) (mvT hZ (own_w hw 40 rfl)) (mvT hZ (own_w hw 39 rfl)) (by decide) (backOf (W := 0) (rm30 l Z a0 hw [] a1 cs h0 n0 hl hch G1 US O0 G3 rG3 Sf SS1) hZ (own_w hw 41 rfl) (own_w hw 13 rfl) (by decide) (by decide)) q52a q52c (g := (mkF m 55 #[.val (.ref a1), .val (.ref a2), .val (.int (Int32.ofNat i)), s3, s4] [(.ref a1)])) rfl (by rw [hml]; rfl) (Steps.refl _) (argsL := []) (rest := []) (lenOf pd10 rfl) rfl (by show 2 * 0 + _ ≤ _; exact Nat.le_of_eq rfl) (hb hby dp25m2_55) (fun _ _ => ⟨rfl, eq51, (by decide : 0 + 0 ≤ _), (by decide : 0 + 0 ≤ _)⟩)
      dsimp only [Pt.U, Pt.locs, Pt.cells, Pt.slots] at X52 l52 y52 z52 st52 hQ52
      subst l52 y52 z52
      obtain ⟨rfl, Nq52, eq52⟩ := hQ52
      have N52 := Fr.app N51 Nq52
      refine own_csR [(.int (Int32.ofNat cs.length))] 58 st52 ?_
      refine own_tp (.int (Int32.ofNat i)) 59 (fun _ q => XS.iloadN X52.here hx rfl (hb hby dp25m2_58) rfl q) ?_
      refine own_t2 (.int ((Int32.ofNat cs.length) - (Int32.ofNat i))) 60 (fun _ q => XS.isub X52.here hx rfl (hb hby dp25m2_59) rfl q) ?_
      refine own_tp (.ref a2) 61 (fun _ q => XS.aloadN X52.here hx rfl (hb hby dp25m2_60) rfl rfl q) ?_
      obtain ⟨cq53, kq53, q53a, q53b, q53c⟩ := isOf hZ eq52 E2
      obtain ⟨_, _, ⟨T53, L53, k53, n53⟩, -, X53, ⟨Lc53, hQ53, l53, y53, z53⟩, st53⟩ := X52.virtualBack hx (y := (⟨"java/lang/String", "length", "()I"⟩ : MethodName)) (z := (⟨"java/lang/String", "length", "()I"⟩ : MethodName)) hown (mvT hZ (own_w hw 37 rfl)) (mvT hZ (own_w hw 38 rfl)) (notFace_of_selects (args := #[]) (mvT hZ (own_w hw 40 rfl))) (mvT hZ (own_w hw 40 rfl)) (mvT hZ (own_w hw 39 rfl)) (by decide) (backOf (W := 1) (rm30 l Z a0 hw [] a2 ds h0 n0 hl2 hch2 G1 US O0 G3 rG3 Sf SS2) hZ (own_w hw 41 rfl) (own_w hw 13 rfl) (by decide) (by decide)) q53a q53c (g := (mkF m 61 #[.val (.ref a1), .val (.ref a2), .val (.int (Int32.ofNat i)), s3, s4] [(.ref a2), (.int ((Int32.ofNat cs.length) - (Int32.ofNat i)))])) rfl (by rw [hml]; rfl) (Steps.refl _) (argsL := []) (rest := [(.int ((Int32.ofNat cs.length) - (Int32.ofNat i)))]) (lenOf pd10 rfl) rfl (by show 2 * 0 + _ ≤ _; exact Nat.le_of_eq rfl) (hb hby dp25m2_61) (fun _ _ => ⟨rfl, eq52, (by decide : 0 + 0 ≤ _), (by decide : 0 + 0 ≤ _)⟩)
      dsimp only [Pt.U, Pt.locs, Pt.cells, Pt.slots] at X53 l53 y53 z53 st53 hQ53
      subst l53 y53 z53
      obtain ⟨rfl, Nq53, eq53⟩ := hQ53
      have N53 := Fr.app N52 Nq53
      refine own_csR [(.int (Int32.ofNat ds.length)), (.int ((Int32.ofNat cs.length) - (Int32.ofNat i)))] 64 st53 ?_
      refine own_tp (.int (Int32.ofNat i)) 65 (fun _ q => XS.iloadN X53.here hx rfl (hb hby dp25m2_64) rfl q) ?_
      refine own_t2 (.int ((Int32.ofNat ds.length) - (Int32.ofNat i))) 66 (fun _ q => XS.isub X53.here hx rfl (hb hby dp25m2_65) rfl q) ?_
      obtain ⟨_, _, ⟨T54, L54, k54, n54⟩, -, X54, ⟨Lc54, hQ54, l54, y54, z54⟩, st54⟩ := Jvm.LawKit.callS X53 hx (y := (⟨"java/lang/Integer", "compare", "(II)I"⟩ : MethodName)) hown (mvT hZ (own_w hw 48 rfl)) (mvT hZ (own_w hw 49 rfl)) (mvT hZ (own_w hw 50 rfl)) (mvT hZ (own_w hw 51 rfl)) (by decide) (backOf (W := 0) (rm10 l Z a0 hw [] ((Int32.ofNat cs.length) - (Int32.ofNat i)) ((Int32.ofNat ds.length) - (Int32.ofNat i)) h0 n0 ) hZ (own_w hw 51 rfl) (own_w hw 50 rfl) (by decide) (by decide)) (g := (mkF m 66 #[.val (.ref a1), .val (.ref a2), .val (.int (Int32.ofNat i)), s3, s4] [(.int ((Int32.ofNat ds.length) - (Int32.ofNat i))), (.int ((Int32.ofNat cs.length) - (Int32.ofNat i)))])) rfl (by rw [hml]; rfl) (argsL := [(.int ((Int32.ofNat cs.length) - (Int32.ofNat i))), (.int ((Int32.ofNat ds.length) - (Int32.ofNat i)))]) (rest := []) (lenOf pd0 rfl) rfl (by show 2 * 0 + _ ≤ _; exact Nat.le_of_eq rfl) (hb hby dp25m2_66) (fun _ _ => ⟨rfl, eq53, (by decide : 0 + 0 ≤ _), (by decide : 0 + 0 ≤ _)⟩)
      dsimp only [Pt.U, Pt.locs, Pt.cells, Pt.slots] at X54 l54 y54 z54 st54 hQ54
      subst l54 y54 z54
      obtain ⟨rfl, Nq54, eq54⟩ := hQ54
      have N54 := Fr.app N53 Nq54
      refine own_t2 (.int (own_ic ((Int32.ofNat cs.length) - (Int32.ofNat i)) ((Int32.ofNat ds.length) - (Int32.ofNat i)))) 69 st54 ?_
      exact own_retI X54 hx hrt (hb hby dp25m2_69) hlk (by decide) (by decide) eq54 (⟨by rw [own_exit hl hl2 hi1 hi2 (by omega) hch hch2, hlx], N54, rfl⟩)
    | succ f ih =>
      intro i s3 s4 Tj lj hf hi1 hi2 hs3 hs4 hlx Xj Nj ej
      by_cases h1 : i < cs.length
      ·
        have hk1 : (Int32.ofNat i) < (Int32.ofNat cs.length) := (own_ltn hl (by omega)).mpr h1
        by_cases h2 : i < ds.length
        ·
          have hk2 : (Int32.ofNat i) < (Int32.ofNat ds.length) := (own_ltn hl2 (by omega)).mpr h2
          refine own_tp (.int (Int32.ofNat i)) 3 (fun _ q => XS.iloadN Xj.here hx rfl (hb hby dp25m2_2) rfl q) ?_
          refine own_tp (.ref a1) 4 (fun _ q => XS.aloadN Xj.here hx rfl (hb hby dp25m2_3) rfl rfl q) ?_
          obtain ⟨cq55, kq55, q55a, q55b, q55c⟩ := isOf hZ ej E1
          obtain ⟨_, _, ⟨T55, L55, k55, n55⟩, -, X55, ⟨Lc55, hQ55, l55, y55, z55⟩, st55⟩ := Xj.virtualBack hx (y := (⟨"java/lang/String", "length", "()I"⟩ : MethodName)) (z := (⟨"java/lang/String", "length", "()I"⟩ : MethodName)) hown (mvT hZ (own_w hw 37 rfl)) (mvT hZ (own_w hw 38 rfl)) (notFace_of_selects (args := #[]) (mvT hZ (own_w hw 40 rfl))) (mvT hZ (own_w hw 40 rfl)) (mvT hZ (own_w hw 39 rfl)) (by decide) (backOf (W := 1) (rm30 l Z a0 hw [] a1 cs h0 n0 hl hch G1 US O0 G3 rG3 Sf SS1) hZ (own_w hw 41 rfl) (own_w hw 13 rfl) (by decide) (by decide)) q55a q55c (g := (mkF m 4 #[.val (.ref a1), .val (.ref a2), .val (.int (Int32.ofNat i)), s3, s4] [(.ref a1), (.int (Int32.ofNat i))])) rfl (by rw [hml]; rfl) (Steps.refl _) (argsL := []) (rest := [(.int (Int32.ofNat i))]) (lenOf pd10 rfl) rfl (by show 2 * 0 + _ ≤ _; exact Nat.le_of_eq rfl) (hb hby dp25m2_4) (fun _ _ => ⟨rfl, ej, (by decide : 0 + 0 ≤ _), (by decide : 0 + 0 ≤ _)⟩)
          dsimp only [Pt.U, Pt.locs, Pt.cells, Pt.slots] at X55 l55 y55 z55 st55 hQ55
          subst l55 y55 z55
          obtain ⟨rfl, Nq55, eq55⟩ := hQ55
          have N55 := Fr.app Nj Nq55
          refine own_csR [(.int (Int32.ofNat cs.length)), (.int (Int32.ofNat i))] 7 st55 ?_
          refine own_d2 10 (fun _ q => XS.icmpNo X55.here hx rfl (hb hby dp25m2_7) rfl (tlt hk1).2.1 q) ?_
          refine own_tp (.int (Int32.ofNat i)) 11 (fun _ q => XS.iloadN X55.here hx rfl (hb hby dp25m2_10) rfl q) ?_
          refine own_tp (.ref a2) 12 (fun _ q => XS.aloadN X55.here hx rfl (hb hby dp25m2_11) rfl rfl q) ?_
          obtain ⟨cq56, kq56, q56a, q56b, q56c⟩ := isOf hZ eq55 E2
          obtain ⟨_, _, ⟨T56, L56, k56, n56⟩, -, X56, ⟨Lc56, hQ56, l56, y56, z56⟩, st56⟩ := X55.virtualBack hx (y := (⟨"java/lang/String", "length", "()I"⟩ : MethodName)) (z := (⟨"java/lang/String", "length", "()I"⟩ : MethodName)) hown (mvT hZ (own_w hw 37 rfl)) (mvT hZ (own_w hw 38 rfl)) (notFace_of_selects (args := #[]) (mvT hZ (own_w hw 40 rfl))) (mvT hZ (own_w hw 40 rfl)) (mvT hZ (own_w hw 39 rfl)) (by decide) (backOf (W := 1) (rm30 l Z a0 hw [] a2 ds h0 n0 hl2 hch2 G1 US O0 G3 rG3 Sf SS2) hZ (own_w hw 41 rfl) (own_w hw 13 rfl) (by decide) (by decide)) q56a q56c (g := (mkF m 12 #[.val (.ref a1), .val (.ref a2), .val (.int (Int32.ofNat i)), s3, s4] [(.ref a2), (.int (Int32.ofNat i))])) rfl (by rw [hml]; rfl) (Steps.refl _) (argsL := []) (rest := [(.int (Int32.ofNat i))]) (lenOf pd10 rfl) rfl (by show 2 * 0 + _ ≤ _; exact Nat.le_of_eq rfl) (hb hby dp25m2_12) (fun _ _ => ⟨rfl, eq55, (by decide : 0 + 0 ≤ _), (by decide : 0 + 0 ≤ _)⟩)
          dsimp only [Pt.U, Pt.locs, Pt.cells, Pt.slots] at X56 l56 y56 z56 st56 hQ56
          subst l56 y56 z56
          obtain ⟨rfl, Nq56, eq56⟩ := hQ56
          have N56 := Fr.app N55 Nq56
          refine own_csR [(.int (Int32.ofNat ds.length)), (.int (Int32.ofNat i))] 15 st56 ?_
          refine own_d2 18 (fun _ q => XS.icmpNo X56.here hx rfl (hb hby dp25m2_15) rfl (tlt hk2).2.1 q) ?_
          refine own_tp (.ref a1) 19 (fun _ q => XS.aloadN X56.here hx rfl (hb hby dp25m2_18) rfl rfl q) ?_
          refine own_tp (.int (Int32.ofNat i)) 20 (fun _ q => XS.iloadN X56.here hx rfl (hb hby dp25m2_19) rfl q) ?_
          obtain ⟨cq57, kq57, q57a, q57b, q57c⟩ := isOf hZ eq56 E1
          obtain ⟨_, _, ⟨T57, L57, k57, n57⟩, -, X57, ⟨Lc57, hQ57, l57, y57, z57⟩, st57⟩ := X56.virtualBack hx (y := (⟨"java/lang/String", "codePointAt", "(I)I"⟩ : MethodName)) (z := (⟨"java/lang/String", "codePointAt", "(I)I"⟩ : MethodName)) hown (mvT hZ (own_w hw 99 rfl)) (mvT hZ (own_w hw 100 rfl)) (notFace_of_selects (args := #[]) (mvT hZ (own_w hw 102 rfl))) (mvT hZ (own_w hw 102 rfl)) (mvT hZ (own_w hw 101 rfl)) (by decide) (backOf (W := 0) (rm31 l Z a0 hw [] a1 cs i h0 n0 h1 hl hch G1 US O0 G3 rG3 Sf SS1) hZ (own_w hw 103 rfl) (own_w hw 13 rfl) (by decide) (by decide)) q57a q57c (g := (mkF m 20 #[.val (.ref a1), .val (.ref a2), .val (.int (Int32.ofNat i)), s3, s4] [(.int (Int32.ofNat i)), (.ref a1)])) rfl (by rw [hml]; rfl) (Steps.refl _) (argsL := [(.int (Int32.ofNat i))]) (rest := []) (lenOf pd11 rfl) rfl (by show 2 * 0 + _ ≤ _; exact Nat.le_of_eq rfl) (hb hby dp25m2_20) (fun _ _ => ⟨rfl, eq56, (by decide : 0 + 0 ≤ _), (by decide : 0 + 0 ≤ _)⟩)
          dsimp only [Pt.U, Pt.locs, Pt.cells, Pt.slots] at X57 l57 y57 z57 st57 hQ57
          subst l57 y57 z57
          obtain ⟨rfl, Nq57, eq57⟩ := hQ57
          have N57 := Fr.app N56 Nq57
          refine own_csR [(.int (own_cp cs i))] 23 st57 ?_
          refine own_ls #[.val (.ref a1), .val (.ref a2), .val (.int (Int32.ofNat i)), .val (.int (own_cp cs i)), s4] 24 (fun _ q => XS.istoreNS X57.here hx rfl (hb hby dp25m2_23) rfl rfl hs3 q) ?_
          refine own_tp (.ref a2) 25 (fun _ q => XS.aloadN X57.here hx rfl (hb hby dp25m2_24) rfl rfl q) ?_
          refine own_tp (.int (Int32.ofNat i)) 26 (fun _ q => XS.iloadN X57.here hx rfl (hb hby dp25m2_25) rfl q) ?_
          obtain ⟨cq58, kq58, q58a, q58b, q58c⟩ := isOf hZ eq57 E2
          obtain ⟨_, _, ⟨T58, L58, k58, n58⟩, -, X58, ⟨Lc58, hQ58, l58, y58, z58⟩, st58⟩ := X57.virtualBack hx (y := (⟨"java/lang/String", "codePointAt", "(I)I"⟩ : MethodName)) (z := (⟨"java/lang/String", "codePointAt", "(I)I"⟩ : MethodName)) hown (mvT hZ (own_w hw 99 rfl)) (mvT hZ (own_w hw 100 rfl)) (notFace_of_selects (args := #[]) (mvT hZ (own_w hw 102 rfl))) (mvT hZ (own_w hw 102 rfl)) (mvT hZ (own_w hw 101 rfl)) (by decide) (backOf (W := 0) (rm31 l Z a0 hw [] a2 ds i h0 n0 h2 hl2 hch2 G1 US O0 G3 rG3 Sf SS2) hZ (own_w hw 103 rfl) (own_w hw 13 rfl) (by decide) (by decide)) q58a q58c (g := (mkF m 26 #[.val (.ref a1), .val (.ref a2), .val (.int (Int32.ofNat i)), .val (.int (own_cp cs i)), s4] [(.int (Int32.ofNat i)), (.ref a2)])) rfl (by rw [hml]; rfl) (Steps.refl _) (argsL := [(.int (Int32.ofNat i))]) (rest := []) (lenOf pd11 rfl) rfl (by show 2 * 0 + _ ≤ _; exact Nat.le_of_eq rfl) (hb hby dp25m2_26) (fun _ _ => ⟨rfl, eq57, (by decide : 0 + 0 ≤ _), (by decide : 0 + 0 ≤ _)⟩)
          dsimp only [Pt.U, Pt.locs, Pt.cells, Pt.slots] at X58 l58 y58 z58 st58 hQ58
          subst l58 y58 z58
          obtain ⟨rfl, Nq58, eq58⟩ := hQ58
          have N58 := Fr.app N57 Nq58
          refine own_csR [(.int (own_cp ds i))] 29 st58 ?_
          refine own_ls #[.val (.ref a1), .val (.ref a2), .val (.int (Int32.ofNat i)), .val (.int (own_cp cs i)), .val (.int (own_cp ds i))] 31 (fun _ q => XS.istoreS X58.here hx rfl (hb hby dp25m2_29) rfl rfl hs4 q) ?_
          refine own_tp (.int (own_cp cs i)) 32 (fun _ q => XS.iloadN X58.here hx rfl (hb hby dp25m2_31) rfl q) ?_
          refine own_tp (.int (own_cp ds i)) 34 (fun _ q => XS.iload X58.here hx rfl (hb hby dp25m2_32) rfl q) ?_
          by_cases c59 : (own_cp cs i) = (own_cp ds i)
          ·
            refine own_d2 44 (fun _ q => XS.icmpYes X58.here hx rfl (pc0 := 34) (pc' := 44) rfl (hb hby dp25m2_34) rfl (teq c59).1 (by decide) (by decide) q) ?_
            refine own_tp (.int (Int32.ofNat i)) 45 (fun _ q => XS.iloadN X58.here hx rfl (hb hby dp25m2_44) rfl q) ?_
            refine own_tp (.int (own_cp cs i)) 46 (fun _ q => XS.iloadN X58.here hx rfl (hb hby dp25m2_45) rfl q) ?_
            obtain ⟨_, _, ⟨T60, L60, k60, n60⟩, -, X60, ⟨Lc60, hQ60, l60, y60, z60⟩, st60⟩ := Jvm.LawKit.callS X58 hx (y := (⟨"java/lang/Character", "charCount", "(I)I"⟩ : MethodName)) hown (mvT hZ (own_w hw 129 rfl)) (mvT hZ (own_w hw 130 rfl)) (mvT hZ (own_w hw 125 rfl)) (mvT hZ (own_w hw 131 rfl)) (by decide) (backOf (W := 1) (rm8 l Z a0 hw [] (own_cp cs i) h0 n0 ) hZ (own_w hw 131 rfl) (own_w hw 125 rfl) (by decide) (by decide)) (g := (mkF m 46 #[.val (.ref a1), .val (.ref a2), .val (.int (Int32.ofNat i)), .val (.int (own_cp cs i)), .val (.int (own_cp ds i))] [(.int (own_cp cs i)), (.int (Int32.ofNat i))])) rfl (by rw [hml]; rfl) (argsL := [(.int (own_cp cs i))]) (rest := [(.int (Int32.ofNat i))]) (lenOf pd11 rfl) rfl (by show 2 * 0 + _ ≤ _; exact Nat.le_of_eq rfl) (hb hby dp25m2_46) (fun _ _ => ⟨rfl, eq58, (by decide : 0 + 0 ≤ _), (by decide : 0 + 0 ≤ _)⟩)
            dsimp only [Pt.U, Pt.locs, Pt.cells, Pt.slots] at X60 l60 y60 z60 st60 hQ60
            subst l60 y60 z60
            obtain ⟨rfl, Nq60, eq60⟩ := hQ60
            have N60 := Fr.app N58 Nq60
            refine own_t1 (.int (own_cc (own_cp cs i))) 49 st60 ?_
            refine own_t2 (.int ((Int32.ofNat i) + (own_cc (own_cp cs i)))) 50 (fun _ q => XS.iadd X60.here hx rfl (hb hby dp25m2_49) rfl q) ?_
            refine own_ls #[.val (.ref a1), .val (.ref a2), .val (.int ((Int32.ofNat i) + (own_cc (own_cp cs i)))), .val (.int (own_cp cs i)), .val (.int (own_cp ds i))] 51 (fun _ q => XS.istoreN X60.here hx rfl (hb hby dp25m2_50) rfl (l' := #[.val (.ref a1), .val (.ref a2), .val (.int ((Int32.ofNat i) + (own_cc (own_cp cs i)))), .val (.int (own_cp cs i)), .val (.int (own_cp ds i))]) rfl q) ?_
            refine own_d0 2 (fun _ q => XS.goto X60.here hx rfl (pc0 := 51) (pc' := 2) rfl (hb hby dp25m2_51) (by decide) (by decide) q) ?_
            have q := (own_step h1 h2 hch hch2).1 c59
            have qp := own_cnpos (own_cp cs i)
            rw [own_addn (i := i) (own_cp cs i) (by omega)]
            exact ih (i + own_cn (own_cp cs i)) _ _ T60 _ (by omega) q.2.1 q.2.2 (One.val rfl) (One.val rfl) (q.1.symm.trans hlx) X60 N60 eq60
          ·
            refine own_d2 37 (fun _ q => XS.icmpNo X58.here hx rfl (hb hby dp25m2_34) rfl (feq c59).1 q) ?_
            refine own_tp (.int (own_cp cs i)) 38 (fun _ q => XS.iloadN X58.here hx rfl (hb hby dp25m2_37) rfl q) ?_
            refine own_tp (.int (own_cp ds i)) 40 (fun _ q => XS.iload X58.here hx rfl (hb hby dp25m2_38) rfl q) ?_
            obtain ⟨_, _, ⟨T61, L61, k61, n61⟩, -, X61, ⟨Lc61, hQ61, l61, y61, z61⟩, st61⟩ := Jvm.LawKit.callS X58 hx (y := (⟨"java/lang/Integer", "compare", "(II)I"⟩ : MethodName)) hown (mvT hZ (own_w hw 48 rfl)) (mvT hZ (own_w hw 49 rfl)) (mvT hZ (own_w hw 50 rfl)) (mvT hZ (own_w hw 51 rfl)) (by decide) (backOf (W := 0) (rm10 l Z a0 hw [] (own_cp cs i) (own_cp ds i) h0 n0 ) hZ (own_w hw 51 rfl) (own_w hw 50 rfl) (by decide) (by decide)) (g := (mkF m 40 #[.val (.ref a1), .val (.ref a2), .val (.int (Int32.ofNat i)), .val (.int (own_cp cs i)), .val (.int (own_cp ds i))] [(.int (own_cp ds i)), (.int (own_cp cs i))])) rfl (by rw [hml]; rfl) (argsL := [(.int (own_cp cs i)), (.int (own_cp ds i))]) (rest := []) (lenOf pd0 rfl) rfl (by show 2 * 0 + _ ≤ _; exact Nat.le_of_eq rfl) (hb hby dp25m2_40) (fun _ _ => ⟨rfl, eq58, (by decide : 0 + 0 ≤ _), (by decide : 0 + 0 ≤ _)⟩)
            dsimp only [Pt.U, Pt.locs, Pt.cells, Pt.slots] at X61 l61 y61 z61 st61 hQ61
            subst l61 y61 z61
            obtain ⟨rfl, Nq61, eq61⟩ := hQ61
            have N61 := Fr.app N58 Nq61
            refine own_t2 (.int (own_ic (own_cp cs i) (own_cp ds i))) 43 st61 ?_
            exact own_retI X61 hx hrt (hb hby dp25m2_43) hlk (by decide) (by decide) eq61 (⟨by rw [← (own_step h1 h2 hch hch2).2 c59, hlx], N61, rfl⟩)
        ·
          have hk2 : ¬ ((Int32.ofNat i) < (Int32.ofNat ds.length)) := fun q => h2 ((own_ltn hl2 (by omega)).mp q)
          refine own_tp (.int (Int32.ofNat i)) 3 (fun _ q => XS.iloadN Xj.here hx rfl (hb hby dp25m2_2) rfl q) ?_
          refine own_tp (.ref a1) 4 (fun _ q => XS.aloadN Xj.here hx rfl (hb hby dp25m2_3) rfl rfl q) ?_
          obtain ⟨cq62, kq62, q62a, q62b, q62c⟩ := isOf hZ ej E1
          obtain ⟨_, _, ⟨T62, L62, k62, n62⟩, -, X62, ⟨Lc62, hQ62, l62, y62, z62⟩, st62⟩ := Xj.virtualBack hx (y := (⟨"java/lang/String", "length", "()I"⟩ : MethodName)) (z := (⟨"java/lang/String", "length", "()I"⟩ : MethodName)) hown (mvT hZ (own_w hw 37 rfl)) (mvT hZ (own_w hw 38 rfl)) (notFace_of_selects (args := #[]) (mvT hZ (own_w hw 40 rfl))) (mvT hZ (own_w hw 40 rfl)) (mvT hZ (own_w hw 39 rfl)) (by decide) (backOf (W := 1) (rm30 l Z a0 hw [] a1 cs h0 n0 hl hch G1 US O0 G3 rG3 Sf SS1) hZ (own_w hw 41 rfl) (own_w hw 13 rfl) (by decide) (by decide)) q62a q62c (g := (mkF m 4 #[.val (.ref a1), .val (.ref a2), .val (.int (Int32.ofNat i)), s3, s4] [(.ref a1), (.int (Int32.ofNat i))])) rfl (by rw [hml]; rfl) (Steps.refl _) (argsL := []) (rest := [(.int (Int32.ofNat i))]) (lenOf pd10 rfl) rfl (by show 2 * 0 + _ ≤ _; exact Nat.le_of_eq rfl) (hb hby dp25m2_4) (fun _ _ => ⟨rfl, ej, (by decide : 0 + 0 ≤ _), (by decide : 0 + 0 ≤ _)⟩)
          dsimp only [Pt.U, Pt.locs, Pt.cells, Pt.slots] at X62 l62 y62 z62 st62 hQ62
          subst l62 y62 z62
          obtain ⟨rfl, Nq62, eq62⟩ := hQ62
          have N62 := Fr.app Nj Nq62
          refine own_csR [(.int (Int32.ofNat cs.length)), (.int (Int32.ofNat i))] 7 st62 ?_
          refine own_d2 10 (fun _ q => XS.icmpNo X62.here hx rfl (hb hby dp25m2_7) rfl (tlt hk1).2.1 q) ?_
          refine own_tp (.int (Int32.ofNat i)) 11 (fun _ q => XS.iloadN X62.here hx rfl (hb hby dp25m2_10) rfl q) ?_
          refine own_tp (.ref a2) 12 (fun _ q => XS.aloadN X62.here hx rfl (hb hby dp25m2_11) rfl rfl q) ?_
          obtain ⟨cq63, kq63, q63a, q63b, q63c⟩ := isOf hZ eq62 E2
          obtain ⟨_, _, ⟨T63, L63, k63, n63⟩, -, X63, ⟨Lc63, hQ63, l63, y63, z63⟩, st63⟩ := X62.virtualBack hx (y := (⟨"java/lang/String", "length", "()I"⟩ : MethodName)) (z := (⟨"java/lang/String", "length", "()I"⟩ : MethodName)) hown (mvT hZ (own_w hw 37 rfl)) (mvT hZ (own_w hw 38 rfl)) (notFace_of_selects (args := #[]) (mvT hZ (own_w hw 40 rfl))) (mvT hZ (own_w hw 40 rfl)) (mvT hZ (own_w hw 39 rfl)) (by decide) (backOf (W := 1) (rm30 l Z a0 hw [] a2 ds h0 n0 hl2 hch2 G1 US O0 G3 rG3 Sf SS2) hZ (own_w hw 41 rfl) (own_w hw 13 rfl) (by decide) (by decide)) q63a q63c (g := (mkF m 12 #[.val (.ref a1), .val (.ref a2), .val (.int (Int32.ofNat i)), s3, s4] [(.ref a2), (.int (Int32.ofNat i))])) rfl (by rw [hml]; rfl) (Steps.refl _) (argsL := []) (rest := [(.int (Int32.ofNat i))]) (lenOf pd10 rfl) rfl (by show 2 * 0 + _ ≤ _; exact Nat.le_of_eq rfl) (hb hby dp25m2_12) (fun _ _ => ⟨rfl, eq62, (by decide : 0 + 0 ≤ _), (by decide : 0 + 0 ≤ _)⟩)
          dsimp only [Pt.U, Pt.locs, Pt.cells, Pt.slots] at X63 l63 y63 z63 st63 hQ63
          subst l63 y63 z63
          obtain ⟨rfl, Nq63, eq63⟩ := hQ63
          have N63 := Fr.app N62 Nq63
          refine own_csR [(.int (Int32.ofNat ds.length)), (.int (Int32.ofNat i))] 15 st63 ?_
          refine own_d2 54 (fun _ q => XS.icmpYes X63.here hx rfl (pc0 := 15) (pc' := 54) rfl (hb hby dp25m2_15) rfl (flt hk2).2.1 (by decide) (by decide) q) ?_
          refine own_tp (.ref a1) 55 (fun _ q => XS.aloadN X63.here hx rfl (hb hby dp25m2_54) rfl rfl q) ?_
          obtain ⟨cq64, kq64, q64a, q64b, q64c⟩ := isOf hZ eq63 E1
          obtain ⟨_, _, ⟨T64, L64, k64, n64⟩, -, X64, ⟨Lc64, hQ64, l64, y64, z64⟩, st64⟩ := X63.virtualBack hx (y := (⟨"java/lang/String", "length", "()I"⟩ : MethodName)) (z := (⟨"java/lang/String", "length", "()I"⟩ : MethodName)) hown (mvT hZ (own_w hw 37 rfl)) (mvT hZ (own_w hw 38 rfl)) (notFace_of_selects (args := #[]) (mvT hZ (own_w hw 40 rfl))) (mvT hZ (own_w hw 40 rfl)) (mvT hZ (own_w hw 39 rfl)) (by decide) (backOf (W := 0) (rm30 l Z a0 hw [] a1 cs h0 n0 hl hch G1 US O0 G3 rG3 Sf SS1) hZ (own_w hw 41 rfl) (own_w hw 13 rfl) (by decide) (by decide)) q64a q64c (g := (mkF m 55 #[.val (.ref a1), .val (.ref a2), .val (.int (Int32.ofNat i)), s3, s4] [(.ref a1)])) rfl (by rw [hml]; rfl) (Steps.refl _) (argsL := []) (rest := []) (lenOf pd10 rfl) rfl (by show 2 * 0 + _ ≤ _; exact Nat.le_of_eq rfl) (hb hby dp25m2_55) (fun _ _ => ⟨rfl, eq63, (by decide : 0 + 0 ≤ _), (by decide : 0 + 0 ≤ _)⟩)
          dsimp only [Pt.U, Pt.locs, Pt.cells, Pt.slots] at X64 l64 y64 z64 st64 hQ64
          subst l64 y64 z64
          obtain ⟨rfl, Nq64, eq64⟩ := hQ64
          have N64 := Fr.app N63 Nq64
          refine own_csR [(.int (Int32.ofNat cs.length))] 58 st64 ?_
          refine own_tp (.int (Int32.ofNat i)) 59 (fun _ q => XS.iloadN X64.here hx rfl (hb hby dp25m2_58) rfl q) ?_
          refine own_t2 (.int ((Int32.ofNat cs.length) - (Int32.ofNat i))) 60 (fun _ q => XS.isub X64.here hx rfl (hb hby dp25m2_59) rfl q) ?_
          refine own_tp (.ref a2) 61 (fun _ q => XS.aloadN X64.here hx rfl (hb hby dp25m2_60) rfl rfl q) ?_
          obtain ⟨cq65, kq65, q65a, q65b, q65c⟩ := isOf hZ eq64 E2
          obtain ⟨_, _, ⟨T65, L65, k65, n65⟩, -, X65, ⟨Lc65, hQ65, l65, y65, z65⟩, st65⟩ := X64.virtualBack hx (y := (⟨"java/lang/String", "length", "()I"⟩ : MethodName)) (z := (⟨"java/lang/String", "length", "()I"⟩ : MethodName)) hown (mvT hZ (own_w hw 37 rfl)) (mvT hZ (own_w hw 38 rfl)) (notFace_of_selects (args := #[]) (mvT hZ (own_w hw 40 rfl))) (mvT hZ (own_w hw 40 rfl)) (mvT hZ (own_w hw 39 rfl)) (by decide) (backOf (W := 1) (rm30 l Z a0 hw [] a2 ds h0 n0 hl2 hch2 G1 US O0 G3 rG3 Sf SS2) hZ (own_w hw 41 rfl) (own_w hw 13 rfl) (by decide) (by decide)) q65a q65c (g := (mkF m 61 #[.val (.ref a1), .val (.ref a2), .val (.int (Int32.ofNat i)), s3, s4] [(.ref a2), (.int ((Int32.ofNat cs.length) - (Int32.ofNat i)))])) rfl (by rw [hml]; rfl) (Steps.refl _) (argsL := []) (rest := [(.int ((Int32.ofNat cs.length) - (Int32.ofNat i)))]) (lenOf pd10 rfl) rfl (by show 2 * 0 + _ ≤ _; exact Nat.le_of_eq rfl) (hb hby dp25m2_61) (fun _ _ => ⟨rfl, eq64, (by decide : 0 + 0 ≤ _), (by decide : 0 + 0 ≤ _)⟩)
          dsimp only [Pt.U, Pt.locs, Pt.cells, Pt.slots] at X65 l65 y65 z65 st65 hQ65
          subst l65 y65 z65
          obtain ⟨rfl, Nq65, eq65⟩ := hQ65
          have N65 := Fr.app N64 Nq65
          refine own_csR [(.int (Int32.ofNat ds.length)), (.int ((Int32.ofNat cs.length) - (Int32.ofNat i)))] 64 st65 ?_
          refine own_tp (.int (Int32.ofNat i)) 65 (fun _ q => XS.iloadN X65.here hx rfl (hb hby dp25m2_64) rfl q) ?_
          refine own_t2 (.int ((Int32.ofNat ds.length) - (Int32.ofNat i))) 66 (fun _ q => XS.isub X65.here hx rfl (hb hby dp25m2_65) rfl q) ?_
          obtain ⟨_, _, ⟨T66, L66, k66, n66⟩, -, X66, ⟨Lc66, hQ66, l66, y66, z66⟩, st66⟩ := Jvm.LawKit.callS X65 hx (y := (⟨"java/lang/Integer", "compare", "(II)I"⟩ : MethodName)) hown (mvT hZ (own_w hw 48 rfl)) (mvT hZ (own_w hw 49 rfl)) (mvT hZ (own_w hw 50 rfl)) (mvT hZ (own_w hw 51 rfl)) (by decide) (backOf (W := 0) (rm10 l Z a0 hw [] ((Int32.ofNat cs.length) - (Int32.ofNat i)) ((Int32.ofNat ds.length) - (Int32.ofNat i)) h0 n0 ) hZ (own_w hw 51 rfl) (own_w hw 50 rfl) (by decide) (by decide)) (g := (mkF m 66 #[.val (.ref a1), .val (.ref a2), .val (.int (Int32.ofNat i)), s3, s4] [(.int ((Int32.ofNat ds.length) - (Int32.ofNat i))), (.int ((Int32.ofNat cs.length) - (Int32.ofNat i)))])) rfl (by rw [hml]; rfl) (argsL := [(.int ((Int32.ofNat cs.length) - (Int32.ofNat i))), (.int ((Int32.ofNat ds.length) - (Int32.ofNat i)))]) (rest := []) (lenOf pd0 rfl) rfl (by show 2 * 0 + _ ≤ _; exact Nat.le_of_eq rfl) (hb hby dp25m2_66) (fun _ _ => ⟨rfl, eq65, (by decide : 0 + 0 ≤ _), (by decide : 0 + 0 ≤ _)⟩)
          dsimp only [Pt.U, Pt.locs, Pt.cells, Pt.slots] at X66 l66 y66 z66 st66 hQ66
          subst l66 y66 z66
          obtain ⟨rfl, Nq66, eq66⟩ := hQ66
          have N66 := Fr.app N65 Nq66
          refine own_t2 (.int (own_ic ((Int32.ofNat cs.length) - (Int32.ofNat i)) ((Int32.ofNat ds.length) - (Int32.ofNat i)))) 69 st66 ?_
          exact own_retI X66 hx hrt (hb hby dp25m2_69) hlk (by decide) (by decide) eq66 (⟨by rw [own_exit hl hl2 hi1 hi2 (by omega) hch hch2, hlx], N66, rfl⟩)
      ·
        have hk1 : ¬ ((Int32.ofNat i) < (Int32.ofNat cs.length)) := fun q => h1 ((own_ltn hl (by omega)).mp q)
        refine own_tp (.int (Int32.ofNat i)) 3 (fun _ q => XS.iloadN Xj.here hx rfl (hb hby dp25m2_2) rfl q) ?_
        refine own_tp (.ref a1) 4 (fun _ q => XS.aloadN Xj.here hx rfl (hb hby dp25m2_3) rfl rfl q) ?_
        obtain ⟨cq67, kq67, q67a, q67b, q67c⟩ := isOf hZ ej E1
        obtain ⟨_, _, ⟨T67, L67, k67, n67⟩, -, X67, ⟨Lc67, hQ67, l67, y67, z67⟩, st67⟩ := Xj.virtualBack hx (y := (⟨"java/lang/String", "length", "()I"⟩ : MethodName)) (z := (⟨"java/lang/String", "length", "()I"⟩ : MethodName)) hown (mvT hZ (own_w hw 37 rfl)) (mvT hZ (own_w hw 38 rfl)) (notFace_of_selects (args := #[]) (mvT hZ (own_w hw 40 rfl))) (mvT hZ (own_w hw 40 rfl)) (mvT hZ (own_w hw 39 rfl)) (by decide) (backOf (W := 1) (rm30 l Z a0 hw [] a1 cs h0 n0 hl hch G1 US O0 G3 rG3 Sf SS1) hZ (own_w hw 41 rfl) (own_w hw 13 rfl) (by decide) (by decide)) q67a q67c (g := (mkF m 4 #[.val (.ref a1), .val (.ref a2), .val (.int (Int32.ofNat i)), s3, s4] [(.ref a1), (.int (Int32.ofNat i))])) rfl (by rw [hml]; rfl) (Steps.refl _) (argsL := []) (rest := [(.int (Int32.ofNat i))]) (lenOf pd10 rfl) rfl (by show 2 * 0 + _ ≤ _; exact Nat.le_of_eq rfl) (hb hby dp25m2_4) (fun _ _ => ⟨rfl, ej, (by decide : 0 + 0 ≤ _), (by decide : 0 + 0 ≤ _)⟩)
        dsimp only [Pt.U, Pt.locs, Pt.cells, Pt.slots] at X67 l67 y67 z67 st67 hQ67
        subst l67 y67 z67
        obtain ⟨rfl, Nq67, eq67⟩ := hQ67
        have N67 := Fr.app Nj Nq67
        refine own_csR [(.int (Int32.ofNat cs.length)), (.int (Int32.ofNat i))] 7 st67 ?_
        refine own_d2 54 (fun _ q => XS.icmpYes X67.here hx rfl (pc0 := 7) (pc' := 54) rfl (hb hby dp25m2_7) rfl (flt hk1).2.1 (by decide) (by decide) q) ?_
        refine own_tp (.ref a1) 55 (fun _ q => XS.aloadN X67.here hx rfl (hb hby dp25m2_54) rfl rfl q) ?_
        obtain ⟨cq68, kq68, q68a, q68b, q68c⟩ := isOf hZ eq67 E1
        obtain ⟨_, _, ⟨T68, L68, k68, n68⟩, -, X68, ⟨Lc68, hQ68, l68, y68, z68⟩, st68⟩ := X67.virtualBack hx (y := (⟨"java/lang/String", "length", "()I"⟩ : MethodName)) (z := (⟨"java/lang/String", "length", "()I"⟩ : MethodName)) hown (mvT hZ (own_w hw 37 rfl)) (mvT hZ (own_w hw 38 rfl)) (notFace_of_selects (args := #[]) (mvT hZ (own_w hw 40 rfl))) (mvT hZ (own_w hw 40 rfl)) (mvT hZ (own_w hw 39 rfl)) (by decide) (backOf (W := 0) (rm30 l Z a0 hw [] a1 cs h0 n0 hl hch G1 US O0 G3 rG3 Sf SS1) hZ (own_w hw 41 rfl) (own_w hw 13 rfl) (by decide) (by decide)) q68a q68c (g := (mkF m 55 #[.val (.ref a1), .val (.ref a2), .val (.int (Int32.ofNat i)), s3, s4] [(.ref a1)])) rfl (by rw [hml]; rfl) (Steps.refl _) (argsL := []) (rest := []) (lenOf pd10 rfl) rfl (by show 2 * 0 + _ ≤ _; exact Nat.le_of_eq rfl) (hb hby dp25m2_55) (fun _ _ => ⟨rfl, eq67, (by decide : 0 + 0 ≤ _), (by decide : 0 + 0 ≤ _)⟩)
        dsimp only [Pt.U, Pt.locs, Pt.cells, Pt.slots] at X68 l68 y68 z68 st68 hQ68
        subst l68 y68 z68
        obtain ⟨rfl, Nq68, eq68⟩ := hQ68
        have N68 := Fr.app N67 Nq68
        refine own_csR [(.int (Int32.ofNat cs.length))] 58 st68 ?_
        refine own_tp (.int (Int32.ofNat i)) 59 (fun _ q => XS.iloadN X68.here hx rfl (hb hby dp25m2_58) rfl q) ?_
        refine own_t2 (.int ((Int32.ofNat cs.length) - (Int32.ofNat i))) 60 (fun _ q => XS.isub X68.here hx rfl (hb hby dp25m2_59) rfl q) ?_
        refine own_tp (.ref a2) 61 (fun _ q => XS.aloadN X68.here hx rfl (hb hby dp25m2_60) rfl rfl q) ?_
        obtain ⟨cq69, kq69, q69a, q69b, q69c⟩ := isOf hZ eq68 E2
        obtain ⟨_, _, ⟨T69, L69, k69, n69⟩, -, X69, ⟨Lc69, hQ69, l69, y69, z69⟩, st69⟩ := X68.virtualBack hx (y := (⟨"java/lang/String", "length", "()I"⟩ : MethodName)) (z := (⟨"java/lang/String", "length", "()I"⟩ : MethodName)) hown (mvT hZ (own_w hw 37 rfl)) (mvT hZ (own_w hw 38 rfl)) (notFace_of_selects (args := #[]) (mvT hZ (own_w hw 40 rfl))) (mvT hZ (own_w hw 40 rfl)) (mvT hZ (own_w hw 39 rfl)) (by decide) (backOf (W := 1) (rm30 l Z a0 hw [] a2 ds h0 n0 hl2 hch2 G1 US O0 G3 rG3 Sf SS2) hZ (own_w hw 41 rfl) (own_w hw 13 rfl) (by decide) (by decide)) q69a q69c (g := (mkF m 61 #[.val (.ref a1), .val (.ref a2), .val (.int (Int32.ofNat i)), s3, s4] [(.ref a2), (.int ((Int32.ofNat cs.length) - (Int32.ofNat i)))])) rfl (by rw [hml]; rfl) (Steps.refl _) (argsL := []) (rest := [(.int ((Int32.ofNat cs.length) - (Int32.ofNat i)))]) (lenOf pd10 rfl) rfl (by show 2 * 0 + _ ≤ _; exact Nat.le_of_eq rfl) (hb hby dp25m2_61) (fun _ _ => ⟨rfl, eq68, (by decide : 0 + 0 ≤ _), (by decide : 0 + 0 ≤ _)⟩)
        dsimp only [Pt.U, Pt.locs, Pt.cells, Pt.slots] at X69 l69 y69 z69 st69 hQ69
        subst l69 y69 z69
        obtain ⟨rfl, Nq69, eq69⟩ := hQ69
        have N69 := Fr.app N68 Nq69
        refine own_csR [(.int (Int32.ofNat ds.length)), (.int ((Int32.ofNat cs.length) - (Int32.ofNat i)))] 64 st69 ?_
        refine own_tp (.int (Int32.ofNat i)) 65 (fun _ q => XS.iloadN X69.here hx rfl (hb hby dp25m2_64) rfl q) ?_
        refine own_t2 (.int ((Int32.ofNat ds.length) - (Int32.ofNat i))) 66 (fun _ q => XS.isub X69.here hx rfl (hb hby dp25m2_65) rfl q) ?_
        obtain ⟨_, _, ⟨T70, L70, k70, n70⟩, -, X70, ⟨Lc70, hQ70, l70, y70, z70⟩, st70⟩ := Jvm.LawKit.callS X69 hx (y := (⟨"java/lang/Integer", "compare", "(II)I"⟩ : MethodName)) hown (mvT hZ (own_w hw 48 rfl)) (mvT hZ (own_w hw 49 rfl)) (mvT hZ (own_w hw 50 rfl)) (mvT hZ (own_w hw 51 rfl)) (by decide) (backOf (W := 0) (rm10 l Z a0 hw [] ((Int32.ofNat cs.length) - (Int32.ofNat i)) ((Int32.ofNat ds.length) - (Int32.ofNat i)) h0 n0 ) hZ (own_w hw 51 rfl) (own_w hw 50 rfl) (by decide) (by decide)) (g := (mkF m 66 #[.val (.ref a1), .val (.ref a2), .val (.int (Int32.ofNat i)), s3, s4] [(.int ((Int32.ofNat ds.length) - (Int32.ofNat i))), (.int ((Int32.ofNat cs.length) - (Int32.ofNat i)))])) rfl (by rw [hml]; rfl) (argsL := [(.int ((Int32.ofNat cs.length) - (Int32.ofNat i))), (.int ((Int32.ofNat ds.length) - (Int32.ofNat i)))]) (rest := []) (lenOf pd0 rfl) rfl (by show 2 * 0 + _ ≤ _; exact Nat.le_of_eq rfl) (hb hby dp25m2_66) (fun _ _ => ⟨rfl, eq69, (by decide : 0 + 0 ≤ _), (by decide : 0 + 0 ≤ _)⟩)
        dsimp only [Pt.U, Pt.locs, Pt.cells, Pt.slots] at X70 l70 y70 z70 st70 hQ70
        subst l70 y70 z70
        obtain ⟨rfl, Nq70, eq70⟩ := hQ70
        have N70 := Fr.app N69 Nq70
        refine own_t2 (.int (own_ic ((Int32.ofNat cs.length) - (Int32.ofNat i)) ((Int32.ofNat ds.length) - (Int32.ofNat i)))) 69 st70 ?_
        exact own_retI X70 hx hrt (hb hby dp25m2_69) hlk (by decide) (by decide) eq70 (⟨by rw [own_exit hl hl2 hi1 hi2 (by omega) hch hch2, hlx], N70, rfl⟩)
  exact loop cs.length 0 .unset .unset s₁ _ (by omega) (Nat.zero_le _) (Nat.zero_le _) One.u One.u (by simp only [List.drop_zero]) X0 N0 e0


theorem own_safe0 {Z : State} {EL : List (String × Nat)} {vm : Vm} {h : Heap} {x : Addr} (hal : Z.vm.Alike vm) (E : Exa Z h x "java/lang/String") (F : Fld Z h x "java/lang/String" "value" "[B" .null) : Safe Z EL vm h x := fun B => by
  obtain ⟨cell, k, e1, e2, e3, -, -⟩ := E
  obtain ⟨cell', cf, k', i, f, f1, f2, f3, f4, f5, f6, f7⟩ := F
  cases e1.symm.trans f1
  obtain ⟨p, -, u, a, -, q, -, G, rfl | rfl⟩ := B
  · cases (show h[q.sa]? = some q.sC from G.ha).symm.trans e1
    obtain ⟨cS, ⟨⟨-, -, -, ⟨c1, k1, i1, g1, -⟩, -, -, -, v1, -⟩, -⟩, -⟩ := G
    obtain ⟨k3, e4, -⟩ := State.fieldFound?_setVm (s := Z) hal f2
    have e5 := (show (Wst Z vm h).fieldFound? _ _ _ = _ from e4).symm.trans g1
    simp only [Option.some.injEq, Prod.mk.injEq] at e5
    rw [← e5.2.2.2] at v1
    have e6 := f7.symm.trans v1
    cases e6
  · cases (show h[q.sd]? = some q.SA from G.hd).symm.trans e1
    obtain ⟨cS, -, -, g, -⟩ := G
    rw [show (Wst Z vm h).vm = vm from rfl, hal.findClass] at g
    obtain ⟨k1, q1, q2⟩ := Vm.findClass_spec g
    obtain ⟨k2, q3, q4⟩ := Vm.findClass_spec e2
    cases q1.symm.trans q3
    exact absurd (q2.symm.trans q4) (by decide)

def Q33 (Z : State) (x1 : Addr) (h0 : Heap) (n0 : Nat) (v : Option Value) (h : Heap) (L : List Loc) : Prop := v = none ∧ Fr n0 L ∧ Keep h0 h [x1] ∧ ∃ (t : Addr) (kb : ClassId) (cd N : Int32) (vs : List Value), Exa Z h x1 "java/lang/String" ∧ Fld Z h x1 "java/lang/String" "value" "[B" (.ref t) ∧ Fld Z h x1 "java/lang/String" "coder" "B" (.int cd) ∧ Arv Z h t kb .byte N vs (.int (0 : Int32)) ∧ own_Cod [] cd N vs

set_option maxRecDepth 65536 in
set_option maxHeartbeats 40000000 in
theorem rm33 (l : Launch) (Z : State) (a0 : Array Value) (hw : ∀ d ∈ tables_1, d.before a0 Z = true) (ws : List Jvm.Cond) (x1 a1 : Addr) (h0 : Heap) (n0 : Nat) (hE : EW Z a0 own_EL) (Z0 : n0 ≤ h0.size) (g1 : n0 ≤ x1) (E1 : Exa Z h0 x1 "java/lang/String") (F1 : Fld Z h0 x1 "java/lang/String" "value" "[B" .null) (F2 : Fld Z h0 x1 "java/lang/String" "coder" "B" (.int (0 : Int32))) (G1 : Int32) (US : own_US Z G1) (O0 : Old Z n0 h0) :
    own_MetW own_EL l (⟨"java/lang/String", "<init>", "([CIILjava/lang/Void;)V"⟩ : MethodName) jdk_42_method_149_code 6 none ws own_R_1_4_8_12 Z #[(.ref x1), (.ref a1), (.int (0 : Int32)), (.int (0 : Int32)), .null] h0 (Q33 Z x1 h0 n0) := by
  refine own_enterW #[.val (.ref x1), .val (.ref a1), .val (.int (0 : Int32)), .val (.int (0 : Int32)), .val .null, .unset] (plainFor_of_name pn_java_lang_String) (fun m => ef_RRIIN_6 m x1 a1 (0 : Int32) (0 : Int32)) hE ?_
  intro p e s m below meth c s₁ hx hby hml hown hnm hZ hrt hlk X0 e0 Wd0
  have N0 := Fr.nil n0
  have wS := own_wS hw
  have G0 : Safe Z own_EL s.vm h0 x1 := own_safe0 hZ.alike E1 F1
  refine own_tp (.ref x1) 1 (fun _ q => XS.aloadN X0.here hx rfl (hb hby dj42m149_0) rfl rfl q) ?_
  obtain ⟨T51, X51, e51, st51⟩ := initO X0 hx hZ hown (own_w hw 22 rfl) (own_w hw 23 rfl) (own_w hw 24 rfl) e0 (g := (mkF m 1 #[.val (.ref x1), .val (.ref a1), .val (.int (0 : Int32)), .val (.int (0 : Int32)), .val .null, .unset] [(.ref x1)])) rfl (by rw [hml]; rfl) rfl (hb hby dj42m149_1) (by decide) (W := 0) (by show 2 * 0 + _ ≤ _; exact Nat.le_of_eq rfl) (by decide)
  refine own_d1 4 st51 ?_
  refine own_tp (.int (0 : Int32)) 5 (fun _ q => XS.iloadN X51.here hx rfl (hb hby dj42m149_4) rfl q) ?_
  refine own_d1 8 (fun _ q => XS.ifNo X51.here hx rfl (hb hby dj42m149_5) rfl ((if0 _ _).trans (teq (by decide : (0 : Int32) = (0 : Int32))).2) q) ?_
  refine own_tp (.ref x1) 9 (fun _ q => XS.aloadN X51.here hx rfl (hb hby dj42m149_8) rfl rfl q) ?_
  obtain ⟨b52, T52, h52, bb52, kk52, X52, e52, E52, Wd52, ho52, A52, Cd52, Vl52, V52, Ch52, Sf52, st52⟩ := own_ldc X51 hx Wd0 hown (own_w hw 25 rfl) wS e51 (by simp [own_EL]) (vs := []) (z := (0 : Int32)) ⟨by decide, by decide⟩ (by decide) rfl (g := (mkF m 9 #[.val (.ref x1), .val (.ref a1), .val (.int (0 : Int32)), .val (.int (0 : Int32)), .val .null, .unset] [(.ref x1)])) rfl (hb hby dj42m149_9) (n := 0) (by decide) (by decide) (by decide) (by decide)
  have hZ52 : Z.Warmed39 (s.setVm T52.vm).vm := Wd52.hZ
  have hown52 : (s.setVm T52.vm).vm.findClass "java/lang/String" = some m.cls := ho52
  have O52 := Old.ext O0 E52
  have K52 : Keep h0 h52 [x1] := (Keep.refl h0 [x1]).ext E52
  have Z52 : n0 ≤ h52.size := Nat.le_trans Z0 E52.1
  have G52_x1 := CHr.safe Ch52 E1.lt G0
  have nl52_x1 := Sf52 x1 G52_x1
  refine own_tp (.ref b52) 11 st52 ?_
  obtain ⟨T53, X53, e53, st53⟩ := getF X52 hx hZ52 hown52 (host := "") (Or.inl (own_w hw 31 rfl)) Via.refl e52 Vl52 (g := (mkF m 11 #[.val (.ref x1), .val (.ref a1), .val (.int (0 : Int32)), .val (.int (0 : Int32)), .val .null, .unset] [(.ref b52), (.ref x1)])) rfl rfl (hb hby dj42m149_11)
  refine own_t1 (.ref bb52) 14 st53 ?_
  have f54 := (F1.ext E52)
  have f55 := (E1.ext E52)
  obtain ⟨T56, h56, X56, e56, W56, st56⟩ := putF X53 hx hZ52 hown52 (host := "") (Or.inl (own_w hw 31 rfl)) Via.refl e53 f54 f55 (Or.inr ⟨(own_w hw 27 rfl), rfl, hnm⟩) (own_w hw 12 rfl) (ty := (.array .byte)) (by decide) rfl rfl (g := (mkF m 14 #[.val (.ref x1), .val (.ref a1), .val (.int (0 : Int32)), .val (.int (0 : Int32)), .val .null, .unset] [(.ref bb52), (.ref x1)])) rfl rfl (hb hby dj42m149_14)
  have Fw56 := f54.same W56
  have N56 := Fr.snoc X56 N0 g1
  have O56 := Old.wr O52 W56 g1
  have K56 : Keep h0 h56 [x1] := K52.wr W56 (Or.inl (List.mem_of_getElem? (i := 0) rfl))
  have Z56 : n0 ≤ h56.size := Nat.le_trans Z52 (Nat.le_of_eq W56.size.symm)
  have Wd56 := Wd52.wr W56 G52_x1
  refine own_d2 17 st56 ?_
  refine own_tp (.ref x1) 18 (fun _ q => XS.aloadN X56.here hx rfl (hb hby dj42m149_17) rfl rfl q) ?_
  have f58 := (Safe.wr W56 G52_x1 Wd52.chv G52_x1)
  have f59 := (f55.wr W56)
  obtain ⟨b57, T57, h57, bb57, kk57, X57, e57, E57, Wd57, ho57, A57, Cd57, Vl57, V57, Ch57, Sf57, st57⟩ := own_ldc X56 hx Wd56 hown52 (own_w hw 25 rfl) wS e56 (by simp [own_EL]) (vs := []) (z := (0 : Int32)) ⟨by decide, by decide⟩ (by decide) rfl (g := (mkF m 18 #[.val (.ref x1), .val (.ref a1), .val (.int (0 : Int32)), .val (.int (0 : Int32)), .val .null, .unset] [(.ref x1)])) rfl (hb hby dj42m149_18) (n := 0) (by decide) (by decide) (by decide) (by decide)
  have hZ57 : Z.Warmed39 (s.setVm T57.vm).vm := Wd57.hZ
  have hown57 : (s.setVm T57.vm).vm.findClass "java/lang/String" = some m.cls := ho57
  have O57 := Old.ext O56 E57
  have K57 : Keep h0 h57 [x1] := K56.ext E57
  have Z57 : n0 ≤ h57.size := Nat.le_trans Z56 E57.1
  have G57_x1 := CHr.safe Ch57 f59.lt f58
  have nl57_x1 := Sf57 x1 G57_x1
  refine own_tp (.ref b57) 20 st57 ?_
  obtain ⟨T60, X60, e60, st60⟩ := getF X57 hx hZ57 hown57 (host := "") (Or.inl (own_w hw 32 rfl)) Via.refl e57 Cd57 (g := (mkF m 20 #[.val (.ref x1), .val (.ref a1), .val (.int (0 : Int32)), .val (.int (0 : Int32)), .val .null, .unset] [(.ref b57), (.ref x1)])) rfl rfl (hb hby dj42m149_20)
  refine own_t1 (.int (0 : Int32)) 23 st60 ?_
  have f61 := (((F2.ext E52).other W56 (Or.inr (slot_ne (Or.inr (own_w hw 28 rfl)) (Or.inr (own_w hw 27 rfl)) (by decide) (t := .byte) (t' := (.array .byte)) (by decide) (by decide)))).ext E57)
  have f62 := (f59.ext E57)
  obtain ⟨T63, h63, X63, e63, W63, st63⟩ := putFN X60 hx hZ57 hown57 (own_w hw 32 rfl) Via.refl e60 f61 f62 (Or.inr ⟨(own_w hw 28 rfl), rfl, hnm⟩) (own_w hw 12 rfl) (ty := .byte) (v' := (.int (0 : Int32))) (by decide) rfl rfl (g := (mkF m 23 #[.val (.ref x1), .val (.ref a1), .val (.int (0 : Int32)), .val (.int (0 : Int32)), .val .null, .unset] [(.int (0 : Int32)), (.ref x1)])) rfl rfl (hb hby dj42m149_23)
  have Fw63 := f61.same W63
  have N63 := Fr.snoc X63 N56 g1
  have O63 := Old.wr O57 W63 g1
  have K63 : Keep h0 h63 [x1] := K57.wr W63 (Or.inl (List.mem_of_getElem? (i := 0) rfl))
  have Z63 : n0 ≤ h63.size := Nat.le_trans Z57 (Nat.le_of_eq W63.size.symm)
  have Wd63 := Wd57.wr W63 G57_x1
  refine own_d2 26 st63 ?_
  have f64 := (f62.wr W63)
  have f65 := ((Fw56.ext E57).other W63 (Or.inr (slot_ne (Or.inr (own_w hw 27 rfl)) (Or.inr (own_w hw 28 rfl)) (by decide) (t := (.array .byte)) (t' := .byte) (by decide) (by decide))))
  have f66 := (((V52.other W56 (Ne.symm nl52_x1.2)).ext E57).other W63 (Ne.symm nl52_x1.2))
  exact own_retVW X63 hx hrt (hb hby dj42m149_26) hlk (by decide) (by decide) e63 Wd63 (⟨rfl, N63, K63, bb52, _, _, _, _, f64, f65, Fw63, f66, Or.inl ⟨rfl, rfl, rfl, by simp⟩⟩)

def Q34 (Z : State) (x1 : Addr) (h0 : Heap) (n0 : Nat) (v : Option Value) (h : Heap) (L : List Loc) : Prop := v = none ∧ Fr n0 L ∧ Keep h0 h [x1] ∧ ∃ (t : Addr) (kb : ClassId) (cd N : Int32) (vs : List Value), Exa Z h x1 "java/lang/String" ∧ Fld Z h x1 "java/lang/String" "value" "[B" (.ref t) ∧ Fld Z h x1 "java/lang/String" "coder" "B" (.int cd) ∧ Arv Z h t kb .byte N vs (.int (0 : Int32)) ∧ own_Cod [] cd N vs

set_option maxRecDepth 65536 in
set_option maxHeartbeats 40000000 in
theorem rm34 (l : Launch) (Z : State) (a0 : Array Value) (hw : ∀ d ∈ tables_1, d.before a0 Z = true) (ws : List Jvm.Cond) (x1 a1 : Addr) (k1 : ClassId) (h0 : Heap) (n0 : Nat) (hE : EW Z a0 own_EL) (Z0 : n0 ≤ h0.size) (g1 : n0 ≤ x1) (E1 : Exa Z h0 x1 "java/lang/String") (F1 : Fld Z h0 x1 "java/lang/String" "value" "[B" .null) (F2 : Fld Z h0 x1 "java/lang/String" "coder" "B" (.int (0 : Int32))) (G1 : Int32) (US : own_US Z G1) (O0 : Old Z n0 h0) (V1 : Arv Z h0 a1 k1 .char (0 : Int32) [] (.int (0 : Int32))) :
    own_MetW own_EL l (⟨"java/lang/String", "<init>", "([C)V"⟩ : MethodName) jdk_42_method_3_code 2 none ws own_R_2_4_8_29 Z #[(.ref x1), (.ref a1)] h0 (Q34 Z x1 h0 n0) := by
  refine own_enterW #[.val (.ref x1), .val (.ref a1)] (plainFor_of_name pn_java_lang_String) (fun m => ef_RR_2 m x1 a1) hE ?_
  intro p e s m below meth c s₁ hx hby hml hown hnm hZ hrt hlk X0 e0 Wd0
  have N0 := Fr.nil n0
  have wS := own_wS hw
  refine own_tp (.ref x1) 1 (fun _ q => XS.aloadN X0.here hx rfl (hb hby dj42m3_0) rfl rfl q) ?_
  refine own_tp (.ref a1) 2 (fun _ q => XS.aloadN X0.here hx rfl (hb hby dj42m3_1) rfl rfl q) ?_
  refine own_tp (.int (0 : Int32)) 3 (fun _ q => XS.iconst X0.here hx rfl (hb hby dj42m3_2) q) ?_
  refine own_tp (.ref a1) 4 (fun _ q => XS.aloadN X0.here hx rfl (hb hby dj42m3_3) rfl rfl q) ?_
  obtain ⟨cl51, Ar51, -, Sz51, Nn51, -, -⟩ := (id V1)
  refine own_t1 (.int (0 : Int32)) 5 (fun t q => X0.arraylength hx (by rw [e0]; exact Ar51.1) (State.isArrayOf_alike hZ.alike Ar51.2.1) (g := (mkF m 4 #[.val (.ref x1), .val (.ref a1)] [(.ref a1), (.int (0 : Int32)), (.ref a1), (.ref x1)])) rfl rfl (hb hby dj42m3_4) _ (by rw [len_of Sz51 Nn51]; exact q)) ?_
  refine own_tp .null 6 (fun _ q => XS.aconstNull X0.here hx rfl (hb hby dj42m3_5) q) ?_
  obtain ⟨_, _, ⟨T52, L52, k52, n52⟩, -, X52, hS52, -, ⟨Lc52, hQ52, l52, y52, z52, Ch52⟩, st52⟩ := X0.specialBackS hx (y := (⟨"java/lang/String", "<init>", "([CIILjava/lang/Void;)V"⟩ : MethodName)) rfl hown (mvT hZ (own_w hw 18 rfl)) (mvT hZ (own_w hw 19 rfl)) (mvT hZ (own_w hw 21 rfl)) (by decide) (backOfSH (W := 0) (rm33 l Z a0 hw [] x1 a1 h0 n0 hE Z0 g1 E1 F1 F2 G1 US O0) hZ (own_w hw 21 rfl) (own_w hw 13 rfl) (by decide) (by decide) Wd0.hE Wd0.chv) (g := (mkF m 6 #[.val (.ref x1), .val (.ref a1)] [.null, (.int (0 : Int32)), (.int (0 : Int32)), (.ref a1), (.ref x1)])) rfl (by rw [hml]; rfl) (Steps.refl _) (a := x1) (argsL := [(.ref a1), (.int (0 : Int32)), (.int (0 : Int32)), .null]) (rest := []) (lenOf pd12 rfl) rfl (by show 2 * 0 + _ ≤ _; exact Nat.le_of_eq rfl) (hb hby dj42m3_6) (fun _ _ => ⟨rfl, e0, (by decide : 0 + 4 ≤ _), (by decide : 0 + 8 ≤ _)⟩)
  dsimp only [Pt.U, Pt.locs, Pt.cells, Pt.slots] at X52 l52 y52 z52 st52 hQ52 hS52 Ch52
  subst l52 y52 z52
  have Wd52 := own_Wd.call Wd0 hS52 Ch52
  have hZ52 : Z.Warmed39 (s.setVm T52.vm).vm := Wd52.hZ
  have hown52 : (s.setVm T52.vm).vm.findClass "java/lang/String" = some m.cls := own_since_own hS52 hown
  have Y52 : Stand p l e own_R_2_4_8_29 (s.setVm T52.vm) m #[(.ref x1), (.ref a1)] below meth c T52 _ _ _ := X52
  obtain ⟨rfl, Nq52, Kp52, rest52⟩ := hQ52
  refine own_csR [] 9 st52 ?_
  exact own_retVW Y52 hx hrt (hb hby dj42m3_9) hlk (by decide) (by decide) rfl Wd52 (⟨rfl, Fr.app N0 Nq52, Kp52, rest52⟩)

def Q101 (Z : State) (b1 : Addr) (k2 : ClassId) (c0 : Int32) (h0 : Heap) (n0 : Nat) (v : Option Value) (h : Heap) (L : List Loc) : Prop := Fr n0 L ∧ Keep h0 h [b1] ∧ ((v = some (.int (0 : Int32)) ∧ (255 : Int32) < c0) ∨ (v = some (.int (1 : Int32)) ∧ (¬ (255 : Int32) < c0) ∧ Arv Z h b1 k2 .byte (1 : Int32) [(.int (own_lo c0))] (.int (0 : Int32))))

set_option maxRecDepth 65536 in
set_option maxHeartbeats 40000000 in
theorem rm101 (l : Launch) (Z : State) (a0 : Array Value) (hw : ∀ d ∈ tables_1, d.before a0 Z = true) (ws : List Jvm.Cond) (a1 b1 : Addr) (k1 k2 : ClassId) (c0 : Int32) (h0 : Heap) (n0 : Nat) (Z0 : n0 ≤ h0.size) (g1 : n0 ≤ b1) (hab : a1 ≠ b1) (V1 : Arv Z h0 a1 k1 .char (1 : Int32) [(.int c0)] (.int (0 : Int32))) (V2 : Arv Z h0 b1 k2 .byte (1 : Int32) [(.int (0 : Int32))] (.int (0 : Int32))) :
    own_Met l (⟨"java/lang/StringUTF16", "compress", "([CI[BII)I"⟩ : MethodName) jdk_52_method_21_code 7 (some .int) ws own_R_0_0_0_0 Z #[(.ref a1), (.int (0 : Int32)), (.ref b1), (.int (0 : Int32)), (.int (1 : Int32))] h0 (Q101 Z b1 k2 c0 h0 n0) := by
  refine own_enter #[.val (.ref a1), .val (.int (0 : Int32)), .val (.ref b1), .val (.int (0 : Int32)), .val (.int (1 : Int32)), .unset, .unset] (plainFor_of_name pn_java_lang_StringUTF16) (fun m => ef_RIRII_7 m a1 (0 : Int32) b1 (0 : Int32) (1 : Int32)) ?_
  intro p e s m below meth c s₁ hx hby hml hown hnm hZ hrt hlk X0 e0
  have N0 := Fr.nil n0
  refine own_tp (.int (0 : Int32)) 1 (fun _ q => XS.iconst X0.here hx rfl (hb hby dj52m21_0) q) ?_
  refine own_ls #[.val (.ref a1), .val (.int (0 : Int32)), .val (.ref b1), .val (.int (0 : Int32)), .val (.int (1 : Int32)), .val (.int (0 : Int32)), .unset] 3 (fun _ q => XS.istore X0.here hx rfl (hb hby dj52m21_1) rfl (l' := #[.val (.ref a1), .val (.int (0 : Int32)), .val (.ref b1), .val (.int (0 : Int32)), .val (.int (1 : Int32)), .val (.int (0 : Int32)), .unset]) rfl q) ?_
  refine own_tp (.int (0 : Int32)) 5 (fun _ q => XS.iload X0.here hx rfl (hb hby dj52m21_3) rfl q) ?_
  refine own_tp (.int (1 : Int32)) 7 (fun _ q => XS.iload X0.here hx rfl (hb hby dj52m21_5) rfl q) ?_
  refine own_d2 10 (fun _ q => XS.icmpNo X0.here hx rfl (hb hby dj52m21_7) rfl (tlt (by decide : (0 : Int32) < (1 : Int32))).2.1 q) ?_
  refine own_tp (.ref a1) 11 (fun _ q => XS.aloadN X0.here hx rfl (hb hby dj52m21_10) rfl rfl q) ?_
  refine own_tp (.int (0 : Int32)) 12 (fun _ q => XS.iloadN X0.here hx rfl (hb hby dj52m21_11) rfl q) ?_
  obtain ⟨cl51, Ar51, q51, S51, Nn51, H51, G51⟩ := (id V1)
  have hin51 : ¬ ((0 : Int32) < 0 ∨ cl51.slots.size ≤ ((0 : Int32)).toNatClampNeg) := inb_of S51 ⟨by decide, by decide⟩
  have hat51 : cl51.slots[((0 : Int32)).toNatClampNeg]? = some (.int c0) := H51.at hin51 rfl
  refine own_t2 (.int c0) 13 (fun _ q => X0.caload hx (j := (0 : Int32)) (v := (.int c0)) (by rw [e0]; exact Ar51.1) (State.isArrayOf_alike hZ.alike Ar51.2.1) Ar51.2.2 hin51 hat51 (g := (mkF m 12 #[.val (.ref a1), .val (.int (0 : Int32)), .val (.ref b1), .val (.int (0 : Int32)), .val (.int (1 : Int32)), .val (.int (0 : Int32)), .unset] [(.int (0 : Int32)), (.ref a1)])) rfl rfl (hb hby dj52m21_12) _ q) ?_
  refine own_ls #[.val (.ref a1), .val (.int (0 : Int32)), .val (.ref b1), .val (.int (0 : Int32)), .val (.int (1 : Int32)), .val (.int (0 : Int32)), .val (.int c0)] 15 (fun _ q => XS.istore X0.here hx rfl (hb hby dj52m21_13) rfl (l' := #[.val (.ref a1), .val (.int (0 : Int32)), .val (.ref b1), .val (.int (0 : Int32)), .val (.int (1 : Int32)), .val (.int (0 : Int32)), .val (.int c0)]) rfl q) ?_
  refine own_tp (.int c0) 17 (fun _ q => XS.iload X0.here hx rfl (hb hby dj52m21_15) rfl q) ?_
  refine own_tp (.int (255 : Int32)) 20 (fun _ q => XS.sipush X0.here hx rfl (hb hby dj52m21_17) q) ?_
  by_cases c52 : (255 : Int32) < c0
  ·
    refine own_d2 23 (fun _ q => XS.icmpNo X0.here hx rfl (hb hby dj52m21_20) rfl (tlt c52).2.2.2 q) ?_
    refine own_tp (.int (0 : Int32)) 25 (fun _ q => XS.iload X0.here hx rfl (hb hby dj52m21_23) rfl q) ?_
    exact own_retI X0 hx hrt (hb hby dj52m21_25) hlk (by decide) (by decide) e0 (⟨N0, (Keep.refl h0 [b1]), (Or.inl ⟨rfl, c52⟩)⟩)
  ·
    refine own_d2 26 (fun _ q => XS.icmpYes X0.here hx rfl (pc0 := 20) (pc' := 26) rfl (hb hby dj52m21_20) rfl (flt c52).2.2.2 (by decide) (by decide) q) ?_
    refine own_tp (.ref b1) 27 (fun _ q => XS.aloadN X0.here hx rfl (hb hby dj52m21_26) rfl rfl q) ?_
    refine own_tp (.int (0 : Int32)) 28 (fun _ q => XS.iloadN X0.here hx rfl (hb hby dj52m21_27) rfl q) ?_
    refine own_tp (.int c0) 30 (fun _ q => XS.iload X0.here hx rfl (hb hby dj52m21_28) rfl q) ?_
    refine own_t1 (.int (c0.toInt8.toInt32)) 31 (fun _ q => XS.i2b X0.here hx rfl (hb hby dj52m21_30) rfl q) ?_
    obtain ⟨cl53, Ar53, q53, S53, Nn53, H53, G53⟩ := (id V2)
    have hin53 : ¬ ((0 : Int32) < 0 ∨ cl53.slots.size ≤ ((0 : Int32)).toNatClampNeg) := inb_of S53 ⟨by decide, by decide⟩
    obtain ⟨T54, h54, X54, e54, W54, st54⟩ := stB X0 hx hZ e0 Ar53 (j := (0 : Int32)) hin53 (g := (mkF m 31 #[.val (.ref a1), .val (.int (0 : Int32)), .val (.ref b1), .val (.int (0 : Int32)), .val (.int (1 : Int32)), .val (.int (0 : Int32)), .val (.int c0)] [(.int (c0.toInt8.toInt32)), (.int (0 : Int32)), (.ref b1)])) rfl rfl (hb hby dj52m21_31)
    have V54 := Arv.set Ar53 q53 S53 Nn53 H53 G53 (fits_nar_byte _) W54 0 rfl (Nat.le_of_ble_eq_true rfl)
    have N54 := Fr.snoc X54 N0 g1
    have K54 : Keep h0 h54 [b1] := (Keep.refl h0 [b1]).wr W54 (Or.inl (List.mem_of_getElem? (i := 0) rfl))
    have Z54 : n0 ≤ h54.size := Nat.le_trans Z0 (Nat.le_of_eq W54.size.symm)
    have V54' : Arv Z h54 b1 k2 .byte (1 : Int32) [(.int (c0.toInt8.toInt32))] (.int (0 : Int32)) := by have q := V54; first | (rw [own_nb] at q; exact q) | (rw [own_nb2] at q; exact q)
    refine own_cs [] 32 st54 ?_
    refine own_li #[.val (.ref a1), .val (.int (1 : Int32)), .val (.ref b1), .val (.int (0 : Int32)), .val (.int (1 : Int32)), .val (.int (0 : Int32)), .val (.int c0)] 35 (fun _ q => XS.iinc X54.here hx rfl (hb hby dj52m21_32) rfl (l' := #[.val (.ref a1), .val (.int (1 : Int32)), .val (.ref b1), .val (.int (0 : Int32)), .val (.int (1 : Int32)), .val (.int (0 : Int32)), .val (.int c0)]) rfl q) ?_
    refine own_li #[.val (.ref a1), .val (.int (1 : Int32)), .val (.ref b1), .val (.int (1 : Int32)), .val (.int (1 : Int32)), .val (.int (0 : Int32)), .val (.int c0)] 38 (fun _ q => XS.iinc X54.here hx rfl (hb hby dj52m21_35) rfl (l' := #[.val (.ref a1), .val (.int (1 : Int32)), .val (.ref b1), .val (.int (1 : Int32)), .val (.int (1 : Int32)), .val (.int (0 : Int32)), .val (.int c0)]) rfl q) ?_
    refine own_li #[.val (.ref a1), .val (.int (1 : Int32)), .val (.ref b1), .val (.int (1 : Int32)), .val (.int (1 : Int32)), .val (.int (1 : Int32)), .val (.int c0)] 41 (fun _ q => XS.iinc X54.here hx rfl (hb hby dj52m21_38) rfl (l' := #[.val (.ref a1), .val (.int (1 : Int32)), .val (.ref b1), .val (.int (1 : Int32)), .val (.int (1 : Int32)), .val (.int (1 : Int32)), .val (.int c0)]) rfl q) ?_
    refine own_d0 3 (fun _ q => XS.goto X54.here hx rfl (pc0 := 41) (pc' := 3) rfl (hb hby dj52m21_41) (by decide) (by decide) q) ?_
    refine own_tp (.int (1 : Int32)) 5 (fun _ q => XS.iload X54.here hx rfl (hb hby dj52m21_3) rfl q) ?_
    refine own_tp (.int (1 : Int32)) 7 (fun _ q => XS.iload X54.here hx rfl (hb hby dj52m21_5) rfl q) ?_
    refine own_d2 44 (fun _ q => XS.icmpYes X54.here hx rfl (pc0 := 7) (pc' := 44) rfl (hb hby dj52m21_7) rfl (flt (by decide : ¬ ((1 : Int32) < (1 : Int32)))).2.1 (by decide) (by decide) q) ?_
    refine own_tp (.int (1 : Int32)) 46 (fun _ q => XS.iload X54.here hx rfl (hb hby dj52m21_44) rfl q) ?_
    exact own_retI X54 hx hrt (hb hby dj52m21_46) hlk (by decide) (by decide) e54 (⟨N54, K54, (Or.inr ⟨rfl, c52, V54'⟩)⟩)

def Q102  (h0 : Heap) (n0 : Nat) (v : Option Value) (h : Heap) (L : List Loc) : Prop := v = some (.int (2 : Int32)) ∧ Fr n0 L ∧ h = h0

set_option maxRecDepth 65536 in
set_option maxHeartbeats 40000000 in
theorem rm102 (l : Launch) (Z : State) (a0 : Array Value) (hw : ∀ d ∈ tables_1, d.before a0 Z = true) (ws : List Jvm.Cond)  (h0 : Heap) (n0 : Nat)  :
    own_Met l (⟨"java/lang/StringUTF16", "newBytesLength", "(I)I"⟩ : MethodName) jdk_52_method_3_code 1 (some .int) ws own_R_0_0_0_0 Z #[(.int (1 : Int32))] h0 (Q102 h0 n0) := by
  refine own_enter #[.val (.int (1 : Int32))] (plainFor_of_name pn_java_lang_StringUTF16) (fun m => ef_I_1 m (1 : Int32)) ?_
  intro p e s m below meth c s₁ hx hby hml hown hnm hZ hrt hlk X0 e0
  have N0 := Fr.nil n0
  refine own_tp (.int (1 : Int32)) 1 (fun _ q => XS.iloadN X0.here hx rfl (hb hby dj52m3_0) rfl q) ?_
  refine own_d1 12 (fun _ q => XS.ifYes X0.here hx rfl (pc0 := 1) (pc' := 12) rfl (hb hby dj52m3_1) rfl ((if0 _ _).trans (flt (by decide : ¬ ((1 : Int32) < (0 : Int32)))).2.1) (by decide) (by decide) q) ?_
  refine own_tp (.int (1 : Int32)) 13 (fun _ q => XS.iloadN X0.here hx rfl (hb hby dj52m3_12) rfl q) ?_
  refine own_tp (.int (1073741823 : Int32)) 15 (fun _ q => X0.ldcInt hx hown (mvT hZ (own_w hw 82 rfl)) (g := (mkF m 13 #[.val (.int (1 : Int32))] [(.int (1 : Int32))])) rfl (hb hby dj52m3_13) _ q) ?_
  refine own_d2 55 (fun _ q => XS.icmpYes X0.here hx rfl (pc0 := 15) (pc' := 55) rfl (hb hby dj52m3_15) rfl (tlt (by decide : (1 : Int32) < (1073741823 : Int32))).1 (by decide) (by decide) q) ?_
  refine own_tp (.int (1 : Int32)) 56 (fun _ q => XS.iloadN X0.here hx rfl (hb hby dj52m3_55) rfl q) ?_
  refine own_tp (.int (1 : Int32)) 57 (fun _ q => XS.iconst X0.here hx rfl (hb hby dj52m3_56) q) ?_
  refine own_t2 (.int (2 : Int32)) 58 (fun _ q => XS.ishl X0.here hx rfl (hb hby dj52m3_57) rfl q) ?_
  exact own_retI X0 hx hrt (hb hby dj52m3_58) hlk (by decide) (by decide) e0 (⟨rfl, N0, rfl⟩)

def Q103 (Z : State) (h0 : Heap) (n0 : Nat) (v : Option Value) (h : Heap) (L : List Loc) : Prop := ∃ (b : Addr) (k : ClassId), v = some (.ref b) ∧ Fr n0 L ∧ Keep h0 h [] ∧ n0 ≤ b ∧ h0.size ≤ b ∧ Arv Z h b k .byte (2 : Int32) [(.int (0 : Int32)), (.int (0 : Int32))] (.int (0 : Int32))

set_option maxRecDepth 65536 in
set_option maxHeartbeats 40000000 in
theorem rm103 (l : Launch) (Z : State) (a0 : Array Value) (hw : ∀ d ∈ tables_1, d.before a0 Z = true) (ws : List Jvm.Cond)  (h0 : Heap) (n0 : Nat) (Z0 : n0 ≤ h0.size) :
    own_Met l (⟨"java/lang/StringUTF16", "newBytesFor", "(I)[B"⟩ : MethodName) jdk_52_method_2_code 1 (some (.array .byte)) ws own_R_1_1_2_12 Z #[(.int (1 : Int32))] h0 (Q103 Z h0 n0) := by
  refine own_enter #[.val (.int (1 : Int32))] (plainFor_of_name pn_java_lang_StringUTF16) (fun m => ef_I_1 m (1 : Int32)) ?_
  intro p e s m below meth c s₁ hx hby hml hown hnm hZ hrt hlk X0 e0
  have N0 := Fr.nil n0
  refine own_tp (.int (1 : Int32)) 1 (fun _ q => XS.iloadN X0.here hx rfl (hb hby dj52m2_0) rfl q) ?_
  obtain ⟨_, _, ⟨T51, L51, k51, n51⟩, -, X51, ⟨Lc51, hQ51, l51, y51, z51⟩, st51⟩ := Jvm.LawKit.callS X0 hx (y := (⟨"java/lang/StringUTF16", "newBytesLength", "(I)I"⟩ : MethodName)) hown (mvT hZ (own_w hw 79 rfl)) (mvT hZ (own_w hw 80 rfl)) (mvT hZ (own_w hw 68 rfl)) (mvT hZ (own_w hw 81 rfl)) (by decide) (backOf (W := 0) (rm102 l Z a0 hw [] h0 n0) hZ (own_w hw 81 rfl) (own_w hw 68 rfl) (by decide) (by decide)) (g := (mkF m 1 #[.val (.int (1 : Int32))] [(.int (1 : Int32))])) rfl (by rw [hml]; rfl) (argsL := [(.int (1 : Int32))]) (rest := []) (lenOf pd11 rfl) rfl (by show 2 * 0 + _ ≤ _; exact Nat.le_of_eq rfl) (hb hby dj52m2_1) (fun _ _ => ⟨rfl, e0, (by decide : 0 + 0 ≤ _), (by decide : 0 + 0 ≤ _)⟩)
  dsimp only [Pt.U, Pt.locs, Pt.cells, Pt.slots] at X51 l51 y51 z51 st51 hQ51
  subst l51 y51 z51
  obtain ⟨rfl, Nq51, eq51⟩ := hQ51
  have N51 := Fr.app N0 Nq51
  refine own_t1 (.int (2 : Int32)) 4 st51 ?_
  obtain ⟨T52, h52, k52, X52, e52, E52, A52, st52⟩ := newP X51 hx hZ (own_w hw 26 rfl) eq51 (g := (mkF m 4 #[.val (.int (1 : Int32))] [(.int (2 : Int32))])) rfl (hb hby dj52m2_4) rfl (by decide) (cap := 2) (by decide) (by decide) (by decide) (by decide)
  obtain ⟨b52, g52⟩ : ∃ z, z = h0.size := ⟨_, rfl⟩
  rw [← g52] at A52 st52
  have V52 : Arv Z h52 b52 k52 .byte (2 : Int32) [(.int (0 : Int32)), (.int (0 : Int32))] (.int (0 : Int32)) := (Arv.new A52 (by decide)).pad (pad_rep [] (.int (0 : Int32)) 2)
  have ge52 : n0 ≤ b52 := Nat.le_trans Z0 (Nat.le_of_eq g52.symm)
  have sz52 : h0.size ≤ b52 := Nat.le_trans (Keep.refl h0 []).1 (Nat.le_of_eq g52.symm)
  have K52 : Keep h0 h52 [] := (Keep.refl h0 []).ext E52
  have Z52 : n0 ≤ h52.size := Nat.le_trans Z0 E52.1
  refine own_t1 (.ref b52) 6 st52 ?_
  exact own_retR X52 hx hrt (hb hby dj52m2_6) rfl rfl hlk (by decide) (by decide) e52 (⟨b52, _, rfl, N51, K52, ge52, sz52, V52⟩)

def Q104 (Z : State) (b1 : Addr) (k1 : ClassId) (i : Nat) (p1 : Int32) (vs1 : List Value) (h0 : Heap) (n0 : Nat) (v : Option Value) (h : Heap) (L : List Loc) : Prop := v = none ∧ Fr n0 L ∧ Keep h0 h [b1] ∧ Arv Z h b1 k1 .byte (Int32.ofNat vs1.length) ((vs1.set (2 * i) (.int (own_b0 p1))).set (2 * i + 1) (.int (own_b1 p1))) (.int (0 : Int32))

set_option maxRecDepth 65536 in
set_option maxHeartbeats 40000000 in
theorem rm104 (l : Launch) (Z : State) (a0 : Array Value) (hw : ∀ d ∈ tables_1, d.before a0 Z = true) (ws : List Jvm.Cond) (b1 : Addr) (k1 : ClassId) (i : Nat) (p1 : Int32) (vs1 : List Value) (h0 : Heap) (n0 : Nat) (Z0 : n0 ≤ h0.size) (g1 : n0 ≤ b1) (hi : 2 * i + 1 < vs1.length) (hv : vs1.length ≤ 4000) (V1 : Arv Z h0 b1 k1 .byte (Int32.ofNat vs1.length) vs1 (.int (0 : Int32))) (G1 : Int32) (US : own_US Z G1) (O0 : Old Z n0 h0) :
    own_Met l (⟨"java/lang/StringUTF16", "putChar", "([BII)V"⟩ : MethodName) jdk_52_method_4_code 3 none ws own_R_0_0_0_0 Z #[(.ref b1), (.int (Int32.ofNat i)), (.int p1)] h0 (Q104 Z b1 k1 i p1 vs1 h0 n0) := by
  refine own_enter #[.val (.ref b1), .val (.int (Int32.ofNat i)), .val (.int p1)] (plainFor_of_name pn_java_lang_StringUTF16) (fun m => ef_RII_3 m b1 (Int32.ofNat i) p1) ?_
  intro p e s m below meth c s₁ hx hby hml hown hnm hZ hrt hlk X0 e0
  have N0 := Fr.nil n0
  obtain ⟨T51, X51, e51, st51⟩ := getS2 X0 hx hZ hown (host := "") (Or.inl (own_w hw 86 rfl)) Via.refl e0 (US.2.2.1.ext O0.2) (g := (mkF m 0 #[.val (.ref b1), .val (.int (Int32.ofNat i)), .val (.int p1)] [])) rfl (hb hby dj52m4_0)
  refine own_tp (.int (1 : Int32)) 3 st51 ?_
  refine own_d1 28 (fun _ q => XS.ifYes X51.here hx rfl (pc0 := 3) (pc' := 28) rfl (hb hby dj52m4_3) rfl ((if0 _ _).trans (feq (by decide : ¬ ((1 : Int32) = (0 : Int32)))).2) (by decide) (by decide) q) ?_
  refine own_tp (.int (Int32.ofNat i)) 29 (fun _ q => XS.iloadN X51.here hx rfl (hb hby dj52m4_28) rfl q) ?_
  refine own_tp (.int (1 : Int32)) 30 (fun _ q => XS.iconst X51.here hx rfl (hb hby dj52m4_29) q) ?_
  refine own_t2 (.int ((Int32.ofNat i) <<< ((1 : Int32) &&& 31))) 31 (fun _ q => XS.ishl X51.here hx rfl (hb hby dj52m4_30) rfl q) ?_
  rw [own_shl1 (by omega)]
  refine own_ls #[.val (.ref b1), .val (.int (Int32.ofNat (2 * i))), .val (.int p1)] 32 (fun _ q => XS.istoreN X51.here hx rfl (hb hby dj52m4_31) rfl (l' := #[.val (.ref b1), .val (.int (Int32.ofNat (2 * i))), .val (.int p1)]) rfl q) ?_
  refine own_tp (.ref b1) 33 (fun _ q => XS.aloadN X51.here hx rfl (hb hby dj52m4_32) rfl rfl q) ?_
  refine own_tp (.int (Int32.ofNat (2 * i))) 34 (fun _ q => XS.iloadN X51.here hx rfl (hb hby dj52m4_33) rfl q) ?_
  refine own_li #[.val (.ref b1), .val (.int ((Int32.ofNat (2 * i)) + (1 : Int32))), .val (.int p1)] 37 (fun _ q => XS.iinc X51.here hx rfl (hb hby dj52m4_34) rfl (l' := #[.val (.ref b1), .val (.int ((Int32.ofNat (2 * i)) + (1 : Int32))), .val (.int p1)]) rfl q) ?_
  rw [own_succ]
  refine own_tp (.int p1) 38 (fun _ q => XS.iloadN X51.here hx rfl (hb hby dj52m4_37) rfl q) ?_
  obtain ⟨T52, X52, e52, st52⟩ := getS2 X51 hx hZ hown (host := "") (Or.inl (own_w hw 87 rfl)) Via.refl e51 (US.2.2.2.1.ext O0.2) (g := (mkF m 38 #[.val (.ref b1), .val (.int (Int32.ofNat (2 * i + 1))), .val (.int p1)] [(.int p1), (.int (Int32.ofNat (2 * i))), (.ref b1)])) rfl (hb hby dj52m4_38)
  refine own_tp (.int (0 : Int32)) 41 st52 ?_
  refine own_t2 (.int (p1 >>> ((0 : Int32) &&& 31))) 42 (fun _ q => XS.ishr X52.here hx rfl (hb hby dj52m4_41) rfl q) ?_
  refine own_t1 (.int ((p1 >>> ((0 : Int32) &&& 31)).toInt8.toInt32)) 43 (fun _ q => XS.i2b X52.here hx rfl (hb hby dj52m4_42) rfl q) ?_
  obtain ⟨cl53, Ar53, q53, S53, Nn53, H53, G53⟩ := (id V1)
  have hin53 : ¬ ((Int32.ofNat (2 * i)) < 0 ∨ cl53.slots.size ≤ ((Int32.ofNat (2 * i))).toNatClampNeg) := inb_of S53 (own_inb (by omega) (by omega))
  obtain ⟨T54, h54, X54, e54, W54, st54⟩ := stB X52 hx hZ e52 Ar53 (j := (Int32.ofNat (2 * i))) hin53 (g := (mkF m 43 #[.val (.ref b1), .val (.int (Int32.ofNat (2 * i + 1))), .val (.int p1)] [(.int ((p1 >>> ((0 : Int32) &&& 31)).toInt8.toInt32)), (.int (Int32.ofNat (2 * i))), (.ref b1)])) rfl rfl (hb hby dj52m4_43)
  have V54 := Arv.set Ar53 q53 S53 Nn53 H53 G53 (fits_nar_byte _) W54 (2 * i) (own_ofn (by omega)).2 (by omega)
  have N54 := Fr.snoc X54 N0 g1
  have O54 := Old.wr O0 W54 g1
  have K54 : Keep h0 h54 [b1] := (Keep.refl h0 [b1]).wr W54 (Or.inl (List.mem_of_getElem? (i := 0) rfl))
  have Z54 : n0 ≤ h54.size := Nat.le_trans Z0 (Nat.le_of_eq W54.size.symm)
  have V54' : Arv Z h54 b1 k1 .byte (Int32.ofNat vs1.length) (vs1.set (2 * i) (.int ((p1 >>> ((0 : Int32) &&& 31)).toInt8.toInt32))) (.int (0 : Int32)) := by have q := V54; first | (rw [own_nb] at q; exact q) | (rw [own_nb2] at q; exact q)
  refine own_cs [] 44 st54 ?_
  refine own_tp (.ref b1) 45 (fun _ q => XS.aloadN X54.here hx rfl (hb hby dj52m4_44) rfl rfl q) ?_
  refine own_tp (.int (Int32.ofNat (2 * i + 1))) 46 (fun _ q => XS.iloadN X54.here hx rfl (hb hby dj52m4_45) rfl q) ?_
  refine own_tp (.int p1) 47 (fun _ q => XS.iloadN X54.here hx rfl (hb hby dj52m4_46) rfl q) ?_
  obtain ⟨T55, X55, e55, st55⟩ := getS2 X54 hx hZ hown (host := "") (Or.inl (own_w hw 88 rfl)) Via.refl e54 (US.2.2.2.2.ext O54.2) (g := (mkF m 47 #[.val (.ref b1), .val (.int (Int32.ofNat (2 * i + 1))), .val (.int p1)] [(.int p1), (.int (Int32.ofNat (2 * i + 1))), (.ref b1)])) rfl (hb hby dj52m4_47)
  refine own_tp (.int (8 : Int32)) 50 st55 ?_
  refine own_t2 (.int (p1 >>> ((8 : Int32) &&& 31))) 51 (fun _ q => XS.ishr X55.here hx rfl (hb hby dj52m4_50) rfl q) ?_
  refine own_t1 (.int ((p1 >>> ((8 : Int32) &&& 31)).toInt8.toInt32)) 52 (fun _ q => XS.i2b X55.here hx rfl (hb hby dj52m4_51) rfl q) ?_
  obtain ⟨cl56, Ar56, q56, S56, Nn56, H56, G56⟩ := (id V54')
  have hin56 : ¬ ((Int32.ofNat (2 * i + 1)) < 0 ∨ cl56.slots.size ≤ ((Int32.ofNat (2 * i + 1))).toNatClampNeg) := inb_of S56 (own_inb (by omega) (by omega))
  obtain ⟨T57, h57, X57, e57, W57, st57⟩ := stB X55 hx hZ e55 Ar56 (j := (Int32.ofNat (2 * i + 1))) hin56 (g := (mkF m 52 #[.val (.ref b1), .val (.int (Int32.ofNat (2 * i + 1))), .val (.int p1)] [(.int ((p1 >>> ((8 : Int32) &&& 31)).toInt8.toInt32)), (.int (Int32.ofNat (2 * i + 1))), (.ref b1)])) rfl rfl (hb hby dj52m4_52)
  have V57 := Arv.set Ar56 q56 S56 Nn56 H56 G56 (fits_nar_byte _) W57 (2 * i + 1) (own_ofn (by omega)).2 (by simp; omega)
  have N57 := Fr.snoc X57 N54 g1
  have O57 := Old.wr O54 W57 g1
  have K57 : Keep h0 h57 [b1] := K54.wr W57 (Or.inl (List.mem_of_getElem? (i := 0) rfl))
  have Z57 : n0 ≤ h57.size := Nat.le_trans Z54 (Nat.le_of_eq W57.size.symm)
  have V57' : Arv Z h57 b1 k1 .byte (Int32.ofNat vs1.length) ((vs1.set (2 * i) (.int ((p1 >>> ((0 : Int32) &&& 31)).toInt8.toInt32))).set (2 * i + 1) (.int ((p1 >>> ((8 : Int32) &&& 31)).toInt8.toInt32))) (.int (0 : Int32)) := by have q := V57; first | (rw [own_nb] at q; exact q) | (rw [own_nb2] at q; exact q)
  refine own_cs [] 53 st57 ?_
  exact own_retV X57 hx hrt (hb hby dj52m4_53) hlk (by decide) (by decide) e57 (⟨rfl, N57, K57, V57'⟩)

def Q105 (Z : State) (c0 : Int32) (h0 : Heap) (n0 : Nat) (v : Option Value) (h : Heap) (L : List Loc) : Prop := ∃ (b : Addr) (k : ClassId), v = some (.ref b) ∧ Fr n0 L ∧ Keep h0 h [] ∧ n0 ≤ b ∧ h0.size ≤ b ∧ Arv Z h b k .byte (2 : Int32) [(.int (own_b0 c0)), (.int (own_b1 c0))] (.int (0 : Int32))

set_option maxRecDepth 65536 in
set_option maxHeartbeats 40000000 in
theorem rm105 (l : Launch) (Z : State) (a0 : Array Value) (hw : ∀ d ∈ tables_1, d.before a0 Z = true) (ws : List Jvm.Cond) (a1 : Addr) (k1 : ClassId) (c0 : Int32) (h0 : Heap) (n0 : Nat) (Z0 : n0 ≤ h0.size) (V1 : Arv Z h0 a1 k1 .char (1 : Int32) [(.int c0)] (.int (0 : Int32))) (G1 : Int32) (US : own_US Z G1) (O0 : Old Z n0 h0) :
    own_Met l (⟨"java/lang/StringUTF16", "toBytes", "([CII)[B"⟩ : MethodName) jdk_52_method_14_code 5 (some (.array .byte)) ws own_R_2_1_2_24 Z #[(.ref a1), (.int (0 : Int32)), (.int (1 : Int32))] h0 (Q105 Z c0 h0 n0) := by
  refine own_enter #[.val (.ref a1), .val (.int (0 : Int32)), .val (.int (1 : Int32)), .unset, .unset] (plainFor_of_name pn_java_lang_StringUTF16) (fun m => ef_RII_5 m a1 (0 : Int32) (1 : Int32)) ?_
  intro p e s m below meth c s₁ hx hby hml hown hnm hZ hrt hlk X0 e0
  have N0 := Fr.nil n0
  refine own_tp (.int (1 : Int32)) 1 (fun _ q => XS.iloadN X0.here hx rfl (hb hby dj52m14_0) rfl q) ?_
  obtain ⟨_, _, ⟨T51, L51, k51, n51⟩, -, X51, ⟨Lc51, hQ51, l51, y51, z51⟩, st51⟩ := Jvm.LawKit.callS X0 hx (y := (⟨"java/lang/StringUTF16", "newBytesFor", "(I)[B"⟩ : MethodName)) hown (mvT hZ (own_w hw 76 rfl)) (mvT hZ (own_w hw 77 rfl)) (mvT hZ (own_w hw 68 rfl)) (mvT hZ (own_w hw 78 rfl)) (by decide) (backOf (W := 0) (rm103 l Z a0 hw [] h0 n0 Z0) hZ (own_w hw 78 rfl) (own_w hw 68 rfl) (by decide) (by decide)) (g := (mkF m 1 #[.val (.ref a1), .val (.int (0 : Int32)), .val (.int (1 : Int32)), .unset, .unset] [(.int (1 : Int32))])) rfl (by rw [hml]; rfl) (argsL := [(.int (1 : Int32))]) (rest := []) (lenOf pd13 rfl) rfl (by show 2 * 0 + _ ≤ _; exact Nat.le_of_eq rfl) (hb hby dj52m14_1) (fun _ _ => ⟨rfl, e0, (by decide : 0 + 1 ≤ _), (by decide : 0 + 2 ≤ _)⟩)
  dsimp only [Pt.U, Pt.locs, Pt.cells, Pt.slots] at X51 l51 y51 z51 st51 hQ51
  subst l51 y51 z51
  obtain ⟨nb51, kn51, rfl, Nq51, Kp51, ge51, sz51, V51⟩ := hQ51
  have ne52 : a1 ≠ nb51 := Nat.ne_of_lt (Nat.lt_of_lt_of_le V1.lt sz51)
  have s0nb51 : h0.size ≤ nb51 := Nat.le_trans (Keep.refl h0 []).1 sz51
  have N51 := Fr.app N0 Nq51
  have O51 := Old.keep O0 Kp51 all0
  have Z51 : n0 ≤ T51.heap.size := Nat.le_trans Z0 Kp51.1
  have K51 : Keep h0 T51.heap [] := Keep.trans (Keep.refl h0 []) Kp51 all0
  refine own_t1 (.ref nb51) 4 st51 ?_
  refine own_ls #[.val (.ref a1), .val (.int (0 : Int32)), .val (.int (1 : Int32)), .val (.ref nb51), .unset] 5 (fun _ q => XS.astoreN X51.here hx rfl (hb hby dj52m14_4) rfl rfl (l' := #[.val (.ref a1), .val (.int (0 : Int32)), .val (.int (1 : Int32)), .val (.ref nb51), .unset]) rfl q) ?_
  refine own_tp (.int (0 : Int32)) 6 (fun _ q => XS.iconst X51.here hx rfl (hb hby dj52m14_5) q) ?_
  refine own_ls #[.val (.ref a1), .val (.int (0 : Int32)), .val (.int (1 : Int32)), .val (.ref nb51), .val (.int (0 : Int32))] 8 (fun _ q => XS.istore X51.here hx rfl (hb hby dj52m14_6) rfl (l' := #[.val (.ref a1), .val (.int (0 : Int32)), .val (.int (1 : Int32)), .val (.ref nb51), .val (.int (0 : Int32))]) rfl q) ?_
  refine own_tp (.int (0 : Int32)) 10 (fun _ q => XS.iload X51.here hx rfl (hb hby dj52m14_8) rfl q) ?_
  refine own_tp (.int (1 : Int32)) 11 (fun _ q => XS.iloadN X51.here hx rfl (hb hby dj52m14_10) rfl q) ?_
  refine own_d2 14 (fun _ q => XS.icmpNo X51.here hx rfl (hb hby dj52m14_11) rfl (tlt (by decide : (0 : Int32) < (1 : Int32))).2.1 q) ?_
  refine own_tp (.ref nb51) 15 (fun _ q => XS.aloadN X51.here hx rfl (hb hby dj52m14_14) rfl rfl q) ?_
  refine own_tp (.int (0 : Int32)) 17 (fun _ q => XS.iload X51.here hx rfl (hb hby dj52m14_15) rfl q) ?_
  refine own_tp (.ref a1) 18 (fun _ q => XS.aloadN X51.here hx rfl (hb hby dj52m14_17) rfl rfl q) ?_
  refine own_tp (.int (0 : Int32)) 19 (fun _ q => XS.iloadN X51.here hx rfl (hb hby dj52m14_18) rfl q) ?_
  have f53 := (V1.keep Kp51 nin0)
  obtain ⟨cl54, Ar54, q54, S54, Nn54, H54, G54⟩ := (id f53)
  have hin54 : ¬ ((0 : Int32) < 0 ∨ cl54.slots.size ≤ ((0 : Int32)).toNatClampNeg) := inb_of S54 ⟨by decide, by decide⟩
  have hat54 : cl54.slots[((0 : Int32)).toNatClampNeg]? = some (.int c0) := H54.at hin54 rfl
  refine own_t2 (.int c0) 20 (fun _ q => X51.caload hx (j := (0 : Int32)) (v := (.int c0)) Ar54.1 (State.isArrayOf_alike hZ.alike Ar54.2.1) Ar54.2.2 hin54 hat54 (g := (mkF m 19 #[.val (.ref a1), .val (.int (0 : Int32)), .val (.int (1 : Int32)), .val (.ref nb51), .val (.int (0 : Int32))] [(.int (0 : Int32)), (.ref a1), (.int (0 : Int32)), (.ref nb51)])) rfl rfl (hb hby dj52m14_19) _ q) ?_
  obtain ⟨_, _, ⟨T55, L55, k55, n55⟩, -, X55, ⟨Lc55, hQ55, l55, y55, z55⟩, st55⟩ := Jvm.LawKit.callS X51 hx (y := (⟨"java/lang/StringUTF16", "putChar", "([BII)V"⟩ : MethodName)) hown (mvT hZ (own_w hw 83 rfl)) (mvT hZ (own_w hw 84 rfl)) (mvT hZ (own_w hw 68 rfl)) (mvT hZ (own_w hw 85 rfl)) (by decide) (backOf (W := 0) (rm104 l Z a0 hw [] nb51 kn51 0 c0 [(.int (0 : Int32)), (.int (0 : Int32))] T51.heap n0 Z51 ge51 (by simp) (by simp) V51 G1 US O51) hZ (own_w hw 85 rfl) (own_w hw 68 rfl) (by decide) (by decide)) (g := (mkF m 20 #[.val (.ref a1), .val (.int (0 : Int32)), .val (.int (1 : Int32)), .val (.ref nb51), .val (.int (0 : Int32))] [(.int c0), (.int (0 : Int32)), (.ref nb51)])) rfl (by rw [hml]; rfl) (argsL := [(.ref nb51), (.int (0 : Int32)), (.int c0)]) (rest := []) (lenOf pd14 rfl) rfl (by show 2 * 0 + _ ≤ _; exact Nat.le_of_eq rfl) (hb hby dj52m14_20) (fun _ _ => ⟨rfl, rfl, (by decide : 1 + 0 ≤ _), (by decide : 2 + 0 ≤ _)⟩)
  dsimp only [Pt.U, Pt.locs, Pt.cells, Pt.slots] at X55 l55 y55 z55 st55 hQ55
  subst l55 y55 z55
  obtain ⟨rfl, Nq55, Kp55, V55⟩ := hQ55
  have N55 := Fr.app N51 Nq55
  have O55 := Old.keep O51 Kp55 (allS ge51 all0)
  have Z55 : n0 ≤ T55.heap.size := Nat.le_trans Z51 Kp55.1
  have K55 : Keep h0 T55.heap [] := Keep.trans K51 Kp55 (allS (Or.inr s0nb51) all0)
  have V55' : Arv Z T55.heap nb51 kn51 .byte (2 : Int32) [(.int (own_b0 c0)), (.int (own_b1 c0))] (.int (0 : Int32)) := V55
  refine own_cs [] 23 st55 ?_
  refine own_li #[.val (.ref a1), .val (.int (1 : Int32)), .val (.int (1 : Int32)), .val (.ref nb51), .val (.int (0 : Int32))] 26 (fun _ q => XS.iinc X55.here hx rfl (hb hby dj52m14_23) rfl (l' := #[.val (.ref a1), .val (.int (1 : Int32)), .val (.int (1 : Int32)), .val (.ref nb51), .val (.int (0 : Int32))]) rfl q) ?_
  refine own_li #[.val (.ref a1), .val (.int (1 : Int32)), .val (.int (1 : Int32)), .val (.ref nb51), .val (.int (1 : Int32))] 29 (fun _ q => XS.iinc X55.here hx rfl (hb hby dj52m14_26) rfl (l' := #[.val (.ref a1), .val (.int (1 : Int32)), .val (.int (1 : Int32)), .val (.ref nb51), .val (.int (1 : Int32))]) rfl q) ?_
  refine own_d0 8 (fun _ q => XS.goto X55.here hx rfl (pc0 := 29) (pc' := 8) rfl (hb hby dj52m14_29) (by decide) (by decide) q) ?_
  refine own_tp (.int (1 : Int32)) 10 (fun _ q => XS.iload X55.here hx rfl (hb hby dj52m14_8) rfl q) ?_
  refine own_tp (.int (1 : Int32)) 11 (fun _ q => XS.iloadN X55.here hx rfl (hb hby dj52m14_10) rfl q) ?_
  refine own_d2 32 (fun _ q => XS.icmpYes X55.here hx rfl (pc0 := 11) (pc' := 32) rfl (hb hby dj52m14_11) rfl (flt (by decide : ¬ ((1 : Int32) < (1 : Int32)))).2.1 (by decide) (by decide) q) ?_
  refine own_tp (.ref nb51) 33 (fun _ q => XS.aloadN X55.here hx rfl (hb hby dj52m14_32) rfl rfl q) ?_
  exact own_retR X55 hx hrt (hb hby dj52m14_33) rfl rfl hlk (by decide) (by decide) rfl (⟨nb51, _, rfl, N55, K55, ge51, s0nb51, V55'⟩)

def Q106 (Z : State) (c0 : Int32) (h0 : Heap) (n0 : Nat) (v : Option Value) (h : Heap) (L : List Loc) : Prop := ∃ (b : Addr) (k : ClassId), v = some (.ref b) ∧ Fr n0 L ∧ Keep h0 h [] ∧ n0 ≤ b ∧ h0.size ≤ b ∧ (((¬ (255 : Int32) < c0) ∧ Arv Z h b k .byte (1 : Int32) [(.int (own_lo c0))] (.int (0 : Int32))) ∨ ((∃ c ∈ ([c0] : List Int32), (255 : Int32) < c) ∧ Arv Z h b k .byte (2 : Int32) [(.int (own_b0 c0)), (.int (own_b1 c0))] (.int (0 : Int32))))

set_option maxRecDepth 65536 in
set_option maxHeartbeats 40000000 in
theorem rm106 (l : Launch) (Z : State) (a0 : Array Value) (hw : ∀ d ∈ tables_1, d.before a0 Z = true) (ws : List Jvm.Cond) (a1 : Addr) (k1 : ClassId) (c0 : Int32) (h0 : Heap) (n0 : Nat) (Z0 : n0 ≤ h0.size) (hc0 : 0 ≤ c0.toInt ∧ c0.toInt ≤ 65535) (V1 : Arv Z h0 a1 k1 .char (1 : Int32) [(.int c0)] (.int (0 : Int32))) (G1 : Int32) (US : own_US Z G1) (O0 : Old Z n0 h0) :
    own_Met l (⟨"java/lang/StringUTF16", "compress", "([CII)[B"⟩ : MethodName) jdk_52_method_16_code 6 (some (.array .byte)) ws own_R_3_2_3_42 Z #[(.ref a1), (.int (0 : Int32)), (.int (1 : Int32))] h0 (Q106 Z c0 h0 n0) := by
  refine own_enter #[.val (.ref a1), .val (.int (0 : Int32)), .val (.int (1 : Int32)), .unset, .unset, .unset] (plainFor_of_name pn_java_lang_StringUTF16) (fun m => ef_RII_6 m a1 (0 : Int32) (1 : Int32)) ?_
  intro p e s m below meth c s₁ hx hby hml hown hnm hZ hrt hlk X0 e0
  have N0 := Fr.nil n0
  refine own_tp (.int (1 : Int32)) 1 (fun _ q => XS.iloadN X0.here hx rfl (hb hby dj52m16_0) rfl q) ?_
  obtain ⟨T51, h51, k51, X51, e51, E51, A51, st51⟩ := newP X0 hx hZ (own_w hw 26 rfl) e0 (g := (mkF m 1 #[.val (.ref a1), .val (.int (0 : Int32)), .val (.int (1 : Int32)), .unset, .unset, .unset] [(.int (1 : Int32))])) rfl (hb hby dj52m16_1) rfl (by decide) (cap := 1) (by decide) (by decide) (by decide) (by decide)
  obtain ⟨b51, g51⟩ : ∃ z, z = h0.size := ⟨_, rfl⟩
  rw [← g51] at A51 st51
  have V51 : Arv Z h51 b51 k51 .byte (1 : Int32) [(.int (0 : Int32))] (.int (0 : Int32)) := (Arv.new A51 (by decide)).pad (pad_rep [] (.int (0 : Int32)) 1)
  have ge51 : n0 ≤ b51 := Nat.le_trans Z0 (Nat.le_of_eq g51.symm)
  have sz51 : h0.size ≤ b51 := Nat.le_trans (Keep.refl h0 []).1 (Nat.le_of_eq g51.symm)
  have ne52 : a1 ≠ b51 := Nat.ne_of_lt (Nat.lt_of_lt_of_le V1.lt (Nat.le_of_eq g51.symm))
  have O51 := Old.ext O0 E51
  have K51 : Keep h0 h51 [] := (Keep.refl h0 []).ext E51
  have Z51 : n0 ≤ h51.size := Nat.le_trans Z0 E51.1
  refine own_t1 (.ref b51) 3 st51 ?_
  refine own_ls #[.val (.ref a1), .val (.int (0 : Int32)), .val (.int (1 : Int32)), .val (.ref b51), .unset, .unset] 4 (fun _ q => XS.astoreN X51.here hx rfl (hb hby dj52m16_3) rfl rfl (l' := #[.val (.ref a1), .val (.int (0 : Int32)), .val (.int (1 : Int32)), .val (.ref b51), .unset, .unset]) rfl q) ?_
  refine own_tp (.ref a1) 5 (fun _ q => XS.aloadN X51.here hx rfl (hb hby dj52m16_4) rfl rfl q) ?_
  refine own_tp (.int (0 : Int32)) 6 (fun _ q => XS.iloadN X51.here hx rfl (hb hby dj52m16_5) rfl q) ?_
  refine own_tp (.ref b51) 7 (fun _ q => XS.aloadN X51.here hx rfl (hb hby dj52m16_6) rfl rfl q) ?_
  refine own_tp (.int (0 : Int32)) 8 (fun _ q => XS.iconst X51.here hx rfl (hb hby dj52m16_7) q) ?_
  refine own_tp (.int (1 : Int32)) 9 (fun _ q => XS.iloadN X51.here hx rfl (hb hby dj52m16_8) rfl q) ?_
  have f53 := (V1.ext E51)
  obtain ⟨_, _, ⟨T54, L54, k54, n54⟩, -, X54, ⟨Lc54, hQ54, l54, y54, z54⟩, st54⟩ := Jvm.LawKit.callS X51 hx (y := (⟨"java/lang/StringUTF16", "compress", "([CI[BII)I"⟩ : MethodName)) hown (mvT hZ (own_w hw 70 rfl)) (mvT hZ (own_w hw 71 rfl)) (mvT hZ (own_w hw 68 rfl)) (mvT hZ (own_w hw 72 rfl)) (by decide) (backOf (W := 0) (rm101 l Z a0 hw [] a1 b51 k1 k51 c0 h51 n0 Z51 ge51 ne52 f53 V51) hZ (own_w hw 72 rfl) (own_w hw 68 rfl) (by decide) (by decide)) (g := (mkF m 9 #[.val (.ref a1), .val (.int (0 : Int32)), .val (.int (1 : Int32)), .val (.ref b51), .unset, .unset] [(.int (1 : Int32)), (.int (0 : Int32)), (.ref b51), (.int (0 : Int32)), (.ref a1)])) rfl (by rw [hml]; rfl) (argsL := [(.ref a1), (.int (0 : Int32)), (.ref b51), (.int (0 : Int32)), (.int (1 : Int32))]) (rest := []) (lenOf pd15 rfl) rfl (by show 2 * 0 + _ ≤ _; exact Nat.le_of_eq rfl) (hb hby dj52m16_9) (fun _ _ => ⟨rfl, e51, (by decide : 1 + 0 ≤ _), (by decide : 1 + 0 ≤ _)⟩)
  dsimp only [Pt.U, Pt.locs, Pt.cells, Pt.slots] at X54 l54 y54 z54 st54 hQ54
  subst l54 y54 z54
  obtain ⟨Nq54, Kp54, hD54⟩ := hQ54
  have N54 := Fr.app N0 Nq54
  have O54 := Old.keep O51 Kp54 (allS ge51 all0)
  have Z54 : n0 ≤ T54.heap.size := Nat.le_trans Z51 Kp54.1
  have K54 : Keep h0 T54.heap [] := Keep.trans K51 Kp54 (allS (Or.inr sz51) all0)
  rcases hD54 with ⟨rfl, hxw⟩ | ⟨rfl, hxw, VL⟩
  ·
    refine own_cs [(.int (0 : Int32))] 12 st54 ?_
    refine own_ls #[.val (.ref a1), .val (.int (0 : Int32)), .val (.int (1 : Int32)), .val (.ref b51), .val (.int (0 : Int32)), .unset] 14 (fun _ q => XS.istore X54.here hx rfl (hb hby dj52m16_12) rfl (l' := #[.val (.ref a1), .val (.int (0 : Int32)), .val (.int (1 : Int32)), .val (.ref b51), .val (.int (0 : Int32)), .unset]) rfl q) ?_
    refine own_tp (.int (0 : Int32)) 16 (fun _ q => XS.iload X54.here hx rfl (hb hby dj52m16_14) rfl q) ?_
    refine own_tp (.int (1 : Int32)) 17 (fun _ q => XS.iloadN X54.here hx rfl (hb hby dj52m16_16) rfl q) ?_
    refine own_d2 20 (fun _ q => XS.icmpNo X54.here hx rfl (hb hby dj52m16_17) rfl (feq (by decide : ¬ ((0 : Int32) = (1 : Int32)))).1 q) ?_
    refine own_tp (.ref a1) 21 (fun _ q => XS.aloadN X54.here hx rfl (hb hby dj52m16_20) rfl rfl q) ?_
    refine own_tp (.int (0 : Int32)) 22 (fun _ q => XS.iloadN X54.here hx rfl (hb hby dj52m16_21) rfl q) ?_
    refine own_tp (.int (1 : Int32)) 23 (fun _ q => XS.iloadN X54.here hx rfl (hb hby dj52m16_22) rfl q) ?_
    have f55 := (f53.keep Kp54 (ninS ne52 nin0))
    obtain ⟨_, _, ⟨T56, L56, k56, n56⟩, -, X56, ⟨Lc56, hQ56, l56, y56, z56⟩, st56⟩ := Jvm.LawKit.callS X54 hx (y := (⟨"java/lang/StringUTF16", "toBytes", "([CII)[B"⟩ : MethodName)) hown (mvT hZ (own_w hw 73 rfl)) (mvT hZ (own_w hw 74 rfl)) (mvT hZ (own_w hw 68 rfl)) (mvT hZ (own_w hw 75 rfl)) (by decide) (backOf (W := 0) (rm105 l Z a0 hw [] a1 k1 c0 T54.heap n0 Z54 f55 G1 US O54) hZ (own_w hw 75 rfl) (own_w hw 68 rfl) (by decide) (by decide)) (g := (mkF m 23 #[.val (.ref a1), .val (.int (0 : Int32)), .val (.int (1 : Int32)), .val (.ref b51), .val (.int (0 : Int32)), .unset] [(.int (1 : Int32)), (.int (0 : Int32)), (.ref a1)])) rfl (by rw [hml]; rfl) (argsL := [(.ref a1), (.int (0 : Int32)), (.int (1 : Int32))]) (rest := []) (lenOf pd16 rfl) rfl (by show 2 * 0 + _ ≤ _; exact Nat.le_of_eq rfl) (hb hby dj52m16_23) (fun _ _ => ⟨rfl, rfl, (by decide : 1 + 1 ≤ _), (by decide : 1 + 2 ≤ _)⟩)
    dsimp only [Pt.U, Pt.locs, Pt.cells, Pt.slots] at X56 l56 y56 z56 st56 hQ56
    subst l56 y56 z56
    obtain ⟨ub56, ku56, rfl, Nq56, Kp56, ge56, sz56, V56⟩ := hQ56
    have ne57 : a1 ≠ ub56 := Nat.ne_of_lt (Nat.lt_of_lt_of_le f55.lt sz56)
    have s0ub56 : h0.size ≤ ub56 := Nat.le_trans K54.1 sz56
    have N56 := Fr.app N54 Nq56
    have O56 := Old.keep O54 Kp56 all0
    have Z56 : n0 ≤ T56.heap.size := Nat.le_trans Z54 Kp56.1
    have K56 : Keep h0 T56.heap [] := Keep.trans K54 Kp56 all0
    refine own_cs [(.ref ub56)] 26 st56 ?_
    refine own_ls #[.val (.ref a1), .val (.int (0 : Int32)), .val (.int (1 : Int32)), .val (.ref b51), .val (.int (0 : Int32)), .val (.ref ub56)] 28 (fun _ q => XS.astore X56.here hx rfl (hb hby dj52m16_26) rfl rfl (l' := #[.val (.ref a1), .val (.int (0 : Int32)), .val (.int (1 : Int32)), .val (.ref b51), .val (.int (0 : Int32)), .val (.ref ub56)]) rfl q) ?_
    refine own_tp (.ref ub56) 30 (fun _ q => XS.aload X56.here hx rfl (hb hby dj52m16_28) rfl rfl q) ?_
    refine own_tp (.int (0 : Int32)) 32 (fun _ q => XS.iload X56.here hx rfl (hb hby dj52m16_30) rfl q) ?_
    obtain ⟨_, _, ⟨T58, L58, k58, n58⟩, -, X58, ⟨Lc58, hQ58, l58, y58, z58⟩, st58⟩ := Jvm.LawKit.callS X56 hx (y := (⟨"java/lang/StringUTF16", "getChar", "([BI)C"⟩ : MethodName)) hown (mvT hZ (own_w hw 89 rfl)) (mvT hZ (own_w hw 90 rfl)) (mvT hZ (own_w hw 68 rfl)) (mvT hZ (own_w hw 91 rfl)) (by decide) (backOf (W := 0) (rm100 l Z a0 hw [] ub56 ku56 0 [c0] T56.heap n0 (by simp) (by simp) hc0 V56 G1 US O56) hZ (own_w hw 91 rfl) (own_w hw 68 rfl) (by decide) (by decide)) (g := (mkF m 32 #[.val (.ref a1), .val (.int (0 : Int32)), .val (.int (1 : Int32)), .val (.ref b51), .val (.int (0 : Int32)), .val (.ref ub56)] [(.int (0 : Int32)), (.ref ub56)])) rfl (by rw [hml]; rfl) (argsL := [(.ref ub56), (.int (0 : Int32))]) (rest := []) (lenOf pd4 rfl) rfl (by show 2 * 0 + _ ≤ _; exact Nat.le_of_eq rfl) (hb hby dj52m16_32) (fun _ _ => ⟨rfl, rfl, (by decide : 2 + 0 ≤ _), (by decide : 3 + 0 ≤ _)⟩)
    dsimp only [Pt.U, Pt.locs, Pt.cells, Pt.slots] at X58 l58 y58 z58 st58 hQ58
    subst l58 y58 z58
    obtain ⟨rfl, Nq58, eq58⟩ := hQ58
    have N58 := Fr.app N56 Nq58
    refine own_t2 (.int c0) 35 st58 ?_
    refine own_tp (.int (255 : Int32)) 38 (fun _ q => XS.sipush X58.here hx rfl (hb hby dj52m16_35) q) ?_
    refine own_d2 54 (fun _ q => XS.icmpYes X58.here hx rfl (pc0 := 38) (pc' := 54) rfl (hb hby dj52m16_38) rfl (tlt hxw).2.2.1 (by decide) (by decide) q) ?_
    refine own_tp (.ref ub56) 56 (fun _ q => XS.aload X58.here hx rfl (hb hby dj52m16_54) rfl rfl q) ?_
    exact own_retR X58 hx hrt (hb hby dj52m16_56) rfl rfl hlk (by decide) (by decide) eq58 (⟨ub56, _, rfl, N58, K56, ge56, s0ub56, Or.inr ⟨⟨c0, by simp, hxw⟩, V56⟩⟩)
  ·
    refine own_cs [(.int (1 : Int32))] 12 st54 ?_
    refine own_ls #[.val (.ref a1), .val (.int (0 : Int32)), .val (.int (1 : Int32)), .val (.ref b51), .val (.int (1 : Int32)), .unset] 14 (fun _ q => XS.istore X54.here hx rfl (hb hby dj52m16_12) rfl (l' := #[.val (.ref a1), .val (.int (0 : Int32)), .val (.int (1 : Int32)), .val (.ref b51), .val (.int (1 : Int32)), .unset]) rfl q) ?_
    refine own_tp (.int (1 : Int32)) 16 (fun _ q => XS.iload X54.here hx rfl (hb hby dj52m16_14) rfl q) ?_
    refine own_tp (.int (1 : Int32)) 17 (fun _ q => XS.iloadN X54.here hx rfl (hb hby dj52m16_16) rfl q) ?_
    refine own_d2 57 (fun _ q => XS.icmpYes X54.here hx rfl (pc0 := 17) (pc' := 57) rfl (hb hby dj52m16_17) rfl (teq (by decide : (1 : Int32) = (1 : Int32))).1 (by decide) (by decide) q) ?_
    refine own_tp (.ref b51) 58 (fun _ q => XS.aloadN X54.here hx rfl (hb hby dj52m16_57) rfl rfl q) ?_
    exact own_retR X54 hx hrt (hb hby dj52m16_58) rfl rfl hlk (by decide) (by decide) rfl (⟨b51, _, rfl, N54, K54, ge51, sz51, Or.inl ⟨hxw, VL⟩⟩)

def Q107  (h0 : Heap) (n0 : Nat) (v : Option Value) (h : Heap) (L : List Loc) : Prop := v = some (.int (0 : Int32)) ∧ Fr n0 L ∧ h = h0

set_option maxRecDepth 65536 in
set_option maxHeartbeats 40000000 in
theorem rm107 (l : Launch) (Z : State) (a0 : Array Value) (hw : ∀ d ∈ tables_1, d.before a0 Z = true) (ws : List Jvm.Cond) (b1 : Addr) (k1 : ClassId) (vs1 : List Value) (h0 : Heap) (n0 : Nat) (V1 : Arv Z h0 b1 k1 .byte (1 : Int32) vs1 (.int (0 : Int32))) :
    own_Met l (⟨"java/lang/StringUTF16", "coderFromArrayLen", "([BI)B"⟩ : MethodName) jdk_52_method_15_code 2 (some .byte) ws own_R_0_0_0_0 Z #[(.ref b1), (.int (1 : Int32))] h0 (Q107 h0 n0) := by
  refine own_enter #[.val (.ref b1), .val (.int (1 : Int32))] (plainFor_of_name pn_java_lang_StringUTF16) (fun m => ef_RI_2 m b1 (1 : Int32)) ?_
  intro p e s m below meth c s₁ hx hby hml hown hnm hZ hrt hlk X0 e0
  have N0 := Fr.nil n0
  refine own_tp (.int (1 : Int32)) 1 (fun _ q => XS.iloadN X0.here hx rfl (hb hby dj52m15_0) rfl q) ?_
  refine own_tp (.ref b1) 2 (fun _ q => XS.aloadN X0.here hx rfl (hb hby dj52m15_1) rfl rfl q) ?_
  obtain ⟨cl51, Ar51, -, Sz51, Nn51, -, -⟩ := (id V1)
  refine own_t1 (.int (1 : Int32)) 3 (fun t q => X0.arraylength hx (by rw [e0]; exact Ar51.1) (State.isArrayOf_alike hZ.alike Ar51.2.1) (g := (mkF m 2 #[.val (.ref b1), .val (.int (1 : Int32))] [(.ref b1), (.int (1 : Int32))])) rfl rfl (hb hby dj52m15_2) _ (by rw [len_of Sz51 Nn51]; exact q)) ?_
  refine own_t2 (.int (0 : Int32)) 4 (fun _ q => XS.isub X0.here hx rfl (hb hby dj52m15_3) rfl q) ?_
  refine own_tp (.int (31 : Int32)) 6 (fun _ q => XS.bipush X0.here hx rfl (hb hby dj52m15_4) q) ?_
  refine own_d1 7 (fun _ q => XS.iushr X0.here hx rfl (hb hby dj52m15_6) rfl q) ?_
  refine own_d0 8 (fun _ q => XS.i2b X0.here hx rfl (hb hby dj52m15_7) rfl q) ?_
  exact own_retN (t := .byte) X0 hx hrt (hb hby dj52m15_8) (by simp) hlk (by decide) (by decide) e0 (⟨rfl, N0, rfl⟩)

def Q108  (h0 : Heap) (n0 : Nat) (v : Option Value) (h : Heap) (L : List Loc) : Prop := v = some (.int (1 : Int32)) ∧ Fr n0 L ∧ h = h0

set_option maxRecDepth 65536 in
set_option maxHeartbeats 40000000 in
theorem rm108 (l : Launch) (Z : State) (a0 : Array Value) (hw : ∀ d ∈ tables_1, d.before a0 Z = true) (ws : List Jvm.Cond) (b1 : Addr) (k1 : ClassId) (vs1 : List Value) (h0 : Heap) (n0 : Nat) (V1 : Arv Z h0 b1 k1 .byte (2 : Int32) vs1 (.int (0 : Int32))) :
    own_Met l (⟨"java/lang/StringUTF16", "coderFromArrayLen", "([BI)B"⟩ : MethodName) jdk_52_method_15_code 2 (some .byte) ws own_R_0_0_0_0 Z #[(.ref b1), (.int (1 : Int32))] h0 (Q108 h0 n0) := by
  refine own_enter #[.val (.ref b1), .val (.int (1 : Int32))] (plainFor_of_name pn_java_lang_StringUTF16) (fun m => ef_RI_2 m b1 (1 : Int32)) ?_
  intro p e s m below meth c s₁ hx hby hml hown hnm hZ hrt hlk X0 e0
  have N0 := Fr.nil n0
  refine own_tp (.int (1 : Int32)) 1 (fun _ q => XS.iloadN X0.here hx rfl (hb hby dj52m15_0) rfl q) ?_
  refine own_tp (.ref b1) 2 (fun _ q => XS.aloadN X0.here hx rfl (hb hby dj52m15_1) rfl rfl q) ?_
  obtain ⟨cl51, Ar51, -, Sz51, Nn51, -, -⟩ := (id V1)
  refine own_t1 (.int (2 : Int32)) 3 (fun t q => X0.arraylength hx (by rw [e0]; exact Ar51.1) (State.isArrayOf_alike hZ.alike Ar51.2.1) (g := (mkF m 2 #[.val (.ref b1), .val (.int (1 : Int32))] [(.ref b1), (.int (1 : Int32))])) rfl rfl (hb hby dj52m15_2) _ (by rw [len_of Sz51 Nn51]; exact q)) ?_
  refine own_t2 (.int (-1 : Int32)) 4 (fun _ q => XS.isub X0.here hx rfl (hb hby dj52m15_3) rfl q) ?_
  refine own_tp (.int (31 : Int32)) 6 (fun _ q => XS.bipush X0.here hx rfl (hb hby dj52m15_4) q) ?_
  refine own_t2 (.int (1 : Int32)) 7 (fun _ q => XS.iushr X0.here hx rfl (hb hby dj52m15_6) rfl q) ?_
  refine own_d0 8 (fun _ q => XS.i2b X0.here hx rfl (hb hby dj52m15_7) rfl q) ?_
  exact own_retN (t := .byte) X0 hx hrt (hb hby dj52m15_8) (by simp) hlk (by decide) (by decide) e0 (⟨rfl, N0, rfl⟩)

theorem own_all1 {c0 : Int32} (h : ¬ (255 : Int32) < c0) : ∀ c ∈ ([c0] : List Int32), ¬ (255 : Int32) < c := by
  intro c hc
  simp only [List.mem_cons, List.not_mem_nil, or_false] at hc
  rcases hc with rfl
  · exact h

def Q109 (Z : State) (x1 : Addr) (c0 : Int32) (h0 : Heap) (n0 : Nat) (v : Option Value) (h : Heap) (L : List Loc) : Prop := v = none ∧ Fr n0 L ∧ Keep h0 h [x1] ∧ ∃ (t : Addr) (kb : ClassId) (cd N : Int32) (vs : List Value), n0 ≤ t ∧ h0.size ≤ t ∧ Exa Z h x1 "java/lang/String" ∧ Fld Z h x1 "java/lang/String" "value" "[B" (.ref t) ∧ Fld Z h x1 "java/lang/String" "coder" "B" (.int cd) ∧ Arv Z h t kb .byte N vs (.int (0 : Int32)) ∧ own_Cod ([c0] : List Int32) cd N vs

set_option maxRecDepth 65536 in
set_option maxHeartbeats 40000000 in
theorem rm109 (l : Launch) (Z : State) (a0 : Array Value) (hw : ∀ d ∈ tables_1, d.before a0 Z = true) (ws : List Jvm.Cond) (x1 a1 : Addr) (k1 : ClassId) (c0 : Int32) (u1 u2 : Value) (h0 : Heap) (n0 : Nat) (Z0 : n0 ≤ h0.size) (g1 : n0 ≤ x1) (hxa : x1 ≠ a1) (hc0 : 0 ≤ c0.toInt ∧ c0.toInt ≤ 65535) (V1 : Arv Z h0 a1 k1 .char (1 : Int32) [(.int c0)] (.int (0 : Int32))) (E1 : Exa Z h0 x1 "java/lang/String") (F1 : Fld Z h0 x1 "java/lang/String" "value" "[B" u1) (F2 : Fld Z h0 x1 "java/lang/String" "coder" "B" u2) (G1 : Int32) (US : own_US Z G1) (O0 : Old Z n0 h0) :
    own_Met l (⟨"java/lang/String", "<init>", "([CIILjava/lang/Void;)V"⟩ : MethodName) jdk_42_method_149_code 6 none ws own_R_4_2_3_61 Z #[(.ref x1), (.ref a1), (.int (0 : Int32)), (.int (1 : Int32)), .null] h0 (Q109 Z x1 c0 h0 n0) := by
  refine own_enter #[.val (.ref x1), .val (.ref a1), .val (.int (0 : Int32)), .val (.int (1 : Int32)), .val .null, .unset] (plainFor_of_name pn_java_lang_String) (fun m => ef_RRIIN_6 m x1 a1 (0 : Int32) (1 : Int32)) ?_
  intro p e s m below meth c s₁ hx hby hml hown hnm hZ hrt hlk X0 e0
  have N0 := Fr.nil n0
  refine own_tp (.ref x1) 1 (fun _ q => XS.aloadN X0.here hx rfl (hb hby dj42m149_0) rfl rfl q) ?_
  obtain ⟨T51, X51, e51, st51⟩ := initO X0 hx hZ hown (own_w hw 22 rfl) (own_w hw 23 rfl) (own_w hw 24 rfl) e0 (g := (mkF m 1 #[.val (.ref x1), .val (.ref a1), .val (.int (0 : Int32)), .val (.int (1 : Int32)), .val .null, .unset] [(.ref x1)])) rfl (by rw [hml]; rfl) rfl (hb hby dj42m149_1) (by decide) (W := 0) (by show 2 * 0 + _ ≤ _; exact Nat.le_of_eq rfl) (by decide)
  refine own_d1 4 st51 ?_
  refine own_tp (.int (1 : Int32)) 5 (fun _ q => XS.iloadN X51.here hx rfl (hb hby dj42m149_4) rfl q) ?_
  refine own_d1 27 (fun _ q => XS.ifYes X51.here hx rfl (pc0 := 5) (pc' := 27) rfl (hb hby dj42m149_5) rfl ((if0 _ _).trans (feq (by decide : ¬ ((1 : Int32) = (0 : Int32)))).2) (by decide) (by decide) q) ?_
  obtain ⟨T52, X52, e52, st52⟩ := getS2 X51 hx hZ hown (host := "") (Or.inl (own_w hw 47 rfl)) Via.refl e51 (US.2.1.ext O0.2) (g := (mkF m 27 #[.val (.ref x1), .val (.ref a1), .val (.int (0 : Int32)), .val (.int (1 : Int32)), .val .null, .unset] [])) rfl (hb hby dj42m149_27)
  refine own_tp (.int G1) 30 st52 ?_
  refine own_d1 33 (fun _ q => XS.ifNo X52.here hx rfl (hb hby dj42m149_30) rfl ((if0 _ _).trans (feq US.1).1) q) ?_
  refine own_tp (.ref a1) 34 (fun _ q => XS.aloadN X52.here hx rfl (hb hby dj42m149_33) rfl rfl q) ?_
  refine own_tp (.int (0 : Int32)) 35 (fun _ q => XS.iloadN X52.here hx rfl (hb hby dj42m149_34) rfl q) ?_
  refine own_tp (.int (1 : Int32)) 36 (fun _ q => XS.iloadN X52.here hx rfl (hb hby dj42m149_35) rfl q) ?_
  obtain ⟨_, _, ⟨T53, L53, k53, n53⟩, -, X53, ⟨Lc53, hQ53, l53, y53, z53⟩, st53⟩ := Jvm.LawKit.callS X52 hx (y := (⟨"java/lang/StringUTF16", "compress", "([CII)[B"⟩ : MethodName)) hown (mvT hZ (own_w hw 66 rfl)) (mvT hZ (own_w hw 67 rfl)) (mvT hZ (own_w hw 68 rfl)) (mvT hZ (own_w hw 69 rfl)) (by decide) (backOf (W := 0) (rm106 l Z a0 hw [] a1 k1 c0 h0 n0 Z0 hc0 V1 G1 US O0) hZ (own_w hw 69 rfl) (own_w hw 68 rfl) (by decide) (by decide)) (g := (mkF m 36 #[.val (.ref x1), .val (.ref a1), .val (.int (0 : Int32)), .val (.int (1 : Int32)), .val .null, .unset] [(.int (1 : Int32)), (.int (0 : Int32)), (.ref a1)])) rfl (by rw [hml]; rfl) (argsL := [(.ref a1), (.int (0 : Int32)), (.int (1 : Int32))]) (rest := []) (lenOf pd16 rfl) rfl (by show 2 * 0 + _ ≤ _; exact Nat.le_of_eq rfl) (hb hby dj42m149_36) (fun _ _ => ⟨rfl, e52, (by decide : 0 + 2 ≤ _), (by decide : 0 + 3 ≤ _)⟩)
  dsimp only [Pt.U, Pt.locs, Pt.cells, Pt.slots] at X53 l53 y53 z53 st53 hQ53
  subst l53 y53 z53
  obtain ⟨vb53, kv53, rfl, Nq53, Kp53, ge53, sz53, hD53⟩ := hQ53
  have ne54 : a1 ≠ vb53 := Nat.ne_of_lt (Nat.lt_of_lt_of_le V1.lt sz53)
  have ne55 : x1 ≠ vb53 := Nat.ne_of_lt (Nat.lt_of_lt_of_le E1.lt sz53)
  have s0vb53 : h0.size ≤ vb53 := Nat.le_trans (Keep.refl h0 [x1]).1 sz53
  have N53 := Fr.app N0 Nq53
  have O53 := Old.keep O0 Kp53 all0
  have Z53 : n0 ≤ T53.heap.size := Nat.le_trans Z0 Kp53.1
  have K53 : Keep h0 T53.heap [x1] := Keep.trans (Keep.refl h0 [x1]) Kp53 all0
  refine own_cs [(.ref vb53)] 39 st53 ?_
  rcases hD53 with ⟨hxw, VL⟩ | ⟨hxw, VL⟩
  ·
    refine own_ls #[.val (.ref x1), .val (.ref a1), .val (.int (0 : Int32)), .val (.int (1 : Int32)), .val .null, .val (.ref vb53)] 41 (fun _ q => XS.astore X53.here hx rfl (hb hby dj42m149_39) rfl rfl (l' := #[.val (.ref x1), .val (.ref a1), .val (.int (0 : Int32)), .val (.int (1 : Int32)), .val .null, .val (.ref vb53)]) rfl q) ?_
    refine own_tp (.ref x1) 42 (fun _ q => XS.aloadN X53.here hx rfl (hb hby dj42m149_41) rfl rfl q) ?_
    refine own_tp (.ref vb53) 44 (fun _ q => XS.aload X53.here hx rfl (hb hby dj42m149_42) rfl rfl q) ?_
    refine own_tp (.int (1 : Int32)) 45 (fun _ q => XS.iloadN X53.here hx rfl (hb hby dj42m149_44) rfl q) ?_
    obtain ⟨_, _, ⟨T56, L56, k56, n56⟩, -, X56, ⟨Lc56, hQ56, l56, y56, z56⟩, st56⟩ := Jvm.LawKit.callS X53 hx (y := (⟨"java/lang/StringUTF16", "coderFromArrayLen", "([BI)B"⟩ : MethodName)) hown (mvT hZ (own_w hw 92 rfl)) (mvT hZ (own_w hw 93 rfl)) (mvT hZ (own_w hw 68 rfl)) (mvT hZ (own_w hw 94 rfl)) (by decide) (backOf (W := 1) (rm107 l Z a0 hw [] vb53 _ _ T53.heap n0 VL) hZ (own_w hw 94 rfl) (own_w hw 68 rfl) (by decide) (by decide)) (g := (mkF m 45 #[.val (.ref x1), .val (.ref a1), .val (.int (0 : Int32)), .val (.int (1 : Int32)), .val .null, .val (.ref vb53)] [(.int (1 : Int32)), (.ref vb53), (.ref x1)])) rfl (by rw [hml]; rfl) (argsL := [(.ref vb53), (.int (1 : Int32))]) (rest := [(.ref x1)]) (lenOf pd17 rfl) rfl (by show 2 * 0 + _ ≤ _; exact Nat.le_of_eq rfl) (hb hby dj42m149_45) (fun _ _ => ⟨rfl, rfl, (by decide : 2 + 0 ≤ _), (by decide : 3 + 0 ≤ _)⟩)
    dsimp only [Pt.U, Pt.locs, Pt.cells, Pt.slots] at X56 l56 y56 z56 st56 hQ56
    subst l56 y56 z56
    obtain ⟨rfl, Nq56, eq56⟩ := hQ56
    have N56 := Fr.app N53 Nq56
    refine own_t2 (.int (0 : Int32)) 48 st56 ?_
    have f57 := (F2.keep Kp53 nin0)
    have f58 := (E1.keep Kp53)
    obtain ⟨T59, h59, X59, e59, W59, st59⟩ := putFN X56 hx hZ hown (own_w hw 32 rfl) Via.refl eq56 f57 f58 (Or.inr ⟨(own_w hw 28 rfl), rfl, hnm⟩) (own_w hw 12 rfl) (ty := .byte) (v' := (.int (0 : Int32))) (by decide) rfl rfl (g := (mkF m 48 #[.val (.ref x1), .val (.ref a1), .val (.int (0 : Int32)), .val (.int (1 : Int32)), .val .null, .val (.ref vb53)] [(.int (0 : Int32)), (.ref x1)])) rfl rfl (hb hby dj42m149_48)
    have Fw59 := f57.same W59
    have N59 := Fr.snoc X59 N56 g1
    have O59 := Old.wr O53 W59 g1
    have K59 : Keep h0 h59 [x1] := K53.wr W59 (Or.inl (List.mem_of_getElem? (i := 0) rfl))
    have Z59 : n0 ≤ h59.size := Nat.le_trans Z53 (Nat.le_of_eq W59.size.symm)
    refine own_d2 51 st59 ?_
    refine own_tp (.ref x1) 52 (fun _ q => XS.aloadN X59.here hx rfl (hb hby dj42m149_51) rfl rfl q) ?_
    refine own_tp (.ref vb53) 54 (fun _ q => XS.aload X59.here hx rfl (hb hby dj42m149_52) rfl rfl q) ?_
    have f60 := ((F1.keep Kp53 nin0).other W59 (Or.inr (slot_ne (Or.inr (own_w hw 27 rfl)) (Or.inr (own_w hw 28 rfl)) (by decide) (t := (.array .byte)) (t' := .byte) (by decide) (by decide))))
    have f61 := (f58.wr W59)
    obtain ⟨T62, h62, X62, e62, W62, st62⟩ := putF X59 hx hZ hown (host := "") (Or.inl (own_w hw 31 rfl)) Via.refl e59 f60 f61 (Or.inr ⟨(own_w hw 27 rfl), rfl, hnm⟩) (own_w hw 12 rfl) (ty := (.array .byte)) (by decide) rfl rfl (g := (mkF m 54 #[.val (.ref x1), .val (.ref a1), .val (.int (0 : Int32)), .val (.int (1 : Int32)), .val .null, .val (.ref vb53)] [(.ref vb53), (.ref x1)])) rfl rfl (hb hby dj42m149_54)
    have Fw62 := f60.same W62
    have N62 := Fr.snoc X62 N59 g1
    have O62 := Old.wr O59 W62 g1
    have K62 : Keep h0 h62 [x1] := K59.wr W62 (Or.inl (List.mem_of_getElem? (i := 0) rfl))
    have Z62 : n0 ≤ h62.size := Nat.le_trans Z59 (Nat.le_of_eq W62.size.symm)
    refine own_d2 57 st62 ?_
    have f63 := (f61.wr W62)
    have f64 := (Fw59.other W62 (Or.inr (slot_ne (Or.inr (own_w hw 28 rfl)) (Or.inr (own_w hw 27 rfl)) (by decide) (t := .byte) (t' := (.array .byte)) (by decide) (by decide))))
    have f65 := ((VL.other W59 (Ne.symm ne55)).other W62 (Ne.symm ne55))
    exact own_retV X62 hx hrt (hb hby dj42m149_57) hlk (by decide) (by decide) e62 (⟨rfl, N62, K62, vb53, _, _, _, _, ge53, s0vb53, f63, Fw62, f64, f65, Or.inl ⟨rfl, rfl, rfl, (own_all1 hxw)⟩⟩)
  ·
    refine own_ls #[.val (.ref x1), .val (.ref a1), .val (.int (0 : Int32)), .val (.int (1 : Int32)), .val .null, .val (.ref vb53)] 41 (fun _ q => XS.astore X53.here hx rfl (hb hby dj42m149_39) rfl rfl (l' := #[.val (.ref x1), .val (.ref a1), .val (.int (0 : Int32)), .val (.int (1 : Int32)), .val .null, .val (.ref vb53)]) rfl q) ?_
    refine own_tp (.ref x1) 42 (fun _ q => XS.aloadN X53.here hx rfl (hb hby dj42m149_41) rfl rfl q) ?_
    refine own_tp (.ref vb53) 44 (fun _ q => XS.aload X53.here hx rfl (hb hby dj42m149_42) rfl rfl q) ?_
    refine own_tp (.int (1 : Int32)) 45 (fun _ q => XS.iloadN X53.here hx rfl (hb hby dj42m149_44) rfl q) ?_
    obtain ⟨_, _, ⟨T66, L66, k66, n66⟩, -, X66, ⟨Lc66, hQ66, l66, y66, z66⟩, st66⟩ := Jvm.LawKit.callS X53 hx (y := (⟨"java/lang/StringUTF16", "coderFromArrayLen", "([BI)B"⟩ : MethodName)) hown (mvT hZ (own_w hw 92 rfl)) (mvT hZ (own_w hw 93 rfl)) (mvT hZ (own_w hw 68 rfl)) (mvT hZ (own_w hw 94 rfl)) (by decide) (backOf (W := 1) (rm108 l Z a0 hw [] vb53 _ _ T53.heap n0 VL) hZ (own_w hw 94 rfl) (own_w hw 68 rfl) (by decide) (by decide)) (g := (mkF m 45 #[.val (.ref x1), .val (.ref a1), .val (.int (0 : Int32)), .val (.int (1 : Int32)), .val .null, .val (.ref vb53)] [(.int (1 : Int32)), (.ref vb53), (.ref x1)])) rfl (by rw [hml]; rfl) (argsL := [(.ref vb53), (.int (1 : Int32))]) (rest := [(.ref x1)]) (lenOf pd17 rfl) rfl (by show 2 * 0 + _ ≤ _; exact Nat.le_of_eq rfl) (hb hby dj42m149_45) (fun _ _ => ⟨rfl, rfl, (by decide : 2 + 0 ≤ _), (by decide : 3 + 0 ≤ _)⟩)
    dsimp only [Pt.U, Pt.locs, Pt.cells, Pt.slots] at X66 l66 y66 z66 st66 hQ66
    subst l66 y66 z66
    obtain ⟨rfl, Nq66, eq66⟩ := hQ66
    have N66 := Fr.app N53 Nq66
    refine own_t2 (.int (1 : Int32)) 48 st66 ?_
    have f67 := (F2.keep Kp53 nin0)
    have f68 := (E1.keep Kp53)
    obtain ⟨T69, h69, X69, e69, W69, st69⟩ := putFN X66 hx hZ hown (own_w hw 32 rfl) Via.refl eq66 f67 f68 (Or.inr ⟨(own_w hw 28 rfl), rfl, hnm⟩) (own_w hw 12 rfl) (ty := .byte) (v' := (.int (1 : Int32))) (by decide) rfl rfl (g := (mkF m 48 #[.val (.ref x1), .val (.ref a1), .val (.int (0 : Int32)), .val (.int (1 : Int32)), .val .null, .val (.ref vb53)] [(.int (1 : Int32)), (.ref x1)])) rfl rfl (hb hby dj42m149_48)
    have Fw69 := f67.same W69
    have N69 := Fr.snoc X69 N66 g1
    have O69 := Old.wr O53 W69 g1
    have K69 : Keep h0 h69 [x1] := K53.wr W69 (Or.inl (List.mem_of_getElem? (i := 0) rfl))
    have Z69 : n0 ≤ h69.size := Nat.le_trans Z53 (Nat.le_of_eq W69.size.symm)
    refine own_d2 51 st69 ?_
    refine own_tp (.ref x1) 52 (fun _ q => XS.aloadN X69.here hx rfl (hb hby dj42m149_51) rfl rfl q) ?_
    refine own_tp (.ref vb53) 54 (fun _ q => XS.aload X69.here hx rfl (hb hby dj42m149_52) rfl rfl q) ?_
    have f70 := ((F1.keep Kp53 nin0).other W69 (Or.inr (slot_ne (Or.inr (own_w hw 27 rfl)) (Or.inr (own_w hw 28 rfl)) (by decide) (t := (.array .byte)) (t' := .byte) (by decide) (by decide))))
    have f71 := (f68.wr W69)
    obtain ⟨T72, h72, X72, e72, W72, st72⟩ := putF X69 hx hZ hown (host := "") (Or.inl (own_w hw 31 rfl)) Via.refl e69 f70 f71 (Or.inr ⟨(own_w hw 27 rfl), rfl, hnm⟩) (own_w hw 12 rfl) (ty := (.array .byte)) (by decide) rfl rfl (g := (mkF m 54 #[.val (.ref x1), .val (.ref a1), .val (.int (0 : Int32)), .val (.int (1 : Int32)), .val .null, .val (.ref vb53)] [(.ref vb53), (.ref x1)])) rfl rfl (hb hby dj42m149_54)
    have Fw72 := f70.same W72
    have N72 := Fr.snoc X72 N69 g1
    have O72 := Old.wr O69 W72 g1
    have K72 : Keep h0 h72 [x1] := K69.wr W72 (Or.inl (List.mem_of_getElem? (i := 0) rfl))
    have Z72 : n0 ≤ h72.size := Nat.le_trans Z69 (Nat.le_of_eq W72.size.symm)
    refine own_d2 57 st72 ?_
    have f73 := (f71.wr W72)
    have f74 := (Fw69.other W72 (Or.inr (slot_ne (Or.inr (own_w hw 28 rfl)) (Or.inr (own_w hw 27 rfl)) (by decide) (t := .byte) (t' := (.array .byte)) (by decide) (by decide))))
    have f75 := ((VL.other W69 (Ne.symm ne55)).other W72 (Ne.symm ne55))
    exact own_retV X72 hx hrt (hb hby dj42m149_57) hlk (by decide) (by decide) e72 (⟨rfl, N72, K72, vb53, _, _, _, _, ge53, s0vb53, f73, Fw72, f74, f75, Or.inr ⟨rfl, rfl, rfl, hxw⟩⟩)

def Q110 (Z : State) (x1 : Addr) (c0 : Int32) (h0 : Heap) (n0 : Nat) (v : Option Value) (h : Heap) (L : List Loc) : Prop := v = none ∧ Fr n0 L ∧ Keep h0 h [x1] ∧ ∃ (t : Addr) (kb : ClassId) (cd N : Int32) (vs : List Value), n0 ≤ t ∧ h0.size ≤ t ∧ Exa Z h x1 "java/lang/String" ∧ Fld Z h x1 "java/lang/String" "value" "[B" (.ref t) ∧ Fld Z h x1 "java/lang/String" "coder" "B" (.int cd) ∧ Arv Z h t kb .byte N vs (.int (0 : Int32)) ∧ own_Cod ([c0] : List Int32) cd N vs

set_option maxRecDepth 65536 in
set_option maxHeartbeats 40000000 in
theorem rm110 (l : Launch) (Z : State) (a0 : Array Value) (hw : ∀ d ∈ tables_1, d.before a0 Z = true) (ws : List Jvm.Cond) (x1 a1 : Addr) (k1 : ClassId) (c0 : Int32) (u1 u2 : Value) (h0 : Heap) (n0 : Nat) (Z0 : n0 ≤ h0.size) (g1 : n0 ≤ x1) (hxa : x1 ≠ a1) (hc0 : 0 ≤ c0.toInt ∧ c0.toInt ≤ 65535) (V1 : Arv Z h0 a1 k1 .char (1 : Int32) [(.int c0)] (.int (0 : Int32))) (E1 : Exa Z h0 x1 "java/lang/String") (F1 : Fld Z h0 x1 "java/lang/String" "value" "[B" u1) (F2 : Fld Z h0 x1 "java/lang/String" "coder" "B" u2) (G1 : Int32) (US : own_US Z G1) (O0 : Old Z n0 h0) :
    own_Met l (⟨"java/lang/String", "<init>", "([C)V"⟩ : MethodName) jdk_42_method_3_code 2 none ws own_R_5_2_3_78 Z #[(.ref x1), (.ref a1)] h0 (Q110 Z x1 c0 h0 n0) := by
  refine own_enter #[.val (.ref x1), .val (.ref a1)] (plainFor_of_name pn_java_lang_String) (fun m => ef_RR_2 m x1 a1) ?_
  intro p e s m below meth c s₁ hx hby hml hown hnm hZ hrt hlk X0 e0
  have N0 := Fr.nil n0
  refine own_tp (.ref x1) 1 (fun _ q => XS.aloadN X0.here hx rfl (hb hby dj42m3_0) rfl rfl q) ?_
  refine own_tp (.ref a1) 2 (fun _ q => XS.aloadN X0.here hx rfl (hb hby dj42m3_1) rfl rfl q) ?_
  refine own_tp (.int (0 : Int32)) 3 (fun _ q => XS.iconst X0.here hx rfl (hb hby dj42m3_2) q) ?_
  refine own_tp (.ref a1) 4 (fun _ q => XS.aloadN X0.here hx rfl (hb hby dj42m3_3) rfl rfl q) ?_
  obtain ⟨cl51, Ar51, -, Sz51, Nn51, -, -⟩ := (id V1)
  refine own_t1 (.int (1 : Int32)) 5 (fun t q => X0.arraylength hx (by rw [e0]; exact Ar51.1) (State.isArrayOf_alike hZ.alike Ar51.2.1) (g := (mkF m 4 #[.val (.ref x1), .val (.ref a1)] [(.ref a1), (.int (0 : Int32)), (.ref a1), (.ref x1)])) rfl rfl (hb hby dj42m3_4) _ (by rw [len_of Sz51 Nn51]; exact q)) ?_
  refine own_tp .null 6 (fun _ q => XS.aconstNull X0.here hx rfl (hb hby dj42m3_5) q) ?_
  obtain ⟨_, _, ⟨T52, L52, k52, n52⟩, -, X52, ⟨Lc52, hQ52, l52, y52, z52⟩, st52⟩ := X0.specialBack hx (y := (⟨"java/lang/String", "<init>", "([CIILjava/lang/Void;)V"⟩ : MethodName)) rfl hown (mvT hZ (own_w hw 18 rfl)) (mvT hZ (own_w hw 19 rfl)) (mvT hZ (own_w hw 21 rfl)) (by decide) (backOf (W := 0) (rm109 l Z a0 hw [] x1 a1 k1 c0 _ _ h0 n0 Z0 g1 hxa hc0 V1 E1 F1 F2 G1 US O0) hZ (own_w hw 21 rfl) (own_w hw 13 rfl) (by decide) (by decide)) (g := (mkF m 6 #[.val (.ref x1), .val (.ref a1)] [.null, (.int (1 : Int32)), (.int (0 : Int32)), (.ref a1), (.ref x1)])) rfl (by rw [hml]; rfl) (Steps.refl _) (a := x1) (argsL := [(.ref a1), (.int (0 : Int32)), (.int (1 : Int32)), .null]) (rest := []) (lenOf pd12 rfl) rfl (by show 2 * 0 + _ ≤ _; exact Nat.le_of_eq rfl) (hb hby dj42m3_6) (fun _ _ => ⟨rfl, e0, (by decide : 0 + 2 ≤ _), (by decide : 0 + 3 ≤ _)⟩)
  dsimp only [Pt.U, Pt.locs, Pt.cells, Pt.slots] at X52 l52 y52 z52 st52 hQ52
  subst l52 y52 z52
  obtain ⟨rfl, Nq52, Kp52, rest52⟩ := hQ52
  refine own_csR [] 9 st52 ?_
  exact own_retV X52 hx hrt (hb hby dj42m3_9) hlk (by decide) (by decide) rfl (⟨rfl, Fr.app N0 Nq52, Kp52, rest52⟩)

def Q111 (Z : State) (b1 : Addr) (k2 : ClassId) (c0 c1 : Int32) (h0 : Heap) (n0 : Nat) (v : Option Value) (h : Heap) (L : List Loc) : Prop := Fr n0 L ∧ Keep h0 h [b1] ∧ ((v = some (.int (0 : Int32)) ∧ (255 : Int32) < c0) ∨ (v = some (.int (1 : Int32)) ∧ (255 : Int32) < c1) ∨ (v = some (.int (2 : Int32)) ∧ (¬ (255 : Int32) < c0 ∧ ¬ (255 : Int32) < c1) ∧ Arv Z h b1 k2 .byte (2 : Int32) [(.int (own_lo c0)), (.int (own_lo c1))] (.int (0 : Int32))))

set_option maxRecDepth 65536 in
set_option maxHeartbeats 40000000 in
theorem rm111 (l : Launch) (Z : State) (a0 : Array Value) (hw : ∀ d ∈ tables_1, d.before a0 Z = true) (ws : List Jvm.Cond) (a1 b1 : Addr) (k1 k2 : ClassId) (c0 c1 : Int32) (h0 : Heap) (n0 : Nat) (Z0 : n0 ≤ h0.size) (g1 : n0 ≤ b1) (hab : a1 ≠ b1) (V1 : Arv Z h0 a1 k1 .char (2 : Int32) [(.int c0), (.int c1)] (.int (0 : Int32))) (V2 : Arv Z h0 b1 k2 .byte (2 : Int32) [(.int (0 : Int32)), (.int (0 : Int32))] (.int (0 : Int32))) :
    own_Met l (⟨"java/lang/StringUTF16", "compress", "([CI[BII)I"⟩ : MethodName) jdk_52_method_21_code 7 (some .int) ws own_R_0_0_0_0 Z #[(.ref a1), (.int (0 : Int32)), (.ref b1), (.int (0 : Int32)), (.int (2 : Int32))] h0 (Q111 Z b1 k2 c0 c1 h0 n0) := by
  refine own_enter #[.val (.ref a1), .val (.int (0 : Int32)), .val (.ref b1), .val (.int (0 : Int32)), .val (.int (2 : Int32)), .unset, .unset] (plainFor_of_name pn_java_lang_StringUTF16) (fun m => ef_RIRII_7 m a1 (0 : Int32) b1 (0 : Int32) (2 : Int32)) ?_
  intro p e s m below meth c s₁ hx hby hml hown hnm hZ hrt hlk X0 e0
  have N0 := Fr.nil n0
  refine own_tp (.int (0 : Int32)) 1 (fun _ q => XS.iconst X0.here hx rfl (hb hby dj52m21_0) q) ?_
  refine own_ls #[.val (.ref a1), .val (.int (0 : Int32)), .val (.ref b1), .val (.int (0 : Int32)), .val (.int (2 : Int32)), .val (.int (0 : Int32)), .unset] 3 (fun _ q => XS.istore X0.here hx rfl (hb hby dj52m21_1) rfl (l' := #[.val (.ref a1), .val (.int (0 : Int32)), .val (.ref b1), .val (.int (0 : Int32)), .val (.int (2 : Int32)), .val (.int (0 : Int32)), .unset]) rfl q) ?_
  refine own_tp (.int (0 : Int32)) 5 (fun _ q => XS.iload X0.here hx rfl (hb hby dj52m21_3) rfl q) ?_
  refine own_tp (.int (2 : Int32)) 7 (fun _ q => XS.iload X0.here hx rfl (hb hby dj52m21_5) rfl q) ?_
  refine own_d2 10 (fun _ q => XS.icmpNo X0.here hx rfl (hb hby dj52m21_7) rfl (tlt (by decide : (0 : Int32) < (2 : Int32))).2.1 q) ?_
  refine own_tp (.ref a1) 11 (fun _ q => XS.aloadN X0.here hx rfl (hb hby dj52m21_10) rfl rfl q) ?_
  refine own_tp (.int (0 : Int32)) 12 (fun _ q => XS.iloadN X0.here hx rfl (hb hby dj52m21_11) rfl q) ?_
  obtain ⟨cl51, Ar51, q51, S51, Nn51, H51, G51⟩ := (id V1)
  have hin51 : ¬ ((0 : Int32) < 0 ∨ cl51.slots.size ≤ ((0 : Int32)).toNatClampNeg) := inb_of S51 ⟨by decide, by decide⟩
  have hat51 : cl51.slots[((0 : Int32)).toNatClampNeg]? = some (.int c0) := H51.at hin51 rfl
  refine own_t2 (.int c0) 13 (fun _ q => X0.caload hx (j := (0 : Int32)) (v := (.int c0)) (by rw [e0]; exact Ar51.1) (State.isArrayOf_alike hZ.alike Ar51.2.1) Ar51.2.2 hin51 hat51 (g := (mkF m 12 #[.val (.ref a1), .val (.int (0 : Int32)), .val (.ref b1), .val (.int (0 : Int32)), .val (.int (2 : Int32)), .val (.int (0 : Int32)), .unset] [(.int (0 : Int32)), (.ref a1)])) rfl rfl (hb hby dj52m21_12) _ q) ?_
  refine own_ls #[.val (.ref a1), .val (.int (0 : Int32)), .val (.ref b1), .val (.int (0 : Int32)), .val (.int (2 : Int32)), .val (.int (0 : Int32)), .val (.int c0)] 15 (fun _ q => XS.istore X0.here hx rfl (hb hby dj52m21_13) rfl (l' := #[.val (.ref a1), .val (.int (0 : Int32)), .val (.ref b1), .val (.int (0 : Int32)), .val (.int (2 : Int32)), .val (.int (0 : Int32)), .val (.int c0)]) rfl q) ?_
  refine own_tp (.int c0) 17 (fun _ q => XS.iload X0.here hx rfl (hb hby dj52m21_15) rfl q) ?_
  refine own_tp (.int (255 : Int32)) 20 (fun _ q => XS.sipush X0.here hx rfl (hb hby dj52m21_17) q) ?_
  by_cases c52 : (255 : Int32) < c0
  ·
    refine own_d2 23 (fun _ q => XS.icmpNo X0.here hx rfl (hb hby dj52m21_20) rfl (tlt c52).2.2.2 q) ?_
    refine own_tp (.int (0 : Int32)) 25 (fun _ q => XS.iload X0.here hx rfl (hb hby dj52m21_23) rfl q) ?_
    exact own_retI X0 hx hrt (hb hby dj52m21_25) hlk (by decide) (by decide) e0 (⟨N0, (Keep.refl h0 [b1]), (Or.inl ⟨rfl, c52⟩)⟩)
  ·
    refine own_d2 26 (fun _ q => XS.icmpYes X0.here hx rfl (pc0 := 20) (pc' := 26) rfl (hb hby dj52m21_20) rfl (flt c52).2.2.2 (by decide) (by decide) q) ?_
    refine own_tp (.ref b1) 27 (fun _ q => XS.aloadN X0.here hx rfl (hb hby dj52m21_26) rfl rfl q) ?_
    refine own_tp (.int (0 : Int32)) 28 (fun _ q => XS.iloadN X0.here hx rfl (hb hby dj52m21_27) rfl q) ?_
    refine own_tp (.int c0) 30 (fun _ q => XS.iload X0.here hx rfl (hb hby dj52m21_28) rfl q) ?_
    refine own_t1 (.int (c0.toInt8.toInt32)) 31 (fun _ q => XS.i2b X0.here hx rfl (hb hby dj52m21_30) rfl q) ?_
    obtain ⟨cl53, Ar53, q53, S53, Nn53, H53, G53⟩ := (id V2)
    have hin53 : ¬ ((0 : Int32) < 0 ∨ cl53.slots.size ≤ ((0 : Int32)).toNatClampNeg) := inb_of S53 ⟨by decide, by decide⟩
    obtain ⟨T54, h54, X54, e54, W54, st54⟩ := stB X0 hx hZ e0 Ar53 (j := (0 : Int32)) hin53 (g := (mkF m 31 #[.val (.ref a1), .val (.int (0 : Int32)), .val (.ref b1), .val (.int (0 : Int32)), .val (.int (2 : Int32)), .val (.int (0 : Int32)), .val (.int c0)] [(.int (c0.toInt8.toInt32)), (.int (0 : Int32)), (.ref b1)])) rfl rfl (hb hby dj52m21_31)
    have V54 := Arv.set Ar53 q53 S53 Nn53 H53 G53 (fits_nar_byte _) W54 0 rfl (Nat.le_of_ble_eq_true rfl)
    have N54 := Fr.snoc X54 N0 g1
    have K54 : Keep h0 h54 [b1] := (Keep.refl h0 [b1]).wr W54 (Or.inl (List.mem_of_getElem? (i := 0) rfl))
    have Z54 : n0 ≤ h54.size := Nat.le_trans Z0 (Nat.le_of_eq W54.size.symm)
    have V54' : Arv Z h54 b1 k2 .byte (2 : Int32) [(.int (c0.toInt8.toInt32)), (.int (0 : Int32))] (.int (0 : Int32)) := by have q := V54; first | (rw [own_nb] at q; exact q) | (rw [own_nb2] at q; exact q)
    refine own_cs [] 32 st54 ?_
    refine own_li #[.val (.ref a1), .val (.int (1 : Int32)), .val (.ref b1), .val (.int (0 : Int32)), .val (.int (2 : Int32)), .val (.int (0 : Int32)), .val (.int c0)] 35 (fun _ q => XS.iinc X54.here hx rfl (hb hby dj52m21_32) rfl (l' := #[.val (.ref a1), .val (.int (1 : Int32)), .val (.ref b1), .val (.int (0 : Int32)), .val (.int (2 : Int32)), .val (.int (0 : Int32)), .val (.int c0)]) rfl q) ?_
    refine own_li #[.val (.ref a1), .val (.int (1 : Int32)), .val (.ref b1), .val (.int (1 : Int32)), .val (.int (2 : Int32)), .val (.int (0 : Int32)), .val (.int c0)] 38 (fun _ q => XS.iinc X54.here hx rfl (hb hby dj52m21_35) rfl (l' := #[.val (.ref a1), .val (.int (1 : Int32)), .val (.ref b1), .val (.int (1 : Int32)), .val (.int (2 : Int32)), .val (.int (0 : Int32)), .val (.int c0)]) rfl q) ?_
    refine own_li #[.val (.ref a1), .val (.int (1 : Int32)), .val (.ref b1), .val (.int (1 : Int32)), .val (.int (2 : Int32)), .val (.int (1 : Int32)), .val (.int c0)] 41 (fun _ q => XS.iinc X54.here hx rfl (hb hby dj52m21_38) rfl (l' := #[.val (.ref a1), .val (.int (1 : Int32)), .val (.ref b1), .val (.int (1 : Int32)), .val (.int (2 : Int32)), .val (.int (1 : Int32)), .val (.int c0)]) rfl q) ?_
    refine own_d0 3 (fun _ q => XS.goto X54.here hx rfl (pc0 := 41) (pc' := 3) rfl (hb hby dj52m21_41) (by decide) (by decide) q) ?_
    refine own_tp (.int (1 : Int32)) 5 (fun _ q => XS.iload X54.here hx rfl (hb hby dj52m21_3) rfl q) ?_
    refine own_tp (.int (2 : Int32)) 7 (fun _ q => XS.iload X54.here hx rfl (hb hby dj52m21_5) rfl q) ?_
    refine own_d2 10 (fun _ q => XS.icmpNo X54.here hx rfl (hb hby dj52m21_7) rfl (tlt (by decide : (1 : Int32) < (2 : Int32))).2.1 q) ?_
    refine own_tp (.ref a1) 11 (fun _ q => XS.aloadN X54.here hx rfl (hb hby dj52m21_10) rfl rfl q) ?_
    refine own_tp (.int (1 : Int32)) 12 (fun _ q => XS.iloadN X54.here hx rfl (hb hby dj52m21_11) rfl q) ?_
    have f55 := (V1.other W54 hab)
    obtain ⟨cl56, Ar56, q56, S56, Nn56, H56, G56⟩ := (id f55)
    have hin56 : ¬ ((1 : Int32) < 0 ∨ cl56.slots.size ≤ ((1 : Int32)).toNatClampNeg) := inb_of S56 ⟨by decide, by decide⟩
    have hat56 : cl56.slots[((1 : Int32)).toNatClampNeg]? = some (.int c1) := H56.at hin56 rfl
    refine own_t2 (.int c1) 13 (fun _ q => X54.caload hx (j := (1 : Int32)) (v := (.int c1)) (by rw [e54]; exact Ar56.1) (State.isArrayOf_alike hZ.alike Ar56.2.1) Ar56.2.2 hin56 hat56 (g := (mkF m 12 #[.val (.ref a1), .val (.int (1 : Int32)), .val (.ref b1), .val (.int (1 : Int32)), .val (.int (2 : Int32)), .val (.int (1 : Int32)), .val (.int c0)] [(.int (1 : Int32)), (.ref a1)])) rfl rfl (hb hby dj52m21_12) _ q) ?_
    refine own_ls #[.val (.ref a1), .val (.int (1 : Int32)), .val (.ref b1), .val (.int (1 : Int32)), .val (.int (2 : Int32)), .val (.int (1 : Int32)), .val (.int c1)] 15 (fun _ q => XS.istore X54.here hx rfl (hb hby dj52m21_13) rfl (l' := #[.val (.ref a1), .val (.int (1 : Int32)), .val (.ref b1), .val (.int (1 : Int32)), .val (.int (2 : Int32)), .val (.int (1 : Int32)), .val (.int c1)]) rfl q) ?_
    refine own_tp (.int c1) 17 (fun _ q => XS.iload X54.here hx rfl (hb hby dj52m21_15) rfl q) ?_
    refine own_tp (.int (255 : Int32)) 20 (fun _ q => XS.sipush X54.here hx rfl (hb hby dj52m21_17) q) ?_
    by_cases c57 : (255 : Int32) < c1
    ·
      refine own_d2 23 (fun _ q => XS.icmpNo X54.here hx rfl (hb hby dj52m21_20) rfl (tlt c57).2.2.2 q) ?_
      refine own_tp (.int (1 : Int32)) 25 (fun _ q => XS.iload X54.here hx rfl (hb hby dj52m21_23) rfl q) ?_
      exact own_retI X54 hx hrt (hb hby dj52m21_25) hlk (by decide) (by decide) e54 (⟨N54, K54, (Or.inr (Or.inl ⟨rfl, c57⟩))⟩)
    ·
      refine own_d2 26 (fun _ q => XS.icmpYes X54.here hx rfl (pc0 := 20) (pc' := 26) rfl (hb hby dj52m21_20) rfl (flt c57).2.2.2 (by decide) (by decide) q) ?_
      refine own_tp (.ref b1) 27 (fun _ q => XS.aloadN X54.here hx rfl (hb hby dj52m21_26) rfl rfl q) ?_
      refine own_tp (.int (1 : Int32)) 28 (fun _ q => XS.iloadN X54.here hx rfl (hb hby dj52m21_27) rfl q) ?_
      refine own_tp (.int c1) 30 (fun _ q => XS.iload X54.here hx rfl (hb hby dj52m21_28) rfl q) ?_
      refine own_t1 (.int (c1.toInt8.toInt32)) 31 (fun _ q => XS.i2b X54.here hx rfl (hb hby dj52m21_30) rfl q) ?_
      obtain ⟨cl58, Ar58, q58, S58, Nn58, H58, G58⟩ := (id V54')
      have hin58 : ¬ ((1 : Int32) < 0 ∨ cl58.slots.size ≤ ((1 : Int32)).toNatClampNeg) := inb_of S58 ⟨by decide, by decide⟩
      obtain ⟨T59, h59, X59, e59, W59, st59⟩ := stB X54 hx hZ e54 Ar58 (j := (1 : Int32)) hin58 (g := (mkF m 31 #[.val (.ref a1), .val (.int (1 : Int32)), .val (.ref b1), .val (.int (1 : Int32)), .val (.int (2 : Int32)), .val (.int (1 : Int32)), .val (.int c1)] [(.int (c1.toInt8.toInt32)), (.int (1 : Int32)), (.ref b1)])) rfl rfl (hb hby dj52m21_31)
      have V59 := Arv.set Ar58 q58 S58 Nn58 H58 G58 (fits_nar_byte _) W59 1 rfl (Nat.le_of_ble_eq_true rfl)
      have N59 := Fr.snoc X59 N54 g1
      have K59 : Keep h0 h59 [b1] := K54.wr W59 (Or.inl (List.mem_of_getElem? (i := 0) rfl))
      have Z59 : n0 ≤ h59.size := Nat.le_trans Z54 (Nat.le_of_eq W59.size.symm)
      have V59' : Arv Z h59 b1 k2 .byte (2 : Int32) [(.int (c0.toInt8.toInt32)), (.int (c1.toInt8.toInt32))] (.int (0 : Int32)) := by have q := V59; first | (rw [own_nb] at q; exact q) | (rw [own_nb2] at q; exact q)
      refine own_cs [] 32 st59 ?_
      refine own_li #[.val (.ref a1), .val (.int (2 : Int32)), .val (.ref b1), .val (.int (1 : Int32)), .val (.int (2 : Int32)), .val (.int (1 : Int32)), .val (.int c1)] 35 (fun _ q => XS.iinc X59.here hx rfl (hb hby dj52m21_32) rfl (l' := #[.val (.ref a1), .val (.int (2 : Int32)), .val (.ref b1), .val (.int (1 : Int32)), .val (.int (2 : Int32)), .val (.int (1 : Int32)), .val (.int c1)]) rfl q) ?_
      refine own_li #[.val (.ref a1), .val (.int (2 : Int32)), .val (.ref b1), .val (.int (2 : Int32)), .val (.int (2 : Int32)), .val (.int (1 : Int32)), .val (.int c1)] 38 (fun _ q => XS.iinc X59.here hx rfl (hb hby dj52m21_35) rfl (l' := #[.val (.ref a1), .val (.int (2 : Int32)), .val (.ref b1), .val (.int (2 : Int32)), .val (.int (2 : Int32)), .val (.int (1 : Int32)), .val (.int c1)]) rfl q) ?_
      refine own_li #[.val (.ref a1), .val (.int (2 : Int32)), .val (.ref b1), .val (.int (2 : Int32)), .val (.int (2 : Int32)), .val (.int (2 : Int32)), .val (.int c1)] 41 (fun _ q => XS.iinc X59.here hx rfl (hb hby dj52m21_38) rfl (l' := #[.val (.ref a1), .val (.int (2 : Int32)), .val (.ref b1), .val (.int (2 : Int32)), .val (.int (2 : Int32)), .val (.int (2 : Int32)), .val (.int c1)]) rfl q) ?_
      refine own_d0 3 (fun _ q => XS.goto X59.here hx rfl (pc0 := 41) (pc' := 3) rfl (hb hby dj52m21_41) (by decide) (by decide) q) ?_
      refine own_tp (.int (2 : Int32)) 5 (fun _ q => XS.iload X59.here hx rfl (hb hby dj52m21_3) rfl q) ?_
      refine own_tp (.int (2 : Int32)) 7 (fun _ q => XS.iload X59.here hx rfl (hb hby dj52m21_5) rfl q) ?_
      refine own_d2 44 (fun _ q => XS.icmpYes X59.here hx rfl (pc0 := 7) (pc' := 44) rfl (hb hby dj52m21_7) rfl (flt (by decide : ¬ ((2 : Int32) < (2 : Int32)))).2.1 (by decide) (by decide) q) ?_
      refine own_tp (.int (2 : Int32)) 46 (fun _ q => XS.iload X59.here hx rfl (hb hby dj52m21_44) rfl q) ?_
      exact own_retI X59 hx hrt (hb hby dj52m21_46) hlk (by decide) (by decide) e59 (⟨N59, K59, (Or.inr (Or.inr ⟨rfl, ⟨c52, c57⟩, V59'⟩))⟩)

def Q112  (h0 : Heap) (n0 : Nat) (v : Option Value) (h : Heap) (L : List Loc) : Prop := v = some (.int (4 : Int32)) ∧ Fr n0 L ∧ h = h0

set_option maxRecDepth 65536 in
set_option maxHeartbeats 40000000 in
theorem rm112 (l : Launch) (Z : State) (a0 : Array Value) (hw : ∀ d ∈ tables_1, d.before a0 Z = true) (ws : List Jvm.Cond)  (h0 : Heap) (n0 : Nat)  :
    own_Met l (⟨"java/lang/StringUTF16", "newBytesLength", "(I)I"⟩ : MethodName) jdk_52_method_3_code 1 (some .int) ws own_R_0_0_0_0 Z #[(.int (2 : Int32))] h0 (Q112 h0 n0) := by
  refine own_enter #[.val (.int (2 : Int32))] (plainFor_of_name pn_java_lang_StringUTF16) (fun m => ef_I_1 m (2 : Int32)) ?_
  intro p e s m below meth c s₁ hx hby hml hown hnm hZ hrt hlk X0 e0
  have N0 := Fr.nil n0
  refine own_tp (.int (2 : Int32)) 1 (fun _ q => XS.iloadN X0.here hx rfl (hb hby dj52m3_0) rfl q) ?_
  refine own_d1 12 (fun _ q => XS.ifYes X0.here hx rfl (pc0 := 1) (pc' := 12) rfl (hb hby dj52m3_1) rfl ((if0 _ _).trans (flt (by decide : ¬ ((2 : Int32) < (0 : Int32)))).2.1) (by decide) (by decide) q) ?_
  refine own_tp (.int (2 : Int32)) 13 (fun _ q => XS.iloadN X0.here hx rfl (hb hby dj52m3_12) rfl q) ?_
  refine own_tp (.int (1073741823 : Int32)) 15 (fun _ q => X0.ldcInt hx hown (mvT hZ (own_w hw 82 rfl)) (g := (mkF m 13 #[.val (.int (2 : Int32))] [(.int (2 : Int32))])) rfl (hb hby dj52m3_13) _ q) ?_
  refine own_d2 55 (fun _ q => XS.icmpYes X0.here hx rfl (pc0 := 15) (pc' := 55) rfl (hb hby dj52m3_15) rfl (tlt (by decide : (2 : Int32) < (1073741823 : Int32))).1 (by decide) (by decide) q) ?_
  refine own_tp (.int (2 : Int32)) 56 (fun _ q => XS.iloadN X0.here hx rfl (hb hby dj52m3_55) rfl q) ?_
  refine own_tp (.int (1 : Int32)) 57 (fun _ q => XS.iconst X0.here hx rfl (hb hby dj52m3_56) q) ?_
  refine own_t2 (.int (4 : Int32)) 58 (fun _ q => XS.ishl X0.here hx rfl (hb hby dj52m3_57) rfl q) ?_
  exact own_retI X0 hx hrt (hb hby dj52m3_58) hlk (by decide) (by decide) e0 (⟨rfl, N0, rfl⟩)

def Q113 (Z : State) (h0 : Heap) (n0 : Nat) (v : Option Value) (h : Heap) (L : List Loc) : Prop := ∃ (b : Addr) (k : ClassId), v = some (.ref b) ∧ Fr n0 L ∧ Keep h0 h [] ∧ n0 ≤ b ∧ h0.size ≤ b ∧ Arv Z h b k .byte (4 : Int32) [(.int (0 : Int32)), (.int (0 : Int32)), (.int (0 : Int32)), (.int (0 : Int32))] (.int (0 : Int32))

set_option maxRecDepth 65536 in
set_option maxHeartbeats 40000000 in
theorem rm113 (l : Launch) (Z : State) (a0 : Array Value) (hw : ∀ d ∈ tables_1, d.before a0 Z = true) (ws : List Jvm.Cond)  (h0 : Heap) (n0 : Nat) (Z0 : n0 ≤ h0.size) :
    own_Met l (⟨"java/lang/StringUTF16", "newBytesFor", "(I)[B"⟩ : MethodName) jdk_52_method_2_code 1 (some (.array .byte)) ws own_R_1_1_4_12 Z #[(.int (2 : Int32))] h0 (Q113 Z h0 n0) := by
  refine own_enter #[.val (.int (2 : Int32))] (plainFor_of_name pn_java_lang_StringUTF16) (fun m => ef_I_1 m (2 : Int32)) ?_
  intro p e s m below meth c s₁ hx hby hml hown hnm hZ hrt hlk X0 e0
  have N0 := Fr.nil n0
  refine own_tp (.int (2 : Int32)) 1 (fun _ q => XS.iloadN X0.here hx rfl (hb hby dj52m2_0) rfl q) ?_
  obtain ⟨_, _, ⟨T51, L51, k51, n51⟩, -, X51, ⟨Lc51, hQ51, l51, y51, z51⟩, st51⟩ := Jvm.LawKit.callS X0 hx (y := (⟨"java/lang/StringUTF16", "newBytesLength", "(I)I"⟩ : MethodName)) hown (mvT hZ (own_w hw 79 rfl)) (mvT hZ (own_w hw 80 rfl)) (mvT hZ (own_w hw 68 rfl)) (mvT hZ (own_w hw 81 rfl)) (by decide) (backOf (W := 0) (rm112 l Z a0 hw [] h0 n0) hZ (own_w hw 81 rfl) (own_w hw 68 rfl) (by decide) (by decide)) (g := (mkF m 1 #[.val (.int (2 : Int32))] [(.int (2 : Int32))])) rfl (by rw [hml]; rfl) (argsL := [(.int (2 : Int32))]) (rest := []) (lenOf pd11 rfl) rfl (by show 2 * 0 + _ ≤ _; exact Nat.le_of_eq rfl) (hb hby dj52m2_1) (fun _ _ => ⟨rfl, e0, (by decide : 0 + 0 ≤ _), (by decide : 0 + 0 ≤ _)⟩)
  dsimp only [Pt.U, Pt.locs, Pt.cells, Pt.slots] at X51 l51 y51 z51 st51 hQ51
  subst l51 y51 z51
  obtain ⟨rfl, Nq51, eq51⟩ := hQ51
  have N51 := Fr.app N0 Nq51
  refine own_t1 (.int (4 : Int32)) 4 st51 ?_
  obtain ⟨T52, h52, k52, X52, e52, E52, A52, st52⟩ := newP X51 hx hZ (own_w hw 26 rfl) eq51 (g := (mkF m 4 #[.val (.int (2 : Int32))] [(.int (4 : Int32))])) rfl (hb hby dj52m2_4) rfl (by decide) (cap := 4) (by decide) (by decide) (by decide) (by decide)
  obtain ⟨b52, g52⟩ : ∃ z, z = h0.size := ⟨_, rfl⟩
  rw [← g52] at A52 st52
  have V52 : Arv Z h52 b52 k52 .byte (4 : Int32) [(.int (0 : Int32)), (.int (0 : Int32)), (.int (0 : Int32)), (.int (0 : Int32))] (.int (0 : Int32)) := (Arv.new A52 (by decide)).pad (pad_rep [] (.int (0 : Int32)) 4)
  have ge52 : n0 ≤ b52 := Nat.le_trans Z0 (Nat.le_of_eq g52.symm)
  have sz52 : h0.size ≤ b52 := Nat.le_trans (Keep.refl h0 []).1 (Nat.le_of_eq g52.symm)
  have K52 : Keep h0 h52 [] := (Keep.refl h0 []).ext E52
  have Z52 : n0 ≤ h52.size := Nat.le_trans Z0 E52.1
  refine own_t1 (.ref b52) 6 st52 ?_
  exact own_retR X52 hx hrt (hb hby dj52m2_6) rfl rfl hlk (by decide) (by decide) e52 (⟨b52, _, rfl, N51, K52, ge52, sz52, V52⟩)

def Q114 (Z : State) (c0 c1 : Int32) (h0 : Heap) (n0 : Nat) (v : Option Value) (h : Heap) (L : List Loc) : Prop := ∃ (b : Addr) (k : ClassId), v = some (.ref b) ∧ Fr n0 L ∧ Keep h0 h [] ∧ n0 ≤ b ∧ h0.size ≤ b ∧ Arv Z h b k .byte (4 : Int32) [(.int (own_b0 c0)), (.int (own_b1 c0)), (.int (own_b0 c1)), (.int (own_b1 c1))] (.int (0 : Int32))

set_option maxRecDepth 65536 in
set_option maxHeartbeats 40000000 in
theorem rm114 (l : Launch) (Z : State) (a0 : Array Value) (hw : ∀ d ∈ tables_1, d.before a0 Z = true) (ws : List Jvm.Cond) (a1 : Addr) (k1 : ClassId) (c0 c1 : Int32) (h0 : Heap) (n0 : Nat) (Z0 : n0 ≤ h0.size) (V1 : Arv Z h0 a1 k1 .char (2 : Int32) [(.int c0), (.int c1)] (.int (0 : Int32))) (G1 : Int32) (US : own_US Z G1) (O0 : Old Z n0 h0) :
    own_Met l (⟨"java/lang/StringUTF16", "toBytes", "([CII)[B"⟩ : MethodName) jdk_52_method_14_code 5 (some (.array .byte)) ws own_R_2_1_4_24 Z #[(.ref a1), (.int (0 : Int32)), (.int (2 : Int32))] h0 (Q114 Z c0 c1 h0 n0) := by
  refine own_enter #[.val (.ref a1), .val (.int (0 : Int32)), .val (.int (2 : Int32)), .unset, .unset] (plainFor_of_name pn_java_lang_StringUTF16) (fun m => ef_RII_5 m a1 (0 : Int32) (2 : Int32)) ?_
  intro p e s m below meth c s₁ hx hby hml hown hnm hZ hrt hlk X0 e0
  have N0 := Fr.nil n0
  refine own_tp (.int (2 : Int32)) 1 (fun _ q => XS.iloadN X0.here hx rfl (hb hby dj52m14_0) rfl q) ?_
  obtain ⟨_, _, ⟨T51, L51, k51, n51⟩, -, X51, ⟨Lc51, hQ51, l51, y51, z51⟩, st51⟩ := Jvm.LawKit.callS X0 hx (y := (⟨"java/lang/StringUTF16", "newBytesFor", "(I)[B"⟩ : MethodName)) hown (mvT hZ (own_w hw 76 rfl)) (mvT hZ (own_w hw 77 rfl)) (mvT hZ (own_w hw 68 rfl)) (mvT hZ (own_w hw 78 rfl)) (by decide) (backOf (W := 0) (rm113 l Z a0 hw [] h0 n0 Z0) hZ (own_w hw 78 rfl) (own_w hw 68 rfl) (by decide) (by decide)) (g := (mkF m 1 #[.val (.ref a1), .val (.int (0 : Int32)), .val (.int (2 : Int32)), .unset, .unset] [(.int (2 : Int32))])) rfl (by rw [hml]; rfl) (argsL := [(.int (2 : Int32))]) (rest := []) (lenOf pd13 rfl) rfl (by show 2 * 0 + _ ≤ _; exact Nat.le_of_eq rfl) (hb hby dj52m14_1) (fun _ _ => ⟨rfl, e0, (by decide : 0 + 1 ≤ _), (by decide : 0 + 4 ≤ _)⟩)
  dsimp only [Pt.U, Pt.locs, Pt.cells, Pt.slots] at X51 l51 y51 z51 st51 hQ51
  subst l51 y51 z51
  obtain ⟨nb51, kn51, rfl, Nq51, Kp51, ge51, sz51, V51⟩ := hQ51
  have ne52 : a1 ≠ nb51 := Nat.ne_of_lt (Nat.lt_of_lt_of_le V1.lt sz51)
  have s0nb51 : h0.size ≤ nb51 := Nat.le_trans (Keep.refl h0 []).1 sz51
  have N51 := Fr.app N0 Nq51
  have O51 := Old.keep O0 Kp51 all0
  have Z51 : n0 ≤ T51.heap.size := Nat.le_trans Z0 Kp51.1
  have K51 : Keep h0 T51.heap [] := Keep.trans (Keep.refl h0 []) Kp51 all0
  refine own_t1 (.ref nb51) 4 st51 ?_
  refine own_ls #[.val (.ref a1), .val (.int (0 : Int32)), .val (.int (2 : Int32)), .val (.ref nb51), .unset] 5 (fun _ q => XS.astoreN X51.here hx rfl (hb hby dj52m14_4) rfl rfl (l' := #[.val (.ref a1), .val (.int (0 : Int32)), .val (.int (2 : Int32)), .val (.ref nb51), .unset]) rfl q) ?_
  refine own_tp (.int (0 : Int32)) 6 (fun _ q => XS.iconst X51.here hx rfl (hb hby dj52m14_5) q) ?_
  refine own_ls #[.val (.ref a1), .val (.int (0 : Int32)), .val (.int (2 : Int32)), .val (.ref nb51), .val (.int (0 : Int32))] 8 (fun _ q => XS.istore X51.here hx rfl (hb hby dj52m14_6) rfl (l' := #[.val (.ref a1), .val (.int (0 : Int32)), .val (.int (2 : Int32)), .val (.ref nb51), .val (.int (0 : Int32))]) rfl q) ?_
  refine own_tp (.int (0 : Int32)) 10 (fun _ q => XS.iload X51.here hx rfl (hb hby dj52m14_8) rfl q) ?_
  refine own_tp (.int (2 : Int32)) 11 (fun _ q => XS.iloadN X51.here hx rfl (hb hby dj52m14_10) rfl q) ?_
  refine own_d2 14 (fun _ q => XS.icmpNo X51.here hx rfl (hb hby dj52m14_11) rfl (tlt (by decide : (0 : Int32) < (2 : Int32))).2.1 q) ?_
  refine own_tp (.ref nb51) 15 (fun _ q => XS.aloadN X51.here hx rfl (hb hby dj52m14_14) rfl rfl q) ?_
  refine own_tp (.int (0 : Int32)) 17 (fun _ q => XS.iload X51.here hx rfl (hb hby dj52m14_15) rfl q) ?_
  refine own_tp (.ref a1) 18 (fun _ q => XS.aloadN X51.here hx rfl (hb hby dj52m14_17) rfl rfl q) ?_
  refine own_tp (.int (0 : Int32)) 19 (fun _ q => XS.iloadN X51.here hx rfl (hb hby dj52m14_18) rfl q) ?_
  have f53 := (V1.keep Kp51 nin0)
  obtain ⟨cl54, Ar54, q54, S54, Nn54, H54, G54⟩ := (id f53)
  have hin54 : ¬ ((0 : Int32) < 0 ∨ cl54.slots.size ≤ ((0 : Int32)).toNatClampNeg) := inb_of S54 ⟨by decide, by decide⟩
  have hat54 : cl54.slots[((0 : Int32)).toNatClampNeg]? = some (.int c0) := H54.at hin54 rfl
  refine own_t2 (.int c0) 20 (fun _ q => X51.caload hx (j := (0 : Int32)) (v := (.int c0)) Ar54.1 (State.isArrayOf_alike hZ.alike Ar54.2.1) Ar54.2.2 hin54 hat54 (g := (mkF m 19 #[.val (.ref a1), .val (.int (0 : Int32)), .val (.int (2 : Int32)), .val (.ref nb51), .val (.int (0 : Int32))] [(.int (0 : Int32)), (.ref a1), (.int (0 : Int32)), (.ref nb51)])) rfl rfl (hb hby dj52m14_19) _ q) ?_
  obtain ⟨_, _, ⟨T55, L55, k55, n55⟩, -, X55, ⟨Lc55, hQ55, l55, y55, z55⟩, st55⟩ := Jvm.LawKit.callS X51 hx (y := (⟨"java/lang/StringUTF16", "putChar", "([BII)V"⟩ : MethodName)) hown (mvT hZ (own_w hw 83 rfl)) (mvT hZ (own_w hw 84 rfl)) (mvT hZ (own_w hw 68 rfl)) (mvT hZ (own_w hw 85 rfl)) (by decide) (backOf (W := 0) (rm104 l Z a0 hw [] nb51 kn51 0 c0 [(.int (0 : Int32)), (.int (0 : Int32)), (.int (0 : Int32)), (.int (0 : Int32))] T51.heap n0 Z51 ge51 (by simp) (by simp) V51 G1 US O51) hZ (own_w hw 85 rfl) (own_w hw 68 rfl) (by decide) (by decide)) (g := (mkF m 20 #[.val (.ref a1), .val (.int (0 : Int32)), .val (.int (2 : Int32)), .val (.ref nb51), .val (.int (0 : Int32))] [(.int c0), (.int (0 : Int32)), (.ref nb51)])) rfl (by rw [hml]; rfl) (argsL := [(.ref nb51), (.int (0 : Int32)), (.int c0)]) (rest := []) (lenOf pd14 rfl) rfl (by show 2 * 0 + _ ≤ _; exact Nat.le_of_eq rfl) (hb hby dj52m14_20) (fun _ _ => ⟨rfl, rfl, (by decide : 1 + 0 ≤ _), (by decide : 4 + 0 ≤ _)⟩)
  dsimp only [Pt.U, Pt.locs, Pt.cells, Pt.slots] at X55 l55 y55 z55 st55 hQ55
  subst l55 y55 z55
  obtain ⟨rfl, Nq55, Kp55, V55⟩ := hQ55
  have N55 := Fr.app N51 Nq55
  have O55 := Old.keep O51 Kp55 (allS ge51 all0)
  have Z55 : n0 ≤ T55.heap.size := Nat.le_trans Z51 Kp55.1
  have K55 : Keep h0 T55.heap [] := Keep.trans K51 Kp55 (allS (Or.inr s0nb51) all0)
  have V55' : Arv Z T55.heap nb51 kn51 .byte (4 : Int32) [(.int (own_b0 c0)), (.int (own_b1 c0)), (.int (0 : Int32)), (.int (0 : Int32))] (.int (0 : Int32)) := V55
  refine own_cs [] 23 st55 ?_
  refine own_li #[.val (.ref a1), .val (.int (1 : Int32)), .val (.int (2 : Int32)), .val (.ref nb51), .val (.int (0 : Int32))] 26 (fun _ q => XS.iinc X55.here hx rfl (hb hby dj52m14_23) rfl (l' := #[.val (.ref a1), .val (.int (1 : Int32)), .val (.int (2 : Int32)), .val (.ref nb51), .val (.int (0 : Int32))]) rfl q) ?_
  refine own_li #[.val (.ref a1), .val (.int (1 : Int32)), .val (.int (2 : Int32)), .val (.ref nb51), .val (.int (1 : Int32))] 29 (fun _ q => XS.iinc X55.here hx rfl (hb hby dj52m14_26) rfl (l' := #[.val (.ref a1), .val (.int (1 : Int32)), .val (.int (2 : Int32)), .val (.ref nb51), .val (.int (1 : Int32))]) rfl q) ?_
  refine own_d0 8 (fun _ q => XS.goto X55.here hx rfl (pc0 := 29) (pc' := 8) rfl (hb hby dj52m14_29) (by decide) (by decide) q) ?_
  refine own_tp (.int (1 : Int32)) 10 (fun _ q => XS.iload X55.here hx rfl (hb hby dj52m14_8) rfl q) ?_
  refine own_tp (.int (2 : Int32)) 11 (fun _ q => XS.iloadN X55.here hx rfl (hb hby dj52m14_10) rfl q) ?_
  refine own_d2 14 (fun _ q => XS.icmpNo X55.here hx rfl (hb hby dj52m14_11) rfl (tlt (by decide : (1 : Int32) < (2 : Int32))).2.1 q) ?_
  refine own_tp (.ref nb51) 15 (fun _ q => XS.aloadN X55.here hx rfl (hb hby dj52m14_14) rfl rfl q) ?_
  refine own_tp (.int (1 : Int32)) 17 (fun _ q => XS.iload X55.here hx rfl (hb hby dj52m14_15) rfl q) ?_
  refine own_tp (.ref a1) 18 (fun _ q => XS.aloadN X55.here hx rfl (hb hby dj52m14_17) rfl rfl q) ?_
  refine own_tp (.int (1 : Int32)) 19 (fun _ q => XS.iloadN X55.here hx rfl (hb hby dj52m14_18) rfl q) ?_
  have f56 := (f53.keep Kp55 (ninS ne52 nin0))
  obtain ⟨cl57, Ar57, q57, S57, Nn57, H57, G57⟩ := (id f56)
  have hin57 : ¬ ((1 : Int32) < 0 ∨ cl57.slots.size ≤ ((1 : Int32)).toNatClampNeg) := inb_of S57 ⟨by decide, by decide⟩
  have hat57 : cl57.slots[((1 : Int32)).toNatClampNeg]? = some (.int c1) := H57.at hin57 rfl
  refine own_t2 (.int c1) 20 (fun _ q => X55.caload hx (j := (1 : Int32)) (v := (.int c1)) Ar57.1 (State.isArrayOf_alike hZ.alike Ar57.2.1) Ar57.2.2 hin57 hat57 (g := (mkF m 19 #[.val (.ref a1), .val (.int (1 : Int32)), .val (.int (2 : Int32)), .val (.ref nb51), .val (.int (1 : Int32))] [(.int (1 : Int32)), (.ref a1), (.int (1 : Int32)), (.ref nb51)])) rfl rfl (hb hby dj52m14_19) _ q) ?_
  obtain ⟨_, _, ⟨T58, L58, k58, n58⟩, -, X58, ⟨Lc58, hQ58, l58, y58, z58⟩, st58⟩ := Jvm.LawKit.callS X55 hx (y := (⟨"java/lang/StringUTF16", "putChar", "([BII)V"⟩ : MethodName)) hown (mvT hZ (own_w hw 83 rfl)) (mvT hZ (own_w hw 84 rfl)) (mvT hZ (own_w hw 68 rfl)) (mvT hZ (own_w hw 85 rfl)) (by decide) (backOf (W := 0) (rm104 l Z a0 hw [] nb51 kn51 1 c1 [(.int (own_b0 c0)), (.int (own_b1 c0)), (.int (0 : Int32)), (.int (0 : Int32))] T55.heap n0 Z55 ge51 (by simp) (by simp) V55' G1 US O55) hZ (own_w hw 85 rfl) (own_w hw 68 rfl) (by decide) (by decide)) (g := (mkF m 20 #[.val (.ref a1), .val (.int (1 : Int32)), .val (.int (2 : Int32)), .val (.ref nb51), .val (.int (1 : Int32))] [(.int c1), (.int (1 : Int32)), (.ref nb51)])) rfl (by rw [hml]; rfl) (argsL := [(.ref nb51), (.int (1 : Int32)), (.int c1)]) (rest := []) (lenOf pd14 rfl) rfl (by show 2 * 0 + _ ≤ _; exact Nat.le_of_eq rfl) (hb hby dj52m14_20) (fun _ _ => ⟨rfl, rfl, (by decide : 1 + 0 ≤ _), (by decide : 4 + 0 ≤ _)⟩)
  dsimp only [Pt.U, Pt.locs, Pt.cells, Pt.slots] at X58 l58 y58 z58 st58 hQ58
  subst l58 y58 z58
  obtain ⟨rfl, Nq58, Kp58, V58⟩ := hQ58
  have N58 := Fr.app N55 Nq58
  have O58 := Old.keep O55 Kp58 (allS ge51 all0)
  have Z58 : n0 ≤ T58.heap.size := Nat.le_trans Z55 Kp58.1
  have K58 : Keep h0 T58.heap [] := Keep.trans K55 Kp58 (allS (Or.inr s0nb51) all0)
  have V58' : Arv Z T58.heap nb51 kn51 .byte (4 : Int32) [(.int (own_b0 c0)), (.int (own_b1 c0)), (.int (own_b0 c1)), (.int (own_b1 c1))] (.int (0 : Int32)) := V58
  refine own_cs [] 23 st58 ?_
  refine own_li #[.val (.ref a1), .val (.int (2 : Int32)), .val (.int (2 : Int32)), .val (.ref nb51), .val (.int (1 : Int32))] 26 (fun _ q => XS.iinc X58.here hx rfl (hb hby dj52m14_23) rfl (l' := #[.val (.ref a1), .val (.int (2 : Int32)), .val (.int (2 : Int32)), .val (.ref nb51), .val (.int (1 : Int32))]) rfl q) ?_
  refine own_li #[.val (.ref a1), .val (.int (2 : Int32)), .val (.int (2 : Int32)), .val (.ref nb51), .val (.int (2 : Int32))] 29 (fun _ q => XS.iinc X58.here hx rfl (hb hby dj52m14_26) rfl (l' := #[.val (.ref a1), .val (.int (2 : Int32)), .val (.int (2 : Int32)), .val (.ref nb51), .val (.int (2 : Int32))]) rfl q) ?_
  refine own_d0 8 (fun _ q => XS.goto X58.here hx rfl (pc0 := 29) (pc' := 8) rfl (hb hby dj52m14_29) (by decide) (by decide) q) ?_
  refine own_tp (.int (2 : Int32)) 10 (fun _ q => XS.iload X58.here hx rfl (hb hby dj52m14_8) rfl q) ?_
  refine own_tp (.int (2 : Int32)) 11 (fun _ q => XS.iloadN X58.here hx rfl (hb hby dj52m14_10) rfl q) ?_
  refine own_d2 32 (fun _ q => XS.icmpYes X58.here hx rfl (pc0 := 11) (pc' := 32) rfl (hb hby dj52m14_11) rfl (flt (by decide : ¬ ((2 : Int32) < (2 : Int32)))).2.1 (by decide) (by decide) q) ?_
  refine own_tp (.ref nb51) 33 (fun _ q => XS.aloadN X58.here hx rfl (hb hby dj52m14_32) rfl rfl q) ?_
  exact own_retR X58 hx hrt (hb hby dj52m14_33) rfl rfl hlk (by decide) (by decide) rfl (⟨nb51, _, rfl, N58, K58, ge51, s0nb51, V58'⟩)

def Q115 (Z : State) (c0 c1 : Int32) (h0 : Heap) (n0 : Nat) (v : Option Value) (h : Heap) (L : List Loc) : Prop := ∃ (b : Addr) (k : ClassId), v = some (.ref b) ∧ Fr n0 L ∧ Keep h0 h [] ∧ n0 ≤ b ∧ h0.size ≤ b ∧ (((¬ (255 : Int32) < c0 ∧ ¬ (255 : Int32) < c1) ∧ Arv Z h b k .byte (2 : Int32) [(.int (own_lo c0)), (.int (own_lo c1))] (.int (0 : Int32))) ∨ ((∃ c ∈ ([c0, c1] : List Int32), (255 : Int32) < c) ∧ Arv Z h b k .byte (4 : Int32) [(.int (own_b0 c0)), (.int (own_b1 c0)), (.int (own_b0 c1)), (.int (own_b1 c1))] (.int (0 : Int32))))

set_option maxRecDepth 65536 in
set_option maxHeartbeats 40000000 in
theorem rm115 (l : Launch) (Z : State) (a0 : Array Value) (hw : ∀ d ∈ tables_1, d.before a0 Z = true) (ws : List Jvm.Cond) (a1 : Addr) (k1 : ClassId) (c0 c1 : Int32) (h0 : Heap) (n0 : Nat) (Z0 : n0 ≤ h0.size) (hc0 : 0 ≤ c0.toInt ∧ c0.toInt ≤ 65535) (hc1 : 0 ≤ c1.toInt ∧ c1.toInt ≤ 65535) (V1 : Arv Z h0 a1 k1 .char (2 : Int32) [(.int c0), (.int c1)] (.int (0 : Int32))) (G1 : Int32) (US : own_US Z G1) (O0 : Old Z n0 h0) :
    own_Met l (⟨"java/lang/StringUTF16", "compress", "([CII)[B"⟩ : MethodName) jdk_52_method_16_code 6 (some (.array .byte)) ws own_R_3_2_6_42 Z #[(.ref a1), (.int (0 : Int32)), (.int (2 : Int32))] h0 (Q115 Z c0 c1 h0 n0) := by
  refine own_enter #[.val (.ref a1), .val (.int (0 : Int32)), .val (.int (2 : Int32)), .unset, .unset, .unset] (plainFor_of_name pn_java_lang_StringUTF16) (fun m => ef_RII_6 m a1 (0 : Int32) (2 : Int32)) ?_
  intro p e s m below meth c s₁ hx hby hml hown hnm hZ hrt hlk X0 e0
  have N0 := Fr.nil n0
  refine own_tp (.int (2 : Int32)) 1 (fun _ q => XS.iloadN X0.here hx rfl (hb hby dj52m16_0) rfl q) ?_
  obtain ⟨T51, h51, k51, X51, e51, E51, A51, st51⟩ := newP X0 hx hZ (own_w hw 26 rfl) e0 (g := (mkF m 1 #[.val (.ref a1), .val (.int (0 : Int32)), .val (.int (2 : Int32)), .unset, .unset, .unset] [(.int (2 : Int32))])) rfl (hb hby dj52m16_1) rfl (by decide) (cap := 2) (by decide) (by decide) (by decide) (by decide)
  obtain ⟨b51, g51⟩ : ∃ z, z = h0.size := ⟨_, rfl⟩
  rw [← g51] at A51 st51
  have V51 : Arv Z h51 b51 k51 .byte (2 : Int32) [(.int (0 : Int32)), (.int (0 : Int32))] (.int (0 : Int32)) := (Arv.new A51 (by decide)).pad (pad_rep [] (.int (0 : Int32)) 2)
  have ge51 : n0 ≤ b51 := Nat.le_trans Z0 (Nat.le_of_eq g51.symm)
  have sz51 : h0.size ≤ b51 := Nat.le_trans (Keep.refl h0 []).1 (Nat.le_of_eq g51.symm)
  have ne52 : a1 ≠ b51 := Nat.ne_of_lt (Nat.lt_of_lt_of_le V1.lt (Nat.le_of_eq g51.symm))
  have O51 := Old.ext O0 E51
  have K51 : Keep h0 h51 [] := (Keep.refl h0 []).ext E51
  have Z51 : n0 ≤ h51.size := Nat.le_trans Z0 E51.1
  refine own_t1 (.ref b51) 3 st51 ?_
  refine own_ls #[.val (.ref a1), .val (.int (0 : Int32)), .val (.int (2 : Int32)), .val (.ref b51), .unset, .unset] 4 (fun _ q => XS.astoreN X51.here hx rfl (hb hby dj52m16_3) rfl rfl (l' := #[.val (.ref a1), .val (.int (0 : Int32)), .val (.int (2 : Int32)), .val (.ref b51), .unset, .unset]) rfl q) ?_
  refine own_tp (.ref a1) 5 (fun _ q => XS.aloadN X51.here hx rfl (hb hby dj52m16_4) rfl rfl q) ?_
  refine own_tp (.int (0 : Int32)) 6 (fun _ q => XS.iloadN X51.here hx rfl (hb hby dj52m16_5) rfl q) ?_
  refine own_tp (.ref b51) 7 (fun _ q => XS.aloadN X51.here hx rfl (hb hby dj52m16_6) rfl rfl q) ?_
  refine own_tp (.int (0 : Int32)) 8 (fun _ q => XS.iconst X51.here hx rfl (hb hby dj52m16_7) q) ?_
  refine own_tp (.int (2 : Int32)) 9 (fun _ q => XS.iloadN X51.here hx rfl (hb hby dj52m16_8) rfl q) ?_
  have f53 := (V1.ext E51)
  obtain ⟨_, _, ⟨T54, L54, k54, n54⟩, -, X54, ⟨Lc54, hQ54, l54, y54, z54⟩, st54⟩ := Jvm.LawKit.callS X51 hx (y := (⟨"java/lang/StringUTF16", "compress", "([CI[BII)I"⟩ : MethodName)) hown (mvT hZ (own_w hw 70 rfl)) (mvT hZ (own_w hw 71 rfl)) (mvT hZ (own_w hw 68 rfl)) (mvT hZ (own_w hw 72 rfl)) (by decide) (backOf (W := 0) (rm111 l Z a0 hw [] a1 b51 k1 k51 c0 c1 h51 n0 Z51 ge51 ne52 f53 V51) hZ (own_w hw 72 rfl) (own_w hw 68 rfl) (by decide) (by decide)) (g := (mkF m 9 #[.val (.ref a1), .val (.int (0 : Int32)), .val (.int (2 : Int32)), .val (.ref b51), .unset, .unset] [(.int (2 : Int32)), (.int (0 : Int32)), (.ref b51), (.int (0 : Int32)), (.ref a1)])) rfl (by rw [hml]; rfl) (argsL := [(.ref a1), (.int (0 : Int32)), (.ref b51), (.int (0 : Int32)), (.int (2 : Int32))]) (rest := []) (lenOf pd15 rfl) rfl (by show 2 * 0 + _ ≤ _; exact Nat.le_of_eq rfl) (hb hby dj52m16_9) (fun _ _ => ⟨rfl, e51, (by decide : 1 + 0 ≤ _), (by decide : 2 + 0 ≤ _)⟩)
  dsimp only [Pt.U, Pt.locs, Pt.cells, Pt.slots] at X54 l54 y54 z54 st54 hQ54
  subst l54 y54 z54
  obtain ⟨Nq54, Kp54, hD54⟩ := hQ54
  have N54 := Fr.app N0 Nq54
  have O54 := Old.keep O51 Kp54 (allS ge51 all0)
  have Z54 : n0 ≤ T54.heap.size := Nat.le_trans Z51 Kp54.1
  have K54 : Keep h0 T54.heap [] := Keep.trans K51 Kp54 (allS (Or.inr sz51) all0)
  rcases hD54 with ⟨rfl, hxw⟩ | ⟨rfl, hxw⟩ | ⟨rfl, hxw, VL⟩
  ·
    refine own_cs [(.int (0 : Int32))] 12 st54 ?_
    refine own_ls #[.val (.ref a1), .val (.int (0 : Int32)), .val (.int (2 : Int32)), .val (.ref b51), .val (.int (0 : Int32)), .unset] 14 (fun _ q => XS.istore X54.here hx rfl (hb hby dj52m16_12) rfl (l' := #[.val (.ref a1), .val (.int (0 : Int32)), .val (.int (2 : Int32)), .val (.ref b51), .val (.int (0 : Int32)), .unset]) rfl q) ?_
    refine own_tp (.int (0 : Int32)) 16 (fun _ q => XS.iload X54.here hx rfl (hb hby dj52m16_14) rfl q) ?_
    refine own_tp (.int (2 : Int32)) 17 (fun _ q => XS.iloadN X54.here hx rfl (hb hby dj52m16_16) rfl q) ?_
    refine own_d2 20 (fun _ q => XS.icmpNo X54.here hx rfl (hb hby dj52m16_17) rfl (feq (by decide : ¬ ((0 : Int32) = (2 : Int32)))).1 q) ?_
    refine own_tp (.ref a1) 21 (fun _ q => XS.aloadN X54.here hx rfl (hb hby dj52m16_20) rfl rfl q) ?_
    refine own_tp (.int (0 : Int32)) 22 (fun _ q => XS.iloadN X54.here hx rfl (hb hby dj52m16_21) rfl q) ?_
    refine own_tp (.int (2 : Int32)) 23 (fun _ q => XS.iloadN X54.here hx rfl (hb hby dj52m16_22) rfl q) ?_
    have f55 := (f53.keep Kp54 (ninS ne52 nin0))
    obtain ⟨_, _, ⟨T56, L56, k56, n56⟩, -, X56, ⟨Lc56, hQ56, l56, y56, z56⟩, st56⟩ := Jvm.LawKit.callS X54 hx (y := (⟨"java/lang/StringUTF16", "toBytes", "([CII)[B"⟩ : MethodName)) hown (mvT hZ (own_w hw 73 rfl)) (mvT hZ (own_w hw 74 rfl)) (mvT hZ (own_w hw 68 rfl)) (mvT hZ (own_w hw 75 rfl)) (by decide) (backOf (W := 0) (rm114 l Z a0 hw [] a1 k1 c0 c1 T54.heap n0 Z54 f55 G1 US O54) hZ (own_w hw 75 rfl) (own_w hw 68 rfl) (by decide) (by decide)) (g := (mkF m 23 #[.val (.ref a1), .val (.int (0 : Int32)), .val (.int (2 : Int32)), .val (.ref b51), .val (.int (0 : Int32)), .unset] [(.int (2 : Int32)), (.int (0 : Int32)), (.ref a1)])) rfl (by rw [hml]; rfl) (argsL := [(.ref a1), (.int (0 : Int32)), (.int (2 : Int32))]) (rest := []) (lenOf pd16 rfl) rfl (by show 2 * 0 + _ ≤ _; exact Nat.le_of_eq rfl) (hb hby dj52m16_23) (fun _ _ => ⟨rfl, rfl, (by decide : 1 + 1 ≤ _), (by decide : 2 + 4 ≤ _)⟩)
    dsimp only [Pt.U, Pt.locs, Pt.cells, Pt.slots] at X56 l56 y56 z56 st56 hQ56
    subst l56 y56 z56
    obtain ⟨ub56, ku56, rfl, Nq56, Kp56, ge56, sz56, V56⟩ := hQ56
    have ne57 : a1 ≠ ub56 := Nat.ne_of_lt (Nat.lt_of_lt_of_le f55.lt sz56)
    have s0ub56 : h0.size ≤ ub56 := Nat.le_trans K54.1 sz56
    have N56 := Fr.app N54 Nq56
    have O56 := Old.keep O54 Kp56 all0
    have Z56 : n0 ≤ T56.heap.size := Nat.le_trans Z54 Kp56.1
    have K56 : Keep h0 T56.heap [] := Keep.trans K54 Kp56 all0
    refine own_cs [(.ref ub56)] 26 st56 ?_
    refine own_ls #[.val (.ref a1), .val (.int (0 : Int32)), .val (.int (2 : Int32)), .val (.ref b51), .val (.int (0 : Int32)), .val (.ref ub56)] 28 (fun _ q => XS.astore X56.here hx rfl (hb hby dj52m16_26) rfl rfl (l' := #[.val (.ref a1), .val (.int (0 : Int32)), .val (.int (2 : Int32)), .val (.ref b51), .val (.int (0 : Int32)), .val (.ref ub56)]) rfl q) ?_
    refine own_tp (.ref ub56) 30 (fun _ q => XS.aload X56.here hx rfl (hb hby dj52m16_28) rfl rfl q) ?_
    refine own_tp (.int (0 : Int32)) 32 (fun _ q => XS.iload X56.here hx rfl (hb hby dj52m16_30) rfl q) ?_
    obtain ⟨_, _, ⟨T58, L58, k58, n58⟩, -, X58, ⟨Lc58, hQ58, l58, y58, z58⟩, st58⟩ := Jvm.LawKit.callS X56 hx (y := (⟨"java/lang/StringUTF16", "getChar", "([BI)C"⟩ : MethodName)) hown (mvT hZ (own_w hw 89 rfl)) (mvT hZ (own_w hw 90 rfl)) (mvT hZ (own_w hw 68 rfl)) (mvT hZ (own_w hw 91 rfl)) (by decide) (backOf (W := 0) (rm100 l Z a0 hw [] ub56 ku56 0 [c0, c1] T56.heap n0 (by simp) (by simp) hc0 V56 G1 US O56) hZ (own_w hw 91 rfl) (own_w hw 68 rfl) (by decide) (by decide)) (g := (mkF m 32 #[.val (.ref a1), .val (.int (0 : Int32)), .val (.int (2 : Int32)), .val (.ref b51), .val (.int (0 : Int32)), .val (.ref ub56)] [(.int (0 : Int32)), (.ref ub56)])) rfl (by rw [hml]; rfl) (argsL := [(.ref ub56), (.int (0 : Int32))]) (rest := []) (lenOf pd4 rfl) rfl (by show 2 * 0 + _ ≤ _; exact Nat.le_of_eq rfl) (hb hby dj52m16_32) (fun _ _ => ⟨rfl, rfl, (by decide : 2 + 0 ≤ _), (by decide : 6 + 0 ≤ _)⟩)
    dsimp only [Pt.U, Pt.locs, Pt.cells, Pt.slots] at X58 l58 y58 z58 st58 hQ58
    subst l58 y58 z58
    obtain ⟨rfl, Nq58, eq58⟩ := hQ58
    have N58 := Fr.app N56 Nq58
    refine own_t2 (.int c0) 35 st58 ?_
    refine own_tp (.int (255 : Int32)) 38 (fun _ q => XS.sipush X58.here hx rfl (hb hby dj52m16_35) q) ?_
    refine own_d2 54 (fun _ q => XS.icmpYes X58.here hx rfl (pc0 := 38) (pc' := 54) rfl (hb hby dj52m16_38) rfl (tlt hxw).2.2.1 (by decide) (by decide) q) ?_
    refine own_tp (.ref ub56) 56 (fun _ q => XS.aload X58.here hx rfl (hb hby dj52m16_54) rfl rfl q) ?_
    exact own_retR X58 hx hrt (hb hby dj52m16_56) rfl rfl hlk (by decide) (by decide) eq58 (⟨ub56, _, rfl, N58, K56, ge56, s0ub56, Or.inr ⟨⟨c0, by simp, hxw⟩, V56⟩⟩)
  ·
    refine own_cs [(.int (1 : Int32))] 12 st54 ?_
    refine own_ls #[.val (.ref a1), .val (.int (0 : Int32)), .val (.int (2 : Int32)), .val (.ref b51), .val (.int (1 : Int32)), .unset] 14 (fun _ q => XS.istore X54.here hx rfl (hb hby dj52m16_12) rfl (l' := #[.val (.ref a1), .val (.int (0 : Int32)), .val (.int (2 : Int32)), .val (.ref b51), .val (.int (1 : Int32)), .unset]) rfl q) ?_
    refine own_tp (.int (1 : Int32)) 16 (fun _ q => XS.iload X54.here hx rfl (hb hby dj52m16_14) rfl q) ?_
    refine own_tp (.int (2 : Int32)) 17 (fun _ q => XS.iloadN X54.here hx rfl (hb hby dj52m16_16) rfl q) ?_
    refine own_d2 20 (fun _ q => XS.icmpNo X54.here hx rfl (hb hby dj52m16_17) rfl (feq (by decide : ¬ ((1 : Int32) = (2 : Int32)))).1 q) ?_
    refine own_tp (.ref a1) 21 (fun _ q => XS.aloadN X54.here hx rfl (hb hby dj52m16_20) rfl rfl q) ?_
    refine own_tp (.int (0 : Int32)) 22 (fun _ q => XS.iloadN X54.here hx rfl (hb hby dj52m16_21) rfl q) ?_
    refine own_tp (.int (2 : Int32)) 23 (fun _ q => XS.iloadN X54.here hx rfl (hb hby dj52m16_22) rfl q) ?_
    have f59 := (f53.keep Kp54 (ninS ne52 nin0))
    obtain ⟨_, _, ⟨T60, L60, k60, n60⟩, -, X60, ⟨Lc60, hQ60, l60, y60, z60⟩, st60⟩ := Jvm.LawKit.callS X54 hx (y := (⟨"java/lang/StringUTF16", "toBytes", "([CII)[B"⟩ : MethodName)) hown (mvT hZ (own_w hw 73 rfl)) (mvT hZ (own_w hw 74 rfl)) (mvT hZ (own_w hw 68 rfl)) (mvT hZ (own_w hw 75 rfl)) (by decide) (backOf (W := 0) (rm114 l Z a0 hw [] a1 k1 c0 c1 T54.heap n0 Z54 f59 G1 US O54) hZ (own_w hw 75 rfl) (own_w hw 68 rfl) (by decide) (by decide)) (g := (mkF m 23 #[.val (.ref a1), .val (.int (0 : Int32)), .val (.int (2 : Int32)), .val (.ref b51), .val (.int (1 : Int32)), .unset] [(.int (2 : Int32)), (.int (0 : Int32)), (.ref a1)])) rfl (by rw [hml]; rfl) (argsL := [(.ref a1), (.int (0 : Int32)), (.int (2 : Int32))]) (rest := []) (lenOf pd16 rfl) rfl (by show 2 * 0 + _ ≤ _; exact Nat.le_of_eq rfl) (hb hby dj52m16_23) (fun _ _ => ⟨rfl, rfl, (by decide : 1 + 1 ≤ _), (by decide : 2 + 4 ≤ _)⟩)
    dsimp only [Pt.U, Pt.locs, Pt.cells, Pt.slots] at X60 l60 y60 z60 st60 hQ60
    subst l60 y60 z60
    obtain ⟨ub60, ku60, rfl, Nq60, Kp60, ge60, sz60, V60⟩ := hQ60
    have ne61 : a1 ≠ ub60 := Nat.ne_of_lt (Nat.lt_of_lt_of_le f59.lt sz60)
    have s0ub60 : h0.size ≤ ub60 := Nat.le_trans K54.1 sz60
    have N60 := Fr.app N54 Nq60
    have O60 := Old.keep O54 Kp60 all0
    have Z60 : n0 ≤ T60.heap.size := Nat.le_trans Z54 Kp60.1
    have K60 : Keep h0 T60.heap [] := Keep.trans K54 Kp60 all0
    refine own_cs [(.ref ub60)] 26 st60 ?_
    refine own_ls #[.val (.ref a1), .val (.int (0 : Int32)), .val (.int (2 : Int32)), .val (.ref b51), .val (.int (1 : Int32)), .val (.ref ub60)] 28 (fun _ q => XS.astore X60.here hx rfl (hb hby dj52m16_26) rfl rfl (l' := #[.val (.ref a1), .val (.int (0 : Int32)), .val (.int (2 : Int32)), .val (.ref b51), .val (.int (1 : Int32)), .val (.ref ub60)]) rfl q) ?_
    refine own_tp (.ref ub60) 30 (fun _ q => XS.aload X60.here hx rfl (hb hby dj52m16_28) rfl rfl q) ?_
    refine own_tp (.int (1 : Int32)) 32 (fun _ q => XS.iload X60.here hx rfl (hb hby dj52m16_30) rfl q) ?_
    obtain ⟨_, _, ⟨T62, L62, k62, n62⟩, -, X62, ⟨Lc62, hQ62, l62, y62, z62⟩, st62⟩ := Jvm.LawKit.callS X60 hx (y := (⟨"java/lang/StringUTF16", "getChar", "([BI)C"⟩ : MethodName)) hown (mvT hZ (own_w hw 89 rfl)) (mvT hZ (own_w hw 90 rfl)) (mvT hZ (own_w hw 68 rfl)) (mvT hZ (own_w hw 91 rfl)) (by decide) (backOf (W := 0) (rm100 l Z a0 hw [] ub60 ku60 1 [c0, c1] T60.heap n0 (by simp) (by simp) hc1 V60 G1 US O60) hZ (own_w hw 91 rfl) (own_w hw 68 rfl) (by decide) (by decide)) (g := (mkF m 32 #[.val (.ref a1), .val (.int (0 : Int32)), .val (.int (2 : Int32)), .val (.ref b51), .val (.int (1 : Int32)), .val (.ref ub60)] [(.int (1 : Int32)), (.ref ub60)])) rfl (by rw [hml]; rfl) (argsL := [(.ref ub60), (.int (1 : Int32))]) (rest := []) (lenOf pd4 rfl) rfl (by show 2 * 0 + _ ≤ _; exact Nat.le_of_eq rfl) (hb hby dj52m16_32) (fun _ _ => ⟨rfl, rfl, (by decide : 2 + 0 ≤ _), (by decide : 6 + 0 ≤ _)⟩)
    dsimp only [Pt.U, Pt.locs, Pt.cells, Pt.slots] at X62 l62 y62 z62 st62 hQ62
    subst l62 y62 z62
    obtain ⟨rfl, Nq62, eq62⟩ := hQ62
    have N62 := Fr.app N60 Nq62
    refine own_t2 (.int c1) 35 st62 ?_
    refine own_tp (.int (255 : Int32)) 38 (fun _ q => XS.sipush X62.here hx rfl (hb hby dj52m16_35) q) ?_
    refine own_d2 54 (fun _ q => XS.icmpYes X62.here hx rfl (pc0 := 38) (pc' := 54) rfl (hb hby dj52m16_38) rfl (tlt hxw).2.2.1 (by decide) (by decide) q) ?_
    refine own_tp (.ref ub60) 56 (fun _ q => XS.aload X62.here hx rfl (hb hby dj52m16_54) rfl rfl q) ?_
    exact own_retR X62 hx hrt (hb hby dj52m16_56) rfl rfl hlk (by decide) (by decide) eq62 (⟨ub60, _, rfl, N62, K60, ge60, s0ub60, Or.inr ⟨⟨c1, by simp, hxw⟩, V60⟩⟩)
  ·
    refine own_cs [(.int (2 : Int32))] 12 st54 ?_
    refine own_ls #[.val (.ref a1), .val (.int (0 : Int32)), .val (.int (2 : Int32)), .val (.ref b51), .val (.int (2 : Int32)), .unset] 14 (fun _ q => XS.istore X54.here hx rfl (hb hby dj52m16_12) rfl (l' := #[.val (.ref a1), .val (.int (0 : Int32)), .val (.int (2 : Int32)), .val (.ref b51), .val (.int (2 : Int32)), .unset]) rfl q) ?_
    refine own_tp (.int (2 : Int32)) 16 (fun _ q => XS.iload X54.here hx rfl (hb hby dj52m16_14) rfl q) ?_
    refine own_tp (.int (2 : Int32)) 17 (fun _ q => XS.iloadN X54.here hx rfl (hb hby dj52m16_16) rfl q) ?_
    refine own_d2 57 (fun _ q => XS.icmpYes X54.here hx rfl (pc0 := 17) (pc' := 57) rfl (hb hby dj52m16_17) rfl (teq (by decide : (2 : Int32) = (2 : Int32))).1 (by decide) (by decide) q) ?_
    refine own_tp (.ref b51) 58 (fun _ q => XS.aloadN X54.here hx rfl (hb hby dj52m16_57) rfl rfl q) ?_
    exact own_retR X54 hx hrt (hb hby dj52m16_58) rfl rfl hlk (by decide) (by decide) rfl (⟨b51, _, rfl, N54, K54, ge51, sz51, Or.inl ⟨hxw, VL⟩⟩)

def Q116  (h0 : Heap) (n0 : Nat) (v : Option Value) (h : Heap) (L : List Loc) : Prop := v = some (.int (0 : Int32)) ∧ Fr n0 L ∧ h = h0

set_option maxRecDepth 65536 in
set_option maxHeartbeats 40000000 in
theorem rm116 (l : Launch) (Z : State) (a0 : Array Value) (hw : ∀ d ∈ tables_1, d.before a0 Z = true) (ws : List Jvm.Cond) (b1 : Addr) (k1 : ClassId) (vs1 : List Value) (h0 : Heap) (n0 : Nat) (V1 : Arv Z h0 b1 k1 .byte (2 : Int32) vs1 (.int (0 : Int32))) :
    own_Met l (⟨"java/lang/StringUTF16", "coderFromArrayLen", "([BI)B"⟩ : MethodName) jdk_52_method_15_code 2 (some .byte) ws own_R_0_0_0_0 Z #[(.ref b1), (.int (2 : Int32))] h0 (Q116 h0 n0) := by
  refine own_enter #[.val (.ref b1), .val (.int (2 : Int32))] (plainFor_of_name pn_java_lang_StringUTF16) (fun m => ef_RI_2 m b1 (2 : Int32)) ?_
  intro p e s m below meth c s₁ hx hby hml hown hnm hZ hrt hlk X0 e0
  have N0 := Fr.nil n0
  refine own_tp (.int (2 : Int32)) 1 (fun _ q => XS.iloadN X0.here hx rfl (hb hby dj52m15_0) rfl q) ?_
  refine own_tp (.ref b1) 2 (fun _ q => XS.aloadN X0.here hx rfl (hb hby dj52m15_1) rfl rfl q) ?_
  obtain ⟨cl51, Ar51, -, Sz51, Nn51, -, -⟩ := (id V1)
  refine own_t1 (.int (2 : Int32)) 3 (fun t q => X0.arraylength hx (by rw [e0]; exact Ar51.1) (State.isArrayOf_alike hZ.alike Ar51.2.1) (g := (mkF m 2 #[.val (.ref b1), .val (.int (2 : Int32))] [(.ref b1), (.int (2 : Int32))])) rfl rfl (hb hby dj52m15_2) _ (by rw [len_of Sz51 Nn51]; exact q)) ?_
  refine own_t2 (.int (0 : Int32)) 4 (fun _ q => XS.isub X0.here hx rfl (hb hby dj52m15_3) rfl q) ?_
  refine own_tp (.int (31 : Int32)) 6 (fun _ q => XS.bipush X0.here hx rfl (hb hby dj52m15_4) q) ?_
  refine own_d1 7 (fun _ q => XS.iushr X0.here hx rfl (hb hby dj52m15_6) rfl q) ?_
  refine own_d0 8 (fun _ q => XS.i2b X0.here hx rfl (hb hby dj52m15_7) rfl q) ?_
  exact own_retN (t := .byte) X0 hx hrt (hb hby dj52m15_8) (by simp) hlk (by decide) (by decide) e0 (⟨rfl, N0, rfl⟩)

def Q117  (h0 : Heap) (n0 : Nat) (v : Option Value) (h : Heap) (L : List Loc) : Prop := v = some (.int (1 : Int32)) ∧ Fr n0 L ∧ h = h0

set_option maxRecDepth 65536 in
set_option maxHeartbeats 40000000 in
theorem rm117 (l : Launch) (Z : State) (a0 : Array Value) (hw : ∀ d ∈ tables_1, d.before a0 Z = true) (ws : List Jvm.Cond) (b1 : Addr) (k1 : ClassId) (vs1 : List Value) (h0 : Heap) (n0 : Nat) (V1 : Arv Z h0 b1 k1 .byte (4 : Int32) vs1 (.int (0 : Int32))) :
    own_Met l (⟨"java/lang/StringUTF16", "coderFromArrayLen", "([BI)B"⟩ : MethodName) jdk_52_method_15_code 2 (some .byte) ws own_R_0_0_0_0 Z #[(.ref b1), (.int (2 : Int32))] h0 (Q117 h0 n0) := by
  refine own_enter #[.val (.ref b1), .val (.int (2 : Int32))] (plainFor_of_name pn_java_lang_StringUTF16) (fun m => ef_RI_2 m b1 (2 : Int32)) ?_
  intro p e s m below meth c s₁ hx hby hml hown hnm hZ hrt hlk X0 e0
  have N0 := Fr.nil n0
  refine own_tp (.int (2 : Int32)) 1 (fun _ q => XS.iloadN X0.here hx rfl (hb hby dj52m15_0) rfl q) ?_
  refine own_tp (.ref b1) 2 (fun _ q => XS.aloadN X0.here hx rfl (hb hby dj52m15_1) rfl rfl q) ?_
  obtain ⟨cl51, Ar51, -, Sz51, Nn51, -, -⟩ := (id V1)
  refine own_t1 (.int (4 : Int32)) 3 (fun t q => X0.arraylength hx (by rw [e0]; exact Ar51.1) (State.isArrayOf_alike hZ.alike Ar51.2.1) (g := (mkF m 2 #[.val (.ref b1), .val (.int (2 : Int32))] [(.ref b1), (.int (2 : Int32))])) rfl rfl (hb hby dj52m15_2) _ (by rw [len_of Sz51 Nn51]; exact q)) ?_
  refine own_t2 (.int (-2 : Int32)) 4 (fun _ q => XS.isub X0.here hx rfl (hb hby dj52m15_3) rfl q) ?_
  refine own_tp (.int (31 : Int32)) 6 (fun _ q => XS.bipush X0.here hx rfl (hb hby dj52m15_4) q) ?_
  refine own_t2 (.int (1 : Int32)) 7 (fun _ q => XS.iushr X0.here hx rfl (hb hby dj52m15_6) rfl q) ?_
  refine own_d0 8 (fun _ q => XS.i2b X0.here hx rfl (hb hby dj52m15_7) rfl q) ?_
  exact own_retN (t := .byte) X0 hx hrt (hb hby dj52m15_8) (by simp) hlk (by decide) (by decide) e0 (⟨rfl, N0, rfl⟩)

theorem own_all2 {c0 c1 : Int32} (h : ¬ (255 : Int32) < c0 ∧ ¬ (255 : Int32) < c1) : ∀ c ∈ ([c0, c1] : List Int32), ¬ (255 : Int32) < c := by
  intro c hc
  simp only [List.mem_cons, List.not_mem_nil, or_false] at hc
  rcases hc with rfl | rfl
  · exact h.1
  · exact h.2

def Q118 (Z : State) (x1 : Addr) (c0 c1 : Int32) (h0 : Heap) (n0 : Nat) (v : Option Value) (h : Heap) (L : List Loc) : Prop := v = none ∧ Fr n0 L ∧ Keep h0 h [x1] ∧ ∃ (t : Addr) (kb : ClassId) (cd N : Int32) (vs : List Value), n0 ≤ t ∧ h0.size ≤ t ∧ Exa Z h x1 "java/lang/String" ∧ Fld Z h x1 "java/lang/String" "value" "[B" (.ref t) ∧ Fld Z h x1 "java/lang/String" "coder" "B" (.int cd) ∧ Arv Z h t kb .byte N vs (.int (0 : Int32)) ∧ own_Cod ([c0, c1] : List Int32) cd N vs

set_option maxRecDepth 65536 in
set_option maxHeartbeats 40000000 in
theorem rm118 (l : Launch) (Z : State) (a0 : Array Value) (hw : ∀ d ∈ tables_1, d.before a0 Z = true) (ws : List Jvm.Cond) (x1 a1 : Addr) (k1 : ClassId) (c0 c1 : Int32) (u1 u2 : Value) (h0 : Heap) (n0 : Nat) (Z0 : n0 ≤ h0.size) (g1 : n0 ≤ x1) (hxa : x1 ≠ a1) (hc0 : 0 ≤ c0.toInt ∧ c0.toInt ≤ 65535) (hc1 : 0 ≤ c1.toInt ∧ c1.toInt ≤ 65535) (V1 : Arv Z h0 a1 k1 .char (2 : Int32) [(.int c0), (.int c1)] (.int (0 : Int32))) (E1 : Exa Z h0 x1 "java/lang/String") (F1 : Fld Z h0 x1 "java/lang/String" "value" "[B" u1) (F2 : Fld Z h0 x1 "java/lang/String" "coder" "B" u2) (G1 : Int32) (US : own_US Z G1) (O0 : Old Z n0 h0) :
    own_Met l (⟨"java/lang/String", "<init>", "([CIILjava/lang/Void;)V"⟩ : MethodName) jdk_42_method_149_code 6 none ws own_R_4_2_6_61 Z #[(.ref x1), (.ref a1), (.int (0 : Int32)), (.int (2 : Int32)), .null] h0 (Q118 Z x1 c0 c1 h0 n0) := by
  refine own_enter #[.val (.ref x1), .val (.ref a1), .val (.int (0 : Int32)), .val (.int (2 : Int32)), .val .null, .unset] (plainFor_of_name pn_java_lang_String) (fun m => ef_RRIIN_6 m x1 a1 (0 : Int32) (2 : Int32)) ?_
  intro p e s m below meth c s₁ hx hby hml hown hnm hZ hrt hlk X0 e0
  have N0 := Fr.nil n0
  refine own_tp (.ref x1) 1 (fun _ q => XS.aloadN X0.here hx rfl (hb hby dj42m149_0) rfl rfl q) ?_
  obtain ⟨T51, X51, e51, st51⟩ := initO X0 hx hZ hown (own_w hw 22 rfl) (own_w hw 23 rfl) (own_w hw 24 rfl) e0 (g := (mkF m 1 #[.val (.ref x1), .val (.ref a1), .val (.int (0 : Int32)), .val (.int (2 : Int32)), .val .null, .unset] [(.ref x1)])) rfl (by rw [hml]; rfl) rfl (hb hby dj42m149_1) (by decide) (W := 0) (by show 2 * 0 + _ ≤ _; exact Nat.le_of_eq rfl) (by decide)
  refine own_d1 4 st51 ?_
  refine own_tp (.int (2 : Int32)) 5 (fun _ q => XS.iloadN X51.here hx rfl (hb hby dj42m149_4) rfl q) ?_
  refine own_d1 27 (fun _ q => XS.ifYes X51.here hx rfl (pc0 := 5) (pc' := 27) rfl (hb hby dj42m149_5) rfl ((if0 _ _).trans (feq (by decide : ¬ ((2 : Int32) = (0 : Int32)))).2) (by decide) (by decide) q) ?_
  obtain ⟨T52, X52, e52, st52⟩ := getS2 X51 hx hZ hown (host := "") (Or.inl (own_w hw 47 rfl)) Via.refl e51 (US.2.1.ext O0.2) (g := (mkF m 27 #[.val (.ref x1), .val (.ref a1), .val (.int (0 : Int32)), .val (.int (2 : Int32)), .val .null, .unset] [])) rfl (hb hby dj42m149_27)
  refine own_tp (.int G1) 30 st52 ?_
  refine own_d1 33 (fun _ q => XS.ifNo X52.here hx rfl (hb hby dj42m149_30) rfl ((if0 _ _).trans (feq US.1).1) q) ?_
  refine own_tp (.ref a1) 34 (fun _ q => XS.aloadN X52.here hx rfl (hb hby dj42m149_33) rfl rfl q) ?_
  refine own_tp (.int (0 : Int32)) 35 (fun _ q => XS.iloadN X52.here hx rfl (hb hby dj42m149_34) rfl q) ?_
  refine own_tp (.int (2 : Int32)) 36 (fun _ q => XS.iloadN X52.here hx rfl (hb hby dj42m149_35) rfl q) ?_
  obtain ⟨_, _, ⟨T53, L53, k53, n53⟩, -, X53, ⟨Lc53, hQ53, l53, y53, z53⟩, st53⟩ := Jvm.LawKit.callS X52 hx (y := (⟨"java/lang/StringUTF16", "compress", "([CII)[B"⟩ : MethodName)) hown (mvT hZ (own_w hw 66 rfl)) (mvT hZ (own_w hw 67 rfl)) (mvT hZ (own_w hw 68 rfl)) (mvT hZ (own_w hw 69 rfl)) (by decide) (backOf (W := 0) (rm115 l Z a0 hw [] a1 k1 c0 c1 h0 n0 Z0 hc0 hc1 V1 G1 US O0) hZ (own_w hw 69 rfl) (own_w hw 68 rfl) (by decide) (by decide)) (g := (mkF m 36 #[.val (.ref x1), .val (.ref a1), .val (.int (0 : Int32)), .val (.int (2 : Int32)), .val .null, .unset] [(.int (2 : Int32)), (.int (0 : Int32)), (.ref a1)])) rfl (by rw [hml]; rfl) (argsL := [(.ref a1), (.int (0 : Int32)), (.int (2 : Int32))]) (rest := []) (lenOf pd16 rfl) rfl (by show 2 * 0 + _ ≤ _; exact Nat.le_of_eq rfl) (hb hby dj42m149_36) (fun _ _ => ⟨rfl, e52, (by decide : 0 + 2 ≤ _), (by decide : 0 + 6 ≤ _)⟩)
  dsimp only [Pt.U, Pt.locs, Pt.cells, Pt.slots] at X53 l53 y53 z53 st53 hQ53
  subst l53 y53 z53
  obtain ⟨vb53, kv53, rfl, Nq53, Kp53, ge53, sz53, hD53⟩ := hQ53
  have ne54 : a1 ≠ vb53 := Nat.ne_of_lt (Nat.lt_of_lt_of_le V1.lt sz53)
  have ne55 : x1 ≠ vb53 := Nat.ne_of_lt (Nat.lt_of_lt_of_le E1.lt sz53)
  have s0vb53 : h0.size ≤ vb53 := Nat.le_trans (Keep.refl h0 [x1]).1 sz53
  have N53 := Fr.app N0 Nq53
  have O53 := Old.keep O0 Kp53 all0
  have Z53 : n0 ≤ T53.heap.size := Nat.le_trans Z0 Kp53.1
  have K53 : Keep h0 T53.heap [x1] := Keep.trans (Keep.refl h0 [x1]) Kp53 all0
  refine own_cs [(.ref vb53)] 39 st53 ?_
  rcases hD53 with ⟨hxw, VL⟩ | ⟨hxw, VL⟩
  ·
    refine own_ls #[.val (.ref x1), .val (.ref a1), .val (.int (0 : Int32)), .val (.int (2 : Int32)), .val .null, .val (.ref vb53)] 41 (fun _ q => XS.astore X53.here hx rfl (hb hby dj42m149_39) rfl rfl (l' := #[.val (.ref x1), .val (.ref a1), .val (.int (0 : Int32)), .val (.int (2 : Int32)), .val .null, .val (.ref vb53)]) rfl q) ?_
    refine own_tp (.ref x1) 42 (fun _ q => XS.aloadN X53.here hx rfl (hb hby dj42m149_41) rfl rfl q) ?_
    refine own_tp (.ref vb53) 44 (fun _ q => XS.aload X53.here hx rfl (hb hby dj42m149_42) rfl rfl q) ?_
    refine own_tp (.int (2 : Int32)) 45 (fun _ q => XS.iloadN X53.here hx rfl (hb hby dj42m149_44) rfl q) ?_
    obtain ⟨_, _, ⟨T56, L56, k56, n56⟩, -, X56, ⟨Lc56, hQ56, l56, y56, z56⟩, st56⟩ := Jvm.LawKit.callS X53 hx (y := (⟨"java/lang/StringUTF16", "coderFromArrayLen", "([BI)B"⟩ : MethodName)) hown (mvT hZ (own_w hw 92 rfl)) (mvT hZ (own_w hw 93 rfl)) (mvT hZ (own_w hw 68 rfl)) (mvT hZ (own_w hw 94 rfl)) (by decide) (backOf (W := 1) (rm116 l Z a0 hw [] vb53 _ _ T53.heap n0 VL) hZ (own_w hw 94 rfl) (own_w hw 68 rfl) (by decide) (by decide)) (g := (mkF m 45 #[.val (.ref x1), .val (.ref a1), .val (.int (0 : Int32)), .val (.int (2 : Int32)), .val .null, .val (.ref vb53)] [(.int (2 : Int32)), (.ref vb53), (.ref x1)])) rfl (by rw [hml]; rfl) (argsL := [(.ref vb53), (.int (2 : Int32))]) (rest := [(.ref x1)]) (lenOf pd17 rfl) rfl (by show 2 * 0 + _ ≤ _; exact Nat.le_of_eq rfl) (hb hby dj42m149_45) (fun _ _ => ⟨rfl, rfl, (by decide : 2 + 0 ≤ _), (by decide : 6 + 0 ≤ _)⟩)
    dsimp only [Pt.U, Pt.locs, Pt.cells, Pt.slots] at X56 l56 y56 z56 st56 hQ56
    subst l56 y56 z56
    obtain ⟨rfl, Nq56, eq56⟩ := hQ56
    have N56 := Fr.app N53 Nq56
    refine own_t2 (.int (0 : Int32)) 48 st56 ?_
    have f57 := (F2.keep Kp53 nin0)
    have f58 := (E1.keep Kp53)
    obtain ⟨T59, h59, X59, e59, W59, st59⟩ := putFN X56 hx hZ hown (own_w hw 32 rfl) Via.refl eq56 f57 f58 (Or.inr ⟨(own_w hw 28 rfl), rfl, hnm⟩) (own_w hw 12 rfl) (ty := .byte) (v' := (.int (0 : Int32))) (by decide) rfl rfl (g := (mkF m 48 #[.val (.ref x1), .val (.ref a1), .val (.int (0 : Int32)), .val (.int (2 : Int32)), .val .null, .val (.ref vb53)] [(.int (0 : Int32)), (.ref x1)])) rfl rfl (hb hby dj42m149_48)
    have Fw59 := f57.same W59
    have N59 := Fr.snoc X59 N56 g1
    have O59 := Old.wr O53 W59 g1
    have K59 : Keep h0 h59 [x1] := K53.wr W59 (Or.inl (List.mem_of_getElem? (i := 0) rfl))
    have Z59 : n0 ≤ h59.size := Nat.le_trans Z53 (Nat.le_of_eq W59.size.symm)
    refine own_d2 51 st59 ?_
    refine own_tp (.ref x1) 52 (fun _ q => XS.aloadN X59.here hx rfl (hb hby dj42m149_51) rfl rfl q) ?_
    refine own_tp (.ref vb53) 54 (fun _ q => XS.aload X59.here hx rfl (hb hby dj42m149_52) rfl rfl q) ?_
    have f60 := ((F1.keep Kp53 nin0).other W59 (Or.inr (slot_ne (Or.inr (own_w hw 27 rfl)) (Or.inr (own_w hw 28 rfl)) (by decide) (t := (.array .byte)) (t' := .byte) (by decide) (by decide))))
    have f61 := (f58.wr W59)
    obtain ⟨T62, h62, X62, e62, W62, st62⟩ := putF X59 hx hZ hown (host := "") (Or.inl (own_w hw 31 rfl)) Via.refl e59 f60 f61 (Or.inr ⟨(own_w hw 27 rfl), rfl, hnm⟩) (own_w hw 12 rfl) (ty := (.array .byte)) (by decide) rfl rfl (g := (mkF m 54 #[.val (.ref x1), .val (.ref a1), .val (.int (0 : Int32)), .val (.int (2 : Int32)), .val .null, .val (.ref vb53)] [(.ref vb53), (.ref x1)])) rfl rfl (hb hby dj42m149_54)
    have Fw62 := f60.same W62
    have N62 := Fr.snoc X62 N59 g1
    have O62 := Old.wr O59 W62 g1
    have K62 : Keep h0 h62 [x1] := K59.wr W62 (Or.inl (List.mem_of_getElem? (i := 0) rfl))
    have Z62 : n0 ≤ h62.size := Nat.le_trans Z59 (Nat.le_of_eq W62.size.symm)
    refine own_d2 57 st62 ?_
    have f63 := (f61.wr W62)
    have f64 := (Fw59.other W62 (Or.inr (slot_ne (Or.inr (own_w hw 28 rfl)) (Or.inr (own_w hw 27 rfl)) (by decide) (t := .byte) (t' := (.array .byte)) (by decide) (by decide))))
    have f65 := ((VL.other W59 (Ne.symm ne55)).other W62 (Ne.symm ne55))
    exact own_retV X62 hx hrt (hb hby dj42m149_57) hlk (by decide) (by decide) e62 (⟨rfl, N62, K62, vb53, _, _, _, _, ge53, s0vb53, f63, Fw62, f64, f65, Or.inl ⟨rfl, rfl, rfl, (own_all2 hxw)⟩⟩)
  ·
    refine own_ls #[.val (.ref x1), .val (.ref a1), .val (.int (0 : Int32)), .val (.int (2 : Int32)), .val .null, .val (.ref vb53)] 41 (fun _ q => XS.astore X53.here hx rfl (hb hby dj42m149_39) rfl rfl (l' := #[.val (.ref x1), .val (.ref a1), .val (.int (0 : Int32)), .val (.int (2 : Int32)), .val .null, .val (.ref vb53)]) rfl q) ?_
    refine own_tp (.ref x1) 42 (fun _ q => XS.aloadN X53.here hx rfl (hb hby dj42m149_41) rfl rfl q) ?_
    refine own_tp (.ref vb53) 44 (fun _ q => XS.aload X53.here hx rfl (hb hby dj42m149_42) rfl rfl q) ?_
    refine own_tp (.int (2 : Int32)) 45 (fun _ q => XS.iloadN X53.here hx rfl (hb hby dj42m149_44) rfl q) ?_
    obtain ⟨_, _, ⟨T66, L66, k66, n66⟩, -, X66, ⟨Lc66, hQ66, l66, y66, z66⟩, st66⟩ := Jvm.LawKit.callS X53 hx (y := (⟨"java/lang/StringUTF16", "coderFromArrayLen", "([BI)B"⟩ : MethodName)) hown (mvT hZ (own_w hw 92 rfl)) (mvT hZ (own_w hw 93 rfl)) (mvT hZ (own_w hw 68 rfl)) (mvT hZ (own_w hw 94 rfl)) (by decide) (backOf (W := 1) (rm117 l Z a0 hw [] vb53 _ _ T53.heap n0 VL) hZ (own_w hw 94 rfl) (own_w hw 68 rfl) (by decide) (by decide)) (g := (mkF m 45 #[.val (.ref x1), .val (.ref a1), .val (.int (0 : Int32)), .val (.int (2 : Int32)), .val .null, .val (.ref vb53)] [(.int (2 : Int32)), (.ref vb53), (.ref x1)])) rfl (by rw [hml]; rfl) (argsL := [(.ref vb53), (.int (2 : Int32))]) (rest := [(.ref x1)]) (lenOf pd17 rfl) rfl (by show 2 * 0 + _ ≤ _; exact Nat.le_of_eq rfl) (hb hby dj42m149_45) (fun _ _ => ⟨rfl, rfl, (by decide : 2 + 0 ≤ _), (by decide : 6 + 0 ≤ _)⟩)
    dsimp only [Pt.U, Pt.locs, Pt.cells, Pt.slots] at X66 l66 y66 z66 st66 hQ66
    subst l66 y66 z66
    obtain ⟨rfl, Nq66, eq66⟩ := hQ66
    have N66 := Fr.app N53 Nq66
    refine own_t2 (.int (1 : Int32)) 48 st66 ?_
    have f67 := (F2.keep Kp53 nin0)
    have f68 := (E1.keep Kp53)
    obtain ⟨T69, h69, X69, e69, W69, st69⟩ := putFN X66 hx hZ hown (own_w hw 32 rfl) Via.refl eq66 f67 f68 (Or.inr ⟨(own_w hw 28 rfl), rfl, hnm⟩) (own_w hw 12 rfl) (ty := .byte) (v' := (.int (1 : Int32))) (by decide) rfl rfl (g := (mkF m 48 #[.val (.ref x1), .val (.ref a1), .val (.int (0 : Int32)), .val (.int (2 : Int32)), .val .null, .val (.ref vb53)] [(.int (1 : Int32)), (.ref x1)])) rfl rfl (hb hby dj42m149_48)
    have Fw69 := f67.same W69
    have N69 := Fr.snoc X69 N66 g1
    have O69 := Old.wr O53 W69 g1
    have K69 : Keep h0 h69 [x1] := K53.wr W69 (Or.inl (List.mem_of_getElem? (i := 0) rfl))
    have Z69 : n0 ≤ h69.size := Nat.le_trans Z53 (Nat.le_of_eq W69.size.symm)
    refine own_d2 51 st69 ?_
    refine own_tp (.ref x1) 52 (fun _ q => XS.aloadN X69.here hx rfl (hb hby dj42m149_51) rfl rfl q) ?_
    refine own_tp (.ref vb53) 54 (fun _ q => XS.aload X69.here hx rfl (hb hby dj42m149_52) rfl rfl q) ?_
    have f70 := ((F1.keep Kp53 nin0).other W69 (Or.inr (slot_ne (Or.inr (own_w hw 27 rfl)) (Or.inr (own_w hw 28 rfl)) (by decide) (t := (.array .byte)) (t' := .byte) (by decide) (by decide))))
    have f71 := (f68.wr W69)
    obtain ⟨T72, h72, X72, e72, W72, st72⟩ := putF X69 hx hZ hown (host := "") (Or.inl (own_w hw 31 rfl)) Via.refl e69 f70 f71 (Or.inr ⟨(own_w hw 27 rfl), rfl, hnm⟩) (own_w hw 12 rfl) (ty := (.array .byte)) (by decide) rfl rfl (g := (mkF m 54 #[.val (.ref x1), .val (.ref a1), .val (.int (0 : Int32)), .val (.int (2 : Int32)), .val .null, .val (.ref vb53)] [(.ref vb53), (.ref x1)])) rfl rfl (hb hby dj42m149_54)
    have Fw72 := f70.same W72
    have N72 := Fr.snoc X72 N69 g1
    have O72 := Old.wr O69 W72 g1
    have K72 : Keep h0 h72 [x1] := K69.wr W72 (Or.inl (List.mem_of_getElem? (i := 0) rfl))
    have Z72 : n0 ≤ h72.size := Nat.le_trans Z69 (Nat.le_of_eq W72.size.symm)
    refine own_d2 57 st72 ?_
    have f73 := (f71.wr W72)
    have f74 := (Fw69.other W72 (Or.inr (slot_ne (Or.inr (own_w hw 28 rfl)) (Or.inr (own_w hw 27 rfl)) (by decide) (t := .byte) (t' := (.array .byte)) (by decide) (by decide))))
    have f75 := ((VL.other W69 (Ne.symm ne55)).other W72 (Ne.symm ne55))
    exact own_retV X72 hx hrt (hb hby dj42m149_57) hlk (by decide) (by decide) e72 (⟨rfl, N72, K72, vb53, _, _, _, _, ge53, s0vb53, f73, Fw72, f74, f75, Or.inr ⟨rfl, rfl, rfl, hxw⟩⟩)

def Q119 (Z : State) (x1 : Addr) (c0 c1 : Int32) (h0 : Heap) (n0 : Nat) (v : Option Value) (h : Heap) (L : List Loc) : Prop := v = none ∧ Fr n0 L ∧ Keep h0 h [x1] ∧ ∃ (t : Addr) (kb : ClassId) (cd N : Int32) (vs : List Value), n0 ≤ t ∧ h0.size ≤ t ∧ Exa Z h x1 "java/lang/String" ∧ Fld Z h x1 "java/lang/String" "value" "[B" (.ref t) ∧ Fld Z h x1 "java/lang/String" "coder" "B" (.int cd) ∧ Arv Z h t kb .byte N vs (.int (0 : Int32)) ∧ own_Cod ([c0, c1] : List Int32) cd N vs

set_option maxRecDepth 65536 in
set_option maxHeartbeats 40000000 in
theorem rm119 (l : Launch) (Z : State) (a0 : Array Value) (hw : ∀ d ∈ tables_1, d.before a0 Z = true) (ws : List Jvm.Cond) (x1 a1 : Addr) (k1 : ClassId) (c0 c1 : Int32) (u1 u2 : Value) (h0 : Heap) (n0 : Nat) (Z0 : n0 ≤ h0.size) (g1 : n0 ≤ x1) (hxa : x1 ≠ a1) (hc0 : 0 ≤ c0.toInt ∧ c0.toInt ≤ 65535) (hc1 : 0 ≤ c1.toInt ∧ c1.toInt ≤ 65535) (V1 : Arv Z h0 a1 k1 .char (2 : Int32) [(.int c0), (.int c1)] (.int (0 : Int32))) (E1 : Exa Z h0 x1 "java/lang/String") (F1 : Fld Z h0 x1 "java/lang/String" "value" "[B" u1) (F2 : Fld Z h0 x1 "java/lang/String" "coder" "B" u2) (G1 : Int32) (US : own_US Z G1) (O0 : Old Z n0 h0) :
    own_Met l (⟨"java/lang/String", "<init>", "([C)V"⟩ : MethodName) jdk_42_method_3_code 2 none ws own_R_5_2_6_78 Z #[(.ref x1), (.ref a1)] h0 (Q119 Z x1 c0 c1 h0 n0) := by
  refine own_enter #[.val (.ref x1), .val (.ref a1)] (plainFor_of_name pn_java_lang_String) (fun m => ef_RR_2 m x1 a1) ?_
  intro p e s m below meth c s₁ hx hby hml hown hnm hZ hrt hlk X0 e0
  have N0 := Fr.nil n0
  refine own_tp (.ref x1) 1 (fun _ q => XS.aloadN X0.here hx rfl (hb hby dj42m3_0) rfl rfl q) ?_
  refine own_tp (.ref a1) 2 (fun _ q => XS.aloadN X0.here hx rfl (hb hby dj42m3_1) rfl rfl q) ?_
  refine own_tp (.int (0 : Int32)) 3 (fun _ q => XS.iconst X0.here hx rfl (hb hby dj42m3_2) q) ?_
  refine own_tp (.ref a1) 4 (fun _ q => XS.aloadN X0.here hx rfl (hb hby dj42m3_3) rfl rfl q) ?_
  obtain ⟨cl51, Ar51, -, Sz51, Nn51, -, -⟩ := (id V1)
  refine own_t1 (.int (2 : Int32)) 5 (fun t q => X0.arraylength hx (by rw [e0]; exact Ar51.1) (State.isArrayOf_alike hZ.alike Ar51.2.1) (g := (mkF m 4 #[.val (.ref x1), .val (.ref a1)] [(.ref a1), (.int (0 : Int32)), (.ref a1), (.ref x1)])) rfl rfl (hb hby dj42m3_4) _ (by rw [len_of Sz51 Nn51]; exact q)) ?_
  refine own_tp .null 6 (fun _ q => XS.aconstNull X0.here hx rfl (hb hby dj42m3_5) q) ?_
  obtain ⟨_, _, ⟨T52, L52, k52, n52⟩, -, X52, ⟨Lc52, hQ52, l52, y52, z52⟩, st52⟩ := X0.specialBack hx (y := (⟨"java/lang/String", "<init>", "([CIILjava/lang/Void;)V"⟩ : MethodName)) rfl hown (mvT hZ (own_w hw 18 rfl)) (mvT hZ (own_w hw 19 rfl)) (mvT hZ (own_w hw 21 rfl)) (by decide) (backOf (W := 0) (rm118 l Z a0 hw [] x1 a1 k1 c0 c1 _ _ h0 n0 Z0 g1 hxa hc0 hc1 V1 E1 F1 F2 G1 US O0) hZ (own_w hw 21 rfl) (own_w hw 13 rfl) (by decide) (by decide)) (g := (mkF m 6 #[.val (.ref x1), .val (.ref a1)] [.null, (.int (2 : Int32)), (.int (0 : Int32)), (.ref a1), (.ref x1)])) rfl (by rw [hml]; rfl) (Steps.refl _) (a := x1) (argsL := [(.ref a1), (.int (0 : Int32)), (.int (2 : Int32)), .null]) (rest := []) (lenOf pd12 rfl) rfl (by show 2 * 0 + _ ≤ _; exact Nat.le_of_eq rfl) (hb hby dj42m3_6) (fun _ _ => ⟨rfl, e0, (by decide : 0 + 2 ≤ _), (by decide : 0 + 6 ≤ _)⟩)
  dsimp only [Pt.U, Pt.locs, Pt.cells, Pt.slots] at X52 l52 y52 z52 st52 hQ52
  subst l52 y52 z52
  obtain ⟨rfl, Nq52, Kp52, rest52⟩ := hQ52
  refine own_csR [] 9 st52 ?_
  exact own_retV X52 hx hrt (hb hby dj42m3_9) hlk (by decide) (by decide) rfl (⟨rfl, Fr.app N0 Nq52, Kp52, rest52⟩)

def Q120 (Z : State) (b1 : Addr) (k2 : ClassId) (c0 c1 c2 : Int32) (h0 : Heap) (n0 : Nat) (v : Option Value) (h : Heap) (L : List Loc) : Prop := Fr n0 L ∧ Keep h0 h [b1] ∧ ((v = some (.int (0 : Int32)) ∧ (255 : Int32) < c0) ∨ (v = some (.int (1 : Int32)) ∧ (255 : Int32) < c1) ∨ (v = some (.int (2 : Int32)) ∧ (255 : Int32) < c2) ∨ (v = some (.int (3 : Int32)) ∧ (¬ (255 : Int32) < c0 ∧ ¬ (255 : Int32) < c1 ∧ ¬ (255 : Int32) < c2) ∧ Arv Z h b1 k2 .byte (3 : Int32) [(.int (own_lo c0)), (.int (own_lo c1)), (.int (own_lo c2))] (.int (0 : Int32))))

set_option maxRecDepth 65536 in
set_option maxHeartbeats 40000000 in
theorem rm120 (l : Launch) (Z : State) (a0 : Array Value) (hw : ∀ d ∈ tables_1, d.before a0 Z = true) (ws : List Jvm.Cond) (a1 b1 : Addr) (k1 k2 : ClassId) (c0 c1 c2 : Int32) (h0 : Heap) (n0 : Nat) (Z0 : n0 ≤ h0.size) (g1 : n0 ≤ b1) (hab : a1 ≠ b1) (V1 : Arv Z h0 a1 k1 .char (3 : Int32) [(.int c0), (.int c1), (.int c2)] (.int (0 : Int32))) (V2 : Arv Z h0 b1 k2 .byte (3 : Int32) [(.int (0 : Int32)), (.int (0 : Int32)), (.int (0 : Int32))] (.int (0 : Int32))) :
    own_Met l (⟨"java/lang/StringUTF16", "compress", "([CI[BII)I"⟩ : MethodName) jdk_52_method_21_code 7 (some .int) ws own_R_0_0_0_0 Z #[(.ref a1), (.int (0 : Int32)), (.ref b1), (.int (0 : Int32)), (.int (3 : Int32))] h0 (Q120 Z b1 k2 c0 c1 c2 h0 n0) := by
  refine own_enter #[.val (.ref a1), .val (.int (0 : Int32)), .val (.ref b1), .val (.int (0 : Int32)), .val (.int (3 : Int32)), .unset, .unset] (plainFor_of_name pn_java_lang_StringUTF16) (fun m => ef_RIRII_7 m a1 (0 : Int32) b1 (0 : Int32) (3 : Int32)) ?_
  intro p e s m below meth c s₁ hx hby hml hown hnm hZ hrt hlk X0 e0
  have N0 := Fr.nil n0
  refine own_tp (.int (0 : Int32)) 1 (fun _ q => XS.iconst X0.here hx rfl (hb hby dj52m21_0) q) ?_
  refine own_ls #[.val (.ref a1), .val (.int (0 : Int32)), .val (.ref b1), .val (.int (0 : Int32)), .val (.int (3 : Int32)), .val (.int (0 : Int32)), .unset] 3 (fun _ q => XS.istore X0.here hx rfl (hb hby dj52m21_1) rfl (l' := #[.val (.ref a1), .val (.int (0 : Int32)), .val (.ref b1), .val (.int (0 : Int32)), .val (.int (3 : Int32)), .val (.int (0 : Int32)), .unset]) rfl q) ?_
  refine own_tp (.int (0 : Int32)) 5 (fun _ q => XS.iload X0.here hx rfl (hb hby dj52m21_3) rfl q) ?_
  refine own_tp (.int (3 : Int32)) 7 (fun _ q => XS.iload X0.here hx rfl (hb hby dj52m21_5) rfl q) ?_
  refine own_d2 10 (fun _ q => XS.icmpNo X0.here hx rfl (hb hby dj52m21_7) rfl (tlt (by decide : (0 : Int32) < (3 : Int32))).2.1 q) ?_
  refine own_tp (.ref a1) 11 (fun _ q => XS.aloadN X0.here hx rfl (hb hby dj52m21_10) rfl rfl q) ?_
  refine own_tp (.int (0 : Int32)) 12 (fun _ q => XS.iloadN X0.here hx rfl (hb hby dj52m21_11) rfl q) ?_
  obtain ⟨cl51, Ar51, q51, S51, Nn51, H51, G51⟩ := (id V1)
  have hin51 : ¬ ((0 : Int32) < 0 ∨ cl51.slots.size ≤ ((0 : Int32)).toNatClampNeg) := inb_of S51 ⟨by decide, by decide⟩
  have hat51 : cl51.slots[((0 : Int32)).toNatClampNeg]? = some (.int c0) := H51.at hin51 rfl
  refine own_t2 (.int c0) 13 (fun _ q => X0.caload hx (j := (0 : Int32)) (v := (.int c0)) (by rw [e0]; exact Ar51.1) (State.isArrayOf_alike hZ.alike Ar51.2.1) Ar51.2.2 hin51 hat51 (g := (mkF m 12 #[.val (.ref a1), .val (.int (0 : Int32)), .val (.ref b1), .val (.int (0 : Int32)), .val (.int (3 : Int32)), .val (.int (0 : Int32)), .unset] [(.int (0 : Int32)), (.ref a1)])) rfl rfl (hb hby dj52m21_12) _ q) ?_
  refine own_ls #[.val (.ref a1), .val (.int (0 : Int32)), .val (.ref b1), .val (.int (0 : Int32)), .val (.int (3 : Int32)), .val (.int (0 : Int32)), .val (.int c0)] 15 (fun _ q => XS.istore X0.here hx rfl (hb hby dj52m21_13) rfl (l' := #[.val (.ref a1), .val (.int (0 : Int32)), .val (.ref b1), .val (.int (0 : Int32)), .val (.int (3 : Int32)), .val (.int (0 : Int32)), .val (.int c0)]) rfl q) ?_
  refine own_tp (.int c0) 17 (fun _ q => XS.iload X0.here hx rfl (hb hby dj52m21_15) rfl q) ?_
  refine own_tp (.int (255 : Int32)) 20 (fun _ q => XS.sipush X0.here hx rfl (hb hby dj52m21_17) q) ?_
  by_cases c52 : (255 : Int32) < c0
  ·
    refine own_d2 23 (fun _ q => XS.icmpNo X0.here hx rfl (hb hby dj52m21_20) rfl (tlt c52).2.2.2 q) ?_
    refine own_tp (.int (0 : Int32)) 25 (fun _ q => XS.iload X0.here hx rfl (hb hby dj52m21_23) rfl q) ?_
    exact own_retI X0 hx hrt (hb hby dj52m21_25) hlk (by decide) (by decide) e0 (⟨N0, (Keep.refl h0 [b1]), (Or.inl ⟨rfl, c52⟩)⟩)
  ·
    refine own_d2 26 (fun _ q => XS.icmpYes X0.here hx rfl (pc0 := 20) (pc' := 26) rfl (hb hby dj52m21_20) rfl (flt c52).2.2.2 (by decide) (by decide) q) ?_
    refine own_tp (.ref b1) 27 (fun _ q => XS.aloadN X0.here hx rfl (hb hby dj52m21_26) rfl rfl q) ?_
    refine own_tp (.int (0 : Int32)) 28 (fun _ q => XS.iloadN X0.here hx rfl (hb hby dj52m21_27) rfl q) ?_
    refine own_tp (.int c0) 30 (fun _ q => XS.iload X0.here hx rfl (hb hby dj52m21_28) rfl q) ?_
    refine own_t1 (.int (c0.toInt8.toInt32)) 31 (fun _ q => XS.i2b X0.here hx rfl (hb hby dj52m21_30) rfl q) ?_
    obtain ⟨cl53, Ar53, q53, S53, Nn53, H53, G53⟩ := (id V2)
    have hin53 : ¬ ((0 : Int32) < 0 ∨ cl53.slots.size ≤ ((0 : Int32)).toNatClampNeg) := inb_of S53 ⟨by decide, by decide⟩
    obtain ⟨T54, h54, X54, e54, W54, st54⟩ := stB X0 hx hZ e0 Ar53 (j := (0 : Int32)) hin53 (g := (mkF m 31 #[.val (.ref a1), .val (.int (0 : Int32)), .val (.ref b1), .val (.int (0 : Int32)), .val (.int (3 : Int32)), .val (.int (0 : Int32)), .val (.int c0)] [(.int (c0.toInt8.toInt32)), (.int (0 : Int32)), (.ref b1)])) rfl rfl (hb hby dj52m21_31)
    have V54 := Arv.set Ar53 q53 S53 Nn53 H53 G53 (fits_nar_byte _) W54 0 rfl (Nat.le_of_ble_eq_true rfl)
    have N54 := Fr.snoc X54 N0 g1
    have K54 : Keep h0 h54 [b1] := (Keep.refl h0 [b1]).wr W54 (Or.inl (List.mem_of_getElem? (i := 0) rfl))
    have Z54 : n0 ≤ h54.size := Nat.le_trans Z0 (Nat.le_of_eq W54.size.symm)
    have V54' : Arv Z h54 b1 k2 .byte (3 : Int32) [(.int (c0.toInt8.toInt32)), (.int (0 : Int32)), (.int (0 : Int32))] (.int (0 : Int32)) := by have q := V54; first | (rw [own_nb] at q; exact q) | (rw [own_nb2] at q; exact q)
    refine own_cs [] 32 st54 ?_
    refine own_li #[.val (.ref a1), .val (.int (1 : Int32)), .val (.ref b1), .val (.int (0 : Int32)), .val (.int (3 : Int32)), .val (.int (0 : Int32)), .val (.int c0)] 35 (fun _ q => XS.iinc X54.here hx rfl (hb hby dj52m21_32) rfl (l' := #[.val (.ref a1), .val (.int (1 : Int32)), .val (.ref b1), .val (.int (0 : Int32)), .val (.int (3 : Int32)), .val (.int (0 : Int32)), .val (.int c0)]) rfl q) ?_
    refine own_li #[.val (.ref a1), .val (.int (1 : Int32)), .val (.ref b1), .val (.int (1 : Int32)), .val (.int (3 : Int32)), .val (.int (0 : Int32)), .val (.int c0)] 38 (fun _ q => XS.iinc X54.here hx rfl (hb hby dj52m21_35) rfl (l' := #[.val (.ref a1), .val (.int (1 : Int32)), .val (.ref b1), .val (.int (1 : Int32)), .val (.int (3 : Int32)), .val (.int (0 : Int32)), .val (.int c0)]) rfl q) ?_
    refine own_li #[.val (.ref a1), .val (.int (1 : Int32)), .val (.ref b1), .val (.int (1 : Int32)), .val (.int (3 : Int32)), .val (.int (1 : Int32)), .val (.int c0)] 41 (fun _ q => XS.iinc X54.here hx rfl (hb hby dj52m21_38) rfl (l' := #[.val (.ref a1), .val (.int (1 : Int32)), .val (.ref b1), .val (.int (1 : Int32)), .val (.int (3 : Int32)), .val (.int (1 : Int32)), .val (.int c0)]) rfl q) ?_
    refine own_d0 3 (fun _ q => XS.goto X54.here hx rfl (pc0 := 41) (pc' := 3) rfl (hb hby dj52m21_41) (by decide) (by decide) q) ?_
    refine own_tp (.int (1 : Int32)) 5 (fun _ q => XS.iload X54.here hx rfl (hb hby dj52m21_3) rfl q) ?_
    refine own_tp (.int (3 : Int32)) 7 (fun _ q => XS.iload X54.here hx rfl (hb hby dj52m21_5) rfl q) ?_
    refine own_d2 10 (fun _ q => XS.icmpNo X54.here hx rfl (hb hby dj52m21_7) rfl (tlt (by decide : (1 : Int32) < (3 : Int32))).2.1 q) ?_
    refine own_tp (.ref a1) 11 (fun _ q => XS.aloadN X54.here hx rfl (hb hby dj52m21_10) rfl rfl q) ?_
    refine own_tp (.int (1 : Int32)) 12 (fun _ q => XS.iloadN X54.here hx rfl (hb hby dj52m21_11) rfl q) ?_
    have f55 := (V1.other W54 hab)
    obtain ⟨cl56, Ar56, q56, S56, Nn56, H56, G56⟩ := (id f55)
    have hin56 : ¬ ((1 : Int32) < 0 ∨ cl56.slots.size ≤ ((1 : Int32)).toNatClampNeg) := inb_of S56 ⟨by decide, by decide⟩
    have hat56 : cl56.slots[((1 : Int32)).toNatClampNeg]? = some (.int c1) := H56.at hin56 rfl
    refine own_t2 (.int c1) 13 (fun _ q => X54.caload hx (j := (1 : Int32)) (v := (.int c1)) (by rw [e54]; exact Ar56.1) (State.isArrayOf_alike hZ.alike Ar56.2.1) Ar56.2.2 hin56 hat56 (g := (mkF m 12 #[.val (.ref a1), .val (.int (1 : Int32)), .val (.ref b1), .val (.int (1 : Int32)), .val (.int (3 : Int32)), .val (.int (1 : Int32)), .val (.int c0)] [(.int (1 : Int32)), (.ref a1)])) rfl rfl (hb hby dj52m21_12) _ q) ?_
    refine own_ls #[.val (.ref a1), .val (.int (1 : Int32)), .val (.ref b1), .val (.int (1 : Int32)), .val (.int (3 : Int32)), .val (.int (1 : Int32)), .val (.int c1)] 15 (fun _ q => XS.istore X54.here hx rfl (hb hby dj52m21_13) rfl (l' := #[.val (.ref a1), .val (.int (1 : Int32)), .val (.ref b1), .val (.int (1 : Int32)), .val (.int (3 : Int32)), .val (.int (1 : Int32)), .val (.int c1)]) rfl q) ?_
    refine own_tp (.int c1) 17 (fun _ q => XS.iload X54.here hx rfl (hb hby dj52m21_15) rfl q) ?_
    refine own_tp (.int (255 : Int32)) 20 (fun _ q => XS.sipush X54.here hx rfl (hb hby dj52m21_17) q) ?_
    by_cases c57 : (255 : Int32) < c1
    ·
      refine own_d2 23 (fun _ q => XS.icmpNo X54.here hx rfl (hb hby dj52m21_20) rfl (tlt c57).2.2.2 q) ?_
      refine own_tp (.int (1 : Int32)) 25 (fun _ q => XS.iload X54.here hx rfl (hb hby dj52m21_23) rfl q) ?_
      exact own_retI X54 hx hrt (hb hby dj52m21_25) hlk (by decide) (by decide) e54 (⟨N54, K54, (Or.inr (Or.inl ⟨rfl, c57⟩))⟩)
    ·
      refine own_d2 26 (fun _ q => XS.icmpYes X54.here hx rfl (pc0 := 20) (pc' := 26) rfl (hb hby dj52m21_20) rfl (flt c57).2.2.2 (by decide) (by decide) q) ?_
      refine own_tp (.ref b1) 27 (fun _ q => XS.aloadN X54.here hx rfl (hb hby dj52m21_26) rfl rfl q) ?_
      refine own_tp (.int (1 : Int32)) 28 (fun _ q => XS.iloadN X54.here hx rfl (hb hby dj52m21_27) rfl q) ?_
      refine own_tp (.int c1) 30 (fun _ q => XS.iload X54.here hx rfl (hb hby dj52m21_28) rfl q) ?_
      refine own_t1 (.int (c1.toInt8.toInt32)) 31 (fun _ q => XS.i2b X54.here hx rfl (hb hby dj52m21_30) rfl q) ?_
      obtain ⟨cl58, Ar58, q58, S58, Nn58, H58, G58⟩ := (id V54')
      have hin58 : ¬ ((1 : Int32) < 0 ∨ cl58.slots.size ≤ ((1 : Int32)).toNatClampNeg) := inb_of S58 ⟨by decide, by decide⟩
      obtain ⟨T59, h59, X59, e59, W59, st59⟩ := stB X54 hx hZ e54 Ar58 (j := (1 : Int32)) hin58 (g := (mkF m 31 #[.val (.ref a1), .val (.int (1 : Int32)), .val (.ref b1), .val (.int (1 : Int32)), .val (.int (3 : Int32)), .val (.int (1 : Int32)), .val (.int c1)] [(.int (c1.toInt8.toInt32)), (.int (1 : Int32)), (.ref b1)])) rfl rfl (hb hby dj52m21_31)
      have V59 := Arv.set Ar58 q58 S58 Nn58 H58 G58 (fits_nar_byte _) W59 1 rfl (Nat.le_of_ble_eq_true rfl)
      have N59 := Fr.snoc X59 N54 g1
      have K59 : Keep h0 h59 [b1] := K54.wr W59 (Or.inl (List.mem_of_getElem? (i := 0) rfl))
      have Z59 : n0 ≤ h59.size := Nat.le_trans Z54 (Nat.le_of_eq W59.size.symm)
      have V59' : Arv Z h59 b1 k2 .byte (3 : Int32) [(.int (c0.toInt8.toInt32)), (.int (c1.toInt8.toInt32)), (.int (0 : Int32))] (.int (0 : Int32)) := by have q := V59; first | (rw [own_nb] at q; exact q) | (rw [own_nb2] at q; exact q)
      refine own_cs [] 32 st59 ?_
      refine own_li #[.val (.ref a1), .val (.int (2 : Int32)), .val (.ref b1), .val (.int (1 : Int32)), .val (.int (3 : Int32)), .val (.int (1 : Int32)), .val (.int c1)] 35 (fun _ q => XS.iinc X59.here hx rfl (hb hby dj52m21_32) rfl (l' := #[.val (.ref a1), .val (.int (2 : Int32)), .val (.ref b1), .val (.int (1 : Int32)), .val (.int (3 : Int32)), .val (.int (1 : Int32)), .val (.int c1)]) rfl q) ?_
      refine own_li #[.val (.ref a1), .val (.int (2 : Int32)), .val (.ref b1), .val (.int (2 : Int32)), .val (.int (3 : Int32)), .val (.int (1 : Int32)), .val (.int c1)] 38 (fun _ q => XS.iinc X59.here hx rfl (hb hby dj52m21_35) rfl (l' := #[.val (.ref a1), .val (.int (2 : Int32)), .val (.ref b1), .val (.int (2 : Int32)), .val (.int (3 : Int32)), .val (.int (1 : Int32)), .val (.int c1)]) rfl q) ?_
      refine own_li #[.val (.ref a1), .val (.int (2 : Int32)), .val (.ref b1), .val (.int (2 : Int32)), .val (.int (3 : Int32)), .val (.int (2 : Int32)), .val (.int c1)] 41 (fun _ q => XS.iinc X59.here hx rfl (hb hby dj52m21_38) rfl (l' := #[.val (.ref a1), .val (.int (2 : Int32)), .val (.ref b1), .val (.int (2 : Int32)), .val (.int (3 : Int32)), .val (.int (2 : Int32)), .val (.int c1)]) rfl q) ?_
      refine own_d0 3 (fun _ q => XS.goto X59.here hx rfl (pc0 := 41) (pc' := 3) rfl (hb hby dj52m21_41) (by decide) (by decide) q) ?_
      refine own_tp (.int (2 : Int32)) 5 (fun _ q => XS.iload X59.here hx rfl (hb hby dj52m21_3) rfl q) ?_
      refine own_tp (.int (3 : Int32)) 7 (fun _ q => XS.iload X59.here hx rfl (hb hby dj52m21_5) rfl q) ?_
      refine own_d2 10 (fun _ q => XS.icmpNo X59.here hx rfl (hb hby dj52m21_7) rfl (tlt (by decide : (2 : Int32) < (3 : Int32))).2.1 q) ?_
      refine own_tp (.ref a1) 11 (fun _ q => XS.aloadN X59.here hx rfl (hb hby dj52m21_10) rfl rfl q) ?_
      refine own_tp (.int (2 : Int32)) 12 (fun _ q => XS.iloadN X59.here hx rfl (hb hby dj52m21_11) rfl q) ?_
      have f60 := (f55.other W59 hab)
      obtain ⟨cl61, Ar61, q61, S61, Nn61, H61, G61⟩ := (id f60)
      have hin61 : ¬ ((2 : Int32) < 0 ∨ cl61.slots.size ≤ ((2 : Int32)).toNatClampNeg) := inb_of S61 ⟨by decide, by decide⟩
      have hat61 : cl61.slots[((2 : Int32)).toNatClampNeg]? = some (.int c2) := H61.at hin61 rfl
      refine own_t2 (.int c2) 13 (fun _ q => X59.caload hx (j := (2 : Int32)) (v := (.int c2)) (by rw [e59]; exact Ar61.1) (State.isArrayOf_alike hZ.alike Ar61.2.1) Ar61.2.2 hin61 hat61 (g := (mkF m 12 #[.val (.ref a1), .val (.int (2 : Int32)), .val (.ref b1), .val (.int (2 : Int32)), .val (.int (3 : Int32)), .val (.int (2 : Int32)), .val (.int c1)] [(.int (2 : Int32)), (.ref a1)])) rfl rfl (hb hby dj52m21_12) _ q) ?_
      refine own_ls #[.val (.ref a1), .val (.int (2 : Int32)), .val (.ref b1), .val (.int (2 : Int32)), .val (.int (3 : Int32)), .val (.int (2 : Int32)), .val (.int c2)] 15 (fun _ q => XS.istore X59.here hx rfl (hb hby dj52m21_13) rfl (l' := #[.val (.ref a1), .val (.int (2 : Int32)), .val (.ref b1), .val (.int (2 : Int32)), .val (.int (3 : Int32)), .val (.int (2 : Int32)), .val (.int c2)]) rfl q) ?_
      refine own_tp (.int c2) 17 (fun _ q => XS.iload X59.here hx rfl (hb hby dj52m21_15) rfl q) ?_
      refine own_tp (.int (255 : Int32)) 20 (fun _ q => XS.sipush X59.here hx rfl (hb hby dj52m21_17) q) ?_
      by_cases c62 : (255 : Int32) < c2
      ·
        refine own_d2 23 (fun _ q => XS.icmpNo X59.here hx rfl (hb hby dj52m21_20) rfl (tlt c62).2.2.2 q) ?_
        refine own_tp (.int (2 : Int32)) 25 (fun _ q => XS.iload X59.here hx rfl (hb hby dj52m21_23) rfl q) ?_
        exact own_retI X59 hx hrt (hb hby dj52m21_25) hlk (by decide) (by decide) e59 (⟨N59, K59, (Or.inr (Or.inr (Or.inl ⟨rfl, c62⟩)))⟩)
      ·
        refine own_d2 26 (fun _ q => XS.icmpYes X59.here hx rfl (pc0 := 20) (pc' := 26) rfl (hb hby dj52m21_20) rfl (flt c62).2.2.2 (by decide) (by decide) q) ?_
        refine own_tp (.ref b1) 27 (fun _ q => XS.aloadN X59.here hx rfl (hb hby dj52m21_26) rfl rfl q) ?_
        refine own_tp (.int (2 : Int32)) 28 (fun _ q => XS.iloadN X59.here hx rfl (hb hby dj52m21_27) rfl q) ?_
        refine own_tp (.int c2) 30 (fun _ q => XS.iload X59.here hx rfl (hb hby dj52m21_28) rfl q) ?_
        refine own_t1 (.int (c2.toInt8.toInt32)) 31 (fun _ q => XS.i2b X59.here hx rfl (hb hby dj52m21_30) rfl q) ?_
        obtain ⟨cl63, Ar63, q63, S63, Nn63, H63, G63⟩ := (id V59')
        have hin63 : ¬ ((2 : Int32) < 0 ∨ cl63.slots.size ≤ ((2 : Int32)).toNatClampNeg) := inb_of S63 ⟨by decide, by decide⟩
        obtain ⟨T64, h64, X64, e64, W64, st64⟩ := stB X59 hx hZ e59 Ar63 (j := (2 : Int32)) hin63 (g := (mkF m 31 #[.val (.ref a1), .val (.int (2 : Int32)), .val (.ref b1), .val (.int (2 : Int32)), .val (.int (3 : Int32)), .val (.int (2 : Int32)), .val (.int c2)] [(.int (c2.toInt8.toInt32)), (.int (2 : Int32)), (.ref b1)])) rfl rfl (hb hby dj52m21_31)
        have V64 := Arv.set Ar63 q63 S63 Nn63 H63 G63 (fits_nar_byte _) W64 2 rfl (Nat.le_of_ble_eq_true rfl)
        have N64 := Fr.snoc X64 N59 g1
        have K64 : Keep h0 h64 [b1] := K59.wr W64 (Or.inl (List.mem_of_getElem? (i := 0) rfl))
        have Z64 : n0 ≤ h64.size := Nat.le_trans Z59 (Nat.le_of_eq W64.size.symm)
        have V64' : Arv Z h64 b1 k2 .byte (3 : Int32) [(.int (c0.toInt8.toInt32)), (.int (c1.toInt8.toInt32)), (.int (c2.toInt8.toInt32))] (.int (0 : Int32)) := by have q := V64; first | (rw [own_nb] at q; exact q) | (rw [own_nb2] at q; exact q)
        refine own_cs [] 32 st64 ?_
        refine own_li #[.val (.ref a1), .val (.int (3 : Int32)), .val (.ref b1), .val (.int (2 : Int32)), .val (.int (3 : Int32)), .val (.int (2 : Int32)), .val (.int c2)] 35 (fun _ q => XS.iinc X64.here hx rfl (hb hby dj52m21_32) rfl (l' := #[.val (.ref a1), .val (.int (3 : Int32)), .val (.ref b1), .val (.int (2 : Int32)), .val (.int (3 : Int32)), .val (.int (2 : Int32)), .val (.int c2)]) rfl q) ?_
        refine own_li #[.val (.ref a1), .val (.int (3 : Int32)), .val (.ref b1), .val (.int (3 : Int32)), .val (.int (3 : Int32)), .val (.int (2 : Int32)), .val (.int c2)] 38 (fun _ q => XS.iinc X64.here hx rfl (hb hby dj52m21_35) rfl (l' := #[.val (.ref a1), .val (.int (3 : Int32)), .val (.ref b1), .val (.int (3 : Int32)), .val (.int (3 : Int32)), .val (.int (2 : Int32)), .val (.int c2)]) rfl q) ?_
        refine own_li #[.val (.ref a1), .val (.int (3 : Int32)), .val (.ref b1), .val (.int (3 : Int32)), .val (.int (3 : Int32)), .val (.int (3 : Int32)), .val (.int c2)] 41 (fun _ q => XS.iinc X64.here hx rfl (hb hby dj52m21_38) rfl (l' := #[.val (.ref a1), .val (.int (3 : Int32)), .val (.ref b1), .val (.int (3 : Int32)), .val (.int (3 : Int32)), .val (.int (3 : Int32)), .val (.int c2)]) rfl q) ?_
        refine own_d0 3 (fun _ q => XS.goto X64.here hx rfl (pc0 := 41) (pc' := 3) rfl (hb hby dj52m21_41) (by decide) (by decide) q) ?_
        refine own_tp (.int (3 : Int32)) 5 (fun _ q => XS.iload X64.here hx rfl (hb hby dj52m21_3) rfl q) ?_
        refine own_tp (.int (3 : Int32)) 7 (fun _ q => XS.iload X64.here hx rfl (hb hby dj52m21_5) rfl q) ?_
        refine own_d2 44 (fun _ q => XS.icmpYes X64.here hx rfl (pc0 := 7) (pc' := 44) rfl (hb hby dj52m21_7) rfl (flt (by decide : ¬ ((3 : Int32) < (3 : Int32)))).2.1 (by decide) (by decide) q) ?_
        refine own_tp (.int (3 : Int32)) 46 (fun _ q => XS.iload X64.here hx rfl (hb hby dj52m21_44) rfl q) ?_
        exact own_retI X64 hx hrt (hb hby dj52m21_46) hlk (by decide) (by decide) e64 (⟨N64, K64, (Or.inr (Or.inr (Or.inr ⟨rfl, ⟨c52, c57, c62⟩, V64'⟩)))⟩)

def Q121  (h0 : Heap) (n0 : Nat) (v : Option Value) (h : Heap) (L : List Loc) : Prop := v = some (.int (6 : Int32)) ∧ Fr n0 L ∧ h = h0

set_option maxRecDepth 65536 in
set_option maxHeartbeats 40000000 in
theorem rm121 (l : Launch) (Z : State) (a0 : Array Value) (hw : ∀ d ∈ tables_1, d.before a0 Z = true) (ws : List Jvm.Cond)  (h0 : Heap) (n0 : Nat)  :
    own_Met l (⟨"java/lang/StringUTF16", "newBytesLength", "(I)I"⟩ : MethodName) jdk_52_method_3_code 1 (some .int) ws own_R_0_0_0_0 Z #[(.int (3 : Int32))] h0 (Q121 h0 n0) := by
  refine own_enter #[.val (.int (3 : Int32))] (plainFor_of_name pn_java_lang_StringUTF16) (fun m => ef_I_1 m (3 : Int32)) ?_
  intro p e s m below meth c s₁ hx hby hml hown hnm hZ hrt hlk X0 e0
  have N0 := Fr.nil n0
  refine own_tp (.int (3 : Int32)) 1 (fun _ q => XS.iloadN X0.here hx rfl (hb hby dj52m3_0) rfl q) ?_
  refine own_d1 12 (fun _ q => XS.ifYes X0.here hx rfl (pc0 := 1) (pc' := 12) rfl (hb hby dj52m3_1) rfl ((if0 _ _).trans (flt (by decide : ¬ ((3 : Int32) < (0 : Int32)))).2.1) (by decide) (by decide) q) ?_
  refine own_tp (.int (3 : Int32)) 13 (fun _ q => XS.iloadN X0.here hx rfl (hb hby dj52m3_12) rfl q) ?_
  refine own_tp (.int (1073741823 : Int32)) 15 (fun _ q => X0.ldcInt hx hown (mvT hZ (own_w hw 82 rfl)) (g := (mkF m 13 #[.val (.int (3 : Int32))] [(.int (3 : Int32))])) rfl (hb hby dj52m3_13) _ q) ?_
  refine own_d2 55 (fun _ q => XS.icmpYes X0.here hx rfl (pc0 := 15) (pc' := 55) rfl (hb hby dj52m3_15) rfl (tlt (by decide : (3 : Int32) < (1073741823 : Int32))).1 (by decide) (by decide) q) ?_
  refine own_tp (.int (3 : Int32)) 56 (fun _ q => XS.iloadN X0.here hx rfl (hb hby dj52m3_55) rfl q) ?_
  refine own_tp (.int (1 : Int32)) 57 (fun _ q => XS.iconst X0.here hx rfl (hb hby dj52m3_56) q) ?_
  refine own_t2 (.int (6 : Int32)) 58 (fun _ q => XS.ishl X0.here hx rfl (hb hby dj52m3_57) rfl q) ?_
  exact own_retI X0 hx hrt (hb hby dj52m3_58) hlk (by decide) (by decide) e0 (⟨rfl, N0, rfl⟩)

def Q122 (Z : State) (h0 : Heap) (n0 : Nat) (v : Option Value) (h : Heap) (L : List Loc) : Prop := ∃ (b : Addr) (k : ClassId), v = some (.ref b) ∧ Fr n0 L ∧ Keep h0 h [] ∧ n0 ≤ b ∧ h0.size ≤ b ∧ Arv Z h b k .byte (6 : Int32) [(.int (0 : Int32)), (.int (0 : Int32)), (.int (0 : Int32)), (.int (0 : Int32)), (.int (0 : Int32)), (.int (0 : Int32))] (.int (0 : Int32))

set_option maxRecDepth 65536 in
set_option maxHeartbeats 40000000 in
theorem rm122 (l : Launch) (Z : State) (a0 : Array Value) (hw : ∀ d ∈ tables_1, d.before a0 Z = true) (ws : List Jvm.Cond)  (h0 : Heap) (n0 : Nat) (Z0 : n0 ≤ h0.size) :
    own_Met l (⟨"java/lang/StringUTF16", "newBytesFor", "(I)[B"⟩ : MethodName) jdk_52_method_2_code 1 (some (.array .byte)) ws own_R_1_1_6_12 Z #[(.int (3 : Int32))] h0 (Q122 Z h0 n0) := by
  refine own_enter #[.val (.int (3 : Int32))] (plainFor_of_name pn_java_lang_StringUTF16) (fun m => ef_I_1 m (3 : Int32)) ?_
  intro p e s m below meth c s₁ hx hby hml hown hnm hZ hrt hlk X0 e0
  have N0 := Fr.nil n0
  refine own_tp (.int (3 : Int32)) 1 (fun _ q => XS.iloadN X0.here hx rfl (hb hby dj52m2_0) rfl q) ?_
  obtain ⟨_, _, ⟨T51, L51, k51, n51⟩, -, X51, ⟨Lc51, hQ51, l51, y51, z51⟩, st51⟩ := Jvm.LawKit.callS X0 hx (y := (⟨"java/lang/StringUTF16", "newBytesLength", "(I)I"⟩ : MethodName)) hown (mvT hZ (own_w hw 79 rfl)) (mvT hZ (own_w hw 80 rfl)) (mvT hZ (own_w hw 68 rfl)) (mvT hZ (own_w hw 81 rfl)) (by decide) (backOf (W := 0) (rm121 l Z a0 hw [] h0 n0) hZ (own_w hw 81 rfl) (own_w hw 68 rfl) (by decide) (by decide)) (g := (mkF m 1 #[.val (.int (3 : Int32))] [(.int (3 : Int32))])) rfl (by rw [hml]; rfl) (argsL := [(.int (3 : Int32))]) (rest := []) (lenOf pd11 rfl) rfl (by show 2 * 0 + _ ≤ _; exact Nat.le_of_eq rfl) (hb hby dj52m2_1) (fun _ _ => ⟨rfl, e0, (by decide : 0 + 0 ≤ _), (by decide : 0 + 0 ≤ _)⟩)
  dsimp only [Pt.U, Pt.locs, Pt.cells, Pt.slots] at X51 l51 y51 z51 st51 hQ51
  subst l51 y51 z51
  obtain ⟨rfl, Nq51, eq51⟩ := hQ51
  have N51 := Fr.app N0 Nq51
  refine own_t1 (.int (6 : Int32)) 4 st51 ?_
  obtain ⟨T52, h52, k52, X52, e52, E52, A52, st52⟩ := newP X51 hx hZ (own_w hw 26 rfl) eq51 (g := (mkF m 4 #[.val (.int (3 : Int32))] [(.int (6 : Int32))])) rfl (hb hby dj52m2_4) rfl (by decide) (cap := 6) (by decide) (by decide) (by decide) (by decide)
  obtain ⟨b52, g52⟩ : ∃ z, z = h0.size := ⟨_, rfl⟩
  rw [← g52] at A52 st52
  have V52 : Arv Z h52 b52 k52 .byte (6 : Int32) [(.int (0 : Int32)), (.int (0 : Int32)), (.int (0 : Int32)), (.int (0 : Int32)), (.int (0 : Int32)), (.int (0 : Int32))] (.int (0 : Int32)) := (Arv.new A52 (by decide)).pad (pad_rep [] (.int (0 : Int32)) 6)
  have ge52 : n0 ≤ b52 := Nat.le_trans Z0 (Nat.le_of_eq g52.symm)
  have sz52 : h0.size ≤ b52 := Nat.le_trans (Keep.refl h0 []).1 (Nat.le_of_eq g52.symm)
  have K52 : Keep h0 h52 [] := (Keep.refl h0 []).ext E52
  have Z52 : n0 ≤ h52.size := Nat.le_trans Z0 E52.1
  refine own_t1 (.ref b52) 6 st52 ?_
  exact own_retR X52 hx hrt (hb hby dj52m2_6) rfl rfl hlk (by decide) (by decide) e52 (⟨b52, _, rfl, N51, K52, ge52, sz52, V52⟩)

def Q123 (Z : State) (c0 c1 c2 : Int32) (h0 : Heap) (n0 : Nat) (v : Option Value) (h : Heap) (L : List Loc) : Prop := ∃ (b : Addr) (k : ClassId), v = some (.ref b) ∧ Fr n0 L ∧ Keep h0 h [] ∧ n0 ≤ b ∧ h0.size ≤ b ∧ Arv Z h b k .byte (6 : Int32) [(.int (own_b0 c0)), (.int (own_b1 c0)), (.int (own_b0 c1)), (.int (own_b1 c1)), (.int (own_b0 c2)), (.int (own_b1 c2))] (.int (0 : Int32))

set_option maxRecDepth 65536 in
set_option maxHeartbeats 40000000 in
theorem rm123 (l : Launch) (Z : State) (a0 : Array Value) (hw : ∀ d ∈ tables_1, d.before a0 Z = true) (ws : List Jvm.Cond) (a1 : Addr) (k1 : ClassId) (c0 c1 c2 : Int32) (h0 : Heap) (n0 : Nat) (Z0 : n0 ≤ h0.size) (V1 : Arv Z h0 a1 k1 .char (3 : Int32) [(.int c0), (.int c1), (.int c2)] (.int (0 : Int32))) (G1 : Int32) (US : own_US Z G1) (O0 : Old Z n0 h0) :
    own_Met l (⟨"java/lang/StringUTF16", "toBytes", "([CII)[B"⟩ : MethodName) jdk_52_method_14_code 5 (some (.array .byte)) ws own_R_2_1_6_24 Z #[(.ref a1), (.int (0 : Int32)), (.int (3 : Int32))] h0 (Q123 Z c0 c1 c2 h0 n0) := by
  refine own_enter #[.val (.ref a1), .val (.int (0 : Int32)), .val (.int (3 : Int32)), .unset, .unset] (plainFor_of_name pn_java_lang_StringUTF16) (fun m => ef_RII_5 m a1 (0 : Int32) (3 : Int32)) ?_
  intro p e s m below meth c s₁ hx hby hml hown hnm hZ hrt hlk X0 e0
  have N0 := Fr.nil n0
  refine own_tp (.int (3 : Int32)) 1 (fun _ q => XS.iloadN X0.here hx rfl (hb hby dj52m14_0) rfl q) ?_
  obtain ⟨_, _, ⟨T51, L51, k51, n51⟩, -, X51, ⟨Lc51, hQ51, l51, y51, z51⟩, st51⟩ := Jvm.LawKit.callS X0 hx (y := (⟨"java/lang/StringUTF16", "newBytesFor", "(I)[B"⟩ : MethodName)) hown (mvT hZ (own_w hw 76 rfl)) (mvT hZ (own_w hw 77 rfl)) (mvT hZ (own_w hw 68 rfl)) (mvT hZ (own_w hw 78 rfl)) (by decide) (backOf (W := 0) (rm122 l Z a0 hw [] h0 n0 Z0) hZ (own_w hw 78 rfl) (own_w hw 68 rfl) (by decide) (by decide)) (g := (mkF m 1 #[.val (.ref a1), .val (.int (0 : Int32)), .val (.int (3 : Int32)), .unset, .unset] [(.int (3 : Int32))])) rfl (by rw [hml]; rfl) (argsL := [(.int (3 : Int32))]) (rest := []) (lenOf pd13 rfl) rfl (by show 2 * 0 + _ ≤ _; exact Nat.le_of_eq rfl) (hb hby dj52m14_1) (fun _ _ => ⟨rfl, e0, (by decide : 0 + 1 ≤ _), (by decide : 0 + 6 ≤ _)⟩)
  dsimp only [Pt.U, Pt.locs, Pt.cells, Pt.slots] at X51 l51 y51 z51 st51 hQ51
  subst l51 y51 z51
  obtain ⟨nb51, kn51, rfl, Nq51, Kp51, ge51, sz51, V51⟩ := hQ51
  have ne52 : a1 ≠ nb51 := Nat.ne_of_lt (Nat.lt_of_lt_of_le V1.lt sz51)
  have s0nb51 : h0.size ≤ nb51 := Nat.le_trans (Keep.refl h0 []).1 sz51
  have N51 := Fr.app N0 Nq51
  have O51 := Old.keep O0 Kp51 all0
  have Z51 : n0 ≤ T51.heap.size := Nat.le_trans Z0 Kp51.1
  have K51 : Keep h0 T51.heap [] := Keep.trans (Keep.refl h0 []) Kp51 all0
  refine own_t1 (.ref nb51) 4 st51 ?_
  refine own_ls #[.val (.ref a1), .val (.int (0 : Int32)), .val (.int (3 : Int32)), .val (.ref nb51), .unset] 5 (fun _ q => XS.astoreN X51.here hx rfl (hb hby dj52m14_4) rfl rfl (l' := #[.val (.ref a1), .val (.int (0 : Int32)), .val (.int (3 : Int32)), .val (.ref nb51), .unset]) rfl q) ?_
  refine own_tp (.int (0 : Int32)) 6 (fun _ q => XS.iconst X51.here hx rfl (hb hby dj52m14_5) q) ?_
  refine own_ls #[.val (.ref a1), .val (.int (0 : Int32)), .val (.int (3 : Int32)), .val (.ref nb51), .val (.int (0 : Int32))] 8 (fun _ q => XS.istore X51.here hx rfl (hb hby dj52m14_6) rfl (l' := #[.val (.ref a1), .val (.int (0 : Int32)), .val (.int (3 : Int32)), .val (.ref nb51), .val (.int (0 : Int32))]) rfl q) ?_
  refine own_tp (.int (0 : Int32)) 10 (fun _ q => XS.iload X51.here hx rfl (hb hby dj52m14_8) rfl q) ?_
  refine own_tp (.int (3 : Int32)) 11 (fun _ q => XS.iloadN X51.here hx rfl (hb hby dj52m14_10) rfl q) ?_
  refine own_d2 14 (fun _ q => XS.icmpNo X51.here hx rfl (hb hby dj52m14_11) rfl (tlt (by decide : (0 : Int32) < (3 : Int32))).2.1 q) ?_
  refine own_tp (.ref nb51) 15 (fun _ q => XS.aloadN X51.here hx rfl (hb hby dj52m14_14) rfl rfl q) ?_
  refine own_tp (.int (0 : Int32)) 17 (fun _ q => XS.iload X51.here hx rfl (hb hby dj52m14_15) rfl q) ?_
  refine own_tp (.ref a1) 18 (fun _ q => XS.aloadN X51.here hx rfl (hb hby dj52m14_17) rfl rfl q) ?_
  refine own_tp (.int (0 : Int32)) 19 (fun _ q => XS.iloadN X51.here hx rfl (hb hby dj52m14_18) rfl q) ?_
  have f53 := (V1.keep Kp51 nin0)
  obtain ⟨cl54, Ar54, q54, S54, Nn54, H54, G54⟩ := (id f53)
  have hin54 : ¬ ((0 : Int32) < 0 ∨ cl54.slots.size ≤ ((0 : Int32)).toNatClampNeg) := inb_of S54 ⟨by decide, by decide⟩
  have hat54 : cl54.slots[((0 : Int32)).toNatClampNeg]? = some (.int c0) := H54.at hin54 rfl
  refine own_t2 (.int c0) 20 (fun _ q => X51.caload hx (j := (0 : Int32)) (v := (.int c0)) Ar54.1 (State.isArrayOf_alike hZ.alike Ar54.2.1) Ar54.2.2 hin54 hat54 (g := (mkF m 19 #[.val (.ref a1), .val (.int (0 : Int32)), .val (.int (3 : Int32)), .val (.ref nb51), .val (.int (0 : Int32))] [(.int (0 : Int32)), (.ref a1), (.int (0 : Int32)), (.ref nb51)])) rfl rfl (hb hby dj52m14_19) _ q) ?_
  obtain ⟨_, _, ⟨T55, L55, k55, n55⟩, -, X55, ⟨Lc55, hQ55, l55, y55, z55⟩, st55⟩ := Jvm.LawKit.callS X51 hx (y := (⟨"java/lang/StringUTF16", "putChar", "([BII)V"⟩ : MethodName)) hown (mvT hZ (own_w hw 83 rfl)) (mvT hZ (own_w hw 84 rfl)) (mvT hZ (own_w hw 68 rfl)) (mvT hZ (own_w hw 85 rfl)) (by decide) (backOf (W := 0) (rm104 l Z a0 hw [] nb51 kn51 0 c0 [(.int (0 : Int32)), (.int (0 : Int32)), (.int (0 : Int32)), (.int (0 : Int32)), (.int (0 : Int32)), (.int (0 : Int32))] T51.heap n0 Z51 ge51 (by simp) (by simp) V51 G1 US O51) hZ (own_w hw 85 rfl) (own_w hw 68 rfl) (by decide) (by decide)) (g := (mkF m 20 #[.val (.ref a1), .val (.int (0 : Int32)), .val (.int (3 : Int32)), .val (.ref nb51), .val (.int (0 : Int32))] [(.int c0), (.int (0 : Int32)), (.ref nb51)])) rfl (by rw [hml]; rfl) (argsL := [(.ref nb51), (.int (0 : Int32)), (.int c0)]) (rest := []) (lenOf pd14 rfl) rfl (by show 2 * 0 + _ ≤ _; exact Nat.le_of_eq rfl) (hb hby dj52m14_20) (fun _ _ => ⟨rfl, rfl, (by decide : 1 + 0 ≤ _), (by decide : 6 + 0 ≤ _)⟩)
  dsimp only [Pt.U, Pt.locs, Pt.cells, Pt.slots] at X55 l55 y55 z55 st55 hQ55
  subst l55 y55 z55
  obtain ⟨rfl, Nq55, Kp55, V55⟩ := hQ55
  have N55 := Fr.app N51 Nq55
  have O55 := Old.keep O51 Kp55 (allS ge51 all0)
  have Z55 : n0 ≤ T55.heap.size := Nat.le_trans Z51 Kp55.1
  have K55 : Keep h0 T55.heap [] := Keep.trans K51 Kp55 (allS (Or.inr s0nb51) all0)
  have V55' : Arv Z T55.heap nb51 kn51 .byte (6 : Int32) [(.int (own_b0 c0)), (.int (own_b1 c0)), (.int (0 : Int32)), (.int (0 : Int32)), (.int (0 : Int32)), (.int (0 : Int32))] (.int (0 : Int32)) := V55
  refine own_cs [] 23 st55 ?_
  refine own_li #[.val (.ref a1), .val (.int (1 : Int32)), .val (.int (3 : Int32)), .val (.ref nb51), .val (.int (0 : Int32))] 26 (fun _ q => XS.iinc X55.here hx rfl (hb hby dj52m14_23) rfl (l' := #[.val (.ref a1), .val (.int (1 : Int32)), .val (.int (3 : Int32)), .val (.ref nb51), .val (.int (0 : Int32))]) rfl q) ?_
  refine own_li #[.val (.ref a1), .val (.int (1 : Int32)), .val (.int (3 : Int32)), .val (.ref nb51), .val (.int (1 : Int32))] 29 (fun _ q => XS.iinc X55.here hx rfl (hb hby dj52m14_26) rfl (l' := #[.val (.ref a1), .val (.int (1 : Int32)), .val (.int (3 : Int32)), .val (.ref nb51), .val (.int (1 : Int32))]) rfl q) ?_
  refine own_d0 8 (fun _ q => XS.goto X55.here hx rfl (pc0 := 29) (pc' := 8) rfl (hb hby dj52m14_29) (by decide) (by decide) q) ?_
  refine own_tp (.int (1 : Int32)) 10 (fun _ q => XS.iload X55.here hx rfl (hb hby dj52m14_8) rfl q) ?_
  refine own_tp (.int (3 : Int32)) 11 (fun _ q => XS.iloadN X55.here hx rfl (hb hby dj52m14_10) rfl q) ?_
  refine own_d2 14 (fun _ q => XS.icmpNo X55.here hx rfl (hb hby dj52m14_11) rfl (tlt (by decide : (1 : Int32) < (3 : Int32))).2.1 q) ?_
  refine own_tp (.ref nb51) 15 (fun _ q => XS.aloadN X55.here hx rfl (hb hby dj52m14_14) rfl rfl q) ?_
  refine own_tp (.int (1 : Int32)) 17 (fun _ q => XS.iload X55.here hx rfl (hb hby dj52m14_15) rfl q) ?_
  refine own_tp (.ref a1) 18 (fun _ q => XS.aloadN X55.here hx rfl (hb hby dj52m14_17) rfl rfl q) ?_
  refine own_tp (.int (1 : Int32)) 19 (fun _ q => XS.iloadN X55.here hx rfl (hb hby dj52m14_18) rfl q) ?_
  have f56 := (f53.keep Kp55 (ninS ne52 nin0))
  obtain ⟨cl57, Ar57, q57, S57, Nn57, H57, G57⟩ := (id f56)
  have hin57 : ¬ ((1 : Int32) < 0 ∨ cl57.slots.size ≤ ((1 : Int32)).toNatClampNeg) := inb_of S57 ⟨by decide, by decide⟩
  have hat57 : cl57.slots[((1 : Int32)).toNatClampNeg]? = some (.int c1) := H57.at hin57 rfl
  refine own_t2 (.int c1) 20 (fun _ q => X55.caload hx (j := (1 : Int32)) (v := (.int c1)) Ar57.1 (State.isArrayOf_alike hZ.alike Ar57.2.1) Ar57.2.2 hin57 hat57 (g := (mkF m 19 #[.val (.ref a1), .val (.int (1 : Int32)), .val (.int (3 : Int32)), .val (.ref nb51), .val (.int (1 : Int32))] [(.int (1 : Int32)), (.ref a1), (.int (1 : Int32)), (.ref nb51)])) rfl rfl (hb hby dj52m14_19) _ q) ?_
  obtain ⟨_, _, ⟨T58, L58, k58, n58⟩, -, X58, ⟨Lc58, hQ58, l58, y58, z58⟩, st58⟩ := Jvm.LawKit.callS X55 hx (y := (⟨"java/lang/StringUTF16", "putChar", "([BII)V"⟩ : MethodName)) hown (mvT hZ (own_w hw 83 rfl)) (mvT hZ (own_w hw 84 rfl)) (mvT hZ (own_w hw 68 rfl)) (mvT hZ (own_w hw 85 rfl)) (by decide) (backOf (W := 0) (rm104 l Z a0 hw [] nb51 kn51 1 c1 [(.int (own_b0 c0)), (.int (own_b1 c0)), (.int (0 : Int32)), (.int (0 : Int32)), (.int (0 : Int32)), (.int (0 : Int32))] T55.heap n0 Z55 ge51 (by simp) (by simp) V55' G1 US O55) hZ (own_w hw 85 rfl) (own_w hw 68 rfl) (by decide) (by decide)) (g := (mkF m 20 #[.val (.ref a1), .val (.int (1 : Int32)), .val (.int (3 : Int32)), .val (.ref nb51), .val (.int (1 : Int32))] [(.int c1), (.int (1 : Int32)), (.ref nb51)])) rfl (by rw [hml]; rfl) (argsL := [(.ref nb51), (.int (1 : Int32)), (.int c1)]) (rest := []) (lenOf pd14 rfl) rfl (by show 2 * 0 + _ ≤ _; exact Nat.le_of_eq rfl) (hb hby dj52m14_20) (fun _ _ => ⟨rfl, rfl, (by decide : 1 + 0 ≤ _), (by decide : 6 + 0 ≤ _)⟩)
  dsimp only [Pt.U, Pt.locs, Pt.cells, Pt.slots] at X58 l58 y58 z58 st58 hQ58
  subst l58 y58 z58
  obtain ⟨rfl, Nq58, Kp58, V58⟩ := hQ58
  have N58 := Fr.app N55 Nq58
  have O58 := Old.keep O55 Kp58 (allS ge51 all0)
  have Z58 : n0 ≤ T58.heap.size := Nat.le_trans Z55 Kp58.1
  have K58 : Keep h0 T58.heap [] := Keep.trans K55 Kp58 (allS (Or.inr s0nb51) all0)
  have V58' : Arv Z T58.heap nb51 kn51 .byte (6 : Int32) [(.int (own_b0 c0)), (.int (own_b1 c0)), (.int (own_b0 c1)), (.int (own_b1 c1)), (.int (0 : Int32)), (.int (0 : Int32))] (.int (0 : Int32)) := V58
  refine own_cs [] 23 st58 ?_
  refine own_li #[.val (.ref a1), .val (.int (2 : Int32)), .val (.int (3 : Int32)), .val (.ref nb51), .val (.int (1 : Int32))] 26 (fun _ q => XS.iinc X58.here hx rfl (hb hby dj52m14_23) rfl (l' := #[.val (.ref a1), .val (.int (2 : Int32)), .val (.int (3 : Int32)), .val (.ref nb51), .val (.int (1 : Int32))]) rfl q) ?_
  refine own_li #[.val (.ref a1), .val (.int (2 : Int32)), .val (.int (3 : Int32)), .val (.ref nb51), .val (.int (2 : Int32))] 29 (fun _ q => XS.iinc X58.here hx rfl (hb hby dj52m14_26) rfl (l' := #[.val (.ref a1), .val (.int (2 : Int32)), .val (.int (3 : Int32)), .val (.ref nb51), .val (.int (2 : Int32))]) rfl q) ?_
  refine own_d0 8 (fun _ q => XS.goto X58.here hx rfl (pc0 := 29) (pc' := 8) rfl (hb hby dj52m14_29) (by decide) (by decide) q) ?_
  refine own_tp (.int (2 : Int32)) 10 (fun _ q => XS.iload X58.here hx rfl (hb hby dj52m14_8) rfl q) ?_
  refine own_tp (.int (3 : Int32)) 11 (fun _ q => XS.iloadN X58.here hx rfl (hb hby dj52m14_10) rfl q) ?_
  refine own_d2 14 (fun _ q => XS.icmpNo X58.here hx rfl (hb hby dj52m14_11) rfl (tlt (by decide : (2 : Int32) < (3 : Int32))).2.1 q) ?_
  refine own_tp (.ref nb51) 15 (fun _ q => XS.aloadN X58.here hx rfl (hb hby dj52m14_14) rfl rfl q) ?_
  refine own_tp (.int (2 : Int32)) 17 (fun _ q => XS.iload X58.here hx rfl (hb hby dj52m14_15) rfl q) ?_
  refine own_tp (.ref a1) 18 (fun _ q => XS.aloadN X58.here hx rfl (hb hby dj52m14_17) rfl rfl q) ?_
  refine own_tp (.int (2 : Int32)) 19 (fun _ q => XS.iloadN X58.here hx rfl (hb hby dj52m14_18) rfl q) ?_
  have f59 := (f56.keep Kp58 (ninS ne52 nin0))
  obtain ⟨cl60, Ar60, q60, S60, Nn60, H60, G60⟩ := (id f59)
  have hin60 : ¬ ((2 : Int32) < 0 ∨ cl60.slots.size ≤ ((2 : Int32)).toNatClampNeg) := inb_of S60 ⟨by decide, by decide⟩
  have hat60 : cl60.slots[((2 : Int32)).toNatClampNeg]? = some (.int c2) := H60.at hin60 rfl
  refine own_t2 (.int c2) 20 (fun _ q => X58.caload hx (j := (2 : Int32)) (v := (.int c2)) Ar60.1 (State.isArrayOf_alike hZ.alike Ar60.2.1) Ar60.2.2 hin60 hat60 (g := (mkF m 19 #[.val (.ref a1), .val (.int (2 : Int32)), .val (.int (3 : Int32)), .val (.ref nb51), .val (.int (2 : Int32))] [(.int (2 : Int32)), (.ref a1), (.int (2 : Int32)), (.ref nb51)])) rfl rfl (hb hby dj52m14_19) _ q) ?_
  obtain ⟨_, _, ⟨T61, L61, k61, n61⟩, -, X61, ⟨Lc61, hQ61, l61, y61, z61⟩, st61⟩ := Jvm.LawKit.callS X58 hx (y := (⟨"java/lang/StringUTF16", "putChar", "([BII)V"⟩ : MethodName)) hown (mvT hZ (own_w hw 83 rfl)) (mvT hZ (own_w hw 84 rfl)) (mvT hZ (own_w hw 68 rfl)) (mvT hZ (own_w hw 85 rfl)) (by decide) (backOf (W := 0) (rm104 l Z a0 hw [] nb51 kn51 2 c2 [(.int (own_b0 c0)), (.int (own_b1 c0)), (.int (own_b0 c1)), (.int (own_b1 c1)), (.int (0 : Int32)), (.int (0 : Int32))] T58.heap n0 Z58 ge51 (by simp) (by simp) V58' G1 US O58) hZ (own_w hw 85 rfl) (own_w hw 68 rfl) (by decide) (by decide)) (g := (mkF m 20 #[.val (.ref a1), .val (.int (2 : Int32)), .val (.int (3 : Int32)), .val (.ref nb51), .val (.int (2 : Int32))] [(.int c2), (.int (2 : Int32)), (.ref nb51)])) rfl (by rw [hml]; rfl) (argsL := [(.ref nb51), (.int (2 : Int32)), (.int c2)]) (rest := []) (lenOf pd14 rfl) rfl (by show 2 * 0 + _ ≤ _; exact Nat.le_of_eq rfl) (hb hby dj52m14_20) (fun _ _ => ⟨rfl, rfl, (by decide : 1 + 0 ≤ _), (by decide : 6 + 0 ≤ _)⟩)
  dsimp only [Pt.U, Pt.locs, Pt.cells, Pt.slots] at X61 l61 y61 z61 st61 hQ61
  subst l61 y61 z61
  obtain ⟨rfl, Nq61, Kp61, V61⟩ := hQ61
  have N61 := Fr.app N58 Nq61
  have O61 := Old.keep O58 Kp61 (allS ge51 all0)
  have Z61 : n0 ≤ T61.heap.size := Nat.le_trans Z58 Kp61.1
  have K61 : Keep h0 T61.heap [] := Keep.trans K58 Kp61 (allS (Or.inr s0nb51) all0)
  have V61' : Arv Z T61.heap nb51 kn51 .byte (6 : Int32) [(.int (own_b0 c0)), (.int (own_b1 c0)), (.int (own_b0 c1)), (.int (own_b1 c1)), (.int (own_b0 c2)), (.int (own_b1 c2))] (.int (0 : Int32)) := V61
  refine own_cs [] 23 st61 ?_
  refine own_li #[.val (.ref a1), .val (.int (3 : Int32)), .val (.int (3 : Int32)), .val (.ref nb51), .val (.int (2 : Int32))] 26 (fun _ q => XS.iinc X61.here hx rfl (hb hby dj52m14_23) rfl (l' := #[.val (.ref a1), .val (.int (3 : Int32)), .val (.int (3 : Int32)), .val (.ref nb51), .val (.int (2 : Int32))]) rfl q) ?_
  refine own_li #[.val (.ref a1), .val (.int (3 : Int32)), .val (.int (3 : Int32)), .val (.ref nb51), .val (.int (3 : Int32))] 29 (fun _ q => XS.iinc X61.here hx rfl (hb hby dj52m14_26) rfl (l' := #[.val (.ref a1), .val (.int (3 : Int32)), .val (.int (3 : Int32)), .val (.ref nb51), .val (.int (3 : Int32))]) rfl q) ?_
  refine own_d0 8 (fun _ q => XS.goto X61.here hx rfl (pc0 := 29) (pc' := 8) rfl (hb hby dj52m14_29) (by decide) (by decide) q) ?_
  refine own_tp (.int (3 : Int32)) 10 (fun _ q => XS.iload X61.here hx rfl (hb hby dj52m14_8) rfl q) ?_
  refine own_tp (.int (3 : Int32)) 11 (fun _ q => XS.iloadN X61.here hx rfl (hb hby dj52m14_10) rfl q) ?_
  refine own_d2 32 (fun _ q => XS.icmpYes X61.here hx rfl (pc0 := 11) (pc' := 32) rfl (hb hby dj52m14_11) rfl (flt (by decide : ¬ ((3 : Int32) < (3 : Int32)))).2.1 (by decide) (by decide) q) ?_
  refine own_tp (.ref nb51) 33 (fun _ q => XS.aloadN X61.here hx rfl (hb hby dj52m14_32) rfl rfl q) ?_
  exact own_retR X61 hx hrt (hb hby dj52m14_33) rfl rfl hlk (by decide) (by decide) rfl (⟨nb51, _, rfl, N61, K61, ge51, s0nb51, V61'⟩)

def Q124 (Z : State) (c0 c1 c2 : Int32) (h0 : Heap) (n0 : Nat) (v : Option Value) (h : Heap) (L : List Loc) : Prop := ∃ (b : Addr) (k : ClassId), v = some (.ref b) ∧ Fr n0 L ∧ Keep h0 h [] ∧ n0 ≤ b ∧ h0.size ≤ b ∧ (((¬ (255 : Int32) < c0 ∧ ¬ (255 : Int32) < c1 ∧ ¬ (255 : Int32) < c2) ∧ Arv Z h b k .byte (3 : Int32) [(.int (own_lo c0)), (.int (own_lo c1)), (.int (own_lo c2))] (.int (0 : Int32))) ∨ ((∃ c ∈ ([c0, c1, c2] : List Int32), (255 : Int32) < c) ∧ Arv Z h b k .byte (6 : Int32) [(.int (own_b0 c0)), (.int (own_b1 c0)), (.int (own_b0 c1)), (.int (own_b1 c1)), (.int (own_b0 c2)), (.int (own_b1 c2))] (.int (0 : Int32))))

set_option maxRecDepth 65536 in
set_option maxHeartbeats 40000000 in
theorem rm124 (l : Launch) (Z : State) (a0 : Array Value) (hw : ∀ d ∈ tables_1, d.before a0 Z = true) (ws : List Jvm.Cond) (a1 : Addr) (k1 : ClassId) (c0 c1 c2 : Int32) (h0 : Heap) (n0 : Nat) (Z0 : n0 ≤ h0.size) (hc0 : 0 ≤ c0.toInt ∧ c0.toInt ≤ 65535) (hc1 : 0 ≤ c1.toInt ∧ c1.toInt ≤ 65535) (hc2 : 0 ≤ c2.toInt ∧ c2.toInt ≤ 65535) (V1 : Arv Z h0 a1 k1 .char (3 : Int32) [(.int c0), (.int c1), (.int c2)] (.int (0 : Int32))) (G1 : Int32) (US : own_US Z G1) (O0 : Old Z n0 h0) :
    own_Met l (⟨"java/lang/StringUTF16", "compress", "([CII)[B"⟩ : MethodName) jdk_52_method_16_code 6 (some (.array .byte)) ws own_R_3_2_9_42 Z #[(.ref a1), (.int (0 : Int32)), (.int (3 : Int32))] h0 (Q124 Z c0 c1 c2 h0 n0) := by
  refine own_enter #[.val (.ref a1), .val (.int (0 : Int32)), .val (.int (3 : Int32)), .unset, .unset, .unset] (plainFor_of_name pn_java_lang_StringUTF16) (fun m => ef_RII_6 m a1 (0 : Int32) (3 : Int32)) ?_
  intro p e s m below meth c s₁ hx hby hml hown hnm hZ hrt hlk X0 e0
  have N0 := Fr.nil n0
  refine own_tp (.int (3 : Int32)) 1 (fun _ q => XS.iloadN X0.here hx rfl (hb hby dj52m16_0) rfl q) ?_
  obtain ⟨T51, h51, k51, X51, e51, E51, A51, st51⟩ := newP X0 hx hZ (own_w hw 26 rfl) e0 (g := (mkF m 1 #[.val (.ref a1), .val (.int (0 : Int32)), .val (.int (3 : Int32)), .unset, .unset, .unset] [(.int (3 : Int32))])) rfl (hb hby dj52m16_1) rfl (by decide) (cap := 3) (by decide) (by decide) (by decide) (by decide)
  obtain ⟨b51, g51⟩ : ∃ z, z = h0.size := ⟨_, rfl⟩
  rw [← g51] at A51 st51
  have V51 : Arv Z h51 b51 k51 .byte (3 : Int32) [(.int (0 : Int32)), (.int (0 : Int32)), (.int (0 : Int32))] (.int (0 : Int32)) := (Arv.new A51 (by decide)).pad (pad_rep [] (.int (0 : Int32)) 3)
  have ge51 : n0 ≤ b51 := Nat.le_trans Z0 (Nat.le_of_eq g51.symm)
  have sz51 : h0.size ≤ b51 := Nat.le_trans (Keep.refl h0 []).1 (Nat.le_of_eq g51.symm)
  have ne52 : a1 ≠ b51 := Nat.ne_of_lt (Nat.lt_of_lt_of_le V1.lt (Nat.le_of_eq g51.symm))
  have O51 := Old.ext O0 E51
  have K51 : Keep h0 h51 [] := (Keep.refl h0 []).ext E51
  have Z51 : n0 ≤ h51.size := Nat.le_trans Z0 E51.1
  refine own_t1 (.ref b51) 3 st51 ?_
  refine own_ls #[.val (.ref a1), .val (.int (0 : Int32)), .val (.int (3 : Int32)), .val (.ref b51), .unset, .unset] 4 (fun _ q => XS.astoreN X51.here hx rfl (hb hby dj52m16_3) rfl rfl (l' := #[.val (.ref a1), .val (.int (0 : Int32)), .val (.int (3 : Int32)), .val (.ref b51), .unset, .unset]) rfl q) ?_
  refine own_tp (.ref a1) 5 (fun _ q => XS.aloadN X51.here hx rfl (hb hby dj52m16_4) rfl rfl q) ?_
  refine own_tp (.int (0 : Int32)) 6 (fun _ q => XS.iloadN X51.here hx rfl (hb hby dj52m16_5) rfl q) ?_
  refine own_tp (.ref b51) 7 (fun _ q => XS.aloadN X51.here hx rfl (hb hby dj52m16_6) rfl rfl q) ?_
  refine own_tp (.int (0 : Int32)) 8 (fun _ q => XS.iconst X51.here hx rfl (hb hby dj52m16_7) q) ?_
  refine own_tp (.int (3 : Int32)) 9 (fun _ q => XS.iloadN X51.here hx rfl (hb hby dj52m16_8) rfl q) ?_
  have f53 := (V1.ext E51)
  obtain ⟨_, _, ⟨T54, L54, k54, n54⟩, -, X54, ⟨Lc54, hQ54, l54, y54, z54⟩, st54⟩ := Jvm.LawKit.callS X51 hx (y := (⟨"java/lang/StringUTF16", "compress", "([CI[BII)I"⟩ : MethodName)) hown (mvT hZ (own_w hw 70 rfl)) (mvT hZ (own_w hw 71 rfl)) (mvT hZ (own_w hw 68 rfl)) (mvT hZ (own_w hw 72 rfl)) (by decide) (backOf (W := 0) (rm120 l Z a0 hw [] a1 b51 k1 k51 c0 c1 c2 h51 n0 Z51 ge51 ne52 f53 V51) hZ (own_w hw 72 rfl) (own_w hw 68 rfl) (by decide) (by decide)) (g := (mkF m 9 #[.val (.ref a1), .val (.int (0 : Int32)), .val (.int (3 : Int32)), .val (.ref b51), .unset, .unset] [(.int (3 : Int32)), (.int (0 : Int32)), (.ref b51), (.int (0 : Int32)), (.ref a1)])) rfl (by rw [hml]; rfl) (argsL := [(.ref a1), (.int (0 : Int32)), (.ref b51), (.int (0 : Int32)), (.int (3 : Int32))]) (rest := []) (lenOf pd15 rfl) rfl (by show 2 * 0 + _ ≤ _; exact Nat.le_of_eq rfl) (hb hby dj52m16_9) (fun _ _ => ⟨rfl, e51, (by decide : 1 + 0 ≤ _), (by decide : 3 + 0 ≤ _)⟩)
  dsimp only [Pt.U, Pt.locs, Pt.cells, Pt.slots] at X54 l54 y54 z54 st54 hQ54
  subst l54 y54 z54
  obtain ⟨Nq54, Kp54, hD54⟩ := hQ54
  have N54 := Fr.app N0 Nq54
  have O54 := Old.keep O51 Kp54 (allS ge51 all0)
  have Z54 : n0 ≤ T54.heap.size := Nat.le_trans Z51 Kp54.1
  have K54 : Keep h0 T54.heap [] := Keep.trans K51 Kp54 (allS (Or.inr sz51) all0)
  rcases hD54 with ⟨rfl, hxw⟩ | ⟨rfl, hxw⟩ | ⟨rfl, hxw⟩ | ⟨rfl, hxw, VL⟩
  ·
    refine own_cs [(.int (0 : Int32))] 12 st54 ?_
    refine own_ls #[.val (.ref a1), .val (.int (0 : Int32)), .val (.int (3 : Int32)), .val (.ref b51), .val (.int (0 : Int32)), .unset] 14 (fun _ q => XS.istore X54.here hx rfl (hb hby dj52m16_12) rfl (l' := #[.val (.ref a1), .val (.int (0 : Int32)), .val (.int (3 : Int32)), .val (.ref b51), .val (.int (0 : Int32)), .unset]) rfl q) ?_
    refine own_tp (.int (0 : Int32)) 16 (fun _ q => XS.iload X54.here hx rfl (hb hby dj52m16_14) rfl q) ?_
    refine own_tp (.int (3 : Int32)) 17 (fun _ q => XS.iloadN X54.here hx rfl (hb hby dj52m16_16) rfl q) ?_
    refine own_d2 20 (fun _ q => XS.icmpNo X54.here hx rfl (hb hby dj52m16_17) rfl (feq (by decide : ¬ ((0 : Int32) = (3 : Int32)))).1 q) ?_
    refine own_tp (.ref a1) 21 (fun _ q => XS.aloadN X54.here hx rfl (hb hby dj52m16_20) rfl rfl q) ?_
    refine own_tp (.int (0 : Int32)) 22 (fun _ q => XS.iloadN X54.here hx rfl (hb hby dj52m16_21) rfl q) ?_
    refine own_tp (.int (3 : Int32)) 23 (fun _ q => XS.iloadN X54.here hx rfl (hb hby dj52m16_22) rfl q) ?_
    have f55 := (f53.keep Kp54 (ninS ne52 nin0))
    obtain ⟨_, _, ⟨T56, L56, k56, n56⟩, -, X56, ⟨Lc56, hQ56, l56, y56, z56⟩, st56⟩ := Jvm.LawKit.callS X54 hx (y := (⟨"java/lang/StringUTF16", "toBytes", "([CII)[B"⟩ : MethodName)) hown (mvT hZ (own_w hw 73 rfl)) (mvT hZ (own_w hw 74 rfl)) (mvT hZ (own_w hw 68 rfl)) (mvT hZ (own_w hw 75 rfl)) (by decide) (backOf (W := 0) (rm123 l Z a0 hw [] a1 k1 c0 c1 c2 T54.heap n0 Z54 f55 G1 US O54) hZ (own_w hw 75 rfl) (own_w hw 68 rfl) (by decide) (by decide)) (g := (mkF m 23 #[.val (.ref a1), .val (.int (0 : Int32)), .val (.int (3 : Int32)), .val (.ref b51), .val (.int (0 : Int32)), .unset] [(.int (3 : Int32)), (.int (0 : Int32)), (.ref a1)])) rfl (by rw [hml]; rfl) (argsL := [(.ref a1), (.int (0 : Int32)), (.int (3 : Int32))]) (rest := []) (lenOf pd16 rfl) rfl (by show 2 * 0 + _ ≤ _; exact Nat.le_of_eq rfl) (hb hby dj52m16_23) (fun _ _ => ⟨rfl, rfl, (by decide : 1 + 1 ≤ _), (by decide : 3 + 6 ≤ _)⟩)
    dsimp only [Pt.U, Pt.locs, Pt.cells, Pt.slots] at X56 l56 y56 z56 st56 hQ56
    subst l56 y56 z56
    obtain ⟨ub56, ku56, rfl, Nq56, Kp56, ge56, sz56, V56⟩ := hQ56
    have ne57 : a1 ≠ ub56 := Nat.ne_of_lt (Nat.lt_of_lt_of_le f55.lt sz56)
    have s0ub56 : h0.size ≤ ub56 := Nat.le_trans K54.1 sz56
    have N56 := Fr.app N54 Nq56
    have O56 := Old.keep O54 Kp56 all0
    have Z56 : n0 ≤ T56.heap.size := Nat.le_trans Z54 Kp56.1
    have K56 : Keep h0 T56.heap [] := Keep.trans K54 Kp56 all0
    refine own_cs [(.ref ub56)] 26 st56 ?_
    refine own_ls #[.val (.ref a1), .val (.int (0 : Int32)), .val (.int (3 : Int32)), .val (.ref b51), .val (.int (0 : Int32)), .val (.ref ub56)] 28 (fun _ q => XS.astore X56.here hx rfl (hb hby dj52m16_26) rfl rfl (l' := #[.val (.ref a1), .val (.int (0 : Int32)), .val (.int (3 : Int32)), .val (.ref b51), .val (.int (0 : Int32)), .val (.ref ub56)]) rfl q) ?_
    refine own_tp (.ref ub56) 30 (fun _ q => XS.aload X56.here hx rfl (hb hby dj52m16_28) rfl rfl q) ?_
    refine own_tp (.int (0 : Int32)) 32 (fun _ q => XS.iload X56.here hx rfl (hb hby dj52m16_30) rfl q) ?_
    obtain ⟨_, _, ⟨T58, L58, k58, n58⟩, -, X58, ⟨Lc58, hQ58, l58, y58, z58⟩, st58⟩ := Jvm.LawKit.callS X56 hx (y := (⟨"java/lang/StringUTF16", "getChar", "([BI)C"⟩ : MethodName)) hown (mvT hZ (own_w hw 89 rfl)) (mvT hZ (own_w hw 90 rfl)) (mvT hZ (own_w hw 68 rfl)) (mvT hZ (own_w hw 91 rfl)) (by decide) (backOf (W := 0) (rm100 l Z a0 hw [] ub56 ku56 0 [c0, c1, c2] T56.heap n0 (by simp) (by simp) hc0 V56 G1 US O56) hZ (own_w hw 91 rfl) (own_w hw 68 rfl) (by decide) (by decide)) (g := (mkF m 32 #[.val (.ref a1), .val (.int (0 : Int32)), .val (.int (3 : Int32)), .val (.ref b51), .val (.int (0 : Int32)), .val (.ref ub56)] [(.int (0 : Int32)), (.ref ub56)])) rfl (by rw [hml]; rfl) (argsL := [(.ref ub56), (.int (0 : Int32))]) (rest := []) (lenOf pd4 rfl) rfl (by show 2 * 0 + _ ≤ _; exact Nat.le_of_eq rfl) (hb hby dj52m16_32) (fun _ _ => ⟨rfl, rfl, (by decide : 2 + 0 ≤ _), (by decide : 9 + 0 ≤ _)⟩)
    dsimp only [Pt.U, Pt.locs, Pt.cells, Pt.slots] at X58 l58 y58 z58 st58 hQ58
    subst l58 y58 z58
    obtain ⟨rfl, Nq58, eq58⟩ := hQ58
    have N58 := Fr.app N56 Nq58
    refine own_t2 (.int c0) 35 st58 ?_
    refine own_tp (.int (255 : Int32)) 38 (fun _ q => XS.sipush X58.here hx rfl (hb hby dj52m16_35) q) ?_
    refine own_d2 54 (fun _ q => XS.icmpYes X58.here hx rfl (pc0 := 38) (pc' := 54) rfl (hb hby dj52m16_38) rfl (tlt hxw).2.2.1 (by decide) (by decide) q) ?_
    refine own_tp (.ref ub56) 56 (fun _ q => XS.aload X58.here hx rfl (hb hby dj52m16_54) rfl rfl q) ?_
    exact own_retR X58 hx hrt (hb hby dj52m16_56) rfl rfl hlk (by decide) (by decide) eq58 (⟨ub56, _, rfl, N58, K56, ge56, s0ub56, Or.inr ⟨⟨c0, by simp, hxw⟩, V56⟩⟩)
  ·
    refine own_cs [(.int (1 : Int32))] 12 st54 ?_
    refine own_ls #[.val (.ref a1), .val (.int (0 : Int32)), .val (.int (3 : Int32)), .val (.ref b51), .val (.int (1 : Int32)), .unset] 14 (fun _ q => XS.istore X54.here hx rfl (hb hby dj52m16_12) rfl (l' := #[.val (.ref a1), .val (.int (0 : Int32)), .val (.int (3 : Int32)), .val (.ref b51), .val (.int (1 : Int32)), .unset]) rfl q) ?_
    refine own_tp (.int (1 : Int32)) 16 (fun _ q => XS.iload X54.here hx rfl (hb hby dj52m16_14) rfl q) ?_
    refine own_tp (.int (3 : Int32)) 17 (fun _ q => XS.iloadN X54.here hx rfl (hb hby dj52m16_16) rfl q) ?_
    refine own_d2 20 (fun _ q => XS.icmpNo X54.here hx rfl (hb hby dj52m16_17) rfl (feq (by decide : ¬ ((1 : Int32) = (3 : Int32)))).1 q) ?_
    refine own_tp (.ref a1) 21 (fun _ q => XS.aloadN X54.here hx rfl (hb hby dj52m16_20) rfl rfl q) ?_
    refine own_tp (.int (0 : Int32)) 22 (fun _ q => XS.iloadN X54.here hx rfl (hb hby dj52m16_21) rfl q) ?_
    refine own_tp (.int (3 : Int32)) 23 (fun _ q => XS.iloadN X54.here hx rfl (hb hby dj52m16_22) rfl q) ?_
    have f59 := (f53.keep Kp54 (ninS ne52 nin0))
    obtain ⟨_, _, ⟨T60, L60, k60, n60⟩, -, X60, ⟨Lc60, hQ60, l60, y60, z60⟩, st60⟩ := Jvm.LawKit.callS X54 hx (y := (⟨"java/lang/StringUTF16", "toBytes", "([CII)[B"⟩ : MethodName)) hown (mvT hZ (own_w hw 73 rfl)) (mvT hZ (own_w hw 74 rfl)) (mvT hZ (own_w hw 68 rfl)) (mvT hZ (own_w hw 75 rfl)) (by decide) (backOf (W := 0) (rm123 l Z a0 hw [] a1 k1 c0 c1 c2 T54.heap n0 Z54 f59 G1 US O54) hZ (own_w hw 75 rfl) (own_w hw 68 rfl) (by decide) (by decide)) (g := (mkF m 23 #[.val (.ref a1), .val (.int (0 : Int32)), .val (.int (3 : Int32)), .val (.ref b51), .val (.int (1 : Int32)), .unset] [(.int (3 : Int32)), (.int (0 : Int32)), (.ref a1)])) rfl (by rw [hml]; rfl) (argsL := [(.ref a1), (.int (0 : Int32)), (.int (3 : Int32))]) (rest := []) (lenOf pd16 rfl) rfl (by show 2 * 0 + _ ≤ _; exact Nat.le_of_eq rfl) (hb hby dj52m16_23) (fun _ _ => ⟨rfl, rfl, (by decide : 1 + 1 ≤ _), (by decide : 3 + 6 ≤ _)⟩)
    dsimp only [Pt.U, Pt.locs, Pt.cells, Pt.slots] at X60 l60 y60 z60 st60 hQ60
    subst l60 y60 z60
    obtain ⟨ub60, ku60, rfl, Nq60, Kp60, ge60, sz60, V60⟩ := hQ60
    have ne61 : a1 ≠ ub60 := Nat.ne_of_lt (Nat.lt_of_lt_of_le f59.lt sz60)
    have s0ub60 : h0.size ≤ ub60 := Nat.le_trans K54.1 sz60
    have N60 := Fr.app N54 Nq60
    have O60 := Old.keep O54 Kp60 all0
    have Z60 : n0 ≤ T60.heap.size := Nat.le_trans Z54 Kp60.1
    have K60 : Keep h0 T60.heap [] := Keep.trans K54 Kp60 all0
    refine own_cs [(.ref ub60)] 26 st60 ?_
    refine own_ls #[.val (.ref a1), .val (.int (0 : Int32)), .val (.int (3 : Int32)), .val (.ref b51), .val (.int (1 : Int32)), .val (.ref ub60)] 28 (fun _ q => XS.astore X60.here hx rfl (hb hby dj52m16_26) rfl rfl (l' := #[.val (.ref a1), .val (.int (0 : Int32)), .val (.int (3 : Int32)), .val (.ref b51), .val (.int (1 : Int32)), .val (.ref ub60)]) rfl q) ?_
    refine own_tp (.ref ub60) 30 (fun _ q => XS.aload X60.here hx rfl (hb hby dj52m16_28) rfl rfl q) ?_
    refine own_tp (.int (1 : Int32)) 32 (fun _ q => XS.iload X60.here hx rfl (hb hby dj52m16_30) rfl q) ?_
    obtain ⟨_, _, ⟨T62, L62, k62, n62⟩, -, X62, ⟨Lc62, hQ62, l62, y62, z62⟩, st62⟩ := Jvm.LawKit.callS X60 hx (y := (⟨"java/lang/StringUTF16", "getChar", "([BI)C"⟩ : MethodName)) hown (mvT hZ (own_w hw 89 rfl)) (mvT hZ (own_w hw 90 rfl)) (mvT hZ (own_w hw 68 rfl)) (mvT hZ (own_w hw 91 rfl)) (by decide) (backOf (W := 0) (rm100 l Z a0 hw [] ub60 ku60 1 [c0, c1, c2] T60.heap n0 (by simp) (by simp) hc1 V60 G1 US O60) hZ (own_w hw 91 rfl) (own_w hw 68 rfl) (by decide) (by decide)) (g := (mkF m 32 #[.val (.ref a1), .val (.int (0 : Int32)), .val (.int (3 : Int32)), .val (.ref b51), .val (.int (1 : Int32)), .val (.ref ub60)] [(.int (1 : Int32)), (.ref ub60)])) rfl (by rw [hml]; rfl) (argsL := [(.ref ub60), (.int (1 : Int32))]) (rest := []) (lenOf pd4 rfl) rfl (by show 2 * 0 + _ ≤ _; exact Nat.le_of_eq rfl) (hb hby dj52m16_32) (fun _ _ => ⟨rfl, rfl, (by decide : 2 + 0 ≤ _), (by decide : 9 + 0 ≤ _)⟩)
    dsimp only [Pt.U, Pt.locs, Pt.cells, Pt.slots] at X62 l62 y62 z62 st62 hQ62
    subst l62 y62 z62
    obtain ⟨rfl, Nq62, eq62⟩ := hQ62
    have N62 := Fr.app N60 Nq62
    refine own_t2 (.int c1) 35 st62 ?_
    refine own_tp (.int (255 : Int32)) 38 (fun _ q => XS.sipush X62.here hx rfl (hb hby dj52m16_35) q) ?_
    refine own_d2 54 (fun _ q => XS.icmpYes X62.here hx rfl (pc0 := 38) (pc' := 54) rfl (hb hby dj52m16_38) rfl (tlt hxw).2.2.1 (by decide) (by decide) q) ?_
    refine own_tp (.ref ub60) 56 (fun _ q => XS.aload X62.here hx rfl (hb hby dj52m16_54) rfl rfl q) ?_
    exact own_retR X62 hx hrt (hb hby dj52m16_56) rfl rfl hlk (by decide) (by decide) eq62 (⟨ub60, _, rfl, N62, K60, ge60, s0ub60, Or.inr ⟨⟨c1, by simp, hxw⟩, V60⟩⟩)
  ·
    refine own_cs [(.int (2 : Int32))] 12 st54 ?_
    refine own_ls #[.val (.ref a1), .val (.int (0 : Int32)), .val (.int (3 : Int32)), .val (.ref b51), .val (.int (2 : Int32)), .unset] 14 (fun _ q => XS.istore X54.here hx rfl (hb hby dj52m16_12) rfl (l' := #[.val (.ref a1), .val (.int (0 : Int32)), .val (.int (3 : Int32)), .val (.ref b51), .val (.int (2 : Int32)), .unset]) rfl q) ?_
    refine own_tp (.int (2 : Int32)) 16 (fun _ q => XS.iload X54.here hx rfl (hb hby dj52m16_14) rfl q) ?_
    refine own_tp (.int (3 : Int32)) 17 (fun _ q => XS.iloadN X54.here hx rfl (hb hby dj52m16_16) rfl q) ?_
    refine own_d2 20 (fun _ q => XS.icmpNo X54.here hx rfl (hb hby dj52m16_17) rfl (feq (by decide : ¬ ((2 : Int32) = (3 : Int32)))).1 q) ?_
    refine own_tp (.ref a1) 21 (fun _ q => XS.aloadN X54.here hx rfl (hb hby dj52m16_20) rfl rfl q) ?_
    refine own_tp (.int (0 : Int32)) 22 (fun _ q => XS.iloadN X54.here hx rfl (hb hby dj52m16_21) rfl q) ?_
    refine own_tp (.int (3 : Int32)) 23 (fun _ q => XS.iloadN X54.here hx rfl (hb hby dj52m16_22) rfl q) ?_
    have f63 := (f53.keep Kp54 (ninS ne52 nin0))
    obtain ⟨_, _, ⟨T64, L64, k64, n64⟩, -, X64, ⟨Lc64, hQ64, l64, y64, z64⟩, st64⟩ := Jvm.LawKit.callS X54 hx (y := (⟨"java/lang/StringUTF16", "toBytes", "([CII)[B"⟩ : MethodName)) hown (mvT hZ (own_w hw 73 rfl)) (mvT hZ (own_w hw 74 rfl)) (mvT hZ (own_w hw 68 rfl)) (mvT hZ (own_w hw 75 rfl)) (by decide) (backOf (W := 0) (rm123 l Z a0 hw [] a1 k1 c0 c1 c2 T54.heap n0 Z54 f63 G1 US O54) hZ (own_w hw 75 rfl) (own_w hw 68 rfl) (by decide) (by decide)) (g := (mkF m 23 #[.val (.ref a1), .val (.int (0 : Int32)), .val (.int (3 : Int32)), .val (.ref b51), .val (.int (2 : Int32)), .unset] [(.int (3 : Int32)), (.int (0 : Int32)), (.ref a1)])) rfl (by rw [hml]; rfl) (argsL := [(.ref a1), (.int (0 : Int32)), (.int (3 : Int32))]) (rest := []) (lenOf pd16 rfl) rfl (by show 2 * 0 + _ ≤ _; exact Nat.le_of_eq rfl) (hb hby dj52m16_23) (fun _ _ => ⟨rfl, rfl, (by decide : 1 + 1 ≤ _), (by decide : 3 + 6 ≤ _)⟩)
    dsimp only [Pt.U, Pt.locs, Pt.cells, Pt.slots] at X64 l64 y64 z64 st64 hQ64
    subst l64 y64 z64
    obtain ⟨ub64, ku64, rfl, Nq64, Kp64, ge64, sz64, V64⟩ := hQ64
    have ne65 : a1 ≠ ub64 := Nat.ne_of_lt (Nat.lt_of_lt_of_le f63.lt sz64)
    have s0ub64 : h0.size ≤ ub64 := Nat.le_trans K54.1 sz64
    have N64 := Fr.app N54 Nq64
    have O64 := Old.keep O54 Kp64 all0
    have Z64 : n0 ≤ T64.heap.size := Nat.le_trans Z54 Kp64.1
    have K64 : Keep h0 T64.heap [] := Keep.trans K54 Kp64 all0
    refine own_cs [(.ref ub64)] 26 st64 ?_
    refine own_ls #[.val (.ref a1), .val (.int (0 : Int32)), .val (.int (3 : Int32)), .val (.ref b51), .val (.int (2 : Int32)), .val (.ref ub64)] 28 (fun _ q => XS.astore X64.here hx rfl (hb hby dj52m16_26) rfl rfl (l' := #[.val (.ref a1), .val (.int (0 : Int32)), .val (.int (3 : Int32)), .val (.ref b51), .val (.int (2 : Int32)), .val (.ref ub64)]) rfl q) ?_
    refine own_tp (.ref ub64) 30 (fun _ q => XS.aload X64.here hx rfl (hb hby dj52m16_28) rfl rfl q) ?_
    refine own_tp (.int (2 : Int32)) 32 (fun _ q => XS.iload X64.here hx rfl (hb hby dj52m16_30) rfl q) ?_
    obtain ⟨_, _, ⟨T66, L66, k66, n66⟩, -, X66, ⟨Lc66, hQ66, l66, y66, z66⟩, st66⟩ := Jvm.LawKit.callS X64 hx (y := (⟨"java/lang/StringUTF16", "getChar", "([BI)C"⟩ : MethodName)) hown (mvT hZ (own_w hw 89 rfl)) (mvT hZ (own_w hw 90 rfl)) (mvT hZ (own_w hw 68 rfl)) (mvT hZ (own_w hw 91 rfl)) (by decide) (backOf (W := 0) (rm100 l Z a0 hw [] ub64 ku64 2 [c0, c1, c2] T64.heap n0 (by simp) (by simp) hc2 V64 G1 US O64) hZ (own_w hw 91 rfl) (own_w hw 68 rfl) (by decide) (by decide)) (g := (mkF m 32 #[.val (.ref a1), .val (.int (0 : Int32)), .val (.int (3 : Int32)), .val (.ref b51), .val (.int (2 : Int32)), .val (.ref ub64)] [(.int (2 : Int32)), (.ref ub64)])) rfl (by rw [hml]; rfl) (argsL := [(.ref ub64), (.int (2 : Int32))]) (rest := []) (lenOf pd4 rfl) rfl (by show 2 * 0 + _ ≤ _; exact Nat.le_of_eq rfl) (hb hby dj52m16_32) (fun _ _ => ⟨rfl, rfl, (by decide : 2 + 0 ≤ _), (by decide : 9 + 0 ≤ _)⟩)
    dsimp only [Pt.U, Pt.locs, Pt.cells, Pt.slots] at X66 l66 y66 z66 st66 hQ66
    subst l66 y66 z66
    obtain ⟨rfl, Nq66, eq66⟩ := hQ66
    have N66 := Fr.app N64 Nq66
    refine own_t2 (.int c2) 35 st66 ?_
    refine own_tp (.int (255 : Int32)) 38 (fun _ q => XS.sipush X66.here hx rfl (hb hby dj52m16_35) q) ?_
    refine own_d2 54 (fun _ q => XS.icmpYes X66.here hx rfl (pc0 := 38) (pc' := 54) rfl (hb hby dj52m16_38) rfl (tlt hxw).2.2.1 (by decide) (by decide) q) ?_
    refine own_tp (.ref ub64) 56 (fun _ q => XS.aload X66.here hx rfl (hb hby dj52m16_54) rfl rfl q) ?_
    exact own_retR X66 hx hrt (hb hby dj52m16_56) rfl rfl hlk (by decide) (by decide) eq66 (⟨ub64, _, rfl, N66, K64, ge64, s0ub64, Or.inr ⟨⟨c2, by simp, hxw⟩, V64⟩⟩)
  ·
    refine own_cs [(.int (3 : Int32))] 12 st54 ?_
    refine own_ls #[.val (.ref a1), .val (.int (0 : Int32)), .val (.int (3 : Int32)), .val (.ref b51), .val (.int (3 : Int32)), .unset] 14 (fun _ q => XS.istore X54.here hx rfl (hb hby dj52m16_12) rfl (l' := #[.val (.ref a1), .val (.int (0 : Int32)), .val (.int (3 : Int32)), .val (.ref b51), .val (.int (3 : Int32)), .unset]) rfl q) ?_
    refine own_tp (.int (3 : Int32)) 16 (fun _ q => XS.iload X54.here hx rfl (hb hby dj52m16_14) rfl q) ?_
    refine own_tp (.int (3 : Int32)) 17 (fun _ q => XS.iloadN X54.here hx rfl (hb hby dj52m16_16) rfl q) ?_
    refine own_d2 57 (fun _ q => XS.icmpYes X54.here hx rfl (pc0 := 17) (pc' := 57) rfl (hb hby dj52m16_17) rfl (teq (by decide : (3 : Int32) = (3 : Int32))).1 (by decide) (by decide) q) ?_
    refine own_tp (.ref b51) 58 (fun _ q => XS.aloadN X54.here hx rfl (hb hby dj52m16_57) rfl rfl q) ?_
    exact own_retR X54 hx hrt (hb hby dj52m16_58) rfl rfl hlk (by decide) (by decide) rfl (⟨b51, _, rfl, N54, K54, ge51, sz51, Or.inl ⟨hxw, VL⟩⟩)

def Q125  (h0 : Heap) (n0 : Nat) (v : Option Value) (h : Heap) (L : List Loc) : Prop := v = some (.int (0 : Int32)) ∧ Fr n0 L ∧ h = h0

set_option maxRecDepth 65536 in
set_option maxHeartbeats 40000000 in
theorem rm125 (l : Launch) (Z : State) (a0 : Array Value) (hw : ∀ d ∈ tables_1, d.before a0 Z = true) (ws : List Jvm.Cond) (b1 : Addr) (k1 : ClassId) (vs1 : List Value) (h0 : Heap) (n0 : Nat) (V1 : Arv Z h0 b1 k1 .byte (3 : Int32) vs1 (.int (0 : Int32))) :
    own_Met l (⟨"java/lang/StringUTF16", "coderFromArrayLen", "([BI)B"⟩ : MethodName) jdk_52_method_15_code 2 (some .byte) ws own_R_0_0_0_0 Z #[(.ref b1), (.int (3 : Int32))] h0 (Q125 h0 n0) := by
  refine own_enter #[.val (.ref b1), .val (.int (3 : Int32))] (plainFor_of_name pn_java_lang_StringUTF16) (fun m => ef_RI_2 m b1 (3 : Int32)) ?_
  intro p e s m below meth c s₁ hx hby hml hown hnm hZ hrt hlk X0 e0
  have N0 := Fr.nil n0
  refine own_tp (.int (3 : Int32)) 1 (fun _ q => XS.iloadN X0.here hx rfl (hb hby dj52m15_0) rfl q) ?_
  refine own_tp (.ref b1) 2 (fun _ q => XS.aloadN X0.here hx rfl (hb hby dj52m15_1) rfl rfl q) ?_
  obtain ⟨cl51, Ar51, -, Sz51, Nn51, -, -⟩ := (id V1)
  refine own_t1 (.int (3 : Int32)) 3 (fun t q => X0.arraylength hx (by rw [e0]; exact Ar51.1) (State.isArrayOf_alike hZ.alike Ar51.2.1) (g := (mkF m 2 #[.val (.ref b1), .val (.int (3 : Int32))] [(.ref b1), (.int (3 : Int32))])) rfl rfl (hb hby dj52m15_2) _ (by rw [len_of Sz51 Nn51]; exact q)) ?_
  refine own_t2 (.int (0 : Int32)) 4 (fun _ q => XS.isub X0.here hx rfl (hb hby dj52m15_3) rfl q) ?_
  refine own_tp (.int (31 : Int32)) 6 (fun _ q => XS.bipush X0.here hx rfl (hb hby dj52m15_4) q) ?_
  refine own_d1 7 (fun _ q => XS.iushr X0.here hx rfl (hb hby dj52m15_6) rfl q) ?_
  refine own_d0 8 (fun _ q => XS.i2b X0.here hx rfl (hb hby dj52m15_7) rfl q) ?_
  exact own_retN (t := .byte) X0 hx hrt (hb hby dj52m15_8) (by simp) hlk (by decide) (by decide) e0 (⟨rfl, N0, rfl⟩)

def Q126  (h0 : Heap) (n0 : Nat) (v : Option Value) (h : Heap) (L : List Loc) : Prop := v = some (.int (1 : Int32)) ∧ Fr n0 L ∧ h = h0

set_option maxRecDepth 65536 in
set_option maxHeartbeats 40000000 in
theorem rm126 (l : Launch) (Z : State) (a0 : Array Value) (hw : ∀ d ∈ tables_1, d.before a0 Z = true) (ws : List Jvm.Cond) (b1 : Addr) (k1 : ClassId) (vs1 : List Value) (h0 : Heap) (n0 : Nat) (V1 : Arv Z h0 b1 k1 .byte (6 : Int32) vs1 (.int (0 : Int32))) :
    own_Met l (⟨"java/lang/StringUTF16", "coderFromArrayLen", "([BI)B"⟩ : MethodName) jdk_52_method_15_code 2 (some .byte) ws own_R_0_0_0_0 Z #[(.ref b1), (.int (3 : Int32))] h0 (Q126 h0 n0) := by
  refine own_enter #[.val (.ref b1), .val (.int (3 : Int32))] (plainFor_of_name pn_java_lang_StringUTF16) (fun m => ef_RI_2 m b1 (3 : Int32)) ?_
  intro p e s m below meth c s₁ hx hby hml hown hnm hZ hrt hlk X0 e0
  have N0 := Fr.nil n0
  refine own_tp (.int (3 : Int32)) 1 (fun _ q => XS.iloadN X0.here hx rfl (hb hby dj52m15_0) rfl q) ?_
  refine own_tp (.ref b1) 2 (fun _ q => XS.aloadN X0.here hx rfl (hb hby dj52m15_1) rfl rfl q) ?_
  obtain ⟨cl51, Ar51, -, Sz51, Nn51, -, -⟩ := (id V1)
  refine own_t1 (.int (6 : Int32)) 3 (fun t q => X0.arraylength hx (by rw [e0]; exact Ar51.1) (State.isArrayOf_alike hZ.alike Ar51.2.1) (g := (mkF m 2 #[.val (.ref b1), .val (.int (3 : Int32))] [(.ref b1), (.int (3 : Int32))])) rfl rfl (hb hby dj52m15_2) _ (by rw [len_of Sz51 Nn51]; exact q)) ?_
  refine own_t2 (.int (-3 : Int32)) 4 (fun _ q => XS.isub X0.here hx rfl (hb hby dj52m15_3) rfl q) ?_
  refine own_tp (.int (31 : Int32)) 6 (fun _ q => XS.bipush X0.here hx rfl (hb hby dj52m15_4) q) ?_
  refine own_t2 (.int (1 : Int32)) 7 (fun _ q => XS.iushr X0.here hx rfl (hb hby dj52m15_6) rfl q) ?_
  refine own_d0 8 (fun _ q => XS.i2b X0.here hx rfl (hb hby dj52m15_7) rfl q) ?_
  exact own_retN (t := .byte) X0 hx hrt (hb hby dj52m15_8) (by simp) hlk (by decide) (by decide) e0 (⟨rfl, N0, rfl⟩)

theorem own_all3 {c0 c1 c2 : Int32} (h : ¬ (255 : Int32) < c0 ∧ ¬ (255 : Int32) < c1 ∧ ¬ (255 : Int32) < c2) : ∀ c ∈ ([c0, c1, c2] : List Int32), ¬ (255 : Int32) < c := by
  intro c hc
  simp only [List.mem_cons, List.not_mem_nil, or_false] at hc
  rcases hc with rfl | rfl | rfl
  · exact h.1
  · exact h.2.1
  · exact h.2.2

def Q127 (Z : State) (x1 : Addr) (c0 c1 c2 : Int32) (h0 : Heap) (n0 : Nat) (v : Option Value) (h : Heap) (L : List Loc) : Prop := v = none ∧ Fr n0 L ∧ Keep h0 h [x1] ∧ ∃ (t : Addr) (kb : ClassId) (cd N : Int32) (vs : List Value), n0 ≤ t ∧ h0.size ≤ t ∧ Exa Z h x1 "java/lang/String" ∧ Fld Z h x1 "java/lang/String" "value" "[B" (.ref t) ∧ Fld Z h x1 "java/lang/String" "coder" "B" (.int cd) ∧ Arv Z h t kb .byte N vs (.int (0 : Int32)) ∧ own_Cod ([c0, c1, c2] : List Int32) cd N vs

set_option maxRecDepth 65536 in
set_option maxHeartbeats 40000000 in
theorem rm127 (l : Launch) (Z : State) (a0 : Array Value) (hw : ∀ d ∈ tables_1, d.before a0 Z = true) (ws : List Jvm.Cond) (x1 a1 : Addr) (k1 : ClassId) (c0 c1 c2 : Int32) (u1 u2 : Value) (h0 : Heap) (n0 : Nat) (Z0 : n0 ≤ h0.size) (g1 : n0 ≤ x1) (hxa : x1 ≠ a1) (hc0 : 0 ≤ c0.toInt ∧ c0.toInt ≤ 65535) (hc1 : 0 ≤ c1.toInt ∧ c1.toInt ≤ 65535) (hc2 : 0 ≤ c2.toInt ∧ c2.toInt ≤ 65535) (V1 : Arv Z h0 a1 k1 .char (3 : Int32) [(.int c0), (.int c1), (.int c2)] (.int (0 : Int32))) (E1 : Exa Z h0 x1 "java/lang/String") (F1 : Fld Z h0 x1 "java/lang/String" "value" "[B" u1) (F2 : Fld Z h0 x1 "java/lang/String" "coder" "B" u2) (G1 : Int32) (US : own_US Z G1) (O0 : Old Z n0 h0) :
    own_Met l (⟨"java/lang/String", "<init>", "([CIILjava/lang/Void;)V"⟩ : MethodName) jdk_42_method_149_code 6 none ws own_R_4_2_9_61 Z #[(.ref x1), (.ref a1), (.int (0 : Int32)), (.int (3 : Int32)), .null] h0 (Q127 Z x1 c0 c1 c2 h0 n0) := by
  refine own_enter #[.val (.ref x1), .val (.ref a1), .val (.int (0 : Int32)), .val (.int (3 : Int32)), .val .null, .unset] (plainFor_of_name pn_java_lang_String) (fun m => ef_RRIIN_6 m x1 a1 (0 : Int32) (3 : Int32)) ?_
  intro p e s m below meth c s₁ hx hby hml hown hnm hZ hrt hlk X0 e0
  have N0 := Fr.nil n0
  refine own_tp (.ref x1) 1 (fun _ q => XS.aloadN X0.here hx rfl (hb hby dj42m149_0) rfl rfl q) ?_
  obtain ⟨T51, X51, e51, st51⟩ := initO X0 hx hZ hown (own_w hw 22 rfl) (own_w hw 23 rfl) (own_w hw 24 rfl) e0 (g := (mkF m 1 #[.val (.ref x1), .val (.ref a1), .val (.int (0 : Int32)), .val (.int (3 : Int32)), .val .null, .unset] [(.ref x1)])) rfl (by rw [hml]; rfl) rfl (hb hby dj42m149_1) (by decide) (W := 0) (by show 2 * 0 + _ ≤ _; exact Nat.le_of_eq rfl) (by decide)
  refine own_d1 4 st51 ?_
  refine own_tp (.int (3 : Int32)) 5 (fun _ q => XS.iloadN X51.here hx rfl (hb hby dj42m149_4) rfl q) ?_
  refine own_d1 27 (fun _ q => XS.ifYes X51.here hx rfl (pc0 := 5) (pc' := 27) rfl (hb hby dj42m149_5) rfl ((if0 _ _).trans (feq (by decide : ¬ ((3 : Int32) = (0 : Int32)))).2) (by decide) (by decide) q) ?_
  obtain ⟨T52, X52, e52, st52⟩ := getS2 X51 hx hZ hown (host := "") (Or.inl (own_w hw 47 rfl)) Via.refl e51 (US.2.1.ext O0.2) (g := (mkF m 27 #[.val (.ref x1), .val (.ref a1), .val (.int (0 : Int32)), .val (.int (3 : Int32)), .val .null, .unset] [])) rfl (hb hby dj42m149_27)
  refine own_tp (.int G1) 30 st52 ?_
  refine own_d1 33 (fun _ q => XS.ifNo X52.here hx rfl (hb hby dj42m149_30) rfl ((if0 _ _).trans (feq US.1).1) q) ?_
  refine own_tp (.ref a1) 34 (fun _ q => XS.aloadN X52.here hx rfl (hb hby dj42m149_33) rfl rfl q) ?_
  refine own_tp (.int (0 : Int32)) 35 (fun _ q => XS.iloadN X52.here hx rfl (hb hby dj42m149_34) rfl q) ?_
  refine own_tp (.int (3 : Int32)) 36 (fun _ q => XS.iloadN X52.here hx rfl (hb hby dj42m149_35) rfl q) ?_
  obtain ⟨_, _, ⟨T53, L53, k53, n53⟩, -, X53, ⟨Lc53, hQ53, l53, y53, z53⟩, st53⟩ := Jvm.LawKit.callS X52 hx (y := (⟨"java/lang/StringUTF16", "compress", "([CII)[B"⟩ : MethodName)) hown (mvT hZ (own_w hw 66 rfl)) (mvT hZ (own_w hw 67 rfl)) (mvT hZ (own_w hw 68 rfl)) (mvT hZ (own_w hw 69 rfl)) (by decide) (backOf (W := 0) (rm124 l Z a0 hw [] a1 k1 c0 c1 c2 h0 n0 Z0 hc0 hc1 hc2 V1 G1 US O0) hZ (own_w hw 69 rfl) (own_w hw 68 rfl) (by decide) (by decide)) (g := (mkF m 36 #[.val (.ref x1), .val (.ref a1), .val (.int (0 : Int32)), .val (.int (3 : Int32)), .val .null, .unset] [(.int (3 : Int32)), (.int (0 : Int32)), (.ref a1)])) rfl (by rw [hml]; rfl) (argsL := [(.ref a1), (.int (0 : Int32)), (.int (3 : Int32))]) (rest := []) (lenOf pd16 rfl) rfl (by show 2 * 0 + _ ≤ _; exact Nat.le_of_eq rfl) (hb hby dj42m149_36) (fun _ _ => ⟨rfl, e52, (by decide : 0 + 2 ≤ _), (by decide : 0 + 9 ≤ _)⟩)
  dsimp only [Pt.U, Pt.locs, Pt.cells, Pt.slots] at X53 l53 y53 z53 st53 hQ53
  subst l53 y53 z53
  obtain ⟨vb53, kv53, rfl, Nq53, Kp53, ge53, sz53, hD53⟩ := hQ53
  have ne54 : a1 ≠ vb53 := Nat.ne_of_lt (Nat.lt_of_lt_of_le V1.lt sz53)
  have ne55 : x1 ≠ vb53 := Nat.ne_of_lt (Nat.lt_of_lt_of_le E1.lt sz53)
  have s0vb53 : h0.size ≤ vb53 := Nat.le_trans (Keep.refl h0 [x1]).1 sz53
  have N53 := Fr.app N0 Nq53
  have O53 := Old.keep O0 Kp53 all0
  have Z53 : n0 ≤ T53.heap.size := Nat.le_trans Z0 Kp53.1
  have K53 : Keep h0 T53.heap [x1] := Keep.trans (Keep.refl h0 [x1]) Kp53 all0
  refine own_cs [(.ref vb53)] 39 st53 ?_
  rcases hD53 with ⟨hxw, VL⟩ | ⟨hxw, VL⟩
  ·
    refine own_ls #[.val (.ref x1), .val (.ref a1), .val (.int (0 : Int32)), .val (.int (3 : Int32)), .val .null, .val (.ref vb53)] 41 (fun _ q => XS.astore X53.here hx rfl (hb hby dj42m149_39) rfl rfl (l' := #[.val (.ref x1), .val (.ref a1), .val (.int (0 : Int32)), .val (.int (3 : Int32)), .val .null, .val (.ref vb53)]) rfl q) ?_
    refine own_tp (.ref x1) 42 (fun _ q => XS.aloadN X53.here hx rfl (hb hby dj42m149_41) rfl rfl q) ?_
    refine own_tp (.ref vb53) 44 (fun _ q => XS.aload X53.here hx rfl (hb hby dj42m149_42) rfl rfl q) ?_
    refine own_tp (.int (3 : Int32)) 45 (fun _ q => XS.iloadN X53.here hx rfl (hb hby dj42m149_44) rfl q) ?_
    obtain ⟨_, _, ⟨T56, L56, k56, n56⟩, -, X56, ⟨Lc56, hQ56, l56, y56, z56⟩, st56⟩ := Jvm.LawKit.callS X53 hx (y := (⟨"java/lang/StringUTF16", "coderFromArrayLen", "([BI)B"⟩ : MethodName)) hown (mvT hZ (own_w hw 92 rfl)) (mvT hZ (own_w hw 93 rfl)) (mvT hZ (own_w hw 68 rfl)) (mvT hZ (own_w hw 94 rfl)) (by decide) (backOf (W := 1) (rm125 l Z a0 hw [] vb53 _ _ T53.heap n0 VL) hZ (own_w hw 94 rfl) (own_w hw 68 rfl) (by decide) (by decide)) (g := (mkF m 45 #[.val (.ref x1), .val (.ref a1), .val (.int (0 : Int32)), .val (.int (3 : Int32)), .val .null, .val (.ref vb53)] [(.int (3 : Int32)), (.ref vb53), (.ref x1)])) rfl (by rw [hml]; rfl) (argsL := [(.ref vb53), (.int (3 : Int32))]) (rest := [(.ref x1)]) (lenOf pd17 rfl) rfl (by show 2 * 0 + _ ≤ _; exact Nat.le_of_eq rfl) (hb hby dj42m149_45) (fun _ _ => ⟨rfl, rfl, (by decide : 2 + 0 ≤ _), (by decide : 9 + 0 ≤ _)⟩)
    dsimp only [Pt.U, Pt.locs, Pt.cells, Pt.slots] at X56 l56 y56 z56 st56 hQ56
    subst l56 y56 z56
    obtain ⟨rfl, Nq56, eq56⟩ := hQ56
    have N56 := Fr.app N53 Nq56
    refine own_t2 (.int (0 : Int32)) 48 st56 ?_
    have f57 := (F2.keep Kp53 nin0)
    have f58 := (E1.keep Kp53)
    obtain ⟨T59, h59, X59, e59, W59, st59⟩ := putFN X56 hx hZ hown (own_w hw 32 rfl) Via.refl eq56 f57 f58 (Or.inr ⟨(own_w hw 28 rfl), rfl, hnm⟩) (own_w hw 12 rfl) (ty := .byte) (v' := (.int (0 : Int32))) (by decide) rfl rfl (g := (mkF m 48 #[.val (.ref x1), .val (.ref a1), .val (.int (0 : Int32)), .val (.int (3 : Int32)), .val .null, .val (.ref vb53)] [(.int (0 : Int32)), (.ref x1)])) rfl rfl (hb hby dj42m149_48)
    have Fw59 := f57.same W59
    have N59 := Fr.snoc X59 N56 g1
    have O59 := Old.wr O53 W59 g1
    have K59 : Keep h0 h59 [x1] := K53.wr W59 (Or.inl (List.mem_of_getElem? (i := 0) rfl))
    have Z59 : n0 ≤ h59.size := Nat.le_trans Z53 (Nat.le_of_eq W59.size.symm)
    refine own_d2 51 st59 ?_
    refine own_tp (.ref x1) 52 (fun _ q => XS.aloadN X59.here hx rfl (hb hby dj42m149_51) rfl rfl q) ?_
    refine own_tp (.ref vb53) 54 (fun _ q => XS.aload X59.here hx rfl (hb hby dj42m149_52) rfl rfl q) ?_
    have f60 := ((F1.keep Kp53 nin0).other W59 (Or.inr (slot_ne (Or.inr (own_w hw 27 rfl)) (Or.inr (own_w hw 28 rfl)) (by decide) (t := (.array .byte)) (t' := .byte) (by decide) (by decide))))
    have f61 := (f58.wr W59)
    obtain ⟨T62, h62, X62, e62, W62, st62⟩ := putF X59 hx hZ hown (host := "") (Or.inl (own_w hw 31 rfl)) Via.refl e59 f60 f61 (Or.inr ⟨(own_w hw 27 rfl), rfl, hnm⟩) (own_w hw 12 rfl) (ty := (.array .byte)) (by decide) rfl rfl (g := (mkF m 54 #[.val (.ref x1), .val (.ref a1), .val (.int (0 : Int32)), .val (.int (3 : Int32)), .val .null, .val (.ref vb53)] [(.ref vb53), (.ref x1)])) rfl rfl (hb hby dj42m149_54)
    have Fw62 := f60.same W62
    have N62 := Fr.snoc X62 N59 g1
    have O62 := Old.wr O59 W62 g1
    have K62 : Keep h0 h62 [x1] := K59.wr W62 (Or.inl (List.mem_of_getElem? (i := 0) rfl))
    have Z62 : n0 ≤ h62.size := Nat.le_trans Z59 (Nat.le_of_eq W62.size.symm)
    refine own_d2 57 st62 ?_
    have f63 := (f61.wr W62)
    have f64 := (Fw59.other W62 (Or.inr (slot_ne (Or.inr (own_w hw 28 rfl)) (Or.inr (own_w hw 27 rfl)) (by decide) (t := .byte) (t' := (.array .byte)) (by decide) (by decide))))
    have f65 := ((VL.other W59 (Ne.symm ne55)).other W62 (Ne.symm ne55))
    exact own_retV X62 hx hrt (hb hby dj42m149_57) hlk (by decide) (by decide) e62 (⟨rfl, N62, K62, vb53, _, _, _, _, ge53, s0vb53, f63, Fw62, f64, f65, Or.inl ⟨rfl, rfl, rfl, (own_all3 hxw)⟩⟩)
  ·
    refine own_ls #[.val (.ref x1), .val (.ref a1), .val (.int (0 : Int32)), .val (.int (3 : Int32)), .val .null, .val (.ref vb53)] 41 (fun _ q => XS.astore X53.here hx rfl (hb hby dj42m149_39) rfl rfl (l' := #[.val (.ref x1), .val (.ref a1), .val (.int (0 : Int32)), .val (.int (3 : Int32)), .val .null, .val (.ref vb53)]) rfl q) ?_
    refine own_tp (.ref x1) 42 (fun _ q => XS.aloadN X53.here hx rfl (hb hby dj42m149_41) rfl rfl q) ?_
    refine own_tp (.ref vb53) 44 (fun _ q => XS.aload X53.here hx rfl (hb hby dj42m149_42) rfl rfl q) ?_
    refine own_tp (.int (3 : Int32)) 45 (fun _ q => XS.iloadN X53.here hx rfl (hb hby dj42m149_44) rfl q) ?_
    obtain ⟨_, _, ⟨T66, L66, k66, n66⟩, -, X66, ⟨Lc66, hQ66, l66, y66, z66⟩, st66⟩ := Jvm.LawKit.callS X53 hx (y := (⟨"java/lang/StringUTF16", "coderFromArrayLen", "([BI)B"⟩ : MethodName)) hown (mvT hZ (own_w hw 92 rfl)) (mvT hZ (own_w hw 93 rfl)) (mvT hZ (own_w hw 68 rfl)) (mvT hZ (own_w hw 94 rfl)) (by decide) (backOf (W := 1) (rm126 l Z a0 hw [] vb53 _ _ T53.heap n0 VL) hZ (own_w hw 94 rfl) (own_w hw 68 rfl) (by decide) (by decide)) (g := (mkF m 45 #[.val (.ref x1), .val (.ref a1), .val (.int (0 : Int32)), .val (.int (3 : Int32)), .val .null, .val (.ref vb53)] [(.int (3 : Int32)), (.ref vb53), (.ref x1)])) rfl (by rw [hml]; rfl) (argsL := [(.ref vb53), (.int (3 : Int32))]) (rest := [(.ref x1)]) (lenOf pd17 rfl) rfl (by show 2 * 0 + _ ≤ _; exact Nat.le_of_eq rfl) (hb hby dj42m149_45) (fun _ _ => ⟨rfl, rfl, (by decide : 2 + 0 ≤ _), (by decide : 9 + 0 ≤ _)⟩)
    dsimp only [Pt.U, Pt.locs, Pt.cells, Pt.slots] at X66 l66 y66 z66 st66 hQ66
    subst l66 y66 z66
    obtain ⟨rfl, Nq66, eq66⟩ := hQ66
    have N66 := Fr.app N53 Nq66
    refine own_t2 (.int (1 : Int32)) 48 st66 ?_
    have f67 := (F2.keep Kp53 nin0)
    have f68 := (E1.keep Kp53)
    obtain ⟨T69, h69, X69, e69, W69, st69⟩ := putFN X66 hx hZ hown (own_w hw 32 rfl) Via.refl eq66 f67 f68 (Or.inr ⟨(own_w hw 28 rfl), rfl, hnm⟩) (own_w hw 12 rfl) (ty := .byte) (v' := (.int (1 : Int32))) (by decide) rfl rfl (g := (mkF m 48 #[.val (.ref x1), .val (.ref a1), .val (.int (0 : Int32)), .val (.int (3 : Int32)), .val .null, .val (.ref vb53)] [(.int (1 : Int32)), (.ref x1)])) rfl rfl (hb hby dj42m149_48)
    have Fw69 := f67.same W69
    have N69 := Fr.snoc X69 N66 g1
    have O69 := Old.wr O53 W69 g1
    have K69 : Keep h0 h69 [x1] := K53.wr W69 (Or.inl (List.mem_of_getElem? (i := 0) rfl))
    have Z69 : n0 ≤ h69.size := Nat.le_trans Z53 (Nat.le_of_eq W69.size.symm)
    refine own_d2 51 st69 ?_
    refine own_tp (.ref x1) 52 (fun _ q => XS.aloadN X69.here hx rfl (hb hby dj42m149_51) rfl rfl q) ?_
    refine own_tp (.ref vb53) 54 (fun _ q => XS.aload X69.here hx rfl (hb hby dj42m149_52) rfl rfl q) ?_
    have f70 := ((F1.keep Kp53 nin0).other W69 (Or.inr (slot_ne (Or.inr (own_w hw 27 rfl)) (Or.inr (own_w hw 28 rfl)) (by decide) (t := (.array .byte)) (t' := .byte) (by decide) (by decide))))
    have f71 := (f68.wr W69)
    obtain ⟨T72, h72, X72, e72, W72, st72⟩ := putF X69 hx hZ hown (host := "") (Or.inl (own_w hw 31 rfl)) Via.refl e69 f70 f71 (Or.inr ⟨(own_w hw 27 rfl), rfl, hnm⟩) (own_w hw 12 rfl) (ty := (.array .byte)) (by decide) rfl rfl (g := (mkF m 54 #[.val (.ref x1), .val (.ref a1), .val (.int (0 : Int32)), .val (.int (3 : Int32)), .val .null, .val (.ref vb53)] [(.ref vb53), (.ref x1)])) rfl rfl (hb hby dj42m149_54)
    have Fw72 := f70.same W72
    have N72 := Fr.snoc X72 N69 g1
    have O72 := Old.wr O69 W72 g1
    have K72 : Keep h0 h72 [x1] := K69.wr W72 (Or.inl (List.mem_of_getElem? (i := 0) rfl))
    have Z72 : n0 ≤ h72.size := Nat.le_trans Z69 (Nat.le_of_eq W72.size.symm)
    refine own_d2 57 st72 ?_
    have f73 := (f71.wr W72)
    have f74 := (Fw69.other W72 (Or.inr (slot_ne (Or.inr (own_w hw 28 rfl)) (Or.inr (own_w hw 27 rfl)) (by decide) (t := .byte) (t' := (.array .byte)) (by decide) (by decide))))
    have f75 := ((VL.other W69 (Ne.symm ne55)).other W72 (Ne.symm ne55))
    exact own_retV X72 hx hrt (hb hby dj42m149_57) hlk (by decide) (by decide) e72 (⟨rfl, N72, K72, vb53, _, _, _, _, ge53, s0vb53, f73, Fw72, f74, f75, Or.inr ⟨rfl, rfl, rfl, hxw⟩⟩)

def Q128 (Z : State) (x1 : Addr) (c0 c1 c2 : Int32) (h0 : Heap) (n0 : Nat) (v : Option Value) (h : Heap) (L : List Loc) : Prop := v = none ∧ Fr n0 L ∧ Keep h0 h [x1] ∧ ∃ (t : Addr) (kb : ClassId) (cd N : Int32) (vs : List Value), n0 ≤ t ∧ h0.size ≤ t ∧ Exa Z h x1 "java/lang/String" ∧ Fld Z h x1 "java/lang/String" "value" "[B" (.ref t) ∧ Fld Z h x1 "java/lang/String" "coder" "B" (.int cd) ∧ Arv Z h t kb .byte N vs (.int (0 : Int32)) ∧ own_Cod ([c0, c1, c2] : List Int32) cd N vs

set_option maxRecDepth 65536 in
set_option maxHeartbeats 40000000 in
theorem rm128 (l : Launch) (Z : State) (a0 : Array Value) (hw : ∀ d ∈ tables_1, d.before a0 Z = true) (ws : List Jvm.Cond) (x1 a1 : Addr) (k1 : ClassId) (c0 c1 c2 : Int32) (u1 u2 : Value) (h0 : Heap) (n0 : Nat) (Z0 : n0 ≤ h0.size) (g1 : n0 ≤ x1) (hxa : x1 ≠ a1) (hc0 : 0 ≤ c0.toInt ∧ c0.toInt ≤ 65535) (hc1 : 0 ≤ c1.toInt ∧ c1.toInt ≤ 65535) (hc2 : 0 ≤ c2.toInt ∧ c2.toInt ≤ 65535) (V1 : Arv Z h0 a1 k1 .char (3 : Int32) [(.int c0), (.int c1), (.int c2)] (.int (0 : Int32))) (E1 : Exa Z h0 x1 "java/lang/String") (F1 : Fld Z h0 x1 "java/lang/String" "value" "[B" u1) (F2 : Fld Z h0 x1 "java/lang/String" "coder" "B" u2) (G1 : Int32) (US : own_US Z G1) (O0 : Old Z n0 h0) :
    own_Met l (⟨"java/lang/String", "<init>", "([C)V"⟩ : MethodName) jdk_42_method_3_code 2 none ws own_R_5_2_9_78 Z #[(.ref x1), (.ref a1)] h0 (Q128 Z x1 c0 c1 c2 h0 n0) := by
  refine own_enter #[.val (.ref x1), .val (.ref a1)] (plainFor_of_name pn_java_lang_String) (fun m => ef_RR_2 m x1 a1) ?_
  intro p e s m below meth c s₁ hx hby hml hown hnm hZ hrt hlk X0 e0
  have N0 := Fr.nil n0
  refine own_tp (.ref x1) 1 (fun _ q => XS.aloadN X0.here hx rfl (hb hby dj42m3_0) rfl rfl q) ?_
  refine own_tp (.ref a1) 2 (fun _ q => XS.aloadN X0.here hx rfl (hb hby dj42m3_1) rfl rfl q) ?_
  refine own_tp (.int (0 : Int32)) 3 (fun _ q => XS.iconst X0.here hx rfl (hb hby dj42m3_2) q) ?_
  refine own_tp (.ref a1) 4 (fun _ q => XS.aloadN X0.here hx rfl (hb hby dj42m3_3) rfl rfl q) ?_
  obtain ⟨cl51, Ar51, -, Sz51, Nn51, -, -⟩ := (id V1)
  refine own_t1 (.int (3 : Int32)) 5 (fun t q => X0.arraylength hx (by rw [e0]; exact Ar51.1) (State.isArrayOf_alike hZ.alike Ar51.2.1) (g := (mkF m 4 #[.val (.ref x1), .val (.ref a1)] [(.ref a1), (.int (0 : Int32)), (.ref a1), (.ref x1)])) rfl rfl (hb hby dj42m3_4) _ (by rw [len_of Sz51 Nn51]; exact q)) ?_
  refine own_tp .null 6 (fun _ q => XS.aconstNull X0.here hx rfl (hb hby dj42m3_5) q) ?_
  obtain ⟨_, _, ⟨T52, L52, k52, n52⟩, -, X52, ⟨Lc52, hQ52, l52, y52, z52⟩, st52⟩ := X0.specialBack hx (y := (⟨"java/lang/String", "<init>", "([CIILjava/lang/Void;)V"⟩ : MethodName)) rfl hown (mvT hZ (own_w hw 18 rfl)) (mvT hZ (own_w hw 19 rfl)) (mvT hZ (own_w hw 21 rfl)) (by decide) (backOf (W := 0) (rm127 l Z a0 hw [] x1 a1 k1 c0 c1 c2 _ _ h0 n0 Z0 g1 hxa hc0 hc1 hc2 V1 E1 F1 F2 G1 US O0) hZ (own_w hw 21 rfl) (own_w hw 13 rfl) (by decide) (by decide)) (g := (mkF m 6 #[.val (.ref x1), .val (.ref a1)] [.null, (.int (3 : Int32)), (.int (0 : Int32)), (.ref a1), (.ref x1)])) rfl (by rw [hml]; rfl) (Steps.refl _) (a := x1) (argsL := [(.ref a1), (.int (0 : Int32)), (.int (3 : Int32)), .null]) (rest := []) (lenOf pd12 rfl) rfl (by show 2 * 0 + _ ≤ _; exact Nat.le_of_eq rfl) (hb hby dj42m3_6) (fun _ _ => ⟨rfl, e0, (by decide : 0 + 2 ≤ _), (by decide : 0 + 9 ≤ _)⟩)
  dsimp only [Pt.U, Pt.locs, Pt.cells, Pt.slots] at X52 l52 y52 z52 st52 hQ52
  subst l52 y52 z52
  obtain ⟨rfl, Nq52, Kp52, rest52⟩ := hQ52
  refine own_csR [] 9 st52 ?_
  exact own_retV X52 hx hrt (hb hby dj42m3_9) hlk (by decide) (by decide) rfl (⟨rfl, Fr.app N0 Nq52, Kp52, rest52⟩)

def Q35 (Z : State) (cs : List Int32) (h0 : Heap) (n0 : Nat) (v : Option Value) (h : Heap) (L : List Loc) : Prop := ∃ s : Addr, v = some (.ref s) ∧ Fr n0 L ∧ Keep h0 h [] ∧ n0 ≤ s ∧ h0.size ≤ s ∧ own_S Z h s cs

set_option maxRecDepth 65536 in
set_option maxHeartbeats 40000000 in
theorem rm35 (l : Launch) (Z : State) (a0 : Array Value) (hw : ∀ d ∈ tables_1, d.before a0 Z = true) (ws : List Jvm.Cond) (c0 c1 c2 n : Int32) (h0 : Heap) (n0 : Nat) (hE : EW Z a0 own_EL) (Z0 : n0 ≤ h0.size) (hc0 : 0 ≤ c0.toInt ∧ c0.toInt ≤ 65535) (hc1 : 0 ≤ c1.toInt ∧ c1.toInt ≤ 65535) (hc2 : 0 ≤ c2.toInt ∧ c2.toInt ≤ 65535) (G1 : Int32) (US : own_US Z G1) (O0 : Old Z n0 h0) :
    own_MetW own_EL l (⟨"com/example/cited_experts/citedexperts/Utf8OrderComparePinLaw", "str", "(CCCI)Ljava/lang/String;"⟩ : MethodName) method_6_code 5 (some (.object "java/lang/String")) ws own_R_6_6_16_92 Z #[(.int c0), (.int c1), (.int c2), (.int n)] h0 (Q35 Z (own_tk n c0 c1 c2) h0 n0) := by
  refine own_enterW #[.val (.int c0), .val (.int c1), .val (.int c2), .val (.int n), .unset] (plainFor_of_name pn_com_example_cited_experts_citedexperts_Utf8OrderComparePinLaw) (fun m => ef_IIII_5 m c0 c1 c2 n) hE ?_
  intro p e s m below meth c s₁ hx hby hml hown hnm hZ hrt hlk X0 e0 Wd0
  have N0 := Fr.nil n0
  have wS := own_wS hw
  refine own_tp (.int n) 1 (fun _ q => XS.iloadN X0.here hx rfl (hb hby dq6_0) rfl q) ?_
  by_cases c51 : n = (0 : Int32)
  ·
    refine own_d1 4 (fun _ q => XS.ifNo X0.here hx rfl (hb hby dq6_1) rfl ((if0 _ _).trans (teq c51).2) q) ?_
    obtain ⟨T52, h52, X52, e52, E52, A52, D52, -, st52⟩ := newO X0 hx hZ hown (own_w hw 11 rfl) (own_w hw 12 rfl) (own_w hw 13 rfl) e0 (g := (mkF m 4 #[.val (.int c0), .val (.int c1), .val (.int c2), .val (.int n), .unset] [])) rfl (hb hby dq6_4) (by decide) (by decide)
    obtain ⟨b52, g52⟩ : ∃ z, z = h0.size := ⟨_, rfl⟩
    rw [← g52] at A52 D52 st52
    have ge52 : n0 ≤ b52 := Nat.le_trans Z0 (Nat.le_of_eq g52.symm)
    have sz52 : h0.size ≤ b52 := Nat.le_trans (Keep.refl h0 []).1 (Nat.le_of_eq g52.symm)
    have O52 := Old.ext O0 E52
    have K52 : Keep h0 h52 [] := (Keep.refl h0 []).ext E52
    have Z52 : n0 ≤ h52.size := Nat.le_trans Z0 E52.1
    have Wd52 := Wd0.ext E52
    have G52 : Safe Z own_EL s.vm h52 b52 := Safe.ext E52 Wd0.chv (Safe.new (Nat.le_of_eq g52.symm))
    have Fvalue_52 : Fld Z h52 b52 "java/lang/String" "value" "[B" .null := D52 (Or.inr (own_w hw 27 rfl)) (ty := (.array .byte)) (by decide)
    have Fcoder_52 : Fld Z h52 b52 "java/lang/String" "coder" "B" (.int (0 : Int32)) := D52 (Or.inr (own_w hw 28 rfl)) (ty := .byte) (by decide)
    refine own_tp (.ref b52) 7 st52 ?_
    refine own_tp (.ref b52) 8 (fun _ q => XS.dup X52.here hx rfl (hb hby dq6_7) rfl rfl q) ?_
    refine own_tp (.int (0 : Int32)) 9 (fun _ q => XS.iconst X52.here hx rfl (hb hby dq6_8) q) ?_
    obtain ⟨T53, h53, k53, X53, e53, E53, A53, st53⟩ := newP X52 hx hZ (own_w hw 14 rfl) e52 (g := (mkF m 9 #[.val (.int c0), .val (.int c1), .val (.int c2), .val (.int n), .unset] [(.int (0 : Int32)), (.ref b52), (.ref b52)])) rfl (hb hby dq6_9) rfl (by decide) (cap := 0) (by decide) (by decide) (by decide) (by decide)
    obtain ⟨b53, g53⟩ : ∃ z, z = h52.size := ⟨_, rfl⟩
    rw [← g53] at A53 st53
    have V53 : Arv Z h53 b53 k53 .char (0 : Int32) [] (.int (0 : Int32)) := (Arv.new A53 (by decide)).pad (pad_rep [] (.int (0 : Int32)) 0)
    have ge53 : n0 ≤ b53 := Nat.le_trans Z52 (Nat.le_of_eq g53.symm)
    have sz53 : h0.size ≤ b53 := Nat.le_trans K52.1 (Nat.le_of_eq g53.symm)
    have ne54 : b52 ≠ b53 := Nat.ne_of_lt (Nat.lt_of_lt_of_le A52.lt (Nat.le_of_eq g53.symm))
    have O53 := Old.ext O52 E53
    have K53 : Keep h0 h53 [] := K52.ext E53
    have Z53 : n0 ≤ h53.size := Nat.le_trans Z52 E53.1
    have Wd53 := Wd52.ext E53
    refine own_t1 (.ref b53) 11 st53 ?_
    have f55 := (A52.ext E53)
    have f56 := (Fvalue_52.ext E53)
    have f57 := (Fcoder_52.ext E53)
    have f59 := (Safe.ext E53 Wd52.chv G52)
    obtain ⟨_, _, ⟨T58, L58, k58, n58⟩, -, X58, hS58, -, ⟨Lc58, hQ58, l58, y58, z58, Ch58⟩, st58⟩ := X53.specialBackS hx (y := (⟨"java/lang/String", "<init>", "([C)V"⟩ : MethodName)) rfl hown (mvT hZ (own_w hw 15 rfl)) (mvT hZ (own_w hw 16 rfl)) (mvT hZ (own_w hw 17 rfl)) (by decide) (backOfSH (W := 1) (rm34 l Z a0 hw [] b52 b53 k53 h53 n0 hE Z53 ge52 f55 f56 f57 G1 US O53 V53) hZ (own_w hw 17 rfl) (own_w hw 13 rfl) (by decide) (by decide) Wd53.hE Wd53.chv) (g := (mkF m 11 #[.val (.int c0), .val (.int c1), .val (.int c2), .val (.int n), .unset] [(.ref b53), (.ref b52), (.ref b52)])) rfl (by rw [hml]; rfl) (Steps.refl _) (a := b52) (argsL := [(.ref b53)]) (rest := [(.ref b52)]) (lenOf pd18 rfl) rfl (by show 2 * 0 + _ ≤ _; exact Nat.le_of_eq rfl) (hb hby dq6_11) (fun _ _ => ⟨rfl, e53, (by decide : 2 + 4 ≤ _), (by decide : 4 + 8 ≤ _)⟩)
    dsimp only [Pt.U, Pt.locs, Pt.cells, Pt.slots] at X58 l58 y58 z58 st58 hQ58 hS58 Ch58
    subst l58 y58 z58
    have Wd58 := own_Wd.call Wd53 hS58 Ch58
    have hZ58 : Z.Warmed39 (s.setVm T58.vm).vm := Wd58.hZ
    have hown58 : (s.setVm T58.vm).vm.findClass "com/example/cited_experts/citedexperts/Utf8OrderComparePinLaw" = some m.cls := own_since_own hS58 hown
    have Y58 : Stand p l e own_R_6_6_16_92 (s.setVm T58.vm) m #[(.int c0), (.int c1), (.int c2), (.int n)] below meth c T58 _ _ _ := X58
    have G58_b52 := CHr.safe Ch58 f55.lt f59
    obtain ⟨rfl, Nq58, Kp58, t58, kb58, cd58, Nn58, vs58, A58, Vl58, Cd58, V58, Co58⟩ := hQ58
    have N58 := Fr.app N0 Nq58
    have O58 := Old.keep O53 Kp58 (allS ge52 all0)
    have Z58 : n0 ≤ T58.heap.size := Nat.le_trans Z53 Kp58.1
    have K58 : Keep h0 T58.heap [] := Keep.trans K53 Kp58 (allS (Or.inr sz52) all0)
    have SS58 : own_S Z T58.heap b52 [] := ⟨t58, kb58, cd58, Nn58, vs58, A58, Vl58, Cd58, V58, Co58⟩
    refine own_csR [(.ref b52)] 14 st58 ?_
    have htk : own_tk n c0 c1 c2 = [] := (by unfold own_tk; rw [if_pos c51])
    exact own_retRW Y58 hx hrt (hb hby dq6_14) rfl rfl hlk (by decide) (by decide) rfl Wd58 (⟨b52, rfl, N58, K58, ge52, sz52, by rw [htk]; exact SS58⟩)
  ·
    refine own_d1 15 (fun _ q => XS.ifYes X0.here hx rfl (pc0 := 1) (pc' := 15) rfl (hb hby dq6_1) rfl ((if0 _ _).trans (feq c51).2) (by decide) (by decide) q) ?_
    refine own_tp (.int n) 16 (fun _ q => XS.iloadN X0.here hx rfl (hb hby dq6_15) rfl q) ?_
    refine own_tp (.int (1 : Int32)) 17 (fun _ q => XS.iconst X0.here hx rfl (hb hby dq6_16) q) ?_
    by_cases c60 : n = (1 : Int32)
    ·
      refine own_d2 20 (fun _ q => XS.icmpNo X0.here hx rfl (hb hby dq6_17) rfl (teq c60).2 q) ?_
      refine own_tp (.int (1 : Int32)) 21 (fun _ q => XS.iconst X0.here hx rfl (hb hby dq6_20) q) ?_
      obtain ⟨T61, h61, k61, X61, e61, E61, A61, st61⟩ := newP X0 hx hZ (own_w hw 14 rfl) e0 (g := (mkF m 21 #[.val (.int c0), .val (.int c1), .val (.int c2), .val (.int n), .unset] [(.int (1 : Int32))])) rfl (hb hby dq6_21) rfl (by decide) (cap := 1) (by decide) (by decide) (by decide) (by decide)
      obtain ⟨b61, g61⟩ : ∃ z, z = h0.size := ⟨_, rfl⟩
      rw [← g61] at A61 st61
      have V61 : Arv Z h61 b61 k61 .char (1 : Int32) [(.int (0 : Int32))] (.int (0 : Int32)) := (Arv.new A61 (by decide)).pad (pad_rep [] (.int (0 : Int32)) 1)
      have ge61 : n0 ≤ b61 := Nat.le_trans Z0 (Nat.le_of_eq g61.symm)
      have sz61 : h0.size ≤ b61 := Nat.le_trans (Keep.refl h0 []).1 (Nat.le_of_eq g61.symm)
      have O61 := Old.ext O0 E61
      have K61 : Keep h0 h61 [] := (Keep.refl h0 []).ext E61
      have Z61 : n0 ≤ h61.size := Nat.le_trans Z0 E61.1
      have Wd61 := Wd0.ext E61
      refine own_t1 (.ref b61) 23 st61 ?_
      refine own_ls #[.val (.int c0), .val (.int c1), .val (.int c2), .val (.int n), .val (.ref b61)] 25 (fun _ q => XS.astore X61.here hx rfl (hb hby dq6_23) rfl rfl (l' := #[.val (.int c0), .val (.int c1), .val (.int c2), .val (.int n), .val (.ref b61)]) rfl q) ?_
      refine own_tp (.ref b61) 27 (fun _ q => XS.aload X61.here hx rfl (hb hby dq6_25) rfl rfl q) ?_
      refine own_tp (.int (0 : Int32)) 28 (fun _ q => XS.iconst X61.here hx rfl (hb hby dq6_27) q) ?_
      refine own_tp (.int c0) 29 (fun _ q => XS.iloadN X61.here hx rfl (hb hby dq6_28) rfl q) ?_
      obtain ⟨cl62, Ar62, q62, S62, Nn62, H62, G62⟩ := (id V61)
      have hin62 : ¬ ((0 : Int32) < 0 ∨ cl62.slots.size ≤ ((0 : Int32)).toNatClampNeg) := inb_of S62 ⟨by decide, by decide⟩
      obtain ⟨T63, h63, X63, e63, W63, st63⟩ := stC X61 hx hZ e61 Ar62 (j := (0 : Int32)) hin62 (g := (mkF m 29 #[.val (.int c0), .val (.int c1), .val (.int c2), .val (.int n), .val (.ref b61)] [(.int c0), (.int (0 : Int32)), (.ref b61)])) rfl rfl (hb hby dq6_29)
      have V63 := Arv.set Ar62 q62 S62 Nn62 H62 G62 (fits_nar_char _) W63 0 rfl (Nat.le_of_ble_eq_true rfl)
      have N63 := Fr.snoc X63 N0 ge61
      have O63 := Old.wr O61 W63 ge61
      have K63 : Keep h0 h63 [] := K61.wr W63 (Or.inr sz61)
      have Z63 : n0 ≤ h63.size := Nat.le_trans Z61 (Nat.le_of_eq W63.size.symm)
      have Wd63 := Wd61.wr W63 (own_safeV hZ.alike V61 (by simp))
      have V63' : Arv Z h63 b61 k61 .char (1 : Int32) [(.int c0)] (.int (0 : Int32)) := by have q := V63; first | (rw [own_narc hc0] at q; exact q) | (rw [own_i2c hc0] at q; exact q)
      refine own_cs [] 30 st63 ?_
      obtain ⟨T64, h64, X64, e64, E64, A64, D64, -, st64⟩ := newO X63 hx hZ hown (own_w hw 11 rfl) (own_w hw 12 rfl) (own_w hw 13 rfl) e63 (g := (mkF m 30 #[.val (.int c0), .val (.int c1), .val (.int c2), .val (.int n), .val (.ref b61)] [])) rfl (hb hby dq6_30) (by decide) (by decide)
      obtain ⟨b64, g64⟩ : ∃ z, z = h63.size := ⟨_, rfl⟩
      rw [← g64] at A64 D64 st64
      have ge64 : n0 ≤ b64 := Nat.le_trans Z63 (Nat.le_of_eq g64.symm)
      have sz64 : h0.size ≤ b64 := Nat.le_trans K63.1 (Nat.le_of_eq g64.symm)
      have ne65 : b61 ≠ b64 := Nat.ne_of_lt (Nat.lt_of_lt_of_le V63'.lt (Nat.le_of_eq g64.symm))
      have O64 := Old.ext O63 E64
      have K64 : Keep h0 h64 [] := K63.ext E64
      have Z64 : n0 ≤ h64.size := Nat.le_trans Z63 E64.1
      have Wd64 := Wd63.ext E64
      have G64 : Safe Z own_EL s.vm h64 b64 := Safe.ext E64 Wd63.chv (Safe.new (Nat.le_of_eq g64.symm))
      have Fvalue_64 : Fld Z h64 b64 "java/lang/String" "value" "[B" .null := D64 (Or.inr (own_w hw 27 rfl)) (ty := (.array .byte)) (by decide)
      have Fcoder_64 : Fld Z h64 b64 "java/lang/String" "coder" "B" (.int (0 : Int32)) := D64 (Or.inr (own_w hw 28 rfl)) (ty := .byte) (by decide)
      refine own_tp (.ref b64) 33 st64 ?_
      refine own_tp (.ref b64) 34 (fun _ q => XS.dup X64.here hx rfl (hb hby dq6_33) rfl rfl q) ?_
      refine own_tp (.ref b61) 36 (fun _ q => XS.aload X64.here hx rfl (hb hby dq6_34) rfl rfl q) ?_
      have f66 := (V63'.ext E64)
      obtain ⟨_, _, ⟨T67, L67, k67, n67⟩, -, X67, ⟨Lc67, hQ67, l67, y67, z67⟩, st67⟩ := X64.specialBack hx (y := (⟨"java/lang/String", "<init>", "([C)V"⟩ : MethodName)) rfl hown (mvT hZ (own_w hw 15 rfl)) (mvT hZ (own_w hw 16 rfl)) (mvT hZ (own_w hw 17 rfl)) (by decide) (backOf (W := 1) (rm110 l Z a0 hw [] b64 b61 k61 c0 _ _ h64 n0 Z64 ge64 (Ne.symm ne65) hc0 f66 A64 Fvalue_64 Fcoder_64 G1 US O64) hZ (own_w hw 17 rfl) (own_w hw 13 rfl) (by decide) (by decide)) (g := (mkF m 36 #[.val (.int c0), .val (.int c1), .val (.int c2), .val (.int n), .val (.ref b61)] [(.ref b61), (.ref b64), (.ref b64)])) rfl (by rw [hml]; rfl) (Steps.refl _) (a := b64) (argsL := [(.ref b61)]) (rest := [(.ref b64)]) (lenOf pd18 rfl) rfl (by show 2 * 0 + _ ≤ _; exact Nat.le_of_eq rfl) (hb hby dq6_36) (fun _ _ => ⟨rfl, e64, (by decide : 2 + 2 ≤ _), (by decide : 5 + 3 ≤ _)⟩)
      dsimp only [Pt.U, Pt.locs, Pt.cells, Pt.slots] at X67 l67 y67 z67 st67 hQ67
      subst l67 y67 z67
      obtain ⟨rfl, Nq67, Kp67, t67, kb67, cd67, Nn67, vs67, gt67, st_67, A67, Vl67, Cd67, V67, Co67⟩ := hQ67
      have N67 := Fr.app N63 Nq67
      have O67 := Old.keep O64 Kp67 (allS ge64 all0)
      have Z67 : n0 ≤ T67.heap.size := Nat.le_trans Z64 Kp67.1
      have K67 : Keep h0 T67.heap [] := Keep.trans K64 Kp67 (allS (Or.inr sz64) all0)
      have Wd67 := Wd64.keep Kp67 (allS G64 all0)
      have SS67 : own_S Z T67.heap b64 [c0] := ⟨t67, kb67, cd67, Nn67, vs67, A67, Vl67, Cd67, V67, Co67⟩
      refine own_csR [(.ref b64)] 39 st67 ?_
      have htk : own_tk n c0 c1 c2 = [c0] := (by unfold own_tk; rw [if_neg c51, if_pos c60])
      exact own_retRW X67 hx hrt (hb hby dq6_39) rfl rfl hlk (by decide) (by decide) rfl Wd67 (⟨b64, rfl, N67, K67, ge64, sz64, by rw [htk]; exact SS67⟩)
    ·
      refine own_d2 40 (fun _ q => XS.icmpYes X0.here hx rfl (pc0 := 17) (pc' := 40) rfl (hb hby dq6_17) rfl (feq c60).2 (by decide) (by decide) q) ?_
      refine own_tp (.int n) 41 (fun _ q => XS.iloadN X0.here hx rfl (hb hby dq6_40) rfl q) ?_
      refine own_tp (.int (2 : Int32)) 42 (fun _ q => XS.iconst X0.here hx rfl (hb hby dq6_41) q) ?_
      by_cases c68 : n = (2 : Int32)
      ·
        refine own_d2 45 (fun _ q => XS.icmpNo X0.here hx rfl (hb hby dq6_42) rfl (teq c68).2 q) ?_
        refine own_tp (.int (2 : Int32)) 46 (fun _ q => XS.iconst X0.here hx rfl (hb hby dq6_45) q) ?_
        obtain ⟨T69, h69, k69, X69, e69, E69, A69, st69⟩ := newP X0 hx hZ (own_w hw 14 rfl) e0 (g := (mkF m 46 #[.val (.int c0), .val (.int c1), .val (.int c2), .val (.int n), .unset] [(.int (2 : Int32))])) rfl (hb hby dq6_46) rfl (by decide) (cap := 2) (by decide) (by decide) (by decide) (by decide)
        obtain ⟨b69, g69⟩ : ∃ z, z = h0.size := ⟨_, rfl⟩
        rw [← g69] at A69 st69
        have V69 : Arv Z h69 b69 k69 .char (2 : Int32) [(.int (0 : Int32)), (.int (0 : Int32))] (.int (0 : Int32)) := (Arv.new A69 (by decide)).pad (pad_rep [] (.int (0 : Int32)) 2)
        have ge69 : n0 ≤ b69 := Nat.le_trans Z0 (Nat.le_of_eq g69.symm)
        have sz69 : h0.size ≤ b69 := Nat.le_trans (Keep.refl h0 []).1 (Nat.le_of_eq g69.symm)
        have O69 := Old.ext O0 E69
        have K69 : Keep h0 h69 [] := (Keep.refl h0 []).ext E69
        have Z69 : n0 ≤ h69.size := Nat.le_trans Z0 E69.1
        have Wd69 := Wd0.ext E69
        refine own_t1 (.ref b69) 48 st69 ?_
        refine own_ls #[.val (.int c0), .val (.int c1), .val (.int c2), .val (.int n), .val (.ref b69)] 50 (fun _ q => XS.astore X69.here hx rfl (hb hby dq6_48) rfl rfl (l' := #[.val (.int c0), .val (.int c1), .val (.int c2), .val (.int n), .val (.ref b69)]) rfl q) ?_
        refine own_tp (.ref b69) 52 (fun _ q => XS.aload X69.here hx rfl (hb hby dq6_50) rfl rfl q) ?_
        refine own_tp (.int (0 : Int32)) 53 (fun _ q => XS.iconst X69.here hx rfl (hb hby dq6_52) q) ?_
        refine own_tp (.int c0) 54 (fun _ q => XS.iloadN X69.here hx rfl (hb hby dq6_53) rfl q) ?_
        obtain ⟨cl70, Ar70, q70, S70, Nn70, H70, G70⟩ := (id V69)
        have hin70 : ¬ ((0 : Int32) < 0 ∨ cl70.slots.size ≤ ((0 : Int32)).toNatClampNeg) := inb_of S70 ⟨by decide, by decide⟩
        obtain ⟨T71, h71, X71, e71, W71, st71⟩ := stC X69 hx hZ e69 Ar70 (j := (0 : Int32)) hin70 (g := (mkF m 54 #[.val (.int c0), .val (.int c1), .val (.int c2), .val (.int n), .val (.ref b69)] [(.int c0), (.int (0 : Int32)), (.ref b69)])) rfl rfl (hb hby dq6_54)
        have V71 := Arv.set Ar70 q70 S70 Nn70 H70 G70 (fits_nar_char _) W71 0 rfl (Nat.le_of_ble_eq_true rfl)
        have N71 := Fr.snoc X71 N0 ge69
        have O71 := Old.wr O69 W71 ge69
        have K71 : Keep h0 h71 [] := K69.wr W71 (Or.inr sz69)
        have Z71 : n0 ≤ h71.size := Nat.le_trans Z69 (Nat.le_of_eq W71.size.symm)
        have Wd71 := Wd69.wr W71 (own_safeV hZ.alike V69 (by simp))
        have V71' : Arv Z h71 b69 k69 .char (2 : Int32) [(.int c0), (.int (0 : Int32))] (.int (0 : Int32)) := by have q := V71; first | (rw [own_narc hc0] at q; exact q) | (rw [own_i2c hc0] at q; exact q)
        refine own_cs [] 55 st71 ?_
        refine own_tp (.ref b69) 57 (fun _ q => XS.aload X71.here hx rfl (hb hby dq6_55) rfl rfl q) ?_
        refine own_tp (.int (1 : Int32)) 58 (fun _ q => XS.iconst X71.here hx rfl (hb hby dq6_57) q) ?_
        refine own_tp (.int c1) 59 (fun _ q => XS.iloadN X71.here hx rfl (hb hby dq6_58) rfl q) ?_
        obtain ⟨cl72, Ar72, q72, S72, Nn72, H72, G72⟩ := (id V71')
        have hin72 : ¬ ((1 : Int32) < 0 ∨ cl72.slots.size ≤ ((1 : Int32)).toNatClampNeg) := inb_of S72 ⟨by decide, by decide⟩
        obtain ⟨T73, h73, X73, e73, W73, st73⟩ := stC X71 hx hZ e71 Ar72 (j := (1 : Int32)) hin72 (g := (mkF m 59 #[.val (.int c0), .val (.int c1), .val (.int c2), .val (.int n), .val (.ref b69)] [(.int c1), (.int (1 : Int32)), (.ref b69)])) rfl rfl (hb hby dq6_59)
        have V73 := Arv.set Ar72 q72 S72 Nn72 H72 G72 (fits_nar_char _) W73 1 rfl (Nat.le_of_ble_eq_true rfl)
        have N73 := Fr.snoc X73 N71 ge69
        have O73 := Old.wr O71 W73 ge69
        have K73 : Keep h0 h73 [] := K71.wr W73 (Or.inr sz69)
        have Z73 : n0 ≤ h73.size := Nat.le_trans Z71 (Nat.le_of_eq W73.size.symm)
        have Wd73 := Wd71.wr W73 (own_safeV hZ.alike V71' (by simp))
        have V73' : Arv Z h73 b69 k69 .char (2 : Int32) [(.int c0), (.int c1)] (.int (0 : Int32)) := by have q := V73; first | (rw [own_narc hc1] at q; exact q) | (rw [own_i2c hc1] at q; exact q)
        refine own_cs [] 60 st73 ?_
        obtain ⟨T74, h74, X74, e74, E74, A74, D74, -, st74⟩ := newO X73 hx hZ hown (own_w hw 11 rfl) (own_w hw 12 rfl) (own_w hw 13 rfl) e73 (g := (mkF m 60 #[.val (.int c0), .val (.int c1), .val (.int c2), .val (.int n), .val (.ref b69)] [])) rfl (hb hby dq6_60) (by decide) (by decide)
        obtain ⟨b74, g74⟩ : ∃ z, z = h73.size := ⟨_, rfl⟩
        rw [← g74] at A74 D74 st74
        have ge74 : n0 ≤ b74 := Nat.le_trans Z73 (Nat.le_of_eq g74.symm)
        have sz74 : h0.size ≤ b74 := Nat.le_trans K73.1 (Nat.le_of_eq g74.symm)
        have ne75 : b69 ≠ b74 := Nat.ne_of_lt (Nat.lt_of_lt_of_le V73'.lt (Nat.le_of_eq g74.symm))
        have O74 := Old.ext O73 E74
        have K74 : Keep h0 h74 [] := K73.ext E74
        have Z74 : n0 ≤ h74.size := Nat.le_trans Z73 E74.1
        have Wd74 := Wd73.ext E74
        have G74 : Safe Z own_EL s.vm h74 b74 := Safe.ext E74 Wd73.chv (Safe.new (Nat.le_of_eq g74.symm))
        have Fvalue_74 : Fld Z h74 b74 "java/lang/String" "value" "[B" .null := D74 (Or.inr (own_w hw 27 rfl)) (ty := (.array .byte)) (by decide)
        have Fcoder_74 : Fld Z h74 b74 "java/lang/String" "coder" "B" (.int (0 : Int32)) := D74 (Or.inr (own_w hw 28 rfl)) (ty := .byte) (by decide)
        refine own_tp (.ref b74) 63 st74 ?_
        refine own_tp (.ref b74) 64 (fun _ q => XS.dup X74.here hx rfl (hb hby dq6_63) rfl rfl q) ?_
        refine own_tp (.ref b69) 66 (fun _ q => XS.aload X74.here hx rfl (hb hby dq6_64) rfl rfl q) ?_
        have f76 := (V73'.ext E74)
        obtain ⟨_, _, ⟨T77, L77, k77, n77⟩, -, X77, ⟨Lc77, hQ77, l77, y77, z77⟩, st77⟩ := X74.specialBack hx (y := (⟨"java/lang/String", "<init>", "([C)V"⟩ : MethodName)) rfl hown (mvT hZ (own_w hw 15 rfl)) (mvT hZ (own_w hw 16 rfl)) (mvT hZ (own_w hw 17 rfl)) (by decide) (backOf (W := 1) (rm119 l Z a0 hw [] b74 b69 k69 c0 c1 _ _ h74 n0 Z74 ge74 (Ne.symm ne75) hc0 hc1 f76 A74 Fvalue_74 Fcoder_74 G1 US O74) hZ (own_w hw 17 rfl) (own_w hw 13 rfl) (by decide) (by decide)) (g := (mkF m 66 #[.val (.int c0), .val (.int c1), .val (.int c2), .val (.int n), .val (.ref b69)] [(.ref b69), (.ref b74), (.ref b74)])) rfl (by rw [hml]; rfl) (Steps.refl _) (a := b74) (argsL := [(.ref b69)]) (rest := [(.ref b74)]) (lenOf pd18 rfl) rfl (by show 2 * 0 + _ ≤ _; exact Nat.le_of_eq rfl) (hb hby dq6_66) (fun _ _ => ⟨rfl, e74, (by decide : 2 + 2 ≤ _), (by decide : 6 + 6 ≤ _)⟩)
        dsimp only [Pt.U, Pt.locs, Pt.cells, Pt.slots] at X77 l77 y77 z77 st77 hQ77
        subst l77 y77 z77
        obtain ⟨rfl, Nq77, Kp77, t77, kb77, cd77, Nn77, vs77, gt77, st_77, A77, Vl77, Cd77, V77, Co77⟩ := hQ77
        have N77 := Fr.app N73 Nq77
        have O77 := Old.keep O74 Kp77 (allS ge74 all0)
        have Z77 : n0 ≤ T77.heap.size := Nat.le_trans Z74 Kp77.1
        have K77 : Keep h0 T77.heap [] := Keep.trans K74 Kp77 (allS (Or.inr sz74) all0)
        have Wd77 := Wd74.keep Kp77 (allS G74 all0)
        have SS77 : own_S Z T77.heap b74 [c0, c1] := ⟨t77, kb77, cd77, Nn77, vs77, A77, Vl77, Cd77, V77, Co77⟩
        refine own_csR [(.ref b74)] 69 st77 ?_
        have htk : own_tk n c0 c1 c2 = [c0, c1] := (by unfold own_tk; rw [if_neg c51, if_neg c60, if_pos c68])
        exact own_retRW X77 hx hrt (hb hby dq6_69) rfl rfl hlk (by decide) (by decide) rfl Wd77 (⟨b74, rfl, N77, K77, ge74, sz74, by rw [htk]; exact SS77⟩)
      ·
        refine own_d2 70 (fun _ q => XS.icmpYes X0.here hx rfl (pc0 := 42) (pc' := 70) rfl (hb hby dq6_42) rfl (feq c68).2 (by decide) (by decide) q) ?_
        refine own_tp (.int (3 : Int32)) 71 (fun _ q => XS.iconst X0.here hx rfl (hb hby dq6_70) q) ?_
        obtain ⟨T78, h78, k78, X78, e78, E78, A78, st78⟩ := newP X0 hx hZ (own_w hw 14 rfl) e0 (g := (mkF m 71 #[.val (.int c0), .val (.int c1), .val (.int c2), .val (.int n), .unset] [(.int (3 : Int32))])) rfl (hb hby dq6_71) rfl (by decide) (cap := 3) (by decide) (by decide) (by decide) (by decide)
        obtain ⟨b78, g78⟩ : ∃ z, z = h0.size := ⟨_, rfl⟩
        rw [← g78] at A78 st78
        have V78 : Arv Z h78 b78 k78 .char (3 : Int32) [(.int (0 : Int32)), (.int (0 : Int32)), (.int (0 : Int32))] (.int (0 : Int32)) := (Arv.new A78 (by decide)).pad (pad_rep [] (.int (0 : Int32)) 3)
        have ge78 : n0 ≤ b78 := Nat.le_trans Z0 (Nat.le_of_eq g78.symm)
        have sz78 : h0.size ≤ b78 := Nat.le_trans (Keep.refl h0 []).1 (Nat.le_of_eq g78.symm)
        have O78 := Old.ext O0 E78
        have K78 : Keep h0 h78 [] := (Keep.refl h0 []).ext E78
        have Z78 : n0 ≤ h78.size := Nat.le_trans Z0 E78.1
        have Wd78 := Wd0.ext E78
        refine own_t1 (.ref b78) 73 st78 ?_
        refine own_ls #[.val (.int c0), .val (.int c1), .val (.int c2), .val (.int n), .val (.ref b78)] 75 (fun _ q => XS.astore X78.here hx rfl (hb hby dq6_73) rfl rfl (l' := #[.val (.int c0), .val (.int c1), .val (.int c2), .val (.int n), .val (.ref b78)]) rfl q) ?_
        refine own_tp (.ref b78) 77 (fun _ q => XS.aload X78.here hx rfl (hb hby dq6_75) rfl rfl q) ?_
        refine own_tp (.int (0 : Int32)) 78 (fun _ q => XS.iconst X78.here hx rfl (hb hby dq6_77) q) ?_
        refine own_tp (.int c0) 79 (fun _ q => XS.iloadN X78.here hx rfl (hb hby dq6_78) rfl q) ?_
        obtain ⟨cl79, Ar79, q79, S79, Nn79, H79, G79⟩ := (id V78)
        have hin79 : ¬ ((0 : Int32) < 0 ∨ cl79.slots.size ≤ ((0 : Int32)).toNatClampNeg) := inb_of S79 ⟨by decide, by decide⟩
        obtain ⟨T80, h80, X80, e80, W80, st80⟩ := stC X78 hx hZ e78 Ar79 (j := (0 : Int32)) hin79 (g := (mkF m 79 #[.val (.int c0), .val (.int c1), .val (.int c2), .val (.int n), .val (.ref b78)] [(.int c0), (.int (0 : Int32)), (.ref b78)])) rfl rfl (hb hby dq6_79)
        have V80 := Arv.set Ar79 q79 S79 Nn79 H79 G79 (fits_nar_char _) W80 0 rfl (Nat.le_of_ble_eq_true rfl)
        have N80 := Fr.snoc X80 N0 ge78
        have O80 := Old.wr O78 W80 ge78
        have K80 : Keep h0 h80 [] := K78.wr W80 (Or.inr sz78)
        have Z80 : n0 ≤ h80.size := Nat.le_trans Z78 (Nat.le_of_eq W80.size.symm)
        have Wd80 := Wd78.wr W80 (own_safeV hZ.alike V78 (by simp))
        have V80' : Arv Z h80 b78 k78 .char (3 : Int32) [(.int c0), (.int (0 : Int32)), (.int (0 : Int32))] (.int (0 : Int32)) := by have q := V80; first | (rw [own_narc hc0] at q; exact q) | (rw [own_i2c hc0] at q; exact q)
        refine own_cs [] 80 st80 ?_
        refine own_tp (.ref b78) 82 (fun _ q => XS.aload X80.here hx rfl (hb hby dq6_80) rfl rfl q) ?_
        refine own_tp (.int (1 : Int32)) 83 (fun _ q => XS.iconst X80.here hx rfl (hb hby dq6_82) q) ?_
        refine own_tp (.int c1) 84 (fun _ q => XS.iloadN X80.here hx rfl (hb hby dq6_83) rfl q) ?_
        obtain ⟨cl81, Ar81, q81, S81, Nn81, H81, G81⟩ := (id V80')
        have hin81 : ¬ ((1 : Int32) < 0 ∨ cl81.slots.size ≤ ((1 : Int32)).toNatClampNeg) := inb_of S81 ⟨by decide, by decide⟩
        obtain ⟨T82, h82, X82, e82, W82, st82⟩ := stC X80 hx hZ e80 Ar81 (j := (1 : Int32)) hin81 (g := (mkF m 84 #[.val (.int c0), .val (.int c1), .val (.int c2), .val (.int n), .val (.ref b78)] [(.int c1), (.int (1 : Int32)), (.ref b78)])) rfl rfl (hb hby dq6_84)
        have V82 := Arv.set Ar81 q81 S81 Nn81 H81 G81 (fits_nar_char _) W82 1 rfl (Nat.le_of_ble_eq_true rfl)
        have N82 := Fr.snoc X82 N80 ge78
        have O82 := Old.wr O80 W82 ge78
        have K82 : Keep h0 h82 [] := K80.wr W82 (Or.inr sz78)
        have Z82 : n0 ≤ h82.size := Nat.le_trans Z80 (Nat.le_of_eq W82.size.symm)
        have Wd82 := Wd80.wr W82 (own_safeV hZ.alike V80' (by simp))
        have V82' : Arv Z h82 b78 k78 .char (3 : Int32) [(.int c0), (.int c1), (.int (0 : Int32))] (.int (0 : Int32)) := by have q := V82; first | (rw [own_narc hc1] at q; exact q) | (rw [own_i2c hc1] at q; exact q)
        refine own_cs [] 85 st82 ?_
        refine own_tp (.ref b78) 87 (fun _ q => XS.aload X82.here hx rfl (hb hby dq6_85) rfl rfl q) ?_
        refine own_tp (.int (2 : Int32)) 88 (fun _ q => XS.iconst X82.here hx rfl (hb hby dq6_87) q) ?_
        refine own_tp (.int c2) 89 (fun _ q => XS.iloadN X82.here hx rfl (hb hby dq6_88) rfl q) ?_
        obtain ⟨cl83, Ar83, q83, S83, Nn83, H83, G83⟩ := (id V82')
        have hin83 : ¬ ((2 : Int32) < 0 ∨ cl83.slots.size ≤ ((2 : Int32)).toNatClampNeg) := inb_of S83 ⟨by decide, by decide⟩
        obtain ⟨T84, h84, X84, e84, W84, st84⟩ := stC X82 hx hZ e82 Ar83 (j := (2 : Int32)) hin83 (g := (mkF m 89 #[.val (.int c0), .val (.int c1), .val (.int c2), .val (.int n), .val (.ref b78)] [(.int c2), (.int (2 : Int32)), (.ref b78)])) rfl rfl (hb hby dq6_89)
        have V84 := Arv.set Ar83 q83 S83 Nn83 H83 G83 (fits_nar_char _) W84 2 rfl (Nat.le_of_ble_eq_true rfl)
        have N84 := Fr.snoc X84 N82 ge78
        have O84 := Old.wr O82 W84 ge78
        have K84 : Keep h0 h84 [] := K82.wr W84 (Or.inr sz78)
        have Z84 : n0 ≤ h84.size := Nat.le_trans Z82 (Nat.le_of_eq W84.size.symm)
        have Wd84 := Wd82.wr W84 (own_safeV hZ.alike V82' (by simp))
        have V84' : Arv Z h84 b78 k78 .char (3 : Int32) [(.int c0), (.int c1), (.int c2)] (.int (0 : Int32)) := by have q := V84; first | (rw [own_narc hc2] at q; exact q) | (rw [own_i2c hc2] at q; exact q)
        refine own_cs [] 90 st84 ?_
        obtain ⟨T85, h85, X85, e85, E85, A85, D85, -, st85⟩ := newO X84 hx hZ hown (own_w hw 11 rfl) (own_w hw 12 rfl) (own_w hw 13 rfl) e84 (g := (mkF m 90 #[.val (.int c0), .val (.int c1), .val (.int c2), .val (.int n), .val (.ref b78)] [])) rfl (hb hby dq6_90) (by decide) (by decide)
        obtain ⟨b85, g85⟩ : ∃ z, z = h84.size := ⟨_, rfl⟩
        rw [← g85] at A85 D85 st85
        have ge85 : n0 ≤ b85 := Nat.le_trans Z84 (Nat.le_of_eq g85.symm)
        have sz85 : h0.size ≤ b85 := Nat.le_trans K84.1 (Nat.le_of_eq g85.symm)
        have ne86 : b78 ≠ b85 := Nat.ne_of_lt (Nat.lt_of_lt_of_le V84'.lt (Nat.le_of_eq g85.symm))
        have O85 := Old.ext O84 E85
        have K85 : Keep h0 h85 [] := K84.ext E85
        have Z85 : n0 ≤ h85.size := Nat.le_trans Z84 E85.1
        have Wd85 := Wd84.ext E85
        have G85 : Safe Z own_EL s.vm h85 b85 := Safe.ext E85 Wd84.chv (Safe.new (Nat.le_of_eq g85.symm))
        have Fvalue_85 : Fld Z h85 b85 "java/lang/String" "value" "[B" .null := D85 (Or.inr (own_w hw 27 rfl)) (ty := (.array .byte)) (by decide)
        have Fcoder_85 : Fld Z h85 b85 "java/lang/String" "coder" "B" (.int (0 : Int32)) := D85 (Or.inr (own_w hw 28 rfl)) (ty := .byte) (by decide)
        refine own_tp (.ref b85) 93 st85 ?_
        refine own_tp (.ref b85) 94 (fun _ q => XS.dup X85.here hx rfl (hb hby dq6_93) rfl rfl q) ?_
        refine own_tp (.ref b78) 96 (fun _ q => XS.aload X85.here hx rfl (hb hby dq6_94) rfl rfl q) ?_
        obtain ⟨Lz87, Xz87, Nz87⟩ : ∃ Lz, Stand p l e own_R_6_6_16_92 (s.setVm s.vm) m #[(.int c0), (.int c1), (.int c2), (.int n)] below meth c T85 Lz 2 7 ∧ Fr n0 Lz := ⟨_, X85, N84⟩
        have f88 := (V84'.ext E85)
        obtain ⟨_, _, ⟨T89, L89, k89, n89⟩, -, X89, ⟨Lc89, hQ89, l89, y89, z89⟩, st89⟩ := Xz87.specialBack hx (y := (⟨"java/lang/String", "<init>", "([C)V"⟩ : MethodName)) rfl hown (mvT hZ (own_w hw 15 rfl)) (mvT hZ (own_w hw 16 rfl)) (mvT hZ (own_w hw 17 rfl)) (by decide) (backOf (W := 1) (rm128 l Z a0 hw [] b85 b78 k78 c0 c1 c2 _ _ h85 n0 Z85 ge85 (Ne.symm ne86) hc0 hc1 hc2 f88 A85 Fvalue_85 Fcoder_85 G1 US O85) hZ (own_w hw 17 rfl) (own_w hw 13 rfl) (by decide) (by decide)) (g := (mkF m 96 #[.val (.int c0), .val (.int c1), .val (.int c2), .val (.int n), .val (.ref b78)] [(.ref b78), (.ref b85), (.ref b85)])) rfl (by rw [hml]; rfl) (Steps.refl _) (a := b85) (argsL := [(.ref b78)]) (rest := [(.ref b85)]) (lenOf pd18 rfl) rfl (by show 2 * 0 + _ ≤ _; exact Nat.le_of_eq rfl) (hb hby dq6_96) (fun _ _ => ⟨rfl, e85, (by decide : 2 + 2 ≤ _), (by decide : 7 + 9 ≤ _)⟩)
        dsimp only [Pt.U, Pt.locs, Pt.cells, Pt.slots] at X89 l89 y89 z89 st89 hQ89
        subst l89 y89 z89
        obtain ⟨rfl, Nq89, Kp89, t89, kb89, cd89, Nn89, vs89, gt89, st_89, A89, Vl89, Cd89, V89, Co89⟩ := hQ89
        have N89 := Fr.app Nz87 Nq89
        have O89 := Old.keep O85 Kp89 (allS ge85 all0)
        have Z89 : n0 ≤ T89.heap.size := Nat.le_trans Z85 Kp89.1
        have K89 : Keep h0 T89.heap [] := Keep.trans K85 Kp89 (allS (Or.inr sz85) all0)
        have Wd89 := Wd85.keep Kp89 (allS G85 all0)
        have SS89 : own_S Z T89.heap b85 [c0, c1, c2] := ⟨t89, kb89, cd89, Nn89, vs89, A89, Vl89, Cd89, V89, Co89⟩
        refine own_csR [(.ref b85)] 99 st89 ?_
        have htk : own_tk n c0 c1 c2 = [c0, c1, c2] := (by unfold own_tk; rw [if_neg c51, if_neg c60, if_neg c68])
        exact own_retRW X89 hx hrt (hb hby dq6_99) rfl rfl hlk (by decide) (by decide) rfl Wd89 (⟨b85, rfl, N89, K89, ge85, sz85, by rw [htk]; exact SS89⟩)

set_option maxRecDepth 65536 in
set_option maxHeartbeats 40000000 in
theorem rm0 (l : Launch) (Z : State) (a0 : Array Value) (hw : ∀ d ∈ tables_1, d.before a0 Z = true) (ws : List Jvm.Cond) (q0 q1 : Int64) (h0 : Heap) (n0 : Nat) (hE : EW Z a0 own_EL) (Z0 : n0 ≤ h0.size) (G1 : Int32) (US : own_US Z G1) (O0 : Old Z n0 h0) (G3 : Value) (rG3 : G3.isRef = true) (Sf : Sta Z Z.heap "jdk/internal/util/Preconditions" "SIOOBE_FORMATTER" "Ljava/util/function/BiFunction;" G3) :
    own_MetW own_EL l x code maxLocals ret ws room_1 Z #[(.long q0), (.long q1)] h0 (Q0 h0 n0) := by
  refine own_enterW #[.val (.long q0), .second, .val (.long q1), .second, .unset, .unset, .unset, .unset, .unset, .unset, .unset, .unset, .unset, .unset, .unset, .unset] (plainFor_of_name pn_com_example_cited_experts_citedexperts_Utf8OrderComparePinLaw) (fun m => ef_JJ_maxLocals m q0 q1) hE ?_
  intro p e s m below meth c s₁ hx hby hml hown hnm hZ hrt hlk X0 e0 Wd0
  have N0 := Fr.nil n0
  have wS := own_wS hw
  refine own_tp (.long q0) 1 (fun _ q => XS.lloadN X0.here hx rfl (hb hby at_0) rfl q) ?_
  refine own_tp (.int (54 : Int32)) 3 (fun _ q => XS.bipush X0.here hx rfl (hb hby at_1) q) ?_
  refine own_t2 (.long ((q0.toUInt64 >>> ((54 : Int32) &&& 0x3f).toInt64.toUInt64).toInt64)) 4 (fun _ q => XS.lushr X0.here hx rfl (hb hby at_3) rfl q) ?_
  let L_51 : Array Slot := #[.val (.long q0), .second, .val (.long q1), .second, .unset, .unset, .unset, .unset, .unset, .unset, .unset, .unset, .unset, .unset, .unset, .unset]
  refine own_tp (.long (3 : Int64)) 7 (fun _ q => X0.ldc2Long hx hown (mvT hZ (own_w hw 0 rfl)) (g := (mkF m 4 L_51 [(.long ((q0.toUInt64 >>> ((54 : Int32) &&& 0x3f).toInt64.toUInt64).toInt64))])) rfl (hb hby at_4) _ q) ?_
  refine own_t2 (.long (((q0.toUInt64 >>> ((54 : Int32) &&& 0x3f).toInt64.toUInt64).toInt64) &&& (3 : Int64))) 8 (fun _ q => XS.land X0.here hx rfl (hb hby at_7) rfl q) ?_
  refine own_t1 (.int ((((q0.toUInt64 >>> ((54 : Int32) &&& 0x3f).toInt64.toUInt64).toInt64) &&& (3 : Int64)).toInt32)) 9 (fun _ q => XS.l2i X0.here hx rfl (hb hby at_8) rfl q) ?_
  obtain ⟨na, ena⟩ : ∃ z : Int32, ((((q0.toUInt64 >>> ((54 : Int32) &&& 0x3f).toInt64.toUInt64).toInt64) &&& (3 : Int64)).toInt32) = z := ⟨_, rfl⟩
  rw [ena]
  let L_52 : Array Slot := #[.val (.long q0), .second, .val (.long q1), .second, .val (.int na), .unset, .unset, .unset, .unset, .unset, .unset, .unset, .unset, .unset, .unset, .unset]
  refine own_ls L_52 11 (fun _ q => XS.istore X0.here hx rfl (hb hby at_9) rfl (l' := L_52) rfl q) ?_
  refine own_tp (.long q1) 12 (fun _ q => XS.lloadN X0.here hx rfl (hb hby at_11) rfl q) ?_
  refine own_tp (.int (54 : Int32)) 14 (fun _ q => XS.bipush X0.here hx rfl (hb hby at_12) q) ?_
  refine own_t2 (.long ((q1.toUInt64 >>> ((54 : Int32) &&& 0x3f).toInt64.toUInt64).toInt64)) 15 (fun _ q => XS.lushr X0.here hx rfl (hb hby at_14) rfl q) ?_
  refine own_tp (.long (3 : Int64)) 18 (fun _ q => X0.ldc2Long hx hown (mvT hZ (own_w hw 0 rfl)) (g := (mkF m 15 L_52 [(.long ((q1.toUInt64 >>> ((54 : Int32) &&& 0x3f).toInt64.toUInt64).toInt64))])) rfl (hb hby at_15) _ q) ?_
  refine own_t2 (.long (((q1.toUInt64 >>> ((54 : Int32) &&& 0x3f).toInt64.toUInt64).toInt64) &&& (3 : Int64))) 19 (fun _ q => XS.land X0.here hx rfl (hb hby at_18) rfl q) ?_
  refine own_t1 (.int ((((q1.toUInt64 >>> ((54 : Int32) &&& 0x3f).toInt64.toUInt64).toInt64) &&& (3 : Int64)).toInt32)) 20 (fun _ q => XS.l2i X0.here hx rfl (hb hby at_19) rfl q) ?_
  obtain ⟨nb, enb⟩ : ∃ z : Int32, ((((q1.toUInt64 >>> ((54 : Int32) &&& 0x3f).toInt64.toUInt64).toInt64) &&& (3 : Int64)).toInt32) = z := ⟨_, rfl⟩
  rw [enb]
  let L_53 : Array Slot := #[.val (.long q0), .second, .val (.long q1), .second, .val (.int na), .val (.int nb), .unset, .unset, .unset, .unset, .unset, .unset, .unset, .unset, .unset, .unset]
  refine own_ls L_53 22 (fun _ q => XS.istore X0.here hx rfl (hb hby at_20) rfl (l' := L_53) rfl q) ?_
  refine own_tp (.long q0) 23 (fun _ q => XS.lloadN X0.here hx rfl (hb hby at_22) rfl q) ?_
  obtain ⟨_, _, ⟨T54, L54, k54, n54⟩, -, X54, ⟨Lc54, hQ54, l54, y54, z54⟩, st54⟩ := Jvm.LawKit.callS X0 hx (y := (⟨"com/example/cited_experts/citedexperts/Utf8OrderComparePinLaw", "pick", "(J)C"⟩ : MethodName)) hown (mvT hZ (own_w hw 1 rfl)) (mvT hZ (own_w hw 2 rfl)) (mvT hZ (own_w hw 3 rfl)) (mvT hZ (own_w hw 4 rfl)) (by decide) (backOf (W := 0) (rm1 l Z a0 hw [] q0 h0 n0) hZ (own_w hw 4 rfl) (own_w hw 3 rfl) (by decide) (by decide)) (g := (mkF m 23 L_53 [(.long q0)])) rfl (by rw [hml]; rfl) (argsL := [(.long q0)]) (rest := []) (lenOf pd19 rfl) rfl (by show 2 * 0 + _ ≤ _; exact Nat.le_of_eq rfl) (hb hby at_23) (fun _ _ => ⟨rfl, e0, (by decide : 0 + 0 ≤ _), (by decide : 0 + 0 ≤ _)⟩)
  dsimp only [Pt.U, Pt.locs, Pt.cells, Pt.slots] at X54 l54 y54 z54 st54 hQ54
  subst l54 y54 z54
  obtain ⟨cc54, rfl, hc54, Nq54, eq54⟩ := hQ54
  have N54 := Fr.app N0 Nq54
  refine own_t1 (.int cc54) 26 st54 ?_
  let L_55 : Array Slot := #[.val (.long q0), .second, .val (.long q1), .second, .val (.int na), .val (.int nb), .val (.int cc54), .unset, .unset, .unset, .unset, .unset, .unset, .unset, .unset, .unset]
  refine own_ls L_55 28 (fun _ q => XS.istore X54.here hx rfl (hb hby at_26) rfl (l' := L_55) rfl q) ?_
  refine own_tp (.long q0) 29 (fun _ q => XS.lloadN X54.here hx rfl (hb hby at_28) rfl q) ?_
  refine own_tp (.int (18 : Int32)) 31 (fun _ q => XS.bipush X54.here hx rfl (hb hby at_29) q) ?_
  refine own_t2 (.long ((q0.toUInt64 >>> ((18 : Int32) &&& 0x3f).toInt64.toUInt64).toInt64)) 32 (fun _ q => XS.lushr X54.here hx rfl (hb hby at_31) rfl q) ?_
  obtain ⟨_, _, ⟨T56, L56, k56, n56⟩, -, X56, ⟨Lc56, hQ56, l56, y56, z56⟩, st56⟩ := Jvm.LawKit.callS X54 hx (y := (⟨"com/example/cited_experts/citedexperts/Utf8OrderComparePinLaw", "pick", "(J)C"⟩ : MethodName)) hown (mvT hZ (own_w hw 1 rfl)) (mvT hZ (own_w hw 2 rfl)) (mvT hZ (own_w hw 3 rfl)) (mvT hZ (own_w hw 4 rfl)) (by decide) (backOf (W := 0) (rm1 l Z a0 hw [] ((q0.toUInt64 >>> ((18 : Int32) &&& 0x3f).toInt64.toUInt64).toInt64) h0 n0) hZ (own_w hw 4 rfl) (own_w hw 3 rfl) (by decide) (by decide)) (g := (mkF m 32 L_55 [(.long ((q0.toUInt64 >>> ((18 : Int32) &&& 0x3f).toInt64.toUInt64).toInt64))])) rfl (by rw [hml]; rfl) (argsL := [(.long ((q0.toUInt64 >>> ((18 : Int32) &&& 0x3f).toInt64.toUInt64).toInt64))]) (rest := []) (lenOf pd19 rfl) rfl (by show 2 * 0 + _ ≤ _; exact Nat.le_of_eq rfl) (hb hby at_32) (fun _ _ => ⟨rfl, eq54, (by decide : 0 + 0 ≤ _), (by decide : 0 + 0 ≤ _)⟩)
  dsimp only [Pt.U, Pt.locs, Pt.cells, Pt.slots] at X56 l56 y56 z56 st56 hQ56
  subst l56 y56 z56
  obtain ⟨cc56, rfl, hc56, Nq56, eq56⟩ := hQ56
  have N56 := Fr.app N54 Nq56
  refine own_t1 (.int cc56) 35 st56 ?_
  let L_57 : Array Slot := #[.val (.long q0), .second, .val (.long q1), .second, .val (.int na), .val (.int nb), .val (.int cc54), .val (.int cc56), .unset, .unset, .unset, .unset, .unset, .unset, .unset, .unset]
  refine own_ls L_57 37 (fun _ q => XS.istore X56.here hx rfl (hb hby at_35) rfl (l' := L_57) rfl q) ?_
  refine own_tp (.long q0) 38 (fun _ q => XS.lloadN X56.here hx rfl (hb hby at_37) rfl q) ?_
  refine own_tp (.int (36 : Int32)) 40 (fun _ q => XS.bipush X56.here hx rfl (hb hby at_38) q) ?_
  refine own_t2 (.long ((q0.toUInt64 >>> ((36 : Int32) &&& 0x3f).toInt64.toUInt64).toInt64)) 41 (fun _ q => XS.lushr X56.here hx rfl (hb hby at_40) rfl q) ?_
  obtain ⟨_, _, ⟨T58, L58, k58, n58⟩, -, X58, ⟨Lc58, hQ58, l58, y58, z58⟩, st58⟩ := Jvm.LawKit.callS X56 hx (y := (⟨"com/example/cited_experts/citedexperts/Utf8OrderComparePinLaw", "pick", "(J)C"⟩ : MethodName)) hown (mvT hZ (own_w hw 1 rfl)) (mvT hZ (own_w hw 2 rfl)) (mvT hZ (own_w hw 3 rfl)) (mvT hZ (own_w hw 4 rfl)) (by decide) (backOf (W := 0) (rm1 l Z a0 hw [] ((q0.toUInt64 >>> ((36 : Int32) &&& 0x3f).toInt64.toUInt64).toInt64) h0 n0) hZ (own_w hw 4 rfl) (own_w hw 3 rfl) (by decide) (by decide)) (g := (mkF m 41 L_57 [(.long ((q0.toUInt64 >>> ((36 : Int32) &&& 0x3f).toInt64.toUInt64).toInt64))])) rfl (by rw [hml]; rfl) (argsL := [(.long ((q0.toUInt64 >>> ((36 : Int32) &&& 0x3f).toInt64.toUInt64).toInt64))]) (rest := []) (lenOf pd19 rfl) rfl (by show 2 * 0 + _ ≤ _; exact Nat.le_of_eq rfl) (hb hby at_41) (fun _ _ => ⟨rfl, eq56, (by decide : 0 + 0 ≤ _), (by decide : 0 + 0 ≤ _)⟩)
  dsimp only [Pt.U, Pt.locs, Pt.cells, Pt.slots] at X58 l58 y58 z58 st58 hQ58
  subst l58 y58 z58
  obtain ⟨cc58, rfl, hc58, Nq58, eq58⟩ := hQ58
  have N58 := Fr.app N56 Nq58
  refine own_t1 (.int cc58) 44 st58 ?_
  let L_59 : Array Slot := #[.val (.long q0), .second, .val (.long q1), .second, .val (.int na), .val (.int nb), .val (.int cc54), .val (.int cc56), .val (.int cc58), .unset, .unset, .unset, .unset, .unset, .unset, .unset]
  refine own_ls L_59 46 (fun _ q => XS.istore X58.here hx rfl (hb hby at_44) rfl (l' := L_59) rfl q) ?_
  have kj60 : ∀ (Tj60 : State) (lj60 : List Loc) (z60 : Int32), Stand p l e room_1 (s.setVm s.vm) m #[(.long q0), (.long q1)] below meth c Tj60 lj60 0 0 → Fr n0 lj60 → Tj60.heap = h0 → (0 ≤ z60.toInt ∧ z60.toInt ≤ 65535) → own_Goes p e below (own_FW Z own_EL s h0 (Q0 h0 n0) room_1.cells room_1.slots) (Tj60.setTop (mkF m 66 #[.val (.long q0), .second, .val (.long q1), .second, .val (.int na), .val (.int nb), .val (.int cc54), .val (.int cc56), .val (.int cc58), .unset, .unset, .unset, .unset, .unset, .unset, .unset] [(.int z60)])) := by
    intro Tj60 lj60 z60 Xj60 Nj60 ej60 hz60
    let L_61 : Array Slot := #[.val (.long q0), .second, .val (.long q1), .second, .val (.int na), .val (.int nb), .val (.int cc54), .val (.int cc56), .val (.int cc58), .val (.int z60), .unset, .unset, .unset, .unset, .unset, .unset]
    refine own_ls L_61 68 (fun _ q => XS.istore Xj60.here hx rfl (hb hby at_66) rfl (l' := L_61) rfl q) ?_
    have kj62 : ∀ (Tj62 : State) (lj62 : List Loc) (z62 : Int32), Stand p l e room_1 (s.setVm s.vm) m #[(.long q0), (.long q1)] below meth c Tj62 lj62 0 0 → Fr n0 lj62 → Tj62.heap = h0 → (0 ≤ z62.toInt ∧ z62.toInt ≤ 65535) → own_Goes p e below (own_FW Z own_EL s h0 (Q0 h0 n0) room_1.cells room_1.slots) (Tj62.setTop (mkF m 91 #[.val (.long q0), .second, .val (.long q1), .second, .val (.int na), .val (.int nb), .val (.int cc54), .val (.int cc56), .val (.int cc58), .val (.int z60), .unset, .unset, .unset, .unset, .unset, .unset] [(.int z62)])) := by
      intro Tj62 lj62 z62 Xj62 Nj62 ej62 hz62
      let L_63 : Array Slot := #[.val (.long q0), .second, .val (.long q1), .second, .val (.int na), .val (.int nb), .val (.int cc54), .val (.int cc56), .val (.int cc58), .val (.int z60), .val (.int z62), .unset, .unset, .unset, .unset, .unset]
      refine own_ls L_63 93 (fun _ q => XS.istore Xj62.here hx rfl (hb hby at_91) rfl (l' := L_63) rfl q) ?_
      have kj64 : ∀ (Tj64 : State) (lj64 : List Loc) (z64 : Int32), Stand p l e room_1 (s.setVm s.vm) m #[(.long q0), (.long q1)] below meth c Tj64 lj64 0 0 → Fr n0 lj64 → Tj64.heap = h0 → (0 ≤ z64.toInt ∧ z64.toInt ≤ 65535) → own_Goes p e below (own_FW Z own_EL s h0 (Q0 h0 n0) room_1.cells room_1.slots) (Tj64.setTop (mkF m 116 #[.val (.long q0), .second, .val (.long q1), .second, .val (.int na), .val (.int nb), .val (.int cc54), .val (.int cc56), .val (.int cc58), .val (.int z60), .val (.int z62), .unset, .unset, .unset, .unset, .unset] [(.int z64)])) := by
        intro Tj64 lj64 z64 Xj64 Nj64 ej64 hz64
        let L_65 : Array Slot := #[.val (.long q0), .second, .val (.long q1), .second, .val (.int na), .val (.int nb), .val (.int cc54), .val (.int cc56), .val (.int cc58), .val (.int z60), .val (.int z62), .val (.int z64), .unset, .unset, .unset, .unset]
        refine own_ls L_65 118 (fun _ q => XS.istore Xj64.here hx rfl (hb hby at_116) rfl (l' := L_65) rfl q) ?_
        refine own_tp (.int cc54) 120 (fun _ q => XS.iload Xj64.here hx rfl (hb hby at_118) rfl q) ?_
        refine own_tp (.int cc56) 122 (fun _ q => XS.iload Xj64.here hx rfl (hb hby at_120) rfl q) ?_
        refine own_tp (.int cc58) 124 (fun _ q => XS.iload Xj64.here hx rfl (hb hby at_122) rfl q) ?_
        refine own_tp (.int na) 126 (fun _ q => XS.iload Xj64.here hx rfl (hb hby at_124) rfl q) ?_
        obtain ⟨_, _, ⟨T66, L66, k66, n66⟩, -, X66, hS66, -, ⟨Lc66, hQ66, l66, y66, z66, Ch66⟩, st66⟩ := callSS Xj64 hx (y := (⟨"com/example/cited_experts/citedexperts/Utf8OrderComparePinLaw", "str", "(CCCI)Ljava/lang/String;"⟩ : MethodName)) hown (mvT hZ (own_w hw 8 rfl)) (mvT hZ (own_w hw 9 rfl)) (mvT hZ (own_w hw 3 rfl)) (mvT hZ (own_w hw 10 rfl)) (by decide) (backOfSH (W := 0) (rm35 l Z a0 hw [] cc54 cc56 cc58 na h0 n0 hE Z0 hc54 hc56 hc58 G1 US O0) hZ (own_w hw 10 rfl) (own_w hw 3 rfl) (by decide) (by decide) Wd0.hE Wd0.chv) (g := (mkF m 126 L_65 [(.int na), (.int cc58), (.int cc56), (.int cc54)])) rfl (by rw [hml]; rfl) (argsL := [(.int cc54), (.int cc56), (.int cc58), (.int na)]) (rest := []) (lenOf pd20 rfl) rfl (by show 2 * 0 + _ ≤ _; exact Nat.le_of_eq rfl) (hb hby at_126) (fun _ _ => ⟨rfl, ej64, (by decide : 0 + 6 ≤ _), (by decide : 0 + 16 ≤ _)⟩)
        dsimp only [Pt.U, Pt.locs, Pt.cells, Pt.slots] at X66 l66 y66 z66 st66 hQ66 hS66 Ch66
        subst l66 y66 z66
        have Wd66 := own_Wd.call Wd0 hS66 Ch66
        have hZ66 : Z.Warmed39 (s.setVm T66.vm).vm := Wd66.hZ
        have hown66 : (s.setVm T66.vm).vm.findClass "com/example/cited_experts/citedexperts/Utf8OrderComparePinLaw" = some m.cls := own_since_own hS66 hown
        have Y66 : Stand p l e room_1 (s.setVm T66.vm) m #[(.long q0), (.long q1)] below meth c T66 _ _ _ := X66
        obtain ⟨sq66, rfl, Nq66, Kp66, ge66, sz66, SS66⟩ := hQ66
        have N66 := Fr.app Nj64 Nq66
        have O66 := Old.keep O0 Kp66 all0
        have Z66 : n0 ≤ T66.heap.size := Nat.le_trans Z0 Kp66.1
        refine own_csR [(.ref sq66)] 129 st66 ?_
        let L_67 : Array Slot := #[.val (.long q0), .second, .val (.long q1), .second, .val (.int na), .val (.int nb), .val (.int cc54), .val (.int cc56), .val (.int cc58), .val (.int z60), .val (.int z62), .val (.int z64), .val (.ref sq66), .unset, .unset, .unset]
        refine own_ls L_67 131 (fun _ q => XS.astore Y66.here hx rfl (hb hby at_129) rfl rfl (l' := L_67) rfl q) ?_
        refine own_tp (.int z60) 133 (fun _ q => XS.iload Y66.here hx rfl (hb hby at_131) rfl q) ?_
        refine own_tp (.int z62) 135 (fun _ q => XS.iload Y66.here hx rfl (hb hby at_133) rfl q) ?_
        refine own_tp (.int z64) 137 (fun _ q => XS.iload Y66.here hx rfl (hb hby at_135) rfl q) ?_
        refine own_tp (.int nb) 139 (fun _ q => XS.iload Y66.here hx rfl (hb hby at_137) rfl q) ?_
        obtain ⟨_, _, ⟨T68, L68, k68, n68⟩, -, X68, hS68, -, ⟨Lc68, hQ68, l68, y68, z68, Ch68⟩, st68⟩ := callSS Y66 hx (y := (⟨"com/example/cited_experts/citedexperts/Utf8OrderComparePinLaw", "str", "(CCCI)Ljava/lang/String;"⟩ : MethodName)) hown66 (mvT hZ66 (own_w hw 8 rfl)) (mvT hZ66 (own_w hw 9 rfl)) (mvT hZ66 (own_w hw 3 rfl)) (mvT hZ66 (own_w hw 10 rfl)) (by decide) (backOfSH (W := 0) (rm35 l Z a0 hw [] z60 z62 z64 nb T66.heap n0 hE Z66 hz60 hz62 hz64 G1 US O66) hZ66 (own_w hw 10 rfl) (own_w hw 3 rfl) (by decide) (by decide) Wd66.hE Wd66.chv) (g := (mkF m 139 L_67 [(.int nb), (.int z64), (.int z62), (.int z60)])) rfl (by rw [hml]; rfl) (argsL := [(.int z60), (.int z62), (.int z64), (.int nb)]) (rest := []) (lenOf pd20 rfl) rfl (by show 2 * 0 + _ ≤ _; exact Nat.le_of_eq rfl) (hb hby at_139) (fun _ _ => ⟨rfl, rfl, (by decide : 6 + 6 ≤ _), (by decide : 16 + 16 ≤ _)⟩)
        dsimp only [Pt.U, Pt.locs, Pt.cells, Pt.slots] at X68 l68 y68 z68 st68 hQ68 hS68 Ch68
        subst l68 y68 z68
        have Wd68 := own_Wd.call Wd66 hS68 Ch68
        have hZ68 : Z.Warmed39 (s.setVm T68.vm).vm := Wd68.hZ
        have hown68 : (s.setVm T68.vm).vm.findClass "com/example/cited_experts/citedexperts/Utf8OrderComparePinLaw" = some m.cls := own_since_own hS68 hown66
        have Y68 : Stand p l e room_1 (s.setVm T68.vm) m #[(.long q0), (.long q1)] below meth c T68 _ _ _ := X68
        obtain ⟨sq68, rfl, Nq68, Kp68, ge68, sz68, SS68⟩ := hQ68
        have N68 := Fr.app N66 Nq68
        have O68 := Old.keep O66 Kp68 all0
        have Z68 : n0 ≤ T68.heap.size := Nat.le_trans Z66 Kp68.1
        refine own_csR [(.ref sq68)] 142 st68 ?_
        let L_69 : Array Slot := #[.val (.long q0), .second, .val (.long q1), .second, .val (.int na), .val (.int nb), .val (.int cc54), .val (.int cc56), .val (.int cc58), .val (.int z60), .val (.int z62), .val (.int z64), .val (.ref sq66), .val (.ref sq68), .unset, .unset]
        refine own_ls L_69 144 (fun _ q => XS.astore Y68.here hx rfl (hb hby at_142) rfl rfl (l' := L_69) rfl q) ?_
        refine own_tp (.ref sq66) 146 (fun _ q => XS.aload Y68.here hx rfl (hb hby at_144) rfl rfl q) ?_
        refine own_tp (.ref sq68) 148 (fun _ q => XS.aload Y68.here hx rfl (hb hby at_146) rfl rfl q) ?_
        have f70 := (own_S.keep0 SS66 Kp68)
        obtain ⟨_, _, ⟨T71, L71, k71, n71⟩, -, X71, ⟨Lc71, hQ71, l71, y71, z71⟩, st71⟩ := Jvm.LawKit.callS Y68 hx (y := (⟨"com/example/cited_experts/citedexperts/Utf8Order", "compare", "(Ljava/lang/String;Ljava/lang/String;)I"⟩ : MethodName)) hown68 (mvT hZ68 (own_w hw 33 rfl)) (mvT hZ68 (own_w hw 34 rfl)) (mvT hZ68 (own_w hw 35 rfl)) (mvT hZ68 (own_w hw 36 rfl)) (by decide) (backOf (W := 0) (rm32 l Z a0 hw [] sq66 sq68 (own_tk na cc54 cc56 cc58) (own_tk nb z60 z62 z64) T68.heap n0 (Nat.le_trans (own_tklen _ _ _ _) (by decide)) (own_tkB hc54 hc56 hc58) (Nat.le_trans (own_tklen _ _ _ _) (by decide)) (own_tkB hz60 hz62 hz64) G1 US O68 G3 rG3 Sf f70 SS68) hZ68 (own_w hw 36 rfl) (own_w hw 35 rfl) (by decide) (by decide)) (g := (mkF m 148 L_69 [(.ref sq68), (.ref sq66)])) rfl (by rw [hml]; rfl) (argsL := [(.ref sq66), (.ref sq68)]) (rest := []) (lenOf pd21 rfl) rfl (by show 2 * 0 + _ ≤ _; exact Nat.le_of_eq rfl) (hb hby at_148) (fun _ _ => ⟨rfl, rfl, (by decide : 12 + 0 ≤ _), (by decide : 32 + 0 ≤ _)⟩)
        dsimp only [Pt.U, Pt.locs, Pt.cells, Pt.slots] at X71 l71 y71 z71 st71 hQ71
        subst l71 y71 z71
        obtain ⟨rfl, Nq71, eq71⟩ := hQ71
        have N71 := Fr.app N68 Nq71
        refine own_t2 (.int (own_lx (own_P (own_tk na cc54 cc56 cc58)) (own_P (own_tk nb z60 z62 z64)))) 151 st71 ?_
        let L_72 : Array Slot := #[.val (.long q0), .second, .val (.long q1), .second, .val (.int na), .val (.int nb), .val (.int cc54), .val (.int cc56), .val (.int cc58), .val (.int z60), .val (.int z62), .val (.int z64), .val (.ref sq66), .val (.ref sq68), .val (.int (own_lx (own_P (own_tk na cc54 cc56 cc58)) (own_P (own_tk nb z60 z62 z64)))), .unset]
        refine own_ls L_72 153 (fun _ q => XS.istore X71.here hx rfl (hb hby at_151) rfl (l' := L_72) rfl q) ?_
        refine own_tp (.int cc54) 155 (fun _ q => XS.iload X71.here hx rfl (hb hby at_153) rfl q) ?_
        refine own_tp (.int cc56) 157 (fun _ q => XS.iload X71.here hx rfl (hb hby at_155) rfl q) ?_
        refine own_tp (.int cc58) 159 (fun _ q => XS.iload X71.here hx rfl (hb hby at_157) rfl q) ?_
        refine own_tp (.int na) 161 (fun _ q => XS.iload X71.here hx rfl (hb hby at_159) rfl q) ?_
        obtain ⟨_, _, ⟨T73, L73, k73, n73⟩, -, X73, ⟨Lc73, hQ73, l73, y73, z73⟩, st73⟩ := Jvm.LawKit.callS X71 hx (y := (⟨"com/example/cited_experts/citedexperts/Utf8OrderComparePinLaw", "points", "(CCCI)[I"⟩ : MethodName)) hown68 (mvT hZ68 (own_w hw 52 rfl)) (mvT hZ68 (own_w hw 53 rfl)) (mvT hZ68 (own_w hw 3 rfl)) (mvT hZ68 (own_w hw 54 rfl)) (by decide) (backOf (W := 0) (rm13 l Z a0 hw [] cc54 cc56 cc58 na T68.heap n0 Z68) hZ68 (own_w hw 54 rfl) (own_w hw 3 rfl) (by decide) (by decide)) (g := (mkF m 161 L_72 [(.int na), (.int cc58), (.int cc56), (.int cc54)])) rfl (by rw [hml]; rfl) (argsL := [(.int cc54), (.int cc56), (.int cc58), (.int na)]) (rest := []) (lenOf pd22 rfl) rfl (by show 2 * 0 + _ ≤ _; exact Nat.le_of_eq rfl) (hb hby at_161) (fun _ _ => ⟨rfl, eq71, (by decide : 12 + 1 ≤ _), (by decide : 32 + 4 ≤ _)⟩)
        dsimp only [Pt.U, Pt.locs, Pt.cells, Pt.slots] at X73 l73 y73 z73 st73 hQ73
        subst l73 y73 z73
        obtain ⟨pt73, kp73, rfl, Nq73, Kp73, ge73, sz73, V73⟩ := hQ73
        have N73 := Fr.app N71 Nq73
        have O73 := Old.keep O68 Kp73 all0
        have Z73 : n0 ≤ T73.heap.size := Nat.le_trans Z68 Kp73.1
        have Wd73 := Wd68.keep Kp73 all0
        refine own_cs [(.ref pt73)] 164 st73 ?_
        refine own_tp (.int z60) 166 (fun _ q => XS.iload X73.here hx rfl (hb hby at_164) rfl q) ?_
        refine own_tp (.int z62) 168 (fun _ q => XS.iload X73.here hx rfl (hb hby at_166) rfl q) ?_
        refine own_tp (.int z64) 170 (fun _ q => XS.iload X73.here hx rfl (hb hby at_168) rfl q) ?_
        refine own_tp (.int nb) 172 (fun _ q => XS.iload X73.here hx rfl (hb hby at_170) rfl q) ?_
        obtain ⟨_, _, ⟨T74, L74, k74, n74⟩, -, X74, ⟨Lc74, hQ74, l74, y74, z74⟩, st74⟩ := Jvm.LawKit.callS X73 hx (y := (⟨"com/example/cited_experts/citedexperts/Utf8OrderComparePinLaw", "points", "(CCCI)[I"⟩ : MethodName)) hown68 (mvT hZ68 (own_w hw 52 rfl)) (mvT hZ68 (own_w hw 53 rfl)) (mvT hZ68 (own_w hw 3 rfl)) (mvT hZ68 (own_w hw 54 rfl)) (by decide) (backOf (W := 1) (rm13 l Z a0 hw [] z60 z62 z64 nb T73.heap n0 Z73) hZ68 (own_w hw 54 rfl) (own_w hw 3 rfl) (by decide) (by decide)) (g := (mkF m 172 L_72 [(.int nb), (.int z64), (.int z62), (.int z60), (.ref pt73)])) rfl (by rw [hml]; rfl) (argsL := [(.int z60), (.int z62), (.int z64), (.int nb)]) (rest := [(.ref pt73)]) (lenOf pd22 rfl) rfl (by show 2 * 0 + _ ≤ _; exact Nat.le_of_eq rfl) (hb hby at_172) (fun _ _ => ⟨rfl, rfl, (by decide : 13 + 1 ≤ _), (by decide : 36 + 4 ≤ _)⟩)
        dsimp only [Pt.U, Pt.locs, Pt.cells, Pt.slots] at X74 l74 y74 z74 st74 hQ74
        subst l74 y74 z74
        obtain ⟨pt74, kp74, rfl, Nq74, Kp74, ge74, sz74, V74⟩ := hQ74
        have ne75 : pt73 ≠ pt74 := Nat.ne_of_lt (Nat.lt_of_lt_of_le V73.lt sz74)
        have N74 := Fr.app N73 Nq74
        have O74 := Old.keep O73 Kp74 all0
        have Z74 : n0 ≤ T74.heap.size := Nat.le_trans Z73 Kp74.1
        have Wd74 := Wd73.keep Kp74 all0
        refine own_cs [(.ref pt74), (.ref pt73)] 175 st74 ?_
        have f76 := (V73.keep Kp74 nin0)
        obtain ⟨_, _, ⟨T77, L77, k77, n77⟩, -, X77, ⟨Lc77, hQ77, l77, y77, z77⟩, st77⟩ := Jvm.LawKit.callS X74 hx (y := (⟨"com/example/cited_experts/citedexperts/Utf8OrderComparePinLaw", "lex", "([I[I)I"⟩ : MethodName)) hown68 (mvT hZ68 (own_w hw 56 rfl)) (mvT hZ68 (own_w hw 57 rfl)) (mvT hZ68 (own_w hw 3 rfl)) (mvT hZ68 (own_w hw 58 rfl)) (by decide) (backOf (W := 0) (rm12 l Z a0 hw [] pt73 pt74 kp73 kp74 (own_pn (own_tk na cc54 cc56 cc58)) (own_pe (own_tk na cc54 cc56 cc58) 0) (own_pe (own_tk na cc54 cc56 cc58) 1) (own_pe (own_tk na cc54 cc56 cc58) 2) (own_pn (own_tk nb z60 z62 z64)) (own_pe (own_tk nb z60 z62 z64) 0) (own_pe (own_tk nb z60 z62 z64) 1) (own_pe (own_tk nb z60 z62 z64) 2) T74.heap n0 f76 V74) hZ68 (own_w hw 58 rfl) (own_w hw 3 rfl) (by decide) (by decide)) (g := (mkF m 175 L_72 [(.ref pt74), (.ref pt73)])) rfl (by rw [hml]; rfl) (argsL := [(.ref pt73), (.ref pt74)]) (rest := []) (lenOf pd23 rfl) rfl (by show 2 * 0 + _ ≤ _; exact Nat.le_of_eq rfl) (hb hby at_175) (fun _ _ => ⟨rfl, rfl, (by decide : 14 + 0 ≤ _), (by decide : 40 + 0 ≤ _)⟩)
        dsimp only [Pt.U, Pt.locs, Pt.cells, Pt.slots] at X77 l77 y77 z77 st77 hQ77
        subst l77 y77 z77
        obtain ⟨rfl, Nq77, eq77⟩ := hQ77
        have N77 := Fr.app N74 Nq77
        refine own_t2 (.int (own_lex (own_pn (own_tk na cc54 cc56 cc58)) (own_pe (own_tk na cc54 cc56 cc58) 0) (own_pe (own_tk na cc54 cc56 cc58) 1) (own_pe (own_tk na cc54 cc56 cc58) 2) (own_pn (own_tk nb z60 z62 z64)) (own_pe (own_tk nb z60 z62 z64) 0) (own_pe (own_tk nb z60 z62 z64) 1) (own_pe (own_tk nb z60 z62 z64) 2))) 178 st77 ?_
        let L_78 : Array Slot := #[.val (.long q0), .second, .val (.long q1), .second, .val (.int na), .val (.int nb), .val (.int cc54), .val (.int cc56), .val (.int cc58), .val (.int z60), .val (.int z62), .val (.int z64), .val (.ref sq66), .val (.ref sq68), .val (.int (own_lx (own_P (own_tk na cc54 cc56 cc58)) (own_P (own_tk nb z60 z62 z64)))), .val (.int (own_lex (own_pn (own_tk na cc54 cc56 cc58)) (own_pe (own_tk na cc54 cc56 cc58) 0) (own_pe (own_tk na cc54 cc56 cc58) 1) (own_pe (own_tk na cc54 cc56 cc58) 2) (own_pn (own_tk nb z60 z62 z64)) (own_pe (own_tk nb z60 z62 z64) 0) (own_pe (own_tk nb z60 z62 z64) 1) (own_pe (own_tk nb z60 z62 z64) 2)))]
        refine own_ls L_78 180 (fun _ q => XS.istore X77.here hx rfl (hb hby at_178) rfl (l' := L_78) rfl q) ?_
        refine own_tp (.int (own_lx (own_P (own_tk na cc54 cc56 cc58)) (own_P (own_tk nb z60 z62 z64)))) 182 (fun _ q => XS.iload X77.here hx rfl (hb hby at_180) rfl q) ?_
        obtain ⟨_, _, ⟨T79, L79, k79, n79⟩, -, X79, ⟨Lc79, hQ79, l79, y79, z79⟩, st79⟩ := Jvm.LawKit.callS X77 hx (y := (⟨"com/example/cited_experts/citedexperts/Utf8OrderComparePinLaw", "sign", "(I)I"⟩ : MethodName)) hown68 (mvT hZ68 (own_w hw 63 rfl)) (mvT hZ68 (own_w hw 64 rfl)) (mvT hZ68 (own_w hw 3 rfl)) (mvT hZ68 (own_w hw 65 rfl)) (by decide) (backOf (W := 0) (rm5 l Z a0 hw [] (own_lx (own_P (own_tk na cc54 cc56 cc58)) (own_P (own_tk nb z60 z62 z64))) T74.heap n0 ) hZ68 (own_w hw 65 rfl) (own_w hw 3 rfl) (by decide) (by decide)) (g := (mkF m 182 L_78 [(.int (own_lx (own_P (own_tk na cc54 cc56 cc58)) (own_P (own_tk nb z60 z62 z64))))])) rfl (by rw [hml]; rfl) (argsL := [(.int (own_lx (own_P (own_tk na cc54 cc56 cc58)) (own_P (own_tk nb z60 z62 z64))))]) (rest := []) (lenOf pd11 rfl) rfl (by show 2 * 0 + _ ≤ _; exact Nat.le_of_eq rfl) (hb hby at_182) (fun _ _ => ⟨rfl, eq77, (by decide : 14 + 0 ≤ _), (by decide : 40 + 0 ≤ _)⟩)
        dsimp only [Pt.U, Pt.locs, Pt.cells, Pt.slots] at X79 l79 y79 z79 st79 hQ79
        subst l79 y79 z79
        obtain ⟨rfl, Nq79, eq79⟩ := hQ79
        have N79 := Fr.app N77 Nq79
        refine own_t1 (.int (own_sg (own_lx (own_P (own_tk na cc54 cc56 cc58)) (own_P (own_tk nb z60 z62 z64))))) 185 st79 ?_
        refine own_tp (.int (own_lex (own_pn (own_tk na cc54 cc56 cc58)) (own_pe (own_tk na cc54 cc56 cc58) 0) (own_pe (own_tk na cc54 cc56 cc58) 1) (own_pe (own_tk na cc54 cc56 cc58) 2) (own_pn (own_tk nb z60 z62 z64)) (own_pe (own_tk nb z60 z62 z64) 0) (own_pe (own_tk nb z60 z62 z64) 1) (own_pe (own_tk nb z60 z62 z64) 2))) 187 (fun _ q => XS.iload X79.here hx rfl (hb hby at_185) rfl q) ?_
        refine own_d2 190 (fun _ q => XS.icmpNo X79.here hx rfl (hb hby at_187) rfl (teq (own_law _ _ _ _ _ _ _ _)).2 q) ?_
        refine own_tp (.int (1 : Int32)) 191 (fun _ q => XS.iconst X79.here hx rfl (hb hby at_190) q) ?_
        refine own_d0 195 (fun _ q => XS.goto X79.here hx rfl (pc0 := 191) (pc' := 195) rfl (hb hby at_191) (by decide) (by decide) q) ?_
        exact own_retNW (t := .boolean) X79 hx hrt (hb hby at_195) (by simp) hlk (by decide) (by decide) eq79 Wd74 (⟨rfl, N79⟩)
      refine own_tp (.long q1) 94 (fun _ q => XS.lloadN Xj62.here hx rfl (hb hby at_93) rfl q) ?_
      refine own_tp (.int (58 : Int32)) 96 (fun _ q => XS.bipush Xj62.here hx rfl (hb hby at_94) q) ?_
      refine own_t2 (.long ((q1.toUInt64 >>> ((58 : Int32) &&& 0x3f).toInt64.toUInt64).toInt64)) 97 (fun _ q => XS.lushr Xj62.here hx rfl (hb hby at_96) rfl q) ?_
      refine own_tp (.long (1 : Int64)) 98 (fun _ q => XS.lconst Xj62.here hx rfl (hb hby at_97) q) ?_
      refine own_t2 (.long (((q1.toUInt64 >>> ((58 : Int32) &&& 0x3f).toInt64.toUInt64).toInt64) &&& (1 : Int64))) 99 (fun _ q => XS.land Xj62.here hx rfl (hb hby at_98) rfl q) ?_
      refine own_tp (.long (0 : Int64)) 100 (fun _ q => XS.lconst Xj62.here hx rfl (hb hby at_99) q) ?_
      refine own_t2 (.int (lcmpW (((q1.toUInt64 >>> ((58 : Int32) &&& 0x3f).toInt64.toUInt64).toInt64) &&& (1 : Int64)) (0 : Int64))) 101 (fun _ q => XS.lcmp Xj62.here hx rfl (hb hby at_100) rfl q) ?_
      by_cases c80 : (lcmpW (((q1.toUInt64 >>> ((58 : Int32) &&& 0x3f).toInt64.toUInt64).toInt64) &&& (1 : Int64)) (0 : Int64)) = (0 : Int32)
      ·
        refine own_d1 109 (fun _ q => XS.ifYes Xj62.here hx rfl (pc0 := 101) (pc' := 109) rfl (hb hby at_101) rfl ((if0 _ _).trans (teq c80).1) (by decide) (by decide) q) ?_
        refine own_tp (.long q1) 110 (fun _ q => XS.lloadN Xj62.here hx rfl (hb hby at_109) rfl q) ?_
        refine own_tp (.int (36 : Int32)) 112 (fun _ q => XS.bipush Xj62.here hx rfl (hb hby at_110) q) ?_
        refine own_t2 (.long ((q1.toUInt64 >>> ((36 : Int32) &&& 0x3f).toInt64.toUInt64).toInt64)) 113 (fun _ q => XS.lushr Xj62.here hx rfl (hb hby at_112) rfl q) ?_
        obtain ⟨_, _, ⟨T81, L81, k81, n81⟩, -, X81, ⟨Lc81, hQ81, l81, y81, z81⟩, st81⟩ := Jvm.LawKit.callS Xj62 hx (y := (⟨"com/example/cited_experts/citedexperts/Utf8OrderComparePinLaw", "pick", "(J)C"⟩ : MethodName)) hown (mvT hZ (own_w hw 1 rfl)) (mvT hZ (own_w hw 2 rfl)) (mvT hZ (own_w hw 3 rfl)) (mvT hZ (own_w hw 4 rfl)) (by decide) (backOf (W := 0) (rm1 l Z a0 hw [] ((q1.toUInt64 >>> ((36 : Int32) &&& 0x3f).toInt64.toUInt64).toInt64) h0 n0) hZ (own_w hw 4 rfl) (own_w hw 3 rfl) (by decide) (by decide)) (g := (mkF m 113 L_63 [(.long ((q1.toUInt64 >>> ((36 : Int32) &&& 0x3f).toInt64.toUInt64).toInt64))])) rfl (by rw [hml]; rfl) (argsL := [(.long ((q1.toUInt64 >>> ((36 : Int32) &&& 0x3f).toInt64.toUInt64).toInt64))]) (rest := []) (lenOf pd19 rfl) rfl (by show 2 * 0 + _ ≤ _; exact Nat.le_of_eq rfl) (hb hby at_113) (fun _ _ => ⟨rfl, ej62, (by decide : 0 + 0 ≤ _), (by decide : 0 + 0 ≤ _)⟩)
        dsimp only [Pt.U, Pt.locs, Pt.cells, Pt.slots] at X81 l81 y81 z81 st81 hQ81
        subst l81 y81 z81
        obtain ⟨cc81, rfl, hc81, Nq81, eq81⟩ := hQ81
        have N81 := Fr.app Nj62 Nq81
        refine own_t1 (.int cc81) 116 st81 ?_
        exact kj64 T81 _ cc81 X81 N81 eq81 (hc81)
      ·
        refine own_d1 104 (fun _ q => XS.ifNo Xj62.here hx rfl (hb hby at_101) rfl ((if0 _ _).trans (feq c80).1) q) ?_
        refine own_tp (.int cc58) 106 (fun _ q => XS.iload Xj62.here hx rfl (hb hby at_104) rfl q) ?_
        refine own_d0 116 (fun _ q => XS.goto Xj62.here hx rfl (pc0 := 106) (pc' := 116) rfl (hb hby at_106) (by decide) (by decide) q) ?_
        exact kj64 Tj62 _ cc58 Xj62 Nj62 ej62 (hc58)
    refine own_tp (.long q1) 69 (fun _ q => XS.lloadN Xj60.here hx rfl (hb hby at_68) rfl q) ?_
    refine own_tp (.int (57 : Int32)) 71 (fun _ q => XS.bipush Xj60.here hx rfl (hb hby at_69) q) ?_
    refine own_t2 (.long ((q1.toUInt64 >>> ((57 : Int32) &&& 0x3f).toInt64.toUInt64).toInt64)) 72 (fun _ q => XS.lushr Xj60.here hx rfl (hb hby at_71) rfl q) ?_
    refine own_tp (.long (1 : Int64)) 73 (fun _ q => XS.lconst Xj60.here hx rfl (hb hby at_72) q) ?_
    refine own_t2 (.long (((q1.toUInt64 >>> ((57 : Int32) &&& 0x3f).toInt64.toUInt64).toInt64) &&& (1 : Int64))) 74 (fun _ q => XS.land Xj60.here hx rfl (hb hby at_73) rfl q) ?_
    refine own_tp (.long (0 : Int64)) 75 (fun _ q => XS.lconst Xj60.here hx rfl (hb hby at_74) q) ?_
    refine own_t2 (.int (lcmpW (((q1.toUInt64 >>> ((57 : Int32) &&& 0x3f).toInt64.toUInt64).toInt64) &&& (1 : Int64)) (0 : Int64))) 76 (fun _ q => XS.lcmp Xj60.here hx rfl (hb hby at_75) rfl q) ?_
    by_cases c82 : (lcmpW (((q1.toUInt64 >>> ((57 : Int32) &&& 0x3f).toInt64.toUInt64).toInt64) &&& (1 : Int64)) (0 : Int64)) = (0 : Int32)
    ·
      refine own_d1 84 (fun _ q => XS.ifYes Xj60.here hx rfl (pc0 := 76) (pc' := 84) rfl (hb hby at_76) rfl ((if0 _ _).trans (teq c82).1) (by decide) (by decide) q) ?_
      refine own_tp (.long q1) 85 (fun _ q => XS.lloadN Xj60.here hx rfl (hb hby at_84) rfl q) ?_
      refine own_tp (.int (18 : Int32)) 87 (fun _ q => XS.bipush Xj60.here hx rfl (hb hby at_85) q) ?_
      refine own_t2 (.long ((q1.toUInt64 >>> ((18 : Int32) &&& 0x3f).toInt64.toUInt64).toInt64)) 88 (fun _ q => XS.lushr Xj60.here hx rfl (hb hby at_87) rfl q) ?_
      obtain ⟨_, _, ⟨T83, L83, k83, n83⟩, -, X83, ⟨Lc83, hQ83, l83, y83, z83⟩, st83⟩ := Jvm.LawKit.callS Xj60 hx (y := (⟨"com/example/cited_experts/citedexperts/Utf8OrderComparePinLaw", "pick", "(J)C"⟩ : MethodName)) hown (mvT hZ (own_w hw 1 rfl)) (mvT hZ (own_w hw 2 rfl)) (mvT hZ (own_w hw 3 rfl)) (mvT hZ (own_w hw 4 rfl)) (by decide) (backOf (W := 0) (rm1 l Z a0 hw [] ((q1.toUInt64 >>> ((18 : Int32) &&& 0x3f).toInt64.toUInt64).toInt64) h0 n0) hZ (own_w hw 4 rfl) (own_w hw 3 rfl) (by decide) (by decide)) (g := (mkF m 88 L_61 [(.long ((q1.toUInt64 >>> ((18 : Int32) &&& 0x3f).toInt64.toUInt64).toInt64))])) rfl (by rw [hml]; rfl) (argsL := [(.long ((q1.toUInt64 >>> ((18 : Int32) &&& 0x3f).toInt64.toUInt64).toInt64))]) (rest := []) (lenOf pd19 rfl) rfl (by show 2 * 0 + _ ≤ _; exact Nat.le_of_eq rfl) (hb hby at_88) (fun _ _ => ⟨rfl, ej60, (by decide : 0 + 0 ≤ _), (by decide : 0 + 0 ≤ _)⟩)
      dsimp only [Pt.U, Pt.locs, Pt.cells, Pt.slots] at X83 l83 y83 z83 st83 hQ83
      subst l83 y83 z83
      obtain ⟨cc83, rfl, hc83, Nq83, eq83⟩ := hQ83
      have N83 := Fr.app Nj60 Nq83
      refine own_t1 (.int cc83) 91 st83 ?_
      exact kj62 T83 _ cc83 X83 N83 eq83 (hc83)
    ·
      refine own_d1 79 (fun _ q => XS.ifNo Xj60.here hx rfl (hb hby at_76) rfl ((if0 _ _).trans (feq c82).1) q) ?_
      refine own_tp (.int cc56) 81 (fun _ q => XS.iload Xj60.here hx rfl (hb hby at_79) rfl q) ?_
      refine own_d0 91 (fun _ q => XS.goto Xj60.here hx rfl (pc0 := 81) (pc' := 91) rfl (hb hby at_81) (by decide) (by decide) q) ?_
      exact kj62 Tj60 _ cc56 Xj60 Nj60 ej60 (hc56)
  refine own_tp (.long q1) 47 (fun _ q => XS.lloadN X58.here hx rfl (hb hby at_46) rfl q) ?_
  refine own_tp (.int (56 : Int32)) 49 (fun _ q => XS.bipush X58.here hx rfl (hb hby at_47) q) ?_
  refine own_t2 (.long ((q1.toUInt64 >>> ((56 : Int32) &&& 0x3f).toInt64.toUInt64).toInt64)) 50 (fun _ q => XS.lushr X58.here hx rfl (hb hby at_49) rfl q) ?_
  refine own_tp (.long (1 : Int64)) 51 (fun _ q => XS.lconst X58.here hx rfl (hb hby at_50) q) ?_
  refine own_t2 (.long (((q1.toUInt64 >>> ((56 : Int32) &&& 0x3f).toInt64.toUInt64).toInt64) &&& (1 : Int64))) 52 (fun _ q => XS.land X58.here hx rfl (hb hby at_51) rfl q) ?_
  refine own_tp (.long (0 : Int64)) 53 (fun _ q => XS.lconst X58.here hx rfl (hb hby at_52) q) ?_
  refine own_t2 (.int (lcmpW (((q1.toUInt64 >>> ((56 : Int32) &&& 0x3f).toInt64.toUInt64).toInt64) &&& (1 : Int64)) (0 : Int64))) 54 (fun _ q => XS.lcmp X58.here hx rfl (hb hby at_53) rfl q) ?_
  by_cases c84 : (lcmpW (((q1.toUInt64 >>> ((56 : Int32) &&& 0x3f).toInt64.toUInt64).toInt64) &&& (1 : Int64)) (0 : Int64)) = (0 : Int32)
  ·
    refine own_d1 62 (fun _ q => XS.ifYes X58.here hx rfl (pc0 := 54) (pc' := 62) rfl (hb hby at_54) rfl ((if0 _ _).trans (teq c84).1) (by decide) (by decide) q) ?_
    refine own_tp (.long q1) 63 (fun _ q => XS.lloadN X58.here hx rfl (hb hby at_62) rfl q) ?_
    obtain ⟨_, _, ⟨T85, L85, k85, n85⟩, -, X85, ⟨Lc85, hQ85, l85, y85, z85⟩, st85⟩ := Jvm.LawKit.callS X58 hx (y := (⟨"com/example/cited_experts/citedexperts/Utf8OrderComparePinLaw", "pick", "(J)C"⟩ : MethodName)) hown (mvT hZ (own_w hw 1 rfl)) (mvT hZ (own_w hw 2 rfl)) (mvT hZ (own_w hw 3 rfl)) (mvT hZ (own_w hw 4 rfl)) (by decide) (backOf (W := 0) (rm1 l Z a0 hw [] q1 h0 n0) hZ (own_w hw 4 rfl) (own_w hw 3 rfl) (by decide) (by decide)) (g := (mkF m 63 L_59 [(.long q1)])) rfl (by rw [hml]; rfl) (argsL := [(.long q1)]) (rest := []) (lenOf pd19 rfl) rfl (by show 2 * 0 + _ ≤ _; exact Nat.le_of_eq rfl) (hb hby at_63) (fun _ _ => ⟨rfl, eq58, (by decide : 0 + 0 ≤ _), (by decide : 0 + 0 ≤ _)⟩)
    dsimp only [Pt.U, Pt.locs, Pt.cells, Pt.slots] at X85 l85 y85 z85 st85 hQ85
    subst l85 y85 z85
    obtain ⟨cc85, rfl, hc85, Nq85, eq85⟩ := hQ85
    have N85 := Fr.app N58 Nq85
    refine own_t1 (.int cc85) 66 st85 ?_
    exact kj60 T85 _ cc85 X85 N85 eq85 (hc85)
  ·
    refine own_d1 57 (fun _ q => XS.ifNo X58.here hx rfl (hb hby at_54) rfl ((if0 _ _).trans (feq c84).1) q) ?_
    refine own_tp (.int cc54) 59 (fun _ q => XS.iload X58.here hx rfl (hb hby at_57) rfl q) ?_
    refine own_d0 66 (fun _ q => XS.goto X58.here hx rfl (pc0 := 59) (pc' := 66) rfl (hb hby at_59) (by decide) (by decide) q) ?_
    exact kj60 T58 _ cc54 X58 N58 eq58 (hc54)

set_option maxRecDepth 65536 in
set_option maxHeartbeats 40000000 in
theorem comes_1 {Post : Tables → Env → Array Value → State → Outcome → State → Prop} (hpost : ∀ tb e args s v u, (limb_1_1.after args s (.returned v) u = true ∧ limb_1_2.after args s (.returned v) u = true ∧ True) → ReturnedEndW s (.returned v) u (Jvm.fieldLocs frame_1_writes args s ++ Jvm.arrayLocs frame_1_arrays args s ++ Jvm.staticLocs frame_1_statics s) 32 1216 → Post tb e args s (.returned v) u) :
    ArmFor flags0 classFile x code maxLocals ret World_1 tables_1 room_1 Calls_1 rest_1 Pre_1 Post := by
  intro l hfl _ _ p e ha hc hk s m args below hf hA hF happ hP
  obtain ⟨hcalls, hrest, hpre⟩ := hP
  obtain ⟨-, -, -, hnamed, -, -, -, hat⟩ := (Spec.applies_iff hf).mp happ
  obtain ⟨hg, hn⟩ := and_e (Cond.before_iff.mp (show (Jvm.Cond.and given_1 narrow_1).before args s = true from hpre))
  obtain ⟨hcount, hg0⟩ := and_e hg
  obtain ⟨hv0, hg1⟩ := and_e hg0
  obtain ⟨w0, w1, rfl⟩ : ∃ w0 w1 : Value, args = #[w0, w1] := by
    have hs : args.size = 2 := by simpa [Cond.value, given_1] using hcount
    obtain ⟨L⟩ := args
    match L, hs with
    | [w0, w1], _ => exact ⟨w0, w1, rfl⟩
  have hw := fun d (hd : d ∈ tables_1) => atoms_spec (ws := Jvm.Cond.code x code maxLocals ret :: tables_1) hat d (List.mem_cons_of_mem _ hd)
  have hfit : Fit s := fun {y c} hc i hi => by
    obtain ⟨ha, rfl⟩ := Array.getElem?_eq_some_iff.mp hc
    have q := List.all_eq_true.mp ((Array.all_eq_true_iff_forall_mem.mp hF) _ (Array.getElem_mem ha)) i (List.mem_range.mpr hi)
    simpa [Array.getElem?_eq_getElem hi] using q
  obtain ⟨i0, ei0⟩ := isL_v hv0
  obtain rfl : w0 = (.long i0) := Option.some.inj ei0
  obtain ⟨i1, ei1⟩ := isL_v hg1
  obtain rfl : w1 = (.long i1) := Option.some.inj ei1
  obtain ⟨hsets, hown0⟩ := atoms_of _ (rest_1_c_eq ▸ (show rest_1_c.before _ s = true from hrest))
  obtain ⟨G1, eG1⟩ := is_v (Cond.before_iff.mp (hsets _ (List.mem_of_getElem? (i := 1) rfl)))
  have Sc : Sta s s.heap "java/lang/String" "COMPACT_STRINGS" "Z" (.int G1) := Sta.start eG1 (Or.inl (hsets _ (List.mem_of_getElem? (i := 0) rfl)))
  have P5 : ¬ (G1 = (0 : Int32)) := gotF (Cond.eq_ints eG1 (Term.int_eval (0))) (not_v (Cond.before_iff.mp (hsets _ (List.mem_of_getElem? (i := 2) rfl))))
  have hE : EW s _ own_EL := EW.cons (own_w hw 25 rfl) (by decide) (EW.nil)
  have hC : CHv s own_EL s.vm s.heap := CHv.start hE (fun p hp => by first | exact hcalls.1 p hp | exact hcalls.1 p ((by decide +kernel : ∀ p ∈ own_EL, p ∈ consts_1) p hp)) (hsets _ (List.mem_of_getElem? (i := 2) rfl)) (own_w hw 26 rfl) (own_w hw 12 rfl)
  have S12 : Sta s s.heap "java/lang/StringUTF16" "$assertionsDisabled" "Z" (.int (1 : Int32)) := own_stI (hsets _ (List.mem_of_getElem? (i := 12) rfl)) (hsets _ (List.mem_of_getElem? (i := 11) rfl))
  have S15 : Sta s s.heap "java/lang/StringUTF16" "HI_BYTE_SHIFT" "I" (.int (0 : Int32)) := own_stI (hsets _ (List.mem_of_getElem? (i := 15) rfl)) (hsets _ (List.mem_of_getElem? (i := 14) rfl))
  have S18 : Sta s s.heap "java/lang/StringUTF16" "LO_BYTE_SHIFT" "I" (.int (8 : Int32)) := own_stI (hsets _ (List.mem_of_getElem? (i := 18) rfl)) (hsets _ (List.mem_of_getElem? (i := 17) rfl))
  have US : own_US s G1 := ⟨P5, Sc, S12, S15, S18⟩
  obtain ⟨G3, eG3, rG3⟩ := isR_v (Cond.before_iff.mp (hsets _ (List.mem_of_getElem? (i := 8) rfl)))
  have Sf : Sta s s.heap "jdk/internal/util/Preconditions" "SIOOBE_FORMATTER" "Ljava/util/function/BiFunction;" G3 := Sta.start eG3 (Or.inl (hsets _ (List.mem_of_getElem? (i := 7) rfl)))
  obtain ⟨n, o, h1, h2, h3, _, L, rfl, ⟨rfl, N⟩, -, hq⟩ := rm0 l s _ hw tables_1 i0 i1 s.heap s.heap.size hE (Nat.le_refl _) G1 US (Old.start s) G3 rG3 Sf p e ha hc hk s m _ below hf ((Spec.applies_iff_loose hf).mp happ).1 ⟨rfl, State.Warmed39.refl s, rfl, hC⟩ trivial
  refine ⟨n, _, h1, h2, h3, hpost _ _ _ _ _ _ ⟨Cond.after_iff.mpr rfl, Cond.after_iff.mpr (eq_i res_at (Term.int_eval (1)) rfl), trivial⟩ ⟨hq.1, hq.2.1, hq.2.2.1, (hq.2.2.2.sift fun y hy => Or.inr (N y hy)).mono (by decide) (by decide)⟩⟩
theorem main_1_1 : Claimed_1_1 := comes_1 fun _ _ _ _ _ _ h hF => ⟨h.1, hF⟩
theorem main_1_2 : Claimed_1_2 := comes_1 fun _ _ _ _ _ _ h hF => ⟨h.2.1, hF⟩
end Jvm.Pilot.@@N@@
namespace Jvm.Pilot.@@N@@
open Jvm Jvm.ClassFile Sem Op Lib Jvm.Free Jvm.Stand Jvm.Pilot.@@N@@.Jvm.D
/-! MADE BY PROGRAM (witnessworld.py) out of the Statement's table words and the real class files: 24 classes; the members and pool entries that the words name. The judged class is class 1, her method 9. -/
namespace start1
open Jvm.ClassFile
def u (s : String) : CpInfo := .utf8 (stringToUtf16 s)
/-- a pool by its gaps: so many unusable entries, then the entry; so many at the end -/
def gap : Nat → List CpInfo → List CpInfo
  | 0, r => r
  | n + 1, r => .unusable :: gap n r
def poolList (es : List (Nat × CpInfo)) (last : Nat) : List CpInfo := es.foldr (fun e r => gap e.1 (e.2 :: r)) (gap last [])
def pool (es : List (Nat × CpInfo)) (last : Nat) : Array CpInfo := ⟨poolList es last⟩
def fileOf (pool : Array CpInfo) (this : Nat) (attrs : Array Attribute := #[]) (ms : Array MethodInfo := #[]) (fl : Nat := 33) (sup : Nat := 0) (ifs : Array Nat := #[]) (fds : Array FieldInfo := #[]) : ClassFile where
  minorVersion := 0
  majorVersion := 65
  constantPool := pool
  accessFlags := fl
  thisClass := this
  superClass := sup
  interfaces := ifs
  fields := fds
  methods := ms
  attributes := attrs
def plain (name : String) (sup : Option ClassId) : Class where
  name := name
  kind := .ordinary
  loader := none
  accessFlags := 33
  super := sup
  interfaces := #[]
  cf := none
  fields := #[]
  methods := #[]
  instanceTypes := #[]
  staticTypes := #[]
  resolved := #[]
  callSites := []
  init := .initialized
  statics := none
  mirror := none

def pool0 : Array CpInfo := pool [(5, u "<init>"), (0, u "()V"), (1, .class_ 10), (1, u "java/lang/Object")] 113

def k0c0 : Code := { maxStack := 0, maxLocals := 1, code := object_method_1_code, exceptionTable := #[], attributes := #[] }
def k0m0 : Method := { name := "<init>", desc := "()V", sig := { parameters := [], returnType := none }, accessFlags := 1, code := some k0c0 }
/-- java/lang/Object -/
def k0 : Class := { plain "java/lang/Object" none with
  accessFlags := 33
  interfaces := #[]
  cf := some (fileOf pool0 8 #[] #[{ accessFlags := 1, nameIndex := 5, descriptorIndex := 6, attributes := #[] }] 33 0 #[] #[])
  fields := #[]
  methods := #[k0m0]
  instanceTypes := #[]
  staticTypes := #[]
  resolved := Array.replicate 124 none
  statics := none }

def pool1 : Array CpInfo := pool [(2, .class_ 4), (1, u "java/lang/Object"), (0, u "<init>"), (0, u "()V"), (0, .long 3), (1, .long 65535), (1, .integer 55296), (0, .integer 56320), (0, .integer 57344), (0, .integer 56319), (0, .integer 57343), (0, .integer 65536), (0, .class_ 18), (0, u "java/lang/String"), (0, .methodref 17 20), (0, .nameAndType 5 21), (0, u "([C)V"), (0, .methodref 23 24), (0, .class_ 25), (0, .nameAndType 26 27), (0, u "com/example/cited_experts/citedexperts/Utf8OrderComparePinLaw"), (0, u "hi"), (0, u "(C)Z"), (0, .methodref 23 29), (0, .nameAndType 30 27), (0, u "lo"), (0, .methodref 23 32), (0, .nameAndType 33 34), (0, u "pair"), (0, u "(CC)I"), (0, .methodref 36 37), (0, .class_ 38), (0, .nameAndType 39 40), (0, u "java/lang/Math"), (0, u "min"), (0, u "(II)I"), (0, .methodref 23 42), (0, .nameAndType 43 44), (0, u "pick"), (0, u "(J)C"), (0, .methodref 23 46), (0, .nameAndType 47 48), (0, u "str"), (0, u "(CCCI)Ljava/lang/String;"), (0, .methodref 50 51), (0, .class_ 52), (0, .nameAndType 53 54), (0, u "com/example/cited_experts/citedexperts/Utf8Order"), (0, u "compare"), (0, u "(Ljava/lang/String;Ljava/lang/String;)I"), (0, .methodref 23 56), (0, .nameAndType 57 58), (0, u "points"), (0, u "(CCCI)[I"), (0, .methodref 23 60), (0, .nameAndType 61 62), (0, u "lex"), (0, u "([I[I)I"), (0, .methodref 23 64), (0, .nameAndType 65 66), (0, u "sign"), (0, u "(I)I"), (5, u "law"), (0, u "(JJ)Z")] 2

def k1m0 : Method := { name := "<init>", desc := "()V", sig := { parameters := [], returnType := none }, accessFlags := 2, code := none }
def k1c1 : Code := { maxStack := 4, maxLocals := 4, code := method_2_code, exceptionTable := #[], attributes := #[] }
def k1m1 : Method := { name := "pick", desc := "(J)C", sig := { parameters := [.long], returnType := some .char }, accessFlags := 10, code := some k1c1 }
def k1c2 : Code := { maxStack := 2, maxLocals := 1, code := method_3_code, exceptionTable := #[], attributes := #[] }
def k1m2 : Method := { name := "hi", desc := "(C)Z", sig := { parameters := [.char], returnType := some .boolean }, accessFlags := 10, code := some k1c2 }
def k1c3 : Code := { maxStack := 2, maxLocals := 1, code := method_4_code, exceptionTable := #[], attributes := #[] }
def k1m3 : Method := { name := "lo", desc := "(C)Z", sig := { parameters := [.char], returnType := some .boolean }, accessFlags := 10, code := some k1c3 }
def k1c4 : Code := { maxStack := 3, maxLocals := 2, code := method_5_code, exceptionTable := #[], attributes := #[] }
def k1m4 : Method := { name := "pair", desc := "(CC)I", sig := { parameters := [.char, .char], returnType := some .int }, accessFlags := 10, code := some k1c4 }
def k1c5 : Code := { maxStack := 3, maxLocals := 5, code := method_6_code, exceptionTable := #[], attributes := #[] }
def k1m5 : Method := { name := "str", desc := "(CCCI)Ljava/lang/String;", sig := { parameters := [.char, .char, .char, .int], returnType := some (.object "java/lang/String") }, accessFlags := 10, code := some k1c5 }
def k1c6 : Code := { maxStack := 4, maxLocals := 5, code := method_7_code, exceptionTable := #[], attributes := #[] }
def k1m6 : Method := { name := "points", desc := "(CCCI)[I", sig := { parameters := [.char, .char, .char, .int], returnType := some (.array .int) }, accessFlags := 10, code := some k1c6 }
def k1c7 : Code := { maxStack := 3, maxLocals := 3, code := method_8_code, exceptionTable := #[], attributes := #[] }
def k1m7 : Method := { name := "lex", desc := "([I[I)I", sig := { parameters := [(.array .int), (.array .int)], returnType := some .int }, accessFlags := 10, code := some k1c7 }
def k1c8 : Code := { maxStack := 1, maxLocals := 1, code := method_9_code, exceptionTable := #[], attributes := #[] }
def k1m8 : Method := { name := "sign", desc := "(I)I", sig := { parameters := [.int], returnType := some .int }, accessFlags := 10, code := some k1c8 }
def k1c9 : Code := { maxStack := 5, maxLocals := 16, code := code, exceptionTable := #[], attributes := #[] }
def k1m9 : Method := { name := "law", desc := "(JJ)Z", sig := { parameters := [.long, .long], returnType := some .boolean }, accessFlags := 9, code := some k1c9 }
/-- com/example/cited_experts/citedexperts/Utf8OrderComparePinLaw -/
def k1 : Class := { plain "com/example/cited_experts/citedexperts/Utf8OrderComparePinLaw" (some 0) with
  accessFlags := 49
  interfaces := #[]
  cf := some (fileOf pool1 23 #[] #[{ accessFlags := 2, nameIndex := 5, descriptorIndex := 6, attributes := #[] }, { accessFlags := 10, nameIndex := 43, descriptorIndex := 44, attributes := #[] }, { accessFlags := 10, nameIndex := 26, descriptorIndex := 27, attributes := #[] }, { accessFlags := 10, nameIndex := 30, descriptorIndex := 27, attributes := #[] }, { accessFlags := 10, nameIndex := 33, descriptorIndex := 34, attributes := #[] }, { accessFlags := 10, nameIndex := 47, descriptorIndex := 48, attributes := #[] }, { accessFlags := 10, nameIndex := 57, descriptorIndex := 58, attributes := #[] }, { accessFlags := 10, nameIndex := 61, descriptorIndex := 62, attributes := #[] }, { accessFlags := 10, nameIndex := 65, descriptorIndex := 66, attributes := #[] }, { accessFlags := 9, nameIndex := 72, descriptorIndex := 73, attributes := #[] }] 49 2 #[] #[])
  fields := #[]
  methods := #[k1m0, k1m1, k1m2, k1m3, k1m4, k1m5, k1m6, k1m7, k1m8, k1m9]
  instanceTypes := #[]
  staticTypes := #[]
  resolved := Array.replicate 76 none
  statics := none }

def pool2 : Array CpInfo := pool [(1, .class_ 2), (0, u "java/io/Serializable"), (0, .class_ 4), (0, u "java/lang/Object")] 2

/-- java/io/Serializable -/
def k2 : Class := { plain "java/io/Serializable" (some 0) with
  accessFlags := 1537
  interfaces := #[]
  cf := some (fileOf pool2 1 #[] #[] 1537 3 #[] #[])
  fields := #[]
  methods := #[]
  instanceTypes := #[]
  staticTypes := #[]
  resolved := Array.replicate 7 none
  statics := none }

def pool3 : Array CpInfo := pool [(1, .class_ 2), (0, u "java/lang/Comparable"), (0, .class_ 4), (0, u "java/lang/Object")] 7

/-- java/lang/Comparable -/
def k3 : Class := { plain "java/lang/Comparable" (some 0) with
  accessFlags := 1537
  interfaces := #[]
  cf := some (fileOf pool3 1 #[] #[] 1537 3 #[] #[])
  fields := #[]
  methods := #[]
  instanceTypes := #[]
  staticTypes := #[]
  resolved := Array.replicate 12 none
  statics := none }

def pool4 : Array CpInfo := pool [(2, .class_ 4), (1, u "java/lang/CharSequence"), (42, .class_ 48), (0, u "java/lang/CharSequence$1CodePointIterator"), (10, .class_ 60), (0, u "java/lang/CharSequence$1CharIterator"), (5, .class_ 67), (0, u "java/lang/Object")] 63

/-- java/lang/CharSequence -/
def k4 : Class := { plain "java/lang/CharSequence" (some 0) with
  accessFlags := 1537
  interfaces := #[]
  cf := some (fileOf pool4 2 #[.nestMembers #[47, 59]] #[] 1537 66 #[] #[])
  fields := #[]
  methods := #[]
  instanceTypes := #[]
  staticTypes := #[]
  resolved := Array.replicate 131 none
  statics := none }

def pool5 : Array CpInfo := pool [(1, .class_ 2), (0, u "java/lang/constant/Constable"), (0, .class_ 4), (0, u "java/lang/Object")] 6

/-- java/lang/constant/Constable -/
def k5 : Class := { plain "java/lang/constant/Constable" (some 0) with
  accessFlags := 1537
  interfaces := #[]
  cf := some (fileOf pool5 1 #[] #[] 1537 3 #[] #[])
  fields := #[]
  methods := #[]
  instanceTypes := #[]
  staticTypes := #[]
  resolved := Array.replicate 11 none
  statics := none }

def pool6 : Array CpInfo := pool [(1, .class_ 2), (0, u "java/lang/constant/ConstantDesc"), (0, .class_ 4), (0, u "java/lang/Object")] 32

/-- java/lang/constant/ConstantDesc -/
def k6 : Class := { plain "java/lang/constant/ConstantDesc" (some 0) with
  accessFlags := 1537
  interfaces := #[]
  cf := some (fileOf pool6 1 #[] #[] 1537 3 #[] #[])
  fields := #[]
  methods := #[]
  instanceTypes := #[]
  staticTypes := #[]
  resolved := Array.replicate 37 none
  statics := none }

def pool7 : Array CpInfo := pool [(1, .methodref 2 3), (0, .class_ 4), (0, .nameAndType 5 6), (0, u "java/lang/Object"), (0, u "<init>"), (0, u "()V"), (0, .string 8), (0, u ""), (0, .fieldref 10 11), (0, .class_ 12), (0, .nameAndType 13 14), (0, u "java/lang/String"), (0, u "value"), (0, u "[B"), (0, .fieldref 10 16), (0, .nameAndType 17 18), (0, u "coder"), (0, u "B"), (2, u "hash"), (0, u "I"), (2, u "hashIsZero"), (0, u "Z"), (0, .methodref 10 28), (0, .nameAndType 5 29), (0, u "([CIILjava/lang/Void;)V"), (8, .fieldref 10 39), (0, .nameAndType 40 26), (0, u "COMPACT_STRINGS"), (1, .class_ 44), (1, u "java/lang/StringUTF16"), (0, u "compress"), (1, .methodref 42 48), (0, .nameAndType 49 50), (0, u "coderFromArrayLen"), (0, u "([BI)B"), (46, u "([BII)I"), (44, u "()Z"), (34, .methodref 42 178), (0, .nameAndType 45 179), (0, u "([CII)[B"), (154, u "()I"), (0, .methodref 10 336), (0, .nameAndType 17 337), (0, u "()B"), (53, u "(II)V"), (100, .methodref 10 493), (0, .nameAndType 494 142), (0, u "isLatin1"), (4, .methodref 10 500), (0, .nameAndType 501 391), (0, u "checkIndex"), (0, .methodref 42 503), (0, .nameAndType 504 97), (0, u "codePointAt"), (2, u "length"), (67, .class_ 576), (0, u "java/lang/CharSequence"), (22, u "CASE_INSENSITIVE_ORDER"), (0, u "Ljava/util/Comparator;"), (164, u "(I)I"), (244, u "([C)V"), (42, .fieldref 1054 1055), (0, .class_ 1056), (0, .nameAndType 1057 1058), (0, u "jdk/internal/util/Preconditions"), (0, u "SIOOBE_FORMATTER"), (0, u "Ljava/util/function/BiFunction;"), (0, .methodref 1054 1060), (0, .nameAndType 501 1061), (0, u "(IILjava/util/function/BiFunction;)I"), (39, u "serialPersistentFields"), (0, u "[Ljava/io/ObjectStreamField;"), (0, .class_ 1104), (0, u "java/lang/String$CaseInsensitiveComparator"), (1, .class_ 1107), (0, u "java/io/Serializable"), (0, .class_ 1109), (0, u "java/lang/Comparable"), (0, .class_ 1111), (0, u "java/lang/constant/Constable"), (0, .class_ 1113), (0, u "java/lang/constant/ConstantDesc"), (2, u "serialVersionUID"), (0, u "J"), (3, u "REPL"), (0, u "C"), (2, u "LATIN1"), (1, u "UTF16")] 323

def k7m0 : Method := { name := "<init>", desc := "()V", sig := { parameters := [], returnType := none }, accessFlags := 1, code := none }
def k7c1 : Code := { maxStack := 5, maxLocals := 2, code := jdk_42_method_3_code, exceptionTable := #[], attributes := #[] }
def k7m1 : Method := { name := "<init>", desc := "([C)V", sig := { parameters := [(.array .char)], returnType := none }, accessFlags := 1, code := some k7c1 }
def k7c2 : Code := { maxStack := 2, maxLocals := 1, code := jdk_42_method_54_code, exceptionTable := #[], attributes := #[] }
def k7m2 : Method := { name := "length", desc := "()I", sig := { parameters := [], returnType := some .int }, accessFlags := 1, code := some k7c2 }
def k7c3 : Code := { maxStack := 3, maxLocals := 3, code := jdk_42_method_57_code, exceptionTable := #[], attributes := #[] }
def k7m3 : Method := { name := "codePointAt", desc := "(I)I", sig := { parameters := [.int], returnType := some .int }, accessFlags := 1, code := some k7c3 }
def k7c4 : Code := { maxStack := 4, maxLocals := 6, code := jdk_42_method_149_code, exceptionTable := #[], attributes := #[] }
def k7m4 : Method := { name := "<init>", desc := "([CIILjava/lang/Void;)V", sig := { parameters := [(.array .char), .int, .int, (.object "java/lang/Void")], returnType := none }, accessFlags := 2, code := some k7c4 }
def k7c5 : Code := { maxStack := 1, maxLocals := 1, code := jdk_42_method_152_code, exceptionTable := #[], attributes := #[] }
def k7m5 : Method := { name := "coder", desc := "()B", sig := { parameters := [], returnType := some .byte }, accessFlags := 0, code := some k7c5 }
def k7c6 : Code := { maxStack := 1, maxLocals := 1, code := jdk_42_method_154_code, exceptionTable := #[], attributes := #[] }
def k7m6 : Method := { name := "isLatin1", desc := "()Z", sig := { parameters := [], returnType := some .boolean }, accessFlags := 0, code := some k7c6 }
def k7c7 : Code := { maxStack := 3, maxLocals := 2, code := jdk_42_method_155_code, exceptionTable := #[], attributes := #[] }
def k7m7 : Method := { name := "checkIndex", desc := "(II)V", sig := { parameters := [.int, .int], returnType := none }, accessFlags := 8, code := some k7c7 }
/-- java/lang/String -/
def k7 : Class := { plain "java/lang/String" (some 0) with
  accessFlags := 49
  interfaces := #[2, 3, 4, 5, 6]
  cf := some (fileOf pool7 10 #[.nestMembers #[1103]] #[{ accessFlags := 1, nameIndex := 5, descriptorIndex := 6, attributes := #[] }, { accessFlags := 1, nameIndex := 5, descriptorIndex := 1010, attributes := #[] }, { accessFlags := 1, nameIndex := 507, descriptorIndex := 334, attributes := #[] }, { accessFlags := 1, nameIndex := 504, descriptorIndex := 765, attributes := #[] }, { accessFlags := 2, nameIndex := 5, descriptorIndex := 29, attributes := #[] }, { accessFlags := 0, nameIndex := 17, descriptorIndex := 337, attributes := #[] }, { accessFlags := 0, nameIndex := 494, descriptorIndex := 142, attributes := #[] }, { accessFlags := 8, nameIndex := 501, descriptorIndex := 391, attributes := #[] }] 49 2 #[1106, 1108, 575, 1110, 1112] #[{ accessFlags := 18, nameIndex := 13, descriptorIndex := 14, attributes := #[] }, { accessFlags := 18, nameIndex := 17, descriptorIndex := 18, attributes := #[] }, { accessFlags := 2, nameIndex := 21, descriptorIndex := 22, attributes := #[] }, { accessFlags := 2, nameIndex := 25, descriptorIndex := 26, attributes := #[] }, { accessFlags := 26, nameIndex := 1116, descriptorIndex := 1117, attributes := #[] }, { accessFlags := 24, nameIndex := 40, descriptorIndex := 26, attributes := #[] }, { accessFlags := 26, nameIndex := 1101, descriptorIndex := 1102, attributes := #[] }, { accessFlags := 26, nameIndex := 1121, descriptorIndex := 1122, attributes := #[] }, { accessFlags := 25, nameIndex := 599, descriptorIndex := 600, attributes := #[] }, { accessFlags := 24, nameIndex := 1125, descriptorIndex := 18, attributes := #[] }, { accessFlags := 24, nameIndex := 1127, descriptorIndex := 18, attributes := #[] }])
  fields := #[{ name := "value", type := (.array .byte), accessFlags := 18, slot := 0, constantValue := 0 }, { name := "coder", type := .byte, accessFlags := 18, slot := 1, constantValue := 0 }, { name := "hash", type := .int, accessFlags := 2, slot := 2, constantValue := 0 }, { name := "hashIsZero", type := .boolean, accessFlags := 2, slot := 3, constantValue := 0 }, { name := "serialVersionUID", type := .long, accessFlags := 26, slot := 0, constantValue := 0 }, { name := "COMPACT_STRINGS", type := .boolean, accessFlags := 24, slot := 1, constantValue := 0 }, { name := "serialPersistentFields", type := (.array (.object "java/io/ObjectStreamField")), accessFlags := 26, slot := 2, constantValue := 0 }, { name := "REPL", type := .char, accessFlags := 26, slot := 3, constantValue := 0 }, { name := "CASE_INSENSITIVE_ORDER", type := (.object "java/util/Comparator"), accessFlags := 25, slot := 4, constantValue := 0 }, { name := "LATIN1", type := .byte, accessFlags := 24, slot := 5, constantValue := 0 }, { name := "UTF16", type := .byte, accessFlags := 24, slot := 6, constantValue := 0 }]
  methods := #[k7m0, k7m1, k7m2, k7m3, k7m4, k7m5, k7m6, k7m7]
  instanceTypes := #[(.array .byte), .byte, .int, .boolean]
  staticTypes := #[.long, .boolean, (.array (.object "java/io/ObjectStreamField")), .char, (.object "java/util/Comparator"), .byte, .byte]
  resolved := Array.replicate 1451 none
  statics := some 0 }

def pool8 : Array CpInfo := pool [(2, .class_ 4), (1, u "java/lang/Object"), (0, u "<init>"), (0, u "()V"), (0, .methodref 8 9), (0, .class_ 10), (0, .nameAndType 11 12), (0, u "java/lang/String"), (0, u "length"), (0, u "()I"), (0, .methodref 8 14), (0, .nameAndType 15 16), (0, u "codePointAt"), (0, u "(I)I"), (0, .methodref 18 19), (0, .class_ 20), (0, .nameAndType 21 22), (0, u "java/lang/Integer"), (0, u "compare"), (0, u "(II)I"), (0, .methodref 24 25), (0, .class_ 26), (0, .nameAndType 27 16), (0, u "java/lang/Character"), (0, u "charCount"), (0, .class_ 29), (0, u "com/example/cited_experts/citedexperts/Utf8Order"), (2, u "(Ljava/lang/String;Ljava/lang/String;)I")] 3

def k8m0 : Method := { name := "<init>", desc := "()V", sig := { parameters := [], returnType := none }, accessFlags := 2, code := none }
def k8c1 : Code := { maxStack := 3, maxLocals := 5, code := prog_25_method_2_code, exceptionTable := #[], attributes := #[] }
def k8m1 : Method := { name := "compare", desc := "(Ljava/lang/String;Ljava/lang/String;)I", sig := { parameters := [(.object "java/lang/String"), (.object "java/lang/String")], returnType := some .int }, accessFlags := 8, code := some k8c1 }
/-- com/example/cited_experts/citedexperts/Utf8Order -/
def k8 : Class := { plain "com/example/cited_experts/citedexperts/Utf8Order" (some 0) with
  accessFlags := 48
  interfaces := #[]
  cf := some (fileOf pool8 28 #[] #[{ accessFlags := 2, nameIndex := 5, descriptorIndex := 6, attributes := #[] }, { accessFlags := 8, nameIndex := 21, descriptorIndex := 32, attributes := #[] }] 48 2 #[] #[])
  fields := #[]
  methods := #[k8m0, k8m1]
  instanceTypes := #[]
  staticTypes := #[]
  resolved := Array.replicate 36 none
  statics := none }

def pool9 : Array CpInfo := pool [(2, .class_ 4), (1, u "java/lang/Object"), (0, u "<init>"), (0, u "()V"), (1, .class_ 10), (1, u "java/lang/Number"), (2, .class_ 14), (0, u "java/io/Serializable"), (0, u "serialVersionUID"), (0, u "J")] 20

def k9m0 : Method := { name := "<init>", desc := "()V", sig := { parameters := [], returnType := none }, accessFlags := 1, code := none }
/-- java/lang/Number -/
def k9 : Class := { plain "java/lang/Number" (some 0) with
  accessFlags := 1057
  interfaces := #[2]
  cf := some (fileOf pool9 8 #[] #[{ accessFlags := 1, nameIndex := 5, descriptorIndex := 6, attributes := #[] }] 1057 2 #[13] #[{ accessFlags := 26, nameIndex := 15, descriptorIndex := 16, attributes := #[] }])
  fields := #[{ name := "serialVersionUID", type := .long, accessFlags := 26, slot := 0, constantValue := 0 }]
  methods := #[k9m0]
  instanceTypes := #[]
  staticTypes := #[.long]
  resolved := Array.replicate 37 none
  statics := none }

def pool10 : Array CpInfo := pool [(1, .class_ 2), (0, u "java/lang/Integer"), (16, u "digits"), (0, u "[C"), (39, u "(II)I"), (24, u "DigitOnes"), (0, u "[B"), (2, u "DigitTens"), (99, .class_ 190), (0, u "java/lang/Integer$IntegerCache"), (3, u "I"), (8, .class_ 204), (0, u "java/lang/Number"), (2, u "value"), (53, u "compare"), (40, u "TYPE"), (0, u "Ljava/lang/Class;"), (0, .class_ 305), (0, u "java/lang/Comparable"), (0, .class_ 307), (0, u "java/lang/constant/Constable"), (0, .class_ 309), (0, u "java/lang/constant/ConstantDesc"), (0, u "MIN_VALUE"), (1, u "MAX_VALUE"), (3, u "SIZE"), (1, u "BYTES"), (1, u "serialVersionUID"), (0, u "J")] 131

def k10c0 : Code := { maxStack := 2, maxLocals := 2, code := jdk_33_method_40_code, exceptionTable := #[], attributes := #[] }
def k10m0 : Method := { name := "compare", desc := "(II)I", sig := { parameters := [.int, .int], returnType := some .int }, accessFlags := 9, code := some k10c0 }
/-- java/lang/Integer -/
def k10 : Class := { plain "java/lang/Integer" (some 9) with
  accessFlags := 49
  interfaces := #[3, 5, 6]
  cf := some (fileOf pool10 1 #[.nestMembers #[189]] #[{ accessFlags := 9, nameIndex := 261, descriptorIndex := 60, attributes := #[] }] 49 203 #[304, 306, 308] #[{ accessFlags := 25, nameIndex := 310, descriptorIndex := 194, attributes := #[] }, { accessFlags := 25, nameIndex := 312, descriptorIndex := 194, attributes := #[] }, { accessFlags := 25, nameIndex := 302, descriptorIndex := 303, attributes := #[] }, { accessFlags := 24, nameIndex := 19, descriptorIndex := 20, attributes := #[] }, { accessFlags := 24, nameIndex := 89, descriptorIndex := 86, attributes := #[] }, { accessFlags := 24, nameIndex := 85, descriptorIndex := 86, attributes := #[] }, { accessFlags := 18, nameIndex := 207, descriptorIndex := 194, attributes := #[] }, { accessFlags := 25, nameIndex := 316, descriptorIndex := 194, attributes := #[] }, { accessFlags := 25, nameIndex := 318, descriptorIndex := 194, attributes := #[] }, { accessFlags := 26, nameIndex := 320, descriptorIndex := 321, attributes := #[] }])
  fields := #[{ name := "MIN_VALUE", type := .int, accessFlags := 25, slot := 0, constantValue := 0 }, { name := "MAX_VALUE", type := .int, accessFlags := 25, slot := 1, constantValue := 0 }, { name := "TYPE", type := (.object "java/lang/Class"), accessFlags := 25, slot := 2, constantValue := 0 }, { name := "digits", type := (.array .char), accessFlags := 24, slot := 3, constantValue := 0 }, { name := "DigitTens", type := (.array .byte), accessFlags := 24, slot := 4, constantValue := 0 }, { name := "DigitOnes", type := (.array .byte), accessFlags := 24, slot := 5, constantValue := 0 }, { name := "value", type := .int, accessFlags := 18, slot := 0, constantValue := 0 }, { name := "SIZE", type := .int, accessFlags := 25, slot := 6, constantValue := 0 }, { name := "BYTES", type := .int, accessFlags := 25, slot := 7, constantValue := 0 }, { name := "serialVersionUID", type := .long, accessFlags := 26, slot := 8, constantValue := 0 }]
  methods := #[k10m0]
  instanceTypes := #[.int]
  staticTypes := #[.int, .int, (.object "java/lang/Class"), (.array .char), (.array .byte), (.array .byte), .int, .int, .long]
  resolved := Array.replicate 453 none
  statics := none }

def pool11 : Array CpInfo := pool [(1, .class_ 2), (0, u "java/lang/Math"), (1, .class_ 6), (1, u "java/lang/Object"), (0, u "<init>"), (0, u "()V"), (89, .class_ 100), (1, u "java/lang/Math$RandomNumberGeneratorHolder"), (71, u "negativeZeroFloatBits"), (0, u "J"), (2, u "negativeZeroDoubleBits"), (24, u "min"), (43, u "$assertionsDisabled"), (0, u "Z"), (88, u "(II)I"), (2, u "twoToTheDoubleScaleDown"), (0, u "D"), (4, u "twoToTheDoubleScaleUp"), (9, u "E"), (3, u "PI"), (2, u "TAU"), (2, u "DEGREES_TO_RADIANS"), (0, u "RADIANS_TO_DEGREES")] 94

def k11m0 : Method := { name := "<init>", desc := "()V", sig := { parameters := [], returnType := none }, accessFlags := 2, code := none }
def k11c1 : Code := { maxStack := 2, maxLocals := 2, code := jdk_29_method_69_code, exceptionTable := #[], attributes := #[] }
def k11m1 : Method := { name := "min", desc := "(II)I", sig := { parameters := [.int, .int], returnType := some .int }, accessFlags := 9, code := some k11c1 }
/-- java/lang/Math -/
def k11 : Class := { plain "java/lang/Math" (some 0) with
  accessFlags := 49
  interfaces := #[]
  cf := some (fileOf pool11 1 #[.nestMembers #[98]] #[{ accessFlags := 2, nameIndex := 7, descriptorIndex := 8, attributes := #[] }, { accessFlags := 9, nameIndex := 201, descriptorIndex := 335, attributes := #[] }] 49 4 #[] #[{ accessFlags := 25, nameIndex := 354, descriptorIndex := 339, attributes := #[] }, { accessFlags := 25, nameIndex := 358, descriptorIndex := 339, attributes := #[] }, { accessFlags := 25, nameIndex := 361, descriptorIndex := 339, attributes := #[] }, { accessFlags := 26, nameIndex := 364, descriptorIndex := 339, attributes := #[] }, { accessFlags := 26, nameIndex := 365, descriptorIndex := 339, attributes := #[] }, { accessFlags := 26, nameIndex := 172, descriptorIndex := 173, attributes := #[] }, { accessFlags := 26, nameIndex := 176, descriptorIndex := 173, attributes := #[] }, { accessFlags := 8, nameIndex := 344, descriptorIndex := 339, attributes := #[] }, { accessFlags := 8, nameIndex := 338, descriptorIndex := 339, attributes := #[] }, { accessFlags := 4120, nameIndex := 245, descriptorIndex := 246, attributes := #[] }])
  fields := #[{ name := "E", type := .double, accessFlags := 25, slot := 0, constantValue := 0 }, { name := "PI", type := .double, accessFlags := 25, slot := 1, constantValue := 0 }, { name := "TAU", type := .double, accessFlags := 25, slot := 2, constantValue := 0 }, { name := "DEGREES_TO_RADIANS", type := .double, accessFlags := 26, slot := 3, constantValue := 0 }, { name := "RADIANS_TO_DEGREES", type := .double, accessFlags := 26, slot := 4, constantValue := 0 }, { name := "negativeZeroFloatBits", type := .long, accessFlags := 26, slot := 5, constantValue := 0 }, { name := "negativeZeroDoubleBits", type := .long, accessFlags := 26, slot := 6, constantValue := 0 }, { name := "twoToTheDoubleScaleUp", type := .double, accessFlags := 8, slot := 7, constantValue := 0 }, { name := "twoToTheDoubleScaleDown", type := .double, accessFlags := 8, slot := 8, constantValue := 0 }, { name := "$assertionsDisabled", type := .boolean, accessFlags := 4120, slot := 9, constantValue := 0 }]
  methods := #[k11m0, k11m1]
  instanceTypes := #[]
  staticTypes := #[.double, .double, .double, .double, .double, .long, .long, .double, .double, .boolean]
  resolved := Array.replicate 460 none
  statics := none }

def pool12 : Array CpInfo := pool [(6, .class_ 8), (1, u "java/lang/Object"), (0, u "<init>"), (0, u "()V"), (0, .methodref 12 13), (0, .class_ 14), (0, .nameAndType 15 16), (0, u "java/lang/StringUTF16"), (0, u "newBytesLength"), (0, u "(I)I"), (3, .integer 1073741823), (23, .fieldref 12 45), (0, .nameAndType 46 47), (0, u "$assertionsDisabled"), (0, u "Z"), (11, .fieldref 12 60), (0, .nameAndType 61 62), (0, u "HI_BYTE_SHIFT"), (0, u "I"), (0, .fieldref 12 64), (0, .nameAndType 65 62), (0, u "LO_BYTE_SHIFT"), (5, .methodref 12 72), (0, .nameAndType 73 74), (0, u "getChar"), (0, u "([BI)C"), (0, .methodref 76 77), (0, .class_ 78), (0, .nameAndType 79 80), (0, u "java/lang/Character"), (0, u "isHighSurrogate"), (0, u "(C)Z"), (0, .methodref 76 82), (0, .nameAndType 83 80), (0, u "isLowSurrogate"), (0, .methodref 76 85), (0, .nameAndType 86 87), (0, u "toCodePoint"), (0, u "(CC)I"), (0, .methodref 12 89), (0, .nameAndType 90 91), (0, u "codePointAt"), (0, u "([BIIZ)I"), (15, .methodref 12 108), (0, .nameAndType 109 110), (0, u "newBytesFor"), (0, u "(I)[B"), (0, .methodref 12 112), (0, .nameAndType 113 114), (0, u "putChar"), (0, u "([BII)V"), (0, .methodref 12 116), (0, .nameAndType 117 118), (0, u "compress"), (0, u "([CI[BII)I"), (0, .methodref 12 120), (0, .nameAndType 121 122), (0, u "toBytes"), (0, u "([CII)[B"), (127, u "([BII)I"), (10, u "coderFromArrayLen"), (0, u "([BI)B"), (106, .class_ 371), (1, u "java/lang/StringUTF16$LinesSpliterator"), (58, u "MAX_LENGTH"), (196, .class_ 628), (0, u "java/lang/StringUTF16$CodePointsSpliterator"), (0, .class_ 630), (0, u "java/lang/StringUTF16$CharsSpliterator")] 4

def k12m0 : Method := { name := "<init>", desc := "()V", sig := { parameters := [], returnType := none }, accessFlags := 0, code := none }
def k12c1 : Code := { maxStack := 1, maxLocals := 1, code := jdk_52_method_2_code, exceptionTable := #[], attributes := #[] }
def k12m1 : Method := { name := "newBytesFor", desc := "(I)[B", sig := { parameters := [.int], returnType := some (.array .byte) }, accessFlags := 9, code := some k12c1 }
def k12c2 : Code := { maxStack := 4, maxLocals := 1, code := jdk_52_method_3_code, exceptionTable := #[], attributes := #[] }
def k12m2 : Method := { name := "newBytesLength", desc := "(I)I", sig := { parameters := [.int], returnType := some .int }, accessFlags := 9, code := some k12c2 }
def k12c3 : Code := { maxStack := 4, maxLocals := 3, code := jdk_52_method_4_code, exceptionTable := #[], attributes := #[] }
def k12m3 : Method := { name := "putChar", desc := "([BII)V", sig := { parameters := [(.array .byte), .int, .int], returnType := none }, accessFlags := 8, code := some k12c3 }
def k12c4 : Code := { maxStack := 3, maxLocals := 2, code := jdk_52_method_5_code, exceptionTable := #[], attributes := #[] }
def k12m4 : Method := { name := "getChar", desc := "([BI)C", sig := { parameters := [(.array .byte), .int], returnType := some .char }, accessFlags := 8, code := some k12c4 }
def k12c5 : Code := { maxStack := 2, maxLocals := 6, code := jdk_52_method_7_code, exceptionTable := #[], attributes := #[] }
def k12m5 : Method := { name := "codePointAt", desc := "([BIIZ)I", sig := { parameters := [(.array .byte), .int, .int, .boolean], returnType := some .int }, accessFlags := 10, code := some k12c5 }
def k12c6 : Code := { maxStack := 4, maxLocals := 3, code := jdk_52_method_8_code, exceptionTable := #[], attributes := #[] }
def k12m6 : Method := { name := "codePointAt", desc := "([BII)I", sig := { parameters := [(.array .byte), .int, .int], returnType := some .int }, accessFlags := 9, code := some k12c6 }
def k12c7 : Code := { maxStack := 4, maxLocals := 5, code := jdk_52_method_14_code, exceptionTable := #[], attributes := #[] }
def k12m7 : Method := { name := "toBytes", desc := "([CII)[B", sig := { parameters := [(.array .char), .int, .int], returnType := some (.array .byte) }, accessFlags := 9, code := some k12c7 }
def k12c8 : Code := { maxStack := 2, maxLocals := 2, code := jdk_52_method_15_code, exceptionTable := #[], attributes := #[] }
def k12m8 : Method := { name := "coderFromArrayLen", desc := "([BI)B", sig := { parameters := [(.array .byte), .int], returnType := some .byte }, accessFlags := 8, code := some k12c8 }
def k12c9 : Code := { maxStack := 5, maxLocals := 6, code := jdk_52_method_16_code, exceptionTable := #[], attributes := #[] }
def k12m9 : Method := { name := "compress", desc := "([CII)[B", sig := { parameters := [(.array .char), .int, .int], returnType := some (.array .byte) }, accessFlags := 9, code := some k12c9 }
def k12c10 : Code := { maxStack := 3, maxLocals := 7, code := jdk_52_method_21_code, exceptionTable := #[], attributes := #[] }
def k12m10 : Method := { name := "compress", desc := "([CI[BII)I", sig := { parameters := [(.array .char), .int, (.array .byte), .int, .int], returnType := some .int }, accessFlags := 9, code := some k12c10 }
/-- java/lang/StringUTF16 -/
def k12 : Class := { plain "java/lang/StringUTF16" (some 0) with
  accessFlags := 48
  interfaces := #[]
  cf := some (fileOf pool12 12 #[.nestMembers #[627, 629, 369]] #[{ accessFlags := 0, nameIndex := 9, descriptorIndex := 10, attributes := #[] }, { accessFlags := 9, nameIndex := 109, descriptorIndex := 110, attributes := #[] }, { accessFlags := 9, nameIndex := 15, descriptorIndex := 16, attributes := #[] }, { accessFlags := 8, nameIndex := 113, descriptorIndex := 114, attributes := #[] }, { accessFlags := 8, nameIndex := 73, descriptorIndex := 74, attributes := #[] }, { accessFlags := 10, nameIndex := 90, descriptorIndex := 91, attributes := #[] }, { accessFlags := 9, nameIndex := 90, descriptorIndex := 250, attributes := #[] }, { accessFlags := 9, nameIndex := 121, descriptorIndex := 122, attributes := #[] }, { accessFlags := 8, nameIndex := 261, descriptorIndex := 262, attributes := #[] }, { accessFlags := 9, nameIndex := 117, descriptorIndex := 122, attributes := #[] }, { accessFlags := 9, nameIndex := 117, descriptorIndex := 118, attributes := #[] }] 48 6 #[] #[{ accessFlags := 26, nameIndex := 61, descriptorIndex := 62, attributes := #[] }, { accessFlags := 26, nameIndex := 65, descriptorIndex := 62, attributes := #[] }, { accessFlags := 24, nameIndex := 430, descriptorIndex := 62, attributes := #[] }, { accessFlags := 4120, nameIndex := 46, descriptorIndex := 47, attributes := #[] }])
  fields := #[{ name := "HI_BYTE_SHIFT", type := .int, accessFlags := 26, slot := 0, constantValue := 0 }, { name := "LO_BYTE_SHIFT", type := .int, accessFlags := 26, slot := 1, constantValue := 0 }, { name := "MAX_LENGTH", type := .int, accessFlags := 24, slot := 2, constantValue := 0 }, { name := "$assertionsDisabled", type := .boolean, accessFlags := 4120, slot := 3, constantValue := 0 }]
  methods := #[k12m0, k12m1, k12m2, k12m3, k12m4, k12m5, k12m6, k12m7, k12m8, k12m9, k12m10]
  instanceTypes := #[]
  staticTypes := #[.int, .int, .int, .boolean]
  resolved := Array.replicate 635 none
  statics := some 1 }

def pool13 : Array CpInfo := pool [(2, .class_ 4), (1, u "java/lang/Object"), (0, u "<init>"), (0, u "()V"), (17, .class_ 26), (1, u "jdk/internal/util/Preconditions"), (6, u "checkIndex"), (21, .class_ 56), (0, u "jdk/internal/util/Preconditions$4"), (57, .class_ 115), (0, u "jdk/internal/util/Preconditions$1"), (7, u "SIOOBE_FORMATTER"), (0, u "Ljava/util/function/BiFunction;"), (0, .class_ 126), (0, u "jdk/internal/util/Preconditions$2"), (3, u "AIOOBE_FORMATTER"), (0, .class_ 132), (0, u "jdk/internal/util/Preconditions$3"), (3, u "IOOBE_FORMATTER"), (41, u "(IILjava/util/function/BiFunction;)I")] 15

def k13m0 : Method := { name := "<init>", desc := "()V", sig := { parameters := [], returnType := none }, accessFlags := 1, code := none }
def k13c1 : Code := { maxStack := 3, maxLocals := 3, code := jdk_41_method_11_code, exceptionTable := #[], attributes := #[] }
def k13m1 : Method := { name := "checkIndex", desc := "(IILjava/util/function/BiFunction;)I", sig := { parameters := [.int, .int, (.object "java/util/function/BiFunction")], returnType := some .int }, accessFlags := 9, code := some k13c1 }
/-- jdk/internal/util/Preconditions -/
def k13 : Class := { plain "jdk/internal/util/Preconditions" (some 0) with
  accessFlags := 33
  interfaces := #[]
  cf := some (fileOf pool13 24 #[.nestMembers #[55, 131, 125, 114]] #[{ accessFlags := 1, nameIndex := 5, descriptorIndex := 6, attributes := #[] }, { accessFlags := 9, nameIndex := 33, descriptorIndex := 178, attributes := #[] }] 33 2 #[] #[{ accessFlags := 25, nameIndex := 123, descriptorIndex := 124, attributes := #[] }, { accessFlags := 25, nameIndex := 130, descriptorIndex := 124, attributes := #[] }, { accessFlags := 25, nameIndex := 136, descriptorIndex := 124, attributes := #[] }])
  fields := #[{ name := "SIOOBE_FORMATTER", type := (.object "java/util/function/BiFunction"), accessFlags := 25, slot := 0, constantValue := 0 }, { name := "AIOOBE_FORMATTER", type := (.object "java/util/function/BiFunction"), accessFlags := 25, slot := 1, constantValue := 0 }, { name := "IOOBE_FORMATTER", type := (.object "java/util/function/BiFunction"), accessFlags := 25, slot := 2, constantValue := 0 }]
  methods := #[k13m0, k13m1]
  instanceTypes := #[]
  staticTypes := #[(.object "java/util/function/BiFunction"), (.object "java/util/function/BiFunction"), (.object "java/util/function/BiFunction")]
  resolved := Array.replicate 194 none
  statics := some 2 }

def pool14 : Array CpInfo := pool [(1, .class_ 2), (0, u "java/lang/Character"), (18, u "value"), (0, u "C"), (19, .class_ 44), (1, u "java/lang/Object"), (3, .class_ 50), (1, u "java/lang/Character$CharacterCache"), (22, .integer 65536), (1, .integer 55296), (0, .integer 56320), (0, .integer 57344), (2, u "isHighSurrogate"), (0, u "(C)Z"), (2, u "isLowSurrogate"), (0, .integer 4238353408), (12, u "toCodePoint"), (0, u "(CC)I"), (74, u "(I)I"), (109, u "$assertionsDisabled"), (0, u "Z"), (21, .class_ 309), (1, u "java/lang/Character$UnicodeBlock"), (73, u "TYPE"), (0, u "Ljava/lang/Class;"), (0, .class_ 386), (0, u "java/io/Serializable"), (0, .class_ 388), (0, u "java/lang/Comparable"), (0, .class_ 390), (0, u "java/lang/constant/Constable"), (0, u "MIN_RADIX"), (0, u "I"), (2, u "MAX_RADIX"), (1, u "MIN_VALUE"), (1, u "MAX_VALUE"), (3, u "UNASSIGNED"), (0, u "B"), (0, u "UPPERCASE_LETTER"), (1, u "LOWERCASE_LETTER"), (0, u "TITLECASE_LETTER"), (1, u "MODIFIER_LETTER"), (1, u "OTHER_LETTER"), (1, u "NON_SPACING_MARK"), (1, u "ENCLOSING_MARK"), (1, u "COMBINING_SPACING_MARK"), (1, u "DECIMAL_DIGIT_NUMBER"), (1, u "LETTER_NUMBER"), (1, u "OTHER_NUMBER"), (1, u "SPACE_SEPARATOR"), (1, u "LINE_SEPARATOR"), (1, u "PARAGRAPH_SEPARATOR"), (1, u "CONTROL"), (1, u "FORMAT"), (1, u "PRIVATE_USE"), (1, u "SURROGATE"), (1, u "DASH_PUNCTUATION"), (1, u "START_PUNCTUATION"), (1, u "END_PUNCTUATION"), (1, u "CONNECTOR_PUNCTUATION"), (1, u "OTHER_PUNCTUATION"), (1, u "MATH_SYMBOL"), (1, u "CURRENCY_SYMBOL"), (1, u "MODIFIER_SYMBOL"), (1, u "OTHER_SYMBOL"), (1, u "INITIAL_QUOTE_PUNCTUATION"), (1, u "FINAL_QUOTE_PUNCTUATION"), (1, u "ERROR"), (1, u "DIRECTIONALITY_UNDEFINED"), (0, u "DIRECTIONALITY_LEFT_TO_RIGHT"), (0, u "DIRECTIONALITY_RIGHT_TO_LEFT"), (0, u "DIRECTIONALITY_RIGHT_TO_LEFT_ARABIC"), (0, u "DIRECTIONALITY_EUROPEAN_NUMBER"), (0, u "DIRECTIONALITY_EUROPEAN_NUMBER_SEPARATOR"), (0, u "DIRECTIONALITY_EUROPEAN_NUMBER_TERMINATOR"), (0, u "DIRECTIONALITY_ARABIC_NUMBER"), (0, u "DIRECTIONALITY_COMMON_NUMBER_SEPARATOR"), (0, u "DIRECTIONALITY_NONSPACING_MARK"), (0, u "DIRECTIONALITY_BOUNDARY_NEUTRAL"), (0, u "DIRECTIONALITY_PARAGRAPH_SEPARATOR"), (0, u "DIRECTIONALITY_SEGMENT_SEPARATOR"), (0, u "DIRECTIONALITY_WHITESPACE"), (0, u "DIRECTIONALITY_OTHER_NEUTRALS"), (0, u "DIRECTIONALITY_LEFT_TO_RIGHT_EMBEDDING"), (0, u "DIRECTIONALITY_LEFT_TO_RIGHT_OVERRIDE"), (0, u "DIRECTIONALITY_RIGHT_TO_LEFT_EMBEDDING"), (0, u "DIRECTIONALITY_RIGHT_TO_LEFT_OVERRIDE"), (1, u "DIRECTIONALITY_POP_DIRECTIONAL_FORMAT"), (0, u "DIRECTIONALITY_LEFT_TO_RIGHT_ISOLATE"), (0, u "DIRECTIONALITY_RIGHT_TO_LEFT_ISOLATE"), (0, u "DIRECTIONALITY_FIRST_STRONG_ISOLATE"), (0, u "DIRECTIONALITY_POP_DIRECTIONAL_ISOLATE"), (0, u "MIN_HIGH_SURROGATE"), (0, u "MAX_HIGH_SURROGATE"), (1, u "MIN_LOW_SURROGATE"), (0, u "MAX_LOW_SURROGATE"), (1, u "MIN_SURROGATE"), (0, u "MAX_SURROGATE"), (0, u "MIN_SUPPLEMENTARY_CODE_POINT"), (0, u "MIN_CODE_POINT"), (0, u "MAX_CODE_POINT"), (1, u "serialVersionUID"), (0, u "J"), (2, u "SIZE"), (0, u "BYTES"), (29, u "charCount"), (58, .class_ 596), (0, u "java/lang/Character$UnicodeScript"), (0, .class_ 598), (0, u "java/lang/Character$Subset")] 5

def k14c0 : Code := { maxStack := 2, maxLocals := 1, code := jdk_89_method_14_code, exceptionTable := #[], attributes := #[] }
def k14m0 : Method := { name := "isHighSurrogate", desc := "(C)Z", sig := { parameters := [.char], returnType := some .boolean }, accessFlags := 9, code := some k14c0 }
def k14c1 : Code := { maxStack := 2, maxLocals := 1, code := jdk_89_method_15_code, exceptionTable := #[], attributes := #[] }
def k14m1 : Method := { name := "isLowSurrogate", desc := "(C)Z", sig := { parameters := [.char], returnType := some .boolean }, accessFlags := 9, code := some k14c1 }
def k14c2 : Code := { maxStack := 2, maxLocals := 1, code := jdk_89_method_18_code, exceptionTable := #[], attributes := #[] }
def k14m2 : Method := { name := "charCount", desc := "(I)I", sig := { parameters := [.int], returnType := some .int }, accessFlags := 9, code := some k14c2 }
def k14c3 : Code := { maxStack := 2, maxLocals := 2, code := jdk_89_method_19_code, exceptionTable := #[], attributes := #[] }
def k14m3 : Method := { name := "toCodePoint", desc := "(CC)I", sig := { parameters := [.char, .char], returnType := some .int }, accessFlags := 9, code := some k14c3 }
/-- java/lang/Character -/
def k14 : Class := { plain "java/lang/Character" (some 0) with
  accessFlags := 49
  interfaces := #[2, 3, 5]
  cf := some (fileOf pool14 1 #[.nestMembers #[48, 595, 307, 597]] #[{ accessFlags := 9, nameIndex := 80, descriptorIndex := 81, attributes := #[] }, { accessFlags := 9, nameIndex := 84, descriptorIndex := 81, attributes := #[] }, { accessFlags := 9, nameIndex := 536, descriptorIndex := 174, attributes := #[] }, { accessFlags := 9, nameIndex := 98, descriptorIndex := 99, attributes := #[] }] 49 42 #[385, 387, 389] #[{ accessFlags := 25, nameIndex := 391, descriptorIndex := 392, attributes := #[] }, { accessFlags := 25, nameIndex := 395, descriptorIndex := 392, attributes := #[] }, { accessFlags := 25, nameIndex := 397, descriptorIndex := 22, attributes := #[] }, { accessFlags := 25, nameIndex := 399, descriptorIndex := 22, attributes := #[] }, { accessFlags := 25, nameIndex := 383, descriptorIndex := 384, attributes := #[] }, { accessFlags := 25, nameIndex := 403, descriptorIndex := 404, attributes := #[] }, { accessFlags := 25, nameIndex := 405, descriptorIndex := 404, attributes := #[] }, { accessFlags := 25, nameIndex := 407, descriptorIndex := 404, attributes := #[] }, { accessFlags := 25, nameIndex := 408, descriptorIndex := 404, attributes := #[] }, { accessFlags := 25, nameIndex := 410, descriptorIndex := 404, attributes := #[] }, { accessFlags := 25, nameIndex := 412, descriptorIndex := 404, attributes := #[] }, { accessFlags := 25, nameIndex := 414, descriptorIndex := 404, attributes := #[] }, { accessFlags := 25, nameIndex := 416, descriptorIndex := 404, attributes := #[] }, { accessFlags := 25, nameIndex := 418, descriptorIndex := 404, attributes := #[] }, { accessFlags := 25, nameIndex := 420, descriptorIndex := 404, attributes := #[] }, { accessFlags := 25, nameIndex := 422, descriptorIndex := 404, attributes := #[] }, { accessFlags := 25, nameIndex := 424, descriptorIndex := 404, attributes := #[] }, { accessFlags := 25, nameIndex := 426, descriptorIndex := 404, attributes := #[] }, { accessFlags := 25, nameIndex := 428, descriptorIndex := 404, attributes := #[] }, { accessFlags := 25, nameIndex := 430, descriptorIndex := 404, attributes := #[] }, { accessFlags := 25, nameIndex := 432, descriptorIndex := 404, attributes := #[] }, { accessFlags := 25, nameIndex := 434, descriptorIndex := 404, attributes := #[] }, { accessFlags := 25, nameIndex := 436, descriptorIndex := 404, attributes := #[] }, { accessFlags := 25, nameIndex := 438, descriptorIndex := 404, attributes := #[] }, { accessFlags := 25, nameIndex := 440, descriptorIndex := 404, attributes := #[] }, { accessFlags := 25, nameIndex := 442, descriptorIndex := 404, attributes := #[] }, { accessFlags := 25, nameIndex := 444, descriptorIndex := 404, attributes := #[] }, { accessFlags := 25, nameIndex := 446, descriptorIndex := 404, attributes := #[] }, { accessFlags := 25, nameIndex := 448, descriptorIndex := 404, attributes := #[] }, { accessFlags := 25, nameIndex := 450, descriptorIndex := 404, attributes := #[] }, { accessFlags := 25, nameIndex := 452, descriptorIndex := 404, attributes := #[] }, { accessFlags := 25, nameIndex := 454, descriptorIndex := 404, attributes := #[] }, { accessFlags := 25, nameIndex := 456, descriptorIndex := 404, attributes := #[] }, { accessFlags := 25, nameIndex := 458, descriptorIndex := 404, attributes := #[] }, { accessFlags := 25, nameIndex := 460, descriptorIndex := 404, attributes := #[] }, { accessFlags := 24, nameIndex := 462, descriptorIndex := 392, attributes := #[] }, { accessFlags := 25, nameIndex := 464, descriptorIndex := 404, attributes := #[] }, { accessFlags := 25, nameIndex := 465, descriptorIndex := 404, attributes := #[] }, { accessFlags := 25, nameIndex := 466, descriptorIndex := 404, attributes := #[] }, { accessFlags := 25, nameIndex := 467, descriptorIndex := 404, attributes := #[] }, { accessFlags := 25, nameIndex := 468, descriptorIndex := 404, attributes := #[] }, { accessFlags := 25, nameIndex := 469, descriptorIndex := 404, attributes := #[] }, { accessFlags := 25, nameIndex := 470, descriptorIndex := 404, attributes := #[] }, { accessFlags := 25, nameIndex := 471, descriptorIndex := 404, attributes := #[] }, { accessFlags := 25, nameIndex := 472, descriptorIndex := 404, attributes := #[] }, { accessFlags := 25, nameIndex := 473, descriptorIndex := 404, attributes := #[] }, { accessFlags := 25, nameIndex := 474, descriptorIndex := 404, attributes := #[] }, { accessFlags := 25, nameIndex := 475, descriptorIndex := 404, attributes := #[] }, { accessFlags := 25, nameIndex := 476, descriptorIndex := 404, attributes := #[] }, { accessFlags := 25, nameIndex := 477, descriptorIndex := 404, attributes := #[] }, { accessFlags := 25, nameIndex := 478, descriptorIndex := 404, attributes := #[] }, { accessFlags := 25, nameIndex := 479, descriptorIndex := 404, attributes := #[] }, { accessFlags := 25, nameIndex := 480, descriptorIndex := 404, attributes := #[] }, { accessFlags := 25, nameIndex := 481, descriptorIndex := 404, attributes := #[] }, { accessFlags := 25, nameIndex := 482, descriptorIndex := 404, attributes := #[] }, { accessFlags := 25, nameIndex := 484, descriptorIndex := 404, attributes := #[] }, { accessFlags := 25, nameIndex := 485, descriptorIndex := 404, attributes := #[] }, { accessFlags := 25, nameIndex := 486, descriptorIndex := 404, attributes := #[] }, { accessFlags := 25, nameIndex := 487, descriptorIndex := 404, attributes := #[] }, { accessFlags := 25, nameIndex := 488, descriptorIndex := 404, attributes := #[] }, { accessFlags := 25, nameIndex := 489, descriptorIndex := 22, attributes := #[] }, { accessFlags := 25, nameIndex := 490, descriptorIndex := 22, attributes := #[] }, { accessFlags := 25, nameIndex := 492, descriptorIndex := 22, attributes := #[] }, { accessFlags := 25, nameIndex := 493, descriptorIndex := 22, attributes := #[] }, { accessFlags := 25, nameIndex := 495, descriptorIndex := 22, attributes := #[] }, { accessFlags := 25, nameIndex := 496, descriptorIndex := 22, attributes := #[] }, { accessFlags := 25, nameIndex := 497, descriptorIndex := 392, attributes := #[] }, { accessFlags := 25, nameIndex := 498, descriptorIndex := 392, attributes := #[] }, { accessFlags := 25, nameIndex := 499, descriptorIndex := 392, attributes := #[] }, { accessFlags := 18, nameIndex := 21, descriptorIndex := 22, attributes := #[] }, { accessFlags := 26, nameIndex := 501, descriptorIndex := 502, attributes := #[] }, { accessFlags := 25, nameIndex := 505, descriptorIndex := 392, attributes := #[] }, { accessFlags := 25, nameIndex := 506, descriptorIndex := 392, attributes := #[] }, { accessFlags := 4120, nameIndex := 284, descriptorIndex := 285, attributes := #[] }])
  fields := #[{ name := "MIN_RADIX", type := .int, accessFlags := 25, slot := 0, constantValue := 0 }, { name := "MAX_RADIX", type := .int, accessFlags := 25, slot := 1, constantValue := 0 }, { name := "MIN_VALUE", type := .char, accessFlags := 25, slot := 2, constantValue := 0 }, { name := "MAX_VALUE", type := .char, accessFlags := 25, slot := 3, constantValue := 0 }, { name := "TYPE", type := (.object "java/lang/Class"), accessFlags := 25, slot := 4, constantValue := 0 }, { name := "UNASSIGNED", type := .byte, accessFlags := 25, slot := 5, constantValue := 0 }, { name := "UPPERCASE_LETTER", type := .byte, accessFlags := 25, slot := 6, constantValue := 0 }, { name := "LOWERCASE_LETTER", type := .byte, accessFlags := 25, slot := 7, constantValue := 0 }, { name := "TITLECASE_LETTER", type := .byte, accessFlags := 25, slot := 8, constantValue := 0 }, { name := "MODIFIER_LETTER", type := .byte, accessFlags := 25, slot := 9, constantValue := 0 }, { name := "OTHER_LETTER", type := .byte, accessFlags := 25, slot := 10, constantValue := 0 }, { name := "NON_SPACING_MARK", type := .byte, accessFlags := 25, slot := 11, constantValue := 0 }, { name := "ENCLOSING_MARK", type := .byte, accessFlags := 25, slot := 12, constantValue := 0 }, { name := "COMBINING_SPACING_MARK", type := .byte, accessFlags := 25, slot := 13, constantValue := 0 }, { name := "DECIMAL_DIGIT_NUMBER", type := .byte, accessFlags := 25, slot := 14, constantValue := 0 }, { name := "LETTER_NUMBER", type := .byte, accessFlags := 25, slot := 15, constantValue := 0 }, { name := "OTHER_NUMBER", type := .byte, accessFlags := 25, slot := 16, constantValue := 0 }, { name := "SPACE_SEPARATOR", type := .byte, accessFlags := 25, slot := 17, constantValue := 0 }, { name := "LINE_SEPARATOR", type := .byte, accessFlags := 25, slot := 18, constantValue := 0 }, { name := "PARAGRAPH_SEPARATOR", type := .byte, accessFlags := 25, slot := 19, constantValue := 0 }, { name := "CONTROL", type := .byte, accessFlags := 25, slot := 20, constantValue := 0 }, { name := "FORMAT", type := .byte, accessFlags := 25, slot := 21, constantValue := 0 }, { name := "PRIVATE_USE", type := .byte, accessFlags := 25, slot := 22, constantValue := 0 }, { name := "SURROGATE", type := .byte, accessFlags := 25, slot := 23, constantValue := 0 }, { name := "DASH_PUNCTUATION", type := .byte, accessFlags := 25, slot := 24, constantValue := 0 }, { name := "START_PUNCTUATION", type := .byte, accessFlags := 25, slot := 25, constantValue := 0 }, { name := "END_PUNCTUATION", type := .byte, accessFlags := 25, slot := 26, constantValue := 0 }, { name := "CONNECTOR_PUNCTUATION", type := .byte, accessFlags := 25, slot := 27, constantValue := 0 }, { name := "OTHER_PUNCTUATION", type := .byte, accessFlags := 25, slot := 28, constantValue := 0 }, { name := "MATH_SYMBOL", type := .byte, accessFlags := 25, slot := 29, constantValue := 0 }, { name := "CURRENCY_SYMBOL", type := .byte, accessFlags := 25, slot := 30, constantValue := 0 }, { name := "MODIFIER_SYMBOL", type := .byte, accessFlags := 25, slot := 31, constantValue := 0 }, { name := "OTHER_SYMBOL", type := .byte, accessFlags := 25, slot := 32, constantValue := 0 }, { name := "INITIAL_QUOTE_PUNCTUATION", type := .byte, accessFlags := 25, slot := 33, constantValue := 0 }, { name := "FINAL_QUOTE_PUNCTUATION", type := .byte, accessFlags := 25, slot := 34, constantValue := 0 }, { name := "ERROR", type := .int, accessFlags := 24, slot := 35, constantValue := 0 }, { name := "DIRECTIONALITY_UNDEFINED", type := .byte, accessFlags := 25, slot := 36, constantValue := 0 }, { name := "DIRECTIONALITY_LEFT_TO_RIGHT", type := .byte, accessFlags := 25, slot := 37, constantValue := 0 }, { name := "DIRECTIONALITY_RIGHT_TO_LEFT", type := .byte, accessFlags := 25, slot := 38, constantValue := 0 }, { name := "DIRECTIONALITY_RIGHT_TO_LEFT_ARABIC", type := .byte, accessFlags := 25, slot := 39, constantValue := 0 }, { name := "DIRECTIONALITY_EUROPEAN_NUMBER", type := .byte, accessFlags := 25, slot := 40, constantValue := 0 }, { name := "DIRECTIONALITY_EUROPEAN_NUMBER_SEPARATOR", type := .byte, accessFlags := 25, slot := 41, constantValue := 0 }, { name := "DIRECTIONALITY_EUROPEAN_NUMBER_TERMINATOR", type := .byte, accessFlags := 25, slot := 42, constantValue := 0 }, { name := "DIRECTIONALITY_ARABIC_NUMBER", type := .byte, accessFlags := 25, slot := 43, constantValue := 0 }, { name := "DIRECTIONALITY_COMMON_NUMBER_SEPARATOR", type := .byte, accessFlags := 25, slot := 44, constantValue := 0 }, { name := "DIRECTIONALITY_NONSPACING_MARK", type := .byte, accessFlags := 25, slot := 45, constantValue := 0 }, { name := "DIRECTIONALITY_BOUNDARY_NEUTRAL", type := .byte, accessFlags := 25, slot := 46, constantValue := 0 }, { name := "DIRECTIONALITY_PARAGRAPH_SEPARATOR", type := .byte, accessFlags := 25, slot := 47, constantValue := 0 }, { name := "DIRECTIONALITY_SEGMENT_SEPARATOR", type := .byte, accessFlags := 25, slot := 48, constantValue := 0 }, { name := "DIRECTIONALITY_WHITESPACE", type := .byte, accessFlags := 25, slot := 49, constantValue := 0 }, { name := "DIRECTIONALITY_OTHER_NEUTRALS", type := .byte, accessFlags := 25, slot := 50, constantValue := 0 }, { name := "DIRECTIONALITY_LEFT_TO_RIGHT_EMBEDDING", type := .byte, accessFlags := 25, slot := 51, constantValue := 0 }, { name := "DIRECTIONALITY_LEFT_TO_RIGHT_OVERRIDE", type := .byte, accessFlags := 25, slot := 52, constantValue := 0 }, { name := "DIRECTIONALITY_RIGHT_TO_LEFT_EMBEDDING", type := .byte, accessFlags := 25, slot := 53, constantValue := 0 }, { name := "DIRECTIONALITY_RIGHT_TO_LEFT_OVERRIDE", type := .byte, accessFlags := 25, slot := 54, constantValue := 0 }, { name := "DIRECTIONALITY_POP_DIRECTIONAL_FORMAT", type := .byte, accessFlags := 25, slot := 55, constantValue := 0 }, { name := "DIRECTIONALITY_LEFT_TO_RIGHT_ISOLATE", type := .byte, accessFlags := 25, slot := 56, constantValue := 0 }, { name := "DIRECTIONALITY_RIGHT_TO_LEFT_ISOLATE", type := .byte, accessFlags := 25, slot := 57, constantValue := 0 }, { name := "DIRECTIONALITY_FIRST_STRONG_ISOLATE", type := .byte, accessFlags := 25, slot := 58, constantValue := 0 }, { name := "DIRECTIONALITY_POP_DIRECTIONAL_ISOLATE", type := .byte, accessFlags := 25, slot := 59, constantValue := 0 }, { name := "MIN_HIGH_SURROGATE", type := .char, accessFlags := 25, slot := 60, constantValue := 0 }, { name := "MAX_HIGH_SURROGATE", type := .char, accessFlags := 25, slot := 61, constantValue := 0 }, { name := "MIN_LOW_SURROGATE", type := .char, accessFlags := 25, slot := 62, constantValue := 0 }, { name := "MAX_LOW_SURROGATE", type := .char, accessFlags := 25, slot := 63, constantValue := 0 }, { name := "MIN_SURROGATE", type := .char, accessFlags := 25, slot := 64, constantValue := 0 }, { name := "MAX_SURROGATE", type := .char, accessFlags := 25, slot := 65, constantValue := 0 }, { name := "MIN_SUPPLEMENTARY_CODE_POINT", type := .int, accessFlags := 25, slot := 66, constantValue := 0 }, { name := "MIN_CODE_POINT", type := .int, accessFlags := 25, slot := 67, constantValue := 0 }, { name := "MAX_CODE_POINT", type := .int, accessFlags := 25, slot := 68, constantValue := 0 }, { name := "value", type := .char, accessFlags := 18, slot := 0, constantValue := 0 }, { name := "serialVersionUID", type := .long, accessFlags := 26, slot := 69, constantValue := 0 }, { name := "SIZE", type := .int, accessFlags := 25, slot := 70, constantValue := 0 }, { name := "BYTES", type := .int, accessFlags := 25, slot := 71, constantValue := 0 }, { name := "$assertionsDisabled", type := .boolean, accessFlags := 4120, slot := 72, constantValue := 0 }]
  methods := #[k14m0, k14m1, k14m2, k14m3]
  instanceTypes := #[.char]
  staticTypes := #[.int, .int, .char, .char, (.object "java/lang/Class"), .byte, .byte, .byte, .byte, .byte, .byte, .byte, .byte, .byte, .byte, .byte, .byte, .byte, .byte, .byte, .byte, .byte, .byte, .byte, .byte, .byte, .byte, .byte, .byte, .byte, .byte, .byte, .byte, .byte, .byte, .int, .byte, .byte, .byte, .byte, .byte, .byte, .byte, .byte, .byte, .byte, .byte, .byte, .byte, .byte, .byte, .byte, .byte, .byte, .byte, .byte, .byte, .byte, .byte, .byte, .char, .char, .char, .char, .char, .char, .int, .int, .int, .long, .int, .int, .boolean]
  resolved := Array.replicate 604 none
  statics := none }

def pool15 : Array CpInfo := pool [(4, .class_ 6), (1, u "java/lang/Object"), (0, u "<init>"), (0, u "()V"), (5, .class_ 16), (1, u "java/lang/StringLatin1"), (104, u "$assertionsDisabled"), (0, u "Z"), (98, .class_ 223), (1, u "java/lang/StringLatin1$LinesSpliterator"), (166, .class_ 391), (0, u "java/lang/StringLatin1$CharsSpliterator")] 3

def k15m0 : Method := { name := "<init>", desc := "()V", sig := { parameters := [], returnType := none }, accessFlags := 0, code := none }
/-- java/lang/StringLatin1 -/
def k15 : Class := { plain "java/lang/StringLatin1" (some 0) with
  accessFlags := 48
  interfaces := #[]
  cf := some (fileOf pool15 14 #[.nestMembers #[390, 221]] #[{ accessFlags := 0, nameIndex := 7, descriptorIndex := 8, attributes := #[] }] 48 4 #[] #[{ accessFlags := 4120, nameIndex := 121, descriptorIndex := 122, attributes := #[] }])
  fields := #[{ name := "$assertionsDisabled", type := .boolean, accessFlags := 4120, slot := 0, constantValue := 0 }]
  methods := #[k15m0]
  instanceTypes := #[]
  staticTypes := #[.boolean]
  resolved := Array.replicate 395 none
  statics := none }

def pool16 : Array CpInfo := pool [(9, u "<init>"), (6, .class_ 18), (1, u "java/lang/Object"), (0, u "()V"), (1, .class_ 23), (1, u "jdk/internal/util/ArraysSupport"), (0, u "LOG2_ARRAY_LONG_INDEX_SCALE"), (0, u "I"), (2, u "U"), (0, u "Ljdk/internal/misc/Unsafe;"), (8, u "BIG_ENDIAN"), (0, u "Z"), (8, u "LOG2_BYTE_BIT_SIZE"), (4, u "LOG2_ARRAY_INT_INDEX_SCALE"), (54, u "JLA"), (0, u "Ljdk/internal/access/JavaLangAccess;"), (11, u "LOG2_ARRAY_BOOLEAN_INDEX_SCALE"), (9, u "LOG2_ARRAY_BYTE_INDEX_SCALE"), (5, u "LOG2_ARRAY_CHAR_INDEX_SCALE"), (5, u "LOG2_ARRAY_SHORT_INDEX_SCALE"), (18, u "LOG2_ARRAY_FLOAT_INDEX_SCALE"), (24, u "LOG2_ARRAY_DOUBLE_INDEX_SCALE"), (89, u "T_BOOLEAN"), (2, u "T_CHAR"), (1, u "T_FLOAT"), (1, u "T_DOUBLE"), (1, u "T_BYTE"), (1, u "T_SHORT"), (1, u "T_INT"), (1, u "T_LONG"), (1, u "SOFT_MAX_ARRAY_LENGTH")] 83

def k16m0 : Method := { name := "<init>", desc := "()V", sig := { parameters := [], returnType := none }, accessFlags := 2, code := none }
/-- jdk/internal/util/ArraysSupport -/
def k16 : Class := { plain "jdk/internal/util/ArraysSupport" (some 0) with
  accessFlags := 33
  interfaces := #[]
  cf := some (fileOf pool16 21 #[] #[{ accessFlags := 2, nameIndex := 9, descriptorIndex := 19, attributes := #[] }] 33 16 #[] #[{ accessFlags := 24, nameIndex := 28, descriptorIndex := 29, attributes := #[] }, { accessFlags := 26, nameIndex := 38, descriptorIndex := 39, attributes := #[] }, { accessFlags := 25, nameIndex := 121, descriptorIndex := 25, attributes := #[] }, { accessFlags := 25, nameIndex := 131, descriptorIndex := 25, attributes := #[] }, { accessFlags := 25, nameIndex := 137, descriptorIndex := 25, attributes := #[] }, { accessFlags := 25, nameIndex := 143, descriptorIndex := 25, attributes := #[] }, { accessFlags := 25, nameIndex := 53, descriptorIndex := 25, attributes := #[] }, { accessFlags := 25, nameIndex := 24, descriptorIndex := 25, attributes := #[] }, { accessFlags := 25, nameIndex := 162, descriptorIndex := 25, attributes := #[] }, { accessFlags := 25, nameIndex := 187, descriptorIndex := 25, attributes := #[] }, { accessFlags := 26, nameIndex := 48, descriptorIndex := 25, attributes := #[] }, { accessFlags := 25, nameIndex := 277, descriptorIndex := 25, attributes := #[] }, { accessFlags := 25, nameIndex := 280, descriptorIndex := 25, attributes := #[] }, { accessFlags := 25, nameIndex := 282, descriptorIndex := 25, attributes := #[] }, { accessFlags := 25, nameIndex := 284, descriptorIndex := 25, attributes := #[] }, { accessFlags := 25, nameIndex := 286, descriptorIndex := 25, attributes := #[] }, { accessFlags := 25, nameIndex := 288, descriptorIndex := 25, attributes := #[] }, { accessFlags := 25, nameIndex := 290, descriptorIndex := 25, attributes := #[] }, { accessFlags := 25, nameIndex := 292, descriptorIndex := 25, attributes := #[] }, { accessFlags := 26, nameIndex := 108, descriptorIndex := 109, attributes := #[] }, { accessFlags := 25, nameIndex := 294, descriptorIndex := 25, attributes := #[] }])
  fields := #[{ name := "U", type := (.object "jdk/internal/misc/Unsafe"), accessFlags := 24, slot := 0, constantValue := 0 }, { name := "BIG_ENDIAN", type := .boolean, accessFlags := 26, slot := 1, constantValue := 0 }, { name := "LOG2_ARRAY_BOOLEAN_INDEX_SCALE", type := .int, accessFlags := 25, slot := 2, constantValue := 0 }, { name := "LOG2_ARRAY_BYTE_INDEX_SCALE", type := .int, accessFlags := 25, slot := 3, constantValue := 0 }, { name := "LOG2_ARRAY_CHAR_INDEX_SCALE", type := .int, accessFlags := 25, slot := 4, constantValue := 0 }, { name := "LOG2_ARRAY_SHORT_INDEX_SCALE", type := .int, accessFlags := 25, slot := 5, constantValue := 0 }, { name := "LOG2_ARRAY_INT_INDEX_SCALE", type := .int, accessFlags := 25, slot := 6, constantValue := 0 }, { name := "LOG2_ARRAY_LONG_INDEX_SCALE", type := .int, accessFlags := 25, slot := 7, constantValue := 0 }, { name := "LOG2_ARRAY_FLOAT_INDEX_SCALE", type := .int, accessFlags := 25, slot := 8, constantValue := 0 }, { name := "LOG2_ARRAY_DOUBLE_INDEX_SCALE", type := .int, accessFlags := 25, slot := 9, constantValue := 0 }, { name := "LOG2_BYTE_BIT_SIZE", type := .int, accessFlags := 26, slot := 10, constantValue := 0 }, { name := "T_BOOLEAN", type := .int, accessFlags := 25, slot := 11, constantValue := 0 }, { name := "T_CHAR", type := .int, accessFlags := 25, slot := 12, constantValue := 0 }, { name := "T_FLOAT", type := .int, accessFlags := 25, slot := 13, constantValue := 0 }, { name := "T_DOUBLE", type := .int, accessFlags := 25, slot := 14, constantValue := 0 }, { name := "T_BYTE", type := .int, accessFlags := 25, slot := 15, constantValue := 0 }, { name := "T_SHORT", type := .int, accessFlags := 25, slot := 16, constantValue := 0 }, { name := "T_INT", type := .int, accessFlags := 25, slot := 17, constantValue := 0 }, { name := "T_LONG", type := .int, accessFlags := 25, slot := 18, constantValue := 0 }, { name := "JLA", type := (.object "jdk/internal/access/JavaLangAccess"), accessFlags := 26, slot := 19, constantValue := 0 }, { name := "SOFT_MAX_ARRAY_LENGTH", type := .int, accessFlags := 25, slot := 20, constantValue := 0 }]
  methods := #[k16m0]
  instanceTypes := #[]
  staticTypes := #[(.object "jdk/internal/misc/Unsafe"), .boolean, .int, .int, .int, .int, .int, .int, .int, .int, .int, .int, .int, .int, .int, .int, .int, .int, .int, (.object "jdk/internal/access/JavaLangAccess"), .int]
  resolved := Array.replicate 378 none
  statics := none }

def pool17 : Array CpInfo := pool [(1, u "java/lang/Cloneable"), (0, .class_ 1), (0, u "java/lang/Object"), (0, .class_ 3)] 3

/-- java/lang/Cloneable -/
def k17 : Class := { plain "java/lang/Cloneable" (some 0) with
  accessFlags := 1537
  interfaces := #[]
  cf := some (fileOf pool17 2 #[] #[] 1537 4 #[] #[])
  fields := #[]
  methods := #[]
  instanceTypes := #[]
  staticTypes := #[]
  resolved := Array.replicate 8 none
  statics := none }

/-- the primitive byte -/
def k18 : Class := { plain "byte" none with kind := .primitive 'B', accessFlags := 0x411 }
/-- [B -/
def k19 : Class := { plain "[B" (some 0) with kind := .array 18 .byte, interfaces := #[17, 2], accessFlags := 1041 }

/-- the primitive char -/
def k20 : Class := { plain "char" none with kind := .primitive 'C', accessFlags := 0x411 }
/-- [C -/
def k21 : Class := { plain "[C" (some 0) with kind := .array 20 .char, interfaces := #[17, 2], accessFlags := 1041 }

/-- the primitive int -/
def k22 : Class := { plain "int" none with kind := .primitive 'I', accessFlags := 0x411 }
/-- [I -/
def k23 : Class := { plain "[I" (some 0) with kind := .array 22 .int, interfaces := #[17, 2], accessFlags := 1041 }

def heap : Heap := #[{ cls := 7, slots := #[.long 0, .int 1, .null, .int 0, .null, .int 0, .int 0], vm := .statics 7 },
  { cls := 12, slots := #[.int 0, .int 8, .int 0, .int 1], vm := .statics 12 },
  { cls := 13, slots := #[.null, .null, .null], vm := .statics 13 }]
def classes : Array Class := #[k0, k1, k2, k3, k4, k5, k6, k7, k8, k9, k10, k11, k12, k13, k14, k15, k16, k17, k18, k19, k20, k21, k22, k23]
def interned : List (Array UInt16 × Addr) := []
def slotsUsed : Nat := 14
def theMethod : MethodId := ⟨1, 9⟩
def args0 : Array Value := #[.long 5, .long 7]
def aboutOver (below : List Frame) : State where
  vm := { classes := classes, interned := interned.toArray }
  heap := heap
  slotsUsed := slotsUsed
  threads := #[{ frames := .invoking theMethod args0 :: below }]
def below0 : List Frame := [.native { method := ⟨0, 0⟩, args := #[] }]
def about1 : State := aboutOver below0
def p0 : Program := .bare "" "" ""
def e0 : Env := launch0.env 0 0 0
theorem w_frames : about1.frames = Frame.invoking theMethod args0 :: below0 := rfl
set_option maxRecDepth 65536 in
theorem w_args : argsFit about1.vm theMethod args0 = true := by decide +kernel
set_option maxRecDepth 65536 in
theorem w_heap : heapFits about1 = true := by decide +kernel
set_option maxRecDepth 65536 in
theorem w_runnable : about1.curStatus? = some .runnable := by decide +kernel
set_option maxRecDepth 65536 in
theorem w_alone : about1.alone = true := by decide +kernel
set_option maxRecDepth 65536 in
theorem w_named : about1.methodNamed? x = some theMethod := by decide +kernel
set_option maxRecDepth 65536 in
theorem w_hears : about1.hears theMethod below0 = true := by decide +kernel
set_option maxRecDepth 65536 in
theorem w_ripe : about1.ripe theMethod args0 below0 = true := by decide +kernel
theorem w_running : about1.status = .running := rfl
set_option maxRecDepth 65536 in
theorem w_room : about1.hasRoom e0.platform room_1 = true :=
  launch0.hasRoom_least _ room_1 (by decide +kernel) (by decide +kernel) (by decide +kernel) (by decide +kernel) (by decide +kernel) (by decide +kernel)
theorem allAtoms_all (ts : List Jvm.Cond) (a : Array Jvm.Value) (st : Jvm.State) : (allAtoms ts).before a st = ts.all (fun c => c.before a st) := by
  induction ts with
  | nil => rfl
  | cons c t ih =>
    show (Jvm.Cond.and c (allAtoms t)).before a st = _
    rw [Jvm.Cond.before_and, ih, List.all_cons]
def words1 : List Jvm.Cond := Jvm.Cond.code x code maxLocals ret :: tables_1
/-- a 'code' word, met by the world's own term for the bytes: nothing is compared byte by byte -/
theorem code_word {y : MethodName} {bytes : ByteArray} {mx : Nat} {rt : Option FieldType} {a : Array Value} {s : State} {m : MethodId} {meth : Method} {c : Code} (h1 : s.methodNamed? y = some m) (h2 : s.vm.method? m = some meth) (h3 : meth.code = some c) (h4 : c.code = bytes)
    (h5 : (c.maxLocals == mx && c.exceptionTable.isEmpty && decide (c.maxStack ≤ mostOperands) && decide (meth.sig.returnType = rt) && !meth.locks && decide (parseMethodDescriptor y.desc = some meth.sig)) = true) : (Jvm.Cond.code y bytes mx rt).before a s = true := by
  simp only [Bool.and_eq_true, beq_iff_eq, Bool.not_eq_true', decide_eq_true_eq] at h5
  obtain ⟨⟨⟨⟨⟨g1, g2⟩, g3⟩, g4⟩, g5⟩, g6⟩ := h5
  simp [Cond.before, Cond.holds, Cond.value, h1, h2, h3, h4, g1, g2, g3, g4, g5, g6]
def isCode : Jvm.Cond → Bool
  | .code _ _ _ _ => true
  | _ => false
theorem all_split {L : List Jvm.Cond} {P : Jvm.Cond → Bool} (h1 : L.all (fun c => isCode c || P c) = true) (h2 : ∀ c ∈ L.filter isCode, P c = true) : L.all P = true := by
  refine List.all_eq_true.mpr fun c hc => ?_
  have h := List.all_eq_true.mp h1 c hc
  rcases Bool.eq_false_or_eq_true (isCode c) with hi | hi
  · exact h2 c (List.mem_filter.mpr ⟨hc, hi⟩)
  · simpa [hi] using h
set_option maxRecDepth 65536 in
theorem w_c0 : (Jvm.Cond.code x code maxLocals ret).before args0 about1 = true := code_word (m := ⟨1, 9⟩) (meth := k1m9) (c := k1c9) (by decide +kernel) rfl rfl rfl (by decide +kernel)
set_option maxRecDepth 65536 in
theorem w_c1 : (Jvm.Cond.code ({ cls := "com/example/cited_experts/citedexperts/Utf8OrderComparePinLaw", name := "pick", desc := "(J)C" } : Jvm.MethodName) method_2_code (4 : Nat) (Option.some Jvm.ClassFile.FieldType.char)).before args0 about1 = true := code_word (m := ⟨1, 1⟩) (meth := k1m1) (c := k1c1) (by decide +kernel) rfl rfl rfl (by decide +kernel)
set_option maxRecDepth 65536 in
theorem w_c2 : (Jvm.Cond.code ({ cls := "com/example/cited_experts/citedexperts/Utf8OrderComparePinLaw", name := "str", desc := "(CCCI)Ljava/lang/String;" } : Jvm.MethodName) method_6_code (5 : Nat) (Option.some (Jvm.ClassFile.FieldType.object "java/lang/String"))).before args0 about1 = true := code_word (m := ⟨1, 5⟩) (meth := k1m5) (c := k1c5) (by decide +kernel) rfl rfl rfl (by decide +kernel)
set_option maxRecDepth 65536 in
theorem w_c3 : (Jvm.Cond.code ({ cls := "java/lang/String", name := "<init>", desc := "([C)V" } : Jvm.MethodName) jdk_42_method_3_code (2 : Nat) (Option.none : Option Jvm.ClassFile.FieldType)).before args0 about1 = true := code_word (m := ⟨7, 1⟩) (meth := k7m1) (c := k7c1) (by decide +kernel) rfl rfl rfl (by decide +kernel)
set_option maxRecDepth 65536 in
theorem w_c4 : (Jvm.Cond.code ({ cls := "java/lang/String", name := "<init>", desc := "([CIILjava/lang/Void;)V" } : Jvm.MethodName) jdk_42_method_149_code (6 : Nat) (Option.none : Option Jvm.ClassFile.FieldType)).before args0 about1 = true := code_word (m := ⟨7, 4⟩) (meth := k7m4) (c := k7c4) (by decide +kernel) rfl rfl rfl (by decide +kernel)
set_option maxRecDepth 65536 in
theorem w_c5 : (Jvm.Cond.code ({ cls := "java/lang/Object", name := "<init>", desc := "()V" } : Jvm.MethodName) object_method_1_code (1 : Nat) (Option.none : Option Jvm.ClassFile.FieldType)).before args0 about1 = true := code_word (m := ⟨0, 0⟩) (meth := k0m0) (c := k0c0) (by decide +kernel) rfl rfl rfl (by decide +kernel)
set_option maxRecDepth 65536 in
theorem w_c6 : (Jvm.Cond.code ({ cls := "com/example/cited_experts/citedexperts/Utf8Order", name := "compare", desc := "(Ljava/lang/String;Ljava/lang/String;)I" } : Jvm.MethodName) prog_25_method_2_code (5 : Nat) (Option.some Jvm.ClassFile.FieldType.int)).before args0 about1 = true := code_word (m := ⟨8, 1⟩) (meth := k8m1) (c := k8c1) (by decide +kernel) rfl rfl rfl (by decide +kernel)
set_option maxRecDepth 65536 in
theorem w_c7 : (Jvm.Cond.code ({ cls := "java/lang/String", name := "length", desc := "()I" } : Jvm.MethodName) jdk_42_method_54_code (1 : Nat) (Option.some Jvm.ClassFile.FieldType.int)).before args0 about1 = true := code_word (m := ⟨7, 2⟩) (meth := k7m2) (c := k7c2) (by decide +kernel) rfl rfl rfl (by decide +kernel)
set_option maxRecDepth 65536 in
theorem w_c8 : (Jvm.Cond.code ({ cls := "java/lang/String", name := "coder", desc := "()B" } : Jvm.MethodName) jdk_42_method_152_code (1 : Nat) (Option.some Jvm.ClassFile.FieldType.byte)).before args0 about1 = true := code_word (m := ⟨7, 5⟩) (meth := k7m5) (c := k7c5) (by decide +kernel) rfl rfl rfl (by decide +kernel)
set_option maxRecDepth 65536 in
theorem w_c9 : (Jvm.Cond.code ({ cls := "java/lang/Integer", name := "compare", desc := "(II)I" } : Jvm.MethodName) jdk_33_method_40_code (2 : Nat) (Option.some Jvm.ClassFile.FieldType.int)).before args0 about1 = true := code_word (m := ⟨10, 0⟩) (meth := k10m0) (c := k10c0) (by decide +kernel) rfl rfl rfl (by decide +kernel)
set_option maxRecDepth 65536 in
theorem w_c10 : (Jvm.Cond.code ({ cls := "com/example/cited_experts/citedexperts/Utf8OrderComparePinLaw", name := "points", desc := "(CCCI)[I" } : Jvm.MethodName) method_7_code (5 : Nat) (Option.some (Jvm.ClassFile.FieldType.array Jvm.ClassFile.FieldType.int))).before args0 about1 = true := code_word (m := ⟨1, 6⟩) (meth := k1m6) (c := k1c6) (by decide +kernel) rfl rfl rfl (by decide +kernel)
set_option maxRecDepth 65536 in
theorem w_c11 : (Jvm.Cond.code ({ cls := "com/example/cited_experts/citedexperts/Utf8OrderComparePinLaw", name := "lex", desc := "([I[I)I" } : Jvm.MethodName) method_8_code (3 : Nat) (Option.some Jvm.ClassFile.FieldType.int)).before args0 about1 = true := code_word (m := ⟨1, 7⟩) (meth := k1m7) (c := k1c7) (by decide +kernel) rfl rfl rfl (by decide +kernel)
set_option maxRecDepth 65536 in
theorem w_c12 : (Jvm.Cond.code ({ cls := "java/lang/Math", name := "min", desc := "(II)I" } : Jvm.MethodName) jdk_29_method_69_code (2 : Nat) (Option.some Jvm.ClassFile.FieldType.int)).before args0 about1 = true := code_word (m := ⟨11, 1⟩) (meth := k11m1) (c := k11c1) (by decide +kernel) rfl rfl rfl (by decide +kernel)
set_option maxRecDepth 65536 in
theorem w_c13 : (Jvm.Cond.code ({ cls := "com/example/cited_experts/citedexperts/Utf8OrderComparePinLaw", name := "sign", desc := "(I)I" } : Jvm.MethodName) method_9_code (1 : Nat) (Option.some Jvm.ClassFile.FieldType.int)).before args0 about1 = true := code_word (m := ⟨1, 8⟩) (meth := k1m8) (c := k1c8) (by decide +kernel) rfl rfl rfl (by decide +kernel)
set_option maxRecDepth 65536 in
theorem w_c14 : (Jvm.Cond.code ({ cls := "java/lang/StringUTF16", name := "compress", desc := "([CII)[B" } : Jvm.MethodName) jdk_52_method_16_code (6 : Nat) (Option.some (Jvm.ClassFile.FieldType.array Jvm.ClassFile.FieldType.byte))).before args0 about1 = true := code_word (m := ⟨12, 9⟩) (meth := k12m9) (c := k12c9) (by decide +kernel) rfl rfl rfl (by decide +kernel)
set_option maxRecDepth 65536 in
theorem w_c15 : (Jvm.Cond.code ({ cls := "java/lang/StringUTF16", name := "compress", desc := "([CI[BII)I" } : Jvm.MethodName) jdk_52_method_21_code (7 : Nat) (Option.some Jvm.ClassFile.FieldType.int)).before args0 about1 = true := code_word (m := ⟨12, 10⟩) (meth := k12m10) (c := k12c10) (by decide +kernel) rfl rfl rfl (by decide +kernel)
set_option maxRecDepth 65536 in
theorem w_c16 : (Jvm.Cond.code ({ cls := "java/lang/StringUTF16", name := "toBytes", desc := "([CII)[B" } : Jvm.MethodName) jdk_52_method_14_code (5 : Nat) (Option.some (Jvm.ClassFile.FieldType.array Jvm.ClassFile.FieldType.byte))).before args0 about1 = true := code_word (m := ⟨12, 7⟩) (meth := k12m7) (c := k12c7) (by decide +kernel) rfl rfl rfl (by decide +kernel)
set_option maxRecDepth 65536 in
theorem w_c17 : (Jvm.Cond.code ({ cls := "java/lang/StringUTF16", name := "newBytesFor", desc := "(I)[B" } : Jvm.MethodName) jdk_52_method_2_code (1 : Nat) (Option.some (Jvm.ClassFile.FieldType.array Jvm.ClassFile.FieldType.byte))).before args0 about1 = true := code_word (m := ⟨12, 1⟩) (meth := k12m1) (c := k12c1) (by decide +kernel) rfl rfl rfl (by decide +kernel)
set_option maxRecDepth 65536 in
theorem w_c18 : (Jvm.Cond.code ({ cls := "java/lang/StringUTF16", name := "newBytesLength", desc := "(I)I" } : Jvm.MethodName) jdk_52_method_3_code (1 : Nat) (Option.some Jvm.ClassFile.FieldType.int)).before args0 about1 = true := code_word (m := ⟨12, 2⟩) (meth := k12m2) (c := k12c2) (by decide +kernel) rfl rfl rfl (by decide +kernel)
set_option maxRecDepth 65536 in
theorem w_c19 : (Jvm.Cond.code ({ cls := "java/lang/StringUTF16", name := "putChar", desc := "([BII)V" } : Jvm.MethodName) jdk_52_method_4_code (3 : Nat) (Option.none : Option Jvm.ClassFile.FieldType)).before args0 about1 = true := code_word (m := ⟨12, 3⟩) (meth := k12m3) (c := k12c3) (by decide +kernel) rfl rfl rfl (by decide +kernel)
set_option maxRecDepth 65536 in
theorem w_c20 : (Jvm.Cond.code ({ cls := "java/lang/StringUTF16", name := "getChar", desc := "([BI)C" } : Jvm.MethodName) jdk_52_method_5_code (2 : Nat) (Option.some Jvm.ClassFile.FieldType.char)).before args0 about1 = true := code_word (m := ⟨12, 4⟩) (meth := k12m4) (c := k12c4) (by decide +kernel) rfl rfl rfl (by decide +kernel)
set_option maxRecDepth 65536 in
theorem w_c21 : (Jvm.Cond.code ({ cls := "java/lang/StringUTF16", name := "coderFromArrayLen", desc := "([BI)B" } : Jvm.MethodName) jdk_52_method_15_code (2 : Nat) (Option.some Jvm.ClassFile.FieldType.byte)).before args0 about1 = true := code_word (m := ⟨12, 8⟩) (meth := k12m8) (c := k12c8) (by decide +kernel) rfl rfl rfl (by decide +kernel)
set_option maxRecDepth 65536 in
theorem w_c22 : (Jvm.Cond.code ({ cls := "com/example/cited_experts/citedexperts/Utf8OrderComparePinLaw", name := "hi", desc := "(C)Z" } : Jvm.MethodName) method_3_code (1 : Nat) (Option.some Jvm.ClassFile.FieldType.boolean)).before args0 about1 = true := code_word (m := ⟨1, 2⟩) (meth := k1m2) (c := k1c2) (by decide +kernel) rfl rfl rfl (by decide +kernel)
set_option maxRecDepth 65536 in
theorem w_c23 : (Jvm.Cond.code ({ cls := "java/lang/String", name := "codePointAt", desc := "(I)I" } : Jvm.MethodName) jdk_42_method_57_code (3 : Nat) (Option.some Jvm.ClassFile.FieldType.int)).before args0 about1 = true := code_word (m := ⟨7, 3⟩) (meth := k7m3) (c := k7c3) (by decide +kernel) rfl rfl rfl (by decide +kernel)
set_option maxRecDepth 65536 in
theorem w_c24 : (Jvm.Cond.code ({ cls := "java/lang/String", name := "isLatin1", desc := "()Z" } : Jvm.MethodName) jdk_42_method_154_code (1 : Nat) (Option.some Jvm.ClassFile.FieldType.boolean)).before args0 about1 = true := code_word (m := ⟨7, 6⟩) (meth := k7m6) (c := k7c6) (by decide +kernel) rfl rfl rfl (by decide +kernel)
set_option maxRecDepth 65536 in
theorem w_c25 : (Jvm.Cond.code ({ cls := "java/lang/String", name := "checkIndex", desc := "(II)V" } : Jvm.MethodName) jdk_42_method_155_code (2 : Nat) (Option.none : Option Jvm.ClassFile.FieldType)).before args0 about1 = true := code_word (m := ⟨7, 7⟩) (meth := k7m7) (c := k7c7) (by decide +kernel) rfl rfl rfl (by decide +kernel)
set_option maxRecDepth 65536 in
theorem w_c26 : (Jvm.Cond.code ({ cls := "jdk/internal/util/Preconditions", name := "checkIndex", desc := "(IILjava/util/function/BiFunction;)I" } : Jvm.MethodName) jdk_41_method_11_code (3 : Nat) (Option.some Jvm.ClassFile.FieldType.int)).before args0 about1 = true := code_word (m := ⟨13, 1⟩) (meth := k13m1) (c := k13c1) (by decide +kernel) rfl rfl rfl (by decide +kernel)
set_option maxRecDepth 65536 in
theorem w_c27 : (Jvm.Cond.code ({ cls := "java/lang/StringUTF16", name := "codePointAt", desc := "([BII)I" } : Jvm.MethodName) jdk_52_method_8_code (3 : Nat) (Option.some Jvm.ClassFile.FieldType.int)).before args0 about1 = true := code_word (m := ⟨12, 6⟩) (meth := k12m6) (c := k12c6) (by decide +kernel) rfl rfl rfl (by decide +kernel)
set_option maxRecDepth 65536 in
theorem w_c28 : (Jvm.Cond.code ({ cls := "java/lang/StringUTF16", name := "codePointAt", desc := "([BIIZ)I" } : Jvm.MethodName) jdk_52_method_7_code (6 : Nat) (Option.some Jvm.ClassFile.FieldType.int)).before args0 about1 = true := code_word (m := ⟨12, 5⟩) (meth := k12m5) (c := k12c5) (by decide +kernel) rfl rfl rfl (by decide +kernel)
set_option maxRecDepth 65536 in
theorem w_c29 : (Jvm.Cond.code ({ cls := "java/lang/Character", name := "isHighSurrogate", desc := "(C)Z" } : Jvm.MethodName) jdk_89_method_14_code (1 : Nat) (Option.some Jvm.ClassFile.FieldType.boolean)).before args0 about1 = true := code_word (m := ⟨14, 0⟩) (meth := k14m0) (c := k14c0) (by decide +kernel) rfl rfl rfl (by decide +kernel)
set_option maxRecDepth 65536 in
theorem w_c30 : (Jvm.Cond.code ({ cls := "java/lang/Character", name := "charCount", desc := "(I)I" } : Jvm.MethodName) jdk_89_method_18_code (1 : Nat) (Option.some Jvm.ClassFile.FieldType.int)).before args0 about1 = true := code_word (m := ⟨14, 2⟩) (meth := k14m2) (c := k14c2) (by decide +kernel) rfl rfl rfl (by decide +kernel)
set_option maxRecDepth 65536 in
theorem w_c31 : (Jvm.Cond.code ({ cls := "java/lang/Character", name := "isLowSurrogate", desc := "(C)Z" } : Jvm.MethodName) jdk_89_method_15_code (1 : Nat) (Option.some Jvm.ClassFile.FieldType.boolean)).before args0 about1 = true := code_word (m := ⟨14, 1⟩) (meth := k14m1) (c := k14c1) (by decide +kernel) rfl rfl rfl (by decide +kernel)
set_option maxRecDepth 65536 in
theorem w_c32 : (Jvm.Cond.code ({ cls := "com/example/cited_experts/citedexperts/Utf8OrderComparePinLaw", name := "lo", desc := "(C)Z" } : Jvm.MethodName) method_4_code (1 : Nat) (Option.some Jvm.ClassFile.FieldType.boolean)).before args0 about1 = true := code_word (m := ⟨1, 3⟩) (meth := k1m3) (c := k1c3) (by decide +kernel) rfl rfl rfl (by decide +kernel)
set_option maxRecDepth 65536 in
theorem w_c33 : (Jvm.Cond.code ({ cls := "java/lang/Character", name := "toCodePoint", desc := "(CC)I" } : Jvm.MethodName) jdk_89_method_19_code (2 : Nat) (Option.some Jvm.ClassFile.FieldType.int)).before args0 about1 = true := code_word (m := ⟨14, 3⟩) (meth := k14m3) (c := k14c3) (by decide +kernel) rfl rfl rfl (by decide +kernel)
set_option maxRecDepth 65536 in
theorem w_c34 : (Jvm.Cond.code ({ cls := "com/example/cited_experts/citedexperts/Utf8OrderComparePinLaw", name := "pair", desc := "(CC)I" } : Jvm.MethodName) method_5_code (2 : Nat) (Option.some Jvm.ClassFile.FieldType.int)).before args0 about1 = true := code_word (m := ⟨1, 4⟩) (meth := k1m4) (c := k1c4) (by decide +kernel) rfl rfl rfl (by decide +kernel)
def codes1 : List Jvm.Cond := [Jvm.Cond.code x code maxLocals ret, Jvm.Cond.code ({ cls := "com/example/cited_experts/citedexperts/Utf8OrderComparePinLaw", name := "pick", desc := "(J)C" } : Jvm.MethodName) method_2_code (4 : Nat) (Option.some Jvm.ClassFile.FieldType.char), Jvm.Cond.code ({ cls := "com/example/cited_experts/citedexperts/Utf8OrderComparePinLaw", name := "str", desc := "(CCCI)Ljava/lang/String;" } : Jvm.MethodName) method_6_code (5 : Nat) (Option.some (Jvm.ClassFile.FieldType.object "java/lang/String")), Jvm.Cond.code ({ cls := "java/lang/String", name := "<init>", desc := "([C)V" } : Jvm.MethodName) jdk_42_method_3_code (2 : Nat) (Option.none : Option Jvm.ClassFile.FieldType), Jvm.Cond.code ({ cls := "java/lang/String", name := "<init>", desc := "([CIILjava/lang/Void;)V" } : Jvm.MethodName) jdk_42_method_149_code (6 : Nat) (Option.none : Option Jvm.ClassFile.FieldType), Jvm.Cond.code ({ cls := "java/lang/Object", name := "<init>", desc := "()V" } : Jvm.MethodName) object_method_1_code (1 : Nat) (Option.none : Option Jvm.ClassFile.FieldType), Jvm.Cond.code ({ cls := "com/example/cited_experts/citedexperts/Utf8Order", name := "compare", desc := "(Ljava/lang/String;Ljava/lang/String;)I" } : Jvm.MethodName) prog_25_method_2_code (5 : Nat) (Option.some Jvm.ClassFile.FieldType.int), Jvm.Cond.code ({ cls := "java/lang/String", name := "length", desc := "()I" } : Jvm.MethodName) jdk_42_method_54_code (1 : Nat) (Option.some Jvm.ClassFile.FieldType.int), Jvm.Cond.code ({ cls := "java/lang/String", name := "coder", desc := "()B" } : Jvm.MethodName) jdk_42_method_152_code (1 : Nat) (Option.some Jvm.ClassFile.FieldType.byte), Jvm.Cond.code ({ cls := "java/lang/Integer", name := "compare", desc := "(II)I" } : Jvm.MethodName) jdk_33_method_40_code (2 : Nat) (Option.some Jvm.ClassFile.FieldType.int), Jvm.Cond.code ({ cls := "com/example/cited_experts/citedexperts/Utf8OrderComparePinLaw", name := "points", desc := "(CCCI)[I" } : Jvm.MethodName) method_7_code (5 : Nat) (Option.some (Jvm.ClassFile.FieldType.array Jvm.ClassFile.FieldType.int)), Jvm.Cond.code ({ cls := "com/example/cited_experts/citedexperts/Utf8OrderComparePinLaw", name := "lex", desc := "([I[I)I" } : Jvm.MethodName) method_8_code (3 : Nat) (Option.some Jvm.ClassFile.FieldType.int), Jvm.Cond.code ({ cls := "java/lang/Math", name := "min", desc := "(II)I" } : Jvm.MethodName) jdk_29_method_69_code (2 : Nat) (Option.some Jvm.ClassFile.FieldType.int), Jvm.Cond.code ({ cls := "com/example/cited_experts/citedexperts/Utf8OrderComparePinLaw", name := "sign", desc := "(I)I" } : Jvm.MethodName) method_9_code (1 : Nat) (Option.some Jvm.ClassFile.FieldType.int), Jvm.Cond.code ({ cls := "java/lang/StringUTF16", name := "compress", desc := "([CII)[B" } : Jvm.MethodName) jdk_52_method_16_code (6 : Nat) (Option.some (Jvm.ClassFile.FieldType.array Jvm.ClassFile.FieldType.byte)), Jvm.Cond.code ({ cls := "java/lang/StringUTF16", name := "compress", desc := "([CI[BII)I" } : Jvm.MethodName) jdk_52_method_21_code (7 : Nat) (Option.some Jvm.ClassFile.FieldType.int), Jvm.Cond.code ({ cls := "java/lang/StringUTF16", name := "toBytes", desc := "([CII)[B" } : Jvm.MethodName) jdk_52_method_14_code (5 : Nat) (Option.some (Jvm.ClassFile.FieldType.array Jvm.ClassFile.FieldType.byte)), Jvm.Cond.code ({ cls := "java/lang/StringUTF16", name := "newBytesFor", desc := "(I)[B" } : Jvm.MethodName) jdk_52_method_2_code (1 : Nat) (Option.some (Jvm.ClassFile.FieldType.array Jvm.ClassFile.FieldType.byte)), Jvm.Cond.code ({ cls := "java/lang/StringUTF16", name := "newBytesLength", desc := "(I)I" } : Jvm.MethodName) jdk_52_method_3_code (1 : Nat) (Option.some Jvm.ClassFile.FieldType.int), Jvm.Cond.code ({ cls := "java/lang/StringUTF16", name := "putChar", desc := "([BII)V" } : Jvm.MethodName) jdk_52_method_4_code (3 : Nat) (Option.none : Option Jvm.ClassFile.FieldType), Jvm.Cond.code ({ cls := "java/lang/StringUTF16", name := "getChar", desc := "([BI)C" } : Jvm.MethodName) jdk_52_method_5_code (2 : Nat) (Option.some Jvm.ClassFile.FieldType.char), Jvm.Cond.code ({ cls := "java/lang/StringUTF16", name := "coderFromArrayLen", desc := "([BI)B" } : Jvm.MethodName) jdk_52_method_15_code (2 : Nat) (Option.some Jvm.ClassFile.FieldType.byte), Jvm.Cond.code ({ cls := "com/example/cited_experts/citedexperts/Utf8OrderComparePinLaw", name := "hi", desc := "(C)Z" } : Jvm.MethodName) method_3_code (1 : Nat) (Option.some Jvm.ClassFile.FieldType.boolean), Jvm.Cond.code ({ cls := "java/lang/String", name := "codePointAt", desc := "(I)I" } : Jvm.MethodName) jdk_42_method_57_code (3 : Nat) (Option.some Jvm.ClassFile.FieldType.int), Jvm.Cond.code ({ cls := "java/lang/String", name := "isLatin1", desc := "()Z" } : Jvm.MethodName) jdk_42_method_154_code (1 : Nat) (Option.some Jvm.ClassFile.FieldType.boolean), Jvm.Cond.code ({ cls := "java/lang/String", name := "checkIndex", desc := "(II)V" } : Jvm.MethodName) jdk_42_method_155_code (2 : Nat) (Option.none : Option Jvm.ClassFile.FieldType), Jvm.Cond.code ({ cls := "jdk/internal/util/Preconditions", name := "checkIndex", desc := "(IILjava/util/function/BiFunction;)I" } : Jvm.MethodName) jdk_41_method_11_code (3 : Nat) (Option.some Jvm.ClassFile.FieldType.int), Jvm.Cond.code ({ cls := "java/lang/StringUTF16", name := "codePointAt", desc := "([BII)I" } : Jvm.MethodName) jdk_52_method_8_code (3 : Nat) (Option.some Jvm.ClassFile.FieldType.int), Jvm.Cond.code ({ cls := "java/lang/StringUTF16", name := "codePointAt", desc := "([BIIZ)I" } : Jvm.MethodName) jdk_52_method_7_code (6 : Nat) (Option.some Jvm.ClassFile.FieldType.int), Jvm.Cond.code ({ cls := "java/lang/Character", name := "isHighSurrogate", desc := "(C)Z" } : Jvm.MethodName) jdk_89_method_14_code (1 : Nat) (Option.some Jvm.ClassFile.FieldType.boolean), Jvm.Cond.code ({ cls := "java/lang/Character", name := "charCount", desc := "(I)I" } : Jvm.MethodName) jdk_89_method_18_code (1 : Nat) (Option.some Jvm.ClassFile.FieldType.int), Jvm.Cond.code ({ cls := "java/lang/Character", name := "isLowSurrogate", desc := "(C)Z" } : Jvm.MethodName) jdk_89_method_15_code (1 : Nat) (Option.some Jvm.ClassFile.FieldType.boolean), Jvm.Cond.code ({ cls := "com/example/cited_experts/citedexperts/Utf8OrderComparePinLaw", name := "lo", desc := "(C)Z" } : Jvm.MethodName) method_4_code (1 : Nat) (Option.some Jvm.ClassFile.FieldType.boolean), Jvm.Cond.code ({ cls := "java/lang/Character", name := "toCodePoint", desc := "(CC)I" } : Jvm.MethodName) jdk_89_method_19_code (2 : Nat) (Option.some Jvm.ClassFile.FieldType.int), Jvm.Cond.code ({ cls := "com/example/cited_experts/citedexperts/Utf8OrderComparePinLaw", name := "pair", desc := "(CC)I" } : Jvm.MethodName) method_5_code (2 : Nat) (Option.some Jvm.ClassFile.FieldType.int)]
set_option maxRecDepth 65536 in
theorem codes_eq : words1.filter isCode = codes1 := rfl
theorem w_codes : ∀ c ∈ words1.filter isCode, c.before args0 about1 = true := by
  rw [codes_eq]
  intro c hc
  simp only [codes1, List.mem_cons, List.not_mem_nil, or_false] at hc
  rcases hc with rfl | rfl | rfl | rfl | rfl | rfl | rfl | rfl | rfl | rfl | rfl | rfl | rfl | rfl | rfl | rfl | rfl | rfl | rfl | rfl | rfl | rfl | rfl | rfl | rfl | rfl | rfl | rfl | rfl | rfl | rfl | rfl | rfl | rfl | rfl
  · exact w_c0
  · exact w_c1
  · exact w_c2
  · exact w_c3
  · exact w_c4
  · exact w_c5
  · exact w_c6
  · exact w_c7
  · exact w_c8
  · exact w_c9
  · exact w_c10
  · exact w_c11
  · exact w_c12
  · exact w_c13
  · exact w_c14
  · exact w_c15
  · exact w_c16
  · exact w_c17
  · exact w_c18
  · exact w_c19
  · exact w_c20
  · exact w_c21
  · exact w_c22
  · exact w_c23
  · exact w_c24
  · exact w_c25
  · exact w_c26
  · exact w_c27
  · exact w_c28
  · exact w_c29
  · exact w_c30
  · exact w_c31
  · exact w_c32
  · exact w_c33
  · exact w_c34
set_option maxRecDepth 65536 in
theorem w_t1 : (words1.take 24).all (fun c => isCode c || c.before args0 about1) = true := by decide +kernel
set_option maxRecDepth 65536 in
theorem w_t2 : ((words1.drop 24).take 24).all (fun c => isCode c || c.before args0 about1) = true := by decide +kernel
set_option maxRecDepth 65536 in
theorem w_t3 : (((words1.drop 24).drop 24).take 24).all (fun c => isCode c || c.before args0 about1) = true := by decide +kernel
set_option maxRecDepth 65536 in
theorem w_t4 : ((((words1.drop 24).drop 24).drop 24).take 24).all (fun c => isCode c || c.before args0 about1) = true := by decide +kernel
set_option maxRecDepth 65536 in
theorem w_t5 : (((((words1.drop 24).drop 24).drop 24).drop 24).take 24).all (fun c => isCode c || c.before args0 about1) = true := by decide +kernel
set_option maxRecDepth 65536 in
theorem w_t6 : ((((((words1.drop 24).drop 24).drop 24).drop 24).drop 24).take 24).all (fun c => isCode c || c.before args0 about1) = true := by decide +kernel
set_option maxRecDepth 65536 in
theorem w_t7 : ((((((words1.drop 24).drop 24).drop 24).drop 24).drop 24).drop 24).all (fun c => isCode c || c.before args0 about1) = true := by decide +kernel
theorem w_tables : (allAtoms (Jvm.Cond.code x code maxLocals ret :: tables_1)).before args0 about1 = true := by
  rw [allAtoms_all]
  show words1.all (fun c => c.before args0 about1) = true
  refine all_split ?_ w_codes
  rw [← List.take_append_drop 24 words1, List.all_append, w_t1, ← List.take_append_drop 24 (words1.drop 24), List.all_append, w_t2, ← List.take_append_drop 24 ((words1.drop 24).drop 24), List.all_append, w_t3, ← List.take_append_drop 24 (((words1.drop 24).drop 24).drop 24), List.all_append, w_t4, ← List.take_append_drop 24 ((((words1.drop 24).drop 24).drop 24).drop 24), List.all_append, w_t5, ← List.take_append_drop 24 (((((words1.drop 24).drop 24).drop 24).drop 24).drop 24), List.all_append, w_t6, w_t7]
  rfl
set_option maxRecDepth 65536 in
theorem w_rest : rest_1_c.before args0 about1 = true := by decide +kernel
set_option maxRecDepth 65536 in
theorem w_case : (Jvm.Cond.and given_1 narrow_1).before args0 about1 = true := by decide +kernel
set_option maxRecDepth 65536 in
theorem w_consts : constsHeld consts_1 about1 := Jvm.Lit.constsHeldB_iff.mp (by decide +kernel)
theorem w_applies : (headSpec (Jvm.Cond.code x code maxLocals ret :: tables_1) room_1).applies x e0.platform about1 = true :=
  (Spec.applies_iff w_frames).mpr ⟨w_running, w_runnable, w_alone, w_named, w_hears, w_ripe, w_room, w_tables⟩
theorem atStart : AtStart classFile x code maxLocals ret World_1 tables_1 room_1 Calls_1 rest_1 Pre_1 launch0 p0 e0 about1 theMethod args0 below0 :=
  ⟨lists_1, trivial, launch0.admits_env _ _ _, launch0.least_env, fairChoices_fair.cas, fairChoices_fair.clock, w_frames, w_args, w_heap, w_applies, ⟨w_consts, trivial⟩, w_rest, w_case⟩
end start1
theorem witness_1 : WitnessClaimed_1 := ⟨start1.p0, start1.e0, start1.about1, start1.theMethod, start1.args0, start1.below0, start1.atStart⟩
end Jvm.Pilot.@@N@@
