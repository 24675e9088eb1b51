import JvmDerived
import JvmDerived.Pilot.@@N@@Statement
import JvmDerived.Pilot.@@N@@Code
set_option linter.unusedVariables false
set_option linter.unusedSimpArgs false
namespace Jvm.Pilot.@@N@@
open Jvm Jvm.ClassFile Sem Op Lib Jvm.Free Jvm.Stand Jvm.LawKit Jvm.RoadKit Bundle Jvm.Pilot.@@N@@.Jvm.D
/-! from A on the run returns, and F holds of the end -/
def own_Goes (p : Program) (e : Env) (below : List Frame) (F : State → Outcome → Prop) (A : State) : Prop := ∃ s₂ o, Steps p.tables e below A s₂ ∧ s₂.status = .running ∧ Ended s₂ below o ∧ F s₂ o
/-- the narrow end: Q of what it returned, of the heap and of the places written; the frame -/
def own_FN (s : State) (Q : Option Value → Heap → List Loc → Prop) (k n : Nat) : State → Outcome → Prop := fun s₂ o => ∃ v L, o = .returned v ∧ Q v s₂.heap L ∧ FrameEnd s o s₂ L k n
section OwnGoes
variable {p : Program} {l : Launch} {e : Env} {R : Room} {s : State} {m : MethodId} {args : Array Value} {below : List Frame} {meth : Method} {c : Code} {T : State} {locs : List Loc} {cells slots : Nat} {Q : Option Value → Heap → List Loc → Prop} {k n : Nat} {F : State → Outcome → Prop}
theorem own_to {A B : State} (h : ∀ t, Steps p.tables e below B t → Steps p.tables e below A t) (g : own_Goes p e below F B) : own_Goes p e below F A := by
  obtain ⟨s₂, o, h1, r⟩ := g
  exact ⟨s₂, o, h _ h1, r⟩
theorem own_tr {A B : State} (h : Steps p.tables e below A B) (g : own_Goes p e below F B) : own_Goes p e below F A := own_to (fun t q => h.trans q) g
/-! the shapes of a step: what lies on the stack and in the locals behind it -/
theorem own_tp {T' : State} {pc : Nat} {L : Array Slot} {S : List Value} (w : Value) (pc' : Nat) (h : ∀ t, Steps p.tables e below (T'.setTop (mkF m pc' L (w :: S))) t → Steps p.tables e below (T.setTop (mkF m pc L S)) t) (g : own_Goes p e below F (T'.setTop (mkF m pc' L (w :: S)))) : own_Goes p e below F (T.setTop (mkF m pc L S)) := own_to h g
theorem own_t1 {T' : State} {pc : Nat} {L : Array Slot} {S : List Value} {x : Value} (w : Value) (pc' : Nat) (h : ∀ t, Steps p.tables e below (T'.setTop (mkF m pc' L (w :: S))) t → Steps p.tables e below (T.setTop (mkF m pc L (x :: S))) t) (g : own_Goes p e below F (T'.setTop (mkF m pc' L (w :: S)))) : own_Goes p e below F (T.setTop (mkF m pc L (x :: S))) := own_to h g
theorem own_t2 {T' : State} {pc : Nat} {L : Array Slot} {S : List Value} {x y : Value} (w : Value) (pc' : Nat) (h : ∀ t, Steps p.tables e below (T'.setTop (mkF m pc' L (w :: S))) t → Steps p.tables e below (T.setTop (mkF m pc L (x :: y :: S))) t) (g : own_Goes p e below F (T'.setTop (mkF m pc' L (w :: S)))) : own_Goes p e below F (T.setTop (mkF m pc L (x :: y :: S))) := own_to h g
theorem own_d0 {T' : State} {pc : Nat} {L : Array Slot} {S : List Value} (pc' : Nat) (h : ∀ t, Steps p.tables e below (T'.setTop (mkF m pc' L S)) t → Steps p.tables e below (T.setTop (mkF m pc L S)) t) (g : own_Goes p e below F (T'.setTop (mkF m pc' L S))) : own_Goes p e below F (T.setTop (mkF m pc L S)) := own_to h g
theorem own_d1 {T' : State} {pc : Nat} {L : Array Slot} {S : List Value} {x : Value} (pc' : Nat) (h : ∀ t, Steps p.tables e below (T'.setTop (mkF m pc' L S)) t → Steps p.tables e below (T.setTop (mkF m pc L (x :: S))) t) (g : own_Goes p e below F (T'.setTop (mkF m pc' L S))) : own_Goes p e below F (T.setTop (mkF m pc L (x :: S))) := own_to h g
theorem own_d2 {T' : State} {pc : Nat} {L : Array Slot} {S : List Value} {x y : Value} (pc' : Nat) (h : ∀ t, Steps p.tables e below (T'.setTop (mkF m pc' L S)) t → Steps p.tables e below (T.setTop (mkF m pc L (x :: y :: S))) t) (g : own_Goes p e below F (T'.setTop (mkF m pc' L S))) : own_Goes p e below F (T.setTop (mkF m pc L (x :: y :: S))) := own_to h g
theorem own_cs {T' : State} {pc : Nat} {L : Array Slot} {S : List Value} (S' : List Value) (pc' : Nat) (h : ∀ t, Steps p.tables e below (T'.setTop (mkF m pc' L S')) t → Steps p.tables e below (T.setTop (mkF m pc L S)) t) (g : own_Goes p e below F (T'.setTop (mkF m pc' L S'))) : own_Goes p e below F (T.setTop (mkF m pc L S)) := own_to h g
theorem own_csR {T' : State} {pc : Nat} {L : Array Slot} {S : List Value} (S' : List Value) (pc' : Nat) (h : Steps p.tables e below (T.setTop (mkF m pc L S)) (T'.setTop (mkF m pc' L S'))) (g : own_Goes p e below F (T'.setTop (mkF m pc' L S'))) : own_Goes p e below F (T.setTop (mkF m pc L S)) := own_tr h g
theorem own_ls {T' : State} {pc : Nat} {L : Array Slot} {S : List Value} {x : Value} (L' : Array Slot) (pc' : Nat) (h : ∀ t, Steps p.tables e below (T'.setTop (mkF m pc' L' S)) t → Steps p.tables e below (T.setTop (mkF m pc L (x :: S))) t) (g : own_Goes p e below F (T'.setTop (mkF m pc' L' S))) : own_Goes p e below F (T.setTop (mkF m pc L (x :: S))) := own_to h g
theorem own_li {T' : State} {pc : Nat} {L : Array Slot} {S : List Value} (L' : Array Slot) (pc' : Nat) (h : ∀ t, Steps p.tables e below (T'.setTop (mkF m pc' L' S)) t → Steps p.tables e below (T.setTop (mkF m pc L S)) t) (g : own_Goes p e below F (T'.setTop (mkF m pc' L' S))) : own_Goes p e below F (T.setTop (mkF m pc L S)) := own_to h g
theorem own_start {A B : State} (h : ∀ t, Steps p.tables e below B t → Steps p.tables e below A t) (g : own_Goes p e below (own_FN s Q k n) B) :
    ∃ s₂ o, Steps p.tables e below A s₂ ∧ s₂.status = .running ∧ Ended s₂ below o ∧ ∃ v L, o = .returned v ∧ Q v s₂.heap L ∧ FrameEnd s o s₂ L k n := own_to h g
theorem own_retN (X : Stand p l e R s m args below meth c T locs cells slots) (hx : p.tables.exec = Jvm.exec) {pc : Nat} {Ls : Array Slot} {z : Int32} {t : FieldType} {rest : List Value} (hret : meth.sig.returnType = some t)
    (hd : decode c.code pc = .ok (.ireturn, 1)) (ht : t = .boolean ∨ t = .byte ∨ t = .char ∨ t = .short) (hlk : meth.locks = false) (hk : cells ≤ k) (hn : slots ≤ n) {h : Heap} (eT : T.heap = h) (hQ : Q (some (.int (nar t z))) h locs) :
    own_Goes p e below (own_FN s Q k n) (T.setTop (mkF m pc Ls (.int z :: rest))) := by
  obtain ⟨fs, hr, hrun, hended, hW, hsame⟩ := X.leave (v := some (.int (nar t z))) (fun q => by rw [hret] at q; cases q) hlk
  subst eT
  exact ⟨_, _, retN X hx hret ht hd hr, hrun, hended, _, _, rfl, hQ, ⟨_, rfl⟩, hW, hsame.mono hk hn⟩
theorem own_retI (X : Stand p l e R s m args below meth c T locs cells slots) (hx : p.tables.exec = Jvm.exec) {pc : Nat} {Ls : Array Slot} {z : Int32} {rest : List Value} (hret : meth.sig.returnType = some .int)
    (hd : decode c.code pc = .ok (.ireturn, 1)) (hlk : meth.locks = false) (hk : cells ≤ k) (hn : slots ≤ n) {h : Heap} (eT : T.heap = h) (hQ : Q (some (.int z)) h locs) :
    own_Goes p e below (own_FN s Q k n) (T.setTop (mkF m pc Ls (.int z :: rest))) := by
  obtain ⟨fs, hr, hrun, hended, hW, hsame⟩ := X.leave (v := some (.int z)) (fun q => by rw [hret] at q; cases q) hlk
  subst eT
  exact ⟨_, _, retOut X hx hret rfl (Or.inl ⟨rfl, Or.inl rfl, z, rfl⟩) hd hr, hrun, hended, _, _, rfl, hQ, ⟨_, rfl⟩, hW, hsame.mono hk hn⟩
theorem own_retJ (X : Stand p l e R s m args below meth c T locs cells slots) (hx : p.tables.exec = Jvm.exec) {pc : Nat} {Ls : Array Slot} {z : Int64} {rest : List Value} (hret : meth.sig.returnType = some .long)
    (hd : decode c.code pc = .ok (.lreturn, 1)) (hlk : meth.locks = false) (hk : cells ≤ k) (hn : slots ≤ n) {h : Heap} (eT : T.heap = h) (hQ : Q (some (.long z)) h locs) :
    own_Goes p e below (own_FN s Q k n) (T.setTop (mkF m pc Ls (.long z :: rest))) := by
  obtain ⟨fs, hr, hrun, hended, hW, hsame⟩ := X.leave (v := some (.long z)) (fun q => by rw [hret] at q; cases q) hlk
  subst eT
  exact ⟨_, _, retOut X hx hret rfl (Or.inr (Or.inl ⟨rfl, rfl, z, rfl⟩)) hd hr, hrun, hended, _, _, rfl, hQ, ⟨_, rfl⟩, hW, hsame.mono hk hn⟩
theorem own_nref {t : FieldType} {w : Value} (ht : t.isReference = true) : narrow t w = w := by cases t <;> first | rfl | (exact Bool.noConfusion ht)
theorem own_fits {t : FieldType} {w : Value} (ht : t.isReference = true) (hw : w.isRef = true) : fits t w = true := by
  cases t <;> first | (exact Bool.noConfusion ht) | (cases w <;> first | rfl | (exact Bool.noConfusion hw))
theorem own_retR (X : Stand p l e R s m args below meth c T locs cells slots) (hx : p.tables.exec = Jvm.exec) {pc : Nat} {Ls : Array Slot} {w : Value} {t : FieldType} {rest : List Value} (hret : meth.sig.returnType = some t)
    (hd : decode c.code pc = .ok (.areturn, 1)) (ht : t.isReference = true) (hw : w.isRef = true) (hlk : meth.locks = false) (hk : cells ≤ k) (hn : slots ≤ n) {h : Heap} (eT : T.heap = h) (hQ : Q (some w) h locs) :
    own_Goes p e below (own_FN s Q k n) (T.setTop (mkF m pc Ls (w :: rest))) := by
  obtain ⟨fs, hr, hrun, hended, hW, hsame⟩ := X.leave (v := some w) (fun q => by rw [hret] at q; cases q) hlk
  subst eT
  exact ⟨_, _, retOut X hx hret (own_nref ht) (Or.inr (Or.inr (Or.inr (Or.inr ⟨rfl, ht, hw⟩)))) hd hr, hrun, hended, _, _, rfl, hQ, ⟨_, rfl⟩, hW, hsame.mono hk hn⟩
theorem own_retV (X : Stand p l e R s m args below meth c T locs cells slots) (hx : p.tables.exec = Jvm.exec) {pc : Nat} {Ls : Array Slot} (hret : meth.sig.returnType = none)
    (hd : decode c.code pc = .ok (.return_, 1)) (hlk : meth.locks = false) (hk : cells ≤ k) (hn : slots ≤ n) {h : Heap} (eT : T.heap = h) (hQ : Q none h locs) :
    own_Goes p e below (own_FN s Q k n) (T.setTop (mkF m pc Ls [])) := by
  obtain ⟨fs, hr, hrun, hended, hW, hsame⟩ := X.leave (v := none) (fun _ => rfl) hlk
  subst eT
  exact ⟨_, _, X.returnOut hx hret hd hr, hrun, hended, _, _, rfl, hQ, ⟨_, rfl⟩, hW, hsame.mono hk hn⟩
end OwnGoes

/-- a body's contract, in lawnew's form -/
abbrev own_Met (l : Launch) (y : MethodName) (bytes : ByteArray) (ml : Nat) (rt : Option FieldType) (ws : List Jvm.Cond) (rm : Room) (Z : State) (as' : Array Value) (h0 : Heap) (Q : Option Value → Heap → List Loc → Prop) : Prop :=
  MetFree l y (head1 (Jvm.Cond.code y bytes ml rt :: ws) rm) (fun a U => a = as' ∧ Z.Warmed39 U.vm ∧ U.heap = h0) (fun _ _ _ _ _ => True) (fun _ U o U' => ∃ v L, o = .returned v ∧ Q v U'.heap L ∧ FrameEnd U o U' L rm.cells rm.slots)
theorem own_enter {l : Launch} {y : MethodName} {bytes : ByteArray} {ml : Nat} {rt : Option FieldType} {ws : List Jvm.Cond} {rm : Room} {Z : State} {as' : Array Value} {h0 : Heap} {Q : Option Value → Heap → List Loc → Prop} (L0 : Array Slot) (hp : plainFor y = true) (ef : ∀ m, entryFrame m as' ml = mkF m 0 L0 [])
    (go : ∀ (p : Program) (e : Env) (s : State) (m : MethodId) (below : List Frame) (meth : Method) (c : Code) (s₁ : State), p.tables.exec = Jvm.exec → c.code = bytes → c.maxLocals = ml → s.vm.findClass y.cls = some m.cls → meth.name = y.name → Z.Warmed39 s.vm → meth.sig.returnType = rt → meth.locks = false → Stand p l e rm s m as' below meth c s₁ [] 0 0 → s₁.heap = h0 → own_Goes p e below (own_FN s Q rm.cells rm.slots) (s₁.setTop (mkF m 0 L0 []))) :
    own_Met l y bytes ml rt ws rm Z as' h0 Q := by
  refine MetFree.of_bodySF hp hisR ?_
  intro p e s m args below meth c s₁ Bd hml0 hP hK
  obtain ⟨rfl, hZ, hh⟩ := hP
  have g := go p e s m below meth c s₁ Bd.exec Bd.bytes hml0 (findClass_of_methodNamed Bd.named) (name_of_methodNamed Bd.named Bd.method).1 hZ Bd.returns Bd.notSynchronized (Stand.of_body Bd) (by rw [← hh, Bd.state]; rfl)
  exact own_start (fun t k => castTop (ef m) k) g

theorem own_cat1 {x : Value} (h : x.isRef = true) : x.category = 1 := by cases x <;> first | rfl | exact Bool.noConfusion h
theorem own_catI (z : Int32) : (Value.int z).category = 1 := rfl
theorem own_catJ (z : Int64) : (Value.long z).category = 2 := rfl
theorem own_catR (z : Addr) : (Value.ref z).category = 1 := rfl
theorem own_w {a0 : Array Value} {Z : State} (hw : ∀ d ∈ tables_1, d.before a0 Z = true) (i : Nat) {d : Jvm.Cond} (h : tables_1[i]? = some d) : d.before a0 Z = true := hw _ (List.mem_of_getElem? h)
abbrev own_R_0_0_0_0 : Room := { frames := 0, cells := 0, slots := 0, locals := 0 }
abbrev own_R_1_0_0_13 : Room := { frames := 1, cells := 0, slots := 0, locals := 13 }
abbrev own_R_1_0_0_14 : Room := { frames := 1, cells := 0, slots := 0, locals := 14 }
abbrev own_R_2_0_0_27 : Room := { frames := 2, cells := 0, slots := 0, locals := 27 }
abbrev own_R_3_0_0_40 : Room := { frames := 3, cells := 0, slots := 0, locals := 40 }
abbrev own_R_4_0_0_54 : Room := { frames := 4, cells := 0, slots := 0, locals := 54 }
abbrev own_R_2_0_0_29 : Room := { frames := 2, cells := 0, slots := 0, locals := 29 }
abbrev own_R_1_0_0_15 : Room := { frames := 1, cells := 0, slots := 0, locals := 15 }
abbrev own_R_1_1_5_14 : Room := { frames := 1, cells := 1, slots := 5, locals := 14 }
abbrev own_R_2_1_5_29 : Room := { frames := 2, cells := 1, slots := 5, locals := 29 }
abbrev own_R_3_2_9_48 : Room := { frames := 3, cells := 2, slots := 9, locals := 48 }
abbrev own_R_1_1_6_14 : Room := { frames := 1, cells := 1, slots := 6, locals := 14 }
abbrev own_R_2_1_6_29 : Room := { frames := 2, cells := 1, slots := 6, locals := 29 }
abbrev own_R_3_2_10_48 : Room := { frames := 3, cells := 2, slots := 10, locals := 48 }
abbrev own_R_4_3_14_60 : Room := { frames := 4, cells := 3, slots := 14, locals := 60 }
abbrev own_R_5_3_14_81 : Room := { frames := 5, cells := 3, slots := 14, locals := 81 }
abbrev own_R_4_3_16_60 : Room := { frames := 4, cells := 3, slots := 16, locals := 60 }
abbrev own_R_5_3_16_81 : Room := { frames := 5, cells := 3, slots := 16, locals := 81 }
abbrev own_R_1_0_0_12 : Room := { frames := 1, cells := 0, slots := 0, locals := 12 }
abbrev own_R_2_2_5_27 : Room := { frames := 2, cells := 2, slots := 5, locals := 27 }
abbrev own_R_3_2_5_42 : Room := { frames := 3, cells := 2, slots := 5, locals := 42 }
abbrev own_R_6_3_14_103 : Room := { frames := 6, cells := 3, slots := 14, locals := 103 }
abbrev own_R_2_2_6_27 : Room := { frames := 2, cells := 2, slots := 6, locals := 27 }
abbrev own_R_3_2_6_42 : Room := { frames := 3, cells := 2, slots := 6, locals := 42 }
abbrev own_R_6_3_16_103 : Room := { frames := 6, cells := 3, slots := 16, locals := 103 }
abbrev own_R_0_2_8_0 : Room := { frames := 0, cells := 2, slots := 8, locals := 0 }
abbrev own_R_0_2_12_0 : Room := { frames := 0, cells := 2, slots := 12, locals := 0 }
abbrev own_R_0_2_24_0 : Room := { frames := 0, cells := 2, slots := 24, locals := 0 }
abbrev own_R_0_2_28_0 : Room := { frames := 0, cells := 2, slots := 28, locals := 0 }
theorem dj42m152_0 : decode jdk_42_method_152_code 0 = .ok (.getstatic 38, 3) := by decide +kernel
theorem dj42m152_3 : decode jdk_42_method_152_code 3 = .ok (.ifCond .eq 10, 3) := by decide +kernel
theorem dj42m152_6 : decode jdk_42_method_152_code 6 = .ok (.aload_n 0, 1) := by decide +kernel
theorem dj42m152_7 : decode jdk_42_method_152_code 7 = .ok (.getfield 15, 3) := by decide +kernel
theorem dj42m152_10 : decode jdk_42_method_152_code 10 = .ok (.goto 4, 3) := by decide +kernel
theorem dj42m152_14 : decode jdk_42_method_152_code 14 = .ok (.ireturn, 1) := by decide +kernel
theorem pn_java_lang_String : plainName "java/lang/String" = true := by first | (simp [plainName, overriddenIn]; done) | decide +kernel
theorem ef_R_1 (m : MethodId) (x0 : Addr) : entryFrame m #[(.ref x0)] 1 = mkF m 0 #[.val (.ref x0)] [] := by first | (simp [entryFrame, mkF, argsToLocals, Value.category]; done) | rfl
theorem dj42m154_0 : decode jdk_42_method_154_code 0 = .ok (.getstatic 38, 3) := by decide +kernel
theorem dj42m154_3 : decode jdk_42_method_154_code 3 = .ok (.ifCond .eq 14, 3) := by decide +kernel
theorem dj42m154_6 : decode jdk_42_method_154_code 6 = .ok (.aload_n 0, 1) := by decide +kernel
theorem dj42m154_7 : decode jdk_42_method_154_code 7 = .ok (.getfield 15, 3) := by decide +kernel
theorem dj42m154_10 : decode jdk_42_method_154_code 10 = .ok (.ifCond .ne 7, 3) := by decide +kernel
theorem dj42m154_13 : decode jdk_42_method_154_code 13 = .ok (.iconst 1, 1) := by decide +kernel
theorem dj42m154_14 : decode jdk_42_method_154_code 14 = .ok (.goto 4, 3) := by decide +kernel
theorem dj42m154_18 : decode jdk_42_method_154_code 18 = .ok (.ireturn, 1) := by decide +kernel
theorem dj42m54_0 : decode jdk_42_method_54_code 0 = .ok (.aload_n 0, 1) := by decide +kernel
theorem dj42m54_1 : decode jdk_42_method_54_code 1 = .ok (.getfield 9, 3) := by decide +kernel
theorem dj42m54_4 : decode jdk_42_method_54_code 4 = .ok (.arraylength, 1) := by decide +kernel
theorem dj42m54_5 : decode jdk_42_method_54_code 5 = .ok (.aload_n 0, 1) := by decide +kernel
theorem dj42m54_6 : decode jdk_42_method_54_code 6 = .ok (.invokevirtual 335, 3) := by decide +kernel
theorem dj42m54_9 : decode jdk_42_method_54_code 9 = .ok (.ishr, 1) := by decide +kernel
theorem dj42m54_10 : decode jdk_42_method_54_code 10 = .ok (.ireturn, 1) := by decide +kernel
theorem pd0 : parseMethodDescriptor "()B" = some ⟨[], some .byte⟩ := by decide +kernel
theorem dj41m11_0 : decode jdk_41_method_11_code 0 = .ok (.iload_n 0, 1) := by decide +kernel
theorem dj41m11_1 : decode jdk_41_method_11_code 1 = .ok (.ifCond .lt 8, 3) := by decide +kernel
theorem dj41m11_4 : decode jdk_41_method_11_code 4 = .ok (.iload_n 0, 1) := by decide +kernel
theorem dj41m11_5 : decode jdk_41_method_11_code 5 = .ok (.iload_n 1, 1) := by decide +kernel
theorem dj41m11_6 : decode jdk_41_method_11_code 6 = .ok (.if_icmp .lt 10, 3) := by decide +kernel
theorem dj41m11_16 : decode jdk_41_method_11_code 16 = .ok (.iload_n 0, 1) := by decide +kernel
theorem dj41m11_17 : decode jdk_41_method_11_code 17 = .ok (.ireturn, 1) := by decide +kernel
theorem pn_jdk_internal_util_Preconditions : plainName "jdk/internal/util/Preconditions" = true := by first | (simp [plainName, overriddenIn]; done) | decide +kernel
theorem ef_IIV_3 (m : MethodId) (x0 : Int32) (x1 : Int32) (x2 : Value) (hx2 : x2.isRef = true) : entryFrame m #[(.int x0), (.int x1), x2] 3 = mkF m 0 #[.val (.int x0), .val (.int x1), .val x2] [] := by simp [entryFrame, mkF, argsToLocals, own_cat1 hx2, own_catI, own_catJ, own_catR]
theorem dj42m155_0 : decode jdk_42_method_155_code 0 = .ok (.iload_n 0, 1) := by decide +kernel
theorem dj42m155_1 : decode jdk_42_method_155_code 1 = .ok (.iload_n 1, 1) := by decide +kernel
theorem dj42m155_2 : decode jdk_42_method_155_code 2 = .ok (.getstatic 1053, 3) := by decide +kernel
theorem dj42m155_5 : decode jdk_42_method_155_code 5 = .ok (.invokestatic 1059, 3) := by decide +kernel
theorem dj42m155_8 : decode jdk_42_method_155_code 8 = .ok (.pop, 1) := by decide +kernel
theorem dj42m155_9 : decode jdk_42_method_155_code 9 = .ok (.return_, 1) := by decide +kernel
theorem pd1 : parseMethodDescriptor "(IILjava/util/function/BiFunction;)I" = some ⟨[.int, .int, (.object "java/util/function/BiFunction")], some .int⟩ := by decide +kernel
theorem ef_II_2 (m : MethodId) (x0 : Int32) (x1 : Int32) : entryFrame m #[(.int x0), (.int x1)] 2 = mkF m 0 #[.val (.int x0), .val (.int x1)] [] := by first | (simp [entryFrame, mkF, argsToLocals, Value.category]; done) | rfl
theorem dj43m2_0 : decode jdk_43_method_2_code 0 = .ok (.iload_n 1, 1) := by decide +kernel
theorem dj43m2_1 : decode jdk_43_method_2_code 1 = .ok (.aload_n 0, 1) := by decide +kernel
theorem dj43m2_2 : decode jdk_43_method_2_code 2 = .ok (.arraylength, 1) := by decide +kernel
theorem dj43m2_3 : decode jdk_43_method_2_code 3 = .ok (.invokestatic 9, 3) := by decide +kernel
theorem dj43m2_6 : decode jdk_43_method_2_code 6 = .ok (.aload_n 0, 1) := by decide +kernel
theorem dj43m2_7 : decode jdk_43_method_2_code 7 = .ok (.iload_n 1, 1) := by decide +kernel
theorem dj43m2_8 : decode jdk_43_method_2_code 8 = .ok (.baload, 1) := by decide +kernel
theorem dj43m2_9 : decode jdk_43_method_2_code 9 = .ok (.sipush 255, 3) := by decide +kernel
theorem dj43m2_12 : decode jdk_43_method_2_code 12 = .ok (.iand, 1) := by decide +kernel
theorem dj43m2_13 : decode jdk_43_method_2_code 13 = .ok (.i2c, 1) := by decide +kernel
theorem dj43m2_14 : decode jdk_43_method_2_code 14 = .ok (.ireturn, 1) := by decide +kernel
theorem pn_java_lang_StringLatin1 : plainName "java/lang/StringLatin1" = true := by first | (simp [plainName, overriddenIn]; done) | decide +kernel
theorem pd2 : parseMethodDescriptor "(II)V" = some ⟨[.int, .int], none⟩ := by decide +kernel
theorem ef_RI_2 (m : MethodId) (x0 : Addr) (x1 : Int32) : entryFrame m #[(.ref x0), (.int x1)] 2 = mkF m 0 #[.val (.ref x0), .val (.int x1)] [] := by first | (simp [entryFrame, mkF, argsToLocals, Value.category]; done) | rfl
theorem dj42m56_0 : decode jdk_42_method_56_code 0 = .ok (.aload_n 0, 1) := by decide +kernel
theorem dj42m56_1 : decode jdk_42_method_56_code 1 = .ok (.invokevirtual 492, 3) := by decide +kernel
theorem dj42m56_4 : decode jdk_42_method_56_code 4 = .ok (.ifCond .eq 12, 3) := by decide +kernel
theorem dj42m56_7 : decode jdk_42_method_56_code 7 = .ok (.aload_n 0, 1) := by decide +kernel
theorem dj42m56_8 : decode jdk_42_method_56_code 8 = .ok (.getfield 9, 3) := by decide +kernel
theorem dj42m56_11 : decode jdk_42_method_56_code 11 = .ok (.iload_n 1, 1) := by decide +kernel
theorem dj42m56_12 : decode jdk_42_method_56_code 12 = .ok (.invokestatic 495, 3) := by decide +kernel
theorem dj42m56_15 : decode jdk_42_method_56_code 15 = .ok (.ireturn, 1) := by decide +kernel
theorem pd3 : parseMethodDescriptor "()Z" = some ⟨[], some .boolean⟩ := by decide +kernel
theorem pd4 : parseMethodDescriptor "([BI)C" = some ⟨[(.array .byte), .int], some .char⟩ := by decide +kernel
theorem dq3_0 : decode method_3_code 0 = .ok (.iload_n 2, 1) := by decide +kernel
theorem dq3_1 : decode method_3_code 1 = .ok (.aload_n 0, 1) := by decide +kernel
theorem dq3_2 : decode method_3_code 2 = .ok (.invokevirtual 18, 3) := by decide +kernel
theorem dq3_5 : decode method_3_code 5 = .ok (.if_icmp .lt 5, 3) := by decide +kernel
theorem dq3_8 : decode method_3_code 8 = .ok (.iconst 1, 1) := by decide +kernel
theorem dq3_9 : decode method_3_code 9 = .ok (.ireturn, 1) := by decide +kernel
theorem dq3_10 : decode method_3_code 10 = .ok (.iload_n 2, 1) := by decide +kernel
theorem dq3_11 : decode method_3_code 11 = .ok (.iload_n 3, 1) := by decide +kernel
theorem dq3_12 : decode method_3_code 12 = .ok (.if_icmp .ne 29, 3) := by decide +kernel
theorem dq3_15 : decode method_3_code 15 = .ok (.aload_n 0, 1) := by decide +kernel
theorem dq3_16 : decode method_3_code 16 = .ok (.iload_n 2, 1) := by decide +kernel
theorem dq3_17 : decode method_3_code 17 = .ok (.invokevirtual 32, 3) := by decide +kernel
theorem dq3_20 : decode method_3_code 20 = .ok (.bipush 48, 2) := by decide +kernel
theorem dq3_22 : decode method_3_code 22 = .ok (.if_icmp .ne 17, 3) := by decide +kernel
theorem dq3_25 : decode method_3_code 25 = .ok (.aload_n 1, 1) := by decide +kernel
theorem dq3_26 : decode method_3_code 26 = .ok (.iload_n 2, 1) := by decide +kernel
theorem dq3_27 : decode method_3_code 27 = .ok (.invokevirtual 32, 3) := by decide +kernel
theorem dq3_30 : decode method_3_code 30 = .ok (.iload 4, 2) := by decide +kernel
theorem dq3_32 : decode method_3_code 32 = .ok (.if_icmp .ne 7, 3) := by decide +kernel
theorem dq3_35 : decode method_3_code 35 = .ok (.iconst 1, 1) := by decide +kernel
theorem dq3_36 : decode method_3_code 36 = .ok (.goto 4, 3) := by decide +kernel
theorem dq3_40 : decode method_3_code 40 = .ok (.ireturn, 1) := by decide +kernel
theorem dq3_41 : decode method_3_code 41 = .ok (.aload_n 0, 1) := by decide +kernel
theorem dq3_42 : decode method_3_code 42 = .ok (.iload_n 2, 1) := by decide +kernel
theorem dq3_43 : decode method_3_code 43 = .ok (.invokevirtual 32, 3) := by decide +kernel
theorem dq3_46 : decode method_3_code 46 = .ok (.aload_n 1, 1) := by decide +kernel
theorem dq3_47 : decode method_3_code 47 = .ok (.iload_n 2, 1) := by decide +kernel
theorem dq3_48 : decode method_3_code 48 = .ok (.invokevirtual 32, 3) := by decide +kernel
theorem dq3_51 : decode method_3_code 51 = .ok (.if_icmp .ne 7, 3) := by decide +kernel
theorem dq3_54 : decode method_3_code 54 = .ok (.iconst 1, 1) := by decide +kernel
theorem dq3_55 : decode method_3_code 55 = .ok (.goto 4, 3) := by decide +kernel
theorem dq3_59 : decode method_3_code 59 = .ok (.ireturn, 1) := by decide +kernel
theorem pn_com_example_unit_step_unitstep_FloatingPointLayoutWriteZeroPinLaw : plainName "com/example/unit_step/unitstep/FloatingPointLayoutWriteZeroPinLaw" = true := by first | (simp [plainName, overriddenIn]; done) | decide +kernel
theorem pd5 : parseMethodDescriptor "()I" = some ⟨[], some .int⟩ := by decide +kernel
theorem pd6 : parseMethodDescriptor "(I)C" = some ⟨[.int], some .char⟩ := by decide +kernel
theorem ef_RRIII_5 (m : MethodId) (x0 : Addr) (x1 : Addr) (x2 : Int32) (x3 : Int32) (x4 : Int32) : entryFrame m #[(.ref x0), (.ref x1), (.int x2), (.int x3), (.int x4)] 5 = mkF m 0 #[.val (.ref x0), .val (.ref x1), .val (.int x2), .val (.int x3), .val (.int x4)] [] := by first | (simp [entryFrame, mkF, argsToLocals, Value.category]; done) | rfl
theorem dj33m47_0 : decode jdk_33_method_47_code 0 = .ok (.iload_n 0, 1) := by decide +kernel
theorem dj33m47_1 : decode jdk_33_method_47_code 1 = .ok (.ifCond .gt 14, 3) := by decide +kernel
theorem dj33m47_15 : decode jdk_33_method_47_code 15 = .ok (.bipush 31, 2) := by decide +kernel
theorem dj33m47_17 : decode jdk_33_method_47_code 17 = .ok (.istore_n 1, 1) := by decide +kernel
theorem dj33m47_18 : decode jdk_33_method_47_code 18 = .ok (.iload_n 0, 1) := by decide +kernel
theorem dj33m47_19 : decode jdk_33_method_47_code 19 = .ok (.ldc_w 264, 3) := by decide +kernel
theorem dj33m47_22 : decode jdk_33_method_47_code 22 = .ok (.if_icmp .lt 11, 3) := by decide +kernel
theorem dj33m47_33 : decode jdk_33_method_47_code 33 = .ok (.iload_n 0, 1) := by decide +kernel
theorem dj33m47_34 : decode jdk_33_method_47_code 34 = .ok (.sipush 256, 3) := by decide +kernel
theorem dj33m47_37 : decode jdk_33_method_47_code 37 = .ok (.if_icmp .lt 11, 3) := by decide +kernel
theorem dj33m47_48 : decode jdk_33_method_47_code 48 = .ok (.iload_n 0, 1) := by decide +kernel
theorem dj33m47_49 : decode jdk_33_method_47_code 49 = .ok (.bipush 16, 2) := by decide +kernel
theorem dj33m47_51 : decode jdk_33_method_47_code 51 = .ok (.if_icmp .lt 10, 3) := by decide +kernel
theorem dj33m47_61 : decode jdk_33_method_47_code 61 = .ok (.iload_n 0, 1) := by decide +kernel
theorem dj33m47_62 : decode jdk_33_method_47_code 62 = .ok (.iconst 4, 1) := by decide +kernel
theorem dj33m47_63 : decode jdk_33_method_47_code 63 = .ok (.if_icmp .lt 10, 3) := by decide +kernel
theorem dj33m47_66 : decode jdk_33_method_47_code 66 = .ok (.iinc 1 (-2), 3) := by decide +kernel
theorem dj33m47_69 : decode jdk_33_method_47_code 69 = .ok (.iload_n 0, 1) := by decide +kernel
theorem dj33m47_70 : decode jdk_33_method_47_code 70 = .ok (.iconst 2, 1) := by decide +kernel
theorem dj33m47_71 : decode jdk_33_method_47_code 71 = .ok (.iushr, 1) := by decide +kernel
theorem dj33m47_72 : decode jdk_33_method_47_code 72 = .ok (.istore_n 0, 1) := by decide +kernel
theorem dj33m47_73 : decode jdk_33_method_47_code 73 = .ok (.iload_n 1, 1) := by decide +kernel
theorem dj33m47_74 : decode jdk_33_method_47_code 74 = .ok (.iload_n 0, 1) := by decide +kernel
theorem dj33m47_75 : decode jdk_33_method_47_code 75 = .ok (.iconst 1, 1) := by decide +kernel
theorem dj33m47_76 : decode jdk_33_method_47_code 76 = .ok (.iushr, 1) := by decide +kernel
theorem dj33m47_77 : decode jdk_33_method_47_code 77 = .ok (.isub, 1) := by decide +kernel
theorem dj33m47_78 : decode jdk_33_method_47_code 78 = .ok (.ireturn, 1) := by decide +kernel
theorem pn_java_lang_Integer : plainName "java/lang/Integer" = true := by first | (simp [plainName, overriddenIn]; done) | decide +kernel
theorem ef_I_2 (m : MethodId) (x0 : Int32) : entryFrame m #[(.int x0)] 2 = mkF m 0 #[.val (.int x0), .unset] [] := by first | (simp [entryFrame, mkF, argsToLocals, Value.category]; done) | rfl
theorem dj35m48_0 : decode jdk_35_method_48_code 0 = .ok (.lload_n 0, 1) := by decide +kernel
theorem dj35m48_1 : decode jdk_35_method_48_code 1 = .ok (.bipush 32, 2) := by decide +kernel
theorem dj35m48_3 : decode jdk_35_method_48_code 3 = .ok (.lushr, 1) := by decide +kernel
theorem dj35m48_4 : decode jdk_35_method_48_code 4 = .ok (.l2i, 1) := by decide +kernel
theorem dj35m48_5 : decode jdk_35_method_48_code 5 = .ok (.istore_n 2, 1) := by decide +kernel
theorem dj35m48_6 : decode jdk_35_method_48_code 6 = .ok (.iload_n 2, 1) := by decide +kernel
theorem dj35m48_7 : decode jdk_35_method_48_code 7 = .ok (.ifCond .ne 14, 3) := by decide +kernel
theorem dj35m48_10 : decode jdk_35_method_48_code 10 = .ok (.bipush 32, 2) := by decide +kernel
theorem dj35m48_12 : decode jdk_35_method_48_code 12 = .ok (.lload_n 0, 1) := by decide +kernel
theorem dj35m48_13 : decode jdk_35_method_48_code 13 = .ok (.l2i, 1) := by decide +kernel
theorem dj35m48_14 : decode jdk_35_method_48_code 14 = .ok (.invokestatic 308, 3) := by decide +kernel
theorem dj35m48_17 : decode jdk_35_method_48_code 17 = .ok (.iadd, 1) := by decide +kernel
theorem dj35m48_18 : decode jdk_35_method_48_code 18 = .ok (.goto 7, 3) := by decide +kernel
theorem dj35m48_25 : decode jdk_35_method_48_code 25 = .ok (.ireturn, 1) := by decide +kernel
theorem pn_java_lang_Long : plainName "java/lang/Long" = true := by first | (simp [plainName, overriddenIn]; done) | decide +kernel
theorem pd7 : parseMethodDescriptor "(I)I" = some ⟨[.int], some .int⟩ := by decide +kernel
theorem ef_J_3 (m : MethodId) (x0 : Int64) : entryFrame m #[(.long x0)] 3 = mkF m 0 #[.val (.long x0), .second, .unset] [] := by first | (simp [entryFrame, mkF, argsToLocals, Value.category]; done) | rfl
theorem dp18m5_0 : decode prog_18_method_5_code 0 = .ok (.getstatic 20, 3) := by decide +kernel
theorem dp18m5_3 : decode prog_18_method_5_code 3 = .ok (.iload_n 0, 1) := by decide +kernel
theorem dp18m5_4 : decode prog_18_method_5_code 4 = .ok (.laload, 1) := by decide +kernel
theorem dp18m5_5 : decode prog_18_method_5_code 5 = .ok (.lreturn, 1) := by decide +kernel
theorem pn_com_example_unit_step_unitstep_PowersOfTen : plainName "com/example/unit_step/unitstep/PowersOfTen" = true := by first | (simp [plainName, overriddenIn]; done) | decide +kernel
theorem ef_I_1 (m : MethodId) (x0 : Int32) : entryFrame m #[(.int x0)] 1 = mkF m 0 #[.val (.int x0)] [] := by first | (simp [entryFrame, mkF, argsToLocals, Value.category]; done) | rfl
theorem dp6m3_0 : decode prog_6_method_3_code 0 = .ok (.lload_n 0, 1) := by decide +kernel
theorem dp6m3_1 : decode prog_6_method_3_code 1 = .ok (.lconst 1, 1) := by decide +kernel
theorem dp6m3_2 : decode prog_6_method_3_code 2 = .ok (.lor, 1) := by decide +kernel
theorem dp6m3_3 : decode prog_6_method_3_code 3 = .ok (.lstore_n 2, 1) := by decide +kernel
theorem dp6m3_4 : decode prog_6_method_3_code 4 = .ok (.bipush 64, 2) := by decide +kernel
theorem dp6m3_6 : decode prog_6_method_3_code 6 = .ok (.lload_n 2, 1) := by decide +kernel
theorem dp6m3_7 : decode prog_6_method_3_code 7 = .ok (.invokestatic 27, 3) := by decide +kernel
theorem dp6m3_10 : decode prog_6_method_3_code 10 = .ok (.isub, 1) := by decide +kernel
theorem dp6m3_11 : decode prog_6_method_3_code 11 = .ok (.istore 4, 2) := by decide +kernel
theorem dp6m3_13 : decode prog_6_method_3_code 13 = .ok (.iload 4, 2) := by decide +kernel
theorem dp6m3_15 : decode prog_6_method_3_code 15 = .ok (.sipush 1233, 3) := by decide +kernel
theorem dp6m3_18 : decode prog_6_method_3_code 18 = .ok (.imul, 1) := by decide +kernel
theorem dp6m3_19 : decode prog_6_method_3_code 19 = .ok (.bipush 12, 2) := by decide +kernel
theorem dp6m3_21 : decode prog_6_method_3_code 21 = .ok (.iushr, 1) := by decide +kernel
theorem dp6m3_22 : decode prog_6_method_3_code 22 = .ok (.istore 5, 2) := by decide +kernel
theorem dp6m3_24 : decode prog_6_method_3_code 24 = .ok (.lload_n 2, 1) := by decide +kernel
theorem dp6m3_25 : decode prog_6_method_3_code 25 = .ok (.iload 5, 2) := by decide +kernel
theorem dp6m3_27 : decode prog_6_method_3_code 27 = .ok (.invokestatic 31, 3) := by decide +kernel
theorem dp6m3_30 : decode prog_6_method_3_code 30 = .ok (.lcmp, 1) := by decide +kernel
theorem dp6m3_31 : decode prog_6_method_3_code 31 = .ok (.ifCond .ge 8, 3) := by decide +kernel
theorem dp6m3_34 : decode prog_6_method_3_code 34 = .ok (.iload 5, 2) := by decide +kernel
theorem dp6m3_36 : decode prog_6_method_3_code 36 = .ok (.goto 7, 3) := by decide +kernel
theorem dp6m3_39 : decode prog_6_method_3_code 39 = .ok (.iload 5, 2) := by decide +kernel
theorem dp6m3_41 : decode prog_6_method_3_code 41 = .ok (.iconst 1, 1) := by decide +kernel
theorem dp6m3_42 : decode prog_6_method_3_code 42 = .ok (.iadd, 1) := by decide +kernel
theorem dp6m3_43 : decode prog_6_method_3_code 43 = .ok (.ireturn, 1) := by decide +kernel
theorem pn_com_example_unit_step_unitstep_DecimalLayout : plainName "com/example/unit_step/unitstep/DecimalLayout" = true := by first | (simp [plainName, overriddenIn]; done) | decide +kernel
theorem pd8 : parseMethodDescriptor "(J)I" = some ⟨[.long], some .int⟩ := by decide +kernel
theorem pd9 : parseMethodDescriptor "(I)J" = some ⟨[.int], some .long⟩ := by decide +kernel
theorem ef_J_6 (m : MethodId) (x0 : Int64) : entryFrame m #[(.long x0)] 6 = mkF m 0 #[.val (.long x0), .second, .unset, .unset, .unset, .unset] [] := by first | (simp [entryFrame, mkF, argsToLocals, Value.category]; done) | rfl
theorem dj29m65_0 : decode jdk_29_method_65_code 0 = .ok (.iload_n 0, 1) := by decide +kernel
theorem dj29m65_1 : decode jdk_29_method_65_code 1 = .ok (.iload_n 1, 1) := by decide +kernel
theorem dj29m65_2 : decode jdk_29_method_65_code 2 = .ok (.if_icmp .lt 7, 3) := by decide +kernel
theorem dj29m65_9 : decode jdk_29_method_65_code 9 = .ok (.iload_n 1, 1) := by decide +kernel
theorem dj29m65_10 : decode jdk_29_method_65_code 10 = .ok (.ireturn, 1) := by decide +kernel
theorem dj29m59_0 : decode jdk_29_method_59_code 0 = .ok (.iload_n 0, 1) := by decide +kernel
theorem dj29m59_1 : decode jdk_29_method_59_code 1 = .ok (.ifCond .ge 8, 3) := by decide +kernel
theorem dj29m59_9 : decode jdk_29_method_59_code 9 = .ok (.iload_n 0, 1) := by decide +kernel
theorem dj29m59_10 : decode jdk_29_method_59_code 10 = .ok (.ireturn, 1) := by decide +kernel
theorem dp6m4_0 : decode prog_6_method_4_code 0 = .ok (.lload_n 3, 1) := by decide +kernel
theorem dp6m4_1 : decode prog_6_method_4_code 1 = .ok (.lstore 5, 2) := by decide +kernel
theorem dp6m4_3 : decode prog_6_method_4_code 3 = .ok (.iload_n 1, 1) := by decide +kernel
theorem dp6m4_4 : decode prog_6_method_4_code 4 = .ok (.iload_n 2, 1) := by decide +kernel
theorem dp6m4_5 : decode prog_6_method_4_code 5 = .ok (.iadd, 1) := by decide +kernel
theorem dp6m4_6 : decode prog_6_method_4_code 6 = .ok (.istore 7, 2) := by decide +kernel
theorem dp6m4_8 : decode prog_6_method_4_code 8 = .ok (.iload 7, 2) := by decide +kernel
theorem dp6m4_10 : decode prog_6_method_4_code 10 = .ok (.iload_n 1, 1) := by decide +kernel
theorem dp6m4_11 : decode prog_6_method_4_code 11 = .ok (.isub, 1) := by decide +kernel
theorem dp6m4_12 : decode prog_6_method_4_code 12 = .ok (.bipush 8, 2) := by decide +kernel
theorem dp6m4_14 : decode prog_6_method_4_code 14 = .ok (.if_icmp .lt 40, 3) := by decide +kernel
theorem dp6m4_54 : decode prog_6_method_4_code 54 = .ok (.lload 5, 2) := by decide +kernel
theorem dp6m4_56 : decode prog_6_method_4_code 56 = .ok (.l2i, 1) := by decide +kernel
theorem dp6m4_57 : decode prog_6_method_4_code 57 = .ok (.istore 8, 2) := by decide +kernel
theorem dp6m4_59 : decode prog_6_method_4_code 59 = .ok (.iload 7, 2) := by decide +kernel
theorem dp6m4_61 : decode prog_6_method_4_code 61 = .ok (.iload_n 1, 1) := by decide +kernel
theorem dp6m4_62 : decode prog_6_method_4_code 62 = .ok (.isub, 1) := by decide +kernel
theorem dp6m4_63 : decode prog_6_method_4_code 63 = .ok (.iconst 2, 1) := by decide +kernel
theorem dp6m4_64 : decode prog_6_method_4_code 64 = .ok (.if_icmp .lt 36, 3) := by decide +kernel
theorem dp6m4_100 : decode prog_6_method_4_code 100 = .ok (.iload 7, 2) := by decide +kernel
theorem dp6m4_102 : decode prog_6_method_4_code 102 = .ok (.iload_n 1, 1) := by decide +kernel
theorem dp6m4_103 : decode prog_6_method_4_code 103 = .ok (.if_icmp .le 12, 3) := by decide +kernel
theorem dp6m4_106 : decode prog_6_method_4_code 106 = .ok (.aload_n 0, 1) := by decide +kernel
theorem dp6m4_107 : decode prog_6_method_4_code 107 = .ok (.iload_n 1, 1) := by decide +kernel
theorem dp6m4_108 : decode prog_6_method_4_code 108 = .ok (.bipush 48, 2) := by decide +kernel
theorem dp6m4_110 : decode prog_6_method_4_code 110 = .ok (.iload 8, 2) := by decide +kernel
theorem dp6m4_112 : decode prog_6_method_4_code 112 = .ok (.iadd, 1) := by decide +kernel
theorem dp6m4_113 : decode prog_6_method_4_code 113 = .ok (.i2b, 1) := by decide +kernel
theorem dp6m4_114 : decode prog_6_method_4_code 114 = .ok (.bastore, 1) := by decide +kernel
theorem dp6m4_115 : decode prog_6_method_4_code 115 = .ok (.return_, 1) := by decide +kernel
theorem ef_RIIJ_10 (m : MethodId) (x0 : Addr) (x1 : Int32) (x2 : Int32) (x3 : Int64) : entryFrame m #[(.ref x0), (.int x1), (.int x2), (.long x3)] 10 = mkF m 0 #[.val (.ref x0), .val (.int x1), .val (.int x2), .val (.long x3), .second, .unset, .unset, .unset, .unset, .unset] [] := by first | (simp [entryFrame, mkF, argsToLocals, Value.category]; done) | rfl
theorem dj41m13_0 : decode jdk_41_method_13_code 0 = .ok (.iload_n 2, 1) := by decide +kernel
theorem dj41m13_1 : decode jdk_41_method_13_code 1 = .ok (.iload_n 0, 1) := by decide +kernel
theorem dj41m13_2 : decode jdk_41_method_13_code 2 = .ok (.ior, 1) := by decide +kernel
theorem dj41m13_3 : decode jdk_41_method_13_code 3 = .ok (.iload_n 1, 1) := by decide +kernel
theorem dj41m13_4 : decode jdk_41_method_13_code 4 = .ok (.ior, 1) := by decide +kernel
theorem dj41m13_5 : decode jdk_41_method_13_code 5 = .ok (.ifCond .lt 10, 3) := by decide +kernel
theorem dj41m13_8 : decode jdk_41_method_13_code 8 = .ok (.iload_n 1, 1) := by decide +kernel
theorem dj41m13_9 : decode jdk_41_method_13_code 9 = .ok (.iload_n 2, 1) := by decide +kernel
theorem dj41m13_10 : decode jdk_41_method_13_code 10 = .ok (.iload_n 0, 1) := by decide +kernel
theorem dj41m13_11 : decode jdk_41_method_13_code 11 = .ok (.isub, 1) := by decide +kernel
theorem dj41m13_12 : decode jdk_41_method_13_code 12 = .ok (.if_icmp .le 11, 3) := by decide +kernel
theorem dj41m13_23 : decode jdk_41_method_13_code 23 = .ok (.iload_n 0, 1) := by decide +kernel
theorem dj41m13_24 : decode jdk_41_method_13_code 24 = .ok (.ireturn, 1) := by decide +kernel
theorem ef_IIIV_4 (m : MethodId) (x0 : Int32) (x1 : Int32) (x2 : Int32) (x3 : Value) (hx3 : x3.isRef = true) : entryFrame m #[(.int x0), (.int x1), (.int x2), x3] 4 = mkF m 0 #[.val (.int x0), .val (.int x1), .val (.int x2), .val x3] [] := by simp [entryFrame, mkF, argsToLocals, own_cat1 hx3, own_catI, own_catJ, own_catR]
theorem dj42m157_0 : decode jdk_42_method_157_code 0 = .ok (.iload_n 0, 1) := by decide +kernel
theorem dj42m157_1 : decode jdk_42_method_157_code 1 = .ok (.iload_n 1, 1) := by decide +kernel
theorem dj42m157_2 : decode jdk_42_method_157_code 2 = .ok (.iload_n 2, 1) := by decide +kernel
theorem dj42m157_3 : decode jdk_42_method_157_code 3 = .ok (.getstatic 1053, 3) := by decide +kernel
theorem dj42m157_6 : decode jdk_42_method_157_code 6 = .ok (.invokestatic 1065, 3) := by decide +kernel
theorem dj42m157_9 : decode jdk_42_method_157_code 9 = .ok (.ireturn, 1) := by decide +kernel
theorem pd10 : parseMethodDescriptor "(IIILjava/util/function/BiFunction;)I" = some ⟨[.int, .int, .int, (.object "java/util/function/BiFunction")], some .int⟩ := by decide +kernel
theorem ef_III_3 (m : MethodId) (x0 : Int32) (x1 : Int32) (x2 : Int32) : entryFrame m #[(.int x0), (.int x1), (.int x2)] 3 = mkF m 0 #[.val (.int x0), .val (.int x1), .val (.int x2)] [] := by first | (simp [entryFrame, mkF, argsToLocals, Value.category]; done) | rfl
theorem dj65m132_0 : decode jdk_65_method_132_code 0 = .ok (.iload_n 1, 1) := by decide +kernel
theorem dj65m132_1 : decode jdk_65_method_132_code 1 = .ok (.ifCond .ne 9, 3) := by decide +kernel
theorem dj65m132_4 : decode jdk_65_method_132_code 4 = .ok (.iload_n 2, 1) := by decide +kernel
theorem dj65m132_5 : decode jdk_65_method_132_code 5 = .ok (.aload_n 0, 1) := by decide +kernel
theorem dj65m132_6 : decode jdk_65_method_132_code 6 = .ok (.arraylength, 1) := by decide +kernel
theorem dj65m132_7 : decode jdk_65_method_132_code 7 = .ok (.if_icmp .eq 10, 3) := by decide +kernel
theorem dj65m132_17 : decode jdk_65_method_132_code 17 = .ok (.aload_n 0, 1) := by decide +kernel
theorem dj65m132_18 : decode jdk_65_method_132_code 18 = .ok (.invokevirtual 310, 3) := by decide +kernel
theorem dj65m132_21 : decode jdk_65_method_132_code 21 = .ok (.checkcast 311, 3) := by decide +kernel
theorem dj65m132_24 : decode jdk_65_method_132_code 24 = .ok (.areturn, 1) := by decide +kernel
theorem pn_java_util_Arrays : plainName "java/util/Arrays" = true := by first | (simp [plainName, overriddenIn]; done) | decide +kernel
theorem ef_RII_3 (m : MethodId) (x0 : Addr) (x1 : Int32) (x2 : Int32) : entryFrame m #[(.ref x0), (.int x1), (.int x2)] 3 = mkF m 0 #[.val (.ref x0), .val (.int x1), .val (.int x2)] [] := by first | (simp [entryFrame, mkF, argsToLocals, Value.category]; done) | rfl
theorem dj42m7_0 : decode jdk_42_method_7_code 0 = .ok (.aload_n 0, 1) := by decide +kernel
theorem dj42m7_1 : decode jdk_42_method_7_code 1 = .ok (.invokespecial 1, 3) := by decide +kernel
theorem dj42m7_4 : decode jdk_42_method_7_code 4 = .ok (.iload_n 3, 1) := by decide +kernel
theorem dj42m7_5 : decode jdk_42_method_7_code 5 = .ok (.iload 4, 2) := by decide +kernel
theorem dj42m7_7 : decode jdk_42_method_7_code 7 = .ok (.aload_n 1, 1) := by decide +kernel
theorem dj42m7_8 : decode jdk_42_method_7_code 8 = .ok (.arraylength, 1) := by decide +kernel
theorem dj42m7_9 : decode jdk_42_method_7_code 9 = .ok (.invokestatic 34, 3) := by decide +kernel
theorem dj42m7_12 : decode jdk_42_method_7_code 12 = .ok (.pop, 1) := by decide +kernel
theorem dj42m7_13 : decode jdk_42_method_7_code 13 = .ok (.iload 4, 2) := by decide +kernel
theorem dj42m7_15 : decode jdk_42_method_7_code 15 = .ok (.ifCond .ne 22, 3) := by decide +kernel
theorem dj42m7_37 : decode jdk_42_method_7_code 37 = .ok (.getstatic 38, 3) := by decide +kernel
theorem dj42m7_40 : decode jdk_42_method_7_code 40 = .ok (.ifCond .eq 29, 3) := by decide +kernel
theorem dj42m7_43 : decode jdk_42_method_7_code 43 = .ok (.iload_n 2, 1) := by decide +kernel
theorem dj42m7_44 : decode jdk_42_method_7_code 44 = .ok (.i2b, 1) := by decide +kernel
theorem dj42m7_45 : decode jdk_42_method_7_code 45 = .ok (.ifCond .ne 24, 3) := by decide +kernel
theorem dj42m7_48 : decode jdk_42_method_7_code 48 = .ok (.aload_n 0, 1) := by decide +kernel
theorem dj42m7_49 : decode jdk_42_method_7_code 49 = .ok (.aload_n 1, 1) := by decide +kernel
theorem dj42m7_50 : decode jdk_42_method_7_code 50 = .ok (.iload_n 3, 1) := by decide +kernel
theorem dj42m7_51 : decode jdk_42_method_7_code 51 = .ok (.iload_n 3, 1) := by decide +kernel
theorem dj42m7_52 : decode jdk_42_method_7_code 52 = .ok (.iload 4, 2) := by decide +kernel
theorem dj42m7_54 : decode jdk_42_method_7_code 54 = .ok (.iadd, 1) := by decide +kernel
theorem dj42m7_55 : decode jdk_42_method_7_code 55 = .ok (.invokestatic 54, 3) := by decide +kernel
theorem dj42m7_58 : decode jdk_42_method_7_code 58 = .ok (.putfield 9, 3) := by decide +kernel
theorem dj42m7_61 : decode jdk_42_method_7_code 61 = .ok (.aload_n 0, 1) := by decide +kernel
theorem dj42m7_62 : decode jdk_42_method_7_code 62 = .ok (.iconst 0, 1) := by decide +kernel
theorem dj42m7_63 : decode jdk_42_method_7_code 63 = .ok (.putfield 15, 3) := by decide +kernel
theorem dj42m7_66 : decode jdk_42_method_7_code 66 = .ok (.goto 61, 3) := by decide +kernel
theorem dj42m7_127 : decode jdk_42_method_7_code 127 = .ok (.return_, 1) := by decide +kernel
theorem pd11 : parseMethodDescriptor "(III)I" = some ⟨[.int, .int, .int], some .int⟩ := by decide +kernel
theorem pd12 : parseMethodDescriptor "([BII)[B" = some ⟨[(.array .byte), .int, .int], some (.array .byte)⟩ := by decide +kernel
theorem ef_RRIII_7 (m : MethodId) (x0 : Addr) (x1 : Addr) (x2 : Int32) (x3 : Int32) (x4 : Int32) : entryFrame m #[(.ref x0), (.ref x1), (.int x2), (.int x3), (.int x4)] 7 = mkF m 0 #[.val (.ref x0), .val (.ref x1), .val (.int x2), .val (.int x3), .val (.int x4), .unset, .unset] [] := by first | (simp [entryFrame, mkF, argsToLocals, Value.category]; done) | rfl
theorem dp6m5_0 : decode prog_6_method_5_code 0 = .ok (.new 46, 3) := by decide +kernel
theorem dp6m5_3 : decode prog_6_method_5_code 3 = .ok (.dup, 1) := by decide +kernel
theorem dp6m5_4 : decode prog_6_method_5_code 4 = .ok (.aload_n 0, 1) := by decide +kernel
theorem dp6m5_5 : decode prog_6_method_5_code 5 = .ok (.iconst 0, 1) := by decide +kernel
theorem dp6m5_6 : decode prog_6_method_5_code 6 = .ok (.iconst 0, 1) := by decide +kernel
theorem dp6m5_7 : decode prog_6_method_5_code 7 = .ok (.aload_n 0, 1) := by decide +kernel
theorem dp6m5_8 : decode prog_6_method_5_code 8 = .ok (.arraylength, 1) := by decide +kernel
theorem dp6m5_9 : decode prog_6_method_5_code 9 = .ok (.invokespecial 48, 3) := by decide +kernel
theorem dp6m5_12 : decode prog_6_method_5_code 12 = .ok (.areturn, 1) := by decide +kernel
theorem pd13 : parseMethodDescriptor "([BIII)V" = some ⟨[(.array .byte), .int, .int, .int], none⟩ := by decide +kernel
theorem dp10m5_0 : decode prog_10_method_5_code 0 = .ok (.iload_n 0, 1) := by decide +kernel
theorem dp10m5_1 : decode prog_10_method_5_code 1 = .ok (.ifCond .eq 7, 3) := by decide +kernel
theorem dp10m5_8 : decode prog_10_method_5_code 8 = .ok (.iconst 0, 1) := by decide +kernel
theorem dp10m5_9 : decode prog_10_method_5_code 9 = .ok (.istore 5, 2) := by decide +kernel
theorem dp10m5_11 : decode prog_10_method_5_code 11 = .ok (.iload_n 3, 1) := by decide +kernel
theorem dp10m5_12 : decode prog_10_method_5_code 12 = .ok (.iconst 1, 1) := by decide +kernel
theorem dp10m5_13 : decode prog_10_method_5_code 13 = .ok (.isub, 1) := by decide +kernel
theorem dp10m5_14 : decode prog_10_method_5_code 14 = .ok (.iconst 1, 1) := by decide +kernel
theorem dp10m5_15 : decode prog_10_method_5_code 15 = .ok (.invokestatic 45, 3) := by decide +kernel
theorem dp10m5_18 : decode prog_10_method_5_code 18 = .ok (.istore 6, 2) := by decide +kernel
theorem dp10m5_20 : decode prog_10_method_5_code 20 = .ok (.iload 5, 2) := by decide +kernel
theorem dp10m5_22 : decode prog_10_method_5_code 22 = .ok (.iconst 3, 1) := by decide +kernel
theorem dp10m5_23 : decode prog_10_method_5_code 23 = .ok (.iadd, 1) := by decide +kernel
theorem dp10m5_24 : decode prog_10_method_5_code 24 = .ok (.iload 6, 2) := by decide +kernel
theorem dp10m5_26 : decode prog_10_method_5_code 26 = .ok (.iadd, 1) := by decide +kernel
theorem dp10m5_27 : decode prog_10_method_5_code 27 = .ok (.iload 4, 2) := by decide +kernel
theorem dp10m5_29 : decode prog_10_method_5_code 29 = .ok (.ifCond .ge 7, 3) := by decide +kernel
theorem dp10m5_36 : decode prog_10_method_5_code 36 = .ok (.iconst 0, 1) := by decide +kernel
theorem dp10m5_37 : decode prog_10_method_5_code 37 = .ok (.iadd, 1) := by decide +kernel
theorem dp10m5_38 : decode prog_10_method_5_code 38 = .ok (.istore 7, 2) := by decide +kernel
theorem dp10m5_40 : decode prog_10_method_5_code 40 = .ok (.iload 4, 2) := by decide +kernel
theorem dp10m5_42 : decode prog_10_method_5_code 42 = .ok (.invokestatic 51, 3) := by decide +kernel
theorem dp10m5_45 : decode prog_10_method_5_code 45 = .ok (.i2l, 1) := by decide +kernel
theorem dp10m5_46 : decode prog_10_method_5_code 46 = .ok (.invokestatic 9, 3) := by decide +kernel
theorem dp10m5_49 : decode prog_10_method_5_code 49 = .ok (.istore 8, 2) := by decide +kernel
theorem dp10m5_51 : decode prog_10_method_5_code 51 = .ok (.iload 7, 2) := by decide +kernel
theorem dp10m5_53 : decode prog_10_method_5_code 53 = .ok (.iload 8, 2) := by decide +kernel
theorem dp10m5_55 : decode prog_10_method_5_code 55 = .ok (.iadd, 1) := by decide +kernel
theorem dp10m5_56 : decode prog_10_method_5_code 56 = .ok (.newarray .byte, 2) := by decide +kernel
theorem dp10m5_58 : decode prog_10_method_5_code 58 = .ok (.astore 9, 2) := by decide +kernel
theorem dp10m5_60 : decode prog_10_method_5_code 60 = .ok (.aload 9, 2) := by decide +kernel
theorem dp10m5_62 : decode prog_10_method_5_code 62 = .ok (.iconst 0, 1) := by decide +kernel
theorem dp10m5_63 : decode prog_10_method_5_code 63 = .ok (.bipush 45, 2) := by decide +kernel
theorem dp10m5_65 : decode prog_10_method_5_code 65 = .ok (.bastore, 1) := by decide +kernel
theorem dp10m5_66 : decode prog_10_method_5_code 66 = .ok (.aload 9, 2) := by decide +kernel
theorem dp10m5_68 : decode prog_10_method_5_code 68 = .ok (.iload 5, 2) := by decide +kernel
theorem dp10m5_70 : decode prog_10_method_5_code 70 = .ok (.iconst 1, 1) := by decide +kernel
theorem dp10m5_71 : decode prog_10_method_5_code 71 = .ok (.iadd, 1) := by decide +kernel
theorem dp10m5_72 : decode prog_10_method_5_code 72 = .ok (.iload_n 3, 1) := by decide +kernel
theorem dp10m5_73 : decode prog_10_method_5_code 73 = .ok (.lload_n 1, 1) := by decide +kernel
theorem dp10m5_74 : decode prog_10_method_5_code 74 = .ok (.invokestatic 55, 3) := by decide +kernel
theorem dp10m5_77 : decode prog_10_method_5_code 77 = .ok (.aload 9, 2) := by decide +kernel
theorem dp10m5_79 : decode prog_10_method_5_code 79 = .ok (.iload 5, 2) := by decide +kernel
theorem dp10m5_81 : decode prog_10_method_5_code 81 = .ok (.aload 9, 2) := by decide +kernel
theorem dp10m5_83 : decode prog_10_method_5_code 83 = .ok (.iload 5, 2) := by decide +kernel
theorem dp10m5_85 : decode prog_10_method_5_code 85 = .ok (.iconst 1, 1) := by decide +kernel
theorem dp10m5_86 : decode prog_10_method_5_code 86 = .ok (.iadd, 1) := by decide +kernel
theorem dp10m5_87 : decode prog_10_method_5_code 87 = .ok (.baload, 1) := by decide +kernel
theorem dp10m5_88 : decode prog_10_method_5_code 88 = .ok (.bastore, 1) := by decide +kernel
theorem dp10m5_89 : decode prog_10_method_5_code 89 = .ok (.aload 9, 2) := by decide +kernel
theorem dp10m5_91 : decode prog_10_method_5_code 91 = .ok (.iload 5, 2) := by decide +kernel
theorem dp10m5_93 : decode prog_10_method_5_code 93 = .ok (.iconst 1, 1) := by decide +kernel
theorem dp10m5_94 : decode prog_10_method_5_code 94 = .ok (.iadd, 1) := by decide +kernel
theorem dp10m5_95 : decode prog_10_method_5_code 95 = .ok (.bipush 46, 2) := by decide +kernel
theorem dp10m5_97 : decode prog_10_method_5_code 97 = .ok (.bastore, 1) := by decide +kernel
theorem dp10m5_98 : decode prog_10_method_5_code 98 = .ok (.iload_n 3, 1) := by decide +kernel
theorem dp10m5_99 : decode prog_10_method_5_code 99 = .ok (.iconst 1, 1) := by decide +kernel
theorem dp10m5_100 : decode prog_10_method_5_code 100 = .ok (.if_icmp .ne 12, 3) := by decide +kernel
theorem dp10m5_103 : decode prog_10_method_5_code 103 = .ok (.aload 9, 2) := by decide +kernel
theorem dp10m5_105 : decode prog_10_method_5_code 105 = .ok (.iload 5, 2) := by decide +kernel
theorem dp10m5_107 : decode prog_10_method_5_code 107 = .ok (.iconst 2, 1) := by decide +kernel
theorem dp10m5_108 : decode prog_10_method_5_code 108 = .ok (.iadd, 1) := by decide +kernel
theorem dp10m5_109 : decode prog_10_method_5_code 109 = .ok (.bipush 48, 2) := by decide +kernel
theorem dp10m5_111 : decode prog_10_method_5_code 111 = .ok (.bastore, 1) := by decide +kernel
theorem dp10m5_112 : decode prog_10_method_5_code 112 = .ok (.aload 9, 2) := by decide +kernel
theorem dp10m5_114 : decode prog_10_method_5_code 114 = .ok (.iload 5, 2) := by decide +kernel
theorem dp10m5_116 : decode prog_10_method_5_code 116 = .ok (.iconst 2, 1) := by decide +kernel
theorem dp10m5_117 : decode prog_10_method_5_code 117 = .ok (.iadd, 1) := by decide +kernel
theorem dp10m5_118 : decode prog_10_method_5_code 118 = .ok (.iload 6, 2) := by decide +kernel
theorem dp10m5_120 : decode prog_10_method_5_code 120 = .ok (.iadd, 1) := by decide +kernel
theorem dp10m5_121 : decode prog_10_method_5_code 121 = .ok (.bipush 69, 2) := by decide +kernel
theorem dp10m5_123 : decode prog_10_method_5_code 123 = .ok (.bastore, 1) := by decide +kernel
theorem dp10m5_124 : decode prog_10_method_5_code 124 = .ok (.iload 4, 2) := by decide +kernel
theorem dp10m5_126 : decode prog_10_method_5_code 126 = .ok (.ifCond .ge 15, 3) := by decide +kernel
theorem dp10m5_141 : decode prog_10_method_5_code 141 = .ok (.aload 9, 2) := by decide +kernel
theorem dp10m5_143 : decode prog_10_method_5_code 143 = .ok (.iload 7, 2) := by decide +kernel
theorem dp10m5_145 : decode prog_10_method_5_code 145 = .ok (.iload 8, 2) := by decide +kernel
theorem dp10m5_147 : decode prog_10_method_5_code 147 = .ok (.iload 4, 2) := by decide +kernel
theorem dp10m5_149 : decode prog_10_method_5_code 149 = .ok (.invokestatic 51, 3) := by decide +kernel
theorem dp10m5_152 : decode prog_10_method_5_code 152 = .ok (.i2l, 1) := by decide +kernel
theorem dp10m5_153 : decode prog_10_method_5_code 153 = .ok (.invokestatic 55, 3) := by decide +kernel
theorem dp10m5_156 : decode prog_10_method_5_code 156 = .ok (.aload 9, 2) := by decide +kernel
theorem dp10m5_158 : decode prog_10_method_5_code 158 = .ok (.invokestatic 59, 3) := by decide +kernel
theorem dp10m5_161 : decode prog_10_method_5_code 161 = .ok (.areturn, 1) := by decide +kernel
theorem pn_com_example_unit_step_unitstep_FloatingPointLayout : plainName "com/example/unit_step/unitstep/FloatingPointLayout" = true := by first | (simp [plainName, overriddenIn]; done) | decide +kernel
theorem pd14 : parseMethodDescriptor "(II)I" = some ⟨[.int, .int], some .int⟩ := by decide +kernel
theorem pd15 : parseMethodDescriptor "([BIIJ)V" = some ⟨[(.array .byte), .int, .int, .long], none⟩ := by decide +kernel
theorem pd16 : parseMethodDescriptor "([B)Ljava/lang/String;" = some ⟨[(.array .byte)], some (.object "java/lang/String")⟩ := by decide +kernel
theorem ef_IJII_10 (m : MethodId) (x0 : Int32) (x1 : Int64) (x2 : Int32) (x3 : Int32) : entryFrame m #[(.int x0), (.long x1), (.int x2), (.int x3)] 10 = mkF m 0 #[.val (.int x0), .val (.long x1), .second, .val (.int x2), .val (.int x3), .unset, .unset, .unset, .unset, .unset] [] := by first | (simp [entryFrame, mkF, argsToLocals, Value.category]; done) | rfl
theorem dp10m2_0 : decode prog_10_method_2_code 0 = .ok (.lload_n 1, 1) := by decide +kernel
theorem dp10m2_1 : decode prog_10_method_2_code 1 = .ok (.lstore 5, 2) := by decide +kernel
theorem dp10m2_3 : decode prog_10_method_2_code 3 = .ok (.iload_n 3, 1) := by decide +kernel
theorem dp10m2_4 : decode prog_10_method_2_code 4 = .ok (.istore 7, 2) := by decide +kernel
theorem dp10m2_6 : decode prog_10_method_2_code 6 = .ok (.lload 5, 2) := by decide +kernel
theorem dp10m2_8 : decode prog_10_method_2_code 8 = .ok (.ldc2_w 7, 3) := by decide +kernel
theorem dp10m2_11 : decode prog_10_method_2_code 11 = .ok (.lrem, 1) := by decide +kernel
theorem dp10m2_12 : decode prog_10_method_2_code 12 = .ok (.lconst 0, 1) := by decide +kernel
theorem dp10m2_13 : decode prog_10_method_2_code 13 = .ok (.lcmp, 1) := by decide +kernel
theorem dp10m2_14 : decode prog_10_method_2_code 14 = .ok (.ifCond .ne 17, 3) := by decide +kernel
theorem dp10m2_31 : decode prog_10_method_2_code 31 = .ok (.lload 5, 2) := by decide +kernel
theorem dp10m2_33 : decode prog_10_method_2_code 33 = .ok (.invokestatic 9, 3) := by decide +kernel
theorem dp10m2_36 : decode prog_10_method_2_code 36 = .ok (.istore 8, 2) := by decide +kernel
theorem dp10m2_38 : decode prog_10_method_2_code 38 = .ok (.iload 7, 2) := by decide +kernel
theorem dp10m2_40 : decode prog_10_method_2_code 40 = .ok (.iload 8, 2) := by decide +kernel
theorem dp10m2_42 : decode prog_10_method_2_code 42 = .ok (.iadd, 1) := by decide +kernel
theorem dp10m2_43 : decode prog_10_method_2_code 43 = .ok (.iconst 1, 1) := by decide +kernel
theorem dp10m2_44 : decode prog_10_method_2_code 44 = .ok (.isub, 1) := by decide +kernel
theorem dp10m2_45 : decode prog_10_method_2_code 45 = .ok (.istore 9, 2) := by decide +kernel
theorem dp10m2_47 : decode prog_10_method_2_code 47 = .ok (.iload 4, 2) := by decide +kernel
theorem dp10m2_49 : decode prog_10_method_2_code 49 = .ok (.ifCond .ne 16, 3) := by decide +kernel
theorem dp10m2_65 : decode prog_10_method_2_code 65 = .ok (.iload_n 0, 1) := by decide +kernel
theorem dp10m2_66 : decode prog_10_method_2_code 66 = .ok (.lload 5, 2) := by decide +kernel
theorem dp10m2_68 : decode prog_10_method_2_code 68 = .ok (.iload 8, 2) := by decide +kernel
theorem dp10m2_70 : decode prog_10_method_2_code 70 = .ok (.iload 9, 2) := by decide +kernel
theorem dp10m2_72 : decode prog_10_method_2_code 72 = .ok (.invokestatic 17, 3) := by decide +kernel
theorem dp10m2_75 : decode prog_10_method_2_code 75 = .ok (.astore 10, 2) := by decide +kernel
theorem dp10m2_77 : decode prog_10_method_2_code 77 = .ok (.goto 14, 3) := by decide +kernel
theorem dp10m2_91 : decode prog_10_method_2_code 91 = .ok (.aload 10, 2) := by decide +kernel
theorem dp10m2_93 : decode prog_10_method_2_code 93 = .ok (.areturn, 1) := by decide +kernel
theorem pd17 : parseMethodDescriptor "(ZJII)Ljava/lang/String;" = some ⟨[.boolean, .long, .int, .int], some (.object "java/lang/String")⟩ := by decide +kernel
theorem ef_IJII_11 (m : MethodId) (x0 : Int32) (x1 : Int64) (x2 : Int32) (x3 : Int32) : entryFrame m #[(.int x0), (.long x1), (.int x2), (.int x3)] 11 = mkF m 0 #[.val (.int x0), .val (.long x1), .second, .val (.int x2), .val (.int x3), .unset, .unset, .unset, .unset, .unset, .unset] [] := by first | (simp [entryFrame, mkF, argsToLocals, Value.category]; done) | rfl
theorem dp10m5_4 : decode prog_10_method_5_code 4 = .ok (.iconst 1, 1) := by decide +kernel
theorem dp10m5_5 : decode prog_10_method_5_code 5 = .ok (.goto 4, 3) := by decide +kernel
theorem dj42m151_0 : decode jdk_42_method_151_code 0 = .ok (.aload_n 0, 1) := by decide +kernel
theorem dj42m151_1 : decode jdk_42_method_151_code 1 = .ok (.invokespecial 1, 3) := by decide +kernel
theorem dj42m151_4 : decode jdk_42_method_151_code 4 = .ok (.aload_n 0, 1) := by decide +kernel
theorem dj42m151_5 : decode jdk_42_method_151_code 5 = .ok (.aload_n 1, 1) := by decide +kernel
theorem dj42m151_6 : decode jdk_42_method_151_code 6 = .ok (.putfield 9, 3) := by decide +kernel
theorem dj42m151_9 : decode jdk_42_method_151_code 9 = .ok (.aload_n 0, 1) := by decide +kernel
theorem dj42m151_10 : decode jdk_42_method_151_code 10 = .ok (.iload_n 2, 1) := by decide +kernel
theorem dj42m151_11 : decode jdk_42_method_151_code 11 = .ok (.putfield 15, 3) := by decide +kernel
theorem dj42m151_14 : decode jdk_42_method_151_code 14 = .ok (.return_, 1) := by decide +kernel
theorem ef_RRI_3 (m : MethodId) (x0 : Addr) (x1 : Addr) (x2 : Int32) : entryFrame m #[(.ref x0), (.ref x1), (.int x2)] 3 = mkF m 0 #[.val (.ref x0), .val (.ref x1), .val (.int x2)] [] := by first | (simp [entryFrame, mkF, argsToLocals, Value.category]; done) | rfl
theorem dj35m15_0 : decode jdk_35_method_15_code 0 = .ok (.iconst 1, 1) := by decide +kernel
theorem dj35m15_1 : decode jdk_35_method_15_code 1 = .ok (.istore_n 2, 1) := by decide +kernel
theorem dj35m15_2 : decode jdk_35_method_15_code 2 = .ok (.lload_n 0, 1) := by decide +kernel
theorem dj35m15_3 : decode jdk_35_method_15_code 3 = .ok (.lconst 0, 1) := by decide +kernel
theorem dj35m15_4 : decode jdk_35_method_15_code 4 = .ok (.lcmp, 1) := by decide +kernel
theorem dj35m15_5 : decode jdk_35_method_15_code 5 = .ok (.ifCond .lt 8, 3) := by decide +kernel
theorem dj35m15_8 : decode jdk_35_method_15_code 8 = .ok (.iconst 0, 1) := by decide +kernel
theorem dj35m15_9 : decode jdk_35_method_15_code 9 = .ok (.istore_n 2, 1) := by decide +kernel
theorem dj35m15_10 : decode jdk_35_method_15_code 10 = .ok (.lload_n 0, 1) := by decide +kernel
theorem dj35m15_11 : decode jdk_35_method_15_code 11 = .ok (.lneg, 1) := by decide +kernel
theorem dj35m15_12 : decode jdk_35_method_15_code 12 = .ok (.lstore_n 0, 1) := by decide +kernel
theorem dj35m15_13 : decode jdk_35_method_15_code 13 = .ok (.ldc2_w 140, 3) := by decide +kernel
theorem dj35m15_16 : decode jdk_35_method_15_code 16 = .ok (.lstore_n 3, 1) := by decide +kernel
theorem dj35m15_17 : decode jdk_35_method_15_code 17 = .ok (.iconst 1, 1) := by decide +kernel
theorem dj35m15_18 : decode jdk_35_method_15_code 18 = .ok (.istore 5, 2) := by decide +kernel
theorem dj35m15_20 : decode jdk_35_method_15_code 20 = .ok (.iload 5, 2) := by decide +kernel
theorem dj35m15_22 : decode jdk_35_method_15_code 22 = .ok (.bipush 19, 2) := by decide +kernel
theorem dj35m15_24 : decode jdk_35_method_15_code 24 = .ok (.if_icmp .ge 26, 3) := by decide +kernel
theorem dj35m15_27 : decode jdk_35_method_15_code 27 = .ok (.lload_n 0, 1) := by decide +kernel
theorem dj35m15_28 : decode jdk_35_method_15_code 28 = .ok (.lload_n 3, 1) := by decide +kernel
theorem dj35m15_29 : decode jdk_35_method_15_code 29 = .ok (.lcmp, 1) := by decide +kernel
theorem dj35m15_30 : decode jdk_35_method_15_code 30 = .ok (.ifCond .le 8, 3) := by decide +kernel
theorem dj35m15_33 : decode jdk_35_method_15_code 33 = .ok (.iload 5, 2) := by decide +kernel
theorem dj35m15_35 : decode jdk_35_method_15_code 35 = .ok (.iload_n 2, 1) := by decide +kernel
theorem dj35m15_36 : decode jdk_35_method_15_code 36 = .ok (.iadd, 1) := by decide +kernel
theorem dj35m15_37 : decode jdk_35_method_15_code 37 = .ok (.ireturn, 1) := by decide +kernel
theorem dj35m14_0 : decode jdk_35_method_14_code 0 = .ok (.iload_n 2, 1) := by decide +kernel
theorem dj35m14_1 : decode jdk_35_method_14_code 1 = .ok (.istore 7, 2) := by decide +kernel
theorem dj35m14_3 : decode jdk_35_method_14_code 3 = .ok (.lload_n 0, 1) := by decide +kernel
theorem dj35m14_4 : decode jdk_35_method_14_code 4 = .ok (.lconst 0, 1) := by decide +kernel
theorem dj35m14_5 : decode jdk_35_method_14_code 5 = .ok (.lcmp, 1) := by decide +kernel
theorem dj35m14_6 : decode jdk_35_method_14_code 6 = .ok (.ifCond .ge 7, 3) := by decide +kernel
theorem dj35m14_13 : decode jdk_35_method_14_code 13 = .ok (.iconst 0, 1) := by decide +kernel
theorem dj35m14_14 : decode jdk_35_method_14_code 14 = .ok (.istore 8, 2) := by decide +kernel
theorem dj35m14_16 : decode jdk_35_method_14_code 16 = .ok (.iload 8, 2) := by decide +kernel
theorem dj35m14_18 : decode jdk_35_method_14_code 18 = .ok (.ifCond .ne 6, 3) := by decide +kernel
theorem dj35m14_21 : decode jdk_35_method_14_code 21 = .ok (.lload_n 0, 1) := by decide +kernel
theorem dj35m14_22 : decode jdk_35_method_14_code 22 = .ok (.lneg, 1) := by decide +kernel
theorem dj35m14_23 : decode jdk_35_method_14_code 23 = .ok (.lstore_n 0, 1) := by decide +kernel
theorem dj35m14_24 : decode jdk_35_method_14_code 24 = .ok (.lload_n 0, 1) := by decide +kernel
theorem dj35m14_25 : decode jdk_35_method_14_code 25 = .ok (.ldc2_w 129, 3) := by decide +kernel
theorem dj35m14_28 : decode jdk_35_method_14_code 28 = .ok (.lcmp, 1) := by decide +kernel
theorem dj35m14_29 : decode jdk_35_method_14_code 29 = .ok (.ifCond .gt 53, 3) := by decide +kernel
theorem dj35m14_82 : decode jdk_35_method_14_code 82 = .ok (.lload_n 0, 1) := by decide +kernel
theorem dj35m14_83 : decode jdk_35_method_14_code 83 = .ok (.l2i, 1) := by decide +kernel
theorem dj35m14_84 : decode jdk_35_method_14_code 84 = .ok (.istore 10, 2) := by decide +kernel
theorem dj35m14_86 : decode jdk_35_method_14_code 86 = .ok (.iload 10, 2) := by decide +kernel
theorem dj35m14_88 : decode jdk_35_method_14_code 88 = .ok (.bipush (-100), 2) := by decide +kernel
theorem dj35m14_90 : decode jdk_35_method_14_code 90 = .ok (.if_icmp .gt 53, 3) := by decide +kernel
theorem dj35m14_143 : decode jdk_35_method_14_code 143 = .ok (.aload_n 3, 1) := by decide +kernel
theorem dj35m14_144 : decode jdk_35_method_14_code 144 = .ok (.iinc 7 (-1), 3) := by decide +kernel
theorem dj35m14_147 : decode jdk_35_method_14_code 147 = .ok (.iload 7, 2) := by decide +kernel
theorem dj35m14_149 : decode jdk_35_method_14_code 149 = .ok (.getstatic 133, 3) := by decide +kernel
theorem dj35m14_152 : decode jdk_35_method_14_code 152 = .ok (.iload 10, 2) := by decide +kernel
theorem dj35m14_154 : decode jdk_35_method_14_code 154 = .ok (.ineg, 1) := by decide +kernel
theorem dj35m14_155 : decode jdk_35_method_14_code 155 = .ok (.baload, 1) := by decide +kernel
theorem dj35m14_156 : decode jdk_35_method_14_code 156 = .ok (.bastore, 1) := by decide +kernel
theorem dj35m14_157 : decode jdk_35_method_14_code 157 = .ok (.iload 10, 2) := by decide +kernel
theorem dj35m14_159 : decode jdk_35_method_14_code 159 = .ok (.bipush (-9), 2) := by decide +kernel
theorem dj35m14_161 : decode jdk_35_method_14_code 161 = .ok (.if_icmp .ge 17, 3) := by decide +kernel
theorem dj35m14_178 : decode jdk_35_method_14_code 178 = .ok (.iload 8, 2) := by decide +kernel
theorem dj35m14_180 : decode jdk_35_method_14_code 180 = .ok (.ifCond .eq 12, 3) := by decide +kernel
theorem dj35m14_192 : decode jdk_35_method_14_code 192 = .ok (.iload 7, 2) := by decide +kernel
theorem dj35m14_194 : decode jdk_35_method_14_code 194 = .ok (.ireturn, 1) := by decide +kernel
theorem ef_JIR_11 (m : MethodId) (x0 : Int64) (x1 : Int32) (x2 : Addr) : entryFrame m #[(.long x0), (.int x1), (.ref x2)] 11 = mkF m 0 #[.val (.long x0), .second, .val (.int x1), .val (.ref x2), .unset, .unset, .unset, .unset, .unset, .unset, .unset] [] := by first | (simp [entryFrame, mkF, argsToLocals, Value.category]; done) | rfl
theorem dj35m12_0 : decode jdk_35_method_12_code 0 = .ok (.lload_n 0, 1) := by decide +kernel
theorem dj35m12_1 : decode jdk_35_method_12_code 1 = .ok (.invokestatic 118, 3) := by decide +kernel
theorem dj35m12_4 : decode jdk_35_method_12_code 4 = .ok (.istore_n 2, 1) := by decide +kernel
theorem dj35m12_5 : decode jdk_35_method_12_code 5 = .ok (.getstatic 13, 3) := by decide +kernel
theorem dj35m12_8 : decode jdk_35_method_12_code 8 = .ok (.ifCond .eq 24, 3) := by decide +kernel
theorem dj35m12_11 : decode jdk_35_method_12_code 11 = .ok (.iload_n 2, 1) := by decide +kernel
theorem dj35m12_12 : decode jdk_35_method_12_code 12 = .ok (.newarray .byte, 2) := by decide +kernel
theorem dj35m12_14 : decode jdk_35_method_12_code 14 = .ok (.astore_n 3, 1) := by decide +kernel
theorem dj35m12_15 : decode jdk_35_method_12_code 15 = .ok (.lload_n 0, 1) := by decide +kernel
theorem dj35m12_16 : decode jdk_35_method_12_code 16 = .ok (.iload_n 2, 1) := by decide +kernel
theorem dj35m12_17 : decode jdk_35_method_12_code 17 = .ok (.aload_n 3, 1) := by decide +kernel
theorem dj35m12_18 : decode jdk_35_method_12_code 18 = .ok (.invokestatic 121, 3) := by decide +kernel
theorem dj35m12_21 : decode jdk_35_method_12_code 21 = .ok (.pop, 1) := by decide +kernel
theorem dj35m12_22 : decode jdk_35_method_12_code 22 = .ok (.new 5, 3) := by decide +kernel
theorem dj35m12_25 : decode jdk_35_method_12_code 25 = .ok (.dup, 1) := by decide +kernel
theorem dj35m12_26 : decode jdk_35_method_12_code 26 = .ok (.aload_n 3, 1) := by decide +kernel
theorem dj35m12_27 : decode jdk_35_method_12_code 27 = .ok (.iconst 0, 1) := by decide +kernel
theorem dj35m12_28 : decode jdk_35_method_12_code 28 = .ok (.invokespecial 112, 3) := by decide +kernel
theorem dj35m12_31 : decode jdk_35_method_12_code 31 = .ok (.areturn, 1) := by decide +kernel
theorem pd18 : parseMethodDescriptor "(JI[B)I" = some ⟨[.long, .int, (.array .byte)], some .int⟩ := by decide +kernel
theorem pd19 : parseMethodDescriptor "([BB)V" = some ⟨[(.array .byte), .byte], none⟩ := by decide +kernel
theorem ef_J_4 (m : MethodId) (x0 : Int64) : entryFrame m #[(.long x0)] 4 = mkF m 0 #[.val (.long x0), .second, .unset, .unset] [] := by first | (simp [entryFrame, mkF, argsToLocals, Value.category]; done) | rfl
theorem dp10m3_0 : decode prog_10_method_3_code 0 = .ok (.iload_n 0, 1) := by decide +kernel
theorem dp10m3_1 : decode prog_10_method_3_code 1 = .ok (.ifCond .eq 7, 3) := by decide +kernel
theorem dp10m3_8 : decode prog_10_method_3_code 8 = .ok (.lconst 0, 1) := by decide +kernel
theorem dp10m3_9 : decode prog_10_method_3_code 9 = .ok (.lstore 4, 2) := by decide +kernel
theorem dp10m3_11 : decode prog_10_method_3_code 11 = .ok (.lload_n 1, 1) := by decide +kernel
theorem dp10m3_12 : decode prog_10_method_3_code 12 = .ok (.ldc2_w 25, 3) := by decide +kernel
theorem dp10m3_15 : decode prog_10_method_3_code 15 = .ok (.lcmp, 1) := by decide +kernel
theorem dp10m3_16 : decode prog_10_method_3_code 16 = .ok (.ifCond .ge 21, 3) := by decide +kernel
theorem dp10m3_19 : decode prog_10_method_3_code 19 = .ok (.iload_n 3, 1) := by decide +kernel
theorem dp10m3_20 : decode prog_10_method_3_code 20 = .ok (.ifCond .ne 17, 3) := by decide +kernel
theorem dp10m3_23 : decode prog_10_method_3_code 23 = .ok (.lload_n 1, 1) := by decide +kernel
theorem dp10m3_24 : decode prog_10_method_3_code 24 = .ok (.lload 4, 2) := by decide +kernel
theorem dp10m3_26 : decode prog_10_method_3_code 26 = .ok (.lneg, 1) := by decide +kernel
theorem dp10m3_27 : decode prog_10_method_3_code 27 = .ok (.lxor, 1) := by decide +kernel
theorem dp10m3_28 : decode prog_10_method_3_code 28 = .ok (.lload 4, 2) := by decide +kernel
theorem dp10m3_30 : decode prog_10_method_3_code 30 = .ok (.ladd, 1) := by decide +kernel
theorem dp10m3_31 : decode prog_10_method_3_code 31 = .ok (.invokestatic 27, 3) := by decide +kernel
theorem dp10m3_34 : decode prog_10_method_3_code 34 = .ok (.goto 10, 3) := by decide +kernel
theorem dp10m3_44 : decode prog_10_method_3_code 44 = .ok (.areturn, 1) := by decide +kernel
theorem pd20 : parseMethodDescriptor "(J)Ljava/lang/String;" = some ⟨[.long], some (.object "java/lang/String")⟩ := by decide +kernel
theorem ef_IJI_6 (m : MethodId) (x0 : Int32) (x1 : Int64) (x2 : Int32) : entryFrame m #[(.int x0), (.long x1), (.int x2)] 6 = mkF m 0 #[.val (.int x0), .val (.long x1), .second, .val (.int x2), .unset, .unset] [] := by first | (simp [entryFrame, mkF, argsToLocals, Value.category]; done) | rfl
theorem dp10m3_37 : decode prog_10_method_3_code 37 = .ok (.iload_n 0, 1) := by decide +kernel
theorem dp10m3_38 : decode prog_10_method_3_code 38 = .ok (.lload_n 1, 1) := by decide +kernel
theorem dp10m3_39 : decode prog_10_method_3_code 39 = .ok (.iconst 0, 1) := by decide +kernel
theorem dp10m3_40 : decode prog_10_method_3_code 40 = .ok (.iload_n 3, 1) := by decide +kernel
theorem dp10m3_41 : decode prog_10_method_3_code 41 = .ok (.invokestatic 33, 3) := by decide +kernel
theorem pd21 : parseMethodDescriptor "(ZJIZ)Ljava/lang/String;" = some ⟨[.boolean, .long, .int, .boolean], some (.object "java/lang/String")⟩ := by decide +kernel
theorem dj35m14_9 : decode jdk_35_method_14_code 9 = .ok (.iconst 1, 1) := by decide +kernel
theorem dj35m14_10 : decode jdk_35_method_14_code 10 = .ok (.goto 4, 3) := by decide +kernel
theorem dj35m14_183 : decode jdk_35_method_14_code 183 = .ok (.aload_n 3, 1) := by decide +kernel
theorem dj35m14_184 : decode jdk_35_method_14_code 184 = .ok (.iinc 7 (-1), 3) := by decide +kernel
theorem dj35m14_187 : decode jdk_35_method_14_code 187 = .ok (.iload 7, 2) := by decide +kernel
theorem dj35m14_189 : decode jdk_35_method_14_code 189 = .ok (.bipush 45, 2) := by decide +kernel
theorem dj35m14_191 : decode jdk_35_method_14_code 191 = .ok (.bastore, 1) := by decide +kernel
theorem dp10m3_4 : decode prog_10_method_3_code 4 = .ok (.lconst 1, 1) := by decide +kernel
theorem dp10m3_5 : decode prog_10_method_3_code 5 = .ok (.goto 4, 3) := by decide +kernel
theorem dp10m4_0 : decode prog_10_method_4_code 0 = .ok (.iload_n 1, 1) := by decide +kernel
theorem dp10m4_1 : decode prog_10_method_4_code 1 = .ok (.ifCond .eq 18, 3) := by decide +kernel
theorem dp10m4_19 : decode prog_10_method_4_code 19 = .ok (.iload_n 0, 1) := by decide +kernel
theorem dp10m4_20 : decode prog_10_method_4_code 20 = .ok (.ifCond .eq 8, 3) := by decide +kernel
theorem dp10m4_28 : decode prog_10_method_4_code 28 = .ok (.ldc 43, 2) := by decide +kernel
theorem dp10m4_30 : decode prog_10_method_4_code 30 = .ok (.astore_n 2, 1) := by decide +kernel
theorem dp10m4_31 : decode prog_10_method_4_code 31 = .ok (.aload_n 2, 1) := by decide +kernel
theorem dp10m4_32 : decode prog_10_method_4_code 32 = .ok (.areturn, 1) := by decide +kernel
theorem ef_II_3 (m : MethodId) (x0 : Int32) (x1 : Int32) : entryFrame m #[(.int x0), (.int x1)] 3 = mkF m 0 #[.val (.int x0), .val (.int x1), .unset] [] := by first | (simp [entryFrame, mkF, argsToLocals, Value.category]; done) | rfl
theorem dp10m4_23 : decode prog_10_method_4_code 23 = .ok (.ldc 41, 2) := by decide +kernel
theorem dp10m4_25 : decode prog_10_method_4_code 25 = .ok (.goto 5, 3) := by decide +kernel
theorem dp10m4_4 : decode prog_10_method_4_code 4 = .ok (.iload_n 0, 1) := by decide +kernel
theorem dp10m4_5 : decode prog_10_method_4_code 5 = .ok (.ifCond .eq 8, 3) := by decide +kernel
theorem dp10m4_13 : decode prog_10_method_4_code 13 = .ok (.ldc 39, 2) := by decide +kernel
theorem dp10m4_15 : decode prog_10_method_4_code 15 = .ok (.astore_n 2, 1) := by decide +kernel
theorem dp10m4_16 : decode prog_10_method_4_code 16 = .ok (.goto 15, 3) := by decide +kernel
theorem dp10m4_8 : decode prog_10_method_4_code 8 = .ok (.ldc 37, 2) := by decide +kernel
theorem dp10m4_10 : decode prog_10_method_4_code 10 = .ok (.goto 5, 3) := by decide +kernel
theorem pd22 : parseMethodDescriptor "(ZZ)Ljava/lang/String;" = some ⟨[.boolean, .boolean], some (.object "java/lang/String")⟩ := by decide +kernel
theorem pd23 : parseMethodDescriptor "(ZJZ)Ljava/lang/String;" = some ⟨[.boolean, .long, .boolean], some (.object "java/lang/String")⟩ := by decide +kernel
theorem pd24 : parseMethodDescriptor "(Ljava/lang/String;Ljava/lang/String;IIC)Z" = some ⟨[(.object "java/lang/String"), (.object "java/lang/String"), .int, .int, .char], some .boolean⟩ := by decide +kernel
theorem ef_II_maxLocals (m : MethodId) (x0 : Int32) (x1 : Int32) : entryFrame m #[(.int x0), (.int x1)] maxLocals = mkF m 0 #[.val (.int x0), .val (.int x1), .unset, .unset, .unset, .unset, .unset, .unset, .unset, .unset, .unset] [] := by first | (simp [entryFrame, mkF, argsToLocals, Value.category, maxLocals]; done) | rfl
/-! the wide end: String constants may have been loaded meanwhile -/
def own_FW (Z : State) (EL : List (String × Nat)) (s : State) (h0 : Heap) (Q : Option Value → Heap → List Loc → Prop) (k n : Nat) : State → Outcome → Prop :=
  fun s₂ o => ∃ v L, o = .returned v ∧ Q v s₂.heap L ∧ CHr Z EL s.vm h0 s₂.vm s₂.heap ∧ ReturnedEndW s o s₂ L k n
/-- what a wide walk bears along, at the tables vm0 and the heap h -/
def own_Wd (Z : State) (a0 : Array Value) (EL : List (String × Nat)) (s : State) (h0 : Heap) (vm0 : Vm) (h : Heap) : Prop :=
  ∃ k0, s.Since vm0 k0 ∧ k0 ≤ h.size ∧ Z.Warmed39 vm0 ∧ EW Z a0 EL ∧ CHr Z EL s.vm h0 vm0 h
section OwnWide
variable {p : Program} {l : Launch} {e : Env} {R : Room} {s : State} {m : MethodId} {args : Array Value} {below : List Frame} {meth : Method} {c : Code} {T : State} {locs : List Loc} {cells slots : Nat} {Q : Option Value → Heap → List Loc → Prop} {k n : Nat}
variable {Z : State} {a0 : Array Value} {EL : List (String × Nat)} {h0 h h' : Heap} {vm0 vm1 : Vm}
theorem own_Wd.start (hZ : Z.Warmed39 s.vm) (hE : EW Z a0 EL) (hC : CHv Z EL s.vm h0) : own_Wd Z a0 EL s h0 s.vm h0 := ⟨0, (State.WarmedH.refl s).since 0, Nat.zero_le _, hZ, hE, CHr.refl hC⟩
theorem own_Wd.hZ (W : own_Wd Z a0 EL s h0 vm0 h) : Z.Warmed39 vm0 := by obtain ⟨_, _, _, q, _⟩ := W; exact q
theorem own_Wd.hE (W : own_Wd Z a0 EL s h0 vm0 h) : EW Z a0 EL := by obtain ⟨_, _, _, _, q, _⟩ := W; exact q
theorem own_Wd.chr (W : own_Wd Z a0 EL s h0 vm0 h) : CHr Z EL s.vm h0 vm0 h := by obtain ⟨_, _, _, _, _, q⟩ := W; exact q
theorem own_Wd.chv (W : own_Wd Z a0 EL s h0 vm0 h) : CHv Z EL vm0 h := W.chr.1
theorem own_Wd.ext (W : own_Wd Z a0 EL s h0 vm0 h) (E : Ext h h') : own_Wd Z a0 EL s h0 vm0 h' := by
  obtain ⟨k0, a, b, c, d, q⟩ := W
  exact ⟨k0, a, Nat.le_trans b E.1, c, d, q.trans (CHr.ext E q.1)⟩
theorem own_Wd.wr {a : Addr} {sl : Nat} {v : Value} (W : own_Wd Z a0 EL s h0 vm0 h) (w : Wr h h' a sl v) (S : Safe Z EL vm0 h a) : own_Wd Z a0 EL s h0 vm0 h' := by
  obtain ⟨k0, a, b, c, d, q⟩ := W
  exact ⟨k0, a, Nat.le_trans b (Nat.le_of_eq w.size.symm), c, d, q.trans (CHr.wr w S q.1)⟩
theorem own_Wd.keep {ws : List Addr} (W : own_Wd Z a0 EL s h0 vm0 h) (K : Keep h h' ws) (hs : ∀ x ∈ ws, Safe Z EL vm0 h x) : own_Wd Z a0 EL s h0 vm0 h' := by
  obtain ⟨k0, a, b, c, d, q⟩ := W
  exact ⟨k0, a, Nat.le_trans b K.1, c, d, q.trans (CHr.keep K hs q.1)⟩
theorem own_Wd.call {U : State} (W : own_Wd Z a0 EL s h0 vm0 h) (hS : (s.setVm vm0).Since U.vm U.heap.size) (C : CHr Z EL vm0 h U.vm U.heap) : own_Wd Z a0 EL s h0 U.vm U.heap := by
  obtain ⟨k0, a, b, c, d, q⟩ := W
  exact ⟨_, a.trans hS (Nat.le_trans b C.2.1), Nat.le_refl _, State.Warmed39.trans (t := s.setVm vm0) c hS.1, d, q.trans C⟩
theorem own_since_own {own : String} {U : State} {c : ClassId} (hS : (s.setVm vm0).Since U.vm n) (hown : vm0.findClass own = some c) : U.vm.findClass own = some c := (hS.1.alike.findClass _ _).trans hown
theorem own_startW {A B : State} (hh : s.heap = h0) (g1 : ∀ t, Steps p.tables e below B t → Steps p.tables e below A t) (g : own_Goes p e below (own_FW Z EL s h0 Q k n) B) :
    ∃ s₂ o, Steps p.tables e below A s₂ ∧ s₂.status = .running ∧ Ended s₂ below o ∧ ∃ v L, o = .returned v ∧ Q v s₂.heap L ∧ CHr Z EL s.vm s.heap s₂.vm s₂.heap ∧ ReturnedEndW s o s₂ L k n := by
  subst hh; exact own_to g1 g
theorem own_REW {s t : State} {o : Outcome} {L : List Loc} {k k' n n' : Nat} (h : ReturnedEndW s o t L k n) (hk : k ≤ k') (hn : n ≤ n') : ReturnedEndW s o t L k' n' := ⟨h.1, h.2.1, h.2.2.1, h.2.2.2.mono hk hn⟩
theorem own_leaveW (X : Stand p l e R (s.setVm vm0) m args below meth c T locs cells slots) (eT : T.heap = h) (W : own_Wd Z a0 EL s h0 vm0 h) (hlk : meth.locks = false) (hk : cells ≤ k) (hn : slots ≤ n) {v : Option Value} (hv : meth.sig.returnType = none → v = none) (hQ : Q v h locs) :
    ∃ fs, (∀ (f : JFrame) (acts : List Action), f.method = m → f.locked = none → f.entered = [] → (doReturn e (T.setTop f) acts v).1 = T.setFrames fs) ∧ (T.setFrames fs).status = .running ∧ Ended (T.setFrames fs) below (.returned v) ∧ own_FW Z EL s h0 Q k n (T.setFrames fs) (.returned v) := by
  subst eT
  obtain ⟨k0, hS, hk0, hZ, hE, hC⟩ := W
  obtain ⟨fs, h1, h2, h3, h4⟩ := X.leaveW hS hk0 hv hlk
  exact ⟨fs, h1, h2, h3, v, locs, rfl, hQ, hC.trans (show CHr Z EL vm0 T.heap T.vm T.heap from CHv.at X hZ hE hC.1), own_REW h4 hk hn⟩
theorem own_retNW (X : Stand p l e R (s.setVm vm0) m args below meth c T locs cells slots) (hx : p.tables.exec = Jvm.exec) {pc : Nat} {Ls : Array Slot} {z : Int32} {t : FieldType} {rest : List Value} (hret : meth.sig.returnType = some t)
    (hd : decode c.code pc = .ok (.ireturn, 1)) (ht : t = .boolean ∨ t = .byte ∨ t = .char ∨ t = .short) (hlk : meth.locks = false) (hk : cells ≤ k) (hn : slots ≤ n) (eT : T.heap = h) (W : own_Wd Z a0 EL s h0 vm0 h) (hQ : Q (some (.int (nar t z))) h locs) :
    own_Goes p e below (own_FW Z EL s h0 Q k n) (T.setTop (mkF m pc Ls (.int z :: rest))) := by
  obtain ⟨fs, hr, hrun, hended, hF⟩ := own_leaveW X eT W hlk hk hn (v := some (.int (nar t z))) (fun q => by rw [hret] at q; cases q) hQ
  exact ⟨_, _, retN X hx hret ht hd hr, hrun, hended, hF⟩
theorem own_retIW (X : Stand p l e R (s.setVm vm0) m args below meth c T locs cells slots) (hx : p.tables.exec = Jvm.exec) {pc : Nat} {Ls : Array Slot} {z : Int32} {rest : List Value} (hret : meth.sig.returnType = some .int)
    (hd : decode c.code pc = .ok (.ireturn, 1)) (hlk : meth.locks = false) (hk : cells ≤ k) (hn : slots ≤ n) (eT : T.heap = h) (W : own_Wd Z a0 EL s h0 vm0 h) (hQ : Q (some (.int z)) h locs) :
    own_Goes p e below (own_FW Z EL s h0 Q k n) (T.setTop (mkF m pc Ls (.int z :: rest))) := by
  obtain ⟨fs, hr, hrun, hended, hF⟩ := own_leaveW X eT W hlk hk hn (v := some (.int z)) (fun q => by rw [hret] at q; cases q) hQ
  exact ⟨_, _, retOut X hx hret rfl (Or.inl ⟨rfl, Or.inl rfl, z, rfl⟩) hd hr, hrun, hended, hF⟩
theorem own_retRW (X : Stand p l e R (s.setVm vm0) m args below meth c T locs cells slots) (hx : p.tables.exec = Jvm.exec) {pc : Nat} {Ls : Array Slot} {w : Value} {t : FieldType} {rest : List Value} (hret : meth.sig.returnType = some t)
    (hd : decode c.code pc = .ok (.areturn, 1)) (ht : t.isReference = true) (hw : w.isRef = true) (hlk : meth.locks = false) (hk : cells ≤ k) (hn : slots ≤ n) (eT : T.heap = h) (W : own_Wd Z a0 EL s h0 vm0 h) (hQ : Q (some w) h locs) :
    own_Goes p e below (own_FW Z EL s h0 Q k n) (T.setTop (mkF m pc Ls (w :: rest))) := by
  obtain ⟨fs, hr, hrun, hended, hF⟩ := own_leaveW X eT W hlk hk hn (v := some w) (fun q => by rw [hret] at q; cases q) hQ
  exact ⟨_, _, retOut X hx hret (own_nref ht) (Or.inr (Or.inr (Or.inr (Or.inr ⟨rfl, ht, hw⟩)))) hd hr, hrun, hended, hF⟩
theorem own_retVW (X : Stand p l e R (s.setVm vm0) m args below meth c T locs cells slots) (hx : p.tables.exec = Jvm.exec) {pc : Nat} {Ls : Array Slot} (hret : meth.sig.returnType = none)
    (hd : decode c.code pc = .ok (.return_, 1)) (hlk : meth.locks = false) (hk : cells ≤ k) (hn : slots ≤ n) (eT : T.heap = h) (W : own_Wd Z a0 EL s h0 vm0 h) (hQ : Q none h locs) :
    own_Goes p e below (own_FW Z EL s h0 Q k n) (T.setTop (mkF m pc Ls [])) := by
  obtain ⟨fs, hr, hrun, hended, hF⟩ := own_leaveW X eT W hlk hk hn (v := none) (fun _ => rfl) hQ
  exact ⟨_, _, X.returnOut hx hret hd hr, hrun, hended, hF⟩
/-- ldc of a constant whose text is known -/
theorem own_ldc (X : Stand p l e R (s.setVm vm0) m args below meth c T locs cells slots) (hx : p.tables.exec = Jvm.exec) (W : own_Wd Z a0 EL s h0 vm0 h) {own text : String} {index : Nat} (hown : vm0.findClass own = some m.cls) (w : (Cond.stringLink own index text).before a0 Z = true) (wS : ∀ a ∈ Bundle.stringAtoms, a.before a0 Z = true)
    (eT : T.heap = h) (hmem : (own, index) ∈ EL) {vs : List Value} {z : Int32} (ht : (∀ c ∈ text.toList, c.toNat < 256) ∧ text.toList.map (fun c => Value.int (Jvm.Lit.byteI c.toNat.toUInt16)) = vs) (hz : ¬ z < 0) (hl : z.toNatClampNeg = vs.length)
    {g : JFrame} (hg : g.method = m) (hd : decode c.code g.pc = .ok (.ldc index, 2)) {n : Nat} (hn : 4 * text.toList.length ≤ n) (hbig : n ≤ 536870912) (hc : cells + 2 ≤ R.cells) (hl' : slots + (n + 4) ≤ R.slots) :
    ∃ (a : Addr) (T' : State) (h' : Heap) (b : Addr) (k : ClassId), Stand p l e R (s.setVm T'.vm) m args below meth c T' locs (cells + 2) (slots + (n + 4)) ∧ T'.heap = h' ∧ Ext h h' ∧ own_Wd Z a0 EL s h0 T'.vm h' ∧ T'.vm.findClass own = some m.cls ∧
      Exa Z h' a "java/lang/String" ∧ Fld Z h' a "java/lang/String" "coder" "B" (.int 0) ∧ Fld Z h' a "java/lang/String" "value" "[B" (.ref b) ∧ Arv Z h' b k .byte z vs (.int 0) ∧ CHr Z EL vm0 h T'.vm h' ∧ (∀ x, Safe Z EL T'.vm h' x → x ≠ a ∧ x ≠ b) ∧
      ∀ target, Steps p.tables e below (T'.setTop { g with pc := g.pc + 2, stack := .ref a :: g.stack }) target → Steps p.tables e below (T.setTop g) target := by
  obtain ⟨k0, hS, hk0, hZ, hE, hC⟩ := W
  obtain ⟨a, T', h', k1, b, k, r1, r2, r3, r4, r5, r6, r7, r8, r9, r10, r11, -, -, r14, -, r16, r17⟩ := ldcCH X hx hZ hown w wS eT hS hk0 hE hmem hC.1 ht hz hl hg hd hn hbig hc hl'
  exact ⟨a, T', h', b, k, r1, r2, r3, ⟨k1, r4, r5, r6, hE, hC.trans r14⟩, r7, r8, r9, r10, r11, r14, r16, r17⟩
/-- ldc of a constant whose text isn't asked -/
theorem own_ldcO (X : Stand p l e R (s.setVm vm0) m args below meth c T locs cells slots) (hx : p.tables.exec = Jvm.exec) (W : own_Wd Z a0 EL s h0 vm0 h) {own text : String} {index : Nat} (hown : vm0.findClass own = some m.cls) (w : (Cond.stringLink own index text).before a0 Z = true) (wS : ∀ a ∈ Bundle.stringAtoms, a.before a0 Z = true)
    (eT : T.heap = h) {g : JFrame} (hg : g.method = m) (hd : decode c.code g.pc = .ok (.ldc index, 2)) {n : Nat} (hn : 4 * text.toList.length ≤ n) (hbig : n ≤ 536870912) (hc : cells + 2 ≤ R.cells) (hl' : slots + (n + 4) ≤ R.slots) :
    ∃ (a : Addr) (T' : State) (h' : Heap), Stand p l e R (s.setVm T'.vm) m args below meth c T' locs (cells + 2) (slots + (n + 4)) ∧ T'.heap = h' ∧ Ext h h' ∧ own_Wd Z a0 EL s h0 T'.vm h' ∧ T'.vm.findClass own = some m.cls ∧ CHr Z EL vm0 h T'.vm h' ∧
      ∀ target, Steps p.tables e below (T'.setTop { g with pc := g.pc + 2, stack := .ref a :: g.stack }) target → Steps p.tables e below (T.setTop g) target := by
  obtain ⟨k0, hS, hk0, hZ, hE, hC⟩ := W
  obtain ⟨a, T', h', k1, r1, r2, r3, r4, r5, r6, r7, r8, -, r9⟩ := ldcOH X hx hZ hown w wS eT hS hk0 hE hC.1 hg hd hn hbig hc hl'
  exact ⟨a, T', h', r1, r2, r3, ⟨k1, r4, r5, r6, hE, hC.trans r8⟩, r7, r8, r9⟩
end OwnWide
/-- a body's contract where String constants may be loaded -/
abbrev own_MetW (EL : List (String × Nat)) (l : Launch) (y : MethodName) (bytes : ByteArray) (ml : Nat) (rt : Option FieldType) (ws : List Jvm.Cond) (rm : Room) (Z : State) (as' : Array Value) (h0 : Heap) (Q : Option Value → Heap → List Loc → Prop) : Prop :=
  MetFree l y (head1 (Jvm.Cond.code y bytes ml rt :: ws) rm) (fun a U => a = as' ∧ Z.Warmed39 U.vm ∧ U.heap = h0 ∧ CHv Z EL U.vm h0) (fun _ _ _ _ _ => True) (fun _ U o U' => ∃ v L, o = .returned v ∧ Q v U'.heap L ∧ CHr Z EL U.vm U.heap U'.vm U'.heap ∧ ReturnedEndW U o U' L rm.cells rm.slots)
theorem own_enterW {EL : List (String × Nat)} {l : Launch} {y : MethodName} {bytes : ByteArray} {ml : Nat} {rt : Option FieldType} {ws : List Jvm.Cond} {rm : Room} {Z : State} {as' : Array Value} {h0 : Heap} {Q : Option Value → Heap → List Loc → Prop} (L0 : Array Slot) (hp : plainFor y = true) (ef : ∀ m, entryFrame m as' ml = mkF m 0 L0 []) {a0 : Array Value} (hE : EW Z a0 EL)
    (go : ∀ (p : Program) (e : Env) (s : State) (m : MethodId) (below : List Frame) (meth : Method) (c : Code) (s₁ : State), p.tables.exec = Jvm.exec → c.code = bytes → c.maxLocals = ml → (s.setVm s.vm).vm.findClass y.cls = some m.cls → meth.name = y.name → Z.Warmed39 (s.setVm s.vm).vm → meth.sig.returnType = rt → meth.locks = false → Stand p l e rm (s.setVm s.vm) m as' below meth c s₁ [] 0 0 → s₁.heap = h0 → own_Wd Z a0 EL s h0 s.vm h0 → own_Goes p e below (own_FW Z EL s h0 Q rm.cells rm.slots) (s₁.setTop (mkF m 0 L0 []))) :
    own_MetW EL l y bytes ml rt ws rm Z as' h0 Q := by
  refine MetFree.of_bodySF hp hisR ?_
  intro p e s m args below meth c s₁ Bd hml0 hP hK
  obtain ⟨rfl, hZ, hh, hC⟩ := hP
  have g := go p e s m below meth c s₁ Bd.exec Bd.bytes hml0 (findClass_of_methodNamed Bd.named) (name_of_methodNamed Bd.named Bd.method).1 hZ Bd.returns Bd.notSynchronized (Stand.of_body Bd) (by rw [← hh, Bd.state]; rfl) (own_Wd.start hZ hE hC)
  exact own_startW hh (fun t k => castTop (ef m) k) g

def Q0 (h0 : Heap) (n0 : Nat) (v : Option Value) (h : Heap) (L : List Loc) : Prop := v = some (.int 1) ∧ Fr n0 L

theorem own_nb (x : Int32) : nar .byte (x.toInt8.toInt32) = x.toInt8.toInt32 := by
  show x.toInt8.toInt32.toInt8.toInt32 = _
  have a := c_i2b x
  have b := c_i2b x.toInt8.toInt32
  rw [← Int32.toInt_inj]
  omega
theorem own_nb2 (x : Int32) : x.toInt8.toInt32.toInt8.toInt32 = x.toInt8.toInt32 := own_nb x
theorem own_i2c {x : Int32} (h : 0 ≤ x.toInt ∧ x.toInt ≤ 65535) : x.toUInt32.toUInt16.toUInt32.toInt32 = x := by
  have q := c_i2c x
  rw [← Int32.toInt_inj]
  omega
theorem own_narc {x : Int32} (h : 0 ≤ x.toInt ∧ x.toInt ≤ 65535) : nar .char x = x := own_i2c h
theorem own_up {x : Int32} (h : 0 ≤ x.toInt ∧ x.toInt ≤ 255) : 0 ≤ x.toInt ∧ x.toInt ≤ 65535 := by omega

theorem own_wS {a0 : Array Value} {Z : State} (hw : ∀ d ∈ tables_1, d.before a0 Z = true) : ∀ a ∈ Bundle.stringAtoms, a.before a0 Z = true := fun d hd => hw d ((by decide +kernel : ∀ d ∈ Bundle.stringAtoms, d ∈ tables_1) d hd)
theorem own_safeV {Z : State} {EL : List (String × Nat)} {vm : Vm} {h : Heap} {x : Addr} {k : ClassId} {ty : FieldType} {z : Int32} {vs : List Value} {d : Value} (hal : Z.vm.Alike vm) (V : Arv Z h x k ty z vs d) (ht : ty ≠ .byte) : Safe Z EL vm h x := by
  obtain ⟨c, A, -⟩ := V
  exact Safe.arr hal A ht
def own_EL : List (String × Nat) := [("com/example/unit_step/unitstep/FloatingPointLayout", 37), ("com/example/unit_step/unitstep/FloatingPointLayout", 39), ("com/example/unit_step/unitstep/FloatingPointLayout", 41), ("com/example/unit_step/unitstep/FloatingPointLayout", 43)]
/-- what an array holds at the start, said place by place (the places from i on) -/
def own_Els (args : Array Value) (s : State) (t : Term) : Nat → List Value → Prop
  | _, [] => True
  | i, v :: vs => (Term.elem t (.int (Int32.ofNat i))).eval args s none [] s = some v ∧ own_Els args s t (i + 1) vs
theorem own_elI {args : Array Value} {s : State} {t : Term} {a : Addr} {j z : Int32} (ev : t.eval args s none [] s = some (.ref a)) (h : (Cond.eq (.elem t (.int j)) (.int z)).value args s none s [] = some true) : (Term.elem t (.int j)).eval args s none [] s = some (.int z) := by
  obtain ⟨x, y, e1, e2, -, k⟩ := cmp_v (Or.inl h)
  obtain rfl : y = .int z := (Option.some.inj ((Term.int_eval z).symm.trans e2)).symm
  obtain ⟨w, rfl⟩ : ∃ w, x = .int w := k
  have hz : w = z := gotT (Cond.eq_ints e1 (Term.int_eval z)) h
  subst hz
  exact e1
theorem own_elR {args : Array Value} {s : State} {t u : Term} {a b : Addr} {j : Int32} (ev : t.eval args s none [] s = some (.ref a)) (eu : u.eval args s none [] s = some (.ref b)) (h : (Cond.eq (.elem t (.int j)) u).value args s none s [] = some true) : (Term.elem t (.int j)).eval args s none [] s = some (.ref b) := by
  obtain ⟨x, y, e1, e2, k1, k2⟩ := cmp_v (Or.inl h)
  cases eu.symm.trans e2
  have hx : x.isRef = true := k2.2
  have q := gotT (eq_R e1 e2 hx rfl) h
  rw [e1, q]
theorem own_ofn {i : Nat} (h : i < 2 ^ 31) : ¬ Int32.ofNat i < 0 ∧ (Int32.ofNat i).toNatClampNeg = i := by
  have e : (Int32.ofNat i).toInt = i := Int32.toInt_ofNat_small h
  have e0 : (0 : Int32).toInt = 0 := rfl
  have hn : ¬ Int32.ofNat i < 0 := by rw [Int32.lt_iff_toInt_lt, e, e0]; omega
  have q := nat_of hn
  exact ⟨hn, by omega⟩
theorem own_els {args : Array Value} {s : State} {t : Term} {a : Addr} {cl : Cell} (ev : t.eval args s none [] s = some (.ref a)) (hat : s.arrayAt? a = some cl) : ∀ (vs : List Value) (i : Nat), i + vs.length < 2 ^ 31 → own_Els args s t i vs → HasL cl i vs
  | [], _, _, _ => trivial
  | v :: vs, i, h, ⟨h1, h2⟩ => by
    have hi : i < 2 ^ 31 := by simp only [List.length_cons] at h; omega
    have o := own_ofn hi
    have q := elem_f (a := .int (Int32.ofNat i)) ev (Term.int_eval _) hat o.1
    rw [q, o.2] at h1
    exact ⟨h1, own_els ev hat vs (i + 1) (by simp only [List.length_cons] at h; omega) h2⟩
theorem own_starr {args : Array Value} {s : State} {t : Term} {a : Addr} {ty : FieldType} {z : Int32} {vs : List Value} {dv : Value} (hf : Fit s) (ev : t.eval args s none [] s = some (.ref a)) (ha : (Cond.arrayOf t ty).value args s none s [] = some true) (hl : (Cond.eq (.length t) (.int z)).value args s none s [] = some true)
    (hz : ¬ z < 0) (hlen : z.toNatClampNeg = vs.length) (he : own_Els args s t 0 vs) : ∃ k, Arv s s.heap a k ty z vs dv := by
  obtain ⟨cl, A⟩ := Arr.start ev ha
  have hat : s.arrayAt? a = some cl := A.fin (Vm.Alike.refl _)
  obtain ⟨x, y, e1, e2, -, k⟩ := cmp_v (Or.inl hl)
  obtain rfl : y = .int z := (Option.some.inj ((Term.int_eval z).symm.trans e2)).symm
  obtain ⟨w, rfl⟩ : ∃ w, x = .int w := k
  have hw : w = z := gotT (Cond.eq_ints e1 (Term.int_eval z)) hl
  subst hw
  have hs : cl.slots.size < 2 ^ 31 ∧ cl.slots.size.toInt32 = w := by
    have q := e1
    simp only [Term.eval, ev, hat, Option.bind_eq_bind, Option.bind_some] at q
    split at q
    · rename_i hq
      exact ⟨hq, by injection q with q; injection q⟩
    · cases q
  have hn := nat_of hz
  have r := rng32 w
  exact ⟨cl.cls, Arv.start hf A hs.1 hs.2 hz hlen (own_els ev hat vs 0 (by omega) he)⟩

def own_D (d : Int64) : Prop := d = 1 ∨ d = 2 ∨ d = 3 ∨ d = 4 ∨ d = 5 ∨ d = 6 ∨ d = 7 ∨ d = 8 ∨ d = 9
def own_D0 (v : Int64) : Prop := v = 0 ∨ v = 1 ∨ v = 2 ∨ v = 3 ∨ v = 4 ∨ v = 5 ∨ v = 6 ∨ v = 7 ∨ v = 8 ∨ v = 9
theorem own_DD {d : Int64} (h : own_D d) : own_D0 d := Or.inr h
def own_X (v : Int64) : Prop := v = 1 ∨ v = 3 ∨ v = 5 ∨ v = 7 ∨ v = 9
def own_dg (d : Int64) : Int32 := (48 : Int32) + d.toInt32
def own_c8 (b : Int32) : Int32 := nar .char ((b &&& (255 : Int32)).toUInt32.toUInt16.toUInt32.toInt32)
theorem own_c16 (z : Int32) : 0 ≤ (nar .char z).toInt ∧ (nar .char z).toInt ≤ 65535 := by
  have q := c_i2c z
  have r : (nar .char z) = z.toUInt32.toUInt16.toUInt32.toInt32 := rfl
  rw [r]
  omega
theorem own_c8n (b : Int32) : nar .char (own_c8 b) = own_c8 b := own_narc (own_c16 _)
def own_nlz (p : Int32) : Int32 := if p < 4 then (31 : Int32) - ((p.toUInt32 >>> ((1 : Int32) &&& 31).toUInt32).toInt32) else (29 : Int32) - ((((p.toUInt32 >>> ((2 : Int32) &&& 31).toUInt32).toInt32).toUInt32 >>> ((1 : Int32) &&& 31).toUInt32).toInt32)
def own_nl64 (v : Int64) : Int32 := (32 : Int32) + (own_nlz (v.toInt32))
theorem own_or1 {v : Int64} (h : own_D0 v) : own_X (v ||| (1 : Int64)) := by
  unfold own_X
  rcases h with rfl | rfl | rfl | rfl | rfl | rfl | rfl | rfl | rfl | rfl
  all_goals decide +kernel
theorem own_x32 {v : Int64} (h : own_X v) : 1 ≤ (v.toInt32).toInt ∧ (v.toInt32).toInt ≤ 15 := by
  rcases h with rfl | rfl | rfl | rfl | rfl
  all_goals decide +kernel
theorem own_xhi {v : Int64} (h : own_X v) : (((v.toUInt64 >>> ((32 : Int32) &&& 0x3f).toInt64.toUInt64).toInt64).toInt32) = (0 : Int32) := by
  rcases h with rfl | rfl | rfl | rfl | rfl
  all_goals decide +kernel
theorem own_tt {v : Int64} (h : own_D0 v) : ((((((64 : Int32) - (own_nl64 (v ||| (1 : Int64)))) * (1233 : Int32)).toUInt32 >>> ((12 : Int32) &&& 31).toUInt32).toInt32) = (0 : Int32) ∧ ¬ ((lcmpW (v ||| (1 : Int64)) (1 : Int64)) < (0 : Int32))) ∨ ((((((64 : Int32) - (own_nl64 (v ||| (1 : Int64)))) * (1233 : Int32)).toUInt32 >>> ((12 : Int32) &&& 31).toUInt32).toInt32) = (1 : Int32) ∧ (lcmpW (v ||| (1 : Int64)) (10 : Int64)) < (0 : Int32)) := by
  rcases h with rfl | rfl | rfl | rfl | rfl | rfl | rfl | rfl | rfl | rfl
  all_goals decide +kernel
theorem own_lt6 {d : Int64} (h : own_D d) : (lcmpW d (1000000 : Int64)) < (0 : Int32) := by
  rcases h with rfl | rfl | rfl | rfl | rfl | rfl | rfl | rfl | rfl
  all_goals decide +kernel
theorem own_pos {d : Int64} (h : own_D d) : ¬ ((lcmpW d (0 : Int64)) < (0 : Int32)) := by
  rcases h with rfl | rfl | rfl | rfl | rfl | rfl | rfl | rfl | rfl
  all_goals decide +kernel
theorem own_neg {d : Int64} (h : own_D d) : (lcmpW (-d) (0 : Int64)) < (0 : Int32) := by
  rcases h with rfl | rfl | rfl | rfl | rfl | rfl | rfl | rfl | rfl
  all_goals decide +kernel
theorem own_m10 {d : Int64} (h : own_D d) : (0 : Int32) < (lcmpW (-d) (-10 : Int64)) := by
  rcases h with rfl | rfl | rfl | rfl | rfl | rfl | rfl | rfl | rfl
  all_goals decide +kernel
theorem own_mmin {d : Int64} (h : own_D d) : (0 : Int32) < (lcmpW (-d) (-2147483648 : Int64)) := by
  rcases h with rfl | rfl | rfl | rfl | rfl | rfl | rfl | rfl | rfl
  all_goals decide +kernel
theorem own_m100 {d : Int64} (h : own_D d) : (-100 : Int32) < ((-d).toInt32) := by
  rcases h with rfl | rfl | rfl | rfl | rfl | rfl | rfl | rfl | rfl
  all_goals decide +kernel
theorem own_m9 {d : Int64} (h : own_D d) : ¬ (((-d).toInt32) < (-9 : Int32)) := by
  rcases h with rfl | rfl | rfl | rfl | rfl | rfl | rfl | rfl | rfl
  all_goals decide +kernel
theorem own_rem {d : Int64} (h : own_D d) : ¬ ((lcmpW (d - ((d / (10 : Int64)) * (10 : Int64))) (0 : Int64)) = (0 : Int32)) := by
  rcases h with rfl | rfl | rfl | rfl | rfl | rfl | rfl | rfl | rfl
  all_goals decide +kernel
theorem own_x0 {d : Int64} (h : own_D d) : ((d ^^^ (-(0 : Int64))) + (0 : Int64)) = d := by
  rcases h with rfl | rfl | rfl | rfl | rfl | rfl | rfl | rfl | rfl
  all_goals decide +kernel
theorem own_x1 {d : Int64} (h : own_D d) : ((d ^^^ (-(1 : Int64))) + (1 : Int64)) = (-d) := by
  rcases h with rfl | rfl | rfl | rfl | rfl | rfl | rfl | rfl | rfl
  all_goals decide +kernel
theorem own_didx {d : Int64} (h : own_D d) : ¬ (-((-d).toInt32)) < (0 : Int32) ∧ (-((-d).toInt32)) < (100 : Int32) := by
  rcases h with rfl | rfl | rfl | rfl | rfl | rfl | rfl | rfl | rfl
  all_goals decide +kernel
theorem own_hxA {d : Int64} (h : own_D d) : own_c8 (((48 : Int32) + (d.toInt32)).toInt8.toInt32) = ((((48 : Int64) + d).toInt32).toUInt32.toUInt16.toUInt32.toInt32) := by
  rcases h with rfl | rfl | rfl | rfl | rfl | rfl | rfl | rfl | rfl
  all_goals decide +kernel
theorem own_hxB {d : Int64} (h : own_D d) : own_c8 (nar .byte (own_dg d)) = ((((48 : Int64) + d).toInt32).toUInt32.toUInt16.toUInt32.toInt32) := by
  rcases h with rfl | rfl | rfl | rfl | rfl | rfl | rfl | rfl | rfl
  all_goals decide +kernel
theorem own_r9 (x : Int32) : (x &&& (2147483647 : Int32)) % (9 : Int32) = 0 ∨ (x &&& (2147483647 : Int32)) % (9 : Int32) = 1 ∨ (x &&& (2147483647 : Int32)) % (9 : Int32) = 2 ∨ (x &&& (2147483647 : Int32)) % (9 : Int32) = 3 ∨ (x &&& (2147483647 : Int32)) % (9 : Int32) = 4 ∨ (x &&& (2147483647 : Int32)) % (9 : Int32) = 5 ∨ (x &&& (2147483647 : Int32)) % (9 : Int32) = 6 ∨ (x &&& (2147483647 : Int32)) % (9 : Int32) = 7 ∨ (x &&& (2147483647 : Int32)) % (9 : Int32) = 8 := by
  have h := c_and x 2147483647 (by decide)
  have q := (c_irem (x &&& 2147483647) 9 9 rfl).1 h.1
  have l0 : (0 : Int32).toInt = 0 := rfl
  have l1 : (1 : Int32).toInt = 1 := rfl
  have l2 : (2 : Int32).toInt = 2 := rfl
  have l3 : (3 : Int32).toInt = 3 := rfl
  have l4 : (4 : Int32).toInt = 4 := rfl
  have l5 : (5 : Int32).toInt = 5 := rfl
  have l6 : (6 : Int32).toInt = 6 := rfl
  have l7 : (7 : Int32).toInt = 7 := rfl
  have l8 : (8 : Int32).toInt = 8 := rfl
  simp only [← Int32.toInt_inj, l0, l1, l2, l3, l4, l5, l6, l7, l8]
  omega
theorem own_9 (x : Int32) : own_D ((((x &&& (2147483647 : Int32)) % (9 : Int32)) + (1 : Int32)).toInt64) := by
  unfold own_D
  rcases own_r9 x with h | h | h | h | h | h | h | h | h <;> rw [h] <;> decide +kernel
def own_onef (r : Nat) : Value := .int ((48 : Int32) + Int32.ofNat r % 10)
def own_ones : List Value := (List.range' 0 100).map own_onef
theorem own_hasL {D : Cell} {f : Nat → Value} : ∀ (n i : Nat), (∀ r, i ≤ r → r < i + n → D.slots[r]? = some (f r)) → HasL D i ((List.range' i n).map f)
  | 0, i, _ => trivial
  | n + 1, i, h => by
    show D.slots[i]? = some (f i) ∧ HasL D (i + 1) ((List.range' (i + 1) n).map f)
    exact ⟨h i (Nat.le_refl _) (by omega), own_hasL n (i + 1) (fun r h1 h2 => h r (by omega) (by omega))⟩
theorem own_dgt {s : State} {args : Array Value} {T : Term} (hT : ∀ idx, T.eval args s none idx s = T.eval args s none [] s) (hf : Fit s) (hex : (Cond.exactly T "[B").before args s = true) (hl : (Cond.eq (.length T) (.int (100 : Int32))).before args s = true)
    (ha : (Cond.all T (.eq (.elem T (.index 0)) (.add (.int (48 : Int32)) (.rem (.index 0) (.int (10 : Int32)))))).before args s = true) (har : (Cond.arrayClass .byte).before args s = true) : ∃ dg k, T.eval args s none [] s = some (.ref dg) ∧ Arv s s.heap dg k .byte (100 : Int32) own_ones (.int (0 : Int32)) := by
  obtain ⟨d, cB, D, kB, hev, hfcB, hcellD, hkB, hstatD, hclsD, -⟩ := Cond.exactly_spec hex
  obtain ⟨cB', kB', comp, hnameB, hkB', hkindB⟩ := Cond.arrayClass_spec har
  have eBA : ("[" ++ FieldType.toString .byte) = "[B" := by decide
  rw [eBA] at hnameB
  cases hfcB.symm.trans hnameB
  cases hkB.symm.trans hkB'
  have hl2 : (Term.length T).eval args s none [] s = some (.int (100 : Int32)) := Cond.eq_int hl rfl
  obtain ⟨d', D', hev', harrAt, hlen⟩ := Term.length_spec hl2
  cases hev.symm.trans hev'
  obtain ⟨hcellD', hknD, -, -⟩ := State.arrayAt?_spec harrAt
  cases hcellD.symm.trans hcellD'
  have A : Arr s s.heap d D .byte := ⟨hcellD, ⟨(fun q h => by rw [h] at hstatD; cases hstatD), kB, (by rw [hclsD]; exact hkB), comp, hkindB⟩, hknD⟩
  have hs : D.slots.size < 2 ^ 31 ∧ D.slots.size.toInt32 = (100 : Int32) := by
    have q := hl2
    simp only [Term.eval, hev, harrAt, Option.bind_eq_bind, Option.bind_some] at q
    split at q
    · rename_i hq
      exact ⟨hq, by injection q with q; injection q⟩
    · cases q
  have hsz : D.slots.size = 100 := by
    have h2 : (Int32.ofNat D.slots.size).toInt = (100 : Int32).toInt := congrArg Int32.toInt hs.2
    rw [Int32.toInt_ofNat_small hs.1] at h2
    have h3 : (100 : Int32).toInt = 100 := rfl
    omega
  have hel : ∀ r, r < 100 → D.slots[r]? = some (own_onef r) := fun r hr => by
    have o := own_ofn (i := r) (by omega)
    obtain ⟨v, h1, h2⟩ := elem_fit hf A (j := Int32.ofNat r) (fun q => q.elim o.1 (fun z => by rw [o.2] at z; omega))
    obtain ⟨y, rfl⟩ := fit_I h2 (Or.inr (Or.inr (Or.inl rfl)))
    rw [o.2] at h1
    have eL : (Term.elem T (.index 0)).eval args s none [r] s = some (.int y) := by
      have q := elem_f (a := .index 0) (j := Int32.ofNat r) (idx := [r]) ((hT [r]).trans hev) rfl harrAt o.1
      rw [o.2] at q
      exact q.trans h1
    have k := gotT (Cond.eq_ints eL (y := (48 : Int32) + Int32.ofNat r % 10) rfl) (Cond.all_elim hev harrAt (Cond.before_iff.mp ha) r (by omega))
    rw [h1, k]
    rfl
  refine ⟨d, D.cls, hev, Arv.start hf A hs.1 hs.2 (by decide) ?_ (own_hasL 100 0 (fun r _ h => hel r (by omega)))⟩
  rw [own_ones, List.length_map, List.length_range']
  rfl
theorem own_onesAt {d : Int64} (h : own_D d) : own_ones.getD (-((-d).toInt32)).toNatClampNeg (.int (0 : Int32)) = .int (own_dg d) := by
  rcases h with rfl | rfl | rfl | rfl | rfl | rfl | rfl | rfl | rfl
  · rw [show (-((-(1 : Int64)).toInt32)).toNatClampNeg = 1 from by decide +kernel, show own_dg 1 = (48 : Int32) + Int32.ofNat 1 % 10 from by decide +kernel]
    rfl
  · rw [show (-((-(2 : Int64)).toInt32)).toNatClampNeg = 2 from by decide +kernel, show own_dg 2 = (48 : Int32) + Int32.ofNat 2 % 10 from by decide +kernel]
    rfl
  · rw [show (-((-(3 : Int64)).toInt32)).toNatClampNeg = 3 from by decide +kernel, show own_dg 3 = (48 : Int32) + Int32.ofNat 3 % 10 from by decide +kernel]
    rfl
  · rw [show (-((-(4 : Int64)).toInt32)).toNatClampNeg = 4 from by decide +kernel, show own_dg 4 = (48 : Int32) + Int32.ofNat 4 % 10 from by decide +kernel]
    rfl
  · rw [show (-((-(5 : Int64)).toInt32)).toNatClampNeg = 5 from by decide +kernel, show own_dg 5 = (48 : Int32) + Int32.ofNat 5 % 10 from by decide +kernel]
    rfl
  · rw [show (-((-(6 : Int64)).toInt32)).toNatClampNeg = 6 from by decide +kernel, show own_dg 6 = (48 : Int32) + Int32.ofNat 6 % 10 from by decide +kernel]
    rfl
  · rw [show (-((-(7 : Int64)).toInt32)).toNatClampNeg = 7 from by decide +kernel, show own_dg 7 = (48 : Int32) + Int32.ofNat 7 % 10 from by decide +kernel]
    rfl
  · rw [show (-((-(8 : Int64)).toInt32)).toNatClampNeg = 8 from by decide +kernel, show own_dg 8 = (48 : Int32) + Int32.ofNat 8 % 10 from by decide +kernel]
    rfl
  · rw [show (-((-(9 : Int64)).toInt32)).toNatClampNeg = 9 from by decide +kernel, show own_dg 9 = (48 : Int32) + Int32.ofNat 9 % 10 from by decide +kernel]
    rfl
theorem own_elJ {args : Array Value} {s : State} {t : Term} {j : Int32} {z : Int64} (h : (Cond.eq (.elem t (.int j)) (.long z)).value args s none s [] = some true) : (Term.elem t (.int j)).eval args s none [] s = some (.long z) := Cond.eq_long (Cond.before_iff.mpr h) rfl
def own_RS (Z : State) (n : Int32) (vs : List Value) (h0 : Heap) (n0 : Nat) (v : Option Value) (h : Heap) (L : List Loc) : Prop := ∃ (a b : Addr) (k : ClassId), v = some (.ref a) ∧ Fr n0 L ∧ Keep h0 h [] ∧ Exa Z h a "java/lang/String" ∧ Fld Z h a "java/lang/String" "coder" "B" (.int (0 : Int32)) ∧ Fld Z h a "java/lang/String" "value" "[B" (.ref b) ∧ Arv Z h b k .byte n vs (.int (0 : Int32))
def own_pc (z1 i1 t1 dc x1 x2 : Int32) (vs1 vs2 : List Value) : Prop := (¬ i1 < z1) ∨ (i1 < z1 ∧ ¬ i1 < (0 : Int32) ∧ vs1.getD i1.toNatClampNeg (.int (0 : Int32)) = .int x1 ∧ vs2.getD i1.toNatClampNeg (.int (0 : Int32)) = .int x2 ∧ ((i1 = t1 ∧ own_c8 x1 = (48 : Int32) ∧ own_c8 x2 = dc) ∨ (¬ i1 = t1 ∧ own_c8 x1 = own_c8 x2)))
def own_TB (Z : State) (dg : Addr) (kd : ClassId) (ex : Addr) (kx : ClassId) : Prop := Sta Z Z.heap "java/lang/Integer" "DigitOnes" "[B" (.ref dg) ∧ Arv Z Z.heap dg kd .byte (100 : Int32) own_ones (.int (0 : Int32)) ∧ Sta Z Z.heap "com/example/unit_step/unitstep/PowersOfTen" "EXACT" "[J" (.ref ex) ∧ Arv Z Z.heap ex kx .long (19 : Int32) [(.long (1 : Int64)), (.long (10 : Int64)), (.long (100 : Int64)), (.long (1000 : Int64)), (.long (10000 : Int64)), (.long (100000 : Int64)), (.long (1000000 : Int64)), (.long (10000000 : Int64)), (.long (100000000 : Int64)), (.long (1000000000 : Int64)), (.long (10000000000 : Int64)), (.long (100000000000 : Int64)), (.long (1000000000000 : Int64)), (.long (10000000000000 : Int64)), (.long (100000000000000 : Int64)), (.long (1000000000000000 : Int64)), (.long (10000000000000000 : Int64)), (.long (100000000000000000 : Int64)), (.long (1000000000000000000 : Int64))] (.long (0 : Int64))


theorem own_shr0 (z : Int32) : z >>> ((0 : Int32) &&& 31) = z := by
  rw [← Int32.toInt_inj, c_ishr z 0 0 (by decide)]
  simp
def Q1  (h0 : Heap) (n0 : Nat) (v : Option Value) (h : Heap) (L : List Loc) : Prop := v = some (.int (0 : Int32)) ∧ Fr n0 L ∧ h = h0
set_option maxRecDepth 65536 in
set_option maxHeartbeats 40000000 in
theorem rm1 (l : Launch) (Z : State) (a0 : Array Value) (hw : ∀ d ∈ tables_1, d.before a0 Z = true) (ws : List Jvm.Cond) (a1 : Addr) (h0 : Heap) (n0 : Nat) (G1 : Int32) (P5 : ¬ G1 = (0 : Int32)) (O0 : Old Z n0 h0) (Sc : Sta Z Z.heap "java/lang/String" "COMPACT_STRINGS" "Z" (.int G1)) (E1 : Exa Z h0 a1 "java/lang/String") (C1 : Fld Z h0 a1 "java/lang/String" "coder" "B" (.int (0 : Int32))) :
    own_Met l (⟨"java/lang/String", "coder", "()B"⟩ : MethodName) jdk_42_method_152_code 1 (some .byte) ws own_R_0_0_0_0 Z #[(.ref a1)] h0 (Q1 h0 n0) := by
  refine own_enter #[.val (.ref a1)] (plainFor_of_name pn_java_lang_String) (fun m => ef_R_1 m a1) ?_
  intro p e s m below meth c s₁ hx hby hml hown hnm hZ hrt hlk X0 e0
  have N0 := Fr.nil n0
  obtain ⟨T51, X51, e51, st51⟩ := getS2 X0 hx hZ hown (host := "") (Or.inl (own_w hw 52 rfl)) Via.refl e0 (Sc.ext O0.2) (g := (mkF m 0 #[.val (.ref a1)] [])) rfl (hb hby dj42m152_0)
  refine own_tp (.int G1) 3 st51 ?_
  refine own_d1 6 (fun _ q => XS.ifNo X51.here hx rfl (hb hby dj42m152_3) rfl ((if0 _ _).trans (feq P5).1) q) ?_
  refine own_tp (.ref a1) 7 (fun _ q => XS.aloadN X51.here hx rfl (hb hby dj42m152_6) rfl rfl q) ?_
  obtain ⟨T52, X52, e52, st52⟩ := getF X51 hx hZ hown (host := "") (Or.inl (own_w hw 41 rfl)) Via.refl e51 C1 (g := (mkF m 7 #[.val (.ref a1)] [(.ref a1)])) rfl rfl (hb hby dj42m152_7)
  refine own_t1 (.int (0 : Int32)) 10 st52 ?_
  refine own_d0 14 (fun _ q => XS.goto X52.here hx rfl (pc0 := 10) (pc' := 14) rfl (hb hby dj42m152_10) (by decide) (by decide) q) ?_
  exact own_retN (t := .byte) X52 hx hrt (hb hby dj42m152_14) (by simp) hlk (by decide) (by decide) e52 (⟨rfl, N0, rfl⟩)
def Q2  (h0 : Heap) (n0 : Nat) (v : Option Value) (h : Heap) (L : List Loc) : Prop := v = some (.int (1 : Int32)) ∧ Fr n0 L ∧ h = h0
set_option maxRecDepth 65536 in
set_option maxHeartbeats 40000000 in
theorem rm2 (l : Launch) (Z : State) (a0 : Array Value) (hw : ∀ d ∈ tables_1, d.before a0 Z = true) (ws : List Jvm.Cond) (a1 : Addr) (h0 : Heap) (n0 : Nat) (G1 : Int32) (P5 : ¬ G1 = (0 : Int32)) (O0 : Old Z n0 h0) (Sc : Sta Z Z.heap "java/lang/String" "COMPACT_STRINGS" "Z" (.int G1)) (E1 : Exa Z h0 a1 "java/lang/String") (C1 : Fld Z h0 a1 "java/lang/String" "coder" "B" (.int (0 : Int32))) :
    own_Met l (⟨"java/lang/String", "isLatin1", "()Z"⟩ : MethodName) jdk_42_method_154_code 1 (some .boolean) ws own_R_0_0_0_0 Z #[(.ref a1)] h0 (Q2 h0 n0) := by
  refine own_enter #[.val (.ref a1)] (plainFor_of_name pn_java_lang_String) (fun m => ef_R_1 m a1) ?_
  intro p e s m below meth c s₁ hx hby hml hown hnm hZ hrt hlk X0 e0
  have N0 := Fr.nil n0
  obtain ⟨T51, X51, e51, st51⟩ := getS2 X0 hx hZ hown (host := "") (Or.inl (own_w hw 52 rfl)) Via.refl e0 (Sc.ext O0.2) (g := (mkF m 0 #[.val (.ref a1)] [])) rfl (hb hby dj42m154_0)
  refine own_tp (.int G1) 3 st51 ?_
  refine own_d1 6 (fun _ q => XS.ifNo X51.here hx rfl (hb hby dj42m154_3) rfl ((if0 _ _).trans (feq P5).1) q) ?_
  refine own_tp (.ref a1) 7 (fun _ q => XS.aloadN X51.here hx rfl (hb hby dj42m154_6) rfl rfl q) ?_
  obtain ⟨T52, X52, e52, st52⟩ := getF X51 hx hZ hown (host := "") (Or.inl (own_w hw 41 rfl)) Via.refl e51 C1 (g := (mkF m 7 #[.val (.ref a1)] [(.ref a1)])) rfl rfl (hb hby dj42m154_7)
  refine own_t1 (.int (0 : Int32)) 10 st52 ?_
  refine own_d1 13 (fun _ q => XS.ifNo X52.here hx rfl (hb hby dj42m154_10) rfl ((if0 _ _).trans (teq (by decide : (0 : Int32) = (0 : Int32))).2) q) ?_
  refine own_tp (.int (1 : Int32)) 14 (fun _ q => XS.iconst X52.here hx rfl (hb hby dj42m154_13) q) ?_
  refine own_d0 18 (fun _ q => XS.goto X52.here hx rfl (pc0 := 14) (pc' := 18) rfl (hb hby dj42m154_14) (by decide) (by decide) q) ?_
  exact own_retN (t := .boolean) X52 hx hrt (hb hby dj42m154_18) (by simp) hlk (by decide) (by decide) e52 (⟨rfl, N0, rfl⟩)
def Q3 (z1 : Int32) (h0 : Heap) (n0 : Nat) (v : Option Value) (h : Heap) (L : List Loc) : Prop := v = some (.int z1) ∧ Fr n0 L ∧ h = h0
set_option maxRecDepth 65536 in
set_option maxHeartbeats 40000000 in
theorem rm3 (l : Launch) (Z : State) (a0 : Array Value) (hw : ∀ d ∈ tables_1, d.before a0 Z = true) (ws : List Jvm.Cond) (a1 b1 : Addr) (k1 : ClassId) (z1 : Int32) (vs1 : List Value) (h0 : Heap) (n0 : Nat) (G1 : Int32) (P5 : ¬ G1 = (0 : Int32)) (O0 : Old Z n0 h0) (Sc : Sta Z Z.heap "java/lang/String" "COMPACT_STRINGS" "Z" (.int G1)) (E1 : Exa Z h0 a1 "java/lang/String") (C1 : Fld Z h0 a1 "java/lang/String" "coder" "B" (.int (0 : Int32))) (L1 : Fld Z h0 a1 "java/lang/String" "value" "[B" (.ref b1)) (V1 : Arv Z h0 b1 k1 .byte z1 vs1 (.int (0 : Int32))) :
    own_Met l (⟨"java/lang/String", "length", "()I"⟩ : MethodName) jdk_42_method_54_code 1 (some .int) ws own_R_1_0_0_13 Z #[(.ref a1)] h0 (Q3 z1 h0 n0) := by
  refine own_enter #[.val (.ref a1)] (plainFor_of_name pn_java_lang_String) (fun m => ef_R_1 m a1) ?_
  intro p e s m below meth c s₁ hx hby hml hown hnm hZ hrt hlk X0 e0
  have N0 := Fr.nil n0
  refine own_tp (.ref a1) 1 (fun _ q => XS.aloadN X0.here hx rfl (hb hby dj42m54_0) rfl rfl q) ?_
  obtain ⟨T51, X51, e51, st51⟩ := getF X0 hx hZ hown (host := "") (Or.inl (own_w hw 40 rfl)) Via.refl e0 L1 (g := (mkF m 1 #[.val (.ref a1)] [(.ref a1)])) rfl rfl (hb hby dj42m54_1)
  refine own_t1 (.ref b1) 4 st51 ?_
  obtain ⟨cl52, Ar52, -, Sz52, Nn52, -, -⟩ := (id V1)
  refine own_t1 (.int z1) 5 (fun t q => X51.arraylength hx (by rw [e51]; exact Ar52.1) (State.isArrayOf_alike hZ.alike Ar52.2.1) (g := (mkF m 4 #[.val (.ref a1)] [(.ref b1)])) rfl rfl (hb hby dj42m54_4) _ (by rw [len_of Sz52 Nn52]; exact q)) ?_
  refine own_tp (.ref a1) 6 (fun _ q => XS.aloadN X51.here hx rfl (hb hby dj42m54_5) rfl rfl q) ?_
  obtain ⟨cq53, kq53, q53a, q53b, q53c⟩ := isOf hZ e51 E1
  obtain ⟨_, _, ⟨T53, L53, k53, n53⟩, -, X53, ⟨Lc53, hQ53, l53, y53, z53⟩, st53⟩ := X51.virtualBack hx (y := (⟨"java/lang/String", "coder", "()B"⟩ : MethodName)) (z := (⟨"java/lang/String", "coder", "()B"⟩ : MethodName)) hown (mvT hZ (own_w hw 47 rfl)) (mvT hZ (own_w hw 48 rfl)) (notFace_of_selects (args := #[]) (mvT hZ (own_w hw 50 rfl))) (mvT hZ (own_w hw 50 rfl)) (mvT hZ (own_w hw 49 rfl)) (by decide) (backOf (W := 1) (rm1 l Z a0 hw [] a1 h0 n0 G1 P5 O0 Sc E1 C1) hZ (own_w hw 51 rfl) (own_w hw 6 rfl) (by decide) (by decide)) q53a q53c (g := (mkF m 6 #[.val (.ref a1)] [(.ref a1), (.int z1)])) rfl (by rw [hml]; rfl) (Steps.refl _) (argsL := []) (rest := [(.int z1)]) (lenOf pd0 rfl) rfl (by show 2 * 0 + _ ≤ _; exact Nat.le_of_eq rfl) (hb hby dj42m54_6) (fun _ _ => ⟨rfl, e51, (by decide : 0 + 0 ≤ _), (by decide : 0 + 0 ≤ _)⟩)
  dsimp only [Pt.U, Pt.locs, Pt.cells, Pt.slots] at X53 l53 y53 z53 st53 hQ53
  subst l53 y53 z53
  obtain ⟨rfl, Nq53, eq53⟩ := hQ53
  have N53 := Fr.app N0 Nq53
  refine own_csR [(.int (0 : Int32)), (.int z1)] 9 st53 ?_
  refine own_t2 (.int (z1 >>> ((0 : Int32) &&& 31))) 10 (fun _ q => XS.ishr X53.here hx rfl (hb hby dj42m54_9) rfl q) ?_
  exact own_retI X53 hx hrt (hb hby dj42m54_10) hlk (by decide) (by decide) eq53 (⟨by rw [own_shr0], N53, rfl⟩)

def Q4 (z : Int32) (h0 : Heap) (n0 : Nat) (v : Option Value) (h : Heap) (L : List Loc) : Prop := v = some (.int z) ∧ Fr n0 L ∧ h = h0

set_option maxRecDepth 65536 in
set_option maxHeartbeats 40000000 in
theorem rm4 (l : Launch) (Z : State) (a0 : Array Value) (hw : ∀ d ∈ tables_1, d.before a0 Z = true) (ws : List Jvm.Cond) (i1 z1 : Int32) (G3 : Value) (h0 : Heap) (n0 : Nat) (rG3 : G3.isRef = true) (hi0 : ¬ i1 < (0 : Int32)) (hi1 : i1 < z1) :
    own_Met l (⟨"jdk/internal/util/Preconditions", "checkIndex", "(IILjava/util/function/BiFunction;)I"⟩ : MethodName) jdk_41_method_11_code 3 (some .int) ws own_R_0_0_0_0 Z #[(.int i1), (.int z1), G3] h0 (Q4 i1 h0 n0) := by
  refine own_enter #[.val (.int i1), .val (.int z1), .val G3] (plainFor_of_name pn_jdk_internal_util_Preconditions) (fun m => ef_IIV_3 m i1 z1 G3 rG3) ?_
  intro p e s m below meth c s₁ hx hby hml hown hnm hZ hrt hlk X0 e0
  have N0 := Fr.nil n0
  refine own_tp (.int i1) 1 (fun _ q => XS.iloadN X0.here hx rfl (hb hby dj41m11_0) rfl q) ?_
  refine own_d1 4 (fun _ q => XS.ifNo X0.here hx rfl (hb hby dj41m11_1) rfl ((if0 _ _).trans (flt hi0).1) q) ?_
  refine own_tp (.int i1) 5 (fun _ q => XS.iloadN X0.here hx rfl (hb hby dj41m11_4) rfl q) ?_
  refine own_tp (.int z1) 6 (fun _ q => XS.iloadN X0.here hx rfl (hb hby dj41m11_5) rfl q) ?_
  refine own_d2 16 (fun _ q => XS.icmpYes X0.here hx rfl (pc0 := 6) (pc' := 16) rfl (hb hby dj41m11_6) rfl (tlt hi1).1 (by decide) (by decide) q) ?_
  refine own_tp (.int i1) 17 (fun _ q => XS.iloadN X0.here hx rfl (hb hby dj41m11_16) rfl q) ?_
  exact own_retI X0 hx hrt (hb hby dj41m11_17) hlk (by decide) (by decide) e0 (⟨rfl, N0, rfl⟩)

def Q5  (h0 : Heap) (n0 : Nat) (v : Option Value) (h : Heap) (L : List Loc) : Prop := v = none ∧ Fr n0 L ∧ h = h0

set_option maxRecDepth 65536 in
set_option maxHeartbeats 40000000 in
theorem rm5 (l : Launch) (Z : State) (a0 : Array Value) (hw : ∀ d ∈ tables_1, d.before a0 Z = true) (ws : List Jvm.Cond) (i1 z1 : Int32) (h0 : Heap) (n0 : Nat) (hi0 : ¬ i1 < (0 : Int32)) (hi1 : i1 < z1) (O0 : Old Z n0 h0) (G3 : Value) (rG3 : G3.isRef = true) (Sf : Sta Z Z.heap "jdk/internal/util/Preconditions" "SIOOBE_FORMATTER" "Ljava/util/function/BiFunction;" G3) :
    own_Met l (⟨"java/lang/String", "checkIndex", "(II)V"⟩ : MethodName) jdk_42_method_155_code 2 none ws own_R_1_0_0_14 Z #[(.int i1), (.int z1)] h0 (Q5 h0 n0) := by
  refine own_enter #[.val (.int i1), .val (.int z1)] (plainFor_of_name pn_java_lang_String) (fun m => ef_II_2 m i1 z1) ?_
  intro p e s m below meth c s₁ hx hby hml hown hnm hZ hrt hlk X0 e0
  have N0 := Fr.nil n0
  refine own_tp (.int i1) 1 (fun _ q => XS.iloadN X0.here hx rfl (hb hby dj42m155_0) rfl q) ?_
  refine own_tp (.int z1) 2 (fun _ q => XS.iloadN X0.here hx rfl (hb hby dj42m155_1) rfl q) ?_
  obtain ⟨T51, X51, e51, st51⟩ := getS2 X0 hx hZ hown (host := "") (Or.inl (own_w hw 75 rfl)) Via.refl e0 (Sf.ext O0.2) (g := (mkF m 2 #[.val (.int i1), .val (.int z1)] [(.int z1), (.int i1)])) rfl (hb hby dj42m155_2)
  refine own_tp G3 5 st51 ?_
  obtain ⟨_, _, ⟨T52, L52, k52, n52⟩, -, X52, ⟨Lc52, hQ52, l52, y52, z52⟩, st52⟩ := Jvm.LawKit.callS X51 hx (y := (⟨"jdk/internal/util/Preconditions", "checkIndex", "(IILjava/util/function/BiFunction;)I"⟩ : MethodName)) hown (mvT hZ (own_w hw 77 rfl)) (mvT hZ (own_w hw 78 rfl)) (mvT hZ (own_w hw 76 rfl)) (mvT hZ (own_w hw 79 rfl)) (by decide) (backOf (W := 0) (rm4 l Z a0 hw [] i1 z1 G3 h0 n0 rG3 hi0 hi1) hZ (own_w hw 79 rfl) (own_w hw 76 rfl) (by decide) (by decide)) (g := (mkF m 5 #[.val (.int i1), .val (.int z1)] [G3, (.int z1), (.int i1)])) rfl (by rw [hml]; rfl) (argsL := [(.int i1), (.int z1), G3]) (rest := []) (lenOf pd1 rfl) rfl (by show 2 * 0 + _ ≤ _; exact Nat.le_of_eq rfl) (hb hby dj42m155_5) (fun _ _ => ⟨rfl, e51, (by decide : 0 + 0 ≤ _), (by decide : 0 + 0 ≤ _)⟩)
  dsimp only [Pt.U, Pt.locs, Pt.cells, Pt.slots] at X52 l52 y52 z52 st52 hQ52
  subst l52 y52 z52
  obtain ⟨rfl, Nq52, eq52⟩ := hQ52
  have N52 := Fr.app N0 Nq52
  refine own_d2 8 st52 ?_
  refine own_d1 9 (fun _ q => XS.pop X52.here hx rfl (hb hby dj42m155_8) rfl rfl q) ?_
  exact own_retV X52 hx hrt (hb hby dj42m155_9) hlk (by decide) (by decide) eq52 (⟨rfl, N52, rfl⟩)

def Q6 (z : Int32) (h0 : Heap) (n0 : Nat) (v : Option Value) (h : Heap) (L : List Loc) : Prop := v = some (.int z) ∧ Fr n0 L ∧ h = h0

set_option maxRecDepth 65536 in
set_option maxHeartbeats 40000000 in
theorem rm6 (l : Launch) (Z : State) (a0 : Array Value) (hw : ∀ d ∈ tables_1, d.before a0 Z = true) (ws : List Jvm.Cond) (b1 : Addr) (k1 : ClassId) (z1 : Int32) (vs1 : List Value) (i1 bv : Int32) (h0 : Heap) (n0 : Nat) (hi0 : ¬ i1 < (0 : Int32)) (hi1 : i1 < z1) (hbv : vs1.getD i1.toNatClampNeg (.int (0 : Int32)) = .int bv) (O0 : Old Z n0 h0) (G3 : Value) (rG3 : G3.isRef = true) (Sf : Sta Z Z.heap "jdk/internal/util/Preconditions" "SIOOBE_FORMATTER" "Ljava/util/function/BiFunction;" G3) (V1 : Arv Z h0 b1 k1 .byte z1 vs1 (.int (0 : Int32))) :
    own_Met l (⟨"java/lang/StringLatin1", "charAt", "([BI)C"⟩ : MethodName) jdk_43_method_2_code 2 (some .char) ws own_R_2_0_0_27 Z #[(.ref b1), (.int i1)] h0 (Q6 (own_c8 bv) h0 n0) := by
  refine own_enter #[.val (.ref b1), .val (.int i1)] (plainFor_of_name pn_java_lang_StringLatin1) (fun m => ef_RI_2 m b1 i1) ?_
  intro p e s m below meth c s₁ hx hby hml hown hnm hZ hrt hlk X0 e0
  have N0 := Fr.nil n0
  refine own_tp (.int i1) 1 (fun _ q => XS.iloadN X0.here hx rfl (hb hby dj43m2_0) rfl q) ?_
  refine own_tp (.ref b1) 2 (fun _ q => XS.aloadN X0.here hx rfl (hb hby dj43m2_1) rfl rfl q) ?_
  obtain ⟨cl51, Ar51, -, Sz51, Nn51, -, -⟩ := (id V1)
  refine own_t1 (.int z1) 3 (fun t q => X0.arraylength hx (by rw [e0]; exact Ar51.1) (State.isArrayOf_alike hZ.alike Ar51.2.1) (g := (mkF m 2 #[.val (.ref b1), .val (.int i1)] [(.ref b1), (.int i1)])) rfl rfl (hb hby dj43m2_2) _ (by rw [len_of Sz51 Nn51]; exact q)) ?_
  obtain ⟨_, _, ⟨T52, L52, k52, n52⟩, -, X52, ⟨Lc52, hQ52, l52, y52, z52⟩, st52⟩ := Jvm.LawKit.callS X0 hx (y := (⟨"java/lang/String", "checkIndex", "(II)V"⟩ : MethodName)) hown (mvT hZ (own_w hw 72 rfl)) (mvT hZ (own_w hw 73 rfl)) (mvT hZ (own_w hw 6 rfl)) (mvT hZ (own_w hw 74 rfl)) (by decide) (backOf (W := 0) (rm5 l Z a0 hw [] i1 z1 h0 n0 hi0 hi1 O0 G3 rG3 Sf) hZ (own_w hw 74 rfl) (own_w hw 6 rfl) (by decide) (by decide)) (g := (mkF m 3 #[.val (.ref b1), .val (.int i1)] [(.int z1), (.int i1)])) rfl (by rw [hml]; rfl) (argsL := [(.int i1), (.int z1)]) (rest := []) (lenOf pd2 rfl) rfl (by show 2 * 0 + _ ≤ _; exact Nat.le_of_eq rfl) (hb hby dj43m2_3) (fun _ _ => ⟨rfl, e0, (by decide : 0 + 0 ≤ _), (by decide : 0 + 0 ≤ _)⟩)
  dsimp only [Pt.U, Pt.locs, Pt.cells, Pt.slots] at X52 l52 y52 z52 st52 hQ52
  subst l52 y52 z52
  obtain ⟨rfl, Nq52, eq52⟩ := hQ52
  have N52 := Fr.app N0 Nq52
  refine own_d2 6 st52 ?_
  refine own_tp (.ref b1) 7 (fun _ q => XS.aloadN X52.here hx rfl (hb hby dj43m2_6) rfl rfl q) ?_
  refine own_tp (.int i1) 8 (fun _ q => XS.iloadN X52.here hx rfl (hb hby dj43m2_7) rfl q) ?_
  obtain ⟨cl53, Ar53, q53, S53, Nn53, H53, G53⟩ := (id V1)
  have hin53 : ¬ (i1 < 0 ∨ cl53.slots.size ≤ (i1).toNatClampNeg) := inb_of S53 ⟨hi0, hi1⟩
  have hat53 : cl53.slots[(i1).toNatClampNeg]? = some (.int bv) := H53.at hin53 (by exact hbv)
  refine own_t2 (.int bv) 9 (fun _ q => X52.baloadBytes hx (j := i1) (v := (.int bv)) (by rw [eq52]; exact Ar53.1) (State.isArrayOf_alike hZ.alike Ar53.2.1) Ar53.2.2 hin53 hat53 (g := (mkF m 8 #[.val (.ref b1), .val (.int i1)] [(.int i1), (.ref b1)])) rfl rfl (hb hby dj43m2_8) _ q) ?_
  refine own_tp (.int (255 : Int32)) 12 (fun _ q => XS.sipush X52.here hx rfl (hb hby dj43m2_9) q) ?_
  refine own_t2 (.int (bv &&& (255 : Int32))) 13 (fun _ q => XS.iand X52.here hx rfl (hb hby dj43m2_12) rfl q) ?_
  refine own_t1 (.int ((bv &&& (255 : Int32)).toUInt32.toUInt16.toUInt32.toInt32)) 14 (fun _ q => XS.i2c X52.here hx rfl (hb hby dj43m2_13) rfl q) ?_
  exact own_retN (t := .char) X52 hx hrt (hb hby dj43m2_14) (by simp) hlk (by decide) (by decide) eq52 (⟨rfl, N52, rfl⟩)

def Q7 (z : Int32) (h0 : Heap) (n0 : Nat) (v : Option Value) (h : Heap) (L : List Loc) : Prop := v = some (.int z) ∧ Fr n0 L ∧ h = h0

set_option maxRecDepth 65536 in
set_option maxHeartbeats 40000000 in
theorem rm7 (l : Launch) (Z : State) (a0 : Array Value) (hw : ∀ d ∈ tables_1, d.before a0 Z = true) (ws : List Jvm.Cond) (a1 b1 : Addr) (k1 : ClassId) (z1 : Int32) (vs1 : List Value) (i1 bv : Int32) (h0 : Heap) (n0 : Nat) (G1 : Int32) (P5 : ¬ G1 = (0 : Int32)) (O0 : Old Z n0 h0) (Sc : Sta Z Z.heap "java/lang/String" "COMPACT_STRINGS" "Z" (.int G1)) (G3 : Value) (rG3 : G3.isRef = true) (Sf : Sta Z Z.heap "jdk/internal/util/Preconditions" "SIOOBE_FORMATTER" "Ljava/util/function/BiFunction;" G3) (E1 : Exa Z h0 a1 "java/lang/String") (C1 : Fld Z h0 a1 "java/lang/String" "coder" "B" (.int (0 : Int32))) (L1 : Fld Z h0 a1 "java/lang/String" "value" "[B" (.ref b1)) (V1 : Arv Z h0 b1 k1 .byte z1 vs1 (.int (0 : Int32))) (hi0 : ¬ i1 < (0 : Int32)) (hi1 : i1 < z1) (hbv : vs1.getD i1.toNatClampNeg (.int (0 : Int32)) = .int bv) :
    own_Met l (⟨"java/lang/String", "charAt", "(I)C"⟩ : MethodName) jdk_42_method_56_code 2 (some .char) ws own_R_3_0_0_40 Z #[(.ref a1), (.int i1)] h0 (Q7 (own_c8 bv) h0 n0) := by
  refine own_enter #[.val (.ref a1), .val (.int i1)] (plainFor_of_name pn_java_lang_String) (fun m => ef_RI_2 m a1 i1) ?_
  intro p e s m below meth c s₁ hx hby hml hown hnm hZ hrt hlk X0 e0
  have N0 := Fr.nil n0
  refine own_tp (.ref a1) 1 (fun _ q => XS.aloadN X0.here hx rfl (hb hby dj42m56_0) rfl rfl q) ?_
  obtain ⟨cq51, kq51, q51a, q51b, q51c⟩ := isOf hZ e0 E1
  obtain ⟨_, _, ⟨T51, L51, k51, n51⟩, -, X51, ⟨Lc51, hQ51, l51, y51, z51⟩, st51⟩ := X0.virtualBack hx (y := (⟨"java/lang/String", "isLatin1", "()Z"⟩ : MethodName)) (z := (⟨"java/lang/String", "isLatin1", "()Z"⟩ : MethodName)) hown (mvT hZ (own_w hw 63 rfl)) (mvT hZ (own_w hw 64 rfl)) (notFace_of_selects (args := #[]) (mvT hZ (own_w hw 66 rfl))) (mvT hZ (own_w hw 66 rfl)) (mvT hZ (own_w hw 65 rfl)) (by decide) (backOf (W := 0) (rm2 l Z a0 hw [] a1 h0 n0 G1 P5 O0 Sc E1 C1) hZ (own_w hw 67 rfl) (own_w hw 6 rfl) (by decide) (by decide)) q51a q51c (g := (mkF m 1 #[.val (.ref a1), .val (.int i1)] [(.ref a1)])) rfl (by rw [hml]; rfl) (Steps.refl _) (argsL := []) (rest := []) (lenOf pd3 rfl) rfl (by show 2 * 0 + _ ≤ _; exact Nat.le_of_eq rfl) (hb hby dj42m56_1) (fun _ _ => ⟨rfl, e0, (by decide : 0 + 0 ≤ _), (by decide : 0 + 0 ≤ _)⟩)
  dsimp only [Pt.U, Pt.locs, Pt.cells, Pt.slots] at X51 l51 y51 z51 st51 hQ51
  subst l51 y51 z51
  obtain ⟨rfl, Nq51, eq51⟩ := hQ51
  have N51 := Fr.app N0 Nq51
  refine own_csR [(.int (1 : Int32))] 4 st51 ?_
  refine own_d1 7 (fun _ q => XS.ifNo X51.here hx rfl (hb hby dj42m56_4) rfl ((if0 _ _).trans (feq (by decide : ¬ ((1 : Int32) = (0 : Int32)))).1) q) ?_
  refine own_tp (.ref a1) 8 (fun _ q => XS.aloadN X51.here hx rfl (hb hby dj42m56_7) rfl rfl q) ?_
  obtain ⟨T52, X52, e52, st52⟩ := getF X51 hx hZ hown (host := "") (Or.inl (own_w hw 40 rfl)) Via.refl eq51 L1 (g := (mkF m 8 #[.val (.ref a1), .val (.int i1)] [(.ref a1)])) rfl rfl (hb hby dj42m56_8)
  refine own_t1 (.ref b1) 11 st52 ?_
  refine own_tp (.int i1) 12 (fun _ q => XS.iloadN X52.here hx rfl (hb hby dj42m56_11) rfl q) ?_
  obtain ⟨_, _, ⟨T53, L53, k53, n53⟩, -, X53, ⟨Lc53, hQ53, l53, y53, z53⟩, st53⟩ := Jvm.LawKit.callS X52 hx (y := (⟨"java/lang/StringLatin1", "charAt", "([BI)C"⟩ : MethodName)) hown (mvT hZ (own_w hw 68 rfl)) (mvT hZ (own_w hw 69 rfl)) (mvT hZ (own_w hw 70 rfl)) (mvT hZ (own_w hw 71 rfl)) (by decide) (backOf (W := 0) (rm6 l Z a0 hw [] b1 k1 z1 vs1 i1 bv h0 n0 hi0 hi1 hbv O0 G3 rG3 Sf V1) hZ (own_w hw 71 rfl) (own_w hw 70 rfl) (by decide) (by decide)) (g := (mkF m 12 #[.val (.ref a1), .val (.int i1)] [(.int i1), (.ref b1)])) rfl (by rw [hml]; rfl) (argsL := [(.ref b1), (.int i1)]) (rest := []) (lenOf pd4 rfl) rfl (by show 2 * 0 + _ ≤ _; exact Nat.le_of_eq rfl) (hb hby dj42m56_12) (fun _ _ => ⟨rfl, e52, (by decide : 0 + 0 ≤ _), (by decide : 0 + 0 ≤ _)⟩)
  dsimp only [Pt.U, Pt.locs, Pt.cells, Pt.slots] at X53 l53 y53 z53 st53 hQ53
  subst l53 y53 z53
  obtain ⟨rfl, Nq53, eq53⟩ := hQ53
  have N53 := Fr.app N51 Nq53
  refine own_t2 (.int (own_c8 bv)) 15 st53 ?_
  exact own_retN (t := .char) X53 hx hrt (hb hby dj42m56_15) (by simp) hlk (by decide) (by decide) eq53 (⟨by rw [own_c8n], N53, rfl⟩)

def Q8  (h0 : Heap) (n0 : Nat) (v : Option Value) (h : Heap) (L : List Loc) : Prop := v = some (.int (1 : Int32)) ∧ Fr n0 L ∧ h = h0

set_option maxRecDepth 65536 in
set_option maxHeartbeats 40000000 in
theorem rm8 (l : Launch) (Z : State) (a0 : Array Value) (hw : ∀ d ∈ tables_1, d.before a0 Z = true) (ws : List Jvm.Cond) (a1 b1 : Addr) (k1 : ClassId) (z1 : Int32) (vs1 : List Value) (a2 b2 : Addr) (k2 : ClassId) (vs2 : List Value) (i1 t1 dc x1 x2 : Int32) (h0 : Heap) (n0 : Nat) (G1 : Int32) (P5 : ¬ G1 = (0 : Int32)) (O0 : Old Z n0 h0) (Sc : Sta Z Z.heap "java/lang/String" "COMPACT_STRINGS" "Z" (.int G1)) (G3 : Value) (rG3 : G3.isRef = true) (Sf : Sta Z Z.heap "jdk/internal/util/Preconditions" "SIOOBE_FORMATTER" "Ljava/util/function/BiFunction;" G3) (E1 : Exa Z h0 a1 "java/lang/String") (C1 : Fld Z h0 a1 "java/lang/String" "coder" "B" (.int (0 : Int32))) (L1 : Fld Z h0 a1 "java/lang/String" "value" "[B" (.ref b1)) (V1 : Arv Z h0 b1 k1 .byte z1 vs1 (.int (0 : Int32))) (E2 : Exa Z h0 a2 "java/lang/String") (C2 : Fld Z h0 a2 "java/lang/String" "coder" "B" (.int (0 : Int32))) (L2 : Fld Z h0 a2 "java/lang/String" "value" "[B" (.ref b2)) (V2 : Arv Z h0 b2 k2 .byte z1 vs2 (.int (0 : Int32))) (hcase : own_pc z1 i1 t1 dc x1 x2 vs1 vs2) :
    own_Met l (⟨"com/example/unit_step/unitstep/FloatingPointLayoutWriteZeroPinLaw", "place", "(Ljava/lang/String;Ljava/lang/String;IIC)Z"⟩ : MethodName) method_3_code 5 (some .boolean) ws own_R_4_0_0_54 Z #[(.ref a1), (.ref a2), (.int i1), (.int t1), (.int dc)] h0 (Q8 h0 n0) := by
  refine own_enter #[.val (.ref a1), .val (.ref a2), .val (.int i1), .val (.int t1), .val (.int dc)] (plainFor_of_name pn_com_example_unit_step_unitstep_FloatingPointLayoutWriteZeroPinLaw) (fun m => ef_RRIII_5 m a1 a2 i1 t1 dc) ?_
  intro p e s m below meth c s₁ hx hby hml hown hnm hZ hrt hlk X0 e0
  have N0 := Fr.nil n0
  rcases hcase with hA | ⟨hA, hi0, hb1, hb2, ⟨hT, hx1, hx2⟩ | ⟨hT, hx0⟩⟩
  ·
    refine own_tp (.int i1) 1 (fun _ q => XS.iloadN X0.here hx rfl (hb hby dq3_0) rfl q) ?_
    refine own_tp (.ref a1) 2 (fun _ q => XS.aloadN X0.here hx rfl (hb hby dq3_1) rfl rfl q) ?_
    obtain ⟨cq51, kq51, q51a, q51b, q51c⟩ := isOf hZ e0 E1
    obtain ⟨_, _, ⟨T51, L51, k51, n51⟩, -, X51, ⟨Lc51, hQ51, l51, y51, z51⟩, st51⟩ := X0.virtualBack hx (y := (⟨"java/lang/String", "length", "()I"⟩ : MethodName)) (z := (⟨"java/lang/String", "length", "()I"⟩ : MethodName)) hown (mvT hZ (own_w hw 42 rfl)) (mvT hZ (own_w hw 43 rfl)) (notFace_of_selects (args := #[]) (mvT hZ (own_w hw 45 rfl))) (mvT hZ (own_w hw 45 rfl)) (mvT hZ (own_w hw 44 rfl)) (by decide) (backOf (W := 1) (rm3 l Z a0 hw [] a1 b1 k1 z1 vs1 h0 n0 G1 P5 O0 Sc E1 C1 L1 V1) hZ (own_w hw 46 rfl) (own_w hw 6 rfl) (by decide) (by decide)) q51a q51c (g := (mkF m 2 #[.val (.ref a1), .val (.ref a2), .val (.int i1), .val (.int t1), .val (.int dc)] [(.ref a1), (.int i1)])) rfl (by rw [hml]; rfl) (Steps.refl _) (argsL := []) (rest := [(.int i1)]) (lenOf pd5 rfl) rfl (by show 2 * 0 + _ ≤ _; exact Nat.le_of_eq rfl) (hb hby dq3_2) (fun _ _ => ⟨rfl, e0, (by decide : 0 + 0 ≤ _), (by decide : 0 + 0 ≤ _)⟩)
    dsimp only [Pt.U, Pt.locs, Pt.cells, Pt.slots] at X51 l51 y51 z51 st51 hQ51
    subst l51 y51 z51
    obtain ⟨rfl, Nq51, eq51⟩ := hQ51
    have N51 := Fr.app N0 Nq51
    refine own_csR [(.int z1), (.int i1)] 5 st51 ?_
    refine own_d2 8 (fun _ q => XS.icmpNo X51.here hx rfl (hb hby dq3_5) rfl (flt hA).1 q) ?_
    refine own_tp (.int (1 : Int32)) 9 (fun _ q => XS.iconst X51.here hx rfl (hb hby dq3_8) q) ?_
    exact own_retN (t := .boolean) X51 hx hrt (hb hby dq3_9) (by simp) hlk (by decide) (by decide) eq51 (⟨rfl, N51, rfl⟩)
  ·
    refine own_tp (.int i1) 1 (fun _ q => XS.iloadN X0.here hx rfl (hb hby dq3_0) rfl q) ?_
    refine own_tp (.ref a1) 2 (fun _ q => XS.aloadN X0.here hx rfl (hb hby dq3_1) rfl rfl q) ?_
    obtain ⟨cq52, kq52, q52a, q52b, q52c⟩ := isOf hZ e0 E1
    obtain ⟨_, _, ⟨T52, L52, k52, n52⟩, -, X52, ⟨Lc52, hQ52, l52, y52, z52⟩, st52⟩ := X0.virtualBack hx (y := (⟨"java/lang/String", "length", "()I"⟩ : MethodName)) (z := (⟨"java/lang/String", "length", "()I"⟩ : MethodName)) hown (mvT hZ (own_w hw 42 rfl)) (mvT hZ (own_w hw 43 rfl)) (notFace_of_selects (args := #[]) (mvT hZ (own_w hw 45 rfl))) (mvT hZ (own_w hw 45 rfl)) (mvT hZ (own_w hw 44 rfl)) (by decide) (backOf (W := 1) (rm3 l Z a0 hw [] a1 b1 k1 z1 vs1 h0 n0 G1 P5 O0 Sc E1 C1 L1 V1) hZ (own_w hw 46 rfl) (own_w hw 6 rfl) (by decide) (by decide)) q52a q52c (g := (mkF m 2 #[.val (.ref a1), .val (.ref a2), .val (.int i1), .val (.int t1), .val (.int dc)] [(.ref a1), (.int i1)])) rfl (by rw [hml]; rfl) (Steps.refl _) (argsL := []) (rest := [(.int i1)]) (lenOf pd5 rfl) rfl (by show 2 * 0 + _ ≤ _; exact Nat.le_of_eq rfl) (hb hby dq3_2) (fun _ _ => ⟨rfl, e0, (by decide : 0 + 0 ≤ _), (by decide : 0 + 0 ≤ _)⟩)
    dsimp only [Pt.U, Pt.locs, Pt.cells, Pt.slots] at X52 l52 y52 z52 st52 hQ52
    subst l52 y52 z52
    obtain ⟨rfl, Nq52, eq52⟩ := hQ52
    have N52 := Fr.app N0 Nq52
    refine own_csR [(.int z1), (.int i1)] 5 st52 ?_
    refine own_d2 10 (fun _ q => XS.icmpYes X52.here hx rfl (pc0 := 5) (pc' := 10) rfl (hb hby dq3_5) rfl (tlt hA).1 (by decide) (by decide) q) ?_
    refine own_tp (.int i1) 11 (fun _ q => XS.iloadN X52.here hx rfl (hb hby dq3_10) rfl q) ?_
    refine own_tp (.int t1) 12 (fun _ q => XS.iloadN X52.here hx rfl (hb hby dq3_11) rfl q) ?_
    refine own_d2 15 (fun _ q => XS.icmpNo X52.here hx rfl (hb hby dq3_12) rfl (teq hT).2 q) ?_
    refine own_tp (.ref a1) 16 (fun _ q => XS.aloadN X52.here hx rfl (hb hby dq3_15) rfl rfl q) ?_
    refine own_tp (.int i1) 17 (fun _ q => XS.iloadN X52.here hx rfl (hb hby dq3_16) rfl q) ?_
    obtain ⟨cq53, kq53, q53a, q53b, q53c⟩ := isOf hZ eq52 E1
    obtain ⟨_, _, ⟨T53, L53, k53, n53⟩, -, X53, ⟨Lc53, hQ53, l53, y53, z53⟩, st53⟩ := X52.virtualBack hx (y := (⟨"java/lang/String", "charAt", "(I)C"⟩ : MethodName)) (z := (⟨"java/lang/String", "charAt", "(I)C"⟩ : MethodName)) hown (mvT hZ (own_w hw 58 rfl)) (mvT hZ (own_w hw 59 rfl)) (notFace_of_selects (args := #[]) (mvT hZ (own_w hw 61 rfl))) (mvT hZ (own_w hw 61 rfl)) (mvT hZ (own_w hw 60 rfl)) (by decide) (backOf (W := 0) (rm7 l Z a0 hw [] a1 b1 k1 z1 vs1 i1 x1 h0 n0 G1 P5 O0 Sc G3 rG3 Sf E1 C1 L1 V1 hi0 hA hb1) hZ (own_w hw 62 rfl) (own_w hw 6 rfl) (by decide) (by decide)) q53a q53c (g := (mkF m 17 #[.val (.ref a1), .val (.ref a2), .val (.int i1), .val (.int t1), .val (.int dc)] [(.int i1), (.ref a1)])) rfl (by rw [hml]; rfl) (Steps.refl _) (argsL := [(.int i1)]) (rest := []) (lenOf pd6 rfl) rfl (by show 2 * 0 + _ ≤ _; exact Nat.le_of_eq rfl) (hb hby dq3_17) (fun _ _ => ⟨rfl, eq52, (by decide : 0 + 0 ≤ _), (by decide : 0 + 0 ≤ _)⟩)
    dsimp only [Pt.U, Pt.locs, Pt.cells, Pt.slots] at X53 l53 y53 z53 st53 hQ53
    subst l53 y53 z53
    obtain ⟨rfl, Nq53, eq53⟩ := hQ53
    have N53 := Fr.app N52 Nq53
    refine own_csR [(.int (own_c8 x1))] 20 st53 ?_
    refine own_tp (.int (48 : Int32)) 22 (fun _ q => XS.bipush X53.here hx rfl (hb hby dq3_20) q) ?_
    refine own_d2 25 (fun _ q => XS.icmpNo X53.here hx rfl (hb hby dq3_22) rfl (teq hx1).2 q) ?_
    refine own_tp (.ref a2) 26 (fun _ q => XS.aloadN X53.here hx rfl (hb hby dq3_25) rfl rfl q) ?_
    refine own_tp (.int i1) 27 (fun _ q => XS.iloadN X53.here hx rfl (hb hby dq3_26) rfl q) ?_
    obtain ⟨cq54, kq54, q54a, q54b, q54c⟩ := isOf hZ eq53 E2
    obtain ⟨_, _, ⟨T54, L54, k54, n54⟩, -, X54, ⟨Lc54, hQ54, l54, y54, z54⟩, st54⟩ := X53.virtualBack hx (y := (⟨"java/lang/String", "charAt", "(I)C"⟩ : MethodName)) (z := (⟨"java/lang/String", "charAt", "(I)C"⟩ : MethodName)) hown (mvT hZ (own_w hw 58 rfl)) (mvT hZ (own_w hw 59 rfl)) (notFace_of_selects (args := #[]) (mvT hZ (own_w hw 61 rfl))) (mvT hZ (own_w hw 61 rfl)) (mvT hZ (own_w hw 60 rfl)) (by decide) (backOf (W := 0) (rm7 l Z a0 hw [] a2 b2 k2 z1 vs2 i1 x2 h0 n0 G1 P5 O0 Sc G3 rG3 Sf E2 C2 L2 V2 hi0 hA hb2) hZ (own_w hw 62 rfl) (own_w hw 6 rfl) (by decide) (by decide)) q54a q54c (g := (mkF m 27 #[.val (.ref a1), .val (.ref a2), .val (.int i1), .val (.int t1), .val (.int dc)] [(.int i1), (.ref a2)])) rfl (by rw [hml]; rfl) (Steps.refl _) (argsL := [(.int i1)]) (rest := []) (lenOf pd6 rfl) rfl (by show 2 * 0 + _ ≤ _; exact Nat.le_of_eq rfl) (hb hby dq3_27) (fun _ _ => ⟨rfl, eq53, (by decide : 0 + 0 ≤ _), (by decide : 0 + 0 ≤ _)⟩)
    dsimp only [Pt.U, Pt.locs, Pt.cells, Pt.slots] at X54 l54 y54 z54 st54 hQ54
    subst l54 y54 z54
    obtain ⟨rfl, Nq54, eq54⟩ := hQ54
    have N54 := Fr.app N53 Nq54
    refine own_csR [(.int (own_c8 x2))] 30 st54 ?_
    refine own_tp (.int dc) 32 (fun _ q => XS.iload X54.here hx rfl (hb hby dq3_30) rfl q) ?_
    refine own_d2 35 (fun _ q => XS.icmpNo X54.here hx rfl (hb hby dq3_32) rfl (teq hx2).2 q) ?_
    refine own_tp (.int (1 : Int32)) 36 (fun _ q => XS.iconst X54.here hx rfl (hb hby dq3_35) q) ?_
    refine own_d0 40 (fun _ q => XS.goto X54.here hx rfl (pc0 := 36) (pc' := 40) rfl (hb hby dq3_36) (by decide) (by decide) q) ?_
    exact own_retN (t := .boolean) X54 hx hrt (hb hby dq3_40) (by simp) hlk (by decide) (by decide) eq54 (⟨rfl, N54, rfl⟩)
  ·
    refine own_tp (.int i1) 1 (fun _ q => XS.iloadN X0.here hx rfl (hb hby dq3_0) rfl q) ?_
    refine own_tp (.ref a1) 2 (fun _ q => XS.aloadN X0.here hx rfl (hb hby dq3_1) rfl rfl q) ?_
    obtain ⟨cq55, kq55, q55a, q55b, q55c⟩ := isOf hZ e0 E1
    obtain ⟨_, _, ⟨T55, L55, k55, n55⟩, -, X55, ⟨Lc55, hQ55, l55, y55, z55⟩, st55⟩ := X0.virtualBack hx (y := (⟨"java/lang/String", "length", "()I"⟩ : MethodName)) (z := (⟨"java/lang/String", "length", "()I"⟩ : MethodName)) hown (mvT hZ (own_w hw 42 rfl)) (mvT hZ (own_w hw 43 rfl)) (notFace_of_selects (args := #[]) (mvT hZ (own_w hw 45 rfl))) (mvT hZ (own_w hw 45 rfl)) (mvT hZ (own_w hw 44 rfl)) (by decide) (backOf (W := 1) (rm3 l Z a0 hw [] a1 b1 k1 z1 vs1 h0 n0 G1 P5 O0 Sc E1 C1 L1 V1) hZ (own_w hw 46 rfl) (own_w hw 6 rfl) (by decide) (by decide)) q55a q55c (g := (mkF m 2 #[.val (.ref a1), .val (.ref a2), .val (.int i1), .val (.int t1), .val (.int dc)] [(.ref a1), (.int i1)])) rfl (by rw [hml]; rfl) (Steps.refl _) (argsL := []) (rest := [(.int i1)]) (lenOf pd5 rfl) rfl (by show 2 * 0 + _ ≤ _; exact Nat.le_of_eq rfl) (hb hby dq3_2) (fun _ _ => ⟨rfl, e0, (by decide : 0 + 0 ≤ _), (by decide : 0 + 0 ≤ _)⟩)
    dsimp only [Pt.U, Pt.locs, Pt.cells, Pt.slots] at X55 l55 y55 z55 st55 hQ55
    subst l55 y55 z55
    obtain ⟨rfl, Nq55, eq55⟩ := hQ55
    have N55 := Fr.app N0 Nq55
    refine own_csR [(.int z1), (.int i1)] 5 st55 ?_
    refine own_d2 10 (fun _ q => XS.icmpYes X55.here hx rfl (pc0 := 5) (pc' := 10) rfl (hb hby dq3_5) rfl (tlt hA).1 (by decide) (by decide) q) ?_
    refine own_tp (.int i1) 11 (fun _ q => XS.iloadN X55.here hx rfl (hb hby dq3_10) rfl q) ?_
    refine own_tp (.int t1) 12 (fun _ q => XS.iloadN X55.here hx rfl (hb hby dq3_11) rfl q) ?_
    refine own_d2 41 (fun _ q => XS.icmpYes X55.here hx rfl (pc0 := 12) (pc' := 41) rfl (hb hby dq3_12) rfl (feq hT).2 (by decide) (by decide) q) ?_
    refine own_tp (.ref a1) 42 (fun _ q => XS.aloadN X55.here hx rfl (hb hby dq3_41) rfl rfl q) ?_
    refine own_tp (.int i1) 43 (fun _ q => XS.iloadN X55.here hx rfl (hb hby dq3_42) rfl q) ?_
    obtain ⟨cq56, kq56, q56a, q56b, q56c⟩ := isOf hZ eq55 E1
    obtain ⟨_, _, ⟨T56, L56, k56, n56⟩, -, X56, ⟨Lc56, hQ56, l56, y56, z56⟩, st56⟩ := X55.virtualBack hx (y := (⟨"java/lang/String", "charAt", "(I)C"⟩ : MethodName)) (z := (⟨"java/lang/String", "charAt", "(I)C"⟩ : MethodName)) hown (mvT hZ (own_w hw 58 rfl)) (mvT hZ (own_w hw 59 rfl)) (notFace_of_selects (args := #[]) (mvT hZ (own_w hw 61 rfl))) (mvT hZ (own_w hw 61 rfl)) (mvT hZ (own_w hw 60 rfl)) (by decide) (backOf (W := 0) (rm7 l Z a0 hw [] a1 b1 k1 z1 vs1 i1 x1 h0 n0 G1 P5 O0 Sc G3 rG3 Sf E1 C1 L1 V1 hi0 hA hb1) hZ (own_w hw 62 rfl) (own_w hw 6 rfl) (by decide) (by decide)) q56a q56c (g := (mkF m 43 #[.val (.ref a1), .val (.ref a2), .val (.int i1), .val (.int t1), .val (.int dc)] [(.int i1), (.ref a1)])) rfl (by rw [hml]; rfl) (Steps.refl _) (argsL := [(.int i1)]) (rest := []) (lenOf pd6 rfl) rfl (by show 2 * 0 + _ ≤ _; exact Nat.le_of_eq rfl) (hb hby dq3_43) (fun _ _ => ⟨rfl, eq55, (by decide : 0 + 0 ≤ _), (by decide : 0 + 0 ≤ _)⟩)
    dsimp only [Pt.U, Pt.locs, Pt.cells, Pt.slots] at X56 l56 y56 z56 st56 hQ56
    subst l56 y56 z56
    obtain ⟨rfl, Nq56, eq56⟩ := hQ56
    have N56 := Fr.app N55 Nq56
    refine own_csR [(.int (own_c8 x1))] 46 st56 ?_
    refine own_tp (.ref a2) 47 (fun _ q => XS.aloadN X56.here hx rfl (hb hby dq3_46) rfl rfl q) ?_
    refine own_tp (.int i1) 48 (fun _ q => XS.iloadN X56.here hx rfl (hb hby dq3_47) rfl q) ?_
    obtain ⟨cq57, kq57, q57a, q57b, q57c⟩ := isOf hZ eq56 E2
    obtain ⟨_, _, ⟨T57, L57, k57, n57⟩, -, X57, ⟨Lc57, hQ57, l57, y57, z57⟩, st57⟩ := X56.virtualBack hx (y := (⟨"java/lang/String", "charAt", "(I)C"⟩ : MethodName)) (z := (⟨"java/lang/String", "charAt", "(I)C"⟩ : MethodName)) hown (mvT hZ (own_w hw 58 rfl)) (mvT hZ (own_w hw 59 rfl)) (notFace_of_selects (args := #[]) (mvT hZ (own_w hw 61 rfl))) (mvT hZ (own_w hw 61 rfl)) (mvT hZ (own_w hw 60 rfl)) (by decide) (backOf (W := 1) (rm7 l Z a0 hw [] a2 b2 k2 z1 vs2 i1 x2 h0 n0 G1 P5 O0 Sc G3 rG3 Sf E2 C2 L2 V2 hi0 hA hb2) hZ (own_w hw 62 rfl) (own_w hw 6 rfl) (by decide) (by decide)) q57a q57c (g := (mkF m 48 #[.val (.ref a1), .val (.ref a2), .val (.int i1), .val (.int t1), .val (.int dc)] [(.int i1), (.ref a2), (.int (own_c8 x1))])) rfl (by rw [hml]; rfl) (Steps.refl _) (argsL := [(.int i1)]) (rest := [(.int (own_c8 x1))]) (lenOf pd6 rfl) rfl (by show 2 * 0 + _ ≤ _; exact Nat.le_of_eq rfl) (hb hby dq3_48) (fun _ _ => ⟨rfl, eq56, (by decide : 0 + 0 ≤ _), (by decide : 0 + 0 ≤ _)⟩)
    dsimp only [Pt.U, Pt.locs, Pt.cells, Pt.slots] at X57 l57 y57 z57 st57 hQ57
    subst l57 y57 z57
    obtain ⟨rfl, Nq57, eq57⟩ := hQ57
    have N57 := Fr.app N56 Nq57
    refine own_csR [(.int (own_c8 x2)), (.int (own_c8 x1))] 51 st57 ?_
    refine own_d2 54 (fun _ q => XS.icmpNo X57.here hx rfl (hb hby dq3_51) rfl (teq hx0).2 q) ?_
    refine own_tp (.int (1 : Int32)) 55 (fun _ q => XS.iconst X57.here hx rfl (hb hby dq3_54) q) ?_
    refine own_d0 59 (fun _ q => XS.goto X57.here hx rfl (pc0 := 55) (pc' := 59) rfl (hb hby dq3_55) (by decide) (by decide) q) ?_
    exact own_retN (t := .boolean) X57 hx hrt (hb hby dq3_59) (by simp) hlk (by decide) (by decide) eq57 (⟨rfl, N57, rfl⟩)

theorem own_p0 {p : Int32} (h : 1 ≤ p.toInt ∧ p.toInt ≤ 15) : (0 : Int32) < p := by
  have e : (0 : Int32).toInt = 0 := rfl
  rw [Int32.lt_iff_toInt_lt, e]
  omega
theorem own_p64k {p : Int32} (h : 1 ≤ p.toInt ∧ p.toInt ≤ 15) : p < (65536 : Int32) := by
  have e : (65536 : Int32).toInt = 65536 := rfl
  rw [Int32.lt_iff_toInt_lt, e]
  omega
theorem own_p256 {p : Int32} (h : 1 ≤ p.toInt ∧ p.toInt ≤ 15) : p < (256 : Int32) := by
  have e : (256 : Int32).toInt = 256 := rfl
  rw [Int32.lt_iff_toInt_lt, e]
  omega
theorem own_p16 {p : Int32} (h : 1 ≤ p.toInt ∧ p.toInt ≤ 15) : p < (16 : Int32) := by
  have e : (16 : Int32).toInt = 16 := rfl
  rw [Int32.lt_iff_toInt_lt, e]
  omega

def Q9 (p1 : Int32) (h0 : Heap) (n0 : Nat) (v : Option Value) (h : Heap) (L : List Loc) : Prop := v = some (.int (own_nlz p1)) ∧ Fr n0 L ∧ h = h0

set_option maxRecDepth 65536 in
set_option maxHeartbeats 40000000 in
theorem rm9 (l : Launch) (Z : State) (a0 : Array Value) (hw : ∀ d ∈ tables_1, d.before a0 Z = true) (ws : List Jvm.Cond) (p1 : Int32) (h0 : Heap) (n0 : Nat) (hp : 1 ≤ p1.toInt ∧ p1.toInt ≤ 15) :
    own_Met l (⟨"java/lang/Integer", "numberOfLeadingZeros", "(I)I"⟩ : MethodName) jdk_33_method_47_code 2 (some .int) ws own_R_0_0_0_0 Z #[(.int p1)] h0 (Q9 p1 h0 n0) := by
  refine own_enter #[.val (.int p1), .unset] (plainFor_of_name pn_java_lang_Integer) (fun m => ef_I_2 m p1) ?_
  intro p e s m below meth c s₁ hx hby hml hown hnm hZ hrt hlk X0 e0
  have N0 := Fr.nil n0
  refine own_tp (.int p1) 1 (fun _ q => XS.iloadN X0.here hx rfl (hb hby dj33m47_0) rfl q) ?_
  refine own_d1 15 (fun _ q => XS.ifYes X0.here hx rfl (pc0 := 1) (pc' := 15) rfl (hb hby dj33m47_1) rfl ((if0 _ _).trans (tlt (own_p0 hp)).2.2.1) (by decide) (by decide) q) ?_
  refine own_tp (.int (31 : Int32)) 17 (fun _ q => XS.bipush X0.here hx rfl (hb hby dj33m47_15) q) ?_
  refine own_ls #[.val (.int p1), .val (.int (31 : Int32))] 18 (fun _ q => XS.istoreN X0.here hx rfl (hb hby dj33m47_17) rfl (l' := #[.val (.int p1), .val (.int (31 : Int32))]) rfl q) ?_
  refine own_tp (.int p1) 19 (fun _ q => XS.iloadN X0.here hx rfl (hb hby dj33m47_18) rfl q) ?_
  refine own_tp (.int (65536 : Int32)) 22 (fun _ q => X0.ldcwInt hx hown (mvT hZ (own_w hw 95 rfl)) (g := (mkF m 19 #[.val (.int p1), .val (.int (31 : Int32))] [(.int p1)])) rfl (hb hby dj33m47_19) _ q) ?_
  refine own_d2 33 (fun _ q => XS.icmpYes X0.here hx rfl (pc0 := 22) (pc' := 33) rfl (hb hby dj33m47_22) rfl (tlt (own_p64k hp)).1 (by decide) (by decide) q) ?_
  refine own_tp (.int p1) 34 (fun _ q => XS.iloadN X0.here hx rfl (hb hby dj33m47_33) rfl q) ?_
  refine own_tp (.int (256 : Int32)) 37 (fun _ q => XS.sipush X0.here hx rfl (hb hby dj33m47_34) q) ?_
  refine own_d2 48 (fun _ q => XS.icmpYes X0.here hx rfl (pc0 := 37) (pc' := 48) rfl (hb hby dj33m47_37) rfl (tlt (own_p256 hp)).1 (by decide) (by decide) q) ?_
  refine own_tp (.int p1) 49 (fun _ q => XS.iloadN X0.here hx rfl (hb hby dj33m47_48) rfl q) ?_
  refine own_tp (.int (16 : Int32)) 51 (fun _ q => XS.bipush X0.here hx rfl (hb hby dj33m47_49) q) ?_
  refine own_d2 61 (fun _ q => XS.icmpYes X0.here hx rfl (pc0 := 51) (pc' := 61) rfl (hb hby dj33m47_51) rfl (tlt (own_p16 hp)).1 (by decide) (by decide) q) ?_
  refine own_tp (.int p1) 62 (fun _ q => XS.iloadN X0.here hx rfl (hb hby dj33m47_61) rfl q) ?_
  refine own_tp (.int (4 : Int32)) 63 (fun _ q => XS.iconst X0.here hx rfl (hb hby dj33m47_62) q) ?_
  by_cases c51 : p1 < (4 : Int32)
  ·
    refine own_d2 73 (fun _ q => XS.icmpYes X0.here hx rfl (pc0 := 63) (pc' := 73) rfl (hb hby dj33m47_63) rfl (tlt c51).1 (by decide) (by decide) q) ?_
    refine own_tp (.int (31 : Int32)) 74 (fun _ q => XS.iloadN X0.here hx rfl (hb hby dj33m47_73) rfl q) ?_
    refine own_tp (.int p1) 75 (fun _ q => XS.iloadN X0.here hx rfl (hb hby dj33m47_74) rfl q) ?_
    refine own_tp (.int (1 : Int32)) 76 (fun _ q => XS.iconst X0.here hx rfl (hb hby dj33m47_75) q) ?_
    refine own_t2 (.int ((p1.toUInt32 >>> ((1 : Int32) &&& 31).toUInt32).toInt32)) 77 (fun _ q => XS.iushr X0.here hx rfl (hb hby dj33m47_76) rfl q) ?_
    refine own_t2 (.int ((31 : Int32) - ((p1.toUInt32 >>> ((1 : Int32) &&& 31).toUInt32).toInt32))) 78 (fun _ q => XS.isub X0.here hx rfl (hb hby dj33m47_77) rfl q) ?_
    exact own_retI X0 hx hrt (hb hby dj33m47_78) hlk (by decide) (by decide) e0 (⟨by have hv : own_nlz p1 = ((31 : Int32) - ((p1.toUInt32 >>> ((1 : Int32) &&& 31).toUInt32).toInt32)) := (by first | (simp only [own_nlz, c51, ↓reduceIte]; done) | (simp [own_nlz, c51]; done)); rw [hv] <;> rfl, N0, rfl⟩)
  ·
    refine own_d2 66 (fun _ q => XS.icmpNo X0.here hx rfl (hb hby dj33m47_63) rfl (flt c51).1 q) ?_
    refine own_li #[.val (.int p1), .val (.int (29 : Int32))] 69 (fun _ q => XS.iinc X0.here hx rfl (hb hby dj33m47_66) rfl (l' := #[.val (.int p1), .val (.int (29 : Int32))]) rfl q) ?_
    refine own_tp (.int p1) 70 (fun _ q => XS.iloadN X0.here hx rfl (hb hby dj33m47_69) rfl q) ?_
    refine own_tp (.int (2 : Int32)) 71 (fun _ q => XS.iconst X0.here hx rfl (hb hby dj33m47_70) q) ?_
    refine own_t2 (.int ((p1.toUInt32 >>> ((2 : Int32) &&& 31).toUInt32).toInt32)) 72 (fun _ q => XS.iushr X0.here hx rfl (hb hby dj33m47_71) rfl q) ?_
    refine own_ls #[.val (.int ((p1.toUInt32 >>> ((2 : Int32) &&& 31).toUInt32).toInt32)), .val (.int (29 : Int32))] 73 (fun _ q => XS.istoreN X0.here hx rfl (hb hby dj33m47_72) rfl (l' := #[.val (.int ((p1.toUInt32 >>> ((2 : Int32) &&& 31).toUInt32).toInt32)), .val (.int (29 : Int32))]) rfl q) ?_
    refine own_tp (.int (29 : Int32)) 74 (fun _ q => XS.iloadN X0.here hx rfl (hb hby dj33m47_73) rfl q) ?_
    refine own_tp (.int ((p1.toUInt32 >>> ((2 : Int32) &&& 31).toUInt32).toInt32)) 75 (fun _ q => XS.iloadN X0.here hx rfl (hb hby dj33m47_74) rfl q) ?_
    refine own_tp (.int (1 : Int32)) 76 (fun _ q => XS.iconst X0.here hx rfl (hb hby dj33m47_75) q) ?_
    refine own_t2 (.int ((((p1.toUInt32 >>> ((2 : Int32) &&& 31).toUInt32).toInt32).toUInt32 >>> ((1 : Int32) &&& 31).toUInt32).toInt32)) 77 (fun _ q => XS.iushr X0.here hx rfl (hb hby dj33m47_76) rfl q) ?_
    refine own_t2 (.int ((29 : Int32) - ((((p1.toUInt32 >>> ((2 : Int32) &&& 31).toUInt32).toInt32).toUInt32 >>> ((1 : Int32) &&& 31).toUInt32).toInt32))) 78 (fun _ q => XS.isub X0.here hx rfl (hb hby dj33m47_77) rfl q) ?_
    exact own_retI X0 hx hrt (hb hby dj33m47_78) hlk (by decide) (by decide) e0 (⟨by have hv : own_nlz p1 = ((29 : Int32) - ((((p1.toUInt32 >>> ((2 : Int32) &&& 31).toUInt32).toInt32).toUInt32 >>> ((1 : Int32) &&& 31).toUInt32).toInt32)) := (by first | (simp only [own_nlz, c51, ↓reduceIte]; done) | (simp [own_nlz, c51]; done)); rw [hv] <;> rfl, N0, rfl⟩)

def Q10 (z : Int32) (h0 : Heap) (n0 : Nat) (v : Option Value) (h : Heap) (L : List Loc) : Prop := v = some (.int z) ∧ Fr n0 L ∧ h = h0

set_option maxRecDepth 65536 in
set_option maxHeartbeats 40000000 in
theorem rm10 (l : Launch) (Z : State) (a0 : Array Value) (hw : ∀ d ∈ tables_1, d.before a0 Z = true) (ws : List Jvm.Cond) (xv : Int64) (h0 : Heap) (n0 : Nat) (hX : own_X xv) :
    own_Met l (⟨"java/lang/Long", "numberOfLeadingZeros", "(J)I"⟩ : MethodName) jdk_35_method_48_code 3 (some .int) ws own_R_1_0_0_14 Z #[(.long xv)] h0 (Q10 (own_nl64 xv) h0 n0) := by
  refine own_enter #[.val (.long xv), .second, .unset] (plainFor_of_name pn_java_lang_Long) (fun m => ef_J_3 m xv) ?_
  intro p e s m below meth c s₁ hx hby hml hown hnm hZ hrt hlk X0 e0
  have N0 := Fr.nil n0
  refine own_tp (.long xv) 1 (fun _ q => XS.lloadN X0.here hx rfl (hb hby dj35m48_0) rfl q) ?_
  refine own_tp (.int (32 : Int32)) 3 (fun _ q => XS.bipush X0.here hx rfl (hb hby dj35m48_1) q) ?_
  refine own_t2 (.long ((xv.toUInt64 >>> ((32 : Int32) &&& 0x3f).toInt64.toUInt64).toInt64)) 4 (fun _ q => XS.lushr X0.here hx rfl (hb hby dj35m48_3) rfl q) ?_
  refine own_t1 (.int (((xv.toUInt64 >>> ((32 : Int32) &&& 0x3f).toInt64.toUInt64).toInt64).toInt32)) 5 (fun _ q => XS.l2i X0.here hx rfl (hb hby dj35m48_4) rfl q) ?_
  refine own_ls #[.val (.long xv), .second, .val (.int (((xv.toUInt64 >>> ((32 : Int32) &&& 0x3f).toInt64.toUInt64).toInt64).toInt32))] 6 (fun _ q => XS.istoreN X0.here hx rfl (hb hby dj35m48_5) rfl (l' := #[.val (.long xv), .second, .val (.int (((xv.toUInt64 >>> ((32 : Int32) &&& 0x3f).toInt64.toUInt64).toInt64).toInt32))]) rfl q) ?_
  refine own_tp (.int (((xv.toUInt64 >>> ((32 : Int32) &&& 0x3f).toInt64.toUInt64).toInt64).toInt32)) 7 (fun _ q => XS.iloadN X0.here hx rfl (hb hby dj35m48_6) rfl q) ?_
  refine own_d1 10 (fun _ q => XS.ifNo X0.here hx rfl (hb hby dj35m48_7) rfl ((if0 _ _).trans (teq (own_xhi hX)).2) q) ?_
  refine own_tp (.int (32 : Int32)) 12 (fun _ q => XS.bipush X0.here hx rfl (hb hby dj35m48_10) q) ?_
  refine own_tp (.long xv) 13 (fun _ q => XS.lloadN X0.here hx rfl (hb hby dj35m48_12) rfl q) ?_
  refine own_t1 (.int (xv.toInt32)) 14 (fun _ q => XS.l2i X0.here hx rfl (hb hby dj35m48_13) rfl q) ?_
  obtain ⟨_, _, ⟨T51, L51, k51, n51⟩, -, X51, ⟨Lc51, hQ51, l51, y51, z51⟩, st51⟩ := Jvm.LawKit.callS X0 hx (y := (⟨"java/lang/Integer", "numberOfLeadingZeros", "(I)I"⟩ : MethodName)) hown (mvT hZ (own_w hw 92 rfl)) (mvT hZ (own_w hw 93 rfl)) (mvT hZ (own_w hw 31 rfl)) (mvT hZ (own_w hw 94 rfl)) (by decide) (backOf (W := 1) (rm9 l Z a0 hw [] (xv.toInt32) h0 n0 (own_x32 hX)) hZ (own_w hw 94 rfl) (own_w hw 31 rfl) (by decide) (by decide)) (g := (mkF m 14 #[.val (.long xv), .second, .val (.int (((xv.toUInt64 >>> ((32 : Int32) &&& 0x3f).toInt64.toUInt64).toInt64).toInt32))] [(.int (xv.toInt32)), (.int (32 : Int32))])) rfl (by rw [hml]; rfl) (argsL := [(.int (xv.toInt32))]) (rest := [(.int (32 : Int32))]) (lenOf pd7 rfl) rfl (by show 2 * 0 + _ ≤ _; exact Nat.le_of_eq rfl) (hb hby dj35m48_14) (fun _ _ => ⟨rfl, e0, (by decide : 0 + 0 ≤ _), (by decide : 0 + 0 ≤ _)⟩)
  dsimp only [Pt.U, Pt.locs, Pt.cells, Pt.slots] at X51 l51 y51 z51 st51 hQ51
  subst l51 y51 z51
  obtain ⟨rfl, Nq51, eq51⟩ := hQ51
  have N51 := Fr.app N0 Nq51
  refine own_t1 (.int (own_nlz (xv.toInt32))) 17 st51 ?_
  refine own_t2 (.int ((32 : Int32) + (own_nlz (xv.toInt32)))) 18 (fun _ q => XS.iadd X51.here hx rfl (hb hby dj35m48_17) rfl q) ?_
  refine own_d0 25 (fun _ q => XS.goto X51.here hx rfl (pc0 := 18) (pc' := 25) rfl (hb hby dj35m48_18) (by decide) (by decide) q) ?_
  exact own_retI X51 hx hrt (hb hby dj35m48_25) hlk (by decide) (by decide) eq51 (⟨rfl, N51, rfl⟩)

def Q11  (h0 : Heap) (n0 : Nat) (v : Option Value) (h : Heap) (L : List Loc) : Prop := v = some (.long (1 : Int64)) ∧ Fr n0 L ∧ h = h0

set_option maxRecDepth 65536 in
set_option maxHeartbeats 40000000 in
theorem rm11 (l : Launch) (Z : State) (a0 : Array Value) (hw : ∀ d ∈ tables_1, d.before a0 Z = true) (ws : List Jvm.Cond)  (h0 : Heap) (n0 : Nat) (O0 : Old Z n0 h0) (dg : Addr) (kd : ClassId) (ex : Addr) (kx : ClassId) (TB : own_TB Z dg kd ex kx) :
    own_Met l (⟨"com/example/unit_step/unitstep/PowersOfTen", "exact", "(I)J"⟩ : MethodName) prog_18_method_5_code 1 (some .long) ws own_R_0_0_0_0 Z #[(.int (0 : Int32))] h0 (Q11 h0 n0) := by
  refine own_enter #[.val (.int (0 : Int32))] (plainFor_of_name pn_com_example_unit_step_unitstep_PowersOfTen) (fun m => ef_I_1 m (0 : Int32)) ?_
  intro p e s m below meth c s₁ hx hby hml hown hnm hZ hrt hlk X0 e0
  have N0 := Fr.nil n0
  obtain ⟨T51, X51, e51, st51⟩ := getS2 X0 hx hZ hown (host := "") (Or.inl (own_w hw 100 rfl)) Via.refl e0 (TB.2.2.1.ext O0.2) (g := (mkF m 0 #[.val (.int (0 : Int32))] [])) rfl (hb hby dp18m5_0)
  refine own_tp (.ref ex) 3 st51 ?_
  refine own_tp (.int (0 : Int32)) 4 (fun _ q => XS.iloadN X51.here hx rfl (hb hby dp18m5_3) rfl q) ?_
  obtain ⟨cl52, Ar52, q52, S52, Nn52, H52, G52⟩ := (id (TB.2.2.2.ext O0.2))
  have hin52 : ¬ ((0 : Int32) < 0 ∨ cl52.slots.size ≤ ((0 : Int32)).toNatClampNeg) := inb_of S52 ⟨by decide, by decide⟩
  have hat52 : cl52.slots[((0 : Int32)).toNatClampNeg]? = some (.long (1 : Int64)) := H52.at hin52 rfl
  refine own_t2 (.long (1 : Int64)) 5 (fun _ q => X51.laload hx (j := (0 : Int32)) (v := (.long (1 : Int64))) (by rw [e51]; exact Ar52.1) (State.isArrayOf_alike hZ.alike Ar52.2.1) Ar52.2.2 hin52 hat52 (g := (mkF m 4 #[.val (.int (0 : Int32))] [(.int (0 : Int32)), (.ref ex)])) rfl rfl (hb hby dp18m5_4) _ q) ?_
  exact own_retJ X51 hx hrt (hb hby dp18m5_5) hlk (by decide) (by decide) e51 (⟨rfl, N0, rfl⟩)

def Q12  (h0 : Heap) (n0 : Nat) (v : Option Value) (h : Heap) (L : List Loc) : Prop := v = some (.long (10 : Int64)) ∧ Fr n0 L ∧ h = h0

set_option maxRecDepth 65536 in
set_option maxHeartbeats 40000000 in
theorem rm12 (l : Launch) (Z : State) (a0 : Array Value) (hw : ∀ d ∈ tables_1, d.before a0 Z = true) (ws : List Jvm.Cond)  (h0 : Heap) (n0 : Nat) (O0 : Old Z n0 h0) (dg : Addr) (kd : ClassId) (ex : Addr) (kx : ClassId) (TB : own_TB Z dg kd ex kx) :
    own_Met l (⟨"com/example/unit_step/unitstep/PowersOfTen", "exact", "(I)J"⟩ : MethodName) prog_18_method_5_code 1 (some .long) ws own_R_0_0_0_0 Z #[(.int (1 : Int32))] h0 (Q12 h0 n0) := by
  refine own_enter #[.val (.int (1 : Int32))] (plainFor_of_name pn_com_example_unit_step_unitstep_PowersOfTen) (fun m => ef_I_1 m (1 : Int32)) ?_
  intro p e s m below meth c s₁ hx hby hml hown hnm hZ hrt hlk X0 e0
  have N0 := Fr.nil n0
  obtain ⟨T51, X51, e51, st51⟩ := getS2 X0 hx hZ hown (host := "") (Or.inl (own_w hw 100 rfl)) Via.refl e0 (TB.2.2.1.ext O0.2) (g := (mkF m 0 #[.val (.int (1 : Int32))] [])) rfl (hb hby dp18m5_0)
  refine own_tp (.ref ex) 3 st51 ?_
  refine own_tp (.int (1 : Int32)) 4 (fun _ q => XS.iloadN X51.here hx rfl (hb hby dp18m5_3) rfl q) ?_
  obtain ⟨cl52, Ar52, q52, S52, Nn52, H52, G52⟩ := (id (TB.2.2.2.ext O0.2))
  have hin52 : ¬ ((1 : Int32) < 0 ∨ cl52.slots.size ≤ ((1 : Int32)).toNatClampNeg) := inb_of S52 ⟨by decide, by decide⟩
  have hat52 : cl52.slots[((1 : Int32)).toNatClampNeg]? = some (.long (10 : Int64)) := H52.at hin52 rfl
  refine own_t2 (.long (10 : Int64)) 5 (fun _ q => X51.laload hx (j := (1 : Int32)) (v := (.long (10 : Int64))) (by rw [e51]; exact Ar52.1) (State.isArrayOf_alike hZ.alike Ar52.2.1) Ar52.2.2 hin52 hat52 (g := (mkF m 4 #[.val (.int (1 : Int32))] [(.int (1 : Int32)), (.ref ex)])) rfl rfl (hb hby dp18m5_4) _ q) ?_
  exact own_retJ X51 hx hrt (hb hby dp18m5_5) hlk (by decide) (by decide) e51 (⟨rfl, N0, rfl⟩)

def Q13  (h0 : Heap) (n0 : Nat) (v : Option Value) (h : Heap) (L : List Loc) : Prop := v = some (.int (1 : Int32)) ∧ Fr n0 L ∧ h = h0

set_option maxRecDepth 65536 in
set_option maxHeartbeats 40000000 in
theorem rm13 (l : Launch) (Z : State) (a0 : Array Value) (hw : ∀ d ∈ tables_1, d.before a0 Z = true) (ws : List Jvm.Cond) (v : Int64) (h0 : Heap) (n0 : Nat) (hv : own_D0 v) (O0 : Old Z n0 h0) (dg : Addr) (kd : ClassId) (ex : Addr) (kx : ClassId) (TB : own_TB Z dg kd ex kx) :
    own_Met l (⟨"com/example/unit_step/unitstep/DecimalLayout", "digitCount", "(J)I"⟩ : MethodName) prog_6_method_3_code 6 (some .int) ws own_R_2_0_0_29 Z #[(.long v)] h0 (Q13 h0 n0) := by
  refine own_enter #[.val (.long v), .second, .unset, .unset, .unset, .unset] (plainFor_of_name pn_com_example_unit_step_unitstep_DecimalLayout) (fun m => ef_J_6 m v) ?_
  intro p e s m below meth c s₁ hx hby hml hown hnm hZ hrt hlk X0 e0
  have N0 := Fr.nil n0
  refine own_tp (.long v) 1 (fun _ q => XS.lloadN X0.here hx rfl (hb hby dp6m3_0) rfl q) ?_
  refine own_tp (.long (1 : Int64)) 2 (fun _ q => XS.lconst X0.here hx rfl (hb hby dp6m3_1) q) ?_
  refine own_t2 (.long (v ||| (1 : Int64))) 3 (fun _ q => XS.lor X0.here hx rfl (hb hby dp6m3_2) rfl q) ?_
  refine own_ls #[.val (.long v), .second, .val (.long (v ||| (1 : Int64))), .second, .unset, .unset] 4 (fun _ q => XS.lstoreN X0.here hx rfl (hb hby dp6m3_3) rfl (l' := #[.val (.long v), .second, .val (.long (v ||| (1 : Int64))), .second, .unset, .unset]) rfl q) ?_
  refine own_tp (.int (64 : Int32)) 6 (fun _ q => XS.bipush X0.here hx rfl (hb hby dp6m3_4) q) ?_
  refine own_tp (.long (v ||| (1 : Int64))) 7 (fun _ q => XS.lloadN X0.here hx rfl (hb hby dp6m3_6) rfl q) ?_
  obtain ⟨_, _, ⟨T51, L51, k51, n51⟩, -, X51, ⟨Lc51, hQ51, l51, y51, z51⟩, st51⟩ := Jvm.LawKit.callS X0 hx (y := (⟨"java/lang/Long", "numberOfLeadingZeros", "(J)I"⟩ : MethodName)) hown (mvT hZ (own_w hw 89 rfl)) (mvT hZ (own_w hw 90 rfl)) (mvT hZ (own_w hw 19 rfl)) (mvT hZ (own_w hw 91 rfl)) (by decide) (backOf (W := 1) (rm10 l Z a0 hw [] (v ||| (1 : Int64)) h0 n0 (own_or1 hv)) hZ (own_w hw 91 rfl) (own_w hw 19 rfl) (by decide) (by decide)) (g := (mkF m 7 #[.val (.long v), .second, .val (.long (v ||| (1 : Int64))), .second, .unset, .unset] [(.long (v ||| (1 : Int64))), (.int (64 : Int32))])) rfl (by rw [hml]; rfl) (argsL := [(.long (v ||| (1 : Int64)))]) (rest := [(.int (64 : Int32))]) (lenOf pd8 rfl) rfl (by show 2 * 0 + _ ≤ _; exact Nat.le_of_eq rfl) (hb hby dp6m3_7) (fun _ _ => ⟨rfl, e0, (by decide : 0 + 0 ≤ _), (by decide : 0 + 0 ≤ _)⟩)
  dsimp only [Pt.U, Pt.locs, Pt.cells, Pt.slots] at X51 l51 y51 z51 st51 hQ51
  subst l51 y51 z51
  obtain ⟨rfl, Nq51, eq51⟩ := hQ51
  have N51 := Fr.app N0 Nq51
  refine own_t1 (.int (own_nl64 (v ||| (1 : Int64)))) 10 st51 ?_
  refine own_t2 (.int ((64 : Int32) - (own_nl64 (v ||| (1 : Int64))))) 11 (fun _ q => XS.isub X51.here hx rfl (hb hby dp6m3_10) rfl q) ?_
  refine own_ls #[.val (.long v), .second, .val (.long (v ||| (1 : Int64))), .second, .val (.int ((64 : Int32) - (own_nl64 (v ||| (1 : Int64))))), .unset] 13 (fun _ q => XS.istore X51.here hx rfl (hb hby dp6m3_11) rfl (l' := #[.val (.long v), .second, .val (.long (v ||| (1 : Int64))), .second, .val (.int ((64 : Int32) - (own_nl64 (v ||| (1 : Int64))))), .unset]) rfl q) ?_
  refine own_tp (.int ((64 : Int32) - (own_nl64 (v ||| (1 : Int64))))) 15 (fun _ q => XS.iload X51.here hx rfl (hb hby dp6m3_13) rfl q) ?_
  refine own_tp (.int (1233 : Int32)) 18 (fun _ q => XS.sipush X51.here hx rfl (hb hby dp6m3_15) q) ?_
  refine own_t2 (.int (((64 : Int32) - (own_nl64 (v ||| (1 : Int64)))) * (1233 : Int32))) 19 (fun _ q => XS.imul X51.here hx rfl (hb hby dp6m3_18) rfl q) ?_
  refine own_tp (.int (12 : Int32)) 21 (fun _ q => XS.bipush X51.here hx rfl (hb hby dp6m3_19) q) ?_
  refine own_t2 (.int (((((64 : Int32) - (own_nl64 (v ||| (1 : Int64)))) * (1233 : Int32)).toUInt32 >>> ((12 : Int32) &&& 31).toUInt32).toInt32)) 22 (fun _ q => XS.iushr X51.here hx rfl (hb hby dp6m3_21) rfl q) ?_
  rcases own_tt hv with ⟨ht, hlt⟩ | ⟨ht, hlt⟩
  ·
    rw [ht]
    refine own_ls #[.val (.long v), .second, .val (.long (v ||| (1 : Int64))), .second, .val (.int ((64 : Int32) - (own_nl64 (v ||| (1 : Int64))))), .val (.int (0 : Int32))] 24 (fun _ q => XS.istore X51.here hx rfl (hb hby dp6m3_22) rfl (l' := #[.val (.long v), .second, .val (.long (v ||| (1 : Int64))), .second, .val (.int ((64 : Int32) - (own_nl64 (v ||| (1 : Int64))))), .val (.int (0 : Int32))]) rfl q) ?_
    refine own_tp (.long (v ||| (1 : Int64))) 25 (fun _ q => XS.lloadN X51.here hx rfl (hb hby dp6m3_24) rfl q) ?_
    refine own_tp (.int (0 : Int32)) 27 (fun _ q => XS.iload X51.here hx rfl (hb hby dp6m3_25) rfl q) ?_
    obtain ⟨_, _, ⟨T52, L52, k52, n52⟩, -, X52, ⟨Lc52, hQ52, l52, y52, z52⟩, st52⟩ := Jvm.LawKit.callS X51 hx (y := (⟨"com/example/unit_step/unitstep/PowersOfTen", "exact", "(I)J"⟩ : MethodName)) hown (mvT hZ (own_w hw 96 rfl)) (mvT hZ (own_w hw 97 rfl)) (mvT hZ (own_w hw 98 rfl)) (mvT hZ (own_w hw 99 rfl)) (by decide) (backOf (W := 2) (rm11 l Z a0 hw [] h0 n0 O0 dg kd ex kx TB) hZ (own_w hw 99 rfl) (own_w hw 98 rfl) (by decide) (by decide)) (g := (mkF m 27 #[.val (.long v), .second, .val (.long (v ||| (1 : Int64))), .second, .val (.int ((64 : Int32) - (own_nl64 (v ||| (1 : Int64))))), .val (.int (0 : Int32))] [(.int (0 : Int32)), (.long (v ||| (1 : Int64)))])) rfl (by rw [hml]; rfl) (argsL := [(.int (0 : Int32))]) (rest := [(.long (v ||| (1 : Int64)))]) (lenOf pd9 rfl) rfl (by show 2 * 0 + _ ≤ _; exact Nat.le_of_eq rfl) (hb hby dp6m3_27) (fun _ _ => ⟨rfl, eq51, (by decide : 0 + 0 ≤ _), (by decide : 0 + 0 ≤ _)⟩)
    dsimp only [Pt.U, Pt.locs, Pt.cells, Pt.slots] at X52 l52 y52 z52 st52 hQ52
    subst l52 y52 z52
    obtain ⟨rfl, Nq52, eq52⟩ := hQ52
    have N52 := Fr.app N51 Nq52
    refine own_t1 (.long (1 : Int64)) 30 st52 ?_
    refine own_t2 (.int (lcmpW (v ||| (1 : Int64)) (1 : Int64))) 31 (fun _ q => XS.lcmp X52.here hx rfl (hb hby dp6m3_30) rfl q) ?_
    refine own_d1 39 (fun _ q => XS.ifYes X52.here hx rfl (pc0 := 31) (pc' := 39) rfl (hb hby dp6m3_31) rfl ((if0 _ _).trans (flt hlt).2.1) (by decide) (by decide) q) ?_
    refine own_tp (.int (0 : Int32)) 41 (fun _ q => XS.iload X52.here hx rfl (hb hby dp6m3_39) rfl q) ?_
    refine own_tp (.int (1 : Int32)) 42 (fun _ q => XS.iconst X52.here hx rfl (hb hby dp6m3_41) q) ?_
    refine own_t2 (.int (1 : Int32)) 43 (fun _ q => XS.iadd X52.here hx rfl (hb hby dp6m3_42) rfl q) ?_
    exact own_retI X52 hx hrt (hb hby dp6m3_43) hlk (by decide) (by decide) eq52 (⟨rfl, N52, rfl⟩)
  ·
    rw [ht]
    refine own_ls #[.val (.long v), .second, .val (.long (v ||| (1 : Int64))), .second, .val (.int ((64 : Int32) - (own_nl64 (v ||| (1 : Int64))))), .val (.int (1 : Int32))] 24 (fun _ q => XS.istore X51.here hx rfl (hb hby dp6m3_22) rfl (l' := #[.val (.long v), .second, .val (.long (v ||| (1 : Int64))), .second, .val (.int ((64 : Int32) - (own_nl64 (v ||| (1 : Int64))))), .val (.int (1 : Int32))]) rfl q) ?_
    refine own_tp (.long (v ||| (1 : Int64))) 25 (fun _ q => XS.lloadN X51.here hx rfl (hb hby dp6m3_24) rfl q) ?_
    refine own_tp (.int (1 : Int32)) 27 (fun _ q => XS.iload X51.here hx rfl (hb hby dp6m3_25) rfl q) ?_
    obtain ⟨_, _, ⟨T53, L53, k53, n53⟩, -, X53, ⟨Lc53, hQ53, l53, y53, z53⟩, st53⟩ := Jvm.LawKit.callS X51 hx (y := (⟨"com/example/unit_step/unitstep/PowersOfTen", "exact", "(I)J"⟩ : MethodName)) hown (mvT hZ (own_w hw 96 rfl)) (mvT hZ (own_w hw 97 rfl)) (mvT hZ (own_w hw 98 rfl)) (mvT hZ (own_w hw 99 rfl)) (by decide) (backOf (W := 2) (rm12 l Z a0 hw [] h0 n0 O0 dg kd ex kx TB) hZ (own_w hw 99 rfl) (own_w hw 98 rfl) (by decide) (by decide)) (g := (mkF m 27 #[.val (.long v), .second, .val (.long (v ||| (1 : Int64))), .second, .val (.int ((64 : Int32) - (own_nl64 (v ||| (1 : Int64))))), .val (.int (1 : Int32))] [(.int (1 : Int32)), (.long (v ||| (1 : Int64)))])) rfl (by rw [hml]; rfl) (argsL := [(.int (1 : Int32))]) (rest := [(.long (v ||| (1 : Int64)))]) (lenOf pd9 rfl) rfl (by show 2 * 0 + _ ≤ _; exact Nat.le_of_eq rfl) (hb hby dp6m3_27) (fun _ _ => ⟨rfl, eq51, (by decide : 0 + 0 ≤ _), (by decide : 0 + 0 ≤ _)⟩)
    dsimp only [Pt.U, Pt.locs, Pt.cells, Pt.slots] at X53 l53 y53 z53 st53 hQ53
    subst l53 y53 z53
    obtain ⟨rfl, Nq53, eq53⟩ := hQ53
    have N53 := Fr.app N51 Nq53
    refine own_t1 (.long (10 : Int64)) 30 st53 ?_
    refine own_t2 (.int (lcmpW (v ||| (1 : Int64)) (10 : Int64))) 31 (fun _ q => XS.lcmp X53.here hx rfl (hb hby dp6m3_30) rfl q) ?_
    refine own_d1 34 (fun _ q => XS.ifNo X53.here hx rfl (hb hby dp6m3_31) rfl ((if0 _ _).trans (tlt hlt).2.1) q) ?_
    refine own_tp (.int (1 : Int32)) 36 (fun _ q => XS.iload X53.here hx rfl (hb hby dp6m3_34) rfl q) ?_
    refine own_d0 43 (fun _ q => XS.goto X53.here hx rfl (pc0 := 36) (pc' := 43) rfl (hb hby dp6m3_36) (by decide) (by decide) q) ?_
    exact own_retI X53 hx hrt (hb hby dp6m3_43) hlk (by decide) (by decide) eq53 (⟨rfl, N53, rfl⟩)

def Q14  (h0 : Heap) (n0 : Nat) (v : Option Value) (h : Heap) (L : List Loc) : Prop := v = some (.int (1 : Int32)) ∧ Fr n0 L ∧ h = h0

set_option maxRecDepth 65536 in
set_option maxHeartbeats 40000000 in
theorem rm14 (l : Launch) (Z : State) (a0 : Array Value) (hw : ∀ d ∈ tables_1, d.before a0 Z = true) (ws : List Jvm.Cond)  (h0 : Heap) (n0 : Nat)  :
    own_Met l (⟨"java/lang/Math", "max", "(II)I"⟩ : MethodName) jdk_29_method_65_code 2 (some .int) ws own_R_0_0_0_0 Z #[(.int (0 : Int32)), (.int (1 : Int32))] h0 (Q14 h0 n0) := by
  refine own_enter #[.val (.int (0 : Int32)), .val (.int (1 : Int32))] (Jvm.Free.JP.mathPlain rfl (by decide +kernel)) (fun m => ef_II_2 m (0 : Int32) (1 : Int32)) ?_
  intro p e s m below meth c s₁ hx hby hml hown hnm hZ hrt hlk X0 e0
  have N0 := Fr.nil n0
  refine own_tp (.int (0 : Int32)) 1 (fun _ q => XS.iloadN X0.here hx rfl (hb hby dj29m65_0) rfl q) ?_
  refine own_tp (.int (1 : Int32)) 2 (fun _ q => XS.iloadN X0.here hx rfl (hb hby dj29m65_1) rfl q) ?_
  refine own_d2 9 (fun _ q => XS.icmpYes X0.here hx rfl (pc0 := 2) (pc' := 9) rfl (hb hby dj29m65_2) rfl (tlt (by decide : (0 : Int32) < (1 : Int32))).1 (by decide) (by decide) q) ?_
  refine own_tp (.int (1 : Int32)) 10 (fun _ q => XS.iloadN X0.here hx rfl (hb hby dj29m65_9) rfl q) ?_
  exact own_retI X0 hx hrt (hb hby dj29m65_10) hlk (by decide) (by decide) e0 (⟨rfl, N0, rfl⟩)

def Q15  (h0 : Heap) (n0 : Nat) (v : Option Value) (h : Heap) (L : List Loc) : Prop := v = some (.int (0 : Int32)) ∧ Fr n0 L ∧ h = h0

set_option maxRecDepth 65536 in
set_option maxHeartbeats 40000000 in
theorem rm15 (l : Launch) (Z : State) (a0 : Array Value) (hw : ∀ d ∈ tables_1, d.before a0 Z = true) (ws : List Jvm.Cond)  (h0 : Heap) (n0 : Nat)  :
    own_Met l (⟨"java/lang/Math", "abs", "(I)I"⟩ : MethodName) jdk_29_method_59_code 1 (some .int) ws own_R_0_0_0_0 Z #[(.int (0 : Int32))] h0 (Q15 h0 n0) := by
  refine own_enter #[.val (.int (0 : Int32))] (Jvm.Free.JP.mathPlain rfl (by decide +kernel)) (fun m => ef_I_1 m (0 : Int32)) ?_
  intro p e s m below meth c s₁ hx hby hml hown hnm hZ hrt hlk X0 e0
  have N0 := Fr.nil n0
  refine own_tp (.int (0 : Int32)) 1 (fun _ q => XS.iloadN X0.here hx rfl (hb hby dj29m59_0) rfl q) ?_
  refine own_d1 9 (fun _ q => XS.ifYes X0.here hx rfl (pc0 := 1) (pc' := 9) rfl (hb hby dj29m59_1) rfl ((if0 _ _).trans (flt (by decide : ¬ ((0 : Int32) < (0 : Int32)))).2.1) (by decide) (by decide) q) ?_
  refine own_tp (.int (0 : Int32)) 10 (fun _ q => XS.iloadN X0.here hx rfl (hb hby dj29m59_9) rfl q) ?_
  exact own_retI X0 hx hrt (hb hby dj29m59_10) hlk (by decide) (by decide) e0 (⟨rfl, N0, rfl⟩)

def Q16 (Z : State) (b1 : Addr) (k1 : ClassId) (w0 w1 w2 w3 w4 : Value) (pv : Int64) (h0 : Heap) (n0 : Nat) (v : Option Value) (h : Heap) (L : List Loc) : Prop := v = none ∧ Fr n0 L ∧ Keep h0 h [b1] ∧ Arv Z h b1 k1 .byte (5 : Int32) [w0, (.int (((48 : Int32) + (pv.toInt32)).toInt8.toInt32)), w2, w3, w4] (.int (0 : Int32))

set_option maxRecDepth 65536 in
set_option maxHeartbeats 40000000 in
theorem rm16 (l : Launch) (Z : State) (a0 : Array Value) (hw : ∀ d ∈ tables_1, d.before a0 Z = true) (ws : List Jvm.Cond) (b1 : Addr) (k1 : ClassId) (w0 w1 w2 w3 w4 : Value) (pv : Int64) (h0 : Heap) (n0 : Nat) (Z0 : n0 ≤ h0.size) (g1 : n0 ≤ b1) (O0 : Old Z n0 h0) (V1 : Arv Z h0 b1 k1 .byte (5 : Int32) [w0, w1, w2, w3, w4] (.int (0 : Int32))) :
    own_Met l (⟨"com/example/unit_step/unitstep/DecimalLayout", "putDigits", "([BIIJ)V"⟩ : MethodName) prog_6_method_4_code 10 none ws own_R_0_0_0_0 Z #[(.ref b1), (.int (1 : Int32)), (.int (1 : Int32)), (.long pv)] h0 (Q16 Z b1 k1 w0 w1 w2 w3 w4 pv h0 n0) := by
  refine own_enter #[.val (.ref b1), .val (.int (1 : Int32)), .val (.int (1 : Int32)), .val (.long pv), .second, .unset, .unset, .unset, .unset, .unset] (plainFor_of_name pn_com_example_unit_step_unitstep_DecimalLayout) (fun m => ef_RIIJ_10 m b1 (1 : Int32) (1 : Int32) pv) ?_
  intro p e s m below meth c s₁ hx hby hml hown hnm hZ hrt hlk X0 e0
  have N0 := Fr.nil n0
  refine own_tp (.long pv) 1 (fun _ q => XS.lloadN X0.here hx rfl (hb hby dp6m4_0) rfl q) ?_
  let L_51 : Array Slot := #[.val (.ref b1), .val (.int (1 : Int32)), .val (.int (1 : Int32)), .val (.long pv), .second, .val (.long pv), .second, .unset, .unset, .unset]
  refine own_ls L_51 3 (fun _ q => XS.lstore X0.here hx rfl (hb hby dp6m4_1) rfl (l' := L_51) rfl q) ?_
  refine own_tp (.int (1 : Int32)) 4 (fun _ q => XS.iloadN X0.here hx rfl (hb hby dp6m4_3) rfl q) ?_
  refine own_tp (.int (1 : Int32)) 5 (fun _ q => XS.iloadN X0.here hx rfl (hb hby dp6m4_4) rfl q) ?_
  refine own_t2 (.int (2 : Int32)) 6 (fun _ q => XS.iadd X0.here hx rfl (hb hby dp6m4_5) rfl q) ?_
  let L_52 : Array Slot := #[.val (.ref b1), .val (.int (1 : Int32)), .val (.int (1 : Int32)), .val (.long pv), .second, .val (.long pv), .second, .val (.int (2 : Int32)), .unset, .unset]
  refine own_ls L_52 8 (fun _ q => XS.istore X0.here hx rfl (hb hby dp6m4_6) rfl (l' := L_52) rfl q) ?_
  refine own_tp (.int (2 : Int32)) 10 (fun _ q => XS.iload X0.here hx rfl (hb hby dp6m4_8) rfl q) ?_
  refine own_tp (.int (1 : Int32)) 11 (fun _ q => XS.iloadN X0.here hx rfl (hb hby dp6m4_10) rfl q) ?_
  refine own_t2 (.int (1 : Int32)) 12 (fun _ q => XS.isub X0.here hx rfl (hb hby dp6m4_11) rfl q) ?_
  refine own_tp (.int (8 : Int32)) 14 (fun _ q => XS.bipush X0.here hx rfl (hb hby dp6m4_12) q) ?_
  refine own_d2 54 (fun _ q => XS.icmpYes X0.here hx rfl (pc0 := 14) (pc' := 54) rfl (hb hby dp6m4_14) rfl (tlt (by decide : (1 : Int32) < (8 : Int32))).1 (by decide) (by decide) q) ?_
  refine own_tp (.long pv) 56 (fun _ q => XS.lload X0.here hx rfl (hb hby dp6m4_54) rfl q) ?_
  refine own_t1 (.int (pv.toInt32)) 57 (fun _ q => XS.l2i X0.here hx rfl (hb hby dp6m4_56) rfl q) ?_
  let L_53 : Array Slot := #[.val (.ref b1), .val (.int (1 : Int32)), .val (.int (1 : Int32)), .val (.long pv), .second, .val (.long pv), .second, .val (.int (2 : Int32)), .val (.int (pv.toInt32)), .unset]
  refine own_ls L_53 59 (fun _ q => XS.istore X0.here hx rfl (hb hby dp6m4_57) rfl (l' := L_53) rfl q) ?_
  refine own_tp (.int (2 : Int32)) 61 (fun _ q => XS.iload X0.here hx rfl (hb hby dp6m4_59) rfl q) ?_
  refine own_tp (.int (1 : Int32)) 62 (fun _ q => XS.iloadN X0.here hx rfl (hb hby dp6m4_61) rfl q) ?_
  refine own_t2 (.int (1 : Int32)) 63 (fun _ q => XS.isub X0.here hx rfl (hb hby dp6m4_62) rfl q) ?_
  refine own_tp (.int (2 : Int32)) 64 (fun _ q => XS.iconst X0.here hx rfl (hb hby dp6m4_63) q) ?_
  refine own_d2 100 (fun _ q => XS.icmpYes X0.here hx rfl (pc0 := 64) (pc' := 100) rfl (hb hby dp6m4_64) rfl (tlt (by decide : (1 : Int32) < (2 : Int32))).1 (by decide) (by decide) q) ?_
  refine own_tp (.int (2 : Int32)) 102 (fun _ q => XS.iload X0.here hx rfl (hb hby dp6m4_100) rfl q) ?_
  refine own_tp (.int (1 : Int32)) 103 (fun _ q => XS.iloadN X0.here hx rfl (hb hby dp6m4_102) rfl q) ?_
  refine own_d2 106 (fun _ q => XS.icmpNo X0.here hx rfl (hb hby dp6m4_103) rfl (tlt (by decide : (1 : Int32) < (2 : Int32))).2.2.2 q) ?_
  refine own_tp (.ref b1) 107 (fun _ q => XS.aloadN X0.here hx rfl (hb hby dp6m4_106) rfl rfl q) ?_
  refine own_tp (.int (1 : Int32)) 108 (fun _ q => XS.iloadN X0.here hx rfl (hb hby dp6m4_107) rfl q) ?_
  refine own_tp (.int (48 : Int32)) 110 (fun _ q => XS.bipush X0.here hx rfl (hb hby dp6m4_108) q) ?_
  refine own_tp (.int (pv.toInt32)) 112 (fun _ q => XS.iload X0.here hx rfl (hb hby dp6m4_110) rfl q) ?_
  refine own_t2 (.int ((48 : Int32) + (pv.toInt32))) 113 (fun _ q => XS.iadd X0.here hx rfl (hb hby dp6m4_112) rfl q) ?_
  refine own_t1 (.int (((48 : Int32) + (pv.toInt32)).toInt8.toInt32)) 114 (fun _ q => XS.i2b X0.here hx rfl (hb hby dp6m4_113) rfl q) ?_
  obtain ⟨cl54, Ar54, q54, S54, Nn54, H54, G54⟩ := (id V1)
  have hin54 : ¬ ((1 : Int32) < 0 ∨ cl54.slots.size ≤ ((1 : Int32)).toNatClampNeg) := inb_of S54 ⟨by decide, by decide⟩
  obtain ⟨T55, h55, X55, e55, W55, st55⟩ := stB X0 hx hZ e0 Ar54 (j := (1 : Int32)) hin54 (g := (mkF m 114 L_53 [(.int (((48 : Int32) + (pv.toInt32)).toInt8.toInt32)), (.int (1 : Int32)), (.ref b1)])) rfl rfl (hb hby dp6m4_114)
  have V55 := Arv.set Ar54 q54 S54 Nn54 H54 G54 (fits_nar_byte _) W55 1 rfl (Nat.le_of_ble_eq_true rfl)
  have N55 := Fr.snoc X55 N0 g1
  have O55 := Old.wr O0 W55 g1
  have K55 : Keep h0 h55 [b1] := (Keep.refl h0 [b1]).wr W55 (Or.inl (List.mem_of_getElem? (i := 0) rfl))
  have Z55 : n0 ≤ h55.size := Nat.le_trans Z0 (Nat.le_of_eq W55.size.symm)
  have V55' : Arv Z h55 b1 k1 .byte (5 : Int32) [w0, (.int (((48 : Int32) + (pv.toInt32)).toInt8.toInt32)), w2, w3, w4] (.int (0 : Int32)) := by have q := V55; first | (rw [own_nb] at q; exact q) | (rw [own_nb2] at q; exact q)
  refine own_cs [] 115 st55 ?_
  exact own_retV X55 hx hrt (hb hby dp6m4_115) hlk (by decide) (by decide) e55 (⟨rfl, N55, K55, V55'⟩)

def Q17 (Z : State) (b1 : Addr) (k1 : ClassId) (w0 w1 w2 w3 w4 : Value) (pv : Int64) (h0 : Heap) (n0 : Nat) (v : Option Value) (h : Heap) (L : List Loc) : Prop := v = none ∧ Fr n0 L ∧ Keep h0 h [b1] ∧ Arv Z h b1 k1 .byte (5 : Int32) [w0, w1, w2, w3, (.int (((48 : Int32) + (pv.toInt32)).toInt8.toInt32))] (.int (0 : Int32))

set_option maxRecDepth 65536 in
set_option maxHeartbeats 40000000 in
theorem rm17 (l : Launch) (Z : State) (a0 : Array Value) (hw : ∀ d ∈ tables_1, d.before a0 Z = true) (ws : List Jvm.Cond) (b1 : Addr) (k1 : ClassId) (w0 w1 w2 w3 w4 : Value) (pv : Int64) (h0 : Heap) (n0 : Nat) (Z0 : n0 ≤ h0.size) (g1 : n0 ≤ b1) (O0 : Old Z n0 h0) (V1 : Arv Z h0 b1 k1 .byte (5 : Int32) [w0, w1, w2, w3, w4] (.int (0 : Int32))) :
    own_Met l (⟨"com/example/unit_step/unitstep/DecimalLayout", "putDigits", "([BIIJ)V"⟩ : MethodName) prog_6_method_4_code 10 none ws own_R_0_0_0_0 Z #[(.ref b1), (.int (4 : Int32)), (.int (1 : Int32)), (.long pv)] h0 (Q17 Z b1 k1 w0 w1 w2 w3 w4 pv h0 n0) := by
  refine own_enter #[.val (.ref b1), .val (.int (4 : Int32)), .val (.int (1 : Int32)), .val (.long pv), .second, .unset, .unset, .unset, .unset, .unset] (plainFor_of_name pn_com_example_unit_step_unitstep_DecimalLayout) (fun m => ef_RIIJ_10 m b1 (4 : Int32) (1 : Int32) pv) ?_
  intro p e s m below meth c s₁ hx hby hml hown hnm hZ hrt hlk X0 e0
  have N0 := Fr.nil n0
  refine own_tp (.long pv) 1 (fun _ q => XS.lloadN X0.here hx rfl (hb hby dp6m4_0) rfl q) ?_
  let L_51 : Array Slot := #[.val (.ref b1), .val (.int (4 : Int32)), .val (.int (1 : Int32)), .val (.long pv), .second, .val (.long pv), .second, .unset, .unset, .unset]
  refine own_ls L_51 3 (fun _ q => XS.lstore X0.here hx rfl (hb hby dp6m4_1) rfl (l' := L_51) rfl q) ?_
  refine own_tp (.int (4 : Int32)) 4 (fun _ q => XS.iloadN X0.here hx rfl (hb hby dp6m4_3) rfl q) ?_
  refine own_tp (.int (1 : Int32)) 5 (fun _ q => XS.iloadN X0.here hx rfl (hb hby dp6m4_4) rfl q) ?_
  refine own_t2 (.int (5 : Int32)) 6 (fun _ q => XS.iadd X0.here hx rfl (hb hby dp6m4_5) rfl q) ?_
  let L_52 : Array Slot := #[.val (.ref b1), .val (.int (4 : Int32)), .val (.int (1 : Int32)), .val (.long pv), .second, .val (.long pv), .second, .val (.int (5 : Int32)), .unset, .unset]
  refine own_ls L_52 8 (fun _ q => XS.istore X0.here hx rfl (hb hby dp6m4_6) rfl (l' := L_52) rfl q) ?_
  refine own_tp (.int (5 : Int32)) 10 (fun _ q => XS.iload X0.here hx rfl (hb hby dp6m4_8) rfl q) ?_
  refine own_tp (.int (4 : Int32)) 11 (fun _ q => XS.iloadN X0.here hx rfl (hb hby dp6m4_10) rfl q) ?_
  refine own_t2 (.int (1 : Int32)) 12 (fun _ q => XS.isub X0.here hx rfl (hb hby dp6m4_11) rfl q) ?_
  refine own_tp (.int (8 : Int32)) 14 (fun _ q => XS.bipush X0.here hx rfl (hb hby dp6m4_12) q) ?_
  refine own_d2 54 (fun _ q => XS.icmpYes X0.here hx rfl (pc0 := 14) (pc' := 54) rfl (hb hby dp6m4_14) rfl (tlt (by decide : (1 : Int32) < (8 : Int32))).1 (by decide) (by decide) q) ?_
  refine own_tp (.long pv) 56 (fun _ q => XS.lload X0.here hx rfl (hb hby dp6m4_54) rfl q) ?_
  refine own_t1 (.int (pv.toInt32)) 57 (fun _ q => XS.l2i X0.here hx rfl (hb hby dp6m4_56) rfl q) ?_
  let L_53 : Array Slot := #[.val (.ref b1), .val (.int (4 : Int32)), .val (.int (1 : Int32)), .val (.long pv), .second, .val (.long pv), .second, .val (.int (5 : Int32)), .val (.int (pv.toInt32)), .unset]
  refine own_ls L_53 59 (fun _ q => XS.istore X0.here hx rfl (hb hby dp6m4_57) rfl (l' := L_53) rfl q) ?_
  refine own_tp (.int (5 : Int32)) 61 (fun _ q => XS.iload X0.here hx rfl (hb hby dp6m4_59) rfl q) ?_
  refine own_tp (.int (4 : Int32)) 62 (fun _ q => XS.iloadN X0.here hx rfl (hb hby dp6m4_61) rfl q) ?_
  refine own_t2 (.int (1 : Int32)) 63 (fun _ q => XS.isub X0.here hx rfl (hb hby dp6m4_62) rfl q) ?_
  refine own_tp (.int (2 : Int32)) 64 (fun _ q => XS.iconst X0.here hx rfl (hb hby dp6m4_63) q) ?_
  refine own_d2 100 (fun _ q => XS.icmpYes X0.here hx rfl (pc0 := 64) (pc' := 100) rfl (hb hby dp6m4_64) rfl (tlt (by decide : (1 : Int32) < (2 : Int32))).1 (by decide) (by decide) q) ?_
  refine own_tp (.int (5 : Int32)) 102 (fun _ q => XS.iload X0.here hx rfl (hb hby dp6m4_100) rfl q) ?_
  refine own_tp (.int (4 : Int32)) 103 (fun _ q => XS.iloadN X0.here hx rfl (hb hby dp6m4_102) rfl q) ?_
  refine own_d2 106 (fun _ q => XS.icmpNo X0.here hx rfl (hb hby dp6m4_103) rfl (tlt (by decide : (4 : Int32) < (5 : Int32))).2.2.2 q) ?_
  refine own_tp (.ref b1) 107 (fun _ q => XS.aloadN X0.here hx rfl (hb hby dp6m4_106) rfl rfl q) ?_
  refine own_tp (.int (4 : Int32)) 108 (fun _ q => XS.iloadN X0.here hx rfl (hb hby dp6m4_107) rfl q) ?_
  refine own_tp (.int (48 : Int32)) 110 (fun _ q => XS.bipush X0.here hx rfl (hb hby dp6m4_108) q) ?_
  refine own_tp (.int (pv.toInt32)) 112 (fun _ q => XS.iload X0.here hx rfl (hb hby dp6m4_110) rfl q) ?_
  refine own_t2 (.int ((48 : Int32) + (pv.toInt32))) 113 (fun _ q => XS.iadd X0.here hx rfl (hb hby dp6m4_112) rfl q) ?_
  refine own_t1 (.int (((48 : Int32) + (pv.toInt32)).toInt8.toInt32)) 114 (fun _ q => XS.i2b X0.here hx rfl (hb hby dp6m4_113) rfl q) ?_
  obtain ⟨cl54, Ar54, q54, S54, Nn54, H54, G54⟩ := (id V1)
  have hin54 : ¬ ((4 : Int32) < 0 ∨ cl54.slots.size ≤ ((4 : Int32)).toNatClampNeg) := inb_of S54 ⟨by decide, by decide⟩
  obtain ⟨T55, h55, X55, e55, W55, st55⟩ := stB X0 hx hZ e0 Ar54 (j := (4 : Int32)) hin54 (g := (mkF m 114 L_53 [(.int (((48 : Int32) + (pv.toInt32)).toInt8.toInt32)), (.int (4 : Int32)), (.ref b1)])) rfl rfl (hb hby dp6m4_114)
  have V55 := Arv.set Ar54 q54 S54 Nn54 H54 G54 (fits_nar_byte _) W55 4 rfl (Nat.le_of_ble_eq_true rfl)
  have N55 := Fr.snoc X55 N0 g1
  have O55 := Old.wr O0 W55 g1
  have K55 : Keep h0 h55 [b1] := (Keep.refl h0 [b1]).wr W55 (Or.inl (List.mem_of_getElem? (i := 0) rfl))
  have Z55 : n0 ≤ h55.size := Nat.le_trans Z0 (Nat.le_of_eq W55.size.symm)
  have V55' : Arv Z h55 b1 k1 .byte (5 : Int32) [w0, w1, w2, w3, (.int (((48 : Int32) + (pv.toInt32)).toInt8.toInt32))] (.int (0 : Int32)) := by have q := V55; first | (rw [own_nb] at q; exact q) | (rw [own_nb2] at q; exact q)
  refine own_cs [] 115 st55 ?_
  exact own_retV X55 hx hrt (hb hby dp6m4_115) hlk (by decide) (by decide) e55 (⟨rfl, N55, K55, V55'⟩)

def Q18 (Z : State) (b1 : Addr) (k1 : ClassId) (w0 w1 w2 w3 w4 w5 : Value) (pv : Int64) (h0 : Heap) (n0 : Nat) (v : Option Value) (h : Heap) (L : List Loc) : Prop := v = none ∧ Fr n0 L ∧ Keep h0 h [b1] ∧ Arv Z h b1 k1 .byte (6 : Int32) [w0, w1, (.int (((48 : Int32) + (pv.toInt32)).toInt8.toInt32)), w3, w4, w5] (.int (0 : Int32))

set_option maxRecDepth 65536 in
set_option maxHeartbeats 40000000 in
theorem rm18 (l : Launch) (Z : State) (a0 : Array Value) (hw : ∀ d ∈ tables_1, d.before a0 Z = true) (ws : List Jvm.Cond) (b1 : Addr) (k1 : ClassId) (w0 w1 w2 w3 w4 w5 : Value) (pv : Int64) (h0 : Heap) (n0 : Nat) (Z0 : n0 ≤ h0.size) (g1 : n0 ≤ b1) (O0 : Old Z n0 h0) (V1 : Arv Z h0 b1 k1 .byte (6 : Int32) [w0, w1, w2, w3, w4, w5] (.int (0 : Int32))) :
    own_Met l (⟨"com/example/unit_step/unitstep/DecimalLayout", "putDigits", "([BIIJ)V"⟩ : MethodName) prog_6_method_4_code 10 none ws own_R_0_0_0_0 Z #[(.ref b1), (.int (2 : Int32)), (.int (1 : Int32)), (.long pv)] h0 (Q18 Z b1 k1 w0 w1 w2 w3 w4 w5 pv h0 n0) := by
  refine own_enter #[.val (.ref b1), .val (.int (2 : Int32)), .val (.int (1 : Int32)), .val (.long pv), .second, .unset, .unset, .unset, .unset, .unset] (plainFor_of_name pn_com_example_unit_step_unitstep_DecimalLayout) (fun m => ef_RIIJ_10 m b1 (2 : Int32) (1 : Int32) pv) ?_
  intro p e s m below meth c s₁ hx hby hml hown hnm hZ hrt hlk X0 e0
  have N0 := Fr.nil n0
  refine own_tp (.long pv) 1 (fun _ q => XS.lloadN X0.here hx rfl (hb hby dp6m4_0) rfl q) ?_
  let L_51 : Array Slot := #[.val (.ref b1), .val (.int (2 : Int32)), .val (.int (1 : Int32)), .val (.long pv), .second, .val (.long pv), .second, .unset, .unset, .unset]
  refine own_ls L_51 3 (fun _ q => XS.lstore X0.here hx rfl (hb hby dp6m4_1) rfl (l' := L_51) rfl q) ?_
  refine own_tp (.int (2 : Int32)) 4 (fun _ q => XS.iloadN X0.here hx rfl (hb hby dp6m4_3) rfl q) ?_
  refine own_tp (.int (1 : Int32)) 5 (fun _ q => XS.iloadN X0.here hx rfl (hb hby dp6m4_4) rfl q) ?_
  refine own_t2 (.int (3 : Int32)) 6 (fun _ q => XS.iadd X0.here hx rfl (hb hby dp6m4_5) rfl q) ?_
  let L_52 : Array Slot := #[.val (.ref b1), .val (.int (2 : Int32)), .val (.int (1 : Int32)), .val (.long pv), .second, .val (.long pv), .second, .val (.int (3 : Int32)), .unset, .unset]
  refine own_ls L_52 8 (fun _ q => XS.istore X0.here hx rfl (hb hby dp6m4_6) rfl (l' := L_52) rfl q) ?_
  refine own_tp (.int (3 : Int32)) 10 (fun _ q => XS.iload X0.here hx rfl (hb hby dp6m4_8) rfl q) ?_
  refine own_tp (.int (2 : Int32)) 11 (fun _ q => XS.iloadN X0.here hx rfl (hb hby dp6m4_10) rfl q) ?_
  refine own_t2 (.int (1 : Int32)) 12 (fun _ q => XS.isub X0.here hx rfl (hb hby dp6m4_11) rfl q) ?_
  refine own_tp (.int (8 : Int32)) 14 (fun _ q => XS.bipush X0.here hx rfl (hb hby dp6m4_12) q) ?_
  refine own_d2 54 (fun _ q => XS.icmpYes X0.here hx rfl (pc0 := 14) (pc' := 54) rfl (hb hby dp6m4_14) rfl (tlt (by decide : (1 : Int32) < (8 : Int32))).1 (by decide) (by decide) q) ?_
  refine own_tp (.long pv) 56 (fun _ q => XS.lload X0.here hx rfl (hb hby dp6m4_54) rfl q) ?_
  refine own_t1 (.int (pv.toInt32)) 57 (fun _ q => XS.l2i X0.here hx rfl (hb hby dp6m4_56) rfl q) ?_
  let L_53 : Array Slot := #[.val (.ref b1), .val (.int (2 : Int32)), .val (.int (1 : Int32)), .val (.long pv), .second, .val (.long pv), .second, .val (.int (3 : Int32)), .val (.int (pv.toInt32)), .unset]
  refine own_ls L_53 59 (fun _ q => XS.istore X0.here hx rfl (hb hby dp6m4_57) rfl (l' := L_53) rfl q) ?_
  refine own_tp (.int (3 : Int32)) 61 (fun _ q => XS.iload X0.here hx rfl (hb hby dp6m4_59) rfl q) ?_
  refine own_tp (.int (2 : Int32)) 62 (fun _ q => XS.iloadN X0.here hx rfl (hb hby dp6m4_61) rfl q) ?_
  refine own_t2 (.int (1 : Int32)) 63 (fun _ q => XS.isub X0.here hx rfl (hb hby dp6m4_62) rfl q) ?_
  refine own_tp (.int (2 : Int32)) 64 (fun _ q => XS.iconst X0.here hx rfl (hb hby dp6m4_63) q) ?_
  refine own_d2 100 (fun _ q => XS.icmpYes X0.here hx rfl (pc0 := 64) (pc' := 100) rfl (hb hby dp6m4_64) rfl (tlt (by decide : (1 : Int32) < (2 : Int32))).1 (by decide) (by decide) q) ?_
  refine own_tp (.int (3 : Int32)) 102 (fun _ q => XS.iload X0.here hx rfl (hb hby dp6m4_100) rfl q) ?_
  refine own_tp (.int (2 : Int32)) 103 (fun _ q => XS.iloadN X0.here hx rfl (hb hby dp6m4_102) rfl q) ?_
  refine own_d2 106 (fun _ q => XS.icmpNo X0.here hx rfl (hb hby dp6m4_103) rfl (tlt (by decide : (2 : Int32) < (3 : Int32))).2.2.2 q) ?_
  refine own_tp (.ref b1) 107 (fun _ q => XS.aloadN X0.here hx rfl (hb hby dp6m4_106) rfl rfl q) ?_
  refine own_tp (.int (2 : Int32)) 108 (fun _ q => XS.iloadN X0.here hx rfl (hb hby dp6m4_107) rfl q) ?_
  refine own_tp (.int (48 : Int32)) 110 (fun _ q => XS.bipush X0.here hx rfl (hb hby dp6m4_108) q) ?_
  refine own_tp (.int (pv.toInt32)) 112 (fun _ q => XS.iload X0.here hx rfl (hb hby dp6m4_110) rfl q) ?_
  refine own_t2 (.int ((48 : Int32) + (pv.toInt32))) 113 (fun _ q => XS.iadd X0.here hx rfl (hb hby dp6m4_112) rfl q) ?_
  refine own_t1 (.int (((48 : Int32) + (pv.toInt32)).toInt8.toInt32)) 114 (fun _ q => XS.i2b X0.here hx rfl (hb hby dp6m4_113) rfl q) ?_
  obtain ⟨cl54, Ar54, q54, S54, Nn54, H54, G54⟩ := (id V1)
  have hin54 : ¬ ((2 : Int32) < 0 ∨ cl54.slots.size ≤ ((2 : Int32)).toNatClampNeg) := inb_of S54 ⟨by decide, by decide⟩
  obtain ⟨T55, h55, X55, e55, W55, st55⟩ := stB X0 hx hZ e0 Ar54 (j := (2 : Int32)) hin54 (g := (mkF m 114 L_53 [(.int (((48 : Int32) + (pv.toInt32)).toInt8.toInt32)), (.int (2 : Int32)), (.ref b1)])) rfl rfl (hb hby dp6m4_114)
  have V55 := Arv.set Ar54 q54 S54 Nn54 H54 G54 (fits_nar_byte _) W55 2 rfl (Nat.le_of_ble_eq_true rfl)
  have N55 := Fr.snoc X55 N0 g1
  have O55 := Old.wr O0 W55 g1
  have K55 : Keep h0 h55 [b1] := (Keep.refl h0 [b1]).wr W55 (Or.inl (List.mem_of_getElem? (i := 0) rfl))
  have Z55 : n0 ≤ h55.size := Nat.le_trans Z0 (Nat.le_of_eq W55.size.symm)
  have V55' : Arv Z h55 b1 k1 .byte (6 : Int32) [w0, w1, (.int (((48 : Int32) + (pv.toInt32)).toInt8.toInt32)), w3, w4, w5] (.int (0 : Int32)) := by have q := V55; first | (rw [own_nb] at q; exact q) | (rw [own_nb2] at q; exact q)
  refine own_cs [] 115 st55 ?_
  exact own_retV X55 hx hrt (hb hby dp6m4_115) hlk (by decide) (by decide) e55 (⟨rfl, N55, K55, V55'⟩)

def Q19 (Z : State) (b1 : Addr) (k1 : ClassId) (w0 w1 w2 w3 w4 w5 : Value) (pv : Int64) (h0 : Heap) (n0 : Nat) (v : Option Value) (h : Heap) (L : List Loc) : Prop := v = none ∧ Fr n0 L ∧ Keep h0 h [b1] ∧ Arv Z h b1 k1 .byte (6 : Int32) [w0, w1, w2, w3, w4, (.int (((48 : Int32) + (pv.toInt32)).toInt8.toInt32))] (.int (0 : Int32))

set_option maxRecDepth 65536 in
set_option maxHeartbeats 40000000 in
theorem rm19 (l : Launch) (Z : State) (a0 : Array Value) (hw : ∀ d ∈ tables_1, d.before a0 Z = true) (ws : List Jvm.Cond) (b1 : Addr) (k1 : ClassId) (w0 w1 w2 w3 w4 w5 : Value) (pv : Int64) (h0 : Heap) (n0 : Nat) (Z0 : n0 ≤ h0.size) (g1 : n0 ≤ b1) (O0 : Old Z n0 h0) (V1 : Arv Z h0 b1 k1 .byte (6 : Int32) [w0, w1, w2, w3, w4, w5] (.int (0 : Int32))) :
    own_Met l (⟨"com/example/unit_step/unitstep/DecimalLayout", "putDigits", "([BIIJ)V"⟩ : MethodName) prog_6_method_4_code 10 none ws own_R_0_0_0_0 Z #[(.ref b1), (.int (5 : Int32)), (.int (1 : Int32)), (.long pv)] h0 (Q19 Z b1 k1 w0 w1 w2 w3 w4 w5 pv h0 n0) := by
  refine own_enter #[.val (.ref b1), .val (.int (5 : Int32)), .val (.int (1 : Int32)), .val (.long pv), .second, .unset, .unset, .unset, .unset, .unset] (plainFor_of_name pn_com_example_unit_step_unitstep_DecimalLayout) (fun m => ef_RIIJ_10 m b1 (5 : Int32) (1 : Int32) pv) ?_
  intro p e s m below meth c s₁ hx hby hml hown hnm hZ hrt hlk X0 e0
  have N0 := Fr.nil n0
  refine own_tp (.long pv) 1 (fun _ q => XS.lloadN X0.here hx rfl (hb hby dp6m4_0) rfl q) ?_
  let L_51 : Array Slot := #[.val (.ref b1), .val (.int (5 : Int32)), .val (.int (1 : Int32)), .val (.long pv), .second, .val (.long pv), .second, .unset, .unset, .unset]
  refine own_ls L_51 3 (fun _ q => XS.lstore X0.here hx rfl (hb hby dp6m4_1) rfl (l' := L_51) rfl q) ?_
  refine own_tp (.int (5 : Int32)) 4 (fun _ q => XS.iloadN X0.here hx rfl (hb hby dp6m4_3) rfl q) ?_
  refine own_tp (.int (1 : Int32)) 5 (fun _ q => XS.iloadN X0.here hx rfl (hb hby dp6m4_4) rfl q) ?_
  refine own_t2 (.int (6 : Int32)) 6 (fun _ q => XS.iadd X0.here hx rfl (hb hby dp6m4_5) rfl q) ?_
  let L_52 : Array Slot := #[.val (.ref b1), .val (.int (5 : Int32)), .val (.int (1 : Int32)), .val (.long pv), .second, .val (.long pv), .second, .val (.int (6 : Int32)), .unset, .unset]
  refine own_ls L_52 8 (fun _ q => XS.istore X0.here hx rfl (hb hby dp6m4_6) rfl (l' := L_52) rfl q) ?_
  refine own_tp (.int (6 : Int32)) 10 (fun _ q => XS.iload X0.here hx rfl (hb hby dp6m4_8) rfl q) ?_
  refine own_tp (.int (5 : Int32)) 11 (fun _ q => XS.iloadN X0.here hx rfl (hb hby dp6m4_10) rfl q) ?_
  refine own_t2 (.int (1 : Int32)) 12 (fun _ q => XS.isub X0.here hx rfl (hb hby dp6m4_11) rfl q) ?_
  refine own_tp (.int (8 : Int32)) 14 (fun _ q => XS.bipush X0.here hx rfl (hb hby dp6m4_12) q) ?_
  refine own_d2 54 (fun _ q => XS.icmpYes X0.here hx rfl (pc0 := 14) (pc' := 54) rfl (hb hby dp6m4_14) rfl (tlt (by decide : (1 : Int32) < (8 : Int32))).1 (by decide) (by decide) q) ?_
  refine own_tp (.long pv) 56 (fun _ q => XS.lload X0.here hx rfl (hb hby dp6m4_54) rfl q) ?_
  refine own_t1 (.int (pv.toInt32)) 57 (fun _ q => XS.l2i X0.here hx rfl (hb hby dp6m4_56) rfl q) ?_
  let L_53 : Array Slot := #[.val (.ref b1), .val (.int (5 : Int32)), .val (.int (1 : Int32)), .val (.long pv), .second, .val (.long pv), .second, .val (.int (6 : Int32)), .val (.int (pv.toInt32)), .unset]
  refine own_ls L_53 59 (fun _ q => XS.istore X0.here hx rfl (hb hby dp6m4_57) rfl (l' := L_53) rfl q) ?_
  refine own_tp (.int (6 : Int32)) 61 (fun _ q => XS.iload X0.here hx rfl (hb hby dp6m4_59) rfl q) ?_
  refine own_tp (.int (5 : Int32)) 62 (fun _ q => XS.iloadN X0.here hx rfl (hb hby dp6m4_61) rfl q) ?_
  refine own_t2 (.int (1 : Int32)) 63 (fun _ q => XS.isub X0.here hx rfl (hb hby dp6m4_62) rfl q) ?_
  refine own_tp (.int (2 : Int32)) 64 (fun _ q => XS.iconst X0.here hx rfl (hb hby dp6m4_63) q) ?_
  refine own_d2 100 (fun _ q => XS.icmpYes X0.here hx rfl (pc0 := 64) (pc' := 100) rfl (hb hby dp6m4_64) rfl (tlt (by decide : (1 : Int32) < (2 : Int32))).1 (by decide) (by decide) q) ?_
  refine own_tp (.int (6 : Int32)) 102 (fun _ q => XS.iload X0.here hx rfl (hb hby dp6m4_100) rfl q) ?_
  refine own_tp (.int (5 : Int32)) 103 (fun _ q => XS.iloadN X0.here hx rfl (hb hby dp6m4_102) rfl q) ?_
  refine own_d2 106 (fun _ q => XS.icmpNo X0.here hx rfl (hb hby dp6m4_103) rfl (tlt (by decide : (5 : Int32) < (6 : Int32))).2.2.2 q) ?_
  refine own_tp (.ref b1) 107 (fun _ q => XS.aloadN X0.here hx rfl (hb hby dp6m4_106) rfl rfl q) ?_
  refine own_tp (.int (5 : Int32)) 108 (fun _ q => XS.iloadN X0.here hx rfl (hb hby dp6m4_107) rfl q) ?_
  refine own_tp (.int (48 : Int32)) 110 (fun _ q => XS.bipush X0.here hx rfl (hb hby dp6m4_108) q) ?_
  refine own_tp (.int (pv.toInt32)) 112 (fun _ q => XS.iload X0.here hx rfl (hb hby dp6m4_110) rfl q) ?_
  refine own_t2 (.int ((48 : Int32) + (pv.toInt32))) 113 (fun _ q => XS.iadd X0.here hx rfl (hb hby dp6m4_112) rfl q) ?_
  refine own_t1 (.int (((48 : Int32) + (pv.toInt32)).toInt8.toInt32)) 114 (fun _ q => XS.i2b X0.here hx rfl (hb hby dp6m4_113) rfl q) ?_
  obtain ⟨cl54, Ar54, q54, S54, Nn54, H54, G54⟩ := (id V1)
  have hin54 : ¬ ((5 : Int32) < 0 ∨ cl54.slots.size ≤ ((5 : Int32)).toNatClampNeg) := inb_of S54 ⟨by decide, by decide⟩
  obtain ⟨T55, h55, X55, e55, W55, st55⟩ := stB X0 hx hZ e0 Ar54 (j := (5 : Int32)) hin54 (g := (mkF m 114 L_53 [(.int (((48 : Int32) + (pv.toInt32)).toInt8.toInt32)), (.int (5 : Int32)), (.ref b1)])) rfl rfl (hb hby dp6m4_114)
  have V55 := Arv.set Ar54 q54 S54 Nn54 H54 G54 (fits_nar_byte _) W55 5 rfl (Nat.le_of_ble_eq_true rfl)
  have N55 := Fr.snoc X55 N0 g1
  have O55 := Old.wr O0 W55 g1
  have K55 : Keep h0 h55 [b1] := (Keep.refl h0 [b1]).wr W55 (Or.inl (List.mem_of_getElem? (i := 0) rfl))
  have Z55 : n0 ≤ h55.size := Nat.le_trans Z0 (Nat.le_of_eq W55.size.symm)
  have V55' : Arv Z h55 b1 k1 .byte (6 : Int32) [w0, w1, w2, w3, w4, (.int (((48 : Int32) + (pv.toInt32)).toInt8.toInt32))] (.int (0 : Int32)) := by have q := V55; first | (rw [own_nb] at q; exact q) | (rw [own_nb2] at q; exact q)
  refine own_cs [] 115 st55 ?_
  exact own_retV X55 hx hrt (hb hby dp6m4_115) hlk (by decide) (by decide) e55 (⟨rfl, N55, K55, V55'⟩)

def Q20  (h0 : Heap) (n0 : Nat) (v : Option Value) (h : Heap) (L : List Loc) : Prop := v = some (.int (0 : Int32)) ∧ Fr n0 L ∧ h = h0

set_option maxRecDepth 65536 in
set_option maxHeartbeats 40000000 in
theorem rm20 (l : Launch) (Z : State) (a0 : Array Value) (hw : ∀ d ∈ tables_1, d.before a0 Z = true) (ws : List Jvm.Cond) (G3 : Value) (h0 : Heap) (n0 : Nat) (rG3 : G3.isRef = true) :
    own_Met l (⟨"jdk/internal/util/Preconditions", "checkFromIndexSize", "(IIILjava/util/function/BiFunction;)I"⟩ : MethodName) jdk_41_method_13_code 4 (some .int) ws own_R_0_0_0_0 Z #[(.int (0 : Int32)), (.int (5 : Int32)), (.int (5 : Int32)), G3] h0 (Q20 h0 n0) := by
  refine own_enter #[.val (.int (0 : Int32)), .val (.int (5 : Int32)), .val (.int (5 : Int32)), .val G3] (plainFor_of_name pn_jdk_internal_util_Preconditions) (fun m => ef_IIIV_4 m (0 : Int32) (5 : Int32) (5 : Int32) G3 rG3) ?_
  intro p e s m below meth c s₁ hx hby hml hown hnm hZ hrt hlk X0 e0
  have N0 := Fr.nil n0
  refine own_tp (.int (5 : Int32)) 1 (fun _ q => XS.iloadN X0.here hx rfl (hb hby dj41m13_0) rfl q) ?_
  refine own_tp (.int (0 : Int32)) 2 (fun _ q => XS.iloadN X0.here hx rfl (hb hby dj41m13_1) rfl q) ?_
  refine own_d1 3 (fun _ q => XS.ior X0.here hx rfl (hb hby dj41m13_2) rfl q) ?_
  refine own_tp (.int (5 : Int32)) 4 (fun _ q => XS.iloadN X0.here hx rfl (hb hby dj41m13_3) rfl q) ?_
  refine own_d1 5 (fun _ q => XS.ior X0.here hx rfl (hb hby dj41m13_4) rfl q) ?_
  refine own_d1 8 (fun _ q => XS.ifNo X0.here hx rfl (hb hby dj41m13_5) rfl ((if0 _ _).trans (flt (by decide : ¬ ((5 : Int32) < (0 : Int32)))).1) q) ?_
  refine own_tp (.int (5 : Int32)) 9 (fun _ q => XS.iloadN X0.here hx rfl (hb hby dj41m13_8) rfl q) ?_
  refine own_tp (.int (5 : Int32)) 10 (fun _ q => XS.iloadN X0.here hx rfl (hb hby dj41m13_9) rfl q) ?_
  refine own_tp (.int (0 : Int32)) 11 (fun _ q => XS.iloadN X0.here hx rfl (hb hby dj41m13_10) rfl q) ?_
  refine own_d1 12 (fun _ q => XS.isub X0.here hx rfl (hb hby dj41m13_11) rfl q) ?_
  refine own_d2 23 (fun _ q => XS.icmpYes X0.here hx rfl (pc0 := 12) (pc' := 23) rfl (hb hby dj41m13_12) rfl (flt (by decide : ¬ ((5 : Int32) < (5 : Int32)))).2.2.2 (by decide) (by decide) q) ?_
  refine own_tp (.int (0 : Int32)) 24 (fun _ q => XS.iloadN X0.here hx rfl (hb hby dj41m13_23) rfl q) ?_
  exact own_retI X0 hx hrt (hb hby dj41m13_24) hlk (by decide) (by decide) e0 (⟨rfl, N0, rfl⟩)

def Q21  (h0 : Heap) (n0 : Nat) (v : Option Value) (h : Heap) (L : List Loc) : Prop := v = some (.int (0 : Int32)) ∧ Fr n0 L ∧ h = h0

set_option maxRecDepth 65536 in
set_option maxHeartbeats 40000000 in
theorem rm21 (l : Launch) (Z : State) (a0 : Array Value) (hw : ∀ d ∈ tables_1, d.before a0 Z = true) (ws : List Jvm.Cond)  (h0 : Heap) (n0 : Nat) (O0 : Old Z n0 h0) (G3 : Value) (rG3 : G3.isRef = true) (Sf : Sta Z Z.heap "jdk/internal/util/Preconditions" "SIOOBE_FORMATTER" "Ljava/util/function/BiFunction;" G3) :
    own_Met l (⟨"java/lang/String", "checkBoundsOffCount", "(III)I"⟩ : MethodName) jdk_42_method_157_code 3 (some .int) ws own_R_1_0_0_15 Z #[(.int (0 : Int32)), (.int (5 : Int32)), (.int (5 : Int32))] h0 (Q21 h0 n0) := by
  refine own_enter #[.val (.int (0 : Int32)), .val (.int (5 : Int32)), .val (.int (5 : Int32))] (plainFor_of_name pn_java_lang_String) (fun m => ef_III_3 m (0 : Int32) (5 : Int32) (5 : Int32)) ?_
  intro p e s m below meth c s₁ hx hby hml hown hnm hZ hrt hlk X0 e0
  have N0 := Fr.nil n0
  refine own_tp (.int (0 : Int32)) 1 (fun _ q => XS.iloadN X0.here hx rfl (hb hby dj42m157_0) rfl q) ?_
  refine own_tp (.int (5 : Int32)) 2 (fun _ q => XS.iloadN X0.here hx rfl (hb hby dj42m157_1) rfl q) ?_
  refine own_tp (.int (5 : Int32)) 3 (fun _ q => XS.iloadN X0.here hx rfl (hb hby dj42m157_2) rfl q) ?_
  obtain ⟨T51, X51, e51, st51⟩ := getS2 X0 hx hZ hown (host := "") (Or.inl (own_w hw 75 rfl)) Via.refl e0 (Sf.ext O0.2) (g := (mkF m 3 #[.val (.int (0 : Int32)), .val (.int (5 : Int32)), .val (.int (5 : Int32))] [(.int (5 : Int32)), (.int (5 : Int32)), (.int (0 : Int32))])) rfl (hb hby dj42m157_3)
  refine own_tp G3 6 st51 ?_
  obtain ⟨_, _, ⟨T52, L52, k52, n52⟩, -, X52, ⟨Lc52, hQ52, l52, y52, z52⟩, st52⟩ := Jvm.LawKit.callS X51 hx (y := (⟨"jdk/internal/util/Preconditions", "checkFromIndexSize", "(IIILjava/util/function/BiFunction;)I"⟩ : MethodName)) hown (mvT hZ (own_w hw 125 rfl)) (mvT hZ (own_w hw 126 rfl)) (mvT hZ (own_w hw 76 rfl)) (mvT hZ (own_w hw 127 rfl)) (by decide) (backOf (W := 0) (rm20 l Z a0 hw [] G3 h0 n0 rG3) hZ (own_w hw 127 rfl) (own_w hw 76 rfl) (by decide) (by decide)) (g := (mkF m 6 #[.val (.int (0 : Int32)), .val (.int (5 : Int32)), .val (.int (5 : Int32))] [G3, (.int (5 : Int32)), (.int (5 : Int32)), (.int (0 : Int32))])) rfl (by rw [hml]; rfl) (argsL := [(.int (0 : Int32)), (.int (5 : Int32)), (.int (5 : Int32)), G3]) (rest := []) (lenOf pd10 rfl) rfl (by show 2 * 0 + _ ≤ _; exact Nat.le_of_eq rfl) (hb hby dj42m157_6) (fun _ _ => ⟨rfl, e51, (by decide : 0 + 0 ≤ _), (by decide : 0 + 0 ≤ _)⟩)
  dsimp only [Pt.U, Pt.locs, Pt.cells, Pt.slots] at X52 l52 y52 z52 st52 hQ52
  subst l52 y52 z52
  obtain ⟨rfl, Nq52, eq52⟩ := hQ52
  have N52 := Fr.app N0 Nq52
  refine own_cs [(.int (0 : Int32))] 9 st52 ?_
  exact own_retI X52 hx hrt (hb hby dj42m157_9) hlk (by decide) (by decide) eq52 (⟨rfl, N52, rfl⟩)

def Q22 (Z : State) (w0 w1 w2 w3 w4 : Value) (h0 : Heap) (n0 : Nat) (v : Option Value) (h : Heap) (L : List Loc) : Prop := ∃ (b : Addr) (k : ClassId), v = some (.ref b) ∧ Fr n0 L ∧ Keep h0 h [] ∧ n0 ≤ b ∧ h0.size ≤ b ∧ Arv Z h b k .byte (5 : Int32) [w0, w1, w2, w3, w4] (.int (0 : Int32))

set_option maxRecDepth 65536 in
set_option maxHeartbeats 40000000 in
theorem rm22 (l : Launch) (Z : State) (a0 : Array Value) (hw : ∀ d ∈ tables_1, d.before a0 Z = true) (ws : List Jvm.Cond) (b1 : Addr) (k1 : ClassId) (w0 w1 w2 w3 w4 : Value) (h0 : Heap) (n0 : Nat) (Z0 : n0 ≤ h0.size) (O0 : Old Z n0 h0) (V1 : Arv Z h0 b1 k1 .byte (5 : Int32) [w0, w1, w2, w3, w4] (.int (0 : Int32))) (EB : Exa Z h0 b1 "[B") :
    own_Met l (⟨"java/util/Arrays", "copyOfRange", "([BII)[B"⟩ : MethodName) jdk_65_method_132_code 3 (some (.array .byte)) ws own_R_1_1_5_14 Z #[(.ref b1), (.int (0 : Int32)), (.int (5 : Int32))] h0 (Q22 Z w0 w1 w2 w3 w4 h0 n0) := by
  refine own_enter #[.val (.ref b1), .val (.int (0 : Int32)), .val (.int (5 : Int32))] (plainFor_of_name pn_java_util_Arrays) (fun m => ef_RII_3 m b1 (0 : Int32) (5 : Int32)) ?_
  intro p e s m below meth c s₁ hx hby hml hown hnm hZ hrt hlk X0 e0
  have N0 := Fr.nil n0
  refine own_tp (.int (0 : Int32)) 1 (fun _ q => XS.iloadN X0.here hx rfl (hb hby dj65m132_0) rfl q) ?_
  refine own_d1 4 (fun _ q => XS.ifNo X0.here hx rfl (hb hby dj65m132_1) rfl ((if0 _ _).trans (teq (by decide : (0 : Int32) = (0 : Int32))).2) q) ?_
  refine own_tp (.int (5 : Int32)) 5 (fun _ q => XS.iloadN X0.here hx rfl (hb hby dj65m132_4) rfl q) ?_
  refine own_tp (.ref b1) 6 (fun _ q => XS.aloadN X0.here hx rfl (hb hby dj65m132_5) rfl rfl q) ?_
  obtain ⟨cl51, Ar51, -, Sz51, Nn51, -, -⟩ := (id V1)
  refine own_t1 (.int (5 : Int32)) 7 (fun t q => X0.arraylength hx (by rw [e0]; exact Ar51.1) (State.isArrayOf_alike hZ.alike Ar51.2.1) (g := (mkF m 6 #[.val (.ref b1), .val (.int (0 : Int32)), .val (.int (5 : Int32))] [(.ref b1), (.int (5 : Int32))])) rfl rfl (hb hby dj65m132_6) _ (by rw [len_of Sz51 Nn51]; exact q)) ?_
  refine own_d2 17 (fun _ q => XS.icmpYes X0.here hx rfl (pc0 := 7) (pc' := 17) rfl (hb hby dj65m132_7) rfl (teq (by decide : (5 : Int32) = (5 : Int32))).1 (by decide) (by decide) q) ?_
  refine own_tp (.ref b1) 18 (fun _ q => XS.aloadN X0.here hx rfl (hb hby dj65m132_17) rfl rfl q) ?_
  obtain ⟨T52, h52, X52, e52, E52, A52, EX52, st52⟩ := cloneH X0 hx hZ hown (own_w hw 132 rfl) (own_w hw 133 rfl) (own_w hw 137 rfl) (own_w hw 135 rfl) (own_w hw 136 rfl) (own_w hw 138 rfl) e0 (Arv.arh V1) EB (g := (mkF m 18 #[.val (.ref b1), .val (.int (0 : Int32)), .val (.int (5 : Int32))] [(.ref b1)])) rfl (by rw [hml]; rfl) rfl (hb hby dj65m132_18) (by decide) (W := 0) (cap := 5) (by show 2 * 0 + _ ≤ _; exact Nat.le_of_eq rfl) (by decide) (by decide) (by decide) (by decide)
  obtain ⟨b52, g52⟩ : ∃ z, z = h0.size := ⟨_, rfl⟩
  rw [← g52] at A52 EX52 st52
  have V52 : Arv Z h52 b52 k1 .byte (5 : Int32) [w0, w1, w2, w3, w4] (.int (0 : Int32)) := A52
  have ge52 : n0 ≤ b52 := Nat.le_trans Z0 (Nat.le_of_eq g52.symm)
  have sz52 : h0.size ≤ b52 := Nat.le_trans (Keep.refl h0 []).1 (Nat.le_of_eq g52.symm)
  have ne53 : b1 ≠ b52 := Nat.ne_of_lt (Nat.lt_of_lt_of_le V1.lt (Nat.le_of_eq g52.symm))
  have O52 := Old.ext O0 E52
  have K52 : Keep h0 h52 [] := (Keep.refl h0 []).ext E52
  have Z52 : n0 ≤ h52.size := Nat.le_trans Z0 E52.1
  refine own_t1 (.ref b52) 21 st52 ?_
  obtain ⟨T54, X54, e54, st54⟩ := castY X52 hx hZ hown (own_w hw 139 rfl) e52 (Ins.self EX52) (g := (mkF m 21 #[.val (.ref b1), .val (.int (0 : Int32)), .val (.int (5 : Int32))] [(.ref b52)])) rfl rfl (hb hby dj65m132_21)
  refine own_d0 24 st54 ?_
  exact own_retR X54 hx hrt (hb hby dj65m132_24) rfl rfl hlk (by decide) (by decide) e54 (⟨b52, _, rfl, N0, K52, ge52, sz52, V52⟩)

def Q23 (Z : State) (x1 : Addr) (w0 w1 w2 w3 w4 : Value) (h0 : Heap) (n0 : Nat) (v : Option Value) (h : Heap) (L : List Loc) : Prop := v = none ∧ Fr n0 L ∧ Keep h0 h [x1] ∧ ∃ (t : Addr) (k : ClassId), Exa Z h x1 "java/lang/String" ∧ Fld Z h x1 "java/lang/String" "coder" "B" (.int (0 : Int32)) ∧ Fld Z h x1 "java/lang/String" "value" "[B" (.ref t) ∧ Arv Z h t k .byte (5 : Int32) [w0, w1, w2, w3, w4] (.int (0 : Int32))

set_option maxRecDepth 65536 in
set_option maxHeartbeats 40000000 in
theorem rm23 (l : Launch) (Z : State) (a0 : Array Value) (hw : ∀ d ∈ tables_1, d.before a0 Z = true) (ws : List Jvm.Cond) (x1 b1 : Addr) (k1 : ClassId) (w0 w1 w2 w3 w4 : Value) (u1 u2 : Value) (h0 : Heap) (n0 : Nat) (G1 : Int32) (P5 : ¬ G1 = (0 : Int32)) (O0 : Old Z n0 h0) (Sc : Sta Z Z.heap "java/lang/String" "COMPACT_STRINGS" "Z" (.int G1)) (G3 : Value) (rG3 : G3.isRef = true) (Sf : Sta Z Z.heap "jdk/internal/util/Preconditions" "SIOOBE_FORMATTER" "Ljava/util/function/BiFunction;" G3) (Z0 : n0 ≤ h0.size) (g1 : n0 ≤ x1) (hxb : x1 ≠ b1) (V1 : Arv Z h0 b1 k1 .byte (5 : Int32) [w0, w1, w2, w3, w4] (.int (0 : Int32))) (EB : Exa Z h0 b1 "[B") (E1 : Exa Z h0 x1 "java/lang/String") (F1 : Fld Z h0 x1 "java/lang/String" "value" "[B" u1) (F2 : Fld Z h0 x1 "java/lang/String" "coder" "B" u2) :
    own_Met l (⟨"java/lang/String", "<init>", "([BIII)V"⟩ : MethodName) jdk_42_method_7_code 7 none ws own_R_2_1_5_29 Z #[(.ref x1), (.ref b1), (.int (0 : Int32)), (.int (0 : Int32)), (.int (5 : Int32))] h0 (Q23 Z x1 w0 w1 w2 w3 w4 h0 n0) := by
  refine own_enter #[.val (.ref x1), .val (.ref b1), .val (.int (0 : Int32)), .val (.int (0 : Int32)), .val (.int (5 : Int32)), .unset, .unset] (plainFor_of_name pn_java_lang_String) (fun m => ef_RRIII_7 m x1 b1 (0 : Int32) (0 : Int32) (5 : Int32)) ?_
  intro p e s m below meth c s₁ hx hby hml hown hnm hZ hrt hlk X0 e0
  have N0 := Fr.nil n0
  refine own_tp (.ref x1) 1 (fun _ q => XS.aloadN X0.here hx rfl (hb hby dj42m7_0) rfl rfl q) ?_
  obtain ⟨T51, X51, e51, st51⟩ := initO X0 hx hZ hown (own_w hw 37 rfl) (own_w hw 38 rfl) (own_w hw 39 rfl) e0 (g := (mkF m 1 #[.val (.ref x1), .val (.ref b1), .val (.int (0 : Int32)), .val (.int (0 : Int32)), .val (.int (5 : Int32)), .unset, .unset] [(.ref x1)])) rfl (by rw [hml]; rfl) rfl (hb hby dj42m7_1) (by decide) (W := 0) (by show 2 * 0 + _ ≤ _; exact Nat.le_of_eq rfl) (by decide)
  refine own_d1 4 st51 ?_
  refine own_tp (.int (0 : Int32)) 5 (fun _ q => XS.iloadN X51.here hx rfl (hb hby dj42m7_4) rfl q) ?_
  refine own_tp (.int (5 : Int32)) 7 (fun _ q => XS.iload X51.here hx rfl (hb hby dj42m7_5) rfl q) ?_
  refine own_tp (.ref b1) 8 (fun _ q => XS.aloadN X51.here hx rfl (hb hby dj42m7_7) rfl rfl q) ?_
  obtain ⟨cl52, Ar52, -, Sz52, Nn52, -, -⟩ := (id V1)
  refine own_t1 (.int (5 : Int32)) 9 (fun t q => X51.arraylength hx (by rw [e51]; exact Ar52.1) (State.isArrayOf_alike hZ.alike Ar52.2.1) (g := (mkF m 8 #[.val (.ref x1), .val (.ref b1), .val (.int (0 : Int32)), .val (.int (0 : Int32)), .val (.int (5 : Int32)), .unset, .unset] [(.ref b1), (.int (5 : Int32)), (.int (0 : Int32))])) rfl rfl (hb hby dj42m7_8) _ (by rw [len_of Sz52 Nn52]; exact q)) ?_
  obtain ⟨_, _, ⟨T53, L53, k53, n53⟩, -, X53, ⟨Lc53, hQ53, l53, y53, z53⟩, st53⟩ := Jvm.LawKit.callS X51 hx (y := (⟨"java/lang/String", "checkBoundsOffCount", "(III)I"⟩ : MethodName)) hown (mvT hZ (own_w hw 122 rfl)) (mvT hZ (own_w hw 123 rfl)) (mvT hZ (own_w hw 6 rfl)) (mvT hZ (own_w hw 124 rfl)) (by decide) (backOf (W := 0) (rm21 l Z a0 hw [] h0 n0 O0 G3 rG3 Sf) hZ (own_w hw 124 rfl) (own_w hw 6 rfl) (by decide) (by decide)) (g := (mkF m 9 #[.val (.ref x1), .val (.ref b1), .val (.int (0 : Int32)), .val (.int (0 : Int32)), .val (.int (5 : Int32)), .unset, .unset] [(.int (5 : Int32)), (.int (5 : Int32)), (.int (0 : Int32))])) rfl (by rw [hml]; rfl) (argsL := [(.int (0 : Int32)), (.int (5 : Int32)), (.int (5 : Int32))]) (rest := []) (lenOf pd11 rfl) rfl (by show 2 * 0 + _ ≤ _; exact Nat.le_of_eq rfl) (hb hby dj42m7_9) (fun _ _ => ⟨rfl, e51, (by decide : 0 + 0 ≤ _), (by decide : 0 + 0 ≤ _)⟩)
  dsimp only [Pt.U, Pt.locs, Pt.cells, Pt.slots] at X53 l53 y53 z53 st53 hQ53
  subst l53 y53 z53
  obtain ⟨rfl, Nq53, eq53⟩ := hQ53
  have N53 := Fr.app N0 Nq53
  refine own_d2 12 st53 ?_
  refine own_d1 13 (fun _ q => XS.pop X53.here hx rfl (hb hby dj42m7_12) rfl rfl q) ?_
  refine own_tp (.int (5 : Int32)) 15 (fun _ q => XS.iload X53.here hx rfl (hb hby dj42m7_13) rfl q) ?_
  refine own_d1 37 (fun _ q => XS.ifYes X53.here hx rfl (pc0 := 15) (pc' := 37) rfl (hb hby dj42m7_15) rfl ((if0 _ _).trans (feq (by decide : ¬ ((5 : Int32) = (0 : Int32)))).2) (by decide) (by decide) q) ?_
  obtain ⟨T54, X54, e54, st54⟩ := getS2 X53 hx hZ hown (host := "") (Or.inl (own_w hw 52 rfl)) Via.refl eq53 (Sc.ext O0.2) (g := (mkF m 37 #[.val (.ref x1), .val (.ref b1), .val (.int (0 : Int32)), .val (.int (0 : Int32)), .val (.int (5 : Int32)), .unset, .unset] [])) rfl (hb hby dj42m7_37)
  refine own_tp (.int G1) 40 st54 ?_
  refine own_d1 43 (fun _ q => XS.ifNo X54.here hx rfl (hb hby dj42m7_40) rfl ((if0 _ _).trans (feq P5).1) q) ?_
  refine own_tp (.int (0 : Int32)) 44 (fun _ q => XS.iloadN X54.here hx rfl (hb hby dj42m7_43) rfl q) ?_
  refine own_d0 45 (fun _ q => XS.i2b X54.here hx rfl (hb hby dj42m7_44) rfl q) ?_
  refine own_d1 48 (fun _ q => XS.ifNo X54.here hx rfl (hb hby dj42m7_45) rfl ((if0 _ _).trans (teq (by decide : (0 : Int32) = (0 : Int32))).2) q) ?_
  refine own_tp (.ref x1) 49 (fun _ q => XS.aloadN X54.here hx rfl (hb hby dj42m7_48) rfl rfl q) ?_
  refine own_tp (.ref b1) 50 (fun _ q => XS.aloadN X54.here hx rfl (hb hby dj42m7_49) rfl rfl q) ?_
  refine own_tp (.int (0 : Int32)) 51 (fun _ q => XS.iloadN X54.here hx rfl (hb hby dj42m7_50) rfl q) ?_
  refine own_tp (.int (0 : Int32)) 52 (fun _ q => XS.iloadN X54.here hx rfl (hb hby dj42m7_51) rfl q) ?_
  refine own_tp (.int (5 : Int32)) 54 (fun _ q => XS.iload X54.here hx rfl (hb hby dj42m7_52) rfl q) ?_
  refine own_t2 (.int (5 : Int32)) 55 (fun _ q => XS.iadd X54.here hx rfl (hb hby dj42m7_54) rfl q) ?_
  obtain ⟨_, _, ⟨T55, L55, k55, n55⟩, -, X55, ⟨Lc55, hQ55, l55, y55, z55⟩, st55⟩ := Jvm.LawKit.callS X54 hx (y := (⟨"java/util/Arrays", "copyOfRange", "([BII)[B"⟩ : MethodName)) hown (mvT hZ (own_w hw 128 rfl)) (mvT hZ (own_w hw 129 rfl)) (mvT hZ (own_w hw 130 rfl)) (mvT hZ (own_w hw 131 rfl)) (by decide) (backOf (W := 1) (rm22 l Z a0 hw [] b1 k1 w0 w1 w2 w3 w4 h0 n0 Z0 O0 V1 EB) hZ (own_w hw 131 rfl) (own_w hw 130 rfl) (by decide) (by decide)) (g := (mkF m 55 #[.val (.ref x1), .val (.ref b1), .val (.int (0 : Int32)), .val (.int (0 : Int32)), .val (.int (5 : Int32)), .unset, .unset] [(.int (5 : Int32)), (.int (0 : Int32)), (.ref b1), (.ref x1)])) rfl (by rw [hml]; rfl) (argsL := [(.ref b1), (.int (0 : Int32)), (.int (5 : Int32))]) (rest := [(.ref x1)]) (lenOf pd12 rfl) rfl (by show 2 * 0 + _ ≤ _; exact Nat.le_of_eq rfl) (hb hby dj42m7_55) (fun _ _ => ⟨rfl, e54, (by decide : 0 + 1 ≤ _), (by decide : 0 + 5 ≤ _)⟩)
  dsimp only [Pt.U, Pt.locs, Pt.cells, Pt.slots] at X55 l55 y55 z55 st55 hQ55
  subst l55 y55 z55
  obtain ⟨cb55, kc55, rfl, Nq55, Kp55, ge55, sz55, V55⟩ := hQ55
  have ne56 : b1 ≠ cb55 := Nat.ne_of_lt (Nat.lt_of_lt_of_le V1.lt sz55)
  have ne57 : x1 ≠ cb55 := Nat.ne_of_lt (Nat.lt_of_lt_of_le E1.lt sz55)
  have s0cb55 : h0.size ≤ cb55 := Nat.le_trans (Keep.refl h0 [x1]).1 sz55
  have N55 := Fr.app N53 Nq55
  have O55 := Old.keep O0 Kp55 all0
  have Z55 : n0 ≤ T55.heap.size := Nat.le_trans Z0 Kp55.1
  have K55 : Keep h0 T55.heap [x1] := Keep.trans (Keep.refl h0 [x1]) Kp55 all0
  refine own_cs [(.ref cb55), (.ref x1)] 58 st55 ?_
  have f58 := (F1.keep Kp55 nin0)
  have f59 := (E1.keep Kp55)
  obtain ⟨T60, h60, X60, e60, W60, st60⟩ := putF X55 hx hZ hown (host := "") (Or.inl (own_w hw 40 rfl)) Via.refl rfl f58 f59 (Or.inr ⟨(own_w hw 9 rfl), rfl, hnm⟩) (own_w hw 7 rfl) (ty := (.array .byte)) (by decide) rfl rfl (g := (mkF m 58 #[.val (.ref x1), .val (.ref b1), .val (.int (0 : Int32)), .val (.int (0 : Int32)), .val (.int (5 : Int32)), .unset, .unset] [(.ref cb55), (.ref x1)])) rfl rfl (hb hby dj42m7_58)
  have Fw60 := f58.same W60
  have N60 := Fr.snoc X60 N55 g1
  have O60 := Old.wr O55 W60 g1
  have K60 : Keep h0 h60 [x1] := K55.wr W60 (Or.inl (List.mem_of_getElem? (i := 0) rfl))
  have Z60 : n0 ≤ h60.size := Nat.le_trans Z55 (Nat.le_of_eq W60.size.symm)
  refine own_d2 61 st60 ?_
  refine own_tp (.ref x1) 62 (fun _ q => XS.aloadN X60.here hx rfl (hb hby dj42m7_61) rfl rfl q) ?_
  refine own_tp (.int (0 : Int32)) 63 (fun _ q => XS.iconst X60.here hx rfl (hb hby dj42m7_62) q) ?_
  have f61 := ((F2.keep Kp55 nin0).other W60 (Or.inr (slot_ne (Or.inr (own_w hw 10 rfl)) (Or.inr (own_w hw 9 rfl)) (by decide) (t := .byte) (t' := (.array .byte)) (by decide) (by decide))))
  have f62 := (f59.wr W60)
  obtain ⟨T63, h63, X63, e63, W63, st63⟩ := putFN X60 hx hZ hown (own_w hw 41 rfl) Via.refl e60 f61 f62 (Or.inr ⟨(own_w hw 10 rfl), rfl, hnm⟩) (own_w hw 7 rfl) (ty := .byte) (v' := (.int (0 : Int32))) (by decide) rfl rfl (g := (mkF m 63 #[.val (.ref x1), .val (.ref b1), .val (.int (0 : Int32)), .val (.int (0 : Int32)), .val (.int (5 : Int32)), .unset, .unset] [(.int (0 : Int32)), (.ref x1)])) rfl rfl (hb hby dj42m7_63)
  have Fw63 := f61.same W63
  have N63 := Fr.snoc X63 N60 g1
  have O63 := Old.wr O60 W63 g1
  have K63 : Keep h0 h63 [x1] := K60.wr W63 (Or.inl (List.mem_of_getElem? (i := 0) rfl))
  have Z63 : n0 ≤ h63.size := Nat.le_trans Z60 (Nat.le_of_eq W63.size.symm)
  refine own_d2 66 st63 ?_
  refine own_d0 127 (fun _ q => XS.goto X63.here hx rfl (pc0 := 66) (pc' := 127) rfl (hb hby dj42m7_66) (by decide) (by decide) q) ?_
  have f64 := (f62.wr W63)
  have f65 := (Fw60.other W63 (Or.inr (slot_ne (Or.inr (own_w hw 9 rfl)) (Or.inr (own_w hw 10 rfl)) (by decide) (t := (.array .byte)) (t' := .byte) (by decide) (by decide))))
  have f66 := ((V55.other W60 (Ne.symm ne57)).other W63 (Ne.symm ne57))
  exact own_retV X63 hx hrt (hb hby dj42m7_127) hlk (by decide) (by decide) e63 (⟨rfl, N63, K63, cb55, _, f64, Fw63, f65, f66⟩)

set_option maxRecDepth 65536 in
set_option maxHeartbeats 40000000 in
theorem rm24 (l : Launch) (Z : State) (a0 : Array Value) (hw : ∀ d ∈ tables_1, d.before a0 Z = true) (ws : List Jvm.Cond) (b1 : Addr) (k1 : ClassId) (w0 w1 w2 w3 w4 : Value) (h0 : Heap) (n0 : Nat) (G1 : Int32) (P5 : ¬ G1 = (0 : Int32)) (O0 : Old Z n0 h0) (Sc : Sta Z Z.heap "java/lang/String" "COMPACT_STRINGS" "Z" (.int G1)) (G3 : Value) (rG3 : G3.isRef = true) (Sf : Sta Z Z.heap "jdk/internal/util/Preconditions" "SIOOBE_FORMATTER" "Ljava/util/function/BiFunction;" G3) (Z0 : n0 ≤ h0.size) (V1 : Arv Z h0 b1 k1 .byte (5 : Int32) [w0, w1, w2, w3, w4] (.int (0 : Int32))) (EB : Exa Z h0 b1 "[B") :
    own_Met l (⟨"com/example/unit_step/unitstep/DecimalLayout", "toText", "([B)Ljava/lang/String;"⟩ : MethodName) prog_6_method_5_code 1 (some (.object "java/lang/String")) ws own_R_3_2_9_48 Z #[(.ref b1)] h0 (own_RS Z (5 : Int32) [w0, w1, w2, w3, w4] h0 n0) := by
  refine own_enter #[.val (.ref b1)] (plainFor_of_name pn_com_example_unit_step_unitstep_DecimalLayout) (fun m => ef_R_1 m b1) ?_
  intro p e s m below meth c s₁ hx hby hml hown hnm hZ hrt hlk X0 e0
  have N0 := Fr.nil n0
  obtain ⟨T51, h51, X51, e51, E51, A51, D51, -, st51⟩ := newO X0 hx hZ hown (own_w hw 118 rfl) (own_w hw 7 rfl) (own_w hw 6 rfl) e0 (g := (mkF m 0 #[.val (.ref b1)] [])) rfl (hb hby dp6m5_0) (by decide) (by decide)
  obtain ⟨b51, g51⟩ : ∃ z, z = h0.size := ⟨_, rfl⟩
  rw [← g51] at A51 D51 st51
  have ge51 : n0 ≤ b51 := Nat.le_trans Z0 (Nat.le_of_eq g51.symm)
  have sz51 : h0.size ≤ b51 := Nat.le_trans (Keep.refl h0 []).1 (Nat.le_of_eq g51.symm)
  have ne52 : b1 ≠ b51 := Nat.ne_of_lt (Nat.lt_of_lt_of_le V1.lt (Nat.le_of_eq g51.symm))
  have O51 := Old.ext O0 E51
  have K51 : Keep h0 h51 [] := (Keep.refl h0 []).ext E51
  have Z51 : n0 ≤ h51.size := Nat.le_trans Z0 E51.1
  have Fvalue_51 : Fld Z h51 b51 "java/lang/String" "value" "[B" .null := D51 (Or.inr (own_w hw 9 rfl)) (ty := (.array .byte)) (by decide)
  have Fcoder_51 : Fld Z h51 b51 "java/lang/String" "coder" "B" (.int (0 : Int32)) := D51 (Or.inr (own_w hw 10 rfl)) (ty := .byte) (by decide)
  refine own_tp (.ref b51) 3 st51 ?_
  refine own_tp (.ref b51) 4 (fun _ q => XS.dup X51.here hx rfl (hb hby dp6m5_3) rfl rfl q) ?_
  refine own_tp (.ref b1) 5 (fun _ q => XS.aloadN X51.here hx rfl (hb hby dp6m5_4) rfl rfl q) ?_
  refine own_tp (.int (0 : Int32)) 6 (fun _ q => XS.iconst X51.here hx rfl (hb hby dp6m5_5) q) ?_
  refine own_tp (.int (0 : Int32)) 7 (fun _ q => XS.iconst X51.here hx rfl (hb hby dp6m5_6) q) ?_
  refine own_tp (.ref b1) 8 (fun _ q => XS.aloadN X51.here hx rfl (hb hby dp6m5_7) rfl rfl q) ?_
  have f53 := (V1.ext E51)
  obtain ⟨cl54, Ar54, -, Sz54, Nn54, -, -⟩ := (id f53)
  refine own_t1 (.int (5 : Int32)) 9 (fun t q => X51.arraylength hx (by rw [e51]; exact Ar54.1) (State.isArrayOf_alike hZ.alike Ar54.2.1) (g := (mkF m 8 #[.val (.ref b1)] [(.ref b1), (.int (0 : Int32)), (.int (0 : Int32)), (.ref b1), (.ref b51), (.ref b51)])) rfl rfl (hb hby dp6m5_8) _ (by rw [len_of Sz54 Nn54]; exact q)) ?_
  have f55 := (EB.ext E51)
  obtain ⟨_, _, ⟨T56, L56, k56, n56⟩, -, X56, ⟨Lc56, hQ56, l56, y56, z56⟩, st56⟩ := X51.specialBack hx (y := (⟨"java/lang/String", "<init>", "([BIII)V"⟩ : MethodName)) rfl hown (mvT hZ (own_w hw 119 rfl)) (mvT hZ (own_w hw 120 rfl)) (mvT hZ (own_w hw 121 rfl)) (by decide) (backOf (W := 1) (rm23 l Z a0 hw [] b51 b1 k1 w0 w1 w2 w3 w4 _ _ h51 n0 G1 P5 O51 Sc G3 rG3 Sf Z51 ge51 (Ne.symm ne52) f53 f55 A51 Fvalue_51 Fcoder_51) hZ (own_w hw 121 rfl) (own_w hw 6 rfl) (by decide) (by decide)) (g := (mkF m 9 #[.val (.ref b1)] [(.int (5 : Int32)), (.int (0 : Int32)), (.int (0 : Int32)), (.ref b1), (.ref b51), (.ref b51)])) rfl (by rw [hml]; rfl) (Steps.refl _) (a := b51) (argsL := [(.ref b1), (.int (0 : Int32)), (.int (0 : Int32)), (.int (5 : Int32))]) (rest := [(.ref b51)]) (lenOf pd13 rfl) rfl (by show 2 * 0 + _ ≤ _; exact Nat.le_of_eq rfl) (hb hby dp6m5_9) (fun _ _ => ⟨rfl, e51, (by decide : 1 + 1 ≤ _), (by decide : 4 + 5 ≤ _)⟩)
  dsimp only [Pt.U, Pt.locs, Pt.cells, Pt.slots] at X56 l56 y56 z56 st56 hQ56
  subst l56 y56 z56
  obtain ⟨rfl, Nq56, Kp56, t56, kt56, A56, Cd56, Vl56, V56⟩ := hQ56
  have N56 := Fr.app N0 Nq56
  have O56 := Old.keep O51 Kp56 (allS ge51 all0)
  have Z56 : n0 ≤ T56.heap.size := Nat.le_trans Z51 Kp56.1
  have K56 : Keep h0 T56.heap [] := Keep.trans K51 Kp56 (allS (Or.inr sz51) all0)
  refine own_csR [(.ref b51)] 12 st56 ?_
  exact own_retR X56 hx hrt (hb hby dp6m5_12) rfl rfl hlk (by decide) (by decide) rfl (⟨b51, t56, _, rfl, N56, K56, A56, Cd56, Vl56, V56⟩)

def Q25  (h0 : Heap) (n0 : Nat) (v : Option Value) (h : Heap) (L : List Loc) : Prop := v = some (.int (0 : Int32)) ∧ Fr n0 L ∧ h = h0

set_option maxRecDepth 65536 in
set_option maxHeartbeats 40000000 in
theorem rm25 (l : Launch) (Z : State) (a0 : Array Value) (hw : ∀ d ∈ tables_1, d.before a0 Z = true) (ws : List Jvm.Cond) (G3 : Value) (h0 : Heap) (n0 : Nat) (rG3 : G3.isRef = true) :
    own_Met l (⟨"jdk/internal/util/Preconditions", "checkFromIndexSize", "(IIILjava/util/function/BiFunction;)I"⟩ : MethodName) jdk_41_method_13_code 4 (some .int) ws own_R_0_0_0_0 Z #[(.int (0 : Int32)), (.int (6 : Int32)), (.int (6 : Int32)), G3] h0 (Q25 h0 n0) := by
  refine own_enter #[.val (.int (0 : Int32)), .val (.int (6 : Int32)), .val (.int (6 : Int32)), .val G3] (plainFor_of_name pn_jdk_internal_util_Preconditions) (fun m => ef_IIIV_4 m (0 : Int32) (6 : Int32) (6 : Int32) G3 rG3) ?_
  intro p e s m below meth c s₁ hx hby hml hown hnm hZ hrt hlk X0 e0
  have N0 := Fr.nil n0
  refine own_tp (.int (6 : Int32)) 1 (fun _ q => XS.iloadN X0.here hx rfl (hb hby dj41m13_0) rfl q) ?_
  refine own_tp (.int (0 : Int32)) 2 (fun _ q => XS.iloadN X0.here hx rfl (hb hby dj41m13_1) rfl q) ?_
  refine own_d1 3 (fun _ q => XS.ior X0.here hx rfl (hb hby dj41m13_2) rfl q) ?_
  refine own_tp (.int (6 : Int32)) 4 (fun _ q => XS.iloadN X0.here hx rfl (hb hby dj41m13_3) rfl q) ?_
  refine own_d1 5 (fun _ q => XS.ior X0.here hx rfl (hb hby dj41m13_4) rfl q) ?_
  refine own_d1 8 (fun _ q => XS.ifNo X0.here hx rfl (hb hby dj41m13_5) rfl ((if0 _ _).trans (flt (by decide : ¬ ((6 : Int32) < (0 : Int32)))).1) q) ?_
  refine own_tp (.int (6 : Int32)) 9 (fun _ q => XS.iloadN X0.here hx rfl (hb hby dj41m13_8) rfl q) ?_
  refine own_tp (.int (6 : Int32)) 10 (fun _ q => XS.iloadN X0.here hx rfl (hb hby dj41m13_9) rfl q) ?_
  refine own_tp (.int (0 : Int32)) 11 (fun _ q => XS.iloadN X0.here hx rfl (hb hby dj41m13_10) rfl q) ?_
  refine own_d1 12 (fun _ q => XS.isub X0.here hx rfl (hb hby dj41m13_11) rfl q) ?_
  refine own_d2 23 (fun _ q => XS.icmpYes X0.here hx rfl (pc0 := 12) (pc' := 23) rfl (hb hby dj41m13_12) rfl (flt (by decide : ¬ ((6 : Int32) < (6 : Int32)))).2.2.2 (by decide) (by decide) q) ?_
  refine own_tp (.int (0 : Int32)) 24 (fun _ q => XS.iloadN X0.here hx rfl (hb hby dj41m13_23) rfl q) ?_
  exact own_retI X0 hx hrt (hb hby dj41m13_24) hlk (by decide) (by decide) e0 (⟨rfl, N0, rfl⟩)

def Q26  (h0 : Heap) (n0 : Nat) (v : Option Value) (h : Heap) (L : List Loc) : Prop := v = some (.int (0 : Int32)) ∧ Fr n0 L ∧ h = h0

set_option maxRecDepth 65536 in
set_option maxHeartbeats 40000000 in
theorem rm26 (l : Launch) (Z : State) (a0 : Array Value) (hw : ∀ d ∈ tables_1, d.before a0 Z = true) (ws : List Jvm.Cond)  (h0 : Heap) (n0 : Nat) (O0 : Old Z n0 h0) (G3 : Value) (rG3 : G3.isRef = true) (Sf : Sta Z Z.heap "jdk/internal/util/Preconditions" "SIOOBE_FORMATTER" "Ljava/util/function/BiFunction;" G3) :
    own_Met l (⟨"java/lang/String", "checkBoundsOffCount", "(III)I"⟩ : MethodName) jdk_42_method_157_code 3 (some .int) ws own_R_1_0_0_15 Z #[(.int (0 : Int32)), (.int (6 : Int32)), (.int (6 : Int32))] h0 (Q26 h0 n0) := by
  refine own_enter #[.val (.int (0 : Int32)), .val (.int (6 : Int32)), .val (.int (6 : Int32))] (plainFor_of_name pn_java_lang_String) (fun m => ef_III_3 m (0 : Int32) (6 : Int32) (6 : Int32)) ?_
  intro p e s m below meth c s₁ hx hby hml hown hnm hZ hrt hlk X0 e0
  have N0 := Fr.nil n0
  refine own_tp (.int (0 : Int32)) 1 (fun _ q => XS.iloadN X0.here hx rfl (hb hby dj42m157_0) rfl q) ?_
  refine own_tp (.int (6 : Int32)) 2 (fun _ q => XS.iloadN X0.here hx rfl (hb hby dj42m157_1) rfl q) ?_
  refine own_tp (.int (6 : Int32)) 3 (fun _ q => XS.iloadN X0.here hx rfl (hb hby dj42m157_2) rfl q) ?_
  obtain ⟨T51, X51, e51, st51⟩ := getS2 X0 hx hZ hown (host := "") (Or.inl (own_w hw 75 rfl)) Via.refl e0 (Sf.ext O0.2) (g := (mkF m 3 #[.val (.int (0 : Int32)), .val (.int (6 : Int32)), .val (.int (6 : Int32))] [(.int (6 : Int32)), (.int (6 : Int32)), (.int (0 : Int32))])) rfl (hb hby dj42m157_3)
  refine own_tp G3 6 st51 ?_
  obtain ⟨_, _, ⟨T52, L52, k52, n52⟩, -, X52, ⟨Lc52, hQ52, l52, y52, z52⟩, st52⟩ := Jvm.LawKit.callS X51 hx (y := (⟨"jdk/internal/util/Preconditions", "checkFromIndexSize", "(IIILjava/util/function/BiFunction;)I"⟩ : MethodName)) hown (mvT hZ (own_w hw 125 rfl)) (mvT hZ (own_w hw 126 rfl)) (mvT hZ (own_w hw 76 rfl)) (mvT hZ (own_w hw 127 rfl)) (by decide) (backOf (W := 0) (rm25 l Z a0 hw [] G3 h0 n0 rG3) hZ (own_w hw 127 rfl) (own_w hw 76 rfl) (by decide) (by decide)) (g := (mkF m 6 #[.val (.int (0 : Int32)), .val (.int (6 : Int32)), .val (.int (6 : Int32))] [G3, (.int (6 : Int32)), (.int (6 : Int32)), (.int (0 : Int32))])) rfl (by rw [hml]; rfl) (argsL := [(.int (0 : Int32)), (.int (6 : Int32)), (.int (6 : Int32)), G3]) (rest := []) (lenOf pd10 rfl) rfl (by show 2 * 0 + _ ≤ _; exact Nat.le_of_eq rfl) (hb hby dj42m157_6) (fun _ _ => ⟨rfl, e51, (by decide : 0 + 0 ≤ _), (by decide : 0 + 0 ≤ _)⟩)
  dsimp only [Pt.U, Pt.locs, Pt.cells, Pt.slots] at X52 l52 y52 z52 st52 hQ52
  subst l52 y52 z52
  obtain ⟨rfl, Nq52, eq52⟩ := hQ52
  have N52 := Fr.app N0 Nq52
  refine own_cs [(.int (0 : Int32))] 9 st52 ?_
  exact own_retI X52 hx hrt (hb hby dj42m157_9) hlk (by decide) (by decide) eq52 (⟨rfl, N52, rfl⟩)

def Q27 (Z : State) (w0 w1 w2 w3 w4 w5 : Value) (h0 : Heap) (n0 : Nat) (v : Option Value) (h : Heap) (L : List Loc) : Prop := ∃ (b : Addr) (k : ClassId), v = some (.ref b) ∧ Fr n0 L ∧ Keep h0 h [] ∧ n0 ≤ b ∧ h0.size ≤ b ∧ Arv Z h b k .byte (6 : Int32) [w0, w1, w2, w3, w4, w5] (.int (0 : Int32))

set_option maxRecDepth 65536 in
set_option maxHeartbeats 40000000 in
theorem rm27 (l : Launch) (Z : State) (a0 : Array Value) (hw : ∀ d ∈ tables_1, d.before a0 Z = true) (ws : List Jvm.Cond) (b1 : Addr) (k1 : ClassId) (w0 w1 w2 w3 w4 w5 : Value) (h0 : Heap) (n0 : Nat) (Z0 : n0 ≤ h0.size) (O0 : Old Z n0 h0) (V1 : Arv Z h0 b1 k1 .byte (6 : Int32) [w0, w1, w2, w3, w4, w5] (.int (0 : Int32))) (EB : Exa Z h0 b1 "[B") :
    own_Met l (⟨"java/util/Arrays", "copyOfRange", "([BII)[B"⟩ : MethodName) jdk_65_method_132_code 3 (some (.array .byte)) ws own_R_1_1_6_14 Z #[(.ref b1), (.int (0 : Int32)), (.int (6 : Int32))] h0 (Q27 Z w0 w1 w2 w3 w4 w5 h0 n0) := by
  refine own_enter #[.val (.ref b1), .val (.int (0 : Int32)), .val (.int (6 : Int32))] (plainFor_of_name pn_java_util_Arrays) (fun m => ef_RII_3 m b1 (0 : Int32) (6 : Int32)) ?_
  intro p e s m below meth c s₁ hx hby hml hown hnm hZ hrt hlk X0 e0
  have N0 := Fr.nil n0
  refine own_tp (.int (0 : Int32)) 1 (fun _ q => XS.iloadN X0.here hx rfl (hb hby dj65m132_0) rfl q) ?_
  refine own_d1 4 (fun _ q => XS.ifNo X0.here hx rfl (hb hby dj65m132_1) rfl ((if0 _ _).trans (teq (by decide : (0 : Int32) = (0 : Int32))).2) q) ?_
  refine own_tp (.int (6 : Int32)) 5 (fun _ q => XS.iloadN X0.here hx rfl (hb hby dj65m132_4) rfl q) ?_
  refine own_tp (.ref b1) 6 (fun _ q => XS.aloadN X0.here hx rfl (hb hby dj65m132_5) rfl rfl q) ?_
  obtain ⟨cl51, Ar51, -, Sz51, Nn51, -, -⟩ := (id V1)
  refine own_t1 (.int (6 : Int32)) 7 (fun t q => X0.arraylength hx (by rw [e0]; exact Ar51.1) (State.isArrayOf_alike hZ.alike Ar51.2.1) (g := (mkF m 6 #[.val (.ref b1), .val (.int (0 : Int32)), .val (.int (6 : Int32))] [(.ref b1), (.int (6 : Int32))])) rfl rfl (hb hby dj65m132_6) _ (by rw [len_of Sz51 Nn51]; exact q)) ?_
  refine own_d2 17 (fun _ q => XS.icmpYes X0.here hx rfl (pc0 := 7) (pc' := 17) rfl (hb hby dj65m132_7) rfl (teq (by decide : (6 : Int32) = (6 : Int32))).1 (by decide) (by decide) q) ?_
  refine own_tp (.ref b1) 18 (fun _ q => XS.aloadN X0.here hx rfl (hb hby dj65m132_17) rfl rfl q) ?_
  obtain ⟨T52, h52, X52, e52, E52, A52, EX52, st52⟩ := cloneH X0 hx hZ hown (own_w hw 132 rfl) (own_w hw 133 rfl) (own_w hw 137 rfl) (own_w hw 135 rfl) (own_w hw 136 rfl) (own_w hw 138 rfl) e0 (Arv.arh V1) EB (g := (mkF m 18 #[.val (.ref b1), .val (.int (0 : Int32)), .val (.int (6 : Int32))] [(.ref b1)])) rfl (by rw [hml]; rfl) rfl (hb hby dj65m132_18) (by decide) (W := 0) (cap := 6) (by show 2 * 0 + _ ≤ _; exact Nat.le_of_eq rfl) (by decide) (by decide) (by decide) (by decide)
  obtain ⟨b52, g52⟩ : ∃ z, z = h0.size := ⟨_, rfl⟩
  rw [← g52] at A52 EX52 st52
  have V52 : Arv Z h52 b52 k1 .byte (6 : Int32) [w0, w1, w2, w3, w4, w5] (.int (0 : Int32)) := A52
  have ge52 : n0 ≤ b52 := Nat.le_trans Z0 (Nat.le_of_eq g52.symm)
  have sz52 : h0.size ≤ b52 := Nat.le_trans (Keep.refl h0 []).1 (Nat.le_of_eq g52.symm)
  have ne53 : b1 ≠ b52 := Nat.ne_of_lt (Nat.lt_of_lt_of_le V1.lt (Nat.le_of_eq g52.symm))
  have O52 := Old.ext O0 E52
  have K52 : Keep h0 h52 [] := (Keep.refl h0 []).ext E52
  have Z52 : n0 ≤ h52.size := Nat.le_trans Z0 E52.1
  refine own_t1 (.ref b52) 21 st52 ?_
  obtain ⟨T54, X54, e54, st54⟩ := castY X52 hx hZ hown (own_w hw 139 rfl) e52 (Ins.self EX52) (g := (mkF m 21 #[.val (.ref b1), .val (.int (0 : Int32)), .val (.int (6 : Int32))] [(.ref b52)])) rfl rfl (hb hby dj65m132_21)
  refine own_d0 24 st54 ?_
  exact own_retR X54 hx hrt (hb hby dj65m132_24) rfl rfl hlk (by decide) (by decide) e54 (⟨b52, _, rfl, N0, K52, ge52, sz52, V52⟩)

def Q28 (Z : State) (x1 : Addr) (w0 w1 w2 w3 w4 w5 : Value) (h0 : Heap) (n0 : Nat) (v : Option Value) (h : Heap) (L : List Loc) : Prop := v = none ∧ Fr n0 L ∧ Keep h0 h [x1] ∧ ∃ (t : Addr) (k : ClassId), Exa Z h x1 "java/lang/String" ∧ Fld Z h x1 "java/lang/String" "coder" "B" (.int (0 : Int32)) ∧ Fld Z h x1 "java/lang/String" "value" "[B" (.ref t) ∧ Arv Z h t k .byte (6 : Int32) [w0, w1, w2, w3, w4, w5] (.int (0 : Int32))

set_option maxRecDepth 65536 in
set_option maxHeartbeats 40000000 in
theorem rm28 (l : Launch) (Z : State) (a0 : Array Value) (hw : ∀ d ∈ tables_1, d.before a0 Z = true) (ws : List Jvm.Cond) (x1 b1 : Addr) (k1 : ClassId) (w0 w1 w2 w3 w4 w5 : Value) (u1 u2 : Value) (h0 : Heap) (n0 : Nat) (G1 : Int32) (P5 : ¬ G1 = (0 : Int32)) (O0 : Old Z n0 h0) (Sc : Sta Z Z.heap "java/lang/String" "COMPACT_STRINGS" "Z" (.int G1)) (G3 : Value) (rG3 : G3.isRef = true) (Sf : Sta Z Z.heap "jdk/internal/util/Preconditions" "SIOOBE_FORMATTER" "Ljava/util/function/BiFunction;" G3) (Z0 : n0 ≤ h0.size) (g1 : n0 ≤ x1) (hxb : x1 ≠ b1) (V1 : Arv Z h0 b1 k1 .byte (6 : Int32) [w0, w1, w2, w3, w4, w5] (.int (0 : Int32))) (EB : Exa Z h0 b1 "[B") (E1 : Exa Z h0 x1 "java/lang/String") (F1 : Fld Z h0 x1 "java/lang/String" "value" "[B" u1) (F2 : Fld Z h0 x1 "java/lang/String" "coder" "B" u2) :
    own_Met l (⟨"java/lang/String", "<init>", "([BIII)V"⟩ : MethodName) jdk_42_method_7_code 7 none ws own_R_2_1_6_29 Z #[(.ref x1), (.ref b1), (.int (0 : Int32)), (.int (0 : Int32)), (.int (6 : Int32))] h0 (Q28 Z x1 w0 w1 w2 w3 w4 w5 h0 n0) := by
  refine own_enter #[.val (.ref x1), .val (.ref b1), .val (.int (0 : Int32)), .val (.int (0 : Int32)), .val (.int (6 : Int32)), .unset, .unset] (plainFor_of_name pn_java_lang_String) (fun m => ef_RRIII_7 m x1 b1 (0 : Int32) (0 : Int32) (6 : Int32)) ?_
  intro p e s m below meth c s₁ hx hby hml hown hnm hZ hrt hlk X0 e0
  have N0 := Fr.nil n0
  refine own_tp (.ref x1) 1 (fun _ q => XS.aloadN X0.here hx rfl (hb hby dj42m7_0) rfl rfl q) ?_
  obtain ⟨T51, X51, e51, st51⟩ := initO X0 hx hZ hown (own_w hw 37 rfl) (own_w hw 38 rfl) (own_w hw 39 rfl) e0 (g := (mkF m 1 #[.val (.ref x1), .val (.ref b1), .val (.int (0 : Int32)), .val (.int (0 : Int32)), .val (.int (6 : Int32)), .unset, .unset] [(.ref x1)])) rfl (by rw [hml]; rfl) rfl (hb hby dj42m7_1) (by decide) (W := 0) (by show 2 * 0 + _ ≤ _; exact Nat.le_of_eq rfl) (by decide)
  refine own_d1 4 st51 ?_
  refine own_tp (.int (0 : Int32)) 5 (fun _ q => XS.iloadN X51.here hx rfl (hb hby dj42m7_4) rfl q) ?_
  refine own_tp (.int (6 : Int32)) 7 (fun _ q => XS.iload X51.here hx rfl (hb hby dj42m7_5) rfl q) ?_
  refine own_tp (.ref b1) 8 (fun _ q => XS.aloadN X51.here hx rfl (hb hby dj42m7_7) rfl rfl q) ?_
  obtain ⟨cl52, Ar52, -, Sz52, Nn52, -, -⟩ := (id V1)
  refine own_t1 (.int (6 : Int32)) 9 (fun t q => X51.arraylength hx (by rw [e51]; exact Ar52.1) (State.isArrayOf_alike hZ.alike Ar52.2.1) (g := (mkF m 8 #[.val (.ref x1), .val (.ref b1), .val (.int (0 : Int32)), .val (.int (0 : Int32)), .val (.int (6 : Int32)), .unset, .unset] [(.ref b1), (.int (6 : Int32)), (.int (0 : Int32))])) rfl rfl (hb hby dj42m7_8) _ (by rw [len_of Sz52 Nn52]; exact q)) ?_
  obtain ⟨_, _, ⟨T53, L53, k53, n53⟩, -, X53, ⟨Lc53, hQ53, l53, y53, z53⟩, st53⟩ := Jvm.LawKit.callS X51 hx (y := (⟨"java/lang/String", "checkBoundsOffCount", "(III)I"⟩ : MethodName)) hown (mvT hZ (own_w hw 122 rfl)) (mvT hZ (own_w hw 123 rfl)) (mvT hZ (own_w hw 6 rfl)) (mvT hZ (own_w hw 124 rfl)) (by decide) (backOf (W := 0) (rm26 l Z a0 hw [] h0 n0 O0 G3 rG3 Sf) hZ (own_w hw 124 rfl) (own_w hw 6 rfl) (by decide) (by decide)) (g := (mkF m 9 #[.val (.ref x1), .val (.ref b1), .val (.int (0 : Int32)), .val (.int (0 : Int32)), .val (.int (6 : Int32)), .unset, .unset] [(.int (6 : Int32)), (.int (6 : Int32)), (.int (0 : Int32))])) rfl (by rw [hml]; rfl) (argsL := [(.int (0 : Int32)), (.int (6 : Int32)), (.int (6 : Int32))]) (rest := []) (lenOf pd11 rfl) rfl (by show 2 * 0 + _ ≤ _; exact Nat.le_of_eq rfl) (hb hby dj42m7_9) (fun _ _ => ⟨rfl, e51, (by decide : 0 + 0 ≤ _), (by decide : 0 + 0 ≤ _)⟩)
  dsimp only [Pt.U, Pt.locs, Pt.cells, Pt.slots] at X53 l53 y53 z53 st53 hQ53
  subst l53 y53 z53
  obtain ⟨rfl, Nq53, eq53⟩ := hQ53
  have N53 := Fr.app N0 Nq53
  refine own_d2 12 st53 ?_
  refine own_d1 13 (fun _ q => XS.pop X53.here hx rfl (hb hby dj42m7_12) rfl rfl q) ?_
  refine own_tp (.int (6 : Int32)) 15 (fun _ q => XS.iload X53.here hx rfl (hb hby dj42m7_13) rfl q) ?_
  refine own_d1 37 (fun _ q => XS.ifYes X53.here hx rfl (pc0 := 15) (pc' := 37) rfl (hb hby dj42m7_15) rfl ((if0 _ _).trans (feq (by decide : ¬ ((6 : Int32) = (0 : Int32)))).2) (by decide) (by decide) q) ?_
  obtain ⟨T54, X54, e54, st54⟩ := getS2 X53 hx hZ hown (host := "") (Or.inl (own_w hw 52 rfl)) Via.refl eq53 (Sc.ext O0.2) (g := (mkF m 37 #[.val (.ref x1), .val (.ref b1), .val (.int (0 : Int32)), .val (.int (0 : Int32)), .val (.int (6 : Int32)), .unset, .unset] [])) rfl (hb hby dj42m7_37)
  refine own_tp (.int G1) 40 st54 ?_
  refine own_d1 43 (fun _ q => XS.ifNo X54.here hx rfl (hb hby dj42m7_40) rfl ((if0 _ _).trans (feq P5).1) q) ?_
  refine own_tp (.int (0 : Int32)) 44 (fun _ q => XS.iloadN X54.here hx rfl (hb hby dj42m7_43) rfl q) ?_
  refine own_d0 45 (fun _ q => XS.i2b X54.here hx rfl (hb hby dj42m7_44) rfl q) ?_
  refine own_d1 48 (fun _ q => XS.ifNo X54.here hx rfl (hb hby dj42m7_45) rfl ((if0 _ _).trans (teq (by decide : (0 : Int32) = (0 : Int32))).2) q) ?_
  refine own_tp (.ref x1) 49 (fun _ q => XS.aloadN X54.here hx rfl (hb hby dj42m7_48) rfl rfl q) ?_
  refine own_tp (.ref b1) 50 (fun _ q => XS.aloadN X54.here hx rfl (hb hby dj42m7_49) rfl rfl q) ?_
  refine own_tp (.int (0 : Int32)) 51 (fun _ q => XS.iloadN X54.here hx rfl (hb hby dj42m7_50) rfl q) ?_
  refine own_tp (.int (0 : Int32)) 52 (fun _ q => XS.iloadN X54.here hx rfl (hb hby dj42m7_51) rfl q) ?_
  refine own_tp (.int (6 : Int32)) 54 (fun _ q => XS.iload X54.here hx rfl (hb hby dj42m7_52) rfl q) ?_
  refine own_t2 (.int (6 : Int32)) 55 (fun _ q => XS.iadd X54.here hx rfl (hb hby dj42m7_54) rfl q) ?_
  obtain ⟨_, _, ⟨T55, L55, k55, n55⟩, -, X55, ⟨Lc55, hQ55, l55, y55, z55⟩, st55⟩ := Jvm.LawKit.callS X54 hx (y := (⟨"java/util/Arrays", "copyOfRange", "([BII)[B"⟩ : MethodName)) hown (mvT hZ (own_w hw 128 rfl)) (mvT hZ (own_w hw 129 rfl)) (mvT hZ (own_w hw 130 rfl)) (mvT hZ (own_w hw 131 rfl)) (by decide) (backOf (W := 1) (rm27 l Z a0 hw [] b1 k1 w0 w1 w2 w3 w4 w5 h0 n0 Z0 O0 V1 EB) hZ (own_w hw 131 rfl) (own_w hw 130 rfl) (by decide) (by decide)) (g := (mkF m 55 #[.val (.ref x1), .val (.ref b1), .val (.int (0 : Int32)), .val (.int (0 : Int32)), .val (.int (6 : Int32)), .unset, .unset] [(.int (6 : Int32)), (.int (0 : Int32)), (.ref b1), (.ref x1)])) rfl (by rw [hml]; rfl) (argsL := [(.ref b1), (.int (0 : Int32)), (.int (6 : Int32))]) (rest := [(.ref x1)]) (lenOf pd12 rfl) rfl (by show 2 * 0 + _ ≤ _; exact Nat.le_of_eq rfl) (hb hby dj42m7_55) (fun _ _ => ⟨rfl, e54, (by decide : 0 + 1 ≤ _), (by decide : 0 + 6 ≤ _)⟩)
  dsimp only [Pt.U, Pt.locs, Pt.cells, Pt.slots] at X55 l55 y55 z55 st55 hQ55
  subst l55 y55 z55
  obtain ⟨cb55, kc55, rfl, Nq55, Kp55, ge55, sz55, V55⟩ := hQ55
  have ne56 : b1 ≠ cb55 := Nat.ne_of_lt (Nat.lt_of_lt_of_le V1.lt sz55)
  have ne57 : x1 ≠ cb55 := Nat.ne_of_lt (Nat.lt_of_lt_of_le E1.lt sz55)
  have s0cb55 : h0.size ≤ cb55 := Nat.le_trans (Keep.refl h0 [x1]).1 sz55
  have N55 := Fr.app N53 Nq55
  have O55 := Old.keep O0 Kp55 all0
  have Z55 : n0 ≤ T55.heap.size := Nat.le_trans Z0 Kp55.1
  have K55 : Keep h0 T55.heap [x1] := Keep.trans (Keep.refl h0 [x1]) Kp55 all0
  refine own_cs [(.ref cb55), (.ref x1)] 58 st55 ?_
  have f58 := (F1.keep Kp55 nin0)
  have f59 := (E1.keep Kp55)
  obtain ⟨T60, h60, X60, e60, W60, st60⟩ := putF X55 hx hZ hown (host := "") (Or.inl (own_w hw 40 rfl)) Via.refl rfl f58 f59 (Or.inr ⟨(own_w hw 9 rfl), rfl, hnm⟩) (own_w hw 7 rfl) (ty := (.array .byte)) (by decide) rfl rfl (g := (mkF m 58 #[.val (.ref x1), .val (.ref b1), .val (.int (0 : Int32)), .val (.int (0 : Int32)), .val (.int (6 : Int32)), .unset, .unset] [(.ref cb55), (.ref x1)])) rfl rfl (hb hby dj42m7_58)
  have Fw60 := f58.same W60
  have N60 := Fr.snoc X60 N55 g1
  have O60 := Old.wr O55 W60 g1
  have K60 : Keep h0 h60 [x1] := K55.wr W60 (Or.inl (List.mem_of_getElem? (i := 0) rfl))
  have Z60 : n0 ≤ h60.size := Nat.le_trans Z55 (Nat.le_of_eq W60.size.symm)
  refine own_d2 61 st60 ?_
  refine own_tp (.ref x1) 62 (fun _ q => XS.aloadN X60.here hx rfl (hb hby dj42m7_61) rfl rfl q) ?_
  refine own_tp (.int (0 : Int32)) 63 (fun _ q => XS.iconst X60.here hx rfl (hb hby dj42m7_62) q) ?_
  have f61 := ((F2.keep Kp55 nin0).other W60 (Or.inr (slot_ne (Or.inr (own_w hw 10 rfl)) (Or.inr (own_w hw 9 rfl)) (by decide) (t := .byte) (t' := (.array .byte)) (by decide) (by decide))))
  have f62 := (f59.wr W60)
  obtain ⟨T63, h63, X63, e63, W63, st63⟩ := putFN X60 hx hZ hown (own_w hw 41 rfl) Via.refl e60 f61 f62 (Or.inr ⟨(own_w hw 10 rfl), rfl, hnm⟩) (own_w hw 7 rfl) (ty := .byte) (v' := (.int (0 : Int32))) (by decide) rfl rfl (g := (mkF m 63 #[.val (.ref x1), .val (.ref b1), .val (.int (0 : Int32)), .val (.int (0 : Int32)), .val (.int (6 : Int32)), .unset, .unset] [(.int (0 : Int32)), (.ref x1)])) rfl rfl (hb hby dj42m7_63)
  have Fw63 := f61.same W63
  have N63 := Fr.snoc X63 N60 g1
  have O63 := Old.wr O60 W63 g1
  have K63 : Keep h0 h63 [x1] := K60.wr W63 (Or.inl (List.mem_of_getElem? (i := 0) rfl))
  have Z63 : n0 ≤ h63.size := Nat.le_trans Z60 (Nat.le_of_eq W63.size.symm)
  refine own_d2 66 st63 ?_
  refine own_d0 127 (fun _ q => XS.goto X63.here hx rfl (pc0 := 66) (pc' := 127) rfl (hb hby dj42m7_66) (by decide) (by decide) q) ?_
  have f64 := (f62.wr W63)
  have f65 := (Fw60.other W63 (Or.inr (slot_ne (Or.inr (own_w hw 9 rfl)) (Or.inr (own_w hw 10 rfl)) (by decide) (t := (.array .byte)) (t' := .byte) (by decide) (by decide))))
  have f66 := ((V55.other W60 (Ne.symm ne57)).other W63 (Ne.symm ne57))
  exact own_retV X63 hx hrt (hb hby dj42m7_127) hlk (by decide) (by decide) e63 (⟨rfl, N63, K63, cb55, _, f64, Fw63, f65, f66⟩)

set_option maxRecDepth 65536 in
set_option maxHeartbeats 40000000 in
theorem rm29 (l : Launch) (Z : State) (a0 : Array Value) (hw : ∀ d ∈ tables_1, d.before a0 Z = true) (ws : List Jvm.Cond) (b1 : Addr) (k1 : ClassId) (w0 w1 w2 w3 w4 w5 : Value) (h0 : Heap) (n0 : Nat) (G1 : Int32) (P5 : ¬ G1 = (0 : Int32)) (O0 : Old Z n0 h0) (Sc : Sta Z Z.heap "java/lang/String" "COMPACT_STRINGS" "Z" (.int G1)) (G3 : Value) (rG3 : G3.isRef = true) (Sf : Sta Z Z.heap "jdk/internal/util/Preconditions" "SIOOBE_FORMATTER" "Ljava/util/function/BiFunction;" G3) (Z0 : n0 ≤ h0.size) (V1 : Arv Z h0 b1 k1 .byte (6 : Int32) [w0, w1, w2, w3, w4, w5] (.int (0 : Int32))) (EB : Exa Z h0 b1 "[B") :
    own_Met l (⟨"com/example/unit_step/unitstep/DecimalLayout", "toText", "([B)Ljava/lang/String;"⟩ : MethodName) prog_6_method_5_code 1 (some (.object "java/lang/String")) ws own_R_3_2_10_48 Z #[(.ref b1)] h0 (own_RS Z (6 : Int32) [w0, w1, w2, w3, w4, w5] h0 n0) := by
  refine own_enter #[.val (.ref b1)] (plainFor_of_name pn_com_example_unit_step_unitstep_DecimalLayout) (fun m => ef_R_1 m b1) ?_
  intro p e s m below meth c s₁ hx hby hml hown hnm hZ hrt hlk X0 e0
  have N0 := Fr.nil n0
  obtain ⟨T51, h51, X51, e51, E51, A51, D51, -, st51⟩ := newO X0 hx hZ hown (own_w hw 118 rfl) (own_w hw 7 rfl) (own_w hw 6 rfl) e0 (g := (mkF m 0 #[.val (.ref b1)] [])) rfl (hb hby dp6m5_0) (by decide) (by decide)
  obtain ⟨b51, g51⟩ : ∃ z, z = h0.size := ⟨_, rfl⟩
  rw [← g51] at A51 D51 st51
  have ge51 : n0 ≤ b51 := Nat.le_trans Z0 (Nat.le_of_eq g51.symm)
  have sz51 : h0.size ≤ b51 := Nat.le_trans (Keep.refl h0 []).1 (Nat.le_of_eq g51.symm)
  have ne52 : b1 ≠ b51 := Nat.ne_of_lt (Nat.lt_of_lt_of_le V1.lt (Nat.le_of_eq g51.symm))
  have O51 := Old.ext O0 E51
  have K51 : Keep h0 h51 [] := (Keep.refl h0 []).ext E51
  have Z51 : n0 ≤ h51.size := Nat.le_trans Z0 E51.1
  have Fvalue_51 : Fld Z h51 b51 "java/lang/String" "value" "[B" .null := D51 (Or.inr (own_w hw 9 rfl)) (ty := (.array .byte)) (by decide)
  have Fcoder_51 : Fld Z h51 b51 "java/lang/String" "coder" "B" (.int (0 : Int32)) := D51 (Or.inr (own_w hw 10 rfl)) (ty := .byte) (by decide)
  refine own_tp (.ref b51) 3 st51 ?_
  refine own_tp (.ref b51) 4 (fun _ q => XS.dup X51.here hx rfl (hb hby dp6m5_3) rfl rfl q) ?_
  refine own_tp (.ref b1) 5 (fun _ q => XS.aloadN X51.here hx rfl (hb hby dp6m5_4) rfl rfl q) ?_
  refine own_tp (.int (0 : Int32)) 6 (fun _ q => XS.iconst X51.here hx rfl (hb hby dp6m5_5) q) ?_
  refine own_tp (.int (0 : Int32)) 7 (fun _ q => XS.iconst X51.here hx rfl (hb hby dp6m5_6) q) ?_
  refine own_tp (.ref b1) 8 (fun _ q => XS.aloadN X51.here hx rfl (hb hby dp6m5_7) rfl rfl q) ?_
  have f53 := (V1.ext E51)
  obtain ⟨cl54, Ar54, -, Sz54, Nn54, -, -⟩ := (id f53)
  refine own_t1 (.int (6 : Int32)) 9 (fun t q => X51.arraylength hx (by rw [e51]; exact Ar54.1) (State.isArrayOf_alike hZ.alike Ar54.2.1) (g := (mkF m 8 #[.val (.ref b1)] [(.ref b1), (.int (0 : Int32)), (.int (0 : Int32)), (.ref b1), (.ref b51), (.ref b51)])) rfl rfl (hb hby dp6m5_8) _ (by rw [len_of Sz54 Nn54]; exact q)) ?_
  have f55 := (EB.ext E51)
  obtain ⟨_, _, ⟨T56, L56, k56, n56⟩, -, X56, ⟨Lc56, hQ56, l56, y56, z56⟩, st56⟩ := X51.specialBack hx (y := (⟨"java/lang/String", "<init>", "([BIII)V"⟩ : MethodName)) rfl hown (mvT hZ (own_w hw 119 rfl)) (mvT hZ (own_w hw 120 rfl)) (mvT hZ (own_w hw 121 rfl)) (by decide) (backOf (W := 1) (rm28 l Z a0 hw [] b51 b1 k1 w0 w1 w2 w3 w4 w5 _ _ h51 n0 G1 P5 O51 Sc G3 rG3 Sf Z51 ge51 (Ne.symm ne52) f53 f55 A51 Fvalue_51 Fcoder_51) hZ (own_w hw 121 rfl) (own_w hw 6 rfl) (by decide) (by decide)) (g := (mkF m 9 #[.val (.ref b1)] [(.int (6 : Int32)), (.int (0 : Int32)), (.int (0 : Int32)), (.ref b1), (.ref b51), (.ref b51)])) rfl (by rw [hml]; rfl) (Steps.refl _) (a := b51) (argsL := [(.ref b1), (.int (0 : Int32)), (.int (0 : Int32)), (.int (6 : Int32))]) (rest := [(.ref b51)]) (lenOf pd13 rfl) rfl (by show 2 * 0 + _ ≤ _; exact Nat.le_of_eq rfl) (hb hby dp6m5_9) (fun _ _ => ⟨rfl, e51, (by decide : 1 + 1 ≤ _), (by decide : 4 + 6 ≤ _)⟩)
  dsimp only [Pt.U, Pt.locs, Pt.cells, Pt.slots] at X56 l56 y56 z56 st56 hQ56
  subst l56 y56 z56
  obtain ⟨rfl, Nq56, Kp56, t56, kt56, A56, Cd56, Vl56, V56⟩ := hQ56
  have N56 := Fr.app N0 Nq56
  have O56 := Old.keep O51 Kp56 (allS ge51 all0)
  have Z56 : n0 ≤ T56.heap.size := Nat.le_trans Z51 Kp56.1
  have K56 : Keep h0 T56.heap [] := Keep.trans K51 Kp56 (allS (Or.inr sz51) all0)
  refine own_csR [(.ref b51)] 12 st56 ?_
  exact own_retR X56 hx hrt (hb hby dp6m5_12) rfl rfl hlk (by decide) (by decide) rfl (⟨b51, t56, _, rfl, N56, K56, A56, Cd56, Vl56, V56⟩)

set_option maxRecDepth 65536 in
set_option maxHeartbeats 40000000 in
theorem rm30 (l : Launch) (Z : State) (a0 : Array Value) (hw : ∀ d ∈ tables_1, d.before a0 Z = true) (ws : List Jvm.Cond) (d : Int64) (h0 : Heap) (n0 : Nat) (G1 : Int32) (P5 : ¬ G1 = (0 : Int32)) (O0 : Old Z n0 h0) (Sc : Sta Z Z.heap "java/lang/String" "COMPACT_STRINGS" "Z" (.int G1)) (G3 : Value) (rG3 : G3.isRef = true) (Sf : Sta Z Z.heap "jdk/internal/util/Preconditions" "SIOOBE_FORMATTER" "Ljava/util/function/BiFunction;" G3) (dg : Addr) (kd : ClassId) (ex : Addr) (kx : ClassId) (TB : own_TB Z dg kd ex kx) (Z0 : n0 ≤ h0.size) (hd : own_D d) :
    own_Met l (⟨"com/example/unit_step/unitstep/FloatingPointLayout", "scientific", "(ZJII)Ljava/lang/String;"⟩ : MethodName) prog_10_method_5_code 10 (some (.object "java/lang/String")) ws own_R_4_3_14_60 Z #[(.int (0 : Int32)), (.long d), (.int (1 : Int32)), (.int (0 : Int32))] h0 (own_RS Z (5 : Int32) [(.int (((48 : Int32) + (d.toInt32)).toInt8.toInt32)), (.int (46 : Int32)), (.int (48 : Int32)), (.int (69 : Int32)), (.int (((48 : Int32) + (((0 : Int32).toInt64).toInt32)).toInt8.toInt32))] h0 n0) := by
  refine own_enter #[.val (.int (0 : Int32)), .val (.long d), .second, .val (.int (1 : Int32)), .val (.int (0 : Int32)), .unset, .unset, .unset, .unset, .unset] (plainFor_of_name pn_com_example_unit_step_unitstep_FloatingPointLayout) (fun m => ef_IJII_10 m (0 : Int32) d (1 : Int32) (0 : Int32)) ?_
  intro p e s m below meth c s₁ hx hby hml hown hnm hZ hrt hlk X0 e0
  have N0 := Fr.nil n0
  refine own_tp (.int (0 : Int32)) 1 (fun _ q => XS.iloadN X0.here hx rfl (hb hby dp10m5_0) rfl q) ?_
  refine own_d1 8 (fun _ q => XS.ifYes X0.here hx rfl (pc0 := 1) (pc' := 8) rfl (hb hby dp10m5_1) rfl ((if0 _ _).trans (teq (by decide : (0 : Int32) = (0 : Int32))).1) (by decide) (by decide) q) ?_
  refine own_tp (.int (0 : Int32)) 9 (fun _ q => XS.iconst X0.here hx rfl (hb hby dp10m5_8) q) ?_
  let L_51 : Array Slot := #[.val (.int (0 : Int32)), .val (.long d), .second, .val (.int (1 : Int32)), .val (.int (0 : Int32)), .val (.int (0 : Int32)), .unset, .unset, .unset, .unset]
  refine own_ls L_51 11 (fun _ q => XS.istore X0.here hx rfl (hb hby dp10m5_9) rfl (l' := L_51) rfl q) ?_
  refine own_tp (.int (1 : Int32)) 12 (fun _ q => XS.iloadN X0.here hx rfl (hb hby dp10m5_11) rfl q) ?_
  refine own_tp (.int (1 : Int32)) 13 (fun _ q => XS.iconst X0.here hx rfl (hb hby dp10m5_12) q) ?_
  refine own_t2 (.int (0 : Int32)) 14 (fun _ q => XS.isub X0.here hx rfl (hb hby dp10m5_13) rfl q) ?_
  refine own_tp (.int (1 : Int32)) 15 (fun _ q => XS.iconst X0.here hx rfl (hb hby dp10m5_14) q) ?_
  obtain ⟨_, _, ⟨T52, L52, k52, n52⟩, -, X52, ⟨Lc52, hQ52, l52, y52, z52⟩, st52⟩ := Jvm.LawKit.callS X0 hx (y := (⟨"java/lang/Math", "max", "(II)I"⟩ : MethodName)) hown (mvT hZ (own_w hw 105 rfl)) (mvT hZ (own_w hw 106 rfl)) (mvT hZ (own_w hw 107 rfl)) (mvT hZ (own_w hw 108 rfl)) (by decide) (backOf (W := 0) (rm14 l Z a0 hw [] h0 n0) hZ (own_w hw 108 rfl) (own_w hw 107 rfl) (by decide) (by decide)) (g := (mkF m 15 L_51 [(.int (1 : Int32)), (.int (0 : Int32))])) rfl (by rw [hml]; rfl) (argsL := [(.int (0 : Int32)), (.int (1 : Int32))]) (rest := []) (lenOf pd14 rfl) rfl (by show 2 * 0 + _ ≤ _; exact Nat.le_of_eq rfl) (hb hby dp10m5_15) (fun _ _ => ⟨rfl, e0, (by decide : 0 + 0 ≤ _), (by decide : 0 + 0 ≤ _)⟩)
  dsimp only [Pt.U, Pt.locs, Pt.cells, Pt.slots] at X52 l52 y52 z52 st52 hQ52
  subst l52 y52 z52
  obtain ⟨rfl, Nq52, eq52⟩ := hQ52
  have N52 := Fr.app N0 Nq52
  refine own_t2 (.int (1 : Int32)) 18 st52 ?_
  let L_53 : Array Slot := #[.val (.int (0 : Int32)), .val (.long d), .second, .val (.int (1 : Int32)), .val (.int (0 : Int32)), .val (.int (0 : Int32)), .val (.int (1 : Int32)), .unset, .unset, .unset]
  refine own_ls L_53 20 (fun _ q => XS.istore X52.here hx rfl (hb hby dp10m5_18) rfl (l' := L_53) rfl q) ?_
  refine own_tp (.int (0 : Int32)) 22 (fun _ q => XS.iload X52.here hx rfl (hb hby dp10m5_20) rfl q) ?_
  refine own_tp (.int (3 : Int32)) 23 (fun _ q => XS.iconst X52.here hx rfl (hb hby dp10m5_22) q) ?_
  refine own_t2 (.int (3 : Int32)) 24 (fun _ q => XS.iadd X52.here hx rfl (hb hby dp10m5_23) rfl q) ?_
  refine own_tp (.int (1 : Int32)) 26 (fun _ q => XS.iload X52.here hx rfl (hb hby dp10m5_24) rfl q) ?_
  refine own_t2 (.int (4 : Int32)) 27 (fun _ q => XS.iadd X52.here hx rfl (hb hby dp10m5_26) rfl q) ?_
  refine own_tp (.int (0 : Int32)) 29 (fun _ q => XS.iload X52.here hx rfl (hb hby dp10m5_27) rfl q) ?_
  refine own_d1 36 (fun _ q => XS.ifYes X52.here hx rfl (pc0 := 29) (pc' := 36) rfl (hb hby dp10m5_29) rfl ((if0 _ _).trans (flt (by decide : ¬ ((0 : Int32) < (0 : Int32)))).2.1) (by decide) (by decide) q) ?_
  refine own_tp (.int (0 : Int32)) 37 (fun _ q => XS.iconst X52.here hx rfl (hb hby dp10m5_36) q) ?_
  refine own_d1 38 (fun _ q => XS.iadd X52.here hx rfl (hb hby dp10m5_37) rfl q) ?_
  let L_54 : Array Slot := #[.val (.int (0 : Int32)), .val (.long d), .second, .val (.int (1 : Int32)), .val (.int (0 : Int32)), .val (.int (0 : Int32)), .val (.int (1 : Int32)), .val (.int (4 : Int32)), .unset, .unset]
  refine own_ls L_54 40 (fun _ q => XS.istore X52.here hx rfl (hb hby dp10m5_38) rfl (l' := L_54) rfl q) ?_
  refine own_tp (.int (0 : Int32)) 42 (fun _ q => XS.iload X52.here hx rfl (hb hby dp10m5_40) rfl q) ?_
  obtain ⟨_, _, ⟨T55, L55, k55, n55⟩, -, X55, ⟨Lc55, hQ55, l55, y55, z55⟩, st55⟩ := Jvm.LawKit.callS X52 hx (y := (⟨"java/lang/Math", "abs", "(I)I"⟩ : MethodName)) hown (mvT hZ (own_w hw 109 rfl)) (mvT hZ (own_w hw 110 rfl)) (mvT hZ (own_w hw 107 rfl)) (mvT hZ (own_w hw 111 rfl)) (by decide) (backOf (W := 0) (rm15 l Z a0 hw [] h0 n0) hZ (own_w hw 111 rfl) (own_w hw 107 rfl) (by decide) (by decide)) (g := (mkF m 42 L_54 [(.int (0 : Int32))])) rfl (by rw [hml]; rfl) (argsL := [(.int (0 : Int32))]) (rest := []) (lenOf pd7 rfl) rfl (by show 2 * 0 + _ ≤ _; exact Nat.le_of_eq rfl) (hb hby dp10m5_42) (fun _ _ => ⟨rfl, eq52, (by decide : 0 + 0 ≤ _), (by decide : 0 + 0 ≤ _)⟩)
  dsimp only [Pt.U, Pt.locs, Pt.cells, Pt.slots] at X55 l55 y55 z55 st55 hQ55
  subst l55 y55 z55
  obtain ⟨rfl, Nq55, eq55⟩ := hQ55
  have N55 := Fr.app N52 Nq55
  refine own_d0 45 st55 ?_
  refine own_t1 (.long ((0 : Int32).toInt64)) 46 (fun _ q => XS.i2l X55.here hx rfl (hb hby dp10m5_45) rfl q) ?_
  obtain ⟨_, _, ⟨T56, L56, k56, n56⟩, -, X56, ⟨Lc56, hQ56, l56, y56, z56⟩, st56⟩ := Jvm.LawKit.callS X55 hx (y := (⟨"com/example/unit_step/unitstep/DecimalLayout", "digitCount", "(J)I"⟩ : MethodName)) hown (mvT hZ (own_w hw 85 rfl)) (mvT hZ (own_w hw 86 rfl)) (mvT hZ (own_w hw 87 rfl)) (mvT hZ (own_w hw 88 rfl)) (by decide) (backOf (W := 0) (rm13 l Z a0 hw [] ((0 : Int32).toInt64) h0 n0 (Or.inl (by decide)) O0 dg kd ex kx TB) hZ (own_w hw 88 rfl) (own_w hw 87 rfl) (by decide) (by decide)) (g := (mkF m 46 L_54 [(.long ((0 : Int32).toInt64))])) rfl (by rw [hml]; rfl) (argsL := [(.long ((0 : Int32).toInt64))]) (rest := []) (lenOf pd8 rfl) rfl (by show 2 * 0 + _ ≤ _; exact Nat.le_of_eq rfl) (hb hby dp10m5_46) (fun _ _ => ⟨rfl, eq55, (by decide : 0 + 0 ≤ _), (by decide : 0 + 0 ≤ _)⟩)
  dsimp only [Pt.U, Pt.locs, Pt.cells, Pt.slots] at X56 l56 y56 z56 st56 hQ56
  subst l56 y56 z56
  obtain ⟨rfl, Nq56, eq56⟩ := hQ56
  have N56 := Fr.app N55 Nq56
  refine own_t1 (.int (1 : Int32)) 49 st56 ?_
  let L_57 : Array Slot := #[.val (.int (0 : Int32)), .val (.long d), .second, .val (.int (1 : Int32)), .val (.int (0 : Int32)), .val (.int (0 : Int32)), .val (.int (1 : Int32)), .val (.int (4 : Int32)), .val (.int (1 : Int32)), .unset]
  refine own_ls L_57 51 (fun _ q => XS.istore X56.here hx rfl (hb hby dp10m5_49) rfl (l' := L_57) rfl q) ?_
  refine own_tp (.int (4 : Int32)) 53 (fun _ q => XS.iload X56.here hx rfl (hb hby dp10m5_51) rfl q) ?_
  refine own_tp (.int (1 : Int32)) 55 (fun _ q => XS.iload X56.here hx rfl (hb hby dp10m5_53) rfl q) ?_
  refine own_t2 (.int (5 : Int32)) 56 (fun _ q => XS.iadd X56.here hx rfl (hb hby dp10m5_55) rfl q) ?_
  obtain ⟨T58, h58, k58, X58, e58, E58, A58, EX58, st58⟩ := newPE X56 hx hZ (own_w hw 8 rfl) eq56 (g := (mkF m 56 L_57 [(.int (5 : Int32))])) rfl (hb hby dp10m5_56) rfl (by decide) (cap := 5) (by decide) (by decide) (by decide) (by decide) (ad := "[B") (by decide)
  obtain ⟨b58, g58⟩ : ∃ z, z = h0.size := ⟨_, rfl⟩
  rw [← g58] at A58 st58 EX58
  have V58 : Arv Z h58 b58 k58 .byte (5 : Int32) [(.int (0 : Int32)), (.int (0 : Int32)), (.int (0 : Int32)), (.int (0 : Int32)), (.int (0 : Int32))] (.int (0 : Int32)) := (Arv.new A58 (by decide)).pad (pad_rep [] (.int (0 : Int32)) 5)
  have ge58 : n0 ≤ b58 := Nat.le_trans Z0 (Nat.le_of_eq g58.symm)
  have sz58 : h0.size ≤ b58 := Nat.le_trans (Keep.refl h0 []).1 (Nat.le_of_eq g58.symm)
  have O58 := Old.ext O0 E58
  have K58 : Keep h0 h58 [] := (Keep.refl h0 []).ext E58
  have Z58 : n0 ≤ h58.size := Nat.le_trans Z0 E58.1
  refine own_t1 (.ref b58) 58 st58 ?_
  let L_59 : Array Slot := #[.val (.int (0 : Int32)), .val (.long d), .second, .val (.int (1 : Int32)), .val (.int (0 : Int32)), .val (.int (0 : Int32)), .val (.int (1 : Int32)), .val (.int (4 : Int32)), .val (.int (1 : Int32)), .val (.ref b58)]
  refine own_ls L_59 60 (fun _ q => XS.astore X58.here hx rfl (hb hby dp10m5_58) rfl rfl (l' := L_59) rfl q) ?_
  refine own_tp (.ref b58) 62 (fun _ q => XS.aload X58.here hx rfl (hb hby dp10m5_60) rfl rfl q) ?_
  refine own_tp (.int (0 : Int32)) 63 (fun _ q => XS.iconst X58.here hx rfl (hb hby dp10m5_62) q) ?_
  refine own_tp (.int (45 : Int32)) 65 (fun _ q => XS.bipush X58.here hx rfl (hb hby dp10m5_63) q) ?_
  obtain ⟨cl60, Ar60, q60, S60, Nn60, H60, G60⟩ := (id V58)
  have hin60 : ¬ ((0 : Int32) < 0 ∨ cl60.slots.size ≤ ((0 : Int32)).toNatClampNeg) := inb_of S60 ⟨by decide, by decide⟩
  obtain ⟨T61, h61, X61, e61, W61, st61⟩ := stB X58 hx hZ e58 Ar60 (j := (0 : Int32)) hin60 (g := (mkF m 65 L_59 [(.int (45 : Int32)), (.int (0 : Int32)), (.ref b58)])) rfl rfl (hb hby dp10m5_65)
  have V61 := Arv.set Ar60 q60 S60 Nn60 H60 G60 (fits_nar_byte _) W61 0 rfl (Nat.le_of_ble_eq_true rfl)
  have N61 := Fr.snoc X61 N56 ge58
  have O61 := Old.wr O58 W61 ge58
  have K61 : Keep h0 h61 [] := K58.wr W61 (Or.inr sz58)
  have Z61 : n0 ≤ h61.size := Nat.le_trans Z58 (Nat.le_of_eq W61.size.symm)
  have V61' : Arv Z h61 b58 k58 .byte (5 : Int32) [(.int (45 : Int32)), (.int (0 : Int32)), (.int (0 : Int32)), (.int (0 : Int32)), (.int (0 : Int32))] (.int (0 : Int32)) := by have q := V61; first | (rw [show nar .byte (45 : Int32) = (45 : Int32) from by decide] at q; exact q) | (rw [show (45 : Int32).toInt8.toInt32 = (45 : Int32) from by decide] at q; exact q)
  refine own_cs [] 66 st61 ?_
  refine own_tp (.ref b58) 68 (fun _ q => XS.aload X61.here hx rfl (hb hby dp10m5_66) rfl rfl q) ?_
  refine own_tp (.int (0 : Int32)) 70 (fun _ q => XS.iload X61.here hx rfl (hb hby dp10m5_68) rfl q) ?_
  refine own_tp (.int (1 : Int32)) 71 (fun _ q => XS.iconst X61.here hx rfl (hb hby dp10m5_70) q) ?_
  refine own_t2 (.int (1 : Int32)) 72 (fun _ q => XS.iadd X61.here hx rfl (hb hby dp10m5_71) rfl q) ?_
  refine own_tp (.int (1 : Int32)) 73 (fun _ q => XS.iloadN X61.here hx rfl (hb hby dp10m5_72) rfl q) ?_
  refine own_tp (.long d) 74 (fun _ q => XS.lloadN X61.here hx rfl (hb hby dp10m5_73) rfl q) ?_
  obtain ⟨_, _, ⟨T62, L62, k62, n62⟩, -, X62, ⟨Lc62, hQ62, l62, y62, z62⟩, st62⟩ := Jvm.LawKit.callS X61 hx (y := (⟨"com/example/unit_step/unitstep/DecimalLayout", "putDigits", "([BIIJ)V"⟩ : MethodName)) hown (mvT hZ (own_w hw 112 rfl)) (mvT hZ (own_w hw 113 rfl)) (mvT hZ (own_w hw 87 rfl)) (mvT hZ (own_w hw 114 rfl)) (by decide) (backOf (W := 0) (rm16 l Z a0 hw [] b58 k58 (.int (45 : Int32)) (.int (0 : Int32)) (.int (0 : Int32)) (.int (0 : Int32)) (.int (0 : Int32)) d h61 n0 Z61 ge58 O61 V61') hZ (own_w hw 114 rfl) (own_w hw 87 rfl) (by decide) (by decide)) (g := (mkF m 74 L_59 [(.long d), (.int (1 : Int32)), (.int (1 : Int32)), (.ref b58)])) rfl (by rw [hml]; rfl) (argsL := [(.ref b58), (.int (1 : Int32)), (.int (1 : Int32)), (.long d)]) (rest := []) (lenOf pd15 rfl) rfl (by show 2 * 0 + _ ≤ _; exact Nat.le_of_eq rfl) (hb hby dp10m5_74) (fun _ _ => ⟨rfl, e61, (by decide : 1 + 0 ≤ _), (by decide : 5 + 0 ≤ _)⟩)
  dsimp only [Pt.U, Pt.locs, Pt.cells, Pt.slots] at X62 l62 y62 z62 st62 hQ62
  subst l62 y62 z62
  obtain ⟨rfl, Nq62, Kp62, V62⟩ := hQ62
  have N62 := Fr.app N61 Nq62
  have O62 := Old.keep O61 Kp62 (allS ge58 all0)
  have Z62 : n0 ≤ T62.heap.size := Nat.le_trans Z61 Kp62.1
  have K62 : Keep h0 T62.heap [] := Keep.trans K61 Kp62 (allS (Or.inr sz58) all0)
  refine own_cs [] 77 st62 ?_
  refine own_tp (.ref b58) 79 (fun _ q => XS.aload X62.here hx rfl (hb hby dp10m5_77) rfl rfl q) ?_
  refine own_tp (.int (0 : Int32)) 81 (fun _ q => XS.iload X62.here hx rfl (hb hby dp10m5_79) rfl q) ?_
  refine own_tp (.ref b58) 83 (fun _ q => XS.aload X62.here hx rfl (hb hby dp10m5_81) rfl rfl q) ?_
  refine own_tp (.int (0 : Int32)) 85 (fun _ q => XS.iload X62.here hx rfl (hb hby dp10m5_83) rfl q) ?_
  refine own_tp (.int (1 : Int32)) 86 (fun _ q => XS.iconst X62.here hx rfl (hb hby dp10m5_85) q) ?_
  refine own_t2 (.int (1 : Int32)) 87 (fun _ q => XS.iadd X62.here hx rfl (hb hby dp10m5_86) rfl q) ?_
  obtain ⟨cl63, Ar63, q63, S63, Nn63, H63, G63⟩ := (id V62)
  have hin63 : ¬ ((1 : Int32) < 0 ∨ cl63.slots.size ≤ ((1 : Int32)).toNatClampNeg) := inb_of S63 ⟨by decide, by decide⟩
  have hat63 : cl63.slots[((1 : Int32)).toNatClampNeg]? = some (.int (((48 : Int32) + (d.toInt32)).toInt8.toInt32)) := H63.at hin63 rfl
  refine own_t2 (.int (((48 : Int32) + (d.toInt32)).toInt8.toInt32)) 88 (fun _ q => X62.baloadBytes hx (j := (1 : Int32)) (v := (.int (((48 : Int32) + (d.toInt32)).toInt8.toInt32))) Ar63.1 (State.isArrayOf_alike hZ.alike Ar63.2.1) Ar63.2.2 hin63 hat63 (g := (mkF m 87 L_59 [(.int (1 : Int32)), (.ref b58), (.int (0 : Int32)), (.ref b58)])) rfl rfl (hb hby dp10m5_87) _ q) ?_
  obtain ⟨cl64, Ar64, q64, S64, Nn64, H64, G64⟩ := (id V62)
  have hin64 : ¬ ((0 : Int32) < 0 ∨ cl64.slots.size ≤ ((0 : Int32)).toNatClampNeg) := inb_of S64 ⟨by decide, by decide⟩
  obtain ⟨T65, h65, X65, e65, W65, st65⟩ := stB X62 hx hZ rfl Ar64 (j := (0 : Int32)) hin64 (g := (mkF m 88 L_59 [(.int (((48 : Int32) + (d.toInt32)).toInt8.toInt32)), (.int (0 : Int32)), (.ref b58)])) rfl rfl (hb hby dp10m5_88)
  have V65 := Arv.set Ar64 q64 S64 Nn64 H64 G64 (fits_nar_byte _) W65 0 rfl (Nat.le_of_ble_eq_true rfl)
  have N65 := Fr.snoc X65 N62 ge58
  have O65 := Old.wr O62 W65 ge58
  have K65 : Keep h0 h65 [] := K62.wr W65 (Or.inr sz58)
  have Z65 : n0 ≤ h65.size := Nat.le_trans Z62 (Nat.le_of_eq W65.size.symm)
  have V65' : Arv Z h65 b58 k58 .byte (5 : Int32) [(.int (((48 : Int32) + (d.toInt32)).toInt8.toInt32)), (.int (((48 : Int32) + (d.toInt32)).toInt8.toInt32)), (.int (0 : Int32)), (.int (0 : Int32)), (.int (0 : Int32))] (.int (0 : Int32)) := by have q := V65; first | (rw [own_nb] at q; exact q) | (rw [own_nb2] at q; exact q)
  refine own_cs [] 89 st65 ?_
  refine own_tp (.ref b58) 91 (fun _ q => XS.aload X65.here hx rfl (hb hby dp10m5_89) rfl rfl q) ?_
  refine own_tp (.int (0 : Int32)) 93 (fun _ q => XS.iload X65.here hx rfl (hb hby dp10m5_91) rfl q) ?_
  refine own_tp (.int (1 : Int32)) 94 (fun _ q => XS.iconst X65.here hx rfl (hb hby dp10m5_93) q) ?_
  refine own_t2 (.int (1 : Int32)) 95 (fun _ q => XS.iadd X65.here hx rfl (hb hby dp10m5_94) rfl q) ?_
  refine own_tp (.int (46 : Int32)) 97 (fun _ q => XS.bipush X65.here hx rfl (hb hby dp10m5_95) q) ?_
  obtain ⟨cl66, Ar66, q66, S66, Nn66, H66, G66⟩ := (id V65')
  have hin66 : ¬ ((1 : Int32) < 0 ∨ cl66.slots.size ≤ ((1 : Int32)).toNatClampNeg) := inb_of S66 ⟨by decide, by decide⟩
  obtain ⟨T67, h67, X67, e67, W67, st67⟩ := stB X65 hx hZ e65 Ar66 (j := (1 : Int32)) hin66 (g := (mkF m 97 L_59 [(.int (46 : Int32)), (.int (1 : Int32)), (.ref b58)])) rfl rfl (hb hby dp10m5_97)
  have V67 := Arv.set Ar66 q66 S66 Nn66 H66 G66 (fits_nar_byte _) W67 1 rfl (Nat.le_of_ble_eq_true rfl)
  have N67 := Fr.snoc X67 N65 ge58
  have O67 := Old.wr O65 W67 ge58
  have K67 : Keep h0 h67 [] := K65.wr W67 (Or.inr sz58)
  have Z67 : n0 ≤ h67.size := Nat.le_trans Z65 (Nat.le_of_eq W67.size.symm)
  have V67' : Arv Z h67 b58 k58 .byte (5 : Int32) [(.int (((48 : Int32) + (d.toInt32)).toInt8.toInt32)), (.int (46 : Int32)), (.int (0 : Int32)), (.int (0 : Int32)), (.int (0 : Int32))] (.int (0 : Int32)) := by have q := V67; first | (rw [show nar .byte (46 : Int32) = (46 : Int32) from by decide] at q; exact q) | (rw [show (46 : Int32).toInt8.toInt32 = (46 : Int32) from by decide] at q; exact q)
  refine own_cs [] 98 st67 ?_
  refine own_tp (.int (1 : Int32)) 99 (fun _ q => XS.iloadN X67.here hx rfl (hb hby dp10m5_98) rfl q) ?_
  refine own_tp (.int (1 : Int32)) 100 (fun _ q => XS.iconst X67.here hx rfl (hb hby dp10m5_99) q) ?_
  refine own_d2 103 (fun _ q => XS.icmpNo X67.here hx rfl (hb hby dp10m5_100) rfl (teq (by decide : (1 : Int32) = (1 : Int32))).2 q) ?_
  refine own_tp (.ref b58) 105 (fun _ q => XS.aload X67.here hx rfl (hb hby dp10m5_103) rfl rfl q) ?_
  refine own_tp (.int (0 : Int32)) 107 (fun _ q => XS.iload X67.here hx rfl (hb hby dp10m5_105) rfl q) ?_
  refine own_tp (.int (2 : Int32)) 108 (fun _ q => XS.iconst X67.here hx rfl (hb hby dp10m5_107) q) ?_
  refine own_t2 (.int (2 : Int32)) 109 (fun _ q => XS.iadd X67.here hx rfl (hb hby dp10m5_108) rfl q) ?_
  refine own_tp (.int (48 : Int32)) 111 (fun _ q => XS.bipush X67.here hx rfl (hb hby dp10m5_109) q) ?_
  obtain ⟨cl68, Ar68, q68, S68, Nn68, H68, G68⟩ := (id V67')
  have hin68 : ¬ ((2 : Int32) < 0 ∨ cl68.slots.size ≤ ((2 : Int32)).toNatClampNeg) := inb_of S68 ⟨by decide, by decide⟩
  obtain ⟨T69, h69, X69, e69, W69, st69⟩ := stB X67 hx hZ e67 Ar68 (j := (2 : Int32)) hin68 (g := (mkF m 111 L_59 [(.int (48 : Int32)), (.int (2 : Int32)), (.ref b58)])) rfl rfl (hb hby dp10m5_111)
  have V69 := Arv.set Ar68 q68 S68 Nn68 H68 G68 (fits_nar_byte _) W69 2 rfl (Nat.le_of_ble_eq_true rfl)
  have N69 := Fr.snoc X69 N67 ge58
  have O69 := Old.wr O67 W69 ge58
  have K69 : Keep h0 h69 [] := K67.wr W69 (Or.inr sz58)
  have Z69 : n0 ≤ h69.size := Nat.le_trans Z67 (Nat.le_of_eq W69.size.symm)
  have V69' : Arv Z h69 b58 k58 .byte (5 : Int32) [(.int (((48 : Int32) + (d.toInt32)).toInt8.toInt32)), (.int (46 : Int32)), (.int (48 : Int32)), (.int (0 : Int32)), (.int (0 : Int32))] (.int (0 : Int32)) := by have q := V69; first | (rw [show nar .byte (48 : Int32) = (48 : Int32) from by decide] at q; exact q) | (rw [show (48 : Int32).toInt8.toInt32 = (48 : Int32) from by decide] at q; exact q)
  refine own_cs [] 112 st69 ?_
  refine own_tp (.ref b58) 114 (fun _ q => XS.aload X69.here hx rfl (hb hby dp10m5_112) rfl rfl q) ?_
  refine own_tp (.int (0 : Int32)) 116 (fun _ q => XS.iload X69.here hx rfl (hb hby dp10m5_114) rfl q) ?_
  refine own_tp (.int (2 : Int32)) 117 (fun _ q => XS.iconst X69.here hx rfl (hb hby dp10m5_116) q) ?_
  refine own_t2 (.int (2 : Int32)) 118 (fun _ q => XS.iadd X69.here hx rfl (hb hby dp10m5_117) rfl q) ?_
  refine own_tp (.int (1 : Int32)) 120 (fun _ q => XS.iload X69.here hx rfl (hb hby dp10m5_118) rfl q) ?_
  refine own_t2 (.int (3 : Int32)) 121 (fun _ q => XS.iadd X69.here hx rfl (hb hby dp10m5_120) rfl q) ?_
  refine own_tp (.int (69 : Int32)) 123 (fun _ q => XS.bipush X69.here hx rfl (hb hby dp10m5_121) q) ?_
  obtain ⟨cl70, Ar70, q70, S70, Nn70, H70, G70⟩ := (id V69')
  have hin70 : ¬ ((3 : Int32) < 0 ∨ cl70.slots.size ≤ ((3 : Int32)).toNatClampNeg) := inb_of S70 ⟨by decide, by decide⟩
  obtain ⟨T71, h71, X71, e71, W71, st71⟩ := stB X69 hx hZ e69 Ar70 (j := (3 : Int32)) hin70 (g := (mkF m 123 L_59 [(.int (69 : Int32)), (.int (3 : Int32)), (.ref b58)])) rfl rfl (hb hby dp10m5_123)
  have V71 := Arv.set Ar70 q70 S70 Nn70 H70 G70 (fits_nar_byte _) W71 3 rfl (Nat.le_of_ble_eq_true rfl)
  have N71 := Fr.snoc X71 N69 ge58
  have O71 := Old.wr O69 W71 ge58
  have K71 : Keep h0 h71 [] := K69.wr W71 (Or.inr sz58)
  have Z71 : n0 ≤ h71.size := Nat.le_trans Z69 (Nat.le_of_eq W71.size.symm)
  have V71' : Arv Z h71 b58 k58 .byte (5 : Int32) [(.int (((48 : Int32) + (d.toInt32)).toInt8.toInt32)), (.int (46 : Int32)), (.int (48 : Int32)), (.int (69 : Int32)), (.int (0 : Int32))] (.int (0 : Int32)) := by have q := V71; first | (rw [show nar .byte (69 : Int32) = (69 : Int32) from by decide] at q; exact q) | (rw [show (69 : Int32).toInt8.toInt32 = (69 : Int32) from by decide] at q; exact q)
  refine own_cs [] 124 st71 ?_
  refine own_tp (.int (0 : Int32)) 126 (fun _ q => XS.iload X71.here hx rfl (hb hby dp10m5_124) rfl q) ?_
  refine own_d1 141 (fun _ q => XS.ifYes X71.here hx rfl (pc0 := 126) (pc' := 141) rfl (hb hby dp10m5_126) rfl ((if0 _ _).trans (flt (by decide : ¬ ((0 : Int32) < (0 : Int32)))).2.1) (by decide) (by decide) q) ?_
  refine own_tp (.ref b58) 143 (fun _ q => XS.aload X71.here hx rfl (hb hby dp10m5_141) rfl rfl q) ?_
  refine own_tp (.int (4 : Int32)) 145 (fun _ q => XS.iload X71.here hx rfl (hb hby dp10m5_143) rfl q) ?_
  refine own_tp (.int (1 : Int32)) 147 (fun _ q => XS.iload X71.here hx rfl (hb hby dp10m5_145) rfl q) ?_
  refine own_tp (.int (0 : Int32)) 149 (fun _ q => XS.iload X71.here hx rfl (hb hby dp10m5_147) rfl q) ?_
  obtain ⟨Lz72, Xz72, Nz72⟩ : ∃ Lz, Stand p l e own_R_4_3_14_60 s m #[(.int (0 : Int32)), (.long d), (.int (1 : Int32)), (.int (0 : Int32))] below meth c T71 Lz 1 5 ∧ Fr n0 Lz := ⟨_, X71, N71⟩
  obtain ⟨_, _, ⟨T73, L73, k73, n73⟩, -, X73, ⟨Lc73, hQ73, l73, y73, z73⟩, st73⟩ := Jvm.LawKit.callS Xz72 hx (y := (⟨"java/lang/Math", "abs", "(I)I"⟩ : MethodName)) hown (mvT hZ (own_w hw 109 rfl)) (mvT hZ (own_w hw 110 rfl)) (mvT hZ (own_w hw 107 rfl)) (mvT hZ (own_w hw 111 rfl)) (by decide) (backOf (W := 3) (rm15 l Z a0 hw [] h71 n0) hZ (own_w hw 111 rfl) (own_w hw 107 rfl) (by decide) (by decide)) (g := (mkF m 149 L_59 [(.int (0 : Int32)), (.int (1 : Int32)), (.int (4 : Int32)), (.ref b58)])) rfl (by rw [hml]; rfl) (argsL := [(.int (0 : Int32))]) (rest := [(.int (1 : Int32)), (.int (4 : Int32)), (.ref b58)]) (lenOf pd7 rfl) rfl (by show 2 * 0 + _ ≤ _; exact Nat.le_of_eq rfl) (hb hby dp10m5_149) (fun _ _ => ⟨rfl, e71, (by decide : 1 + 0 ≤ _), (by decide : 5 + 0 ≤ _)⟩)
  dsimp only [Pt.U, Pt.locs, Pt.cells, Pt.slots] at X73 l73 y73 z73 st73 hQ73
  subst l73 y73 z73
  obtain ⟨rfl, Nq73, eq73⟩ := hQ73
  have N73 := Fr.app Nz72 Nq73
  refine own_d0 152 st73 ?_
  refine own_t1 (.long ((0 : Int32).toInt64)) 153 (fun _ q => XS.i2l X73.here hx rfl (hb hby dp10m5_152) rfl q) ?_
  obtain ⟨_, _, ⟨T74, L74, k74, n74⟩, -, X74, ⟨Lc74, hQ74, l74, y74, z74⟩, st74⟩ := Jvm.LawKit.callS X73 hx (y := (⟨"com/example/unit_step/unitstep/DecimalLayout", "putDigits", "([BIIJ)V"⟩ : MethodName)) hown (mvT hZ (own_w hw 112 rfl)) (mvT hZ (own_w hw 113 rfl)) (mvT hZ (own_w hw 87 rfl)) (mvT hZ (own_w hw 114 rfl)) (by decide) (backOf (W := 0) (rm17 l Z a0 hw [] b58 k58 (.int (((48 : Int32) + (d.toInt32)).toInt8.toInt32)) (.int (46 : Int32)) (.int (48 : Int32)) (.int (69 : Int32)) (.int (0 : Int32)) ((0 : Int32).toInt64) h71 n0 Z71 ge58 O71 V71') hZ (own_w hw 114 rfl) (own_w hw 87 rfl) (by decide) (by decide)) (g := (mkF m 153 L_59 [(.long ((0 : Int32).toInt64)), (.int (1 : Int32)), (.int (4 : Int32)), (.ref b58)])) rfl (by rw [hml]; rfl) (argsL := [(.ref b58), (.int (4 : Int32)), (.int (1 : Int32)), (.long ((0 : Int32).toInt64))]) (rest := []) (lenOf pd15 rfl) rfl (by show 2 * 0 + _ ≤ _; exact Nat.le_of_eq rfl) (hb hby dp10m5_153) (fun _ _ => ⟨rfl, eq73, (by decide : 1 + 0 ≤ _), (by decide : 5 + 0 ≤ _)⟩)
  dsimp only [Pt.U, Pt.locs, Pt.cells, Pt.slots] at X74 l74 y74 z74 st74 hQ74
  subst l74 y74 z74
  obtain ⟨rfl, Nq74, Kp74, V74⟩ := hQ74
  have N74 := Fr.app N73 Nq74
  have O74 := Old.keep O71 Kp74 (allS ge58 all0)
  have Z74 : n0 ≤ T74.heap.size := Nat.le_trans Z71 Kp74.1
  have K74 : Keep h0 T74.heap [] := Keep.trans K71 Kp74 (allS (Or.inr sz58) all0)
  refine own_cs [] 156 st74 ?_
  refine own_tp (.ref b58) 158 (fun _ q => XS.aload X74.here hx rfl (hb hby dp10m5_156) rfl rfl q) ?_
  have f75 := (((((((EX58.wr W61).keep Kp62).wr W65).wr W67).wr W69).wr W71).keep Kp74)
  obtain ⟨_, _, ⟨T76, L76, k76, n76⟩, -, X76, ⟨Lc76, hQ76, l76, y76, z76⟩, st76⟩ := Jvm.LawKit.callS X74 hx (y := (⟨"com/example/unit_step/unitstep/DecimalLayout", "toText", "([B)Ljava/lang/String;"⟩ : MethodName)) hown (mvT hZ (own_w hw 115 rfl)) (mvT hZ (own_w hw 116 rfl)) (mvT hZ (own_w hw 87 rfl)) (mvT hZ (own_w hw 117 rfl)) (by decide) (backOf (W := 0) (rm24 l Z a0 hw [] b58 k58 (.int (((48 : Int32) + (d.toInt32)).toInt8.toInt32)) (.int (46 : Int32)) (.int (48 : Int32)) (.int (69 : Int32)) (.int (((48 : Int32) + (((0 : Int32).toInt64).toInt32)).toInt8.toInt32)) T74.heap n0 G1 P5 O74 Sc G3 rG3 Sf Z74 V74 f75) hZ (own_w hw 117 rfl) (own_w hw 87 rfl) (by decide) (by decide)) (g := (mkF m 158 L_59 [(.ref b58)])) rfl (by rw [hml]; rfl) (argsL := [(.ref b58)]) (rest := []) (lenOf pd16 rfl) rfl (by show 2 * 0 + _ ≤ _; exact Nat.le_of_eq rfl) (hb hby dp10m5_158) (fun _ _ => ⟨rfl, rfl, (by decide : 1 + 2 ≤ _), (by decide : 5 + 9 ≤ _)⟩)
  dsimp only [Pt.U, Pt.locs, Pt.cells, Pt.slots] at X76 l76 y76 z76 st76 hQ76
  subst l76 y76 z76
  obtain ⟨sa76, sb76, sk76, rfl, Nq76, Kp76, Es76, Cs76, Ls76, Vs76⟩ := hQ76
  have N76 := Fr.app N74 Nq76
  have O76 := Old.keep O74 Kp76 all0
  have Z76 : n0 ≤ T76.heap.size := Nat.le_trans Z74 Kp76.1
  have K76 : Keep h0 T76.heap [] := Keep.trans K74 Kp76 all0
  refine own_t1 (.ref sa76) 161 st76 ?_
  exact own_retR X76 hx hrt (hb hby dp10m5_161) rfl rfl hlk (by decide) (by decide) rfl (⟨sa76, sb76, _, rfl, N76, K76, Es76, Cs76, Ls76, Vs76⟩)

set_option maxRecDepth 65536 in
set_option maxHeartbeats 40000000 in
theorem rm31 (l : Launch) (Z : State) (a0 : Array Value) (hw : ∀ d ∈ tables_1, d.before a0 Z = true) (ws : List Jvm.Cond) (d : Int64) (h0 : Heap) (n0 : Nat) (G1 : Int32) (P5 : ¬ G1 = (0 : Int32)) (O0 : Old Z n0 h0) (Sc : Sta Z Z.heap "java/lang/String" "COMPACT_STRINGS" "Z" (.int G1)) (G3 : Value) (rG3 : G3.isRef = true) (Sf : Sta Z Z.heap "jdk/internal/util/Preconditions" "SIOOBE_FORMATTER" "Ljava/util/function/BiFunction;" G3) (dg : Addr) (kd : ClassId) (ex : Addr) (kx : ClassId) (TB : own_TB Z dg kd ex kx) (Z0 : n0 ≤ h0.size) (hd : own_D d) :
    own_Met l (⟨"com/example/unit_step/unitstep/FloatingPointLayout", "write", "(ZJIZ)Ljava/lang/String;"⟩ : MethodName) prog_10_method_2_code 11 (some (.object "java/lang/String")) ws own_R_5_3_14_81 Z #[(.int (0 : Int32)), (.long d), (.int (0 : Int32)), (.int (1 : Int32))] h0 (own_RS Z (5 : Int32) [(.int (((48 : Int32) + (d.toInt32)).toInt8.toInt32)), (.int (46 : Int32)), (.int (48 : Int32)), (.int (69 : Int32)), (.int (((48 : Int32) + (((0 : Int32).toInt64).toInt32)).toInt8.toInt32))] h0 n0) := by
  refine own_enter #[.val (.int (0 : Int32)), .val (.long d), .second, .val (.int (0 : Int32)), .val (.int (1 : Int32)), .unset, .unset, .unset, .unset, .unset, .unset] (plainFor_of_name pn_com_example_unit_step_unitstep_FloatingPointLayout) (fun m => ef_IJII_11 m (0 : Int32) d (0 : Int32) (1 : Int32)) ?_
  intro p e s m below meth c s₁ hx hby hml hown hnm hZ hrt hlk X0 e0
  have N0 := Fr.nil n0
  refine own_tp (.long d) 1 (fun _ q => XS.lloadN X0.here hx rfl (hb hby dp10m2_0) rfl q) ?_
  let L_51 : Array Slot := #[.val (.int (0 : Int32)), .val (.long d), .second, .val (.int (0 : Int32)), .val (.int (1 : Int32)), .val (.long d), .second, .unset, .unset, .unset, .unset]
  refine own_ls L_51 3 (fun _ q => XS.lstore X0.here hx rfl (hb hby dp10m2_1) rfl (l' := L_51) rfl q) ?_
  refine own_tp (.int (0 : Int32)) 4 (fun _ q => XS.iloadN X0.here hx rfl (hb hby dp10m2_3) rfl q) ?_
  let L_52 : Array Slot := #[.val (.int (0 : Int32)), .val (.long d), .second, .val (.int (0 : Int32)), .val (.int (1 : Int32)), .val (.long d), .second, .val (.int (0 : Int32)), .unset, .unset, .unset]
  refine own_ls L_52 6 (fun _ q => XS.istore X0.here hx rfl (hb hby dp10m2_4) rfl (l' := L_52) rfl q) ?_
  refine own_tp (.long d) 8 (fun _ q => XS.lload X0.here hx rfl (hb hby dp10m2_6) rfl q) ?_
  refine own_tp (.long (10 : Int64)) 11 (fun _ q => X0.ldc2Long hx hown (mvT hZ (own_w hw 84 rfl)) (g := (mkF m 8 L_52 [(.long d)])) rfl (hb hby dp10m2_8) _ q) ?_
  refine own_t2 (.long (d - ((d / (10 : Int64)) * (10 : Int64)))) 12 (fun _ q => XS.lrem X0.here hx rfl (hb hby dp10m2_11) rfl (by decide) q) ?_
  refine own_tp (.long (0 : Int64)) 13 (fun _ q => XS.lconst X0.here hx rfl (hb hby dp10m2_12) q) ?_
  refine own_t2 (.int (lcmpW (d - ((d / (10 : Int64)) * (10 : Int64))) (0 : Int64))) 14 (fun _ q => XS.lcmp X0.here hx rfl (hb hby dp10m2_13) rfl q) ?_
  refine own_d1 31 (fun _ q => XS.ifYes X0.here hx rfl (pc0 := 14) (pc' := 31) rfl (hb hby dp10m2_14) rfl ((if0 _ _).trans (feq (own_rem hd)).2) (by decide) (by decide) q) ?_
  refine own_tp (.long d) 33 (fun _ q => XS.lload X0.here hx rfl (hb hby dp10m2_31) rfl q) ?_
  obtain ⟨_, _, ⟨T53, L53, k53, n53⟩, -, X53, ⟨Lc53, hQ53, l53, y53, z53⟩, st53⟩ := Jvm.LawKit.callS X0 hx (y := (⟨"com/example/unit_step/unitstep/DecimalLayout", "digitCount", "(J)I"⟩ : MethodName)) hown (mvT hZ (own_w hw 85 rfl)) (mvT hZ (own_w hw 86 rfl)) (mvT hZ (own_w hw 87 rfl)) (mvT hZ (own_w hw 88 rfl)) (by decide) (backOf (W := 0) (rm13 l Z a0 hw [] d h0 n0 (own_DD hd) O0 dg kd ex kx TB) hZ (own_w hw 88 rfl) (own_w hw 87 rfl) (by decide) (by decide)) (g := (mkF m 33 L_52 [(.long d)])) rfl (by rw [hml]; rfl) (argsL := [(.long d)]) (rest := []) (lenOf pd8 rfl) rfl (by show 2 * 0 + _ ≤ _; exact Nat.le_of_eq rfl) (hb hby dp10m2_33) (fun _ _ => ⟨rfl, e0, (by decide : 0 + 0 ≤ _), (by decide : 0 + 0 ≤ _)⟩)
  dsimp only [Pt.U, Pt.locs, Pt.cells, Pt.slots] at X53 l53 y53 z53 st53 hQ53
  subst l53 y53 z53
  obtain ⟨rfl, Nq53, eq53⟩ := hQ53
  have N53 := Fr.app N0 Nq53
  refine own_t1 (.int (1 : Int32)) 36 st53 ?_
  let L_54 : Array Slot := #[.val (.int (0 : Int32)), .val (.long d), .second, .val (.int (0 : Int32)), .val (.int (1 : Int32)), .val (.long d), .second, .val (.int (0 : Int32)), .val (.int (1 : Int32)), .unset, .unset]
  refine own_ls L_54 38 (fun _ q => XS.istore X53.here hx rfl (hb hby dp10m2_36) rfl (l' := L_54) rfl q) ?_
  refine own_tp (.int (0 : Int32)) 40 (fun _ q => XS.iload X53.here hx rfl (hb hby dp10m2_38) rfl q) ?_
  refine own_tp (.int (1 : Int32)) 42 (fun _ q => XS.iload X53.here hx rfl (hb hby dp10m2_40) rfl q) ?_
  refine own_t2 (.int (1 : Int32)) 43 (fun _ q => XS.iadd X53.here hx rfl (hb hby dp10m2_42) rfl q) ?_
  refine own_tp (.int (1 : Int32)) 44 (fun _ q => XS.iconst X53.here hx rfl (hb hby dp10m2_43) q) ?_
  refine own_t2 (.int (0 : Int32)) 45 (fun _ q => XS.isub X53.here hx rfl (hb hby dp10m2_44) rfl q) ?_
  let L_55 : Array Slot := #[.val (.int (0 : Int32)), .val (.long d), .second, .val (.int (0 : Int32)), .val (.int (1 : Int32)), .val (.long d), .second, .val (.int (0 : Int32)), .val (.int (1 : Int32)), .val (.int (0 : Int32)), .unset]
  refine own_ls L_55 47 (fun _ q => XS.istore X53.here hx rfl (hb hby dp10m2_45) rfl (l' := L_55) rfl q) ?_
  refine own_tp (.int (1 : Int32)) 49 (fun _ q => XS.iload X53.here hx rfl (hb hby dp10m2_47) rfl q) ?_
  refine own_d1 65 (fun _ q => XS.ifYes X53.here hx rfl (pc0 := 49) (pc' := 65) rfl (hb hby dp10m2_49) rfl ((if0 _ _).trans (feq (by decide : ¬ ((1 : Int32) = (0 : Int32)))).2) (by decide) (by decide) q) ?_
  refine own_tp (.int (0 : Int32)) 66 (fun _ q => XS.iloadN X53.here hx rfl (hb hby dp10m2_65) rfl q) ?_
  refine own_tp (.long d) 68 (fun _ q => XS.lload X53.here hx rfl (hb hby dp10m2_66) rfl q) ?_
  refine own_tp (.int (1 : Int32)) 70 (fun _ q => XS.iload X53.here hx rfl (hb hby dp10m2_68) rfl q) ?_
  refine own_tp (.int (0 : Int32)) 72 (fun _ q => XS.iload X53.here hx rfl (hb hby dp10m2_70) rfl q) ?_
  obtain ⟨_, _, ⟨T56, L56, k56, n56⟩, -, X56, ⟨Lc56, hQ56, l56, y56, z56⟩, st56⟩ := Jvm.LawKit.callS X53 hx (y := (⟨"com/example/unit_step/unitstep/FloatingPointLayout", "scientific", "(ZJII)Ljava/lang/String;"⟩ : MethodName)) hown (mvT hZ (own_w hw 102 rfl)) (mvT hZ (own_w hw 103 rfl)) (mvT hZ (own_w hw 3 rfl)) (mvT hZ (own_w hw 104 rfl)) (by decide) (backOf (W := 0) (rm30 l Z a0 hw [] d h0 n0 G1 P5 O0 Sc G3 rG3 Sf dg kd ex kx TB Z0 hd) hZ (own_w hw 104 rfl) (own_w hw 3 rfl) (by decide) (by decide)) (g := (mkF m 72 L_55 [(.int (0 : Int32)), (.int (1 : Int32)), (.long d), (.int (0 : Int32))])) rfl (by rw [hml]; rfl) (argsL := [(.int (0 : Int32)), (.long d), (.int (1 : Int32)), (.int (0 : Int32))]) (rest := []) (lenOf pd17 rfl) rfl (by show 2 * 0 + _ ≤ _; exact Nat.le_of_eq rfl) (hb hby dp10m2_72) (fun _ _ => ⟨rfl, eq53, (by decide : 0 + 3 ≤ _), (by decide : 0 + 14 ≤ _)⟩)
  dsimp only [Pt.U, Pt.locs, Pt.cells, Pt.slots] at X56 l56 y56 z56 st56 hQ56
  subst l56 y56 z56
  obtain ⟨sa56, sb56, sk56, rfl, Nq56, Kp56, Es56, Cs56, Ls56, Vs56⟩ := hQ56
  have N56 := Fr.app N53 Nq56
  have O56 := Old.keep O0 Kp56 all0
  have Z56 : n0 ≤ T56.heap.size := Nat.le_trans Z0 Kp56.1
  have K56 : Keep h0 T56.heap [] := Keep.trans (Keep.refl h0 []) Kp56 all0
  refine own_cs [(.ref sa56)] 75 st56 ?_
  let L_57 : Array Slot := #[.val (.int (0 : Int32)), .val (.long d), .second, .val (.int (0 : Int32)), .val (.int (1 : Int32)), .val (.long d), .second, .val (.int (0 : Int32)), .val (.int (1 : Int32)), .val (.int (0 : Int32)), .val (.ref sa56)]
  refine own_ls L_57 77 (fun _ q => XS.astore X56.here hx rfl (hb hby dp10m2_75) rfl rfl (l' := L_57) rfl q) ?_
  refine own_d0 91 (fun _ q => XS.goto X56.here hx rfl (pc0 := 77) (pc' := 91) rfl (hb hby dp10m2_77) (by decide) (by decide) q) ?_
  refine own_tp (.ref sa56) 93 (fun _ q => XS.aload X56.here hx rfl (hb hby dp10m2_91) rfl rfl q) ?_
  exact own_retR X56 hx hrt (hb hby dp10m2_93) rfl rfl hlk (by decide) (by decide) rfl (⟨sa56, sb56, _, rfl, N56, K56, Es56, Cs56, Ls56, Vs56⟩)

set_option maxRecDepth 65536 in
set_option maxHeartbeats 40000000 in
theorem rm32 (l : Launch) (Z : State) (a0 : Array Value) (hw : ∀ d ∈ tables_1, d.before a0 Z = true) (ws : List Jvm.Cond) (d : Int64) (h0 : Heap) (n0 : Nat) (G1 : Int32) (P5 : ¬ G1 = (0 : Int32)) (O0 : Old Z n0 h0) (Sc : Sta Z Z.heap "java/lang/String" "COMPACT_STRINGS" "Z" (.int G1)) (G3 : Value) (rG3 : G3.isRef = true) (Sf : Sta Z Z.heap "jdk/internal/util/Preconditions" "SIOOBE_FORMATTER" "Ljava/util/function/BiFunction;" G3) (dg : Addr) (kd : ClassId) (ex : Addr) (kx : ClassId) (TB : own_TB Z dg kd ex kx) (Z0 : n0 ≤ h0.size) (hd : own_D d) :
    own_Met l (⟨"com/example/unit_step/unitstep/FloatingPointLayout", "scientific", "(ZJII)Ljava/lang/String;"⟩ : MethodName) prog_10_method_5_code 10 (some (.object "java/lang/String")) ws own_R_4_3_16_60 Z #[(.int (1 : Int32)), (.long d), (.int (1 : Int32)), (.int (0 : Int32))] h0 (own_RS Z (6 : Int32) [(.int (45 : Int32)), (.int (((48 : Int32) + (d.toInt32)).toInt8.toInt32)), (.int (46 : Int32)), (.int (48 : Int32)), (.int (69 : Int32)), (.int (((48 : Int32) + (((0 : Int32).toInt64).toInt32)).toInt8.toInt32))] h0 n0) := by
  refine own_enter #[.val (.int (1 : Int32)), .val (.long d), .second, .val (.int (1 : Int32)), .val (.int (0 : Int32)), .unset, .unset, .unset, .unset, .unset] (plainFor_of_name pn_com_example_unit_step_unitstep_FloatingPointLayout) (fun m => ef_IJII_10 m (1 : Int32) d (1 : Int32) (0 : Int32)) ?_
  intro p e s m below meth c s₁ hx hby hml hown hnm hZ hrt hlk X0 e0
  have N0 := Fr.nil n0
  refine own_tp (.int (1 : Int32)) 1 (fun _ q => XS.iloadN X0.here hx rfl (hb hby dp10m5_0) rfl q) ?_
  refine own_d1 4 (fun _ q => XS.ifNo X0.here hx rfl (hb hby dp10m5_1) rfl ((if0 _ _).trans (feq (by decide : ¬ ((1 : Int32) = (0 : Int32)))).1) q) ?_
  refine own_tp (.int (1 : Int32)) 5 (fun _ q => XS.iconst X0.here hx rfl (hb hby dp10m5_4) q) ?_
  refine own_d0 9 (fun _ q => XS.goto X0.here hx rfl (pc0 := 5) (pc' := 9) rfl (hb hby dp10m5_5) (by decide) (by decide) q) ?_
  let L_51 : Array Slot := #[.val (.int (1 : Int32)), .val (.long d), .second, .val (.int (1 : Int32)), .val (.int (0 : Int32)), .val (.int (1 : Int32)), .unset, .unset, .unset, .unset]
  refine own_ls L_51 11 (fun _ q => XS.istore X0.here hx rfl (hb hby dp10m5_9) rfl (l' := L_51) rfl q) ?_
  refine own_tp (.int (1 : Int32)) 12 (fun _ q => XS.iloadN X0.here hx rfl (hb hby dp10m5_11) rfl q) ?_
  refine own_tp (.int (1 : Int32)) 13 (fun _ q => XS.iconst X0.here hx rfl (hb hby dp10m5_12) q) ?_
  refine own_t2 (.int (0 : Int32)) 14 (fun _ q => XS.isub X0.here hx rfl (hb hby dp10m5_13) rfl q) ?_
  refine own_tp (.int (1 : Int32)) 15 (fun _ q => XS.iconst X0.here hx rfl (hb hby dp10m5_14) q) ?_
  obtain ⟨_, _, ⟨T52, L52, k52, n52⟩, -, X52, ⟨Lc52, hQ52, l52, y52, z52⟩, st52⟩ := Jvm.LawKit.callS X0 hx (y := (⟨"java/lang/Math", "max", "(II)I"⟩ : MethodName)) hown (mvT hZ (own_w hw 105 rfl)) (mvT hZ (own_w hw 106 rfl)) (mvT hZ (own_w hw 107 rfl)) (mvT hZ (own_w hw 108 rfl)) (by decide) (backOf (W := 0) (rm14 l Z a0 hw [] h0 n0) hZ (own_w hw 108 rfl) (own_w hw 107 rfl) (by decide) (by decide)) (g := (mkF m 15 L_51 [(.int (1 : Int32)), (.int (0 : Int32))])) rfl (by rw [hml]; rfl) (argsL := [(.int (0 : Int32)), (.int (1 : Int32))]) (rest := []) (lenOf pd14 rfl) rfl (by show 2 * 0 + _ ≤ _; exact Nat.le_of_eq rfl) (hb hby dp10m5_15) (fun _ _ => ⟨rfl, e0, (by decide : 0 + 0 ≤ _), (by decide : 0 + 0 ≤ _)⟩)
  dsimp only [Pt.U, Pt.locs, Pt.cells, Pt.slots] at X52 l52 y52 z52 st52 hQ52
  subst l52 y52 z52
  obtain ⟨rfl, Nq52, eq52⟩ := hQ52
  have N52 := Fr.app N0 Nq52
  refine own_t2 (.int (1 : Int32)) 18 st52 ?_
  let L_53 : Array Slot := #[.val (.int (1 : Int32)), .val (.long d), .second, .val (.int (1 : Int32)), .val (.int (0 : Int32)), .val (.int (1 : Int32)), .val (.int (1 : Int32)), .unset, .unset, .unset]
  refine own_ls L_53 20 (fun _ q => XS.istore X52.here hx rfl (hb hby dp10m5_18) rfl (l' := L_53) rfl q) ?_
  refine own_tp (.int (1 : Int32)) 22 (fun _ q => XS.iload X52.here hx rfl (hb hby dp10m5_20) rfl q) ?_
  refine own_tp (.int (3 : Int32)) 23 (fun _ q => XS.iconst X52.here hx rfl (hb hby dp10m5_22) q) ?_
  refine own_t2 (.int (4 : Int32)) 24 (fun _ q => XS.iadd X52.here hx rfl (hb hby dp10m5_23) rfl q) ?_
  refine own_tp (.int (1 : Int32)) 26 (fun _ q => XS.iload X52.here hx rfl (hb hby dp10m5_24) rfl q) ?_
  refine own_t2 (.int (5 : Int32)) 27 (fun _ q => XS.iadd X52.here hx rfl (hb hby dp10m5_26) rfl q) ?_
  refine own_tp (.int (0 : Int32)) 29 (fun _ q => XS.iload X52.here hx rfl (hb hby dp10m5_27) rfl q) ?_
  refine own_d1 36 (fun _ q => XS.ifYes X52.here hx rfl (pc0 := 29) (pc' := 36) rfl (hb hby dp10m5_29) rfl ((if0 _ _).trans (flt (by decide : ¬ ((0 : Int32) < (0 : Int32)))).2.1) (by decide) (by decide) q) ?_
  refine own_tp (.int (0 : Int32)) 37 (fun _ q => XS.iconst X52.here hx rfl (hb hby dp10m5_36) q) ?_
  refine own_d1 38 (fun _ q => XS.iadd X52.here hx rfl (hb hby dp10m5_37) rfl q) ?_
  let L_54 : Array Slot := #[.val (.int (1 : Int32)), .val (.long d), .second, .val (.int (1 : Int32)), .val (.int (0 : Int32)), .val (.int (1 : Int32)), .val (.int (1 : Int32)), .val (.int (5 : Int32)), .unset, .unset]
  refine own_ls L_54 40 (fun _ q => XS.istore X52.here hx rfl (hb hby dp10m5_38) rfl (l' := L_54) rfl q) ?_
  refine own_tp (.int (0 : Int32)) 42 (fun _ q => XS.iload X52.here hx rfl (hb hby dp10m5_40) rfl q) ?_
  obtain ⟨_, _, ⟨T55, L55, k55, n55⟩, -, X55, ⟨Lc55, hQ55, l55, y55, z55⟩, st55⟩ := Jvm.LawKit.callS X52 hx (y := (⟨"java/lang/Math", "abs", "(I)I"⟩ : MethodName)) hown (mvT hZ (own_w hw 109 rfl)) (mvT hZ (own_w hw 110 rfl)) (mvT hZ (own_w hw 107 rfl)) (mvT hZ (own_w hw 111 rfl)) (by decide) (backOf (W := 0) (rm15 l Z a0 hw [] h0 n0) hZ (own_w hw 111 rfl) (own_w hw 107 rfl) (by decide) (by decide)) (g := (mkF m 42 L_54 [(.int (0 : Int32))])) rfl (by rw [hml]; rfl) (argsL := [(.int (0 : Int32))]) (rest := []) (lenOf pd7 rfl) rfl (by show 2 * 0 + _ ≤ _; exact Nat.le_of_eq rfl) (hb hby dp10m5_42) (fun _ _ => ⟨rfl, eq52, (by decide : 0 + 0 ≤ _), (by decide : 0 + 0 ≤ _)⟩)
  dsimp only [Pt.U, Pt.locs, Pt.cells, Pt.slots] at X55 l55 y55 z55 st55 hQ55
  subst l55 y55 z55
  obtain ⟨rfl, Nq55, eq55⟩ := hQ55
  have N55 := Fr.app N52 Nq55
  refine own_d0 45 st55 ?_
  refine own_t1 (.long ((0 : Int32).toInt64)) 46 (fun _ q => XS.i2l X55.here hx rfl (hb hby dp10m5_45) rfl q) ?_
  obtain ⟨_, _, ⟨T56, L56, k56, n56⟩, -, X56, ⟨Lc56, hQ56, l56, y56, z56⟩, st56⟩ := Jvm.LawKit.callS X55 hx (y := (⟨"com/example/unit_step/unitstep/DecimalLayout", "digitCount", "(J)I"⟩ : MethodName)) hown (mvT hZ (own_w hw 85 rfl)) (mvT hZ (own_w hw 86 rfl)) (mvT hZ (own_w hw 87 rfl)) (mvT hZ (own_w hw 88 rfl)) (by decide) (backOf (W := 0) (rm13 l Z a0 hw [] ((0 : Int32).toInt64) h0 n0 (Or.inl (by decide)) O0 dg kd ex kx TB) hZ (own_w hw 88 rfl) (own_w hw 87 rfl) (by decide) (by decide)) (g := (mkF m 46 L_54 [(.long ((0 : Int32).toInt64))])) rfl (by rw [hml]; rfl) (argsL := [(.long ((0 : Int32).toInt64))]) (rest := []) (lenOf pd8 rfl) rfl (by show 2 * 0 + _ ≤ _; exact Nat.le_of_eq rfl) (hb hby dp10m5_46) (fun _ _ => ⟨rfl, eq55, (by decide : 0 + 0 ≤ _), (by decide : 0 + 0 ≤ _)⟩)
  dsimp only [Pt.U, Pt.locs, Pt.cells, Pt.slots] at X56 l56 y56 z56 st56 hQ56
  subst l56 y56 z56
  obtain ⟨rfl, Nq56, eq56⟩ := hQ56
  have N56 := Fr.app N55 Nq56
  refine own_t1 (.int (1 : Int32)) 49 st56 ?_
  let L_57 : Array Slot := #[.val (.int (1 : Int32)), .val (.long d), .second, .val (.int (1 : Int32)), .val (.int (0 : Int32)), .val (.int (1 : Int32)), .val (.int (1 : Int32)), .val (.int (5 : Int32)), .val (.int (1 : Int32)), .unset]
  refine own_ls L_57 51 (fun _ q => XS.istore X56.here hx rfl (hb hby dp10m5_49) rfl (l' := L_57) rfl q) ?_
  refine own_tp (.int (5 : Int32)) 53 (fun _ q => XS.iload X56.here hx rfl (hb hby dp10m5_51) rfl q) ?_
  refine own_tp (.int (1 : Int32)) 55 (fun _ q => XS.iload X56.here hx rfl (hb hby dp10m5_53) rfl q) ?_
  refine own_t2 (.int (6 : Int32)) 56 (fun _ q => XS.iadd X56.here hx rfl (hb hby dp10m5_55) rfl q) ?_
  obtain ⟨T58, h58, k58, X58, e58, E58, A58, EX58, st58⟩ := newPE X56 hx hZ (own_w hw 8 rfl) eq56 (g := (mkF m 56 L_57 [(.int (6 : Int32))])) rfl (hb hby dp10m5_56) rfl (by decide) (cap := 6) (by decide) (by decide) (by decide) (by decide) (ad := "[B") (by decide)
  obtain ⟨b58, g58⟩ : ∃ z, z = h0.size := ⟨_, rfl⟩
  rw [← g58] at A58 st58 EX58
  have V58 : Arv Z h58 b58 k58 .byte (6 : Int32) [(.int (0 : Int32)), (.int (0 : Int32)), (.int (0 : Int32)), (.int (0 : Int32)), (.int (0 : Int32)), (.int (0 : Int32))] (.int (0 : Int32)) := (Arv.new A58 (by decide)).pad (pad_rep [] (.int (0 : Int32)) 6)
  have ge58 : n0 ≤ b58 := Nat.le_trans Z0 (Nat.le_of_eq g58.symm)
  have sz58 : h0.size ≤ b58 := Nat.le_trans (Keep.refl h0 []).1 (Nat.le_of_eq g58.symm)
  have O58 := Old.ext O0 E58
  have K58 : Keep h0 h58 [] := (Keep.refl h0 []).ext E58
  have Z58 : n0 ≤ h58.size := Nat.le_trans Z0 E58.1
  refine own_t1 (.ref b58) 58 st58 ?_
  let L_59 : Array Slot := #[.val (.int (1 : Int32)), .val (.long d), .second, .val (.int (1 : Int32)), .val (.int (0 : Int32)), .val (.int (1 : Int32)), .val (.int (1 : Int32)), .val (.int (5 : Int32)), .val (.int (1 : Int32)), .val (.ref b58)]
  refine own_ls L_59 60 (fun _ q => XS.astore X58.here hx rfl (hb hby dp10m5_58) rfl rfl (l' := L_59) rfl q) ?_
  refine own_tp (.ref b58) 62 (fun _ q => XS.aload X58.here hx rfl (hb hby dp10m5_60) rfl rfl q) ?_
  refine own_tp (.int (0 : Int32)) 63 (fun _ q => XS.iconst X58.here hx rfl (hb hby dp10m5_62) q) ?_
  refine own_tp (.int (45 : Int32)) 65 (fun _ q => XS.bipush X58.here hx rfl (hb hby dp10m5_63) q) ?_
  obtain ⟨cl60, Ar60, q60, S60, Nn60, H60, G60⟩ := (id V58)
  have hin60 : ¬ ((0 : Int32) < 0 ∨ cl60.slots.size ≤ ((0 : Int32)).toNatClampNeg) := inb_of S60 ⟨by decide, by decide⟩
  obtain ⟨T61, h61, X61, e61, W61, st61⟩ := stB X58 hx hZ e58 Ar60 (j := (0 : Int32)) hin60 (g := (mkF m 65 L_59 [(.int (45 : Int32)), (.int (0 : Int32)), (.ref b58)])) rfl rfl (hb hby dp10m5_65)
  have V61 := Arv.set Ar60 q60 S60 Nn60 H60 G60 (fits_nar_byte _) W61 0 rfl (Nat.le_of_ble_eq_true rfl)
  have N61 := Fr.snoc X61 N56 ge58
  have O61 := Old.wr O58 W61 ge58
  have K61 : Keep h0 h61 [] := K58.wr W61 (Or.inr sz58)
  have Z61 : n0 ≤ h61.size := Nat.le_trans Z58 (Nat.le_of_eq W61.size.symm)
  have V61' : Arv Z h61 b58 k58 .byte (6 : Int32) [(.int (45 : Int32)), (.int (0 : Int32)), (.int (0 : Int32)), (.int (0 : Int32)), (.int (0 : Int32)), (.int (0 : Int32))] (.int (0 : Int32)) := by have q := V61; first | (rw [show nar .byte (45 : Int32) = (45 : Int32) from by decide] at q; exact q) | (rw [show (45 : Int32).toInt8.toInt32 = (45 : Int32) from by decide] at q; exact q)
  refine own_cs [] 66 st61 ?_
  refine own_tp (.ref b58) 68 (fun _ q => XS.aload X61.here hx rfl (hb hby dp10m5_66) rfl rfl q) ?_
  refine own_tp (.int (1 : Int32)) 70 (fun _ q => XS.iload X61.here hx rfl (hb hby dp10m5_68) rfl q) ?_
  refine own_tp (.int (1 : Int32)) 71 (fun _ q => XS.iconst X61.here hx rfl (hb hby dp10m5_70) q) ?_
  refine own_t2 (.int (2 : Int32)) 72 (fun _ q => XS.iadd X61.here hx rfl (hb hby dp10m5_71) rfl q) ?_
  refine own_tp (.int (1 : Int32)) 73 (fun _ q => XS.iloadN X61.here hx rfl (hb hby dp10m5_72) rfl q) ?_
  refine own_tp (.long d) 74 (fun _ q => XS.lloadN X61.here hx rfl (hb hby dp10m5_73) rfl q) ?_
  obtain ⟨_, _, ⟨T62, L62, k62, n62⟩, -, X62, ⟨Lc62, hQ62, l62, y62, z62⟩, st62⟩ := Jvm.LawKit.callS X61 hx (y := (⟨"com/example/unit_step/unitstep/DecimalLayout", "putDigits", "([BIIJ)V"⟩ : MethodName)) hown (mvT hZ (own_w hw 112 rfl)) (mvT hZ (own_w hw 113 rfl)) (mvT hZ (own_w hw 87 rfl)) (mvT hZ (own_w hw 114 rfl)) (by decide) (backOf (W := 0) (rm18 l Z a0 hw [] b58 k58 (.int (45 : Int32)) (.int (0 : Int32)) (.int (0 : Int32)) (.int (0 : Int32)) (.int (0 : Int32)) (.int (0 : Int32)) d h61 n0 Z61 ge58 O61 V61') hZ (own_w hw 114 rfl) (own_w hw 87 rfl) (by decide) (by decide)) (g := (mkF m 74 L_59 [(.long d), (.int (1 : Int32)), (.int (2 : Int32)), (.ref b58)])) rfl (by rw [hml]; rfl) (argsL := [(.ref b58), (.int (2 : Int32)), (.int (1 : Int32)), (.long d)]) (rest := []) (lenOf pd15 rfl) rfl (by show 2 * 0 + _ ≤ _; exact Nat.le_of_eq rfl) (hb hby dp10m5_74) (fun _ _ => ⟨rfl, e61, (by decide : 1 + 0 ≤ _), (by decide : 6 + 0 ≤ _)⟩)
  dsimp only [Pt.U, Pt.locs, Pt.cells, Pt.slots] at X62 l62 y62 z62 st62 hQ62
  subst l62 y62 z62
  obtain ⟨rfl, Nq62, Kp62, V62⟩ := hQ62
  have N62 := Fr.app N61 Nq62
  have O62 := Old.keep O61 Kp62 (allS ge58 all0)
  have Z62 : n0 ≤ T62.heap.size := Nat.le_trans Z61 Kp62.1
  have K62 : Keep h0 T62.heap [] := Keep.trans K61 Kp62 (allS (Or.inr sz58) all0)
  refine own_cs [] 77 st62 ?_
  refine own_tp (.ref b58) 79 (fun _ q => XS.aload X62.here hx rfl (hb hby dp10m5_77) rfl rfl q) ?_
  refine own_tp (.int (1 : Int32)) 81 (fun _ q => XS.iload X62.here hx rfl (hb hby dp10m5_79) rfl q) ?_
  refine own_tp (.ref b58) 83 (fun _ q => XS.aload X62.here hx rfl (hb hby dp10m5_81) rfl rfl q) ?_
  refine own_tp (.int (1 : Int32)) 85 (fun _ q => XS.iload X62.here hx rfl (hb hby dp10m5_83) rfl q) ?_
  refine own_tp (.int (1 : Int32)) 86 (fun _ q => XS.iconst X62.here hx rfl (hb hby dp10m5_85) q) ?_
  refine own_t2 (.int (2 : Int32)) 87 (fun _ q => XS.iadd X62.here hx rfl (hb hby dp10m5_86) rfl q) ?_
  obtain ⟨cl63, Ar63, q63, S63, Nn63, H63, G63⟩ := (id V62)
  have hin63 : ¬ ((2 : Int32) < 0 ∨ cl63.slots.size ≤ ((2 : Int32)).toNatClampNeg) := inb_of S63 ⟨by decide, by decide⟩
  have hat63 : cl63.slots[((2 : Int32)).toNatClampNeg]? = some (.int (((48 : Int32) + (d.toInt32)).toInt8.toInt32)) := H63.at hin63 rfl
  refine own_t2 (.int (((48 : Int32) + (d.toInt32)).toInt8.toInt32)) 88 (fun _ q => X62.baloadBytes hx (j := (2 : Int32)) (v := (.int (((48 : Int32) + (d.toInt32)).toInt8.toInt32))) Ar63.1 (State.isArrayOf_alike hZ.alike Ar63.2.1) Ar63.2.2 hin63 hat63 (g := (mkF m 87 L_59 [(.int (2 : Int32)), (.ref b58), (.int (1 : Int32)), (.ref b58)])) rfl rfl (hb hby dp10m5_87) _ q) ?_
  obtain ⟨cl64, Ar64, q64, S64, Nn64, H64, G64⟩ := (id V62)
  have hin64 : ¬ ((1 : Int32) < 0 ∨ cl64.slots.size ≤ ((1 : Int32)).toNatClampNeg) := inb_of S64 ⟨by decide, by decide⟩
  obtain ⟨T65, h65, X65, e65, W65, st65⟩ := stB X62 hx hZ rfl Ar64 (j := (1 : Int32)) hin64 (g := (mkF m 88 L_59 [(.int (((48 : Int32) + (d.toInt32)).toInt8.toInt32)), (.int (1 : Int32)), (.ref b58)])) rfl rfl (hb hby dp10m5_88)
  have V65 := Arv.set Ar64 q64 S64 Nn64 H64 G64 (fits_nar_byte _) W65 1 rfl (Nat.le_of_ble_eq_true rfl)
  have N65 := Fr.snoc X65 N62 ge58
  have O65 := Old.wr O62 W65 ge58
  have K65 : Keep h0 h65 [] := K62.wr W65 (Or.inr sz58)
  have Z65 : n0 ≤ h65.size := Nat.le_trans Z62 (Nat.le_of_eq W65.size.symm)
  have V65' : Arv Z h65 b58 k58 .byte (6 : Int32) [(.int (45 : Int32)), (.int (((48 : Int32) + (d.toInt32)).toInt8.toInt32)), (.int (((48 : Int32) + (d.toInt32)).toInt8.toInt32)), (.int (0 : Int32)), (.int (0 : Int32)), (.int (0 : Int32))] (.int (0 : Int32)) := by have q := V65; first | (rw [own_nb] at q; exact q) | (rw [own_nb2] at q; exact q)
  refine own_cs [] 89 st65 ?_
  refine own_tp (.ref b58) 91 (fun _ q => XS.aload X65.here hx rfl (hb hby dp10m5_89) rfl rfl q) ?_
  refine own_tp (.int (1 : Int32)) 93 (fun _ q => XS.iload X65.here hx rfl (hb hby dp10m5_91) rfl q) ?_
  refine own_tp (.int (1 : Int32)) 94 (fun _ q => XS.iconst X65.here hx rfl (hb hby dp10m5_93) q) ?_
  refine own_t2 (.int (2 : Int32)) 95 (fun _ q => XS.iadd X65.here hx rfl (hb hby dp10m5_94) rfl q) ?_
  refine own_tp (.int (46 : Int32)) 97 (fun _ q => XS.bipush X65.here hx rfl (hb hby dp10m5_95) q) ?_
  obtain ⟨cl66, Ar66, q66, S66, Nn66, H66, G66⟩ := (id V65')
  have hin66 : ¬ ((2 : Int32) < 0 ∨ cl66.slots.size ≤ ((2 : Int32)).toNatClampNeg) := inb_of S66 ⟨by decide, by decide⟩
  obtain ⟨T67, h67, X67, e67, W67, st67⟩ := stB X65 hx hZ e65 Ar66 (j := (2 : Int32)) hin66 (g := (mkF m 97 L_59 [(.int (46 : Int32)), (.int (2 : Int32)), (.ref b58)])) rfl rfl (hb hby dp10m5_97)
  have V67 := Arv.set Ar66 q66 S66 Nn66 H66 G66 (fits_nar_byte _) W67 2 rfl (Nat.le_of_ble_eq_true rfl)
  have N67 := Fr.snoc X67 N65 ge58
  have O67 := Old.wr O65 W67 ge58
  have K67 : Keep h0 h67 [] := K65.wr W67 (Or.inr sz58)
  have Z67 : n0 ≤ h67.size := Nat.le_trans Z65 (Nat.le_of_eq W67.size.symm)
  have V67' : Arv Z h67 b58 k58 .byte (6 : Int32) [(.int (45 : Int32)), (.int (((48 : Int32) + (d.toInt32)).toInt8.toInt32)), (.int (46 : Int32)), (.int (0 : Int32)), (.int (0 : Int32)), (.int (0 : Int32))] (.int (0 : Int32)) := by have q := V67; first | (rw [show nar .byte (46 : Int32) = (46 : Int32) from by decide] at q; exact q) | (rw [show (46 : Int32).toInt8.toInt32 = (46 : Int32) from by decide] at q; exact q)
  refine own_cs [] 98 st67 ?_
  refine own_tp (.int (1 : Int32)) 99 (fun _ q => XS.iloadN X67.here hx rfl (hb hby dp10m5_98) rfl q) ?_
  refine own_tp (.int (1 : Int32)) 100 (fun _ q => XS.iconst X67.here hx rfl (hb hby dp10m5_99) q) ?_
  refine own_d2 103 (fun _ q => XS.icmpNo X67.here hx rfl (hb hby dp10m5_100) rfl (teq (by decide : (1 : Int32) = (1 : Int32))).2 q) ?_
  refine own_tp (.ref b58) 105 (fun _ q => XS.aload X67.here hx rfl (hb hby dp10m5_103) rfl rfl q) ?_
  refine own_tp (.int (1 : Int32)) 107 (fun _ q => XS.iload X67.here hx rfl (hb hby dp10m5_105) rfl q) ?_
  refine own_tp (.int (2 : Int32)) 108 (fun _ q => XS.iconst X67.here hx rfl (hb hby dp10m5_107) q) ?_
  refine own_t2 (.int (3 : Int32)) 109 (fun _ q => XS.iadd X67.here hx rfl (hb hby dp10m5_108) rfl q) ?_
  refine own_tp (.int (48 : Int32)) 111 (fun _ q => XS.bipush X67.here hx rfl (hb hby dp10m5_109) q) ?_
  obtain ⟨cl68, Ar68, q68, S68, Nn68, H68, G68⟩ := (id V67')
  have hin68 : ¬ ((3 : Int32) < 0 ∨ cl68.slots.size ≤ ((3 : Int32)).toNatClampNeg) := inb_of S68 ⟨by decide, by decide⟩
  obtain ⟨T69, h69, X69, e69, W69, st69⟩ := stB X67 hx hZ e67 Ar68 (j := (3 : Int32)) hin68 (g := (mkF m 111 L_59 [(.int (48 : Int32)), (.int (3 : Int32)), (.ref b58)])) rfl rfl (hb hby dp10m5_111)
  have V69 := Arv.set Ar68 q68 S68 Nn68 H68 G68 (fits_nar_byte _) W69 3 rfl (Nat.le_of_ble_eq_true rfl)
  have N69 := Fr.snoc X69 N67 ge58
  have O69 := Old.wr O67 W69 ge58
  have K69 : Keep h0 h69 [] := K67.wr W69 (Or.inr sz58)
  have Z69 : n0 ≤ h69.size := Nat.le_trans Z67 (Nat.le_of_eq W69.size.symm)
  have V69' : Arv Z h69 b58 k58 .byte (6 : Int32) [(.int (45 : Int32)), (.int (((48 : Int32) + (d.toInt32)).toInt8.toInt32)), (.int (46 : Int32)), (.int (48 : Int32)), (.int (0 : Int32)), (.int (0 : Int32))] (.int (0 : Int32)) := by have q := V69; first | (rw [show nar .byte (48 : Int32) = (48 : Int32) from by decide] at q; exact q) | (rw [show (48 : Int32).toInt8.toInt32 = (48 : Int32) from by decide] at q; exact q)
  refine own_cs [] 112 st69 ?_
  refine own_tp (.ref b58) 114 (fun _ q => XS.aload X69.here hx rfl (hb hby dp10m5_112) rfl rfl q) ?_
  refine own_tp (.int (1 : Int32)) 116 (fun _ q => XS.iload X69.here hx rfl (hb hby dp10m5_114) rfl q) ?_
  refine own_tp (.int (2 : Int32)) 117 (fun _ q => XS.iconst X69.here hx rfl (hb hby dp10m5_116) q) ?_
  refine own_t2 (.int (3 : Int32)) 118 (fun _ q => XS.iadd X69.here hx rfl (hb hby dp10m5_117) rfl q) ?_
  refine own_tp (.int (1 : Int32)) 120 (fun _ q => XS.iload X69.here hx rfl (hb hby dp10m5_118) rfl q) ?_
  refine own_t2 (.int (4 : Int32)) 121 (fun _ q => XS.iadd X69.here hx rfl (hb hby dp10m5_120) rfl q) ?_
  refine own_tp (.int (69 : Int32)) 123 (fun _ q => XS.bipush X69.here hx rfl (hb hby dp10m5_121) q) ?_
  obtain ⟨cl70, Ar70, q70, S70, Nn70, H70, G70⟩ := (id V69')
  have hin70 : ¬ ((4 : Int32) < 0 ∨ cl70.slots.size ≤ ((4 : Int32)).toNatClampNeg) := inb_of S70 ⟨by decide, by decide⟩
  obtain ⟨T71, h71, X71, e71, W71, st71⟩ := stB X69 hx hZ e69 Ar70 (j := (4 : Int32)) hin70 (g := (mkF m 123 L_59 [(.int (69 : Int32)), (.int (4 : Int32)), (.ref b58)])) rfl rfl (hb hby dp10m5_123)
  have V71 := Arv.set Ar70 q70 S70 Nn70 H70 G70 (fits_nar_byte _) W71 4 rfl (Nat.le_of_ble_eq_true rfl)
  have N71 := Fr.snoc X71 N69 ge58
  have O71 := Old.wr O69 W71 ge58
  have K71 : Keep h0 h71 [] := K69.wr W71 (Or.inr sz58)
  have Z71 : n0 ≤ h71.size := Nat.le_trans Z69 (Nat.le_of_eq W71.size.symm)
  have V71' : Arv Z h71 b58 k58 .byte (6 : Int32) [(.int (45 : Int32)), (.int (((48 : Int32) + (d.toInt32)).toInt8.toInt32)), (.int (46 : Int32)), (.int (48 : Int32)), (.int (69 : Int32)), (.int (0 : Int32))] (.int (0 : Int32)) := by have q := V71; first | (rw [show nar .byte (69 : Int32) = (69 : Int32) from by decide] at q; exact q) | (rw [show (69 : Int32).toInt8.toInt32 = (69 : Int32) from by decide] at q; exact q)
  refine own_cs [] 124 st71 ?_
  refine own_tp (.int (0 : Int32)) 126 (fun _ q => XS.iload X71.here hx rfl (hb hby dp10m5_124) rfl q) ?_
  refine own_d1 141 (fun _ q => XS.ifYes X71.here hx rfl (pc0 := 126) (pc' := 141) rfl (hb hby dp10m5_126) rfl ((if0 _ _).trans (flt (by decide : ¬ ((0 : Int32) < (0 : Int32)))).2.1) (by decide) (by decide) q) ?_
  refine own_tp (.ref b58) 143 (fun _ q => XS.aload X71.here hx rfl (hb hby dp10m5_141) rfl rfl q) ?_
  refine own_tp (.int (5 : Int32)) 145 (fun _ q => XS.iload X71.here hx rfl (hb hby dp10m5_143) rfl q) ?_
  refine own_tp (.int (1 : Int32)) 147 (fun _ q => XS.iload X71.here hx rfl (hb hby dp10m5_145) rfl q) ?_
  refine own_tp (.int (0 : Int32)) 149 (fun _ q => XS.iload X71.here hx rfl (hb hby dp10m5_147) rfl q) ?_
  obtain ⟨Lz72, Xz72, Nz72⟩ : ∃ Lz, Stand p l e own_R_4_3_16_60 s m #[(.int (1 : Int32)), (.long d), (.int (1 : Int32)), (.int (0 : Int32))] below meth c T71 Lz 1 6 ∧ Fr n0 Lz := ⟨_, X71, N71⟩
  obtain ⟨_, _, ⟨T73, L73, k73, n73⟩, -, X73, ⟨Lc73, hQ73, l73, y73, z73⟩, st73⟩ := Jvm.LawKit.callS Xz72 hx (y := (⟨"java/lang/Math", "abs", "(I)I"⟩ : MethodName)) hown (mvT hZ (own_w hw 109 rfl)) (mvT hZ (own_w hw 110 rfl)) (mvT hZ (own_w hw 107 rfl)) (mvT hZ (own_w hw 111 rfl)) (by decide) (backOf (W := 3) (rm15 l Z a0 hw [] h71 n0) hZ (own_w hw 111 rfl) (own_w hw 107 rfl) (by decide) (by decide)) (g := (mkF m 149 L_59 [(.int (0 : Int32)), (.int (1 : Int32)), (.int (5 : Int32)), (.ref b58)])) rfl (by rw [hml]; rfl) (argsL := [(.int (0 : Int32))]) (rest := [(.int (1 : Int32)), (.int (5 : Int32)), (.ref b58)]) (lenOf pd7 rfl) rfl (by show 2 * 0 + _ ≤ _; exact Nat.le_of_eq rfl) (hb hby dp10m5_149) (fun _ _ => ⟨rfl, e71, (by decide : 1 + 0 ≤ _), (by decide : 6 + 0 ≤ _)⟩)
  dsimp only [Pt.U, Pt.locs, Pt.cells, Pt.slots] at X73 l73 y73 z73 st73 hQ73
  subst l73 y73 z73
  obtain ⟨rfl, Nq73, eq73⟩ := hQ73
  have N73 := Fr.app Nz72 Nq73
  refine own_d0 152 st73 ?_
  refine own_t1 (.long ((0 : Int32).toInt64)) 153 (fun _ q => XS.i2l X73.here hx rfl (hb hby dp10m5_152) rfl q) ?_
  obtain ⟨_, _, ⟨T74, L74, k74, n74⟩, -, X74, ⟨Lc74, hQ74, l74, y74, z74⟩, st74⟩ := Jvm.LawKit.callS X73 hx (y := (⟨"com/example/unit_step/unitstep/DecimalLayout", "putDigits", "([BIIJ)V"⟩ : MethodName)) hown (mvT hZ (own_w hw 112 rfl)) (mvT hZ (own_w hw 113 rfl)) (mvT hZ (own_w hw 87 rfl)) (mvT hZ (own_w hw 114 rfl)) (by decide) (backOf (W := 0) (rm19 l Z a0 hw [] b58 k58 (.int (45 : Int32)) (.int (((48 : Int32) + (d.toInt32)).toInt8.toInt32)) (.int (46 : Int32)) (.int (48 : Int32)) (.int (69 : Int32)) (.int (0 : Int32)) ((0 : Int32).toInt64) h71 n0 Z71 ge58 O71 V71') hZ (own_w hw 114 rfl) (own_w hw 87 rfl) (by decide) (by decide)) (g := (mkF m 153 L_59 [(.long ((0 : Int32).toInt64)), (.int (1 : Int32)), (.int (5 : Int32)), (.ref b58)])) rfl (by rw [hml]; rfl) (argsL := [(.ref b58), (.int (5 : Int32)), (.int (1 : Int32)), (.long ((0 : Int32).toInt64))]) (rest := []) (lenOf pd15 rfl) rfl (by show 2 * 0 + _ ≤ _; exact Nat.le_of_eq rfl) (hb hby dp10m5_153) (fun _ _ => ⟨rfl, eq73, (by decide : 1 + 0 ≤ _), (by decide : 6 + 0 ≤ _)⟩)
  dsimp only [Pt.U, Pt.locs, Pt.cells, Pt.slots] at X74 l74 y74 z74 st74 hQ74
  subst l74 y74 z74
  obtain ⟨rfl, Nq74, Kp74, V74⟩ := hQ74
  have N74 := Fr.app N73 Nq74
  have O74 := Old.keep O71 Kp74 (allS ge58 all0)
  have Z74 : n0 ≤ T74.heap.size := Nat.le_trans Z71 Kp74.1
  have K74 : Keep h0 T74.heap [] := Keep.trans K71 Kp74 (allS (Or.inr sz58) all0)
  refine own_cs [] 156 st74 ?_
  refine own_tp (.ref b58) 158 (fun _ q => XS.aload X74.here hx rfl (hb hby dp10m5_156) rfl rfl q) ?_
  have f75 := (((((((EX58.wr W61).keep Kp62).wr W65).wr W67).wr W69).wr W71).keep Kp74)
  obtain ⟨_, _, ⟨T76, L76, k76, n76⟩, -, X76, ⟨Lc76, hQ76, l76, y76, z76⟩, st76⟩ := Jvm.LawKit.callS X74 hx (y := (⟨"com/example/unit_step/unitstep/DecimalLayout", "toText", "([B)Ljava/lang/String;"⟩ : MethodName)) hown (mvT hZ (own_w hw 115 rfl)) (mvT hZ (own_w hw 116 rfl)) (mvT hZ (own_w hw 87 rfl)) (mvT hZ (own_w hw 117 rfl)) (by decide) (backOf (W := 0) (rm29 l Z a0 hw [] b58 k58 (.int (45 : Int32)) (.int (((48 : Int32) + (d.toInt32)).toInt8.toInt32)) (.int (46 : Int32)) (.int (48 : Int32)) (.int (69 : Int32)) (.int (((48 : Int32) + (((0 : Int32).toInt64).toInt32)).toInt8.toInt32)) T74.heap n0 G1 P5 O74 Sc G3 rG3 Sf Z74 V74 f75) hZ (own_w hw 117 rfl) (own_w hw 87 rfl) (by decide) (by decide)) (g := (mkF m 158 L_59 [(.ref b58)])) rfl (by rw [hml]; rfl) (argsL := [(.ref b58)]) (rest := []) (lenOf pd16 rfl) rfl (by show 2 * 0 + _ ≤ _; exact Nat.le_of_eq rfl) (hb hby dp10m5_158) (fun _ _ => ⟨rfl, rfl, (by decide : 1 + 2 ≤ _), (by decide : 6 + 10 ≤ _)⟩)
  dsimp only [Pt.U, Pt.locs, Pt.cells, Pt.slots] at X76 l76 y76 z76 st76 hQ76
  subst l76 y76 z76
  obtain ⟨sa76, sb76, sk76, rfl, Nq76, Kp76, Es76, Cs76, Ls76, Vs76⟩ := hQ76
  have N76 := Fr.app N74 Nq76
  have O76 := Old.keep O74 Kp76 all0
  have Z76 : n0 ≤ T76.heap.size := Nat.le_trans Z74 Kp76.1
  have K76 : Keep h0 T76.heap [] := Keep.trans K74 Kp76 all0
  refine own_t1 (.ref sa76) 161 st76 ?_
  exact own_retR X76 hx hrt (hb hby dp10m5_161) rfl rfl hlk (by decide) (by decide) rfl (⟨sa76, sb76, _, rfl, N76, K76, Es76, Cs76, Ls76, Vs76⟩)

set_option maxRecDepth 65536 in
set_option maxHeartbeats 40000000 in
theorem rm33 (l : Launch) (Z : State) (a0 : Array Value) (hw : ∀ d ∈ tables_1, d.before a0 Z = true) (ws : List Jvm.Cond) (d : Int64) (h0 : Heap) (n0 : Nat) (G1 : Int32) (P5 : ¬ G1 = (0 : Int32)) (O0 : Old Z n0 h0) (Sc : Sta Z Z.heap "java/lang/String" "COMPACT_STRINGS" "Z" (.int G1)) (G3 : Value) (rG3 : G3.isRef = true) (Sf : Sta Z Z.heap "jdk/internal/util/Preconditions" "SIOOBE_FORMATTER" "Ljava/util/function/BiFunction;" G3) (dg : Addr) (kd : ClassId) (ex : Addr) (kx : ClassId) (TB : own_TB Z dg kd ex kx) (Z0 : n0 ≤ h0.size) (hd : own_D d) :
    own_Met l (⟨"com/example/unit_step/unitstep/FloatingPointLayout", "write", "(ZJIZ)Ljava/lang/String;"⟩ : MethodName) prog_10_method_2_code 11 (some (.object "java/lang/String")) ws own_R_5_3_16_81 Z #[(.int (1 : Int32)), (.long d), (.int (0 : Int32)), (.int (1 : Int32))] h0 (own_RS Z (6 : Int32) [(.int (45 : Int32)), (.int (((48 : Int32) + (d.toInt32)).toInt8.toInt32)), (.int (46 : Int32)), (.int (48 : Int32)), (.int (69 : Int32)), (.int (((48 : Int32) + (((0 : Int32).toInt64).toInt32)).toInt8.toInt32))] h0 n0) := by
  refine own_enter #[.val (.int (1 : Int32)), .val (.long d), .second, .val (.int (0 : Int32)), .val (.int (1 : Int32)), .unset, .unset, .unset, .unset, .unset, .unset] (plainFor_of_name pn_com_example_unit_step_unitstep_FloatingPointLayout) (fun m => ef_IJII_11 m (1 : Int32) d (0 : Int32) (1 : Int32)) ?_
  intro p e s m below meth c s₁ hx hby hml hown hnm hZ hrt hlk X0 e0
  have N0 := Fr.nil n0
  refine own_tp (.long d) 1 (fun _ q => XS.lloadN X0.here hx rfl (hb hby dp10m2_0) rfl q) ?_
  let L_51 : Array Slot := #[.val (.int (1 : Int32)), .val (.long d), .second, .val (.int (0 : Int32)), .val (.int (1 : Int32)), .val (.long d), .second, .unset, .unset, .unset, .unset]
  refine own_ls L_51 3 (fun _ q => XS.lstore X0.here hx rfl (hb hby dp10m2_1) rfl (l' := L_51) rfl q) ?_
  refine own_tp (.int (0 : Int32)) 4 (fun _ q => XS.iloadN X0.here hx rfl (hb hby dp10m2_3) rfl q) ?_
  let L_52 : Array Slot := #[.val (.int (1 : Int32)), .val (.long d), .second, .val (.int (0 : Int32)), .val (.int (1 : Int32)), .val (.long d), .second, .val (.int (0 : Int32)), .unset, .unset, .unset]
  refine own_ls L_52 6 (fun _ q => XS.istore X0.here hx rfl (hb hby dp10m2_4) rfl (l' := L_52) rfl q) ?_
  refine own_tp (.long d) 8 (fun _ q => XS.lload X0.here hx rfl (hb hby dp10m2_6) rfl q) ?_
  refine own_tp (.long (10 : Int64)) 11 (fun _ q => X0.ldc2Long hx hown (mvT hZ (own_w hw 84 rfl)) (g := (mkF m 8 L_52 [(.long d)])) rfl (hb hby dp10m2_8) _ q) ?_
  refine own_t2 (.long (d - ((d / (10 : Int64)) * (10 : Int64)))) 12 (fun _ q => XS.lrem X0.here hx rfl (hb hby dp10m2_11) rfl (by decide) q) ?_
  refine own_tp (.long (0 : Int64)) 13 (fun _ q => XS.lconst X0.here hx rfl (hb hby dp10m2_12) q) ?_
  refine own_t2 (.int (lcmpW (d - ((d / (10 : Int64)) * (10 : Int64))) (0 : Int64))) 14 (fun _ q => XS.lcmp X0.here hx rfl (hb hby dp10m2_13) rfl q) ?_
  refine own_d1 31 (fun _ q => XS.ifYes X0.here hx rfl (pc0 := 14) (pc' := 31) rfl (hb hby dp10m2_14) rfl ((if0 _ _).trans (feq (own_rem hd)).2) (by decide) (by decide) q) ?_
  refine own_tp (.long d) 33 (fun _ q => XS.lload X0.here hx rfl (hb hby dp10m2_31) rfl q) ?_
  obtain ⟨_, _, ⟨T53, L53, k53, n53⟩, -, X53, ⟨Lc53, hQ53, l53, y53, z53⟩, st53⟩ := Jvm.LawKit.callS X0 hx (y := (⟨"com/example/unit_step/unitstep/DecimalLayout", "digitCount", "(J)I"⟩ : MethodName)) hown (mvT hZ (own_w hw 85 rfl)) (mvT hZ (own_w hw 86 rfl)) (mvT hZ (own_w hw 87 rfl)) (mvT hZ (own_w hw 88 rfl)) (by decide) (backOf (W := 0) (rm13 l Z a0 hw [] d h0 n0 (own_DD hd) O0 dg kd ex kx TB) hZ (own_w hw 88 rfl) (own_w hw 87 rfl) (by decide) (by decide)) (g := (mkF m 33 L_52 [(.long d)])) rfl (by rw [hml]; rfl) (argsL := [(.long d)]) (rest := []) (lenOf pd8 rfl) rfl (by show 2 * 0 + _ ≤ _; exact Nat.le_of_eq rfl) (hb hby dp10m2_33) (fun _ _ => ⟨rfl, e0, (by decide : 0 + 0 ≤ _), (by decide : 0 + 0 ≤ _)⟩)
  dsimp only [Pt.U, Pt.locs, Pt.cells, Pt.slots] at X53 l53 y53 z53 st53 hQ53
  subst l53 y53 z53
  obtain ⟨rfl, Nq53, eq53⟩ := hQ53
  have N53 := Fr.app N0 Nq53
  refine own_t1 (.int (1 : Int32)) 36 st53 ?_
  let L_54 : Array Slot := #[.val (.int (1 : Int32)), .val (.long d), .second, .val (.int (0 : Int32)), .val (.int (1 : Int32)), .val (.long d), .second, .val (.int (0 : Int32)), .val (.int (1 : Int32)), .unset, .unset]
  refine own_ls L_54 38 (fun _ q => XS.istore X53.here hx rfl (hb hby dp10m2_36) rfl (l' := L_54) rfl q) ?_
  refine own_tp (.int (0 : Int32)) 40 (fun _ q => XS.iload X53.here hx rfl (hb hby dp10m2_38) rfl q) ?_
  refine own_tp (.int (1 : Int32)) 42 (fun _ q => XS.iload X53.here hx rfl (hb hby dp10m2_40) rfl q) ?_
  refine own_t2 (.int (1 : Int32)) 43 (fun _ q => XS.iadd X53.here hx rfl (hb hby dp10m2_42) rfl q) ?_
  refine own_tp (.int (1 : Int32)) 44 (fun _ q => XS.iconst X53.here hx rfl (hb hby dp10m2_43) q) ?_
  refine own_t2 (.int (0 : Int32)) 45 (fun _ q => XS.isub X53.here hx rfl (hb hby dp10m2_44) rfl q) ?_
  let L_55 : Array Slot := #[.val (.int (1 : Int32)), .val (.long d), .second, .val (.int (0 : Int32)), .val (.int (1 : Int32)), .val (.long d), .second, .val (.int (0 : Int32)), .val (.int (1 : Int32)), .val (.int (0 : Int32)), .unset]
  refine own_ls L_55 47 (fun _ q => XS.istore X53.here hx rfl (hb hby dp10m2_45) rfl (l' := L_55) rfl q) ?_
  refine own_tp (.int (1 : Int32)) 49 (fun _ q => XS.iload X53.here hx rfl (hb hby dp10m2_47) rfl q) ?_
  refine own_d1 65 (fun _ q => XS.ifYes X53.here hx rfl (pc0 := 49) (pc' := 65) rfl (hb hby dp10m2_49) rfl ((if0 _ _).trans (feq (by decide : ¬ ((1 : Int32) = (0 : Int32)))).2) (by decide) (by decide) q) ?_
  refine own_tp (.int (1 : Int32)) 66 (fun _ q => XS.iloadN X53.here hx rfl (hb hby dp10m2_65) rfl q) ?_
  refine own_tp (.long d) 68 (fun _ q => XS.lload X53.here hx rfl (hb hby dp10m2_66) rfl q) ?_
  refine own_tp (.int (1 : Int32)) 70 (fun _ q => XS.iload X53.here hx rfl (hb hby dp10m2_68) rfl q) ?_
  refine own_tp (.int (0 : Int32)) 72 (fun _ q => XS.iload X53.here hx rfl (hb hby dp10m2_70) rfl q) ?_
  obtain ⟨_, _, ⟨T56, L56, k56, n56⟩, -, X56, ⟨Lc56, hQ56, l56, y56, z56⟩, st56⟩ := Jvm.LawKit.callS X53 hx (y := (⟨"com/example/unit_step/unitstep/FloatingPointLayout", "scientific", "(ZJII)Ljava/lang/String;"⟩ : MethodName)) hown (mvT hZ (own_w hw 102 rfl)) (mvT hZ (own_w hw 103 rfl)) (mvT hZ (own_w hw 3 rfl)) (mvT hZ (own_w hw 104 rfl)) (by decide) (backOf (W := 0) (rm32 l Z a0 hw [] d h0 n0 G1 P5 O0 Sc G3 rG3 Sf dg kd ex kx TB Z0 hd) hZ (own_w hw 104 rfl) (own_w hw 3 rfl) (by decide) (by decide)) (g := (mkF m 72 L_55 [(.int (0 : Int32)), (.int (1 : Int32)), (.long d), (.int (1 : Int32))])) rfl (by rw [hml]; rfl) (argsL := [(.int (1 : Int32)), (.long d), (.int (1 : Int32)), (.int (0 : Int32))]) (rest := []) (lenOf pd17 rfl) rfl (by show 2 * 0 + _ ≤ _; exact Nat.le_of_eq rfl) (hb hby dp10m2_72) (fun _ _ => ⟨rfl, eq53, (by decide : 0 + 3 ≤ _), (by decide : 0 + 16 ≤ _)⟩)
  dsimp only [Pt.U, Pt.locs, Pt.cells, Pt.slots] at X56 l56 y56 z56 st56 hQ56
  subst l56 y56 z56
  obtain ⟨sa56, sb56, sk56, rfl, Nq56, Kp56, Es56, Cs56, Ls56, Vs56⟩ := hQ56
  have N56 := Fr.app N53 Nq56
  have O56 := Old.keep O0 Kp56 all0
  have Z56 : n0 ≤ T56.heap.size := Nat.le_trans Z0 Kp56.1
  have K56 : Keep h0 T56.heap [] := Keep.trans (Keep.refl h0 []) Kp56 all0
  refine own_cs [(.ref sa56)] 75 st56 ?_
  let L_57 : Array Slot := #[.val (.int (1 : Int32)), .val (.long d), .second, .val (.int (0 : Int32)), .val (.int (1 : Int32)), .val (.long d), .second, .val (.int (0 : Int32)), .val (.int (1 : Int32)), .val (.int (0 : Int32)), .val (.ref sa56)]
  refine own_ls L_57 77 (fun _ q => XS.astore X56.here hx rfl (hb hby dp10m2_75) rfl rfl (l' := L_57) rfl q) ?_
  refine own_d0 91 (fun _ q => XS.goto X56.here hx rfl (pc0 := 77) (pc' := 91) rfl (hb hby dp10m2_77) (by decide) (by decide) q) ?_
  refine own_tp (.ref sa56) 93 (fun _ q => XS.aload X56.here hx rfl (hb hby dp10m2_91) rfl rfl q) ?_
  exact own_retR X56 hx hrt (hb hby dp10m2_93) rfl rfl hlk (by decide) (by decide) rfl (⟨sa56, sb56, _, rfl, N56, K56, Es56, Cs56, Ls56, Vs56⟩)

def Q34 (Z : State) (x1 b1 : Addr) (h0 : Heap) (n0 : Nat) (v : Option Value) (h : Heap) (L : List Loc) : Prop := v = none ∧ Fr n0 L ∧ Keep h0 h [x1] ∧ Exa Z h x1 "java/lang/String" ∧ Fld Z h x1 "java/lang/String" "coder" "B" (.int (0 : Int32)) ∧ Fld Z h x1 "java/lang/String" "value" "[B" (.ref b1)

set_option maxRecDepth 65536 in
set_option maxHeartbeats 40000000 in
theorem rm34 (l : Launch) (Z : State) (a0 : Array Value) (hw : ∀ d ∈ tables_1, d.before a0 Z = true) (ws : List Jvm.Cond) (x1 b1 : Addr) (u1 u2 : Value) (h0 : Heap) (n0 : Nat) (Z0 : n0 ≤ h0.size) (g1 : n0 ≤ x1) (E1 : Exa Z h0 x1 "java/lang/String") (F1 : Fld Z h0 x1 "java/lang/String" "value" "[B" u1) (F2 : Fld Z h0 x1 "java/lang/String" "coder" "B" u2) :
    own_Met l (⟨"java/lang/String", "<init>", "([BB)V"⟩ : MethodName) jdk_42_method_151_code 3 none ws own_R_1_0_0_12 Z #[(.ref x1), (.ref b1), (.int (0 : Int32))] h0 (Q34 Z x1 b1 h0 n0) := by
  refine own_enter #[.val (.ref x1), .val (.ref b1), .val (.int (0 : Int32))] (plainFor_of_name pn_java_lang_String) (fun m => ef_RRI_3 m x1 b1 (0 : Int32)) ?_
  intro p e s m below meth c s₁ hx hby hml hown hnm hZ hrt hlk X0 e0
  have N0 := Fr.nil n0
  refine own_tp (.ref x1) 1 (fun _ q => XS.aloadN X0.here hx rfl (hb hby dj42m151_0) rfl rfl q) ?_
  obtain ⟨T51, X51, e51, st51⟩ := initO X0 hx hZ hown (own_w hw 37 rfl) (own_w hw 38 rfl) (own_w hw 39 rfl) e0 (g := (mkF m 1 #[.val (.ref x1), .val (.ref b1), .val (.int (0 : Int32))] [(.ref x1)])) rfl (by rw [hml]; rfl) rfl (hb hby dj42m151_1) (by decide) (W := 0) (by show 2 * 0 + _ ≤ _; exact Nat.le_of_eq rfl) (by decide)
  refine own_d1 4 st51 ?_
  refine own_tp (.ref x1) 5 (fun _ q => XS.aloadN X51.here hx rfl (hb hby dj42m151_4) rfl rfl q) ?_
  refine own_tp (.ref b1) 6 (fun _ q => XS.aloadN X51.here hx rfl (hb hby dj42m151_5) rfl rfl q) ?_
  obtain ⟨T52, h52, X52, e52, W52, st52⟩ := putF X51 hx hZ hown (host := "") (Or.inl (own_w hw 40 rfl)) Via.refl e51 F1 E1 (Or.inr ⟨(own_w hw 9 rfl), rfl, hnm⟩) (own_w hw 7 rfl) (ty := (.array .byte)) (by decide) rfl rfl (g := (mkF m 6 #[.val (.ref x1), .val (.ref b1), .val (.int (0 : Int32))] [(.ref b1), (.ref x1)])) rfl rfl (hb hby dj42m151_6)
  have Fw52 := F1.same W52
  have N52 := Fr.snoc X52 N0 g1
  have K52 : Keep h0 h52 [x1] := (Keep.refl h0 [x1]).wr W52 (Or.inl (List.mem_of_getElem? (i := 0) rfl))
  have Z52 : n0 ≤ h52.size := Nat.le_trans Z0 (Nat.le_of_eq W52.size.symm)
  refine own_d2 9 st52 ?_
  refine own_tp (.ref x1) 10 (fun _ q => XS.aloadN X52.here hx rfl (hb hby dj42m151_9) rfl rfl q) ?_
  refine own_tp (.int (0 : Int32)) 11 (fun _ q => XS.iloadN X52.here hx rfl (hb hby dj42m151_10) rfl q) ?_
  have f53 := (F2.other W52 (Or.inr (slot_ne (Or.inr (own_w hw 10 rfl)) (Or.inr (own_w hw 9 rfl)) (by decide) (t := .byte) (t' := (.array .byte)) (by decide) (by decide))))
  have f54 := (E1.wr W52)
  obtain ⟨T55, h55, X55, e55, W55, st55⟩ := putFN X52 hx hZ hown (own_w hw 41 rfl) Via.refl e52 f53 f54 (Or.inr ⟨(own_w hw 10 rfl), rfl, hnm⟩) (own_w hw 7 rfl) (ty := .byte) (v' := (.int (0 : Int32))) (by decide) rfl rfl (g := (mkF m 11 #[.val (.ref x1), .val (.ref b1), .val (.int (0 : Int32))] [(.int (0 : Int32)), (.ref x1)])) rfl rfl (hb hby dj42m151_11)
  have Fw55 := f53.same W55
  have N55 := Fr.snoc X55 N52 g1
  have K55 : Keep h0 h55 [x1] := K52.wr W55 (Or.inl (List.mem_of_getElem? (i := 0) rfl))
  have Z55 : n0 ≤ h55.size := Nat.le_trans Z52 (Nat.le_of_eq W55.size.symm)
  refine own_d2 14 st55 ?_
  have f56 := (f54.wr W55)
  have f57 := (Fw52.other W55 (Or.inr (slot_ne (Or.inr (own_w hw 9 rfl)) (Or.inr (own_w hw 10 rfl)) (by decide) (t := (.array .byte)) (t' := .byte) (by decide) (by decide))))
  exact own_retV X55 hx hrt (hb hby dj42m151_14) hlk (by decide) (by decide) e55 (⟨rfl, N55, K55, f56, Fw55, f57⟩)

def Q35  (h0 : Heap) (n0 : Nat) (v : Option Value) (h : Heap) (L : List Loc) : Prop := v = some (.int (1 : Int32)) ∧ Fr n0 L ∧ h = h0

set_option maxRecDepth 65536 in
set_option maxHeartbeats 40000000 in
theorem rm35 (l : Launch) (Z : State) (a0 : Array Value) (hw : ∀ d ∈ tables_1, d.before a0 Z = true) (ws : List Jvm.Cond) (d : Int64) (h0 : Heap) (n0 : Nat) (hd : own_D d) :
    own_Met l (⟨"java/lang/Long", "stringSize", "(J)I"⟩ : MethodName) jdk_35_method_15_code 6 (some .int) ws own_R_0_0_0_0 Z #[(.long d)] h0 (Q35 h0 n0) := by
  refine own_enter #[.val (.long d), .second, .unset, .unset, .unset, .unset] (plainFor_of_name pn_java_lang_Long) (fun m => ef_J_6 m d) ?_
  intro p e s m below meth c s₁ hx hby hml hown hnm hZ hrt hlk X0 e0
  have N0 := Fr.nil n0
  refine own_tp (.int (1 : Int32)) 1 (fun _ q => XS.iconst X0.here hx rfl (hb hby dj35m15_0) q) ?_
  refine own_ls #[.val (.long d), .second, .val (.int (1 : Int32)), .unset, .unset, .unset] 2 (fun _ q => XS.istoreN X0.here hx rfl (hb hby dj35m15_1) rfl (l' := #[.val (.long d), .second, .val (.int (1 : Int32)), .unset, .unset, .unset]) rfl q) ?_
  refine own_tp (.long d) 3 (fun _ q => XS.lloadN X0.here hx rfl (hb hby dj35m15_2) rfl q) ?_
  refine own_tp (.long (0 : Int64)) 4 (fun _ q => XS.lconst X0.here hx rfl (hb hby dj35m15_3) q) ?_
  refine own_t2 (.int (lcmpW d (0 : Int64))) 5 (fun _ q => XS.lcmp X0.here hx rfl (hb hby dj35m15_4) rfl q) ?_
  refine own_d1 8 (fun _ q => XS.ifNo X0.here hx rfl (hb hby dj35m15_5) rfl ((if0 _ _).trans (flt (own_pos hd)).1) q) ?_
  refine own_tp (.int (0 : Int32)) 9 (fun _ q => XS.iconst X0.here hx rfl (hb hby dj35m15_8) q) ?_
  refine own_ls #[.val (.long d), .second, .val (.int (0 : Int32)), .unset, .unset, .unset] 10 (fun _ q => XS.istoreN X0.here hx rfl (hb hby dj35m15_9) rfl (l' := #[.val (.long d), .second, .val (.int (0 : Int32)), .unset, .unset, .unset]) rfl q) ?_
  refine own_tp (.long d) 11 (fun _ q => XS.lloadN X0.here hx rfl (hb hby dj35m15_10) rfl q) ?_
  refine own_t1 (.long (-d)) 12 (fun _ q => XS.lneg X0.here hx rfl (hb hby dj35m15_11) rfl q) ?_
  refine own_ls #[.val (.long (-d)), .second, .val (.int (0 : Int32)), .unset, .unset, .unset] 13 (fun _ q => XS.lstoreN X0.here hx rfl (hb hby dj35m15_12) rfl (l' := #[.val (.long (-d)), .second, .val (.int (0 : Int32)), .unset, .unset, .unset]) rfl q) ?_
  refine own_tp (.long (-10 : Int64)) 16 (fun _ q => X0.ldc2Long hx hown (mvT hZ (own_w hw 24 rfl)) (g := (mkF m 13 #[.val (.long (-d)), .second, .val (.int (0 : Int32)), .unset, .unset, .unset] [])) rfl (hb hby dj35m15_13) _ q) ?_
  refine own_ls #[.val (.long (-d)), .second, .val (.int (0 : Int32)), .val (.long (-10 : Int64)), .second, .unset] 17 (fun _ q => XS.lstoreN X0.here hx rfl (hb hby dj35m15_16) rfl (l' := #[.val (.long (-d)), .second, .val (.int (0 : Int32)), .val (.long (-10 : Int64)), .second, .unset]) rfl q) ?_
  refine own_tp (.int (1 : Int32)) 18 (fun _ q => XS.iconst X0.here hx rfl (hb hby dj35m15_17) q) ?_
  refine own_ls #[.val (.long (-d)), .second, .val (.int (0 : Int32)), .val (.long (-10 : Int64)), .second, .val (.int (1 : Int32))] 20 (fun _ q => XS.istore X0.here hx rfl (hb hby dj35m15_18) rfl (l' := #[.val (.long (-d)), .second, .val (.int (0 : Int32)), .val (.long (-10 : Int64)), .second, .val (.int (1 : Int32))]) rfl q) ?_
  refine own_tp (.int (1 : Int32)) 22 (fun _ q => XS.iload X0.here hx rfl (hb hby dj35m15_20) rfl q) ?_
  refine own_tp (.int (19 : Int32)) 24 (fun _ q => XS.bipush X0.here hx rfl (hb hby dj35m15_22) q) ?_
  refine own_d2 27 (fun _ q => XS.icmpNo X0.here hx rfl (hb hby dj35m15_24) rfl (tlt (by decide : (1 : Int32) < (19 : Int32))).2.1 q) ?_
  refine own_tp (.long (-d)) 28 (fun _ q => XS.lloadN X0.here hx rfl (hb hby dj35m15_27) rfl q) ?_
  refine own_tp (.long (-10 : Int64)) 29 (fun _ q => XS.lloadN X0.here hx rfl (hb hby dj35m15_28) rfl q) ?_
  refine own_t2 (.int (lcmpW (-d) (-10 : Int64))) 30 (fun _ q => XS.lcmp X0.here hx rfl (hb hby dj35m15_29) rfl q) ?_
  refine own_d1 33 (fun _ q => XS.ifNo X0.here hx rfl (hb hby dj35m15_30) rfl ((if0 _ _).trans (tlt (own_m10 hd)).2.2.2) q) ?_
  refine own_tp (.int (1 : Int32)) 35 (fun _ q => XS.iload X0.here hx rfl (hb hby dj35m15_33) rfl q) ?_
  refine own_tp (.int (0 : Int32)) 36 (fun _ q => XS.iloadN X0.here hx rfl (hb hby dj35m15_35) rfl q) ?_
  refine own_d1 37 (fun _ q => XS.iadd X0.here hx rfl (hb hby dj35m15_36) rfl q) ?_
  exact own_retI X0 hx hrt (hb hby dj35m15_37) hlk (by decide) (by decide) e0 (⟨rfl, N0, rfl⟩)

def Q36 (Z : State) (b1 : Addr) (k1 : ClassId) (d : Int64) (h0 : Heap) (n0 : Nat) (v : Option Value) (h : Heap) (L : List Loc) : Prop := v = some (.int (0 : Int32)) ∧ Fr n0 L ∧ Keep h0 h [b1] ∧ Arv Z h b1 k1 .byte (1 : Int32) [(.int (nar .byte (own_dg d)))] (.int (0 : Int32))

set_option maxRecDepth 65536 in
set_option maxHeartbeats 40000000 in
theorem rm36 (l : Launch) (Z : State) (a0 : Array Value) (hw : ∀ d ∈ tables_1, d.before a0 Z = true) (ws : List Jvm.Cond) (b1 : Addr) (k1 : ClassId) (d : Int64) (h0 : Heap) (n0 : Nat) (hd : own_D d) (Z0 : n0 ≤ h0.size) (g1 : n0 ≤ b1) (O0 : Old Z n0 h0) (dg : Addr) (kd : ClassId) (ex : Addr) (kx : ClassId) (TB : own_TB Z dg kd ex kx) (V1 : Arv Z h0 b1 k1 .byte (1 : Int32) [(.int (0 : Int32))] (.int (0 : Int32))) :
    own_Met l (⟨"java/lang/Long", "getChars", "(JI[B)I"⟩ : MethodName) jdk_35_method_14_code 11 (some .int) ws own_R_0_0_0_0 Z #[(.long d), (.int (1 : Int32)), (.ref b1)] h0 (Q36 Z b1 k1 d h0 n0) := by
  refine own_enter #[.val (.long d), .second, .val (.int (1 : Int32)), .val (.ref b1), .unset, .unset, .unset, .unset, .unset, .unset, .unset] (plainFor_of_name pn_java_lang_Long) (fun m => ef_JIR_11 m d (1 : Int32) b1) ?_
  intro p e s m below meth c s₁ hx hby hml hown hnm hZ hrt hlk X0 e0
  have N0 := Fr.nil n0
  refine own_tp (.int (1 : Int32)) 1 (fun _ q => XS.iloadN X0.here hx rfl (hb hby dj35m14_0) rfl q) ?_
  let L_51 : Array Slot := #[.val (.long d), .second, .val (.int (1 : Int32)), .val (.ref b1), .unset, .unset, .unset, .val (.int (1 : Int32)), .unset, .unset, .unset]
  refine own_ls L_51 3 (fun _ q => XS.istore X0.here hx rfl (hb hby dj35m14_1) rfl (l' := L_51) rfl q) ?_
  refine own_tp (.long d) 4 (fun _ q => XS.lloadN X0.here hx rfl (hb hby dj35m14_3) rfl q) ?_
  refine own_tp (.long (0 : Int64)) 5 (fun _ q => XS.lconst X0.here hx rfl (hb hby dj35m14_4) q) ?_
  refine own_t2 (.int (lcmpW d (0 : Int64))) 6 (fun _ q => XS.lcmp X0.here hx rfl (hb hby dj35m14_5) rfl q) ?_
  refine own_d1 13 (fun _ q => XS.ifYes X0.here hx rfl (pc0 := 6) (pc' := 13) rfl (hb hby dj35m14_6) rfl ((if0 _ _).trans (flt (own_pos hd)).2.1) (by decide) (by decide) q) ?_
  refine own_tp (.int (0 : Int32)) 14 (fun _ q => XS.iconst X0.here hx rfl (hb hby dj35m14_13) q) ?_
  let L_52 : Array Slot := #[.val (.long d), .second, .val (.int (1 : Int32)), .val (.ref b1), .unset, .unset, .unset, .val (.int (1 : Int32)), .val (.int (0 : Int32)), .unset, .unset]
  refine own_ls L_52 16 (fun _ q => XS.istore X0.here hx rfl (hb hby dj35m14_14) rfl (l' := L_52) rfl q) ?_
  refine own_tp (.int (0 : Int32)) 18 (fun _ q => XS.iload X0.here hx rfl (hb hby dj35m14_16) rfl q) ?_
  refine own_d1 21 (fun _ q => XS.ifNo X0.here hx rfl (hb hby dj35m14_18) rfl ((if0 _ _).trans (teq (by decide : (0 : Int32) = (0 : Int32))).2) q) ?_
  refine own_tp (.long d) 22 (fun _ q => XS.lloadN X0.here hx rfl (hb hby dj35m14_21) rfl q) ?_
  refine own_t1 (.long (-d)) 23 (fun _ q => XS.lneg X0.here hx rfl (hb hby dj35m14_22) rfl q) ?_
  let L_53 : Array Slot := #[.val (.long (-d)), .second, .val (.int (1 : Int32)), .val (.ref b1), .unset, .unset, .unset, .val (.int (1 : Int32)), .val (.int (0 : Int32)), .unset, .unset]
  refine own_ls L_53 24 (fun _ q => XS.lstoreN X0.here hx rfl (hb hby dj35m14_23) rfl (l' := L_53) rfl q) ?_
  refine own_tp (.long (-d)) 25 (fun _ q => XS.lloadN X0.here hx rfl (hb hby dj35m14_24) rfl q) ?_
  refine own_tp (.long (-2147483648 : Int64)) 28 (fun _ q => X0.ldc2Long hx hown (mvT hZ (own_w hw 29 rfl)) (g := (mkF m 25 L_53 [(.long (-d))])) rfl (hb hby dj35m14_25) _ q) ?_
  refine own_t2 (.int (lcmpW (-d) (-2147483648 : Int64))) 29 (fun _ q => XS.lcmp X0.here hx rfl (hb hby dj35m14_28) rfl q) ?_
  refine own_d1 82 (fun _ q => XS.ifYes X0.here hx rfl (pc0 := 29) (pc' := 82) rfl (hb hby dj35m14_29) rfl ((if0 _ _).trans (tlt (own_mmin hd)).2.2.1) (by decide) (by decide) q) ?_
  refine own_tp (.long (-d)) 83 (fun _ q => XS.lloadN X0.here hx rfl (hb hby dj35m14_82) rfl q) ?_
  refine own_t1 (.int ((-d).toInt32)) 84 (fun _ q => XS.l2i X0.here hx rfl (hb hby dj35m14_83) rfl q) ?_
  let L_54 : Array Slot := #[.val (.long (-d)), .second, .val (.int (1 : Int32)), .val (.ref b1), .unset, .unset, .unset, .val (.int (1 : Int32)), .val (.int (0 : Int32)), .unset, .val (.int ((-d).toInt32))]
  refine own_ls L_54 86 (fun _ q => XS.istore X0.here hx rfl (hb hby dj35m14_84) rfl (l' := L_54) rfl q) ?_
  refine own_tp (.int ((-d).toInt32)) 88 (fun _ q => XS.iload X0.here hx rfl (hb hby dj35m14_86) rfl q) ?_
  refine own_tp (.int (-100 : Int32)) 90 (fun _ q => XS.bipush X0.here hx rfl (hb hby dj35m14_88) q) ?_
  refine own_d2 143 (fun _ q => XS.icmpYes X0.here hx rfl (pc0 := 90) (pc' := 143) rfl (hb hby dj35m14_90) rfl (tlt (own_m100 hd)).2.2.1 (by decide) (by decide) q) ?_
  refine own_tp (.ref b1) 144 (fun _ q => XS.aloadN X0.here hx rfl (hb hby dj35m14_143) rfl rfl q) ?_
  let L_55 : Array Slot := #[.val (.long (-d)), .second, .val (.int (1 : Int32)), .val (.ref b1), .unset, .unset, .unset, .val (.int (0 : Int32)), .val (.int (0 : Int32)), .unset, .val (.int ((-d).toInt32))]
  refine own_li L_55 147 (fun _ q => XS.iinc X0.here hx rfl (hb hby dj35m14_144) rfl (l' := L_55) rfl q) ?_
  refine own_tp (.int (0 : Int32)) 149 (fun _ q => XS.iload X0.here hx rfl (hb hby dj35m14_147) rfl q) ?_
  obtain ⟨T56, X56, e56, st56⟩ := getS2 X0 hx hZ hown (host := "") (Or.inl (own_w hw 30 rfl)) Via.refl e0 (TB.1.ext O0.2) (g := (mkF m 149 L_55 [(.int (0 : Int32)), (.ref b1)])) rfl (hb hby dj35m14_149)
  refine own_tp (.ref dg) 152 st56 ?_
  refine own_tp (.int ((-d).toInt32)) 154 (fun _ q => XS.iload X56.here hx rfl (hb hby dj35m14_152) rfl q) ?_
  refine own_t1 (.int (-((-d).toInt32))) 155 (fun _ q => XS.ineg X56.here hx rfl (hb hby dj35m14_154) rfl q) ?_
  obtain ⟨cl57, Ar57, q57, S57, Nn57, H57, G57⟩ := (id (TB.2.1.ext O0.2))
  have hin57 : ¬ ((-((-d).toInt32)) < 0 ∨ cl57.slots.size ≤ ((-((-d).toInt32))).toNatClampNeg) := inb_of S57 (own_didx hd)
  have hat57 : cl57.slots[((-((-d).toInt32))).toNatClampNeg]? = some (.int (own_dg d)) := H57.at hin57 (by exact own_onesAt hd)
  refine own_t2 (.int (own_dg d)) 156 (fun _ q => X56.baloadBytes hx (j := (-((-d).toInt32))) (v := (.int (own_dg d))) (by rw [e56]; exact Ar57.1) (State.isArrayOf_alike hZ.alike Ar57.2.1) Ar57.2.2 hin57 hat57 (g := (mkF m 155 L_55 [(.int (-((-d).toInt32))), (.ref dg), (.int (0 : Int32)), (.ref b1)])) rfl rfl (hb hby dj35m14_155) _ q) ?_
  obtain ⟨cl58, Ar58, q58, S58, Nn58, H58, G58⟩ := (id V1)
  have hin58 : ¬ ((0 : Int32) < 0 ∨ cl58.slots.size ≤ ((0 : Int32)).toNatClampNeg) := inb_of S58 ⟨by decide, by decide⟩
  obtain ⟨T59, h59, X59, e59, W59, st59⟩ := stB X56 hx hZ e56 Ar58 (j := (0 : Int32)) hin58 (g := (mkF m 156 L_55 [(.int (own_dg d)), (.int (0 : Int32)), (.ref b1)])) rfl rfl (hb hby dj35m14_156)
  have V59 := Arv.set Ar58 q58 S58 Nn58 H58 G58 (fits_nar_byte _) W59 0 rfl (Nat.le_of_ble_eq_true rfl)
  have N59 := Fr.snoc X59 N0 g1
  have O59 := Old.wr O0 W59 g1
  have K59 : Keep h0 h59 [b1] := (Keep.refl h0 [b1]).wr W59 (Or.inl (List.mem_of_getElem? (i := 0) rfl))
  have Z59 : n0 ≤ h59.size := Nat.le_trans Z0 (Nat.le_of_eq W59.size.symm)
  have V59' : Arv Z h59 b1 k1 .byte (1 : Int32) [(.int (nar .byte (own_dg d)))] (.int (0 : Int32)) := V59
  refine own_cs [] 157 st59 ?_
  refine own_tp (.int ((-d).toInt32)) 159 (fun _ q => XS.iload X59.here hx rfl (hb hby dj35m14_157) rfl q) ?_
  refine own_tp (.int (-9 : Int32)) 161 (fun _ q => XS.bipush X59.here hx rfl (hb hby dj35m14_159) q) ?_
  refine own_d2 178 (fun _ q => XS.icmpYes X59.here hx rfl (pc0 := 161) (pc' := 178) rfl (hb hby dj35m14_161) rfl (flt (own_m9 hd)).2.1 (by decide) (by decide) q) ?_
  refine own_tp (.int (0 : Int32)) 180 (fun _ q => XS.iload X59.here hx rfl (hb hby dj35m14_178) rfl q) ?_
  refine own_d1 192 (fun _ q => XS.ifYes X59.here hx rfl (pc0 := 180) (pc' := 192) rfl (hb hby dj35m14_180) rfl ((if0 _ _).trans (teq (by decide : (0 : Int32) = (0 : Int32))).1) (by decide) (by decide) q) ?_
  refine own_tp (.int (0 : Int32)) 194 (fun _ q => XS.iload X59.here hx rfl (hb hby dj35m14_192) rfl q) ?_
  exact own_retI X59 hx hrt (hb hby dj35m14_194) hlk (by decide) (by decide) e59 (⟨rfl, N59, K59, V59'⟩)

set_option maxRecDepth 65536 in
set_option maxHeartbeats 40000000 in
theorem rm37 (l : Launch) (Z : State) (a0 : Array Value) (hw : ∀ d ∈ tables_1, d.before a0 Z = true) (ws : List Jvm.Cond) (d : Int64) (h0 : Heap) (n0 : Nat) (G1 : Int32) (P5 : ¬ G1 = (0 : Int32)) (O0 : Old Z n0 h0) (Sc : Sta Z Z.heap "java/lang/String" "COMPACT_STRINGS" "Z" (.int G1)) (G3 : Value) (rG3 : G3.isRef = true) (Sf : Sta Z Z.heap "jdk/internal/util/Preconditions" "SIOOBE_FORMATTER" "Ljava/util/function/BiFunction;" G3) (dg : Addr) (kd : ClassId) (ex : Addr) (kx : ClassId) (TB : own_TB Z dg kd ex kx) (Z0 : n0 ≤ h0.size) (hd : own_D d) :
    own_Met l (⟨"java/lang/Long", "toString", "(J)Ljava/lang/String;"⟩ : MethodName) jdk_35_method_12_code 4 (some (.object "java/lang/String")) ws own_R_2_2_5_27 Z #[(.long d)] h0 (own_RS Z (1 : Int32) [(.int (nar .byte (own_dg d)))] h0 n0) := by
  refine own_enter #[.val (.long d), .second, .unset, .unset] (plainFor_of_name pn_java_lang_Long) (fun m => ef_J_4 m d) ?_
  intro p e s m below meth c s₁ hx hby hml hown hnm hZ hrt hlk X0 e0
  have N0 := Fr.nil n0
  refine own_tp (.long d) 1 (fun _ q => XS.lloadN X0.here hx rfl (hb hby dj35m12_0) rfl q) ?_
  obtain ⟨_, _, ⟨T51, L51, k51, n51⟩, -, X51, ⟨Lc51, hQ51, l51, y51, z51⟩, st51⟩ := Jvm.LawKit.callS X0 hx (y := (⟨"java/lang/Long", "stringSize", "(J)I"⟩ : MethodName)) hown (mvT hZ (own_w hw 21 rfl)) (mvT hZ (own_w hw 22 rfl)) (mvT hZ (own_w hw 19 rfl)) (mvT hZ (own_w hw 23 rfl)) (by decide) (backOf (W := 0) (rm35 l Z a0 hw [] d h0 n0 hd) hZ (own_w hw 23 rfl) (own_w hw 19 rfl) (by decide) (by decide)) (g := (mkF m 1 #[.val (.long d), .second, .unset, .unset] [(.long d)])) rfl (by rw [hml]; rfl) (argsL := [(.long d)]) (rest := []) (lenOf pd8 rfl) rfl (by show 2 * 0 + _ ≤ _; exact Nat.le_of_eq rfl) (hb hby dj35m12_1) (fun _ _ => ⟨rfl, e0, (by decide : 0 + 0 ≤ _), (by decide : 0 + 0 ≤ _)⟩)
  dsimp only [Pt.U, Pt.locs, Pt.cells, Pt.slots] at X51 l51 y51 z51 st51 hQ51
  subst l51 y51 z51
  obtain ⟨rfl, Nq51, eq51⟩ := hQ51
  have N51 := Fr.app N0 Nq51
  refine own_t1 (.int (1 : Int32)) 4 st51 ?_
  refine own_ls #[.val (.long d), .second, .val (.int (1 : Int32)), .unset] 5 (fun _ q => XS.istoreN X51.here hx rfl (hb hby dj35m12_4) rfl (l' := #[.val (.long d), .second, .val (.int (1 : Int32)), .unset]) rfl q) ?_
  obtain ⟨T52, X52, e52, st52⟩ := getS2 X51 hx hZ hown (host := "") (Or.inl (own_w hw 25 rfl)) Via.refl eq51 (Sc.ext O0.2) (g := (mkF m 5 #[.val (.long d), .second, .val (.int (1 : Int32)), .unset] [])) rfl (hb hby dj35m12_5)
  refine own_tp (.int G1) 8 st52 ?_
  refine own_d1 11 (fun _ q => XS.ifNo X52.here hx rfl (hb hby dj35m12_8) rfl ((if0 _ _).trans (feq P5).1) q) ?_
  refine own_tp (.int (1 : Int32)) 12 (fun _ q => XS.iloadN X52.here hx rfl (hb hby dj35m12_11) rfl q) ?_
  obtain ⟨T53, h53, k53, X53, e53, E53, A53, st53⟩ := newP X52 hx hZ (own_w hw 8 rfl) e52 (g := (mkF m 12 #[.val (.long d), .second, .val (.int (1 : Int32)), .unset] [(.int (1 : Int32))])) rfl (hb hby dj35m12_12) rfl (by decide) (cap := 1) (by decide) (by decide) (by decide) (by decide)
  obtain ⟨b53, g53⟩ : ∃ z, z = h0.size := ⟨_, rfl⟩
  rw [← g53] at A53 st53
  have V53 : Arv Z h53 b53 k53 .byte (1 : Int32) [(.int (0 : Int32))] (.int (0 : Int32)) := (Arv.new A53 (by decide)).pad (pad_rep [] (.int (0 : Int32)) 1)
  have ge53 : n0 ≤ b53 := Nat.le_trans Z0 (Nat.le_of_eq g53.symm)
  have sz53 : h0.size ≤ b53 := Nat.le_trans (Keep.refl h0 []).1 (Nat.le_of_eq g53.symm)
  have O53 := Old.ext O0 E53
  have K53 : Keep h0 h53 [] := (Keep.refl h0 []).ext E53
  have Z53 : n0 ≤ h53.size := Nat.le_trans Z0 E53.1
  refine own_t1 (.ref b53) 14 st53 ?_
  refine own_ls #[.val (.long d), .second, .val (.int (1 : Int32)), .val (.ref b53)] 15 (fun _ q => XS.astoreN X53.here hx rfl (hb hby dj35m12_14) rfl rfl (l' := #[.val (.long d), .second, .val (.int (1 : Int32)), .val (.ref b53)]) rfl q) ?_
  refine own_tp (.long d) 16 (fun _ q => XS.lloadN X53.here hx rfl (hb hby dj35m12_15) rfl q) ?_
  refine own_tp (.int (1 : Int32)) 17 (fun _ q => XS.iloadN X53.here hx rfl (hb hby dj35m12_16) rfl q) ?_
  refine own_tp (.ref b53) 18 (fun _ q => XS.aloadN X53.here hx rfl (hb hby dj35m12_17) rfl rfl q) ?_
  obtain ⟨_, _, ⟨T54, L54, k54, n54⟩, -, X54, ⟨Lc54, hQ54, l54, y54, z54⟩, st54⟩ := Jvm.LawKit.callS X53 hx (y := (⟨"java/lang/Long", "getChars", "(JI[B)I"⟩ : MethodName)) hown (mvT hZ (own_w hw 26 rfl)) (mvT hZ (own_w hw 27 rfl)) (mvT hZ (own_w hw 19 rfl)) (mvT hZ (own_w hw 28 rfl)) (by decide) (backOf (W := 0) (rm36 l Z a0 hw [] b53 k53 d h53 n0 hd Z53 ge53 O53 dg kd ex kx TB V53) hZ (own_w hw 28 rfl) (own_w hw 19 rfl) (by decide) (by decide)) (g := (mkF m 18 #[.val (.long d), .second, .val (.int (1 : Int32)), .val (.ref b53)] [(.ref b53), (.int (1 : Int32)), (.long d)])) rfl (by rw [hml]; rfl) (argsL := [(.long d), (.int (1 : Int32)), (.ref b53)]) (rest := []) (lenOf pd18 rfl) rfl (by show 2 * 0 + _ ≤ _; exact Nat.le_of_eq rfl) (hb hby dj35m12_18) (fun _ _ => ⟨rfl, e53, (by decide : 1 + 0 ≤ _), (by decide : 1 + 0 ≤ _)⟩)
  dsimp only [Pt.U, Pt.locs, Pt.cells, Pt.slots] at X54 l54 y54 z54 st54 hQ54
  subst l54 y54 z54
  obtain ⟨rfl, Nq54, Kp54, V54⟩ := hQ54
  have N54 := Fr.app N51 Nq54
  have O54 := Old.keep O53 Kp54 (allS ge53 all0)
  have Z54 : n0 ≤ T54.heap.size := Nat.le_trans Z53 Kp54.1
  have K54 : Keep h0 T54.heap [] := Keep.trans K53 Kp54 (allS (Or.inr sz53) all0)
  refine own_cs [(.int (0 : Int32))] 21 st54 ?_
  refine own_d1 22 (fun _ q => XS.pop X54.here hx rfl (hb hby dj35m12_21) rfl rfl q) ?_
  obtain ⟨T55, h55, X55, e55, E55, A55, D55, -, st55⟩ := newO X54 hx hZ hown (own_w hw 32 rfl) (own_w hw 7 rfl) (own_w hw 6 rfl) rfl (g := (mkF m 22 #[.val (.long d), .second, .val (.int (1 : Int32)), .val (.ref b53)] [])) rfl (hb hby dj35m12_22) (by decide) (by decide)
  obtain ⟨b55, g55⟩ : ∃ z, z = T54.heap.size := ⟨_, rfl⟩
  rw [← g55] at A55 D55 st55
  have ge55 : n0 ≤ b55 := Nat.le_trans Z54 (Nat.le_of_eq g55.symm)
  have sz55 : h0.size ≤ b55 := Nat.le_trans K54.1 (Nat.le_of_eq g55.symm)
  have ne56 : b53 ≠ b55 := Nat.ne_of_lt (Nat.lt_of_lt_of_le V54.lt (Nat.le_of_eq g55.symm))
  have O55 := Old.ext O54 E55
  have K55 : Keep h0 h55 [] := K54.ext E55
  have Z55 : n0 ≤ h55.size := Nat.le_trans Z54 E55.1
  have Fvalue_55 : Fld Z h55 b55 "java/lang/String" "value" "[B" .null := D55 (Or.inr (own_w hw 9 rfl)) (ty := (.array .byte)) (by decide)
  have Fcoder_55 : Fld Z h55 b55 "java/lang/String" "coder" "B" (.int (0 : Int32)) := D55 (Or.inr (own_w hw 10 rfl)) (ty := .byte) (by decide)
  refine own_tp (.ref b55) 25 st55 ?_
  refine own_tp (.ref b55) 26 (fun _ q => XS.dup X55.here hx rfl (hb hby dj35m12_25) rfl rfl q) ?_
  refine own_tp (.ref b53) 27 (fun _ q => XS.aloadN X55.here hx rfl (hb hby dj35m12_26) rfl rfl q) ?_
  refine own_tp (.int (0 : Int32)) 28 (fun _ q => XS.iconst X55.here hx rfl (hb hby dj35m12_27) q) ?_
  obtain ⟨_, _, ⟨T57, L57, k57, n57⟩, -, X57, ⟨Lc57, hQ57, l57, y57, z57⟩, st57⟩ := X55.specialBack hx (y := (⟨"java/lang/String", "<init>", "([BB)V"⟩ : MethodName)) rfl hown (mvT hZ (own_w hw 33 rfl)) (mvT hZ (own_w hw 34 rfl)) (mvT hZ (own_w hw 36 rfl)) (by decide) (backOf (W := 1) (rm34 l Z a0 hw [] b55 b53 _ _ h55 n0 Z55 ge55 A55 Fvalue_55 Fcoder_55) hZ (own_w hw 36 rfl) (own_w hw 6 rfl) (by decide) (by decide)) (g := (mkF m 28 #[.val (.long d), .second, .val (.int (1 : Int32)), .val (.ref b53)] [(.int (0 : Int32)), (.ref b53), (.ref b55), (.ref b55)])) rfl (by rw [hml]; rfl) (Steps.refl _) (a := b55) (argsL := [(.ref b53), (.int (0 : Int32))]) (rest := [(.ref b55)]) (lenOf pd19 rfl) rfl (by show 2 * 0 + _ ≤ _; exact Nat.le_of_eq rfl) (hb hby dj35m12_28) (fun _ _ => ⟨rfl, e55, (by decide : 2 + 0 ≤ _), (by decide : 5 + 0 ≤ _)⟩)
  dsimp only [Pt.U, Pt.locs, Pt.cells, Pt.slots] at X57 l57 y57 z57 st57 hQ57
  subst l57 y57 z57
  obtain ⟨rfl, Nq57, Kp57, A57, Cd57, Vl57⟩ := hQ57
  have N57 := Fr.app N54 Nq57
  have O57 := Old.keep O55 Kp57 (allS ge55 all0)
  have Z57 : n0 ≤ T57.heap.size := Nat.le_trans Z55 Kp57.1
  have K57 : Keep h0 T57.heap [] := Keep.trans K55 Kp57 (allS (Or.inr sz55) all0)
  refine own_csR [(.ref b55)] 31 st57 ?_
  have f58 := ((V54.ext E55).keep Kp57 (ninS ne56 nin0))
  exact own_retR X57 hx hrt (hb hby dj35m12_31) rfl rfl hlk (by decide) (by decide) rfl (⟨b55, b53, _, rfl, N57, K57, A57, Cd57, Vl57, f58⟩)

set_option maxRecDepth 65536 in
set_option maxHeartbeats 40000000 in
theorem rm38 (l : Launch) (Z : State) (a0 : Array Value) (hw : ∀ d ∈ tables_1, d.before a0 Z = true) (ws : List Jvm.Cond) (d : Int64) (h0 : Heap) (n0 : Nat) (G1 : Int32) (P5 : ¬ G1 = (0 : Int32)) (O0 : Old Z n0 h0) (Sc : Sta Z Z.heap "java/lang/String" "COMPACT_STRINGS" "Z" (.int G1)) (G3 : Value) (rG3 : G3.isRef = true) (Sf : Sta Z Z.heap "jdk/internal/util/Preconditions" "SIOOBE_FORMATTER" "Ljava/util/function/BiFunction;" G3) (dg : Addr) (kd : ClassId) (ex : Addr) (kx : ClassId) (TB : own_TB Z dg kd ex kx) (Z0 : n0 ≤ h0.size) (hd : own_D d) :
    own_Met l (⟨"com/example/unit_step/unitstep/FloatingPointLayout", "writeWhole", "(ZJZ)Ljava/lang/String;"⟩ : MethodName) prog_10_method_3_code 6 (some (.object "java/lang/String")) ws own_R_3_2_5_42 Z #[(.int (0 : Int32)), (.long d), (.int (0 : Int32))] h0 (own_RS Z (1 : Int32) [(.int (nar .byte (own_dg d)))] h0 n0) := by
  refine own_enter #[.val (.int (0 : Int32)), .val (.long d), .second, .val (.int (0 : Int32)), .unset, .unset] (plainFor_of_name pn_com_example_unit_step_unitstep_FloatingPointLayout) (fun m => ef_IJI_6 m (0 : Int32) d (0 : Int32)) ?_
  intro p e s m below meth c s₁ hx hby hml hown hnm hZ hrt hlk X0 e0
  have N0 := Fr.nil n0
  refine own_tp (.int (0 : Int32)) 1 (fun _ q => XS.iloadN X0.here hx rfl (hb hby dp10m3_0) rfl q) ?_
  refine own_d1 8 (fun _ q => XS.ifYes X0.here hx rfl (pc0 := 1) (pc' := 8) rfl (hb hby dp10m3_1) rfl ((if0 _ _).trans (teq (by decide : (0 : Int32) = (0 : Int32))).1) (by decide) (by decide) q) ?_
  refine own_tp (.long (0 : Int64)) 9 (fun _ q => XS.lconst X0.here hx rfl (hb hby dp10m3_8) q) ?_
  refine own_ls #[.val (.int (0 : Int32)), .val (.long d), .second, .val (.int (0 : Int32)), .val (.long (0 : Int64)), .second] 11 (fun _ q => XS.lstore X0.here hx rfl (hb hby dp10m3_9) rfl (l' := #[.val (.int (0 : Int32)), .val (.long d), .second, .val (.int (0 : Int32)), .val (.long (0 : Int64)), .second]) rfl q) ?_
  refine own_tp (.long d) 12 (fun _ q => XS.lloadN X0.here hx rfl (hb hby dp10m3_11) rfl q) ?_
  refine own_tp (.long (1000000 : Int64)) 15 (fun _ q => X0.ldc2Long hx hown (mvT hZ (own_w hw 16 rfl)) (g := (mkF m 12 #[.val (.int (0 : Int32)), .val (.long d), .second, .val (.int (0 : Int32)), .val (.long (0 : Int64)), .second] [(.long d)])) rfl (hb hby dp10m3_12) _ q) ?_
  refine own_t2 (.int (lcmpW d (1000000 : Int64))) 16 (fun _ q => XS.lcmp X0.here hx rfl (hb hby dp10m3_15) rfl q) ?_
  refine own_d1 19 (fun _ q => XS.ifNo X0.here hx rfl (hb hby dp10m3_16) rfl ((if0 _ _).trans (tlt (own_lt6 hd)).2.1) q) ?_
  refine own_tp (.int (0 : Int32)) 20 (fun _ q => XS.iloadN X0.here hx rfl (hb hby dp10m3_19) rfl q) ?_
  refine own_d1 23 (fun _ q => XS.ifNo X0.here hx rfl (hb hby dp10m3_20) rfl ((if0 _ _).trans (teq (by decide : (0 : Int32) = (0 : Int32))).2) q) ?_
  refine own_tp (.long d) 24 (fun _ q => XS.lloadN X0.here hx rfl (hb hby dp10m3_23) rfl q) ?_
  refine own_tp (.long (0 : Int64)) 26 (fun _ q => XS.lload X0.here hx rfl (hb hby dp10m3_24) rfl q) ?_
  refine own_t1 (.long (-(0 : Int64))) 27 (fun _ q => XS.lneg X0.here hx rfl (hb hby dp10m3_26) rfl q) ?_
  refine own_t2 (.long (d ^^^ (-(0 : Int64)))) 28 (fun _ q => XS.lxor X0.here hx rfl (hb hby dp10m3_27) rfl q) ?_
  refine own_tp (.long (0 : Int64)) 30 (fun _ q => XS.lload X0.here hx rfl (hb hby dp10m3_28) rfl q) ?_
  refine own_t2 (.long ((d ^^^ (-(0 : Int64))) + (0 : Int64))) 31 (fun _ q => XS.ladd X0.here hx rfl (hb hby dp10m3_30) rfl q) ?_
  rw [own_x0 hd]
  obtain ⟨_, _, ⟨T51, L51, k51, n51⟩, -, X51, ⟨Lc51, hQ51, l51, y51, z51⟩, st51⟩ := Jvm.LawKit.callS X0 hx (y := (⟨"java/lang/Long", "toString", "(J)Ljava/lang/String;"⟩ : MethodName)) hown (mvT hZ (own_w hw 17 rfl)) (mvT hZ (own_w hw 18 rfl)) (mvT hZ (own_w hw 19 rfl)) (mvT hZ (own_w hw 20 rfl)) (by decide) (backOf (W := 0) (rm37 l Z a0 hw [] d h0 n0 G1 P5 O0 Sc G3 rG3 Sf dg kd ex kx TB Z0 hd) hZ (own_w hw 20 rfl) (own_w hw 19 rfl) (by decide) (by decide)) (g := (mkF m 31 #[.val (.int (0 : Int32)), .val (.long d), .second, .val (.int (0 : Int32)), .val (.long (0 : Int64)), .second] [(.long d)])) rfl (by rw [hml]; rfl) (argsL := [(.long d)]) (rest := []) (lenOf pd20 rfl) rfl (by show 2 * 0 + _ ≤ _; exact Nat.le_of_eq rfl) (hb hby dp10m3_31) (fun _ _ => ⟨rfl, e0, (by decide : 0 + 2 ≤ _), (by decide : 0 + 5 ≤ _)⟩)
  dsimp only [Pt.U, Pt.locs, Pt.cells, Pt.slots] at X51 l51 y51 z51 st51 hQ51
  subst l51 y51 z51
  obtain ⟨sa51, sb51, sk51, rfl, Nq51, Kp51, Es51, Cs51, Ls51, Vs51⟩ := hQ51
  have N51 := Fr.app N0 Nq51
  have O51 := Old.keep O0 Kp51 all0
  have Z51 : n0 ≤ T51.heap.size := Nat.le_trans Z0 Kp51.1
  have K51 : Keep h0 T51.heap [] := Keep.trans (Keep.refl h0 []) Kp51 all0
  refine own_t1 (.ref sa51) 34 st51 ?_
  refine own_d0 44 (fun _ q => XS.goto X51.here hx rfl (pc0 := 34) (pc' := 44) rfl (hb hby dp10m3_34) (by decide) (by decide) q) ?_
  exact own_retR X51 hx hrt (hb hby dp10m3_44) rfl rfl hlk (by decide) (by decide) rfl (⟨sa51, sb51, _, rfl, N51, K51, Es51, Cs51, Ls51, Vs51⟩)

set_option maxRecDepth 65536 in
set_option maxHeartbeats 40000000 in
theorem rm39 (l : Launch) (Z : State) (a0 : Array Value) (hw : ∀ d ∈ tables_1, d.before a0 Z = true) (ws : List Jvm.Cond) (d : Int64) (h0 : Heap) (n0 : Nat) (G1 : Int32) (P5 : ¬ G1 = (0 : Int32)) (O0 : Old Z n0 h0) (Sc : Sta Z Z.heap "java/lang/String" "COMPACT_STRINGS" "Z" (.int G1)) (G3 : Value) (rG3 : G3.isRef = true) (Sf : Sta Z Z.heap "jdk/internal/util/Preconditions" "SIOOBE_FORMATTER" "Ljava/util/function/BiFunction;" G3) (dg : Addr) (kd : ClassId) (ex : Addr) (kx : ClassId) (TB : own_TB Z dg kd ex kx) (Z0 : n0 ≤ h0.size) (hd : own_D d) :
    own_Met l (⟨"com/example/unit_step/unitstep/FloatingPointLayout", "writeWhole", "(ZJZ)Ljava/lang/String;"⟩ : MethodName) prog_10_method_3_code 6 (some (.object "java/lang/String")) ws own_R_6_3_14_103 Z #[(.int (0 : Int32)), (.long d), (.int (1 : Int32))] h0 (own_RS Z (5 : Int32) [(.int (((48 : Int32) + (d.toInt32)).toInt8.toInt32)), (.int (46 : Int32)), (.int (48 : Int32)), (.int (69 : Int32)), (.int (((48 : Int32) + (((0 : Int32).toInt64).toInt32)).toInt8.toInt32))] h0 n0) := by
  refine own_enter #[.val (.int (0 : Int32)), .val (.long d), .second, .val (.int (1 : Int32)), .unset, .unset] (plainFor_of_name pn_com_example_unit_step_unitstep_FloatingPointLayout) (fun m => ef_IJI_6 m (0 : Int32) d (1 : Int32)) ?_
  intro p e s m below meth c s₁ hx hby hml hown hnm hZ hrt hlk X0 e0
  have N0 := Fr.nil n0
  refine own_tp (.int (0 : Int32)) 1 (fun _ q => XS.iloadN X0.here hx rfl (hb hby dp10m3_0) rfl q) ?_
  refine own_d1 8 (fun _ q => XS.ifYes X0.here hx rfl (pc0 := 1) (pc' := 8) rfl (hb hby dp10m3_1) rfl ((if0 _ _).trans (teq (by decide : (0 : Int32) = (0 : Int32))).1) (by decide) (by decide) q) ?_
  refine own_tp (.long (0 : Int64)) 9 (fun _ q => XS.lconst X0.here hx rfl (hb hby dp10m3_8) q) ?_
  refine own_ls #[.val (.int (0 : Int32)), .val (.long d), .second, .val (.int (1 : Int32)), .val (.long (0 : Int64)), .second] 11 (fun _ q => XS.lstore X0.here hx rfl (hb hby dp10m3_9) rfl (l' := #[.val (.int (0 : Int32)), .val (.long d), .second, .val (.int (1 : Int32)), .val (.long (0 : Int64)), .second]) rfl q) ?_
  refine own_tp (.long d) 12 (fun _ q => XS.lloadN X0.here hx rfl (hb hby dp10m3_11) rfl q) ?_
  refine own_tp (.long (1000000 : Int64)) 15 (fun _ q => X0.ldc2Long hx hown (mvT hZ (own_w hw 16 rfl)) (g := (mkF m 12 #[.val (.int (0 : Int32)), .val (.long d), .second, .val (.int (1 : Int32)), .val (.long (0 : Int64)), .second] [(.long d)])) rfl (hb hby dp10m3_12) _ q) ?_
  refine own_t2 (.int (lcmpW d (1000000 : Int64))) 16 (fun _ q => XS.lcmp X0.here hx rfl (hb hby dp10m3_15) rfl q) ?_
  refine own_d1 19 (fun _ q => XS.ifNo X0.here hx rfl (hb hby dp10m3_16) rfl ((if0 _ _).trans (tlt (own_lt6 hd)).2.1) q) ?_
  refine own_tp (.int (1 : Int32)) 20 (fun _ q => XS.iloadN X0.here hx rfl (hb hby dp10m3_19) rfl q) ?_
  refine own_d1 37 (fun _ q => XS.ifYes X0.here hx rfl (pc0 := 20) (pc' := 37) rfl (hb hby dp10m3_20) rfl ((if0 _ _).trans (feq (by decide : ¬ ((1 : Int32) = (0 : Int32)))).2) (by decide) (by decide) q) ?_
  refine own_tp (.int (0 : Int32)) 38 (fun _ q => XS.iloadN X0.here hx rfl (hb hby dp10m3_37) rfl q) ?_
  refine own_tp (.long d) 39 (fun _ q => XS.lloadN X0.here hx rfl (hb hby dp10m3_38) rfl q) ?_
  refine own_tp (.int (0 : Int32)) 40 (fun _ q => XS.iconst X0.here hx rfl (hb hby dp10m3_39) q) ?_
  refine own_tp (.int (1 : Int32)) 41 (fun _ q => XS.iloadN X0.here hx rfl (hb hby dp10m3_40) rfl q) ?_
  obtain ⟨_, _, ⟨T51, L51, k51, n51⟩, -, X51, ⟨Lc51, hQ51, l51, y51, z51⟩, st51⟩ := Jvm.LawKit.callS X0 hx (y := (⟨"com/example/unit_step/unitstep/FloatingPointLayout", "write", "(ZJIZ)Ljava/lang/String;"⟩ : MethodName)) hown (mvT hZ (own_w hw 81 rfl)) (mvT hZ (own_w hw 82 rfl)) (mvT hZ (own_w hw 3 rfl)) (mvT hZ (own_w hw 83 rfl)) (by decide) (backOf (W := 0) (rm31 l Z a0 hw [] d h0 n0 G1 P5 O0 Sc G3 rG3 Sf dg kd ex kx TB Z0 hd) hZ (own_w hw 83 rfl) (own_w hw 3 rfl) (by decide) (by decide)) (g := (mkF m 41 #[.val (.int (0 : Int32)), .val (.long d), .second, .val (.int (1 : Int32)), .val (.long (0 : Int64)), .second] [(.int (1 : Int32)), (.int (0 : Int32)), (.long d), (.int (0 : Int32))])) rfl (by rw [hml]; rfl) (argsL := [(.int (0 : Int32)), (.long d), (.int (0 : Int32)), (.int (1 : Int32))]) (rest := []) (lenOf pd21 rfl) rfl (by show 2 * 0 + _ ≤ _; exact Nat.le_of_eq rfl) (hb hby dp10m3_41) (fun _ _ => ⟨rfl, e0, (by decide : 0 + 3 ≤ _), (by decide : 0 + 14 ≤ _)⟩)
  dsimp only [Pt.U, Pt.locs, Pt.cells, Pt.slots] at X51 l51 y51 z51 st51 hQ51
  subst l51 y51 z51
  obtain ⟨sa51, sb51, sk51, rfl, Nq51, Kp51, Es51, Cs51, Ls51, Vs51⟩ := hQ51
  have N51 := Fr.app N0 Nq51
  have O51 := Old.keep O0 Kp51 all0
  have Z51 : n0 ≤ T51.heap.size := Nat.le_trans Z0 Kp51.1
  have K51 : Keep h0 T51.heap [] := Keep.trans (Keep.refl h0 []) Kp51 all0
  refine own_cs [(.ref sa51)] 44 st51 ?_
  exact own_retR X51 hx hrt (hb hby dp10m3_44) rfl rfl hlk (by decide) (by decide) rfl (⟨sa51, sb51, _, rfl, N51, K51, Es51, Cs51, Ls51, Vs51⟩)

def Q40  (h0 : Heap) (n0 : Nat) (v : Option Value) (h : Heap) (L : List Loc) : Prop := v = some (.int (2 : Int32)) ∧ Fr n0 L ∧ h = h0

set_option maxRecDepth 65536 in
set_option maxHeartbeats 40000000 in
theorem rm40 (l : Launch) (Z : State) (a0 : Array Value) (hw : ∀ d ∈ tables_1, d.before a0 Z = true) (ws : List Jvm.Cond) (d : Int64) (h0 : Heap) (n0 : Nat) (hd : own_D d) :
    own_Met l (⟨"java/lang/Long", "stringSize", "(J)I"⟩ : MethodName) jdk_35_method_15_code 6 (some .int) ws own_R_0_0_0_0 Z #[(.long (-d))] h0 (Q40 h0 n0) := by
  refine own_enter #[.val (.long (-d)), .second, .unset, .unset, .unset, .unset] (plainFor_of_name pn_java_lang_Long) (fun m => ef_J_6 m (-d)) ?_
  intro p e s m below meth c s₁ hx hby hml hown hnm hZ hrt hlk X0 e0
  have N0 := Fr.nil n0
  refine own_tp (.int (1 : Int32)) 1 (fun _ q => XS.iconst X0.here hx rfl (hb hby dj35m15_0) q) ?_
  refine own_ls #[.val (.long (-d)), .second, .val (.int (1 : Int32)), .unset, .unset, .unset] 2 (fun _ q => XS.istoreN X0.here hx rfl (hb hby dj35m15_1) rfl (l' := #[.val (.long (-d)), .second, .val (.int (1 : Int32)), .unset, .unset, .unset]) rfl q) ?_
  refine own_tp (.long (-d)) 3 (fun _ q => XS.lloadN X0.here hx rfl (hb hby dj35m15_2) rfl q) ?_
  refine own_tp (.long (0 : Int64)) 4 (fun _ q => XS.lconst X0.here hx rfl (hb hby dj35m15_3) q) ?_
  refine own_t2 (.int (lcmpW (-d) (0 : Int64))) 5 (fun _ q => XS.lcmp X0.here hx rfl (hb hby dj35m15_4) rfl q) ?_
  refine own_d1 13 (fun _ q => XS.ifYes X0.here hx rfl (pc0 := 5) (pc' := 13) rfl (hb hby dj35m15_5) rfl ((if0 _ _).trans (tlt (own_neg hd)).1) (by decide) (by decide) q) ?_
  refine own_tp (.long (-10 : Int64)) 16 (fun _ q => X0.ldc2Long hx hown (mvT hZ (own_w hw 24 rfl)) (g := (mkF m 13 #[.val (.long (-d)), .second, .val (.int (1 : Int32)), .unset, .unset, .unset] [])) rfl (hb hby dj35m15_13) _ q) ?_
  refine own_ls #[.val (.long (-d)), .second, .val (.int (1 : Int32)), .val (.long (-10 : Int64)), .second, .unset] 17 (fun _ q => XS.lstoreN X0.here hx rfl (hb hby dj35m15_16) rfl (l' := #[.val (.long (-d)), .second, .val (.int (1 : Int32)), .val (.long (-10 : Int64)), .second, .unset]) rfl q) ?_
  refine own_tp (.int (1 : Int32)) 18 (fun _ q => XS.iconst X0.here hx rfl (hb hby dj35m15_17) q) ?_
  refine own_ls #[.val (.long (-d)), .second, .val (.int (1 : Int32)), .val (.long (-10 : Int64)), .second, .val (.int (1 : Int32))] 20 (fun _ q => XS.istore X0.here hx rfl (hb hby dj35m15_18) rfl (l' := #[.val (.long (-d)), .second, .val (.int (1 : Int32)), .val (.long (-10 : Int64)), .second, .val (.int (1 : Int32))]) rfl q) ?_
  refine own_tp (.int (1 : Int32)) 22 (fun _ q => XS.iload X0.here hx rfl (hb hby dj35m15_20) rfl q) ?_
  refine own_tp (.int (19 : Int32)) 24 (fun _ q => XS.bipush X0.here hx rfl (hb hby dj35m15_22) q) ?_
  refine own_d2 27 (fun _ q => XS.icmpNo X0.here hx rfl (hb hby dj35m15_24) rfl (tlt (by decide : (1 : Int32) < (19 : Int32))).2.1 q) ?_
  refine own_tp (.long (-d)) 28 (fun _ q => XS.lloadN X0.here hx rfl (hb hby dj35m15_27) rfl q) ?_
  refine own_tp (.long (-10 : Int64)) 29 (fun _ q => XS.lloadN X0.here hx rfl (hb hby dj35m15_28) rfl q) ?_
  refine own_t2 (.int (lcmpW (-d) (-10 : Int64))) 30 (fun _ q => XS.lcmp X0.here hx rfl (hb hby dj35m15_29) rfl q) ?_
  refine own_d1 33 (fun _ q => XS.ifNo X0.here hx rfl (hb hby dj35m15_30) rfl ((if0 _ _).trans (tlt (own_m10 hd)).2.2.2) q) ?_
  refine own_tp (.int (1 : Int32)) 35 (fun _ q => XS.iload X0.here hx rfl (hb hby dj35m15_33) rfl q) ?_
  refine own_tp (.int (1 : Int32)) 36 (fun _ q => XS.iloadN X0.here hx rfl (hb hby dj35m15_35) rfl q) ?_
  refine own_t2 (.int (2 : Int32)) 37 (fun _ q => XS.iadd X0.here hx rfl (hb hby dj35m15_36) rfl q) ?_
  exact own_retI X0 hx hrt (hb hby dj35m15_37) hlk (by decide) (by decide) e0 (⟨rfl, N0, rfl⟩)

def Q41 (Z : State) (b1 : Addr) (k1 : ClassId) (d : Int64) (h0 : Heap) (n0 : Nat) (v : Option Value) (h : Heap) (L : List Loc) : Prop := v = some (.int (0 : Int32)) ∧ Fr n0 L ∧ Keep h0 h [b1] ∧ Arv Z h b1 k1 .byte (2 : Int32) [(.int (45 : Int32)), (.int (nar .byte (own_dg d)))] (.int (0 : Int32))

set_option maxRecDepth 65536 in
set_option maxHeartbeats 40000000 in
theorem rm41 (l : Launch) (Z : State) (a0 : Array Value) (hw : ∀ d ∈ tables_1, d.before a0 Z = true) (ws : List Jvm.Cond) (b1 : Addr) (k1 : ClassId) (d : Int64) (h0 : Heap) (n0 : Nat) (hd : own_D d) (Z0 : n0 ≤ h0.size) (g1 : n0 ≤ b1) (O0 : Old Z n0 h0) (dg : Addr) (kd : ClassId) (ex : Addr) (kx : ClassId) (TB : own_TB Z dg kd ex kx) (V1 : Arv Z h0 b1 k1 .byte (2 : Int32) [(.int (0 : Int32)), (.int (0 : Int32))] (.int (0 : Int32))) :
    own_Met l (⟨"java/lang/Long", "getChars", "(JI[B)I"⟩ : MethodName) jdk_35_method_14_code 11 (some .int) ws own_R_0_0_0_0 Z #[(.long (-d)), (.int (2 : Int32)), (.ref b1)] h0 (Q41 Z b1 k1 d h0 n0) := by
  refine own_enter #[.val (.long (-d)), .second, .val (.int (2 : Int32)), .val (.ref b1), .unset, .unset, .unset, .unset, .unset, .unset, .unset] (plainFor_of_name pn_java_lang_Long) (fun m => ef_JIR_11 m (-d) (2 : Int32) b1) ?_
  intro p e s m below meth c s₁ hx hby hml hown hnm hZ hrt hlk X0 e0
  have N0 := Fr.nil n0
  refine own_tp (.int (2 : Int32)) 1 (fun _ q => XS.iloadN X0.here hx rfl (hb hby dj35m14_0) rfl q) ?_
  let L_51 : Array Slot := #[.val (.long (-d)), .second, .val (.int (2 : Int32)), .val (.ref b1), .unset, .unset, .unset, .val (.int (2 : Int32)), .unset, .unset, .unset]
  refine own_ls L_51 3 (fun _ q => XS.istore X0.here hx rfl (hb hby dj35m14_1) rfl (l' := L_51) rfl q) ?_
  refine own_tp (.long (-d)) 4 (fun _ q => XS.lloadN X0.here hx rfl (hb hby dj35m14_3) rfl q) ?_
  refine own_tp (.long (0 : Int64)) 5 (fun _ q => XS.lconst X0.here hx rfl (hb hby dj35m14_4) q) ?_
  refine own_t2 (.int (lcmpW (-d) (0 : Int64))) 6 (fun _ q => XS.lcmp X0.here hx rfl (hb hby dj35m14_5) rfl q) ?_
  refine own_d1 9 (fun _ q => XS.ifNo X0.here hx rfl (hb hby dj35m14_6) rfl ((if0 _ _).trans (tlt (own_neg hd)).2.1) q) ?_
  refine own_tp (.int (1 : Int32)) 10 (fun _ q => XS.iconst X0.here hx rfl (hb hby dj35m14_9) q) ?_
  refine own_d0 14 (fun _ q => XS.goto X0.here hx rfl (pc0 := 10) (pc' := 14) rfl (hb hby dj35m14_10) (by decide) (by decide) q) ?_
  let L_52 : Array Slot := #[.val (.long (-d)), .second, .val (.int (2 : Int32)), .val (.ref b1), .unset, .unset, .unset, .val (.int (2 : Int32)), .val (.int (1 : Int32)), .unset, .unset]
  refine own_ls L_52 16 (fun _ q => XS.istore X0.here hx rfl (hb hby dj35m14_14) rfl (l' := L_52) rfl q) ?_
  refine own_tp (.int (1 : Int32)) 18 (fun _ q => XS.iload X0.here hx rfl (hb hby dj35m14_16) rfl q) ?_
  refine own_d1 24 (fun _ q => XS.ifYes X0.here hx rfl (pc0 := 18) (pc' := 24) rfl (hb hby dj35m14_18) rfl ((if0 _ _).trans (feq (by decide : ¬ ((1 : Int32) = (0 : Int32)))).2) (by decide) (by decide) q) ?_
  refine own_tp (.long (-d)) 25 (fun _ q => XS.lloadN X0.here hx rfl (hb hby dj35m14_24) rfl q) ?_
  refine own_tp (.long (-2147483648 : Int64)) 28 (fun _ q => X0.ldc2Long hx hown (mvT hZ (own_w hw 29 rfl)) (g := (mkF m 25 L_52 [(.long (-d))])) rfl (hb hby dj35m14_25) _ q) ?_
  refine own_t2 (.int (lcmpW (-d) (-2147483648 : Int64))) 29 (fun _ q => XS.lcmp X0.here hx rfl (hb hby dj35m14_28) rfl q) ?_
  refine own_d1 82 (fun _ q => XS.ifYes X0.here hx rfl (pc0 := 29) (pc' := 82) rfl (hb hby dj35m14_29) rfl ((if0 _ _).trans (tlt (own_mmin hd)).2.2.1) (by decide) (by decide) q) ?_
  refine own_tp (.long (-d)) 83 (fun _ q => XS.lloadN X0.here hx rfl (hb hby dj35m14_82) rfl q) ?_
  refine own_t1 (.int ((-d).toInt32)) 84 (fun _ q => XS.l2i X0.here hx rfl (hb hby dj35m14_83) rfl q) ?_
  let L_53 : Array Slot := #[.val (.long (-d)), .second, .val (.int (2 : Int32)), .val (.ref b1), .unset, .unset, .unset, .val (.int (2 : Int32)), .val (.int (1 : Int32)), .unset, .val (.int ((-d).toInt32))]
  refine own_ls L_53 86 (fun _ q => XS.istore X0.here hx rfl (hb hby dj35m14_84) rfl (l' := L_53) rfl q) ?_
  refine own_tp (.int ((-d).toInt32)) 88 (fun _ q => XS.iload X0.here hx rfl (hb hby dj35m14_86) rfl q) ?_
  refine own_tp (.int (-100 : Int32)) 90 (fun _ q => XS.bipush X0.here hx rfl (hb hby dj35m14_88) q) ?_
  refine own_d2 143 (fun _ q => XS.icmpYes X0.here hx rfl (pc0 := 90) (pc' := 143) rfl (hb hby dj35m14_90) rfl (tlt (own_m100 hd)).2.2.1 (by decide) (by decide) q) ?_
  refine own_tp (.ref b1) 144 (fun _ q => XS.aloadN X0.here hx rfl (hb hby dj35m14_143) rfl rfl q) ?_
  let L_54 : Array Slot := #[.val (.long (-d)), .second, .val (.int (2 : Int32)), .val (.ref b1), .unset, .unset, .unset, .val (.int (1 : Int32)), .val (.int (1 : Int32)), .unset, .val (.int ((-d).toInt32))]
  refine own_li L_54 147 (fun _ q => XS.iinc X0.here hx rfl (hb hby dj35m14_144) rfl (l' := L_54) rfl q) ?_
  refine own_tp (.int (1 : Int32)) 149 (fun _ q => XS.iload X0.here hx rfl (hb hby dj35m14_147) rfl q) ?_
  obtain ⟨T55, X55, e55, st55⟩ := getS2 X0 hx hZ hown (host := "") (Or.inl (own_w hw 30 rfl)) Via.refl e0 (TB.1.ext O0.2) (g := (mkF m 149 L_54 [(.int (1 : Int32)), (.ref b1)])) rfl (hb hby dj35m14_149)
  refine own_tp (.ref dg) 152 st55 ?_
  refine own_tp (.int ((-d).toInt32)) 154 (fun _ q => XS.iload X55.here hx rfl (hb hby dj35m14_152) rfl q) ?_
  refine own_t1 (.int (-((-d).toInt32))) 155 (fun _ q => XS.ineg X55.here hx rfl (hb hby dj35m14_154) rfl q) ?_
  obtain ⟨cl56, Ar56, q56, S56, Nn56, H56, G56⟩ := (id (TB.2.1.ext O0.2))
  have hin56 : ¬ ((-((-d).toInt32)) < 0 ∨ cl56.slots.size ≤ ((-((-d).toInt32))).toNatClampNeg) := inb_of S56 (own_didx hd)
  have hat56 : cl56.slots[((-((-d).toInt32))).toNatClampNeg]? = some (.int (own_dg d)) := H56.at hin56 (by exact own_onesAt hd)
  refine own_t2 (.int (own_dg d)) 156 (fun _ q => X55.baloadBytes hx (j := (-((-d).toInt32))) (v := (.int (own_dg d))) (by rw [e55]; exact Ar56.1) (State.isArrayOf_alike hZ.alike Ar56.2.1) Ar56.2.2 hin56 hat56 (g := (mkF m 155 L_54 [(.int (-((-d).toInt32))), (.ref dg), (.int (1 : Int32)), (.ref b1)])) rfl rfl (hb hby dj35m14_155) _ q) ?_
  obtain ⟨cl57, Ar57, q57, S57, Nn57, H57, G57⟩ := (id V1)
  have hin57 : ¬ ((1 : Int32) < 0 ∨ cl57.slots.size ≤ ((1 : Int32)).toNatClampNeg) := inb_of S57 ⟨by decide, by decide⟩
  obtain ⟨T58, h58, X58, e58, W58, st58⟩ := stB X55 hx hZ e55 Ar57 (j := (1 : Int32)) hin57 (g := (mkF m 156 L_54 [(.int (own_dg d)), (.int (1 : Int32)), (.ref b1)])) rfl rfl (hb hby dj35m14_156)
  have V58 := Arv.set Ar57 q57 S57 Nn57 H57 G57 (fits_nar_byte _) W58 1 rfl (Nat.le_of_ble_eq_true rfl)
  have N58 := Fr.snoc X58 N0 g1
  have O58 := Old.wr O0 W58 g1
  have K58 : Keep h0 h58 [b1] := (Keep.refl h0 [b1]).wr W58 (Or.inl (List.mem_of_getElem? (i := 0) rfl))
  have Z58 : n0 ≤ h58.size := Nat.le_trans Z0 (Nat.le_of_eq W58.size.symm)
  have V58' : Arv Z h58 b1 k1 .byte (2 : Int32) [(.int (0 : Int32)), (.int (nar .byte (own_dg d)))] (.int (0 : Int32)) := V58
  refine own_cs [] 157 st58 ?_
  refine own_tp (.int ((-d).toInt32)) 159 (fun _ q => XS.iload X58.here hx rfl (hb hby dj35m14_157) rfl q) ?_
  refine own_tp (.int (-9 : Int32)) 161 (fun _ q => XS.bipush X58.here hx rfl (hb hby dj35m14_159) q) ?_
  refine own_d2 178 (fun _ q => XS.icmpYes X58.here hx rfl (pc0 := 161) (pc' := 178) rfl (hb hby dj35m14_161) rfl (flt (own_m9 hd)).2.1 (by decide) (by decide) q) ?_
  refine own_tp (.int (1 : Int32)) 180 (fun _ q => XS.iload X58.here hx rfl (hb hby dj35m14_178) rfl q) ?_
  refine own_d1 183 (fun _ q => XS.ifNo X58.here hx rfl (hb hby dj35m14_180) rfl ((if0 _ _).trans (feq (by decide : ¬ ((1 : Int32) = (0 : Int32)))).1) q) ?_
  refine own_tp (.ref b1) 184 (fun _ q => XS.aloadN X58.here hx rfl (hb hby dj35m14_183) rfl rfl q) ?_
  let L_59 : Array Slot := #[.val (.long (-d)), .second, .val (.int (2 : Int32)), .val (.ref b1), .unset, .unset, .unset, .val (.int (0 : Int32)), .val (.int (1 : Int32)), .unset, .val (.int ((-d).toInt32))]
  refine own_li L_59 187 (fun _ q => XS.iinc X58.here hx rfl (hb hby dj35m14_184) rfl (l' := L_59) rfl q) ?_
  refine own_tp (.int (0 : Int32)) 189 (fun _ q => XS.iload X58.here hx rfl (hb hby dj35m14_187) rfl q) ?_
  refine own_tp (.int (45 : Int32)) 191 (fun _ q => XS.bipush X58.here hx rfl (hb hby dj35m14_189) q) ?_
  obtain ⟨cl60, Ar60, q60, S60, Nn60, H60, G60⟩ := (id V58')
  have hin60 : ¬ ((0 : Int32) < 0 ∨ cl60.slots.size ≤ ((0 : Int32)).toNatClampNeg) := inb_of S60 ⟨by decide, by decide⟩
  obtain ⟨T61, h61, X61, e61, W61, st61⟩ := stB X58 hx hZ e58 Ar60 (j := (0 : Int32)) hin60 (g := (mkF m 191 L_59 [(.int (45 : Int32)), (.int (0 : Int32)), (.ref b1)])) rfl rfl (hb hby dj35m14_191)
  have V61 := Arv.set Ar60 q60 S60 Nn60 H60 G60 (fits_nar_byte _) W61 0 rfl (Nat.le_of_ble_eq_true rfl)
  have N61 := Fr.snoc X61 N58 g1
  have O61 := Old.wr O58 W61 g1
  have K61 : Keep h0 h61 [b1] := K58.wr W61 (Or.inl (List.mem_of_getElem? (i := 0) rfl))
  have Z61 : n0 ≤ h61.size := Nat.le_trans Z58 (Nat.le_of_eq W61.size.symm)
  have V61' : Arv Z h61 b1 k1 .byte (2 : Int32) [(.int (45 : Int32)), (.int (nar .byte (own_dg d)))] (.int (0 : Int32)) := by have q := V61; first | (rw [show nar .byte (45 : Int32) = (45 : Int32) from by decide] at q; exact q) | (rw [show (45 : Int32).toInt8.toInt32 = (45 : Int32) from by decide] at q; exact q)
  refine own_cs [] 192 st61 ?_
  refine own_tp (.int (0 : Int32)) 194 (fun _ q => XS.iload X61.here hx rfl (hb hby dj35m14_192) rfl q) ?_
  exact own_retI X61 hx hrt (hb hby dj35m14_194) hlk (by decide) (by decide) e61 (⟨rfl, N61, K61, V61'⟩)

set_option maxRecDepth 65536 in
set_option maxHeartbeats 40000000 in
theorem rm42 (l : Launch) (Z : State) (a0 : Array Value) (hw : ∀ d ∈ tables_1, d.before a0 Z = true) (ws : List Jvm.Cond) (d : Int64) (h0 : Heap) (n0 : Nat) (G1 : Int32) (P5 : ¬ G1 = (0 : Int32)) (O0 : Old Z n0 h0) (Sc : Sta Z Z.heap "java/lang/String" "COMPACT_STRINGS" "Z" (.int G1)) (G3 : Value) (rG3 : G3.isRef = true) (Sf : Sta Z Z.heap "jdk/internal/util/Preconditions" "SIOOBE_FORMATTER" "Ljava/util/function/BiFunction;" G3) (dg : Addr) (kd : ClassId) (ex : Addr) (kx : ClassId) (TB : own_TB Z dg kd ex kx) (Z0 : n0 ≤ h0.size) (hd : own_D d) :
    own_Met l (⟨"java/lang/Long", "toString", "(J)Ljava/lang/String;"⟩ : MethodName) jdk_35_method_12_code 4 (some (.object "java/lang/String")) ws own_R_2_2_6_27 Z #[(.long (-d))] h0 (own_RS Z (2 : Int32) [(.int (45 : Int32)), (.int (nar .byte (own_dg d)))] h0 n0) := by
  refine own_enter #[.val (.long (-d)), .second, .unset, .unset] (plainFor_of_name pn_java_lang_Long) (fun m => ef_J_4 m (-d)) ?_
  intro p e s m below meth c s₁ hx hby hml hown hnm hZ hrt hlk X0 e0
  have N0 := Fr.nil n0
  refine own_tp (.long (-d)) 1 (fun _ q => XS.lloadN X0.here hx rfl (hb hby dj35m12_0) rfl q) ?_
  obtain ⟨_, _, ⟨T51, L51, k51, n51⟩, -, X51, ⟨Lc51, hQ51, l51, y51, z51⟩, st51⟩ := Jvm.LawKit.callS X0 hx (y := (⟨"java/lang/Long", "stringSize", "(J)I"⟩ : MethodName)) hown (mvT hZ (own_w hw 21 rfl)) (mvT hZ (own_w hw 22 rfl)) (mvT hZ (own_w hw 19 rfl)) (mvT hZ (own_w hw 23 rfl)) (by decide) (backOf (W := 0) (rm40 l Z a0 hw [] d h0 n0 hd) hZ (own_w hw 23 rfl) (own_w hw 19 rfl) (by decide) (by decide)) (g := (mkF m 1 #[.val (.long (-d)), .second, .unset, .unset] [(.long (-d))])) rfl (by rw [hml]; rfl) (argsL := [(.long (-d))]) (rest := []) (lenOf pd8 rfl) rfl (by show 2 * 0 + _ ≤ _; exact Nat.le_of_eq rfl) (hb hby dj35m12_1) (fun _ _ => ⟨rfl, e0, (by decide : 0 + 0 ≤ _), (by decide : 0 + 0 ≤ _)⟩)
  dsimp only [Pt.U, Pt.locs, Pt.cells, Pt.slots] at X51 l51 y51 z51 st51 hQ51
  subst l51 y51 z51
  obtain ⟨rfl, Nq51, eq51⟩ := hQ51
  have N51 := Fr.app N0 Nq51
  refine own_t1 (.int (2 : Int32)) 4 st51 ?_
  refine own_ls #[.val (.long (-d)), .second, .val (.int (2 : Int32)), .unset] 5 (fun _ q => XS.istoreN X51.here hx rfl (hb hby dj35m12_4) rfl (l' := #[.val (.long (-d)), .second, .val (.int (2 : Int32)), .unset]) rfl q) ?_
  obtain ⟨T52, X52, e52, st52⟩ := getS2 X51 hx hZ hown (host := "") (Or.inl (own_w hw 25 rfl)) Via.refl eq51 (Sc.ext O0.2) (g := (mkF m 5 #[.val (.long (-d)), .second, .val (.int (2 : Int32)), .unset] [])) rfl (hb hby dj35m12_5)
  refine own_tp (.int G1) 8 st52 ?_
  refine own_d1 11 (fun _ q => XS.ifNo X52.here hx rfl (hb hby dj35m12_8) rfl ((if0 _ _).trans (feq P5).1) q) ?_
  refine own_tp (.int (2 : Int32)) 12 (fun _ q => XS.iloadN X52.here hx rfl (hb hby dj35m12_11) rfl q) ?_
  obtain ⟨T53, h53, k53, X53, e53, E53, A53, st53⟩ := newP X52 hx hZ (own_w hw 8 rfl) e52 (g := (mkF m 12 #[.val (.long (-d)), .second, .val (.int (2 : Int32)), .unset] [(.int (2 : Int32))])) rfl (hb hby dj35m12_12) rfl (by decide) (cap := 2) (by decide) (by decide) (by decide) (by decide)
  obtain ⟨b53, g53⟩ : ∃ z, z = h0.size := ⟨_, rfl⟩
  rw [← g53] at A53 st53
  have V53 : Arv Z h53 b53 k53 .byte (2 : Int32) [(.int (0 : Int32)), (.int (0 : Int32))] (.int (0 : Int32)) := (Arv.new A53 (by decide)).pad (pad_rep [] (.int (0 : Int32)) 2)
  have ge53 : n0 ≤ b53 := Nat.le_trans Z0 (Nat.le_of_eq g53.symm)
  have sz53 : h0.size ≤ b53 := Nat.le_trans (Keep.refl h0 []).1 (Nat.le_of_eq g53.symm)
  have O53 := Old.ext O0 E53
  have K53 : Keep h0 h53 [] := (Keep.refl h0 []).ext E53
  have Z53 : n0 ≤ h53.size := Nat.le_trans Z0 E53.1
  refine own_t1 (.ref b53) 14 st53 ?_
  refine own_ls #[.val (.long (-d)), .second, .val (.int (2 : Int32)), .val (.ref b53)] 15 (fun _ q => XS.astoreN X53.here hx rfl (hb hby dj35m12_14) rfl rfl (l' := #[.val (.long (-d)), .second, .val (.int (2 : Int32)), .val (.ref b53)]) rfl q) ?_
  refine own_tp (.long (-d)) 16 (fun _ q => XS.lloadN X53.here hx rfl (hb hby dj35m12_15) rfl q) ?_
  refine own_tp (.int (2 : Int32)) 17 (fun _ q => XS.iloadN X53.here hx rfl (hb hby dj35m12_16) rfl q) ?_
  refine own_tp (.ref b53) 18 (fun _ q => XS.aloadN X53.here hx rfl (hb hby dj35m12_17) rfl rfl q) ?_
  obtain ⟨_, _, ⟨T54, L54, k54, n54⟩, -, X54, ⟨Lc54, hQ54, l54, y54, z54⟩, st54⟩ := Jvm.LawKit.callS X53 hx (y := (⟨"java/lang/Long", "getChars", "(JI[B)I"⟩ : MethodName)) hown (mvT hZ (own_w hw 26 rfl)) (mvT hZ (own_w hw 27 rfl)) (mvT hZ (own_w hw 19 rfl)) (mvT hZ (own_w hw 28 rfl)) (by decide) (backOf (W := 0) (rm41 l Z a0 hw [] b53 k53 d h53 n0 hd Z53 ge53 O53 dg kd ex kx TB V53) hZ (own_w hw 28 rfl) (own_w hw 19 rfl) (by decide) (by decide)) (g := (mkF m 18 #[.val (.long (-d)), .second, .val (.int (2 : Int32)), .val (.ref b53)] [(.ref b53), (.int (2 : Int32)), (.long (-d))])) rfl (by rw [hml]; rfl) (argsL := [(.long (-d)), (.int (2 : Int32)), (.ref b53)]) (rest := []) (lenOf pd18 rfl) rfl (by show 2 * 0 + _ ≤ _; exact Nat.le_of_eq rfl) (hb hby dj35m12_18) (fun _ _ => ⟨rfl, e53, (by decide : 1 + 0 ≤ _), (by decide : 2 + 0 ≤ _)⟩)
  dsimp only [Pt.U, Pt.locs, Pt.cells, Pt.slots] at X54 l54 y54 z54 st54 hQ54
  subst l54 y54 z54
  obtain ⟨rfl, Nq54, Kp54, V54⟩ := hQ54
  have N54 := Fr.app N51 Nq54
  have O54 := Old.keep O53 Kp54 (allS ge53 all0)
  have Z54 : n0 ≤ T54.heap.size := Nat.le_trans Z53 Kp54.1
  have K54 : Keep h0 T54.heap [] := Keep.trans K53 Kp54 (allS (Or.inr sz53) all0)
  refine own_cs [(.int (0 : Int32))] 21 st54 ?_
  refine own_d1 22 (fun _ q => XS.pop X54.here hx rfl (hb hby dj35m12_21) rfl rfl q) ?_
  obtain ⟨T55, h55, X55, e55, E55, A55, D55, -, st55⟩ := newO X54 hx hZ hown (own_w hw 32 rfl) (own_w hw 7 rfl) (own_w hw 6 rfl) rfl (g := (mkF m 22 #[.val (.long (-d)), .second, .val (.int (2 : Int32)), .val (.ref b53)] [])) rfl (hb hby dj35m12_22) (by decide) (by decide)
  obtain ⟨b55, g55⟩ : ∃ z, z = T54.heap.size := ⟨_, rfl⟩
  rw [← g55] at A55 D55 st55
  have ge55 : n0 ≤ b55 := Nat.le_trans Z54 (Nat.le_of_eq g55.symm)
  have sz55 : h0.size ≤ b55 := Nat.le_trans K54.1 (Nat.le_of_eq g55.symm)
  have ne56 : b53 ≠ b55 := Nat.ne_of_lt (Nat.lt_of_lt_of_le V54.lt (Nat.le_of_eq g55.symm))
  have O55 := Old.ext O54 E55
  have K55 : Keep h0 h55 [] := K54.ext E55
  have Z55 : n0 ≤ h55.size := Nat.le_trans Z54 E55.1
  have Fvalue_55 : Fld Z h55 b55 "java/lang/String" "value" "[B" .null := D55 (Or.inr (own_w hw 9 rfl)) (ty := (.array .byte)) (by decide)
  have Fcoder_55 : Fld Z h55 b55 "java/lang/String" "coder" "B" (.int (0 : Int32)) := D55 (Or.inr (own_w hw 10 rfl)) (ty := .byte) (by decide)
  refine own_tp (.ref b55) 25 st55 ?_
  refine own_tp (.ref b55) 26 (fun _ q => XS.dup X55.here hx rfl (hb hby dj35m12_25) rfl rfl q) ?_
  refine own_tp (.ref b53) 27 (fun _ q => XS.aloadN X55.here hx rfl (hb hby dj35m12_26) rfl rfl q) ?_
  refine own_tp (.int (0 : Int32)) 28 (fun _ q => XS.iconst X55.here hx rfl (hb hby dj35m12_27) q) ?_
  obtain ⟨_, _, ⟨T57, L57, k57, n57⟩, -, X57, ⟨Lc57, hQ57, l57, y57, z57⟩, st57⟩ := X55.specialBack hx (y := (⟨"java/lang/String", "<init>", "([BB)V"⟩ : MethodName)) rfl hown (mvT hZ (own_w hw 33 rfl)) (mvT hZ (own_w hw 34 rfl)) (mvT hZ (own_w hw 36 rfl)) (by decide) (backOf (W := 1) (rm34 l Z a0 hw [] b55 b53 _ _ h55 n0 Z55 ge55 A55 Fvalue_55 Fcoder_55) hZ (own_w hw 36 rfl) (own_w hw 6 rfl) (by decide) (by decide)) (g := (mkF m 28 #[.val (.long (-d)), .second, .val (.int (2 : Int32)), .val (.ref b53)] [(.int (0 : Int32)), (.ref b53), (.ref b55), (.ref b55)])) rfl (by rw [hml]; rfl) (Steps.refl _) (a := b55) (argsL := [(.ref b53), (.int (0 : Int32))]) (rest := [(.ref b55)]) (lenOf pd19 rfl) rfl (by show 2 * 0 + _ ≤ _; exact Nat.le_of_eq rfl) (hb hby dj35m12_28) (fun _ _ => ⟨rfl, e55, (by decide : 2 + 0 ≤ _), (by decide : 6 + 0 ≤ _)⟩)
  dsimp only [Pt.U, Pt.locs, Pt.cells, Pt.slots] at X57 l57 y57 z57 st57 hQ57
  subst l57 y57 z57
  obtain ⟨rfl, Nq57, Kp57, A57, Cd57, Vl57⟩ := hQ57
  have N57 := Fr.app N54 Nq57
  have O57 := Old.keep O55 Kp57 (allS ge55 all0)
  have Z57 : n0 ≤ T57.heap.size := Nat.le_trans Z55 Kp57.1
  have K57 : Keep h0 T57.heap [] := Keep.trans K55 Kp57 (allS (Or.inr sz55) all0)
  refine own_csR [(.ref b55)] 31 st57 ?_
  have f58 := ((V54.ext E55).keep Kp57 (ninS ne56 nin0))
  exact own_retR X57 hx hrt (hb hby dj35m12_31) rfl rfl hlk (by decide) (by decide) rfl (⟨b55, b53, _, rfl, N57, K57, A57, Cd57, Vl57, f58⟩)

set_option maxRecDepth 65536 in
set_option maxHeartbeats 40000000 in
theorem rm43 (l : Launch) (Z : State) (a0 : Array Value) (hw : ∀ d ∈ tables_1, d.before a0 Z = true) (ws : List Jvm.Cond) (d : Int64) (h0 : Heap) (n0 : Nat) (G1 : Int32) (P5 : ¬ G1 = (0 : Int32)) (O0 : Old Z n0 h0) (Sc : Sta Z Z.heap "java/lang/String" "COMPACT_STRINGS" "Z" (.int G1)) (G3 : Value) (rG3 : G3.isRef = true) (Sf : Sta Z Z.heap "jdk/internal/util/Preconditions" "SIOOBE_FORMATTER" "Ljava/util/function/BiFunction;" G3) (dg : Addr) (kd : ClassId) (ex : Addr) (kx : ClassId) (TB : own_TB Z dg kd ex kx) (Z0 : n0 ≤ h0.size) (hd : own_D d) :
    own_Met l (⟨"com/example/unit_step/unitstep/FloatingPointLayout", "writeWhole", "(ZJZ)Ljava/lang/String;"⟩ : MethodName) prog_10_method_3_code 6 (some (.object "java/lang/String")) ws own_R_3_2_6_42 Z #[(.int (1 : Int32)), (.long d), (.int (0 : Int32))] h0 (own_RS Z (2 : Int32) [(.int (45 : Int32)), (.int (nar .byte (own_dg d)))] h0 n0) := by
  refine own_enter #[.val (.int (1 : Int32)), .val (.long d), .second, .val (.int (0 : Int32)), .unset, .unset] (plainFor_of_name pn_com_example_unit_step_unitstep_FloatingPointLayout) (fun m => ef_IJI_6 m (1 : Int32) d (0 : Int32)) ?_
  intro p e s m below meth c s₁ hx hby hml hown hnm hZ hrt hlk X0 e0
  have N0 := Fr.nil n0
  refine own_tp (.int (1 : Int32)) 1 (fun _ q => XS.iloadN X0.here hx rfl (hb hby dp10m3_0) rfl q) ?_
  refine own_d1 4 (fun _ q => XS.ifNo X0.here hx rfl (hb hby dp10m3_1) rfl ((if0 _ _).trans (feq (by decide : ¬ ((1 : Int32) = (0 : Int32)))).1) q) ?_
  refine own_tp (.long (1 : Int64)) 5 (fun _ q => XS.lconst X0.here hx rfl (hb hby dp10m3_4) q) ?_
  refine own_d0 9 (fun _ q => XS.goto X0.here hx rfl (pc0 := 5) (pc' := 9) rfl (hb hby dp10m3_5) (by decide) (by decide) q) ?_
  refine own_ls #[.val (.int (1 : Int32)), .val (.long d), .second, .val (.int (0 : Int32)), .val (.long (1 : Int64)), .second] 11 (fun _ q => XS.lstore X0.here hx rfl (hb hby dp10m3_9) rfl (l' := #[.val (.int (1 : Int32)), .val (.long d), .second, .val (.int (0 : Int32)), .val (.long (1 : Int64)), .second]) rfl q) ?_
  refine own_tp (.long d) 12 (fun _ q => XS.lloadN X0.here hx rfl (hb hby dp10m3_11) rfl q) ?_
  refine own_tp (.long (1000000 : Int64)) 15 (fun _ q => X0.ldc2Long hx hown (mvT hZ (own_w hw 16 rfl)) (g := (mkF m 12 #[.val (.int (1 : Int32)), .val (.long d), .second, .val (.int (0 : Int32)), .val (.long (1 : Int64)), .second] [(.long d)])) rfl (hb hby dp10m3_12) _ q) ?_
  refine own_t2 (.int (lcmpW d (1000000 : Int64))) 16 (fun _ q => XS.lcmp X0.here hx rfl (hb hby dp10m3_15) rfl q) ?_
  refine own_d1 19 (fun _ q => XS.ifNo X0.here hx rfl (hb hby dp10m3_16) rfl ((if0 _ _).trans (tlt (own_lt6 hd)).2.1) q) ?_
  refine own_tp (.int (0 : Int32)) 20 (fun _ q => XS.iloadN X0.here hx rfl (hb hby dp10m3_19) rfl q) ?_
  refine own_d1 23 (fun _ q => XS.ifNo X0.here hx rfl (hb hby dp10m3_20) rfl ((if0 _ _).trans (teq (by decide : (0 : Int32) = (0 : Int32))).2) q) ?_
  refine own_tp (.long d) 24 (fun _ q => XS.lloadN X0.here hx rfl (hb hby dp10m3_23) rfl q) ?_
  refine own_tp (.long (1 : Int64)) 26 (fun _ q => XS.lload X0.here hx rfl (hb hby dp10m3_24) rfl q) ?_
  refine own_t1 (.long (-(1 : Int64))) 27 (fun _ q => XS.lneg X0.here hx rfl (hb hby dp10m3_26) rfl q) ?_
  refine own_t2 (.long (d ^^^ (-(1 : Int64)))) 28 (fun _ q => XS.lxor X0.here hx rfl (hb hby dp10m3_27) rfl q) ?_
  refine own_tp (.long (1 : Int64)) 30 (fun _ q => XS.lload X0.here hx rfl (hb hby dp10m3_28) rfl q) ?_
  refine own_t2 (.long ((d ^^^ (-(1 : Int64))) + (1 : Int64))) 31 (fun _ q => XS.ladd X0.here hx rfl (hb hby dp10m3_30) rfl q) ?_
  rw [own_x1 hd]
  obtain ⟨_, _, ⟨T51, L51, k51, n51⟩, -, X51, ⟨Lc51, hQ51, l51, y51, z51⟩, st51⟩ := Jvm.LawKit.callS X0 hx (y := (⟨"java/lang/Long", "toString", "(J)Ljava/lang/String;"⟩ : MethodName)) hown (mvT hZ (own_w hw 17 rfl)) (mvT hZ (own_w hw 18 rfl)) (mvT hZ (own_w hw 19 rfl)) (mvT hZ (own_w hw 20 rfl)) (by decide) (backOf (W := 0) (rm42 l Z a0 hw [] d h0 n0 G1 P5 O0 Sc G3 rG3 Sf dg kd ex kx TB Z0 hd) hZ (own_w hw 20 rfl) (own_w hw 19 rfl) (by decide) (by decide)) (g := (mkF m 31 #[.val (.int (1 : Int32)), .val (.long d), .second, .val (.int (0 : Int32)), .val (.long (1 : Int64)), .second] [(.long (-d))])) rfl (by rw [hml]; rfl) (argsL := [(.long (-d))]) (rest := []) (lenOf pd20 rfl) rfl (by show 2 * 0 + _ ≤ _; exact Nat.le_of_eq rfl) (hb hby dp10m3_31) (fun _ _ => ⟨rfl, e0, (by decide : 0 + 2 ≤ _), (by decide : 0 + 6 ≤ _)⟩)
  dsimp only [Pt.U, Pt.locs, Pt.cells, Pt.slots] at X51 l51 y51 z51 st51 hQ51
  subst l51 y51 z51
  obtain ⟨sa51, sb51, sk51, rfl, Nq51, Kp51, Es51, Cs51, Ls51, Vs51⟩ := hQ51
  have N51 := Fr.app N0 Nq51
  have O51 := Old.keep O0 Kp51 all0
  have Z51 : n0 ≤ T51.heap.size := Nat.le_trans Z0 Kp51.1
  have K51 : Keep h0 T51.heap [] := Keep.trans (Keep.refl h0 []) Kp51 all0
  refine own_t1 (.ref sa51) 34 st51 ?_
  refine own_d0 44 (fun _ q => XS.goto X51.here hx rfl (pc0 := 34) (pc' := 44) rfl (hb hby dp10m3_34) (by decide) (by decide) q) ?_
  exact own_retR X51 hx hrt (hb hby dp10m3_44) rfl rfl hlk (by decide) (by decide) rfl (⟨sa51, sb51, _, rfl, N51, K51, Es51, Cs51, Ls51, Vs51⟩)

set_option maxRecDepth 65536 in
set_option maxHeartbeats 40000000 in
theorem rm44 (l : Launch) (Z : State) (a0 : Array Value) (hw : ∀ d ∈ tables_1, d.before a0 Z = true) (ws : List Jvm.Cond) (d : Int64) (h0 : Heap) (n0 : Nat) (G1 : Int32) (P5 : ¬ G1 = (0 : Int32)) (O0 : Old Z n0 h0) (Sc : Sta Z Z.heap "java/lang/String" "COMPACT_STRINGS" "Z" (.int G1)) (G3 : Value) (rG3 : G3.isRef = true) (Sf : Sta Z Z.heap "jdk/internal/util/Preconditions" "SIOOBE_FORMATTER" "Ljava/util/function/BiFunction;" G3) (dg : Addr) (kd : ClassId) (ex : Addr) (kx : ClassId) (TB : own_TB Z dg kd ex kx) (Z0 : n0 ≤ h0.size) (hd : own_D d) :
    own_Met l (⟨"com/example/unit_step/unitstep/FloatingPointLayout", "writeWhole", "(ZJZ)Ljava/lang/String;"⟩ : MethodName) prog_10_method_3_code 6 (some (.object "java/lang/String")) ws own_R_6_3_16_103 Z #[(.int (1 : Int32)), (.long d), (.int (1 : Int32))] h0 (own_RS Z (6 : Int32) [(.int (45 : Int32)), (.int (((48 : Int32) + (d.toInt32)).toInt8.toInt32)), (.int (46 : Int32)), (.int (48 : Int32)), (.int (69 : Int32)), (.int (((48 : Int32) + (((0 : Int32).toInt64).toInt32)).toInt8.toInt32))] h0 n0) := by
  refine own_enter #[.val (.int (1 : Int32)), .val (.long d), .second, .val (.int (1 : Int32)), .unset, .unset] (plainFor_of_name pn_com_example_unit_step_unitstep_FloatingPointLayout) (fun m => ef_IJI_6 m (1 : Int32) d (1 : Int32)) ?_
  intro p e s m below meth c s₁ hx hby hml hown hnm hZ hrt hlk X0 e0
  have N0 := Fr.nil n0
  refine own_tp (.int (1 : Int32)) 1 (fun _ q => XS.iloadN X0.here hx rfl (hb hby dp10m3_0) rfl q) ?_
  refine own_d1 4 (fun _ q => XS.ifNo X0.here hx rfl (hb hby dp10m3_1) rfl ((if0 _ _).trans (feq (by decide : ¬ ((1 : Int32) = (0 : Int32)))).1) q) ?_
  refine own_tp (.long (1 : Int64)) 5 (fun _ q => XS.lconst X0.here hx rfl (hb hby dp10m3_4) q) ?_
  refine own_d0 9 (fun _ q => XS.goto X0.here hx rfl (pc0 := 5) (pc' := 9) rfl (hb hby dp10m3_5) (by decide) (by decide) q) ?_
  refine own_ls #[.val (.int (1 : Int32)), .val (.long d), .second, .val (.int (1 : Int32)), .val (.long (1 : Int64)), .second] 11 (fun _ q => XS.lstore X0.here hx rfl (hb hby dp10m3_9) rfl (l' := #[.val (.int (1 : Int32)), .val (.long d), .second, .val (.int (1 : Int32)), .val (.long (1 : Int64)), .second]) rfl q) ?_
  refine own_tp (.long d) 12 (fun _ q => XS.lloadN X0.here hx rfl (hb hby dp10m3_11) rfl q) ?_
  refine own_tp (.long (1000000 : Int64)) 15 (fun _ q => X0.ldc2Long hx hown (mvT hZ (own_w hw 16 rfl)) (g := (mkF m 12 #[.val (.int (1 : Int32)), .val (.long d), .second, .val (.int (1 : Int32)), .val (.long (1 : Int64)), .second] [(.long d)])) rfl (hb hby dp10m3_12) _ q) ?_
  refine own_t2 (.int (lcmpW d (1000000 : Int64))) 16 (fun _ q => XS.lcmp X0.here hx rfl (hb hby dp10m3_15) rfl q) ?_
  refine own_d1 19 (fun _ q => XS.ifNo X0.here hx rfl (hb hby dp10m3_16) rfl ((if0 _ _).trans (tlt (own_lt6 hd)).2.1) q) ?_
  refine own_tp (.int (1 : Int32)) 20 (fun _ q => XS.iloadN X0.here hx rfl (hb hby dp10m3_19) rfl q) ?_
  refine own_d1 37 (fun _ q => XS.ifYes X0.here hx rfl (pc0 := 20) (pc' := 37) rfl (hb hby dp10m3_20) rfl ((if0 _ _).trans (feq (by decide : ¬ ((1 : Int32) = (0 : Int32)))).2) (by decide) (by decide) q) ?_
  refine own_tp (.int (1 : Int32)) 38 (fun _ q => XS.iloadN X0.here hx rfl (hb hby dp10m3_37) rfl q) ?_
  refine own_tp (.long d) 39 (fun _ q => XS.lloadN X0.here hx rfl (hb hby dp10m3_38) rfl q) ?_
  refine own_tp (.int (0 : Int32)) 40 (fun _ q => XS.iconst X0.here hx rfl (hb hby dp10m3_39) q) ?_
  refine own_tp (.int (1 : Int32)) 41 (fun _ q => XS.iloadN X0.here hx rfl (hb hby dp10m3_40) rfl q) ?_
  obtain ⟨_, _, ⟨T51, L51, k51, n51⟩, -, X51, ⟨Lc51, hQ51, l51, y51, z51⟩, st51⟩ := Jvm.LawKit.callS X0 hx (y := (⟨"com/example/unit_step/unitstep/FloatingPointLayout", "write", "(ZJIZ)Ljava/lang/String;"⟩ : MethodName)) hown (mvT hZ (own_w hw 81 rfl)) (mvT hZ (own_w hw 82 rfl)) (mvT hZ (own_w hw 3 rfl)) (mvT hZ (own_w hw 83 rfl)) (by decide) (backOf (W := 0) (rm33 l Z a0 hw [] d h0 n0 G1 P5 O0 Sc G3 rG3 Sf dg kd ex kx TB Z0 hd) hZ (own_w hw 83 rfl) (own_w hw 3 rfl) (by decide) (by decide)) (g := (mkF m 41 #[.val (.int (1 : Int32)), .val (.long d), .second, .val (.int (1 : Int32)), .val (.long (1 : Int64)), .second] [(.int (1 : Int32)), (.int (0 : Int32)), (.long d), (.int (1 : Int32))])) rfl (by rw [hml]; rfl) (argsL := [(.int (1 : Int32)), (.long d), (.int (0 : Int32)), (.int (1 : Int32))]) (rest := []) (lenOf pd21 rfl) rfl (by show 2 * 0 + _ ≤ _; exact Nat.le_of_eq rfl) (hb hby dp10m3_41) (fun _ _ => ⟨rfl, e0, (by decide : 0 + 3 ≤ _), (by decide : 0 + 16 ≤ _)⟩)
  dsimp only [Pt.U, Pt.locs, Pt.cells, Pt.slots] at X51 l51 y51 z51 st51 hQ51
  subst l51 y51 z51
  obtain ⟨sa51, sb51, sk51, rfl, Nq51, Kp51, Es51, Cs51, Ls51, Vs51⟩ := hQ51
  have N51 := Fr.app N0 Nq51
  have O51 := Old.keep O0 Kp51 all0
  have Z51 : n0 ≤ T51.heap.size := Nat.le_trans Z0 Kp51.1
  have K51 : Keep h0 T51.heap [] := Keep.trans (Keep.refl h0 []) Kp51 all0
  refine own_cs [(.ref sa51)] 44 st51 ?_
  exact own_retR X51 hx hrt (hb hby dp10m3_44) rfl rfl hlk (by decide) (by decide) rfl (⟨sa51, sb51, _, rfl, N51, K51, Es51, Cs51, Ls51, Vs51⟩)

set_option maxRecDepth 65536 in
set_option maxHeartbeats 40000000 in
theorem rm45 (l : Launch) (Z : State) (a0 : Array Value) (hw : ∀ d ∈ tables_1, d.before a0 Z = true) (ws : List Jvm.Cond)  (h0 : Heap) (n0 : Nat) (hE : EW Z a0 own_EL) (Z0 : n0 ≤ h0.size) (O0 : Old Z n0 h0) :
    own_MetW own_EL l (⟨"com/example/unit_step/unitstep/FloatingPointLayout", "writeZero", "(ZZ)Ljava/lang/String;"⟩ : MethodName) prog_10_method_4_code 3 (some (.object "java/lang/String")) ws own_R_0_2_8_0 Z #[(.int (0 : Int32)), (.int (0 : Int32))] h0 (own_RS Z (1 : Int32) [(.int (48 : Int32))] h0 n0) := by
  refine own_enterW #[.val (.int (0 : Int32)), .val (.int (0 : Int32)), .unset] (plainFor_of_name pn_com_example_unit_step_unitstep_FloatingPointLayout) (fun m => ef_II_3 m (0 : Int32) (0 : Int32)) hE ?_
  intro p e s m below meth c s₁ hx hby hml hown hnm hZ hrt hlk X0 e0 Wd0
  have N0 := Fr.nil n0
  have wS := own_wS hw
  refine own_tp (.int (0 : Int32)) 1 (fun _ q => XS.iloadN X0.here hx rfl (hb hby dp10m4_0) rfl q) ?_
  refine own_d1 19 (fun _ q => XS.ifYes X0.here hx rfl (pc0 := 1) (pc' := 19) rfl (hb hby dp10m4_1) rfl ((if0 _ _).trans (teq (by decide : (0 : Int32) = (0 : Int32))).1) (by decide) (by decide) q) ?_
  refine own_tp (.int (0 : Int32)) 20 (fun _ q => XS.iloadN X0.here hx rfl (hb hby dp10m4_19) rfl q) ?_
  refine own_d1 28 (fun _ q => XS.ifYes X0.here hx rfl (pc0 := 20) (pc' := 28) rfl (hb hby dp10m4_20) rfl ((if0 _ _).trans (teq (by decide : (0 : Int32) = (0 : Int32))).1) (by decide) (by decide) q) ?_
  obtain ⟨b51, T51, h51, bb51, kk51, X51, e51, E51, Wd51, ho51, A51, Cd51, Vl51, V51, Ch51, Sf51, st51⟩ := own_ldc X0 hx Wd0 hown (own_w hw 5 rfl) wS e0 (by simp [own_EL]) (vs := [(.int (48 : Int32))]) (z := (1 : Int32)) ⟨by decide, by decide⟩ (by decide) rfl (g := (mkF m 28 #[.val (.int (0 : Int32)), .val (.int (0 : Int32)), .unset] [])) rfl (hb hby dp10m4_28) (n := 4) (by decide) (by decide) (by decide) (by decide)
  have hZ51 : Z.Warmed39 (s.setVm T51.vm).vm := Wd51.hZ
  have hown51 : (s.setVm T51.vm).vm.findClass "com/example/unit_step/unitstep/FloatingPointLayout" = some m.cls := ho51
  have O51 := Old.ext O0 E51
  have K51 : Keep h0 h51 [] := (Keep.refl h0 []).ext E51
  have Z51 : n0 ≤ h51.size := Nat.le_trans Z0 E51.1
  refine own_tp (.ref b51) 30 st51 ?_
  refine own_ls #[.val (.int (0 : Int32)), .val (.int (0 : Int32)), .val (.ref b51)] 31 (fun _ q => XS.astoreN X51.here hx rfl (hb hby dp10m4_30) rfl rfl (l' := #[.val (.int (0 : Int32)), .val (.int (0 : Int32)), .val (.ref b51)]) rfl q) ?_
  refine own_tp (.ref b51) 32 (fun _ q => XS.aloadN X51.here hx rfl (hb hby dp10m4_31) rfl rfl q) ?_
  exact own_retRW X51 hx hrt (hb hby dp10m4_32) rfl rfl hlk (by decide) (by decide) e51 Wd51 (⟨b51, bb51, _, rfl, N0, K51, A51, Cd51, Vl51, V51⟩)

set_option maxRecDepth 65536 in
set_option maxHeartbeats 40000000 in
theorem rm46 (l : Launch) (Z : State) (a0 : Array Value) (hw : ∀ d ∈ tables_1, d.before a0 Z = true) (ws : List Jvm.Cond)  (h0 : Heap) (n0 : Nat) (hE : EW Z a0 own_EL) (Z0 : n0 ≤ h0.size) (O0 : Old Z n0 h0) :
    own_MetW own_EL l (⟨"com/example/unit_step/unitstep/FloatingPointLayout", "writeZero", "(ZZ)Ljava/lang/String;"⟩ : MethodName) prog_10_method_4_code 3 (some (.object "java/lang/String")) ws own_R_0_2_12_0 Z #[(.int (1 : Int32)), (.int (0 : Int32))] h0 (own_RS Z (2 : Int32) [(.int (45 : Int32)), (.int (48 : Int32))] h0 n0) := by
  refine own_enterW #[.val (.int (1 : Int32)), .val (.int (0 : Int32)), .unset] (plainFor_of_name pn_com_example_unit_step_unitstep_FloatingPointLayout) (fun m => ef_II_3 m (1 : Int32) (0 : Int32)) hE ?_
  intro p e s m below meth c s₁ hx hby hml hown hnm hZ hrt hlk X0 e0 Wd0
  have N0 := Fr.nil n0
  have wS := own_wS hw
  refine own_tp (.int (0 : Int32)) 1 (fun _ q => XS.iloadN X0.here hx rfl (hb hby dp10m4_0) rfl q) ?_
  refine own_d1 19 (fun _ q => XS.ifYes X0.here hx rfl (pc0 := 1) (pc' := 19) rfl (hb hby dp10m4_1) rfl ((if0 _ _).trans (teq (by decide : (0 : Int32) = (0 : Int32))).1) (by decide) (by decide) q) ?_
  refine own_tp (.int (1 : Int32)) 20 (fun _ q => XS.iloadN X0.here hx rfl (hb hby dp10m4_19) rfl q) ?_
  refine own_d1 23 (fun _ q => XS.ifNo X0.here hx rfl (hb hby dp10m4_20) rfl ((if0 _ _).trans (feq (by decide : ¬ ((1 : Int32) = (0 : Int32)))).1) q) ?_
  obtain ⟨b51, T51, h51, bb51, kk51, X51, e51, E51, Wd51, ho51, A51, Cd51, Vl51, V51, Ch51, Sf51, st51⟩ := own_ldc X0 hx Wd0 hown (own_w hw 141 rfl) wS e0 (by simp [own_EL]) (vs := [(.int (45 : Int32)), (.int (48 : Int32))]) (z := (2 : Int32)) ⟨by decide, by decide⟩ (by decide) rfl (g := (mkF m 23 #[.val (.int (1 : Int32)), .val (.int (0 : Int32)), .unset] [])) rfl (hb hby dp10m4_23) (n := 8) (by decide) (by decide) (by decide) (by decide)
  have hZ51 : Z.Warmed39 (s.setVm T51.vm).vm := Wd51.hZ
  have hown51 : (s.setVm T51.vm).vm.findClass "com/example/unit_step/unitstep/FloatingPointLayout" = some m.cls := ho51
  have O51 := Old.ext O0 E51
  have K51 : Keep h0 h51 [] := (Keep.refl h0 []).ext E51
  have Z51 : n0 ≤ h51.size := Nat.le_trans Z0 E51.1
  refine own_tp (.ref b51) 25 st51 ?_
  refine own_d0 30 (fun _ q => XS.goto X51.here hx rfl (pc0 := 25) (pc' := 30) rfl (hb hby dp10m4_25) (by decide) (by decide) q) ?_
  refine own_ls #[.val (.int (1 : Int32)), .val (.int (0 : Int32)), .val (.ref b51)] 31 (fun _ q => XS.astoreN X51.here hx rfl (hb hby dp10m4_30) rfl rfl (l' := #[.val (.int (1 : Int32)), .val (.int (0 : Int32)), .val (.ref b51)]) rfl q) ?_
  refine own_tp (.ref b51) 32 (fun _ q => XS.aloadN X51.here hx rfl (hb hby dp10m4_31) rfl rfl q) ?_
  exact own_retRW X51 hx hrt (hb hby dp10m4_32) rfl rfl hlk (by decide) (by decide) e51 Wd51 (⟨b51, bb51, _, rfl, N0, K51, A51, Cd51, Vl51, V51⟩)

set_option maxRecDepth 65536 in
set_option maxHeartbeats 40000000 in
theorem rm47 (l : Launch) (Z : State) (a0 : Array Value) (hw : ∀ d ∈ tables_1, d.before a0 Z = true) (ws : List Jvm.Cond)  (h0 : Heap) (n0 : Nat) (hE : EW Z a0 own_EL) (Z0 : n0 ≤ h0.size) (O0 : Old Z n0 h0) :
    own_MetW own_EL l (⟨"com/example/unit_step/unitstep/FloatingPointLayout", "writeZero", "(ZZ)Ljava/lang/String;"⟩ : MethodName) prog_10_method_4_code 3 (some (.object "java/lang/String")) ws own_R_0_2_24_0 Z #[(.int (0 : Int32)), (.int (1 : Int32))] h0 (own_RS Z (5 : Int32) [(.int (48 : Int32)), (.int (46 : Int32)), (.int (48 : Int32)), (.int (69 : Int32)), (.int (48 : Int32))] h0 n0) := by
  refine own_enterW #[.val (.int (0 : Int32)), .val (.int (1 : Int32)), .unset] (plainFor_of_name pn_com_example_unit_step_unitstep_FloatingPointLayout) (fun m => ef_II_3 m (0 : Int32) (1 : Int32)) hE ?_
  intro p e s m below meth c s₁ hx hby hml hown hnm hZ hrt hlk X0 e0 Wd0
  have N0 := Fr.nil n0
  have wS := own_wS hw
  refine own_tp (.int (1 : Int32)) 1 (fun _ q => XS.iloadN X0.here hx rfl (hb hby dp10m4_0) rfl q) ?_
  refine own_d1 4 (fun _ q => XS.ifNo X0.here hx rfl (hb hby dp10m4_1) rfl ((if0 _ _).trans (feq (by decide : ¬ ((1 : Int32) = (0 : Int32)))).1) q) ?_
  refine own_tp (.int (0 : Int32)) 5 (fun _ q => XS.iloadN X0.here hx rfl (hb hby dp10m4_4) rfl q) ?_
  refine own_d1 13 (fun _ q => XS.ifYes X0.here hx rfl (pc0 := 5) (pc' := 13) rfl (hb hby dp10m4_5) rfl ((if0 _ _).trans (teq (by decide : (0 : Int32) = (0 : Int32))).1) (by decide) (by decide) q) ?_
  obtain ⟨b51, T51, h51, bb51, kk51, X51, e51, E51, Wd51, ho51, A51, Cd51, Vl51, V51, Ch51, Sf51, st51⟩ := own_ldc X0 hx Wd0 hown (own_w hw 80 rfl) wS e0 (by simp [own_EL]) (vs := [(.int (48 : Int32)), (.int (46 : Int32)), (.int (48 : Int32)), (.int (69 : Int32)), (.int (48 : Int32))]) (z := (5 : Int32)) ⟨by decide, by decide⟩ (by decide) rfl (g := (mkF m 13 #[.val (.int (0 : Int32)), .val (.int (1 : Int32)), .unset] [])) rfl (hb hby dp10m4_13) (n := 20) (by decide) (by decide) (by decide) (by decide)
  have hZ51 : Z.Warmed39 (s.setVm T51.vm).vm := Wd51.hZ
  have hown51 : (s.setVm T51.vm).vm.findClass "com/example/unit_step/unitstep/FloatingPointLayout" = some m.cls := ho51
  have O51 := Old.ext O0 E51
  have K51 : Keep h0 h51 [] := (Keep.refl h0 []).ext E51
  have Z51 : n0 ≤ h51.size := Nat.le_trans Z0 E51.1
  refine own_tp (.ref b51) 15 st51 ?_
  refine own_ls #[.val (.int (0 : Int32)), .val (.int (1 : Int32)), .val (.ref b51)] 16 (fun _ q => XS.astoreN X51.here hx rfl (hb hby dp10m4_15) rfl rfl (l' := #[.val (.int (0 : Int32)), .val (.int (1 : Int32)), .val (.ref b51)]) rfl q) ?_
  refine own_d0 31 (fun _ q => XS.goto X51.here hx rfl (pc0 := 16) (pc' := 31) rfl (hb hby dp10m4_16) (by decide) (by decide) q) ?_
  refine own_tp (.ref b51) 32 (fun _ q => XS.aloadN X51.here hx rfl (hb hby dp10m4_31) rfl rfl q) ?_
  exact own_retRW X51 hx hrt (hb hby dp10m4_32) rfl rfl hlk (by decide) (by decide) e51 Wd51 (⟨b51, bb51, _, rfl, N0, K51, A51, Cd51, Vl51, V51⟩)

set_option maxRecDepth 65536 in
set_option maxHeartbeats 40000000 in
theorem rm48 (l : Launch) (Z : State) (a0 : Array Value) (hw : ∀ d ∈ tables_1, d.before a0 Z = true) (ws : List Jvm.Cond)  (h0 : Heap) (n0 : Nat) (hE : EW Z a0 own_EL) (Z0 : n0 ≤ h0.size) (O0 : Old Z n0 h0) :
    own_MetW own_EL l (⟨"com/example/unit_step/unitstep/FloatingPointLayout", "writeZero", "(ZZ)Ljava/lang/String;"⟩ : MethodName) prog_10_method_4_code 3 (some (.object "java/lang/String")) ws own_R_0_2_28_0 Z #[(.int (1 : Int32)), (.int (1 : Int32))] h0 (own_RS Z (6 : Int32) [(.int (45 : Int32)), (.int (48 : Int32)), (.int (46 : Int32)), (.int (48 : Int32)), (.int (69 : Int32)), (.int (48 : Int32))] h0 n0) := by
  refine own_enterW #[.val (.int (1 : Int32)), .val (.int (1 : Int32)), .unset] (plainFor_of_name pn_com_example_unit_step_unitstep_FloatingPointLayout) (fun m => ef_II_3 m (1 : Int32) (1 : Int32)) hE ?_
  intro p e s m below meth c s₁ hx hby hml hown hnm hZ hrt hlk X0 e0 Wd0
  have N0 := Fr.nil n0
  have wS := own_wS hw
  refine own_tp (.int (1 : Int32)) 1 (fun _ q => XS.iloadN X0.here hx rfl (hb hby dp10m4_0) rfl q) ?_
  refine own_d1 4 (fun _ q => XS.ifNo X0.here hx rfl (hb hby dp10m4_1) rfl ((if0 _ _).trans (feq (by decide : ¬ ((1 : Int32) = (0 : Int32)))).1) q) ?_
  refine own_tp (.int (1 : Int32)) 5 (fun _ q => XS.iloadN X0.here hx rfl (hb hby dp10m4_4) rfl q) ?_
  refine own_d1 8 (fun _ q => XS.ifNo X0.here hx rfl (hb hby dp10m4_5) rfl ((if0 _ _).trans (feq (by decide : ¬ ((1 : Int32) = (0 : Int32)))).1) q) ?_
  obtain ⟨b51, T51, h51, bb51, kk51, X51, e51, E51, Wd51, ho51, A51, Cd51, Vl51, V51, Ch51, Sf51, st51⟩ := own_ldc X0 hx Wd0 hown (own_w hw 142 rfl) wS e0 (by simp [own_EL]) (vs := [(.int (45 : Int32)), (.int (48 : Int32)), (.int (46 : Int32)), (.int (48 : Int32)), (.int (69 : Int32)), (.int (48 : Int32))]) (z := (6 : Int32)) ⟨by decide, by decide⟩ (by decide) rfl (g := (mkF m 8 #[.val (.int (1 : Int32)), .val (.int (1 : Int32)), .unset] [])) rfl (hb hby dp10m4_8) (n := 24) (by decide) (by decide) (by decide) (by decide)
  have hZ51 : Z.Warmed39 (s.setVm T51.vm).vm := Wd51.hZ
  have hown51 : (s.setVm T51.vm).vm.findClass "com/example/unit_step/unitstep/FloatingPointLayout" = some m.cls := ho51
  have O51 := Old.ext O0 E51
  have K51 : Keep h0 h51 [] := (Keep.refl h0 []).ext E51
  have Z51 : n0 ≤ h51.size := Nat.le_trans Z0 E51.1
  refine own_tp (.ref b51) 10 st51 ?_
  refine own_d0 15 (fun _ q => XS.goto X51.here hx rfl (pc0 := 10) (pc' := 15) rfl (hb hby dp10m4_10) (by decide) (by decide) q) ?_
  refine own_ls #[.val (.int (1 : Int32)), .val (.int (1 : Int32)), .val (.ref b51)] 16 (fun _ q => XS.astoreN X51.here hx rfl (hb hby dp10m4_15) rfl rfl (l' := #[.val (.int (1 : Int32)), .val (.int (1 : Int32)), .val (.ref b51)]) rfl q) ?_
  refine own_d0 31 (fun _ q => XS.goto X51.here hx rfl (pc0 := 16) (pc' := 31) rfl (hb hby dp10m4_16) (by decide) (by decide) q) ?_
  refine own_tp (.ref b51) 32 (fun _ q => XS.aloadN X51.here hx rfl (hb hby dp10m4_31) rfl rfl q) ?_
  exact own_retRW X51 hx hrt (hb hby dp10m4_32) rfl rfl hlk (by decide) (by decide) e51 Wd51 (⟨b51, bb51, _, rfl, N0, K51, A51, Cd51, Vl51, V51⟩)

set_option maxRecDepth 65536 in
set_option maxHeartbeats 40000000 in
theorem rm0 (l : Launch) (Z : State) (a0 : Array Value) (hw : ∀ d ∈ tables_1, d.before a0 Z = true) (ws : List Jvm.Cond) (p0 p1 : Int32) (h0 : Heap) (n0 : Nat) (hE : EW Z a0 own_EL) (G1 : Int32) (P5 : ¬ G1 = (0 : Int32)) (O0 : Old Z n0 h0) (Sc : Sta Z Z.heap "java/lang/String" "COMPACT_STRINGS" "Z" (.int G1)) (G3 : Value) (rG3 : G3.isRef = true) (Sf : Sta Z Z.heap "jdk/internal/util/Preconditions" "SIOOBE_FORMATTER" "Ljava/util/function/BiFunction;" G3) (dg : Addr) (kd : ClassId) (ex : Addr) (kx : ClassId) (TB : own_TB Z dg kd ex kx) (Z0 : n0 ≤ h0.size) :
    own_MetW own_EL l x code maxLocals ret ws room_1 Z #[(.int p0), (.int p1)] h0 (Q0 h0 n0) := by
  refine own_enterW #[.val (.int p0), .val (.int p1), .unset, .unset, .unset, .unset, .unset, .unset, .unset, .unset, .unset] (plainFor_of_name pn_com_example_unit_step_unitstep_FloatingPointLayoutWriteZeroPinLaw) (fun m => ef_II_maxLocals m p0 p1) hE ?_
  intro p e s m below meth c s₁ hx hby hml hown hnm hZ hrt hlk X0 e0 Wd0
  have N0 := Fr.nil n0
  have wS := own_wS hw
  refine own_tp (.int p0) 1 (fun _ q => XS.iloadN X0.here hx rfl (hb hby at_0) rfl q) ?_
  refine own_tp (.int (1 : Int32)) 2 (fun _ q => XS.iconst X0.here hx rfl (hb hby at_1) q) ?_
  refine own_t2 (.int (p0 &&& (1 : Int32))) 3 (fun _ q => XS.iand X0.here hx rfl (hb hby at_2) rfl q) ?_
  by_cases c51 : (p0 &&& (1 : Int32)) = (0 : Int32)
  ·
    refine own_d1 10 (fun _ q => XS.ifYes X0.here hx rfl (pc0 := 3) (pc' := 10) rfl (hb hby at_3) rfl ((if0 _ _).trans (teq c51).1) (by decide) (by decide) q) ?_
    refine own_tp (.int (0 : Int32)) 11 (fun _ q => XS.iconst X0.here hx rfl (hb hby at_10) q) ?_
    let L_52 : Array Slot := #[.val (.int p0), .val (.int p1), .val (.int (0 : Int32)), .unset, .unset, .unset, .unset, .unset, .unset, .unset, .unset]
    refine own_ls L_52 12 (fun _ q => XS.istoreN X0.here hx rfl (hb hby at_11) rfl (l' := L_52) rfl q) ?_
    refine own_tp (.int p0) 13 (fun _ q => XS.iloadN X0.here hx rfl (hb hby at_12) rfl q) ?_
    refine own_tp (.int (2 : Int32)) 14 (fun _ q => XS.iconst X0.here hx rfl (hb hby at_13) q) ?_
    refine own_t2 (.int (p0 &&& (2 : Int32))) 15 (fun _ q => XS.iand X0.here hx rfl (hb hby at_14) rfl q) ?_
    by_cases c53 : (p0 &&& (2 : Int32)) = (0 : Int32)
    ·
      refine own_d1 22 (fun _ q => XS.ifYes X0.here hx rfl (pc0 := 15) (pc' := 22) rfl (hb hby at_15) rfl ((if0 _ _).trans (teq c53).1) (by decide) (by decide) q) ?_
      refine own_tp (.int (0 : Int32)) 23 (fun _ q => XS.iconst X0.here hx rfl (hb hby at_22) q) ?_
      let L_54 : Array Slot := #[.val (.int p0), .val (.int p1), .val (.int (0 : Int32)), .val (.int (0 : Int32)), .unset, .unset, .unset, .unset, .unset, .unset, .unset]
      refine own_ls L_54 24 (fun _ q => XS.istoreN X0.here hx rfl (hb hby at_23) rfl (l' := L_54) rfl q) ?_
      refine own_tp (.int p1) 25 (fun _ q => XS.iloadN X0.here hx rfl (hb hby at_24) rfl q) ?_
      refine own_tp (.int (2147483647 : Int32)) 27 (fun _ q => X0.ldcInt hx hown (mvT hZ (own_w hw 0 rfl)) (g := (mkF m 25 L_54 [(.int p1)])) rfl (hb hby at_25) _ q) ?_
      refine own_t2 (.int (p1 &&& (2147483647 : Int32))) 28 (fun _ q => XS.iand X0.here hx rfl (hb hby at_27) rfl q) ?_
      refine own_tp (.int (9 : Int32)) 30 (fun _ q => XS.bipush X0.here hx rfl (hb hby at_28) q) ?_
      refine own_t2 (.int ((p1 &&& (2147483647 : Int32)) % (9 : Int32))) 31 (fun _ q => iremM (g := (mkF m 30 L_54 [(.int (9 : Int32)), (.int (p1 &&& (2147483647 : Int32)))])) X0 hx rfl (hb hby at_30) rfl (by decide) q) ?_
      refine own_tp (.int (1 : Int32)) 32 (fun _ q => XS.iconst X0.here hx rfl (hb hby at_31) q) ?_
      refine own_t2 (.int (((p1 &&& (2147483647 : Int32)) % (9 : Int32)) + (1 : Int32))) 33 (fun _ q => XS.iadd X0.here hx rfl (hb hby at_32) rfl q) ?_
      refine own_t1 (.long ((((p1 &&& (2147483647 : Int32)) % (9 : Int32)) + (1 : Int32)).toInt64)) 34 (fun _ q => XS.i2l X0.here hx rfl (hb hby at_33) rfl q) ?_
      obtain ⟨d, ed, hd⟩ : ∃ d : Int64, ((((p1 &&& (2147483647 : Int32)) % (9 : Int32)) + (1 : Int32)).toInt64) = d ∧ own_D d := ⟨_, rfl, own_9 p1⟩
      rw [ed]
      let L_55 : Array Slot := #[.val (.int p0), .val (.int p1), .val (.int (0 : Int32)), .val (.int (0 : Int32)), .val (.long d), .second, .unset, .unset, .unset, .unset, .unset]
      refine own_ls L_55 36 (fun _ q => XS.lstore X0.here hx rfl (hb hby at_34) rfl (l' := L_55) rfl q) ?_
      refine own_tp (.int (0 : Int32)) 37 (fun _ q => XS.iloadN X0.here hx rfl (hb hby at_36) rfl q) ?_
      refine own_tp (.int (0 : Int32)) 38 (fun _ q => XS.iloadN X0.here hx rfl (hb hby at_37) rfl q) ?_
      obtain ⟨_, _, ⟨T56, L56, k56, n56⟩, -, X56, hS56, -, ⟨Lc56, hQ56, l56, y56, z56, Ch56⟩, st56⟩ := callSS X0 hx (y := (⟨"com/example/unit_step/unitstep/FloatingPointLayout", "writeZero", "(ZZ)Ljava/lang/String;"⟩ : MethodName)) hown (mvT hZ (own_w hw 1 rfl)) (mvT hZ (own_w hw 2 rfl)) (mvT hZ (own_w hw 3 rfl)) (mvT hZ (own_w hw 4 rfl)) (by decide) (backOfSH (W := 0) (rm45 l Z a0 hw [] h0 n0 hE Z0 O0) hZ (own_w hw 4 rfl) (own_w hw 3 rfl) (by decide) (by decide) Wd0.hE Wd0.chv) (g := (mkF m 38 L_55 [(.int (0 : Int32)), (.int (0 : Int32))])) rfl (by rw [hml]; rfl) (argsL := [(.int (0 : Int32)), (.int (0 : Int32))]) (rest := []) (lenOf pd22 rfl) rfl (by show 2 * 0 + _ ≤ _; exact Nat.le_of_eq rfl) (hb hby at_38) (fun _ _ => ⟨rfl, e0, (by decide : 0 + 2 ≤ _), (by decide : 0 + 8 ≤ _)⟩)
      dsimp only [Pt.U, Pt.locs, Pt.cells, Pt.slots] at X56 l56 y56 z56 st56 hQ56 hS56 Ch56
      subst l56 y56 z56
      have Wd56 := own_Wd.call Wd0 hS56 Ch56
      have hZ56 : Z.Warmed39 (s.setVm T56.vm).vm := Wd56.hZ
      have hown56 : (s.setVm T56.vm).vm.findClass "com/example/unit_step/unitstep/FloatingPointLayoutWriteZeroPinLaw" = some m.cls := own_since_own hS56 hown
      have Y56 : Stand p l e room_1 (s.setVm T56.vm) m #[(.int p0), (.int p1)] below meth c T56 _ _ _ := X56
      obtain ⟨sa56, sb56, sk56, rfl, Nq56, Kp56, Es56, Cs56, Ls56, Vs56⟩ := hQ56
      have N56 := Fr.app N0 Nq56
      have O56 := Old.keep O0 Kp56 all0
      have Z56 : n0 ≤ T56.heap.size := Nat.le_trans Z0 Kp56.1
      refine own_csR [(.ref sa56)] 41 st56 ?_
      let L_57 : Array Slot := #[.val (.int p0), .val (.int p1), .val (.int (0 : Int32)), .val (.int (0 : Int32)), .val (.long d), .second, .val (.ref sa56), .unset, .unset, .unset, .unset]
      refine own_ls L_57 43 (fun _ q => XS.astore Y56.here hx rfl (hb hby at_41) rfl rfl (l' := L_57) rfl q) ?_
      refine own_tp (.int (0 : Int32)) 44 (fun _ q => XS.iloadN Y56.here hx rfl (hb hby at_43) rfl q) ?_
      refine own_tp (.long d) 46 (fun _ q => XS.lload Y56.here hx rfl (hb hby at_44) rfl q) ?_
      refine own_tp (.int (0 : Int32)) 47 (fun _ q => XS.iloadN Y56.here hx rfl (hb hby at_46) rfl q) ?_
      obtain ⟨_, _, ⟨T58, L58, k58, n58⟩, -, X58, ⟨Lc58, hQ58, l58, y58, z58⟩, st58⟩ := Jvm.LawKit.callS Y56 hx (y := (⟨"com/example/unit_step/unitstep/FloatingPointLayout", "writeWhole", "(ZJZ)Ljava/lang/String;"⟩ : MethodName)) hown56 (mvT hZ56 (own_w hw 13 rfl)) (mvT hZ56 (own_w hw 14 rfl)) (mvT hZ56 (own_w hw 3 rfl)) (mvT hZ56 (own_w hw 15 rfl)) (by decide) (backOf (W := 0) (rm38 l Z a0 hw [] d T56.heap n0 G1 P5 O56 Sc G3 rG3 Sf dg kd ex kx TB Z56 hd) hZ56 (own_w hw 15 rfl) (own_w hw 3 rfl) (by decide) (by decide)) (g := (mkF m 47 L_57 [(.int (0 : Int32)), (.long d), (.int (0 : Int32))])) rfl (by rw [hml]; rfl) (argsL := [(.int (0 : Int32)), (.long d), (.int (0 : Int32))]) (rest := []) (lenOf pd23 rfl) rfl (by show 2 * 0 + _ ≤ _; exact Nat.le_of_eq rfl) (hb hby at_47) (fun _ _ => ⟨rfl, rfl, (by decide : 2 + 2 ≤ _), (by decide : 8 + 5 ≤ _)⟩)
      dsimp only [Pt.U, Pt.locs, Pt.cells, Pt.slots] at X58 l58 y58 z58 st58 hQ58
      subst l58 y58 z58
      obtain ⟨sa58, sb58, sk58, rfl, Nq58, Kp58, Es58, Cs58, Ls58, Vs58⟩ := hQ58
      have N58 := Fr.app N56 Nq58
      have O58 := Old.keep O56 Kp58 all0
      have Z58 : n0 ≤ T58.heap.size := Nat.le_trans Z56 Kp58.1
      have Wd58 := Wd56.keep Kp58 all0
      refine own_cs [(.ref sa58)] 50 st58 ?_
      let L_59 : Array Slot := #[.val (.int p0), .val (.int p1), .val (.int (0 : Int32)), .val (.int (0 : Int32)), .val (.long d), .second, .val (.ref sa56), .val (.ref sa58), .unset, .unset, .unset]
      refine own_ls L_59 52 (fun _ q => XS.astore X58.here hx rfl (hb hby at_50) rfl rfl (l' := L_59) rfl q) ?_
      refine own_tp (.ref sa56) 54 (fun _ q => XS.aload X58.here hx rfl (hb hby at_52) rfl rfl q) ?_
      refine own_d1 57 (fun _ q => XS.ifnullNo X58.here hx rfl (hb hby at_54) rfl q) ?_
      refine own_tp (.ref sa58) 59 (fun _ q => XS.aload X58.here hx rfl (hb hby at_57) rfl rfl q) ?_
      refine own_d1 64 (fun _ q => XS.ifnonnullYes X58.here hx rfl (pc0 := 59) (pc' := 64) rfl (hb hby at_59) rfl (by decide) (by decide) q) ?_
      refine own_tp (.ref sa56) 66 (fun _ q => XS.aload X58.here hx rfl (hb hby at_64) rfl rfl q) ?_
      have f60 := (Es56.keep Kp58)
      have f61 := (Cs56.keep Kp58 nin0)
      have f62 := (Ls56.keep Kp58 nin0)
      have f63 := (Vs56.keep Kp58 nin0)
      obtain ⟨cq64, kq64, q64a, q64b, q64c⟩ := isOf hZ56 rfl f60
      obtain ⟨_, _, ⟨T64, L64, k64, n64⟩, -, X64, ⟨Lc64, hQ64, l64, y64, z64⟩, st64⟩ := X58.virtualBack hx (y := (⟨"java/lang/String", "length", "()I"⟩ : MethodName)) (z := (⟨"java/lang/String", "length", "()I"⟩ : MethodName)) hown56 (mvT hZ56 (own_w hw 42 rfl)) (mvT hZ56 (own_w hw 43 rfl)) (notFace_of_selects (args := #[]) (mvT hZ56 (own_w hw 45 rfl))) (mvT hZ56 (own_w hw 45 rfl)) (mvT hZ56 (own_w hw 44 rfl)) (by decide) (backOf (W := 0) (rm3 l Z a0 hw [] sa56 sb56 sk56 (1 : Int32) [(.int (48 : Int32))] T58.heap n0 G1 P5 O58 Sc f60 f61 f62 f63) hZ56 (own_w hw 46 rfl) (own_w hw 6 rfl) (by decide) (by decide)) q64a q64c (g := (mkF m 66 L_59 [(.ref sa56)])) rfl (by rw [hml]; rfl) (Steps.refl _) (argsL := []) (rest := []) (lenOf pd5 rfl) rfl (by show 2 * 0 + _ ≤ _; exact Nat.le_of_eq rfl) (hb hby at_66) (fun _ _ => ⟨rfl, rfl, (by decide : 4 + 0 ≤ _), (by decide : 13 + 0 ≤ _)⟩)
      dsimp only [Pt.U, Pt.locs, Pt.cells, Pt.slots] at X64 l64 y64 z64 st64 hQ64
      subst l64 y64 z64
      obtain ⟨rfl, Nq64, eq64⟩ := hQ64
      have N64 := Fr.app N58 Nq64
      refine own_csR [(.int (1 : Int32))] 69 st64 ?_
      let L_65 : Array Slot := #[.val (.int p0), .val (.int p1), .val (.int (0 : Int32)), .val (.int (0 : Int32)), .val (.long d), .second, .val (.ref sa56), .val (.ref sa58), .val (.int (1 : Int32)), .unset, .unset]
      refine own_ls L_65 71 (fun _ q => XS.istore X64.here hx rfl (hb hby at_69) rfl (l' := L_65) rfl q) ?_
      refine own_tp (.int (1 : Int32)) 73 (fun _ q => XS.iload X64.here hx rfl (hb hby at_71) rfl q) ?_
      refine own_tp (.ref sa58) 75 (fun _ q => XS.aload X64.here hx rfl (hb hby at_73) rfl rfl q) ?_
      obtain ⟨cq66, kq66, q66a, q66b, q66c⟩ := isOf hZ56 eq64 Es58
      obtain ⟨_, _, ⟨T66, L66, k66, n66⟩, -, X66, ⟨Lc66, hQ66, l66, y66, z66⟩, st66⟩ := X64.virtualBack hx (y := (⟨"java/lang/String", "length", "()I"⟩ : MethodName)) (z := (⟨"java/lang/String", "length", "()I"⟩ : MethodName)) hown56 (mvT hZ56 (own_w hw 42 rfl)) (mvT hZ56 (own_w hw 43 rfl)) (notFace_of_selects (args := #[]) (mvT hZ56 (own_w hw 45 rfl))) (mvT hZ56 (own_w hw 45 rfl)) (mvT hZ56 (own_w hw 44 rfl)) (by decide) (backOf (W := 1) (rm3 l Z a0 hw [] sa58 sb58 sk58 (1 : Int32) [(.int (nar .byte (own_dg d)))] T58.heap n0 G1 P5 O58 Sc Es58 Cs58 Ls58 Vs58) hZ56 (own_w hw 46 rfl) (own_w hw 6 rfl) (by decide) (by decide)) q66a q66c (g := (mkF m 75 L_65 [(.ref sa58), (.int (1 : Int32))])) rfl (by rw [hml]; rfl) (Steps.refl _) (argsL := []) (rest := [(.int (1 : Int32))]) (lenOf pd5 rfl) rfl (by show 2 * 0 + _ ≤ _; exact Nat.le_of_eq rfl) (hb hby at_75) (fun _ _ => ⟨rfl, eq64, (by decide : 4 + 0 ≤ _), (by decide : 13 + 0 ≤ _)⟩)
      dsimp only [Pt.U, Pt.locs, Pt.cells, Pt.slots] at X66 l66 y66 z66 st66 hQ66
      subst l66 y66 z66
      obtain ⟨rfl, Nq66, eq66⟩ := hQ66
      have N66 := Fr.app N64 Nq66
      refine own_csR [(.int (1 : Int32)), (.int (1 : Int32))] 78 st66 ?_
      refine own_d2 81 (fun _ q => XS.icmpNo X66.here hx rfl (hb hby at_78) rfl (teq (by decide : (1 : Int32) = (1 : Int32))).2 q) ?_
      refine own_tp (.int (1 : Int32)) 83 (fun _ q => XS.iload X66.here hx rfl (hb hby at_81) rfl q) ?_
      refine own_tp (.int (1 : Int32)) 84 (fun _ q => XS.iconst X66.here hx rfl (hb hby at_83) q) ?_
      refine own_d2 87 (fun _ q => XS.icmpNo X66.here hx rfl (hb hby at_84) rfl (flt (by decide : ¬ ((1 : Int32) < (1 : Int32)))).1 q) ?_
      refine own_tp (.int (1 : Int32)) 89 (fun _ q => XS.iload X66.here hx rfl (hb hby at_87) rfl q) ?_
      refine own_tp (.int (6 : Int32)) 91 (fun _ q => XS.bipush X66.here hx rfl (hb hby at_89) q) ?_
      refine own_d2 96 (fun _ q => XS.icmpYes X66.here hx rfl (pc0 := 91) (pc' := 96) rfl (hb hby at_91) rfl (flt (by decide : ¬ ((6 : Int32) < (1 : Int32)))).2.2.2 (by decide) (by decide) q) ?_
      refine own_tp (.int (0 : Int32)) 97 (fun _ q => XS.iloadN X66.here hx rfl (hb hby at_96) rfl q) ?_
      refine own_d1 104 (fun _ q => XS.ifYes X66.here hx rfl (pc0 := 97) (pc' := 104) rfl (hb hby at_97) rfl ((if0 _ _).trans (teq (by decide : (0 : Int32) = (0 : Int32))).1) (by decide) (by decide) q) ?_
      refine own_tp (.int (0 : Int32)) 105 (fun _ q => XS.iconst X66.here hx rfl (hb hby at_104) q) ?_
      let L_67 : Array Slot := #[.val (.int p0), .val (.int p1), .val (.int (0 : Int32)), .val (.int (0 : Int32)), .val (.long d), .second, .val (.ref sa56), .val (.ref sa58), .val (.int (1 : Int32)), .val (.int (0 : Int32)), .unset]
      refine own_ls L_67 107 (fun _ q => XS.istore X66.here hx rfl (hb hby at_105) rfl (l' := L_67) rfl q) ?_
      refine own_tp (.long (48 : Int64)) 110 (fun _ q => X66.ldc2Long hx hown56 (mvT hZ56 (own_w hw 53 rfl)) (g := (mkF m 107 L_67 [])) rfl (hb hby at_107) _ q) ?_
      refine own_tp (.long d) 112 (fun _ q => XS.lload X66.here hx rfl (hb hby at_110) rfl q) ?_
      refine own_t2 (.long ((48 : Int64) + d)) 113 (fun _ q => XS.ladd X66.here hx rfl (hb hby at_112) rfl q) ?_
      refine own_t1 (.int (((48 : Int64) + d).toInt32)) 114 (fun _ q => XS.l2i X66.here hx rfl (hb hby at_113) rfl q) ?_
      refine own_t1 (.int ((((48 : Int64) + d).toInt32).toUInt32.toUInt16.toUInt32.toInt32)) 115 (fun _ q => XS.i2c X66.here hx rfl (hb hby at_114) rfl q) ?_
      obtain ⟨dc, edc⟩ : ∃ z : Int32, ((((48 : Int64) + d).toInt32).toUInt32.toUInt16.toUInt32.toInt32) = z := ⟨_, rfl⟩
      rw [edc]
      let L_68 : Array Slot := #[.val (.int p0), .val (.int p1), .val (.int (0 : Int32)), .val (.int (0 : Int32)), .val (.long d), .second, .val (.ref sa56), .val (.ref sa58), .val (.int (1 : Int32)), .val (.int (0 : Int32)), .val (.int dc)]
      refine own_ls L_68 117 (fun _ q => XS.istore X66.here hx rfl (hb hby at_115) rfl (l' := L_68) rfl q) ?_
      refine own_tp (.ref sa56) 119 (fun _ q => XS.aload X66.here hx rfl (hb hby at_117) rfl rfl q) ?_
      refine own_tp (.ref sa58) 121 (fun _ q => XS.aload X66.here hx rfl (hb hby at_119) rfl rfl q) ?_
      refine own_tp (.int (0 : Int32)) 122 (fun _ q => XS.iconst X66.here hx rfl (hb hby at_121) q) ?_
      refine own_tp (.int (0 : Int32)) 124 (fun _ q => XS.iload X66.here hx rfl (hb hby at_122) rfl q) ?_
      refine own_tp (.int dc) 126 (fun _ q => XS.iload X66.here hx rfl (hb hby at_124) rfl q) ?_
      obtain ⟨_, _, ⟨T69, L69, k69, n69⟩, -, X69, ⟨Lc69, hQ69, l69, y69, z69⟩, st69⟩ := Jvm.LawKit.callS X66 hx (y := (⟨"com/example/unit_step/unitstep/FloatingPointLayoutWriteZeroPinLaw", "place", "(Ljava/lang/String;Ljava/lang/String;IIC)Z"⟩ : MethodName)) hown56 (mvT hZ56 (own_w hw 54 rfl)) (mvT hZ56 (own_w hw 55 rfl)) (mvT hZ56 (own_w hw 56 rfl)) (mvT hZ56 (own_w hw 57 rfl)) (by decide) (backOf (W := 0) (rm8 l Z a0 hw [] sa56 sb56 sk56 (1 : Int32) [(.int (48 : Int32))] sa58 sb58 sk58 [(.int (nar .byte (own_dg d)))] (0 : Int32) (0 : Int32) dc (48 : Int32) (nar .byte (own_dg d)) T58.heap n0 G1 P5 O58 Sc G3 rG3 Sf f60 f61 f62 f63 Es58 Cs58 Ls58 Vs58 (Or.inr ⟨by decide, by decide, rfl, rfl, Or.inl ⟨rfl, by decide, (own_hxB hd).trans edc⟩⟩)) hZ56 (own_w hw 57 rfl) (own_w hw 56 rfl) (by decide) (by decide)) (g := (mkF m 126 L_68 [(.int dc), (.int (0 : Int32)), (.int (0 : Int32)), (.ref sa58), (.ref sa56)])) rfl (by rw [hml]; rfl) (argsL := [(.ref sa56), (.ref sa58), (.int (0 : Int32)), (.int (0 : Int32)), (.int dc)]) (rest := []) (lenOf pd24 rfl) rfl (by show 2 * 0 + _ ≤ _; exact Nat.le_of_eq rfl) (hb hby at_126) (fun _ _ => ⟨rfl, eq66, (by decide : 4 + 0 ≤ _), (by decide : 13 + 0 ≤ _)⟩)
      dsimp only [Pt.U, Pt.locs, Pt.cells, Pt.slots] at X69 l69 y69 z69 st69 hQ69
      subst l69 y69 z69
      obtain ⟨rfl, Nq69, eq69⟩ := hQ69
      have N69 := Fr.app N66 Nq69
      refine own_cs [(.int (1 : Int32))] 129 st69 ?_
      refine own_d1 132 (fun _ q => XS.ifNo X69.here hx rfl (hb hby at_129) rfl ((if0 _ _).trans (feq (by decide : ¬ ((1 : Int32) = (0 : Int32)))).1) q) ?_
      refine own_tp (.ref sa56) 134 (fun _ q => XS.aload X69.here hx rfl (hb hby at_132) rfl rfl q) ?_
      refine own_tp (.ref sa58) 136 (fun _ q => XS.aload X69.here hx rfl (hb hby at_134) rfl rfl q) ?_
      refine own_tp (.int (1 : Int32)) 137 (fun _ q => XS.iconst X69.here hx rfl (hb hby at_136) q) ?_
      refine own_tp (.int (0 : Int32)) 139 (fun _ q => XS.iload X69.here hx rfl (hb hby at_137) rfl q) ?_
      refine own_tp (.int dc) 141 (fun _ q => XS.iload X69.here hx rfl (hb hby at_139) rfl q) ?_
      obtain ⟨_, _, ⟨T70, L70, k70, n70⟩, -, X70, ⟨Lc70, hQ70, l70, y70, z70⟩, st70⟩ := Jvm.LawKit.callS X69 hx (y := (⟨"com/example/unit_step/unitstep/FloatingPointLayoutWriteZeroPinLaw", "place", "(Ljava/lang/String;Ljava/lang/String;IIC)Z"⟩ : MethodName)) hown56 (mvT hZ56 (own_w hw 54 rfl)) (mvT hZ56 (own_w hw 55 rfl)) (mvT hZ56 (own_w hw 56 rfl)) (mvT hZ56 (own_w hw 57 rfl)) (by decide) (backOf (W := 0) (rm8 l Z a0 hw [] sa56 sb56 sk56 (1 : Int32) [(.int (48 : Int32))] sa58 sb58 sk58 [(.int (nar .byte (own_dg d)))] (1 : Int32) (0 : Int32) dc (0 : Int32) (0 : Int32) T58.heap n0 G1 P5 O58 Sc G3 rG3 Sf f60 f61 f62 f63 Es58 Cs58 Ls58 Vs58 (Or.inl (by decide))) hZ56 (own_w hw 57 rfl) (own_w hw 56 rfl) (by decide) (by decide)) (g := (mkF m 141 L_68 [(.int dc), (.int (0 : Int32)), (.int (1 : Int32)), (.ref sa58), (.ref sa56)])) rfl (by rw [hml]; rfl) (argsL := [(.ref sa56), (.ref sa58), (.int (1 : Int32)), (.int (0 : Int32)), (.int dc)]) (rest := []) (lenOf pd24 rfl) rfl (by show 2 * 0 + _ ≤ _; exact Nat.le_of_eq rfl) (hb hby at_141) (fun _ _ => ⟨rfl, eq69, (by decide : 4 + 0 ≤ _), (by decide : 13 + 0 ≤ _)⟩)
      dsimp only [Pt.U, Pt.locs, Pt.cells, Pt.slots] at X70 l70 y70 z70 st70 hQ70
      subst l70 y70 z70
      obtain ⟨rfl, Nq70, eq70⟩ := hQ70
      have N70 := Fr.app N69 Nq70
      refine own_cs [(.int (1 : Int32))] 144 st70 ?_
      refine own_d1 147 (fun _ q => XS.ifNo X70.here hx rfl (hb hby at_144) rfl ((if0 _ _).trans (feq (by decide : ¬ ((1 : Int32) = (0 : Int32)))).1) q) ?_
      refine own_tp (.ref sa56) 149 (fun _ q => XS.aload X70.here hx rfl (hb hby at_147) rfl rfl q) ?_
      refine own_tp (.ref sa58) 151 (fun _ q => XS.aload X70.here hx rfl (hb hby at_149) rfl rfl q) ?_
      refine own_tp (.int (2 : Int32)) 152 (fun _ q => XS.iconst X70.here hx rfl (hb hby at_151) q) ?_
      refine own_tp (.int (0 : Int32)) 154 (fun _ q => XS.iload X70.here hx rfl (hb hby at_152) rfl q) ?_
      refine own_tp (.int dc) 156 (fun _ q => XS.iload X70.here hx rfl (hb hby at_154) rfl q) ?_
      obtain ⟨_, _, ⟨T71, L71, k71, n71⟩, -, X71, ⟨Lc71, hQ71, l71, y71, z71⟩, st71⟩ := Jvm.LawKit.callS X70 hx (y := (⟨"com/example/unit_step/unitstep/FloatingPointLayoutWriteZeroPinLaw", "place", "(Ljava/lang/String;Ljava/lang/String;IIC)Z"⟩ : MethodName)) hown56 (mvT hZ56 (own_w hw 54 rfl)) (mvT hZ56 (own_w hw 55 rfl)) (mvT hZ56 (own_w hw 56 rfl)) (mvT hZ56 (own_w hw 57 rfl)) (by decide) (backOf (W := 0) (rm8 l Z a0 hw [] sa56 sb56 sk56 (1 : Int32) [(.int (48 : Int32))] sa58 sb58 sk58 [(.int (nar .byte (own_dg d)))] (2 : Int32) (0 : Int32) dc (0 : Int32) (0 : Int32) T58.heap n0 G1 P5 O58 Sc G3 rG3 Sf f60 f61 f62 f63 Es58 Cs58 Ls58 Vs58 (Or.inl (by decide))) hZ56 (own_w hw 57 rfl) (own_w hw 56 rfl) (by decide) (by decide)) (g := (mkF m 156 L_68 [(.int dc), (.int (0 : Int32)), (.int (2 : Int32)), (.ref sa58), (.ref sa56)])) rfl (by rw [hml]; rfl) (argsL := [(.ref sa56), (.ref sa58), (.int (2 : Int32)), (.int (0 : Int32)), (.int dc)]) (rest := []) (lenOf pd24 rfl) rfl (by show 2 * 0 + _ ≤ _; exact Nat.le_of_eq rfl) (hb hby at_156) (fun _ _ => ⟨rfl, eq70, (by decide : 4 + 0 ≤ _), (by decide : 13 + 0 ≤ _)⟩)
      dsimp only [Pt.U, Pt.locs, Pt.cells, Pt.slots] at X71 l71 y71 z71 st71 hQ71
      subst l71 y71 z71
      obtain ⟨rfl, Nq71, eq71⟩ := hQ71
      have N71 := Fr.app N70 Nq71
      refine own_cs [(.int (1 : Int32))] 159 st71 ?_
      refine own_d1 162 (fun _ q => XS.ifNo X71.here hx rfl (hb hby at_159) rfl ((if0 _ _).trans (feq (by decide : ¬ ((1 : Int32) = (0 : Int32)))).1) q) ?_
      refine own_tp (.ref sa56) 164 (fun _ q => XS.aload X71.here hx rfl (hb hby at_162) rfl rfl q) ?_
      refine own_tp (.ref sa58) 166 (fun _ q => XS.aload X71.here hx rfl (hb hby at_164) rfl rfl q) ?_
      refine own_tp (.int (3 : Int32)) 167 (fun _ q => XS.iconst X71.here hx rfl (hb hby at_166) q) ?_
      refine own_tp (.int (0 : Int32)) 169 (fun _ q => XS.iload X71.here hx rfl (hb hby at_167) rfl q) ?_
      refine own_tp (.int dc) 171 (fun _ q => XS.iload X71.here hx rfl (hb hby at_169) rfl q) ?_
      obtain ⟨_, _, ⟨T72, L72, k72, n72⟩, -, X72, ⟨Lc72, hQ72, l72, y72, z72⟩, st72⟩ := Jvm.LawKit.callS X71 hx (y := (⟨"com/example/unit_step/unitstep/FloatingPointLayoutWriteZeroPinLaw", "place", "(Ljava/lang/String;Ljava/lang/String;IIC)Z"⟩ : MethodName)) hown56 (mvT hZ56 (own_w hw 54 rfl)) (mvT hZ56 (own_w hw 55 rfl)) (mvT hZ56 (own_w hw 56 rfl)) (mvT hZ56 (own_w hw 57 rfl)) (by decide) (backOf (W := 0) (rm8 l Z a0 hw [] sa56 sb56 sk56 (1 : Int32) [(.int (48 : Int32))] sa58 sb58 sk58 [(.int (nar .byte (own_dg d)))] (3 : Int32) (0 : Int32) dc (0 : Int32) (0 : Int32) T58.heap n0 G1 P5 O58 Sc G3 rG3 Sf f60 f61 f62 f63 Es58 Cs58 Ls58 Vs58 (Or.inl (by decide))) hZ56 (own_w hw 57 rfl) (own_w hw 56 rfl) (by decide) (by decide)) (g := (mkF m 171 L_68 [(.int dc), (.int (0 : Int32)), (.int (3 : Int32)), (.ref sa58), (.ref sa56)])) rfl (by rw [hml]; rfl) (argsL := [(.ref sa56), (.ref sa58), (.int (3 : Int32)), (.int (0 : Int32)), (.int dc)]) (rest := []) (lenOf pd24 rfl) rfl (by show 2 * 0 + _ ≤ _; exact Nat.le_of_eq rfl) (hb hby at_171) (fun _ _ => ⟨rfl, eq71, (by decide : 4 + 0 ≤ _), (by decide : 13 + 0 ≤ _)⟩)
      dsimp only [Pt.U, Pt.locs, Pt.cells, Pt.slots] at X72 l72 y72 z72 st72 hQ72
      subst l72 y72 z72
      obtain ⟨rfl, Nq72, eq72⟩ := hQ72
      have N72 := Fr.app N71 Nq72
      refine own_cs [(.int (1 : Int32))] 174 st72 ?_
      refine own_d1 177 (fun _ q => XS.ifNo X72.here hx rfl (hb hby at_174) rfl ((if0 _ _).trans (feq (by decide : ¬ ((1 : Int32) = (0 : Int32)))).1) q) ?_
      refine own_tp (.ref sa56) 179 (fun _ q => XS.aload X72.here hx rfl (hb hby at_177) rfl rfl q) ?_
      refine own_tp (.ref sa58) 181 (fun _ q => XS.aload X72.here hx rfl (hb hby at_179) rfl rfl q) ?_
      refine own_tp (.int (4 : Int32)) 182 (fun _ q => XS.iconst X72.here hx rfl (hb hby at_181) q) ?_
      refine own_tp (.int (0 : Int32)) 184 (fun _ q => XS.iload X72.here hx rfl (hb hby at_182) rfl q) ?_
      refine own_tp (.int dc) 186 (fun _ q => XS.iload X72.here hx rfl (hb hby at_184) rfl q) ?_
      obtain ⟨_, _, ⟨T73, L73, k73, n73⟩, -, X73, ⟨Lc73, hQ73, l73, y73, z73⟩, st73⟩ := Jvm.LawKit.callS X72 hx (y := (⟨"com/example/unit_step/unitstep/FloatingPointLayoutWriteZeroPinLaw", "place", "(Ljava/lang/String;Ljava/lang/String;IIC)Z"⟩ : MethodName)) hown56 (mvT hZ56 (own_w hw 54 rfl)) (mvT hZ56 (own_w hw 55 rfl)) (mvT hZ56 (own_w hw 56 rfl)) (mvT hZ56 (own_w hw 57 rfl)) (by decide) (backOf (W := 0) (rm8 l Z a0 hw [] sa56 sb56 sk56 (1 : Int32) [(.int (48 : Int32))] sa58 sb58 sk58 [(.int (nar .byte (own_dg d)))] (4 : Int32) (0 : Int32) dc (0 : Int32) (0 : Int32) T58.heap n0 G1 P5 O58 Sc G3 rG3 Sf f60 f61 f62 f63 Es58 Cs58 Ls58 Vs58 (Or.inl (by decide))) hZ56 (own_w hw 57 rfl) (own_w hw 56 rfl) (by decide) (by decide)) (g := (mkF m 186 L_68 [(.int dc), (.int (0 : Int32)), (.int (4 : Int32)), (.ref sa58), (.ref sa56)])) rfl (by rw [hml]; rfl) (argsL := [(.ref sa56), (.ref sa58), (.int (4 : Int32)), (.int (0 : Int32)), (.int dc)]) (rest := []) (lenOf pd24 rfl) rfl (by show 2 * 0 + _ ≤ _; exact Nat.le_of_eq rfl) (hb hby at_186) (fun _ _ => ⟨rfl, eq72, (by decide : 4 + 0 ≤ _), (by decide : 13 + 0 ≤ _)⟩)
      dsimp only [Pt.U, Pt.locs, Pt.cells, Pt.slots] at X73 l73 y73 z73 st73 hQ73
      subst l73 y73 z73
      obtain ⟨rfl, Nq73, eq73⟩ := hQ73
      have N73 := Fr.app N72 Nq73
      refine own_cs [(.int (1 : Int32))] 189 st73 ?_
      refine own_d1 192 (fun _ q => XS.ifNo X73.here hx rfl (hb hby at_189) rfl ((if0 _ _).trans (feq (by decide : ¬ ((1 : Int32) = (0 : Int32)))).1) q) ?_
      refine own_tp (.ref sa56) 194 (fun _ q => XS.aload X73.here hx rfl (hb hby at_192) rfl rfl q) ?_
      refine own_tp (.ref sa58) 196 (fun _ q => XS.aload X73.here hx rfl (hb hby at_194) rfl rfl q) ?_
      refine own_tp (.int (5 : Int32)) 197 (fun _ q => XS.iconst X73.here hx rfl (hb hby at_196) q) ?_
      refine own_tp (.int (0 : Int32)) 199 (fun _ q => XS.iload X73.here hx rfl (hb hby at_197) rfl q) ?_
      refine own_tp (.int dc) 201 (fun _ q => XS.iload X73.here hx rfl (hb hby at_199) rfl q) ?_
      obtain ⟨_, _, ⟨T74, L74, k74, n74⟩, -, X74, ⟨Lc74, hQ74, l74, y74, z74⟩, st74⟩ := Jvm.LawKit.callS X73 hx (y := (⟨"com/example/unit_step/unitstep/FloatingPointLayoutWriteZeroPinLaw", "place", "(Ljava/lang/String;Ljava/lang/String;IIC)Z"⟩ : MethodName)) hown56 (mvT hZ56 (own_w hw 54 rfl)) (mvT hZ56 (own_w hw 55 rfl)) (mvT hZ56 (own_w hw 56 rfl)) (mvT hZ56 (own_w hw 57 rfl)) (by decide) (backOf (W := 0) (rm8 l Z a0 hw [] sa56 sb56 sk56 (1 : Int32) [(.int (48 : Int32))] sa58 sb58 sk58 [(.int (nar .byte (own_dg d)))] (5 : Int32) (0 : Int32) dc (0 : Int32) (0 : Int32) T58.heap n0 G1 P5 O58 Sc G3 rG3 Sf f60 f61 f62 f63 Es58 Cs58 Ls58 Vs58 (Or.inl (by decide))) hZ56 (own_w hw 57 rfl) (own_w hw 56 rfl) (by decide) (by decide)) (g := (mkF m 201 L_68 [(.int dc), (.int (0 : Int32)), (.int (5 : Int32)), (.ref sa58), (.ref sa56)])) rfl (by rw [hml]; rfl) (argsL := [(.ref sa56), (.ref sa58), (.int (5 : Int32)), (.int (0 : Int32)), (.int dc)]) (rest := []) (lenOf pd24 rfl) rfl (by show 2 * 0 + _ ≤ _; exact Nat.le_of_eq rfl) (hb hby at_201) (fun _ _ => ⟨rfl, eq73, (by decide : 4 + 0 ≤ _), (by decide : 13 + 0 ≤ _)⟩)
      dsimp only [Pt.U, Pt.locs, Pt.cells, Pt.slots] at X74 l74 y74 z74 st74 hQ74
      subst l74 y74 z74
      obtain ⟨rfl, Nq74, eq74⟩ := hQ74
      have N74 := Fr.app N73 Nq74
      refine own_cs [(.int (1 : Int32))] 204 st74 ?_
      refine own_d1 207 (fun _ q => XS.ifNo X74.here hx rfl (hb hby at_204) rfl ((if0 _ _).trans (feq (by decide : ¬ ((1 : Int32) = (0 : Int32)))).1) q) ?_
      refine own_tp (.int (1 : Int32)) 208 (fun _ q => XS.iconst X74.here hx rfl (hb hby at_207) q) ?_
      refine own_d0 212 (fun _ q => XS.goto X74.here hx rfl (pc0 := 208) (pc' := 212) rfl (hb hby at_208) (by decide) (by decide) q) ?_
      exact own_retNW (t := .boolean) X74 hx hrt (hb hby at_212) (by simp) hlk (by decide) (by decide) eq74 Wd58 (⟨rfl, N74⟩)
    ·
      refine own_d1 18 (fun _ q => XS.ifNo X0.here hx rfl (hb hby at_15) rfl ((if0 _ _).trans (feq c53).1) q) ?_
      refine own_tp (.int (1 : Int32)) 19 (fun _ q => XS.iconst X0.here hx rfl (hb hby at_18) q) ?_
      refine own_d0 23 (fun _ q => XS.goto X0.here hx rfl (pc0 := 19) (pc' := 23) rfl (hb hby at_19) (by decide) (by decide) q) ?_
      let L_75 : Array Slot := #[.val (.int p0), .val (.int p1), .val (.int (0 : Int32)), .val (.int (1 : Int32)), .unset, .unset, .unset, .unset, .unset, .unset, .unset]
      refine own_ls L_75 24 (fun _ q => XS.istoreN X0.here hx rfl (hb hby at_23) rfl (l' := L_75) rfl q) ?_
      refine own_tp (.int p1) 25 (fun _ q => XS.iloadN X0.here hx rfl (hb hby at_24) rfl q) ?_
      refine own_tp (.int (2147483647 : Int32)) 27 (fun _ q => X0.ldcInt hx hown (mvT hZ (own_w hw 0 rfl)) (g := (mkF m 25 L_75 [(.int p1)])) rfl (hb hby at_25) _ q) ?_
      refine own_t2 (.int (p1 &&& (2147483647 : Int32))) 28 (fun _ q => XS.iand X0.here hx rfl (hb hby at_27) rfl q) ?_
      refine own_tp (.int (9 : Int32)) 30 (fun _ q => XS.bipush X0.here hx rfl (hb hby at_28) q) ?_
      refine own_t2 (.int ((p1 &&& (2147483647 : Int32)) % (9 : Int32))) 31 (fun _ q => iremM (g := (mkF m 30 L_75 [(.int (9 : Int32)), (.int (p1 &&& (2147483647 : Int32)))])) X0 hx rfl (hb hby at_30) rfl (by decide) q) ?_
      refine own_tp (.int (1 : Int32)) 32 (fun _ q => XS.iconst X0.here hx rfl (hb hby at_31) q) ?_
      refine own_t2 (.int (((p1 &&& (2147483647 : Int32)) % (9 : Int32)) + (1 : Int32))) 33 (fun _ q => XS.iadd X0.here hx rfl (hb hby at_32) rfl q) ?_
      refine own_t1 (.long ((((p1 &&& (2147483647 : Int32)) % (9 : Int32)) + (1 : Int32)).toInt64)) 34 (fun _ q => XS.i2l X0.here hx rfl (hb hby at_33) rfl q) ?_
      obtain ⟨d, ed, hd⟩ : ∃ d : Int64, ((((p1 &&& (2147483647 : Int32)) % (9 : Int32)) + (1 : Int32)).toInt64) = d ∧ own_D d := ⟨_, rfl, own_9 p1⟩
      rw [ed]
      let L_76 : Array Slot := #[.val (.int p0), .val (.int p1), .val (.int (0 : Int32)), .val (.int (1 : Int32)), .val (.long d), .second, .unset, .unset, .unset, .unset, .unset]
      refine own_ls L_76 36 (fun _ q => XS.lstore X0.here hx rfl (hb hby at_34) rfl (l' := L_76) rfl q) ?_
      refine own_tp (.int (0 : Int32)) 37 (fun _ q => XS.iloadN X0.here hx rfl (hb hby at_36) rfl q) ?_
      refine own_tp (.int (1 : Int32)) 38 (fun _ q => XS.iloadN X0.here hx rfl (hb hby at_37) rfl q) ?_
      obtain ⟨_, _, ⟨T77, L77, k77, n77⟩, -, X77, hS77, -, ⟨Lc77, hQ77, l77, y77, z77, Ch77⟩, st77⟩ := callSS X0 hx (y := (⟨"com/example/unit_step/unitstep/FloatingPointLayout", "writeZero", "(ZZ)Ljava/lang/String;"⟩ : MethodName)) hown (mvT hZ (own_w hw 1 rfl)) (mvT hZ (own_w hw 2 rfl)) (mvT hZ (own_w hw 3 rfl)) (mvT hZ (own_w hw 4 rfl)) (by decide) (backOfSH (W := 0) (rm47 l Z a0 hw [] h0 n0 hE Z0 O0) hZ (own_w hw 4 rfl) (own_w hw 3 rfl) (by decide) (by decide) Wd0.hE Wd0.chv) (g := (mkF m 38 L_76 [(.int (1 : Int32)), (.int (0 : Int32))])) rfl (by rw [hml]; rfl) (argsL := [(.int (0 : Int32)), (.int (1 : Int32))]) (rest := []) (lenOf pd22 rfl) rfl (by show 2 * 0 + _ ≤ _; exact Nat.le_of_eq rfl) (hb hby at_38) (fun _ _ => ⟨rfl, e0, (by decide : 0 + 2 ≤ _), (by decide : 0 + 24 ≤ _)⟩)
      dsimp only [Pt.U, Pt.locs, Pt.cells, Pt.slots] at X77 l77 y77 z77 st77 hQ77 hS77 Ch77
      subst l77 y77 z77
      have Wd77 := own_Wd.call Wd0 hS77 Ch77
      have hZ77 : Z.Warmed39 (s.setVm T77.vm).vm := Wd77.hZ
      have hown77 : (s.setVm T77.vm).vm.findClass "com/example/unit_step/unitstep/FloatingPointLayoutWriteZeroPinLaw" = some m.cls := own_since_own hS77 hown
      have Y77 : Stand p l e room_1 (s.setVm T77.vm) m #[(.int p0), (.int p1)] below meth c T77 _ _ _ := X77
      obtain ⟨sa77, sb77, sk77, rfl, Nq77, Kp77, Es77, Cs77, Ls77, Vs77⟩ := hQ77
      have N77 := Fr.app N0 Nq77
      have O77 := Old.keep O0 Kp77 all0
      have Z77 : n0 ≤ T77.heap.size := Nat.le_trans Z0 Kp77.1
      refine own_csR [(.ref sa77)] 41 st77 ?_
      let L_78 : Array Slot := #[.val (.int p0), .val (.int p1), .val (.int (0 : Int32)), .val (.int (1 : Int32)), .val (.long d), .second, .val (.ref sa77), .unset, .unset, .unset, .unset]
      refine own_ls L_78 43 (fun _ q => XS.astore Y77.here hx rfl (hb hby at_41) rfl rfl (l' := L_78) rfl q) ?_
      refine own_tp (.int (0 : Int32)) 44 (fun _ q => XS.iloadN Y77.here hx rfl (hb hby at_43) rfl q) ?_
      refine own_tp (.long d) 46 (fun _ q => XS.lload Y77.here hx rfl (hb hby at_44) rfl q) ?_
      refine own_tp (.int (1 : Int32)) 47 (fun _ q => XS.iloadN Y77.here hx rfl (hb hby at_46) rfl q) ?_
      obtain ⟨_, _, ⟨T79, L79, k79, n79⟩, -, X79, ⟨Lc79, hQ79, l79, y79, z79⟩, st79⟩ := Jvm.LawKit.callS Y77 hx (y := (⟨"com/example/unit_step/unitstep/FloatingPointLayout", "writeWhole", "(ZJZ)Ljava/lang/String;"⟩ : MethodName)) hown77 (mvT hZ77 (own_w hw 13 rfl)) (mvT hZ77 (own_w hw 14 rfl)) (mvT hZ77 (own_w hw 3 rfl)) (mvT hZ77 (own_w hw 15 rfl)) (by decide) (backOf (W := 0) (rm39 l Z a0 hw [] d T77.heap n0 G1 P5 O77 Sc G3 rG3 Sf dg kd ex kx TB Z77 hd) hZ77 (own_w hw 15 rfl) (own_w hw 3 rfl) (by decide) (by decide)) (g := (mkF m 47 L_78 [(.int (1 : Int32)), (.long d), (.int (0 : Int32))])) rfl (by rw [hml]; rfl) (argsL := [(.int (0 : Int32)), (.long d), (.int (1 : Int32))]) (rest := []) (lenOf pd23 rfl) rfl (by show 2 * 0 + _ ≤ _; exact Nat.le_of_eq rfl) (hb hby at_47) (fun _ _ => ⟨rfl, rfl, (by decide : 2 + 3 ≤ _), (by decide : 24 + 14 ≤ _)⟩)
      dsimp only [Pt.U, Pt.locs, Pt.cells, Pt.slots] at X79 l79 y79 z79 st79 hQ79
      subst l79 y79 z79
      obtain ⟨sa79, sb79, sk79, rfl, Nq79, Kp79, Es79, Cs79, Ls79, Vs79⟩ := hQ79
      have N79 := Fr.app N77 Nq79
      have O79 := Old.keep O77 Kp79 all0
      have Z79 : n0 ≤ T79.heap.size := Nat.le_trans Z77 Kp79.1
      have Wd79 := Wd77.keep Kp79 all0
      refine own_cs [(.ref sa79)] 50 st79 ?_
      let L_80 : Array Slot := #[.val (.int p0), .val (.int p1), .val (.int (0 : Int32)), .val (.int (1 : Int32)), .val (.long d), .second, .val (.ref sa77), .val (.ref sa79), .unset, .unset, .unset]
      refine own_ls L_80 52 (fun _ q => XS.astore X79.here hx rfl (hb hby at_50) rfl rfl (l' := L_80) rfl q) ?_
      refine own_tp (.ref sa77) 54 (fun _ q => XS.aload X79.here hx rfl (hb hby at_52) rfl rfl q) ?_
      refine own_d1 57 (fun _ q => XS.ifnullNo X79.here hx rfl (hb hby at_54) rfl q) ?_
      refine own_tp (.ref sa79) 59 (fun _ q => XS.aload X79.here hx rfl (hb hby at_57) rfl rfl q) ?_
      refine own_d1 64 (fun _ q => XS.ifnonnullYes X79.here hx rfl (pc0 := 59) (pc' := 64) rfl (hb hby at_59) rfl (by decide) (by decide) q) ?_
      refine own_tp (.ref sa77) 66 (fun _ q => XS.aload X79.here hx rfl (hb hby at_64) rfl rfl q) ?_
      have f81 := (Es77.keep Kp79)
      have f82 := (Cs77.keep Kp79 nin0)
      have f83 := (Ls77.keep Kp79 nin0)
      have f84 := (Vs77.keep Kp79 nin0)
      obtain ⟨cq85, kq85, q85a, q85b, q85c⟩ := isOf hZ77 rfl f81
      obtain ⟨_, _, ⟨T85, L85, k85, n85⟩, -, X85, ⟨Lc85, hQ85, l85, y85, z85⟩, st85⟩ := X79.virtualBack hx (y := (⟨"java/lang/String", "length", "()I"⟩ : MethodName)) (z := (⟨"java/lang/String", "length", "()I"⟩ : MethodName)) hown77 (mvT hZ77 (own_w hw 42 rfl)) (mvT hZ77 (own_w hw 43 rfl)) (notFace_of_selects (args := #[]) (mvT hZ77 (own_w hw 45 rfl))) (mvT hZ77 (own_w hw 45 rfl)) (mvT hZ77 (own_w hw 44 rfl)) (by decide) (backOf (W := 0) (rm3 l Z a0 hw [] sa77 sb77 sk77 (5 : Int32) [(.int (48 : Int32)), (.int (46 : Int32)), (.int (48 : Int32)), (.int (69 : Int32)), (.int (48 : Int32))] T79.heap n0 G1 P5 O79 Sc f81 f82 f83 f84) hZ77 (own_w hw 46 rfl) (own_w hw 6 rfl) (by decide) (by decide)) q85a q85c (g := (mkF m 66 L_80 [(.ref sa77)])) rfl (by rw [hml]; rfl) (Steps.refl _) (argsL := []) (rest := []) (lenOf pd5 rfl) rfl (by show 2 * 0 + _ ≤ _; exact Nat.le_of_eq rfl) (hb hby at_66) (fun _ _ => ⟨rfl, rfl, (by decide : 5 + 0 ≤ _), (by decide : 38 + 0 ≤ _)⟩)
      dsimp only [Pt.U, Pt.locs, Pt.cells, Pt.slots] at X85 l85 y85 z85 st85 hQ85
      subst l85 y85 z85
      obtain ⟨rfl, Nq85, eq85⟩ := hQ85
      have N85 := Fr.app N79 Nq85
      refine own_csR [(.int (5 : Int32))] 69 st85 ?_
      let L_86 : Array Slot := #[.val (.int p0), .val (.int p1), .val (.int (0 : Int32)), .val (.int (1 : Int32)), .val (.long d), .second, .val (.ref sa77), .val (.ref sa79), .val (.int (5 : Int32)), .unset, .unset]
      refine own_ls L_86 71 (fun _ q => XS.istore X85.here hx rfl (hb hby at_69) rfl (l' := L_86) rfl q) ?_
      refine own_tp (.int (5 : Int32)) 73 (fun _ q => XS.iload X85.here hx rfl (hb hby at_71) rfl q) ?_
      refine own_tp (.ref sa79) 75 (fun _ q => XS.aload X85.here hx rfl (hb hby at_73) rfl rfl q) ?_
      obtain ⟨cq87, kq87, q87a, q87b, q87c⟩ := isOf hZ77 eq85 Es79
      obtain ⟨_, _, ⟨T87, L87, k87, n87⟩, -, X87, ⟨Lc87, hQ87, l87, y87, z87⟩, st87⟩ := X85.virtualBack hx (y := (⟨"java/lang/String", "length", "()I"⟩ : MethodName)) (z := (⟨"java/lang/String", "length", "()I"⟩ : MethodName)) hown77 (mvT hZ77 (own_w hw 42 rfl)) (mvT hZ77 (own_w hw 43 rfl)) (notFace_of_selects (args := #[]) (mvT hZ77 (own_w hw 45 rfl))) (mvT hZ77 (own_w hw 45 rfl)) (mvT hZ77 (own_w hw 44 rfl)) (by decide) (backOf (W := 1) (rm3 l Z a0 hw [] sa79 sb79 sk79 (5 : Int32) [(.int (((48 : Int32) + (d.toInt32)).toInt8.toInt32)), (.int (46 : Int32)), (.int (48 : Int32)), (.int (69 : Int32)), (.int (((48 : Int32) + (((0 : Int32).toInt64).toInt32)).toInt8.toInt32))] T79.heap n0 G1 P5 O79 Sc Es79 Cs79 Ls79 Vs79) hZ77 (own_w hw 46 rfl) (own_w hw 6 rfl) (by decide) (by decide)) q87a q87c (g := (mkF m 75 L_86 [(.ref sa79), (.int (5 : Int32))])) rfl (by rw [hml]; rfl) (Steps.refl _) (argsL := []) (rest := [(.int (5 : Int32))]) (lenOf pd5 rfl) rfl (by show 2 * 0 + _ ≤ _; exact Nat.le_of_eq rfl) (hb hby at_75) (fun _ _ => ⟨rfl, eq85, (by decide : 5 + 0 ≤ _), (by decide : 38 + 0 ≤ _)⟩)
      dsimp only [Pt.U, Pt.locs, Pt.cells, Pt.slots] at X87 l87 y87 z87 st87 hQ87
      subst l87 y87 z87
      obtain ⟨rfl, Nq87, eq87⟩ := hQ87
      have N87 := Fr.app N85 Nq87
      refine own_csR [(.int (5 : Int32)), (.int (5 : Int32))] 78 st87 ?_
      refine own_d2 81 (fun _ q => XS.icmpNo X87.here hx rfl (hb hby at_78) rfl (teq (by decide : (5 : Int32) = (5 : Int32))).2 q) ?_
      refine own_tp (.int (5 : Int32)) 83 (fun _ q => XS.iload X87.here hx rfl (hb hby at_81) rfl q) ?_
      refine own_tp (.int (1 : Int32)) 84 (fun _ q => XS.iconst X87.here hx rfl (hb hby at_83) q) ?_
      refine own_d2 87 (fun _ q => XS.icmpNo X87.here hx rfl (hb hby at_84) rfl (flt (by decide : ¬ ((5 : Int32) < (1 : Int32)))).1 q) ?_
      refine own_tp (.int (5 : Int32)) 89 (fun _ q => XS.iload X87.here hx rfl (hb hby at_87) rfl q) ?_
      refine own_tp (.int (6 : Int32)) 91 (fun _ q => XS.bipush X87.here hx rfl (hb hby at_89) q) ?_
      refine own_d2 96 (fun _ q => XS.icmpYes X87.here hx rfl (pc0 := 91) (pc' := 96) rfl (hb hby at_91) rfl (flt (by decide : ¬ ((6 : Int32) < (5 : Int32)))).2.2.2 (by decide) (by decide) q) ?_
      refine own_tp (.int (0 : Int32)) 97 (fun _ q => XS.iloadN X87.here hx rfl (hb hby at_96) rfl q) ?_
      refine own_d1 104 (fun _ q => XS.ifYes X87.here hx rfl (pc0 := 97) (pc' := 104) rfl (hb hby at_97) rfl ((if0 _ _).trans (teq (by decide : (0 : Int32) = (0 : Int32))).1) (by decide) (by decide) q) ?_
      refine own_tp (.int (0 : Int32)) 105 (fun _ q => XS.iconst X87.here hx rfl (hb hby at_104) q) ?_
      let L_88 : Array Slot := #[.val (.int p0), .val (.int p1), .val (.int (0 : Int32)), .val (.int (1 : Int32)), .val (.long d), .second, .val (.ref sa77), .val (.ref sa79), .val (.int (5 : Int32)), .val (.int (0 : Int32)), .unset]
      refine own_ls L_88 107 (fun _ q => XS.istore X87.here hx rfl (hb hby at_105) rfl (l' := L_88) rfl q) ?_
      refine own_tp (.long (48 : Int64)) 110 (fun _ q => X87.ldc2Long hx hown77 (mvT hZ77 (own_w hw 53 rfl)) (g := (mkF m 107 L_88 [])) rfl (hb hby at_107) _ q) ?_
      refine own_tp (.long d) 112 (fun _ q => XS.lload X87.here hx rfl (hb hby at_110) rfl q) ?_
      refine own_t2 (.long ((48 : Int64) + d)) 113 (fun _ q => XS.ladd X87.here hx rfl (hb hby at_112) rfl q) ?_
      refine own_t1 (.int (((48 : Int64) + d).toInt32)) 114 (fun _ q => XS.l2i X87.here hx rfl (hb hby at_113) rfl q) ?_
      refine own_t1 (.int ((((48 : Int64) + d).toInt32).toUInt32.toUInt16.toUInt32.toInt32)) 115 (fun _ q => XS.i2c X87.here hx rfl (hb hby at_114) rfl q) ?_
      obtain ⟨dc, edc⟩ : ∃ z : Int32, ((((48 : Int64) + d).toInt32).toUInt32.toUInt16.toUInt32.toInt32) = z := ⟨_, rfl⟩
      rw [edc]
      let L_89 : Array Slot := #[.val (.int p0), .val (.int p1), .val (.int (0 : Int32)), .val (.int (1 : Int32)), .val (.long d), .second, .val (.ref sa77), .val (.ref sa79), .val (.int (5 : Int32)), .val (.int (0 : Int32)), .val (.int dc)]
      refine own_ls L_89 117 (fun _ q => XS.istore X87.here hx rfl (hb hby at_115) rfl (l' := L_89) rfl q) ?_
      refine own_tp (.ref sa77) 119 (fun _ q => XS.aload X87.here hx rfl (hb hby at_117) rfl rfl q) ?_
      refine own_tp (.ref sa79) 121 (fun _ q => XS.aload X87.here hx rfl (hb hby at_119) rfl rfl q) ?_
      refine own_tp (.int (0 : Int32)) 122 (fun _ q => XS.iconst X87.here hx rfl (hb hby at_121) q) ?_
      refine own_tp (.int (0 : Int32)) 124 (fun _ q => XS.iload X87.here hx rfl (hb hby at_122) rfl q) ?_
      refine own_tp (.int dc) 126 (fun _ q => XS.iload X87.here hx rfl (hb hby at_124) rfl q) ?_
      obtain ⟨_, _, ⟨T90, L90, k90, n90⟩, -, X90, ⟨Lc90, hQ90, l90, y90, z90⟩, st90⟩ := Jvm.LawKit.callS X87 hx (y := (⟨"com/example/unit_step/unitstep/FloatingPointLayoutWriteZeroPinLaw", "place", "(Ljava/lang/String;Ljava/lang/String;IIC)Z"⟩ : MethodName)) hown77 (mvT hZ77 (own_w hw 54 rfl)) (mvT hZ77 (own_w hw 55 rfl)) (mvT hZ77 (own_w hw 56 rfl)) (mvT hZ77 (own_w hw 57 rfl)) (by decide) (backOf (W := 0) (rm8 l Z a0 hw [] sa77 sb77 sk77 (5 : Int32) [(.int (48 : Int32)), (.int (46 : Int32)), (.int (48 : Int32)), (.int (69 : Int32)), (.int (48 : Int32))] sa79 sb79 sk79 [(.int (((48 : Int32) + (d.toInt32)).toInt8.toInt32)), (.int (46 : Int32)), (.int (48 : Int32)), (.int (69 : Int32)), (.int (((48 : Int32) + (((0 : Int32).toInt64).toInt32)).toInt8.toInt32))] (0 : Int32) (0 : Int32) dc (48 : Int32) (((48 : Int32) + (d.toInt32)).toInt8.toInt32) T79.heap n0 G1 P5 O79 Sc G3 rG3 Sf f81 f82 f83 f84 Es79 Cs79 Ls79 Vs79 (Or.inr ⟨by decide, by decide, rfl, rfl, Or.inl ⟨rfl, by decide, (own_hxA hd).trans edc⟩⟩)) hZ77 (own_w hw 57 rfl) (own_w hw 56 rfl) (by decide) (by decide)) (g := (mkF m 126 L_89 [(.int dc), (.int (0 : Int32)), (.int (0 : Int32)), (.ref sa79), (.ref sa77)])) rfl (by rw [hml]; rfl) (argsL := [(.ref sa77), (.ref sa79), (.int (0 : Int32)), (.int (0 : Int32)), (.int dc)]) (rest := []) (lenOf pd24 rfl) rfl (by show 2 * 0 + _ ≤ _; exact Nat.le_of_eq rfl) (hb hby at_126) (fun _ _ => ⟨rfl, eq87, (by decide : 5 + 0 ≤ _), (by decide : 38 + 0 ≤ _)⟩)
      dsimp only [Pt.U, Pt.locs, Pt.cells, Pt.slots] at X90 l90 y90 z90 st90 hQ90
      subst l90 y90 z90
      obtain ⟨rfl, Nq90, eq90⟩ := hQ90
      have N90 := Fr.app N87 Nq90
      refine own_cs [(.int (1 : Int32))] 129 st90 ?_
      refine own_d1 132 (fun _ q => XS.ifNo X90.here hx rfl (hb hby at_129) rfl ((if0 _ _).trans (feq (by decide : ¬ ((1 : Int32) = (0 : Int32)))).1) q) ?_
      refine own_tp (.ref sa77) 134 (fun _ q => XS.aload X90.here hx rfl (hb hby at_132) rfl rfl q) ?_
      refine own_tp (.ref sa79) 136 (fun _ q => XS.aload X90.here hx rfl (hb hby at_134) rfl rfl q) ?_
      refine own_tp (.int (1 : Int32)) 137 (fun _ q => XS.iconst X90.here hx rfl (hb hby at_136) q) ?_
      refine own_tp (.int (0 : Int32)) 139 (fun _ q => XS.iload X90.here hx rfl (hb hby at_137) rfl q) ?_
      refine own_tp (.int dc) 141 (fun _ q => XS.iload X90.here hx rfl (hb hby at_139) rfl q) ?_
      obtain ⟨_, _, ⟨T91, L91, k91, n91⟩, -, X91, ⟨Lc91, hQ91, l91, y91, z91⟩, st91⟩ := Jvm.LawKit.callS X90 hx (y := (⟨"com/example/unit_step/unitstep/FloatingPointLayoutWriteZeroPinLaw", "place", "(Ljava/lang/String;Ljava/lang/String;IIC)Z"⟩ : MethodName)) hown77 (mvT hZ77 (own_w hw 54 rfl)) (mvT hZ77 (own_w hw 55 rfl)) (mvT hZ77 (own_w hw 56 rfl)) (mvT hZ77 (own_w hw 57 rfl)) (by decide) (backOf (W := 0) (rm8 l Z a0 hw [] sa77 sb77 sk77 (5 : Int32) [(.int (48 : Int32)), (.int (46 : Int32)), (.int (48 : Int32)), (.int (69 : Int32)), (.int (48 : Int32))] sa79 sb79 sk79 [(.int (((48 : Int32) + (d.toInt32)).toInt8.toInt32)), (.int (46 : Int32)), (.int (48 : Int32)), (.int (69 : Int32)), (.int (((48 : Int32) + (((0 : Int32).toInt64).toInt32)).toInt8.toInt32))] (1 : Int32) (0 : Int32) dc (46 : Int32) (46 : Int32) T79.heap n0 G1 P5 O79 Sc G3 rG3 Sf f81 f82 f83 f84 Es79 Cs79 Ls79 Vs79 (Or.inr ⟨by decide, by decide, rfl, rfl, Or.inr ⟨by decide, by decide⟩⟩)) hZ77 (own_w hw 57 rfl) (own_w hw 56 rfl) (by decide) (by decide)) (g := (mkF m 141 L_89 [(.int dc), (.int (0 : Int32)), (.int (1 : Int32)), (.ref sa79), (.ref sa77)])) rfl (by rw [hml]; rfl) (argsL := [(.ref sa77), (.ref sa79), (.int (1 : Int32)), (.int (0 : Int32)), (.int dc)]) (rest := []) (lenOf pd24 rfl) rfl (by show 2 * 0 + _ ≤ _; exact Nat.le_of_eq rfl) (hb hby at_141) (fun _ _ => ⟨rfl, eq90, (by decide : 5 + 0 ≤ _), (by decide : 38 + 0 ≤ _)⟩)
      dsimp only [Pt.U, Pt.locs, Pt.cells, Pt.slots] at X91 l91 y91 z91 st91 hQ91
      subst l91 y91 z91
      obtain ⟨rfl, Nq91, eq91⟩ := hQ91
      have N91 := Fr.app N90 Nq91
      refine own_cs [(.int (1 : Int32))] 144 st91 ?_
      refine own_d1 147 (fun _ q => XS.ifNo X91.here hx rfl (hb hby at_144) rfl ((if0 _ _).trans (feq (by decide : ¬ ((1 : Int32) = (0 : Int32)))).1) q) ?_
      refine own_tp (.ref sa77) 149 (fun _ q => XS.aload X91.here hx rfl (hb hby at_147) rfl rfl q) ?_
      refine own_tp (.ref sa79) 151 (fun _ q => XS.aload X91.here hx rfl (hb hby at_149) rfl rfl q) ?_
      refine own_tp (.int (2 : Int32)) 152 (fun _ q => XS.iconst X91.here hx rfl (hb hby at_151) q) ?_
      refine own_tp (.int (0 : Int32)) 154 (fun _ q => XS.iload X91.here hx rfl (hb hby at_152) rfl q) ?_
      refine own_tp (.int dc) 156 (fun _ q => XS.iload X91.here hx rfl (hb hby at_154) rfl q) ?_
      obtain ⟨_, _, ⟨T92, L92, k92, n92⟩, -, X92, ⟨Lc92, hQ92, l92, y92, z92⟩, st92⟩ := Jvm.LawKit.callS X91 hx (y := (⟨"com/example/unit_step/unitstep/FloatingPointLayoutWriteZeroPinLaw", "place", "(Ljava/lang/String;Ljava/lang/String;IIC)Z"⟩ : MethodName)) hown77 (mvT hZ77 (own_w hw 54 rfl)) (mvT hZ77 (own_w hw 55 rfl)) (mvT hZ77 (own_w hw 56 rfl)) (mvT hZ77 (own_w hw 57 rfl)) (by decide) (backOf (W := 0) (rm8 l Z a0 hw [] sa77 sb77 sk77 (5 : Int32) [(.int (48 : Int32)), (.int (46 : Int32)), (.int (48 : Int32)), (.int (69 : Int32)), (.int (48 : Int32))] sa79 sb79 sk79 [(.int (((48 : Int32) + (d.toInt32)).toInt8.toInt32)), (.int (46 : Int32)), (.int (48 : Int32)), (.int (69 : Int32)), (.int (((48 : Int32) + (((0 : Int32).toInt64).toInt32)).toInt8.toInt32))] (2 : Int32) (0 : Int32) dc (48 : Int32) (48 : Int32) T79.heap n0 G1 P5 O79 Sc G3 rG3 Sf f81 f82 f83 f84 Es79 Cs79 Ls79 Vs79 (Or.inr ⟨by decide, by decide, rfl, rfl, Or.inr ⟨by decide, by decide⟩⟩)) hZ77 (own_w hw 57 rfl) (own_w hw 56 rfl) (by decide) (by decide)) (g := (mkF m 156 L_89 [(.int dc), (.int (0 : Int32)), (.int (2 : Int32)), (.ref sa79), (.ref sa77)])) rfl (by rw [hml]; rfl) (argsL := [(.ref sa77), (.ref sa79), (.int (2 : Int32)), (.int (0 : Int32)), (.int dc)]) (rest := []) (lenOf pd24 rfl) rfl (by show 2 * 0 + _ ≤ _; exact Nat.le_of_eq rfl) (hb hby at_156) (fun _ _ => ⟨rfl, eq91, (by decide : 5 + 0 ≤ _), (by decide : 38 + 0 ≤ _)⟩)
      dsimp only [Pt.U, Pt.locs, Pt.cells, Pt.slots] at X92 l92 y92 z92 st92 hQ92
      subst l92 y92 z92
      obtain ⟨rfl, Nq92, eq92⟩ := hQ92
      have N92 := Fr.app N91 Nq92
      refine own_cs [(.int (1 : Int32))] 159 st92 ?_
      refine own_d1 162 (fun _ q => XS.ifNo X92.here hx rfl (hb hby at_159) rfl ((if0 _ _).trans (feq (by decide : ¬ ((1 : Int32) = (0 : Int32)))).1) q) ?_
      refine own_tp (.ref sa77) 164 (fun _ q => XS.aload X92.here hx rfl (hb hby at_162) rfl rfl q) ?_
      refine own_tp (.ref sa79) 166 (fun _ q => XS.aload X92.here hx rfl (hb hby at_164) rfl rfl q) ?_
      refine own_tp (.int (3 : Int32)) 167 (fun _ q => XS.iconst X92.here hx rfl (hb hby at_166) q) ?_
      refine own_tp (.int (0 : Int32)) 169 (fun _ q => XS.iload X92.here hx rfl (hb hby at_167) rfl q) ?_
      refine own_tp (.int dc) 171 (fun _ q => XS.iload X92.here hx rfl (hb hby at_169) rfl q) ?_
      obtain ⟨_, _, ⟨T93, L93, k93, n93⟩, -, X93, ⟨Lc93, hQ93, l93, y93, z93⟩, st93⟩ := Jvm.LawKit.callS X92 hx (y := (⟨"com/example/unit_step/unitstep/FloatingPointLayoutWriteZeroPinLaw", "place", "(Ljava/lang/String;Ljava/lang/String;IIC)Z"⟩ : MethodName)) hown77 (mvT hZ77 (own_w hw 54 rfl)) (mvT hZ77 (own_w hw 55 rfl)) (mvT hZ77 (own_w hw 56 rfl)) (mvT hZ77 (own_w hw 57 rfl)) (by decide) (backOf (W := 0) (rm8 l Z a0 hw [] sa77 sb77 sk77 (5 : Int32) [(.int (48 : Int32)), (.int (46 : Int32)), (.int (48 : Int32)), (.int (69 : Int32)), (.int (48 : Int32))] sa79 sb79 sk79 [(.int (((48 : Int32) + (d.toInt32)).toInt8.toInt32)), (.int (46 : Int32)), (.int (48 : Int32)), (.int (69 : Int32)), (.int (((48 : Int32) + (((0 : Int32).toInt64).toInt32)).toInt8.toInt32))] (3 : Int32) (0 : Int32) dc (69 : Int32) (69 : Int32) T79.heap n0 G1 P5 O79 Sc G3 rG3 Sf f81 f82 f83 f84 Es79 Cs79 Ls79 Vs79 (Or.inr ⟨by decide, by decide, rfl, rfl, Or.inr ⟨by decide, by decide⟩⟩)) hZ77 (own_w hw 57 rfl) (own_w hw 56 rfl) (by decide) (by decide)) (g := (mkF m 171 L_89 [(.int dc), (.int (0 : Int32)), (.int (3 : Int32)), (.ref sa79), (.ref sa77)])) rfl (by rw [hml]; rfl) (argsL := [(.ref sa77), (.ref sa79), (.int (3 : Int32)), (.int (0 : Int32)), (.int dc)]) (rest := []) (lenOf pd24 rfl) rfl (by show 2 * 0 + _ ≤ _; exact Nat.le_of_eq rfl) (hb hby at_171) (fun _ _ => ⟨rfl, eq92, (by decide : 5 + 0 ≤ _), (by decide : 38 + 0 ≤ _)⟩)
      dsimp only [Pt.U, Pt.locs, Pt.cells, Pt.slots] at X93 l93 y93 z93 st93 hQ93
      subst l93 y93 z93
      obtain ⟨rfl, Nq93, eq93⟩ := hQ93
      have N93 := Fr.app N92 Nq93
      refine own_cs [(.int (1 : Int32))] 174 st93 ?_
      refine own_d1 177 (fun _ q => XS.ifNo X93.here hx rfl (hb hby at_174) rfl ((if0 _ _).trans (feq (by decide : ¬ ((1 : Int32) = (0 : Int32)))).1) q) ?_
      refine own_tp (.ref sa77) 179 (fun _ q => XS.aload X93.here hx rfl (hb hby at_177) rfl rfl q) ?_
      refine own_tp (.ref sa79) 181 (fun _ q => XS.aload X93.here hx rfl (hb hby at_179) rfl rfl q) ?_
      refine own_tp (.int (4 : Int32)) 182 (fun _ q => XS.iconst X93.here hx rfl (hb hby at_181) q) ?_
      refine own_tp (.int (0 : Int32)) 184 (fun _ q => XS.iload X93.here hx rfl (hb hby at_182) rfl q) ?_
      refine own_tp (.int dc) 186 (fun _ q => XS.iload X93.here hx rfl (hb hby at_184) rfl q) ?_
      obtain ⟨_, _, ⟨T94, L94, k94, n94⟩, -, X94, ⟨Lc94, hQ94, l94, y94, z94⟩, st94⟩ := Jvm.LawKit.callS X93 hx (y := (⟨"com/example/unit_step/unitstep/FloatingPointLayoutWriteZeroPinLaw", "place", "(Ljava/lang/String;Ljava/lang/String;IIC)Z"⟩ : MethodName)) hown77 (mvT hZ77 (own_w hw 54 rfl)) (mvT hZ77 (own_w hw 55 rfl)) (mvT hZ77 (own_w hw 56 rfl)) (mvT hZ77 (own_w hw 57 rfl)) (by decide) (backOf (W := 0) (rm8 l Z a0 hw [] sa77 sb77 sk77 (5 : Int32) [(.int (48 : Int32)), (.int (46 : Int32)), (.int (48 : Int32)), (.int (69 : Int32)), (.int (48 : Int32))] sa79 sb79 sk79 [(.int (((48 : Int32) + (d.toInt32)).toInt8.toInt32)), (.int (46 : Int32)), (.int (48 : Int32)), (.int (69 : Int32)), (.int (((48 : Int32) + (((0 : Int32).toInt64).toInt32)).toInt8.toInt32))] (4 : Int32) (0 : Int32) dc (48 : Int32) (((48 : Int32) + (((0 : Int32).toInt64).toInt32)).toInt8.toInt32) T79.heap n0 G1 P5 O79 Sc G3 rG3 Sf f81 f82 f83 f84 Es79 Cs79 Ls79 Vs79 (Or.inr ⟨by decide, by decide, rfl, rfl, Or.inr ⟨by decide, by decide⟩⟩)) hZ77 (own_w hw 57 rfl) (own_w hw 56 rfl) (by decide) (by decide)) (g := (mkF m 186 L_89 [(.int dc), (.int (0 : Int32)), (.int (4 : Int32)), (.ref sa79), (.ref sa77)])) rfl (by rw [hml]; rfl) (argsL := [(.ref sa77), (.ref sa79), (.int (4 : Int32)), (.int (0 : Int32)), (.int dc)]) (rest := []) (lenOf pd24 rfl) rfl (by show 2 * 0 + _ ≤ _; exact Nat.le_of_eq rfl) (hb hby at_186) (fun _ _ => ⟨rfl, eq93, (by decide : 5 + 0 ≤ _), (by decide : 38 + 0 ≤ _)⟩)
      dsimp only [Pt.U, Pt.locs, Pt.cells, Pt.slots] at X94 l94 y94 z94 st94 hQ94
      subst l94 y94 z94
      obtain ⟨rfl, Nq94, eq94⟩ := hQ94
      have N94 := Fr.app N93 Nq94
      refine own_cs [(.int (1 : Int32))] 189 st94 ?_
      refine own_d1 192 (fun _ q => XS.ifNo X94.here hx rfl (hb hby at_189) rfl ((if0 _ _).trans (feq (by decide : ¬ ((1 : Int32) = (0 : Int32)))).1) q) ?_
      refine own_tp (.ref sa77) 194 (fun _ q => XS.aload X94.here hx rfl (hb hby at_192) rfl rfl q) ?_
      refine own_tp (.ref sa79) 196 (fun _ q => XS.aload X94.here hx rfl (hb hby at_194) rfl rfl q) ?_
      refine own_tp (.int (5 : Int32)) 197 (fun _ q => XS.iconst X94.here hx rfl (hb hby at_196) q) ?_
      refine own_tp (.int (0 : Int32)) 199 (fun _ q => XS.iload X94.here hx rfl (hb hby at_197) rfl q) ?_
      refine own_tp (.int dc) 201 (fun _ q => XS.iload X94.here hx rfl (hb hby at_199) rfl q) ?_
      obtain ⟨_, _, ⟨T95, L95, k95, n95⟩, -, X95, ⟨Lc95, hQ95, l95, y95, z95⟩, st95⟩ := Jvm.LawKit.callS X94 hx (y := (⟨"com/example/unit_step/unitstep/FloatingPointLayoutWriteZeroPinLaw", "place", "(Ljava/lang/String;Ljava/lang/String;IIC)Z"⟩ : MethodName)) hown77 (mvT hZ77 (own_w hw 54 rfl)) (mvT hZ77 (own_w hw 55 rfl)) (mvT hZ77 (own_w hw 56 rfl)) (mvT hZ77 (own_w hw 57 rfl)) (by decide) (backOf (W := 0) (rm8 l Z a0 hw [] sa77 sb77 sk77 (5 : Int32) [(.int (48 : Int32)), (.int (46 : Int32)), (.int (48 : Int32)), (.int (69 : Int32)), (.int (48 : Int32))] sa79 sb79 sk79 [(.int (((48 : Int32) + (d.toInt32)).toInt8.toInt32)), (.int (46 : Int32)), (.int (48 : Int32)), (.int (69 : Int32)), (.int (((48 : Int32) + (((0 : Int32).toInt64).toInt32)).toInt8.toInt32))] (5 : Int32) (0 : Int32) dc (0 : Int32) (0 : Int32) T79.heap n0 G1 P5 O79 Sc G3 rG3 Sf f81 f82 f83 f84 Es79 Cs79 Ls79 Vs79 (Or.inl (by decide))) hZ77 (own_w hw 57 rfl) (own_w hw 56 rfl) (by decide) (by decide)) (g := (mkF m 201 L_89 [(.int dc), (.int (0 : Int32)), (.int (5 : Int32)), (.ref sa79), (.ref sa77)])) rfl (by rw [hml]; rfl) (argsL := [(.ref sa77), (.ref sa79), (.int (5 : Int32)), (.int (0 : Int32)), (.int dc)]) (rest := []) (lenOf pd24 rfl) rfl (by show 2 * 0 + _ ≤ _; exact Nat.le_of_eq rfl) (hb hby at_201) (fun _ _ => ⟨rfl, eq94, (by decide : 5 + 0 ≤ _), (by decide : 38 + 0 ≤ _)⟩)
      dsimp only [Pt.U, Pt.locs, Pt.cells, Pt.slots] at X95 l95 y95 z95 st95 hQ95
      subst l95 y95 z95
      obtain ⟨rfl, Nq95, eq95⟩ := hQ95
      have N95 := Fr.app N94 Nq95
      refine own_cs [(.int (1 : Int32))] 204 st95 ?_
      refine own_d1 207 (fun _ q => XS.ifNo X95.here hx rfl (hb hby at_204) rfl ((if0 _ _).trans (feq (by decide : ¬ ((1 : Int32) = (0 : Int32)))).1) q) ?_
      refine own_tp (.int (1 : Int32)) 208 (fun _ q => XS.iconst X95.here hx rfl (hb hby at_207) q) ?_
      refine own_d0 212 (fun _ q => XS.goto X95.here hx rfl (pc0 := 208) (pc' := 212) rfl (hb hby at_208) (by decide) (by decide) q) ?_
      exact own_retNW (t := .boolean) X95 hx hrt (hb hby at_212) (by simp) hlk (by decide) (by decide) eq95 Wd79 (⟨rfl, N95⟩)
  ·
    refine own_d1 6 (fun _ q => XS.ifNo X0.here hx rfl (hb hby at_3) rfl ((if0 _ _).trans (feq c51).1) q) ?_
    refine own_tp (.int (1 : Int32)) 7 (fun _ q => XS.iconst X0.here hx rfl (hb hby at_6) q) ?_
    refine own_d0 11 (fun _ q => XS.goto X0.here hx rfl (pc0 := 7) (pc' := 11) rfl (hb hby at_7) (by decide) (by decide) q) ?_
    let L_96 : Array Slot := #[.val (.int p0), .val (.int p1), .val (.int (1 : Int32)), .unset, .unset, .unset, .unset, .unset, .unset, .unset, .unset]
    refine own_ls L_96 12 (fun _ q => XS.istoreN X0.here hx rfl (hb hby at_11) rfl (l' := L_96) rfl q) ?_
    refine own_tp (.int p0) 13 (fun _ q => XS.iloadN X0.here hx rfl (hb hby at_12) rfl q) ?_
    refine own_tp (.int (2 : Int32)) 14 (fun _ q => XS.iconst X0.here hx rfl (hb hby at_13) q) ?_
    refine own_t2 (.int (p0 &&& (2 : Int32))) 15 (fun _ q => XS.iand X0.here hx rfl (hb hby at_14) rfl q) ?_
    by_cases c97 : (p0 &&& (2 : Int32)) = (0 : Int32)
    ·
      refine own_d1 22 (fun _ q => XS.ifYes X0.here hx rfl (pc0 := 15) (pc' := 22) rfl (hb hby at_15) rfl ((if0 _ _).trans (teq c97).1) (by decide) (by decide) q) ?_
      refine own_tp (.int (0 : Int32)) 23 (fun _ q => XS.iconst X0.here hx rfl (hb hby at_22) q) ?_
      let L_98 : Array Slot := #[.val (.int p0), .val (.int p1), .val (.int (1 : Int32)), .val (.int (0 : Int32)), .unset, .unset, .unset, .unset, .unset, .unset, .unset]
      refine own_ls L_98 24 (fun _ q => XS.istoreN X0.here hx rfl (hb hby at_23) rfl (l' := L_98) rfl q) ?_
      refine own_tp (.int p1) 25 (fun _ q => XS.iloadN X0.here hx rfl (hb hby at_24) rfl q) ?_
      refine own_tp (.int (2147483647 : Int32)) 27 (fun _ q => X0.ldcInt hx hown (mvT hZ (own_w hw 0 rfl)) (g := (mkF m 25 L_98 [(.int p1)])) rfl (hb hby at_25) _ q) ?_
      refine own_t2 (.int (p1 &&& (2147483647 : Int32))) 28 (fun _ q => XS.iand X0.here hx rfl (hb hby at_27) rfl q) ?_
      refine own_tp (.int (9 : Int32)) 30 (fun _ q => XS.bipush X0.here hx rfl (hb hby at_28) q) ?_
      refine own_t2 (.int ((p1 &&& (2147483647 : Int32)) % (9 : Int32))) 31 (fun _ q => iremM (g := (mkF m 30 L_98 [(.int (9 : Int32)), (.int (p1 &&& (2147483647 : Int32)))])) X0 hx rfl (hb hby at_30) rfl (by decide) q) ?_
      refine own_tp (.int (1 : Int32)) 32 (fun _ q => XS.iconst X0.here hx rfl (hb hby at_31) q) ?_
      refine own_t2 (.int (((p1 &&& (2147483647 : Int32)) % (9 : Int32)) + (1 : Int32))) 33 (fun _ q => XS.iadd X0.here hx rfl (hb hby at_32) rfl q) ?_
      refine own_t1 (.long ((((p1 &&& (2147483647 : Int32)) % (9 : Int32)) + (1 : Int32)).toInt64)) 34 (fun _ q => XS.i2l X0.here hx rfl (hb hby at_33) rfl q) ?_
      obtain ⟨d, ed, hd⟩ : ∃ d : Int64, ((((p1 &&& (2147483647 : Int32)) % (9 : Int32)) + (1 : Int32)).toInt64) = d ∧ own_D d := ⟨_, rfl, own_9 p1⟩
      rw [ed]
      let L_99 : Array Slot := #[.val (.int p0), .val (.int p1), .val (.int (1 : Int32)), .val (.int (0 : Int32)), .val (.long d), .second, .unset, .unset, .unset, .unset, .unset]
      refine own_ls L_99 36 (fun _ q => XS.lstore X0.here hx rfl (hb hby at_34) rfl (l' := L_99) rfl q) ?_
      refine own_tp (.int (1 : Int32)) 37 (fun _ q => XS.iloadN X0.here hx rfl (hb hby at_36) rfl q) ?_
      refine own_tp (.int (0 : Int32)) 38 (fun _ q => XS.iloadN X0.here hx rfl (hb hby at_37) rfl q) ?_
      obtain ⟨_, _, ⟨T100, L100, k100, n100⟩, -, X100, hS100, -, ⟨Lc100, hQ100, l100, y100, z100, Ch100⟩, st100⟩ := callSS X0 hx (y := (⟨"com/example/unit_step/unitstep/FloatingPointLayout", "writeZero", "(ZZ)Ljava/lang/String;"⟩ : MethodName)) hown (mvT hZ (own_w hw 1 rfl)) (mvT hZ (own_w hw 2 rfl)) (mvT hZ (own_w hw 3 rfl)) (mvT hZ (own_w hw 4 rfl)) (by decide) (backOfSH (W := 0) (rm46 l Z a0 hw [] h0 n0 hE Z0 O0) hZ (own_w hw 4 rfl) (own_w hw 3 rfl) (by decide) (by decide) Wd0.hE Wd0.chv) (g := (mkF m 38 L_99 [(.int (0 : Int32)), (.int (1 : Int32))])) rfl (by rw [hml]; rfl) (argsL := [(.int (1 : Int32)), (.int (0 : Int32))]) (rest := []) (lenOf pd22 rfl) rfl (by show 2 * 0 + _ ≤ _; exact Nat.le_of_eq rfl) (hb hby at_38) (fun _ _ => ⟨rfl, e0, (by decide : 0 + 2 ≤ _), (by decide : 0 + 12 ≤ _)⟩)
      dsimp only [Pt.U, Pt.locs, Pt.cells, Pt.slots] at X100 l100 y100 z100 st100 hQ100 hS100 Ch100
      subst l100 y100 z100
      have Wd100 := own_Wd.call Wd0 hS100 Ch100
      have hZ100 : Z.Warmed39 (s.setVm T100.vm).vm := Wd100.hZ
      have hown100 : (s.setVm T100.vm).vm.findClass "com/example/unit_step/unitstep/FloatingPointLayoutWriteZeroPinLaw" = some m.cls := own_since_own hS100 hown
      have Y100 : Stand p l e room_1 (s.setVm T100.vm) m #[(.int p0), (.int p1)] below meth c T100 _ _ _ := X100
      obtain ⟨sa100, sb100, sk100, rfl, Nq100, Kp100, Es100, Cs100, Ls100, Vs100⟩ := hQ100
      have N100 := Fr.app N0 Nq100
      have O100 := Old.keep O0 Kp100 all0
      have Z100 : n0 ≤ T100.heap.size := Nat.le_trans Z0 Kp100.1
      refine own_csR [(.ref sa100)] 41 st100 ?_
      let L_101 : Array Slot := #[.val (.int p0), .val (.int p1), .val (.int (1 : Int32)), .val (.int (0 : Int32)), .val (.long d), .second, .val (.ref sa100), .unset, .unset, .unset, .unset]
      refine own_ls L_101 43 (fun _ q => XS.astore Y100.here hx rfl (hb hby at_41) rfl rfl (l' := L_101) rfl q) ?_
      refine own_tp (.int (1 : Int32)) 44 (fun _ q => XS.iloadN Y100.here hx rfl (hb hby at_43) rfl q) ?_
      refine own_tp (.long d) 46 (fun _ q => XS.lload Y100.here hx rfl (hb hby at_44) rfl q) ?_
      refine own_tp (.int (0 : Int32)) 47 (fun _ q => XS.iloadN Y100.here hx rfl (hb hby at_46) rfl q) ?_
      obtain ⟨_, _, ⟨T102, L102, k102, n102⟩, -, X102, ⟨Lc102, hQ102, l102, y102, z102⟩, st102⟩ := Jvm.LawKit.callS Y100 hx (y := (⟨"com/example/unit_step/unitstep/FloatingPointLayout", "writeWhole", "(ZJZ)Ljava/lang/String;"⟩ : MethodName)) hown100 (mvT hZ100 (own_w hw 13 rfl)) (mvT hZ100 (own_w hw 14 rfl)) (mvT hZ100 (own_w hw 3 rfl)) (mvT hZ100 (own_w hw 15 rfl)) (by decide) (backOf (W := 0) (rm43 l Z a0 hw [] d T100.heap n0 G1 P5 O100 Sc G3 rG3 Sf dg kd ex kx TB Z100 hd) hZ100 (own_w hw 15 rfl) (own_w hw 3 rfl) (by decide) (by decide)) (g := (mkF m 47 L_101 [(.int (0 : Int32)), (.long d), (.int (1 : Int32))])) rfl (by rw [hml]; rfl) (argsL := [(.int (1 : Int32)), (.long d), (.int (0 : Int32))]) (rest := []) (lenOf pd23 rfl) rfl (by show 2 * 0 + _ ≤ _; exact Nat.le_of_eq rfl) (hb hby at_47) (fun _ _ => ⟨rfl, rfl, (by decide : 2 + 2 ≤ _), (by decide : 12 + 6 ≤ _)⟩)
      dsimp only [Pt.U, Pt.locs, Pt.cells, Pt.slots] at X102 l102 y102 z102 st102 hQ102
      subst l102 y102 z102
      obtain ⟨sa102, sb102, sk102, rfl, Nq102, Kp102, Es102, Cs102, Ls102, Vs102⟩ := hQ102
      have N102 := Fr.app N100 Nq102
      have O102 := Old.keep O100 Kp102 all0
      have Z102 : n0 ≤ T102.heap.size := Nat.le_trans Z100 Kp102.1
      have Wd102 := Wd100.keep Kp102 all0
      refine own_cs [(.ref sa102)] 50 st102 ?_
      let L_103 : Array Slot := #[.val (.int p0), .val (.int p1), .val (.int (1 : Int32)), .val (.int (0 : Int32)), .val (.long d), .second, .val (.ref sa100), .val (.ref sa102), .unset, .unset, .unset]
      refine own_ls L_103 52 (fun _ q => XS.astore X102.here hx rfl (hb hby at_50) rfl rfl (l' := L_103) rfl q) ?_
      refine own_tp (.ref sa100) 54 (fun _ q => XS.aload X102.here hx rfl (hb hby at_52) rfl rfl q) ?_
      refine own_d1 57 (fun _ q => XS.ifnullNo X102.here hx rfl (hb hby at_54) rfl q) ?_
      refine own_tp (.ref sa102) 59 (fun _ q => XS.aload X102.here hx rfl (hb hby at_57) rfl rfl q) ?_
      refine own_d1 64 (fun _ q => XS.ifnonnullYes X102.here hx rfl (pc0 := 59) (pc' := 64) rfl (hb hby at_59) rfl (by decide) (by decide) q) ?_
      refine own_tp (.ref sa100) 66 (fun _ q => XS.aload X102.here hx rfl (hb hby at_64) rfl rfl q) ?_
      have f104 := (Es100.keep Kp102)
      have f105 := (Cs100.keep Kp102 nin0)
      have f106 := (Ls100.keep Kp102 nin0)
      have f107 := (Vs100.keep Kp102 nin0)
      obtain ⟨cq108, kq108, q108a, q108b, q108c⟩ := isOf hZ100 rfl f104
      obtain ⟨_, _, ⟨T108, L108, k108, n108⟩, -, X108, ⟨Lc108, hQ108, l108, y108, z108⟩, st108⟩ := X102.virtualBack hx (y := (⟨"java/lang/String", "length", "()I"⟩ : MethodName)) (z := (⟨"java/lang/String", "length", "()I"⟩ : MethodName)) hown100 (mvT hZ100 (own_w hw 42 rfl)) (mvT hZ100 (own_w hw 43 rfl)) (notFace_of_selects (args := #[]) (mvT hZ100 (own_w hw 45 rfl))) (mvT hZ100 (own_w hw 45 rfl)) (mvT hZ100 (own_w hw 44 rfl)) (by decide) (backOf (W := 0) (rm3 l Z a0 hw [] sa100 sb100 sk100 (2 : Int32) [(.int (45 : Int32)), (.int (48 : Int32))] T102.heap n0 G1 P5 O102 Sc f104 f105 f106 f107) hZ100 (own_w hw 46 rfl) (own_w hw 6 rfl) (by decide) (by decide)) q108a q108c (g := (mkF m 66 L_103 [(.ref sa100)])) rfl (by rw [hml]; rfl) (Steps.refl _) (argsL := []) (rest := []) (lenOf pd5 rfl) rfl (by show 2 * 0 + _ ≤ _; exact Nat.le_of_eq rfl) (hb hby at_66) (fun _ _ => ⟨rfl, rfl, (by decide : 4 + 0 ≤ _), (by decide : 18 + 0 ≤ _)⟩)
      dsimp only [Pt.U, Pt.locs, Pt.cells, Pt.slots] at X108 l108 y108 z108 st108 hQ108
      subst l108 y108 z108
      obtain ⟨rfl, Nq108, eq108⟩ := hQ108
      have N108 := Fr.app N102 Nq108
      refine own_csR [(.int (2 : Int32))] 69 st108 ?_
      let L_109 : Array Slot := #[.val (.int p0), .val (.int p1), .val (.int (1 : Int32)), .val (.int (0 : Int32)), .val (.long d), .second, .val (.ref sa100), .val (.ref sa102), .val (.int (2 : Int32)), .unset, .unset]
      refine own_ls L_109 71 (fun _ q => XS.istore X108.here hx rfl (hb hby at_69) rfl (l' := L_109) rfl q) ?_
      refine own_tp (.int (2 : Int32)) 73 (fun _ q => XS.iload X108.here hx rfl (hb hby at_71) rfl q) ?_
      refine own_tp (.ref sa102) 75 (fun _ q => XS.aload X108.here hx rfl (hb hby at_73) rfl rfl q) ?_
      obtain ⟨cq110, kq110, q110a, q110b, q110c⟩ := isOf hZ100 eq108 Es102
      obtain ⟨_, _, ⟨T110, L110, k110, n110⟩, -, X110, ⟨Lc110, hQ110, l110, y110, z110⟩, st110⟩ := X108.virtualBack hx (y := (⟨"java/lang/String", "length", "()I"⟩ : MethodName)) (z := (⟨"java/lang/String", "length", "()I"⟩ : MethodName)) hown100 (mvT hZ100 (own_w hw 42 rfl)) (mvT hZ100 (own_w hw 43 rfl)) (notFace_of_selects (args := #[]) (mvT hZ100 (own_w hw 45 rfl))) (mvT hZ100 (own_w hw 45 rfl)) (mvT hZ100 (own_w hw 44 rfl)) (by decide) (backOf (W := 1) (rm3 l Z a0 hw [] sa102 sb102 sk102 (2 : Int32) [(.int (45 : Int32)), (.int (nar .byte (own_dg d)))] T102.heap n0 G1 P5 O102 Sc Es102 Cs102 Ls102 Vs102) hZ100 (own_w hw 46 rfl) (own_w hw 6 rfl) (by decide) (by decide)) q110a q110c (g := (mkF m 75 L_109 [(.ref sa102), (.int (2 : Int32))])) rfl (by rw [hml]; rfl) (Steps.refl _) (argsL := []) (rest := [(.int (2 : Int32))]) (lenOf pd5 rfl) rfl (by show 2 * 0 + _ ≤ _; exact Nat.le_of_eq rfl) (hb hby at_75) (fun _ _ => ⟨rfl, eq108, (by decide : 4 + 0 ≤ _), (by decide : 18 + 0 ≤ _)⟩)
      dsimp only [Pt.U, Pt.locs, Pt.cells, Pt.slots] at X110 l110 y110 z110 st110 hQ110
      subst l110 y110 z110
      obtain ⟨rfl, Nq110, eq110⟩ := hQ110
      have N110 := Fr.app N108 Nq110
      refine own_csR [(.int (2 : Int32)), (.int (2 : Int32))] 78 st110 ?_
      refine own_d2 81 (fun _ q => XS.icmpNo X110.here hx rfl (hb hby at_78) rfl (teq (by decide : (2 : Int32) = (2 : Int32))).2 q) ?_
      refine own_tp (.int (2 : Int32)) 83 (fun _ q => XS.iload X110.here hx rfl (hb hby at_81) rfl q) ?_
      refine own_tp (.int (1 : Int32)) 84 (fun _ q => XS.iconst X110.here hx rfl (hb hby at_83) q) ?_
      refine own_d2 87 (fun _ q => XS.icmpNo X110.here hx rfl (hb hby at_84) rfl (flt (by decide : ¬ ((2 : Int32) < (1 : Int32)))).1 q) ?_
      refine own_tp (.int (2 : Int32)) 89 (fun _ q => XS.iload X110.here hx rfl (hb hby at_87) rfl q) ?_
      refine own_tp (.int (6 : Int32)) 91 (fun _ q => XS.bipush X110.here hx rfl (hb hby at_89) q) ?_
      refine own_d2 96 (fun _ q => XS.icmpYes X110.here hx rfl (pc0 := 91) (pc' := 96) rfl (hb hby at_91) rfl (flt (by decide : ¬ ((6 : Int32) < (2 : Int32)))).2.2.2 (by decide) (by decide) q) ?_
      refine own_tp (.int (1 : Int32)) 97 (fun _ q => XS.iloadN X110.here hx rfl (hb hby at_96) rfl q) ?_
      refine own_d1 100 (fun _ q => XS.ifNo X110.here hx rfl (hb hby at_97) rfl ((if0 _ _).trans (feq (by decide : ¬ ((1 : Int32) = (0 : Int32)))).1) q) ?_
      refine own_tp (.int (1 : Int32)) 101 (fun _ q => XS.iconst X110.here hx rfl (hb hby at_100) q) ?_
      refine own_d0 105 (fun _ q => XS.goto X110.here hx rfl (pc0 := 101) (pc' := 105) rfl (hb hby at_101) (by decide) (by decide) q) ?_
      let L_111 : Array Slot := #[.val (.int p0), .val (.int p1), .val (.int (1 : Int32)), .val (.int (0 : Int32)), .val (.long d), .second, .val (.ref sa100), .val (.ref sa102), .val (.int (2 : Int32)), .val (.int (1 : Int32)), .unset]
      refine own_ls L_111 107 (fun _ q => XS.istore X110.here hx rfl (hb hby at_105) rfl (l' := L_111) rfl q) ?_
      refine own_tp (.long (48 : Int64)) 110 (fun _ q => X110.ldc2Long hx hown100 (mvT hZ100 (own_w hw 53 rfl)) (g := (mkF m 107 L_111 [])) rfl (hb hby at_107) _ q) ?_
      refine own_tp (.long d) 112 (fun _ q => XS.lload X110.here hx rfl (hb hby at_110) rfl q) ?_
      refine own_t2 (.long ((48 : Int64) + d)) 113 (fun _ q => XS.ladd X110.here hx rfl (hb hby at_112) rfl q) ?_
      refine own_t1 (.int (((48 : Int64) + d).toInt32)) 114 (fun _ q => XS.l2i X110.here hx rfl (hb hby at_113) rfl q) ?_
      refine own_t1 (.int ((((48 : Int64) + d).toInt32).toUInt32.toUInt16.toUInt32.toInt32)) 115 (fun _ q => XS.i2c X110.here hx rfl (hb hby at_114) rfl q) ?_
      obtain ⟨dc, edc⟩ : ∃ z : Int32, ((((48 : Int64) + d).toInt32).toUInt32.toUInt16.toUInt32.toInt32) = z := ⟨_, rfl⟩
      rw [edc]
      let L_112 : Array Slot := #[.val (.int p0), .val (.int p1), .val (.int (1 : Int32)), .val (.int (0 : Int32)), .val (.long d), .second, .val (.ref sa100), .val (.ref sa102), .val (.int (2 : Int32)), .val (.int (1 : Int32)), .val (.int dc)]
      refine own_ls L_112 117 (fun _ q => XS.istore X110.here hx rfl (hb hby at_115) rfl (l' := L_112) rfl q) ?_
      refine own_tp (.ref sa100) 119 (fun _ q => XS.aload X110.here hx rfl (hb hby at_117) rfl rfl q) ?_
      refine own_tp (.ref sa102) 121 (fun _ q => XS.aload X110.here hx rfl (hb hby at_119) rfl rfl q) ?_
      refine own_tp (.int (0 : Int32)) 122 (fun _ q => XS.iconst X110.here hx rfl (hb hby at_121) q) ?_
      refine own_tp (.int (1 : Int32)) 124 (fun _ q => XS.iload X110.here hx rfl (hb hby at_122) rfl q) ?_
      refine own_tp (.int dc) 126 (fun _ q => XS.iload X110.here hx rfl (hb hby at_124) rfl q) ?_
      obtain ⟨_, _, ⟨T113, L113, k113, n113⟩, -, X113, ⟨Lc113, hQ113, l113, y113, z113⟩, st113⟩ := Jvm.LawKit.callS X110 hx (y := (⟨"com/example/unit_step/unitstep/FloatingPointLayoutWriteZeroPinLaw", "place", "(Ljava/lang/String;Ljava/lang/String;IIC)Z"⟩ : MethodName)) hown100 (mvT hZ100 (own_w hw 54 rfl)) (mvT hZ100 (own_w hw 55 rfl)) (mvT hZ100 (own_w hw 56 rfl)) (mvT hZ100 (own_w hw 57 rfl)) (by decide) (backOf (W := 0) (rm8 l Z a0 hw [] sa100 sb100 sk100 (2 : Int32) [(.int (45 : Int32)), (.int (48 : Int32))] sa102 sb102 sk102 [(.int (45 : Int32)), (.int (nar .byte (own_dg d)))] (0 : Int32) (1 : Int32) dc (45 : Int32) (45 : Int32) T102.heap n0 G1 P5 O102 Sc G3 rG3 Sf f104 f105 f106 f107 Es102 Cs102 Ls102 Vs102 (Or.inr ⟨by decide, by decide, rfl, rfl, Or.inr ⟨by decide, by decide⟩⟩)) hZ100 (own_w hw 57 rfl) (own_w hw 56 rfl) (by decide) (by decide)) (g := (mkF m 126 L_112 [(.int dc), (.int (1 : Int32)), (.int (0 : Int32)), (.ref sa102), (.ref sa100)])) rfl (by rw [hml]; rfl) (argsL := [(.ref sa100), (.ref sa102), (.int (0 : Int32)), (.int (1 : Int32)), (.int dc)]) (rest := []) (lenOf pd24 rfl) rfl (by show 2 * 0 + _ ≤ _; exact Nat.le_of_eq rfl) (hb hby at_126) (fun _ _ => ⟨rfl, eq110, (by decide : 4 + 0 ≤ _), (by decide : 18 + 0 ≤ _)⟩)
      dsimp only [Pt.U, Pt.locs, Pt.cells, Pt.slots] at X113 l113 y113 z113 st113 hQ113
      subst l113 y113 z113
      obtain ⟨rfl, Nq113, eq113⟩ := hQ113
      have N113 := Fr.app N110 Nq113
      refine own_cs [(.int (1 : Int32))] 129 st113 ?_
      refine own_d1 132 (fun _ q => XS.ifNo X113.here hx rfl (hb hby at_129) rfl ((if0 _ _).trans (feq (by decide : ¬ ((1 : Int32) = (0 : Int32)))).1) q) ?_
      refine own_tp (.ref sa100) 134 (fun _ q => XS.aload X113.here hx rfl (hb hby at_132) rfl rfl q) ?_
      refine own_tp (.ref sa102) 136 (fun _ q => XS.aload X113.here hx rfl (hb hby at_134) rfl rfl q) ?_
      refine own_tp (.int (1 : Int32)) 137 (fun _ q => XS.iconst X113.here hx rfl (hb hby at_136) q) ?_
      refine own_tp (.int (1 : Int32)) 139 (fun _ q => XS.iload X113.here hx rfl (hb hby at_137) rfl q) ?_
      refine own_tp (.int dc) 141 (fun _ q => XS.iload X113.here hx rfl (hb hby at_139) rfl q) ?_
      obtain ⟨_, _, ⟨T114, L114, k114, n114⟩, -, X114, ⟨Lc114, hQ114, l114, y114, z114⟩, st114⟩ := Jvm.LawKit.callS X113 hx (y := (⟨"com/example/unit_step/unitstep/FloatingPointLayoutWriteZeroPinLaw", "place", "(Ljava/lang/String;Ljava/lang/String;IIC)Z"⟩ : MethodName)) hown100 (mvT hZ100 (own_w hw 54 rfl)) (mvT hZ100 (own_w hw 55 rfl)) (mvT hZ100 (own_w hw 56 rfl)) (mvT hZ100 (own_w hw 57 rfl)) (by decide) (backOf (W := 0) (rm8 l Z a0 hw [] sa100 sb100 sk100 (2 : Int32) [(.int (45 : Int32)), (.int (48 : Int32))] sa102 sb102 sk102 [(.int (45 : Int32)), (.int (nar .byte (own_dg d)))] (1 : Int32) (1 : Int32) dc (48 : Int32) (nar .byte (own_dg d)) T102.heap n0 G1 P5 O102 Sc G3 rG3 Sf f104 f105 f106 f107 Es102 Cs102 Ls102 Vs102 (Or.inr ⟨by decide, by decide, rfl, rfl, Or.inl ⟨rfl, by decide, (own_hxB hd).trans edc⟩⟩)) hZ100 (own_w hw 57 rfl) (own_w hw 56 rfl) (by decide) (by decide)) (g := (mkF m 141 L_112 [(.int dc), (.int (1 : Int32)), (.int (1 : Int32)), (.ref sa102), (.ref sa100)])) rfl (by rw [hml]; rfl) (argsL := [(.ref sa100), (.ref sa102), (.int (1 : Int32)), (.int (1 : Int32)), (.int dc)]) (rest := []) (lenOf pd24 rfl) rfl (by show 2 * 0 + _ ≤ _; exact Nat.le_of_eq rfl) (hb hby at_141) (fun _ _ => ⟨rfl, eq113, (by decide : 4 + 0 ≤ _), (by decide : 18 + 0 ≤ _)⟩)
      dsimp only [Pt.U, Pt.locs, Pt.cells, Pt.slots] at X114 l114 y114 z114 st114 hQ114
      subst l114 y114 z114
      obtain ⟨rfl, Nq114, eq114⟩ := hQ114
      have N114 := Fr.app N113 Nq114
      refine own_cs [(.int (1 : Int32))] 144 st114 ?_
      refine own_d1 147 (fun _ q => XS.ifNo X114.here hx rfl (hb hby at_144) rfl ((if0 _ _).trans (feq (by decide : ¬ ((1 : Int32) = (0 : Int32)))).1) q) ?_
      refine own_tp (.ref sa100) 149 (fun _ q => XS.aload X114.here hx rfl (hb hby at_147) rfl rfl q) ?_
      refine own_tp (.ref sa102) 151 (fun _ q => XS.aload X114.here hx rfl (hb hby at_149) rfl rfl q) ?_
      refine own_tp (.int (2 : Int32)) 152 (fun _ q => XS.iconst X114.here hx rfl (hb hby at_151) q) ?_
      refine own_tp (.int (1 : Int32)) 154 (fun _ q => XS.iload X114.here hx rfl (hb hby at_152) rfl q) ?_
      refine own_tp (.int dc) 156 (fun _ q => XS.iload X114.here hx rfl (hb hby at_154) rfl q) ?_
      obtain ⟨_, _, ⟨T115, L115, k115, n115⟩, -, X115, ⟨Lc115, hQ115, l115, y115, z115⟩, st115⟩ := Jvm.LawKit.callS X114 hx (y := (⟨"com/example/unit_step/unitstep/FloatingPointLayoutWriteZeroPinLaw", "place", "(Ljava/lang/String;Ljava/lang/String;IIC)Z"⟩ : MethodName)) hown100 (mvT hZ100 (own_w hw 54 rfl)) (mvT hZ100 (own_w hw 55 rfl)) (mvT hZ100 (own_w hw 56 rfl)) (mvT hZ100 (own_w hw 57 rfl)) (by decide) (backOf (W := 0) (rm8 l Z a0 hw [] sa100 sb100 sk100 (2 : Int32) [(.int (45 : Int32)), (.int (48 : Int32))] sa102 sb102 sk102 [(.int (45 : Int32)), (.int (nar .byte (own_dg d)))] (2 : Int32) (1 : Int32) dc (0 : Int32) (0 : Int32) T102.heap n0 G1 P5 O102 Sc G3 rG3 Sf f104 f105 f106 f107 Es102 Cs102 Ls102 Vs102 (Or.inl (by decide))) hZ100 (own_w hw 57 rfl) (own_w hw 56 rfl) (by decide) (by decide)) (g := (mkF m 156 L_112 [(.int dc), (.int (1 : Int32)), (.int (2 : Int32)), (.ref sa102), (.ref sa100)])) rfl (by rw [hml]; rfl) (argsL := [(.ref sa100), (.ref sa102), (.int (2 : Int32)), (.int (1 : Int32)), (.int dc)]) (rest := []) (lenOf pd24 rfl) rfl (by show 2 * 0 + _ ≤ _; exact Nat.le_of_eq rfl) (hb hby at_156) (fun _ _ => ⟨rfl, eq114, (by decide : 4 + 0 ≤ _), (by decide : 18 + 0 ≤ _)⟩)
      dsimp only [Pt.U, Pt.locs, Pt.cells, Pt.slots] at X115 l115 y115 z115 st115 hQ115
      subst l115 y115 z115
      obtain ⟨rfl, Nq115, eq115⟩ := hQ115
      have N115 := Fr.app N114 Nq115
      refine own_cs [(.int (1 : Int32))] 159 st115 ?_
      refine own_d1 162 (fun _ q => XS.ifNo X115.here hx rfl (hb hby at_159) rfl ((if0 _ _).trans (feq (by decide : ¬ ((1 : Int32) = (0 : Int32)))).1) q) ?_
      refine own_tp (.ref sa100) 164 (fun _ q => XS.aload X115.here hx rfl (hb hby at_162) rfl rfl q) ?_
      refine own_tp (.ref sa102) 166 (fun _ q => XS.aload X115.here hx rfl (hb hby at_164) rfl rfl q) ?_
      refine own_tp (.int (3 : Int32)) 167 (fun _ q => XS.iconst X115.here hx rfl (hb hby at_166) q) ?_
      refine own_tp (.int (1 : Int32)) 169 (fun _ q => XS.iload X115.here hx rfl (hb hby at_167) rfl q) ?_
      refine own_tp (.int dc) 171 (fun _ q => XS.iload X115.here hx rfl (hb hby at_169) rfl q) ?_
      obtain ⟨_, _, ⟨T116, L116, k116, n116⟩, -, X116, ⟨Lc116, hQ116, l116, y116, z116⟩, st116⟩ := Jvm.LawKit.callS X115 hx (y := (⟨"com/example/unit_step/unitstep/FloatingPointLayoutWriteZeroPinLaw", "place", "(Ljava/lang/String;Ljava/lang/String;IIC)Z"⟩ : MethodName)) hown100 (mvT hZ100 (own_w hw 54 rfl)) (mvT hZ100 (own_w hw 55 rfl)) (mvT hZ100 (own_w hw 56 rfl)) (mvT hZ100 (own_w hw 57 rfl)) (by decide) (backOf (W := 0) (rm8 l Z a0 hw [] sa100 sb100 sk100 (2 : Int32) [(.int (45 : Int32)), (.int (48 : Int32))] sa102 sb102 sk102 [(.int (45 : Int32)), (.int (nar .byte (own_dg d)))] (3 : Int32) (1 : Int32) dc (0 : Int32) (0 : Int32) T102.heap n0 G1 P5 O102 Sc G3 rG3 Sf f104 f105 f106 f107 Es102 Cs102 Ls102 Vs102 (Or.inl (by decide))) hZ100 (own_w hw 57 rfl) (own_w hw 56 rfl) (by decide) (by decide)) (g := (mkF m 171 L_112 [(.int dc), (.int (1 : Int32)), (.int (3 : Int32)), (.ref sa102), (.ref sa100)])) rfl (by rw [hml]; rfl) (argsL := [(.ref sa100), (.ref sa102), (.int (3 : Int32)), (.int (1 : Int32)), (.int dc)]) (rest := []) (lenOf pd24 rfl) rfl (by show 2 * 0 + _ ≤ _; exact Nat.le_of_eq rfl) (hb hby at_171) (fun _ _ => ⟨rfl, eq115, (by decide : 4 + 0 ≤ _), (by decide : 18 + 0 ≤ _)⟩)
      dsimp only [Pt.U, Pt.locs, Pt.cells, Pt.slots] at X116 l116 y116 z116 st116 hQ116
      subst l116 y116 z116
      obtain ⟨rfl, Nq116, eq116⟩ := hQ116
      have N116 := Fr.app N115 Nq116
      refine own_cs [(.int (1 : Int32))] 174 st116 ?_
      refine own_d1 177 (fun _ q => XS.ifNo X116.here hx rfl (hb hby at_174) rfl ((if0 _ _).trans (feq (by decide : ¬ ((1 : Int32) = (0 : Int32)))).1) q) ?_
      refine own_tp (.ref sa100) 179 (fun _ q => XS.aload X116.here hx rfl (hb hby at_177) rfl rfl q) ?_
      refine own_tp (.ref sa102) 181 (fun _ q => XS.aload X116.here hx rfl (hb hby at_179) rfl rfl q) ?_
      refine own_tp (.int (4 : Int32)) 182 (fun _ q => XS.iconst X116.here hx rfl (hb hby at_181) q) ?_
      refine own_tp (.int (1 : Int32)) 184 (fun _ q => XS.iload X116.here hx rfl (hb hby at_182) rfl q) ?_
      refine own_tp (.int dc) 186 (fun _ q => XS.iload X116.here hx rfl (hb hby at_184) rfl q) ?_
      obtain ⟨_, _, ⟨T117, L117, k117, n117⟩, -, X117, ⟨Lc117, hQ117, l117, y117, z117⟩, st117⟩ := Jvm.LawKit.callS X116 hx (y := (⟨"com/example/unit_step/unitstep/FloatingPointLayoutWriteZeroPinLaw", "place", "(Ljava/lang/String;Ljava/lang/String;IIC)Z"⟩ : MethodName)) hown100 (mvT hZ100 (own_w hw 54 rfl)) (mvT hZ100 (own_w hw 55 rfl)) (mvT hZ100 (own_w hw 56 rfl)) (mvT hZ100 (own_w hw 57 rfl)) (by decide) (backOf (W := 0) (rm8 l Z a0 hw [] sa100 sb100 sk100 (2 : Int32) [(.int (45 : Int32)), (.int (48 : Int32))] sa102 sb102 sk102 [(.int (45 : Int32)), (.int (nar .byte (own_dg d)))] (4 : Int32) (1 : Int32) dc (0 : Int32) (0 : Int32) T102.heap n0 G1 P5 O102 Sc G3 rG3 Sf f104 f105 f106 f107 Es102 Cs102 Ls102 Vs102 (Or.inl (by decide))) hZ100 (own_w hw 57 rfl) (own_w hw 56 rfl) (by decide) (by decide)) (g := (mkF m 186 L_112 [(.int dc), (.int (1 : Int32)), (.int (4 : Int32)), (.ref sa102), (.ref sa100)])) rfl (by rw [hml]; rfl) (argsL := [(.ref sa100), (.ref sa102), (.int (4 : Int32)), (.int (1 : Int32)), (.int dc)]) (rest := []) (lenOf pd24 rfl) rfl (by show 2 * 0 + _ ≤ _; exact Nat.le_of_eq rfl) (hb hby at_186) (fun _ _ => ⟨rfl, eq116, (by decide : 4 + 0 ≤ _), (by decide : 18 + 0 ≤ _)⟩)
      dsimp only [Pt.U, Pt.locs, Pt.cells, Pt.slots] at X117 l117 y117 z117 st117 hQ117
      subst l117 y117 z117
      obtain ⟨rfl, Nq117, eq117⟩ := hQ117
      have N117 := Fr.app N116 Nq117
      refine own_cs [(.int (1 : Int32))] 189 st117 ?_
      refine own_d1 192 (fun _ q => XS.ifNo X117.here hx rfl (hb hby at_189) rfl ((if0 _ _).trans (feq (by decide : ¬ ((1 : Int32) = (0 : Int32)))).1) q) ?_
      refine own_tp (.ref sa100) 194 (fun _ q => XS.aload X117.here hx rfl (hb hby at_192) rfl rfl q) ?_
      refine own_tp (.ref sa102) 196 (fun _ q => XS.aload X117.here hx rfl (hb hby at_194) rfl rfl q) ?_
      refine own_tp (.int (5 : Int32)) 197 (fun _ q => XS.iconst X117.here hx rfl (hb hby at_196) q) ?_
      refine own_tp (.int (1 : Int32)) 199 (fun _ q => XS.iload X117.here hx rfl (hb hby at_197) rfl q) ?_
      refine own_tp (.int dc) 201 (fun _ q => XS.iload X117.here hx rfl (hb hby at_199) rfl q) ?_
      obtain ⟨_, _, ⟨T118, L118, k118, n118⟩, -, X118, ⟨Lc118, hQ118, l118, y118, z118⟩, st118⟩ := Jvm.LawKit.callS X117 hx (y := (⟨"com/example/unit_step/unitstep/FloatingPointLayoutWriteZeroPinLaw", "place", "(Ljava/lang/String;Ljava/lang/String;IIC)Z"⟩ : MethodName)) hown100 (mvT hZ100 (own_w hw 54 rfl)) (mvT hZ100 (own_w hw 55 rfl)) (mvT hZ100 (own_w hw 56 rfl)) (mvT hZ100 (own_w hw 57 rfl)) (by decide) (backOf (W := 0) (rm8 l Z a0 hw [] sa100 sb100 sk100 (2 : Int32) [(.int (45 : Int32)), (.int (48 : Int32))] sa102 sb102 sk102 [(.int (45 : Int32)), (.int (nar .byte (own_dg d)))] (5 : Int32) (1 : Int32) dc (0 : Int32) (0 : Int32) T102.heap n0 G1 P5 O102 Sc G3 rG3 Sf f104 f105 f106 f107 Es102 Cs102 Ls102 Vs102 (Or.inl (by decide))) hZ100 (own_w hw 57 rfl) (own_w hw 56 rfl) (by decide) (by decide)) (g := (mkF m 201 L_112 [(.int dc), (.int (1 : Int32)), (.int (5 : Int32)), (.ref sa102), (.ref sa100)])) rfl (by rw [hml]; rfl) (argsL := [(.ref sa100), (.ref sa102), (.int (5 : Int32)), (.int (1 : Int32)), (.int dc)]) (rest := []) (lenOf pd24 rfl) rfl (by show 2 * 0 + _ ≤ _; exact Nat.le_of_eq rfl) (hb hby at_201) (fun _ _ => ⟨rfl, eq117, (by decide : 4 + 0 ≤ _), (by decide : 18 + 0 ≤ _)⟩)
      dsimp only [Pt.U, Pt.locs, Pt.cells, Pt.slots] at X118 l118 y118 z118 st118 hQ118
      subst l118 y118 z118
      obtain ⟨rfl, Nq118, eq118⟩ := hQ118
      have N118 := Fr.app N117 Nq118
      refine own_cs [(.int (1 : Int32))] 204 st118 ?_
      refine own_d1 207 (fun _ q => XS.ifNo X118.here hx rfl (hb hby at_204) rfl ((if0 _ _).trans (feq (by decide : ¬ ((1 : Int32) = (0 : Int32)))).1) q) ?_
      refine own_tp (.int (1 : Int32)) 208 (fun _ q => XS.iconst X118.here hx rfl (hb hby at_207) q) ?_
      refine own_d0 212 (fun _ q => XS.goto X118.here hx rfl (pc0 := 208) (pc' := 212) rfl (hb hby at_208) (by decide) (by decide) q) ?_
      exact own_retNW (t := .boolean) X118 hx hrt (hb hby at_212) (by simp) hlk (by decide) (by decide) eq118 Wd102 (⟨rfl, N118⟩)
    ·
      refine own_d1 18 (fun _ q => XS.ifNo X0.here hx rfl (hb hby at_15) rfl ((if0 _ _).trans (feq c97).1) q) ?_
      refine own_tp (.int (1 : Int32)) 19 (fun _ q => XS.iconst X0.here hx rfl (hb hby at_18) q) ?_
      refine own_d0 23 (fun _ q => XS.goto X0.here hx rfl (pc0 := 19) (pc' := 23) rfl (hb hby at_19) (by decide) (by decide) q) ?_
      let L_119 : Array Slot := #[.val (.int p0), .val (.int p1), .val (.int (1 : Int32)), .val (.int (1 : Int32)), .unset, .unset, .unset, .unset, .unset, .unset, .unset]
      refine own_ls L_119 24 (fun _ q => XS.istoreN X0.here hx rfl (hb hby at_23) rfl (l' := L_119) rfl q) ?_
      refine own_tp (.int p1) 25 (fun _ q => XS.iloadN X0.here hx rfl (hb hby at_24) rfl q) ?_
      refine own_tp (.int (2147483647 : Int32)) 27 (fun _ q => X0.ldcInt hx hown (mvT hZ (own_w hw 0 rfl)) (g := (mkF m 25 L_119 [(.int p1)])) rfl (hb hby at_25) _ q) ?_
      refine own_t2 (.int (p1 &&& (2147483647 : Int32))) 28 (fun _ q => XS.iand X0.here hx rfl (hb hby at_27) rfl q) ?_
      refine own_tp (.int (9 : Int32)) 30 (fun _ q => XS.bipush X0.here hx rfl (hb hby at_28) q) ?_
      refine own_t2 (.int ((p1 &&& (2147483647 : Int32)) % (9 : Int32))) 31 (fun _ q => iremM (g := (mkF m 30 L_119 [(.int (9 : Int32)), (.int (p1 &&& (2147483647 : Int32)))])) X0 hx rfl (hb hby at_30) rfl (by decide) q) ?_
      refine own_tp (.int (1 : Int32)) 32 (fun _ q => XS.iconst X0.here hx rfl (hb hby at_31) q) ?_
      refine own_t2 (.int (((p1 &&& (2147483647 : Int32)) % (9 : Int32)) + (1 : Int32))) 33 (fun _ q => XS.iadd X0.here hx rfl (hb hby at_32) rfl q) ?_
      refine own_t1 (.long ((((p1 &&& (2147483647 : Int32)) % (9 : Int32)) + (1 : Int32)).toInt64)) 34 (fun _ q => XS.i2l X0.here hx rfl (hb hby at_33) rfl q) ?_
      obtain ⟨d, ed, hd⟩ : ∃ d : Int64, ((((p1 &&& (2147483647 : Int32)) % (9 : Int32)) + (1 : Int32)).toInt64) = d ∧ own_D d := ⟨_, rfl, own_9 p1⟩
      rw [ed]
      let L_120 : Array Slot := #[.val (.int p0), .val (.int p1), .val (.int (1 : Int32)), .val (.int (1 : Int32)), .val (.long d), .second, .unset, .unset, .unset, .unset, .unset]
      refine own_ls L_120 36 (fun _ q => XS.lstore X0.here hx rfl (hb hby at_34) rfl (l' := L_120) rfl q) ?_
      refine own_tp (.int (1 : Int32)) 37 (fun _ q => XS.iloadN X0.here hx rfl (hb hby at_36) rfl q) ?_
      refine own_tp (.int (1 : Int32)) 38 (fun _ q => XS.iloadN X0.here hx rfl (hb hby at_37) rfl q) ?_
      obtain ⟨_, _, ⟨T121, L121, k121, n121⟩, -, X121, hS121, -, ⟨Lc121, hQ121, l121, y121, z121, Ch121⟩, st121⟩ := callSS X0 hx (y := (⟨"com/example/unit_step/unitstep/FloatingPointLayout", "writeZero", "(ZZ)Ljava/lang/String;"⟩ : MethodName)) hown (mvT hZ (own_w hw 1 rfl)) (mvT hZ (own_w hw 2 rfl)) (mvT hZ (own_w hw 3 rfl)) (mvT hZ (own_w hw 4 rfl)) (by decide) (backOfSH (W := 0) (rm48 l Z a0 hw [] h0 n0 hE Z0 O0) hZ (own_w hw 4 rfl) (own_w hw 3 rfl) (by decide) (by decide) Wd0.hE Wd0.chv) (g := (mkF m 38 L_120 [(.int (1 : Int32)), (.int (1 : Int32))])) rfl (by rw [hml]; rfl) (argsL := [(.int (1 : Int32)), (.int (1 : Int32))]) (rest := []) (lenOf pd22 rfl) rfl (by show 2 * 0 + _ ≤ _; exact Nat.le_of_eq rfl) (hb hby at_38) (fun _ _ => ⟨rfl, e0, (by decide : 0 + 2 ≤ _), (by decide : 0 + 28 ≤ _)⟩)
      dsimp only [Pt.U, Pt.locs, Pt.cells, Pt.slots] at X121 l121 y121 z121 st121 hQ121 hS121 Ch121
      subst l121 y121 z121
      have Wd121 := own_Wd.call Wd0 hS121 Ch121
      have hZ121 : Z.Warmed39 (s.setVm T121.vm).vm := Wd121.hZ
      have hown121 : (s.setVm T121.vm).vm.findClass "com/example/unit_step/unitstep/FloatingPointLayoutWriteZeroPinLaw" = some m.cls := own_since_own hS121 hown
      have Y121 : Stand p l e room_1 (s.setVm T121.vm) m #[(.int p0), (.int p1)] below meth c T121 _ _ _ := X121
      obtain ⟨sa121, sb121, sk121, rfl, Nq121, Kp121, Es121, Cs121, Ls121, Vs121⟩ := hQ121
      have N121 := Fr.app N0 Nq121
      have O121 := Old.keep O0 Kp121 all0
      have Z121 : n0 ≤ T121.heap.size := Nat.le_trans Z0 Kp121.1
      refine own_csR [(.ref sa121)] 41 st121 ?_
      let L_122 : Array Slot := #[.val (.int p0), .val (.int p1), .val (.int (1 : Int32)), .val (.int (1 : Int32)), .val (.long d), .second, .val (.ref sa121), .unset, .unset, .unset, .unset]
      refine own_ls L_122 43 (fun _ q => XS.astore Y121.here hx rfl (hb hby at_41) rfl rfl (l' := L_122) rfl q) ?_
      refine own_tp (.int (1 : Int32)) 44 (fun _ q => XS.iloadN Y121.here hx rfl (hb hby at_43) rfl q) ?_
      refine own_tp (.long d) 46 (fun _ q => XS.lload Y121.here hx rfl (hb hby at_44) rfl q) ?_
      refine own_tp (.int (1 : Int32)) 47 (fun _ q => XS.iloadN Y121.here hx rfl (hb hby at_46) rfl q) ?_
      obtain ⟨_, _, ⟨T123, L123, k123, n123⟩, -, X123, ⟨Lc123, hQ123, l123, y123, z123⟩, st123⟩ := Jvm.LawKit.callS Y121 hx (y := (⟨"com/example/unit_step/unitstep/FloatingPointLayout", "writeWhole", "(ZJZ)Ljava/lang/String;"⟩ : MethodName)) hown121 (mvT hZ121 (own_w hw 13 rfl)) (mvT hZ121 (own_w hw 14 rfl)) (mvT hZ121 (own_w hw 3 rfl)) (mvT hZ121 (own_w hw 15 rfl)) (by decide) (backOf (W := 0) (rm44 l Z a0 hw [] d T121.heap n0 G1 P5 O121 Sc G3 rG3 Sf dg kd ex kx TB Z121 hd) hZ121 (own_w hw 15 rfl) (own_w hw 3 rfl) (by decide) (by decide)) (g := (mkF m 47 L_122 [(.int (1 : Int32)), (.long d), (.int (1 : Int32))])) rfl (by rw [hml]; rfl) (argsL := [(.int (1 : Int32)), (.long d), (.int (1 : Int32))]) (rest := []) (lenOf pd23 rfl) rfl (by show 2 * 0 + _ ≤ _; exact Nat.le_of_eq rfl) (hb hby at_47) (fun _ _ => ⟨rfl, rfl, (by decide : 2 + 3 ≤ _), (by decide : 28 + 16 ≤ _)⟩)
      dsimp only [Pt.U, Pt.locs, Pt.cells, Pt.slots] at X123 l123 y123 z123 st123 hQ123
      subst l123 y123 z123
      obtain ⟨sa123, sb123, sk123, rfl, Nq123, Kp123, Es123, Cs123, Ls123, Vs123⟩ := hQ123
      have N123 := Fr.app N121 Nq123
      have O123 := Old.keep O121 Kp123 all0
      have Z123 : n0 ≤ T123.heap.size := Nat.le_trans Z121 Kp123.1
      have Wd123 := Wd121.keep Kp123 all0
      refine own_cs [(.ref sa123)] 50 st123 ?_
      let L_124 : Array Slot := #[.val (.int p0), .val (.int p1), .val (.int (1 : Int32)), .val (.int (1 : Int32)), .val (.long d), .second, .val (.ref sa121), .val (.ref sa123), .unset, .unset, .unset]
      refine own_ls L_124 52 (fun _ q => XS.astore X123.here hx rfl (hb hby at_50) rfl rfl (l' := L_124) rfl q) ?_
      refine own_tp (.ref sa121) 54 (fun _ q => XS.aload X123.here hx rfl (hb hby at_52) rfl rfl q) ?_
      refine own_d1 57 (fun _ q => XS.ifnullNo X123.here hx rfl (hb hby at_54) rfl q) ?_
      refine own_tp (.ref sa123) 59 (fun _ q => XS.aload X123.here hx rfl (hb hby at_57) rfl rfl q) ?_
      refine own_d1 64 (fun _ q => XS.ifnonnullYes X123.here hx rfl (pc0 := 59) (pc' := 64) rfl (hb hby at_59) rfl (by decide) (by decide) q) ?_
      refine own_tp (.ref sa121) 66 (fun _ q => XS.aload X123.here hx rfl (hb hby at_64) rfl rfl q) ?_
      have f125 := (Es121.keep Kp123)
      have f126 := (Cs121.keep Kp123 nin0)
      have f127 := (Ls121.keep Kp123 nin0)
      have f128 := (Vs121.keep Kp123 nin0)
      obtain ⟨cq129, kq129, q129a, q129b, q129c⟩ := isOf hZ121 rfl f125
      obtain ⟨_, _, ⟨T129, L129, k129, n129⟩, -, X129, ⟨Lc129, hQ129, l129, y129, z129⟩, st129⟩ := X123.virtualBack hx (y := (⟨"java/lang/String", "length", "()I"⟩ : MethodName)) (z := (⟨"java/lang/String", "length", "()I"⟩ : MethodName)) hown121 (mvT hZ121 (own_w hw 42 rfl)) (mvT hZ121 (own_w hw 43 rfl)) (notFace_of_selects (args := #[]) (mvT hZ121 (own_w hw 45 rfl))) (mvT hZ121 (own_w hw 45 rfl)) (mvT hZ121 (own_w hw 44 rfl)) (by decide) (backOf (W := 0) (rm3 l Z a0 hw [] sa121 sb121 sk121 (6 : Int32) [(.int (45 : Int32)), (.int (48 : Int32)), (.int (46 : Int32)), (.int (48 : Int32)), (.int (69 : Int32)), (.int (48 : Int32))] T123.heap n0 G1 P5 O123 Sc f125 f126 f127 f128) hZ121 (own_w hw 46 rfl) (own_w hw 6 rfl) (by decide) (by decide)) q129a q129c (g := (mkF m 66 L_124 [(.ref sa121)])) rfl (by rw [hml]; rfl) (Steps.refl _) (argsL := []) (rest := []) (lenOf pd5 rfl) rfl (by show 2 * 0 + _ ≤ _; exact Nat.le_of_eq rfl) (hb hby at_66) (fun _ _ => ⟨rfl, rfl, (by decide : 5 + 0 ≤ _), (by decide : 44 + 0 ≤ _)⟩)
      dsimp only [Pt.U, Pt.locs, Pt.cells, Pt.slots] at X129 l129 y129 z129 st129 hQ129
      subst l129 y129 z129
      obtain ⟨rfl, Nq129, eq129⟩ := hQ129
      have N129 := Fr.app N123 Nq129
      refine own_csR [(.int (6 : Int32))] 69 st129 ?_
      let L_130 : Array Slot := #[.val (.int p0), .val (.int p1), .val (.int (1 : Int32)), .val (.int (1 : Int32)), .val (.long d), .second, .val (.ref sa121), .val (.ref sa123), .val (.int (6 : Int32)), .unset, .unset]
      refine own_ls L_130 71 (fun _ q => XS.istore X129.here hx rfl (hb hby at_69) rfl (l' := L_130) rfl q) ?_
      refine own_tp (.int (6 : Int32)) 73 (fun _ q => XS.iload X129.here hx rfl (hb hby at_71) rfl q) ?_
      refine own_tp (.ref sa123) 75 (fun _ q => XS.aload X129.here hx rfl (hb hby at_73) rfl rfl q) ?_
      obtain ⟨cq131, kq131, q131a, q131b, q131c⟩ := isOf hZ121 eq129 Es123
      obtain ⟨_, _, ⟨T131, L131, k131, n131⟩, -, X131, ⟨Lc131, hQ131, l131, y131, z131⟩, st131⟩ := X129.virtualBack hx (y := (⟨"java/lang/String", "length", "()I"⟩ : MethodName)) (z := (⟨"java/lang/String", "length", "()I"⟩ : MethodName)) hown121 (mvT hZ121 (own_w hw 42 rfl)) (mvT hZ121 (own_w hw 43 rfl)) (notFace_of_selects (args := #[]) (mvT hZ121 (own_w hw 45 rfl))) (mvT hZ121 (own_w hw 45 rfl)) (mvT hZ121 (own_w hw 44 rfl)) (by decide) (backOf (W := 1) (rm3 l Z a0 hw [] sa123 sb123 sk123 (6 : Int32) [(.int (45 : Int32)), (.int (((48 : Int32) + (d.toInt32)).toInt8.toInt32)), (.int (46 : Int32)), (.int (48 : Int32)), (.int (69 : Int32)), (.int (((48 : Int32) + (((0 : Int32).toInt64).toInt32)).toInt8.toInt32))] T123.heap n0 G1 P5 O123 Sc Es123 Cs123 Ls123 Vs123) hZ121 (own_w hw 46 rfl) (own_w hw 6 rfl) (by decide) (by decide)) q131a q131c (g := (mkF m 75 L_130 [(.ref sa123), (.int (6 : Int32))])) rfl (by rw [hml]; rfl) (Steps.refl _) (argsL := []) (rest := [(.int (6 : Int32))]) (lenOf pd5 rfl) rfl (by show 2 * 0 + _ ≤ _; exact Nat.le_of_eq rfl) (hb hby at_75) (fun _ _ => ⟨rfl, eq129, (by decide : 5 + 0 ≤ _), (by decide : 44 + 0 ≤ _)⟩)
      dsimp only [Pt.U, Pt.locs, Pt.cells, Pt.slots] at X131 l131 y131 z131 st131 hQ131
      subst l131 y131 z131
      obtain ⟨rfl, Nq131, eq131⟩ := hQ131
      have N131 := Fr.app N129 Nq131
      refine own_csR [(.int (6 : Int32)), (.int (6 : Int32))] 78 st131 ?_
      refine own_d2 81 (fun _ q => XS.icmpNo X131.here hx rfl (hb hby at_78) rfl (teq (by decide : (6 : Int32) = (6 : Int32))).2 q) ?_
      refine own_tp (.int (6 : Int32)) 83 (fun _ q => XS.iload X131.here hx rfl (hb hby at_81) rfl q) ?_
      refine own_tp (.int (1 : Int32)) 84 (fun _ q => XS.iconst X131.here hx rfl (hb hby at_83) q) ?_
      refine own_d2 87 (fun _ q => XS.icmpNo X131.here hx rfl (hb hby at_84) rfl (flt (by decide : ¬ ((6 : Int32) < (1 : Int32)))).1 q) ?_
      refine own_tp (.int (6 : Int32)) 89 (fun _ q => XS.iload X131.here hx rfl (hb hby at_87) rfl q) ?_
      refine own_tp (.int (6 : Int32)) 91 (fun _ q => XS.bipush X131.here hx rfl (hb hby at_89) q) ?_
      refine own_d2 96 (fun _ q => XS.icmpYes X131.here hx rfl (pc0 := 91) (pc' := 96) rfl (hb hby at_91) rfl (flt (by decide : ¬ ((6 : Int32) < (6 : Int32)))).2.2.2 (by decide) (by decide) q) ?_
      refine own_tp (.int (1 : Int32)) 97 (fun _ q => XS.iloadN X131.here hx rfl (hb hby at_96) rfl q) ?_
      refine own_d1 100 (fun _ q => XS.ifNo X131.here hx rfl (hb hby at_97) rfl ((if0 _ _).trans (feq (by decide : ¬ ((1 : Int32) = (0 : Int32)))).1) q) ?_
      refine own_tp (.int (1 : Int32)) 101 (fun _ q => XS.iconst X131.here hx rfl (hb hby at_100) q) ?_
      refine own_d0 105 (fun _ q => XS.goto X131.here hx rfl (pc0 := 101) (pc' := 105) rfl (hb hby at_101) (by decide) (by decide) q) ?_
      let L_132 : Array Slot := #[.val (.int p0), .val (.int p1), .val (.int (1 : Int32)), .val (.int (1 : Int32)), .val (.long d), .second, .val (.ref sa121), .val (.ref sa123), .val (.int (6 : Int32)), .val (.int (1 : Int32)), .unset]
      refine own_ls L_132 107 (fun _ q => XS.istore X131.here hx rfl (hb hby at_105) rfl (l' := L_132) rfl q) ?_
      refine own_tp (.long (48 : Int64)) 110 (fun _ q => X131.ldc2Long hx hown121 (mvT hZ121 (own_w hw 53 rfl)) (g := (mkF m 107 L_132 [])) rfl (hb hby at_107) _ q) ?_
      refine own_tp (.long d) 112 (fun _ q => XS.lload X131.here hx rfl (hb hby at_110) rfl q) ?_
      refine own_t2 (.long ((48 : Int64) + d)) 113 (fun _ q => XS.ladd X131.here hx rfl (hb hby at_112) rfl q) ?_
      refine own_t1 (.int (((48 : Int64) + d).toInt32)) 114 (fun _ q => XS.l2i X131.here hx rfl (hb hby at_113) rfl q) ?_
      refine own_t1 (.int ((((48 : Int64) + d).toInt32).toUInt32.toUInt16.toUInt32.toInt32)) 115 (fun _ q => XS.i2c X131.here hx rfl (hb hby at_114) rfl q) ?_
      obtain ⟨dc, edc⟩ : ∃ z : Int32, ((((48 : Int64) + d).toInt32).toUInt32.toUInt16.toUInt32.toInt32) = z := ⟨_, rfl⟩
      rw [edc]
      let L_133 : Array Slot := #[.val (.int p0), .val (.int p1), .val (.int (1 : Int32)), .val (.int (1 : Int32)), .val (.long d), .second, .val (.ref sa121), .val (.ref sa123), .val (.int (6 : Int32)), .val (.int (1 : Int32)), .val (.int dc)]
      refine own_ls L_133 117 (fun _ q => XS.istore X131.here hx rfl (hb hby at_115) rfl (l' := L_133) rfl q) ?_
      refine own_tp (.ref sa121) 119 (fun _ q => XS.aload X131.here hx rfl (hb hby at_117) rfl rfl q) ?_
      refine own_tp (.ref sa123) 121 (fun _ q => XS.aload X131.here hx rfl (hb hby at_119) rfl rfl q) ?_
      refine own_tp (.int (0 : Int32)) 122 (fun _ q => XS.iconst X131.here hx rfl (hb hby at_121) q) ?_
      refine own_tp (.int (1 : Int32)) 124 (fun _ q => XS.iload X131.here hx rfl (hb hby at_122) rfl q) ?_
      refine own_tp (.int dc) 126 (fun _ q => XS.iload X131.here hx rfl (hb hby at_124) rfl q) ?_
      obtain ⟨_, _, ⟨T134, L134, k134, n134⟩, -, X134, ⟨Lc134, hQ134, l134, y134, z134⟩, st134⟩ := Jvm.LawKit.callS X131 hx (y := (⟨"com/example/unit_step/unitstep/FloatingPointLayoutWriteZeroPinLaw", "place", "(Ljava/lang/String;Ljava/lang/String;IIC)Z"⟩ : MethodName)) hown121 (mvT hZ121 (own_w hw 54 rfl)) (mvT hZ121 (own_w hw 55 rfl)) (mvT hZ121 (own_w hw 56 rfl)) (mvT hZ121 (own_w hw 57 rfl)) (by decide) (backOf (W := 0) (rm8 l Z a0 hw [] sa121 sb121 sk121 (6 : Int32) [(.int (45 : Int32)), (.int (48 : Int32)), (.int (46 : Int32)), (.int (48 : Int32)), (.int (69 : Int32)), (.int (48 : Int32))] sa123 sb123 sk123 [(.int (45 : Int32)), (.int (((48 : Int32) + (d.toInt32)).toInt8.toInt32)), (.int (46 : Int32)), (.int (48 : Int32)), (.int (69 : Int32)), (.int (((48 : Int32) + (((0 : Int32).toInt64).toInt32)).toInt8.toInt32))] (0 : Int32) (1 : Int32) dc (45 : Int32) (45 : Int32) T123.heap n0 G1 P5 O123 Sc G3 rG3 Sf f125 f126 f127 f128 Es123 Cs123 Ls123 Vs123 (Or.inr ⟨by decide, by decide, rfl, rfl, Or.inr ⟨by decide, by decide⟩⟩)) hZ121 (own_w hw 57 rfl) (own_w hw 56 rfl) (by decide) (by decide)) (g := (mkF m 126 L_133 [(.int dc), (.int (1 : Int32)), (.int (0 : Int32)), (.ref sa123), (.ref sa121)])) rfl (by rw [hml]; rfl) (argsL := [(.ref sa121), (.ref sa123), (.int (0 : Int32)), (.int (1 : Int32)), (.int dc)]) (rest := []) (lenOf pd24 rfl) rfl (by show 2 * 0 + _ ≤ _; exact Nat.le_of_eq rfl) (hb hby at_126) (fun _ _ => ⟨rfl, eq131, (by decide : 5 + 0 ≤ _), (by decide : 44 + 0 ≤ _)⟩)
      dsimp only [Pt.U, Pt.locs, Pt.cells, Pt.slots] at X134 l134 y134 z134 st134 hQ134
      subst l134 y134 z134
      obtain ⟨rfl, Nq134, eq134⟩ := hQ134
      have N134 := Fr.app N131 Nq134
      refine own_cs [(.int (1 : Int32))] 129 st134 ?_
      refine own_d1 132 (fun _ q => XS.ifNo X134.here hx rfl (hb hby at_129) rfl ((if0 _ _).trans (feq (by decide : ¬ ((1 : Int32) = (0 : Int32)))).1) q) ?_
      refine own_tp (.ref sa121) 134 (fun _ q => XS.aload X134.here hx rfl (hb hby at_132) rfl rfl q) ?_
      refine own_tp (.ref sa123) 136 (fun _ q => XS.aload X134.here hx rfl (hb hby at_134) rfl rfl q) ?_
      refine own_tp (.int (1 : Int32)) 137 (fun _ q => XS.iconst X134.here hx rfl (hb hby at_136) q) ?_
      refine own_tp (.int (1 : Int32)) 139 (fun _ q => XS.iload X134.here hx rfl (hb hby at_137) rfl q) ?_
      refine own_tp (.int dc) 141 (fun _ q => XS.iload X134.here hx rfl (hb hby at_139) rfl q) ?_
      obtain ⟨_, _, ⟨T135, L135, k135, n135⟩, -, X135, ⟨Lc135, hQ135, l135, y135, z135⟩, st135⟩ := Jvm.LawKit.callS X134 hx (y := (⟨"com/example/unit_step/unitstep/FloatingPointLayoutWriteZeroPinLaw", "place", "(Ljava/lang/String;Ljava/lang/String;IIC)Z"⟩ : MethodName)) hown121 (mvT hZ121 (own_w hw 54 rfl)) (mvT hZ121 (own_w hw 55 rfl)) (mvT hZ121 (own_w hw 56 rfl)) (mvT hZ121 (own_w hw 57 rfl)) (by decide) (backOf (W := 0) (rm8 l Z a0 hw [] sa121 sb121 sk121 (6 : Int32) [(.int (45 : Int32)), (.int (48 : Int32)), (.int (46 : Int32)), (.int (48 : Int32)), (.int (69 : Int32)), (.int (48 : Int32))] sa123 sb123 sk123 [(.int (45 : Int32)), (.int (((48 : Int32) + (d.toInt32)).toInt8.toInt32)), (.int (46 : Int32)), (.int (48 : Int32)), (.int (69 : Int32)), (.int (((48 : Int32) + (((0 : Int32).toInt64).toInt32)).toInt8.toInt32))] (1 : Int32) (1 : Int32) dc (48 : Int32) (((48 : Int32) + (d.toInt32)).toInt8.toInt32) T123.heap n0 G1 P5 O123 Sc G3 rG3 Sf f125 f126 f127 f128 Es123 Cs123 Ls123 Vs123 (Or.inr ⟨by decide, by decide, rfl, rfl, Or.inl ⟨rfl, by decide, (own_hxA hd).trans edc⟩⟩)) hZ121 (own_w hw 57 rfl) (own_w hw 56 rfl) (by decide) (by decide)) (g := (mkF m 141 L_133 [(.int dc), (.int (1 : Int32)), (.int (1 : Int32)), (.ref sa123), (.ref sa121)])) rfl (by rw [hml]; rfl) (argsL := [(.ref sa121), (.ref sa123), (.int (1 : Int32)), (.int (1 : Int32)), (.int dc)]) (rest := []) (lenOf pd24 rfl) rfl (by show 2 * 0 + _ ≤ _; exact Nat.le_of_eq rfl) (hb hby at_141) (fun _ _ => ⟨rfl, eq134, (by decide : 5 + 0 ≤ _), (by decide : 44 + 0 ≤ _)⟩)
      dsimp only [Pt.U, Pt.locs, Pt.cells, Pt.slots] at X135 l135 y135 z135 st135 hQ135
      subst l135 y135 z135
      obtain ⟨rfl, Nq135, eq135⟩ := hQ135
      have N135 := Fr.app N134 Nq135
      refine own_cs [(.int (1 : Int32))] 144 st135 ?_
      refine own_d1 147 (fun _ q => XS.ifNo X135.here hx rfl (hb hby at_144) rfl ((if0 _ _).trans (feq (by decide : ¬ ((1 : Int32) = (0 : Int32)))).1) q) ?_
      refine own_tp (.ref sa121) 149 (fun _ q => XS.aload X135.here hx rfl (hb hby at_147) rfl rfl q) ?_
      refine own_tp (.ref sa123) 151 (fun _ q => XS.aload X135.here hx rfl (hb hby at_149) rfl rfl q) ?_
      refine own_tp (.int (2 : Int32)) 152 (fun _ q => XS.iconst X135.here hx rfl (hb hby at_151) q) ?_
      refine own_tp (.int (1 : Int32)) 154 (fun _ q => XS.iload X135.here hx rfl (hb hby at_152) rfl q) ?_
      refine own_tp (.int dc) 156 (fun _ q => XS.iload X135.here hx rfl (hb hby at_154) rfl q) ?_
      obtain ⟨_, _, ⟨T136, L136, k136, n136⟩, -, X136, ⟨Lc136, hQ136, l136, y136, z136⟩, st136⟩ := Jvm.LawKit.callS X135 hx (y := (⟨"com/example/unit_step/unitstep/FloatingPointLayoutWriteZeroPinLaw", "place", "(Ljava/lang/String;Ljava/lang/String;IIC)Z"⟩ : MethodName)) hown121 (mvT hZ121 (own_w hw 54 rfl)) (mvT hZ121 (own_w hw 55 rfl)) (mvT hZ121 (own_w hw 56 rfl)) (mvT hZ121 (own_w hw 57 rfl)) (by decide) (backOf (W := 0) (rm8 l Z a0 hw [] sa121 sb121 sk121 (6 : Int32) [(.int (45 : Int32)), (.int (48 : Int32)), (.int (46 : Int32)), (.int (48 : Int32)), (.int (69 : Int32)), (.int (48 : Int32))] sa123 sb123 sk123 [(.int (45 : Int32)), (.int (((48 : Int32) + (d.toInt32)).toInt8.toInt32)), (.int (46 : Int32)), (.int (48 : Int32)), (.int (69 : Int32)), (.int (((48 : Int32) + (((0 : Int32).toInt64).toInt32)).toInt8.toInt32))] (2 : Int32) (1 : Int32) dc (46 : Int32) (46 : Int32) T123.heap n0 G1 P5 O123 Sc G3 rG3 Sf f125 f126 f127 f128 Es123 Cs123 Ls123 Vs123 (Or.inr ⟨by decide, by decide, rfl, rfl, Or.inr ⟨by decide, by decide⟩⟩)) hZ121 (own_w hw 57 rfl) (own_w hw 56 rfl) (by decide) (by decide)) (g := (mkF m 156 L_133 [(.int dc), (.int (1 : Int32)), (.int (2 : Int32)), (.ref sa123), (.ref sa121)])) rfl (by rw [hml]; rfl) (argsL := [(.ref sa121), (.ref sa123), (.int (2 : Int32)), (.int (1 : Int32)), (.int dc)]) (rest := []) (lenOf pd24 rfl) rfl (by show 2 * 0 + _ ≤ _; exact Nat.le_of_eq rfl) (hb hby at_156) (fun _ _ => ⟨rfl, eq135, (by decide : 5 + 0 ≤ _), (by decide : 44 + 0 ≤ _)⟩)
      dsimp only [Pt.U, Pt.locs, Pt.cells, Pt.slots] at X136 l136 y136 z136 st136 hQ136
      subst l136 y136 z136
      obtain ⟨rfl, Nq136, eq136⟩ := hQ136
      have N136 := Fr.app N135 Nq136
      refine own_cs [(.int (1 : Int32))] 159 st136 ?_
      refine own_d1 162 (fun _ q => XS.ifNo X136.here hx rfl (hb hby at_159) rfl ((if0 _ _).trans (feq (by decide : ¬ ((1 : Int32) = (0 : Int32)))).1) q) ?_
      refine own_tp (.ref sa121) 164 (fun _ q => XS.aload X136.here hx rfl (hb hby at_162) rfl rfl q) ?_
      refine own_tp (.ref sa123) 166 (fun _ q => XS.aload X136.here hx rfl (hb hby at_164) rfl rfl q) ?_
      refine own_tp (.int (3 : Int32)) 167 (fun _ q => XS.iconst X136.here hx rfl (hb hby at_166) q) ?_
      refine own_tp (.int (1 : Int32)) 169 (fun _ q => XS.iload X136.here hx rfl (hb hby at_167) rfl q) ?_
      refine own_tp (.int dc) 171 (fun _ q => XS.iload X136.here hx rfl (hb hby at_169) rfl q) ?_
      obtain ⟨_, _, ⟨T137, L137, k137, n137⟩, -, X137, ⟨Lc137, hQ137, l137, y137, z137⟩, st137⟩ := Jvm.LawKit.callS X136 hx (y := (⟨"com/example/unit_step/unitstep/FloatingPointLayoutWriteZeroPinLaw", "place", "(Ljava/lang/String;Ljava/lang/String;IIC)Z"⟩ : MethodName)) hown121 (mvT hZ121 (own_w hw 54 rfl)) (mvT hZ121 (own_w hw 55 rfl)) (mvT hZ121 (own_w hw 56 rfl)) (mvT hZ121 (own_w hw 57 rfl)) (by decide) (backOf (W := 0) (rm8 l Z a0 hw [] sa121 sb121 sk121 (6 : Int32) [(.int (45 : Int32)), (.int (48 : Int32)), (.int (46 : Int32)), (.int (48 : Int32)), (.int (69 : Int32)), (.int (48 : Int32))] sa123 sb123 sk123 [(.int (45 : Int32)), (.int (((48 : Int32) + (d.toInt32)).toInt8.toInt32)), (.int (46 : Int32)), (.int (48 : Int32)), (.int (69 : Int32)), (.int (((48 : Int32) + (((0 : Int32).toInt64).toInt32)).toInt8.toInt32))] (3 : Int32) (1 : Int32) dc (48 : Int32) (48 : Int32) T123.heap n0 G1 P5 O123 Sc G3 rG3 Sf f125 f126 f127 f128 Es123 Cs123 Ls123 Vs123 (Or.inr ⟨by decide, by decide, rfl, rfl, Or.inr ⟨by decide, by decide⟩⟩)) hZ121 (own_w hw 57 rfl) (own_w hw 56 rfl) (by decide) (by decide)) (g := (mkF m 171 L_133 [(.int dc), (.int (1 : Int32)), (.int (3 : Int32)), (.ref sa123), (.ref sa121)])) rfl (by rw [hml]; rfl) (argsL := [(.ref sa121), (.ref sa123), (.int (3 : Int32)), (.int (1 : Int32)), (.int dc)]) (rest := []) (lenOf pd24 rfl) rfl (by show 2 * 0 + _ ≤ _; exact Nat.le_of_eq rfl) (hb hby at_171) (fun _ _ => ⟨rfl, eq136, (by decide : 5 + 0 ≤ _), (by decide : 44 + 0 ≤ _)⟩)
      dsimp only [Pt.U, Pt.locs, Pt.cells, Pt.slots] at X137 l137 y137 z137 st137 hQ137
      subst l137 y137 z137
      obtain ⟨rfl, Nq137, eq137⟩ := hQ137
      have N137 := Fr.app N136 Nq137
      refine own_cs [(.int (1 : Int32))] 174 st137 ?_
      refine own_d1 177 (fun _ q => XS.ifNo X137.here hx rfl (hb hby at_174) rfl ((if0 _ _).trans (feq (by decide : ¬ ((1 : Int32) = (0 : Int32)))).1) q) ?_
      refine own_tp (.ref sa121) 179 (fun _ q => XS.aload X137.here hx rfl (hb hby at_177) rfl rfl q) ?_
      refine own_tp (.ref sa123) 181 (fun _ q => XS.aload X137.here hx rfl (hb hby at_179) rfl rfl q) ?_
      refine own_tp (.int (4 : Int32)) 182 (fun _ q => XS.iconst X137.here hx rfl (hb hby at_181) q) ?_
      refine own_tp (.int (1 : Int32)) 184 (fun _ q => XS.iload X137.here hx rfl (hb hby at_182) rfl q) ?_
      refine own_tp (.int dc) 186 (fun _ q => XS.iload X137.here hx rfl (hb hby at_184) rfl q) ?_
      obtain ⟨_, _, ⟨T138, L138, k138, n138⟩, -, X138, ⟨Lc138, hQ138, l138, y138, z138⟩, st138⟩ := Jvm.LawKit.callS X137 hx (y := (⟨"com/example/unit_step/unitstep/FloatingPointLayoutWriteZeroPinLaw", "place", "(Ljava/lang/String;Ljava/lang/String;IIC)Z"⟩ : MethodName)) hown121 (mvT hZ121 (own_w hw 54 rfl)) (mvT hZ121 (own_w hw 55 rfl)) (mvT hZ121 (own_w hw 56 rfl)) (mvT hZ121 (own_w hw 57 rfl)) (by decide) (backOf (W := 0) (rm8 l Z a0 hw [] sa121 sb121 sk121 (6 : Int32) [(.int (45 : Int32)), (.int (48 : Int32)), (.int (46 : Int32)), (.int (48 : Int32)), (.int (69 : Int32)), (.int (48 : Int32))] sa123 sb123 sk123 [(.int (45 : Int32)), (.int (((48 : Int32) + (d.toInt32)).toInt8.toInt32)), (.int (46 : Int32)), (.int (48 : Int32)), (.int (69 : Int32)), (.int (((48 : Int32) + (((0 : Int32).toInt64).toInt32)).toInt8.toInt32))] (4 : Int32) (1 : Int32) dc (69 : Int32) (69 : Int32) T123.heap n0 G1 P5 O123 Sc G3 rG3 Sf f125 f126 f127 f128 Es123 Cs123 Ls123 Vs123 (Or.inr ⟨by decide, by decide, rfl, rfl, Or.inr ⟨by decide, by decide⟩⟩)) hZ121 (own_w hw 57 rfl) (own_w hw 56 rfl) (by decide) (by decide)) (g := (mkF m 186 L_133 [(.int dc), (.int (1 : Int32)), (.int (4 : Int32)), (.ref sa123), (.ref sa121)])) rfl (by rw [hml]; rfl) (argsL := [(.ref sa121), (.ref sa123), (.int (4 : Int32)), (.int (1 : Int32)), (.int dc)]) (rest := []) (lenOf pd24 rfl) rfl (by show 2 * 0 + _ ≤ _; exact Nat.le_of_eq rfl) (hb hby at_186) (fun _ _ => ⟨rfl, eq137, (by decide : 5 + 0 ≤ _), (by decide : 44 + 0 ≤ _)⟩)
      dsimp only [Pt.U, Pt.locs, Pt.cells, Pt.slots] at X138 l138 y138 z138 st138 hQ138
      subst l138 y138 z138
      obtain ⟨rfl, Nq138, eq138⟩ := hQ138
      have N138 := Fr.app N137 Nq138
      refine own_cs [(.int (1 : Int32))] 189 st138 ?_
      refine own_d1 192 (fun _ q => XS.ifNo X138.here hx rfl (hb hby at_189) rfl ((if0 _ _).trans (feq (by decide : ¬ ((1 : Int32) = (0 : Int32)))).1) q) ?_
      refine own_tp (.ref sa121) 194 (fun _ q => XS.aload X138.here hx rfl (hb hby at_192) rfl rfl q) ?_
      refine own_tp (.ref sa123) 196 (fun _ q => XS.aload X138.here hx rfl (hb hby at_194) rfl rfl q) ?_
      refine own_tp (.int (5 : Int32)) 197 (fun _ q => XS.iconst X138.here hx rfl (hb hby at_196) q) ?_
      refine own_tp (.int (1 : Int32)) 199 (fun _ q => XS.iload X138.here hx rfl (hb hby at_197) rfl q) ?_
      refine own_tp (.int dc) 201 (fun _ q => XS.iload X138.here hx rfl (hb hby at_199) rfl q) ?_
      obtain ⟨_, _, ⟨T139, L139, k139, n139⟩, -, X139, ⟨Lc139, hQ139, l139, y139, z139⟩, st139⟩ := Jvm.LawKit.callS X138 hx (y := (⟨"com/example/unit_step/unitstep/FloatingPointLayoutWriteZeroPinLaw", "place", "(Ljava/lang/String;Ljava/lang/String;IIC)Z"⟩ : MethodName)) hown121 (mvT hZ121 (own_w hw 54 rfl)) (mvT hZ121 (own_w hw 55 rfl)) (mvT hZ121 (own_w hw 56 rfl)) (mvT hZ121 (own_w hw 57 rfl)) (by decide) (backOf (W := 0) (rm8 l Z a0 hw [] sa121 sb121 sk121 (6 : Int32) [(.int (45 : Int32)), (.int (48 : Int32)), (.int (46 : Int32)), (.int (48 : Int32)), (.int (69 : Int32)), (.int (48 : Int32))] sa123 sb123 sk123 [(.int (45 : Int32)), (.int (((48 : Int32) + (d.toInt32)).toInt8.toInt32)), (.int (46 : Int32)), (.int (48 : Int32)), (.int (69 : Int32)), (.int (((48 : Int32) + (((0 : Int32).toInt64).toInt32)).toInt8.toInt32))] (5 : Int32) (1 : Int32) dc (48 : Int32) (((48 : Int32) + (((0 : Int32).toInt64).toInt32)).toInt8.toInt32) T123.heap n0 G1 P5 O123 Sc G3 rG3 Sf f125 f126 f127 f128 Es123 Cs123 Ls123 Vs123 (Or.inr ⟨by decide, by decide, rfl, rfl, Or.inr ⟨by decide, by decide⟩⟩)) hZ121 (own_w hw 57 rfl) (own_w hw 56 rfl) (by decide) (by decide)) (g := (mkF m 201 L_133 [(.int dc), (.int (1 : Int32)), (.int (5 : Int32)), (.ref sa123), (.ref sa121)])) rfl (by rw [hml]; rfl) (argsL := [(.ref sa121), (.ref sa123), (.int (5 : Int32)), (.int (1 : Int32)), (.int dc)]) (rest := []) (lenOf pd24 rfl) rfl (by show 2 * 0 + _ ≤ _; exact Nat.le_of_eq rfl) (hb hby at_201) (fun _ _ => ⟨rfl, eq138, (by decide : 5 + 0 ≤ _), (by decide : 44 + 0 ≤ _)⟩)
      dsimp only [Pt.U, Pt.locs, Pt.cells, Pt.slots] at X139 l139 y139 z139 st139 hQ139
      subst l139 y139 z139
      obtain ⟨rfl, Nq139, eq139⟩ := hQ139
      have N139 := Fr.app N138 Nq139
      refine own_cs [(.int (1 : Int32))] 204 st139 ?_
      refine own_d1 207 (fun _ q => XS.ifNo X139.here hx rfl (hb hby at_204) rfl ((if0 _ _).trans (feq (by decide : ¬ ((1 : Int32) = (0 : Int32)))).1) q) ?_
      refine own_tp (.int (1 : Int32)) 208 (fun _ q => XS.iconst X139.here hx rfl (hb hby at_207) q) ?_
      refine own_d0 212 (fun _ q => XS.goto X139.here hx rfl (pc0 := 208) (pc' := 212) rfl (hb hby at_208) (by decide) (by decide) q) ?_
      exact own_retNW (t := .boolean) X139 hx hrt (hb hby at_212) (by simp) hlk (by decide) (by decide) eq139 Wd123 (⟨rfl, N139⟩)

set_option maxRecDepth 65536 in
set_option maxHeartbeats 40000000 in
theorem comes_1 {Post : Tables → Env → Array Value → State → Outcome → State → Prop} (hpost : ∀ tb e args s v u, (limb_1_1.after args s (.returned v) u = true ∧ limb_1_2.after args s (.returned v) u = true ∧ True) → ReturnedEndW s (.returned v) u (Jvm.fieldLocs frame_1_writes args s ++ Jvm.arrayLocs frame_1_arrays args s ++ Jvm.staticLocs frame_1_statics s) 24 4224 → Post tb e args s (.returned v) u) :
    ArmFor flags0 classFile x code maxLocals ret World_1 tables_1 room_1 Calls_1 rest_1 Pre_1 Post := by
  intro l hfl _ _ p e ha hc hk s m args below hf hA hF happ hP
  obtain ⟨hcalls, hrest, hpre⟩ := hP
  obtain ⟨-, -, -, hnamed, -, -, -, hat⟩ := (Spec.applies_iff hf).mp happ
  obtain ⟨hg, hn⟩ := and_e (Cond.before_iff.mp (show (Jvm.Cond.and given_1 narrow_1).before args s = true from hpre))
  obtain ⟨hcount, hg0⟩ := and_e hg
  obtain ⟨hv0, hg1⟩ := and_e hg0
  obtain ⟨w0, w1, rfl⟩ : ∃ w0 w1 : Value, args = #[w0, w1] := by
    have hs : args.size = 2 := by simpa [Cond.value, given_1] using hcount
    obtain ⟨L⟩ := args
    match L, hs with
    | [w0, w1], _ => exact ⟨w0, w1, rfl⟩
  have hw := fun d (hd : d ∈ tables_1) => atoms_spec (ws := Jvm.Cond.code x code maxLocals ret :: tables_1) hat d (List.mem_cons_of_mem _ hd)
  have hfit : Fit s := fun {y c} hc i hi => by
    obtain ⟨ha, rfl⟩ := Array.getElem?_eq_some_iff.mp hc
    have q := List.all_eq_true.mp ((Array.all_eq_true_iff_forall_mem.mp hF) _ (Array.getElem_mem ha)) i (List.mem_range.mpr hi)
    simpa [Array.getElem?_eq_getElem hi] using q
  obtain ⟨i0, ei0⟩ := is_v hv0
  obtain rfl : w0 = (.int i0) := Option.some.inj ei0
  obtain ⟨i1, ei1⟩ := is_v hg1
  obtain rfl : w1 = (.int i1) := Option.some.inj ei1
  obtain ⟨hsets, hown0⟩ := atoms_of _ (rest_1_c_eq ▸ (show rest_1_c.before _ s = true from hrest))
  obtain ⟨G1, eG1⟩ := is_v (Cond.before_iff.mp (hsets _ (List.mem_of_getElem? (i := 1) rfl)))
  have Sc : Sta s s.heap "java/lang/String" "COMPACT_STRINGS" "Z" (.int G1) := Sta.start eG1 (Or.inl (hsets _ (List.mem_of_getElem? (i := 0) rfl)))
  have P5 : ¬ (G1 = (0 : Int32)) := gotF (Cond.eq_ints eG1 (Term.int_eval (0))) (not_v (Cond.before_iff.mp (hsets _ (List.mem_of_getElem? (i := 2) rfl))))
  have hE : EW s _ own_EL := EW.cons (own_w hw 142 rfl) (by decide) (EW.cons (own_w hw 80 rfl) (by decide) (EW.cons (own_w hw 141 rfl) (by decide) (EW.cons (own_w hw 5 rfl) (by decide) (EW.nil))))
  have hC : CHv s own_EL s.vm s.heap := CHv.start hE (fun p hp => by first | exact hcalls.1 p hp | exact hcalls.1 p ((by decide +kernel : ∀ p ∈ own_EL, p ∈ consts_1) p hp)) (hsets _ (List.mem_of_getElem? (i := 2) rfl)) (own_w hw 8 rfl) (own_w hw 7 rfl)
  obtain ⟨G3, eG3, rG3⟩ := isR_v (Cond.before_iff.mp (hsets _ (List.mem_of_getElem? (i := 8) rfl)))
  have Sf : Sta s s.heap "jdk/internal/util/Preconditions" "SIOOBE_FORMATTER" "Ljava/util/function/BiFunction;" G3 := Sta.start eG3 (Or.inl (hsets _ (List.mem_of_getElem? (i := 7) rfl)))
  obtain ⟨dg, kd, vd, Vd⟩ := own_dgt (T := (Term.static "java/lang/Integer" "DigitOnes" "[B")) (fun _ => by simp only [Term.eval]) hfit (hsets _ (List.mem_of_getElem? (i := 12) rfl)) (hsets _ (List.mem_of_getElem? (i := 13) rfl)) (hsets _ (List.mem_of_getElem? (i := 14) rfl)) (own_w hw 8 rfl)
  have Sd : Sta s s.heap "java/lang/Integer" "DigitOnes" "[B" (.ref dg) := Sta.start vd (Or.inl (hsets _ (List.mem_of_getElem? (i := 11) rfl)))
  obtain ⟨na, hn⟩ := and_e hn
  obtain ⟨nl, hn⟩ := and_e hn
  obtain ⟨n0, hn⟩ := and_e hn
  obtain ⟨n1, hn⟩ := and_e hn
  obtain ⟨n2, hn⟩ := and_e hn
  obtain ⟨n3, hn⟩ := and_e hn
  obtain ⟨n4, hn⟩ := and_e hn
  obtain ⟨n5, hn⟩ := and_e hn
  obtain ⟨n6, hn⟩ := and_e hn
  obtain ⟨n7, hn⟩ := and_e hn
  obtain ⟨n8, hn⟩ := and_e hn
  obtain ⟨n9, hn⟩ := and_e hn
  obtain ⟨n10, hn⟩ := and_e hn
  obtain ⟨n11, hn⟩ := and_e hn
  obtain ⟨n12, hn⟩ := and_e hn
  obtain ⟨n13, hn⟩ := and_e hn
  obtain ⟨n14, hn⟩ := and_e hn
  obtain ⟨n15, hn⟩ := and_e hn
  obtain ⟨n16, hn⟩ := and_e hn
  obtain ⟨n17, hn⟩ := and_e hn
  have n18 := hn
  obtain ⟨ex, ve⟩ := arr_v na
  have Se : Sta s s.heap "com/example/unit_step/unitstep/PowersOfTen" "EXACT" "[J" (.ref ex) := Sta.start ve (Or.inr ⟨(own_w hw 98 rfl), (own_w hw 101 rfl)⟩)
  obtain ⟨kx, Vx⟩ := own_starr hfit ve na nl (vs := [(.long (1 : Int64)), (.long (10 : Int64)), (.long (100 : Int64)), (.long (1000 : Int64)), (.long (10000 : Int64)), (.long (100000 : Int64)), (.long (1000000 : Int64)), (.long (10000000 : Int64)), (.long (100000000 : Int64)), (.long (1000000000 : Int64)), (.long (10000000000 : Int64)), (.long (100000000000 : Int64)), (.long (1000000000000 : Int64)), (.long (10000000000000 : Int64)), (.long (100000000000000 : Int64)), (.long (1000000000000000 : Int64)), (.long (10000000000000000 : Int64)), (.long (100000000000000000 : Int64)), (.long (1000000000000000000 : Int64))]) (dv := (.long (0 : Int64))) (by decide) (by decide) ⟨own_elJ n0, own_elJ n1, own_elJ n2, own_elJ n3, own_elJ n4, own_elJ n5, own_elJ n6, own_elJ n7, own_elJ n8, own_elJ n9, own_elJ n10, own_elJ n11, own_elJ n12, own_elJ n13, own_elJ n14, own_elJ n15, own_elJ n16, own_elJ n17, own_elJ n18, trivial⟩
  have TB : own_TB s dg kd ex kx := ⟨Sd, Vd, Se, Vx⟩
  obtain ⟨n, o, h1, h2, h3, _, L, rfl, ⟨rfl, N⟩, -, hq⟩ := rm0 l s _ hw tables_1 i0 i1 s.heap s.heap.size hE G1 P5 (Old.start s) Sc G3 rG3 Sf dg kd ex kx TB (Nat.le_refl _) p e ha hc hk s m _ below hf ((Spec.applies_iff_loose hf).mp happ).1 ⟨rfl, State.Warmed39.refl s, rfl, hC⟩ trivial
  refine ⟨n, _, h1, h2, h3, hpost _ _ _ _ _ _ ⟨Cond.after_iff.mpr rfl, Cond.after_iff.mpr (eq_i res_at (Term.int_eval (1)) rfl), trivial⟩ ⟨hq.1, hq.2.1, hq.2.2.1, (hq.2.2.2.sift fun y hy => Or.inr (N y hy)).mono (by decide) (by decide)⟩⟩
theorem main_1_1 : Claimed_1_1 := comes_1 fun _ _ _ _ _ _ h hF => ⟨h.1, hF⟩
theorem main_1_2 : Claimed_1_2 := comes_1 fun _ _ _ _ _ _ h hF => ⟨h.2.1, hF⟩
end Jvm.Pilot.@@N@@
namespace Jvm.Pilot.@@N@@
open Jvm Jvm.ClassFile Sem Op Lib Jvm.Free Jvm.Stand Jvm.Pilot.@@N@@.Jvm.D
/-! MADE BY PROGRAM (witnessworld.py) out of the Statement's table words and the real class files: 26 classes; the members and pool entries that the words name. The judged class is class 1, her method 1. -/
namespace start1
open Jvm.ClassFile
def u (s : String) : CpInfo := .utf8 (stringToUtf16 s)
/-- a pool by its gaps: so many unusable entries, then the entry; so many at the end -/
def gap : Nat → List CpInfo → List CpInfo
  | 0, r => r
  | n + 1, r => .unusable :: gap n r
def poolList (es : List (Nat × CpInfo)) (last : Nat) : List CpInfo := es.foldr (fun e r => gap e.1 (e.2 :: r)) (gap last [])
def pool (es : List (Nat × CpInfo)) (last : Nat) : Array CpInfo := ⟨poolList es last⟩
def fileOf (pool : Array CpInfo) (this : Nat) (attrs : Array Attribute := #[]) (ms : Array MethodInfo := #[]) (fl : Nat := 33) (sup : Nat := 0) (ifs : Array Nat := #[]) (fds : Array FieldInfo := #[]) : ClassFile where
  minorVersion := 0
  majorVersion := 65
  constantPool := pool
  accessFlags := fl
  thisClass := this
  superClass := sup
  interfaces := ifs
  fields := fds
  methods := ms
  attributes := attrs
def plain (name : String) (sup : Option ClassId) : Class where
  name := name
  kind := .ordinary
  loader := none
  accessFlags := 33
  super := sup
  interfaces := #[]
  cf := none
  fields := #[]
  methods := #[]
  instanceTypes := #[]
  staticTypes := #[]
  resolved := #[]
  callSites := []
  init := .initialized
  statics := none
  mirror := none

def pool0 : Array CpInfo := pool [(5, u "<init>"), (0, u "()V"), (1, .class_ 10), (1, u "java/lang/Object"), (85, u "clone"), (0, u "()Ljava/lang/Object;")] 26

def k0c0 : Code := { maxStack := 0, maxLocals := 1, code := object_method_1_code, exceptionTable := #[], attributes := #[] }
def k0m0 : Method := { name := "<init>", desc := "()V", sig := { parameters := [], returnType := none }, accessFlags := 1, code := some k0c0 }
def k0m1 : Method := { name := "clone", desc := "()Ljava/lang/Object;", sig := { parameters := [], returnType := some (.object "java/lang/Object") }, accessFlags := 260, code := none }
/-- java/lang/Object -/
def k0 : Class := { plain "java/lang/Object" none with
  accessFlags := 33
  interfaces := #[]
  cf := some (fileOf pool0 8 #[] #[{ accessFlags := 1, nameIndex := 5, descriptorIndex := 6, attributes := #[] }, { accessFlags := 260, nameIndex := 96, descriptorIndex := 97, attributes := #[] }] 33 0 #[] #[])
  fields := #[]
  methods := #[k0m0, k0m1]
  instanceTypes := #[]
  staticTypes := #[]
  resolved := Array.replicate 124 none
  statics := none }

def pool1 : Array CpInfo := pool [(2, .class_ 4), (1, u "java/lang/Object"), (0, u "<init>"), (0, u "()V"), (0, .integer 2147483647), (0, .methodref 9 10), (0, .class_ 11), (0, .nameAndType 12 13), (0, u "com/example/unit_step/unitstep/FloatingPointLayout"), (0, u "writeZero"), (0, u "(ZZ)Ljava/lang/String;"), (0, .methodref 9 15), (0, .nameAndType 16 17), (0, u "writeWhole"), (0, u "(ZJZ)Ljava/lang/String;"), (0, .methodref 19 20), (0, .class_ 21), (0, .nameAndType 22 23), (0, u "java/lang/String"), (0, u "length"), (0, u "()I"), (0, .long 48), (1, .methodref 27 28), (0, .class_ 29), (0, .nameAndType 30 31), (0, u "com/example/unit_step/unitstep/FloatingPointLayoutWriteZeroPinLaw"), (0, u "place"), (0, u "(Ljava/lang/String;Ljava/lang/String;IIC)Z"), (0, .methodref 19 33), (0, .nameAndType 34 35), (0, u "charAt"), (0, u "(I)C"), (2, u "law"), (0, u "(II)Z")] 3

def k1m0 : Method := { name := "<init>", desc := "()V", sig := { parameters := [], returnType := none }, accessFlags := 2, code := none }
def k1c1 : Code := { maxStack := 5, maxLocals := 11, code := code, exceptionTable := #[], attributes := #[] }
def k1m1 : Method := { name := "law", desc := "(II)Z", sig := { parameters := [.int, .int], returnType := some .boolean }, accessFlags := 9, code := some k1c1 }
def k1c2 : Code := { maxStack := 3, maxLocals := 5, code := method_3_code, exceptionTable := #[], attributes := #[] }
def k1m2 : Method := { name := "place", desc := "(Ljava/lang/String;Ljava/lang/String;IIC)Z", sig := { parameters := [(.object "java/lang/String"), (.object "java/lang/String"), .int, .int, .char], returnType := some .boolean }, accessFlags := 10, code := some k1c2 }
/-- com/example/unit_step/unitstep/FloatingPointLayoutWriteZeroPinLaw -/
def k1 : Class := { plain "com/example/unit_step/unitstep/FloatingPointLayoutWriteZeroPinLaw" (some 0) with
  accessFlags := 49
  interfaces := #[]
  cf := some (fileOf pool1 27 #[] #[{ accessFlags := 2, nameIndex := 5, descriptorIndex := 6, attributes := #[] }, { accessFlags := 9, nameIndex := 38, descriptorIndex := 39, attributes := #[] }, { accessFlags := 10, nameIndex := 30, descriptorIndex := 31, attributes := #[] }] 49 2 #[] #[])
  fields := #[]
  methods := #[k1m0, k1m1, k1m2]
  instanceTypes := #[]
  staticTypes := #[]
  resolved := Array.replicate 43 none
  statics := none }

def pool2 : Array CpInfo := pool [(2, .class_ 4), (1, u "java/lang/Object"), (0, u "<init>"), (0, u "()V"), (0, .long 10), (1, .methodref 10 11), (0, .class_ 12), (0, .nameAndType 13 14), (0, u "com/example/unit_step/unitstep/DecimalLayout"), (0, u "digitCount"), (0, u "(J)I"), (0, .class_ 16), (0, u "com/example/unit_step/unitstep/FloatingPointLayout"), (0, .methodref 15 18), (0, .nameAndType 19 20), (0, u "scientific"), (0, u "(ZJII)Ljava/lang/String;"), (4, .long 1000000), (1, .methodref 28 29), (0, .class_ 30), (0, .nameAndType 31 32), (0, u "java/lang/Long"), (0, u "toString"), (0, u "(J)Ljava/lang/String;"), (0, .methodref 15 34), (0, .nameAndType 35 36), (0, u "write"), (0, u "(ZJIZ)Ljava/lang/String;"), (0, .string 38), (0, u "-0.0E0"), (0, .string 40), (0, u "0.0E0"), (0, .string 42), (0, u "-0"), (0, .string 44), (0, u "0"), (0, .methodref 46 47), (0, .class_ 48), (0, .nameAndType 49 50), (0, u "java/lang/Math"), (0, u "max"), (0, u "(II)I"), (0, .methodref 46 52), (0, .nameAndType 53 54), (0, u "abs"), (0, u "(I)I"), (0, .methodref 10 56), (0, .nameAndType 57 58), (0, u "putDigits"), (0, u "([BIIJ)V"), (0, .methodref 10 60), (0, .nameAndType 61 62), (0, u "toText"), (0, u "([B)Ljava/lang/String;"), (0, u "SMALLEST_PLAIN"), (0, u "I"), (2, u "LARGEST_PLAIN"), (1, u "PLAIN_BOUND"), (0, u "J"), (5, u "writeWhole"), (0, u "(ZJZ)Ljava/lang/String;"), (0, u "writeZero"), (0, u "(ZZ)Ljava/lang/String;")] 4

def k2m0 : Method := { name := "<init>", desc := "()V", sig := { parameters := [], returnType := none }, accessFlags := 2, code := none }
def k2c1 : Code := { maxStack := 6, maxLocals := 11, code := prog_10_method_2_code, exceptionTable := #[], attributes := #[] }
def k2m1 : Method := { name := "write", desc := "(ZJIZ)Ljava/lang/String;", sig := { parameters := [.boolean, .long, .int, .boolean], returnType := some (.object "java/lang/String") }, accessFlags := 8, code := some k2c1 }
def k2c2 : Code := { maxStack := 5, maxLocals := 6, code := prog_10_method_3_code, exceptionTable := #[], attributes := #[] }
def k2m2 : Method := { name := "writeWhole", desc := "(ZJZ)Ljava/lang/String;", sig := { parameters := [.boolean, .long, .boolean], returnType := some (.object "java/lang/String") }, accessFlags := 8, code := some k2c2 }
def k2c3 : Code := { maxStack := 1, maxLocals := 3, code := prog_10_method_4_code, exceptionTable := #[], attributes := #[] }
def k2m3 : Method := { name := "writeZero", desc := "(ZZ)Ljava/lang/String;", sig := { parameters := [.boolean, .boolean], returnType := some (.object "java/lang/String") }, accessFlags := 8, code := some k2c3 }
def k2c4 : Code := { maxStack := 5, maxLocals := 10, code := prog_10_method_5_code, exceptionTable := #[], attributes := #[] }
def k2m4 : Method := { name := "scientific", desc := "(ZJII)Ljava/lang/String;", sig := { parameters := [.boolean, .long, .int, .int], returnType := some (.object "java/lang/String") }, accessFlags := 10, code := some k2c4 }
/-- com/example/unit_step/unitstep/FloatingPointLayout -/
def k2 : Class := { plain "com/example/unit_step/unitstep/FloatingPointLayout" (some 0) with
  accessFlags := 48
  interfaces := #[]
  cf := some (fileOf pool2 15 #[] #[{ accessFlags := 2, nameIndex := 5, descriptorIndex := 6, attributes := #[] }, { accessFlags := 8, nameIndex := 35, descriptorIndex := 36, attributes := #[] }, { accessFlags := 8, nameIndex := 76, descriptorIndex := 77, attributes := #[] }, { accessFlags := 8, nameIndex := 78, descriptorIndex := 79, attributes := #[] }, { accessFlags := 10, nameIndex := 19, descriptorIndex := 20, attributes := #[] }] 48 2 #[] #[{ accessFlags := 26, nameIndex := 63, descriptorIndex := 64, attributes := #[] }, { accessFlags := 26, nameIndex := 67, descriptorIndex := 64, attributes := #[] }, { accessFlags := 26, nameIndex := 69, descriptorIndex := 70, attributes := #[] }])
  fields := #[{ name := "SMALLEST_PLAIN", type := .int, accessFlags := 26, slot := 0, constantValue := 0 }, { name := "LARGEST_PLAIN", type := .int, accessFlags := 26, slot := 1, constantValue := 0 }, { name := "PLAIN_BOUND", type := .long, accessFlags := 26, slot := 2, constantValue := 0 }]
  methods := #[k2m0, k2m1, k2m2, k2m3, k2m4]
  instanceTypes := #[]
  staticTypes := #[.int, .int, .long]
  resolved := Array.replicate 84 none
  statics := none }

def pool3 : Array CpInfo := pool [(1, .class_ 2), (0, u "java/io/Serializable"), (0, .class_ 4), (0, u "java/lang/Object")] 2

/-- java/io/Serializable -/
def k3 : Class := { plain "java/io/Serializable" (some 0) with
  accessFlags := 1537
  interfaces := #[]
  cf := some (fileOf pool3 1 #[] #[] 1537 3 #[] #[])
  fields := #[]
  methods := #[]
  instanceTypes := #[]
  staticTypes := #[]
  resolved := Array.replicate 7 none
  statics := none }

def pool4 : Array CpInfo := pool [(1, .class_ 2), (0, u "java/lang/Comparable"), (0, .class_ 4), (0, u "java/lang/Object")] 7

/-- java/lang/Comparable -/
def k4 : Class := { plain "java/lang/Comparable" (some 0) with
  accessFlags := 1537
  interfaces := #[]
  cf := some (fileOf pool4 1 #[] #[] 1537 3 #[] #[])
  fields := #[]
  methods := #[]
  instanceTypes := #[]
  staticTypes := #[]
  resolved := Array.replicate 12 none
  statics := none }

def pool5 : Array CpInfo := pool [(2, .class_ 4), (1, u "java/lang/CharSequence"), (42, .class_ 48), (0, u "java/lang/CharSequence$1CodePointIterator"), (10, .class_ 60), (0, u "java/lang/CharSequence$1CharIterator"), (5, .class_ 67), (0, u "java/lang/Object")] 63

/-- java/lang/CharSequence -/
def k5 : Class := { plain "java/lang/CharSequence" (some 0) with
  accessFlags := 1537
  interfaces := #[]
  cf := some (fileOf pool5 2 #[.nestMembers #[47, 59]] #[] 1537 66 #[] #[])
  fields := #[]
  methods := #[]
  instanceTypes := #[]
  staticTypes := #[]
  resolved := Array.replicate 131 none
  statics := none }

def pool6 : Array CpInfo := pool [(1, .class_ 2), (0, u "java/lang/constant/Constable"), (0, .class_ 4), (0, u "java/lang/Object")] 6

/-- java/lang/constant/Constable -/
def k6 : Class := { plain "java/lang/constant/Constable" (some 0) with
  accessFlags := 1537
  interfaces := #[]
  cf := some (fileOf pool6 1 #[] #[] 1537 3 #[] #[])
  fields := #[]
  methods := #[]
  instanceTypes := #[]
  staticTypes := #[]
  resolved := Array.replicate 11 none
  statics := none }

def pool7 : Array CpInfo := pool [(1, .class_ 2), (0, u "java/lang/constant/ConstantDesc"), (0, .class_ 4), (0, u "java/lang/Object")] 32

/-- java/lang/constant/ConstantDesc -/
def k7 : Class := { plain "java/lang/constant/ConstantDesc" (some 0) with
  accessFlags := 1537
  interfaces := #[]
  cf := some (fileOf pool7 1 #[] #[] 1537 3 #[] #[])
  fields := #[]
  methods := #[]
  instanceTypes := #[]
  staticTypes := #[]
  resolved := Array.replicate 37 none
  statics := none }

def pool8 : Array CpInfo := pool [(1, .methodref 2 3), (0, .class_ 4), (0, .nameAndType 5 6), (0, u "java/lang/Object"), (0, u "<init>"), (0, u "()V"), (2, .fieldref 10 11), (0, .class_ 12), (0, .nameAndType 13 14), (0, u "java/lang/String"), (0, u "value"), (0, u "[B"), (0, .fieldref 10 16), (0, .nameAndType 17 18), (0, u "coder"), (0, u "B"), (2, u "hash"), (0, u "I"), (2, u "hashIsZero"), (0, u "Z"), (7, .methodref 10 35), (0, .nameAndType 36 37), (0, u "checkBoundsOffCount"), (0, u "(III)I"), (0, .fieldref 10 39), (0, .nameAndType 40 26), (0, u "COMPACT_STRINGS"), (13, .methodref 55 56), (0, .class_ 57), (0, .nameAndType 58 59), (0, u "java/util/Arrays"), (0, u "copyOfRange"), (0, u "([BII)[B"), (10, u "([BIII)V"), (36, .class_ 109), (1, u "java/lang/StringLatin1"), (32, u "()Z"), (68, u "([BB)V"), (122, u "()I"), (0, .methodref 10 336), (0, .nameAndType 17 337), (0, u "()B"), (25, u "([BI)C"), (27, u "(II)V"), (35, u "(I)C"), (64, .methodref 10 493), (0, .nameAndType 494 142), (0, u "isLatin1"), (0, .methodref 107 496), (0, .nameAndType 497 363), (0, u "charAt"), (3, u "checkIndex"), (5, u "length"), (67, .class_ 576), (0, u "java/lang/CharSequence"), (22, u "CASE_INSENSITIVE_ORDER"), (0, u "Ljava/util/Comparator;"), (452, .fieldref 1054 1055), (0, .class_ 1056), (0, .nameAndType 1057 1058), (0, u "jdk/internal/util/Preconditions"), (0, u "SIOOBE_FORMATTER"), (0, u "Ljava/util/function/BiFunction;"), (0, .methodref 1054 1060), (0, .nameAndType 501 1061), (0, u "(IILjava/util/function/BiFunction;)I"), (2, u "(IIILjava/util/function/BiFunction;)I"), (0, .methodref 1054 1066), (0, .nameAndType 1067 1064), (0, u "checkFromIndexSize"), (33, u "serialPersistentFields"), (0, u "[Ljava/io/ObjectStreamField;"), (0, .class_ 1104), (0, u "java/lang/String$CaseInsensitiveComparator"), (1, .class_ 1107), (0, u "java/io/Serializable"), (0, .class_ 1109), (0, u "java/lang/Comparable"), (0, .class_ 1111), (0, u "java/lang/constant/Constable"), (0, .class_ 1113), (0, u "java/lang/constant/ConstantDesc"), (2, u "serialVersionUID"), (0, u "J"), (3, u "REPL"), (0, u "C"), (2, u "LATIN1"), (1, u "UTF16")] 323

def k8m0 : Method := { name := "<init>", desc := "()V", sig := { parameters := [], returnType := none }, accessFlags := 1, code := none }
def k8c1 : Code := { maxStack := 5, maxLocals := 7, code := jdk_42_method_7_code, exceptionTable := #[], attributes := #[] }
def k8m1 : Method := { name := "<init>", desc := "([BIII)V", sig := { parameters := [(.array .byte), .int, .int, .int], returnType := none }, accessFlags := 1, code := some k8c1 }
def k8c2 : Code := { maxStack := 2, maxLocals := 1, code := jdk_42_method_54_code, exceptionTable := #[], attributes := #[] }
def k8m2 : Method := { name := "length", desc := "()I", sig := { parameters := [], returnType := some .int }, accessFlags := 1, code := some k8c2 }
def k8c3 : Code := { maxStack := 2, maxLocals := 2, code := jdk_42_method_56_code, exceptionTable := #[], attributes := #[] }
def k8m3 : Method := { name := "charAt", desc := "(I)C", sig := { parameters := [.int], returnType := some .char }, accessFlags := 1, code := some k8c3 }
def k8c4 : Code := { maxStack := 2, maxLocals := 3, code := jdk_42_method_151_code, exceptionTable := #[], attributes := #[] }
def k8m4 : Method := { name := "<init>", desc := "([BB)V", sig := { parameters := [(.array .byte), .byte], returnType := none }, accessFlags := 0, code := some k8c4 }
def k8c5 : Code := { maxStack := 1, maxLocals := 1, code := jdk_42_method_152_code, exceptionTable := #[], attributes := #[] }
def k8m5 : Method := { name := "coder", desc := "()B", sig := { parameters := [], returnType := some .byte }, accessFlags := 0, code := some k8c5 }
def k8c6 : Code := { maxStack := 1, maxLocals := 1, code := jdk_42_method_154_code, exceptionTable := #[], attributes := #[] }
def k8m6 : Method := { name := "isLatin1", desc := "()Z", sig := { parameters := [], returnType := some .boolean }, accessFlags := 0, code := some k8c6 }
def k8c7 : Code := { maxStack := 3, maxLocals := 2, code := jdk_42_method_155_code, exceptionTable := #[], attributes := #[] }
def k8m7 : Method := { name := "checkIndex", desc := "(II)V", sig := { parameters := [.int, .int], returnType := none }, accessFlags := 8, code := some k8c7 }
def k8c8 : Code := { maxStack := 4, maxLocals := 3, code := jdk_42_method_157_code, exceptionTable := #[], attributes := #[] }
def k8m8 : Method := { name := "checkBoundsOffCount", desc := "(III)I", sig := { parameters := [.int, .int, .int], returnType := some .int }, accessFlags := 8, code := some k8c8 }
/-- java/lang/String -/
def k8 : Class := { plain "java/lang/String" (some 0) with
  accessFlags := 49
  interfaces := #[3, 4, 5, 6, 7]
  cf := some (fileOf pool8 10 #[.nestMembers #[1103]] #[{ accessFlags := 1, nameIndex := 5, descriptorIndex := 6, attributes := #[] }, { accessFlags := 1, nameIndex := 5, descriptorIndex := 70, attributes := #[] }, { accessFlags := 1, nameIndex := 507, descriptorIndex := 334, attributes := #[] }, { accessFlags := 1, nameIndex := 497, descriptorIndex := 427, attributes := #[] }, { accessFlags := 0, nameIndex := 5, descriptorIndex := 211, attributes := #[] }, { accessFlags := 0, nameIndex := 17, descriptorIndex := 337, attributes := #[] }, { accessFlags := 0, nameIndex := 494, descriptorIndex := 142, attributes := #[] }, { accessFlags := 8, nameIndex := 501, descriptorIndex := 391, attributes := #[] }, { accessFlags := 8, nameIndex := 36, descriptorIndex := 37, attributes := #[] }] 49 2 #[1106, 1108, 575, 1110, 1112] #[{ accessFlags := 18, nameIndex := 13, descriptorIndex := 14, attributes := #[] }, { accessFlags := 18, nameIndex := 17, descriptorIndex := 18, attributes := #[] }, { accessFlags := 2, nameIndex := 21, descriptorIndex := 22, attributes := #[] }, { accessFlags := 2, nameIndex := 25, descriptorIndex := 26, attributes := #[] }, { accessFlags := 26, nameIndex := 1116, descriptorIndex := 1117, attributes := #[] }, { accessFlags := 24, nameIndex := 40, descriptorIndex := 26, attributes := #[] }, { accessFlags := 26, nameIndex := 1101, descriptorIndex := 1102, attributes := #[] }, { accessFlags := 26, nameIndex := 1121, descriptorIndex := 1122, attributes := #[] }, { accessFlags := 25, nameIndex := 599, descriptorIndex := 600, attributes := #[] }, { accessFlags := 24, nameIndex := 1125, descriptorIndex := 18, attributes := #[] }, { accessFlags := 24, nameIndex := 1127, descriptorIndex := 18, attributes := #[] }])
  fields := #[{ name := "value", type := (.array .byte), accessFlags := 18, slot := 0, constantValue := 0 }, { name := "coder", type := .byte, accessFlags := 18, slot := 1, constantValue := 0 }, { name := "hash", type := .int, accessFlags := 2, slot := 2, constantValue := 0 }, { name := "hashIsZero", type := .boolean, accessFlags := 2, slot := 3, constantValue := 0 }, { name := "serialVersionUID", type := .long, accessFlags := 26, slot := 0, constantValue := 0 }, { name := "COMPACT_STRINGS", type := .boolean, accessFlags := 24, slot := 1, constantValue := 0 }, { name := "serialPersistentFields", type := (.array (.object "java/io/ObjectStreamField")), accessFlags := 26, slot := 2, constantValue := 0 }, { name := "REPL", type := .char, accessFlags := 26, slot := 3, constantValue := 0 }, { name := "CASE_INSENSITIVE_ORDER", type := (.object "java/util/Comparator"), accessFlags := 25, slot := 4, constantValue := 0 }, { name := "LATIN1", type := .byte, accessFlags := 24, slot := 5, constantValue := 0 }, { name := "UTF16", type := .byte, accessFlags := 24, slot := 6, constantValue := 0 }]
  methods := #[k8m0, k8m1, k8m2, k8m3, k8m4, k8m5, k8m6, k8m7, k8m8]
  instanceTypes := #[(.array .byte), .byte, .int, .boolean]
  staticTypes := #[.long, .boolean, (.array (.object "java/io/ObjectStreamField")), .char, (.object "java/util/Comparator"), .byte, .byte]
  resolved := Array.replicate 1451 none
  statics := some 0 }

def pool9 : Array CpInfo := pool [(2, .class_ 4), (1, u "java/lang/Object"), (0, u "<init>"), (0, u "()V"), (1, .class_ 10), (1, u "java/lang/Number"), (2, .class_ 14), (0, u "java/io/Serializable"), (0, u "serialVersionUID"), (0, u "J")] 20

def k9m0 : Method := { name := "<init>", desc := "()V", sig := { parameters := [], returnType := none }, accessFlags := 1, code := none }
/-- java/lang/Number -/
def k9 : Class := { plain "java/lang/Number" (some 0) with
  accessFlags := 1057
  interfaces := #[3]
  cf := some (fileOf pool9 8 #[] #[{ accessFlags := 1, nameIndex := 5, descriptorIndex := 6, attributes := #[] }] 1057 2 #[13] #[{ accessFlags := 26, nameIndex := 15, descriptorIndex := 16, attributes := #[] }])
  fields := #[{ name := "serialVersionUID", type := .long, accessFlags := 26, slot := 0, constantValue := 0 }]
  methods := #[k9m0]
  instanceTypes := #[]
  staticTypes := #[.long]
  resolved := Array.replicate 37 none
  statics := none }

def pool10 : Array CpInfo := pool [(1, .class_ 2), (0, u "java/lang/Long"), (2, .class_ 6), (0, u "java/lang/String"), (4, u "toString"), (0, u "(J)Ljava/lang/String;"), (0, .fieldref 5 14), (0, .nameAndType 15 16), (0, u "COMPACT_STRINGS"), (0, u "Z"), (1, .class_ 20), (1, u "java/lang/Integer"), (38, u "<init>"), (40, u "numberOfLeadingZeros"), (0, u "(J)I"), (10, .methodref 5 113), (0, .nameAndType 59 114), (0, u "([BB)V"), (3, .methodref 1 119), (0, .nameAndType 120 101), (0, u "stringSize"), (0, .methodref 1 122), (0, .nameAndType 123 124), (0, u "getChars"), (0, u "(JI[B)I"), (4, .long 18446744071562067968), (3, .fieldref 18 134), (0, .nameAndType 135 136), (0, u "DigitOnes"), (0, u "[B"), (3, .long 18446744073709551606), (94, .class_ 237), (1, u "java/lang/Long$LongCache"), (33, .class_ 272), (0, u "java/lang/Number"), (2, u "value"), (0, u "J"), (31, .methodref 18 309), (0, .nameAndType 100 310), (0, u "(I)I"), (50, u "TYPE"), (0, u "Ljava/lang/Class;"), (0, .class_ 364), (0, u "java/lang/Comparable"), (0, .class_ 366), (0, u "java/lang/constant/Constable"), (0, .class_ 368), (0, u "java/lang/constant/ConstantDesc"), (0, u "MIN_VALUE"), (1, u "MAX_VALUE"), (4, u "SIZE"), (0, u "I"), (1, u "BYTES"), (1, u "serialVersionUID")] 142

def k10c0 : Code := { maxStack := 4, maxLocals := 4, code := jdk_35_method_12_code, exceptionTable := #[], attributes := #[] }
def k10m0 : Method := { name := "toString", desc := "(J)Ljava/lang/String;", sig := { parameters := [.long], returnType := some (.object "java/lang/String") }, accessFlags := 9, code := some k10c0 }
def k10c1 : Code := { maxStack := 4, maxLocals := 11, code := jdk_35_method_14_code, exceptionTable := #[], attributes := #[] }
def k10m1 : Method := { name := "getChars", desc := "(JI[B)I", sig := { parameters := [.long, .int, (.array .byte)], returnType := some .int }, accessFlags := 8, code := some k10c1 }
def k10c2 : Code := { maxStack := 4, maxLocals := 6, code := jdk_35_method_15_code, exceptionTable := #[], attributes := #[] }
def k10m2 : Method := { name := "stringSize", desc := "(J)I", sig := { parameters := [.long], returnType := some .int }, accessFlags := 8, code := some k10c2 }
def k10c3 : Code := { maxStack := 3, maxLocals := 3, code := jdk_35_method_48_code, exceptionTable := #[], attributes := #[] }
def k10m3 : Method := { name := "numberOfLeadingZeros", desc := "(J)I", sig := { parameters := [.long], returnType := some .int }, accessFlags := 9, code := some k10c3 }
/-- java/lang/Long -/
def k10 : Class := { plain "java/lang/Long" (some 9) with
  accessFlags := 49
  interfaces := #[4, 6, 7]
  cf := some (fileOf pool10 1 #[.nestMembers #[235]] #[{ accessFlags := 9, nameIndex := 11, descriptorIndex := 12, attributes := #[] }, { accessFlags := 8, nameIndex := 123, descriptorIndex := 124, attributes := #[] }, { accessFlags := 8, nameIndex := 120, descriptorIndex := 101, attributes := #[] }, { accessFlags := 9, nameIndex := 100, descriptorIndex := 101, attributes := #[] }] 49 271 #[363, 365, 367] #[{ accessFlags := 25, nameIndex := 369, descriptorIndex := 276, attributes := #[] }, { accessFlags := 25, nameIndex := 371, descriptorIndex := 276, attributes := #[] }, { accessFlags := 25, nameIndex := 361, descriptorIndex := 362, attributes := #[] }, { accessFlags := 18, nameIndex := 275, descriptorIndex := 276, attributes := #[] }, { accessFlags := 25, nameIndex := 376, descriptorIndex := 377, attributes := #[] }, { accessFlags := 25, nameIndex := 379, descriptorIndex := 377, attributes := #[] }, { accessFlags := 26, nameIndex := 381, descriptorIndex := 276, attributes := #[] }])
  fields := #[{ name := "MIN_VALUE", type := .long, accessFlags := 25, slot := 0, constantValue := 0 }, { name := "MAX_VALUE", type := .long, accessFlags := 25, slot := 1, constantValue := 0 }, { name := "TYPE", type := (.object "java/lang/Class"), accessFlags := 25, slot := 2, constantValue := 0 }, { name := "value", type := .long, accessFlags := 18, slot := 0, constantValue := 0 }, { name := "SIZE", type := .int, accessFlags := 25, slot := 3, constantValue := 0 }, { name := "BYTES", type := .int, accessFlags := 25, slot := 4, constantValue := 0 }, { name := "serialVersionUID", type := .long, accessFlags := 26, slot := 5, constantValue := 0 }]
  methods := #[k10m0, k10m1, k10m2, k10m3]
  instanceTypes := #[.long]
  staticTypes := #[.long, .long, (.object "java/lang/Class"), .int, .int, .long]
  resolved := Array.replicate 524 none
  statics := none }

def pool11 : Array CpInfo := pool [(1, .class_ 2), (0, u "java/lang/Integer"), (16, u "digits"), (0, u "[C"), (32, u "numberOfLeadingZeros"), (0, u "(I)I"), (30, u "DigitOnes"), (0, u "[B"), (2, u "DigitTens"), (99, .class_ 190), (0, u "java/lang/Integer$IntegerCache"), (3, u "I"), (8, .class_ 204), (0, u "java/lang/Number"), (2, u "value"), (56, .integer 65536), (37, u "TYPE"), (0, u "Ljava/lang/Class;"), (0, .class_ 305), (0, u "java/lang/Comparable"), (0, .class_ 307), (0, u "java/lang/constant/Constable"), (0, .class_ 309), (0, u "java/lang/constant/ConstantDesc"), (0, u "MIN_VALUE"), (1, u "MAX_VALUE"), (3, u "SIZE"), (1, u "BYTES"), (1, u "serialVersionUID"), (0, u "J")] 131

def k11c0 : Code := { maxStack := 3, maxLocals := 2, code := jdk_33_method_47_code, exceptionTable := #[], attributes := #[] }
def k11m0 : Method := { name := "numberOfLeadingZeros", desc := "(I)I", sig := { parameters := [.int], returnType := some .int }, accessFlags := 9, code := some k11c0 }
/-- java/lang/Integer -/
def k11 : Class := { plain "java/lang/Integer" (some 9) with
  accessFlags := 49
  interfaces := #[4, 6, 7]
  cf := some (fileOf pool11 1 #[.nestMembers #[189]] #[{ accessFlags := 9, nameIndex := 53, descriptorIndex := 54, attributes := #[] }] 49 203 #[304, 306, 308] #[{ accessFlags := 25, nameIndex := 310, descriptorIndex := 194, attributes := #[] }, { accessFlags := 25, nameIndex := 312, descriptorIndex := 194, attributes := #[] }, { accessFlags := 25, nameIndex := 302, descriptorIndex := 303, attributes := #[] }, { accessFlags := 24, nameIndex := 19, descriptorIndex := 20, attributes := #[] }, { accessFlags := 24, nameIndex := 89, descriptorIndex := 86, attributes := #[] }, { accessFlags := 24, nameIndex := 85, descriptorIndex := 86, attributes := #[] }, { accessFlags := 18, nameIndex := 207, descriptorIndex := 194, attributes := #[] }, { accessFlags := 25, nameIndex := 316, descriptorIndex := 194, attributes := #[] }, { accessFlags := 25, nameIndex := 318, descriptorIndex := 194, attributes := #[] }, { accessFlags := 26, nameIndex := 320, descriptorIndex := 321, attributes := #[] }])
  fields := #[{ name := "MIN_VALUE", type := .int, accessFlags := 25, slot := 0, constantValue := 0 }, { name := "MAX_VALUE", type := .int, accessFlags := 25, slot := 1, constantValue := 0 }, { name := "TYPE", type := (.object "java/lang/Class"), accessFlags := 25, slot := 2, constantValue := 0 }, { name := "digits", type := (.array .char), accessFlags := 24, slot := 3, constantValue := 0 }, { name := "DigitTens", type := (.array .byte), accessFlags := 24, slot := 4, constantValue := 0 }, { name := "DigitOnes", type := (.array .byte), accessFlags := 24, slot := 5, constantValue := 0 }, { name := "value", type := .int, accessFlags := 18, slot := 0, constantValue := 0 }, { name := "SIZE", type := .int, accessFlags := 25, slot := 6, constantValue := 0 }, { name := "BYTES", type := .int, accessFlags := 25, slot := 7, constantValue := 0 }, { name := "serialVersionUID", type := .long, accessFlags := 26, slot := 8, constantValue := 0 }]
  methods := #[k11m0]
  instanceTypes := #[.int]
  staticTypes := #[.int, .int, (.object "java/lang/Class"), (.array .char), (.array .byte), (.array .byte), .int, .int, .long]
  resolved := Array.replicate 453 none
  statics := some 1 }

def pool12 : Array CpInfo := pool [(1, .class_ 2), (0, u "java/lang/String"), (1, .class_ 6), (1, u "java/lang/Object"), (0, u "<init>"), (0, u "()V"), (0, .methodref 1 10), (0, .nameAndType 11 12), (0, u "checkIndex"), (0, u "(II)V"), (1, .class_ 16), (1, u "java/lang/StringLatin1"), (36, u "([BI)C"), (67, u "$assertionsDisabled"), (0, u "Z"), (98, .class_ 223), (1, u "java/lang/StringLatin1$LinesSpliterator"), (28, u "charAt"), (137, .class_ 391), (0, u "java/lang/StringLatin1$CharsSpliterator")] 3

def k12m0 : Method := { name := "<init>", desc := "()V", sig := { parameters := [], returnType := none }, accessFlags := 0, code := none }
def k12c1 : Code := { maxStack := 2, maxLocals := 2, code := jdk_43_method_2_code, exceptionTable := #[], attributes := #[] }
def k12m1 : Method := { name := "charAt", desc := "([BI)C", sig := { parameters := [(.array .byte), .int], returnType := some .char }, accessFlags := 9, code := some k12c1 }
/-- java/lang/StringLatin1 -/
def k12 : Class := { plain "java/lang/StringLatin1" (some 0) with
  accessFlags := 48
  interfaces := #[]
  cf := some (fileOf pool12 14 #[.nestMembers #[390, 221]] #[{ accessFlags := 0, nameIndex := 7, descriptorIndex := 8, attributes := #[] }, { accessFlags := 9, nameIndex := 252, descriptorIndex := 53, attributes := #[] }] 48 4 #[] #[{ accessFlags := 4120, nameIndex := 121, descriptorIndex := 122, attributes := #[] }])
  fields := #[{ name := "$assertionsDisabled", type := .boolean, accessFlags := 4120, slot := 0, constantValue := 0 }]
  methods := #[k12m0, k12m1]
  instanceTypes := #[]
  staticTypes := #[.boolean]
  resolved := Array.replicate 395 none
  statics := none }

def pool13 : Array CpInfo := pool [(2, .class_ 4), (1, u "java/lang/Object"), (0, u "<init>"), (0, u "()V"), (17, .class_ 26), (1, u "jdk/internal/util/Preconditions"), (6, u "checkIndex"), (15, u "checkFromIndexSize"), (5, .class_ 56), (0, u "jdk/internal/util/Preconditions$4"), (57, .class_ 115), (0, u "jdk/internal/util/Preconditions$1"), (7, u "SIOOBE_FORMATTER"), (0, u "Ljava/util/function/BiFunction;"), (0, .class_ 126), (0, u "jdk/internal/util/Preconditions$2"), (3, u "AIOOBE_FORMATTER"), (0, .class_ 132), (0, u "jdk/internal/util/Preconditions$3"), (3, u "IOOBE_FORMATTER"), (41, u "(IILjava/util/function/BiFunction;)I"), (4, u "(IIILjava/util/function/BiFunction;)I")] 10

def k13m0 : Method := { name := "<init>", desc := "()V", sig := { parameters := [], returnType := none }, accessFlags := 1, code := none }
def k13c1 : Code := { maxStack := 3, maxLocals := 3, code := jdk_41_method_11_code, exceptionTable := #[], attributes := #[] }
def k13m1 : Method := { name := "checkIndex", desc := "(IILjava/util/function/BiFunction;)I", sig := { parameters := [.int, .int, (.object "java/util/function/BiFunction")], returnType := some .int }, accessFlags := 9, code := some k13c1 }
def k13c2 : Code := { maxStack := 4, maxLocals := 4, code := jdk_41_method_13_code, exceptionTable := #[], attributes := #[] }
def k13m2 : Method := { name := "checkFromIndexSize", desc := "(IIILjava/util/function/BiFunction;)I", sig := { parameters := [.int, .int, .int, (.object "java/util/function/BiFunction")], returnType := some .int }, accessFlags := 9, code := some k13c2 }
/-- jdk/internal/util/Preconditions -/
def k13 : Class := { plain "jdk/internal/util/Preconditions" (some 0) with
  accessFlags := 33
  interfaces := #[]
  cf := some (fileOf pool13 24 #[.nestMembers #[55, 131, 125, 114]] #[{ accessFlags := 1, nameIndex := 5, descriptorIndex := 6, attributes := #[] }, { accessFlags := 9, nameIndex := 33, descriptorIndex := 178, attributes := #[] }, { accessFlags := 9, nameIndex := 49, descriptorIndex := 183, attributes := #[] }] 33 2 #[] #[{ accessFlags := 25, nameIndex := 123, descriptorIndex := 124, attributes := #[] }, { accessFlags := 25, nameIndex := 130, descriptorIndex := 124, attributes := #[] }, { accessFlags := 25, nameIndex := 136, descriptorIndex := 124, attributes := #[] }])
  fields := #[{ name := "SIOOBE_FORMATTER", type := (.object "java/util/function/BiFunction"), accessFlags := 25, slot := 0, constantValue := 0 }, { name := "AIOOBE_FORMATTER", type := (.object "java/util/function/BiFunction"), accessFlags := 25, slot := 1, constantValue := 0 }, { name := "IOOBE_FORMATTER", type := (.object "java/util/function/BiFunction"), accessFlags := 25, slot := 2, constantValue := 0 }]
  methods := #[k13m0, k13m1, k13m2]
  instanceTypes := #[]
  staticTypes := #[(.object "java/util/function/BiFunction"), (.object "java/util/function/BiFunction"), (.object "java/util/function/BiFunction")]
  resolved := Array.replicate 194 none
  statics := some 2 }

def pool14 : Array CpInfo := pool [(2, .class_ 4), (1, u "java/lang/Object"), (0, u "<init>"), (0, u "()V"), (9, .class_ 18), (1, u "java/lang/Long"), (3, .class_ 24), (1, u "com/example/unit_step/unitstep/DecimalLayout"), (2, .methodref 16 28), (0, .nameAndType 29 30), (0, u "numberOfLeadingZeros"), (0, u "(J)I"), (0, .methodref 32 33), (0, .class_ 34), (0, .nameAndType 35 36), (0, u "com/example/unit_step/unitstep/PowersOfTen"), (0, u "exact"), (0, u "(I)J"), (0, .long 100000000), (8, .class_ 47), (0, u "java/lang/String"), (0, .methodref 46 49), (0, .nameAndType 5 50), (0, u "([BIII)V"), (2, u "PAIRS"), (0, u "[B"), (2, u "digitCount"), (18, u "toText"), (0, u "([B)Ljava/lang/String;"), (2, u "putDigits"), (0, u "([BIIJ)V"), (4, u "EIGHT_DIGITS"), (0, u "J")] 9

def k14m0 : Method := { name := "<init>", desc := "()V", sig := { parameters := [], returnType := none }, accessFlags := 2, code := none }
def k14c1 : Code := { maxStack := 4, maxLocals := 6, code := prog_6_method_3_code, exceptionTable := #[], attributes := #[] }
def k14m1 : Method := { name := "digitCount", desc := "(J)I", sig := { parameters := [.long], returnType := some .int }, accessFlags := 8, code := some k14c1 }
def k14c2 : Code := { maxStack := 8, maxLocals := 10, code := prog_6_method_4_code, exceptionTable := #[], attributes := #[] }
def k14m2 : Method := { name := "putDigits", desc := "([BIIJ)V", sig := { parameters := [(.array .byte), .int, .int, .long], returnType := none }, accessFlags := 8, code := some k14c2 }
def k14c3 : Code := { maxStack := 6, maxLocals := 1, code := prog_6_method_5_code, exceptionTable := #[], attributes := #[] }
def k14m3 : Method := { name := "toText", desc := "([B)Ljava/lang/String;", sig := { parameters := [(.array .byte)], returnType := some (.object "java/lang/String") }, accessFlags := 8, code := some k14c3 }
/-- com/example/unit_step/unitstep/DecimalLayout -/
def k14 : Class := { plain "com/example/unit_step/unitstep/DecimalLayout" (some 0) with
  accessFlags := 48
  interfaces := #[]
  cf := some (fileOf pool14 22 #[] #[{ accessFlags := 2, nameIndex := 5, descriptorIndex := 6, attributes := #[] }, { accessFlags := 8, nameIndex := 57, descriptorIndex := 30, attributes := #[] }, { accessFlags := 8, nameIndex := 80, descriptorIndex := 81, attributes := #[] }, { accessFlags := 8, nameIndex := 76, descriptorIndex := 77, attributes := #[] }] 48 2 #[] #[{ accessFlags := 26, nameIndex := 53, descriptorIndex := 54, attributes := #[] }, { accessFlags := 26, nameIndex := 86, descriptorIndex := 87, attributes := #[] }])
  fields := #[{ name := "PAIRS", type := (.array .byte), accessFlags := 26, slot := 0, constantValue := 0 }, { name := "EIGHT_DIGITS", type := .long, accessFlags := 26, slot := 1, constantValue := 0 }]
  methods := #[k14m0, k14m1, k14m2, k14m3]
  instanceTypes := #[]
  staticTypes := #[(.array .byte), .long]
  resolved := Array.replicate 97 none
  statics := none }

def pool15 : Array CpInfo := pool [(2, .class_ 4), (1, u "java/lang/Object"), (0, u "<init>"), (0, u "()V"), (1, .class_ 10), (1, u "com/example/unit_step/unitstep/PowersOfTen"), (0, u "HIGH"), (0, u "[J"), (2, u "LOW"), (2, u "LOG2"), (0, u "[I"), (0, .fieldref 8 21), (0, .nameAndType 22 12), (0, u "EXACT"), (2, u "RECIPROCAL"), (8, u "RECIPROCAL_SHIFT"), (54, u "MIN_EXPONENT"), (0, u "I"), (2, u "MAX_EXPONENT"), (1, u "MASK_63"), (0, u "J"), (0, u "DIVIDEND_BITS"), (4, u "(I)J"), (2, u "exact")] 6

def k15m0 : Method := { name := "<init>", desc := "()V", sig := { parameters := [], returnType := none }, accessFlags := 2, code := none }
def k15c1 : Code := { maxStack := 2, maxLocals := 1, code := prog_18_method_5_code, exceptionTable := #[], attributes := #[] }
def k15m1 : Method := { name := "exact", desc := "(I)J", sig := { parameters := [.int], returnType := some .long }, accessFlags := 8, code := some k15c1 }
/-- com/example/unit_step/unitstep/PowersOfTen -/
def k15 : Class := { plain "com/example/unit_step/unitstep/PowersOfTen" (some 0) with
  accessFlags := 48
  interfaces := #[]
  cf := some (fileOf pool15 8 #[] #[{ accessFlags := 2, nameIndex := 5, descriptorIndex := 6, attributes := #[] }, { accessFlags := 8, nameIndex := 105, descriptorIndex := 102, attributes := #[] }] 48 2 #[] #[{ accessFlags := 24, nameIndex := 89, descriptorIndex := 90, attributes := #[] }, { accessFlags := 24, nameIndex := 93, descriptorIndex := 90, attributes := #[] }, { accessFlags := 26, nameIndex := 95, descriptorIndex := 96, attributes := #[] }, { accessFlags := 26, nameIndex := 11, descriptorIndex := 12, attributes := #[] }, { accessFlags := 26, nameIndex := 15, descriptorIndex := 12, attributes := #[] }, { accessFlags := 26, nameIndex := 18, descriptorIndex := 19, attributes := #[] }, { accessFlags := 26, nameIndex := 22, descriptorIndex := 12, attributes := #[] }, { accessFlags := 26, nameIndex := 97, descriptorIndex := 90, attributes := #[] }, { accessFlags := 26, nameIndex := 25, descriptorIndex := 12, attributes := #[] }, { accessFlags := 26, nameIndex := 34, descriptorIndex := 19, attributes := #[] }])
  fields := #[{ name := "MIN_EXPONENT", type := .int, accessFlags := 24, slot := 0, constantValue := 0 }, { name := "MAX_EXPONENT", type := .int, accessFlags := 24, slot := 1, constantValue := 0 }, { name := "MASK_63", type := .long, accessFlags := 26, slot := 2, constantValue := 0 }, { name := "HIGH", type := (.array .long), accessFlags := 26, slot := 3, constantValue := 0 }, { name := "LOW", type := (.array .long), accessFlags := 26, slot := 4, constantValue := 0 }, { name := "LOG2", type := (.array .int), accessFlags := 26, slot := 5, constantValue := 0 }, { name := "EXACT", type := (.array .long), accessFlags := 26, slot := 6, constantValue := 0 }, { name := "DIVIDEND_BITS", type := .int, accessFlags := 26, slot := 7, constantValue := 0 }, { name := "RECIPROCAL", type := (.array .long), accessFlags := 26, slot := 8, constantValue := 0 }, { name := "RECIPROCAL_SHIFT", type := (.array .int), accessFlags := 26, slot := 9, constantValue := 0 }]
  methods := #[k15m0, k15m1]
  instanceTypes := #[]
  staticTypes := #[.int, .int, .long, (.array .long), (.array .long), (.array .int), (.array .long), .int, (.array .long), (.array .int)]
  resolved := Array.replicate 112 none
  statics := some 3 }

def pool16 : Array CpInfo := pool [(1, .class_ 2), (0, u "java/lang/Math"), (1, .class_ 6), (1, u "java/lang/Object"), (0, u "<init>"), (0, u "()V"), (89, .class_ 100), (1, u "java/lang/Math$RandomNumberGeneratorHolder"), (23, u "abs"), (34, u "(I)I"), (12, u "negativeZeroFloatBits"), (0, u "J"), (2, u "negativeZeroDoubleBits"), (21, u "max"), (46, u "$assertionsDisabled"), (0, u "Z"), (88, u "(II)I"), (2, u "twoToTheDoubleScaleDown"), (0, u "D"), (4, u "twoToTheDoubleScaleUp"), (9, u "E"), (3, u "PI"), (2, u "TAU"), (2, u "DEGREES_TO_RADIANS"), (0, u "RADIANS_TO_DEGREES")] 94

def k16m0 : Method := { name := "<init>", desc := "()V", sig := { parameters := [], returnType := none }, accessFlags := 2, code := none }
def k16c1 : Code := { maxStack := 1, maxLocals := 1, code := jdk_29_method_59_code, exceptionTable := #[], attributes := #[] }
def k16m1 : Method := { name := "abs", desc := "(I)I", sig := { parameters := [.int], returnType := some .int }, accessFlags := 9, code := some k16c1 }
def k16c2 : Code := { maxStack := 2, maxLocals := 2, code := jdk_29_method_65_code, exceptionTable := #[], attributes := #[] }
def k16m2 : Method := { name := "max", desc := "(II)I", sig := { parameters := [.int, .int], returnType := some .int }, accessFlags := 9, code := some k16c2 }
/-- java/lang/Math -/
def k16 : Class := { plain "java/lang/Math" (some 0) with
  accessFlags := 49
  interfaces := #[]
  cf := some (fileOf pool16 1 #[.nestMembers #[98]] #[{ accessFlags := 2, nameIndex := 7, descriptorIndex := 8, attributes := #[] }, { accessFlags := 9, nameIndex := 124, descriptorIndex := 159, attributes := #[] }, { accessFlags := 9, nameIndex := 198, descriptorIndex := 335, attributes := #[] }] 49 4 #[] #[{ accessFlags := 25, nameIndex := 354, descriptorIndex := 339, attributes := #[] }, { accessFlags := 25, nameIndex := 358, descriptorIndex := 339, attributes := #[] }, { accessFlags := 25, nameIndex := 361, descriptorIndex := 339, attributes := #[] }, { accessFlags := 26, nameIndex := 364, descriptorIndex := 339, attributes := #[] }, { accessFlags := 26, nameIndex := 365, descriptorIndex := 339, attributes := #[] }, { accessFlags := 26, nameIndex := 172, descriptorIndex := 173, attributes := #[] }, { accessFlags := 26, nameIndex := 176, descriptorIndex := 173, attributes := #[] }, { accessFlags := 8, nameIndex := 344, descriptorIndex := 339, attributes := #[] }, { accessFlags := 8, nameIndex := 338, descriptorIndex := 339, attributes := #[] }, { accessFlags := 4120, nameIndex := 245, descriptorIndex := 246, attributes := #[] }])
  fields := #[{ name := "E", type := .double, accessFlags := 25, slot := 0, constantValue := 0 }, { name := "PI", type := .double, accessFlags := 25, slot := 1, constantValue := 0 }, { name := "TAU", type := .double, accessFlags := 25, slot := 2, constantValue := 0 }, { name := "DEGREES_TO_RADIANS", type := .double, accessFlags := 26, slot := 3, constantValue := 0 }, { name := "RADIANS_TO_DEGREES", type := .double, accessFlags := 26, slot := 4, constantValue := 0 }, { name := "negativeZeroFloatBits", type := .long, accessFlags := 26, slot := 5, constantValue := 0 }, { name := "negativeZeroDoubleBits", type := .long, accessFlags := 26, slot := 6, constantValue := 0 }, { name := "twoToTheDoubleScaleUp", type := .double, accessFlags := 8, slot := 7, constantValue := 0 }, { name := "twoToTheDoubleScaleDown", type := .double, accessFlags := 8, slot := 8, constantValue := 0 }, { name := "$assertionsDisabled", type := .boolean, accessFlags := 4120, slot := 9, constantValue := 0 }]
  methods := #[k16m0, k16m1, k16m2]
  instanceTypes := #[]
  staticTypes := #[.double, .double, .double, .double, .double, .long, .long, .double, .double, .boolean]
  resolved := Array.replicate 460 none
  statics := none }

def pool17 : Array CpInfo := pool [(2, .class_ 4), (1, u "java/lang/Object"), (0, u "<init>"), (0, u "()V"), (7, .class_ 16), (1, u "java/util/Arrays"), (57, .class_ 76), (1, u "java/util/Arrays$NaturalOrder"), (32, u "()Ljava/lang/Object;"), (3, .class_ 115), (1, u "java/util/Arrays$LegacyMergeSort"), (1, u "Z"), (10, .nameAndType 129 109), (0, u "clone"), (9, u "copyOfRange"), (170, .methodref 311 128), (0, .class_ 312), (0, u "[B"), (29, u "([BII)[B"), (32, .class_ 376), (0, u "java/util/Arrays$ArrayList"), (68, u "$assertionsDisabled"), (269, u "MIN_ARRAY_SORT_GRAN"), (0, u "I"), (2, u "INSERTIONSORT_THRESHOLD"), (255, .class_ 976), (0, u "java/util/Arrays$ArrayItr")] 52

def k17m0 : Method := { name := "<init>", desc := "()V", sig := { parameters := [], returnType := none }, accessFlags := 2, code := none }
def k17c1 : Code := { maxStack := 3, maxLocals := 3, code := jdk_65_method_132_code, exceptionTable := #[], attributes := #[] }
def k17m1 : Method := { name := "copyOfRange", desc := "([BII)[B", sig := { parameters := [(.array .byte), .int, .int], returnType := some (.array .byte) }, accessFlags := 9, code := some k17c1 }
/-- java/util/Arrays -/
def k17 : Class := { plain "java/util/Arrays" (some 0) with
  accessFlags := 49
  interfaces := #[]
  cf := some (fileOf pool17 14 #[.nestMembers #[975, 375, 113, 74]] #[{ accessFlags := 2, nameIndex := 5, descriptorIndex := 6, attributes := #[] }, { accessFlags := 9, nameIndex := 139, descriptorIndex := 342, attributes := #[] }] 49 2 #[] #[{ accessFlags := 26, nameIndex := 715, descriptorIndex := 716, attributes := #[] }, { accessFlags := 26, nameIndex := 719, descriptorIndex := 716, attributes := #[] }, { accessFlags := 4120, nameIndex := 445, descriptorIndex := 117, attributes := #[] }])
  fields := #[{ name := "MIN_ARRAY_SORT_GRAN", type := .int, accessFlags := 26, slot := 0, constantValue := 0 }, { name := "INSERTIONSORT_THRESHOLD", type := .int, accessFlags := 26, slot := 1, constantValue := 0 }, { name := "$assertionsDisabled", type := .boolean, accessFlags := 4120, slot := 2, constantValue := 0 }]
  methods := #[k17m0, k17m1]
  instanceTypes := #[]
  staticTypes := #[.int, .int, .boolean]
  resolved := Array.replicate 1029 none
  statics := none }

def pool18 : Array CpInfo := pool [(1, .class_ 2), (0, u "java/lang/Cloneable"), (0, .class_ 4), (0, u "java/lang/Object")] 2

/-- java/lang/Cloneable -/
def k18 : Class := { plain "java/lang/Cloneable" (some 0) with
  accessFlags := 1537
  interfaces := #[]
  cf := some (fileOf pool18 1 #[] #[] 1537 3 #[] #[])
  fields := #[]
  methods := #[]
  instanceTypes := #[]
  staticTypes := #[]
  resolved := Array.replicate 7 none
  statics := none }

def pool19 : Array CpInfo := pool [(9, u "<init>"), (6, .class_ 18), (1, u "java/lang/Object"), (0, u "()V"), (1, .class_ 23), (1, u "jdk/internal/util/ArraysSupport"), (0, u "LOG2_ARRAY_LONG_INDEX_SCALE"), (0, u "I"), (2, u "U"), (0, u "Ljdk/internal/misc/Unsafe;"), (8, u "BIG_ENDIAN"), (0, u "Z"), (8, u "LOG2_BYTE_BIT_SIZE"), (4, u "LOG2_ARRAY_INT_INDEX_SCALE"), (54, u "JLA"), (0, u "Ljdk/internal/access/JavaLangAccess;"), (11, u "LOG2_ARRAY_BOOLEAN_INDEX_SCALE"), (9, u "LOG2_ARRAY_BYTE_INDEX_SCALE"), (5, u "LOG2_ARRAY_CHAR_INDEX_SCALE"), (5, u "LOG2_ARRAY_SHORT_INDEX_SCALE"), (18, u "LOG2_ARRAY_FLOAT_INDEX_SCALE"), (24, u "LOG2_ARRAY_DOUBLE_INDEX_SCALE"), (89, u "T_BOOLEAN"), (2, u "T_CHAR"), (1, u "T_FLOAT"), (1, u "T_DOUBLE"), (1, u "T_BYTE"), (1, u "T_SHORT"), (1, u "T_INT"), (1, u "T_LONG"), (1, u "SOFT_MAX_ARRAY_LENGTH")] 83

def k19m0 : Method := { name := "<init>", desc := "()V", sig := { parameters := [], returnType := none }, accessFlags := 2, code := none }
/-- jdk/internal/util/ArraysSupport -/
def k19 : Class := { plain "jdk/internal/util/ArraysSupport" (some 0) with
  accessFlags := 33
  interfaces := #[]
  cf := some (fileOf pool19 21 #[] #[{ accessFlags := 2, nameIndex := 9, descriptorIndex := 19, attributes := #[] }] 33 16 #[] #[{ accessFlags := 24, nameIndex := 28, descriptorIndex := 29, attributes := #[] }, { accessFlags := 26, nameIndex := 38, descriptorIndex := 39, attributes := #[] }, { accessFlags := 25, nameIndex := 121, descriptorIndex := 25, attributes := #[] }, { accessFlags := 25, nameIndex := 131, descriptorIndex := 25, attributes := #[] }, { accessFlags := 25, nameIndex := 137, descriptorIndex := 25, attributes := #[] }, { accessFlags := 25, nameIndex := 143, descriptorIndex := 25, attributes := #[] }, { accessFlags := 25, nameIndex := 53, descriptorIndex := 25, attributes := #[] }, { accessFlags := 25, nameIndex := 24, descriptorIndex := 25, attributes := #[] }, { accessFlags := 25, nameIndex := 162, descriptorIndex := 25, attributes := #[] }, { accessFlags := 25, nameIndex := 187, descriptorIndex := 25, attributes := #[] }, { accessFlags := 26, nameIndex := 48, descriptorIndex := 25, attributes := #[] }, { accessFlags := 25, nameIndex := 277, descriptorIndex := 25, attributes := #[] }, { accessFlags := 25, nameIndex := 280, descriptorIndex := 25, attributes := #[] }, { accessFlags := 25, nameIndex := 282, descriptorIndex := 25, attributes := #[] }, { accessFlags := 25, nameIndex := 284, descriptorIndex := 25, attributes := #[] }, { accessFlags := 25, nameIndex := 286, descriptorIndex := 25, attributes := #[] }, { accessFlags := 25, nameIndex := 288, descriptorIndex := 25, attributes := #[] }, { accessFlags := 25, nameIndex := 290, descriptorIndex := 25, attributes := #[] }, { accessFlags := 25, nameIndex := 292, descriptorIndex := 25, attributes := #[] }, { accessFlags := 26, nameIndex := 108, descriptorIndex := 109, attributes := #[] }, { accessFlags := 25, nameIndex := 294, descriptorIndex := 25, attributes := #[] }])
  fields := #[{ name := "U", type := (.object "jdk/internal/misc/Unsafe"), accessFlags := 24, slot := 0, constantValue := 0 }, { name := "BIG_ENDIAN", type := .boolean, accessFlags := 26, slot := 1, constantValue := 0 }, { name := "LOG2_ARRAY_BOOLEAN_INDEX_SCALE", type := .int, accessFlags := 25, slot := 2, constantValue := 0 }, { name := "LOG2_ARRAY_BYTE_INDEX_SCALE", type := .int, accessFlags := 25, slot := 3, constantValue := 0 }, { name := "LOG2_ARRAY_CHAR_INDEX_SCALE", type := .int, accessFlags := 25, slot := 4, constantValue := 0 }, { name := "LOG2_ARRAY_SHORT_INDEX_SCALE", type := .int, accessFlags := 25, slot := 5, constantValue := 0 }, { name := "LOG2_ARRAY_INT_INDEX_SCALE", type := .int, accessFlags := 25, slot := 6, constantValue := 0 }, { name := "LOG2_ARRAY_LONG_INDEX_SCALE", type := .int, accessFlags := 25, slot := 7, constantValue := 0 }, { name := "LOG2_ARRAY_FLOAT_INDEX_SCALE", type := .int, accessFlags := 25, slot := 8, constantValue := 0 }, { name := "LOG2_ARRAY_DOUBLE_INDEX_SCALE", type := .int, accessFlags := 25, slot := 9, constantValue := 0 }, { name := "LOG2_BYTE_BIT_SIZE", type := .int, accessFlags := 26, slot := 10, constantValue := 0 }, { name := "T_BOOLEAN", type := .int, accessFlags := 25, slot := 11, constantValue := 0 }, { name := "T_CHAR", type := .int, accessFlags := 25, slot := 12, constantValue := 0 }, { name := "T_FLOAT", type := .int, accessFlags := 25, slot := 13, constantValue := 0 }, { name := "T_DOUBLE", type := .int, accessFlags := 25, slot := 14, constantValue := 0 }, { name := "T_BYTE", type := .int, accessFlags := 25, slot := 15, constantValue := 0 }, { name := "T_SHORT", type := .int, accessFlags := 25, slot := 16, constantValue := 0 }, { name := "T_INT", type := .int, accessFlags := 25, slot := 17, constantValue := 0 }, { name := "T_LONG", type := .int, accessFlags := 25, slot := 18, constantValue := 0 }, { name := "JLA", type := (.object "jdk/internal/access/JavaLangAccess"), accessFlags := 26, slot := 19, constantValue := 0 }, { name := "SOFT_MAX_ARRAY_LENGTH", type := .int, accessFlags := 25, slot := 20, constantValue := 0 }]
  methods := #[k19m0]
  instanceTypes := #[]
  staticTypes := #[(.object "jdk/internal/misc/Unsafe"), .boolean, .int, .int, .int, .int, .int, .int, .int, .int, .int, .int, .int, .int, .int, .int, .int, .int, .int, (.object "jdk/internal/access/JavaLangAccess"), .int]
  resolved := Array.replicate 378 none
  statics := none }

/-- the primitive byte -/
def k20 : Class := { plain "byte" none with kind := .primitive 'B', accessFlags := 0x411 }
/-- [B -/
def k21 : Class := { plain "[B" (some 0) with kind := .array 20 .byte, interfaces := #[18, 3], accessFlags := 1041 }

/-- the primitive int -/
def k22 : Class := { plain "int" none with kind := .primitive 'I', accessFlags := 0x411 }
/-- [I -/
def k23 : Class := { plain "[I" (some 0) with kind := .array 22 .int, interfaces := #[18, 3], accessFlags := 1041 }

/-- the primitive long -/
def k24 : Class := { plain "long" none with kind := .primitive 'J', accessFlags := 0x411 }
/-- [J -/
def k25 : Class := { plain "[J" (some 0) with kind := .array 24 .long, interfaces := #[18, 3], accessFlags := 1041 }

def heap : Heap := #[{ cls := 8, slots := #[.long 0, .int 1, .null, .int 0, .null, .int 0, .int 0], vm := .statics 8 },
  { cls := 11, slots := #[.int 0, .int 0, .null, .null, .ref 6, .ref 5, .int 0, .int 0, .long 0], vm := .statics 11 },
  { cls := 13, slots := #[.null, .null, .null], vm := .statics 13 },
  { cls := 15, slots := #[.int 0, .int 0, .long 0, .null, .null, .null, .ref 4, .int 0, .null, .null], vm := .statics 15 },
  { cls := 25, slots := #[.long 1, .long 10, .long 100, .long 1000, .long 10000, .long 100000, .long 1000000, .long 10000000, .long 100000000, .long 1000000000, .long 10000000000, .long 100000000000, .long 1000000000000, .long 10000000000000, .long 100000000000000, .long 1000000000000000, .long 10000000000000000, .long 100000000000000000, .long 1000000000000000000], vm := .none },
  { cls := 21, slots := #[.int 48, .int 49, .int 50, .int 51, .int 52, .int 53, .int 54, .int 55, .int 56, .int 57, .int 48, .int 49, .int 50, .int 51, .int 52, .int 53, .int 54, .int 55, .int 56, .int 57, .int 48, .int 49, .int 50, .int 51, .int 52, .int 53, .int 54, .int 55, .int 56, .int 57, .int 48, .int 49, .int 50, .int 51, .int 52, .int 53, .int 54, .int 55, .int 56, .int 57, .int 48, .int 49, .int 50, .int 51, .int 52, .int 53, .int 54, .int 55, .int 56, .int 57, .int 48, .int 49, .int 50, .int 51, .int 52, .int 53, .int 54, .int 55, .int 56, .int 57, .int 48, .int 49, .int 50, .int 51, .int 52, .int 53, .int 54, .int 55, .int 56, .int 57, .int 48, .int 49, .int 50, .int 51, .int 52, .int 53, .int 54, .int 55, .int 56, .int 57, .int 48, .int 49, .int 50, .int 51, .int 52, .int 53, .int 54, .int 55, .int 56, .int 57, .int 48, .int 49, .int 50, .int 51, .int 52, .int 53, .int 54, .int 55, .int 56, .int 57], vm := .none },
  { cls := 21, slots := #[.int 48, .int 48, .int 48, .int 48, .int 48, .int 48, .int 48, .int 48, .int 48, .int 48, .int 49, .int 49, .int 49, .int 49, .int 49, .int 49, .int 49, .int 49, .int 49, .int 49, .int 50, .int 50, .int 50, .int 50, .int 50, .int 50, .int 50, .int 50, .int 50, .int 50, .int 51, .int 51, .int 51, .int 51, .int 51, .int 51, .int 51, .int 51, .int 51, .int 51, .int 52, .int 52, .int 52, .int 52, .int 52, .int 52, .int 52, .int 52, .int 52, .int 52, .int 53, .int 53, .int 53, .int 53, .int 53, .int 53, .int 53, .int 53, .int 53, .int 53, .int 54, .int 54, .int 54, .int 54, .int 54, .int 54, .int 54, .int 54, .int 54, .int 54, .int 55, .int 55, .int 55, .int 55, .int 55, .int 55, .int 55, .int 55, .int 55, .int 55, .int 56, .int 56, .int 56, .int 56, .int 56, .int 56, .int 56, .int 56, .int 56, .int 56, .int 57, .int 57, .int 57, .int 57, .int 57, .int 57, .int 57, .int 57, .int 57, .int 57], vm := .none }]
def classes : Array Class := #[k0, k1, k2, k3, k4, k5, k6, k7, k8, k9, k10, k11, k12, k13, k14, k15, k16, k17, k18, k19, k20, k21, k22, k23, k24, k25]
def interned : List (Array UInt16 × Addr) := []
def slotsUsed : Nat := 248
def theMethod : MethodId := ⟨1, 1⟩
def args0 : Array Value := #[.int 5, .int 7]
def aboutOver (below : List Frame) : State where
  vm := { classes := classes, interned := interned.toArray }
  heap := heap
  slotsUsed := slotsUsed
  threads := #[{ frames := .invoking theMethod args0 :: below }]
def below0 : List Frame := [.native { method := ⟨0, 0⟩, args := #[] }]
def about1 : State := aboutOver below0
def p0 : Program := .bare "" "" ""
def e0 : Env := launch0.env 0 0 0
theorem w_frames : about1.frames = Frame.invoking theMethod args0 :: below0 := rfl
set_option maxRecDepth 65536 in
theorem w_args : argsFit about1.vm theMethod args0 = true := by decide +kernel
set_option maxRecDepth 65536 in
theorem w_heap : heapFits about1 = true := by decide +kernel
set_option maxRecDepth 65536 in
theorem w_runnable : about1.curStatus? = some .runnable := by decide +kernel
set_option maxRecDepth 65536 in
theorem w_alone : about1.alone = true := by decide +kernel
set_option maxRecDepth 65536 in
theorem w_named : about1.methodNamed? x = some theMethod := by decide +kernel
set_option maxRecDepth 65536 in
theorem w_hears : about1.hears theMethod below0 = true := by decide +kernel
set_option maxRecDepth 65536 in
theorem w_ripe : about1.ripe theMethod args0 below0 = true := by decide +kernel
theorem w_running : about1.status = .running := rfl
set_option maxRecDepth 65536 in
theorem w_room : about1.hasRoom e0.platform room_1 = true :=
  launch0.hasRoom_least _ room_1 (by decide +kernel) (by decide +kernel) (by decide +kernel) (by decide +kernel) (by decide +kernel) (by decide +kernel)
theorem allAtoms_all (ts : List Jvm.Cond) (a : Array Jvm.Value) (st : Jvm.State) : (allAtoms ts).before a st = ts.all (fun c => c.before a st) := by
  induction ts with
  | nil => rfl
  | cons c t ih =>
    show (Jvm.Cond.and c (allAtoms t)).before a st = _
    rw [Jvm.Cond.before_and, ih, List.all_cons]
def words1 : List Jvm.Cond := Jvm.Cond.code x code maxLocals ret :: tables_1
/-- a 'code' word, met by the world's own term for the bytes: nothing is compared byte by byte -/
theorem code_word {y : MethodName} {bytes : ByteArray} {mx : Nat} {rt : Option FieldType} {a : Array Value} {s : State} {m : MethodId} {meth : Method} {c : Code} (h1 : s.methodNamed? y = some m) (h2 : s.vm.method? m = some meth) (h3 : meth.code = some c) (h4 : c.code = bytes)
    (h5 : (c.maxLocals == mx && c.exceptionTable.isEmpty && decide (c.maxStack ≤ mostOperands) && decide (meth.sig.returnType = rt) && !meth.locks && decide (parseMethodDescriptor y.desc = some meth.sig)) = true) : (Jvm.Cond.code y bytes mx rt).before a s = true := by
  simp only [Bool.and_eq_true, beq_iff_eq, Bool.not_eq_true', decide_eq_true_eq] at h5
  obtain ⟨⟨⟨⟨⟨g1, g2⟩, g3⟩, g4⟩, g5⟩, g6⟩ := h5
  simp [Cond.before, Cond.holds, Cond.value, h1, h2, h3, h4, g1, g2, g3, g4, g5, g6]
def isCode : Jvm.Cond → Bool
  | .code _ _ _ _ => true
  | _ => false
theorem all_split {L : List Jvm.Cond} {P : Jvm.Cond → Bool} (h1 : L.all (fun c => isCode c || P c) = true) (h2 : ∀ c ∈ L.filter isCode, P c = true) : L.all P = true := by
  refine List.all_eq_true.mpr fun c hc => ?_
  have h := List.all_eq_true.mp h1 c hc
  rcases Bool.eq_false_or_eq_true (isCode c) with hi | hi
  · exact h2 c (List.mem_filter.mpr ⟨hc, hi⟩)
  · simpa [hi] using h
set_option maxRecDepth 65536 in
theorem w_c0 : (Jvm.Cond.code x code maxLocals ret).before args0 about1 = true := code_word (m := ⟨1, 1⟩) (meth := k1m1) (c := k1c1) (by decide +kernel) rfl rfl rfl (by decide +kernel)
set_option maxRecDepth 65536 in
theorem w_c1 : (Jvm.Cond.code ({ cls := "com/example/unit_step/unitstep/FloatingPointLayout", name := "writeZero", desc := "(ZZ)Ljava/lang/String;" } : Jvm.MethodName) prog_10_method_4_code (3 : Nat) (Option.some (Jvm.ClassFile.FieldType.object "java/lang/String"))).before args0 about1 = true := code_word (m := ⟨2, 3⟩) (meth := k2m3) (c := k2c3) (by decide +kernel) rfl rfl rfl (by decide +kernel)
set_option maxRecDepth 65536 in
theorem w_c2 : (Jvm.Cond.code ({ cls := "com/example/unit_step/unitstep/FloatingPointLayout", name := "writeWhole", desc := "(ZJZ)Ljava/lang/String;" } : Jvm.MethodName) prog_10_method_3_code (6 : Nat) (Option.some (Jvm.ClassFile.FieldType.object "java/lang/String"))).before args0 about1 = true := code_word (m := ⟨2, 2⟩) (meth := k2m2) (c := k2c2) (by decide +kernel) rfl rfl rfl (by decide +kernel)
set_option maxRecDepth 65536 in
theorem w_c3 : (Jvm.Cond.code ({ cls := "java/lang/Long", name := "toString", desc := "(J)Ljava/lang/String;" } : Jvm.MethodName) jdk_35_method_12_code (4 : Nat) (Option.some (Jvm.ClassFile.FieldType.object "java/lang/String"))).before args0 about1 = true := code_word (m := ⟨10, 0⟩) (meth := k10m0) (c := k10c0) (by decide +kernel) rfl rfl rfl (by decide +kernel)
set_option maxRecDepth 65536 in
theorem w_c4 : (Jvm.Cond.code ({ cls := "java/lang/Long", name := "stringSize", desc := "(J)I" } : Jvm.MethodName) jdk_35_method_15_code (6 : Nat) (Option.some Jvm.ClassFile.FieldType.int)).before args0 about1 = true := code_word (m := ⟨10, 2⟩) (meth := k10m2) (c := k10c2) (by decide +kernel) rfl rfl rfl (by decide +kernel)
set_option maxRecDepth 65536 in
theorem w_c5 : (Jvm.Cond.code ({ cls := "java/lang/Long", name := "getChars", desc := "(JI[B)I" } : Jvm.MethodName) jdk_35_method_14_code (11 : Nat) (Option.some Jvm.ClassFile.FieldType.int)).before args0 about1 = true := code_word (m := ⟨10, 1⟩) (meth := k10m1) (c := k10c1) (by decide +kernel) rfl rfl rfl (by decide +kernel)
set_option maxRecDepth 65536 in
theorem w_c6 : (Jvm.Cond.code ({ cls := "java/lang/String", name := "<init>", desc := "([BB)V" } : Jvm.MethodName) jdk_42_method_151_code (3 : Nat) (Option.none : Option Jvm.ClassFile.FieldType)).before args0 about1 = true := code_word (m := ⟨8, 4⟩) (meth := k8m4) (c := k8c4) (by decide +kernel) rfl rfl rfl (by decide +kernel)
set_option maxRecDepth 65536 in
theorem w_c7 : (Jvm.Cond.code ({ cls := "java/lang/Object", name := "<init>", desc := "()V" } : Jvm.MethodName) object_method_1_code (1 : Nat) (Option.none : Option Jvm.ClassFile.FieldType)).before args0 about1 = true := code_word (m := ⟨0, 0⟩) (meth := k0m0) (c := k0c0) (by decide +kernel) rfl rfl rfl (by decide +kernel)
set_option maxRecDepth 65536 in
theorem w_c8 : (Jvm.Cond.code ({ cls := "java/lang/String", name := "length", desc := "()I" } : Jvm.MethodName) jdk_42_method_54_code (1 : Nat) (Option.some Jvm.ClassFile.FieldType.int)).before args0 about1 = true := code_word (m := ⟨8, 2⟩) (meth := k8m2) (c := k8c2) (by decide +kernel) rfl rfl rfl (by decide +kernel)
set_option maxRecDepth 65536 in
theorem w_c9 : (Jvm.Cond.code ({ cls := "java/lang/String", name := "coder", desc := "()B" } : Jvm.MethodName) jdk_42_method_152_code (1 : Nat) (Option.some Jvm.ClassFile.FieldType.byte)).before args0 about1 = true := code_word (m := ⟨8, 5⟩) (meth := k8m5) (c := k8c5) (by decide +kernel) rfl rfl rfl (by decide +kernel)
set_option maxRecDepth 65536 in
theorem w_c10 : (Jvm.Cond.code ({ cls := "com/example/unit_step/unitstep/FloatingPointLayoutWriteZeroPinLaw", name := "place", desc := "(Ljava/lang/String;Ljava/lang/String;IIC)Z" } : Jvm.MethodName) method_3_code (5 : Nat) (Option.some Jvm.ClassFile.FieldType.boolean)).before args0 about1 = true := code_word (m := ⟨1, 2⟩) (meth := k1m2) (c := k1c2) (by decide +kernel) rfl rfl rfl (by decide +kernel)
set_option maxRecDepth 65536 in
theorem w_c11 : (Jvm.Cond.code ({ cls := "java/lang/String", name := "charAt", desc := "(I)C" } : Jvm.MethodName) jdk_42_method_56_code (2 : Nat) (Option.some Jvm.ClassFile.FieldType.char)).before args0 about1 = true := code_word (m := ⟨8, 3⟩) (meth := k8m3) (c := k8c3) (by decide +kernel) rfl rfl rfl (by decide +kernel)
set_option maxRecDepth 65536 in
theorem w_c12 : (Jvm.Cond.code ({ cls := "java/lang/String", name := "isLatin1", desc := "()Z" } : Jvm.MethodName) jdk_42_method_154_code (1 : Nat) (Option.some Jvm.ClassFile.FieldType.boolean)).before args0 about1 = true := code_word (m := ⟨8, 6⟩) (meth := k8m6) (c := k8c6) (by decide +kernel) rfl rfl rfl (by decide +kernel)
set_option maxRecDepth 65536 in
theorem w_c13 : (Jvm.Cond.code ({ cls := "java/lang/StringLatin1", name := "charAt", desc := "([BI)C" } : Jvm.MethodName) jdk_43_method_2_code (2 : Nat) (Option.some Jvm.ClassFile.FieldType.char)).before args0 about1 = true := code_word (m := ⟨12, 1⟩) (meth := k12m1) (c := k12c1) (by decide +kernel) rfl rfl rfl (by decide +kernel)
set_option maxRecDepth 65536 in
theorem w_c14 : (Jvm.Cond.code ({ cls := "java/lang/String", name := "checkIndex", desc := "(II)V" } : Jvm.MethodName) jdk_42_method_155_code (2 : Nat) (Option.none : Option Jvm.ClassFile.FieldType)).before args0 about1 = true := code_word (m := ⟨8, 7⟩) (meth := k8m7) (c := k8c7) (by decide +kernel) rfl rfl rfl (by decide +kernel)
set_option maxRecDepth 65536 in
theorem w_c15 : (Jvm.Cond.code ({ cls := "jdk/internal/util/Preconditions", name := "checkIndex", desc := "(IILjava/util/function/BiFunction;)I" } : Jvm.MethodName) jdk_41_method_11_code (3 : Nat) (Option.some Jvm.ClassFile.FieldType.int)).before args0 about1 = true := code_word (m := ⟨13, 1⟩) (meth := k13m1) (c := k13c1) (by decide +kernel) rfl rfl rfl (by decide +kernel)
set_option maxRecDepth 65536 in
theorem w_c16 : (Jvm.Cond.code ({ cls := "com/example/unit_step/unitstep/FloatingPointLayout", name := "write", desc := "(ZJIZ)Ljava/lang/String;" } : Jvm.MethodName) prog_10_method_2_code (11 : Nat) (Option.some (Jvm.ClassFile.FieldType.object "java/lang/String"))).before args0 about1 = true := code_word (m := ⟨2, 1⟩) (meth := k2m1) (c := k2c1) (by decide +kernel) rfl rfl rfl (by decide +kernel)
set_option maxRecDepth 65536 in
theorem w_c17 : (Jvm.Cond.code ({ cls := "com/example/unit_step/unitstep/DecimalLayout", name := "digitCount", desc := "(J)I" } : Jvm.MethodName) prog_6_method_3_code (6 : Nat) (Option.some Jvm.ClassFile.FieldType.int)).before args0 about1 = true := code_word (m := ⟨14, 1⟩) (meth := k14m1) (c := k14c1) (by decide +kernel) rfl rfl rfl (by decide +kernel)
set_option maxRecDepth 65536 in
theorem w_c18 : (Jvm.Cond.code ({ cls := "java/lang/Long", name := "numberOfLeadingZeros", desc := "(J)I" } : Jvm.MethodName) jdk_35_method_48_code (3 : Nat) (Option.some Jvm.ClassFile.FieldType.int)).before args0 about1 = true := code_word (m := ⟨10, 3⟩) (meth := k10m3) (c := k10c3) (by decide +kernel) rfl rfl rfl (by decide +kernel)
set_option maxRecDepth 65536 in
theorem w_c19 : (Jvm.Cond.code ({ cls := "java/lang/Integer", name := "numberOfLeadingZeros", desc := "(I)I" } : Jvm.MethodName) jdk_33_method_47_code (2 : Nat) (Option.some Jvm.ClassFile.FieldType.int)).before args0 about1 = true := code_word (m := ⟨11, 0⟩) (meth := k11m0) (c := k11c0) (by decide +kernel) rfl rfl rfl (by decide +kernel)
set_option maxRecDepth 65536 in
theorem w_c20 : (Jvm.Cond.code ({ cls := "com/example/unit_step/unitstep/PowersOfTen", name := "exact", desc := "(I)J" } : Jvm.MethodName) prog_18_method_5_code (1 : Nat) (Option.some Jvm.ClassFile.FieldType.long)).before args0 about1 = true := code_word (m := ⟨15, 1⟩) (meth := k15m1) (c := k15c1) (by decide +kernel) rfl rfl rfl (by decide +kernel)
set_option maxRecDepth 65536 in
theorem w_c21 : (Jvm.Cond.code ({ cls := "com/example/unit_step/unitstep/FloatingPointLayout", name := "scientific", desc := "(ZJII)Ljava/lang/String;" } : Jvm.MethodName) prog_10_method_5_code (10 : Nat) (Option.some (Jvm.ClassFile.FieldType.object "java/lang/String"))).before args0 about1 = true := code_word (m := ⟨2, 4⟩) (meth := k2m4) (c := k2c4) (by decide +kernel) rfl rfl rfl (by decide +kernel)
set_option maxRecDepth 65536 in
theorem w_c22 : (Jvm.Cond.code ({ cls := "java/lang/Math", name := "max", desc := "(II)I" } : Jvm.MethodName) jdk_29_method_65_code (2 : Nat) (Option.some Jvm.ClassFile.FieldType.int)).before args0 about1 = true := code_word (m := ⟨16, 2⟩) (meth := k16m2) (c := k16c2) (by decide +kernel) rfl rfl rfl (by decide +kernel)
set_option maxRecDepth 65536 in
theorem w_c23 : (Jvm.Cond.code ({ cls := "java/lang/Math", name := "abs", desc := "(I)I" } : Jvm.MethodName) jdk_29_method_59_code (1 : Nat) (Option.some Jvm.ClassFile.FieldType.int)).before args0 about1 = true := code_word (m := ⟨16, 1⟩) (meth := k16m1) (c := k16c1) (by decide +kernel) rfl rfl rfl (by decide +kernel)
set_option maxRecDepth 65536 in
theorem w_c24 : (Jvm.Cond.code ({ cls := "com/example/unit_step/unitstep/DecimalLayout", name := "putDigits", desc := "([BIIJ)V" } : Jvm.MethodName) prog_6_method_4_code (10 : Nat) (Option.none : Option Jvm.ClassFile.FieldType)).before args0 about1 = true := code_word (m := ⟨14, 2⟩) (meth := k14m2) (c := k14c2) (by decide +kernel) rfl rfl rfl (by decide +kernel)
set_option maxRecDepth 65536 in
theorem w_c25 : (Jvm.Cond.code ({ cls := "com/example/unit_step/unitstep/DecimalLayout", name := "toText", desc := "([B)Ljava/lang/String;" } : Jvm.MethodName) prog_6_method_5_code (1 : Nat) (Option.some (Jvm.ClassFile.FieldType.object "java/lang/String"))).before args0 about1 = true := code_word (m := ⟨14, 3⟩) (meth := k14m3) (c := k14c3) (by decide +kernel) rfl rfl rfl (by decide +kernel)
set_option maxRecDepth 65536 in
theorem w_c26 : (Jvm.Cond.code ({ cls := "java/lang/String", name := "<init>", desc := "([BIII)V" } : Jvm.MethodName) jdk_42_method_7_code (7 : Nat) (Option.none : Option Jvm.ClassFile.FieldType)).before args0 about1 = true := code_word (m := ⟨8, 1⟩) (meth := k8m1) (c := k8c1) (by decide +kernel) rfl rfl rfl (by decide +kernel)
set_option maxRecDepth 65536 in
theorem w_c27 : (Jvm.Cond.code ({ cls := "java/lang/String", name := "checkBoundsOffCount", desc := "(III)I" } : Jvm.MethodName) jdk_42_method_157_code (3 : Nat) (Option.some Jvm.ClassFile.FieldType.int)).before args0 about1 = true := code_word (m := ⟨8, 8⟩) (meth := k8m8) (c := k8c8) (by decide +kernel) rfl rfl rfl (by decide +kernel)
set_option maxRecDepth 65536 in
theorem w_c28 : (Jvm.Cond.code ({ cls := "jdk/internal/util/Preconditions", name := "checkFromIndexSize", desc := "(IIILjava/util/function/BiFunction;)I" } : Jvm.MethodName) jdk_41_method_13_code (4 : Nat) (Option.some Jvm.ClassFile.FieldType.int)).before args0 about1 = true := code_word (m := ⟨13, 2⟩) (meth := k13m2) (c := k13c2) (by decide +kernel) rfl rfl rfl (by decide +kernel)
set_option maxRecDepth 65536 in
theorem w_c29 : (Jvm.Cond.code ({ cls := "java/util/Arrays", name := "copyOfRange", desc := "([BII)[B" } : Jvm.MethodName) jdk_65_method_132_code (3 : Nat) (Option.some (Jvm.ClassFile.FieldType.array Jvm.ClassFile.FieldType.byte))).before args0 about1 = true := code_word (m := ⟨17, 1⟩) (meth := k17m1) (c := k17c1) (by decide +kernel) rfl rfl rfl (by decide +kernel)
def codes1 : List Jvm.Cond := [Jvm.Cond.code x code maxLocals ret, Jvm.Cond.code ({ cls := "com/example/unit_step/unitstep/FloatingPointLayout", name := "writeZero", desc := "(ZZ)Ljava/lang/String;" } : Jvm.MethodName) prog_10_method_4_code (3 : Nat) (Option.some (Jvm.ClassFile.FieldType.object "java/lang/String")), Jvm.Cond.code ({ cls := "com/example/unit_step/unitstep/FloatingPointLayout", name := "writeWhole", desc := "(ZJZ)Ljava/lang/String;" } : Jvm.MethodName) prog_10_method_3_code (6 : Nat) (Option.some (Jvm.ClassFile.FieldType.object "java/lang/String")), Jvm.Cond.code ({ cls := "java/lang/Long", name := "toString", desc := "(J)Ljava/lang/String;" } : Jvm.MethodName) jdk_35_method_12_code (4 : Nat) (Option.some (Jvm.ClassFile.FieldType.object "java/lang/String")), Jvm.Cond.code ({ cls := "java/lang/Long", name := "stringSize", desc := "(J)I" } : Jvm.MethodName) jdk_35_method_15_code (6 : Nat) (Option.some Jvm.ClassFile.FieldType.int), Jvm.Cond.code ({ cls := "java/lang/Long", name := "getChars", desc := "(JI[B)I" } : Jvm.MethodName) jdk_35_method_14_code (11 : Nat) (Option.some Jvm.ClassFile.FieldType.int), Jvm.Cond.code ({ cls := "java/lang/String", name := "<init>", desc := "([BB)V" } : Jvm.MethodName) jdk_42_method_151_code (3 : Nat) (Option.none : Option Jvm.ClassFile.FieldType), Jvm.Cond.code ({ cls := "java/lang/Object", name := "<init>", desc := "()V" } : Jvm.MethodName) object_method_1_code (1 : Nat) (Option.none : Option Jvm.ClassFile.FieldType), Jvm.Cond.code ({ cls := "java/lang/String", name := "length", desc := "()I" } : Jvm.MethodName) jdk_42_method_54_code (1 : Nat) (Option.some Jvm.ClassFile.FieldType.int), Jvm.Cond.code ({ cls := "java/lang/String", name := "coder", desc := "()B" } : Jvm.MethodName) jdk_42_method_152_code (1 : Nat) (Option.some Jvm.ClassFile.FieldType.byte), Jvm.Cond.code ({ cls := "com/example/unit_step/unitstep/FloatingPointLayoutWriteZeroPinLaw", name := "place", desc := "(Ljava/lang/String;Ljava/lang/String;IIC)Z" } : Jvm.MethodName) method_3_code (5 : Nat) (Option.some Jvm.ClassFile.FieldType.boolean), Jvm.Cond.code ({ cls := "java/lang/String", name := "charAt", desc := "(I)C" } : Jvm.MethodName) jdk_42_method_56_code (2 : Nat) (Option.some Jvm.ClassFile.FieldType.char), Jvm.Cond.code ({ cls := "java/lang/String", name := "isLatin1", desc := "()Z" } : Jvm.MethodName) jdk_42_method_154_code (1 : Nat) (Option.some Jvm.ClassFile.FieldType.boolean), Jvm.Cond.code ({ cls := "java/lang/StringLatin1", name := "charAt", desc := "([BI)C" } : Jvm.MethodName) jdk_43_method_2_code (2 : Nat) (Option.some Jvm.ClassFile.FieldType.char), Jvm.Cond.code ({ cls := "java/lang/String", name := "checkIndex", desc := "(II)V" } : Jvm.MethodName) jdk_42_method_155_code (2 : Nat) (Option.none : Option Jvm.ClassFile.FieldType), Jvm.Cond.code ({ cls := "jdk/internal/util/Preconditions", name := "checkIndex", desc := "(IILjava/util/function/BiFunction;)I" } : Jvm.MethodName) jdk_41_method_11_code (3 : Nat) (Option.some Jvm.ClassFile.FieldType.int), Jvm.Cond.code ({ cls := "com/example/unit_step/unitstep/FloatingPointLayout", name := "write", desc := "(ZJIZ)Ljava/lang/String;" } : Jvm.MethodName) prog_10_method_2_code (11 : Nat) (Option.some (Jvm.ClassFile.FieldType.object "java/lang/String")), Jvm.Cond.code ({ cls := "com/example/unit_step/unitstep/DecimalLayout", name := "digitCount", desc := "(J)I" } : Jvm.MethodName) prog_6_method_3_code (6 : Nat) (Option.some Jvm.ClassFile.FieldType.int), Jvm.Cond.code ({ cls := "java/lang/Long", name := "numberOfLeadingZeros", desc := "(J)I" } : Jvm.MethodName) jdk_35_method_48_code (3 : Nat) (Option.some Jvm.ClassFile.FieldType.int), Jvm.Cond.code ({ cls := "java/lang/Integer", name := "numberOfLeadingZeros", desc := "(I)I" } : Jvm.MethodName) jdk_33_method_47_code (2 : Nat) (Option.some Jvm.ClassFile.FieldType.int), Jvm.Cond.code ({ cls := "com/example/unit_step/unitstep/PowersOfTen", name := "exact", desc := "(I)J" } : Jvm.MethodName) prog_18_method_5_code (1 : Nat) (Option.some Jvm.ClassFile.FieldType.long), Jvm.Cond.code ({ cls := "com/example/unit_step/unitstep/FloatingPointLayout", name := "scientific", desc := "(ZJII)Ljava/lang/String;" } : Jvm.MethodName) prog_10_method_5_code (10 : Nat) (Option.some (Jvm.ClassFile.FieldType.object "java/lang/String")), Jvm.Cond.code ({ cls := "java/lang/Math", name := "max", desc := "(II)I" } : Jvm.MethodName) jdk_29_method_65_code (2 : Nat) (Option.some Jvm.ClassFile.FieldType.int), Jvm.Cond.code ({ cls := "java/lang/Math", name := "abs", desc := "(I)I" } : Jvm.MethodName) jdk_29_method_59_code (1 : Nat) (Option.some Jvm.ClassFile.FieldType.int), Jvm.Cond.code ({ cls := "com/example/unit_step/unitstep/DecimalLayout", name := "putDigits", desc := "([BIIJ)V" } : Jvm.MethodName) prog_6_method_4_code (10 : Nat) (Option.none : Option Jvm.ClassFile.FieldType), Jvm.Cond.code ({ cls := "com/example/unit_step/unitstep/DecimalLayout", name := "toText", desc := "([B)Ljava/lang/String;" } : Jvm.MethodName) prog_6_method_5_code (1 : Nat) (Option.some (Jvm.ClassFile.FieldType.object "java/lang/String")), Jvm.Cond.code ({ cls := "java/lang/String", name := "<init>", desc := "([BIII)V" } : Jvm.MethodName) jdk_42_method_7_code (7 : Nat) (Option.none : Option Jvm.ClassFile.FieldType), Jvm.Cond.code ({ cls := "java/lang/String", name := "checkBoundsOffCount", desc := "(III)I" } : Jvm.MethodName) jdk_42_method_157_code (3 : Nat) (Option.some Jvm.ClassFile.FieldType.int), Jvm.Cond.code ({ cls := "jdk/internal/util/Preconditions", name := "checkFromIndexSize", desc := "(IIILjava/util/function/BiFunction;)I" } : Jvm.MethodName) jdk_41_method_13_code (4 : Nat) (Option.some Jvm.ClassFile.FieldType.int), Jvm.Cond.code ({ cls := "java/util/Arrays", name := "copyOfRange", desc := "([BII)[B" } : Jvm.MethodName) jdk_65_method_132_code (3 : Nat) (Option.some (Jvm.ClassFile.FieldType.array Jvm.ClassFile.FieldType.byte))]
set_option maxRecDepth 65536 in
theorem codes_eq : words1.filter isCode = codes1 := rfl
theorem w_codes : ∀ c ∈ words1.filter isCode, c.before args0 about1 = true := by
  rw [codes_eq]
  intro c hc
  simp only [codes1, List.mem_cons, List.not_mem_nil, or_false] at hc
  rcases hc with rfl | rfl | rfl | rfl | rfl | rfl | rfl | rfl | rfl | rfl | rfl | rfl | rfl | rfl | rfl | rfl | rfl | rfl | rfl | rfl | rfl | rfl | rfl | rfl | rfl | rfl | rfl | rfl | rfl | rfl
  · exact w_c0
  · exact w_c1
  · exact w_c2
  · exact w_c3
  · exact w_c4
  · exact w_c5
  · exact w_c6
  · exact w_c7
  · exact w_c8
  · exact w_c9
  · exact w_c10
  · exact w_c11
  · exact w_c12
  · exact w_c13
  · exact w_c14
  · exact w_c15
  · exact w_c16
  · exact w_c17
  · exact w_c18
  · exact w_c19
  · exact w_c20
  · exact w_c21
  · exact w_c22
  · exact w_c23
  · exact w_c24
  · exact w_c25
  · exact w_c26
  · exact w_c27
  · exact w_c28
  · exact w_c29
set_option maxRecDepth 65536 in
theorem w_t1 : (words1.take 24).all (fun c => isCode c || c.before args0 about1) = true := by decide +kernel
set_option maxRecDepth 65536 in
theorem w_t2 : ((words1.drop 24).take 24).all (fun c => isCode c || c.before args0 about1) = true := by decide +kernel
set_option maxRecDepth 65536 in
theorem w_t3 : (((words1.drop 24).drop 24).take 24).all (fun c => isCode c || c.before args0 about1) = true := by decide +kernel
set_option maxRecDepth 65536 in
theorem w_t4 : ((((words1.drop 24).drop 24).drop 24).take 24).all (fun c => isCode c || c.before args0 about1) = true := by decide +kernel
set_option maxRecDepth 65536 in
theorem w_t5 : (((((words1.drop 24).drop 24).drop 24).drop 24).take 24).all (fun c => isCode c || c.before args0 about1) = true := by decide +kernel
set_option maxRecDepth 65536 in
theorem w_t6 : ((((((words1.drop 24).drop 24).drop 24).drop 24).drop 24).take 24).all (fun c => isCode c || c.before args0 about1) = true := by decide +kernel
set_option maxRecDepth 65536 in
theorem w_t7 : ((((((words1.drop 24).drop 24).drop 24).drop 24).drop 24).drop 24).all (fun c => isCode c || c.before args0 about1) = true := by decide +kernel
theorem w_tables : (allAtoms (Jvm.Cond.code x code maxLocals ret :: tables_1)).before args0 about1 = true := by
  rw [allAtoms_all]
  show words1.all (fun c => c.before args0 about1) = true
  refine all_split ?_ w_codes
  rw [← List.take_append_drop 24 words1, List.all_append, w_t1, ← List.take_append_drop 24 (words1.drop 24), List.all_append, w_t2, ← List.take_append_drop 24 ((words1.drop 24).drop 24), List.all_append, w_t3, ← List.take_append_drop 24 (((words1.drop 24).drop 24).drop 24), List.all_append, w_t4, ← List.take_append_drop 24 ((((words1.drop 24).drop 24).drop 24).drop 24), List.all_append, w_t5, ← List.take_append_drop 24 (((((words1.drop 24).drop 24).drop 24).drop 24).drop 24), List.all_append, w_t6, w_t7]
  rfl
set_option maxRecDepth 65536 in
theorem w_rest : rest_1_c.before args0 about1 = true := by decide +kernel
set_option maxRecDepth 65536 in
theorem w_case : (Jvm.Cond.and given_1 narrow_1).before args0 about1 = true := by decide +kernel
set_option maxRecDepth 65536 in
theorem w_consts : constsHeld consts_1 about1 := Jvm.Lit.constsHeldB_iff.mp (by decide +kernel)
theorem w_applies : (headSpec (Jvm.Cond.code x code maxLocals ret :: tables_1) room_1).applies x e0.platform about1 = true :=
  (Spec.applies_iff w_frames).mpr ⟨w_running, w_runnable, w_alone, w_named, w_hears, w_ripe, w_room, w_tables⟩
theorem atStart : AtStart classFile x code maxLocals ret World_1 tables_1 room_1 Calls_1 rest_1 Pre_1 launch0 p0 e0 about1 theMethod args0 below0 :=
  ⟨lists_1, trivial, launch0.admits_env _ _ _, launch0.least_env, fairChoices_fair.cas, fairChoices_fair.clock, w_frames, w_args, w_heap, w_applies, ⟨w_consts, trivial⟩, w_rest, w_case⟩
end start1
theorem witness_1 : WitnessClaimed_1 := ⟨start1.p0, start1.e0, start1.about1, start1.theMethod, start1.args0, start1.below0, start1.atStart⟩
end Jvm.Pilot.@@N@@
