import JvmDerived
import JvmDerived.Pilot.@@N@@Statement
import JvmDerived.Pilot.@@N@@Code
set_option linter.unusedVariables false
set_option linter.unusedSimpArgs false
namespace Jvm.RoadKit
open Sem ClassFile Op Lib Jvm.Stand Jvm.Free Jvm.LawKit
section New
variable {p : Program} {l : Launch} {e : Env} {R : Room} {s : State} {m : MethodId} {args : Array Value} {below : List Frame} {meth : Method} {c : Code} {T : State} {locs : List Loc} {cells slots : Nat}
theorem retI (X : Stand p l e R s m args below meth c T locs cells slots) (hx : p.tables.exec = Jvm.exec) {pc : Nat} {Ls : Array Slot} {z : Int32} {rest : List Value} (hret : meth.sig.returnType = some .int) (hd : decode c.code pc = .ok (.ireturn, 1)) {fs : List Frame}
    (hl : ∀ (f : JFrame) (acts : List Action), f.method = m → f.locked = none → f.entered = [] → (doReturn e (T.setTop f) acts (some (.int z))).1 = T.setFrames fs) : Steps p.tables e below (T.setTop (mkF m pc Ls (.int z :: rest))) (T.setFrames fs) := by
  have hm' : T.vm.method? m = some meth := X.method'
  have hn : narrow .int (.int z) = .int z := rfl
  show Steps p.tables e below (T.setTop { method := m, pc := pc, locals := Ls, stack := _ :: rest, locked := none }) _
  jvm_step X.here [X.here.top, hx, hd, hm', hret, hn]
  first | (intro acts; rw [hl _ acts rfl rfl rfl]) | rw [hl _ _ rfl rfl rfl]
  exact Steps.refl _
end New
end Jvm.RoadKit
namespace Jvm.Pilot.@@N@@
open Jvm Jvm.ClassFile Sem Op Lib Jvm.Free Jvm.Stand Jvm.LawKit Jvm.RoadKit Bundle Jvm.Pilot.@@N@@.Jvm.D
section Own
variable {p : Program} {l : Launch} {e : Env} {R : Room} {s : State} {m : MethodId} {args : Array Value} {below : List Frame} {meth : Method} {c : Code} {T : State} {locs : List Loc} {cells slots : Nat}
/-- from the state G the run comes to an end with an outcome of which Φ holds -/
def own_Gs (p : Program) (e : Env) (below : List Frame) (Φ : Outcome → State → Prop) (G : State) : Prop :=
  ∃ (t : State) (o : Outcome), Steps p.tables e below G t ∧ t.status = .running ∧ Ended t below o ∧ Φ o t
theorem own_st {Φ : Outcome → State → Prop} {G G' : State} (k : ∀ t, Steps p.tables e below G' t → Steps p.tables e below G t) (h : own_Gs p e below Φ G') : own_Gs p e below Φ G := by
  obtain ⟨a, b, h1, h2⟩ := h
  exact ⟨a, b, k _ h1, h2⟩
theorem own_in {Φ : Outcome → State → Prop} {g g' : JFrame} (q : g = g') (h : own_Gs p e below Φ (T.setTop g')) : ∃ (t : State) (o : Outcome), Steps p.tables e below (T.setTop g) t ∧ t.status = .running ∧ Ended t below o ∧ Φ o t := by
  subst q; exact h
theorem own_ret (X : Stand p l e R s m args below meth c T locs cells slots) {v : Option Value} (hv : meth.sig.returnType = none → v = none) (hlk : meth.locks = false) {G : State}
    (k : ∀ fs, (∀ (f : JFrame) (acts : List Action), f.method = m → f.locked = none → f.entered = [] → (doReturn e (T.setTop f) acts v).1 = T.setFrames fs) → Steps p.tables e below G (T.setFrames fs))
    {Q : Option Value → Heap → List Loc → Prop} {h : Heap} (eT : T.heap = h) (hQ : Q v h locs) {cc ss : Nat} (hc : cells ≤ cc) (hs : slots ≤ ss) :
    own_Gs p e below (fun o t => ∃ v L, o = .returned v ∧ Q v t.heap L ∧ FrameEnd s o t L cc ss) G := by
  obtain ⟨fs, hr, hrun, hended, hW, hsame⟩ := X.leave (v := v) hv hlk
  subst eT
  exact ⟨_, _, k fs hr, hrun, hended, _, _, rfl, hQ, ⟨_, rfl⟩, hW, hsame.mono hc hs⟩
theorem own_retI (X : Stand p l e R s m args below meth c T locs cells slots) (hx : p.tables.exec = Jvm.exec) {pc : Nat} {Ls : Array Slot} {z : Int32} {rest : List Value} (hret : meth.sig.returnType = some .int) (hd : decode c.code pc = .ok (.ireturn, 1)) (hlk : meth.locks = false)
    {Q : Option Value → Heap → List Loc → Prop} {h : Heap} (eT : T.heap = h) (hQ : Q (some (.int z)) h locs) {cc ss : Nat} (hc : cells ≤ cc) (hs : slots ≤ ss) :
    own_Gs p e below (fun o t => ∃ v L, o = .returned v ∧ Q v t.heap L ∧ FrameEnd s o t L cc ss) (T.setTop (mkF m pc Ls (.int z :: rest))) :=
  own_ret X (fun h => by rw [hret] at h; cases h) hlk (fun fs hr => retI X hx hret hd hr) eT hQ hc hs
theorem own_retN (X : Stand p l e R s m args below meth c T locs cells slots) (hx : p.tables.exec = Jvm.exec) {pc : Nat} {Ls : Array Slot} {z : Int32} {t : FieldType} {rest : List Value} (hret : meth.sig.returnType = some t) (ht : t = .boolean ∨ t = .byte ∨ t = .char ∨ t = .short) (hd : decode c.code pc = .ok (.ireturn, 1)) (hlk : meth.locks = false)
    {Q : Option Value → Heap → List Loc → Prop} {h : Heap} (eT : T.heap = h) (hQ : Q (some (.int (nar t z))) h locs) {cc ss : Nat} (hc : cells ≤ cc) (hs : slots ≤ ss) :
    own_Gs p e below (fun o t => ∃ v L, o = .returned v ∧ Q v t.heap L ∧ FrameEnd s o t L cc ss) (T.setTop (mkF m pc Ls (.int z :: rest))) :=
  own_ret X (fun h => by rw [hret] at h; cases h) hlk (fun fs hr => retN X hx hret ht hd hr) eT hQ hc hs
theorem own_retL (X : Stand p l e R s m args below meth c T locs cells slots) (hx : p.tables.exec = Jvm.exec) {pc : Nat} {Ls : Array Slot} {z : Int64} {rest : List Value} (hret : meth.sig.returnType = some .long) (hd : decode c.code pc = .ok (.lreturn, 1)) (hlk : meth.locks = false)
    {Q : Option Value → Heap → List Loc → Prop} {h : Heap} (eT : T.heap = h) (hQ : Q (some (.long z)) h locs) {cc ss : Nat} (hc : cells ≤ cc) (hs : slots ≤ ss) :
    own_Gs p e below (fun o t => ∃ v L, o = .returned v ∧ Q v t.heap L ∧ FrameEnd s o t L cc ss) (T.setTop (mkF m pc Ls (.long z :: rest))) :=
  own_ret X (fun h => by rw [hret] at h; cases h) hlk (fun fs hr => retOut X hx hret rfl (Or.inr (Or.inl ⟨rfl, rfl, z, rfl⟩)) hd hr) eT hQ hc hs
theorem own_retD (X : Stand p l e R s m args below meth c T locs cells slots) (hx : p.tables.exec = Jvm.exec) {pc : Nat} {Ls : Array Slot} {z : UInt64} {rest : List Value} (hret : meth.sig.returnType = some .double) (hd : decode c.code pc = .ok (.dreturn, 1)) (hlk : meth.locks = false)
    {Q : Option Value → Heap → List Loc → Prop} {h : Heap} (eT : T.heap = h) (hQ : Q (some (.double z)) h locs) {cc ss : Nat} (hc : cells ≤ cc) (hs : slots ≤ ss) :
    own_Gs p e below (fun o t => ∃ v L, o = .returned v ∧ Q v t.heap L ∧ FrameEnd s o t L cc ss) (T.setTop (mkF m pc Ls (.double z :: rest))) :=
  own_ret X (fun h => by rw [hret] at h; cases h) hlk (fun fs hr => retOut X hx hret rfl (Or.inr (Or.inr (Or.inl ⟨rfl, rfl, z, rfl⟩))) hd hr) eT hQ hc hs
theorem own_retA (X : Stand p l e R s m args below meth c T locs cells slots) (hx : p.tables.exec = Jvm.exec) {pc : Nat} {Ls : Array Slot} {z : Value} {t : FieldType} {rest : List Value} (hret : meth.sig.returnType = some t) (ht : t.isReference = true) (hz : z.isRef = true) (hd : decode c.code pc = .ok (.areturn, 1)) (hlk : meth.locks = false)
    {Q : Option Value → Heap → List Loc → Prop} {h : Heap} (eT : T.heap = h) (hQ : Q (some z) h locs) {cc ss : Nat} (hc : cells ≤ cc) (hs : slots ≤ ss) :
    own_Gs p e below (fun o t => ∃ v L, o = .returned v ∧ Q v t.heap L ∧ FrameEnd s o t L cc ss) (T.setTop (mkF m pc Ls (z :: rest))) :=
  own_ret X (fun h => by rw [hret] at h; cases h) hlk (fun fs hr => retOut X hx hret (by cases t <;> first | rfl | (cases z <;> first | rfl | (simp [Value.isRef] at hz) | (simp [FieldType.isReference] at ht))) (Or.inr (Or.inr (Or.inr (Or.inr ⟨rfl, ht, hz⟩)))) hd hr) eT hQ hc hs
theorem own_retV (X : Stand p l e R s m args below meth c T locs cells slots) (hx : p.tables.exec = Jvm.exec) {pc : Nat} {Ls : Array Slot} (hret : meth.sig.returnType = none) (hd : decode c.code pc = .ok (.return_, 1)) (hlk : meth.locks = false)
    {Q : Option Value → Heap → List Loc → Prop} {h : Heap} (eT : T.heap = h) (hQ : Q none h locs) {cc ss : Nat} (hc : cells ≤ cc) (hs : slots ≤ ss) :
    own_Gs p e below (fun o t => ∃ v L, o = .returned v ∧ Q v t.heap L ∧ FrameEnd s o t L cc ss) (T.setTop (mkF m pc Ls [])) :=
  own_ret X (fun _ => rfl) hlk (fun fs hr => X.returnOut hx hret hd hr) eT hQ hc hs
theorem own_retNW {vm0 : Vm} {k0 : Nat} (X : Stand p l e R (s.setVm vm0) m args below meth c T locs cells slots) (hS : s.Since vm0 k0) {h : Heap} (hk : k0 ≤ h.size) (hx : p.tables.exec = Jvm.exec) {pc : Nat} {Ls : Array Slot} {z : Int32} {t : FieldType} {rest : List Value} (hret : meth.sig.returnType = some t) (ht : t = .boolean ∨ t = .byte ∨ t = .char ∨ t = .short) (hd : decode c.code pc = .ok (.ireturn, 1)) (hlk : meth.locks = false)
    {Q : Option Value → Heap → List Loc → Prop} (eT : T.heap = h) (hQ : Q (some (.int (nar t z))) h locs) {cc ss : Nat} (hc : cells ≤ cc) (hs : slots ≤ ss) :
    own_Gs p e below (fun o t => ∃ v L, o = .returned v ∧ Q v t.heap L ∧ ReturnedEndW s o t L cc ss) (T.setTop (mkF m pc Ls (.int z :: rest))) := by
  subst eT
  obtain ⟨fs, hr, hrun, hended, h1, h2, h3, h4⟩ := X.leaveW hS hk (v := some (.int (nar t z))) (fun h => by rw [hret] at h; cases h) hlk
  exact ⟨_, _, retN X hx hret ht hd hr, hrun, hended, _, _, rfl, hQ, h1, h2, h3, h4.mono hc hs⟩
-- steps
theorem own_iloadN {Φ : Outcome → State → Prop} (X : Stand p l e R s m args below meth c T locs cells slots) (hx : p.tables.exec = Jvm.exec) {pc : Nat} (pc' : Nat) {Ls : Array Slot} {S : List Value} {k : Fin 4} {v : Int32} (hd : decode c.code pc = .ok (.iload_n k, 1)) (hl : Ls[k.val]? = some (.val (.int v))) (h : own_Gs p e below Φ (T.setTop (mkF m pc' Ls (.int v :: S)))) (hp : pc + 1 = pc' := by rfl) : own_Gs p e below Φ (T.setTop (mkF m pc Ls (S))) := by
  subst hp; exact own_st (fun t k => XS.iloadN X.here hx rfl hd hl k) h
theorem own_iload {Φ : Outcome → State → Prop} (X : Stand p l e R s m args below meth c T locs cells slots) (hx : p.tables.exec = Jvm.exec) {pc : Nat} (pc' : Nat) {Ls : Array Slot} {S : List Value} {k : Nat} {v : Int32} (hd : decode c.code pc = .ok (.iload k, 2)) (hl : Ls[k]? = some (.val (.int v))) (h : own_Gs p e below Φ (T.setTop (mkF m pc' Ls (.int v :: S)))) (hp : pc + 2 = pc' := by rfl) : own_Gs p e below Φ (T.setTop (mkF m pc Ls (S))) := by
  subst hp; exact own_st (fun t k => XS.iload X.here hx rfl hd hl k) h
theorem own_lloadN {Φ : Outcome → State → Prop} (X : Stand p l e R s m args below meth c T locs cells slots) (hx : p.tables.exec = Jvm.exec) {pc : Nat} (pc' : Nat) {Ls : Array Slot} {S : List Value} {k : Fin 4} {v : Int64} (hd : decode c.code pc = .ok (.lload_n k, 1)) (hl : Ls[k.val]? = some (.val (.long v))) (h : own_Gs p e below Φ (T.setTop (mkF m pc' Ls (.long v :: S)))) (hp : pc + 1 = pc' := by rfl) : own_Gs p e below Φ (T.setTop (mkF m pc Ls (S))) := by
  subst hp; exact own_st (fun t k => XS.lloadN X.here hx rfl hd hl k) h
theorem own_lload {Φ : Outcome → State → Prop} (X : Stand p l e R s m args below meth c T locs cells slots) (hx : p.tables.exec = Jvm.exec) {pc : Nat} (pc' : Nat) {Ls : Array Slot} {S : List Value} {k : Nat} {v : Int64} (hd : decode c.code pc = .ok (.lload k, 2)) (hl : Ls[k]? = some (.val (.long v))) (h : own_Gs p e below Φ (T.setTop (mkF m pc' Ls (.long v :: S)))) (hp : pc + 2 = pc' := by rfl) : own_Gs p e below Φ (T.setTop (mkF m pc Ls (S))) := by
  subst hp; exact own_st (fun t k => XS.lload X.here hx rfl hd hl k) h
theorem own_aloadN {Φ : Outcome → State → Prop} (X : Stand p l e R s m args below meth c T locs cells slots) (hx : p.tables.exec = Jvm.exec) {pc : Nat} (pc' : Nat) {Ls : Array Slot} {S : List Value} {k : Fin 4} {v : Value} (hd : decode c.code pc = .ok (.aload_n k, 1)) (hl : Ls[k.val]? = some (.val v)) (hv : v.isRef = true) (h : own_Gs p e below Φ (T.setTop (mkF m pc' Ls (v :: S)))) (hp : pc + 1 = pc' := by rfl) : own_Gs p e below Φ (T.setTop (mkF m pc Ls (S))) := by
  subst hp; exact own_st (fun t k => XS.aloadN X.here hx rfl hd hl hv k) h
theorem own_aload {Φ : Outcome → State → Prop} (X : Stand p l e R s m args below meth c T locs cells slots) (hx : p.tables.exec = Jvm.exec) {pc : Nat} (pc' : Nat) {Ls : Array Slot} {S : List Value} {k : Nat} {v : Value} (hd : decode c.code pc = .ok (.aload k, 2)) (hl : Ls[k]? = some (.val v)) (hv : v.isRef = true) (h : own_Gs p e below Φ (T.setTop (mkF m pc' Ls (v :: S)))) (hp : pc + 2 = pc' := by rfl) : own_Gs p e below Φ (T.setTop (mkF m pc Ls (S))) := by
  subst hp; exact own_st (fun t k => XS.aload X.here hx rfl hd hl hv k) h
theorem own_istoreN {Φ : Outcome → State → Prop} (X : Stand p l e R s m args below meth c T locs cells slots) (hx : p.tables.exec = Jvm.exec) {pc : Nat} (pc' : Nat) {Ls : Array Slot} {S : List Value} {k : Fin 4} {v : Int32} (l' : Array Slot) (hd : decode c.code pc = .ok (.istore_n k, 1)) (hl : storeLocals Ls k.val (.int v) = some l') (h : own_Gs p e below Φ (T.setTop (mkF m pc' l' (S)))) (hp : pc + 1 = pc' := by rfl) : own_Gs p e below Φ (T.setTop (mkF m pc Ls (.int v :: S))) := by
  subst hp; exact own_st (fun t k => XS.istoreN X.here hx rfl hd rfl hl k) h
theorem own_istore {Φ : Outcome → State → Prop} (X : Stand p l e R s m args below meth c T locs cells slots) (hx : p.tables.exec = Jvm.exec) {pc : Nat} (pc' : Nat) {Ls : Array Slot} {S : List Value} {k : Nat} {v : Int32} (l' : Array Slot) (hd : decode c.code pc = .ok (.istore k, 2)) (hl : storeLocals Ls k (.int v) = some l') (h : own_Gs p e below Φ (T.setTop (mkF m pc' l' (S)))) (hp : pc + 2 = pc' := by rfl) : own_Gs p e below Φ (T.setTop (mkF m pc Ls (.int v :: S))) := by
  subst hp; exact own_st (fun t k => XS.istore X.here hx rfl hd rfl hl k) h
theorem own_lstoreN {Φ : Outcome → State → Prop} (X : Stand p l e R s m args below meth c T locs cells slots) (hx : p.tables.exec = Jvm.exec) {pc : Nat} (pc' : Nat) {Ls : Array Slot} {S : List Value} {k : Fin 4} {v : Int64} (l' : Array Slot) (hd : decode c.code pc = .ok (.lstore_n k, 1)) (hl : storeLocals Ls k.val (.long v) = some l') (h : own_Gs p e below Φ (T.setTop (mkF m pc' l' (S)))) (hp : pc + 1 = pc' := by rfl) : own_Gs p e below Φ (T.setTop (mkF m pc Ls (.long v :: S))) := by
  subst hp; exact own_st (fun t k => XS.lstoreN X.here hx rfl hd rfl hl k) h
theorem own_lstore {Φ : Outcome → State → Prop} (X : Stand p l e R s m args below meth c T locs cells slots) (hx : p.tables.exec = Jvm.exec) {pc : Nat} (pc' : Nat) {Ls : Array Slot} {S : List Value} {k : Nat} {v : Int64} (l' : Array Slot) (hd : decode c.code pc = .ok (.lstore k, 2)) (hl : storeLocals Ls k (.long v) = some l') (h : own_Gs p e below Φ (T.setTop (mkF m pc' l' (S)))) (hp : pc + 2 = pc' := by rfl) : own_Gs p e below Φ (T.setTop (mkF m pc Ls (.long v :: S))) := by
  subst hp; exact own_st (fun t k => XS.lstore X.here hx rfl hd rfl hl k) h
theorem own_astoreN {Φ : Outcome → State → Prop} (X : Stand p l e R s m args below meth c T locs cells slots) (hx : p.tables.exec = Jvm.exec) {pc : Nat} (pc' : Nat) {Ls : Array Slot} {S : List Value} {k : Fin 4} {v : Value} (l' : Array Slot) (hd : decode c.code pc = .ok (.astore_n k, 1)) (hv : v.isRef = true) (hl : storeLocals Ls k.val v = some l') (h : own_Gs p e below Φ (T.setTop (mkF m pc' l' (S)))) (hp : pc + 1 = pc' := by rfl) : own_Gs p e below Φ (T.setTop (mkF m pc Ls (v :: S))) := by
  subst hp; exact own_st (fun t k => XS.astoreN X.here hx rfl hd rfl hv hl k) h
theorem own_astore {Φ : Outcome → State → Prop} (X : Stand p l e R s m args below meth c T locs cells slots) (hx : p.tables.exec = Jvm.exec) {pc : Nat} (pc' : Nat) {Ls : Array Slot} {S : List Value} {k : Nat} {v : Value} (l' : Array Slot) (hd : decode c.code pc = .ok (.astore k, 2)) (hv : v.isRef = true) (hl : storeLocals Ls k v = some l') (h : own_Gs p e below Φ (T.setTop (mkF m pc' l' (S)))) (hp : pc + 2 = pc' := by rfl) : own_Gs p e below Φ (T.setTop (mkF m pc Ls (v :: S))) := by
  subst hp; exact own_st (fun t k => XS.astore X.here hx rfl hd rfl hv hl k) h
theorem own_iconst {Φ : Outcome → State → Prop} (X : Stand p l e R s m args below meth c T locs cells slots) (hx : p.tables.exec = Jvm.exec) {pc : Nat} (pc' : Nat) {Ls : Array Slot} {S : List Value} {i : Int} (z : Int32) (hd : decode c.code pc = .ok (.iconst i, 1)) (hz : Int32.ofInt i = z) (h : own_Gs p e below Φ (T.setTop (mkF m pc' Ls (.int z :: S)))) (hp : pc + 1 = pc' := by rfl) : own_Gs p e below Φ (T.setTop (mkF m pc Ls (S))) := by
  subst hp; exact own_st (fun t k => XS.iconst X.here hx rfl hd (hz ▸ k)) h
theorem own_bipush {Φ : Outcome → State → Prop} (X : Stand p l e R s m args below meth c T locs cells slots) (hx : p.tables.exec = Jvm.exec) {pc : Nat} (pc' : Nat) {Ls : Array Slot} {S : List Value} {i : Int} (z : Int32) (hd : decode c.code pc = .ok (.bipush i, 2)) (hz : (Int8.ofInt i).toInt32 = z) (h : own_Gs p e below Φ (T.setTop (mkF m pc' Ls (.int z :: S)))) (hp : pc + 2 = pc' := by rfl) : own_Gs p e below Φ (T.setTop (mkF m pc Ls (S))) := by
  subst hp; exact own_st (fun t k => XS.bipush X.here hx rfl hd (hz ▸ k)) h
theorem own_sipush {Φ : Outcome → State → Prop} (X : Stand p l e R s m args below meth c T locs cells slots) (hx : p.tables.exec = Jvm.exec) {pc : Nat} (pc' : Nat) {Ls : Array Slot} {S : List Value} {i : Int} (z : Int32) (hd : decode c.code pc = .ok (.sipush i, 3)) (hz : (Int16.ofInt i).toInt32 = z) (h : own_Gs p e below Φ (T.setTop (mkF m pc' Ls (.int z :: S)))) (hp : pc + 3 = pc' := by rfl) : own_Gs p e below Φ (T.setTop (mkF m pc Ls (S))) := by
  subst hp; exact own_st (fun t k => XS.sipush X.here hx rfl hd (hz ▸ k)) h
theorem own_lconst {Φ : Outcome → State → Prop} (X : Stand p l e R s m args below meth c T locs cells slots) (hx : p.tables.exec = Jvm.exec) {pc : Nat} (pc' : Nat) {Ls : Array Slot} {S : List Value} {i : Fin 2} (z : Int64) (hd : decode c.code pc = .ok (.lconst i, 1)) (hz : Int64.ofNat i = z) (h : own_Gs p e below Φ (T.setTop (mkF m pc' Ls (.long z :: S)))) (hp : pc + 1 = pc' := by rfl) : own_Gs p e below Φ (T.setTop (mkF m pc Ls (S))) := by
  subst hp; exact own_st (fun t k => XS.lconst X.here hx rfl hd (hz ▸ k)) h
theorem own_aconstNull {Φ : Outcome → State → Prop} (X : Stand p l e R s m args below meth c T locs cells slots) (hx : p.tables.exec = Jvm.exec) {pc : Nat} (pc' : Nat) {Ls : Array Slot} {S : List Value}  (hd : decode c.code pc = .ok (.aconst_null, 1)) (h : own_Gs p e below Φ (T.setTop (mkF m pc' Ls (.null :: S)))) (hp : pc + 1 = pc' := by rfl) : own_Gs p e below Φ (T.setTop (mkF m pc Ls (S))) := by
  subst hp; exact own_st (fun t k => XS.aconstNull X.here hx rfl hd k) h
theorem own_iadd {Φ : Outcome → State → Prop} (X : Stand p l e R s m args below meth c T locs cells slots) (hx : p.tables.exec = Jvm.exec) {pc : Nat} (pc' : Nat) {Ls : Array Slot} {S : List Value} {x y : Int32} (hd : decode c.code pc = .ok (.iadd, 1)) (h : own_Gs p e below Φ (T.setTop (mkF m pc' Ls (.int (x + y) :: S)))) (hp : pc + 1 = pc' := by rfl) : own_Gs p e below Φ (T.setTop (mkF m pc Ls (.int y :: .int x :: S))) := by
  subst hp; exact own_st (fun t k => XS.iadd X.here hx rfl hd rfl k) h
theorem own_ladd {Φ : Outcome → State → Prop} (X : Stand p l e R s m args below meth c T locs cells slots) (hx : p.tables.exec = Jvm.exec) {pc : Nat} (pc' : Nat) {Ls : Array Slot} {S : List Value} {x y : Int64} (hd : decode c.code pc = .ok (.ladd, 1)) (h : own_Gs p e below Φ (T.setTop (mkF m pc' Ls (.long (x + y) :: S)))) (hp : pc + 1 = pc' := by rfl) : own_Gs p e below Φ (T.setTop (mkF m pc Ls (.long y :: .long x :: S))) := by
  subst hp; exact own_st (fun t k => XS.ladd X.here hx rfl hd rfl k) h
theorem own_isub {Φ : Outcome → State → Prop} (X : Stand p l e R s m args below meth c T locs cells slots) (hx : p.tables.exec = Jvm.exec) {pc : Nat} (pc' : Nat) {Ls : Array Slot} {S : List Value} {x y : Int32} (hd : decode c.code pc = .ok (.isub, 1)) (h : own_Gs p e below Φ (T.setTop (mkF m pc' Ls (.int (x - y) :: S)))) (hp : pc + 1 = pc' := by rfl) : own_Gs p e below Φ (T.setTop (mkF m pc Ls (.int y :: .int x :: S))) := by
  subst hp; exact own_st (fun t k => XS.isub X.here hx rfl hd rfl k) h
theorem own_lsub {Φ : Outcome → State → Prop} (X : Stand p l e R s m args below meth c T locs cells slots) (hx : p.tables.exec = Jvm.exec) {pc : Nat} (pc' : Nat) {Ls : Array Slot} {S : List Value} {x y : Int64} (hd : decode c.code pc = .ok (.lsub, 1)) (h : own_Gs p e below Φ (T.setTop (mkF m pc' Ls (.long (x - y) :: S)))) (hp : pc + 1 = pc' := by rfl) : own_Gs p e below Φ (T.setTop (mkF m pc Ls (.long y :: .long x :: S))) := by
  subst hp; exact own_st (fun t k => XS.lsub X.here hx rfl hd rfl k) h
theorem own_imul {Φ : Outcome → State → Prop} (X : Stand p l e R s m args below meth c T locs cells slots) (hx : p.tables.exec = Jvm.exec) {pc : Nat} (pc' : Nat) {Ls : Array Slot} {S : List Value} {x y : Int32} (hd : decode c.code pc = .ok (.imul, 1)) (h : own_Gs p e below Φ (T.setTop (mkF m pc' Ls (.int (x * y) :: S)))) (hp : pc + 1 = pc' := by rfl) : own_Gs p e below Φ (T.setTop (mkF m pc Ls (.int y :: .int x :: S))) := by
  subst hp; exact own_st (fun t k => XS.imul X.here hx rfl hd rfl k) h
theorem own_lmul {Φ : Outcome → State → Prop} (X : Stand p l e R s m args below meth c T locs cells slots) (hx : p.tables.exec = Jvm.exec) {pc : Nat} (pc' : Nat) {Ls : Array Slot} {S : List Value} {x y : Int64} (hd : decode c.code pc = .ok (.lmul, 1)) (h : own_Gs p e below Φ (T.setTop (mkF m pc' Ls (.long (x * y) :: S)))) (hp : pc + 1 = pc' := by rfl) : own_Gs p e below Φ (T.setTop (mkF m pc Ls (.long y :: .long x :: S))) := by
  subst hp; exact own_st (fun t k => XS.lmul X.here hx rfl hd rfl k) h
theorem own_iand {Φ : Outcome → State → Prop} (X : Stand p l e R s m args below meth c T locs cells slots) (hx : p.tables.exec = Jvm.exec) {pc : Nat} (pc' : Nat) {Ls : Array Slot} {S : List Value} {x y : Int32} (hd : decode c.code pc = .ok (.iand, 1)) (h : own_Gs p e below Φ (T.setTop (mkF m pc' Ls (.int (x &&& y) :: S)))) (hp : pc + 1 = pc' := by rfl) : own_Gs p e below Φ (T.setTop (mkF m pc Ls (.int y :: .int x :: S))) := by
  subst hp; exact own_st (fun t k => XS.iand X.here hx rfl hd rfl k) h
theorem own_land {Φ : Outcome → State → Prop} (X : Stand p l e R s m args below meth c T locs cells slots) (hx : p.tables.exec = Jvm.exec) {pc : Nat} (pc' : Nat) {Ls : Array Slot} {S : List Value} {x y : Int64} (hd : decode c.code pc = .ok (.land, 1)) (h : own_Gs p e below Φ (T.setTop (mkF m pc' Ls (.long (x &&& y) :: S)))) (hp : pc + 1 = pc' := by rfl) : own_Gs p e below Φ (T.setTop (mkF m pc Ls (.long y :: .long x :: S))) := by
  subst hp; exact own_st (fun t k => XS.land X.here hx rfl hd rfl k) h
theorem own_ior {Φ : Outcome → State → Prop} (X : Stand p l e R s m args below meth c T locs cells slots) (hx : p.tables.exec = Jvm.exec) {pc : Nat} (pc' : Nat) {Ls : Array Slot} {S : List Value} {x y : Int32} (hd : decode c.code pc = .ok (.ior, 1)) (h : own_Gs p e below Φ (T.setTop (mkF m pc' Ls (.int (x ||| y) :: S)))) (hp : pc + 1 = pc' := by rfl) : own_Gs p e below Φ (T.setTop (mkF m pc Ls (.int y :: .int x :: S))) := by
  subst hp; exact own_st (fun t k => XS.ior X.here hx rfl hd rfl k) h
theorem own_lor {Φ : Outcome → State → Prop} (X : Stand p l e R s m args below meth c T locs cells slots) (hx : p.tables.exec = Jvm.exec) {pc : Nat} (pc' : Nat) {Ls : Array Slot} {S : List Value} {x y : Int64} (hd : decode c.code pc = .ok (.lor, 1)) (h : own_Gs p e below Φ (T.setTop (mkF m pc' Ls (.long (x ||| y) :: S)))) (hp : pc + 1 = pc' := by rfl) : own_Gs p e below Φ (T.setTop (mkF m pc Ls (.long y :: .long x :: S))) := by
  subst hp; exact own_st (fun t k => XS.lor X.here hx rfl hd rfl k) h
theorem own_ixor {Φ : Outcome → State → Prop} (X : Stand p l e R s m args below meth c T locs cells slots) (hx : p.tables.exec = Jvm.exec) {pc : Nat} (pc' : Nat) {Ls : Array Slot} {S : List Value} {x y : Int32} (hd : decode c.code pc = .ok (.ixor, 1)) (h : own_Gs p e below Φ (T.setTop (mkF m pc' Ls (.int (x ^^^ y) :: S)))) (hp : pc + 1 = pc' := by rfl) : own_Gs p e below Φ (T.setTop (mkF m pc Ls (.int y :: .int x :: S))) := by
  subst hp; exact own_st (fun t k => XS.ixor X.here hx rfl hd rfl k) h
theorem own_lxor {Φ : Outcome → State → Prop} (X : Stand p l e R s m args below meth c T locs cells slots) (hx : p.tables.exec = Jvm.exec) {pc : Nat} (pc' : Nat) {Ls : Array Slot} {S : List Value} {x y : Int64} (hd : decode c.code pc = .ok (.lxor, 1)) (h : own_Gs p e below Φ (T.setTop (mkF m pc' Ls (.long (x ^^^ y) :: S)))) (hp : pc + 1 = pc' := by rfl) : own_Gs p e below Φ (T.setTop (mkF m pc Ls (.long y :: .long x :: S))) := by
  subst hp; exact own_st (fun t k => XS.lxor X.here hx rfl hd rfl k) h
theorem own_idiv {Φ : Outcome → State → Prop} (X : Stand p l e R s m args below meth c T locs cells slots) (hx : p.tables.exec = Jvm.exec) {pc : Nat} (pc' : Nat) {Ls : Array Slot} {S : List Value} {x y : Int32} (hd : decode c.code pc = .ok (.idiv, 1)) (hy : y ≠ 0) (h : own_Gs p e below Φ (T.setTop (mkF m pc' Ls (.int (x / y) :: S)))) (hp : pc + 1 = pc' := by rfl) : own_Gs p e below Φ (T.setTop (mkF m pc Ls (.int y :: .int x :: S))) := by
  subst hp; exact own_st (fun t k => XS.idiv X.here hx rfl hd rfl hy k) h
theorem own_ldiv {Φ : Outcome → State → Prop} (X : Stand p l e R s m args below meth c T locs cells slots) (hx : p.tables.exec = Jvm.exec) {pc : Nat} (pc' : Nat) {Ls : Array Slot} {S : List Value} {x y : Int64} (hd : decode c.code pc = .ok (.ldiv, 1)) (hy : y ≠ 0) (h : own_Gs p e below Φ (T.setTop (mkF m pc' Ls (.long (x / y) :: S)))) (hp : pc + 1 = pc' := by rfl) : own_Gs p e below Φ (T.setTop (mkF m pc Ls (.long y :: .long x :: S))) := by
  subst hp; exact own_st (fun t k => XS.ldiv X.here hx rfl hd rfl hy k) h
theorem own_irem {Φ : Outcome → State → Prop} (X : Stand p l e R s m args below meth c T locs cells slots) (hx : p.tables.exec = Jvm.exec) {pc : Nat} (pc' : Nat) {Ls : Array Slot} {S : List Value} {x y : Int32} (hd : decode c.code pc = .ok (.irem, 1)) (hy : y ≠ 0) (h : own_Gs p e below Φ (T.setTop (mkF m pc' Ls (.int (x % y) :: S)))) (hp : pc + 1 = pc' := by rfl) : own_Gs p e below Φ (T.setTop (mkF m pc Ls (.int y :: .int x :: S))) := by
  subst hp; exact own_st (fun t k => iremM X hx rfl hd rfl hy k) h
theorem own_lrem {Φ : Outcome → State → Prop} (X : Stand p l e R s m args below meth c T locs cells slots) (hx : p.tables.exec = Jvm.exec) {pc : Nat} (pc' : Nat) {Ls : Array Slot} {S : List Value} {x y : Int64} (hd : decode c.code pc = .ok (.lrem, 1)) (hy : y ≠ 0) (h : own_Gs p e below Φ (T.setTop (mkF m pc' Ls (.long (x % y) :: S)))) (hp : pc + 1 = pc' := by rfl) : own_Gs p e below Φ (T.setTop (mkF m pc Ls (.long y :: .long x :: S))) := by
  subst hp; exact own_st (fun t k => XS.lrem X.here hx rfl hd rfl hy (by rw [lrem_mod]; exact k)) h
theorem own_ishl {Φ : Outcome → State → Prop} (X : Stand p l e R s m args below meth c T locs cells slots) (hx : p.tables.exec = Jvm.exec) {pc : Nat} (pc' : Nat) {Ls : Array Slot} {S : List Value} {x y : Int32} (hd : decode c.code pc = .ok (.ishl, 1)) (h : own_Gs p e below Φ (T.setTop (mkF m pc' Ls (.int (x <<< (y &&& 31)) :: S)))) (hp : pc + 1 = pc' := by rfl) : own_Gs p e below Φ (T.setTop (mkF m pc Ls (.int y :: .int x :: S))) := by
  subst hp; exact own_st (fun t k => XS.ishl X.here hx rfl hd rfl k) h
theorem own_ishr {Φ : Outcome → State → Prop} (X : Stand p l e R s m args below meth c T locs cells slots) (hx : p.tables.exec = Jvm.exec) {pc : Nat} (pc' : Nat) {Ls : Array Slot} {S : List Value} {x y : Int32} (hd : decode c.code pc = .ok (.ishr, 1)) (h : own_Gs p e below Φ (T.setTop (mkF m pc' Ls (.int (x >>> (y &&& 31)) :: S)))) (hp : pc + 1 = pc' := by rfl) : own_Gs p e below Φ (T.setTop (mkF m pc Ls (.int y :: .int x :: S))) := by
  subst hp; exact own_st (fun t k => XS.ishr X.here hx rfl hd rfl k) h
theorem own_iushr {Φ : Outcome → State → Prop} (X : Stand p l e R s m args below meth c T locs cells slots) (hx : p.tables.exec = Jvm.exec) {pc : Nat} (pc' : Nat) {Ls : Array Slot} {S : List Value} {x y : Int32} (hd : decode c.code pc = .ok (.iushr, 1)) (h : own_Gs p e below Φ (T.setTop (mkF m pc' Ls (.int ((x.toUInt32 >>> (y &&& 31).toUInt32).toInt32) :: S)))) (hp : pc + 1 = pc' := by rfl) : own_Gs p e below Φ (T.setTop (mkF m pc Ls (.int y :: .int x :: S))) := by
  subst hp; exact own_st (fun t k => XS.iushr X.here hx rfl hd rfl k) h
theorem own_lshl {Φ : Outcome → State → Prop} (X : Stand p l e R s m args below meth c T locs cells slots) (hx : p.tables.exec = Jvm.exec) {pc : Nat} (pc' : Nat) {Ls : Array Slot} {S : List Value} {x : Int64} {y : Int32} (hd : decode c.code pc = .ok (.lshl, 1)) (h : own_Gs p e below Φ (T.setTop (mkF m pc' Ls (.long (x <<< (y &&& 0x3f).toInt64) :: S)))) (hp : pc + 1 = pc' := by rfl) : own_Gs p e below Φ (T.setTop (mkF m pc Ls (.int y :: .long x :: S))) := by
  subst hp; exact own_st (fun t k => XS.lshl X.here hx rfl hd rfl k) h
theorem own_lshr {Φ : Outcome → State → Prop} (X : Stand p l e R s m args below meth c T locs cells slots) (hx : p.tables.exec = Jvm.exec) {pc : Nat} (pc' : Nat) {Ls : Array Slot} {S : List Value} {x : Int64} {y : Int32} (hd : decode c.code pc = .ok (.lshr, 1)) (h : own_Gs p e below Φ (T.setTop (mkF m pc' Ls (.long (x >>> (y &&& 0x3f).toInt64) :: S)))) (hp : pc + 1 = pc' := by rfl) : own_Gs p e below Φ (T.setTop (mkF m pc Ls (.int y :: .long x :: S))) := by
  subst hp; exact own_st (fun t k => XS.lshr X.here hx rfl hd rfl k) h
theorem own_lushr {Φ : Outcome → State → Prop} (X : Stand p l e R s m args below meth c T locs cells slots) (hx : p.tables.exec = Jvm.exec) {pc : Nat} (pc' : Nat) {Ls : Array Slot} {S : List Value} {x : Int64} {y : Int32} (hd : decode c.code pc = .ok (.lushr, 1)) (h : own_Gs p e below Φ (T.setTop (mkF m pc' Ls (.long ((x.toUInt64 >>> (y &&& 0x3f).toInt64.toUInt64).toInt64) :: S)))) (hp : pc + 1 = pc' := by rfl) : own_Gs p e below Φ (T.setTop (mkF m pc Ls (.int y :: .long x :: S))) := by
  subst hp; exact own_st (fun t k => XS.lushr X.here hx rfl hd rfl k) h
theorem own_ineg {Φ : Outcome → State → Prop} (X : Stand p l e R s m args below meth c T locs cells slots) (hx : p.tables.exec = Jvm.exec) {pc : Nat} (pc' : Nat) {Ls : Array Slot} {S : List Value} {x : Int32} (hd : decode c.code pc = .ok (.ineg, 1)) (h : own_Gs p e below Φ (T.setTop (mkF m pc' Ls (.int (-x) :: S)))) (hp : pc + 1 = pc' := by rfl) : own_Gs p e below Φ (T.setTop (mkF m pc Ls (.int x :: S))) := by
  subst hp; exact own_st (fun t k => XS.ineg X.here hx rfl hd rfl k) h
theorem own_lneg {Φ : Outcome → State → Prop} (X : Stand p l e R s m args below meth c T locs cells slots) (hx : p.tables.exec = Jvm.exec) {pc : Nat} (pc' : Nat) {Ls : Array Slot} {S : List Value} {x : Int64} (hd : decode c.code pc = .ok (.lneg, 1)) (h : own_Gs p e below Φ (T.setTop (mkF m pc' Ls (.long (-x) :: S)))) (hp : pc + 1 = pc' := by rfl) : own_Gs p e below Φ (T.setTop (mkF m pc Ls (.long x :: S))) := by
  subst hp; exact own_st (fun t k => XS.lneg X.here hx rfl hd rfl k) h
theorem own_i2l {Φ : Outcome → State → Prop} (X : Stand p l e R s m args below meth c T locs cells slots) (hx : p.tables.exec = Jvm.exec) {pc : Nat} (pc' : Nat) {Ls : Array Slot} {S : List Value} {x : Int32} (hd : decode c.code pc = .ok (.i2l, 1)) (h : own_Gs p e below Φ (T.setTop (mkF m pc' Ls (.long (x.toInt64) :: S)))) (hp : pc + 1 = pc' := by rfl) : own_Gs p e below Φ (T.setTop (mkF m pc Ls (.int x :: S))) := by
  subst hp; exact own_st (fun t k => XS.i2l X.here hx rfl hd rfl k) h
theorem own_l2i {Φ : Outcome → State → Prop} (X : Stand p l e R s m args below meth c T locs cells slots) (hx : p.tables.exec = Jvm.exec) {pc : Nat} (pc' : Nat) {Ls : Array Slot} {S : List Value} {x : Int64} (hd : decode c.code pc = .ok (.l2i, 1)) (h : own_Gs p e below Φ (T.setTop (mkF m pc' Ls (.int (x.toInt32) :: S)))) (hp : pc + 1 = pc' := by rfl) : own_Gs p e below Φ (T.setTop (mkF m pc Ls (.long x :: S))) := by
  subst hp; exact own_st (fun t k => XS.l2i X.here hx rfl hd rfl k) h
theorem own_i2b {Φ : Outcome → State → Prop} (X : Stand p l e R s m args below meth c T locs cells slots) (hx : p.tables.exec = Jvm.exec) {pc : Nat} (pc' : Nat) {Ls : Array Slot} {S : List Value} {x : Int32} (hd : decode c.code pc = .ok (.i2b, 1)) (h : own_Gs p e below Φ (T.setTop (mkF m pc' Ls (.int (x.toInt8.toInt32) :: S)))) (hp : pc + 1 = pc' := by rfl) : own_Gs p e below Φ (T.setTop (mkF m pc Ls (.int x :: S))) := by
  subst hp; exact own_st (fun t k => XS.i2b X.here hx rfl hd rfl k) h
theorem own_i2s {Φ : Outcome → State → Prop} (X : Stand p l e R s m args below meth c T locs cells slots) (hx : p.tables.exec = Jvm.exec) {pc : Nat} (pc' : Nat) {Ls : Array Slot} {S : List Value} {x : Int32} (hd : decode c.code pc = .ok (.i2s, 1)) (h : own_Gs p e below Φ (T.setTop (mkF m pc' Ls (.int (x.toInt16.toInt32) :: S)))) (hp : pc + 1 = pc' := by rfl) : own_Gs p e below Φ (T.setTop (mkF m pc Ls (.int x :: S))) := by
  subst hp; exact own_st (fun t k => XS.i2s X.here hx rfl hd rfl k) h
theorem own_i2c {Φ : Outcome → State → Prop} (X : Stand p l e R s m args below meth c T locs cells slots) (hx : p.tables.exec = Jvm.exec) {pc : Nat} (pc' : Nat) {Ls : Array Slot} {S : List Value} {x : Int32} (hd : decode c.code pc = .ok (.i2c, 1)) (h : own_Gs p e below Φ (T.setTop (mkF m pc' Ls (.int (x.toUInt32.toUInt16.toUInt32.toInt32) :: S)))) (hp : pc + 1 = pc' := by rfl) : own_Gs p e below Φ (T.setTop (mkF m pc Ls (.int x :: S))) := by
  subst hp; exact own_st (fun t k => XS.i2c X.here hx rfl hd rfl k) h
theorem own_lcmp {Φ : Outcome → State → Prop} (X : Stand p l e R s m args below meth c T locs cells slots) (hx : p.tables.exec = Jvm.exec) {pc : Nat} (pc' : Nat) {Ls : Array Slot} {S : List Value} {x y : Int64} (hd : decode c.code pc = .ok (.lcmp, 1)) (h : own_Gs p e below Φ (T.setTop (mkF m pc' Ls (.int (lcmpW x y) :: S)))) (hp : pc + 1 = pc' := by rfl) : own_Gs p e below Φ (T.setTop (mkF m pc Ls (.long y :: .long x :: S))) := by
  subst hp; exact own_st (fun t k => XS.lcmp X.here hx rfl hd rfl k) h
theorem own_iinc {Φ : Outcome → State → Prop} (X : Stand p l e R s m args below meth c T locs cells slots) (hx : p.tables.exec = Jvm.exec) {pc : Nat} (pc' : Nat) {Ls : Array Slot} {S : List Value} {i : Nat} {cst : Int} {x : Int32} (z : Int32) (l' : Array Slot) (hd : decode c.code pc = .ok (.iinc i cst, 3)) (hl : Ls[i]? = some (.val (.int x))) (hz : Int32.ofInt cst = z) (hl' : storeLocals Ls i (.int (x + z)) = some l') (h : own_Gs p e below Φ (T.setTop (mkF m pc' l' (S)))) (hp : pc + 3 = pc' := by rfl) : own_Gs p e below Φ (T.setTop (mkF m pc Ls (S))) := by
  subst hp; exact own_st (fun t k => XS.iinc X.here hx rfl hd hl (hz ▸ hl') k) h
theorem own_dup {Φ : Outcome → State → Prop} (X : Stand p l e R s m args below meth c T locs cells slots) (hx : p.tables.exec = Jvm.exec) {pc : Nat} (pc' : Nat) {Ls : Array Slot} {S : List Value} {v : Value} (hd : decode c.code pc = .ok (.dup, 1)) (hc : v.category = 1) (h : own_Gs p e below Φ (T.setTop (mkF m pc' Ls (v :: v :: S)))) (hp : pc + 1 = pc' := by rfl) : own_Gs p e below Φ (T.setTop (mkF m pc Ls (v :: S))) := by
  subst hp; exact own_st (fun t k => XS.dup X.here hx rfl hd rfl hc k) h
theorem own_pop {Φ : Outcome → State → Prop} (X : Stand p l e R s m args below meth c T locs cells slots) (hx : p.tables.exec = Jvm.exec) {pc : Nat} (pc' : Nat) {Ls : Array Slot} {S : List Value} {v : Value} (hd : decode c.code pc = .ok (.pop, 1)) (hc : v.category = 1) (h : own_Gs p e below Φ (T.setTop (mkF m pc' Ls (S)))) (hp : pc + 1 = pc' := by rfl) : own_Gs p e below Φ (T.setTop (mkF m pc Ls (v :: S))) := by
  subst hp; exact own_st (fun t k => XS.pop X.here hx rfl hd rfl hc k) h
theorem own_dupX1 {Φ : Outcome → State → Prop} (X : Stand p l e R s m args below meth c T locs cells slots) (hx : p.tables.exec = Jvm.exec) {pc : Nat} (pc' : Nat) {Ls : Array Slot} {S : List Value} {v w : Value} (hd : decode c.code pc = .ok (.dup_x1, 1)) (hc : v.category = 1) (hc' : w.category = 1) (h : own_Gs p e below Φ (T.setTop (mkF m pc' Ls (v :: w :: v :: S)))) (hp : pc + 1 = pc' := by rfl) : own_Gs p e below Φ (T.setTop (mkF m pc Ls (v :: w :: S))) := by
  subst hp; exact own_st (fun t k => XS.dupX1 X.here hx rfl hd rfl hc hc' k) h
theorem own_dup2 {Φ : Outcome → State → Prop} (X : Stand p l e R s m args below meth c T locs cells slots) (hx : p.tables.exec = Jvm.exec) {pc : Nat} (pc' : Nat) {Ls : Array Slot} {S : List Value} {v w : Value} (hd : decode c.code pc = .ok (.dup2, 1)) (hc : v.category = 1) (hc' : w.category = 1) (h : own_Gs p e below Φ (T.setTop (mkF m pc' Ls (v :: w :: v :: w :: S)))) (hp : pc + 1 = pc' := by rfl) : own_Gs p e below Φ (T.setTop (mkF m pc Ls (v :: w :: S))) := by
  subst hp; exact own_st (fun t k => Jvm.Free.XT.dup2 X.here hx rfl hd rfl hc hc' k) h
theorem own_dup2L {Φ : Outcome → State → Prop} (X : Stand p l e R s m args below meth c T locs cells slots) (hx : p.tables.exec = Jvm.exec) {pc : Nat} (pc' : Nat) {Ls : Array Slot} {S : List Value} {x : Int64} (hd : decode c.code pc = .ok (.dup2, 1)) (h : own_Gs p e below Φ (T.setTop (mkF m pc' Ls (.long x :: .long x :: S)))) (hp : pc + 1 = pc' := by rfl) : own_Gs p e below Φ (T.setTop (mkF m pc Ls (.long x :: S))) := by
  subst hp; exact own_st (fun t k => Jvm.Free.XT.dup2L X.here hx rfl hd rfl k) h
theorem own_dloadN {Φ : Outcome → State → Prop} (X : Stand p l e R s m args below meth c T locs cells slots) (hx : p.tables.exec = Jvm.exec) {pc : Nat} (pc' : Nat) {Ls : Array Slot} {S : List Value} {k : Fin 4} {v : UInt64} (hd : decode c.code pc = .ok (.dload_n k, 1)) (hl : Ls[k.val]? = some (.val (.double v))) (h : own_Gs p e below Φ (T.setTop (mkF m pc' Ls (.double v :: S)))) (hp : pc + 1 = pc' := by rfl) : own_Gs p e below Φ (T.setTop (mkF m pc Ls (S))) := by
  subst hp; exact own_st (fun t k => XS.dloadN X.here hx rfl hd hl k) h
theorem own_dload {Φ : Outcome → State → Prop} (X : Stand p l e R s m args below meth c T locs cells slots) (hx : p.tables.exec = Jvm.exec) {pc : Nat} (pc' : Nat) {Ls : Array Slot} {S : List Value} {k : Nat} {v : UInt64} (hd : decode c.code pc = .ok (.dload k, 2)) (hl : Ls[k]? = some (.val (.double v))) (h : own_Gs p e below Φ (T.setTop (mkF m pc' Ls (.double v :: S)))) (hp : pc + 2 = pc' := by rfl) : own_Gs p e below Φ (T.setTop (mkF m pc Ls (S))) := by
  subst hp; exact own_st (fun t k => XS.dload X.here hx rfl hd hl k) h
theorem own_dstoreN {Φ : Outcome → State → Prop} (X : Stand p l e R s m args below meth c T locs cells slots) (hx : p.tables.exec = Jvm.exec) {pc : Nat} (pc' : Nat) {Ls : Array Slot} {S : List Value} {k : Fin 4} {v : UInt64} (l' : Array Slot) (hd : decode c.code pc = .ok (.dstore_n k, 1)) (hl : storeLocals Ls k.val (.double v) = some l') (h : own_Gs p e below Φ (T.setTop (mkF m pc' l' (S)))) (hp : pc + 1 = pc' := by rfl) : own_Gs p e below Φ (T.setTop (mkF m pc Ls (.double v :: S))) := by
  subst hp; exact own_st (fun t k => XS.dstoreN X.here hx rfl hd rfl hl k) h
theorem own_dstore {Φ : Outcome → State → Prop} (X : Stand p l e R s m args below meth c T locs cells slots) (hx : p.tables.exec = Jvm.exec) {pc : Nat} (pc' : Nat) {Ls : Array Slot} {S : List Value} {k : Nat} {v : UInt64} (l' : Array Slot) (hd : decode c.code pc = .ok (.dstore k, 2)) (hl : storeLocals Ls k (.double v) = some l') (h : own_Gs p e below Φ (T.setTop (mkF m pc' l' (S)))) (hp : pc + 2 = pc' := by rfl) : own_Gs p e below Φ (T.setTop (mkF m pc Ls (.double v :: S))) := by
  subst hp; exact own_st (fun t k => XS.dstore X.here hx rfl hd rfl hl k) h
theorem own_dconst0 {Φ : Outcome → State → Prop} (X : Stand p l e R s m args below meth c T locs cells slots) (hx : p.tables.exec = Jvm.exec) {pc : Nat} (pc' : Nat) {Ls : Array Slot} {S : List Value}  (hd : decode c.code pc = .ok (.dconst 0, 1)) (h : own_Gs p e below Φ (T.setTop (mkF m pc' Ls (.double FP.dconst0 :: S)))) (hp : pc + 1 = pc' := by rfl) : own_Gs p e below Φ (T.setTop (mkF m pc Ls (S))) := by
  subst hp; exact own_st (fun t k => XS.dconst0 X.here hx rfl hd rfl k) h
theorem own_dconst1 {Φ : Outcome → State → Prop} (X : Stand p l e R s m args below meth c T locs cells slots) (hx : p.tables.exec = Jvm.exec) {pc : Nat} (pc' : Nat) {Ls : Array Slot} {S : List Value}  (hd : decode c.code pc = .ok (.dconst 1, 1)) (h : own_Gs p e below Φ (T.setTop (mkF m pc' Ls (.double FP.dconst1 :: S)))) (hp : pc + 1 = pc' := by rfl) : own_Gs p e below Φ (T.setTop (mkF m pc Ls (S))) := by
  subst hp; exact own_st (fun t k => XS.dconst1 X.here hx rfl hd rfl k) h
theorem own_l2d {Φ : Outcome → State → Prop} (X : Stand p l e R s m args below meth c T locs cells slots) (hx : p.tables.exec = Jvm.exec) {pc : Nat} (pc' : Nat) {Ls : Array Slot} {S : List Value} {x : Int64} (hd : decode c.code pc = .ok (.l2d, 1)) (h : own_Gs p e below Φ (T.setTop (mkF m pc' Ls (.double (FP.l2d x) :: S)))) (hp : pc + 1 = pc' := by rfl) : own_Gs p e below Φ (T.setTop (mkF m pc Ls (.long x :: S))) := by
  subst hp; exact own_st (fun t k => XS.l2dS X.here hx rfl hd rfl rfl k) h
theorem own_i2d {Φ : Outcome → State → Prop} (X : Stand p l e R s m args below meth c T locs cells slots) (hx : p.tables.exec = Jvm.exec) {pc : Nat} (pc' : Nat) {Ls : Array Slot} {S : List Value} {x : Int32} (hd : decode c.code pc = .ok (.i2d, 1)) (h : own_Gs p e below Φ (T.setTop (mkF m pc' Ls (.double (FP.i2d x) :: S)))) (hp : pc + 1 = pc' := by rfl) : own_Gs p e below Φ (T.setTop (mkF m pc Ls (.int x :: S))) := by
  subst hp; exact own_st (fun t k => XS.i2dS X.here hx rfl hd rfl rfl k) h
theorem own_dneg {Φ : Outcome → State → Prop} (X : Stand p l e R s m args below meth c T locs cells slots) (hx : p.tables.exec = Jvm.exec) {pc : Nat} (pc' : Nat) {Ls : Array Slot} {S : List Value} {x : UInt64} (hd : decode c.code pc = .ok (.dneg, 1)) (h : own_Gs p e below Φ (T.setTop (mkF m pc' Ls (.double (FP.dneg x) :: S)))) (hp : pc + 1 = pc' := by rfl) : own_Gs p e below Φ (T.setTop (mkF m pc Ls (.double x :: S))) := by
  subst hp; exact own_st (fun t k => XS.dnegS X.here hx rfl hd rfl rfl k) h
theorem own_dadd {Φ : Outcome → State → Prop} (X : Stand p l e R s m args below meth c T locs cells slots) (hx : p.tables.exec = Jvm.exec) {pc : Nat} (pc' : Nat) {Ls : Array Slot} {S : List Value} {x y : UInt64} (hd : decode c.code pc = .ok (.dadd, 1)) (hn : Jvm.Free.Fl.NoNaN64 (FP.dadd x y)) (h : own_Gs p e below Φ (T.setTop (mkF m pc' Ls (.double (FP.dadd x y) :: S)))) (hp : pc + 1 = pc' := by rfl) : own_Gs p e below Φ (T.setTop (mkF m pc Ls (.double y :: .double x :: S))) := by
  subst hp; exact own_st (fun t k => XS.daddS X.here hx rfl hd rfl hn rfl k) h
theorem own_dsub {Φ : Outcome → State → Prop} (X : Stand p l e R s m args below meth c T locs cells slots) (hx : p.tables.exec = Jvm.exec) {pc : Nat} (pc' : Nat) {Ls : Array Slot} {S : List Value} {x y : UInt64} (hd : decode c.code pc = .ok (.dsub, 1)) (hn : Jvm.Free.Fl.NoNaN64 (FP.dsub x y)) (h : own_Gs p e below Φ (T.setTop (mkF m pc' Ls (.double (FP.dsub x y) :: S)))) (hp : pc + 1 = pc' := by rfl) : own_Gs p e below Φ (T.setTop (mkF m pc Ls (.double y :: .double x :: S))) := by
  subst hp; exact own_st (fun t k => XS.dsubS X.here hx rfl hd rfl hn rfl k) h
theorem own_dmul {Φ : Outcome → State → Prop} (X : Stand p l e R s m args below meth c T locs cells slots) (hx : p.tables.exec = Jvm.exec) {pc : Nat} (pc' : Nat) {Ls : Array Slot} {S : List Value} {x y : UInt64} (hd : decode c.code pc = .ok (.dmul, 1)) (hn : Jvm.Free.Fl.NoNaN64 (FP.dmul x y)) (h : own_Gs p e below Φ (T.setTop (mkF m pc' Ls (.double (FP.dmul x y) :: S)))) (hp : pc + 1 = pc' := by rfl) : own_Gs p e below Φ (T.setTop (mkF m pc Ls (.double y :: .double x :: S))) := by
  subst hp; exact own_st (fun t k => XS.dmulS X.here hx rfl hd rfl hn rfl k) h
theorem own_ddiv {Φ : Outcome → State → Prop} (X : Stand p l e R s m args below meth c T locs cells slots) (hx : p.tables.exec = Jvm.exec) {pc : Nat} (pc' : Nat) {Ls : Array Slot} {S : List Value} {x y : UInt64} (hd : decode c.code pc = .ok (.ddiv, 1)) (hn : Jvm.Free.Fl.NoNaN64 (FP.ddiv x y)) (h : own_Gs p e below Φ (T.setTop (mkF m pc' Ls (.double (FP.ddiv x y) :: S)))) (hp : pc + 1 = pc' := by rfl) : own_Gs p e below Φ (T.setTop (mkF m pc Ls (.double y :: .double x :: S))) := by
  subst hp; exact own_st (fun t k => XS.ddivS X.here hx rfl hd rfl hn rfl k) h
theorem own_dcmp {Φ : Outcome → State → Prop} (X : Stand p l e R s m args below meth c T locs cells slots) (hx : p.tables.exec = Jvm.exec) {pc : Nat} (pc' : Nat) {Ls : Array Slot} {S : List Value} {x y : UInt64} {o : CmpOp} (z : Int32) (hd : decode c.code pc = .ok (.dcmp o, 1)) (hz : cmpValue (FP.dcmp x y) o = z) (h : own_Gs p e below Φ (T.setTop (mkF m pc' Ls (.int z :: S)))) (hp : pc + 1 = pc' := by rfl) : own_Gs p e below Φ (T.setTop (mkF m pc Ls (.double y :: .double x :: S))) := by
  subst hp; exact own_st (fun t k => XS.dcmpS X.here hx rfl hd rfl hz k) h
theorem own_goto {Φ : Outcome → State → Prop} (X : Stand p l e R s m args below meth c T locs cells slots) (hx : p.tables.exec = Jvm.exec) {pc : Nat} (pc' : Nat) {Ls : Array Slot} {S : List Value} {o : Int}  (hd : decode c.code pc = .ok (.goto o, 3)) (h : own_Gs p e below Φ (T.setTop (mkF m pc' Ls S))) (hp : decide (0 ≤ (pc : Int) + o ∧ ((pc : Int) + o).toNat = pc') = true := by rfl) : own_Gs p e below Φ (T.setTop (mkF m pc Ls (S))) := by
  have q := of_decide_eq_true hp; exact own_st (fun t k => XS.goto X.here hx rfl (pc0 := pc) (pc' := pc') rfl hd q.1 q.2 k) h
theorem own_ifYes {Φ : Outcome → State → Prop} (X : Stand p l e R s m args below meth c T locs cells slots) (hx : p.tables.exec = Jvm.exec) {pc : Nat} (pc' : Nat) {Ls : Array Slot} {S : List Value} {o : Int} {cd : ClassFile.Cond} {x : Int32} (hd : decode c.code pc = .ok (.ifCond cd o, 3)) (hc : if_icmp.holds cd x 0 = true) (h : own_Gs p e below Φ (T.setTop (mkF m pc' Ls S))) (hp : decide (0 ≤ (pc : Int) + o ∧ ((pc : Int) + o).toNat = pc') = true := by rfl) : own_Gs p e below Φ (T.setTop (mkF m pc Ls (.int x :: S))) := by
  have q := of_decide_eq_true hp; exact own_st (fun t k => XS.ifYes X.here hx rfl (pc0 := pc) (pc' := pc') rfl hd rfl ((if0 _ _).trans hc) q.1 q.2 k) h
theorem own_ifNo {Φ : Outcome → State → Prop} (X : Stand p l e R s m args below meth c T locs cells slots) (hx : p.tables.exec = Jvm.exec) {pc : Nat} (pc' : Nat) {Ls : Array Slot} {S : List Value} {o : Int} {cd : ClassFile.Cond} {x : Int32} (hd : decode c.code pc = .ok (.ifCond cd o, 3)) (hc : if_icmp.holds cd x 0 = false) (h : own_Gs p e below Φ (T.setTop (mkF m pc' Ls S))) (hp : pc + 3 = pc' := by rfl) : own_Gs p e below Φ (T.setTop (mkF m pc Ls (.int x :: S))) := by
  subst hp; exact own_st (fun t k => XS.ifNo X.here hx rfl hd rfl ((if0 _ _).trans hc) k) h
theorem own_icmpYes {Φ : Outcome → State → Prop} (X : Stand p l e R s m args below meth c T locs cells slots) (hx : p.tables.exec = Jvm.exec) {pc : Nat} (pc' : Nat) {Ls : Array Slot} {S : List Value} {o : Int} {cd : ClassFile.Cond} {x y : Int32} (hd : decode c.code pc = .ok (.if_icmp cd o, 3)) (hc : if_icmp.holds cd x y = true) (h : own_Gs p e below Φ (T.setTop (mkF m pc' Ls S))) (hp : decide (0 ≤ (pc : Int) + o ∧ ((pc : Int) + o).toNat = pc') = true := by rfl) : own_Gs p e below Φ (T.setTop (mkF m pc Ls (.int y :: .int x :: S))) := by
  have q := of_decide_eq_true hp; exact own_st (fun t k => XS.icmpYes X.here hx rfl (pc0 := pc) (pc' := pc') rfl hd rfl hc q.1 q.2 k) h
theorem own_icmpNo {Φ : Outcome → State → Prop} (X : Stand p l e R s m args below meth c T locs cells slots) (hx : p.tables.exec = Jvm.exec) {pc : Nat} (pc' : Nat) {Ls : Array Slot} {S : List Value} {o : Int} {cd : ClassFile.Cond} {x y : Int32} (hd : decode c.code pc = .ok (.if_icmp cd o, 3)) (hc : if_icmp.holds cd x y = false) (h : own_Gs p e below Φ (T.setTop (mkF m pc' Ls S))) (hp : pc + 3 = pc' := by rfl) : own_Gs p e below Φ (T.setTop (mkF m pc Ls (.int y :: .int x :: S))) := by
  subst hp; exact own_st (fun t k => XS.icmpNo X.here hx rfl hd rfl hc k) h
theorem own_ifnullYes {Φ : Outcome → State → Prop} (X : Stand p l e R s m args below meth c T locs cells slots) (hx : p.tables.exec = Jvm.exec) {pc : Nat} (pc' : Nat) {Ls : Array Slot} {S : List Value} {o : Int}  (hd : decode c.code pc = .ok (.ifnull o, 3)) (h : own_Gs p e below Φ (T.setTop (mkF m pc' Ls S))) (hp : decide (0 ≤ (pc : Int) + o ∧ ((pc : Int) + o).toNat = pc') = true := by rfl) : own_Gs p e below Φ (T.setTop (mkF m pc Ls (.null :: S))) := by
  have q := of_decide_eq_true hp; exact own_st (fun t k => XS.ifnullYes X.here hx rfl (pc0 := pc) (pc' := pc') rfl hd rfl q.1 q.2 k) h
theorem own_ifnullNo {Φ : Outcome → State → Prop} (X : Stand p l e R s m args below meth c T locs cells slots) (hx : p.tables.exec = Jvm.exec) {pc : Nat} (pc' : Nat) {Ls : Array Slot} {S : List Value} {o : Int} {b : Addr} (hd : decode c.code pc = .ok (.ifnull o, 3)) (h : own_Gs p e below Φ (T.setTop (mkF m pc' Ls S))) (hp : pc + 3 = pc' := by rfl) : own_Gs p e below Φ (T.setTop (mkF m pc Ls (.ref b :: S))) := by
  subst hp; exact own_st (fun t k => XS.ifnullNo X.here hx rfl hd rfl k) h
theorem own_ifnonnullYes {Φ : Outcome → State → Prop} (X : Stand p l e R s m args below meth c T locs cells slots) (hx : p.tables.exec = Jvm.exec) {pc : Nat} (pc' : Nat) {Ls : Array Slot} {S : List Value} {o : Int} {b : Addr} (hd : decode c.code pc = .ok (.ifnonnull o, 3)) (h : own_Gs p e below Φ (T.setTop (mkF m pc' Ls S))) (hp : decide (0 ≤ (pc : Int) + o ∧ ((pc : Int) + o).toNat = pc') = true := by rfl) : own_Gs p e below Φ (T.setTop (mkF m pc Ls (.ref b :: S))) := by
  have q := of_decide_eq_true hp; exact own_st (fun t k => XS.ifnonnullYes X.here hx rfl (pc0 := pc) (pc' := pc') rfl hd rfl q.1 q.2 k) h
theorem own_ifnonnullNo {Φ : Outcome → State → Prop} (X : Stand p l e R s m args below meth c T locs cells slots) (hx : p.tables.exec = Jvm.exec) {pc : Nat} (pc' : Nat) {Ls : Array Slot} {S : List Value} {o : Int}  (hd : decode c.code pc = .ok (.ifnonnull o, 3)) (h : own_Gs p e below Φ (T.setTop (mkF m pc' Ls S))) (hp : pc + 3 = pc' := by rfl) : own_Gs p e below Φ (T.setTop (mkF m pc Ls (.null :: S))) := by
  subst hp; exact own_st (fun t k => XS.ifnonnullNo X.here hx rfl hd rfl k) h
theorem own_acmp {Φ : Outcome → State → Prop} (X : Stand p l e R s m args below meth c T locs cells slots) (hx : p.tables.exec = Jvm.exec) {pc : Nat} (pc' : Nat) {Ls : Array Slot} {S : List Value} {o : Int} {cd : ACond} {v w : Value} (same : Bool) (hd : decode c.code pc = .ok (.if_acmp cd o, 3)) (h1 : v.isRef = true) (h2 : w.isRef = true) (hq : decide (v = w) = same) (h : own_Gs p e below Φ (T.setTop (mkF m pc' Ls S))) (hp : decide (0 ≤ (pc : Int) + o ∧ pc' = if acV cd same = true then ((pc : Int) + o).toNat else pc + 3) = true := by rfl) : own_Gs p e below Φ (T.setTop (mkF m pc Ls (w :: v :: S))) := by
  have q := of_decide_eq_true hp; exact own_st (fun t k => Jvm.RoadKit.acmp (g := mkF m pc Ls (w :: v :: S)) X hx rfl h1 h2 (pc0 := pc) (pc' := pc') (same := same) rfl hd rfl hq q.1 q.2 k) h
theorem own_ldcI {Φ : Outcome → State → Prop} (X : Stand p l e R s m args below meth c T locs cells slots) (hx : p.tables.exec = Jvm.exec) {pc : Nat} (pc' : Nat) {Ls : Array Slot} {S : List Value} {own : String} {index : Nat} {v : Int32} (hown : s.vm.findClass own = some m.cls) (hw : (Jvm.Cond.constant own index v).before args s = true) (hd : decode c.code pc = .ok (.ldc index, 2)) (h : own_Gs p e below Φ (T.setTop (mkF m pc' Ls (.int v :: S)))) (hp : pc + 2 = pc' := by rfl) : own_Gs p e below Φ (T.setTop (mkF m pc Ls S)) := by
  subst hp; exact own_st (fun t k => X.ldcInt hx hown hw (g := mkF m pc Ls S) rfl hd _ k) h
theorem own_ldcwI {Φ : Outcome → State → Prop} (X : Stand p l e R s m args below meth c T locs cells slots) (hx : p.tables.exec = Jvm.exec) {pc : Nat} (pc' : Nat) {Ls : Array Slot} {S : List Value} {own : String} {index : Nat} {v : Int32} (hown : s.vm.findClass own = some m.cls) (hw : (Jvm.Cond.constant own index v).before args s = true) (hd : decode c.code pc = .ok (.ldc_w index, 3)) (h : own_Gs p e below Φ (T.setTop (mkF m pc' Ls (.int v :: S)))) (hp : pc + 3 = pc' := by rfl) : own_Gs p e below Φ (T.setTop (mkF m pc Ls S)) := by
  subst hp; exact own_st (fun t k => X.ldcwInt hx hown hw (g := mkF m pc Ls S) rfl hd _ k) h
theorem own_ldcL {Φ : Outcome → State → Prop} (X : Stand p l e R s m args below meth c T locs cells slots) (hx : p.tables.exec = Jvm.exec) {pc : Nat} (pc' : Nat) {Ls : Array Slot} {S : List Value} {own : String} {index : Nat} {v : Int64} (hown : s.vm.findClass own = some m.cls) (hw : (Jvm.Cond.constantLong own index v).before args s = true) (hd : decode c.code pc = .ok (.ldc2_w index, 3)) (h : own_Gs p e below Φ (T.setTop (mkF m pc' Ls (.long v :: S)))) (hp : pc + 3 = pc' := by rfl) : own_Gs p e below Φ (T.setTop (mkF m pc Ls S)) := by
  subst hp; exact own_st (fun t k => X.ldc2Long hx hown hw (g := mkF m pc Ls S) rfl hd _ k) h
theorem own_ldcD {Φ : Outcome → State → Prop} (X : Stand p l e R s m args below meth c T locs cells slots) (hx : p.tables.exec = Jvm.exec) {pc : Nat} (pc' : Nat) {Ls : Array Slot} {S : List Value} {own : String} {index : Nat} {v : UInt64} (hown : s.vm.findClass own = some m.cls) (hw : (Jvm.Cond.constantDouble own index v).before args s = true) (hd : decode c.code pc = .ok (.ldc2_w index, 3)) (h : own_Gs p e below Φ (T.setTop (mkF m pc' Ls (.double v :: S)))) (hp : pc + 3 = pc' := by rfl) : own_Gs p e below Φ (T.setTop (mkF m pc Ls S)) := by
  subst hp; exact own_st (fun t k => X.ldc2DoubleC hx hown hw (g := mkF m pc Ls S) rfl hd _ k) h
theorem own_pop2L {Φ : Outcome → State → Prop} (X : Stand p l e R s m args below meth c T locs cells slots) (hx : p.tables.exec = Jvm.exec) {pc : Nat} (pc' : Nat) {Ls : Array Slot} {S : List Value} {x : Int64} (hd : decode c.code pc = .ok (.pop2, 1)) (h : own_Gs p e below Φ (T.setTop (mkF m pc' Ls S))) (hp : pc + 1 = pc' := by rfl) : own_Gs p e below Φ (T.setTop (mkF m pc Ls (.long x :: S))) := by
  subst hp
  refine own_st (fun t k => ?_) h
  show Steps p.tables e below (T.setTop { method := m, pc := pc, locals := Ls, stack := .long x :: S, locked := none }) _
  jvm_step X.here [X.here.top, hx, hd, Value.category]
  exact k
-- end of steps
theorem own_leafI {z w : Int32} (h : z = w) : some (Value.int z) = some (Value.int w) := by rw [h]
theorem own_leafJ {z w : Int64} (h : z = w) : some (Value.long z) = some (Value.long w) := by rw [h]
theorem own_leafR {z w : Addr} (h : z = w) : some (Value.ref z) = some (Value.ref w) := by rw [h]
theorem own_selfsel {Z s : State} {a0 args : Array Value} {y : MethodName} {n : Nat} (hZ : Z.Warmed39 s.vm) (wi : (Jvm.Cond.instantiable y.cls n).before a0 Z = true) (wm : (Jvm.Cond.instanceMethod y).before a0 Z = true) (wp : (Jvm.Cond.privateMethod y).before a0 Z = true) (hy : y.cls ≠ "java/lang/invoke/MethodHandle" ∧ y.cls ≠ "java/lang/invoke/VarHandle") : (Jvm.Cond.selects y.cls y y).before args s = true := by
  have wi' : (Jvm.Cond.instantiable y.cls n).before args s = true := mvT hZ wi
  obtain ⟨c, k, h1, h2, h3, h4, h5, h6⟩ := Cond.instantiable_spec wi'
  exact selects_self_of_private h1 h2 (by simp only [Bool.or_eq_false_iff] at h4; exact h4.1) (Cond.privateMethod_at (mvP hZ wp (args := #[]))) (mvT hZ wm) hy
theorem own_sta {Z : State} {a0 : Array Value} {C n d K : String} (hx : (Jvm.Cond.exactly (Term.static C n d) K).value a0 Z none Z [] = some true) (hi : (Jvm.Cond.initializedFor C n d).before a0 Z = true ∨ ((Jvm.Cond.initialized C).before a0 Z = true ∧ (Jvm.Cond.laysStatic C n d).before a0 Z = true)) :
    ∃ a : Addr, (Term.static C n d).eval a0 Z none [] Z = some (.ref a) ∧ Sta Z Z.heap C n d (.ref a) ∧ Exa Z Z.heap a K := by
  obtain ⟨a, ha⟩ := exa_v hx
  exact ⟨a, ha, Sta.start ha hi, Exa.start ha hx⟩
theorem own_fldI {Z : State} {a0 : Array Value} {t : Term} {a : Addr} {C n d : String} {k : Int32} (ev : t.eval a0 Z none [] Z = some (.ref a)) (h : (Jvm.Cond.eq (Term.field t C n d) (Term.int k)).value a0 Z none Z [] = some true) : Fld Z Z.heap a C n d (.int k) := by
  refine Fld.start ?_
  rw [← fld_at (args := a0) (first := Z) (o := none) (idx := []) ev]
  obtain ⟨x, y, h1, h2, h3, h4⟩ := cmp_v (Or.inl h)
  rw [Term.int_eval] at h2
  cases h2
  obtain ⟨z, rfl⟩ := h4
  have q : (Jvm.Cond.eq (Term.field t C n d) (Term.int k)).value a0 Z none Z [] = some (decide (z = k)) := Cond.eq_ints h1 (Term.int_eval k)
  rw [h1, gotT q h]
end Own
theorem own_d3_0 : decode method_2_code 0 = .ok (.iload_n 2, 1) := by decide +kernel
theorem own_d3_1 : decode method_2_code 1 = .ok (.ifCond .ne 8, 3) := by decide +kernel
theorem own_d3_4 : decode method_2_code 4 = .ok (.lload_n 0, 1) := by decide +kernel
theorem own_d3_5 : decode method_2_code 5 = .ok (.l2i, 1) := by decide +kernel
theorem own_d3_6 : decode method_2_code 6 = .ok (.i2s, 1) := by decide +kernel
theorem own_d3_7 : decode method_2_code 7 = .ok (.i2l, 1) := by decide +kernel
theorem own_d3_8 : decode method_2_code 8 = .ok (.lreturn, 1) := by decide +kernel
theorem own_d3_9 : decode method_2_code 9 = .ok (.iload_n 2, 1) := by decide +kernel
theorem own_d3_10 : decode method_2_code 10 = .ok (.iconst 1, 1) := by decide +kernel
theorem own_d3_11 : decode method_2_code 11 = .ok (.if_icmp .ne 11, 3) := by decide +kernel
theorem own_d3_14 : decode method_2_code 14 = .ok (.lload_n 0, 1) := by decide +kernel
theorem own_d3_15 : decode method_2_code 15 = .ok (.bipush 16, 2) := by decide +kernel
theorem own_d3_17 : decode method_2_code 17 = .ok (.lshr, 1) := by decide +kernel
theorem own_d3_18 : decode method_2_code 18 = .ok (.l2i, 1) := by decide +kernel
theorem own_d3_19 : decode method_2_code 19 = .ok (.i2s, 1) := by decide +kernel
theorem own_d3_20 : decode method_2_code 20 = .ok (.i2l, 1) := by decide +kernel
theorem own_d3_21 : decode method_2_code 21 = .ok (.lreturn, 1) := by decide +kernel
theorem own_d3_22 : decode method_2_code 22 = .ok (.iload_n 2, 1) := by decide +kernel
theorem own_d3_23 : decode method_2_code 23 = .ok (.iconst 2, 1) := by decide +kernel
theorem own_d3_24 : decode method_2_code 24 = .ok (.if_icmp .ne 11, 3) := by decide +kernel
theorem own_d3_27 : decode method_2_code 27 = .ok (.lload_n 0, 1) := by decide +kernel
theorem own_d3_28 : decode method_2_code 28 = .ok (.bipush 32, 2) := by decide +kernel
theorem own_d3_30 : decode method_2_code 30 = .ok (.lshr, 1) := by decide +kernel
theorem own_d3_31 : decode method_2_code 31 = .ok (.l2i, 1) := by decide +kernel
theorem own_d3_32 : decode method_2_code 32 = .ok (.i2s, 1) := by decide +kernel
theorem own_d3_33 : decode method_2_code 33 = .ok (.i2l, 1) := by decide +kernel
theorem own_d3_34 : decode method_2_code 34 = .ok (.lreturn, 1) := by decide +kernel
theorem own_d3_35 : decode method_2_code 35 = .ok (.lload_n 0, 1) := by decide +kernel
theorem own_d3_36 : decode method_2_code 36 = .ok (.bipush 48, 2) := by decide +kernel
theorem own_d3_38 : decode method_2_code 38 = .ok (.lshr, 1) := by decide +kernel
theorem own_d3_39 : decode method_2_code 39 = .ok (.l2i, 1) := by decide +kernel
theorem own_d3_40 : decode method_2_code 40 = .ok (.i2s, 1) := by decide +kernel
theorem own_d3_41 : decode method_2_code 41 = .ok (.i2l, 1) := by decide +kernel
theorem own_d3_42 : decode method_2_code 42 = .ok (.lreturn, 1) := by decide +kernel
theorem own_pn0 : plainName "com/example/kalends/kalends/MatricesDotPinLaw" = true := by first | (simp [plainName, overriddenIn]; done) | decide +kernel
theorem own_ef3 (m : MethodId) (q1 : Int64) (v2 : Int32) : entryFrame m #[(.long q1), (.int v2)] 3 = mkF m 0 #[.val (.long q1), .second, .val (.int v2)] [] := by first | (simp [entryFrame, mkF, argsToLocals, Value.category]; done) | rfl
def own_at (q1 : Int64) (v2 : Int32) : Int64 := (if v2 = (0 : Int32) then (((q1.toInt32).toInt16.toInt32).toInt64) else (if v2 = (1 : Int32) then ((((q1 >>> ((16 : Int32) &&& 0x3f).toInt64).toInt32).toInt16.toInt32).toInt64) else (if v2 = (2 : Int32) then ((((q1 >>> ((32 : Int32) &&& 0x3f).toInt64).toInt32).toInt16.toInt32).toInt64) else ((((q1 >>> ((48 : Int32) &&& 0x3f).toInt64).toInt32).toInt16.toInt32).toInt64))))
def own_Q3 (Z : State) (q1 : Int64) (v2 : Int32) (h0 : Heap) (n0 : Nat) (v : Option Value) (h : Heap) (L : List Loc) : Prop := v = some (.long (own_at q1 v2)) ∧ Fr n0 L ∧ h = h0
set_option maxRecDepth 65536 in
set_option maxHeartbeats 40000000 in
theorem own_rm3 (l : Launch) (Z : State) (a0 : Array Value) (hw : ∀ d ∈ tables_1, d.before a0 Z = true) (ws : List Jvm.Cond) (q1 : Int64) (v2 : Int32) (h0 : Heap) (n0 : Nat) (Z0 : n0 ≤ h0.size)  :
    MetFree l (⟨"com/example/kalends/kalends/MatricesDotPinLaw", "at", "(JI)J"⟩ : MethodName) (head1 (Jvm.Cond.code (⟨"com/example/kalends/kalends/MatricesDotPinLaw", "at", "(JI)J"⟩ : MethodName) method_2_code 3 (some .long) :: ws) ({ frames := 0, cells := 0, slots := 0, locals := 0 } : Room)) (fun a U => a = #[(.long q1), (.int v2)] ∧ Z.Warmed39 U.vm ∧ U.heap = h0) (fun _ _ _ _ _ => True) (fun _ U o U' => ∃ v L, o = .returned v ∧ own_Q3 Z q1 v2 h0 n0 v U'.heap L ∧ FrameEnd U o U' L ({ frames := 0, cells := 0, slots := 0, locals := 0 } : Room).cells ({ frames := 0, cells := 0, slots := 0, locals := 0 } : Room).slots) := by
  refine MetFree.of_bodySF (plainFor_of_name own_pn0) hisR ?_
  intro p e s m args below meth c s₁ Bd hml0 hP hK
  obtain ⟨rfl, hZ, hh⟩ := hP
  have hx := Bd.exec
  have hby := Bd.bytes
  have hlk := Bd.notSynchronized
  have hrt := Bd.returns
  have hml : c.maxLocals = 3 := hml0
  have hown : s.vm.findClass "com/example/kalends/kalends/MatricesDotPinLaw" = some m.cls := findClass_of_methodNamed Bd.named
  have hnm := (name_of_methodNamed Bd.named Bd.method).1
  have X0 : Stand p l e ({ frames := 0, cells := 0, slots := 0, locals := 0 } : Room) s m #[(.long q1), (.int v2)] below meth c s₁ [] 0 0 := Stand.of_body Bd
  have e0 : s₁.heap = h0 := by rw [← hh, Bd.state]; rfl
  have N0 := Fr.nil n0
  refine own_in (own_ef3 m q1 v2) ?_
  refine own_iloadN X0 hx 1 (hb hby own_d3_0) rfl ?_
  by_cases hc1_1 : v2 = (0 : Int32)
  · refine own_ifNo X0 hx 4 (hb hby own_d3_1) (teq hc1_1).2 ?_
    refine own_lloadN X0 hx 5 (hb hby own_d3_4) rfl ?_
    refine own_l2i X0 hx 6 (hb hby own_d3_5) ?_
    refine own_i2s X0 hx 7 (hb hby own_d3_6) ?_
    refine own_i2l X0 hx 8 (hb hby own_d3_7) ?_
    exact own_retL (z := (((q1.toInt32).toInt16.toInt32).toInt64)) (Q := own_Q3 Z q1 v2 h0 n0) X0 hx hrt (hb hby own_d3_8) hlk e0 ⟨(own_leafJ (show (((q1.toInt32).toInt16.toInt32).toInt64) = own_at q1 v2 from by unfold own_at; rw [if_pos hc1_1])), N0, rfl⟩ (by decide) (by decide)
  · refine own_ifYes X0 hx 9 (hb hby own_d3_1) (feq hc1_1).2 ?_
    refine own_iloadN X0 hx 10 (hb hby own_d3_9) rfl ?_
    refine own_iconst X0 hx 11 (1 : Int32) (hb hby own_d3_10) rfl ?_
    by_cases hc11_2 : v2 = (1 : Int32)
    · refine own_icmpNo X0 hx 14 (hb hby own_d3_11) (teq hc11_2).2 ?_
      refine own_lloadN X0 hx 15 (hb hby own_d3_14) rfl ?_
      refine own_bipush X0 hx 17 (16 : Int32) (hb hby own_d3_15) rfl ?_
      refine own_lshr X0 hx 18 (hb hby own_d3_17) ?_
      refine own_l2i X0 hx 19 (hb hby own_d3_18) ?_
      refine own_i2s X0 hx 20 (hb hby own_d3_19) ?_
      refine own_i2l X0 hx 21 (hb hby own_d3_20) ?_
      exact own_retL (z := ((((q1 >>> ((16 : Int32) &&& 0x3f).toInt64).toInt32).toInt16.toInt32).toInt64)) (Q := own_Q3 Z q1 v2 h0 n0) X0 hx hrt (hb hby own_d3_21) hlk e0 ⟨(own_leafJ (show ((((q1 >>> ((16 : Int32) &&& 0x3f).toInt64).toInt32).toInt16.toInt32).toInt64) = own_at q1 v2 from by unfold own_at; rw [if_neg hc1_1, if_pos hc11_2])), N0, rfl⟩ (by decide) (by decide)
    · refine own_icmpYes X0 hx 22 (hb hby own_d3_11) (feq hc11_2).2 ?_
      refine own_iloadN X0 hx 23 (hb hby own_d3_22) rfl ?_
      refine own_iconst X0 hx 24 (2 : Int32) (hb hby own_d3_23) rfl ?_
      by_cases hc24_3 : v2 = (2 : Int32)
      · refine own_icmpNo X0 hx 27 (hb hby own_d3_24) (teq hc24_3).2 ?_
        refine own_lloadN X0 hx 28 (hb hby own_d3_27) rfl ?_
        refine own_bipush X0 hx 30 (32 : Int32) (hb hby own_d3_28) rfl ?_
        refine own_lshr X0 hx 31 (hb hby own_d3_30) ?_
        refine own_l2i X0 hx 32 (hb hby own_d3_31) ?_
        refine own_i2s X0 hx 33 (hb hby own_d3_32) ?_
        refine own_i2l X0 hx 34 (hb hby own_d3_33) ?_
        exact own_retL (z := ((((q1 >>> ((32 : Int32) &&& 0x3f).toInt64).toInt32).toInt16.toInt32).toInt64)) (Q := own_Q3 Z q1 v2 h0 n0) X0 hx hrt (hb hby own_d3_34) hlk e0 ⟨(own_leafJ (show ((((q1 >>> ((32 : Int32) &&& 0x3f).toInt64).toInt32).toInt16.toInt32).toInt64) = own_at q1 v2 from by unfold own_at; rw [if_neg hc1_1, if_neg hc11_2, if_pos hc24_3])), N0, rfl⟩ (by decide) (by decide)
      · refine own_icmpYes X0 hx 35 (hb hby own_d3_24) (feq hc24_3).2 ?_
        refine own_lloadN X0 hx 36 (hb hby own_d3_35) rfl ?_
        refine own_bipush X0 hx 38 (48 : Int32) (hb hby own_d3_36) rfl ?_
        refine own_lshr X0 hx 39 (hb hby own_d3_38) ?_
        refine own_l2i X0 hx 40 (hb hby own_d3_39) ?_
        refine own_i2s X0 hx 41 (hb hby own_d3_40) ?_
        refine own_i2l X0 hx 42 (hb hby own_d3_41) ?_
        exact own_retL (z := ((((q1 >>> ((48 : Int32) &&& 0x3f).toInt64).toInt32).toInt16.toInt32).toInt64)) (Q := own_Q3 Z q1 v2 h0 n0) X0 hx hrt (hb hby own_d3_42) hlk e0 ⟨(own_leafJ (show ((((q1 >>> ((48 : Int32) &&& 0x3f).toInt64).toInt32).toInt16.toInt32).toInt64) = own_at q1 v2 from by unfold own_at; rw [if_neg hc1_1, if_neg hc11_2, if_neg hc24_3])), N0, rfl⟩ (by decide) (by decide)
theorem own_i2sb (v : Int32) : -32768 ≤ (v.toInt16.toInt32).toInt ∧ (v.toInt16.toInt32).toInt ≤ 32767 := by
  have := c_i2s v; omega
theorem own_at16 (q : Int64) (i : Int32) : -32768 ≤ (own_at q i).toInt ∧ (own_at q i).toInt ≤ 32767 := by
  unfold own_at
  repeat' split
  all_goals (rw [c_i2l]; exact own_i2sb _)
theorem own_nn {i : Int} {a : UInt64} (h : FP.Core.DInt i a) : Jvm.Free.Fl.NoNaN64 a := Jvm.Free.Fl.val64_no.mpr fun q => by
  unfold FP.Core.DInt at h; rw [q] at h; exact h
theorem own_d0 : FP.Core.DInt (0 : Int64).toInt FP.dconst0 ∧ (0 : Int64).toInt.natAbs ≤ 0 := by
  refine ⟨?_, by decide⟩
  have h := FP.Core.l2d_int (a := 0) (by decide)
  have e : FP.Core.l2d 0 = FP.dconst0 := by decide +kernel
  rw [e] at h; exact h
theorem own_abs {x y : Int64} (hx : -32768 ≤ x.toInt ∧ x.toInt ≤ 32767) (hy : -32768 ≤ y.toInt ∧ y.toInt ≤ 32767) : (x.toInt * y.toInt).natAbs ≤ 1073741824 := by
  rw [Int.natAbs_mul]
  exact Nat.mul_le_mul (show x.toInt.natAbs ≤ 32768 by omega) (show y.toInt.natAbs ≤ 32768 by omega)
theorem own_mul {x y : Int64} (hx : -32768 ≤ x.toInt ∧ x.toInt ≤ 32767) (hy : -32768 ≤ y.toInt ∧ y.toInt ≤ 32767) : FP.Core.DInt (x.toInt * y.toInt) (FP.dmul (FP.l2d x) (FP.l2d y)) := by
  have h := own_abs hx hy
  exact FP.Core.dmul_int (FP.Core.l2d_int (by omega)) (FP.Core.l2d_int (by omega)) (by omega)
theorem own_fma {s x y : Int64} {a : UInt64} {B : Nat} (hs : FP.Core.DInt s.toInt a ∧ s.toInt.natAbs ≤ B) (hx : -32768 ≤ x.toInt ∧ x.toInt ≤ 32767) (hy : -32768 ≤ y.toInt ∧ y.toInt ≤ 32767) (hB : B ≤ 4294967296) : FP.Core.DInt (s + (x * y)).toInt (FP.dadd a (FP.dmul (FP.l2d x) (FP.l2d y))) ∧ (s + (x * y)).toInt.natAbs ≤ B + 1073741824 := by
  have h := own_abs hx hy
  have h1 := c_lmul x y; have r1 := rng64 (x * y)
  have h2 := c_ladd s (x * y); have r2 := rng64 (s + x * y)
  have hp := own_mul hx hy
  generalize x.toInt * y.toInt = p at *
  have e1 : (x * y).toInt = p := by omega
  have e2 : (s + x * y).toInt = s.toInt + p := by omega
  rw [e2]
  exact ⟨FP.Core.dadd_int hs.1 hp (by omega), by omega⟩
theorem own_end {s : Int64} {a : UInt64} {B : Nat} (hs : FP.Core.DInt s.toInt a ∧ s.toInt.natAbs ≤ B) (hB : B ≤ 4294967296) : FP.Core.DInt s.toInt a ∧ s.toInt.natAbs ≤ 4294967296 := ⟨hs.1, Nat.le_trans hs.2 hB⟩
theorem own_cmp0 {s : Int64} {a : UInt64} (h : FP.Core.DInt s.toInt a ∧ s.toInt.natAbs ≤ 4294967296) : cmpValue (FP.dcmp a (FP.l2d s)) .l = (0 : Int32) := by
  have q := FP.Core.dcmp_int h.1 (FP.Core.l2d_int (a := s) (by have := h.2; omega))
  rw [FP.Core.compare_self_int] at q
  show cmpValue (FP.Core.dcmp a (FP.l2d s)) .l = 0
  rw [q]; rfl

theorem own_d1_0 : decode method_3_code 0 = .ok (.iload_n 0, 1) := by decide +kernel
theorem own_d1_1 : decode method_3_code 1 = .ok (.newarray .double, 2) := by decide +kernel
theorem own_d1_3 : decode method_3_code 3 = .ok (.astore_n 3, 1) := by decide +kernel
theorem own_d1_4 : decode method_3_code 4 = .ok (.iload_n 0, 1) := by decide +kernel
theorem own_d1_5 : decode method_3_code 5 = .ok (.ifCond .le 12, 3) := by decide +kernel
theorem own_d1_17 : decode method_3_code 17 = .ok (.iload_n 0, 1) := by decide +kernel
theorem own_d1_18 : decode method_3_code 18 = .ok (.iconst 1, 1) := by decide +kernel
theorem own_d1_19 : decode method_3_code 19 = .ok (.if_icmp .le 12, 3) := by decide +kernel
theorem own_d1_31 : decode method_3_code 31 = .ok (.iload_n 0, 1) := by decide +kernel
theorem own_d1_32 : decode method_3_code 32 = .ok (.iconst 2, 1) := by decide +kernel
theorem own_d1_33 : decode method_3_code 33 = .ok (.if_icmp .le 12, 3) := by decide +kernel
theorem own_d1_45 : decode method_3_code 45 = .ok (.iload_n 0, 1) := by decide +kernel
theorem own_d1_46 : decode method_3_code 46 = .ok (.iconst 3, 1) := by decide +kernel
theorem own_d1_47 : decode method_3_code 47 = .ok (.if_icmp .le 12, 3) := by decide +kernel
theorem own_d1_59 : decode method_3_code 59 = .ok (.aload_n 3, 1) := by decide +kernel
theorem own_d1_60 : decode method_3_code 60 = .ok (.areturn, 1) := by decide +kernel
theorem own_ef1n0 (m : MethodId) (q1 : Int64) : entryFrame m #[(.int (0 : Int32)), (.long q1)] 4 = mkF m 0 #[.val (.int (0 : Int32)), .val (.long q1), .second, .unset] [] := by first | (simp [entryFrame, mkF, argsToLocals, Value.category]; done) | rfl
def own_Q1n0 (Z : State) (q1 : Int64) (h0 : Heap) (n0 : Nat) (v : Option Value) (h : Heap) (L : List Loc) : Prop := ∃ bb : Addr, ∃ kb : ClassId, v = some (.ref bb) ∧ Fr n0 L ∧ Keep h0 h [] ∧ h0.size ≤ bb ∧ Arv Z h bb kb .double (0 : Int32) [] (.double (0 : UInt64))
set_option maxRecDepth 65536 in
set_option maxHeartbeats 40000000 in
theorem own_rm1n0 (l : Launch) (Z : State) (a0 : Array Value) (hw : ∀ d ∈ tables_1, d.before a0 Z = true) (ws : List Jvm.Cond) (q1 : Int64) (h0 : Heap) (n0 : Nat) (Z0 : n0 ≤ h0.size)  :
    MetFree l (⟨"com/example/kalends/kalends/MatricesDotPinLaw", "build", "(IJ)[D"⟩ : MethodName) (head1 (Jvm.Cond.code (⟨"com/example/kalends/kalends/MatricesDotPinLaw", "build", "(IJ)[D"⟩ : MethodName) method_3_code 4 (some (.array .double)) :: ws) ({ frames := 0, cells := 1, slots := 0, locals := 0 } : Room)) (fun a U => a = #[(.int (0 : Int32)), (.long q1)] ∧ Z.Warmed39 U.vm ∧ U.heap = h0) (fun _ _ _ _ _ => True) (fun _ U o U' => ∃ v L, o = .returned v ∧ own_Q1n0 Z q1 h0 n0 v U'.heap L ∧ FrameEnd U o U' L ({ frames := 0, cells := 1, slots := 0, locals := 0 } : Room).cells ({ frames := 0, cells := 1, slots := 0, locals := 0 } : Room).slots) := by
  refine MetFree.of_bodySF (plainFor_of_name own_pn0) hisR ?_
  intro p e s m args below meth c s₁ Bd hml0 hP hK
  obtain ⟨rfl, hZ, hh⟩ := hP
  have hx := Bd.exec
  have hby := Bd.bytes
  have hlk := Bd.notSynchronized
  have hrt := Bd.returns
  have hml : c.maxLocals = 4 := hml0
  have hown : s.vm.findClass "com/example/kalends/kalends/MatricesDotPinLaw" = some m.cls := findClass_of_methodNamed Bd.named
  have hnm := (name_of_methodNamed Bd.named Bd.method).1
  have X0 : Stand p l e ({ frames := 0, cells := 1, slots := 0, locals := 0 } : Room) s m #[(.int (0 : Int32)), (.long q1)] below meth c s₁ [] 0 0 := Stand.of_body Bd
  have e0 : s₁.heap = h0 := by rw [← hh, Bd.state]; rfl
  have N0 := Fr.nil n0
  have KC0 := Keep.refl h0 []
  refine own_in (own_ef1n0 m q1) ?_
  refine own_iloadN X0 hx 1 (hb hby own_d1_0) rfl ?_
  obtain ⟨T1, h1, k1, X1, e1, E1, A1, st1⟩ := newP X0 hx hZ (hw _ (List.mem_of_getElem? (i := 4) rfl)) e0 (g := (mkF m 1 #[.val (.int (0 : Int32)), .val (.long q1), .second, .unset] [(.int (0 : Int32))])) rfl (hb hby own_d1_1) rfl (by decide) (cap := 0) (by decide) (by decide) (by decide) (by decide)
  obtain ⟨b1, g1⟩ : ∃ z, z = h0.size := ⟨_, rfl⟩
  rw [← g1] at A1 st1
  have gt_b1 : n0 ≤ b1 := Nat.le_trans Z0 (Nat.le_of_eq g1.symm)
  have sz_b1 : h0.size ≤ b1 := Nat.le_trans KC0.1 (Nat.le_of_eq g1.symm)
  have V1 : Arv Z h1 b1 k1 .double (0 : Int32) [] (.double (0 : UInt64)) := (Arv.new A1 (by decide)).pad (pad_rep [] (.double (0 : UInt64)) 0)
  have KC2 := KC0.ext E1
  have Z3 := Nat.le_trans Z0 E1.1
  refine own_st (G' := T1.setTop (mkF m 3 #[.val (.int (0 : Int32)), .val (.long q1), .second, .unset] [(.ref b1)])) st1 ?_
  refine own_astoreN X1 hx 4 #[.val (.int (0 : Int32)), .val (.long q1), .second, .val (.ref b1)] (hb hby own_d1_3) rfl rfl ?_
  refine own_iloadN X1 hx 5 (hb hby own_d1_4) rfl ?_
  refine own_ifYes X1 hx 17 (hb hby own_d1_5) (flt (by decide : ¬ ((0 : Int32) < (0 : Int32)))).2.2.2 ?_
  refine own_iloadN X1 hx 18 (hb hby own_d1_17) rfl ?_
  refine own_iconst X1 hx 19 (1 : Int32) (hb hby own_d1_18) rfl ?_
  refine own_icmpYes X1 hx 31 (hb hby own_d1_19) (flt (by decide : ¬ ((1 : Int32) < (0 : Int32)))).2.2.2 ?_
  refine own_iloadN X1 hx 32 (hb hby own_d1_31) rfl ?_
  refine own_iconst X1 hx 33 (2 : Int32) (hb hby own_d1_32) rfl ?_
  refine own_icmpYes X1 hx 45 (hb hby own_d1_33) (flt (by decide : ¬ ((2 : Int32) < (0 : Int32)))).2.2.2 ?_
  refine own_iloadN X1 hx 46 (hb hby own_d1_45) rfl ?_
  refine own_iconst X1 hx 47 (3 : Int32) (hb hby own_d1_46) rfl ?_
  refine own_icmpYes X1 hx 59 (hb hby own_d1_47) (flt (by decide : ¬ ((3 : Int32) < (0 : Int32)))).2.2.2 ?_
  refine own_aloadN X1 hx 60 (hb hby own_d1_59) rfl rfl ?_
  exact own_retA (z := (.ref b1)) (Q := own_Q1n0 Z q1 h0 n0) X1 hx hrt rfl rfl (hb hby own_d1_60) hlk e1 ⟨b1, k1, rfl, N0, KC2, sz_b1, V1⟩ (by decide) (by decide)
theorem own_d1_8 : decode method_3_code 8 = .ok (.aload_n 3, 1) := by decide +kernel
theorem own_d1_9 : decode method_3_code 9 = .ok (.iconst 0, 1) := by decide +kernel
theorem own_d1_10 : decode method_3_code 10 = .ok (.lload_n 1, 1) := by decide +kernel
theorem own_d1_11 : decode method_3_code 11 = .ok (.iconst 0, 1) := by decide +kernel
theorem own_d1_12 : decode method_3_code 12 = .ok (.invokestatic 7, 3) := by decide +kernel
theorem own_d1_15 : decode method_3_code 15 = .ok (.l2d, 1) := by decide +kernel
theorem own_d1_16 : decode method_3_code 16 = .ok (.dastore, 1) := by decide +kernel
theorem own_pd0 : parseMethodDescriptor "(JI)J" = some ⟨[.long, .int], some .long⟩ := by decide +kernel
theorem own_ef1n1 (m : MethodId) (q1 : Int64) : entryFrame m #[(.int (1 : Int32)), (.long q1)] 4 = mkF m 0 #[.val (.int (1 : Int32)), .val (.long q1), .second, .unset] [] := by first | (simp [entryFrame, mkF, argsToLocals, Value.category]; done) | rfl
def own_Q1n1 (Z : State) (q1 : Int64) (h0 : Heap) (n0 : Nat) (v : Option Value) (h : Heap) (L : List Loc) : Prop := ∃ bb : Addr, ∃ kb : ClassId, v = some (.ref bb) ∧ Fr n0 L ∧ Keep h0 h [] ∧ h0.size ≤ bb ∧ Arv Z h bb kb .double (1 : Int32) [(.double (FP.l2d (own_at q1 (0 : Int32))))] (.double (0 : UInt64))
set_option maxRecDepth 65536 in
set_option maxHeartbeats 40000000 in
theorem own_rm1n1 (l : Launch) (Z : State) (a0 : Array Value) (hw : ∀ d ∈ tables_1, d.before a0 Z = true) (ws : List Jvm.Cond) (q1 : Int64) (h0 : Heap) (n0 : Nat) (Z0 : n0 ≤ h0.size)  :
    MetFree l (⟨"com/example/kalends/kalends/MatricesDotPinLaw", "build", "(IJ)[D"⟩ : MethodName) (head1 (Jvm.Cond.code (⟨"com/example/kalends/kalends/MatricesDotPinLaw", "build", "(IJ)[D"⟩ : MethodName) method_3_code 4 (some (.array .double)) :: ws) ({ frames := 1, cells := 1, slots := 1, locals := 16 } : Room)) (fun a U => a = #[(.int (1 : Int32)), (.long q1)] ∧ Z.Warmed39 U.vm ∧ U.heap = h0) (fun _ _ _ _ _ => True) (fun _ U o U' => ∃ v L, o = .returned v ∧ own_Q1n1 Z q1 h0 n0 v U'.heap L ∧ FrameEnd U o U' L ({ frames := 1, cells := 1, slots := 1, locals := 16 } : Room).cells ({ frames := 1, cells := 1, slots := 1, locals := 16 } : Room).slots) := by
  refine MetFree.of_bodySF (plainFor_of_name own_pn0) hisR ?_
  intro p e s m args below meth c s₁ Bd hml0 hP hK
  obtain ⟨rfl, hZ, hh⟩ := hP
  have hx := Bd.exec
  have hby := Bd.bytes
  have hlk := Bd.notSynchronized
  have hrt := Bd.returns
  have hml : c.maxLocals = 4 := hml0
  have hown : s.vm.findClass "com/example/kalends/kalends/MatricesDotPinLaw" = some m.cls := findClass_of_methodNamed Bd.named
  have hnm := (name_of_methodNamed Bd.named Bd.method).1
  have X0 : Stand p l e ({ frames := 1, cells := 1, slots := 1, locals := 16 } : Room) s m #[(.int (1 : Int32)), (.long q1)] below meth c s₁ [] 0 0 := Stand.of_body Bd
  have e0 : s₁.heap = h0 := by rw [← hh, Bd.state]; rfl
  have N0 := Fr.nil n0
  have KC0 := Keep.refl h0 []
  refine own_in (own_ef1n1 m q1) ?_
  refine own_iloadN X0 hx 1 (hb hby own_d1_0) rfl ?_
  obtain ⟨T1, h1, k1, X1, e1, E1, A1, st1⟩ := newP X0 hx hZ (hw _ (List.mem_of_getElem? (i := 4) rfl)) e0 (g := (mkF m 1 #[.val (.int (1 : Int32)), .val (.long q1), .second, .unset] [(.int (1 : Int32))])) rfl (hb hby own_d1_1) rfl (by decide) (cap := 1) (by decide) (by decide) (by decide) (by decide)
  obtain ⟨b1, g1⟩ : ∃ z, z = h0.size := ⟨_, rfl⟩
  rw [← g1] at A1 st1
  have gt_b1 : n0 ≤ b1 := Nat.le_trans Z0 (Nat.le_of_eq g1.symm)
  have sz_b1 : h0.size ≤ b1 := Nat.le_trans KC0.1 (Nat.le_of_eq g1.symm)
  have V1 : Arv Z h1 b1 k1 .double (1 : Int32) [(.double (0 : UInt64))] (.double (0 : UInt64)) := (Arv.new A1 (by decide)).pad (pad_rep [] (.double (0 : UInt64)) 1)
  have KC2 := KC0.ext E1
  have Z3 := Nat.le_trans Z0 E1.1
  refine own_st (G' := T1.setTop (mkF m 3 #[.val (.int (1 : Int32)), .val (.long q1), .second, .unset] [(.ref b1)])) st1 ?_
  refine own_astoreN X1 hx 4 #[.val (.int (1 : Int32)), .val (.long q1), .second, .val (.ref b1)] (hb hby own_d1_3) rfl rfl ?_
  refine own_iloadN X1 hx 5 (hb hby own_d1_4) rfl ?_
  refine own_ifNo X1 hx 8 (hb hby own_d1_5) (tlt (by decide : (0 : Int32) < (1 : Int32))).2.2.2 ?_
  refine own_aloadN X1 hx 9 (hb hby own_d1_8) rfl rfl ?_
  refine own_iconst X1 hx 10 (0 : Int32) (hb hby own_d1_9) rfl ?_
  refine own_lloadN X1 hx 11 (hb hby own_d1_10) rfl ?_
  refine own_iconst X1 hx 12 (0 : Int32) (hb hby own_d1_11) rfl ?_
  obtain ⟨_, _, ⟨T4, Lx4, kc4, nc4⟩, -, X4, ⟨Lc4, hQ4, lq4, yq4, zq4⟩, st4⟩ := Jvm.LawKit.callS X1 hx (y := (⟨"com/example/kalends/kalends/MatricesDotPinLaw", "at", "(JI)J"⟩ : MethodName)) hown (mvT hZ (hw _ (List.mem_of_getElem? (i := 9) rfl))) (mvT hZ (hw _ (List.mem_of_getElem? (i := 10) rfl))) (mvT hZ (hw _ (List.mem_of_getElem? (i := 2) rfl))) (mvT hZ (hw _ (List.mem_of_getElem? (i := 11) rfl))) (by decide) (backOf (W := 2) (own_rm3 l Z a0 hw [] q1 (0 : Int32) h1 n0 Z3 ) hZ (hw _ (List.mem_of_getElem? (i := 11) rfl)) (hw _ (List.mem_of_getElem? (i := 2) rfl)) (by decide) (by decide)) (g := (mkF m 12 #[.val (.int (1 : Int32)), .val (.long q1), .second, .val (.ref b1)] [(.int (0 : Int32)), (.long q1), (.int (0 : Int32)), (.ref b1)])) rfl (by rw [hml]; rfl) (argsL := [(.long q1), (.int (0 : Int32))]) (rest := [(.int (0 : Int32)), (.ref b1)]) (lenOf own_pd0 rfl) rfl (by show 2 * 0 + _ ≤ _; exact Nat.le_of_eq rfl) (hb hby own_d1_12) (fun _ _ => ⟨rfl, e1, (by decide : 1 + 0 ≤ _), (by decide : 1 + 0 ≤ _)⟩)
  dsimp only [Pt.U, Pt.locs, Pt.cells, Pt.slots] at X4 lq4 yq4 zq4 st4 hQ4
  subst lq4 yq4 zq4
  obtain ⟨rfl, Nq4, eh4⟩ := hQ4
  have N4 := Fr.app N0 Nq4
  refine own_st (G' := T4.setTop (mkF m 15 #[.val (.int (1 : Int32)), .val (.long q1), .second, .val (.ref b1)] [(.long (own_at q1 (0 : Int32))), (.int (0 : Int32)), (.ref b1)])) st4 ?_
  refine own_l2d X4 hx 16 (hb hby own_d1_15) ?_
  obtain ⟨cl5, Ar5, qv5, S5, M5, H5, G5⟩ := id V1
  have hin5 : ¬ ((0 : Int32) < 0 ∨ cl5.slots.size ≤ ((0 : Int32)).toNatClampNeg) := inb_of S5 ⟨by decide, by decide⟩
  obtain ⟨T5, h5, X5, e5, W5, st5⟩ := stD X4 hx hZ eh4 Ar5 (j := (0 : Int32)) hin5 (g := (mkF m 16 #[.val (.int (1 : Int32)), .val (.long q1), .second, .val (.ref b1)] [(.double (FP.l2d (own_at q1 (0 : Int32)))), (.int (0 : Int32)), (.ref b1)])) rfl rfl (hb hby own_d1_16)
  have V5 : Arv Z h5 b1 k1 .double (1 : Int32) [(.double (FP.l2d (own_at q1 (0 : Int32))))] (.double (0 : UInt64)) := Arv.set Ar5 qv5 S5 M5 H5 G5 rfl W5 0 rfl (Nat.le_of_ble_eq_true rfl)
  have N5 := Fr.snoc X5 N4 gt_b1
  have KC6 := KC2.wr W5 (Or.inr sz_b1)
  have Z7 := Nat.le_trans Z3 (Nat.le_of_eq W5.size.symm)
  refine own_st (G' := T5.setTop (mkF m 17 #[.val (.int (1 : Int32)), .val (.long q1), .second, .val (.ref b1)] [])) st5 ?_
  refine own_iloadN X5 hx 18 (hb hby own_d1_17) rfl ?_
  refine own_iconst X5 hx 19 (1 : Int32) (hb hby own_d1_18) rfl ?_
  refine own_icmpYes X5 hx 31 (hb hby own_d1_19) (flt (by decide : ¬ ((1 : Int32) < (1 : Int32)))).2.2.2 ?_
  refine own_iloadN X5 hx 32 (hb hby own_d1_31) rfl ?_
  refine own_iconst X5 hx 33 (2 : Int32) (hb hby own_d1_32) rfl ?_
  refine own_icmpYes X5 hx 45 (hb hby own_d1_33) (flt (by decide : ¬ ((2 : Int32) < (1 : Int32)))).2.2.2 ?_
  refine own_iloadN X5 hx 46 (hb hby own_d1_45) rfl ?_
  refine own_iconst X5 hx 47 (3 : Int32) (hb hby own_d1_46) rfl ?_
  refine own_icmpYes X5 hx 59 (hb hby own_d1_47) (flt (by decide : ¬ ((3 : Int32) < (1 : Int32)))).2.2.2 ?_
  refine own_aloadN X5 hx 60 (hb hby own_d1_59) rfl rfl ?_
  exact own_retA (z := (.ref b1)) (Q := own_Q1n1 Z q1 h0 n0) X5 hx hrt rfl rfl (hb hby own_d1_60) hlk e5 ⟨b1, k1, rfl, N5, KC6, sz_b1, V5⟩ (by decide) (by decide)
theorem own_d1_22 : decode method_3_code 22 = .ok (.aload_n 3, 1) := by decide +kernel
theorem own_d1_23 : decode method_3_code 23 = .ok (.iconst 1, 1) := by decide +kernel
theorem own_d1_24 : decode method_3_code 24 = .ok (.lload_n 1, 1) := by decide +kernel
theorem own_d1_25 : decode method_3_code 25 = .ok (.iconst 1, 1) := by decide +kernel
theorem own_d1_26 : decode method_3_code 26 = .ok (.invokestatic 7, 3) := by decide +kernel
theorem own_d1_29 : decode method_3_code 29 = .ok (.l2d, 1) := by decide +kernel
theorem own_d1_30 : decode method_3_code 30 = .ok (.dastore, 1) := by decide +kernel
theorem own_ef1n2 (m : MethodId) (q1 : Int64) : entryFrame m #[(.int (2 : Int32)), (.long q1)] 4 = mkF m 0 #[.val (.int (2 : Int32)), .val (.long q1), .second, .unset] [] := by first | (simp [entryFrame, mkF, argsToLocals, Value.category]; done) | rfl
def own_Q1n2 (Z : State) (q1 : Int64) (h0 : Heap) (n0 : Nat) (v : Option Value) (h : Heap) (L : List Loc) : Prop := ∃ bb : Addr, ∃ kb : ClassId, v = some (.ref bb) ∧ Fr n0 L ∧ Keep h0 h [] ∧ h0.size ≤ bb ∧ Arv Z h bb kb .double (2 : Int32) [(.double (FP.l2d (own_at q1 (0 : Int32)))), (.double (FP.l2d (own_at q1 (1 : Int32))))] (.double (0 : UInt64))
set_option maxRecDepth 65536 in
set_option maxHeartbeats 40000000 in
theorem own_rm1n2 (l : Launch) (Z : State) (a0 : Array Value) (hw : ∀ d ∈ tables_1, d.before a0 Z = true) (ws : List Jvm.Cond) (q1 : Int64) (h0 : Heap) (n0 : Nat) (Z0 : n0 ≤ h0.size)  :
    MetFree l (⟨"com/example/kalends/kalends/MatricesDotPinLaw", "build", "(IJ)[D"⟩ : MethodName) (head1 (Jvm.Cond.code (⟨"com/example/kalends/kalends/MatricesDotPinLaw", "build", "(IJ)[D"⟩ : MethodName) method_3_code 4 (some (.array .double)) :: ws) ({ frames := 1, cells := 1, slots := 2, locals := 16 } : Room)) (fun a U => a = #[(.int (2 : Int32)), (.long q1)] ∧ Z.Warmed39 U.vm ∧ U.heap = h0) (fun _ _ _ _ _ => True) (fun _ U o U' => ∃ v L, o = .returned v ∧ own_Q1n2 Z q1 h0 n0 v U'.heap L ∧ FrameEnd U o U' L ({ frames := 1, cells := 1, slots := 2, locals := 16 } : Room).cells ({ frames := 1, cells := 1, slots := 2, locals := 16 } : Room).slots) := by
  refine MetFree.of_bodySF (plainFor_of_name own_pn0) hisR ?_
  intro p e s m args below meth c s₁ Bd hml0 hP hK
  obtain ⟨rfl, hZ, hh⟩ := hP
  have hx := Bd.exec
  have hby := Bd.bytes
  have hlk := Bd.notSynchronized
  have hrt := Bd.returns
  have hml : c.maxLocals = 4 := hml0
  have hown : s.vm.findClass "com/example/kalends/kalends/MatricesDotPinLaw" = some m.cls := findClass_of_methodNamed Bd.named
  have hnm := (name_of_methodNamed Bd.named Bd.method).1
  have X0 : Stand p l e ({ frames := 1, cells := 1, slots := 2, locals := 16 } : Room) s m #[(.int (2 : Int32)), (.long q1)] below meth c s₁ [] 0 0 := Stand.of_body Bd
  have e0 : s₁.heap = h0 := by rw [← hh, Bd.state]; rfl
  have N0 := Fr.nil n0
  have KC0 := Keep.refl h0 []
  refine own_in (own_ef1n2 m q1) ?_
  refine own_iloadN X0 hx 1 (hb hby own_d1_0) rfl ?_
  obtain ⟨T1, h1, k1, X1, e1, E1, A1, st1⟩ := newP X0 hx hZ (hw _ (List.mem_of_getElem? (i := 4) rfl)) e0 (g := (mkF m 1 #[.val (.int (2 : Int32)), .val (.long q1), .second, .unset] [(.int (2 : Int32))])) rfl (hb hby own_d1_1) rfl (by decide) (cap := 2) (by decide) (by decide) (by decide) (by decide)
  obtain ⟨b1, g1⟩ : ∃ z, z = h0.size := ⟨_, rfl⟩
  rw [← g1] at A1 st1
  have gt_b1 : n0 ≤ b1 := Nat.le_trans Z0 (Nat.le_of_eq g1.symm)
  have sz_b1 : h0.size ≤ b1 := Nat.le_trans KC0.1 (Nat.le_of_eq g1.symm)
  have V1 : Arv Z h1 b1 k1 .double (2 : Int32) [(.double (0 : UInt64)), (.double (0 : UInt64))] (.double (0 : UInt64)) := (Arv.new A1 (by decide)).pad (pad_rep [] (.double (0 : UInt64)) 2)
  have KC2 := KC0.ext E1
  have Z3 := Nat.le_trans Z0 E1.1
  refine own_st (G' := T1.setTop (mkF m 3 #[.val (.int (2 : Int32)), .val (.long q1), .second, .unset] [(.ref b1)])) st1 ?_
  refine own_astoreN X1 hx 4 #[.val (.int (2 : Int32)), .val (.long q1), .second, .val (.ref b1)] (hb hby own_d1_3) rfl rfl ?_
  refine own_iloadN X1 hx 5 (hb hby own_d1_4) rfl ?_
  refine own_ifNo X1 hx 8 (hb hby own_d1_5) (tlt (by decide : (0 : Int32) < (2 : Int32))).2.2.2 ?_
  refine own_aloadN X1 hx 9 (hb hby own_d1_8) rfl rfl ?_
  refine own_iconst X1 hx 10 (0 : Int32) (hb hby own_d1_9) rfl ?_
  refine own_lloadN X1 hx 11 (hb hby own_d1_10) rfl ?_
  refine own_iconst X1 hx 12 (0 : Int32) (hb hby own_d1_11) rfl ?_
  obtain ⟨_, _, ⟨T4, Lx4, kc4, nc4⟩, -, X4, ⟨Lc4, hQ4, lq4, yq4, zq4⟩, st4⟩ := Jvm.LawKit.callS X1 hx (y := (⟨"com/example/kalends/kalends/MatricesDotPinLaw", "at", "(JI)J"⟩ : MethodName)) hown (mvT hZ (hw _ (List.mem_of_getElem? (i := 9) rfl))) (mvT hZ (hw _ (List.mem_of_getElem? (i := 10) rfl))) (mvT hZ (hw _ (List.mem_of_getElem? (i := 2) rfl))) (mvT hZ (hw _ (List.mem_of_getElem? (i := 11) rfl))) (by decide) (backOf (W := 2) (own_rm3 l Z a0 hw [] q1 (0 : Int32) h1 n0 Z3 ) hZ (hw _ (List.mem_of_getElem? (i := 11) rfl)) (hw _ (List.mem_of_getElem? (i := 2) rfl)) (by decide) (by decide)) (g := (mkF m 12 #[.val (.int (2 : Int32)), .val (.long q1), .second, .val (.ref b1)] [(.int (0 : Int32)), (.long q1), (.int (0 : Int32)), (.ref b1)])) rfl (by rw [hml]; rfl) (argsL := [(.long q1), (.int (0 : Int32))]) (rest := [(.int (0 : Int32)), (.ref b1)]) (lenOf own_pd0 rfl) rfl (by show 2 * 0 + _ ≤ _; exact Nat.le_of_eq rfl) (hb hby own_d1_12) (fun _ _ => ⟨rfl, e1, (by decide : 1 + 0 ≤ _), (by decide : 2 + 0 ≤ _)⟩)
  dsimp only [Pt.U, Pt.locs, Pt.cells, Pt.slots] at X4 lq4 yq4 zq4 st4 hQ4
  subst lq4 yq4 zq4
  obtain ⟨rfl, Nq4, eh4⟩ := hQ4
  have N4 := Fr.app N0 Nq4
  refine own_st (G' := T4.setTop (mkF m 15 #[.val (.int (2 : Int32)), .val (.long q1), .second, .val (.ref b1)] [(.long (own_at q1 (0 : Int32))), (.int (0 : Int32)), (.ref b1)])) st4 ?_
  refine own_l2d X4 hx 16 (hb hby own_d1_15) ?_
  obtain ⟨cl5, Ar5, qv5, S5, M5, H5, G5⟩ := id V1
  have hin5 : ¬ ((0 : Int32) < 0 ∨ cl5.slots.size ≤ ((0 : Int32)).toNatClampNeg) := inb_of S5 ⟨by decide, by decide⟩
  obtain ⟨T5, h5, X5, e5, W5, st5⟩ := stD X4 hx hZ eh4 Ar5 (j := (0 : Int32)) hin5 (g := (mkF m 16 #[.val (.int (2 : Int32)), .val (.long q1), .second, .val (.ref b1)] [(.double (FP.l2d (own_at q1 (0 : Int32)))), (.int (0 : Int32)), (.ref b1)])) rfl rfl (hb hby own_d1_16)
  have V5 : Arv Z h5 b1 k1 .double (2 : Int32) [(.double (FP.l2d (own_at q1 (0 : Int32)))), (.double (0 : UInt64))] (.double (0 : UInt64)) := Arv.set Ar5 qv5 S5 M5 H5 G5 rfl W5 0 rfl (Nat.le_of_ble_eq_true rfl)
  have N5 := Fr.snoc X5 N4 gt_b1
  have KC6 := KC2.wr W5 (Or.inr sz_b1)
  have Z7 := Nat.le_trans Z3 (Nat.le_of_eq W5.size.symm)
  refine own_st (G' := T5.setTop (mkF m 17 #[.val (.int (2 : Int32)), .val (.long q1), .second, .val (.ref b1)] [])) st5 ?_
  refine own_iloadN X5 hx 18 (hb hby own_d1_17) rfl ?_
  refine own_iconst X5 hx 19 (1 : Int32) (hb hby own_d1_18) rfl ?_
  refine own_icmpNo X5 hx 22 (hb hby own_d1_19) (tlt (by decide : (1 : Int32) < (2 : Int32))).2.2.2 ?_
  refine own_aloadN X5 hx 23 (hb hby own_d1_22) rfl rfl ?_
  refine own_iconst X5 hx 24 (1 : Int32) (hb hby own_d1_23) rfl ?_
  refine own_lloadN X5 hx 25 (hb hby own_d1_24) rfl ?_
  refine own_iconst X5 hx 26 (1 : Int32) (hb hby own_d1_25) rfl ?_
  obtain ⟨_, _, ⟨T8, Lx8, kc8, nc8⟩, -, X8, ⟨Lc8, hQ8, lq8, yq8, zq8⟩, st8⟩ := Jvm.LawKit.callS X5 hx (y := (⟨"com/example/kalends/kalends/MatricesDotPinLaw", "at", "(JI)J"⟩ : MethodName)) hown (mvT hZ (hw _ (List.mem_of_getElem? (i := 9) rfl))) (mvT hZ (hw _ (List.mem_of_getElem? (i := 10) rfl))) (mvT hZ (hw _ (List.mem_of_getElem? (i := 2) rfl))) (mvT hZ (hw _ (List.mem_of_getElem? (i := 11) rfl))) (by decide) (backOf (W := 2) (own_rm3 l Z a0 hw [] q1 (1 : Int32) h5 n0 Z7 ) hZ (hw _ (List.mem_of_getElem? (i := 11) rfl)) (hw _ (List.mem_of_getElem? (i := 2) rfl)) (by decide) (by decide)) (g := (mkF m 26 #[.val (.int (2 : Int32)), .val (.long q1), .second, .val (.ref b1)] [(.int (1 : Int32)), (.long q1), (.int (1 : Int32)), (.ref b1)])) rfl (by rw [hml]; rfl) (argsL := [(.long q1), (.int (1 : Int32))]) (rest := [(.int (1 : Int32)), (.ref b1)]) (lenOf own_pd0 rfl) rfl (by show 2 * 0 + _ ≤ _; exact Nat.le_of_eq rfl) (hb hby own_d1_26) (fun _ _ => ⟨rfl, e5, (by decide : 1 + 0 ≤ _), (by decide : 2 + 0 ≤ _)⟩)
  dsimp only [Pt.U, Pt.locs, Pt.cells, Pt.slots] at X8 lq8 yq8 zq8 st8 hQ8
  subst lq8 yq8 zq8
  obtain ⟨rfl, Nq8, eh8⟩ := hQ8
  have N8 := Fr.app N5 Nq8
  refine own_st (G' := T8.setTop (mkF m 29 #[.val (.int (2 : Int32)), .val (.long q1), .second, .val (.ref b1)] [(.long (own_at q1 (1 : Int32))), (.int (1 : Int32)), (.ref b1)])) st8 ?_
  refine own_l2d X8 hx 30 (hb hby own_d1_29) ?_
  obtain ⟨cl9, Ar9, qv9, S9, M9, H9, G9⟩ := id V5
  have hin9 : ¬ ((1 : Int32) < 0 ∨ cl9.slots.size ≤ ((1 : Int32)).toNatClampNeg) := inb_of S9 ⟨by decide, by decide⟩
  obtain ⟨T9, h9, X9, e9, W9, st9⟩ := stD X8 hx hZ eh8 Ar9 (j := (1 : Int32)) hin9 (g := (mkF m 30 #[.val (.int (2 : Int32)), .val (.long q1), .second, .val (.ref b1)] [(.double (FP.l2d (own_at q1 (1 : Int32)))), (.int (1 : Int32)), (.ref b1)])) rfl rfl (hb hby own_d1_30)
  have V9 : Arv Z h9 b1 k1 .double (2 : Int32) [(.double (FP.l2d (own_at q1 (0 : Int32)))), (.double (FP.l2d (own_at q1 (1 : Int32))))] (.double (0 : UInt64)) := Arv.set Ar9 qv9 S9 M9 H9 G9 rfl W9 1 rfl (Nat.le_of_ble_eq_true rfl)
  have N9 := Fr.snoc X9 N8 gt_b1
  have KC10 := KC6.wr W9 (Or.inr sz_b1)
  have Z11 := Nat.le_trans Z7 (Nat.le_of_eq W9.size.symm)
  refine own_st (G' := T9.setTop (mkF m 31 #[.val (.int (2 : Int32)), .val (.long q1), .second, .val (.ref b1)] [])) st9 ?_
  refine own_iloadN X9 hx 32 (hb hby own_d1_31) rfl ?_
  refine own_iconst X9 hx 33 (2 : Int32) (hb hby own_d1_32) rfl ?_
  refine own_icmpYes X9 hx 45 (hb hby own_d1_33) (flt (by decide : ¬ ((2 : Int32) < (2 : Int32)))).2.2.2 ?_
  refine own_iloadN X9 hx 46 (hb hby own_d1_45) rfl ?_
  refine own_iconst X9 hx 47 (3 : Int32) (hb hby own_d1_46) rfl ?_
  refine own_icmpYes X9 hx 59 (hb hby own_d1_47) (flt (by decide : ¬ ((3 : Int32) < (2 : Int32)))).2.2.2 ?_
  refine own_aloadN X9 hx 60 (hb hby own_d1_59) rfl rfl ?_
  exact own_retA (z := (.ref b1)) (Q := own_Q1n2 Z q1 h0 n0) X9 hx hrt rfl rfl (hb hby own_d1_60) hlk e9 ⟨b1, k1, rfl, N9, KC10, sz_b1, V9⟩ (by decide) (by decide)
theorem own_d1_36 : decode method_3_code 36 = .ok (.aload_n 3, 1) := by decide +kernel
theorem own_d1_37 : decode method_3_code 37 = .ok (.iconst 2, 1) := by decide +kernel
theorem own_d1_38 : decode method_3_code 38 = .ok (.lload_n 1, 1) := by decide +kernel
theorem own_d1_39 : decode method_3_code 39 = .ok (.iconst 2, 1) := by decide +kernel
theorem own_d1_40 : decode method_3_code 40 = .ok (.invokestatic 7, 3) := by decide +kernel
theorem own_d1_43 : decode method_3_code 43 = .ok (.l2d, 1) := by decide +kernel
theorem own_d1_44 : decode method_3_code 44 = .ok (.dastore, 1) := by decide +kernel
theorem own_ef1n3 (m : MethodId) (q1 : Int64) : entryFrame m #[(.int (3 : Int32)), (.long q1)] 4 = mkF m 0 #[.val (.int (3 : Int32)), .val (.long q1), .second, .unset] [] := by first | (simp [entryFrame, mkF, argsToLocals, Value.category]; done) | rfl
def own_Q1n3 (Z : State) (q1 : Int64) (h0 : Heap) (n0 : Nat) (v : Option Value) (h : Heap) (L : List Loc) : Prop := ∃ bb : Addr, ∃ kb : ClassId, v = some (.ref bb) ∧ Fr n0 L ∧ Keep h0 h [] ∧ h0.size ≤ bb ∧ Arv Z h bb kb .double (3 : Int32) [(.double (FP.l2d (own_at q1 (0 : Int32)))), (.double (FP.l2d (own_at q1 (1 : Int32)))), (.double (FP.l2d (own_at q1 (2 : Int32))))] (.double (0 : UInt64))
set_option maxRecDepth 65536 in
set_option maxHeartbeats 40000000 in
theorem own_rm1n3 (l : Launch) (Z : State) (a0 : Array Value) (hw : ∀ d ∈ tables_1, d.before a0 Z = true) (ws : List Jvm.Cond) (q1 : Int64) (h0 : Heap) (n0 : Nat) (Z0 : n0 ≤ h0.size)  :
    MetFree l (⟨"com/example/kalends/kalends/MatricesDotPinLaw", "build", "(IJ)[D"⟩ : MethodName) (head1 (Jvm.Cond.code (⟨"com/example/kalends/kalends/MatricesDotPinLaw", "build", "(IJ)[D"⟩ : MethodName) method_3_code 4 (some (.array .double)) :: ws) ({ frames := 1, cells := 1, slots := 3, locals := 16 } : Room)) (fun a U => a = #[(.int (3 : Int32)), (.long q1)] ∧ Z.Warmed39 U.vm ∧ U.heap = h0) (fun _ _ _ _ _ => True) (fun _ U o U' => ∃ v L, o = .returned v ∧ own_Q1n3 Z q1 h0 n0 v U'.heap L ∧ FrameEnd U o U' L ({ frames := 1, cells := 1, slots := 3, locals := 16 } : Room).cells ({ frames := 1, cells := 1, slots := 3, locals := 16 } : Room).slots) := by
  refine MetFree.of_bodySF (plainFor_of_name own_pn0) hisR ?_
  intro p e s m args below meth c s₁ Bd hml0 hP hK
  obtain ⟨rfl, hZ, hh⟩ := hP
  have hx := Bd.exec
  have hby := Bd.bytes
  have hlk := Bd.notSynchronized
  have hrt := Bd.returns
  have hml : c.maxLocals = 4 := hml0
  have hown : s.vm.findClass "com/example/kalends/kalends/MatricesDotPinLaw" = some m.cls := findClass_of_methodNamed Bd.named
  have hnm := (name_of_methodNamed Bd.named Bd.method).1
  have X0 : Stand p l e ({ frames := 1, cells := 1, slots := 3, locals := 16 } : Room) s m #[(.int (3 : Int32)), (.long q1)] below meth c s₁ [] 0 0 := Stand.of_body Bd
  have e0 : s₁.heap = h0 := by rw [← hh, Bd.state]; rfl
  have N0 := Fr.nil n0
  have KC0 := Keep.refl h0 []
  refine own_in (own_ef1n3 m q1) ?_
  refine own_iloadN X0 hx 1 (hb hby own_d1_0) rfl ?_
  obtain ⟨T1, h1, k1, X1, e1, E1, A1, st1⟩ := newP X0 hx hZ (hw _ (List.mem_of_getElem? (i := 4) rfl)) e0 (g := (mkF m 1 #[.val (.int (3 : Int32)), .val (.long q1), .second, .unset] [(.int (3 : Int32))])) rfl (hb hby own_d1_1) rfl (by decide) (cap := 3) (by decide) (by decide) (by decide) (by decide)
  obtain ⟨b1, g1⟩ : ∃ z, z = h0.size := ⟨_, rfl⟩
  rw [← g1] at A1 st1
  have gt_b1 : n0 ≤ b1 := Nat.le_trans Z0 (Nat.le_of_eq g1.symm)
  have sz_b1 : h0.size ≤ b1 := Nat.le_trans KC0.1 (Nat.le_of_eq g1.symm)
  have V1 : Arv Z h1 b1 k1 .double (3 : Int32) [(.double (0 : UInt64)), (.double (0 : UInt64)), (.double (0 : UInt64))] (.double (0 : UInt64)) := (Arv.new A1 (by decide)).pad (pad_rep [] (.double (0 : UInt64)) 3)
  have KC2 := KC0.ext E1
  have Z3 := Nat.le_trans Z0 E1.1
  refine own_st (G' := T1.setTop (mkF m 3 #[.val (.int (3 : Int32)), .val (.long q1), .second, .unset] [(.ref b1)])) st1 ?_
  refine own_astoreN X1 hx 4 #[.val (.int (3 : Int32)), .val (.long q1), .second, .val (.ref b1)] (hb hby own_d1_3) rfl rfl ?_
  refine own_iloadN X1 hx 5 (hb hby own_d1_4) rfl ?_
  refine own_ifNo X1 hx 8 (hb hby own_d1_5) (tlt (by decide : (0 : Int32) < (3 : Int32))).2.2.2 ?_
  refine own_aloadN X1 hx 9 (hb hby own_d1_8) rfl rfl ?_
  refine own_iconst X1 hx 10 (0 : Int32) (hb hby own_d1_9) rfl ?_
  refine own_lloadN X1 hx 11 (hb hby own_d1_10) rfl ?_
  refine own_iconst X1 hx 12 (0 : Int32) (hb hby own_d1_11) rfl ?_
  obtain ⟨_, _, ⟨T4, Lx4, kc4, nc4⟩, -, X4, ⟨Lc4, hQ4, lq4, yq4, zq4⟩, st4⟩ := Jvm.LawKit.callS X1 hx (y := (⟨"com/example/kalends/kalends/MatricesDotPinLaw", "at", "(JI)J"⟩ : MethodName)) hown (mvT hZ (hw _ (List.mem_of_getElem? (i := 9) rfl))) (mvT hZ (hw _ (List.mem_of_getElem? (i := 10) rfl))) (mvT hZ (hw _ (List.mem_of_getElem? (i := 2) rfl))) (mvT hZ (hw _ (List.mem_of_getElem? (i := 11) rfl))) (by decide) (backOf (W := 2) (own_rm3 l Z a0 hw [] q1 (0 : Int32) h1 n0 Z3 ) hZ (hw _ (List.mem_of_getElem? (i := 11) rfl)) (hw _ (List.mem_of_getElem? (i := 2) rfl)) (by decide) (by decide)) (g := (mkF m 12 #[.val (.int (3 : Int32)), .val (.long q1), .second, .val (.ref b1)] [(.int (0 : Int32)), (.long q1), (.int (0 : Int32)), (.ref b1)])) rfl (by rw [hml]; rfl) (argsL := [(.long q1), (.int (0 : Int32))]) (rest := [(.int (0 : Int32)), (.ref b1)]) (lenOf own_pd0 rfl) rfl (by show 2 * 0 + _ ≤ _; exact Nat.le_of_eq rfl) (hb hby own_d1_12) (fun _ _ => ⟨rfl, e1, (by decide : 1 + 0 ≤ _), (by decide : 3 + 0 ≤ _)⟩)
  dsimp only [Pt.U, Pt.locs, Pt.cells, Pt.slots] at X4 lq4 yq4 zq4 st4 hQ4
  subst lq4 yq4 zq4
  obtain ⟨rfl, Nq4, eh4⟩ := hQ4
  have N4 := Fr.app N0 Nq4
  refine own_st (G' := T4.setTop (mkF m 15 #[.val (.int (3 : Int32)), .val (.long q1), .second, .val (.ref b1)] [(.long (own_at q1 (0 : Int32))), (.int (0 : Int32)), (.ref b1)])) st4 ?_
  refine own_l2d X4 hx 16 (hb hby own_d1_15) ?_
  obtain ⟨cl5, Ar5, qv5, S5, M5, H5, G5⟩ := id V1
  have hin5 : ¬ ((0 : Int32) < 0 ∨ cl5.slots.size ≤ ((0 : Int32)).toNatClampNeg) := inb_of S5 ⟨by decide, by decide⟩
  obtain ⟨T5, h5, X5, e5, W5, st5⟩ := stD X4 hx hZ eh4 Ar5 (j := (0 : Int32)) hin5 (g := (mkF m 16 #[.val (.int (3 : Int32)), .val (.long q1), .second, .val (.ref b1)] [(.double (FP.l2d (own_at q1 (0 : Int32)))), (.int (0 : Int32)), (.ref b1)])) rfl rfl (hb hby own_d1_16)
  have V5 : Arv Z h5 b1 k1 .double (3 : Int32) [(.double (FP.l2d (own_at q1 (0 : Int32)))), (.double (0 : UInt64)), (.double (0 : UInt64))] (.double (0 : UInt64)) := Arv.set Ar5 qv5 S5 M5 H5 G5 rfl W5 0 rfl (Nat.le_of_ble_eq_true rfl)
  have N5 := Fr.snoc X5 N4 gt_b1
  have KC6 := KC2.wr W5 (Or.inr sz_b1)
  have Z7 := Nat.le_trans Z3 (Nat.le_of_eq W5.size.symm)
  refine own_st (G' := T5.setTop (mkF m 17 #[.val (.int (3 : Int32)), .val (.long q1), .second, .val (.ref b1)] [])) st5 ?_
  refine own_iloadN X5 hx 18 (hb hby own_d1_17) rfl ?_
  refine own_iconst X5 hx 19 (1 : Int32) (hb hby own_d1_18) rfl ?_
  refine own_icmpNo X5 hx 22 (hb hby own_d1_19) (tlt (by decide : (1 : Int32) < (3 : Int32))).2.2.2 ?_
  refine own_aloadN X5 hx 23 (hb hby own_d1_22) rfl rfl ?_
  refine own_iconst X5 hx 24 (1 : Int32) (hb hby own_d1_23) rfl ?_
  refine own_lloadN X5 hx 25 (hb hby own_d1_24) rfl ?_
  refine own_iconst X5 hx 26 (1 : Int32) (hb hby own_d1_25) rfl ?_
  obtain ⟨_, _, ⟨T8, Lx8, kc8, nc8⟩, -, X8, ⟨Lc8, hQ8, lq8, yq8, zq8⟩, st8⟩ := Jvm.LawKit.callS X5 hx (y := (⟨"com/example/kalends/kalends/MatricesDotPinLaw", "at", "(JI)J"⟩ : MethodName)) hown (mvT hZ (hw _ (List.mem_of_getElem? (i := 9) rfl))) (mvT hZ (hw _ (List.mem_of_getElem? (i := 10) rfl))) (mvT hZ (hw _ (List.mem_of_getElem? (i := 2) rfl))) (mvT hZ (hw _ (List.mem_of_getElem? (i := 11) rfl))) (by decide) (backOf (W := 2) (own_rm3 l Z a0 hw [] q1 (1 : Int32) h5 n0 Z7 ) hZ (hw _ (List.mem_of_getElem? (i := 11) rfl)) (hw _ (List.mem_of_getElem? (i := 2) rfl)) (by decide) (by decide)) (g := (mkF m 26 #[.val (.int (3 : Int32)), .val (.long q1), .second, .val (.ref b1)] [(.int (1 : Int32)), (.long q1), (.int (1 : Int32)), (.ref b1)])) rfl (by rw [hml]; rfl) (argsL := [(.long q1), (.int (1 : Int32))]) (rest := [(.int (1 : Int32)), (.ref b1)]) (lenOf own_pd0 rfl) rfl (by show 2 * 0 + _ ≤ _; exact Nat.le_of_eq rfl) (hb hby own_d1_26) (fun _ _ => ⟨rfl, e5, (by decide : 1 + 0 ≤ _), (by decide : 3 + 0 ≤ _)⟩)
  dsimp only [Pt.U, Pt.locs, Pt.cells, Pt.slots] at X8 lq8 yq8 zq8 st8 hQ8
  subst lq8 yq8 zq8
  obtain ⟨rfl, Nq8, eh8⟩ := hQ8
  have N8 := Fr.app N5 Nq8
  refine own_st (G' := T8.setTop (mkF m 29 #[.val (.int (3 : Int32)), .val (.long q1), .second, .val (.ref b1)] [(.long (own_at q1 (1 : Int32))), (.int (1 : Int32)), (.ref b1)])) st8 ?_
  refine own_l2d X8 hx 30 (hb hby own_d1_29) ?_
  obtain ⟨cl9, Ar9, qv9, S9, M9, H9, G9⟩ := id V5
  have hin9 : ¬ ((1 : Int32) < 0 ∨ cl9.slots.size ≤ ((1 : Int32)).toNatClampNeg) := inb_of S9 ⟨by decide, by decide⟩
  obtain ⟨T9, h9, X9, e9, W9, st9⟩ := stD X8 hx hZ eh8 Ar9 (j := (1 : Int32)) hin9 (g := (mkF m 30 #[.val (.int (3 : Int32)), .val (.long q1), .second, .val (.ref b1)] [(.double (FP.l2d (own_at q1 (1 : Int32)))), (.int (1 : Int32)), (.ref b1)])) rfl rfl (hb hby own_d1_30)
  have V9 : Arv Z h9 b1 k1 .double (3 : Int32) [(.double (FP.l2d (own_at q1 (0 : Int32)))), (.double (FP.l2d (own_at q1 (1 : Int32)))), (.double (0 : UInt64))] (.double (0 : UInt64)) := Arv.set Ar9 qv9 S9 M9 H9 G9 rfl W9 1 rfl (Nat.le_of_ble_eq_true rfl)
  have N9 := Fr.snoc X9 N8 gt_b1
  have KC10 := KC6.wr W9 (Or.inr sz_b1)
  have Z11 := Nat.le_trans Z7 (Nat.le_of_eq W9.size.symm)
  refine own_st (G' := T9.setTop (mkF m 31 #[.val (.int (3 : Int32)), .val (.long q1), .second, .val (.ref b1)] [])) st9 ?_
  refine own_iloadN X9 hx 32 (hb hby own_d1_31) rfl ?_
  refine own_iconst X9 hx 33 (2 : Int32) (hb hby own_d1_32) rfl ?_
  refine own_icmpNo X9 hx 36 (hb hby own_d1_33) (tlt (by decide : (2 : Int32) < (3 : Int32))).2.2.2 ?_
  refine own_aloadN X9 hx 37 (hb hby own_d1_36) rfl rfl ?_
  refine own_iconst X9 hx 38 (2 : Int32) (hb hby own_d1_37) rfl ?_
  refine own_lloadN X9 hx 39 (hb hby own_d1_38) rfl ?_
  refine own_iconst X9 hx 40 (2 : Int32) (hb hby own_d1_39) rfl ?_
  obtain ⟨_, _, ⟨T12, Lx12, kc12, nc12⟩, -, X12, ⟨Lc12, hQ12, lq12, yq12, zq12⟩, st12⟩ := Jvm.LawKit.callS X9 hx (y := (⟨"com/example/kalends/kalends/MatricesDotPinLaw", "at", "(JI)J"⟩ : MethodName)) hown (mvT hZ (hw _ (List.mem_of_getElem? (i := 9) rfl))) (mvT hZ (hw _ (List.mem_of_getElem? (i := 10) rfl))) (mvT hZ (hw _ (List.mem_of_getElem? (i := 2) rfl))) (mvT hZ (hw _ (List.mem_of_getElem? (i := 11) rfl))) (by decide) (backOf (W := 2) (own_rm3 l Z a0 hw [] q1 (2 : Int32) h9 n0 Z11 ) hZ (hw _ (List.mem_of_getElem? (i := 11) rfl)) (hw _ (List.mem_of_getElem? (i := 2) rfl)) (by decide) (by decide)) (g := (mkF m 40 #[.val (.int (3 : Int32)), .val (.long q1), .second, .val (.ref b1)] [(.int (2 : Int32)), (.long q1), (.int (2 : Int32)), (.ref b1)])) rfl (by rw [hml]; rfl) (argsL := [(.long q1), (.int (2 : Int32))]) (rest := [(.int (2 : Int32)), (.ref b1)]) (lenOf own_pd0 rfl) rfl (by show 2 * 0 + _ ≤ _; exact Nat.le_of_eq rfl) (hb hby own_d1_40) (fun _ _ => ⟨rfl, e9, (by decide : 1 + 0 ≤ _), (by decide : 3 + 0 ≤ _)⟩)
  dsimp only [Pt.U, Pt.locs, Pt.cells, Pt.slots] at X12 lq12 yq12 zq12 st12 hQ12
  subst lq12 yq12 zq12
  obtain ⟨rfl, Nq12, eh12⟩ := hQ12
  have N12 := Fr.app N9 Nq12
  refine own_st (G' := T12.setTop (mkF m 43 #[.val (.int (3 : Int32)), .val (.long q1), .second, .val (.ref b1)] [(.long (own_at q1 (2 : Int32))), (.int (2 : Int32)), (.ref b1)])) st12 ?_
  refine own_l2d X12 hx 44 (hb hby own_d1_43) ?_
  obtain ⟨cl13, Ar13, qv13, S13, M13, H13, G13⟩ := id V9
  have hin13 : ¬ ((2 : Int32) < 0 ∨ cl13.slots.size ≤ ((2 : Int32)).toNatClampNeg) := inb_of S13 ⟨by decide, by decide⟩
  obtain ⟨T13, h13, X13, e13, W13, st13⟩ := stD X12 hx hZ eh12 Ar13 (j := (2 : Int32)) hin13 (g := (mkF m 44 #[.val (.int (3 : Int32)), .val (.long q1), .second, .val (.ref b1)] [(.double (FP.l2d (own_at q1 (2 : Int32)))), (.int (2 : Int32)), (.ref b1)])) rfl rfl (hb hby own_d1_44)
  have V13 : Arv Z h13 b1 k1 .double (3 : Int32) [(.double (FP.l2d (own_at q1 (0 : Int32)))), (.double (FP.l2d (own_at q1 (1 : Int32)))), (.double (FP.l2d (own_at q1 (2 : Int32))))] (.double (0 : UInt64)) := Arv.set Ar13 qv13 S13 M13 H13 G13 rfl W13 2 rfl (Nat.le_of_ble_eq_true rfl)
  have N13 := Fr.snoc X13 N12 gt_b1
  have KC14 := KC10.wr W13 (Or.inr sz_b1)
  have Z15 := Nat.le_trans Z11 (Nat.le_of_eq W13.size.symm)
  refine own_st (G' := T13.setTop (mkF m 45 #[.val (.int (3 : Int32)), .val (.long q1), .second, .val (.ref b1)] [])) st13 ?_
  refine own_iloadN X13 hx 46 (hb hby own_d1_45) rfl ?_
  refine own_iconst X13 hx 47 (3 : Int32) (hb hby own_d1_46) rfl ?_
  refine own_icmpYes X13 hx 59 (hb hby own_d1_47) (flt (by decide : ¬ ((3 : Int32) < (3 : Int32)))).2.2.2 ?_
  refine own_aloadN X13 hx 60 (hb hby own_d1_59) rfl rfl ?_
  exact own_retA (z := (.ref b1)) (Q := own_Q1n3 Z q1 h0 n0) X13 hx hrt rfl rfl (hb hby own_d1_60) hlk e13 ⟨b1, k1, rfl, N13, KC14, sz_b1, V13⟩ (by decide) (by decide)
theorem own_d1_50 : decode method_3_code 50 = .ok (.aload_n 3, 1) := by decide +kernel
theorem own_d1_51 : decode method_3_code 51 = .ok (.iconst 3, 1) := by decide +kernel
theorem own_d1_52 : decode method_3_code 52 = .ok (.lload_n 1, 1) := by decide +kernel
theorem own_d1_53 : decode method_3_code 53 = .ok (.iconst 3, 1) := by decide +kernel
theorem own_d1_54 : decode method_3_code 54 = .ok (.invokestatic 7, 3) := by decide +kernel
theorem own_d1_57 : decode method_3_code 57 = .ok (.l2d, 1) := by decide +kernel
theorem own_d1_58 : decode method_3_code 58 = .ok (.dastore, 1) := by decide +kernel
theorem own_ef1n4 (m : MethodId) (q1 : Int64) : entryFrame m #[(.int (4 : Int32)), (.long q1)] 4 = mkF m 0 #[.val (.int (4 : Int32)), .val (.long q1), .second, .unset] [] := by first | (simp [entryFrame, mkF, argsToLocals, Value.category]; done) | rfl
def own_Q1n4 (Z : State) (q1 : Int64) (h0 : Heap) (n0 : Nat) (v : Option Value) (h : Heap) (L : List Loc) : Prop := ∃ bb : Addr, ∃ kb : ClassId, v = some (.ref bb) ∧ Fr n0 L ∧ Keep h0 h [] ∧ h0.size ≤ bb ∧ Arv Z h bb kb .double (4 : Int32) [(.double (FP.l2d (own_at q1 (0 : Int32)))), (.double (FP.l2d (own_at q1 (1 : Int32)))), (.double (FP.l2d (own_at q1 (2 : Int32)))), (.double (FP.l2d (own_at q1 (3 : Int32))))] (.double (0 : UInt64))
set_option maxRecDepth 65536 in
set_option maxHeartbeats 40000000 in
theorem own_rm1n4 (l : Launch) (Z : State) (a0 : Array Value) (hw : ∀ d ∈ tables_1, d.before a0 Z = true) (ws : List Jvm.Cond) (q1 : Int64) (h0 : Heap) (n0 : Nat) (Z0 : n0 ≤ h0.size)  :
    MetFree l (⟨"com/example/kalends/kalends/MatricesDotPinLaw", "build", "(IJ)[D"⟩ : MethodName) (head1 (Jvm.Cond.code (⟨"com/example/kalends/kalends/MatricesDotPinLaw", "build", "(IJ)[D"⟩ : MethodName) method_3_code 4 (some (.array .double)) :: ws) ({ frames := 1, cells := 1, slots := 4, locals := 16 } : Room)) (fun a U => a = #[(.int (4 : Int32)), (.long q1)] ∧ Z.Warmed39 U.vm ∧ U.heap = h0) (fun _ _ _ _ _ => True) (fun _ U o U' => ∃ v L, o = .returned v ∧ own_Q1n4 Z q1 h0 n0 v U'.heap L ∧ FrameEnd U o U' L ({ frames := 1, cells := 1, slots := 4, locals := 16 } : Room).cells ({ frames := 1, cells := 1, slots := 4, locals := 16 } : Room).slots) := by
  refine MetFree.of_bodySF (plainFor_of_name own_pn0) hisR ?_
  intro p e s m args below meth c s₁ Bd hml0 hP hK
  obtain ⟨rfl, hZ, hh⟩ := hP
  have hx := Bd.exec
  have hby := Bd.bytes
  have hlk := Bd.notSynchronized
  have hrt := Bd.returns
  have hml : c.maxLocals = 4 := hml0
  have hown : s.vm.findClass "com/example/kalends/kalends/MatricesDotPinLaw" = some m.cls := findClass_of_methodNamed Bd.named
  have hnm := (name_of_methodNamed Bd.named Bd.method).1
  have X0 : Stand p l e ({ frames := 1, cells := 1, slots := 4, locals := 16 } : Room) s m #[(.int (4 : Int32)), (.long q1)] below meth c s₁ [] 0 0 := Stand.of_body Bd
  have e0 : s₁.heap = h0 := by rw [← hh, Bd.state]; rfl
  have N0 := Fr.nil n0
  have KC0 := Keep.refl h0 []
  refine own_in (own_ef1n4 m q1) ?_
  refine own_iloadN X0 hx 1 (hb hby own_d1_0) rfl ?_
  obtain ⟨T1, h1, k1, X1, e1, E1, A1, st1⟩ := newP X0 hx hZ (hw _ (List.mem_of_getElem? (i := 4) rfl)) e0 (g := (mkF m 1 #[.val (.int (4 : Int32)), .val (.long q1), .second, .unset] [(.int (4 : Int32))])) rfl (hb hby own_d1_1) rfl (by decide) (cap := 4) (by decide) (by decide) (by decide) (by decide)
  obtain ⟨b1, g1⟩ : ∃ z, z = h0.size := ⟨_, rfl⟩
  rw [← g1] at A1 st1
  have gt_b1 : n0 ≤ b1 := Nat.le_trans Z0 (Nat.le_of_eq g1.symm)
  have sz_b1 : h0.size ≤ b1 := Nat.le_trans KC0.1 (Nat.le_of_eq g1.symm)
  have V1 : Arv Z h1 b1 k1 .double (4 : Int32) [(.double (0 : UInt64)), (.double (0 : UInt64)), (.double (0 : UInt64)), (.double (0 : UInt64))] (.double (0 : UInt64)) := (Arv.new A1 (by decide)).pad (pad_rep [] (.double (0 : UInt64)) 4)
  have KC2 := KC0.ext E1
  have Z3 := Nat.le_trans Z0 E1.1
  refine own_st (G' := T1.setTop (mkF m 3 #[.val (.int (4 : Int32)), .val (.long q1), .second, .unset] [(.ref b1)])) st1 ?_
  refine own_astoreN X1 hx 4 #[.val (.int (4 : Int32)), .val (.long q1), .second, .val (.ref b1)] (hb hby own_d1_3) rfl rfl ?_
  refine own_iloadN X1 hx 5 (hb hby own_d1_4) rfl ?_
  refine own_ifNo X1 hx 8 (hb hby own_d1_5) (tlt (by decide : (0 : Int32) < (4 : Int32))).2.2.2 ?_
  refine own_aloadN X1 hx 9 (hb hby own_d1_8) rfl rfl ?_
  refine own_iconst X1 hx 10 (0 : Int32) (hb hby own_d1_9) rfl ?_
  refine own_lloadN X1 hx 11 (hb hby own_d1_10) rfl ?_
  refine own_iconst X1 hx 12 (0 : Int32) (hb hby own_d1_11) rfl ?_
  obtain ⟨_, _, ⟨T4, Lx4, kc4, nc4⟩, -, X4, ⟨Lc4, hQ4, lq4, yq4, zq4⟩, st4⟩ := Jvm.LawKit.callS X1 hx (y := (⟨"com/example/kalends/kalends/MatricesDotPinLaw", "at", "(JI)J"⟩ : MethodName)) hown (mvT hZ (hw _ (List.mem_of_getElem? (i := 9) rfl))) (mvT hZ (hw _ (List.mem_of_getElem? (i := 10) rfl))) (mvT hZ (hw _ (List.mem_of_getElem? (i := 2) rfl))) (mvT hZ (hw _ (List.mem_of_getElem? (i := 11) rfl))) (by decide) (backOf (W := 2) (own_rm3 l Z a0 hw [] q1 (0 : Int32) h1 n0 Z3 ) hZ (hw _ (List.mem_of_getElem? (i := 11) rfl)) (hw _ (List.mem_of_getElem? (i := 2) rfl)) (by decide) (by decide)) (g := (mkF m 12 #[.val (.int (4 : Int32)), .val (.long q1), .second, .val (.ref b1)] [(.int (0 : Int32)), (.long q1), (.int (0 : Int32)), (.ref b1)])) rfl (by rw [hml]; rfl) (argsL := [(.long q1), (.int (0 : Int32))]) (rest := [(.int (0 : Int32)), (.ref b1)]) (lenOf own_pd0 rfl) rfl (by show 2 * 0 + _ ≤ _; exact Nat.le_of_eq rfl) (hb hby own_d1_12) (fun _ _ => ⟨rfl, e1, (by decide : 1 + 0 ≤ _), (by decide : 4 + 0 ≤ _)⟩)
  dsimp only [Pt.U, Pt.locs, Pt.cells, Pt.slots] at X4 lq4 yq4 zq4 st4 hQ4
  subst lq4 yq4 zq4
  obtain ⟨rfl, Nq4, eh4⟩ := hQ4
  have N4 := Fr.app N0 Nq4
  refine own_st (G' := T4.setTop (mkF m 15 #[.val (.int (4 : Int32)), .val (.long q1), .second, .val (.ref b1)] [(.long (own_at q1 (0 : Int32))), (.int (0 : Int32)), (.ref b1)])) st4 ?_
  refine own_l2d X4 hx 16 (hb hby own_d1_15) ?_
  obtain ⟨cl5, Ar5, qv5, S5, M5, H5, G5⟩ := id V1
  have hin5 : ¬ ((0 : Int32) < 0 ∨ cl5.slots.size ≤ ((0 : Int32)).toNatClampNeg) := inb_of S5 ⟨by decide, by decide⟩
  obtain ⟨T5, h5, X5, e5, W5, st5⟩ := stD X4 hx hZ eh4 Ar5 (j := (0 : Int32)) hin5 (g := (mkF m 16 #[.val (.int (4 : Int32)), .val (.long q1), .second, .val (.ref b1)] [(.double (FP.l2d (own_at q1 (0 : Int32)))), (.int (0 : Int32)), (.ref b1)])) rfl rfl (hb hby own_d1_16)
  have V5 : Arv Z h5 b1 k1 .double (4 : Int32) [(.double (FP.l2d (own_at q1 (0 : Int32)))), (.double (0 : UInt64)), (.double (0 : UInt64)), (.double (0 : UInt64))] (.double (0 : UInt64)) := Arv.set Ar5 qv5 S5 M5 H5 G5 rfl W5 0 rfl (Nat.le_of_ble_eq_true rfl)
  have N5 := Fr.snoc X5 N4 gt_b1
  have KC6 := KC2.wr W5 (Or.inr sz_b1)
  have Z7 := Nat.le_trans Z3 (Nat.le_of_eq W5.size.symm)
  refine own_st (G' := T5.setTop (mkF m 17 #[.val (.int (4 : Int32)), .val (.long q1), .second, .val (.ref b1)] [])) st5 ?_
  refine own_iloadN X5 hx 18 (hb hby own_d1_17) rfl ?_
  refine own_iconst X5 hx 19 (1 : Int32) (hb hby own_d1_18) rfl ?_
  refine own_icmpNo X5 hx 22 (hb hby own_d1_19) (tlt (by decide : (1 : Int32) < (4 : Int32))).2.2.2 ?_
  refine own_aloadN X5 hx 23 (hb hby own_d1_22) rfl rfl ?_
  refine own_iconst X5 hx 24 (1 : Int32) (hb hby own_d1_23) rfl ?_
  refine own_lloadN X5 hx 25 (hb hby own_d1_24) rfl ?_
  refine own_iconst X5 hx 26 (1 : Int32) (hb hby own_d1_25) rfl ?_
  obtain ⟨_, _, ⟨T8, Lx8, kc8, nc8⟩, -, X8, ⟨Lc8, hQ8, lq8, yq8, zq8⟩, st8⟩ := Jvm.LawKit.callS X5 hx (y := (⟨"com/example/kalends/kalends/MatricesDotPinLaw", "at", "(JI)J"⟩ : MethodName)) hown (mvT hZ (hw _ (List.mem_of_getElem? (i := 9) rfl))) (mvT hZ (hw _ (List.mem_of_getElem? (i := 10) rfl))) (mvT hZ (hw _ (List.mem_of_getElem? (i := 2) rfl))) (mvT hZ (hw _ (List.mem_of_getElem? (i := 11) rfl))) (by decide) (backOf (W := 2) (own_rm3 l Z a0 hw [] q1 (1 : Int32) h5 n0 Z7 ) hZ (hw _ (List.mem_of_getElem? (i := 11) rfl)) (hw _ (List.mem_of_getElem? (i := 2) rfl)) (by decide) (by decide)) (g := (mkF m 26 #[.val (.int (4 : Int32)), .val (.long q1), .second, .val (.ref b1)] [(.int (1 : Int32)), (.long q1), (.int (1 : Int32)), (.ref b1)])) rfl (by rw [hml]; rfl) (argsL := [(.long q1), (.int (1 : Int32))]) (rest := [(.int (1 : Int32)), (.ref b1)]) (lenOf own_pd0 rfl) rfl (by show 2 * 0 + _ ≤ _; exact Nat.le_of_eq rfl) (hb hby own_d1_26) (fun _ _ => ⟨rfl, e5, (by decide : 1 + 0 ≤ _), (by decide : 4 + 0 ≤ _)⟩)
  dsimp only [Pt.U, Pt.locs, Pt.cells, Pt.slots] at X8 lq8 yq8 zq8 st8 hQ8
  subst lq8 yq8 zq8
  obtain ⟨rfl, Nq8, eh8⟩ := hQ8
  have N8 := Fr.app N5 Nq8
  refine own_st (G' := T8.setTop (mkF m 29 #[.val (.int (4 : Int32)), .val (.long q1), .second, .val (.ref b1)] [(.long (own_at q1 (1 : Int32))), (.int (1 : Int32)), (.ref b1)])) st8 ?_
  refine own_l2d X8 hx 30 (hb hby own_d1_29) ?_
  obtain ⟨cl9, Ar9, qv9, S9, M9, H9, G9⟩ := id V5
  have hin9 : ¬ ((1 : Int32) < 0 ∨ cl9.slots.size ≤ ((1 : Int32)).toNatClampNeg) := inb_of S9 ⟨by decide, by decide⟩
  obtain ⟨T9, h9, X9, e9, W9, st9⟩ := stD X8 hx hZ eh8 Ar9 (j := (1 : Int32)) hin9 (g := (mkF m 30 #[.val (.int (4 : Int32)), .val (.long q1), .second, .val (.ref b1)] [(.double (FP.l2d (own_at q1 (1 : Int32)))), (.int (1 : Int32)), (.ref b1)])) rfl rfl (hb hby own_d1_30)
  have V9 : Arv Z h9 b1 k1 .double (4 : Int32) [(.double (FP.l2d (own_at q1 (0 : Int32)))), (.double (FP.l2d (own_at q1 (1 : Int32)))), (.double (0 : UInt64)), (.double (0 : UInt64))] (.double (0 : UInt64)) := Arv.set Ar9 qv9 S9 M9 H9 G9 rfl W9 1 rfl (Nat.le_of_ble_eq_true rfl)
  have N9 := Fr.snoc X9 N8 gt_b1
  have KC10 := KC6.wr W9 (Or.inr sz_b1)
  have Z11 := Nat.le_trans Z7 (Nat.le_of_eq W9.size.symm)
  refine own_st (G' := T9.setTop (mkF m 31 #[.val (.int (4 : Int32)), .val (.long q1), .second, .val (.ref b1)] [])) st9 ?_
  refine own_iloadN X9 hx 32 (hb hby own_d1_31) rfl ?_
  refine own_iconst X9 hx 33 (2 : Int32) (hb hby own_d1_32) rfl ?_
  refine own_icmpNo X9 hx 36 (hb hby own_d1_33) (tlt (by decide : (2 : Int32) < (4 : Int32))).2.2.2 ?_
  refine own_aloadN X9 hx 37 (hb hby own_d1_36) rfl rfl ?_
  refine own_iconst X9 hx 38 (2 : Int32) (hb hby own_d1_37) rfl ?_
  refine own_lloadN X9 hx 39 (hb hby own_d1_38) rfl ?_
  refine own_iconst X9 hx 40 (2 : Int32) (hb hby own_d1_39) rfl ?_
  obtain ⟨_, _, ⟨T12, Lx12, kc12, nc12⟩, -, X12, ⟨Lc12, hQ12, lq12, yq12, zq12⟩, st12⟩ := Jvm.LawKit.callS X9 hx (y := (⟨"com/example/kalends/kalends/MatricesDotPinLaw", "at", "(JI)J"⟩ : MethodName)) hown (mvT hZ (hw _ (List.mem_of_getElem? (i := 9) rfl))) (mvT hZ (hw _ (List.mem_of_getElem? (i := 10) rfl))) (mvT hZ (hw _ (List.mem_of_getElem? (i := 2) rfl))) (mvT hZ (hw _ (List.mem_of_getElem? (i := 11) rfl))) (by decide) (backOf (W := 2) (own_rm3 l Z a0 hw [] q1 (2 : Int32) h9 n0 Z11 ) hZ (hw _ (List.mem_of_getElem? (i := 11) rfl)) (hw _ (List.mem_of_getElem? (i := 2) rfl)) (by decide) (by decide)) (g := (mkF m 40 #[.val (.int (4 : Int32)), .val (.long q1), .second, .val (.ref b1)] [(.int (2 : Int32)), (.long q1), (.int (2 : Int32)), (.ref b1)])) rfl (by rw [hml]; rfl) (argsL := [(.long q1), (.int (2 : Int32))]) (rest := [(.int (2 : Int32)), (.ref b1)]) (lenOf own_pd0 rfl) rfl (by show 2 * 0 + _ ≤ _; exact Nat.le_of_eq rfl) (hb hby own_d1_40) (fun _ _ => ⟨rfl, e9, (by decide : 1 + 0 ≤ _), (by decide : 4 + 0 ≤ _)⟩)
  dsimp only [Pt.U, Pt.locs, Pt.cells, Pt.slots] at X12 lq12 yq12 zq12 st12 hQ12
  subst lq12 yq12 zq12
  obtain ⟨rfl, Nq12, eh12⟩ := hQ12
  have N12 := Fr.app N9 Nq12
  refine own_st (G' := T12.setTop (mkF m 43 #[.val (.int (4 : Int32)), .val (.long q1), .second, .val (.ref b1)] [(.long (own_at q1 (2 : Int32))), (.int (2 : Int32)), (.ref b1)])) st12 ?_
  refine own_l2d X12 hx 44 (hb hby own_d1_43) ?_
  obtain ⟨cl13, Ar13, qv13, S13, M13, H13, G13⟩ := id V9
  have hin13 : ¬ ((2 : Int32) < 0 ∨ cl13.slots.size ≤ ((2 : Int32)).toNatClampNeg) := inb_of S13 ⟨by decide, by decide⟩
  obtain ⟨T13, h13, X13, e13, W13, st13⟩ := stD X12 hx hZ eh12 Ar13 (j := (2 : Int32)) hin13 (g := (mkF m 44 #[.val (.int (4 : Int32)), .val (.long q1), .second, .val (.ref b1)] [(.double (FP.l2d (own_at q1 (2 : Int32)))), (.int (2 : Int32)), (.ref b1)])) rfl rfl (hb hby own_d1_44)
  have V13 : Arv Z h13 b1 k1 .double (4 : Int32) [(.double (FP.l2d (own_at q1 (0 : Int32)))), (.double (FP.l2d (own_at q1 (1 : Int32)))), (.double (FP.l2d (own_at q1 (2 : Int32)))), (.double (0 : UInt64))] (.double (0 : UInt64)) := Arv.set Ar13 qv13 S13 M13 H13 G13 rfl W13 2 rfl (Nat.le_of_ble_eq_true rfl)
  have N13 := Fr.snoc X13 N12 gt_b1
  have KC14 := KC10.wr W13 (Or.inr sz_b1)
  have Z15 := Nat.le_trans Z11 (Nat.le_of_eq W13.size.symm)
  refine own_st (G' := T13.setTop (mkF m 45 #[.val (.int (4 : Int32)), .val (.long q1), .second, .val (.ref b1)] [])) st13 ?_
  refine own_iloadN X13 hx 46 (hb hby own_d1_45) rfl ?_
  refine own_iconst X13 hx 47 (3 : Int32) (hb hby own_d1_46) rfl ?_
  refine own_icmpNo X13 hx 50 (hb hby own_d1_47) (tlt (by decide : (3 : Int32) < (4 : Int32))).2.2.2 ?_
  refine own_aloadN X13 hx 51 (hb hby own_d1_50) rfl rfl ?_
  refine own_iconst X13 hx 52 (3 : Int32) (hb hby own_d1_51) rfl ?_
  refine own_lloadN X13 hx 53 (hb hby own_d1_52) rfl ?_
  refine own_iconst X13 hx 54 (3 : Int32) (hb hby own_d1_53) rfl ?_
  obtain ⟨_, _, ⟨T16, Lx16, kc16, nc16⟩, -, X16, ⟨Lc16, hQ16, lq16, yq16, zq16⟩, st16⟩ := Jvm.LawKit.callS X13 hx (y := (⟨"com/example/kalends/kalends/MatricesDotPinLaw", "at", "(JI)J"⟩ : MethodName)) hown (mvT hZ (hw _ (List.mem_of_getElem? (i := 9) rfl))) (mvT hZ (hw _ (List.mem_of_getElem? (i := 10) rfl))) (mvT hZ (hw _ (List.mem_of_getElem? (i := 2) rfl))) (mvT hZ (hw _ (List.mem_of_getElem? (i := 11) rfl))) (by decide) (backOf (W := 2) (own_rm3 l Z a0 hw [] q1 (3 : Int32) h13 n0 Z15 ) hZ (hw _ (List.mem_of_getElem? (i := 11) rfl)) (hw _ (List.mem_of_getElem? (i := 2) rfl)) (by decide) (by decide)) (g := (mkF m 54 #[.val (.int (4 : Int32)), .val (.long q1), .second, .val (.ref b1)] [(.int (3 : Int32)), (.long q1), (.int (3 : Int32)), (.ref b1)])) rfl (by rw [hml]; rfl) (argsL := [(.long q1), (.int (3 : Int32))]) (rest := [(.int (3 : Int32)), (.ref b1)]) (lenOf own_pd0 rfl) rfl (by show 2 * 0 + _ ≤ _; exact Nat.le_of_eq rfl) (hb hby own_d1_54) (fun _ _ => ⟨rfl, e13, (by decide : 1 + 0 ≤ _), (by decide : 4 + 0 ≤ _)⟩)
  dsimp only [Pt.U, Pt.locs, Pt.cells, Pt.slots] at X16 lq16 yq16 zq16 st16 hQ16
  subst lq16 yq16 zq16
  obtain ⟨rfl, Nq16, eh16⟩ := hQ16
  have N16 := Fr.app N13 Nq16
  refine own_st (G' := T16.setTop (mkF m 57 #[.val (.int (4 : Int32)), .val (.long q1), .second, .val (.ref b1)] [(.long (own_at q1 (3 : Int32))), (.int (3 : Int32)), (.ref b1)])) st16 ?_
  refine own_l2d X16 hx 58 (hb hby own_d1_57) ?_
  obtain ⟨cl17, Ar17, qv17, S17, M17, H17, G17⟩ := id V13
  have hin17 : ¬ ((3 : Int32) < 0 ∨ cl17.slots.size ≤ ((3 : Int32)).toNatClampNeg) := inb_of S17 ⟨by decide, by decide⟩
  obtain ⟨T17, h17, X17, e17, W17, st17⟩ := stD X16 hx hZ eh16 Ar17 (j := (3 : Int32)) hin17 (g := (mkF m 58 #[.val (.int (4 : Int32)), .val (.long q1), .second, .val (.ref b1)] [(.double (FP.l2d (own_at q1 (3 : Int32)))), (.int (3 : Int32)), (.ref b1)])) rfl rfl (hb hby own_d1_58)
  have V17 : Arv Z h17 b1 k1 .double (4 : Int32) [(.double (FP.l2d (own_at q1 (0 : Int32)))), (.double (FP.l2d (own_at q1 (1 : Int32)))), (.double (FP.l2d (own_at q1 (2 : Int32)))), (.double (FP.l2d (own_at q1 (3 : Int32))))] (.double (0 : UInt64)) := Arv.set Ar17 qv17 S17 M17 H17 G17 rfl W17 3 rfl (Nat.le_of_ble_eq_true rfl)
  have N17 := Fr.snoc X17 N16 gt_b1
  have KC18 := KC14.wr W17 (Or.inr sz_b1)
  have Z19 := Nat.le_trans Z15 (Nat.le_of_eq W17.size.symm)
  refine own_st (G' := T17.setTop (mkF m 59 #[.val (.int (4 : Int32)), .val (.long q1), .second, .val (.ref b1)] [])) st17 ?_
  refine own_aloadN X17 hx 60 (hb hby own_d1_59) rfl rfl ?_
  exact own_retA (z := (.ref b1)) (Q := own_Q1n4 Z q1 h0 n0) X17 hx hrt rfl rfl (hb hby own_d1_60) hlk e17 ⟨b1, k1, rfl, N17, KC18, sz_b1, V17⟩ (by decide) (by decide)
theorem own_d2_0 : decode prog_30_method_14_code 0 = .ok (.dconst 0, 1) := by decide +kernel
theorem own_d2_1 : decode prog_30_method_14_code 1 = .ok (.dstore_n 2, 1) := by decide +kernel
theorem own_d2_2 : decode prog_30_method_14_code 2 = .ok (.iconst 0, 1) := by decide +kernel
theorem own_d2_3 : decode prog_30_method_14_code 3 = .ok (.istore 4, 2) := by decide +kernel
theorem own_d2_5 : decode prog_30_method_14_code 5 = .ok (.iload 4, 2) := by decide +kernel
theorem own_d2_7 : decode prog_30_method_14_code 7 = .ok (.aload_n 0, 1) := by decide +kernel
theorem own_d2_8 : decode prog_30_method_14_code 8 = .ok (.arraylength, 1) := by decide +kernel
theorem own_d2_9 : decode prog_30_method_14_code 9 = .ok (.if_icmp .ge 21, 3) := by decide +kernel
theorem own_d2_30 : decode prog_30_method_14_code 30 = .ok (.dload_n 2, 1) := by decide +kernel
theorem own_d2_31 : decode prog_30_method_14_code 31 = .ok (.dreturn, 1) := by decide +kernel
theorem own_pn1 : plainName "com/example/kalends/kalends/Matrices" = true := by first | (simp [plainName, overriddenIn]; done) | decide +kernel
theorem own_ef2n0 (m : MethodId) (o1 : Addr) (o2 : Addr) : entryFrame m #[(.ref o1), (.ref o2)] 5 = mkF m 0 #[.val (.ref o1), .val (.ref o2), .unset, .unset, .unset] [] := by first | (simp [entryFrame, mkF, argsToLocals, Value.category]; done) | rfl
def own_Q2n0 (Z : State) (o1 : Addr) (o2 : Addr) (k1 : ClassId) (k2 : ClassId) (h0 : Heap) (n0 : Nat) (v : Option Value) (h : Heap) (L : List Loc) : Prop := ∃ zz : UInt64, v = some (.double zz) ∧ Fr n0 L ∧ Keep h0 h [] ∧ (FP.Core.DInt (0 : Int64).toInt zz ∧ (0 : Int64).toInt.natAbs ≤ 4294967296)
set_option maxRecDepth 65536 in
set_option maxHeartbeats 40000000 in
theorem own_rm2n0 (l : Launch) (Z : State) (a0 : Array Value) (hw : ∀ d ∈ tables_1, d.before a0 Z = true) (ws : List Jvm.Cond) (o1 : Addr) (o2 : Addr) (k1 : ClassId) (k2 : ClassId) (h0 : Heap) (n0 : Nat) (Z0 : n0 ≤ h0.size) (pV1 : Arv Z h0 o1 k1 .double (0 : Int32) [] (.double (0 : UInt64))) (pV2 : Arv Z h0 o2 k2 .double (0 : Int32) [] (.double (0 : UInt64))) :
    MetFree l (⟨"com/example/kalends/kalends/Matrices", "dot", "([D[D)D"⟩ : MethodName) (head1 (Jvm.Cond.code (⟨"com/example/kalends/kalends/Matrices", "dot", "([D[D)D"⟩ : MethodName) prog_30_method_14_code 5 (some .double) :: ws) ({ frames := 0, cells := 0, slots := 0, locals := 0 } : Room)) (fun a U => a = #[(.ref o1), (.ref o2)] ∧ Z.Warmed39 U.vm ∧ U.heap = h0) (fun _ _ _ _ _ => True) (fun _ U o U' => ∃ v L, o = .returned v ∧ own_Q2n0 Z o1 o2 k1 k2 h0 n0 v U'.heap L ∧ FrameEnd U o U' L ({ frames := 0, cells := 0, slots := 0, locals := 0 } : Room).cells ({ frames := 0, cells := 0, slots := 0, locals := 0 } : Room).slots) := by
  refine MetFree.of_bodySF (plainFor_of_name own_pn1) hisR ?_
  intro p e s m args below meth c s₁ Bd hml0 hP hK
  obtain ⟨rfl, hZ, hh⟩ := hP
  have hx := Bd.exec
  have hby := Bd.bytes
  have hlk := Bd.notSynchronized
  have hrt := Bd.returns
  have hml : c.maxLocals = 5 := hml0
  have hown : s.vm.findClass "com/example/kalends/kalends/Matrices" = some m.cls := findClass_of_methodNamed Bd.named
  have hnm := (name_of_methodNamed Bd.named Bd.method).1
  have X0 : Stand p l e ({ frames := 0, cells := 0, slots := 0, locals := 0 } : Room) s m #[(.ref o1), (.ref o2)] below meth c s₁ [] 0 0 := Stand.of_body Bd
  have e0 : s₁.heap = h0 := by rw [← hh, Bd.state]; rfl
  have N0 := Fr.nil n0
  have KC0 := Keep.refl h0 []
  refine own_in (own_ef2n0 m o1 o2) ?_
  refine own_dconst0 X0 hx 1 (hb hby own_d2_0) ?_
  refine own_dstoreN X0 hx 2 #[.val (.ref o1), .val (.ref o2), .val (.double FP.dconst0), .second, .unset] (hb hby own_d2_1) rfl ?_
  refine own_iconst X0 hx 3 (0 : Int32) (hb hby own_d2_2) rfl ?_
  refine own_istore X0 hx 5 #[.val (.ref o1), .val (.ref o2), .val (.double FP.dconst0), .second, .val (.int (0 : Int32))] (hb hby own_d2_3) rfl ?_
  refine own_iload X0 hx 7 (hb hby own_d2_5) rfl ?_
  refine own_aloadN X0 hx 8 (hb hby own_d2_7) rfl rfl ?_
  obtain ⟨cl1, Ar1, qv1, S1, M1, H1, G1⟩ := id pV1
  have ln1 := len_of S1 M1
  refine own_st (G' := s₁.setTop (mkF m 9 #[.val (.ref o1), .val (.ref o2), .val (.double FP.dconst0), .second, .val (.int (0 : Int32))] [(.int (0 : Int32)), (.int (0 : Int32))])) (fun t k => X0.arraylength hx (by rw [e0]; exact Ar1.1) (State.isArrayOf_alike hZ.alike Ar1.2.1) (g := (mkF m 8 #[.val (.ref o1), .val (.ref o2), .val (.double FP.dconst0), .second, .val (.int (0 : Int32))] [(.ref o1), (.int (0 : Int32))])) rfl rfl (hb hby own_d2_8) _ (by rw [ln1]; exact k)) ?_
  refine own_icmpYes X0 hx 30 (hb hby own_d2_9) (flt (by decide : ¬ ((0 : Int32) < (0 : Int32)))).2.1 ?_
  refine own_dloadN X0 hx 31 (hb hby own_d2_30) rfl ?_
  exact own_retD (z := FP.dconst0) (Q := own_Q2n0 Z o1 o2 k1 k2 h0 n0) X0 hx hrt (hb hby own_d2_31) hlk e0 ⟨FP.dconst0, rfl, N0, KC0, own_end own_d0 (by decide)⟩ (by decide) (by decide)
theorem own_d2_12 : decode prog_30_method_14_code 12 = .ok (.dload_n 2, 1) := by decide +kernel
theorem own_d2_13 : decode prog_30_method_14_code 13 = .ok (.aload_n 0, 1) := by decide +kernel
theorem own_d2_14 : decode prog_30_method_14_code 14 = .ok (.iload 4, 2) := by decide +kernel
theorem own_d2_16 : decode prog_30_method_14_code 16 = .ok (.daload, 1) := by decide +kernel
theorem own_d2_17 : decode prog_30_method_14_code 17 = .ok (.aload_n 1, 1) := by decide +kernel
theorem own_d2_18 : decode prog_30_method_14_code 18 = .ok (.iload 4, 2) := by decide +kernel
theorem own_d2_20 : decode prog_30_method_14_code 20 = .ok (.daload, 1) := by decide +kernel
theorem own_d2_21 : decode prog_30_method_14_code 21 = .ok (.dmul, 1) := by decide +kernel
theorem own_d2_22 : decode prog_30_method_14_code 22 = .ok (.dadd, 1) := by decide +kernel
theorem own_d2_23 : decode prog_30_method_14_code 23 = .ok (.dstore_n 2, 1) := by decide +kernel
theorem own_d2_24 : decode prog_30_method_14_code 24 = .ok (.iinc 4 1, 3) := by decide +kernel
theorem own_d2_27 : decode prog_30_method_14_code 27 = .ok (.goto (-22), 3) := by decide +kernel
theorem own_ef2n1 (m : MethodId) (o1 : Addr) (o2 : Addr) : entryFrame m #[(.ref o1), (.ref o2)] 5 = mkF m 0 #[.val (.ref o1), .val (.ref o2), .unset, .unset, .unset] [] := by first | (simp [entryFrame, mkF, argsToLocals, Value.category]; done) | rfl
def own_Q2n1 (Z : State) (o1 : Addr) (o2 : Addr) (k1 : ClassId) (k2 : ClassId) (x0 : Int64) (y0 : Int64) (h0 : Heap) (n0 : Nat) (v : Option Value) (h : Heap) (L : List Loc) : Prop := ∃ zz : UInt64, v = some (.double zz) ∧ Fr n0 L ∧ Keep h0 h [] ∧ (FP.Core.DInt ((0 : Int64) + (x0 * y0)).toInt zz ∧ ((0 : Int64) + (x0 * y0)).toInt.natAbs ≤ 4294967296)
set_option maxRecDepth 65536 in
set_option maxHeartbeats 40000000 in
theorem own_rm2n1 (l : Launch) (Z : State) (a0 : Array Value) (hw : ∀ d ∈ tables_1, d.before a0 Z = true) (ws : List Jvm.Cond) (o1 : Addr) (o2 : Addr) (k1 : ClassId) (k2 : ClassId) (x0 : Int64) (y0 : Int64) (h0 : Heap) (n0 : Nat) (Z0 : n0 ≤ h0.size) (pV1 : Arv Z h0 o1 k1 .double (1 : Int32) [(.double (FP.l2d x0))] (.double (0 : UInt64))) (pV2 : Arv Z h0 o2 k2 .double (1 : Int32) [(.double (FP.l2d y0))] (.double (0 : UInt64))) (hx0 : -32768 ≤ x0.toInt ∧ x0.toInt ≤ 32767) (hy0 : -32768 ≤ y0.toInt ∧ y0.toInt ≤ 32767) :
    MetFree l (⟨"com/example/kalends/kalends/Matrices", "dot", "([D[D)D"⟩ : MethodName) (head1 (Jvm.Cond.code (⟨"com/example/kalends/kalends/Matrices", "dot", "([D[D)D"⟩ : MethodName) prog_30_method_14_code 5 (some .double) :: ws) ({ frames := 0, cells := 0, slots := 0, locals := 0 } : Room)) (fun a U => a = #[(.ref o1), (.ref o2)] ∧ Z.Warmed39 U.vm ∧ U.heap = h0) (fun _ _ _ _ _ => True) (fun _ U o U' => ∃ v L, o = .returned v ∧ own_Q2n1 Z o1 o2 k1 k2 x0 y0 h0 n0 v U'.heap L ∧ FrameEnd U o U' L ({ frames := 0, cells := 0, slots := 0, locals := 0 } : Room).cells ({ frames := 0, cells := 0, slots := 0, locals := 0 } : Room).slots) := by
  refine MetFree.of_bodySF (plainFor_of_name own_pn1) hisR ?_
  intro p e s m args below meth c s₁ Bd hml0 hP hK
  obtain ⟨rfl, hZ, hh⟩ := hP
  have hx := Bd.exec
  have hby := Bd.bytes
  have hlk := Bd.notSynchronized
  have hrt := Bd.returns
  have hml : c.maxLocals = 5 := hml0
  have hown : s.vm.findClass "com/example/kalends/kalends/Matrices" = some m.cls := findClass_of_methodNamed Bd.named
  have hnm := (name_of_methodNamed Bd.named Bd.method).1
  have X0 : Stand p l e ({ frames := 0, cells := 0, slots := 0, locals := 0 } : Room) s m #[(.ref o1), (.ref o2)] below meth c s₁ [] 0 0 := Stand.of_body Bd
  have e0 : s₁.heap = h0 := by rw [← hh, Bd.state]; rfl
  have N0 := Fr.nil n0
  have KC0 := Keep.refl h0 []
  refine own_in (own_ef2n1 m o1 o2) ?_
  refine own_dconst0 X0 hx 1 (hb hby own_d2_0) ?_
  refine own_dstoreN X0 hx 2 #[.val (.ref o1), .val (.ref o2), .val (.double FP.dconst0), .second, .unset] (hb hby own_d2_1) rfl ?_
  refine own_iconst X0 hx 3 (0 : Int32) (hb hby own_d2_2) rfl ?_
  refine own_istore X0 hx 5 #[.val (.ref o1), .val (.ref o2), .val (.double FP.dconst0), .second, .val (.int (0 : Int32))] (hb hby own_d2_3) rfl ?_
  refine own_iload X0 hx 7 (hb hby own_d2_5) rfl ?_
  refine own_aloadN X0 hx 8 (hb hby own_d2_7) rfl rfl ?_
  obtain ⟨cl1, Ar1, qv1, S1, M1, H1, G1⟩ := id pV1
  have ln1 := len_of S1 M1
  refine own_st (G' := s₁.setTop (mkF m 9 #[.val (.ref o1), .val (.ref o2), .val (.double FP.dconst0), .second, .val (.int (0 : Int32))] [(.int (1 : Int32)), (.int (0 : Int32))])) (fun t k => X0.arraylength hx (by rw [e0]; exact Ar1.1) (State.isArrayOf_alike hZ.alike Ar1.2.1) (g := (mkF m 8 #[.val (.ref o1), .val (.ref o2), .val (.double FP.dconst0), .second, .val (.int (0 : Int32))] [(.ref o1), (.int (0 : Int32))])) rfl rfl (hb hby own_d2_8) _ (by rw [ln1]; exact k)) ?_
  refine own_icmpNo X0 hx 12 (hb hby own_d2_9) (tlt (by decide : (0 : Int32) < (1 : Int32))).2.1 ?_
  refine own_dloadN X0 hx 13 (hb hby own_d2_12) rfl ?_
  refine own_aloadN X0 hx 14 (hb hby own_d2_13) rfl rfl ?_
  refine own_iload X0 hx 16 (hb hby own_d2_14) rfl ?_
  obtain ⟨cl2, Ar2, qv2, S2, M2, H2, G2⟩ := id pV1
  have hin2 : ¬ ((0 : Int32) < 0 ∨ cl2.slots.size ≤ ((0 : Int32)).toNatClampNeg) := inb_of S2 ⟨by decide, by decide⟩
  refine own_st (G' := s₁.setTop (mkF m 17 #[.val (.ref o1), .val (.ref o2), .val (.double FP.dconst0), .second, .val (.int (0 : Int32))] [(.double (FP.l2d x0)), (.double FP.dconst0)])) (fun t k => X0.daload hx (j := (0 : Int32)) (v := (.double (FP.l2d x0))) (by rw [e0]; exact Ar2.1) (State.isArrayOf_alike hZ.alike Ar2.2.1) Ar2.2.2 hin2 (H2.at hin2 rfl) (g := (mkF m 16 #[.val (.ref o1), .val (.ref o2), .val (.double FP.dconst0), .second, .val (.int (0 : Int32))] [(.int (0 : Int32)), (.ref o1), (.double FP.dconst0)])) rfl rfl (hb hby own_d2_16) _ k) ?_
  refine own_aloadN X0 hx 18 (hb hby own_d2_17) rfl rfl ?_
  refine own_iload X0 hx 20 (hb hby own_d2_18) rfl ?_
  obtain ⟨cl3, Ar3, qv3, S3, M3, H3, G3⟩ := id pV2
  have hin3 : ¬ ((0 : Int32) < 0 ∨ cl3.slots.size ≤ ((0 : Int32)).toNatClampNeg) := inb_of S3 ⟨by decide, by decide⟩
  refine own_st (G' := s₁.setTop (mkF m 21 #[.val (.ref o1), .val (.ref o2), .val (.double FP.dconst0), .second, .val (.int (0 : Int32))] [(.double (FP.l2d y0)), (.double (FP.l2d x0)), (.double FP.dconst0)])) (fun t k => X0.daload hx (j := (0 : Int32)) (v := (.double (FP.l2d y0))) (by rw [e0]; exact Ar3.1) (State.isArrayOf_alike hZ.alike Ar3.2.1) Ar3.2.2 hin3 (H3.at hin3 rfl) (g := (mkF m 20 #[.val (.ref o1), .val (.ref o2), .val (.double FP.dconst0), .second, .val (.int (0 : Int32))] [(.int (0 : Int32)), (.ref o2), (.double (FP.l2d x0)), (.double FP.dconst0)])) rfl rfl (hb hby own_d2_20) _ k) ?_
  refine own_dmul X0 hx 22 (hb hby own_d2_21) (own_nn (own_mul hx0 hy0)) ?_
  refine own_dadd X0 hx 23 (hb hby own_d2_22) (own_nn (own_fma own_d0 hx0 hy0 (by decide)).1) ?_
  refine own_dstoreN X0 hx 24 #[.val (.ref o1), .val (.ref o2), .val (.double (FP.dadd FP.dconst0 (FP.dmul (FP.l2d x0) (FP.l2d y0)))), .second, .val (.int (0 : Int32))] (hb hby own_d2_23) rfl ?_
  refine own_iinc X0 hx 27 (1 : Int32) #[.val (.ref o1), .val (.ref o2), .val (.double (FP.dadd FP.dconst0 (FP.dmul (FP.l2d x0) (FP.l2d y0)))), .second, .val (.int (1 : Int32))] (hb hby own_d2_24) rfl rfl rfl ?_
  refine own_goto X0 hx 5 (hb hby own_d2_27) ?_
  refine own_iload X0 hx 7 (hb hby own_d2_5) rfl ?_
  refine own_aloadN X0 hx 8 (hb hby own_d2_7) rfl rfl ?_
  obtain ⟨cl4, Ar4, qv4, S4, M4, H4, G4⟩ := id pV1
  have ln4 := len_of S4 M4
  refine own_st (G' := s₁.setTop (mkF m 9 #[.val (.ref o1), .val (.ref o2), .val (.double (FP.dadd FP.dconst0 (FP.dmul (FP.l2d x0) (FP.l2d y0)))), .second, .val (.int (1 : Int32))] [(.int (1 : Int32)), (.int (1 : Int32))])) (fun t k => X0.arraylength hx (by rw [e0]; exact Ar4.1) (State.isArrayOf_alike hZ.alike Ar4.2.1) (g := (mkF m 8 #[.val (.ref o1), .val (.ref o2), .val (.double (FP.dadd FP.dconst0 (FP.dmul (FP.l2d x0) (FP.l2d y0)))), .second, .val (.int (1 : Int32))] [(.ref o1), (.int (1 : Int32))])) rfl rfl (hb hby own_d2_8) _ (by rw [ln4]; exact k)) ?_
  refine own_icmpYes X0 hx 30 (hb hby own_d2_9) (flt (by decide : ¬ ((1 : Int32) < (1 : Int32)))).2.1 ?_
  refine own_dloadN X0 hx 31 (hb hby own_d2_30) rfl ?_
  exact own_retD (z := (FP.dadd FP.dconst0 (FP.dmul (FP.l2d x0) (FP.l2d y0)))) (Q := own_Q2n1 Z o1 o2 k1 k2 x0 y0 h0 n0) X0 hx hrt (hb hby own_d2_31) hlk e0 ⟨(FP.dadd FP.dconst0 (FP.dmul (FP.l2d x0) (FP.l2d y0))), rfl, N0, KC0, own_end (own_fma own_d0 hx0 hy0 (by decide)) (by decide)⟩ (by decide) (by decide)
theorem own_ef2n2 (m : MethodId) (o1 : Addr) (o2 : Addr) : entryFrame m #[(.ref o1), (.ref o2)] 5 = mkF m 0 #[.val (.ref o1), .val (.ref o2), .unset, .unset, .unset] [] := by first | (simp [entryFrame, mkF, argsToLocals, Value.category]; done) | rfl
def own_Q2n2 (Z : State) (o1 : Addr) (o2 : Addr) (k1 : ClassId) (k2 : ClassId) (x0 : Int64) (x1 : Int64) (y0 : Int64) (y1 : Int64) (h0 : Heap) (n0 : Nat) (v : Option Value) (h : Heap) (L : List Loc) : Prop := ∃ zz : UInt64, v = some (.double zz) ∧ Fr n0 L ∧ Keep h0 h [] ∧ (FP.Core.DInt (((0 : Int64) + (x0 * y0)) + (x1 * y1)).toInt zz ∧ (((0 : Int64) + (x0 * y0)) + (x1 * y1)).toInt.natAbs ≤ 4294967296)
set_option maxRecDepth 65536 in
set_option maxHeartbeats 40000000 in
theorem own_rm2n2 (l : Launch) (Z : State) (a0 : Array Value) (hw : ∀ d ∈ tables_1, d.before a0 Z = true) (ws : List Jvm.Cond) (o1 : Addr) (o2 : Addr) (k1 : ClassId) (k2 : ClassId) (x0 : Int64) (x1 : Int64) (y0 : Int64) (y1 : Int64) (h0 : Heap) (n0 : Nat) (Z0 : n0 ≤ h0.size) (pV1 : Arv Z h0 o1 k1 .double (2 : Int32) [(.double (FP.l2d x0)), (.double (FP.l2d x1))] (.double (0 : UInt64))) (pV2 : Arv Z h0 o2 k2 .double (2 : Int32) [(.double (FP.l2d y0)), (.double (FP.l2d y1))] (.double (0 : UInt64))) (hx0 : -32768 ≤ x0.toInt ∧ x0.toInt ≤ 32767) (hx1 : -32768 ≤ x1.toInt ∧ x1.toInt ≤ 32767) (hy0 : -32768 ≤ y0.toInt ∧ y0.toInt ≤ 32767) (hy1 : -32768 ≤ y1.toInt ∧ y1.toInt ≤ 32767) :
    MetFree l (⟨"com/example/kalends/kalends/Matrices", "dot", "([D[D)D"⟩ : MethodName) (head1 (Jvm.Cond.code (⟨"com/example/kalends/kalends/Matrices", "dot", "([D[D)D"⟩ : MethodName) prog_30_method_14_code 5 (some .double) :: ws) ({ frames := 0, cells := 0, slots := 0, locals := 0 } : Room)) (fun a U => a = #[(.ref o1), (.ref o2)] ∧ Z.Warmed39 U.vm ∧ U.heap = h0) (fun _ _ _ _ _ => True) (fun _ U o U' => ∃ v L, o = .returned v ∧ own_Q2n2 Z o1 o2 k1 k2 x0 x1 y0 y1 h0 n0 v U'.heap L ∧ FrameEnd U o U' L ({ frames := 0, cells := 0, slots := 0, locals := 0 } : Room).cells ({ frames := 0, cells := 0, slots := 0, locals := 0 } : Room).slots) := by
  refine MetFree.of_bodySF (plainFor_of_name own_pn1) hisR ?_
  intro p e s m args below meth c s₁ Bd hml0 hP hK
  obtain ⟨rfl, hZ, hh⟩ := hP
  have hx := Bd.exec
  have hby := Bd.bytes
  have hlk := Bd.notSynchronized
  have hrt := Bd.returns
  have hml : c.maxLocals = 5 := hml0
  have hown : s.vm.findClass "com/example/kalends/kalends/Matrices" = some m.cls := findClass_of_methodNamed Bd.named
  have hnm := (name_of_methodNamed Bd.named Bd.method).1
  have X0 : Stand p l e ({ frames := 0, cells := 0, slots := 0, locals := 0 } : Room) s m #[(.ref o1), (.ref o2)] below meth c s₁ [] 0 0 := Stand.of_body Bd
  have e0 : s₁.heap = h0 := by rw [← hh, Bd.state]; rfl
  have N0 := Fr.nil n0
  have KC0 := Keep.refl h0 []
  refine own_in (own_ef2n2 m o1 o2) ?_
  refine own_dconst0 X0 hx 1 (hb hby own_d2_0) ?_
  refine own_dstoreN X0 hx 2 #[.val (.ref o1), .val (.ref o2), .val (.double FP.dconst0), .second, .unset] (hb hby own_d2_1) rfl ?_
  refine own_iconst X0 hx 3 (0 : Int32) (hb hby own_d2_2) rfl ?_
  refine own_istore X0 hx 5 #[.val (.ref o1), .val (.ref o2), .val (.double FP.dconst0), .second, .val (.int (0 : Int32))] (hb hby own_d2_3) rfl ?_
  refine own_iload X0 hx 7 (hb hby own_d2_5) rfl ?_
  refine own_aloadN X0 hx 8 (hb hby own_d2_7) rfl rfl ?_
  obtain ⟨cl1, Ar1, qv1, S1, M1, H1, G1⟩ := id pV1
  have ln1 := len_of S1 M1
  refine own_st (G' := s₁.setTop (mkF m 9 #[.val (.ref o1), .val (.ref o2), .val (.double FP.dconst0), .second, .val (.int (0 : Int32))] [(.int (2 : Int32)), (.int (0 : Int32))])) (fun t k => X0.arraylength hx (by rw [e0]; exact Ar1.1) (State.isArrayOf_alike hZ.alike Ar1.2.1) (g := (mkF m 8 #[.val (.ref o1), .val (.ref o2), .val (.double FP.dconst0), .second, .val (.int (0 : Int32))] [(.ref o1), (.int (0 : Int32))])) rfl rfl (hb hby own_d2_8) _ (by rw [ln1]; exact k)) ?_
  refine own_icmpNo X0 hx 12 (hb hby own_d2_9) (tlt (by decide : (0 : Int32) < (2 : Int32))).2.1 ?_
  refine own_dloadN X0 hx 13 (hb hby own_d2_12) rfl ?_
  refine own_aloadN X0 hx 14 (hb hby own_d2_13) rfl rfl ?_
  refine own_iload X0 hx 16 (hb hby own_d2_14) rfl ?_
  obtain ⟨cl2, Ar2, qv2, S2, M2, H2, G2⟩ := id pV1
  have hin2 : ¬ ((0 : Int32) < 0 ∨ cl2.slots.size ≤ ((0 : Int32)).toNatClampNeg) := inb_of S2 ⟨by decide, by decide⟩
  refine own_st (G' := s₁.setTop (mkF m 17 #[.val (.ref o1), .val (.ref o2), .val (.double FP.dconst0), .second, .val (.int (0 : Int32))] [(.double (FP.l2d x0)), (.double FP.dconst0)])) (fun t k => X0.daload hx (j := (0 : Int32)) (v := (.double (FP.l2d x0))) (by rw [e0]; exact Ar2.1) (State.isArrayOf_alike hZ.alike Ar2.2.1) Ar2.2.2 hin2 (H2.at hin2 rfl) (g := (mkF m 16 #[.val (.ref o1), .val (.ref o2), .val (.double FP.dconst0), .second, .val (.int (0 : Int32))] [(.int (0 : Int32)), (.ref o1), (.double FP.dconst0)])) rfl rfl (hb hby own_d2_16) _ k) ?_
  refine own_aloadN X0 hx 18 (hb hby own_d2_17) rfl rfl ?_
  refine own_iload X0 hx 20 (hb hby own_d2_18) rfl ?_
  obtain ⟨cl3, Ar3, qv3, S3, M3, H3, G3⟩ := id pV2
  have hin3 : ¬ ((0 : Int32) < 0 ∨ cl3.slots.size ≤ ((0 : Int32)).toNatClampNeg) := inb_of S3 ⟨by decide, by decide⟩
  refine own_st (G' := s₁.setTop (mkF m 21 #[.val (.ref o1), .val (.ref o2), .val (.double FP.dconst0), .second, .val (.int (0 : Int32))] [(.double (FP.l2d y0)), (.double (FP.l2d x0)), (.double FP.dconst0)])) (fun t k => X0.daload hx (j := (0 : Int32)) (v := (.double (FP.l2d y0))) (by rw [e0]; exact Ar3.1) (State.isArrayOf_alike hZ.alike Ar3.2.1) Ar3.2.2 hin3 (H3.at hin3 rfl) (g := (mkF m 20 #[.val (.ref o1), .val (.ref o2), .val (.double FP.dconst0), .second, .val (.int (0 : Int32))] [(.int (0 : Int32)), (.ref o2), (.double (FP.l2d x0)), (.double FP.dconst0)])) rfl rfl (hb hby own_d2_20) _ k) ?_
  refine own_dmul X0 hx 22 (hb hby own_d2_21) (own_nn (own_mul hx0 hy0)) ?_
  refine own_dadd X0 hx 23 (hb hby own_d2_22) (own_nn (own_fma own_d0 hx0 hy0 (by decide)).1) ?_
  refine own_dstoreN X0 hx 24 #[.val (.ref o1), .val (.ref o2), .val (.double (FP.dadd FP.dconst0 (FP.dmul (FP.l2d x0) (FP.l2d y0)))), .second, .val (.int (0 : Int32))] (hb hby own_d2_23) rfl ?_
  refine own_iinc X0 hx 27 (1 : Int32) #[.val (.ref o1), .val (.ref o2), .val (.double (FP.dadd FP.dconst0 (FP.dmul (FP.l2d x0) (FP.l2d y0)))), .second, .val (.int (1 : Int32))] (hb hby own_d2_24) rfl rfl rfl ?_
  refine own_goto X0 hx 5 (hb hby own_d2_27) ?_
  refine own_iload X0 hx 7 (hb hby own_d2_5) rfl ?_
  refine own_aloadN X0 hx 8 (hb hby own_d2_7) rfl rfl ?_
  obtain ⟨cl4, Ar4, qv4, S4, M4, H4, G4⟩ := id pV1
  have ln4 := len_of S4 M4
  refine own_st (G' := s₁.setTop (mkF m 9 #[.val (.ref o1), .val (.ref o2), .val (.double (FP.dadd FP.dconst0 (FP.dmul (FP.l2d x0) (FP.l2d y0)))), .second, .val (.int (1 : Int32))] [(.int (2 : Int32)), (.int (1 : Int32))])) (fun t k => X0.arraylength hx (by rw [e0]; exact Ar4.1) (State.isArrayOf_alike hZ.alike Ar4.2.1) (g := (mkF m 8 #[.val (.ref o1), .val (.ref o2), .val (.double (FP.dadd FP.dconst0 (FP.dmul (FP.l2d x0) (FP.l2d y0)))), .second, .val (.int (1 : Int32))] [(.ref o1), (.int (1 : Int32))])) rfl rfl (hb hby own_d2_8) _ (by rw [ln4]; exact k)) ?_
  refine own_icmpNo X0 hx 12 (hb hby own_d2_9) (tlt (by decide : (1 : Int32) < (2 : Int32))).2.1 ?_
  refine own_dloadN X0 hx 13 (hb hby own_d2_12) rfl ?_
  refine own_aloadN X0 hx 14 (hb hby own_d2_13) rfl rfl ?_
  refine own_iload X0 hx 16 (hb hby own_d2_14) rfl ?_
  obtain ⟨cl5, Ar5, qv5, S5, M5, H5, G5⟩ := id pV1
  have hin5 : ¬ ((1 : Int32) < 0 ∨ cl5.slots.size ≤ ((1 : Int32)).toNatClampNeg) := inb_of S5 ⟨by decide, by decide⟩
  refine own_st (G' := s₁.setTop (mkF m 17 #[.val (.ref o1), .val (.ref o2), .val (.double (FP.dadd FP.dconst0 (FP.dmul (FP.l2d x0) (FP.l2d y0)))), .second, .val (.int (1 : Int32))] [(.double (FP.l2d x1)), (.double (FP.dadd FP.dconst0 (FP.dmul (FP.l2d x0) (FP.l2d y0))))])) (fun t k => X0.daload hx (j := (1 : Int32)) (v := (.double (FP.l2d x1))) (by rw [e0]; exact Ar5.1) (State.isArrayOf_alike hZ.alike Ar5.2.1) Ar5.2.2 hin5 (H5.at hin5 rfl) (g := (mkF m 16 #[.val (.ref o1), .val (.ref o2), .val (.double (FP.dadd FP.dconst0 (FP.dmul (FP.l2d x0) (FP.l2d y0)))), .second, .val (.int (1 : Int32))] [(.int (1 : Int32)), (.ref o1), (.double (FP.dadd FP.dconst0 (FP.dmul (FP.l2d x0) (FP.l2d y0))))])) rfl rfl (hb hby own_d2_16) _ k) ?_
  refine own_aloadN X0 hx 18 (hb hby own_d2_17) rfl rfl ?_
  refine own_iload X0 hx 20 (hb hby own_d2_18) rfl ?_
  obtain ⟨cl6, Ar6, qv6, S6, M6, H6, G6⟩ := id pV2
  have hin6 : ¬ ((1 : Int32) < 0 ∨ cl6.slots.size ≤ ((1 : Int32)).toNatClampNeg) := inb_of S6 ⟨by decide, by decide⟩
  refine own_st (G' := s₁.setTop (mkF m 21 #[.val (.ref o1), .val (.ref o2), .val (.double (FP.dadd FP.dconst0 (FP.dmul (FP.l2d x0) (FP.l2d y0)))), .second, .val (.int (1 : Int32))] [(.double (FP.l2d y1)), (.double (FP.l2d x1)), (.double (FP.dadd FP.dconst0 (FP.dmul (FP.l2d x0) (FP.l2d y0))))])) (fun t k => X0.daload hx (j := (1 : Int32)) (v := (.double (FP.l2d y1))) (by rw [e0]; exact Ar6.1) (State.isArrayOf_alike hZ.alike Ar6.2.1) Ar6.2.2 hin6 (H6.at hin6 rfl) (g := (mkF m 20 #[.val (.ref o1), .val (.ref o2), .val (.double (FP.dadd FP.dconst0 (FP.dmul (FP.l2d x0) (FP.l2d y0)))), .second, .val (.int (1 : Int32))] [(.int (1 : Int32)), (.ref o2), (.double (FP.l2d x1)), (.double (FP.dadd FP.dconst0 (FP.dmul (FP.l2d x0) (FP.l2d y0))))])) rfl rfl (hb hby own_d2_20) _ k) ?_
  refine own_dmul X0 hx 22 (hb hby own_d2_21) (own_nn (own_mul hx1 hy1)) ?_
  refine own_dadd X0 hx 23 (hb hby own_d2_22) (own_nn (own_fma (own_fma own_d0 hx0 hy0 (by decide)) hx1 hy1 (by decide)).1) ?_
  refine own_dstoreN X0 hx 24 #[.val (.ref o1), .val (.ref o2), .val (.double (FP.dadd (FP.dadd FP.dconst0 (FP.dmul (FP.l2d x0) (FP.l2d y0))) (FP.dmul (FP.l2d x1) (FP.l2d y1)))), .second, .val (.int (1 : Int32))] (hb hby own_d2_23) rfl ?_
  refine own_iinc X0 hx 27 (1 : Int32) #[.val (.ref o1), .val (.ref o2), .val (.double (FP.dadd (FP.dadd FP.dconst0 (FP.dmul (FP.l2d x0) (FP.l2d y0))) (FP.dmul (FP.l2d x1) (FP.l2d y1)))), .second, .val (.int (2 : Int32))] (hb hby own_d2_24) rfl rfl rfl ?_
  refine own_goto X0 hx 5 (hb hby own_d2_27) ?_
  refine own_iload X0 hx 7 (hb hby own_d2_5) rfl ?_
  refine own_aloadN X0 hx 8 (hb hby own_d2_7) rfl rfl ?_
  obtain ⟨cl7, Ar7, qv7, S7, M7, H7, G7⟩ := id pV1
  have ln7 := len_of S7 M7
  refine own_st (G' := s₁.setTop (mkF m 9 #[.val (.ref o1), .val (.ref o2), .val (.double (FP.dadd (FP.dadd FP.dconst0 (FP.dmul (FP.l2d x0) (FP.l2d y0))) (FP.dmul (FP.l2d x1) (FP.l2d y1)))), .second, .val (.int (2 : Int32))] [(.int (2 : Int32)), (.int (2 : Int32))])) (fun t k => X0.arraylength hx (by rw [e0]; exact Ar7.1) (State.isArrayOf_alike hZ.alike Ar7.2.1) (g := (mkF m 8 #[.val (.ref o1), .val (.ref o2), .val (.double (FP.dadd (FP.dadd FP.dconst0 (FP.dmul (FP.l2d x0) (FP.l2d y0))) (FP.dmul (FP.l2d x1) (FP.l2d y1)))), .second, .val (.int (2 : Int32))] [(.ref o1), (.int (2 : Int32))])) rfl rfl (hb hby own_d2_8) _ (by rw [ln7]; exact k)) ?_
  refine own_icmpYes X0 hx 30 (hb hby own_d2_9) (flt (by decide : ¬ ((2 : Int32) < (2 : Int32)))).2.1 ?_
  refine own_dloadN X0 hx 31 (hb hby own_d2_30) rfl ?_
  exact own_retD (z := (FP.dadd (FP.dadd FP.dconst0 (FP.dmul (FP.l2d x0) (FP.l2d y0))) (FP.dmul (FP.l2d x1) (FP.l2d y1)))) (Q := own_Q2n2 Z o1 o2 k1 k2 x0 x1 y0 y1 h0 n0) X0 hx hrt (hb hby own_d2_31) hlk e0 ⟨(FP.dadd (FP.dadd FP.dconst0 (FP.dmul (FP.l2d x0) (FP.l2d y0))) (FP.dmul (FP.l2d x1) (FP.l2d y1))), rfl, N0, KC0, own_end (own_fma (own_fma own_d0 hx0 hy0 (by decide)) hx1 hy1 (by decide)) (by decide)⟩ (by decide) (by decide)
theorem own_ef2n3 (m : MethodId) (o1 : Addr) (o2 : Addr) : entryFrame m #[(.ref o1), (.ref o2)] 5 = mkF m 0 #[.val (.ref o1), .val (.ref o2), .unset, .unset, .unset] [] := by first | (simp [entryFrame, mkF, argsToLocals, Value.category]; done) | rfl
def own_Q2n3 (Z : State) (o1 : Addr) (o2 : Addr) (k1 : ClassId) (k2 : ClassId) (x0 : Int64) (x1 : Int64) (x2 : Int64) (y0 : Int64) (y1 : Int64) (y2 : Int64) (h0 : Heap) (n0 : Nat) (v : Option Value) (h : Heap) (L : List Loc) : Prop := ∃ zz : UInt64, v = some (.double zz) ∧ Fr n0 L ∧ Keep h0 h [] ∧ (FP.Core.DInt ((((0 : Int64) + (x0 * y0)) + (x1 * y1)) + (x2 * y2)).toInt zz ∧ ((((0 : Int64) + (x0 * y0)) + (x1 * y1)) + (x2 * y2)).toInt.natAbs ≤ 4294967296)
set_option maxRecDepth 65536 in
set_option maxHeartbeats 40000000 in
theorem own_rm2n3 (l : Launch) (Z : State) (a0 : Array Value) (hw : ∀ d ∈ tables_1, d.before a0 Z = true) (ws : List Jvm.Cond) (o1 : Addr) (o2 : Addr) (k1 : ClassId) (k2 : ClassId) (x0 : Int64) (x1 : Int64) (x2 : Int64) (y0 : Int64) (y1 : Int64) (y2 : Int64) (h0 : Heap) (n0 : Nat) (Z0 : n0 ≤ h0.size) (pV1 : Arv Z h0 o1 k1 .double (3 : Int32) [(.double (FP.l2d x0)), (.double (FP.l2d x1)), (.double (FP.l2d x2))] (.double (0 : UInt64))) (pV2 : Arv Z h0 o2 k2 .double (3 : Int32) [(.double (FP.l2d y0)), (.double (FP.l2d y1)), (.double (FP.l2d y2))] (.double (0 : UInt64))) (hx0 : -32768 ≤ x0.toInt ∧ x0.toInt ≤ 32767) (hx1 : -32768 ≤ x1.toInt ∧ x1.toInt ≤ 32767) (hx2 : -32768 ≤ x2.toInt ∧ x2.toInt ≤ 32767) (hy0 : -32768 ≤ y0.toInt ∧ y0.toInt ≤ 32767) (hy1 : -32768 ≤ y1.toInt ∧ y1.toInt ≤ 32767) (hy2 : -32768 ≤ y2.toInt ∧ y2.toInt ≤ 32767) :
    MetFree l (⟨"com/example/kalends/kalends/Matrices", "dot", "([D[D)D"⟩ : MethodName) (head1 (Jvm.Cond.code (⟨"com/example/kalends/kalends/Matrices", "dot", "([D[D)D"⟩ : MethodName) prog_30_method_14_code 5 (some .double) :: ws) ({ frames := 0, cells := 0, slots := 0, locals := 0 } : Room)) (fun a U => a = #[(.ref o1), (.ref o2)] ∧ Z.Warmed39 U.vm ∧ U.heap = h0) (fun _ _ _ _ _ => True) (fun _ U o U' => ∃ v L, o = .returned v ∧ own_Q2n3 Z o1 o2 k1 k2 x0 x1 x2 y0 y1 y2 h0 n0 v U'.heap L ∧ FrameEnd U o U' L ({ frames := 0, cells := 0, slots := 0, locals := 0 } : Room).cells ({ frames := 0, cells := 0, slots := 0, locals := 0 } : Room).slots) := by
  refine MetFree.of_bodySF (plainFor_of_name own_pn1) hisR ?_
  intro p e s m args below meth c s₁ Bd hml0 hP hK
  obtain ⟨rfl, hZ, hh⟩ := hP
  have hx := Bd.exec
  have hby := Bd.bytes
  have hlk := Bd.notSynchronized
  have hrt := Bd.returns
  have hml : c.maxLocals = 5 := hml0
  have hown : s.vm.findClass "com/example/kalends/kalends/Matrices" = some m.cls := findClass_of_methodNamed Bd.named
  have hnm := (name_of_methodNamed Bd.named Bd.method).1
  have X0 : Stand p l e ({ frames := 0, cells := 0, slots := 0, locals := 0 } : Room) s m #[(.ref o1), (.ref o2)] below meth c s₁ [] 0 0 := Stand.of_body Bd
  have e0 : s₁.heap = h0 := by rw [← hh, Bd.state]; rfl
  have N0 := Fr.nil n0
  have KC0 := Keep.refl h0 []
  refine own_in (own_ef2n3 m o1 o2) ?_
  refine own_dconst0 X0 hx 1 (hb hby own_d2_0) ?_
  refine own_dstoreN X0 hx 2 #[.val (.ref o1), .val (.ref o2), .val (.double FP.dconst0), .second, .unset] (hb hby own_d2_1) rfl ?_
  refine own_iconst X0 hx 3 (0 : Int32) (hb hby own_d2_2) rfl ?_
  refine own_istore X0 hx 5 #[.val (.ref o1), .val (.ref o2), .val (.double FP.dconst0), .second, .val (.int (0 : Int32))] (hb hby own_d2_3) rfl ?_
  refine own_iload X0 hx 7 (hb hby own_d2_5) rfl ?_
  refine own_aloadN X0 hx 8 (hb hby own_d2_7) rfl rfl ?_
  obtain ⟨cl1, Ar1, qv1, S1, M1, H1, G1⟩ := id pV1
  have ln1 := len_of S1 M1
  refine own_st (G' := s₁.setTop (mkF m 9 #[.val (.ref o1), .val (.ref o2), .val (.double FP.dconst0), .second, .val (.int (0 : Int32))] [(.int (3 : Int32)), (.int (0 : Int32))])) (fun t k => X0.arraylength hx (by rw [e0]; exact Ar1.1) (State.isArrayOf_alike hZ.alike Ar1.2.1) (g := (mkF m 8 #[.val (.ref o1), .val (.ref o2), .val (.double FP.dconst0), .second, .val (.int (0 : Int32))] [(.ref o1), (.int (0 : Int32))])) rfl rfl (hb hby own_d2_8) _ (by rw [ln1]; exact k)) ?_
  refine own_icmpNo X0 hx 12 (hb hby own_d2_9) (tlt (by decide : (0 : Int32) < (3 : Int32))).2.1 ?_
  refine own_dloadN X0 hx 13 (hb hby own_d2_12) rfl ?_
  refine own_aloadN X0 hx 14 (hb hby own_d2_13) rfl rfl ?_
  refine own_iload X0 hx 16 (hb hby own_d2_14) rfl ?_
  obtain ⟨cl2, Ar2, qv2, S2, M2, H2, G2⟩ := id pV1
  have hin2 : ¬ ((0 : Int32) < 0 ∨ cl2.slots.size ≤ ((0 : Int32)).toNatClampNeg) := inb_of S2 ⟨by decide, by decide⟩
  refine own_st (G' := s₁.setTop (mkF m 17 #[.val (.ref o1), .val (.ref o2), .val (.double FP.dconst0), .second, .val (.int (0 : Int32))] [(.double (FP.l2d x0)), (.double FP.dconst0)])) (fun t k => X0.daload hx (j := (0 : Int32)) (v := (.double (FP.l2d x0))) (by rw [e0]; exact Ar2.1) (State.isArrayOf_alike hZ.alike Ar2.2.1) Ar2.2.2 hin2 (H2.at hin2 rfl) (g := (mkF m 16 #[.val (.ref o1), .val (.ref o2), .val (.double FP.dconst0), .second, .val (.int (0 : Int32))] [(.int (0 : Int32)), (.ref o1), (.double FP.dconst0)])) rfl rfl (hb hby own_d2_16) _ k) ?_
  refine own_aloadN X0 hx 18 (hb hby own_d2_17) rfl rfl ?_
  refine own_iload X0 hx 20 (hb hby own_d2_18) rfl ?_
  obtain ⟨cl3, Ar3, qv3, S3, M3, H3, G3⟩ := id pV2
  have hin3 : ¬ ((0 : Int32) < 0 ∨ cl3.slots.size ≤ ((0 : Int32)).toNatClampNeg) := inb_of S3 ⟨by decide, by decide⟩
  refine own_st (G' := s₁.setTop (mkF m 21 #[.val (.ref o1), .val (.ref o2), .val (.double FP.dconst0), .second, .val (.int (0 : Int32))] [(.double (FP.l2d y0)), (.double (FP.l2d x0)), (.double FP.dconst0)])) (fun t k => X0.daload hx (j := (0 : Int32)) (v := (.double (FP.l2d y0))) (by rw [e0]; exact Ar3.1) (State.isArrayOf_alike hZ.alike Ar3.2.1) Ar3.2.2 hin3 (H3.at hin3 rfl) (g := (mkF m 20 #[.val (.ref o1), .val (.ref o2), .val (.double FP.dconst0), .second, .val (.int (0 : Int32))] [(.int (0 : Int32)), (.ref o2), (.double (FP.l2d x0)), (.double FP.dconst0)])) rfl rfl (hb hby own_d2_20) _ k) ?_
  refine own_dmul X0 hx 22 (hb hby own_d2_21) (own_nn (own_mul hx0 hy0)) ?_
  refine own_dadd X0 hx 23 (hb hby own_d2_22) (own_nn (own_fma own_d0 hx0 hy0 (by decide)).1) ?_
  refine own_dstoreN X0 hx 24 #[.val (.ref o1), .val (.ref o2), .val (.double (FP.dadd FP.dconst0 (FP.dmul (FP.l2d x0) (FP.l2d y0)))), .second, .val (.int (0 : Int32))] (hb hby own_d2_23) rfl ?_
  refine own_iinc X0 hx 27 (1 : Int32) #[.val (.ref o1), .val (.ref o2), .val (.double (FP.dadd FP.dconst0 (FP.dmul (FP.l2d x0) (FP.l2d y0)))), .second, .val (.int (1 : Int32))] (hb hby own_d2_24) rfl rfl rfl ?_
  refine own_goto X0 hx 5 (hb hby own_d2_27) ?_
  refine own_iload X0 hx 7 (hb hby own_d2_5) rfl ?_
  refine own_aloadN X0 hx 8 (hb hby own_d2_7) rfl rfl ?_
  obtain ⟨cl4, Ar4, qv4, S4, M4, H4, G4⟩ := id pV1
  have ln4 := len_of S4 M4
  refine own_st (G' := s₁.setTop (mkF m 9 #[.val (.ref o1), .val (.ref o2), .val (.double (FP.dadd FP.dconst0 (FP.dmul (FP.l2d x0) (FP.l2d y0)))), .second, .val (.int (1 : Int32))] [(.int (3 : Int32)), (.int (1 : Int32))])) (fun t k => X0.arraylength hx (by rw [e0]; exact Ar4.1) (State.isArrayOf_alike hZ.alike Ar4.2.1) (g := (mkF m 8 #[.val (.ref o1), .val (.ref o2), .val (.double (FP.dadd FP.dconst0 (FP.dmul (FP.l2d x0) (FP.l2d y0)))), .second, .val (.int (1 : Int32))] [(.ref o1), (.int (1 : Int32))])) rfl rfl (hb hby own_d2_8) _ (by rw [ln4]; exact k)) ?_
  refine own_icmpNo X0 hx 12 (hb hby own_d2_9) (tlt (by decide : (1 : Int32) < (3 : Int32))).2.1 ?_
  refine own_dloadN X0 hx 13 (hb hby own_d2_12) rfl ?_
  refine own_aloadN X0 hx 14 (hb hby own_d2_13) rfl rfl ?_
  refine own_iload X0 hx 16 (hb hby own_d2_14) rfl ?_
  obtain ⟨cl5, Ar5, qv5, S5, M5, H5, G5⟩ := id pV1
  have hin5 : ¬ ((1 : Int32) < 0 ∨ cl5.slots.size ≤ ((1 : Int32)).toNatClampNeg) := inb_of S5 ⟨by decide, by decide⟩
  refine own_st (G' := s₁.setTop (mkF m 17 #[.val (.ref o1), .val (.ref o2), .val (.double (FP.dadd FP.dconst0 (FP.dmul (FP.l2d x0) (FP.l2d y0)))), .second, .val (.int (1 : Int32))] [(.double (FP.l2d x1)), (.double (FP.dadd FP.dconst0 (FP.dmul (FP.l2d x0) (FP.l2d y0))))])) (fun t k => X0.daload hx (j := (1 : Int32)) (v := (.double (FP.l2d x1))) (by rw [e0]; exact Ar5.1) (State.isArrayOf_alike hZ.alike Ar5.2.1) Ar5.2.2 hin5 (H5.at hin5 rfl) (g := (mkF m 16 #[.val (.ref o1), .val (.ref o2), .val (.double (FP.dadd FP.dconst0 (FP.dmul (FP.l2d x0) (FP.l2d y0)))), .second, .val (.int (1 : Int32))] [(.int (1 : Int32)), (.ref o1), (.double (FP.dadd FP.dconst0 (FP.dmul (FP.l2d x0) (FP.l2d y0))))])) rfl rfl (hb hby own_d2_16) _ k) ?_
  refine own_aloadN X0 hx 18 (hb hby own_d2_17) rfl rfl ?_
  refine own_iload X0 hx 20 (hb hby own_d2_18) rfl ?_
  obtain ⟨cl6, Ar6, qv6, S6, M6, H6, G6⟩ := id pV2
  have hin6 : ¬ ((1 : Int32) < 0 ∨ cl6.slots.size ≤ ((1 : Int32)).toNatClampNeg) := inb_of S6 ⟨by decide, by decide⟩
  refine own_st (G' := s₁.setTop (mkF m 21 #[.val (.ref o1), .val (.ref o2), .val (.double (FP.dadd FP.dconst0 (FP.dmul (FP.l2d x0) (FP.l2d y0)))), .second, .val (.int (1 : Int32))] [(.double (FP.l2d y1)), (.double (FP.l2d x1)), (.double (FP.dadd FP.dconst0 (FP.dmul (FP.l2d x0) (FP.l2d y0))))])) (fun t k => X0.daload hx (j := (1 : Int32)) (v := (.double (FP.l2d y1))) (by rw [e0]; exact Ar6.1) (State.isArrayOf_alike hZ.alike Ar6.2.1) Ar6.2.2 hin6 (H6.at hin6 rfl) (g := (mkF m 20 #[.val (.ref o1), .val (.ref o2), .val (.double (FP.dadd FP.dconst0 (FP.dmul (FP.l2d x0) (FP.l2d y0)))), .second, .val (.int (1 : Int32))] [(.int (1 : Int32)), (.ref o2), (.double (FP.l2d x1)), (.double (FP.dadd FP.dconst0 (FP.dmul (FP.l2d x0) (FP.l2d y0))))])) rfl rfl (hb hby own_d2_20) _ k) ?_
  refine own_dmul X0 hx 22 (hb hby own_d2_21) (own_nn (own_mul hx1 hy1)) ?_
  refine own_dadd X0 hx 23 (hb hby own_d2_22) (own_nn (own_fma (own_fma own_d0 hx0 hy0 (by decide)) hx1 hy1 (by decide)).1) ?_
  refine own_dstoreN X0 hx 24 #[.val (.ref o1), .val (.ref o2), .val (.double (FP.dadd (FP.dadd FP.dconst0 (FP.dmul (FP.l2d x0) (FP.l2d y0))) (FP.dmul (FP.l2d x1) (FP.l2d y1)))), .second, .val (.int (1 : Int32))] (hb hby own_d2_23) rfl ?_
  refine own_iinc X0 hx 27 (1 : Int32) #[.val (.ref o1), .val (.ref o2), .val (.double (FP.dadd (FP.dadd FP.dconst0 (FP.dmul (FP.l2d x0) (FP.l2d y0))) (FP.dmul (FP.l2d x1) (FP.l2d y1)))), .second, .val (.int (2 : Int32))] (hb hby own_d2_24) rfl rfl rfl ?_
  refine own_goto X0 hx 5 (hb hby own_d2_27) ?_
  refine own_iload X0 hx 7 (hb hby own_d2_5) rfl ?_
  refine own_aloadN X0 hx 8 (hb hby own_d2_7) rfl rfl ?_
  obtain ⟨cl7, Ar7, qv7, S7, M7, H7, G7⟩ := id pV1
  have ln7 := len_of S7 M7
  refine own_st (G' := s₁.setTop (mkF m 9 #[.val (.ref o1), .val (.ref o2), .val (.double (FP.dadd (FP.dadd FP.dconst0 (FP.dmul (FP.l2d x0) (FP.l2d y0))) (FP.dmul (FP.l2d x1) (FP.l2d y1)))), .second, .val (.int (2 : Int32))] [(.int (3 : Int32)), (.int (2 : Int32))])) (fun t k => X0.arraylength hx (by rw [e0]; exact Ar7.1) (State.isArrayOf_alike hZ.alike Ar7.2.1) (g := (mkF m 8 #[.val (.ref o1), .val (.ref o2), .val (.double (FP.dadd (FP.dadd FP.dconst0 (FP.dmul (FP.l2d x0) (FP.l2d y0))) (FP.dmul (FP.l2d x1) (FP.l2d y1)))), .second, .val (.int (2 : Int32))] [(.ref o1), (.int (2 : Int32))])) rfl rfl (hb hby own_d2_8) _ (by rw [ln7]; exact k)) ?_
  refine own_icmpNo X0 hx 12 (hb hby own_d2_9) (tlt (by decide : (2 : Int32) < (3 : Int32))).2.1 ?_
  refine own_dloadN X0 hx 13 (hb hby own_d2_12) rfl ?_
  refine own_aloadN X0 hx 14 (hb hby own_d2_13) rfl rfl ?_
  refine own_iload X0 hx 16 (hb hby own_d2_14) rfl ?_
  obtain ⟨cl8, Ar8, qv8, S8, M8, H8, G8⟩ := id pV1
  have hin8 : ¬ ((2 : Int32) < 0 ∨ cl8.slots.size ≤ ((2 : Int32)).toNatClampNeg) := inb_of S8 ⟨by decide, by decide⟩
  refine own_st (G' := s₁.setTop (mkF m 17 #[.val (.ref o1), .val (.ref o2), .val (.double (FP.dadd (FP.dadd FP.dconst0 (FP.dmul (FP.l2d x0) (FP.l2d y0))) (FP.dmul (FP.l2d x1) (FP.l2d y1)))), .second, .val (.int (2 : Int32))] [(.double (FP.l2d x2)), (.double (FP.dadd (FP.dadd FP.dconst0 (FP.dmul (FP.l2d x0) (FP.l2d y0))) (FP.dmul (FP.l2d x1) (FP.l2d y1))))])) (fun t k => X0.daload hx (j := (2 : Int32)) (v := (.double (FP.l2d x2))) (by rw [e0]; exact Ar8.1) (State.isArrayOf_alike hZ.alike Ar8.2.1) Ar8.2.2 hin8 (H8.at hin8 rfl) (g := (mkF m 16 #[.val (.ref o1), .val (.ref o2), .val (.double (FP.dadd (FP.dadd FP.dconst0 (FP.dmul (FP.l2d x0) (FP.l2d y0))) (FP.dmul (FP.l2d x1) (FP.l2d y1)))), .second, .val (.int (2 : Int32))] [(.int (2 : Int32)), (.ref o1), (.double (FP.dadd (FP.dadd FP.dconst0 (FP.dmul (FP.l2d x0) (FP.l2d y0))) (FP.dmul (FP.l2d x1) (FP.l2d y1))))])) rfl rfl (hb hby own_d2_16) _ k) ?_
  refine own_aloadN X0 hx 18 (hb hby own_d2_17) rfl rfl ?_
  refine own_iload X0 hx 20 (hb hby own_d2_18) rfl ?_
  obtain ⟨cl9, Ar9, qv9, S9, M9, H9, G9⟩ := id pV2
  have hin9 : ¬ ((2 : Int32) < 0 ∨ cl9.slots.size ≤ ((2 : Int32)).toNatClampNeg) := inb_of S9 ⟨by decide, by decide⟩
  refine own_st (G' := s₁.setTop (mkF m 21 #[.val (.ref o1), .val (.ref o2), .val (.double (FP.dadd (FP.dadd FP.dconst0 (FP.dmul (FP.l2d x0) (FP.l2d y0))) (FP.dmul (FP.l2d x1) (FP.l2d y1)))), .second, .val (.int (2 : Int32))] [(.double (FP.l2d y2)), (.double (FP.l2d x2)), (.double (FP.dadd (FP.dadd FP.dconst0 (FP.dmul (FP.l2d x0) (FP.l2d y0))) (FP.dmul (FP.l2d x1) (FP.l2d y1))))])) (fun t k => X0.daload hx (j := (2 : Int32)) (v := (.double (FP.l2d y2))) (by rw [e0]; exact Ar9.1) (State.isArrayOf_alike hZ.alike Ar9.2.1) Ar9.2.2 hin9 (H9.at hin9 rfl) (g := (mkF m 20 #[.val (.ref o1), .val (.ref o2), .val (.double (FP.dadd (FP.dadd FP.dconst0 (FP.dmul (FP.l2d x0) (FP.l2d y0))) (FP.dmul (FP.l2d x1) (FP.l2d y1)))), .second, .val (.int (2 : Int32))] [(.int (2 : Int32)), (.ref o2), (.double (FP.l2d x2)), (.double (FP.dadd (FP.dadd FP.dconst0 (FP.dmul (FP.l2d x0) (FP.l2d y0))) (FP.dmul (FP.l2d x1) (FP.l2d y1))))])) rfl rfl (hb hby own_d2_20) _ k) ?_
  refine own_dmul X0 hx 22 (hb hby own_d2_21) (own_nn (own_mul hx2 hy2)) ?_
  refine own_dadd X0 hx 23 (hb hby own_d2_22) (own_nn (own_fma (own_fma (own_fma own_d0 hx0 hy0 (by decide)) hx1 hy1 (by decide)) hx2 hy2 (by decide)).1) ?_
  refine own_dstoreN X0 hx 24 #[.val (.ref o1), .val (.ref o2), .val (.double (FP.dadd (FP.dadd (FP.dadd FP.dconst0 (FP.dmul (FP.l2d x0) (FP.l2d y0))) (FP.dmul (FP.l2d x1) (FP.l2d y1))) (FP.dmul (FP.l2d x2) (FP.l2d y2)))), .second, .val (.int (2 : Int32))] (hb hby own_d2_23) rfl ?_
  refine own_iinc X0 hx 27 (1 : Int32) #[.val (.ref o1), .val (.ref o2), .val (.double (FP.dadd (FP.dadd (FP.dadd FP.dconst0 (FP.dmul (FP.l2d x0) (FP.l2d y0))) (FP.dmul (FP.l2d x1) (FP.l2d y1))) (FP.dmul (FP.l2d x2) (FP.l2d y2)))), .second, .val (.int (3 : Int32))] (hb hby own_d2_24) rfl rfl rfl ?_
  refine own_goto X0 hx 5 (hb hby own_d2_27) ?_
  refine own_iload X0 hx 7 (hb hby own_d2_5) rfl ?_
  refine own_aloadN X0 hx 8 (hb hby own_d2_7) rfl rfl ?_
  obtain ⟨cl10, Ar10, qv10, S10, M10, H10, G10⟩ := id pV1
  have ln10 := len_of S10 M10
  refine own_st (G' := s₁.setTop (mkF m 9 #[.val (.ref o1), .val (.ref o2), .val (.double (FP.dadd (FP.dadd (FP.dadd FP.dconst0 (FP.dmul (FP.l2d x0) (FP.l2d y0))) (FP.dmul (FP.l2d x1) (FP.l2d y1))) (FP.dmul (FP.l2d x2) (FP.l2d y2)))), .second, .val (.int (3 : Int32))] [(.int (3 : Int32)), (.int (3 : Int32))])) (fun t k => X0.arraylength hx (by rw [e0]; exact Ar10.1) (State.isArrayOf_alike hZ.alike Ar10.2.1) (g := (mkF m 8 #[.val (.ref o1), .val (.ref o2), .val (.double (FP.dadd (FP.dadd (FP.dadd FP.dconst0 (FP.dmul (FP.l2d x0) (FP.l2d y0))) (FP.dmul (FP.l2d x1) (FP.l2d y1))) (FP.dmul (FP.l2d x2) (FP.l2d y2)))), .second, .val (.int (3 : Int32))] [(.ref o1), (.int (3 : Int32))])) rfl rfl (hb hby own_d2_8) _ (by rw [ln10]; exact k)) ?_
  refine own_icmpYes X0 hx 30 (hb hby own_d2_9) (flt (by decide : ¬ ((3 : Int32) < (3 : Int32)))).2.1 ?_
  refine own_dloadN X0 hx 31 (hb hby own_d2_30) rfl ?_
  exact own_retD (z := (FP.dadd (FP.dadd (FP.dadd FP.dconst0 (FP.dmul (FP.l2d x0) (FP.l2d y0))) (FP.dmul (FP.l2d x1) (FP.l2d y1))) (FP.dmul (FP.l2d x2) (FP.l2d y2)))) (Q := own_Q2n3 Z o1 o2 k1 k2 x0 x1 x2 y0 y1 y2 h0 n0) X0 hx hrt (hb hby own_d2_31) hlk e0 ⟨(FP.dadd (FP.dadd (FP.dadd FP.dconst0 (FP.dmul (FP.l2d x0) (FP.l2d y0))) (FP.dmul (FP.l2d x1) (FP.l2d y1))) (FP.dmul (FP.l2d x2) (FP.l2d y2))), rfl, N0, KC0, own_end (own_fma (own_fma (own_fma own_d0 hx0 hy0 (by decide)) hx1 hy1 (by decide)) hx2 hy2 (by decide)) (by decide)⟩ (by decide) (by decide)
theorem own_ef2n4 (m : MethodId) (o1 : Addr) (o2 : Addr) : entryFrame m #[(.ref o1), (.ref o2)] 5 = mkF m 0 #[.val (.ref o1), .val (.ref o2), .unset, .unset, .unset] [] := by first | (simp [entryFrame, mkF, argsToLocals, Value.category]; done) | rfl
def own_Q2n4 (Z : State) (o1 : Addr) (o2 : Addr) (k1 : ClassId) (k2 : ClassId) (x0 : Int64) (x1 : Int64) (x2 : Int64) (x3 : Int64) (y0 : Int64) (y1 : Int64) (y2 : Int64) (y3 : Int64) (h0 : Heap) (n0 : Nat) (v : Option Value) (h : Heap) (L : List Loc) : Prop := ∃ zz : UInt64, v = some (.double zz) ∧ Fr n0 L ∧ Keep h0 h [] ∧ (FP.Core.DInt (((((0 : Int64) + (x0 * y0)) + (x1 * y1)) + (x2 * y2)) + (x3 * y3)).toInt zz ∧ (((((0 : Int64) + (x0 * y0)) + (x1 * y1)) + (x2 * y2)) + (x3 * y3)).toInt.natAbs ≤ 4294967296)
set_option maxRecDepth 65536 in
set_option maxHeartbeats 40000000 in
theorem own_rm2n4 (l : Launch) (Z : State) (a0 : Array Value) (hw : ∀ d ∈ tables_1, d.before a0 Z = true) (ws : List Jvm.Cond) (o1 : Addr) (o2 : Addr) (k1 : ClassId) (k2 : ClassId) (x0 : Int64) (x1 : Int64) (x2 : Int64) (x3 : Int64) (y0 : Int64) (y1 : Int64) (y2 : Int64) (y3 : Int64) (h0 : Heap) (n0 : Nat) (Z0 : n0 ≤ h0.size) (pV1 : Arv Z h0 o1 k1 .double (4 : Int32) [(.double (FP.l2d x0)), (.double (FP.l2d x1)), (.double (FP.l2d x2)), (.double (FP.l2d x3))] (.double (0 : UInt64))) (pV2 : Arv Z h0 o2 k2 .double (4 : Int32) [(.double (FP.l2d y0)), (.double (FP.l2d y1)), (.double (FP.l2d y2)), (.double (FP.l2d y3))] (.double (0 : UInt64))) (hx0 : -32768 ≤ x0.toInt ∧ x0.toInt ≤ 32767) (hx1 : -32768 ≤ x1.toInt ∧ x1.toInt ≤ 32767) (hx2 : -32768 ≤ x2.toInt ∧ x2.toInt ≤ 32767) (hx3 : -32768 ≤ x3.toInt ∧ x3.toInt ≤ 32767) (hy0 : -32768 ≤ y0.toInt ∧ y0.toInt ≤ 32767) (hy1 : -32768 ≤ y1.toInt ∧ y1.toInt ≤ 32767) (hy2 : -32768 ≤ y2.toInt ∧ y2.toInt ≤ 32767) (hy3 : -32768 ≤ y3.toInt ∧ y3.toInt ≤ 32767) :
    MetFree l (⟨"com/example/kalends/kalends/Matrices", "dot", "([D[D)D"⟩ : MethodName) (head1 (Jvm.Cond.code (⟨"com/example/kalends/kalends/Matrices", "dot", "([D[D)D"⟩ : MethodName) prog_30_method_14_code 5 (some .double) :: ws) ({ frames := 0, cells := 0, slots := 0, locals := 0 } : Room)) (fun a U => a = #[(.ref o1), (.ref o2)] ∧ Z.Warmed39 U.vm ∧ U.heap = h0) (fun _ _ _ _ _ => True) (fun _ U o U' => ∃ v L, o = .returned v ∧ own_Q2n4 Z o1 o2 k1 k2 x0 x1 x2 x3 y0 y1 y2 y3 h0 n0 v U'.heap L ∧ FrameEnd U o U' L ({ frames := 0, cells := 0, slots := 0, locals := 0 } : Room).cells ({ frames := 0, cells := 0, slots := 0, locals := 0 } : Room).slots) := by
  refine MetFree.of_bodySF (plainFor_of_name own_pn1) hisR ?_
  intro p e s m args below meth c s₁ Bd hml0 hP hK
  obtain ⟨rfl, hZ, hh⟩ := hP
  have hx := Bd.exec
  have hby := Bd.bytes
  have hlk := Bd.notSynchronized
  have hrt := Bd.returns
  have hml : c.maxLocals = 5 := hml0
  have hown : s.vm.findClass "com/example/kalends/kalends/Matrices" = some m.cls := findClass_of_methodNamed Bd.named
  have hnm := (name_of_methodNamed Bd.named Bd.method).1
  have X0 : Stand p l e ({ frames := 0, cells := 0, slots := 0, locals := 0 } : Room) s m #[(.ref o1), (.ref o2)] below meth c s₁ [] 0 0 := Stand.of_body Bd
  have e0 : s₁.heap = h0 := by rw [← hh, Bd.state]; rfl
  have N0 := Fr.nil n0
  have KC0 := Keep.refl h0 []
  refine own_in (own_ef2n4 m o1 o2) ?_
  refine own_dconst0 X0 hx 1 (hb hby own_d2_0) ?_
  refine own_dstoreN X0 hx 2 #[.val (.ref o1), .val (.ref o2), .val (.double FP.dconst0), .second, .unset] (hb hby own_d2_1) rfl ?_
  refine own_iconst X0 hx 3 (0 : Int32) (hb hby own_d2_2) rfl ?_
  refine own_istore X0 hx 5 #[.val (.ref o1), .val (.ref o2), .val (.double FP.dconst0), .second, .val (.int (0 : Int32))] (hb hby own_d2_3) rfl ?_
  refine own_iload X0 hx 7 (hb hby own_d2_5) rfl ?_
  refine own_aloadN X0 hx 8 (hb hby own_d2_7) rfl rfl ?_
  obtain ⟨cl1, Ar1, qv1, S1, M1, H1, G1⟩ := id pV1
  have ln1 := len_of S1 M1
  refine own_st (G' := s₁.setTop (mkF m 9 #[.val (.ref o1), .val (.ref o2), .val (.double FP.dconst0), .second, .val (.int (0 : Int32))] [(.int (4 : Int32)), (.int (0 : Int32))])) (fun t k => X0.arraylength hx (by rw [e0]; exact Ar1.1) (State.isArrayOf_alike hZ.alike Ar1.2.1) (g := (mkF m 8 #[.val (.ref o1), .val (.ref o2), .val (.double FP.dconst0), .second, .val (.int (0 : Int32))] [(.ref o1), (.int (0 : Int32))])) rfl rfl (hb hby own_d2_8) _ (by rw [ln1]; exact k)) ?_
  refine own_icmpNo X0 hx 12 (hb hby own_d2_9) (tlt (by decide : (0 : Int32) < (4 : Int32))).2.1 ?_
  refine own_dloadN X0 hx 13 (hb hby own_d2_12) rfl ?_
  refine own_aloadN X0 hx 14 (hb hby own_d2_13) rfl rfl ?_
  refine own_iload X0 hx 16 (hb hby own_d2_14) rfl ?_
  obtain ⟨cl2, Ar2, qv2, S2, M2, H2, G2⟩ := id pV1
  have hin2 : ¬ ((0 : Int32) < 0 ∨ cl2.slots.size ≤ ((0 : Int32)).toNatClampNeg) := inb_of S2 ⟨by decide, by decide⟩
  refine own_st (G' := s₁.setTop (mkF m 17 #[.val (.ref o1), .val (.ref o2), .val (.double FP.dconst0), .second, .val (.int (0 : Int32))] [(.double (FP.l2d x0)), (.double FP.dconst0)])) (fun t k => X0.daload hx (j := (0 : Int32)) (v := (.double (FP.l2d x0))) (by rw [e0]; exact Ar2.1) (State.isArrayOf_alike hZ.alike Ar2.2.1) Ar2.2.2 hin2 (H2.at hin2 rfl) (g := (mkF m 16 #[.val (.ref o1), .val (.ref o2), .val (.double FP.dconst0), .second, .val (.int (0 : Int32))] [(.int (0 : Int32)), (.ref o1), (.double FP.dconst0)])) rfl rfl (hb hby own_d2_16) _ k) ?_
  refine own_aloadN X0 hx 18 (hb hby own_d2_17) rfl rfl ?_
  refine own_iload X0 hx 20 (hb hby own_d2_18) rfl ?_
  obtain ⟨cl3, Ar3, qv3, S3, M3, H3, G3⟩ := id pV2
  have hin3 : ¬ ((0 : Int32) < 0 ∨ cl3.slots.size ≤ ((0 : Int32)).toNatClampNeg) := inb_of S3 ⟨by decide, by decide⟩
  refine own_st (G' := s₁.setTop (mkF m 21 #[.val (.ref o1), .val (.ref o2), .val (.double FP.dconst0), .second, .val (.int (0 : Int32))] [(.double (FP.l2d y0)), (.double (FP.l2d x0)), (.double FP.dconst0)])) (fun t k => X0.daload hx (j := (0 : Int32)) (v := (.double (FP.l2d y0))) (by rw [e0]; exact Ar3.1) (State.isArrayOf_alike hZ.alike Ar3.2.1) Ar3.2.2 hin3 (H3.at hin3 rfl) (g := (mkF m 20 #[.val (.ref o1), .val (.ref o2), .val (.double FP.dconst0), .second, .val (.int (0 : Int32))] [(.int (0 : Int32)), (.ref o2), (.double (FP.l2d x0)), (.double FP.dconst0)])) rfl rfl (hb hby own_d2_20) _ k) ?_
  refine own_dmul X0 hx 22 (hb hby own_d2_21) (own_nn (own_mul hx0 hy0)) ?_
  refine own_dadd X0 hx 23 (hb hby own_d2_22) (own_nn (own_fma own_d0 hx0 hy0 (by decide)).1) ?_
  refine own_dstoreN X0 hx 24 #[.val (.ref o1), .val (.ref o2), .val (.double (FP.dadd FP.dconst0 (FP.dmul (FP.l2d x0) (FP.l2d y0)))), .second, .val (.int (0 : Int32))] (hb hby own_d2_23) rfl ?_
  refine own_iinc X0 hx 27 (1 : Int32) #[.val (.ref o1), .val (.ref o2), .val (.double (FP.dadd FP.dconst0 (FP.dmul (FP.l2d x0) (FP.l2d y0)))), .second, .val (.int (1 : Int32))] (hb hby own_d2_24) rfl rfl rfl ?_
  refine own_goto X0 hx 5 (hb hby own_d2_27) ?_
  refine own_iload X0 hx 7 (hb hby own_d2_5) rfl ?_
  refine own_aloadN X0 hx 8 (hb hby own_d2_7) rfl rfl ?_
  obtain ⟨cl4, Ar4, qv4, S4, M4, H4, G4⟩ := id pV1
  have ln4 := len_of S4 M4
  refine own_st (G' := s₁.setTop (mkF m 9 #[.val (.ref o1), .val (.ref o2), .val (.double (FP.dadd FP.dconst0 (FP.dmul (FP.l2d x0) (FP.l2d y0)))), .second, .val (.int (1 : Int32))] [(.int (4 : Int32)), (.int (1 : Int32))])) (fun t k => X0.arraylength hx (by rw [e0]; exact Ar4.1) (State.isArrayOf_alike hZ.alike Ar4.2.1) (g := (mkF m 8 #[.val (.ref o1), .val (.ref o2), .val (.double (FP.dadd FP.dconst0 (FP.dmul (FP.l2d x0) (FP.l2d y0)))), .second, .val (.int (1 : Int32))] [(.ref o1), (.int (1 : Int32))])) rfl rfl (hb hby own_d2_8) _ (by rw [ln4]; exact k)) ?_
  refine own_icmpNo X0 hx 12 (hb hby own_d2_9) (tlt (by decide : (1 : Int32) < (4 : Int32))).2.1 ?_
  refine own_dloadN X0 hx 13 (hb hby own_d2_12) rfl ?_
  refine own_aloadN X0 hx 14 (hb hby own_d2_13) rfl rfl ?_
  refine own_iload X0 hx 16 (hb hby own_d2_14) rfl ?_
  obtain ⟨cl5, Ar5, qv5, S5, M5, H5, G5⟩ := id pV1
  have hin5 : ¬ ((1 : Int32) < 0 ∨ cl5.slots.size ≤ ((1 : Int32)).toNatClampNeg) := inb_of S5 ⟨by decide, by decide⟩
  refine own_st (G' := s₁.setTop (mkF m 17 #[.val (.ref o1), .val (.ref o2), .val (.double (FP.dadd FP.dconst0 (FP.dmul (FP.l2d x0) (FP.l2d y0)))), .second, .val (.int (1 : Int32))] [(.double (FP.l2d x1)), (.double (FP.dadd FP.dconst0 (FP.dmul (FP.l2d x0) (FP.l2d y0))))])) (fun t k => X0.daload hx (j := (1 : Int32)) (v := (.double (FP.l2d x1))) (by rw [e0]; exact Ar5.1) (State.isArrayOf_alike hZ.alike Ar5.2.1) Ar5.2.2 hin5 (H5.at hin5 rfl) (g := (mkF m 16 #[.val (.ref o1), .val (.ref o2), .val (.double (FP.dadd FP.dconst0 (FP.dmul (FP.l2d x0) (FP.l2d y0)))), .second, .val (.int (1 : Int32))] [(.int (1 : Int32)), (.ref o1), (.double (FP.dadd FP.dconst0 (FP.dmul (FP.l2d x0) (FP.l2d y0))))])) rfl rfl (hb hby own_d2_16) _ k) ?_
  refine own_aloadN X0 hx 18 (hb hby own_d2_17) rfl rfl ?_
  refine own_iload X0 hx 20 (hb hby own_d2_18) rfl ?_
  obtain ⟨cl6, Ar6, qv6, S6, M6, H6, G6⟩ := id pV2
  have hin6 : ¬ ((1 : Int32) < 0 ∨ cl6.slots.size ≤ ((1 : Int32)).toNatClampNeg) := inb_of S6 ⟨by decide, by decide⟩
  refine own_st (G' := s₁.setTop (mkF m 21 #[.val (.ref o1), .val (.ref o2), .val (.double (FP.dadd FP.dconst0 (FP.dmul (FP.l2d x0) (FP.l2d y0)))), .second, .val (.int (1 : Int32))] [(.double (FP.l2d y1)), (.double (FP.l2d x1)), (.double (FP.dadd FP.dconst0 (FP.dmul (FP.l2d x0) (FP.l2d y0))))])) (fun t k => X0.daload hx (j := (1 : Int32)) (v := (.double (FP.l2d y1))) (by rw [e0]; exact Ar6.1) (State.isArrayOf_alike hZ.alike Ar6.2.1) Ar6.2.2 hin6 (H6.at hin6 rfl) (g := (mkF m 20 #[.val (.ref o1), .val (.ref o2), .val (.double (FP.dadd FP.dconst0 (FP.dmul (FP.l2d x0) (FP.l2d y0)))), .second, .val (.int (1 : Int32))] [(.int (1 : Int32)), (.ref o2), (.double (FP.l2d x1)), (.double (FP.dadd FP.dconst0 (FP.dmul (FP.l2d x0) (FP.l2d y0))))])) rfl rfl (hb hby own_d2_20) _ k) ?_
  refine own_dmul X0 hx 22 (hb hby own_d2_21) (own_nn (own_mul hx1 hy1)) ?_
  refine own_dadd X0 hx 23 (hb hby own_d2_22) (own_nn (own_fma (own_fma own_d0 hx0 hy0 (by decide)) hx1 hy1 (by decide)).1) ?_
  refine own_dstoreN X0 hx 24 #[.val (.ref o1), .val (.ref o2), .val (.double (FP.dadd (FP.dadd FP.dconst0 (FP.dmul (FP.l2d x0) (FP.l2d y0))) (FP.dmul (FP.l2d x1) (FP.l2d y1)))), .second, .val (.int (1 : Int32))] (hb hby own_d2_23) rfl ?_
  refine own_iinc X0 hx 27 (1 : Int32) #[.val (.ref o1), .val (.ref o2), .val (.double (FP.dadd (FP.dadd FP.dconst0 (FP.dmul (FP.l2d x0) (FP.l2d y0))) (FP.dmul (FP.l2d x1) (FP.l2d y1)))), .second, .val (.int (2 : Int32))] (hb hby own_d2_24) rfl rfl rfl ?_
  refine own_goto X0 hx 5 (hb hby own_d2_27) ?_
  refine own_iload X0 hx 7 (hb hby own_d2_5) rfl ?_
  refine own_aloadN X0 hx 8 (hb hby own_d2_7) rfl rfl ?_
  obtain ⟨cl7, Ar7, qv7, S7, M7, H7, G7⟩ := id pV1
  have ln7 := len_of S7 M7
  refine own_st (G' := s₁.setTop (mkF m 9 #[.val (.ref o1), .val (.ref o2), .val (.double (FP.dadd (FP.dadd FP.dconst0 (FP.dmul (FP.l2d x0) (FP.l2d y0))) (FP.dmul (FP.l2d x1) (FP.l2d y1)))), .second, .val (.int (2 : Int32))] [(.int (4 : Int32)), (.int (2 : Int32))])) (fun t k => X0.arraylength hx (by rw [e0]; exact Ar7.1) (State.isArrayOf_alike hZ.alike Ar7.2.1) (g := (mkF m 8 #[.val (.ref o1), .val (.ref o2), .val (.double (FP.dadd (FP.dadd FP.dconst0 (FP.dmul (FP.l2d x0) (FP.l2d y0))) (FP.dmul (FP.l2d x1) (FP.l2d y1)))), .second, .val (.int (2 : Int32))] [(.ref o1), (.int (2 : Int32))])) rfl rfl (hb hby own_d2_8) _ (by rw [ln7]; exact k)) ?_
  refine own_icmpNo X0 hx 12 (hb hby own_d2_9) (tlt (by decide : (2 : Int32) < (4 : Int32))).2.1 ?_
  refine own_dloadN X0 hx 13 (hb hby own_d2_12) rfl ?_
  refine own_aloadN X0 hx 14 (hb hby own_d2_13) rfl rfl ?_
  refine own_iload X0 hx 16 (hb hby own_d2_14) rfl ?_
  obtain ⟨cl8, Ar8, qv8, S8, M8, H8, G8⟩ := id pV1
  have hin8 : ¬ ((2 : Int32) < 0 ∨ cl8.slots.size ≤ ((2 : Int32)).toNatClampNeg) := inb_of S8 ⟨by decide, by decide⟩
  refine own_st (G' := s₁.setTop (mkF m 17 #[.val (.ref o1), .val (.ref o2), .val (.double (FP.dadd (FP.dadd FP.dconst0 (FP.dmul (FP.l2d x0) (FP.l2d y0))) (FP.dmul (FP.l2d x1) (FP.l2d y1)))), .second, .val (.int (2 : Int32))] [(.double (FP.l2d x2)), (.double (FP.dadd (FP.dadd FP.dconst0 (FP.dmul (FP.l2d x0) (FP.l2d y0))) (FP.dmul (FP.l2d x1) (FP.l2d y1))))])) (fun t k => X0.daload hx (j := (2 : Int32)) (v := (.double (FP.l2d x2))) (by rw [e0]; exact Ar8.1) (State.isArrayOf_alike hZ.alike Ar8.2.1) Ar8.2.2 hin8 (H8.at hin8 rfl) (g := (mkF m 16 #[.val (.ref o1), .val (.ref o2), .val (.double (FP.dadd (FP.dadd FP.dconst0 (FP.dmul (FP.l2d x0) (FP.l2d y0))) (FP.dmul (FP.l2d x1) (FP.l2d y1)))), .second, .val (.int (2 : Int32))] [(.int (2 : Int32)), (.ref o1), (.double (FP.dadd (FP.dadd FP.dconst0 (FP.dmul (FP.l2d x0) (FP.l2d y0))) (FP.dmul (FP.l2d x1) (FP.l2d y1))))])) rfl rfl (hb hby own_d2_16) _ k) ?_
  refine own_aloadN X0 hx 18 (hb hby own_d2_17) rfl rfl ?_
  refine own_iload X0 hx 20 (hb hby own_d2_18) rfl ?_
  obtain ⟨cl9, Ar9, qv9, S9, M9, H9, G9⟩ := id pV2
  have hin9 : ¬ ((2 : Int32) < 0 ∨ cl9.slots.size ≤ ((2 : Int32)).toNatClampNeg) := inb_of S9 ⟨by decide, by decide⟩
  refine own_st (G' := s₁.setTop (mkF m 21 #[.val (.ref o1), .val (.ref o2), .val (.double (FP.dadd (FP.dadd FP.dconst0 (FP.dmul (FP.l2d x0) (FP.l2d y0))) (FP.dmul (FP.l2d x1) (FP.l2d y1)))), .second, .val (.int (2 : Int32))] [(.double (FP.l2d y2)), (.double (FP.l2d x2)), (.double (FP.dadd (FP.dadd FP.dconst0 (FP.dmul (FP.l2d x0) (FP.l2d y0))) (FP.dmul (FP.l2d x1) (FP.l2d y1))))])) (fun t k => X0.daload hx (j := (2 : Int32)) (v := (.double (FP.l2d y2))) (by rw [e0]; exact Ar9.1) (State.isArrayOf_alike hZ.alike Ar9.2.1) Ar9.2.2 hin9 (H9.at hin9 rfl) (g := (mkF m 20 #[.val (.ref o1), .val (.ref o2), .val (.double (FP.dadd (FP.dadd FP.dconst0 (FP.dmul (FP.l2d x0) (FP.l2d y0))) (FP.dmul (FP.l2d x1) (FP.l2d y1)))), .second, .val (.int (2 : Int32))] [(.int (2 : Int32)), (.ref o2), (.double (FP.l2d x2)), (.double (FP.dadd (FP.dadd FP.dconst0 (FP.dmul (FP.l2d x0) (FP.l2d y0))) (FP.dmul (FP.l2d x1) (FP.l2d y1))))])) rfl rfl (hb hby own_d2_20) _ k) ?_
  refine own_dmul X0 hx 22 (hb hby own_d2_21) (own_nn (own_mul hx2 hy2)) ?_
  refine own_dadd X0 hx 23 (hb hby own_d2_22) (own_nn (own_fma (own_fma (own_fma own_d0 hx0 hy0 (by decide)) hx1 hy1 (by decide)) hx2 hy2 (by decide)).1) ?_
  refine own_dstoreN X0 hx 24 #[.val (.ref o1), .val (.ref o2), .val (.double (FP.dadd (FP.dadd (FP.dadd FP.dconst0 (FP.dmul (FP.l2d x0) (FP.l2d y0))) (FP.dmul (FP.l2d x1) (FP.l2d y1))) (FP.dmul (FP.l2d x2) (FP.l2d y2)))), .second, .val (.int (2 : Int32))] (hb hby own_d2_23) rfl ?_
  refine own_iinc X0 hx 27 (1 : Int32) #[.val (.ref o1), .val (.ref o2), .val (.double (FP.dadd (FP.dadd (FP.dadd FP.dconst0 (FP.dmul (FP.l2d x0) (FP.l2d y0))) (FP.dmul (FP.l2d x1) (FP.l2d y1))) (FP.dmul (FP.l2d x2) (FP.l2d y2)))), .second, .val (.int (3 : Int32))] (hb hby own_d2_24) rfl rfl rfl ?_
  refine own_goto X0 hx 5 (hb hby own_d2_27) ?_
  refine own_iload X0 hx 7 (hb hby own_d2_5) rfl ?_
  refine own_aloadN X0 hx 8 (hb hby own_d2_7) rfl rfl ?_
  obtain ⟨cl10, Ar10, qv10, S10, M10, H10, G10⟩ := id pV1
  have ln10 := len_of S10 M10
  refine own_st (G' := s₁.setTop (mkF m 9 #[.val (.ref o1), .val (.ref o2), .val (.double (FP.dadd (FP.dadd (FP.dadd FP.dconst0 (FP.dmul (FP.l2d x0) (FP.l2d y0))) (FP.dmul (FP.l2d x1) (FP.l2d y1))) (FP.dmul (FP.l2d x2) (FP.l2d y2)))), .second, .val (.int (3 : Int32))] [(.int (4 : Int32)), (.int (3 : Int32))])) (fun t k => X0.arraylength hx (by rw [e0]; exact Ar10.1) (State.isArrayOf_alike hZ.alike Ar10.2.1) (g := (mkF m 8 #[.val (.ref o1), .val (.ref o2), .val (.double (FP.dadd (FP.dadd (FP.dadd FP.dconst0 (FP.dmul (FP.l2d x0) (FP.l2d y0))) (FP.dmul (FP.l2d x1) (FP.l2d y1))) (FP.dmul (FP.l2d x2) (FP.l2d y2)))), .second, .val (.int (3 : Int32))] [(.ref o1), (.int (3 : Int32))])) rfl rfl (hb hby own_d2_8) _ (by rw [ln10]; exact k)) ?_
  refine own_icmpNo X0 hx 12 (hb hby own_d2_9) (tlt (by decide : (3 : Int32) < (4 : Int32))).2.1 ?_
  refine own_dloadN X0 hx 13 (hb hby own_d2_12) rfl ?_
  refine own_aloadN X0 hx 14 (hb hby own_d2_13) rfl rfl ?_
  refine own_iload X0 hx 16 (hb hby own_d2_14) rfl ?_
  obtain ⟨cl11, Ar11, qv11, S11, M11, H11, G11⟩ := id pV1
  have hin11 : ¬ ((3 : Int32) < 0 ∨ cl11.slots.size ≤ ((3 : Int32)).toNatClampNeg) := inb_of S11 ⟨by decide, by decide⟩
  refine own_st (G' := s₁.setTop (mkF m 17 #[.val (.ref o1), .val (.ref o2), .val (.double (FP.dadd (FP.dadd (FP.dadd FP.dconst0 (FP.dmul (FP.l2d x0) (FP.l2d y0))) (FP.dmul (FP.l2d x1) (FP.l2d y1))) (FP.dmul (FP.l2d x2) (FP.l2d y2)))), .second, .val (.int (3 : Int32))] [(.double (FP.l2d x3)), (.double (FP.dadd (FP.dadd (FP.dadd FP.dconst0 (FP.dmul (FP.l2d x0) (FP.l2d y0))) (FP.dmul (FP.l2d x1) (FP.l2d y1))) (FP.dmul (FP.l2d x2) (FP.l2d y2))))])) (fun t k => X0.daload hx (j := (3 : Int32)) (v := (.double (FP.l2d x3))) (by rw [e0]; exact Ar11.1) (State.isArrayOf_alike hZ.alike Ar11.2.1) Ar11.2.2 hin11 (H11.at hin11 rfl) (g := (mkF m 16 #[.val (.ref o1), .val (.ref o2), .val (.double (FP.dadd (FP.dadd (FP.dadd FP.dconst0 (FP.dmul (FP.l2d x0) (FP.l2d y0))) (FP.dmul (FP.l2d x1) (FP.l2d y1))) (FP.dmul (FP.l2d x2) (FP.l2d y2)))), .second, .val (.int (3 : Int32))] [(.int (3 : Int32)), (.ref o1), (.double (FP.dadd (FP.dadd (FP.dadd FP.dconst0 (FP.dmul (FP.l2d x0) (FP.l2d y0))) (FP.dmul (FP.l2d x1) (FP.l2d y1))) (FP.dmul (FP.l2d x2) (FP.l2d y2))))])) rfl rfl (hb hby own_d2_16) _ k) ?_
  refine own_aloadN X0 hx 18 (hb hby own_d2_17) rfl rfl ?_
  refine own_iload X0 hx 20 (hb hby own_d2_18) rfl ?_
  obtain ⟨cl12, Ar12, qv12, S12, M12, H12, G12⟩ := id pV2
  have hin12 : ¬ ((3 : Int32) < 0 ∨ cl12.slots.size ≤ ((3 : Int32)).toNatClampNeg) := inb_of S12 ⟨by decide, by decide⟩
  refine own_st (G' := s₁.setTop (mkF m 21 #[.val (.ref o1), .val (.ref o2), .val (.double (FP.dadd (FP.dadd (FP.dadd FP.dconst0 (FP.dmul (FP.l2d x0) (FP.l2d y0))) (FP.dmul (FP.l2d x1) (FP.l2d y1))) (FP.dmul (FP.l2d x2) (FP.l2d y2)))), .second, .val (.int (3 : Int32))] [(.double (FP.l2d y3)), (.double (FP.l2d x3)), (.double (FP.dadd (FP.dadd (FP.dadd FP.dconst0 (FP.dmul (FP.l2d x0) (FP.l2d y0))) (FP.dmul (FP.l2d x1) (FP.l2d y1))) (FP.dmul (FP.l2d x2) (FP.l2d y2))))])) (fun t k => X0.daload hx (j := (3 : Int32)) (v := (.double (FP.l2d y3))) (by rw [e0]; exact Ar12.1) (State.isArrayOf_alike hZ.alike Ar12.2.1) Ar12.2.2 hin12 (H12.at hin12 rfl) (g := (mkF m 20 #[.val (.ref o1), .val (.ref o2), .val (.double (FP.dadd (FP.dadd (FP.dadd FP.dconst0 (FP.dmul (FP.l2d x0) (FP.l2d y0))) (FP.dmul (FP.l2d x1) (FP.l2d y1))) (FP.dmul (FP.l2d x2) (FP.l2d y2)))), .second, .val (.int (3 : Int32))] [(.int (3 : Int32)), (.ref o2), (.double (FP.l2d x3)), (.double (FP.dadd (FP.dadd (FP.dadd FP.dconst0 (FP.dmul (FP.l2d x0) (FP.l2d y0))) (FP.dmul (FP.l2d x1) (FP.l2d y1))) (FP.dmul (FP.l2d x2) (FP.l2d y2))))])) rfl rfl (hb hby own_d2_20) _ k) ?_
  refine own_dmul X0 hx 22 (hb hby own_d2_21) (own_nn (own_mul hx3 hy3)) ?_
  refine own_dadd X0 hx 23 (hb hby own_d2_22) (own_nn (own_fma (own_fma (own_fma (own_fma own_d0 hx0 hy0 (by decide)) hx1 hy1 (by decide)) hx2 hy2 (by decide)) hx3 hy3 (by decide)).1) ?_
  refine own_dstoreN X0 hx 24 #[.val (.ref o1), .val (.ref o2), .val (.double (FP.dadd (FP.dadd (FP.dadd (FP.dadd FP.dconst0 (FP.dmul (FP.l2d x0) (FP.l2d y0))) (FP.dmul (FP.l2d x1) (FP.l2d y1))) (FP.dmul (FP.l2d x2) (FP.l2d y2))) (FP.dmul (FP.l2d x3) (FP.l2d y3)))), .second, .val (.int (3 : Int32))] (hb hby own_d2_23) rfl ?_
  refine own_iinc X0 hx 27 (1 : Int32) #[.val (.ref o1), .val (.ref o2), .val (.double (FP.dadd (FP.dadd (FP.dadd (FP.dadd FP.dconst0 (FP.dmul (FP.l2d x0) (FP.l2d y0))) (FP.dmul (FP.l2d x1) (FP.l2d y1))) (FP.dmul (FP.l2d x2) (FP.l2d y2))) (FP.dmul (FP.l2d x3) (FP.l2d y3)))), .second, .val (.int (4 : Int32))] (hb hby own_d2_24) rfl rfl rfl ?_
  refine own_goto X0 hx 5 (hb hby own_d2_27) ?_
  refine own_iload X0 hx 7 (hb hby own_d2_5) rfl ?_
  refine own_aloadN X0 hx 8 (hb hby own_d2_7) rfl rfl ?_
  obtain ⟨cl13, Ar13, qv13, S13, M13, H13, G13⟩ := id pV1
  have ln13 := len_of S13 M13
  refine own_st (G' := s₁.setTop (mkF m 9 #[.val (.ref o1), .val (.ref o2), .val (.double (FP.dadd (FP.dadd (FP.dadd (FP.dadd FP.dconst0 (FP.dmul (FP.l2d x0) (FP.l2d y0))) (FP.dmul (FP.l2d x1) (FP.l2d y1))) (FP.dmul (FP.l2d x2) (FP.l2d y2))) (FP.dmul (FP.l2d x3) (FP.l2d y3)))), .second, .val (.int (4 : Int32))] [(.int (4 : Int32)), (.int (4 : Int32))])) (fun t k => X0.arraylength hx (by rw [e0]; exact Ar13.1) (State.isArrayOf_alike hZ.alike Ar13.2.1) (g := (mkF m 8 #[.val (.ref o1), .val (.ref o2), .val (.double (FP.dadd (FP.dadd (FP.dadd (FP.dadd FP.dconst0 (FP.dmul (FP.l2d x0) (FP.l2d y0))) (FP.dmul (FP.l2d x1) (FP.l2d y1))) (FP.dmul (FP.l2d x2) (FP.l2d y2))) (FP.dmul (FP.l2d x3) (FP.l2d y3)))), .second, .val (.int (4 : Int32))] [(.ref o1), (.int (4 : Int32))])) rfl rfl (hb hby own_d2_8) _ (by rw [ln13]; exact k)) ?_
  refine own_icmpYes X0 hx 30 (hb hby own_d2_9) (flt (by decide : ¬ ((4 : Int32) < (4 : Int32)))).2.1 ?_
  refine own_dloadN X0 hx 31 (hb hby own_d2_30) rfl ?_
  exact own_retD (z := (FP.dadd (FP.dadd (FP.dadd (FP.dadd FP.dconst0 (FP.dmul (FP.l2d x0) (FP.l2d y0))) (FP.dmul (FP.l2d x1) (FP.l2d y1))) (FP.dmul (FP.l2d x2) (FP.l2d y2))) (FP.dmul (FP.l2d x3) (FP.l2d y3)))) (Q := own_Q2n4 Z o1 o2 k1 k2 x0 x1 x2 x3 y0 y1 y2 y3 h0 n0) X0 hx hrt (hb hby own_d2_31) hlk e0 ⟨(FP.dadd (FP.dadd (FP.dadd (FP.dadd FP.dconst0 (FP.dmul (FP.l2d x0) (FP.l2d y0))) (FP.dmul (FP.l2d x1) (FP.l2d y1))) (FP.dmul (FP.l2d x2) (FP.l2d y2))) (FP.dmul (FP.l2d x3) (FP.l2d y3))), rfl, N0, KC0, own_end (own_fma (own_fma (own_fma (own_fma own_d0 hx0 hy0 (by decide)) hx1 hy1 (by decide)) hx2 hy2 (by decide)) hx3 hy3 (by decide)) (by decide)⟩ (by decide) (by decide)
theorem own_five (v : Int32) : ((v &&& (7 : Int32)) % (5 : Int32)) = 0 ∨ ((v &&& (7 : Int32)) % (5 : Int32)) = 1 ∨ ((v &&& (7 : Int32)) % (5 : Int32)) = 2 ∨ ((v &&& (7 : Int32)) % (5 : Int32)) = 3 ∨ ((v &&& (7 : Int32)) % (5 : Int32)) = 4 := by
  have h := c_mask v 7 3 (by decide) (by decide)
  have h2 := (c_irem (v &&& (7 : Int32)) 5 5 rfl).1 (by rw [h]; omega)
  simp only [← Int32.toInt_inj, Int32.reduceToInt]
  omega
theorem own_pd1 : parseMethodDescriptor "(IJ)[D" = some ⟨[.int, .long], some (.array .double)⟩ := by decide +kernel
theorem own_pd2 : parseMethodDescriptor "([D[D)D" = some ⟨[(.array .double), (.array .double)], some .double⟩ := by decide +kernel
theorem own_ef0 (m : MethodId) (v0 : Int32) (q1 : Int64) (q2 : Int64) : entryFrame m #[(.int v0), (.long q1), (.long q2)] maxLocals = mkF m 0 #[.val (.int v0), .val (.long q1), .second, .val (.long q2), .second, .unset, .unset, .unset, .unset, .unset, .unset, .unset] [] := by first | (simp [entryFrame, mkF, argsToLocals, Value.category, maxLocals]; done) | rfl
def own_Q0 (Z : State) (v0 : Int32) (q1 : Int64) (q2 : Int64) (h0 : Heap) (n0 : Nat) (v : Option Value) (h : Heap) (L : List Loc) : Prop := v = some (.int (1 : Int32)) ∧ Fr n0 L
set_option maxRecDepth 65536 in
set_option maxHeartbeats 40000000 in
theorem own_rm0 (l : Launch) (Z : State) (a0 : Array Value) (hw : ∀ d ∈ tables_1, d.before a0 Z = true) (ws : List Jvm.Cond) (v0 : Int32) (q1 : Int64) (q2 : Int64) (h0 : Heap) (n0 : Nat) (Z0 : n0 ≤ h0.size)  :
    MetFree l x (head1 (Jvm.Cond.code x code maxLocals ret :: ws) room_1) (fun a U => a = #[(.int v0), (.long q1), (.long q2)] ∧ Z.Warmed39 U.vm ∧ U.heap = h0) (fun _ _ _ _ _ => True) (fun _ U o U' => ∃ v L, o = .returned v ∧ own_Q0 Z v0 q1 q2 h0 n0 v U'.heap L ∧ FrameEnd U o U' L room_1.cells room_1.slots) := by
  refine MetFree.of_bodySF (plainFor_of_name own_pn0) hisR ?_
  intro p e s m args below meth c s₁ Bd hml0 hP hK
  obtain ⟨rfl, hZ, hh⟩ := hP
  have hx := Bd.exec
  have hby := Bd.bytes
  have hlk := Bd.notSynchronized
  have hrt := Bd.returns
  have hml : c.maxLocals = 12 := hml0
  have hown : s.vm.findClass "com/example/kalends/kalends/MatricesDotPinLaw" = some m.cls := findClass_of_methodNamed Bd.named
  have hnm := (name_of_methodNamed Bd.named Bd.method).1
  have X0 : Stand p l e room_1 s m #[(.int v0), (.long q1), (.long q2)] below meth c s₁ [] 0 0 := Stand.of_body Bd
  have e0 : s₁.heap = h0 := by rw [← hh, Bd.state]; rfl
  have N0 := Fr.nil n0
  refine own_in (own_ef0 m v0 q1 q2) ?_
  refine own_iloadN X0 hx 1 (hb hby at_0) rfl ?_
  refine own_bipush X0 hx 3 (7 : Int32) (hb hby at_1) rfl ?_
  refine own_iand X0 hx 4 (hb hby at_3) ?_
  refine own_iconst X0 hx 5 (5 : Int32) (hb hby at_4) rfl ?_
  refine own_irem X0 hx 6 (hb hby at_5) (by decide) ?_
  rcases own_five v0 with hk1 | hk2 | hk3 | hk4 | hk5
  · rw [hk1]
    refine own_istore X0 hx 8 #[.val (.int v0), .val (.long q1), .second, .val (.long q2), .second, .val (.int (0 : Int32)), .unset, .unset, .unset, .unset, .unset, .unset] (hb hby at_6) rfl ?_
    refine own_iload X0 hx 10 (hb hby at_8) rfl ?_
    refine own_lloadN X0 hx 11 (hb hby at_10) rfl ?_
    obtain ⟨_, _, ⟨T6, Lx6, kc6, nc6⟩, -, X6, ⟨Lc6, hQ6, lq6, yq6, zq6⟩, st6⟩ := Jvm.LawKit.callS X0 hx (y := (⟨"com/example/kalends/kalends/MatricesDotPinLaw", "build", "(IJ)[D"⟩ : MethodName)) hown (mvT hZ (hw _ (List.mem_of_getElem? (i := 0) rfl))) (mvT hZ (hw _ (List.mem_of_getElem? (i := 1) rfl))) (mvT hZ (hw _ (List.mem_of_getElem? (i := 2) rfl))) (mvT hZ (hw _ (List.mem_of_getElem? (i := 3) rfl))) (by decide) (backOf (W := 0) (own_rm1n0 l Z a0 hw [] q1 h0 n0 Z0 ) hZ (hw _ (List.mem_of_getElem? (i := 3) rfl)) (hw _ (List.mem_of_getElem? (i := 2) rfl)) (by decide) (by decide)) (g := (mkF m 11 #[.val (.int v0), .val (.long q1), .second, .val (.long q2), .second, .val (.int (0 : Int32)), .unset, .unset, .unset, .unset, .unset, .unset] [(.long q1), (.int (0 : Int32))])) rfl (by rw [hml]; rfl) (argsL := [(.int (0 : Int32)), (.long q1)]) (rest := []) (lenOf own_pd1 rfl) rfl (by show 2 * 0 + _ ≤ _; exact Nat.le_of_eq rfl) (hb hby at_11) (fun _ _ => ⟨rfl, e0, (by decide : 0 + 1 ≤ _), (by decide : 0 + 0 ≤ _)⟩)
    dsimp only [Pt.U, Pt.locs, Pt.cells, Pt.slots] at X6 lq6 yq6 zq6 st6 hQ6
    subst lq6 yq6 zq6
    obtain ⟨bb_6, kb_6, rfl, Nq6, Kp6, G6_0, G6_1⟩ := hQ6
    have N6 := Fr.app N0 Nq6
    have gt_bb_6 : n0 ≤ bb_6 := Nat.le_trans Z0 G6_0
    have Z7 := Nat.le_trans Z0 Kp6.1
    refine own_st (G' := T6.setTop (mkF m 14 #[.val (.int v0), .val (.long q1), .second, .val (.long q2), .second, .val (.int (0 : Int32)), .unset, .unset, .unset, .unset, .unset, .unset] [(.ref bb_6)])) st6 ?_
    refine own_astore X6 hx 16 #[.val (.int v0), .val (.long q1), .second, .val (.long q2), .second, .val (.int (0 : Int32)), .val (.ref bb_6), .unset, .unset, .unset, .unset, .unset] (hb hby at_14) rfl rfl ?_
    refine own_iload X6 hx 18 (hb hby at_16) rfl ?_
    refine own_lloadN X6 hx 19 (hb hby at_18) rfl ?_
    obtain ⟨_, _, ⟨T8, Lx8, kc8, nc8⟩, -, X8, ⟨Lc8, hQ8, lq8, yq8, zq8⟩, st8⟩ := Jvm.LawKit.callS X6 hx (y := (⟨"com/example/kalends/kalends/MatricesDotPinLaw", "build", "(IJ)[D"⟩ : MethodName)) hown (mvT hZ (hw _ (List.mem_of_getElem? (i := 0) rfl))) (mvT hZ (hw _ (List.mem_of_getElem? (i := 1) rfl))) (mvT hZ (hw _ (List.mem_of_getElem? (i := 2) rfl))) (mvT hZ (hw _ (List.mem_of_getElem? (i := 3) rfl))) (by decide) (backOf (W := 0) (own_rm1n0 l Z a0 hw [] q2 T6.heap n0 Z7 ) hZ (hw _ (List.mem_of_getElem? (i := 3) rfl)) (hw _ (List.mem_of_getElem? (i := 2) rfl)) (by decide) (by decide)) (g := (mkF m 19 #[.val (.int v0), .val (.long q1), .second, .val (.long q2), .second, .val (.int (0 : Int32)), .val (.ref bb_6), .unset, .unset, .unset, .unset, .unset] [(.long q2), (.int (0 : Int32))])) rfl (by rw [hml]; rfl) (argsL := [(.int (0 : Int32)), (.long q2)]) (rest := []) (lenOf own_pd1 rfl) rfl (by show 2 * 0 + _ ≤ _; exact Nat.le_of_eq rfl) (hb hby at_19) (fun _ _ => ⟨rfl, rfl, (by decide : 1 + 1 ≤ _), (by decide : 0 + 0 ≤ _)⟩)
    dsimp only [Pt.U, Pt.locs, Pt.cells, Pt.slots] at X8 lq8 yq8 zq8 st8 hQ8
    subst lq8 yq8 zq8
    obtain ⟨bb_8, kb_8, rfl, Nq8, Kp8, G8_0, G8_1⟩ := hQ8
    have N8 := Fr.app N6 Nq8
    have ne9 : bb_6 ≠ bb_8 := Nat.ne_of_lt (Nat.lt_of_lt_of_le G6_1.lt G8_0)
    have gt_bb_8 : n0 ≤ bb_8 := Nat.le_trans Z7 G8_0
    have Z10 := Nat.le_trans Z7 Kp8.1
    refine own_st (G' := T8.setTop (mkF m 22 #[.val (.int v0), .val (.long q1), .second, .val (.long q2), .second, .val (.int (0 : Int32)), .val (.ref bb_6), .unset, .unset, .unset, .unset, .unset] [(.ref bb_8)])) st8 ?_
    refine own_astore X8 hx 24 #[.val (.int v0), .val (.long q1), .second, .val (.long q2), .second, .val (.int (0 : Int32)), .val (.ref bb_6), .val (.ref bb_8), .unset, .unset, .unset, .unset] (hb hby at_22) rfl rfl ?_
    refine own_lconst X8 hx 25 (0 : Int64) (hb hby at_24) rfl ?_
    refine own_lstore X8 hx 27 #[.val (.int v0), .val (.long q1), .second, .val (.long q2), .second, .val (.int (0 : Int32)), .val (.ref bb_6), .val (.ref bb_8), .val (.long (0 : Int64)), .second, .unset, .unset] (hb hby at_25) rfl ?_
    refine own_iload X8 hx 29 (hb hby at_27) rfl ?_
    refine own_ifYes X8 hx 48 (hb hby at_29) (flt (by decide : ¬ ((0 : Int32) < (0 : Int32)))).2.2.2 ?_
    refine own_iload X8 hx 50 (hb hby at_48) rfl ?_
    refine own_iconst X8 hx 51 (1 : Int32) (hb hby at_50) rfl ?_
    refine own_icmpYes X8 hx 70 (hb hby at_51) (flt (by decide : ¬ ((1 : Int32) < (0 : Int32)))).2.2.2 ?_
    refine own_iload X8 hx 72 (hb hby at_70) rfl ?_
    refine own_iconst X8 hx 73 (2 : Int32) (hb hby at_72) rfl ?_
    refine own_icmpYes X8 hx 92 (hb hby at_73) (flt (by decide : ¬ ((2 : Int32) < (0 : Int32)))).2.2.2 ?_
    refine own_iload X8 hx 94 (hb hby at_92) rfl ?_
    refine own_iconst X8 hx 95 (3 : Int32) (hb hby at_94) rfl ?_
    refine own_icmpYes X8 hx 114 (hb hby at_95) (flt (by decide : ¬ ((3 : Int32) < (0 : Int32)))).2.2.2 ?_
    refine own_aload X8 hx 116 (hb hby at_114) rfl rfl ?_
    refine own_aload X8 hx 118 (hb hby at_116) rfl rfl ?_
    have f11 := (G6_1.keep Kp8 nin0)
    obtain ⟨_, _, ⟨T12, Lx12, kc12, nc12⟩, -, X12, ⟨Lc12, hQ12, lq12, yq12, zq12⟩, st12⟩ := Jvm.LawKit.callS X8 hx (y := (⟨"com/example/kalends/kalends/Matrices", "dot", "([D[D)D"⟩ : MethodName)) hown (mvT hZ (hw _ (List.mem_of_getElem? (i := 5) rfl))) (mvT hZ (hw _ (List.mem_of_getElem? (i := 6) rfl))) (mvT hZ (hw _ (List.mem_of_getElem? (i := 7) rfl))) (mvT hZ (hw _ (List.mem_of_getElem? (i := 8) rfl))) (by decide) (backOf (W := 0) (own_rm2n0 l Z a0 hw [] bb_6 bb_8 kb_6 kb_8 T8.heap n0 Z10 f11 G8_1) hZ (hw _ (List.mem_of_getElem? (i := 8) rfl)) (hw _ (List.mem_of_getElem? (i := 7) rfl)) (by decide) (by decide)) (g := (mkF m 118 #[.val (.int v0), .val (.long q1), .second, .val (.long q2), .second, .val (.int (0 : Int32)), .val (.ref bb_6), .val (.ref bb_8), .val (.long (0 : Int64)), .second, .unset, .unset] [(.ref bb_8), (.ref bb_6)])) rfl (by rw [hml]; rfl) (argsL := [(.ref bb_6), (.ref bb_8)]) (rest := []) (lenOf own_pd2 rfl) rfl (by show 2 * 0 + _ ≤ _; exact Nat.le_of_eq rfl) (hb hby at_118) (fun _ _ => ⟨rfl, rfl, (by decide : 2 + 0 ≤ _), (by decide : 0 + 0 ≤ _)⟩)
    dsimp only [Pt.U, Pt.locs, Pt.cells, Pt.slots] at X12 lq12 yq12 zq12 st12 hQ12
    subst lq12 yq12 zq12
    obtain ⟨zz_12, rfl, Nq12, Kp12, P12_0⟩ := hQ12
    have N12 := Fr.app N8 Nq12
    have Z13 := Nat.le_trans Z10 Kp12.1
    refine own_st (G' := T12.setTop (mkF m 121 #[.val (.int v0), .val (.long q1), .second, .val (.long q2), .second, .val (.int (0 : Int32)), .val (.ref bb_6), .val (.ref bb_8), .val (.long (0 : Int64)), .second, .unset, .unset] [(.double zz_12)])) st12 ?_
    refine own_dstore X12 hx 123 #[.val (.int v0), .val (.long q1), .second, .val (.long q2), .second, .val (.int (0 : Int32)), .val (.ref bb_6), .val (.ref bb_8), .val (.long (0 : Int64)), .second, .val (.double zz_12), .second] (hb hby at_121) rfl ?_
    refine own_dload X12 hx 125 (hb hby at_123) rfl ?_
    refine own_lload X12 hx 127 (hb hby at_125) rfl ?_
    refine own_l2d X12 hx 128 (hb hby at_127) ?_
    refine own_dcmp X12 hx 129 (0 : Int32) (hb hby at_128) (own_cmp0 P12_0) ?_
    refine own_ifNo X12 hx 132 (hb hby at_129) (teq (rfl : (0 : Int32) = (0 : Int32))).2 ?_
    refine own_iconst X12 hx 133 (1 : Int32) (hb hby at_132) rfl ?_
    refine own_goto X12 hx 137 (hb hby at_133) ?_
    exact own_retN (t := .boolean) (z := (1 : Int32)) (Q := own_Q0 Z v0 q1 q2 h0 n0) X12 hx hrt (by simp) (hb hby at_137) hlk rfl ⟨rfl, N12⟩ (by decide) (by decide)
  · rw [hk2]
    refine own_istore X0 hx 8 #[.val (.int v0), .val (.long q1), .second, .val (.long q2), .second, .val (.int (1 : Int32)), .unset, .unset, .unset, .unset, .unset, .unset] (hb hby at_6) rfl ?_
    refine own_iload X0 hx 10 (hb hby at_8) rfl ?_
    refine own_lloadN X0 hx 11 (hb hby at_10) rfl ?_
    obtain ⟨_, _, ⟨T14, Lx14, kc14, nc14⟩, -, X14, ⟨Lc14, hQ14, lq14, yq14, zq14⟩, st14⟩ := Jvm.LawKit.callS X0 hx (y := (⟨"com/example/kalends/kalends/MatricesDotPinLaw", "build", "(IJ)[D"⟩ : MethodName)) hown (mvT hZ (hw _ (List.mem_of_getElem? (i := 0) rfl))) (mvT hZ (hw _ (List.mem_of_getElem? (i := 1) rfl))) (mvT hZ (hw _ (List.mem_of_getElem? (i := 2) rfl))) (mvT hZ (hw _ (List.mem_of_getElem? (i := 3) rfl))) (by decide) (backOf (W := 0) (own_rm1n1 l Z a0 hw [] q1 h0 n0 Z0 ) hZ (hw _ (List.mem_of_getElem? (i := 3) rfl)) (hw _ (List.mem_of_getElem? (i := 2) rfl)) (by decide) (by decide)) (g := (mkF m 11 #[.val (.int v0), .val (.long q1), .second, .val (.long q2), .second, .val (.int (1 : Int32)), .unset, .unset, .unset, .unset, .unset, .unset] [(.long q1), (.int (1 : Int32))])) rfl (by rw [hml]; rfl) (argsL := [(.int (1 : Int32)), (.long q1)]) (rest := []) (lenOf own_pd1 rfl) rfl (by show 2 * 0 + _ ≤ _; exact Nat.le_of_eq rfl) (hb hby at_11) (fun _ _ => ⟨rfl, e0, (by decide : 0 + 1 ≤ _), (by decide : 0 + 1 ≤ _)⟩)
    dsimp only [Pt.U, Pt.locs, Pt.cells, Pt.slots] at X14 lq14 yq14 zq14 st14 hQ14
    subst lq14 yq14 zq14
    obtain ⟨bb_14, kb_14, rfl, Nq14, Kp14, G14_0, G14_1⟩ := hQ14
    have N14 := Fr.app N0 Nq14
    have gt_bb_14 : n0 ≤ bb_14 := Nat.le_trans Z0 G14_0
    have Z15 := Nat.le_trans Z0 Kp14.1
    refine own_st (G' := T14.setTop (mkF m 14 #[.val (.int v0), .val (.long q1), .second, .val (.long q2), .second, .val (.int (1 : Int32)), .unset, .unset, .unset, .unset, .unset, .unset] [(.ref bb_14)])) st14 ?_
    refine own_astore X14 hx 16 #[.val (.int v0), .val (.long q1), .second, .val (.long q2), .second, .val (.int (1 : Int32)), .val (.ref bb_14), .unset, .unset, .unset, .unset, .unset] (hb hby at_14) rfl rfl ?_
    refine own_iload X14 hx 18 (hb hby at_16) rfl ?_
    refine own_lloadN X14 hx 19 (hb hby at_18) rfl ?_
    obtain ⟨_, _, ⟨T16, Lx16, kc16, nc16⟩, -, X16, ⟨Lc16, hQ16, lq16, yq16, zq16⟩, st16⟩ := Jvm.LawKit.callS X14 hx (y := (⟨"com/example/kalends/kalends/MatricesDotPinLaw", "build", "(IJ)[D"⟩ : MethodName)) hown (mvT hZ (hw _ (List.mem_of_getElem? (i := 0) rfl))) (mvT hZ (hw _ (List.mem_of_getElem? (i := 1) rfl))) (mvT hZ (hw _ (List.mem_of_getElem? (i := 2) rfl))) (mvT hZ (hw _ (List.mem_of_getElem? (i := 3) rfl))) (by decide) (backOf (W := 0) (own_rm1n1 l Z a0 hw [] q2 T14.heap n0 Z15 ) hZ (hw _ (List.mem_of_getElem? (i := 3) rfl)) (hw _ (List.mem_of_getElem? (i := 2) rfl)) (by decide) (by decide)) (g := (mkF m 19 #[.val (.int v0), .val (.long q1), .second, .val (.long q2), .second, .val (.int (1 : Int32)), .val (.ref bb_14), .unset, .unset, .unset, .unset, .unset] [(.long q2), (.int (1 : Int32))])) rfl (by rw [hml]; rfl) (argsL := [(.int (1 : Int32)), (.long q2)]) (rest := []) (lenOf own_pd1 rfl) rfl (by show 2 * 0 + _ ≤ _; exact Nat.le_of_eq rfl) (hb hby at_19) (fun _ _ => ⟨rfl, rfl, (by decide : 1 + 1 ≤ _), (by decide : 1 + 1 ≤ _)⟩)
    dsimp only [Pt.U, Pt.locs, Pt.cells, Pt.slots] at X16 lq16 yq16 zq16 st16 hQ16
    subst lq16 yq16 zq16
    obtain ⟨bb_16, kb_16, rfl, Nq16, Kp16, G16_0, G16_1⟩ := hQ16
    have N16 := Fr.app N14 Nq16
    have ne17 : bb_14 ≠ bb_16 := Nat.ne_of_lt (Nat.lt_of_lt_of_le G14_1.lt G16_0)
    have gt_bb_16 : n0 ≤ bb_16 := Nat.le_trans Z15 G16_0
    have Z18 := Nat.le_trans Z15 Kp16.1
    refine own_st (G' := T16.setTop (mkF m 22 #[.val (.int v0), .val (.long q1), .second, .val (.long q2), .second, .val (.int (1 : Int32)), .val (.ref bb_14), .unset, .unset, .unset, .unset, .unset] [(.ref bb_16)])) st16 ?_
    refine own_astore X16 hx 24 #[.val (.int v0), .val (.long q1), .second, .val (.long q2), .second, .val (.int (1 : Int32)), .val (.ref bb_14), .val (.ref bb_16), .unset, .unset, .unset, .unset] (hb hby at_22) rfl rfl ?_
    refine own_lconst X16 hx 25 (0 : Int64) (hb hby at_24) rfl ?_
    refine own_lstore X16 hx 27 #[.val (.int v0), .val (.long q1), .second, .val (.long q2), .second, .val (.int (1 : Int32)), .val (.ref bb_14), .val (.ref bb_16), .val (.long (0 : Int64)), .second, .unset, .unset] (hb hby at_25) rfl ?_
    refine own_iload X16 hx 29 (hb hby at_27) rfl ?_
    refine own_ifNo X16 hx 32 (hb hby at_29) (tlt (by decide : (0 : Int32) < (1 : Int32))).2.2.2 ?_
    refine own_lload X16 hx 34 (hb hby at_32) rfl ?_
    refine own_lloadN X16 hx 35 (hb hby at_34) rfl ?_
    refine own_iconst X16 hx 36 (0 : Int32) (hb hby at_35) rfl ?_
    obtain ⟨_, _, ⟨T19, Lx19, kc19, nc19⟩, -, X19, ⟨Lc19, hQ19, lq19, yq19, zq19⟩, st19⟩ := Jvm.LawKit.callS X16 hx (y := (⟨"com/example/kalends/kalends/MatricesDotPinLaw", "at", "(JI)J"⟩ : MethodName)) hown (mvT hZ (hw _ (List.mem_of_getElem? (i := 9) rfl))) (mvT hZ (hw _ (List.mem_of_getElem? (i := 10) rfl))) (mvT hZ (hw _ (List.mem_of_getElem? (i := 2) rfl))) (mvT hZ (hw _ (List.mem_of_getElem? (i := 11) rfl))) (by decide) (backOf (W := 2) (own_rm3 l Z a0 hw [] q1 (0 : Int32) T16.heap n0 Z18 ) hZ (hw _ (List.mem_of_getElem? (i := 11) rfl)) (hw _ (List.mem_of_getElem? (i := 2) rfl)) (by decide) (by decide)) (g := (mkF m 36 #[.val (.int v0), .val (.long q1), .second, .val (.long q2), .second, .val (.int (1 : Int32)), .val (.ref bb_14), .val (.ref bb_16), .val (.long (0 : Int64)), .second, .unset, .unset] [(.int (0 : Int32)), (.long q1), (.long (0 : Int64))])) rfl (by rw [hml]; rfl) (argsL := [(.long q1), (.int (0 : Int32))]) (rest := [(.long (0 : Int64))]) (lenOf own_pd0 rfl) rfl (by show 2 * 0 + _ ≤ _; exact Nat.le_of_eq rfl) (hb hby at_36) (fun _ _ => ⟨rfl, rfl, (by decide : 2 + 0 ≤ _), (by decide : 2 + 0 ≤ _)⟩)
    dsimp only [Pt.U, Pt.locs, Pt.cells, Pt.slots] at X19 lq19 yq19 zq19 st19 hQ19
    subst lq19 yq19 zq19
    obtain ⟨rfl, Nq19, eh19⟩ := hQ19
    have N19 := Fr.app N16 Nq19
    refine own_st (G' := T19.setTop (mkF m 39 #[.val (.int v0), .val (.long q1), .second, .val (.long q2), .second, .val (.int (1 : Int32)), .val (.ref bb_14), .val (.ref bb_16), .val (.long (0 : Int64)), .second, .unset, .unset] [(.long (own_at q1 (0 : Int32))), (.long (0 : Int64))])) st19 ?_
    refine own_lloadN X19 hx 40 (hb hby at_39) rfl ?_
    refine own_iconst X19 hx 41 (0 : Int32) (hb hby at_40) rfl ?_
    obtain ⟨_, _, ⟨T20, Lx20, kc20, nc20⟩, -, X20, ⟨Lc20, hQ20, lq20, yq20, zq20⟩, st20⟩ := Jvm.LawKit.callS X19 hx (y := (⟨"com/example/kalends/kalends/MatricesDotPinLaw", "at", "(JI)J"⟩ : MethodName)) hown (mvT hZ (hw _ (List.mem_of_getElem? (i := 9) rfl))) (mvT hZ (hw _ (List.mem_of_getElem? (i := 10) rfl))) (mvT hZ (hw _ (List.mem_of_getElem? (i := 2) rfl))) (mvT hZ (hw _ (List.mem_of_getElem? (i := 11) rfl))) (by decide) (backOf (W := 4) (own_rm3 l Z a0 hw [] q2 (0 : Int32) T16.heap n0 Z18 ) hZ (hw _ (List.mem_of_getElem? (i := 11) rfl)) (hw _ (List.mem_of_getElem? (i := 2) rfl)) (by decide) (by decide)) (g := (mkF m 41 #[.val (.int v0), .val (.long q1), .second, .val (.long q2), .second, .val (.int (1 : Int32)), .val (.ref bb_14), .val (.ref bb_16), .val (.long (0 : Int64)), .second, .unset, .unset] [(.int (0 : Int32)), (.long q2), (.long (own_at q1 (0 : Int32))), (.long (0 : Int64))])) rfl (by rw [hml]; rfl) (argsL := [(.long q2), (.int (0 : Int32))]) (rest := [(.long (own_at q1 (0 : Int32))), (.long (0 : Int64))]) (lenOf own_pd0 rfl) rfl (by show 2 * 0 + _ ≤ _; exact Nat.le_of_eq rfl) (hb hby at_41) (fun _ _ => ⟨rfl, eh19, (by decide : 2 + 0 ≤ _), (by decide : 2 + 0 ≤ _)⟩)
    dsimp only [Pt.U, Pt.locs, Pt.cells, Pt.slots] at X20 lq20 yq20 zq20 st20 hQ20
    subst lq20 yq20 zq20
    obtain ⟨rfl, Nq20, eh20⟩ := hQ20
    have N20 := Fr.app N19 Nq20
    refine own_st (G' := T20.setTop (mkF m 44 #[.val (.int v0), .val (.long q1), .second, .val (.long q2), .second, .val (.int (1 : Int32)), .val (.ref bb_14), .val (.ref bb_16), .val (.long (0 : Int64)), .second, .unset, .unset] [(.long (own_at q2 (0 : Int32))), (.long (own_at q1 (0 : Int32))), (.long (0 : Int64))])) st20 ?_
    refine own_lmul X20 hx 45 (hb hby at_44) ?_
    refine own_ladd X20 hx 46 (hb hby at_45) ?_
    refine own_lstore X20 hx 48 #[.val (.int v0), .val (.long q1), .second, .val (.long q2), .second, .val (.int (1 : Int32)), .val (.ref bb_14), .val (.ref bb_16), .val (.long ((0 : Int64) + ((own_at q1 (0 : Int32)) * (own_at q2 (0 : Int32))))), .second, .unset, .unset] (hb hby at_46) rfl ?_
    refine own_iload X20 hx 50 (hb hby at_48) rfl ?_
    refine own_iconst X20 hx 51 (1 : Int32) (hb hby at_50) rfl ?_
    refine own_icmpYes X20 hx 70 (hb hby at_51) (flt (by decide : ¬ ((1 : Int32) < (1 : Int32)))).2.2.2 ?_
    refine own_iload X20 hx 72 (hb hby at_70) rfl ?_
    refine own_iconst X20 hx 73 (2 : Int32) (hb hby at_72) rfl ?_
    refine own_icmpYes X20 hx 92 (hb hby at_73) (flt (by decide : ¬ ((2 : Int32) < (1 : Int32)))).2.2.2 ?_
    refine own_iload X20 hx 94 (hb hby at_92) rfl ?_
    refine own_iconst X20 hx 95 (3 : Int32) (hb hby at_94) rfl ?_
    refine own_icmpYes X20 hx 114 (hb hby at_95) (flt (by decide : ¬ ((3 : Int32) < (1 : Int32)))).2.2.2 ?_
    refine own_aload X20 hx 116 (hb hby at_114) rfl rfl ?_
    refine own_aload X20 hx 118 (hb hby at_116) rfl rfl ?_
    have f21 := (G14_1.keep Kp16 nin0)
    obtain ⟨_, _, ⟨T22, Lx22, kc22, nc22⟩, -, X22, ⟨Lc22, hQ22, lq22, yq22, zq22⟩, st22⟩ := Jvm.LawKit.callS X20 hx (y := (⟨"com/example/kalends/kalends/Matrices", "dot", "([D[D)D"⟩ : MethodName)) hown (mvT hZ (hw _ (List.mem_of_getElem? (i := 5) rfl))) (mvT hZ (hw _ (List.mem_of_getElem? (i := 6) rfl))) (mvT hZ (hw _ (List.mem_of_getElem? (i := 7) rfl))) (mvT hZ (hw _ (List.mem_of_getElem? (i := 8) rfl))) (by decide) (backOf (W := 0) (own_rm2n1 l Z a0 hw [] bb_14 bb_16 kb_14 kb_16 (own_at q1 (0 : Int32)) (own_at q2 (0 : Int32)) T16.heap n0 Z18 f21 G16_1 (own_at16 _ _ : -32768 ≤ (own_at q1 (0 : Int32)).toInt ∧ (own_at q1 (0 : Int32)).toInt ≤ 32767) (own_at16 _ _ : -32768 ≤ (own_at q2 (0 : Int32)).toInt ∧ (own_at q2 (0 : Int32)).toInt ≤ 32767)) hZ (hw _ (List.mem_of_getElem? (i := 8) rfl)) (hw _ (List.mem_of_getElem? (i := 7) rfl)) (by decide) (by decide)) (g := (mkF m 118 #[.val (.int v0), .val (.long q1), .second, .val (.long q2), .second, .val (.int (1 : Int32)), .val (.ref bb_14), .val (.ref bb_16), .val (.long ((0 : Int64) + ((own_at q1 (0 : Int32)) * (own_at q2 (0 : Int32))))), .second, .unset, .unset] [(.ref bb_16), (.ref bb_14)])) rfl (by rw [hml]; rfl) (argsL := [(.ref bb_14), (.ref bb_16)]) (rest := []) (lenOf own_pd2 rfl) rfl (by show 2 * 0 + _ ≤ _; exact Nat.le_of_eq rfl) (hb hby at_118) (fun _ _ => ⟨rfl, eh20, (by decide : 2 + 0 ≤ _), (by decide : 2 + 0 ≤ _)⟩)
    dsimp only [Pt.U, Pt.locs, Pt.cells, Pt.slots] at X22 lq22 yq22 zq22 st22 hQ22
    subst lq22 yq22 zq22
    obtain ⟨zz_22, rfl, Nq22, Kp22, P22_0⟩ := hQ22
    have N22 := Fr.app N20 Nq22
    have Z23 := Nat.le_trans Z18 Kp22.1
    refine own_st (G' := T22.setTop (mkF m 121 #[.val (.int v0), .val (.long q1), .second, .val (.long q2), .second, .val (.int (1 : Int32)), .val (.ref bb_14), .val (.ref bb_16), .val (.long ((0 : Int64) + ((own_at q1 (0 : Int32)) * (own_at q2 (0 : Int32))))), .second, .unset, .unset] [(.double zz_22)])) st22 ?_
    refine own_dstore X22 hx 123 #[.val (.int v0), .val (.long q1), .second, .val (.long q2), .second, .val (.int (1 : Int32)), .val (.ref bb_14), .val (.ref bb_16), .val (.long ((0 : Int64) + ((own_at q1 (0 : Int32)) * (own_at q2 (0 : Int32))))), .second, .val (.double zz_22), .second] (hb hby at_121) rfl ?_
    refine own_dload X22 hx 125 (hb hby at_123) rfl ?_
    refine own_lload X22 hx 127 (hb hby at_125) rfl ?_
    refine own_l2d X22 hx 128 (hb hby at_127) ?_
    refine own_dcmp X22 hx 129 (0 : Int32) (hb hby at_128) (own_cmp0 P22_0) ?_
    refine own_ifNo X22 hx 132 (hb hby at_129) (teq (rfl : (0 : Int32) = (0 : Int32))).2 ?_
    refine own_iconst X22 hx 133 (1 : Int32) (hb hby at_132) rfl ?_
    refine own_goto X22 hx 137 (hb hby at_133) ?_
    exact own_retN (t := .boolean) (z := (1 : Int32)) (Q := own_Q0 Z v0 q1 q2 h0 n0) X22 hx hrt (by simp) (hb hby at_137) hlk rfl ⟨rfl, N22⟩ (by decide) (by decide)
  · rw [hk3]
    refine own_istore X0 hx 8 #[.val (.int v0), .val (.long q1), .second, .val (.long q2), .second, .val (.int (2 : Int32)), .unset, .unset, .unset, .unset, .unset, .unset] (hb hby at_6) rfl ?_
    refine own_iload X0 hx 10 (hb hby at_8) rfl ?_
    refine own_lloadN X0 hx 11 (hb hby at_10) rfl ?_
    obtain ⟨_, _, ⟨T24, Lx24, kc24, nc24⟩, -, X24, ⟨Lc24, hQ24, lq24, yq24, zq24⟩, st24⟩ := Jvm.LawKit.callS X0 hx (y := (⟨"com/example/kalends/kalends/MatricesDotPinLaw", "build", "(IJ)[D"⟩ : MethodName)) hown (mvT hZ (hw _ (List.mem_of_getElem? (i := 0) rfl))) (mvT hZ (hw _ (List.mem_of_getElem? (i := 1) rfl))) (mvT hZ (hw _ (List.mem_of_getElem? (i := 2) rfl))) (mvT hZ (hw _ (List.mem_of_getElem? (i := 3) rfl))) (by decide) (backOf (W := 0) (own_rm1n2 l Z a0 hw [] q1 h0 n0 Z0 ) hZ (hw _ (List.mem_of_getElem? (i := 3) rfl)) (hw _ (List.mem_of_getElem? (i := 2) rfl)) (by decide) (by decide)) (g := (mkF m 11 #[.val (.int v0), .val (.long q1), .second, .val (.long q2), .second, .val (.int (2 : Int32)), .unset, .unset, .unset, .unset, .unset, .unset] [(.long q1), (.int (2 : Int32))])) rfl (by rw [hml]; rfl) (argsL := [(.int (2 : Int32)), (.long q1)]) (rest := []) (lenOf own_pd1 rfl) rfl (by show 2 * 0 + _ ≤ _; exact Nat.le_of_eq rfl) (hb hby at_11) (fun _ _ => ⟨rfl, e0, (by decide : 0 + 1 ≤ _), (by decide : 0 + 2 ≤ _)⟩)
    dsimp only [Pt.U, Pt.locs, Pt.cells, Pt.slots] at X24 lq24 yq24 zq24 st24 hQ24
    subst lq24 yq24 zq24
    obtain ⟨bb_24, kb_24, rfl, Nq24, Kp24, G24_0, G24_1⟩ := hQ24
    have N24 := Fr.app N0 Nq24
    have gt_bb_24 : n0 ≤ bb_24 := Nat.le_trans Z0 G24_0
    have Z25 := Nat.le_trans Z0 Kp24.1
    refine own_st (G' := T24.setTop (mkF m 14 #[.val (.int v0), .val (.long q1), .second, .val (.long q2), .second, .val (.int (2 : Int32)), .unset, .unset, .unset, .unset, .unset, .unset] [(.ref bb_24)])) st24 ?_
    refine own_astore X24 hx 16 #[.val (.int v0), .val (.long q1), .second, .val (.long q2), .second, .val (.int (2 : Int32)), .val (.ref bb_24), .unset, .unset, .unset, .unset, .unset] (hb hby at_14) rfl rfl ?_
    refine own_iload X24 hx 18 (hb hby at_16) rfl ?_
    refine own_lloadN X24 hx 19 (hb hby at_18) rfl ?_
    obtain ⟨_, _, ⟨T26, Lx26, kc26, nc26⟩, -, X26, ⟨Lc26, hQ26, lq26, yq26, zq26⟩, st26⟩ := Jvm.LawKit.callS X24 hx (y := (⟨"com/example/kalends/kalends/MatricesDotPinLaw", "build", "(IJ)[D"⟩ : MethodName)) hown (mvT hZ (hw _ (List.mem_of_getElem? (i := 0) rfl))) (mvT hZ (hw _ (List.mem_of_getElem? (i := 1) rfl))) (mvT hZ (hw _ (List.mem_of_getElem? (i := 2) rfl))) (mvT hZ (hw _ (List.mem_of_getElem? (i := 3) rfl))) (by decide) (backOf (W := 0) (own_rm1n2 l Z a0 hw [] q2 T24.heap n0 Z25 ) hZ (hw _ (List.mem_of_getElem? (i := 3) rfl)) (hw _ (List.mem_of_getElem? (i := 2) rfl)) (by decide) (by decide)) (g := (mkF m 19 #[.val (.int v0), .val (.long q1), .second, .val (.long q2), .second, .val (.int (2 : Int32)), .val (.ref bb_24), .unset, .unset, .unset, .unset, .unset] [(.long q2), (.int (2 : Int32))])) rfl (by rw [hml]; rfl) (argsL := [(.int (2 : Int32)), (.long q2)]) (rest := []) (lenOf own_pd1 rfl) rfl (by show 2 * 0 + _ ≤ _; exact Nat.le_of_eq rfl) (hb hby at_19) (fun _ _ => ⟨rfl, rfl, (by decide : 1 + 1 ≤ _), (by decide : 2 + 2 ≤ _)⟩)
    dsimp only [Pt.U, Pt.locs, Pt.cells, Pt.slots] at X26 lq26 yq26 zq26 st26 hQ26
    subst lq26 yq26 zq26
    obtain ⟨bb_26, kb_26, rfl, Nq26, Kp26, G26_0, G26_1⟩ := hQ26
    have N26 := Fr.app N24 Nq26
    have ne27 : bb_24 ≠ bb_26 := Nat.ne_of_lt (Nat.lt_of_lt_of_le G24_1.lt G26_0)
    have gt_bb_26 : n0 ≤ bb_26 := Nat.le_trans Z25 G26_0
    have Z28 := Nat.le_trans Z25 Kp26.1
    refine own_st (G' := T26.setTop (mkF m 22 #[.val (.int v0), .val (.long q1), .second, .val (.long q2), .second, .val (.int (2 : Int32)), .val (.ref bb_24), .unset, .unset, .unset, .unset, .unset] [(.ref bb_26)])) st26 ?_
    refine own_astore X26 hx 24 #[.val (.int v0), .val (.long q1), .second, .val (.long q2), .second, .val (.int (2 : Int32)), .val (.ref bb_24), .val (.ref bb_26), .unset, .unset, .unset, .unset] (hb hby at_22) rfl rfl ?_
    refine own_lconst X26 hx 25 (0 : Int64) (hb hby at_24) rfl ?_
    refine own_lstore X26 hx 27 #[.val (.int v0), .val (.long q1), .second, .val (.long q2), .second, .val (.int (2 : Int32)), .val (.ref bb_24), .val (.ref bb_26), .val (.long (0 : Int64)), .second, .unset, .unset] (hb hby at_25) rfl ?_
    refine own_iload X26 hx 29 (hb hby at_27) rfl ?_
    refine own_ifNo X26 hx 32 (hb hby at_29) (tlt (by decide : (0 : Int32) < (2 : Int32))).2.2.2 ?_
    refine own_lload X26 hx 34 (hb hby at_32) rfl ?_
    refine own_lloadN X26 hx 35 (hb hby at_34) rfl ?_
    refine own_iconst X26 hx 36 (0 : Int32) (hb hby at_35) rfl ?_
    obtain ⟨_, _, ⟨T29, Lx29, kc29, nc29⟩, -, X29, ⟨Lc29, hQ29, lq29, yq29, zq29⟩, st29⟩ := Jvm.LawKit.callS X26 hx (y := (⟨"com/example/kalends/kalends/MatricesDotPinLaw", "at", "(JI)J"⟩ : MethodName)) hown (mvT hZ (hw _ (List.mem_of_getElem? (i := 9) rfl))) (mvT hZ (hw _ (List.mem_of_getElem? (i := 10) rfl))) (mvT hZ (hw _ (List.mem_of_getElem? (i := 2) rfl))) (mvT hZ (hw _ (List.mem_of_getElem? (i := 11) rfl))) (by decide) (backOf (W := 2) (own_rm3 l Z a0 hw [] q1 (0 : Int32) T26.heap n0 Z28 ) hZ (hw _ (List.mem_of_getElem? (i := 11) rfl)) (hw _ (List.mem_of_getElem? (i := 2) rfl)) (by decide) (by decide)) (g := (mkF m 36 #[.val (.int v0), .val (.long q1), .second, .val (.long q2), .second, .val (.int (2 : Int32)), .val (.ref bb_24), .val (.ref bb_26), .val (.long (0 : Int64)), .second, .unset, .unset] [(.int (0 : Int32)), (.long q1), (.long (0 : Int64))])) rfl (by rw [hml]; rfl) (argsL := [(.long q1), (.int (0 : Int32))]) (rest := [(.long (0 : Int64))]) (lenOf own_pd0 rfl) rfl (by show 2 * 0 + _ ≤ _; exact Nat.le_of_eq rfl) (hb hby at_36) (fun _ _ => ⟨rfl, rfl, (by decide : 2 + 0 ≤ _), (by decide : 4 + 0 ≤ _)⟩)
    dsimp only [Pt.U, Pt.locs, Pt.cells, Pt.slots] at X29 lq29 yq29 zq29 st29 hQ29
    subst lq29 yq29 zq29
    obtain ⟨rfl, Nq29, eh29⟩ := hQ29
    have N29 := Fr.app N26 Nq29
    refine own_st (G' := T29.setTop (mkF m 39 #[.val (.int v0), .val (.long q1), .second, .val (.long q2), .second, .val (.int (2 : Int32)), .val (.ref bb_24), .val (.ref bb_26), .val (.long (0 : Int64)), .second, .unset, .unset] [(.long (own_at q1 (0 : Int32))), (.long (0 : Int64))])) st29 ?_
    refine own_lloadN X29 hx 40 (hb hby at_39) rfl ?_
    refine own_iconst X29 hx 41 (0 : Int32) (hb hby at_40) rfl ?_
    obtain ⟨_, _, ⟨T30, Lx30, kc30, nc30⟩, -, X30, ⟨Lc30, hQ30, lq30, yq30, zq30⟩, st30⟩ := Jvm.LawKit.callS X29 hx (y := (⟨"com/example/kalends/kalends/MatricesDotPinLaw", "at", "(JI)J"⟩ : MethodName)) hown (mvT hZ (hw _ (List.mem_of_getElem? (i := 9) rfl))) (mvT hZ (hw _ (List.mem_of_getElem? (i := 10) rfl))) (mvT hZ (hw _ (List.mem_of_getElem? (i := 2) rfl))) (mvT hZ (hw _ (List.mem_of_getElem? (i := 11) rfl))) (by decide) (backOf (W := 4) (own_rm3 l Z a0 hw [] q2 (0 : Int32) T26.heap n0 Z28 ) hZ (hw _ (List.mem_of_getElem? (i := 11) rfl)) (hw _ (List.mem_of_getElem? (i := 2) rfl)) (by decide) (by decide)) (g := (mkF m 41 #[.val (.int v0), .val (.long q1), .second, .val (.long q2), .second, .val (.int (2 : Int32)), .val (.ref bb_24), .val (.ref bb_26), .val (.long (0 : Int64)), .second, .unset, .unset] [(.int (0 : Int32)), (.long q2), (.long (own_at q1 (0 : Int32))), (.long (0 : Int64))])) rfl (by rw [hml]; rfl) (argsL := [(.long q2), (.int (0 : Int32))]) (rest := [(.long (own_at q1 (0 : Int32))), (.long (0 : Int64))]) (lenOf own_pd0 rfl) rfl (by show 2 * 0 + _ ≤ _; exact Nat.le_of_eq rfl) (hb hby at_41) (fun _ _ => ⟨rfl, eh29, (by decide : 2 + 0 ≤ _), (by decide : 4 + 0 ≤ _)⟩)
    dsimp only [Pt.U, Pt.locs, Pt.cells, Pt.slots] at X30 lq30 yq30 zq30 st30 hQ30
    subst lq30 yq30 zq30
    obtain ⟨rfl, Nq30, eh30⟩ := hQ30
    have N30 := Fr.app N29 Nq30
    refine own_st (G' := T30.setTop (mkF m 44 #[.val (.int v0), .val (.long q1), .second, .val (.long q2), .second, .val (.int (2 : Int32)), .val (.ref bb_24), .val (.ref bb_26), .val (.long (0 : Int64)), .second, .unset, .unset] [(.long (own_at q2 (0 : Int32))), (.long (own_at q1 (0 : Int32))), (.long (0 : Int64))])) st30 ?_
    refine own_lmul X30 hx 45 (hb hby at_44) ?_
    refine own_ladd X30 hx 46 (hb hby at_45) ?_
    refine own_lstore X30 hx 48 #[.val (.int v0), .val (.long q1), .second, .val (.long q2), .second, .val (.int (2 : Int32)), .val (.ref bb_24), .val (.ref bb_26), .val (.long ((0 : Int64) + ((own_at q1 (0 : Int32)) * (own_at q2 (0 : Int32))))), .second, .unset, .unset] (hb hby at_46) rfl ?_
    refine own_iload X30 hx 50 (hb hby at_48) rfl ?_
    refine own_iconst X30 hx 51 (1 : Int32) (hb hby at_50) rfl ?_
    refine own_icmpNo X30 hx 54 (hb hby at_51) (tlt (by decide : (1 : Int32) < (2 : Int32))).2.2.2 ?_
    refine own_lload X30 hx 56 (hb hby at_54) rfl ?_
    refine own_lloadN X30 hx 57 (hb hby at_56) rfl ?_
    refine own_iconst X30 hx 58 (1 : Int32) (hb hby at_57) rfl ?_
    obtain ⟨_, _, ⟨T31, Lx31, kc31, nc31⟩, -, X31, ⟨Lc31, hQ31, lq31, yq31, zq31⟩, st31⟩ := Jvm.LawKit.callS X30 hx (y := (⟨"com/example/kalends/kalends/MatricesDotPinLaw", "at", "(JI)J"⟩ : MethodName)) hown (mvT hZ (hw _ (List.mem_of_getElem? (i := 9) rfl))) (mvT hZ (hw _ (List.mem_of_getElem? (i := 10) rfl))) (mvT hZ (hw _ (List.mem_of_getElem? (i := 2) rfl))) (mvT hZ (hw _ (List.mem_of_getElem? (i := 11) rfl))) (by decide) (backOf (W := 2) (own_rm3 l Z a0 hw [] q1 (1 : Int32) T26.heap n0 Z28 ) hZ (hw _ (List.mem_of_getElem? (i := 11) rfl)) (hw _ (List.mem_of_getElem? (i := 2) rfl)) (by decide) (by decide)) (g := (mkF m 58 #[.val (.int v0), .val (.long q1), .second, .val (.long q2), .second, .val (.int (2 : Int32)), .val (.ref bb_24), .val (.ref bb_26), .val (.long ((0 : Int64) + ((own_at q1 (0 : Int32)) * (own_at q2 (0 : Int32))))), .second, .unset, .unset] [(.int (1 : Int32)), (.long q1), (.long ((0 : Int64) + ((own_at q1 (0 : Int32)) * (own_at q2 (0 : Int32)))))])) rfl (by rw [hml]; rfl) (argsL := [(.long q1), (.int (1 : Int32))]) (rest := [(.long ((0 : Int64) + ((own_at q1 (0 : Int32)) * (own_at q2 (0 : Int32)))))]) (lenOf own_pd0 rfl) rfl (by show 2 * 0 + _ ≤ _; exact Nat.le_of_eq rfl) (hb hby at_58) (fun _ _ => ⟨rfl, eh30, (by decide : 2 + 0 ≤ _), (by decide : 4 + 0 ≤ _)⟩)
    dsimp only [Pt.U, Pt.locs, Pt.cells, Pt.slots] at X31 lq31 yq31 zq31 st31 hQ31
    subst lq31 yq31 zq31
    obtain ⟨rfl, Nq31, eh31⟩ := hQ31
    have N31 := Fr.app N30 Nq31
    refine own_st (G' := T31.setTop (mkF m 61 #[.val (.int v0), .val (.long q1), .second, .val (.long q2), .second, .val (.int (2 : Int32)), .val (.ref bb_24), .val (.ref bb_26), .val (.long ((0 : Int64) + ((own_at q1 (0 : Int32)) * (own_at q2 (0 : Int32))))), .second, .unset, .unset] [(.long (own_at q1 (1 : Int32))), (.long ((0 : Int64) + ((own_at q1 (0 : Int32)) * (own_at q2 (0 : Int32)))))])) st31 ?_
    refine own_lloadN X31 hx 62 (hb hby at_61) rfl ?_
    refine own_iconst X31 hx 63 (1 : Int32) (hb hby at_62) rfl ?_
    obtain ⟨_, _, ⟨T32, Lx32, kc32, nc32⟩, -, X32, ⟨Lc32, hQ32, lq32, yq32, zq32⟩, st32⟩ := Jvm.LawKit.callS X31 hx (y := (⟨"com/example/kalends/kalends/MatricesDotPinLaw", "at", "(JI)J"⟩ : MethodName)) hown (mvT hZ (hw _ (List.mem_of_getElem? (i := 9) rfl))) (mvT hZ (hw _ (List.mem_of_getElem? (i := 10) rfl))) (mvT hZ (hw _ (List.mem_of_getElem? (i := 2) rfl))) (mvT hZ (hw _ (List.mem_of_getElem? (i := 11) rfl))) (by decide) (backOf (W := 4) (own_rm3 l Z a0 hw [] q2 (1 : Int32) T26.heap n0 Z28 ) hZ (hw _ (List.mem_of_getElem? (i := 11) rfl)) (hw _ (List.mem_of_getElem? (i := 2) rfl)) (by decide) (by decide)) (g := (mkF m 63 #[.val (.int v0), .val (.long q1), .second, .val (.long q2), .second, .val (.int (2 : Int32)), .val (.ref bb_24), .val (.ref bb_26), .val (.long ((0 : Int64) + ((own_at q1 (0 : Int32)) * (own_at q2 (0 : Int32))))), .second, .unset, .unset] [(.int (1 : Int32)), (.long q2), (.long (own_at q1 (1 : Int32))), (.long ((0 : Int64) + ((own_at q1 (0 : Int32)) * (own_at q2 (0 : Int32)))))])) rfl (by rw [hml]; rfl) (argsL := [(.long q2), (.int (1 : Int32))]) (rest := [(.long (own_at q1 (1 : Int32))), (.long ((0 : Int64) + ((own_at q1 (0 : Int32)) * (own_at q2 (0 : Int32)))))]) (lenOf own_pd0 rfl) rfl (by show 2 * 0 + _ ≤ _; exact Nat.le_of_eq rfl) (hb hby at_63) (fun _ _ => ⟨rfl, eh31, (by decide : 2 + 0 ≤ _), (by decide : 4 + 0 ≤ _)⟩)
    dsimp only [Pt.U, Pt.locs, Pt.cells, Pt.slots] at X32 lq32 yq32 zq32 st32 hQ32
    subst lq32 yq32 zq32
    obtain ⟨rfl, Nq32, eh32⟩ := hQ32
    have N32 := Fr.app N31 Nq32
    refine own_st (G' := T32.setTop (mkF m 66 #[.val (.int v0), .val (.long q1), .second, .val (.long q2), .second, .val (.int (2 : Int32)), .val (.ref bb_24), .val (.ref bb_26), .val (.long ((0 : Int64) + ((own_at q1 (0 : Int32)) * (own_at q2 (0 : Int32))))), .second, .unset, .unset] [(.long (own_at q2 (1 : Int32))), (.long (own_at q1 (1 : Int32))), (.long ((0 : Int64) + ((own_at q1 (0 : Int32)) * (own_at q2 (0 : Int32)))))])) st32 ?_
    refine own_lmul X32 hx 67 (hb hby at_66) ?_
    refine own_ladd X32 hx 68 (hb hby at_67) ?_
    refine own_lstore X32 hx 70 #[.val (.int v0), .val (.long q1), .second, .val (.long q2), .second, .val (.int (2 : Int32)), .val (.ref bb_24), .val (.ref bb_26), .val (.long (((0 : Int64) + ((own_at q1 (0 : Int32)) * (own_at q2 (0 : Int32)))) + ((own_at q1 (1 : Int32)) * (own_at q2 (1 : Int32))))), .second, .unset, .unset] (hb hby at_68) rfl ?_
    refine own_iload X32 hx 72 (hb hby at_70) rfl ?_
    refine own_iconst X32 hx 73 (2 : Int32) (hb hby at_72) rfl ?_
    refine own_icmpYes X32 hx 92 (hb hby at_73) (flt (by decide : ¬ ((2 : Int32) < (2 : Int32)))).2.2.2 ?_
    refine own_iload X32 hx 94 (hb hby at_92) rfl ?_
    refine own_iconst X32 hx 95 (3 : Int32) (hb hby at_94) rfl ?_
    refine own_icmpYes X32 hx 114 (hb hby at_95) (flt (by decide : ¬ ((3 : Int32) < (2 : Int32)))).2.2.2 ?_
    refine own_aload X32 hx 116 (hb hby at_114) rfl rfl ?_
    refine own_aload X32 hx 118 (hb hby at_116) rfl rfl ?_
    have f33 := (G24_1.keep Kp26 nin0)
    obtain ⟨_, _, ⟨T34, Lx34, kc34, nc34⟩, -, X34, ⟨Lc34, hQ34, lq34, yq34, zq34⟩, st34⟩ := Jvm.LawKit.callS X32 hx (y := (⟨"com/example/kalends/kalends/Matrices", "dot", "([D[D)D"⟩ : MethodName)) hown (mvT hZ (hw _ (List.mem_of_getElem? (i := 5) rfl))) (mvT hZ (hw _ (List.mem_of_getElem? (i := 6) rfl))) (mvT hZ (hw _ (List.mem_of_getElem? (i := 7) rfl))) (mvT hZ (hw _ (List.mem_of_getElem? (i := 8) rfl))) (by decide) (backOf (W := 0) (own_rm2n2 l Z a0 hw [] bb_24 bb_26 kb_24 kb_26 (own_at q1 (0 : Int32)) (own_at q1 (1 : Int32)) (own_at q2 (0 : Int32)) (own_at q2 (1 : Int32)) T26.heap n0 Z28 f33 G26_1 (own_at16 _ _ : -32768 ≤ (own_at q1 (0 : Int32)).toInt ∧ (own_at q1 (0 : Int32)).toInt ≤ 32767) (own_at16 _ _ : -32768 ≤ (own_at q1 (1 : Int32)).toInt ∧ (own_at q1 (1 : Int32)).toInt ≤ 32767) (own_at16 _ _ : -32768 ≤ (own_at q2 (0 : Int32)).toInt ∧ (own_at q2 (0 : Int32)).toInt ≤ 32767) (own_at16 _ _ : -32768 ≤ (own_at q2 (1 : Int32)).toInt ∧ (own_at q2 (1 : Int32)).toInt ≤ 32767)) hZ (hw _ (List.mem_of_getElem? (i := 8) rfl)) (hw _ (List.mem_of_getElem? (i := 7) rfl)) (by decide) (by decide)) (g := (mkF m 118 #[.val (.int v0), .val (.long q1), .second, .val (.long q2), .second, .val (.int (2 : Int32)), .val (.ref bb_24), .val (.ref bb_26), .val (.long (((0 : Int64) + ((own_at q1 (0 : Int32)) * (own_at q2 (0 : Int32)))) + ((own_at q1 (1 : Int32)) * (own_at q2 (1 : Int32))))), .second, .unset, .unset] [(.ref bb_26), (.ref bb_24)])) rfl (by rw [hml]; rfl) (argsL := [(.ref bb_24), (.ref bb_26)]) (rest := []) (lenOf own_pd2 rfl) rfl (by show 2 * 0 + _ ≤ _; exact Nat.le_of_eq rfl) (hb hby at_118) (fun _ _ => ⟨rfl, eh32, (by decide : 2 + 0 ≤ _), (by decide : 4 + 0 ≤ _)⟩)
    dsimp only [Pt.U, Pt.locs, Pt.cells, Pt.slots] at X34 lq34 yq34 zq34 st34 hQ34
    subst lq34 yq34 zq34
    obtain ⟨zz_34, rfl, Nq34, Kp34, P34_0⟩ := hQ34
    have N34 := Fr.app N32 Nq34
    have Z35 := Nat.le_trans Z28 Kp34.1
    refine own_st (G' := T34.setTop (mkF m 121 #[.val (.int v0), .val (.long q1), .second, .val (.long q2), .second, .val (.int (2 : Int32)), .val (.ref bb_24), .val (.ref bb_26), .val (.long (((0 : Int64) + ((own_at q1 (0 : Int32)) * (own_at q2 (0 : Int32)))) + ((own_at q1 (1 : Int32)) * (own_at q2 (1 : Int32))))), .second, .unset, .unset] [(.double zz_34)])) st34 ?_
    refine own_dstore X34 hx 123 #[.val (.int v0), .val (.long q1), .second, .val (.long q2), .second, .val (.int (2 : Int32)), .val (.ref bb_24), .val (.ref bb_26), .val (.long (((0 : Int64) + ((own_at q1 (0 : Int32)) * (own_at q2 (0 : Int32)))) + ((own_at q1 (1 : Int32)) * (own_at q2 (1 : Int32))))), .second, .val (.double zz_34), .second] (hb hby at_121) rfl ?_
    refine own_dload X34 hx 125 (hb hby at_123) rfl ?_
    refine own_lload X34 hx 127 (hb hby at_125) rfl ?_
    refine own_l2d X34 hx 128 (hb hby at_127) ?_
    refine own_dcmp X34 hx 129 (0 : Int32) (hb hby at_128) (own_cmp0 P34_0) ?_
    refine own_ifNo X34 hx 132 (hb hby at_129) (teq (rfl : (0 : Int32) = (0 : Int32))).2 ?_
    refine own_iconst X34 hx 133 (1 : Int32) (hb hby at_132) rfl ?_
    refine own_goto X34 hx 137 (hb hby at_133) ?_
    exact own_retN (t := .boolean) (z := (1 : Int32)) (Q := own_Q0 Z v0 q1 q2 h0 n0) X34 hx hrt (by simp) (hb hby at_137) hlk rfl ⟨rfl, N34⟩ (by decide) (by decide)
  · rw [hk4]
    refine own_istore X0 hx 8 #[.val (.int v0), .val (.long q1), .second, .val (.long q2), .second, .val (.int (3 : Int32)), .unset, .unset, .unset, .unset, .unset, .unset] (hb hby at_6) rfl ?_
    refine own_iload X0 hx 10 (hb hby at_8) rfl ?_
    refine own_lloadN X0 hx 11 (hb hby at_10) rfl ?_
    obtain ⟨_, _, ⟨T36, Lx36, kc36, nc36⟩, -, X36, ⟨Lc36, hQ36, lq36, yq36, zq36⟩, st36⟩ := Jvm.LawKit.callS X0 hx (y := (⟨"com/example/kalends/kalends/MatricesDotPinLaw", "build", "(IJ)[D"⟩ : MethodName)) hown (mvT hZ (hw _ (List.mem_of_getElem? (i := 0) rfl))) (mvT hZ (hw _ (List.mem_of_getElem? (i := 1) rfl))) (mvT hZ (hw _ (List.mem_of_getElem? (i := 2) rfl))) (mvT hZ (hw _ (List.mem_of_getElem? (i := 3) rfl))) (by decide) (backOf (W := 0) (own_rm1n3 l Z a0 hw [] q1 h0 n0 Z0 ) hZ (hw _ (List.mem_of_getElem? (i := 3) rfl)) (hw _ (List.mem_of_getElem? (i := 2) rfl)) (by decide) (by decide)) (g := (mkF m 11 #[.val (.int v0), .val (.long q1), .second, .val (.long q2), .second, .val (.int (3 : Int32)), .unset, .unset, .unset, .unset, .unset, .unset] [(.long q1), (.int (3 : Int32))])) rfl (by rw [hml]; rfl) (argsL := [(.int (3 : Int32)), (.long q1)]) (rest := []) (lenOf own_pd1 rfl) rfl (by show 2 * 0 + _ ≤ _; exact Nat.le_of_eq rfl) (hb hby at_11) (fun _ _ => ⟨rfl, e0, (by decide : 0 + 1 ≤ _), (by decide : 0 + 3 ≤ _)⟩)
    dsimp only [Pt.U, Pt.locs, Pt.cells, Pt.slots] at X36 lq36 yq36 zq36 st36 hQ36
    subst lq36 yq36 zq36
    obtain ⟨bb_36, kb_36, rfl, Nq36, Kp36, G36_0, G36_1⟩ := hQ36
    have N36 := Fr.app N0 Nq36
    have gt_bb_36 : n0 ≤ bb_36 := Nat.le_trans Z0 G36_0
    have Z37 := Nat.le_trans Z0 Kp36.1
    refine own_st (G' := T36.setTop (mkF m 14 #[.val (.int v0), .val (.long q1), .second, .val (.long q2), .second, .val (.int (3 : Int32)), .unset, .unset, .unset, .unset, .unset, .unset] [(.ref bb_36)])) st36 ?_
    refine own_astore X36 hx 16 #[.val (.int v0), .val (.long q1), .second, .val (.long q2), .second, .val (.int (3 : Int32)), .val (.ref bb_36), .unset, .unset, .unset, .unset, .unset] (hb hby at_14) rfl rfl ?_
    refine own_iload X36 hx 18 (hb hby at_16) rfl ?_
    refine own_lloadN X36 hx 19 (hb hby at_18) rfl ?_
    obtain ⟨_, _, ⟨T38, Lx38, kc38, nc38⟩, -, X38, ⟨Lc38, hQ38, lq38, yq38, zq38⟩, st38⟩ := Jvm.LawKit.callS X36 hx (y := (⟨"com/example/kalends/kalends/MatricesDotPinLaw", "build", "(IJ)[D"⟩ : MethodName)) hown (mvT hZ (hw _ (List.mem_of_getElem? (i := 0) rfl))) (mvT hZ (hw _ (List.mem_of_getElem? (i := 1) rfl))) (mvT hZ (hw _ (List.mem_of_getElem? (i := 2) rfl))) (mvT hZ (hw _ (List.mem_of_getElem? (i := 3) rfl))) (by decide) (backOf (W := 0) (own_rm1n3 l Z a0 hw [] q2 T36.heap n0 Z37 ) hZ (hw _ (List.mem_of_getElem? (i := 3) rfl)) (hw _ (List.mem_of_getElem? (i := 2) rfl)) (by decide) (by decide)) (g := (mkF m 19 #[.val (.int v0), .val (.long q1), .second, .val (.long q2), .second, .val (.int (3 : Int32)), .val (.ref bb_36), .unset, .unset, .unset, .unset, .unset] [(.long q2), (.int (3 : Int32))])) rfl (by rw [hml]; rfl) (argsL := [(.int (3 : Int32)), (.long q2)]) (rest := []) (lenOf own_pd1 rfl) rfl (by show 2 * 0 + _ ≤ _; exact Nat.le_of_eq rfl) (hb hby at_19) (fun _ _ => ⟨rfl, rfl, (by decide : 1 + 1 ≤ _), (by decide : 3 + 3 ≤ _)⟩)
    dsimp only [Pt.U, Pt.locs, Pt.cells, Pt.slots] at X38 lq38 yq38 zq38 st38 hQ38
    subst lq38 yq38 zq38
    obtain ⟨bb_38, kb_38, rfl, Nq38, Kp38, G38_0, G38_1⟩ := hQ38
    have N38 := Fr.app N36 Nq38
    have ne39 : bb_36 ≠ bb_38 := Nat.ne_of_lt (Nat.lt_of_lt_of_le G36_1.lt G38_0)
    have gt_bb_38 : n0 ≤ bb_38 := Nat.le_trans Z37 G38_0
    have Z40 := Nat.le_trans Z37 Kp38.1
    refine own_st (G' := T38.setTop (mkF m 22 #[.val (.int v0), .val (.long q1), .second, .val (.long q2), .second, .val (.int (3 : Int32)), .val (.ref bb_36), .unset, .unset, .unset, .unset, .unset] [(.ref bb_38)])) st38 ?_
    refine own_astore X38 hx 24 #[.val (.int v0), .val (.long q1), .second, .val (.long q2), .second, .val (.int (3 : Int32)), .val (.ref bb_36), .val (.ref bb_38), .unset, .unset, .unset, .unset] (hb hby at_22) rfl rfl ?_
    refine own_lconst X38 hx 25 (0 : Int64) (hb hby at_24) rfl ?_
    refine own_lstore X38 hx 27 #[.val (.int v0), .val (.long q1), .second, .val (.long q2), .second, .val (.int (3 : Int32)), .val (.ref bb_36), .val (.ref bb_38), .val (.long (0 : Int64)), .second, .unset, .unset] (hb hby at_25) rfl ?_
    refine own_iload X38 hx 29 (hb hby at_27) rfl ?_
    refine own_ifNo X38 hx 32 (hb hby at_29) (tlt (by decide : (0 : Int32) < (3 : Int32))).2.2.2 ?_
    refine own_lload X38 hx 34 (hb hby at_32) rfl ?_
    refine own_lloadN X38 hx 35 (hb hby at_34) rfl ?_
    refine own_iconst X38 hx 36 (0 : Int32) (hb hby at_35) rfl ?_
    obtain ⟨_, _, ⟨T41, Lx41, kc41, nc41⟩, -, X41, ⟨Lc41, hQ41, lq41, yq41, zq41⟩, st41⟩ := Jvm.LawKit.callS X38 hx (y := (⟨"com/example/kalends/kalends/MatricesDotPinLaw", "at", "(JI)J"⟩ : MethodName)) hown (mvT hZ (hw _ (List.mem_of_getElem? (i := 9) rfl))) (mvT hZ (hw _ (List.mem_of_getElem? (i := 10) rfl))) (mvT hZ (hw _ (List.mem_of_getElem? (i := 2) rfl))) (mvT hZ (hw _ (List.mem_of_getElem? (i := 11) rfl))) (by decide) (backOf (W := 2) (own_rm3 l Z a0 hw [] q1 (0 : Int32) T38.heap n0 Z40 ) hZ (hw _ (List.mem_of_getElem? (i := 11) rfl)) (hw _ (List.mem_of_getElem? (i := 2) rfl)) (by decide) (by decide)) (g := (mkF m 36 #[.val (.int v0), .val (.long q1), .second, .val (.long q2), .second, .val (.int (3 : Int32)), .val (.ref bb_36), .val (.ref bb_38), .val (.long (0 : Int64)), .second, .unset, .unset] [(.int (0 : Int32)), (.long q1), (.long (0 : Int64))])) rfl (by rw [hml]; rfl) (argsL := [(.long q1), (.int (0 : Int32))]) (rest := [(.long (0 : Int64))]) (lenOf own_pd0 rfl) rfl (by show 2 * 0 + _ ≤ _; exact Nat.le_of_eq rfl) (hb hby at_36) (fun _ _ => ⟨rfl, rfl, (by decide : 2 + 0 ≤ _), (by decide : 6 + 0 ≤ _)⟩)
    dsimp only [Pt.U, Pt.locs, Pt.cells, Pt.slots] at X41 lq41 yq41 zq41 st41 hQ41
    subst lq41 yq41 zq41
    obtain ⟨rfl, Nq41, eh41⟩ := hQ41
    have N41 := Fr.app N38 Nq41
    refine own_st (G' := T41.setTop (mkF m 39 #[.val (.int v0), .val (.long q1), .second, .val (.long q2), .second, .val (.int (3 : Int32)), .val (.ref bb_36), .val (.ref bb_38), .val (.long (0 : Int64)), .second, .unset, .unset] [(.long (own_at q1 (0 : Int32))), (.long (0 : Int64))])) st41 ?_
    refine own_lloadN X41 hx 40 (hb hby at_39) rfl ?_
    refine own_iconst X41 hx 41 (0 : Int32) (hb hby at_40) rfl ?_
    obtain ⟨_, _, ⟨T42, Lx42, kc42, nc42⟩, -, X42, ⟨Lc42, hQ42, lq42, yq42, zq42⟩, st42⟩ := Jvm.LawKit.callS X41 hx (y := (⟨"com/example/kalends/kalends/MatricesDotPinLaw", "at", "(JI)J"⟩ : MethodName)) hown (mvT hZ (hw _ (List.mem_of_getElem? (i := 9) rfl))) (mvT hZ (hw _ (List.mem_of_getElem? (i := 10) rfl))) (mvT hZ (hw _ (List.mem_of_getElem? (i := 2) rfl))) (mvT hZ (hw _ (List.mem_of_getElem? (i := 11) rfl))) (by decide) (backOf (W := 4) (own_rm3 l Z a0 hw [] q2 (0 : Int32) T38.heap n0 Z40 ) hZ (hw _ (List.mem_of_getElem? (i := 11) rfl)) (hw _ (List.mem_of_getElem? (i := 2) rfl)) (by decide) (by decide)) (g := (mkF m 41 #[.val (.int v0), .val (.long q1), .second, .val (.long q2), .second, .val (.int (3 : Int32)), .val (.ref bb_36), .val (.ref bb_38), .val (.long (0 : Int64)), .second, .unset, .unset] [(.int (0 : Int32)), (.long q2), (.long (own_at q1 (0 : Int32))), (.long (0 : Int64))])) rfl (by rw [hml]; rfl) (argsL := [(.long q2), (.int (0 : Int32))]) (rest := [(.long (own_at q1 (0 : Int32))), (.long (0 : Int64))]) (lenOf own_pd0 rfl) rfl (by show 2 * 0 + _ ≤ _; exact Nat.le_of_eq rfl) (hb hby at_41) (fun _ _ => ⟨rfl, eh41, (by decide : 2 + 0 ≤ _), (by decide : 6 + 0 ≤ _)⟩)
    dsimp only [Pt.U, Pt.locs, Pt.cells, Pt.slots] at X42 lq42 yq42 zq42 st42 hQ42
    subst lq42 yq42 zq42
    obtain ⟨rfl, Nq42, eh42⟩ := hQ42
    have N42 := Fr.app N41 Nq42
    refine own_st (G' := T42.setTop (mkF m 44 #[.val (.int v0), .val (.long q1), .second, .val (.long q2), .second, .val (.int (3 : Int32)), .val (.ref bb_36), .val (.ref bb_38), .val (.long (0 : Int64)), .second, .unset, .unset] [(.long (own_at q2 (0 : Int32))), (.long (own_at q1 (0 : Int32))), (.long (0 : Int64))])) st42 ?_
    refine own_lmul X42 hx 45 (hb hby at_44) ?_
    refine own_ladd X42 hx 46 (hb hby at_45) ?_
    refine own_lstore X42 hx 48 #[.val (.int v0), .val (.long q1), .second, .val (.long q2), .second, .val (.int (3 : Int32)), .val (.ref bb_36), .val (.ref bb_38), .val (.long ((0 : Int64) + ((own_at q1 (0 : Int32)) * (own_at q2 (0 : Int32))))), .second, .unset, .unset] (hb hby at_46) rfl ?_
    refine own_iload X42 hx 50 (hb hby at_48) rfl ?_
    refine own_iconst X42 hx 51 (1 : Int32) (hb hby at_50) rfl ?_
    refine own_icmpNo X42 hx 54 (hb hby at_51) (tlt (by decide : (1 : Int32) < (3 : Int32))).2.2.2 ?_
    refine own_lload X42 hx 56 (hb hby at_54) rfl ?_
    refine own_lloadN X42 hx 57 (hb hby at_56) rfl ?_
    refine own_iconst X42 hx 58 (1 : Int32) (hb hby at_57) rfl ?_
    obtain ⟨_, _, ⟨T43, Lx43, kc43, nc43⟩, -, X43, ⟨Lc43, hQ43, lq43, yq43, zq43⟩, st43⟩ := Jvm.LawKit.callS X42 hx (y := (⟨"com/example/kalends/kalends/MatricesDotPinLaw", "at", "(JI)J"⟩ : MethodName)) hown (mvT hZ (hw _ (List.mem_of_getElem? (i := 9) rfl))) (mvT hZ (hw _ (List.mem_of_getElem? (i := 10) rfl))) (mvT hZ (hw _ (List.mem_of_getElem? (i := 2) rfl))) (mvT hZ (hw _ (List.mem_of_getElem? (i := 11) rfl))) (by decide) (backOf (W := 2) (own_rm3 l Z a0 hw [] q1 (1 : Int32) T38.heap n0 Z40 ) hZ (hw _ (List.mem_of_getElem? (i := 11) rfl)) (hw _ (List.mem_of_getElem? (i := 2) rfl)) (by decide) (by decide)) (g := (mkF m 58 #[.val (.int v0), .val (.long q1), .second, .val (.long q2), .second, .val (.int (3 : Int32)), .val (.ref bb_36), .val (.ref bb_38), .val (.long ((0 : Int64) + ((own_at q1 (0 : Int32)) * (own_at q2 (0 : Int32))))), .second, .unset, .unset] [(.int (1 : Int32)), (.long q1), (.long ((0 : Int64) + ((own_at q1 (0 : Int32)) * (own_at q2 (0 : Int32)))))])) rfl (by rw [hml]; rfl) (argsL := [(.long q1), (.int (1 : Int32))]) (rest := [(.long ((0 : Int64) + ((own_at q1 (0 : Int32)) * (own_at q2 (0 : Int32)))))]) (lenOf own_pd0 rfl) rfl (by show 2 * 0 + _ ≤ _; exact Nat.le_of_eq rfl) (hb hby at_58) (fun _ _ => ⟨rfl, eh42, (by decide : 2 + 0 ≤ _), (by decide : 6 + 0 ≤ _)⟩)
    dsimp only [Pt.U, Pt.locs, Pt.cells, Pt.slots] at X43 lq43 yq43 zq43 st43 hQ43
    subst lq43 yq43 zq43
    obtain ⟨rfl, Nq43, eh43⟩ := hQ43
    have N43 := Fr.app N42 Nq43
    refine own_st (G' := T43.setTop (mkF m 61 #[.val (.int v0), .val (.long q1), .second, .val (.long q2), .second, .val (.int (3 : Int32)), .val (.ref bb_36), .val (.ref bb_38), .val (.long ((0 : Int64) + ((own_at q1 (0 : Int32)) * (own_at q2 (0 : Int32))))), .second, .unset, .unset] [(.long (own_at q1 (1 : Int32))), (.long ((0 : Int64) + ((own_at q1 (0 : Int32)) * (own_at q2 (0 : Int32)))))])) st43 ?_
    refine own_lloadN X43 hx 62 (hb hby at_61) rfl ?_
    refine own_iconst X43 hx 63 (1 : Int32) (hb hby at_62) rfl ?_
    obtain ⟨_, _, ⟨T44, Lx44, kc44, nc44⟩, -, X44, ⟨Lc44, hQ44, lq44, yq44, zq44⟩, st44⟩ := Jvm.LawKit.callS X43 hx (y := (⟨"com/example/kalends/kalends/MatricesDotPinLaw", "at", "(JI)J"⟩ : MethodName)) hown (mvT hZ (hw _ (List.mem_of_getElem? (i := 9) rfl))) (mvT hZ (hw _ (List.mem_of_getElem? (i := 10) rfl))) (mvT hZ (hw _ (List.mem_of_getElem? (i := 2) rfl))) (mvT hZ (hw _ (List.mem_of_getElem? (i := 11) rfl))) (by decide) (backOf (W := 4) (own_rm3 l Z a0 hw [] q2 (1 : Int32) T38.heap n0 Z40 ) hZ (hw _ (List.mem_of_getElem? (i := 11) rfl)) (hw _ (List.mem_of_getElem? (i := 2) rfl)) (by decide) (by decide)) (g := (mkF m 63 #[.val (.int v0), .val (.long q1), .second, .val (.long q2), .second, .val (.int (3 : Int32)), .val (.ref bb_36), .val (.ref bb_38), .val (.long ((0 : Int64) + ((own_at q1 (0 : Int32)) * (own_at q2 (0 : Int32))))), .second, .unset, .unset] [(.int (1 : Int32)), (.long q2), (.long (own_at q1 (1 : Int32))), (.long ((0 : Int64) + ((own_at q1 (0 : Int32)) * (own_at q2 (0 : Int32)))))])) rfl (by rw [hml]; rfl) (argsL := [(.long q2), (.int (1 : Int32))]) (rest := [(.long (own_at q1 (1 : Int32))), (.long ((0 : Int64) + ((own_at q1 (0 : Int32)) * (own_at q2 (0 : Int32)))))]) (lenOf own_pd0 rfl) rfl (by show 2 * 0 + _ ≤ _; exact Nat.le_of_eq rfl) (hb hby at_63) (fun _ _ => ⟨rfl, eh43, (by decide : 2 + 0 ≤ _), (by decide : 6 + 0 ≤ _)⟩)
    dsimp only [Pt.U, Pt.locs, Pt.cells, Pt.slots] at X44 lq44 yq44 zq44 st44 hQ44
    subst lq44 yq44 zq44
    obtain ⟨rfl, Nq44, eh44⟩ := hQ44
    have N44 := Fr.app N43 Nq44
    refine own_st (G' := T44.setTop (mkF m 66 #[.val (.int v0), .val (.long q1), .second, .val (.long q2), .second, .val (.int (3 : Int32)), .val (.ref bb_36), .val (.ref bb_38), .val (.long ((0 : Int64) + ((own_at q1 (0 : Int32)) * (own_at q2 (0 : Int32))))), .second, .unset, .unset] [(.long (own_at q2 (1 : Int32))), (.long (own_at q1 (1 : Int32))), (.long ((0 : Int64) + ((own_at q1 (0 : Int32)) * (own_at q2 (0 : Int32)))))])) st44 ?_
    refine own_lmul X44 hx 67 (hb hby at_66) ?_
    refine own_ladd X44 hx 68 (hb hby at_67) ?_
    refine own_lstore X44 hx 70 #[.val (.int v0), .val (.long q1), .second, .val (.long q2), .second, .val (.int (3 : Int32)), .val (.ref bb_36), .val (.ref bb_38), .val (.long (((0 : Int64) + ((own_at q1 (0 : Int32)) * (own_at q2 (0 : Int32)))) + ((own_at q1 (1 : Int32)) * (own_at q2 (1 : Int32))))), .second, .unset, .unset] (hb hby at_68) rfl ?_
    refine own_iload X44 hx 72 (hb hby at_70) rfl ?_
    refine own_iconst X44 hx 73 (2 : Int32) (hb hby at_72) rfl ?_
    refine own_icmpNo X44 hx 76 (hb hby at_73) (tlt (by decide : (2 : Int32) < (3 : Int32))).2.2.2 ?_
    refine own_lload X44 hx 78 (hb hby at_76) rfl ?_
    refine own_lloadN X44 hx 79 (hb hby at_78) rfl ?_
    refine own_iconst X44 hx 80 (2 : Int32) (hb hby at_79) rfl ?_
    obtain ⟨_, _, ⟨T45, Lx45, kc45, nc45⟩, -, X45, ⟨Lc45, hQ45, lq45, yq45, zq45⟩, st45⟩ := Jvm.LawKit.callS X44 hx (y := (⟨"com/example/kalends/kalends/MatricesDotPinLaw", "at", "(JI)J"⟩ : MethodName)) hown (mvT hZ (hw _ (List.mem_of_getElem? (i := 9) rfl))) (mvT hZ (hw _ (List.mem_of_getElem? (i := 10) rfl))) (mvT hZ (hw _ (List.mem_of_getElem? (i := 2) rfl))) (mvT hZ (hw _ (List.mem_of_getElem? (i := 11) rfl))) (by decide) (backOf (W := 2) (own_rm3 l Z a0 hw [] q1 (2 : Int32) T38.heap n0 Z40 ) hZ (hw _ (List.mem_of_getElem? (i := 11) rfl)) (hw _ (List.mem_of_getElem? (i := 2) rfl)) (by decide) (by decide)) (g := (mkF m 80 #[.val (.int v0), .val (.long q1), .second, .val (.long q2), .second, .val (.int (3 : Int32)), .val (.ref bb_36), .val (.ref bb_38), .val (.long (((0 : Int64) + ((own_at q1 (0 : Int32)) * (own_at q2 (0 : Int32)))) + ((own_at q1 (1 : Int32)) * (own_at q2 (1 : Int32))))), .second, .unset, .unset] [(.int (2 : Int32)), (.long q1), (.long (((0 : Int64) + ((own_at q1 (0 : Int32)) * (own_at q2 (0 : Int32)))) + ((own_at q1 (1 : Int32)) * (own_at q2 (1 : Int32)))))])) rfl (by rw [hml]; rfl) (argsL := [(.long q1), (.int (2 : Int32))]) (rest := [(.long (((0 : Int64) + ((own_at q1 (0 : Int32)) * (own_at q2 (0 : Int32)))) + ((own_at q1 (1 : Int32)) * (own_at q2 (1 : Int32)))))]) (lenOf own_pd0 rfl) rfl (by show 2 * 0 + _ ≤ _; exact Nat.le_of_eq rfl) (hb hby at_80) (fun _ _ => ⟨rfl, eh44, (by decide : 2 + 0 ≤ _), (by decide : 6 + 0 ≤ _)⟩)
    dsimp only [Pt.U, Pt.locs, Pt.cells, Pt.slots] at X45 lq45 yq45 zq45 st45 hQ45
    subst lq45 yq45 zq45
    obtain ⟨rfl, Nq45, eh45⟩ := hQ45
    have N45 := Fr.app N44 Nq45
    refine own_st (G' := T45.setTop (mkF m 83 #[.val (.int v0), .val (.long q1), .second, .val (.long q2), .second, .val (.int (3 : Int32)), .val (.ref bb_36), .val (.ref bb_38), .val (.long (((0 : Int64) + ((own_at q1 (0 : Int32)) * (own_at q2 (0 : Int32)))) + ((own_at q1 (1 : Int32)) * (own_at q2 (1 : Int32))))), .second, .unset, .unset] [(.long (own_at q1 (2 : Int32))), (.long (((0 : Int64) + ((own_at q1 (0 : Int32)) * (own_at q2 (0 : Int32)))) + ((own_at q1 (1 : Int32)) * (own_at q2 (1 : Int32)))))])) st45 ?_
    refine own_lloadN X45 hx 84 (hb hby at_83) rfl ?_
    refine own_iconst X45 hx 85 (2 : Int32) (hb hby at_84) rfl ?_
    obtain ⟨_, _, ⟨T46, Lx46, kc46, nc46⟩, -, X46, ⟨Lc46, hQ46, lq46, yq46, zq46⟩, st46⟩ := Jvm.LawKit.callS X45 hx (y := (⟨"com/example/kalends/kalends/MatricesDotPinLaw", "at", "(JI)J"⟩ : MethodName)) hown (mvT hZ (hw _ (List.mem_of_getElem? (i := 9) rfl))) (mvT hZ (hw _ (List.mem_of_getElem? (i := 10) rfl))) (mvT hZ (hw _ (List.mem_of_getElem? (i := 2) rfl))) (mvT hZ (hw _ (List.mem_of_getElem? (i := 11) rfl))) (by decide) (backOf (W := 4) (own_rm3 l Z a0 hw [] q2 (2 : Int32) T38.heap n0 Z40 ) hZ (hw _ (List.mem_of_getElem? (i := 11) rfl)) (hw _ (List.mem_of_getElem? (i := 2) rfl)) (by decide) (by decide)) (g := (mkF m 85 #[.val (.int v0), .val (.long q1), .second, .val (.long q2), .second, .val (.int (3 : Int32)), .val (.ref bb_36), .val (.ref bb_38), .val (.long (((0 : Int64) + ((own_at q1 (0 : Int32)) * (own_at q2 (0 : Int32)))) + ((own_at q1 (1 : Int32)) * (own_at q2 (1 : Int32))))), .second, .unset, .unset] [(.int (2 : Int32)), (.long q2), (.long (own_at q1 (2 : Int32))), (.long (((0 : Int64) + ((own_at q1 (0 : Int32)) * (own_at q2 (0 : Int32)))) + ((own_at q1 (1 : Int32)) * (own_at q2 (1 : Int32)))))])) rfl (by rw [hml]; rfl) (argsL := [(.long q2), (.int (2 : Int32))]) (rest := [(.long (own_at q1 (2 : Int32))), (.long (((0 : Int64) + ((own_at q1 (0 : Int32)) * (own_at q2 (0 : Int32)))) + ((own_at q1 (1 : Int32)) * (own_at q2 (1 : Int32)))))]) (lenOf own_pd0 rfl) rfl (by show 2 * 0 + _ ≤ _; exact Nat.le_of_eq rfl) (hb hby at_85) (fun _ _ => ⟨rfl, eh45, (by decide : 2 + 0 ≤ _), (by decide : 6 + 0 ≤ _)⟩)
    dsimp only [Pt.U, Pt.locs, Pt.cells, Pt.slots] at X46 lq46 yq46 zq46 st46 hQ46
    subst lq46 yq46 zq46
    obtain ⟨rfl, Nq46, eh46⟩ := hQ46
    have N46 := Fr.app N45 Nq46
    refine own_st (G' := T46.setTop (mkF m 88 #[.val (.int v0), .val (.long q1), .second, .val (.long q2), .second, .val (.int (3 : Int32)), .val (.ref bb_36), .val (.ref bb_38), .val (.long (((0 : Int64) + ((own_at q1 (0 : Int32)) * (own_at q2 (0 : Int32)))) + ((own_at q1 (1 : Int32)) * (own_at q2 (1 : Int32))))), .second, .unset, .unset] [(.long (own_at q2 (2 : Int32))), (.long (own_at q1 (2 : Int32))), (.long (((0 : Int64) + ((own_at q1 (0 : Int32)) * (own_at q2 (0 : Int32)))) + ((own_at q1 (1 : Int32)) * (own_at q2 (1 : Int32)))))])) st46 ?_
    refine own_lmul X46 hx 89 (hb hby at_88) ?_
    refine own_ladd X46 hx 90 (hb hby at_89) ?_
    refine own_lstore X46 hx 92 #[.val (.int v0), .val (.long q1), .second, .val (.long q2), .second, .val (.int (3 : Int32)), .val (.ref bb_36), .val (.ref bb_38), .val (.long ((((0 : Int64) + ((own_at q1 (0 : Int32)) * (own_at q2 (0 : Int32)))) + ((own_at q1 (1 : Int32)) * (own_at q2 (1 : Int32)))) + ((own_at q1 (2 : Int32)) * (own_at q2 (2 : Int32))))), .second, .unset, .unset] (hb hby at_90) rfl ?_
    refine own_iload X46 hx 94 (hb hby at_92) rfl ?_
    refine own_iconst X46 hx 95 (3 : Int32) (hb hby at_94) rfl ?_
    refine own_icmpYes X46 hx 114 (hb hby at_95) (flt (by decide : ¬ ((3 : Int32) < (3 : Int32)))).2.2.2 ?_
    refine own_aload X46 hx 116 (hb hby at_114) rfl rfl ?_
    refine own_aload X46 hx 118 (hb hby at_116) rfl rfl ?_
    have f47 := (G36_1.keep Kp38 nin0)
    obtain ⟨_, _, ⟨T48, Lx48, kc48, nc48⟩, -, X48, ⟨Lc48, hQ48, lq48, yq48, zq48⟩, st48⟩ := Jvm.LawKit.callS X46 hx (y := (⟨"com/example/kalends/kalends/Matrices", "dot", "([D[D)D"⟩ : MethodName)) hown (mvT hZ (hw _ (List.mem_of_getElem? (i := 5) rfl))) (mvT hZ (hw _ (List.mem_of_getElem? (i := 6) rfl))) (mvT hZ (hw _ (List.mem_of_getElem? (i := 7) rfl))) (mvT hZ (hw _ (List.mem_of_getElem? (i := 8) rfl))) (by decide) (backOf (W := 0) (own_rm2n3 l Z a0 hw [] bb_36 bb_38 kb_36 kb_38 (own_at q1 (0 : Int32)) (own_at q1 (1 : Int32)) (own_at q1 (2 : Int32)) (own_at q2 (0 : Int32)) (own_at q2 (1 : Int32)) (own_at q2 (2 : Int32)) T38.heap n0 Z40 f47 G38_1 (own_at16 _ _ : -32768 ≤ (own_at q1 (0 : Int32)).toInt ∧ (own_at q1 (0 : Int32)).toInt ≤ 32767) (own_at16 _ _ : -32768 ≤ (own_at q1 (1 : Int32)).toInt ∧ (own_at q1 (1 : Int32)).toInt ≤ 32767) (own_at16 _ _ : -32768 ≤ (own_at q1 (2 : Int32)).toInt ∧ (own_at q1 (2 : Int32)).toInt ≤ 32767) (own_at16 _ _ : -32768 ≤ (own_at q2 (0 : Int32)).toInt ∧ (own_at q2 (0 : Int32)).toInt ≤ 32767) (own_at16 _ _ : -32768 ≤ (own_at q2 (1 : Int32)).toInt ∧ (own_at q2 (1 : Int32)).toInt ≤ 32767) (own_at16 _ _ : -32768 ≤ (own_at q2 (2 : Int32)).toInt ∧ (own_at q2 (2 : Int32)).toInt ≤ 32767)) hZ (hw _ (List.mem_of_getElem? (i := 8) rfl)) (hw _ (List.mem_of_getElem? (i := 7) rfl)) (by decide) (by decide)) (g := (mkF m 118 #[.val (.int v0), .val (.long q1), .second, .val (.long q2), .second, .val (.int (3 : Int32)), .val (.ref bb_36), .val (.ref bb_38), .val (.long ((((0 : Int64) + ((own_at q1 (0 : Int32)) * (own_at q2 (0 : Int32)))) + ((own_at q1 (1 : Int32)) * (own_at q2 (1 : Int32)))) + ((own_at q1 (2 : Int32)) * (own_at q2 (2 : Int32))))), .second, .unset, .unset] [(.ref bb_38), (.ref bb_36)])) rfl (by rw [hml]; rfl) (argsL := [(.ref bb_36), (.ref bb_38)]) (rest := []) (lenOf own_pd2 rfl) rfl (by show 2 * 0 + _ ≤ _; exact Nat.le_of_eq rfl) (hb hby at_118) (fun _ _ => ⟨rfl, eh46, (by decide : 2 + 0 ≤ _), (by decide : 6 + 0 ≤ _)⟩)
    dsimp only [Pt.U, Pt.locs, Pt.cells, Pt.slots] at X48 lq48 yq48 zq48 st48 hQ48
    subst lq48 yq48 zq48
    obtain ⟨zz_48, rfl, Nq48, Kp48, P48_0⟩ := hQ48
    have N48 := Fr.app N46 Nq48
    have Z49 := Nat.le_trans Z40 Kp48.1
    refine own_st (G' := T48.setTop (mkF m 121 #[.val (.int v0), .val (.long q1), .second, .val (.long q2), .second, .val (.int (3 : Int32)), .val (.ref bb_36), .val (.ref bb_38), .val (.long ((((0 : Int64) + ((own_at q1 (0 : Int32)) * (own_at q2 (0 : Int32)))) + ((own_at q1 (1 : Int32)) * (own_at q2 (1 : Int32)))) + ((own_at q1 (2 : Int32)) * (own_at q2 (2 : Int32))))), .second, .unset, .unset] [(.double zz_48)])) st48 ?_
    refine own_dstore X48 hx 123 #[.val (.int v0), .val (.long q1), .second, .val (.long q2), .second, .val (.int (3 : Int32)), .val (.ref bb_36), .val (.ref bb_38), .val (.long ((((0 : Int64) + ((own_at q1 (0 : Int32)) * (own_at q2 (0 : Int32)))) + ((own_at q1 (1 : Int32)) * (own_at q2 (1 : Int32)))) + ((own_at q1 (2 : Int32)) * (own_at q2 (2 : Int32))))), .second, .val (.double zz_48), .second] (hb hby at_121) rfl ?_
    refine own_dload X48 hx 125 (hb hby at_123) rfl ?_
    refine own_lload X48 hx 127 (hb hby at_125) rfl ?_
    refine own_l2d X48 hx 128 (hb hby at_127) ?_
    refine own_dcmp X48 hx 129 (0 : Int32) (hb hby at_128) (own_cmp0 P48_0) ?_
    refine own_ifNo X48 hx 132 (hb hby at_129) (teq (rfl : (0 : Int32) = (0 : Int32))).2 ?_
    refine own_iconst X48 hx 133 (1 : Int32) (hb hby at_132) rfl ?_
    refine own_goto X48 hx 137 (hb hby at_133) ?_
    exact own_retN (t := .boolean) (z := (1 : Int32)) (Q := own_Q0 Z v0 q1 q2 h0 n0) X48 hx hrt (by simp) (hb hby at_137) hlk rfl ⟨rfl, N48⟩ (by decide) (by decide)
  · rw [hk5]
    refine own_istore X0 hx 8 #[.val (.int v0), .val (.long q1), .second, .val (.long q2), .second, .val (.int (4 : Int32)), .unset, .unset, .unset, .unset, .unset, .unset] (hb hby at_6) rfl ?_
    refine own_iload X0 hx 10 (hb hby at_8) rfl ?_
    refine own_lloadN X0 hx 11 (hb hby at_10) rfl ?_
    obtain ⟨_, _, ⟨T50, Lx50, kc50, nc50⟩, -, X50, ⟨Lc50, hQ50, lq50, yq50, zq50⟩, st50⟩ := Jvm.LawKit.callS X0 hx (y := (⟨"com/example/kalends/kalends/MatricesDotPinLaw", "build", "(IJ)[D"⟩ : MethodName)) hown (mvT hZ (hw _ (List.mem_of_getElem? (i := 0) rfl))) (mvT hZ (hw _ (List.mem_of_getElem? (i := 1) rfl))) (mvT hZ (hw _ (List.mem_of_getElem? (i := 2) rfl))) (mvT hZ (hw _ (List.mem_of_getElem? (i := 3) rfl))) (by decide) (backOf (W := 0) (own_rm1n4 l Z a0 hw [] q1 h0 n0 Z0 ) hZ (hw _ (List.mem_of_getElem? (i := 3) rfl)) (hw _ (List.mem_of_getElem? (i := 2) rfl)) (by decide) (by decide)) (g := (mkF m 11 #[.val (.int v0), .val (.long q1), .second, .val (.long q2), .second, .val (.int (4 : Int32)), .unset, .unset, .unset, .unset, .unset, .unset] [(.long q1), (.int (4 : Int32))])) rfl (by rw [hml]; rfl) (argsL := [(.int (4 : Int32)), (.long q1)]) (rest := []) (lenOf own_pd1 rfl) rfl (by show 2 * 0 + _ ≤ _; exact Nat.le_of_eq rfl) (hb hby at_11) (fun _ _ => ⟨rfl, e0, (by decide : 0 + 1 ≤ _), (by decide : 0 + 4 ≤ _)⟩)
    dsimp only [Pt.U, Pt.locs, Pt.cells, Pt.slots] at X50 lq50 yq50 zq50 st50 hQ50
    subst lq50 yq50 zq50
    obtain ⟨bb_50, kb_50, rfl, Nq50, Kp50, G50_0, G50_1⟩ := hQ50
    have N50 := Fr.app N0 Nq50
    have gt_bb_50 : n0 ≤ bb_50 := Nat.le_trans Z0 G50_0
    have Z51 := Nat.le_trans Z0 Kp50.1
    refine own_st (G' := T50.setTop (mkF m 14 #[.val (.int v0), .val (.long q1), .second, .val (.long q2), .second, .val (.int (4 : Int32)), .unset, .unset, .unset, .unset, .unset, .unset] [(.ref bb_50)])) st50 ?_
    refine own_astore X50 hx 16 #[.val (.int v0), .val (.long q1), .second, .val (.long q2), .second, .val (.int (4 : Int32)), .val (.ref bb_50), .unset, .unset, .unset, .unset, .unset] (hb hby at_14) rfl rfl ?_
    refine own_iload X50 hx 18 (hb hby at_16) rfl ?_
    refine own_lloadN X50 hx 19 (hb hby at_18) rfl ?_
    obtain ⟨_, _, ⟨T52, Lx52, kc52, nc52⟩, -, X52, ⟨Lc52, hQ52, lq52, yq52, zq52⟩, st52⟩ := Jvm.LawKit.callS X50 hx (y := (⟨"com/example/kalends/kalends/MatricesDotPinLaw", "build", "(IJ)[D"⟩ : MethodName)) hown (mvT hZ (hw _ (List.mem_of_getElem? (i := 0) rfl))) (mvT hZ (hw _ (List.mem_of_getElem? (i := 1) rfl))) (mvT hZ (hw _ (List.mem_of_getElem? (i := 2) rfl))) (mvT hZ (hw _ (List.mem_of_getElem? (i := 3) rfl))) (by decide) (backOf (W := 0) (own_rm1n4 l Z a0 hw [] q2 T50.heap n0 Z51 ) hZ (hw _ (List.mem_of_getElem? (i := 3) rfl)) (hw _ (List.mem_of_getElem? (i := 2) rfl)) (by decide) (by decide)) (g := (mkF m 19 #[.val (.int v0), .val (.long q1), .second, .val (.long q2), .second, .val (.int (4 : Int32)), .val (.ref bb_50), .unset, .unset, .unset, .unset, .unset] [(.long q2), (.int (4 : Int32))])) rfl (by rw [hml]; rfl) (argsL := [(.int (4 : Int32)), (.long q2)]) (rest := []) (lenOf own_pd1 rfl) rfl (by show 2 * 0 + _ ≤ _; exact Nat.le_of_eq rfl) (hb hby at_19) (fun _ _ => ⟨rfl, rfl, (by decide : 1 + 1 ≤ _), (by decide : 4 + 4 ≤ _)⟩)
    dsimp only [Pt.U, Pt.locs, Pt.cells, Pt.slots] at X52 lq52 yq52 zq52 st52 hQ52
    subst lq52 yq52 zq52
    obtain ⟨bb_52, kb_52, rfl, Nq52, Kp52, G52_0, G52_1⟩ := hQ52
    have N52 := Fr.app N50 Nq52
    have ne53 : bb_50 ≠ bb_52 := Nat.ne_of_lt (Nat.lt_of_lt_of_le G50_1.lt G52_0)
    have gt_bb_52 : n0 ≤ bb_52 := Nat.le_trans Z51 G52_0
    have Z54 := Nat.le_trans Z51 Kp52.1
    refine own_st (G' := T52.setTop (mkF m 22 #[.val (.int v0), .val (.long q1), .second, .val (.long q2), .second, .val (.int (4 : Int32)), .val (.ref bb_50), .unset, .unset, .unset, .unset, .unset] [(.ref bb_52)])) st52 ?_
    refine own_astore X52 hx 24 #[.val (.int v0), .val (.long q1), .second, .val (.long q2), .second, .val (.int (4 : Int32)), .val (.ref bb_50), .val (.ref bb_52), .unset, .unset, .unset, .unset] (hb hby at_22) rfl rfl ?_
    refine own_lconst X52 hx 25 (0 : Int64) (hb hby at_24) rfl ?_
    refine own_lstore X52 hx 27 #[.val (.int v0), .val (.long q1), .second, .val (.long q2), .second, .val (.int (4 : Int32)), .val (.ref bb_50), .val (.ref bb_52), .val (.long (0 : Int64)), .second, .unset, .unset] (hb hby at_25) rfl ?_
    refine own_iload X52 hx 29 (hb hby at_27) rfl ?_
    refine own_ifNo X52 hx 32 (hb hby at_29) (tlt (by decide : (0 : Int32) < (4 : Int32))).2.2.2 ?_
    refine own_lload X52 hx 34 (hb hby at_32) rfl ?_
    refine own_lloadN X52 hx 35 (hb hby at_34) rfl ?_
    refine own_iconst X52 hx 36 (0 : Int32) (hb hby at_35) rfl ?_
    obtain ⟨_, _, ⟨T55, Lx55, kc55, nc55⟩, -, X55, ⟨Lc55, hQ55, lq55, yq55, zq55⟩, st55⟩ := Jvm.LawKit.callS X52 hx (y := (⟨"com/example/kalends/kalends/MatricesDotPinLaw", "at", "(JI)J"⟩ : MethodName)) hown (mvT hZ (hw _ (List.mem_of_getElem? (i := 9) rfl))) (mvT hZ (hw _ (List.mem_of_getElem? (i := 10) rfl))) (mvT hZ (hw _ (List.mem_of_getElem? (i := 2) rfl))) (mvT hZ (hw _ (List.mem_of_getElem? (i := 11) rfl))) (by decide) (backOf (W := 2) (own_rm3 l Z a0 hw [] q1 (0 : Int32) T52.heap n0 Z54 ) hZ (hw _ (List.mem_of_getElem? (i := 11) rfl)) (hw _ (List.mem_of_getElem? (i := 2) rfl)) (by decide) (by decide)) (g := (mkF m 36 #[.val (.int v0), .val (.long q1), .second, .val (.long q2), .second, .val (.int (4 : Int32)), .val (.ref bb_50), .val (.ref bb_52), .val (.long (0 : Int64)), .second, .unset, .unset] [(.int (0 : Int32)), (.long q1), (.long (0 : Int64))])) rfl (by rw [hml]; rfl) (argsL := [(.long q1), (.int (0 : Int32))]) (rest := [(.long (0 : Int64))]) (lenOf own_pd0 rfl) rfl (by show 2 * 0 + _ ≤ _; exact Nat.le_of_eq rfl) (hb hby at_36) (fun _ _ => ⟨rfl, rfl, (by decide : 2 + 0 ≤ _), (by decide : 8 + 0 ≤ _)⟩)
    dsimp only [Pt.U, Pt.locs, Pt.cells, Pt.slots] at X55 lq55 yq55 zq55 st55 hQ55
    subst lq55 yq55 zq55
    obtain ⟨rfl, Nq55, eh55⟩ := hQ55
    have N55 := Fr.app N52 Nq55
    refine own_st (G' := T55.setTop (mkF m 39 #[.val (.int v0), .val (.long q1), .second, .val (.long q2), .second, .val (.int (4 : Int32)), .val (.ref bb_50), .val (.ref bb_52), .val (.long (0 : Int64)), .second, .unset, .unset] [(.long (own_at q1 (0 : Int32))), (.long (0 : Int64))])) st55 ?_
    refine own_lloadN X55 hx 40 (hb hby at_39) rfl ?_
    refine own_iconst X55 hx 41 (0 : Int32) (hb hby at_40) rfl ?_
    obtain ⟨_, _, ⟨T56, Lx56, kc56, nc56⟩, -, X56, ⟨Lc56, hQ56, lq56, yq56, zq56⟩, st56⟩ := Jvm.LawKit.callS X55 hx (y := (⟨"com/example/kalends/kalends/MatricesDotPinLaw", "at", "(JI)J"⟩ : MethodName)) hown (mvT hZ (hw _ (List.mem_of_getElem? (i := 9) rfl))) (mvT hZ (hw _ (List.mem_of_getElem? (i := 10) rfl))) (mvT hZ (hw _ (List.mem_of_getElem? (i := 2) rfl))) (mvT hZ (hw _ (List.mem_of_getElem? (i := 11) rfl))) (by decide) (backOf (W := 4) (own_rm3 l Z a0 hw [] q2 (0 : Int32) T52.heap n0 Z54 ) hZ (hw _ (List.mem_of_getElem? (i := 11) rfl)) (hw _ (List.mem_of_getElem? (i := 2) rfl)) (by decide) (by decide)) (g := (mkF m 41 #[.val (.int v0), .val (.long q1), .second, .val (.long q2), .second, .val (.int (4 : Int32)), .val (.ref bb_50), .val (.ref bb_52), .val (.long (0 : Int64)), .second, .unset, .unset] [(.int (0 : Int32)), (.long q2), (.long (own_at q1 (0 : Int32))), (.long (0 : Int64))])) rfl (by rw [hml]; rfl) (argsL := [(.long q2), (.int (0 : Int32))]) (rest := [(.long (own_at q1 (0 : Int32))), (.long (0 : Int64))]) (lenOf own_pd0 rfl) rfl (by show 2 * 0 + _ ≤ _; exact Nat.le_of_eq rfl) (hb hby at_41) (fun _ _ => ⟨rfl, eh55, (by decide : 2 + 0 ≤ _), (by decide : 8 + 0 ≤ _)⟩)
    dsimp only [Pt.U, Pt.locs, Pt.cells, Pt.slots] at X56 lq56 yq56 zq56 st56 hQ56
    subst lq56 yq56 zq56
    obtain ⟨rfl, Nq56, eh56⟩ := hQ56
    have N56 := Fr.app N55 Nq56
    refine own_st (G' := T56.setTop (mkF m 44 #[.val (.int v0), .val (.long q1), .second, .val (.long q2), .second, .val (.int (4 : Int32)), .val (.ref bb_50), .val (.ref bb_52), .val (.long (0 : Int64)), .second, .unset, .unset] [(.long (own_at q2 (0 : Int32))), (.long (own_at q1 (0 : Int32))), (.long (0 : Int64))])) st56 ?_
    refine own_lmul X56 hx 45 (hb hby at_44) ?_
    refine own_ladd X56 hx 46 (hb hby at_45) ?_
    refine own_lstore X56 hx 48 #[.val (.int v0), .val (.long q1), .second, .val (.long q2), .second, .val (.int (4 : Int32)), .val (.ref bb_50), .val (.ref bb_52), .val (.long ((0 : Int64) + ((own_at q1 (0 : Int32)) * (own_at q2 (0 : Int32))))), .second, .unset, .unset] (hb hby at_46) rfl ?_
    refine own_iload X56 hx 50 (hb hby at_48) rfl ?_
    refine own_iconst X56 hx 51 (1 : Int32) (hb hby at_50) rfl ?_
    refine own_icmpNo X56 hx 54 (hb hby at_51) (tlt (by decide : (1 : Int32) < (4 : Int32))).2.2.2 ?_
    refine own_lload X56 hx 56 (hb hby at_54) rfl ?_
    refine own_lloadN X56 hx 57 (hb hby at_56) rfl ?_
    refine own_iconst X56 hx 58 (1 : Int32) (hb hby at_57) rfl ?_
    obtain ⟨_, _, ⟨T57, Lx57, kc57, nc57⟩, -, X57, ⟨Lc57, hQ57, lq57, yq57, zq57⟩, st57⟩ := Jvm.LawKit.callS X56 hx (y := (⟨"com/example/kalends/kalends/MatricesDotPinLaw", "at", "(JI)J"⟩ : MethodName)) hown (mvT hZ (hw _ (List.mem_of_getElem? (i := 9) rfl))) (mvT hZ (hw _ (List.mem_of_getElem? (i := 10) rfl))) (mvT hZ (hw _ (List.mem_of_getElem? (i := 2) rfl))) (mvT hZ (hw _ (List.mem_of_getElem? (i := 11) rfl))) (by decide) (backOf (W := 2) (own_rm3 l Z a0 hw [] q1 (1 : Int32) T52.heap n0 Z54 ) hZ (hw _ (List.mem_of_getElem? (i := 11) rfl)) (hw _ (List.mem_of_getElem? (i := 2) rfl)) (by decide) (by decide)) (g := (mkF m 58 #[.val (.int v0), .val (.long q1), .second, .val (.long q2), .second, .val (.int (4 : Int32)), .val (.ref bb_50), .val (.ref bb_52), .val (.long ((0 : Int64) + ((own_at q1 (0 : Int32)) * (own_at q2 (0 : Int32))))), .second, .unset, .unset] [(.int (1 : Int32)), (.long q1), (.long ((0 : Int64) + ((own_at q1 (0 : Int32)) * (own_at q2 (0 : Int32)))))])) rfl (by rw [hml]; rfl) (argsL := [(.long q1), (.int (1 : Int32))]) (rest := [(.long ((0 : Int64) + ((own_at q1 (0 : Int32)) * (own_at q2 (0 : Int32)))))]) (lenOf own_pd0 rfl) rfl (by show 2 * 0 + _ ≤ _; exact Nat.le_of_eq rfl) (hb hby at_58) (fun _ _ => ⟨rfl, eh56, (by decide : 2 + 0 ≤ _), (by decide : 8 + 0 ≤ _)⟩)
    dsimp only [Pt.U, Pt.locs, Pt.cells, Pt.slots] at X57 lq57 yq57 zq57 st57 hQ57
    subst lq57 yq57 zq57
    obtain ⟨rfl, Nq57, eh57⟩ := hQ57
    have N57 := Fr.app N56 Nq57
    refine own_st (G' := T57.setTop (mkF m 61 #[.val (.int v0), .val (.long q1), .second, .val (.long q2), .second, .val (.int (4 : Int32)), .val (.ref bb_50), .val (.ref bb_52), .val (.long ((0 : Int64) + ((own_at q1 (0 : Int32)) * (own_at q2 (0 : Int32))))), .second, .unset, .unset] [(.long (own_at q1 (1 : Int32))), (.long ((0 : Int64) + ((own_at q1 (0 : Int32)) * (own_at q2 (0 : Int32)))))])) st57 ?_
    refine own_lloadN X57 hx 62 (hb hby at_61) rfl ?_
    refine own_iconst X57 hx 63 (1 : Int32) (hb hby at_62) rfl ?_
    obtain ⟨_, _, ⟨T58, Lx58, kc58, nc58⟩, -, X58, ⟨Lc58, hQ58, lq58, yq58, zq58⟩, st58⟩ := Jvm.LawKit.callS X57 hx (y := (⟨"com/example/kalends/kalends/MatricesDotPinLaw", "at", "(JI)J"⟩ : MethodName)) hown (mvT hZ (hw _ (List.mem_of_getElem? (i := 9) rfl))) (mvT hZ (hw _ (List.mem_of_getElem? (i := 10) rfl))) (mvT hZ (hw _ (List.mem_of_getElem? (i := 2) rfl))) (mvT hZ (hw _ (List.mem_of_getElem? (i := 11) rfl))) (by decide) (backOf (W := 4) (own_rm3 l Z a0 hw [] q2 (1 : Int32) T52.heap n0 Z54 ) hZ (hw _ (List.mem_of_getElem? (i := 11) rfl)) (hw _ (List.mem_of_getElem? (i := 2) rfl)) (by decide) (by decide)) (g := (mkF m 63 #[.val (.int v0), .val (.long q1), .second, .val (.long q2), .second, .val (.int (4 : Int32)), .val (.ref bb_50), .val (.ref bb_52), .val (.long ((0 : Int64) + ((own_at q1 (0 : Int32)) * (own_at q2 (0 : Int32))))), .second, .unset, .unset] [(.int (1 : Int32)), (.long q2), (.long (own_at q1 (1 : Int32))), (.long ((0 : Int64) + ((own_at q1 (0 : Int32)) * (own_at q2 (0 : Int32)))))])) rfl (by rw [hml]; rfl) (argsL := [(.long q2), (.int (1 : Int32))]) (rest := [(.long (own_at q1 (1 : Int32))), (.long ((0 : Int64) + ((own_at q1 (0 : Int32)) * (own_at q2 (0 : Int32)))))]) (lenOf own_pd0 rfl) rfl (by show 2 * 0 + _ ≤ _; exact Nat.le_of_eq rfl) (hb hby at_63) (fun _ _ => ⟨rfl, eh57, (by decide : 2 + 0 ≤ _), (by decide : 8 + 0 ≤ _)⟩)
    dsimp only [Pt.U, Pt.locs, Pt.cells, Pt.slots] at X58 lq58 yq58 zq58 st58 hQ58
    subst lq58 yq58 zq58
    obtain ⟨rfl, Nq58, eh58⟩ := hQ58
    have N58 := Fr.app N57 Nq58
    refine own_st (G' := T58.setTop (mkF m 66 #[.val (.int v0), .val (.long q1), .second, .val (.long q2), .second, .val (.int (4 : Int32)), .val (.ref bb_50), .val (.ref bb_52), .val (.long ((0 : Int64) + ((own_at q1 (0 : Int32)) * (own_at q2 (0 : Int32))))), .second, .unset, .unset] [(.long (own_at q2 (1 : Int32))), (.long (own_at q1 (1 : Int32))), (.long ((0 : Int64) + ((own_at q1 (0 : Int32)) * (own_at q2 (0 : Int32)))))])) st58 ?_
    refine own_lmul X58 hx 67 (hb hby at_66) ?_
    refine own_ladd X58 hx 68 (hb hby at_67) ?_
    refine own_lstore X58 hx 70 #[.val (.int v0), .val (.long q1), .second, .val (.long q2), .second, .val (.int (4 : Int32)), .val (.ref bb_50), .val (.ref bb_52), .val (.long (((0 : Int64) + ((own_at q1 (0 : Int32)) * (own_at q2 (0 : Int32)))) + ((own_at q1 (1 : Int32)) * (own_at q2 (1 : Int32))))), .second, .unset, .unset] (hb hby at_68) rfl ?_
    refine own_iload X58 hx 72 (hb hby at_70) rfl ?_
    refine own_iconst X58 hx 73 (2 : Int32) (hb hby at_72) rfl ?_
    refine own_icmpNo X58 hx 76 (hb hby at_73) (tlt (by decide : (2 : Int32) < (4 : Int32))).2.2.2 ?_
    refine own_lload X58 hx 78 (hb hby at_76) rfl ?_
    refine own_lloadN X58 hx 79 (hb hby at_78) rfl ?_
    refine own_iconst X58 hx 80 (2 : Int32) (hb hby at_79) rfl ?_
    obtain ⟨_, _, ⟨T59, Lx59, kc59, nc59⟩, -, X59, ⟨Lc59, hQ59, lq59, yq59, zq59⟩, st59⟩ := Jvm.LawKit.callS X58 hx (y := (⟨"com/example/kalends/kalends/MatricesDotPinLaw", "at", "(JI)J"⟩ : MethodName)) hown (mvT hZ (hw _ (List.mem_of_getElem? (i := 9) rfl))) (mvT hZ (hw _ (List.mem_of_getElem? (i := 10) rfl))) (mvT hZ (hw _ (List.mem_of_getElem? (i := 2) rfl))) (mvT hZ (hw _ (List.mem_of_getElem? (i := 11) rfl))) (by decide) (backOf (W := 2) (own_rm3 l Z a0 hw [] q1 (2 : Int32) T52.heap n0 Z54 ) hZ (hw _ (List.mem_of_getElem? (i := 11) rfl)) (hw _ (List.mem_of_getElem? (i := 2) rfl)) (by decide) (by decide)) (g := (mkF m 80 #[.val (.int v0), .val (.long q1), .second, .val (.long q2), .second, .val (.int (4 : Int32)), .val (.ref bb_50), .val (.ref bb_52), .val (.long (((0 : Int64) + ((own_at q1 (0 : Int32)) * (own_at q2 (0 : Int32)))) + ((own_at q1 (1 : Int32)) * (own_at q2 (1 : Int32))))), .second, .unset, .unset] [(.int (2 : Int32)), (.long q1), (.long (((0 : Int64) + ((own_at q1 (0 : Int32)) * (own_at q2 (0 : Int32)))) + ((own_at q1 (1 : Int32)) * (own_at q2 (1 : Int32)))))])) rfl (by rw [hml]; rfl) (argsL := [(.long q1), (.int (2 : Int32))]) (rest := [(.long (((0 : Int64) + ((own_at q1 (0 : Int32)) * (own_at q2 (0 : Int32)))) + ((own_at q1 (1 : Int32)) * (own_at q2 (1 : Int32)))))]) (lenOf own_pd0 rfl) rfl (by show 2 * 0 + _ ≤ _; exact Nat.le_of_eq rfl) (hb hby at_80) (fun _ _ => ⟨rfl, eh58, (by decide : 2 + 0 ≤ _), (by decide : 8 + 0 ≤ _)⟩)
    dsimp only [Pt.U, Pt.locs, Pt.cells, Pt.slots] at X59 lq59 yq59 zq59 st59 hQ59
    subst lq59 yq59 zq59
    obtain ⟨rfl, Nq59, eh59⟩ := hQ59
    have N59 := Fr.app N58 Nq59
    refine own_st (G' := T59.setTop (mkF m 83 #[.val (.int v0), .val (.long q1), .second, .val (.long q2), .second, .val (.int (4 : Int32)), .val (.ref bb_50), .val (.ref bb_52), .val (.long (((0 : Int64) + ((own_at q1 (0 : Int32)) * (own_at q2 (0 : Int32)))) + ((own_at q1 (1 : Int32)) * (own_at q2 (1 : Int32))))), .second, .unset, .unset] [(.long (own_at q1 (2 : Int32))), (.long (((0 : Int64) + ((own_at q1 (0 : Int32)) * (own_at q2 (0 : Int32)))) + ((own_at q1 (1 : Int32)) * (own_at q2 (1 : Int32)))))])) st59 ?_
    refine own_lloadN X59 hx 84 (hb hby at_83) rfl ?_
    refine own_iconst X59 hx 85 (2 : Int32) (hb hby at_84) rfl ?_
    obtain ⟨_, _, ⟨T60, Lx60, kc60, nc60⟩, -, X60, ⟨Lc60, hQ60, lq60, yq60, zq60⟩, st60⟩ := Jvm.LawKit.callS X59 hx (y := (⟨"com/example/kalends/kalends/MatricesDotPinLaw", "at", "(JI)J"⟩ : MethodName)) hown (mvT hZ (hw _ (List.mem_of_getElem? (i := 9) rfl))) (mvT hZ (hw _ (List.mem_of_getElem? (i := 10) rfl))) (mvT hZ (hw _ (List.mem_of_getElem? (i := 2) rfl))) (mvT hZ (hw _ (List.mem_of_getElem? (i := 11) rfl))) (by decide) (backOf (W := 4) (own_rm3 l Z a0 hw [] q2 (2 : Int32) T52.heap n0 Z54 ) hZ (hw _ (List.mem_of_getElem? (i := 11) rfl)) (hw _ (List.mem_of_getElem? (i := 2) rfl)) (by decide) (by decide)) (g := (mkF m 85 #[.val (.int v0), .val (.long q1), .second, .val (.long q2), .second, .val (.int (4 : Int32)), .val (.ref bb_50), .val (.ref bb_52), .val (.long (((0 : Int64) + ((own_at q1 (0 : Int32)) * (own_at q2 (0 : Int32)))) + ((own_at q1 (1 : Int32)) * (own_at q2 (1 : Int32))))), .second, .unset, .unset] [(.int (2 : Int32)), (.long q2), (.long (own_at q1 (2 : Int32))), (.long (((0 : Int64) + ((own_at q1 (0 : Int32)) * (own_at q2 (0 : Int32)))) + ((own_at q1 (1 : Int32)) * (own_at q2 (1 : Int32)))))])) rfl (by rw [hml]; rfl) (argsL := [(.long q2), (.int (2 : Int32))]) (rest := [(.long (own_at q1 (2 : Int32))), (.long (((0 : Int64) + ((own_at q1 (0 : Int32)) * (own_at q2 (0 : Int32)))) + ((own_at q1 (1 : Int32)) * (own_at q2 (1 : Int32)))))]) (lenOf own_pd0 rfl) rfl (by show 2 * 0 + _ ≤ _; exact Nat.le_of_eq rfl) (hb hby at_85) (fun _ _ => ⟨rfl, eh59, (by decide : 2 + 0 ≤ _), (by decide : 8 + 0 ≤ _)⟩)
    dsimp only [Pt.U, Pt.locs, Pt.cells, Pt.slots] at X60 lq60 yq60 zq60 st60 hQ60
    subst lq60 yq60 zq60
    obtain ⟨rfl, Nq60, eh60⟩ := hQ60
    have N60 := Fr.app N59 Nq60
    refine own_st (G' := T60.setTop (mkF m 88 #[.val (.int v0), .val (.long q1), .second, .val (.long q2), .second, .val (.int (4 : Int32)), .val (.ref bb_50), .val (.ref bb_52), .val (.long (((0 : Int64) + ((own_at q1 (0 : Int32)) * (own_at q2 (0 : Int32)))) + ((own_at q1 (1 : Int32)) * (own_at q2 (1 : Int32))))), .second, .unset, .unset] [(.long (own_at q2 (2 : Int32))), (.long (own_at q1 (2 : Int32))), (.long (((0 : Int64) + ((own_at q1 (0 : Int32)) * (own_at q2 (0 : Int32)))) + ((own_at q1 (1 : Int32)) * (own_at q2 (1 : Int32)))))])) st60 ?_
    refine own_lmul X60 hx 89 (hb hby at_88) ?_
    refine own_ladd X60 hx 90 (hb hby at_89) ?_
    refine own_lstore X60 hx 92 #[.val (.int v0), .val (.long q1), .second, .val (.long q2), .second, .val (.int (4 : Int32)), .val (.ref bb_50), .val (.ref bb_52), .val (.long ((((0 : Int64) + ((own_at q1 (0 : Int32)) * (own_at q2 (0 : Int32)))) + ((own_at q1 (1 : Int32)) * (own_at q2 (1 : Int32)))) + ((own_at q1 (2 : Int32)) * (own_at q2 (2 : Int32))))), .second, .unset, .unset] (hb hby at_90) rfl ?_
    refine own_iload X60 hx 94 (hb hby at_92) rfl ?_
    refine own_iconst X60 hx 95 (3 : Int32) (hb hby at_94) rfl ?_
    refine own_icmpNo X60 hx 98 (hb hby at_95) (tlt (by decide : (3 : Int32) < (4 : Int32))).2.2.2 ?_
    refine own_lload X60 hx 100 (hb hby at_98) rfl ?_
    refine own_lloadN X60 hx 101 (hb hby at_100) rfl ?_
    refine own_iconst X60 hx 102 (3 : Int32) (hb hby at_101) rfl ?_
    obtain ⟨_, _, ⟨T61, Lx61, kc61, nc61⟩, -, X61, ⟨Lc61, hQ61, lq61, yq61, zq61⟩, st61⟩ := Jvm.LawKit.callS X60 hx (y := (⟨"com/example/kalends/kalends/MatricesDotPinLaw", "at", "(JI)J"⟩ : MethodName)) hown (mvT hZ (hw _ (List.mem_of_getElem? (i := 9) rfl))) (mvT hZ (hw _ (List.mem_of_getElem? (i := 10) rfl))) (mvT hZ (hw _ (List.mem_of_getElem? (i := 2) rfl))) (mvT hZ (hw _ (List.mem_of_getElem? (i := 11) rfl))) (by decide) (backOf (W := 2) (own_rm3 l Z a0 hw [] q1 (3 : Int32) T52.heap n0 Z54 ) hZ (hw _ (List.mem_of_getElem? (i := 11) rfl)) (hw _ (List.mem_of_getElem? (i := 2) rfl)) (by decide) (by decide)) (g := (mkF m 102 #[.val (.int v0), .val (.long q1), .second, .val (.long q2), .second, .val (.int (4 : Int32)), .val (.ref bb_50), .val (.ref bb_52), .val (.long ((((0 : Int64) + ((own_at q1 (0 : Int32)) * (own_at q2 (0 : Int32)))) + ((own_at q1 (1 : Int32)) * (own_at q2 (1 : Int32)))) + ((own_at q1 (2 : Int32)) * (own_at q2 (2 : Int32))))), .second, .unset, .unset] [(.int (3 : Int32)), (.long q1), (.long ((((0 : Int64) + ((own_at q1 (0 : Int32)) * (own_at q2 (0 : Int32)))) + ((own_at q1 (1 : Int32)) * (own_at q2 (1 : Int32)))) + ((own_at q1 (2 : Int32)) * (own_at q2 (2 : Int32)))))])) rfl (by rw [hml]; rfl) (argsL := [(.long q1), (.int (3 : Int32))]) (rest := [(.long ((((0 : Int64) + ((own_at q1 (0 : Int32)) * (own_at q2 (0 : Int32)))) + ((own_at q1 (1 : Int32)) * (own_at q2 (1 : Int32)))) + ((own_at q1 (2 : Int32)) * (own_at q2 (2 : Int32)))))]) (lenOf own_pd0 rfl) rfl (by show 2 * 0 + _ ≤ _; exact Nat.le_of_eq rfl) (hb hby at_102) (fun _ _ => ⟨rfl, eh60, (by decide : 2 + 0 ≤ _), (by decide : 8 + 0 ≤ _)⟩)
    dsimp only [Pt.U, Pt.locs, Pt.cells, Pt.slots] at X61 lq61 yq61 zq61 st61 hQ61
    subst lq61 yq61 zq61
    obtain ⟨rfl, Nq61, eh61⟩ := hQ61
    have N61 := Fr.app N60 Nq61
    refine own_st (G' := T61.setTop (mkF m 105 #[.val (.int v0), .val (.long q1), .second, .val (.long q2), .second, .val (.int (4 : Int32)), .val (.ref bb_50), .val (.ref bb_52), .val (.long ((((0 : Int64) + ((own_at q1 (0 : Int32)) * (own_at q2 (0 : Int32)))) + ((own_at q1 (1 : Int32)) * (own_at q2 (1 : Int32)))) + ((own_at q1 (2 : Int32)) * (own_at q2 (2 : Int32))))), .second, .unset, .unset] [(.long (own_at q1 (3 : Int32))), (.long ((((0 : Int64) + ((own_at q1 (0 : Int32)) * (own_at q2 (0 : Int32)))) + ((own_at q1 (1 : Int32)) * (own_at q2 (1 : Int32)))) + ((own_at q1 (2 : Int32)) * (own_at q2 (2 : Int32)))))])) st61 ?_
    refine own_lloadN X61 hx 106 (hb hby at_105) rfl ?_
    refine own_iconst X61 hx 107 (3 : Int32) (hb hby at_106) rfl ?_
    obtain ⟨_, _, ⟨T62, Lx62, kc62, nc62⟩, -, X62, ⟨Lc62, hQ62, lq62, yq62, zq62⟩, st62⟩ := Jvm.LawKit.callS X61 hx (y := (⟨"com/example/kalends/kalends/MatricesDotPinLaw", "at", "(JI)J"⟩ : MethodName)) hown (mvT hZ (hw _ (List.mem_of_getElem? (i := 9) rfl))) (mvT hZ (hw _ (List.mem_of_getElem? (i := 10) rfl))) (mvT hZ (hw _ (List.mem_of_getElem? (i := 2) rfl))) (mvT hZ (hw _ (List.mem_of_getElem? (i := 11) rfl))) (by decide) (backOf (W := 4) (own_rm3 l Z a0 hw [] q2 (3 : Int32) T52.heap n0 Z54 ) hZ (hw _ (List.mem_of_getElem? (i := 11) rfl)) (hw _ (List.mem_of_getElem? (i := 2) rfl)) (by decide) (by decide)) (g := (mkF m 107 #[.val (.int v0), .val (.long q1), .second, .val (.long q2), .second, .val (.int (4 : Int32)), .val (.ref bb_50), .val (.ref bb_52), .val (.long ((((0 : Int64) + ((own_at q1 (0 : Int32)) * (own_at q2 (0 : Int32)))) + ((own_at q1 (1 : Int32)) * (own_at q2 (1 : Int32)))) + ((own_at q1 (2 : Int32)) * (own_at q2 (2 : Int32))))), .second, .unset, .unset] [(.int (3 : Int32)), (.long q2), (.long (own_at q1 (3 : Int32))), (.long ((((0 : Int64) + ((own_at q1 (0 : Int32)) * (own_at q2 (0 : Int32)))) + ((own_at q1 (1 : Int32)) * (own_at q2 (1 : Int32)))) + ((own_at q1 (2 : Int32)) * (own_at q2 (2 : Int32)))))])) rfl (by rw [hml]; rfl) (argsL := [(.long q2), (.int (3 : Int32))]) (rest := [(.long (own_at q1 (3 : Int32))), (.long ((((0 : Int64) + ((own_at q1 (0 : Int32)) * (own_at q2 (0 : Int32)))) + ((own_at q1 (1 : Int32)) * (own_at q2 (1 : Int32)))) + ((own_at q1 (2 : Int32)) * (own_at q2 (2 : Int32)))))]) (lenOf own_pd0 rfl) rfl (by show 2 * 0 + _ ≤ _; exact Nat.le_of_eq rfl) (hb hby at_107) (fun _ _ => ⟨rfl, eh61, (by decide : 2 + 0 ≤ _), (by decide : 8 + 0 ≤ _)⟩)
    dsimp only [Pt.U, Pt.locs, Pt.cells, Pt.slots] at X62 lq62 yq62 zq62 st62 hQ62
    subst lq62 yq62 zq62
    obtain ⟨rfl, Nq62, eh62⟩ := hQ62
    have N62 := Fr.app N61 Nq62
    refine own_st (G' := T62.setTop (mkF m 110 #[.val (.int v0), .val (.long q1), .second, .val (.long q2), .second, .val (.int (4 : Int32)), .val (.ref bb_50), .val (.ref bb_52), .val (.long ((((0 : Int64) + ((own_at q1 (0 : Int32)) * (own_at q2 (0 : Int32)))) + ((own_at q1 (1 : Int32)) * (own_at q2 (1 : Int32)))) + ((own_at q1 (2 : Int32)) * (own_at q2 (2 : Int32))))), .second, .unset, .unset] [(.long (own_at q2 (3 : Int32))), (.long (own_at q1 (3 : Int32))), (.long ((((0 : Int64) + ((own_at q1 (0 : Int32)) * (own_at q2 (0 : Int32)))) + ((own_at q1 (1 : Int32)) * (own_at q2 (1 : Int32)))) + ((own_at q1 (2 : Int32)) * (own_at q2 (2 : Int32)))))])) st62 ?_
    refine own_lmul X62 hx 111 (hb hby at_110) ?_
    refine own_ladd X62 hx 112 (hb hby at_111) ?_
    refine own_lstore X62 hx 114 #[.val (.int v0), .val (.long q1), .second, .val (.long q2), .second, .val (.int (4 : Int32)), .val (.ref bb_50), .val (.ref bb_52), .val (.long (((((0 : Int64) + ((own_at q1 (0 : Int32)) * (own_at q2 (0 : Int32)))) + ((own_at q1 (1 : Int32)) * (own_at q2 (1 : Int32)))) + ((own_at q1 (2 : Int32)) * (own_at q2 (2 : Int32)))) + ((own_at q1 (3 : Int32)) * (own_at q2 (3 : Int32))))), .second, .unset, .unset] (hb hby at_112) rfl ?_
    refine own_aload X62 hx 116 (hb hby at_114) rfl rfl ?_
    refine own_aload X62 hx 118 (hb hby at_116) rfl rfl ?_
    have f63 := (G50_1.keep Kp52 nin0)
    obtain ⟨_, _, ⟨T64, Lx64, kc64, nc64⟩, -, X64, ⟨Lc64, hQ64, lq64, yq64, zq64⟩, st64⟩ := Jvm.LawKit.callS X62 hx (y := (⟨"com/example/kalends/kalends/Matrices", "dot", "([D[D)D"⟩ : MethodName)) hown (mvT hZ (hw _ (List.mem_of_getElem? (i := 5) rfl))) (mvT hZ (hw _ (List.mem_of_getElem? (i := 6) rfl))) (mvT hZ (hw _ (List.mem_of_getElem? (i := 7) rfl))) (mvT hZ (hw _ (List.mem_of_getElem? (i := 8) rfl))) (by decide) (backOf (W := 0) (own_rm2n4 l Z a0 hw [] bb_50 bb_52 kb_50 kb_52 (own_at q1 (0 : Int32)) (own_at q1 (1 : Int32)) (own_at q1 (2 : Int32)) (own_at q1 (3 : Int32)) (own_at q2 (0 : Int32)) (own_at q2 (1 : Int32)) (own_at q2 (2 : Int32)) (own_at q2 (3 : Int32)) T52.heap n0 Z54 f63 G52_1 (own_at16 _ _ : -32768 ≤ (own_at q1 (0 : Int32)).toInt ∧ (own_at q1 (0 : Int32)).toInt ≤ 32767) (own_at16 _ _ : -32768 ≤ (own_at q1 (1 : Int32)).toInt ∧ (own_at q1 (1 : Int32)).toInt ≤ 32767) (own_at16 _ _ : -32768 ≤ (own_at q1 (2 : Int32)).toInt ∧ (own_at q1 (2 : Int32)).toInt ≤ 32767) (own_at16 _ _ : -32768 ≤ (own_at q1 (3 : Int32)).toInt ∧ (own_at q1 (3 : Int32)).toInt ≤ 32767) (own_at16 _ _ : -32768 ≤ (own_at q2 (0 : Int32)).toInt ∧ (own_at q2 (0 : Int32)).toInt ≤ 32767) (own_at16 _ _ : -32768 ≤ (own_at q2 (1 : Int32)).toInt ∧ (own_at q2 (1 : Int32)).toInt ≤ 32767) (own_at16 _ _ : -32768 ≤ (own_at q2 (2 : Int32)).toInt ∧ (own_at q2 (2 : Int32)).toInt ≤ 32767) (own_at16 _ _ : -32768 ≤ (own_at q2 (3 : Int32)).toInt ∧ (own_at q2 (3 : Int32)).toInt ≤ 32767)) hZ (hw _ (List.mem_of_getElem? (i := 8) rfl)) (hw _ (List.mem_of_getElem? (i := 7) rfl)) (by decide) (by decide)) (g := (mkF m 118 #[.val (.int v0), .val (.long q1), .second, .val (.long q2), .second, .val (.int (4 : Int32)), .val (.ref bb_50), .val (.ref bb_52), .val (.long (((((0 : Int64) + ((own_at q1 (0 : Int32)) * (own_at q2 (0 : Int32)))) + ((own_at q1 (1 : Int32)) * (own_at q2 (1 : Int32)))) + ((own_at q1 (2 : Int32)) * (own_at q2 (2 : Int32)))) + ((own_at q1 (3 : Int32)) * (own_at q2 (3 : Int32))))), .second, .unset, .unset] [(.ref bb_52), (.ref bb_50)])) rfl (by rw [hml]; rfl) (argsL := [(.ref bb_50), (.ref bb_52)]) (rest := []) (lenOf own_pd2 rfl) rfl (by show 2 * 0 + _ ≤ _; exact Nat.le_of_eq rfl) (hb hby at_118) (fun _ _ => ⟨rfl, eh62, (by decide : 2 + 0 ≤ _), (by decide : 8 + 0 ≤ _)⟩)
    dsimp only [Pt.U, Pt.locs, Pt.cells, Pt.slots] at X64 lq64 yq64 zq64 st64 hQ64
    subst lq64 yq64 zq64
    obtain ⟨zz_64, rfl, Nq64, Kp64, P64_0⟩ := hQ64
    have N64 := Fr.app N62 Nq64
    have Z65 := Nat.le_trans Z54 Kp64.1
    refine own_st (G' := T64.setTop (mkF m 121 #[.val (.int v0), .val (.long q1), .second, .val (.long q2), .second, .val (.int (4 : Int32)), .val (.ref bb_50), .val (.ref bb_52), .val (.long (((((0 : Int64) + ((own_at q1 (0 : Int32)) * (own_at q2 (0 : Int32)))) + ((own_at q1 (1 : Int32)) * (own_at q2 (1 : Int32)))) + ((own_at q1 (2 : Int32)) * (own_at q2 (2 : Int32)))) + ((own_at q1 (3 : Int32)) * (own_at q2 (3 : Int32))))), .second, .unset, .unset] [(.double zz_64)])) st64 ?_
    refine own_dstore X64 hx 123 #[.val (.int v0), .val (.long q1), .second, .val (.long q2), .second, .val (.int (4 : Int32)), .val (.ref bb_50), .val (.ref bb_52), .val (.long (((((0 : Int64) + ((own_at q1 (0 : Int32)) * (own_at q2 (0 : Int32)))) + ((own_at q1 (1 : Int32)) * (own_at q2 (1 : Int32)))) + ((own_at q1 (2 : Int32)) * (own_at q2 (2 : Int32)))) + ((own_at q1 (3 : Int32)) * (own_at q2 (3 : Int32))))), .second, .val (.double zz_64), .second] (hb hby at_121) rfl ?_
    refine own_dload X64 hx 125 (hb hby at_123) rfl ?_
    refine own_lload X64 hx 127 (hb hby at_125) rfl ?_
    refine own_l2d X64 hx 128 (hb hby at_127) ?_
    refine own_dcmp X64 hx 129 (0 : Int32) (hb hby at_128) (own_cmp0 P64_0) ?_
    refine own_ifNo X64 hx 132 (hb hby at_129) (teq (rfl : (0 : Int32) = (0 : Int32))).2 ?_
    refine own_iconst X64 hx 133 (1 : Int32) (hb hby at_132) rfl ?_
    refine own_goto X64 hx 137 (hb hby at_133) ?_
    exact own_retN (t := .boolean) (z := (1 : Int32)) (Q := own_Q0 Z v0 q1 q2 h0 n0) X64 hx hrt (by simp) (hb hby at_137) hlk rfl ⟨rfl, N64⟩ (by decide) (by decide)
set_option maxRecDepth 65536 in
set_option maxHeartbeats 40000000 in
theorem own_comes {Post : Tables → Env → Array Value → State → Outcome → State → Prop} (hpost : ∀ tb e args s v u, (limb_1_1.after args s (.returned v) u = true ∧ limb_1_2.after args s (.returned v) u = true ∧ True) → FrameEnd s (.returned v) u (Jvm.fieldLocs frame_1_writes args s ++ Jvm.arrayLocs frame_1_arrays args s ++ Jvm.staticLocs frame_1_statics s) 16 128 → Post tb e args s (.returned v) u) :
    ArmFor flags0 classFile x code maxLocals ret World_1 tables_1 room_1 Calls_1 rest_1 Pre_1 Post := by
  intro l hfl _ _ p e ha hc hk s m args below hf hA hF happ hP
  obtain ⟨hcalls, hrest, hpre⟩ := hP
  obtain ⟨-, -, -, hnamed, -, -, -, hat⟩ := (Spec.applies_iff hf).mp happ
  obtain ⟨hg, hn⟩ := and_e (Cond.before_iff.mp (show (Jvm.Cond.and given_1 narrow_1).before args s = true from hpre))
  obtain ⟨g1, g2⟩ := and_e hg
  obtain ⟨g3, g4⟩ := and_e g2
  obtain ⟨g5, g6⟩ := and_e g4
  obtain ⟨w0, w1, w2, rfl⟩ : ∃ w0 w1 w2 : Value, args = #[w0, w1, w2] := by
    have hs : args.size = 3 := by simpa [Cond.value, given_1] using g1
    obtain ⟨L⟩ := args
    match L, hs with
    | [w0, w1, w2], _ => exact ⟨w0, w1, w2, rfl⟩
  have hw := fun d (hd : d ∈ tables_1) => atoms_spec (ws := Jvm.Cond.code x code maxLocals ret :: tables_1) hat d (List.mem_cons_of_mem _ hd)
  have hfit : Fit s := fun {y c} hc i hi => by
    obtain ⟨ha, rfl⟩ := Array.getElem?_eq_some_iff.mp hc
    have q := List.all_eq_true.mp ((Array.all_eq_true_iff_forall_mem.mp hF) _ (Array.getElem_mem ha)) i (List.mem_range.mpr hi)
    simpa [Array.getElem?_eq_getElem hi] using q
  obtain ⟨i0, ei0⟩ := is_v g3
  obtain rfl : w0 = (.int i0) := Option.some.inj ei0
  obtain ⟨i1, ei1⟩ := isL_v g5
  obtain rfl : w1 = (.long i1) := Option.some.inj ei1
  obtain ⟨i2, ei2⟩ := isL_v g6
  obtain rfl : w2 = (.long i2) := Option.some.inj ei2
  obtain ⟨n, o, h1, h2, h3, _, L, rfl, ⟨rfl, N⟩, hq⟩ := own_rm0 l s _ hw tables_1 i0 i1 i2 s.heap s.heap.size (Nat.le_refl _)  p e ha hc hk s m _ below hf ((Spec.applies_iff_loose hf).mp happ).1 ⟨rfl, State.Warmed39.refl s, rfl⟩ trivial
  refine ⟨n, _, h1, h2, h3, hpost _ _ _ _ _ _ ⟨Cond.after_iff.mpr rfl, Cond.after_iff.mpr (eq_i res_at (Term.int_eval (1)) rfl), trivial⟩ ⟨hq.1, hq.2.1, (hq.2.2.sift fun y hy => Or.inr (N y hy)).mono (by decide) (by decide)⟩⟩
theorem main_1_1 : Claimed_1_1 := own_comes fun _ _ _ _ _ _ h hF => ⟨h.1, hF⟩
theorem main_1_2 : Claimed_1_2 := own_comes fun _ _ _ _ _ _ h hF => ⟨h.2.1, hF⟩
end Jvm.Pilot.@@N@@
namespace Jvm.Pilot.@@N@@
open Jvm Jvm.ClassFile Sem Op Lib Jvm.Free Jvm.Stand Jvm.Pilot.@@N@@.Jvm.D
/-! MADE BY PROGRAM (witnessworld.py) out of the Statement's table words and the real class files: 9 classes; the members and pool entries that the words name. The judged class is class 1, her method 3. -/
namespace start1
open Jvm.ClassFile
def u (s : String) : CpInfo := .utf8 (stringToUtf16 s)
/-- a pool by its gaps: so many unusable entries, then the entry; so many at the end -/
def gap : Nat → List CpInfo → List CpInfo
  | 0, r => r
  | n + 1, r => .unusable :: gap n r
def poolList (es : List (Nat × CpInfo)) (last : Nat) : List CpInfo := es.foldr (fun e r => gap e.1 (e.2 :: r)) (gap last [])
def pool (es : List (Nat × CpInfo)) (last : Nat) : Array CpInfo := ⟨poolList es last⟩
def fileOf (pool : Array CpInfo) (this : Nat) (attrs : Array Attribute := #[]) (ms : Array MethodInfo := #[]) (fl : Nat := 33) (sup : Nat := 0) (ifs : Array Nat := #[]) (fds : Array FieldInfo := #[]) : ClassFile where
  minorVersion := 0
  majorVersion := 65
  constantPool := pool
  accessFlags := fl
  thisClass := this
  superClass := sup
  interfaces := ifs
  fields := fds
  methods := ms
  attributes := attrs
def plain (name : String) (sup : Option ClassId) : Class where
  name := name
  kind := .ordinary
  loader := none
  accessFlags := 33
  super := sup
  interfaces := #[]
  cf := none
  fields := #[]
  methods := #[]
  instanceTypes := #[]
  staticTypes := #[]
  resolved := #[]
  callSites := []
  init := .initialized
  statics := none
  mirror := none

def pool0 : Array CpInfo := pool [(5, u "<init>"), (0, u "()V"), (1, .class_ 10), (1, u "java/lang/Object")] 113

def k0m0 : Method := { name := "<init>", desc := "()V", sig := { parameters := [], returnType := none }, accessFlags := 1, code := none }
/-- java/lang/Object -/
def k0 : Class := { plain "java/lang/Object" none with
  accessFlags := 33
  interfaces := #[]
  cf := some (fileOf pool0 8 #[] #[{ accessFlags := 1, nameIndex := 5, descriptorIndex := 6, attributes := #[] }] 33 0 #[] #[])
  fields := #[]
  methods := #[k0m0]
  instanceTypes := #[]
  staticTypes := #[]
  resolved := Array.replicate 124 none
  statics := none }

def pool1 : Array CpInfo := pool [(2, .class_ 4), (1, u "java/lang/Object"), (0, u "<init>"), (0, u "()V"), (0, .methodref 8 9), (0, .class_ 10), (0, .nameAndType 11 12), (0, u "com/example/kalends/kalends/MatricesDotPinLaw"), (0, u "at"), (0, u "(JI)J"), (0, .methodref 8 14), (0, .nameAndType 15 16), (0, u "build"), (0, u "(IJ)[D"), (0, .methodref 18 19), (0, .class_ 20), (0, .nameAndType 21 22), (0, u "com/example/kalends/kalends/Matrices"), (0, u "dot"), (0, u "([D[D)D"), (5, u "law"), (0, u "(IJJ)Z")] 2

def k1m0 : Method := { name := "<init>", desc := "()V", sig := { parameters := [], returnType := none }, accessFlags := 1, code := none }
def k1c1 : Code := { maxStack := 3, maxLocals := 3, code := method_2_code, exceptionTable := #[], attributes := #[] }
def k1m1 : Method := { name := "at", desc := "(JI)J", sig := { parameters := [.long, .int], returnType := some .long }, accessFlags := 10, code := some k1c1 }
def k1c2 : Code := { maxStack := 5, maxLocals := 4, code := method_3_code, exceptionTable := #[], attributes := #[] }
def k1m2 : Method := { name := "build", desc := "(IJ)[D", sig := { parameters := [.int, .long], returnType := some (.array .double) }, accessFlags := 10, code := some k1c2 }
def k1c3 : Code := { maxStack := 7, maxLocals := 12, code := code, exceptionTable := #[], attributes := #[] }
def k1m3 : Method := { name := "law", desc := "(IJJ)Z", sig := { parameters := [.int, .long, .long], returnType := some .boolean }, accessFlags := 9, code := some k1c3 }
/-- com/example/kalends/kalends/MatricesDotPinLaw -/
def k1 : Class := { plain "com/example/kalends/kalends/MatricesDotPinLaw" (some 0) with
  accessFlags := 49
  interfaces := #[]
  cf := some (fileOf pool1 8 #[] #[{ accessFlags := 1, nameIndex := 5, descriptorIndex := 6, attributes := #[] }, { accessFlags := 10, nameIndex := 11, descriptorIndex := 12, attributes := #[] }, { accessFlags := 10, nameIndex := 15, descriptorIndex := 16, attributes := #[] }, { accessFlags := 9, nameIndex := 28, descriptorIndex := 29, attributes := #[] }] 49 2 #[] #[])
  fields := #[]
  methods := #[k1m0, k1m1, k1m2, k1m3]
  instanceTypes := #[]
  staticTypes := #[]
  resolved := Array.replicate 32 none
  statics := none }

def pool2 : Array CpInfo := pool [(2, .class_ 4), (1, u "java/lang/Object"), (0, u "<init>"), (0, u "()V"), (13, .class_ 22), (1, u "com/example/kalends/kalends/Matrices"), (20, u "dot"), (0, u "([D[D)D")] 45

def k2m0 : Method := { name := "<init>", desc := "()V", sig := { parameters := [], returnType := none }, accessFlags := 2, code := none }
def k2c1 : Code := { maxStack := 6, maxLocals := 5, code := prog_30_method_14_code, exceptionTable := #[], attributes := #[] }
def k2m1 : Method := { name := "dot", desc := "([D[D)D", sig := { parameters := [(.array .double), (.array .double)], returnType := some .double }, accessFlags := 8, code := some k2c1 }
/-- com/example/kalends/kalends/Matrices -/
def k2 : Class := { plain "com/example/kalends/kalends/Matrices" (some 0) with
  accessFlags := 32
  interfaces := #[]
  cf := some (fileOf pool2 20 #[] #[{ accessFlags := 2, nameIndex := 5, descriptorIndex := 6, attributes := #[] }, { accessFlags := 8, nameIndex := 43, descriptorIndex := 44, attributes := #[] }] 32 2 #[] #[])
  fields := #[]
  methods := #[k2m0, k2m1]
  instanceTypes := #[]
  staticTypes := #[]
  resolved := Array.replicate 90 none
  statics := none }

def pool3 : Array CpInfo := pool [(1, u "java/lang/Cloneable"), (0, .class_ 1), (0, u "java/lang/Object"), (0, .class_ 3)] 3

/-- java/lang/Cloneable -/
def k3 : Class := { plain "java/lang/Cloneable" (some 0) with
  accessFlags := 1537
  interfaces := #[]
  cf := some (fileOf pool3 2 #[] #[] 1537 4 #[] #[])
  fields := #[]
  methods := #[]
  instanceTypes := #[]
  staticTypes := #[]
  resolved := Array.replicate 8 none
  statics := none }

def pool4 : Array CpInfo := pool [(1, u "java/io/Serializable"), (0, .class_ 1), (0, u "java/lang/Object"), (0, .class_ 3)] 3

/-- java/io/Serializable -/
def k4 : Class := { plain "java/io/Serializable" (some 0) with
  accessFlags := 1537
  interfaces := #[]
  cf := some (fileOf pool4 2 #[] #[] 1537 4 #[] #[])
  fields := #[]
  methods := #[]
  instanceTypes := #[]
  staticTypes := #[]
  resolved := Array.replicate 8 none
  statics := none }

/-- the primitive byte -/
def k5 : Class := { plain "byte" none with kind := .primitive 'B', accessFlags := 0x411 }
/-- [B -/
def k6 : Class := { plain "[B" (some 0) with kind := .array 5 .byte, interfaces := #[3, 4], accessFlags := 1041 }

/-- the primitive int -/
def k7 : Class := { plain "int" none with kind := .primitive 'I', accessFlags := 0x411 }
/-- [I -/
def k8 : Class := { plain "[I" (some 0) with kind := .array 7 .int, interfaces := #[3, 4], accessFlags := 1041 }

/-- the primitive double -/
def k9 : Class := { plain "double" none with kind := .primitive 'D', accessFlags := 0x411 }
/-- [D -/
def k10 : Class := { plain "[D" (some 0) with kind := .array 9 .double, interfaces := #[3, 4], accessFlags := 1041 }

def heap : Heap := #[]
def classes : Array Class := #[k0, k1, k2, k3, k4, k5, k6, k7, k8, k9, k10]
def interned : List (Array UInt16 × Addr) := []
def slotsUsed : Nat := 0
def theMethod : MethodId := ⟨1, 3⟩
def args0 : Array Value := #[.int 3, .long 65537, .long 131073]
def aboutOver (below : List Frame) : State where
  vm := { classes := classes, interned := interned.toArray }
  heap := heap
  slotsUsed := slotsUsed
  threads := #[{ frames := .invoking theMethod args0 :: below }]
def below0 : List Frame := [.native { method := ⟨0, 0⟩, args := #[] }]
def about1 : State := aboutOver below0
def p0 : Program := .bare "" "" ""
def e0 : Env := launch0.env 0 0 0
theorem w_frames : about1.frames = Frame.invoking theMethod args0 :: below0 := rfl
set_option maxRecDepth 65536 in
theorem w_args : argsFit about1.vm theMethod args0 = true := by decide +kernel
set_option maxRecDepth 65536 in
theorem w_heap : heapFits about1 = true := by decide +kernel
set_option maxRecDepth 65536 in
theorem w_runnable : about1.curStatus? = some .runnable := by decide +kernel
set_option maxRecDepth 65536 in
theorem w_alone : about1.alone = true := by decide +kernel
set_option maxRecDepth 65536 in
theorem w_named : about1.methodNamed? x = some theMethod := by decide +kernel
set_option maxRecDepth 65536 in
theorem w_hears : about1.hears theMethod below0 = true := by decide +kernel
set_option maxRecDepth 65536 in
theorem w_ripe : about1.ripe theMethod args0 below0 = true := by decide +kernel
theorem w_running : about1.status = .running := rfl
set_option maxRecDepth 65536 in
theorem w_room : about1.hasRoom e0.platform room_1 = true :=
  launch0.hasRoom_least _ room_1 (by decide +kernel) (by decide +kernel) (by decide +kernel) (by decide +kernel) (by decide +kernel) (by decide +kernel)
theorem allAtoms_all (ts : List Jvm.Cond) (a : Array Jvm.Value) (st : Jvm.State) : (allAtoms ts).before a st = ts.all (fun c => c.before a st) := by
  induction ts with
  | nil => rfl
  | cons c t ih =>
    show (Jvm.Cond.and c (allAtoms t)).before a st = _
    rw [Jvm.Cond.before_and, ih, List.all_cons]
def words1 : List Jvm.Cond := Jvm.Cond.code x code maxLocals ret :: tables_1
/-- a 'code' word, met by the world's own term for the bytes: nothing is compared byte by byte -/
theorem code_word {y : MethodName} {bytes : ByteArray} {mx : Nat} {rt : Option FieldType} {a : Array Value} {s : State} {m : MethodId} {meth : Method} {c : Code} (h1 : s.methodNamed? y = some m) (h2 : s.vm.method? m = some meth) (h3 : meth.code = some c) (h4 : c.code = bytes)
    (h5 : (c.maxLocals == mx && c.exceptionTable.isEmpty && decide (c.maxStack ≤ mostOperands) && decide (meth.sig.returnType = rt) && !meth.locks && decide (parseMethodDescriptor y.desc = some meth.sig)) = true) : (Jvm.Cond.code y bytes mx rt).before a s = true := by
  simp only [Bool.and_eq_true, beq_iff_eq, Bool.not_eq_true', decide_eq_true_eq] at h5
  obtain ⟨⟨⟨⟨⟨g1, g2⟩, g3⟩, g4⟩, g5⟩, g6⟩ := h5
  simp [Cond.before, Cond.holds, Cond.value, h1, h2, h3, h4, g1, g2, g3, g4, g5, g6]
def isCode : Jvm.Cond → Bool
  | .code _ _ _ _ => true
  | _ => false
theorem all_split {L : List Jvm.Cond} {P : Jvm.Cond → Bool} (h1 : L.all (fun c => isCode c || P c) = true) (h2 : ∀ c ∈ L.filter isCode, P c = true) : L.all P = true := by
  refine List.all_eq_true.mpr fun c hc => ?_
  have h := List.all_eq_true.mp h1 c hc
  rcases Bool.eq_false_or_eq_true (isCode c) with hi | hi
  · exact h2 c (List.mem_filter.mpr ⟨hc, hi⟩)
  · simpa [hi] using h
set_option maxRecDepth 65536 in
theorem w_c0 : (Jvm.Cond.code x code maxLocals ret).before args0 about1 = true := code_word (m := ⟨1, 3⟩) (meth := k1m3) (c := k1c3) (by decide +kernel) rfl rfl rfl (by decide +kernel)
set_option maxRecDepth 65536 in
theorem w_c1 : (Jvm.Cond.code ({ cls := "com/example/kalends/kalends/MatricesDotPinLaw", name := "build", desc := "(IJ)[D" } : Jvm.MethodName) method_3_code (4 : Nat) (Option.some (Jvm.ClassFile.FieldType.array Jvm.ClassFile.FieldType.double))).before args0 about1 = true := code_word (m := ⟨1, 2⟩) (meth := k1m2) (c := k1c2) (by decide +kernel) rfl rfl rfl (by decide +kernel)
set_option maxRecDepth 65536 in
theorem w_c2 : (Jvm.Cond.code ({ cls := "com/example/kalends/kalends/Matrices", name := "dot", desc := "([D[D)D" } : Jvm.MethodName) prog_30_method_14_code (5 : Nat) (Option.some Jvm.ClassFile.FieldType.double)).before args0 about1 = true := code_word (m := ⟨2, 1⟩) (meth := k2m1) (c := k2c1) (by decide +kernel) rfl rfl rfl (by decide +kernel)
set_option maxRecDepth 65536 in
theorem w_c3 : (Jvm.Cond.code ({ cls := "com/example/kalends/kalends/MatricesDotPinLaw", name := "at", desc := "(JI)J" } : Jvm.MethodName) method_2_code (3 : Nat) (Option.some Jvm.ClassFile.FieldType.long)).before args0 about1 = true := code_word (m := ⟨1, 1⟩) (meth := k1m1) (c := k1c1) (by decide +kernel) rfl rfl rfl (by decide +kernel)
def codes1 : List Jvm.Cond := [Jvm.Cond.code x code maxLocals ret, Jvm.Cond.code ({ cls := "com/example/kalends/kalends/MatricesDotPinLaw", name := "build", desc := "(IJ)[D" } : Jvm.MethodName) method_3_code (4 : Nat) (Option.some (Jvm.ClassFile.FieldType.array Jvm.ClassFile.FieldType.double)), Jvm.Cond.code ({ cls := "com/example/kalends/kalends/Matrices", name := "dot", desc := "([D[D)D" } : Jvm.MethodName) prog_30_method_14_code (5 : Nat) (Option.some Jvm.ClassFile.FieldType.double), Jvm.Cond.code ({ cls := "com/example/kalends/kalends/MatricesDotPinLaw", name := "at", desc := "(JI)J" } : Jvm.MethodName) method_2_code (3 : Nat) (Option.some Jvm.ClassFile.FieldType.long)]
set_option maxRecDepth 65536 in
theorem codes_eq : words1.filter isCode = codes1 := rfl
theorem w_codes : ∀ c ∈ words1.filter isCode, c.before args0 about1 = true := by
  rw [codes_eq]
  intro c hc
  simp only [codes1, List.mem_cons, List.not_mem_nil, or_false] at hc
  rcases hc with rfl | rfl | rfl | rfl
  · exact w_c0
  · exact w_c1
  · exact w_c2
  · exact w_c3
set_option maxRecDepth 65536 in
theorem w_t1 : words1.all (fun c => isCode c || c.before args0 about1) = true := by decide +kernel
theorem w_tables : (allAtoms (Jvm.Cond.code x code maxLocals ret :: tables_1)).before args0 about1 = true := by
  rw [allAtoms_all]
  show words1.all (fun c => c.before args0 about1) = true
  refine all_split ?_ w_codes
  rw [w_t1]
set_option maxRecDepth 65536 in
theorem w_case : (Jvm.Cond.and given_1 narrow_1).before args0 about1 = true := by decide +kernel
theorem w_applies : (headSpec (Jvm.Cond.code x code maxLocals ret :: tables_1) room_1).applies x e0.platform about1 = true :=
  (Spec.applies_iff w_frames).mpr ⟨w_running, w_runnable, w_alone, w_named, w_hears, w_ripe, w_room, w_tables⟩
theorem atStart : AtStart classFile x code maxLocals ret World_1 tables_1 room_1 Calls_1 rest_1 Pre_1 launch0 p0 e0 about1 theMethod args0 below0 :=
  ⟨lists_1, trivial, launch0.admits_env _ _ _, launch0.least_env, fairChoices_fair.cas, fairChoices_fair.clock, w_frames, w_args, w_heap, w_applies, trivial, trivial, w_case⟩
end start1
theorem witness_1 : WitnessClaimed_1 := ⟨start1.p0, start1.e0, start1.about1, start1.theMethod, start1.args0, start1.below0, start1.atStart⟩
end Jvm.Pilot.@@N@@
