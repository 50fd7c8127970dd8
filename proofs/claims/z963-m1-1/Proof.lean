import JvmDerived
import JvmDerived.Pilot.@@N@@Statement
import JvmDerived.Pilot.@@N@@Code
set_option linter.unusedVariables false
set_option linter.unusedSimpArgs false
namespace Jvm.RoadKit
open Sem ClassFile Op Lib Jvm.Stand Jvm.Free Jvm.LawKit
section New
variable {p : Program} {l : Launch} {e : Env} {R : Room} {s : State} {m : MethodId} {args : Array Value} {below : List Frame} {meth : Method} {c : Code} {T : State} {locs : List Loc} {cells slots : Nat}
theorem retI (X : Stand p l e R s m args below meth c T locs cells slots) (hx : p.tables.exec = Jvm.exec) {pc : Nat} {Ls : Array Slot} {z : Int32} {rest : List Value} (hret : meth.sig.returnType = some .int) (hd : decode c.code pc = .ok (.ireturn, 1)) {fs : List Frame}
    (hl : ∀ (f : JFrame) (acts : List Action), f.method = m → f.locked = none → f.entered = [] → (doReturn e (T.setTop f) acts (some (.int z))).1 = T.setFrames fs) : Steps p.tables e below (T.setTop (mkF m pc Ls (.int z :: rest))) (T.setFrames fs) := by
  have hm' : T.vm.method? m = some meth := X.method'
  have hn : narrow .int (.int z) = .int z := rfl
  show Steps p.tables e below (T.setTop { method := m, pc := pc, locals := Ls, stack := _ :: rest, locked := none }) _
  jvm_step X.here [X.here.top, hx, hd, hm', hret, hn]
  first | (intro acts; rw [hl _ acts rfl rfl rfl]) | rw [hl _ _ rfl rfl rfl]
  exact Steps.refl _
end New
end Jvm.RoadKit
namespace Jvm.Pilot.@@N@@
open Jvm Jvm.ClassFile Sem Op Lib Jvm.Free Jvm.Stand Jvm.LawKit Jvm.RoadKit Bundle Jvm.Pilot.@@N@@.Jvm.D
section Own
variable {p : Program} {l : Launch} {e : Env} {R : Room} {s : State} {m : MethodId} {args : Array Value} {below : List Frame} {meth : Method} {c : Code} {T : State} {locs : List Loc} {cells slots : Nat}
/-- from the state G the run comes to an end with an outcome of which Φ holds -/
def own_Gs (p : Program) (e : Env) (below : List Frame) (Φ : Outcome → State → Prop) (G : State) : Prop :=
  ∃ (t : State) (o : Outcome), Steps p.tables e below G t ∧ t.status = .running ∧ Ended t below o ∧ Φ o t
theorem own_st {Φ : Outcome → State → Prop} {G G' : State} (k : ∀ t, Steps p.tables e below G' t → Steps p.tables e below G t) (h : own_Gs p e below Φ G') : own_Gs p e below Φ G := by
  obtain ⟨a, b, h1, h2⟩ := h
  exact ⟨a, b, k _ h1, h2⟩
theorem own_in {Φ : Outcome → State → Prop} {g g' : JFrame} (q : g = g') (h : own_Gs p e below Φ (T.setTop g')) : ∃ (t : State) (o : Outcome), Steps p.tables e below (T.setTop g) t ∧ t.status = .running ∧ Ended t below o ∧ Φ o t := by
  subst q; exact h
theorem own_ret (X : Stand p l e R s m args below meth c T locs cells slots) {v : Option Value} (hv : meth.sig.returnType = none → v = none) (hlk : meth.locks = false) {G : State}
    (k : ∀ fs, (∀ (f : JFrame) (acts : List Action), f.method = m → f.locked = none → f.entered = [] → (doReturn e (T.setTop f) acts v).1 = T.setFrames fs) → Steps p.tables e below G (T.setFrames fs))
    {Q : Option Value → Heap → List Loc → Prop} {h : Heap} (eT : T.heap = h) (hQ : Q v h locs) {cc ss : Nat} (hc : cells ≤ cc) (hs : slots ≤ ss) :
    own_Gs p e below (fun o t => ∃ v L, o = .returned v ∧ Q v t.heap L ∧ FrameEnd s o t L cc ss) G := by
  obtain ⟨fs, hr, hrun, hended, hW, hsame⟩ := X.leave (v := v) hv hlk
  subst eT
  exact ⟨_, _, k fs hr, hrun, hended, _, _, rfl, hQ, ⟨_, rfl⟩, hW, hsame.mono hc hs⟩
theorem own_retI (X : Stand p l e R s m args below meth c T locs cells slots) (hx : p.tables.exec = Jvm.exec) {pc : Nat} {Ls : Array Slot} {z : Int32} {rest : List Value} (hret : meth.sig.returnType = some .int) (hd : decode c.code pc = .ok (.ireturn, 1)) (hlk : meth.locks = false)
    {Q : Option Value → Heap → List Loc → Prop} {h : Heap} (eT : T.heap = h) (hQ : Q (some (.int z)) h locs) {cc ss : Nat} (hc : cells ≤ cc) (hs : slots ≤ ss) :
    own_Gs p e below (fun o t => ∃ v L, o = .returned v ∧ Q v t.heap L ∧ FrameEnd s o t L cc ss) (T.setTop (mkF m pc Ls (.int z :: rest))) :=
  own_ret X (fun h => by rw [hret] at h; cases h) hlk (fun fs hr => retI X hx hret hd hr) eT hQ hc hs
theorem own_retN (X : Stand p l e R s m args below meth c T locs cells slots) (hx : p.tables.exec = Jvm.exec) {pc : Nat} {Ls : Array Slot} {z : Int32} {t : FieldType} {rest : List Value} (hret : meth.sig.returnType = some t) (ht : t = .boolean ∨ t = .byte ∨ t = .char ∨ t = .short) (hd : decode c.code pc = .ok (.ireturn, 1)) (hlk : meth.locks = false)
    {Q : Option Value → Heap → List Loc → Prop} {h : Heap} (eT : T.heap = h) (hQ : Q (some (.int (nar t z))) h locs) {cc ss : Nat} (hc : cells ≤ cc) (hs : slots ≤ ss) :
    own_Gs p e below (fun o t => ∃ v L, o = .returned v ∧ Q v t.heap L ∧ FrameEnd s o t L cc ss) (T.setTop (mkF m pc Ls (.int z :: rest))) :=
  own_ret X (fun h => by rw [hret] at h; cases h) hlk (fun fs hr => retN X hx hret ht hd hr) eT hQ hc hs
theorem own_retL (X : Stand p l e R s m args below meth c T locs cells slots) (hx : p.tables.exec = Jvm.exec) {pc : Nat} {Ls : Array Slot} {z : Int64} {rest : List Value} (hret : meth.sig.returnType = some .long) (hd : decode c.code pc = .ok (.lreturn, 1)) (hlk : meth.locks = false)
    {Q : Option Value → Heap → List Loc → Prop} {h : Heap} (eT : T.heap = h) (hQ : Q (some (.long z)) h locs) {cc ss : Nat} (hc : cells ≤ cc) (hs : slots ≤ ss) :
    own_Gs p e below (fun o t => ∃ v L, o = .returned v ∧ Q v t.heap L ∧ FrameEnd s o t L cc ss) (T.setTop (mkF m pc Ls (.long z :: rest))) :=
  own_ret X (fun h => by rw [hret] at h; cases h) hlk (fun fs hr => retOut X hx hret rfl (Or.inr (Or.inl ⟨rfl, rfl, z, rfl⟩)) hd hr) eT hQ hc hs
theorem own_retA (X : Stand p l e R s m args below meth c T locs cells slots) (hx : p.tables.exec = Jvm.exec) {pc : Nat} {Ls : Array Slot} {z : Value} {t : FieldType} {rest : List Value} (hret : meth.sig.returnType = some t) (ht : t.isReference = true) (hz : z.isRef = true) (hd : decode c.code pc = .ok (.areturn, 1)) (hlk : meth.locks = false)
    {Q : Option Value → Heap → List Loc → Prop} {h : Heap} (eT : T.heap = h) (hQ : Q (some z) h locs) {cc ss : Nat} (hc : cells ≤ cc) (hs : slots ≤ ss) :
    own_Gs p e below (fun o t => ∃ v L, o = .returned v ∧ Q v t.heap L ∧ FrameEnd s o t L cc ss) (T.setTop (mkF m pc Ls (z :: rest))) :=
  own_ret X (fun h => by rw [hret] at h; cases h) hlk (fun fs hr => retOut X hx hret (by cases t <;> first | rfl | (cases z <;> first | rfl | (simp [Value.isRef] at hz) | (simp [FieldType.isReference] at ht))) (Or.inr (Or.inr (Or.inr (Or.inr ⟨rfl, ht, hz⟩)))) hd hr) eT hQ hc hs
theorem own_retV (X : Stand p l e R s m args below meth c T locs cells slots) (hx : p.tables.exec = Jvm.exec) {pc : Nat} {Ls : Array Slot} (hret : meth.sig.returnType = none) (hd : decode c.code pc = .ok (.return_, 1)) (hlk : meth.locks = false)
    {Q : Option Value → Heap → List Loc → Prop} {h : Heap} (eT : T.heap = h) (hQ : Q none h locs) {cc ss : Nat} (hc : cells ≤ cc) (hs : slots ≤ ss) :
    own_Gs p e below (fun o t => ∃ v L, o = .returned v ∧ Q v t.heap L ∧ FrameEnd s o t L cc ss) (T.setTop (mkF m pc Ls [])) :=
  own_ret X (fun _ => rfl) hlk (fun fs hr => X.returnOut hx hret hd hr) eT hQ hc hs
theorem own_retNW {vm0 : Vm} {k0 : Nat} (X : Stand p l e R (s.setVm vm0) m args below meth c T locs cells slots) (hS : s.Since vm0 k0) {h : Heap} (hk : k0 ≤ h.size) (hx : p.tables.exec = Jvm.exec) {pc : Nat} {Ls : Array Slot} {z : Int32} {t : FieldType} {rest : List Value} (hret : meth.sig.returnType = some t) (ht : t = .boolean ∨ t = .byte ∨ t = .char ∨ t = .short) (hd : decode c.code pc = .ok (.ireturn, 1)) (hlk : meth.locks = false)
    {Q : Option Value → Heap → List Loc → Prop} (eT : T.heap = h) (hQ : Q (some (.int (nar t z))) h locs) {cc ss : Nat} (hc : cells ≤ cc) (hs : slots ≤ ss) :
    own_Gs p e below (fun o t => ∃ v L, o = .returned v ∧ Q v t.heap L ∧ ReturnedEndW s o t L cc ss) (T.setTop (mkF m pc Ls (.int z :: rest))) := by
  subst eT
  obtain ⟨fs, hr, hrun, hended, h1, h2, h3, h4⟩ := X.leaveW hS hk (v := some (.int (nar t z))) (fun h => by rw [hret] at h; cases h) hlk
  exact ⟨_, _, retN X hx hret ht hd hr, hrun, hended, _, _, rfl, hQ, h1, h2, h3, h4.mono hc hs⟩
-- steps
theorem own_iloadN {Φ : Outcome → State → Prop} (X : Stand p l e R s m args below meth c T locs cells slots) (hx : p.tables.exec = Jvm.exec) {pc : Nat} (pc' : Nat) {Ls : Array Slot} {S : List Value} {k : Fin 4} {v : Int32} (hd : decode c.code pc = .ok (.iload_n k, 1)) (hl : Ls[k.val]? = some (.val (.int v))) (h : own_Gs p e below Φ (T.setTop (mkF m pc' Ls (.int v :: S)))) (hp : pc + 1 = pc' := by rfl) : own_Gs p e below Φ (T.setTop (mkF m pc Ls (S))) := by
  subst hp; exact own_st (fun t k => XS.iloadN X.here hx rfl hd hl k) h
theorem own_iload {Φ : Outcome → State → Prop} (X : Stand p l e R s m args below meth c T locs cells slots) (hx : p.tables.exec = Jvm.exec) {pc : Nat} (pc' : Nat) {Ls : Array Slot} {S : List Value} {k : Nat} {v : Int32} (hd : decode c.code pc = .ok (.iload k, 2)) (hl : Ls[k]? = some (.val (.int v))) (h : own_Gs p e below Φ (T.setTop (mkF m pc' Ls (.int v :: S)))) (hp : pc + 2 = pc' := by rfl) : own_Gs p e below Φ (T.setTop (mkF m pc Ls (S))) := by
  subst hp; exact own_st (fun t k => XS.iload X.here hx rfl hd hl k) h
theorem own_lloadN {Φ : Outcome → State → Prop} (X : Stand p l e R s m args below meth c T locs cells slots) (hx : p.tables.exec = Jvm.exec) {pc : Nat} (pc' : Nat) {Ls : Array Slot} {S : List Value} {k : Fin 4} {v : Int64} (hd : decode c.code pc = .ok (.lload_n k, 1)) (hl : Ls[k.val]? = some (.val (.long v))) (h : own_Gs p e below Φ (T.setTop (mkF m pc' Ls (.long v :: S)))) (hp : pc + 1 = pc' := by rfl) : own_Gs p e below Φ (T.setTop (mkF m pc Ls (S))) := by
  subst hp; exact own_st (fun t k => XS.lloadN X.here hx rfl hd hl k) h
theorem own_lload {Φ : Outcome → State → Prop} (X : Stand p l e R s m args below meth c T locs cells slots) (hx : p.tables.exec = Jvm.exec) {pc : Nat} (pc' : Nat) {Ls : Array Slot} {S : List Value} {k : Nat} {v : Int64} (hd : decode c.code pc = .ok (.lload k, 2)) (hl : Ls[k]? = some (.val (.long v))) (h : own_Gs p e below Φ (T.setTop (mkF m pc' Ls (.long v :: S)))) (hp : pc + 2 = pc' := by rfl) : own_Gs p e below Φ (T.setTop (mkF m pc Ls (S))) := by
  subst hp; exact own_st (fun t k => XS.lload X.here hx rfl hd hl k) h
theorem own_aloadN {Φ : Outcome → State → Prop} (X : Stand p l e R s m args below meth c T locs cells slots) (hx : p.tables.exec = Jvm.exec) {pc : Nat} (pc' : Nat) {Ls : Array Slot} {S : List Value} {k : Fin 4} {v : Value} (hd : decode c.code pc = .ok (.aload_n k, 1)) (hl : Ls[k.val]? = some (.val v)) (hv : v.isRef = true) (h : own_Gs p e below Φ (T.setTop (mkF m pc' Ls (v :: S)))) (hp : pc + 1 = pc' := by rfl) : own_Gs p e below Φ (T.setTop (mkF m pc Ls (S))) := by
  subst hp; exact own_st (fun t k => XS.aloadN X.here hx rfl hd hl hv k) h
theorem own_aload {Φ : Outcome → State → Prop} (X : Stand p l e R s m args below meth c T locs cells slots) (hx : p.tables.exec = Jvm.exec) {pc : Nat} (pc' : Nat) {Ls : Array Slot} {S : List Value} {k : Nat} {v : Value} (hd : decode c.code pc = .ok (.aload k, 2)) (hl : Ls[k]? = some (.val v)) (hv : v.isRef = true) (h : own_Gs p e below Φ (T.setTop (mkF m pc' Ls (v :: S)))) (hp : pc + 2 = pc' := by rfl) : own_Gs p e below Φ (T.setTop (mkF m pc Ls (S))) := by
  subst hp; exact own_st (fun t k => XS.aload X.here hx rfl hd hl hv k) h
theorem own_istoreN {Φ : Outcome → State → Prop} (X : Stand p l e R s m args below meth c T locs cells slots) (hx : p.tables.exec = Jvm.exec) {pc : Nat} (pc' : Nat) {Ls : Array Slot} {S : List Value} {k : Fin 4} {v : Int32} (l' : Array Slot) (hd : decode c.code pc = .ok (.istore_n k, 1)) (hl : storeLocals Ls k.val (.int v) = some l') (h : own_Gs p e below Φ (T.setTop (mkF m pc' l' (S)))) (hp : pc + 1 = pc' := by rfl) : own_Gs p e below Φ (T.setTop (mkF m pc Ls (.int v :: S))) := by
  subst hp; exact own_st (fun t k => XS.istoreN X.here hx rfl hd rfl hl k) h
theorem own_istore {Φ : Outcome → State → Prop} (X : Stand p l e R s m args below meth c T locs cells slots) (hx : p.tables.exec = Jvm.exec) {pc : Nat} (pc' : Nat) {Ls : Array Slot} {S : List Value} {k : Nat} {v : Int32} (l' : Array Slot) (hd : decode c.code pc = .ok (.istore k, 2)) (hl : storeLocals Ls k (.int v) = some l') (h : own_Gs p e below Φ (T.setTop (mkF m pc' l' (S)))) (hp : pc + 2 = pc' := by rfl) : own_Gs p e below Φ (T.setTop (mkF m pc Ls (.int v :: S))) := by
  subst hp; exact own_st (fun t k => XS.istore X.here hx rfl hd rfl hl k) h
theorem own_lstoreN {Φ : Outcome → State → Prop} (X : Stand p l e R s m args below meth c T locs cells slots) (hx : p.tables.exec = Jvm.exec) {pc : Nat} (pc' : Nat) {Ls : Array Slot} {S : List Value} {k : Fin 4} {v : Int64} (l' : Array Slot) (hd : decode c.code pc = .ok (.lstore_n k, 1)) (hl : storeLocals Ls k.val (.long v) = some l') (h : own_Gs p e below Φ (T.setTop (mkF m pc' l' (S)))) (hp : pc + 1 = pc' := by rfl) : own_Gs p e below Φ (T.setTop (mkF m pc Ls (.long v :: S))) := by
  subst hp; exact own_st (fun t k => XS.lstoreN X.here hx rfl hd rfl hl k) h
theorem own_lstore {Φ : Outcome → State → Prop} (X : Stand p l e R s m args below meth c T locs cells slots) (hx : p.tables.exec = Jvm.exec) {pc : Nat} (pc' : Nat) {Ls : Array Slot} {S : List Value} {k : Nat} {v : Int64} (l' : Array Slot) (hd : decode c.code pc = .ok (.lstore k, 2)) (hl : storeLocals Ls k (.long v) = some l') (h : own_Gs p e below Φ (T.setTop (mkF m pc' l' (S)))) (hp : pc + 2 = pc' := by rfl) : own_Gs p e below Φ (T.setTop (mkF m pc Ls (.long v :: S))) := by
  subst hp; exact own_st (fun t k => XS.lstore X.here hx rfl hd rfl hl k) h
theorem own_astoreN {Φ : Outcome → State → Prop} (X : Stand p l e R s m args below meth c T locs cells slots) (hx : p.tables.exec = Jvm.exec) {pc : Nat} (pc' : Nat) {Ls : Array Slot} {S : List Value} {k : Fin 4} {v : Value} (l' : Array Slot) (hd : decode c.code pc = .ok (.astore_n k, 1)) (hv : v.isRef = true) (hl : storeLocals Ls k.val v = some l') (h : own_Gs p e below Φ (T.setTop (mkF m pc' l' (S)))) (hp : pc + 1 = pc' := by rfl) : own_Gs p e below Φ (T.setTop (mkF m pc Ls (v :: S))) := by
  subst hp; exact own_st (fun t k => XS.astoreN X.here hx rfl hd rfl hv hl k) h
theorem own_astore {Φ : Outcome → State → Prop} (X : Stand p l e R s m args below meth c T locs cells slots) (hx : p.tables.exec = Jvm.exec) {pc : Nat} (pc' : Nat) {Ls : Array Slot} {S : List Value} {k : Nat} {v : Value} (l' : Array Slot) (hd : decode c.code pc = .ok (.astore k, 2)) (hv : v.isRef = true) (hl : storeLocals Ls k v = some l') (h : own_Gs p e below Φ (T.setTop (mkF m pc' l' (S)))) (hp : pc + 2 = pc' := by rfl) : own_Gs p e below Φ (T.setTop (mkF m pc Ls (v :: S))) := by
  subst hp; exact own_st (fun t k => XS.astore X.here hx rfl hd rfl hv hl k) h
theorem own_iconst {Φ : Outcome → State → Prop} (X : Stand p l e R s m args below meth c T locs cells slots) (hx : p.tables.exec = Jvm.exec) {pc : Nat} (pc' : Nat) {Ls : Array Slot} {S : List Value} {i : Int} (z : Int32) (hd : decode c.code pc = .ok (.iconst i, 1)) (hz : Int32.ofInt i = z) (h : own_Gs p e below Φ (T.setTop (mkF m pc' Ls (.int z :: S)))) (hp : pc + 1 = pc' := by rfl) : own_Gs p e below Φ (T.setTop (mkF m pc Ls (S))) := by
  subst hp; exact own_st (fun t k => XS.iconst X.here hx rfl hd (hz ▸ k)) h
theorem own_bipush {Φ : Outcome → State → Prop} (X : Stand p l e R s m args below meth c T locs cells slots) (hx : p.tables.exec = Jvm.exec) {pc : Nat} (pc' : Nat) {Ls : Array Slot} {S : List Value} {i : Int} (z : Int32) (hd : decode c.code pc = .ok (.bipush i, 2)) (hz : (Int8.ofInt i).toInt32 = z) (h : own_Gs p e below Φ (T.setTop (mkF m pc' Ls (.int z :: S)))) (hp : pc + 2 = pc' := by rfl) : own_Gs p e below Φ (T.setTop (mkF m pc Ls (S))) := by
  subst hp; exact own_st (fun t k => XS.bipush X.here hx rfl hd (hz ▸ k)) h
theorem own_sipush {Φ : Outcome → State → Prop} (X : Stand p l e R s m args below meth c T locs cells slots) (hx : p.tables.exec = Jvm.exec) {pc : Nat} (pc' : Nat) {Ls : Array Slot} {S : List Value} {i : Int} (z : Int32) (hd : decode c.code pc = .ok (.sipush i, 3)) (hz : (Int16.ofInt i).toInt32 = z) (h : own_Gs p e below Φ (T.setTop (mkF m pc' Ls (.int z :: S)))) (hp : pc + 3 = pc' := by rfl) : own_Gs p e below Φ (T.setTop (mkF m pc Ls (S))) := by
  subst hp; exact own_st (fun t k => XS.sipush X.here hx rfl hd (hz ▸ k)) h
theorem own_lconst {Φ : Outcome → State → Prop} (X : Stand p l e R s m args below meth c T locs cells slots) (hx : p.tables.exec = Jvm.exec) {pc : Nat} (pc' : Nat) {Ls : Array Slot} {S : List Value} {i : Fin 2} (z : Int64) (hd : decode c.code pc = .ok (.lconst i, 1)) (hz : Int64.ofNat i = z) (h : own_Gs p e below Φ (T.setTop (mkF m pc' Ls (.long z :: S)))) (hp : pc + 1 = pc' := by rfl) : own_Gs p e below Φ (T.setTop (mkF m pc Ls (S))) := by
  subst hp; exact own_st (fun t k => XS.lconst X.here hx rfl hd (hz ▸ k)) h
theorem own_aconstNull {Φ : Outcome → State → Prop} (X : Stand p l e R s m args below meth c T locs cells slots) (hx : p.tables.exec = Jvm.exec) {pc : Nat} (pc' : Nat) {Ls : Array Slot} {S : List Value}  (hd : decode c.code pc = .ok (.aconst_null, 1)) (h : own_Gs p e below Φ (T.setTop (mkF m pc' Ls (.null :: S)))) (hp : pc + 1 = pc' := by rfl) : own_Gs p e below Φ (T.setTop (mkF m pc Ls (S))) := by
  subst hp; exact own_st (fun t k => XS.aconstNull X.here hx rfl hd k) h
theorem own_iadd {Φ : Outcome → State → Prop} (X : Stand p l e R s m args below meth c T locs cells slots) (hx : p.tables.exec = Jvm.exec) {pc : Nat} (pc' : Nat) {Ls : Array Slot} {S : List Value} {x y : Int32} (hd : decode c.code pc = .ok (.iadd, 1)) (h : own_Gs p e below Φ (T.setTop (mkF m pc' Ls (.int (x + y) :: S)))) (hp : pc + 1 = pc' := by rfl) : own_Gs p e below Φ (T.setTop (mkF m pc Ls (.int y :: .int x :: S))) := by
  subst hp; exact own_st (fun t k => XS.iadd X.here hx rfl hd rfl k) h
theorem own_ladd {Φ : Outcome → State → Prop} (X : Stand p l e R s m args below meth c T locs cells slots) (hx : p.tables.exec = Jvm.exec) {pc : Nat} (pc' : Nat) {Ls : Array Slot} {S : List Value} {x y : Int64} (hd : decode c.code pc = .ok (.ladd, 1)) (h : own_Gs p e below Φ (T.setTop (mkF m pc' Ls (.long (x + y) :: S)))) (hp : pc + 1 = pc' := by rfl) : own_Gs p e below Φ (T.setTop (mkF m pc Ls (.long y :: .long x :: S))) := by
  subst hp; exact own_st (fun t k => XS.ladd X.here hx rfl hd rfl k) h
theorem own_isub {Φ : Outcome → State → Prop} (X : Stand p l e R s m args below meth c T locs cells slots) (hx : p.tables.exec = Jvm.exec) {pc : Nat} (pc' : Nat) {Ls : Array Slot} {S : List Value} {x y : Int32} (hd : decode c.code pc = .ok (.isub, 1)) (h : own_Gs p e below Φ (T.setTop (mkF m pc' Ls (.int (x - y) :: S)))) (hp : pc + 1 = pc' := by rfl) : own_Gs p e below Φ (T.setTop (mkF m pc Ls (.int y :: .int x :: S))) := by
  subst hp; exact own_st (fun t k => XS.isub X.here hx rfl hd rfl k) h
theorem own_lsub {Φ : Outcome → State → Prop} (X : Stand p l e R s m args below meth c T locs cells slots) (hx : p.tables.exec = Jvm.exec) {pc : Nat} (pc' : Nat) {Ls : Array Slot} {S : List Value} {x y : Int64} (hd : decode c.code pc = .ok (.lsub, 1)) (h : own_Gs p e below Φ (T.setTop (mkF m pc' Ls (.long (x - y) :: S)))) (hp : pc + 1 = pc' := by rfl) : own_Gs p e below Φ (T.setTop (mkF m pc Ls (.long y :: .long x :: S))) := by
  subst hp; exact own_st (fun t k => XS.lsub X.here hx rfl hd rfl k) h
theorem own_imul {Φ : Outcome → State → Prop} (X : Stand p l e R s m args below meth c T locs cells slots) (hx : p.tables.exec = Jvm.exec) {pc : Nat} (pc' : Nat) {Ls : Array Slot} {S : List Value} {x y : Int32} (hd : decode c.code pc = .ok (.imul, 1)) (h : own_Gs p e below Φ (T.setTop (mkF m pc' Ls (.int (x * y) :: S)))) (hp : pc + 1 = pc' := by rfl) : own_Gs p e below Φ (T.setTop (mkF m pc Ls (.int y :: .int x :: S))) := by
  subst hp; exact own_st (fun t k => XS.imul X.here hx rfl hd rfl k) h
theorem own_lmul {Φ : Outcome → State → Prop} (X : Stand p l e R s m args below meth c T locs cells slots) (hx : p.tables.exec = Jvm.exec) {pc : Nat} (pc' : Nat) {Ls : Array Slot} {S : List Value} {x y : Int64} (hd : decode c.code pc = .ok (.lmul, 1)) (h : own_Gs p e below Φ (T.setTop (mkF m pc' Ls (.long (x * y) :: S)))) (hp : pc + 1 = pc' := by rfl) : own_Gs p e below Φ (T.setTop (mkF m pc Ls (.long y :: .long x :: S))) := by
  subst hp; exact own_st (fun t k => XS.lmul X.here hx rfl hd rfl k) h
theorem own_iand {Φ : Outcome → State → Prop} (X : Stand p l e R s m args below meth c T locs cells slots) (hx : p.tables.exec = Jvm.exec) {pc : Nat} (pc' : Nat) {Ls : Array Slot} {S : List Value} {x y : Int32} (hd : decode c.code pc = .ok (.iand, 1)) (h : own_Gs p e below Φ (T.setTop (mkF m pc' Ls (.int (x &&& y) :: S)))) (hp : pc + 1 = pc' := by rfl) : own_Gs p e below Φ (T.setTop (mkF m pc Ls (.int y :: .int x :: S))) := by
  subst hp; exact own_st (fun t k => XS.iand X.here hx rfl hd rfl k) h
theorem own_land {Φ : Outcome → State → Prop} (X : Stand p l e R s m args below meth c T locs cells slots) (hx : p.tables.exec = Jvm.exec) {pc : Nat} (pc' : Nat) {Ls : Array Slot} {S : List Value} {x y : Int64} (hd : decode c.code pc = .ok (.land, 1)) (h : own_Gs p e below Φ (T.setTop (mkF m pc' Ls (.long (x &&& y) :: S)))) (hp : pc + 1 = pc' := by rfl) : own_Gs p e below Φ (T.setTop (mkF m pc Ls (.long y :: .long x :: S))) := by
  subst hp; exact own_st (fun t k => XS.land X.here hx rfl hd rfl k) h
theorem own_ior {Φ : Outcome → State → Prop} (X : Stand p l e R s m args below meth c T locs cells slots) (hx : p.tables.exec = Jvm.exec) {pc : Nat} (pc' : Nat) {Ls : Array Slot} {S : List Value} {x y : Int32} (hd : decode c.code pc = .ok (.ior, 1)) (h : own_Gs p e below Φ (T.setTop (mkF m pc' Ls (.int (x ||| y) :: S)))) (hp : pc + 1 = pc' := by rfl) : own_Gs p e below Φ (T.setTop (mkF m pc Ls (.int y :: .int x :: S))) := by
  subst hp; exact own_st (fun t k => XS.ior X.here hx rfl hd rfl k) h
theorem own_lor {Φ : Outcome → State → Prop} (X : Stand p l e R s m args below meth c T locs cells slots) (hx : p.tables.exec = Jvm.exec) {pc : Nat} (pc' : Nat) {Ls : Array Slot} {S : List Value} {x y : Int64} (hd : decode c.code pc = .ok (.lor, 1)) (h : own_Gs p e below Φ (T.setTop (mkF m pc' Ls (.long (x ||| y) :: S)))) (hp : pc + 1 = pc' := by rfl) : own_Gs p e below Φ (T.setTop (mkF m pc Ls (.long y :: .long x :: S))) := by
  subst hp; exact own_st (fun t k => XS.lor X.here hx rfl hd rfl k) h
theorem own_ixor {Φ : Outcome → State → Prop} (X : Stand p l e R s m args below meth c T locs cells slots) (hx : p.tables.exec = Jvm.exec) {pc : Nat} (pc' : Nat) {Ls : Array Slot} {S : List Value} {x y : Int32} (hd : decode c.code pc = .ok (.ixor, 1)) (h : own_Gs p e below Φ (T.setTop (mkF m pc' Ls (.int (x ^^^ y) :: S)))) (hp : pc + 1 = pc' := by rfl) : own_Gs p e below Φ (T.setTop (mkF m pc Ls (.int y :: .int x :: S))) := by
  subst hp; exact own_st (fun t k => XS.ixor X.here hx rfl hd rfl k) h
theorem own_lxor {Φ : Outcome → State → Prop} (X : Stand p l e R s m args below meth c T locs cells slots) (hx : p.tables.exec = Jvm.exec) {pc : Nat} (pc' : Nat) {Ls : Array Slot} {S : List Value} {x y : Int64} (hd : decode c.code pc = .ok (.lxor, 1)) (h : own_Gs p e below Φ (T.setTop (mkF m pc' Ls (.long (x ^^^ y) :: S)))) (hp : pc + 1 = pc' := by rfl) : own_Gs p e below Φ (T.setTop (mkF m pc Ls (.long y :: .long x :: S))) := by
  subst hp; exact own_st (fun t k => XS.lxor X.here hx rfl hd rfl k) h
theorem own_idiv {Φ : Outcome → State → Prop} (X : Stand p l e R s m args below meth c T locs cells slots) (hx : p.tables.exec = Jvm.exec) {pc : Nat} (pc' : Nat) {Ls : Array Slot} {S : List Value} {x y : Int32} (hd : decode c.code pc = .ok (.idiv, 1)) (hy : y ≠ 0) (h : own_Gs p e below Φ (T.setTop (mkF m pc' Ls (.int (x / y) :: S)))) (hp : pc + 1 = pc' := by rfl) : own_Gs p e below Φ (T.setTop (mkF m pc Ls (.int y :: .int x :: S))) := by
  subst hp; exact own_st (fun t k => XS.idiv X.here hx rfl hd rfl hy k) h
theorem own_ldiv {Φ : Outcome → State → Prop} (X : Stand p l e R s m args below meth c T locs cells slots) (hx : p.tables.exec = Jvm.exec) {pc : Nat} (pc' : Nat) {Ls : Array Slot} {S : List Value} {x y : Int64} (hd : decode c.code pc = .ok (.ldiv, 1)) (hy : y ≠ 0) (h : own_Gs p e below Φ (T.setTop (mkF m pc' Ls (.long (x / y) :: S)))) (hp : pc + 1 = pc' := by rfl) : own_Gs p e below Φ (T.setTop (mkF m pc Ls (.long y :: .long x :: S))) := by
  subst hp; exact own_st (fun t k => XS.ldiv X.here hx rfl hd rfl hy k) h
theorem own_irem {Φ : Outcome → State → Prop} (X : Stand p l e R s m args below meth c T locs cells slots) (hx : p.tables.exec = Jvm.exec) {pc : Nat} (pc' : Nat) {Ls : Array Slot} {S : List Value} {x y : Int32} (hd : decode c.code pc = .ok (.irem, 1)) (hy : y ≠ 0) (h : own_Gs p e below Φ (T.setTop (mkF m pc' Ls (.int (x % y) :: S)))) (hp : pc + 1 = pc' := by rfl) : own_Gs p e below Φ (T.setTop (mkF m pc Ls (.int y :: .int x :: S))) := by
  subst hp; exact own_st (fun t k => iremM X hx rfl hd rfl hy k) h
theorem own_lrem {Φ : Outcome → State → Prop} (X : Stand p l e R s m args below meth c T locs cells slots) (hx : p.tables.exec = Jvm.exec) {pc : Nat} (pc' : Nat) {Ls : Array Slot} {S : List Value} {x y : Int64} (hd : decode c.code pc = .ok (.lrem, 1)) (hy : y ≠ 0) (h : own_Gs p e below Φ (T.setTop (mkF m pc' Ls (.long (x % y) :: S)))) (hp : pc + 1 = pc' := by rfl) : own_Gs p e below Φ (T.setTop (mkF m pc Ls (.long y :: .long x :: S))) := by
  subst hp; exact own_st (fun t k => XS.lrem X.here hx rfl hd rfl hy (by rw [lrem_mod]; exact k)) h
theorem own_ishl {Φ : Outcome → State → Prop} (X : Stand p l e R s m args below meth c T locs cells slots) (hx : p.tables.exec = Jvm.exec) {pc : Nat} (pc' : Nat) {Ls : Array Slot} {S : List Value} {x y : Int32} (hd : decode c.code pc = .ok (.ishl, 1)) (h : own_Gs p e below Φ (T.setTop (mkF m pc' Ls (.int (x <<< (y &&& 31)) :: S)))) (hp : pc + 1 = pc' := by rfl) : own_Gs p e below Φ (T.setTop (mkF m pc Ls (.int y :: .int x :: S))) := by
  subst hp; exact own_st (fun t k => XS.ishl X.here hx rfl hd rfl k) h
theorem own_ishr {Φ : Outcome → State → Prop} (X : Stand p l e R s m args below meth c T locs cells slots) (hx : p.tables.exec = Jvm.exec) {pc : Nat} (pc' : Nat) {Ls : Array Slot} {S : List Value} {x y : Int32} (hd : decode c.code pc = .ok (.ishr, 1)) (h : own_Gs p e below Φ (T.setTop (mkF m pc' Ls (.int (x >>> (y &&& 31)) :: S)))) (hp : pc + 1 = pc' := by rfl) : own_Gs p e below Φ (T.setTop (mkF m pc Ls (.int y :: .int x :: S))) := by
  subst hp; exact own_st (fun t k => XS.ishr X.here hx rfl hd rfl k) h
theorem own_iushr {Φ : Outcome → State → Prop} (X : Stand p l e R s m args below meth c T locs cells slots) (hx : p.tables.exec = Jvm.exec) {pc : Nat} (pc' : Nat) {Ls : Array Slot} {S : List Value} {x y : Int32} (hd : decode c.code pc = .ok (.iushr, 1)) (h : own_Gs p e below Φ (T.setTop (mkF m pc' Ls (.int ((x.toUInt32 >>> (y &&& 31).toUInt32).toInt32) :: S)))) (hp : pc + 1 = pc' := by rfl) : own_Gs p e below Φ (T.setTop (mkF m pc Ls (.int y :: .int x :: S))) := by
  subst hp; exact own_st (fun t k => XS.iushr X.here hx rfl hd rfl k) h
theorem own_lshl {Φ : Outcome → State → Prop} (X : Stand p l e R s m args below meth c T locs cells slots) (hx : p.tables.exec = Jvm.exec) {pc : Nat} (pc' : Nat) {Ls : Array Slot} {S : List Value} {x : Int64} {y : Int32} (hd : decode c.code pc = .ok (.lshl, 1)) (h : own_Gs p e below Φ (T.setTop (mkF m pc' Ls (.long (x <<< (y &&& 0x3f).toInt64) :: S)))) (hp : pc + 1 = pc' := by rfl) : own_Gs p e below Φ (T.setTop (mkF m pc Ls (.int y :: .long x :: S))) := by
  subst hp; exact own_st (fun t k => XS.lshl X.here hx rfl hd rfl k) h
theorem own_lshr {Φ : Outcome → State → Prop} (X : Stand p l e R s m args below meth c T locs cells slots) (hx : p.tables.exec = Jvm.exec) {pc : Nat} (pc' : Nat) {Ls : Array Slot} {S : List Value} {x : Int64} {y : Int32} (hd : decode c.code pc = .ok (.lshr, 1)) (h : own_Gs p e below Φ (T.setTop (mkF m pc' Ls (.long (x >>> (y &&& 0x3f).toInt64) :: S)))) (hp : pc + 1 = pc' := by rfl) : own_Gs p e below Φ (T.setTop (mkF m pc Ls (.int y :: .long x :: S))) := by
  subst hp; exact own_st (fun t k => XS.lshr X.here hx rfl hd rfl k) h
theorem own_lushr {Φ : Outcome → State → Prop} (X : Stand p l e R s m args below meth c T locs cells slots) (hx : p.tables.exec = Jvm.exec) {pc : Nat} (pc' : Nat) {Ls : Array Slot} {S : List Value} {x : Int64} {y : Int32} (hd : decode c.code pc = .ok (.lushr, 1)) (h : own_Gs p e below Φ (T.setTop (mkF m pc' Ls (.long ((x.toUInt64 >>> (y &&& 0x3f).toInt64.toUInt64).toInt64) :: S)))) (hp : pc + 1 = pc' := by rfl) : own_Gs p e below Φ (T.setTop (mkF m pc Ls (.int y :: .long x :: S))) := by
  subst hp; exact own_st (fun t k => XS.lushr X.here hx rfl hd rfl k) h
theorem own_ineg {Φ : Outcome → State → Prop} (X : Stand p l e R s m args below meth c T locs cells slots) (hx : p.tables.exec = Jvm.exec) {pc : Nat} (pc' : Nat) {Ls : Array Slot} {S : List Value} {x : Int32} (hd : decode c.code pc = .ok (.ineg, 1)) (h : own_Gs p e below Φ (T.setTop (mkF m pc' Ls (.int (-x) :: S)))) (hp : pc + 1 = pc' := by rfl) : own_Gs p e below Φ (T.setTop (mkF m pc Ls (.int x :: S))) := by
  subst hp; exact own_st (fun t k => XS.ineg X.here hx rfl hd rfl k) h
theorem own_lneg {Φ : Outcome → State → Prop} (X : Stand p l e R s m args below meth c T locs cells slots) (hx : p.tables.exec = Jvm.exec) {pc : Nat} (pc' : Nat) {Ls : Array Slot} {S : List Value} {x : Int64} (hd : decode c.code pc = .ok (.lneg, 1)) (h : own_Gs p e below Φ (T.setTop (mkF m pc' Ls (.long (-x) :: S)))) (hp : pc + 1 = pc' := by rfl) : own_Gs p e below Φ (T.setTop (mkF m pc Ls (.long x :: S))) := by
  subst hp; exact own_st (fun t k => XS.lneg X.here hx rfl hd rfl k) h
theorem own_i2l {Φ : Outcome → State → Prop} (X : Stand p l e R s m args below meth c T locs cells slots) (hx : p.tables.exec = Jvm.exec) {pc : Nat} (pc' : Nat) {Ls : Array Slot} {S : List Value} {x : Int32} (hd : decode c.code pc = .ok (.i2l, 1)) (h : own_Gs p e below Φ (T.setTop (mkF m pc' Ls (.long (x.toInt64) :: S)))) (hp : pc + 1 = pc' := by rfl) : own_Gs p e below Φ (T.setTop (mkF m pc Ls (.int x :: S))) := by
  subst hp; exact own_st (fun t k => XS.i2l X.here hx rfl hd rfl k) h
theorem own_l2i {Φ : Outcome → State → Prop} (X : Stand p l e R s m args below meth c T locs cells slots) (hx : p.tables.exec = Jvm.exec) {pc : Nat} (pc' : Nat) {Ls : Array Slot} {S : List Value} {x : Int64} (hd : decode c.code pc = .ok (.l2i, 1)) (h : own_Gs p e below Φ (T.setTop (mkF m pc' Ls (.int (x.toInt32) :: S)))) (hp : pc + 1 = pc' := by rfl) : own_Gs p e below Φ (T.setTop (mkF m pc Ls (.long x :: S))) := by
  subst hp; exact own_st (fun t k => XS.l2i X.here hx rfl hd rfl k) h
theorem own_i2b {Φ : Outcome → State → Prop} (X : Stand p l e R s m args below meth c T locs cells slots) (hx : p.tables.exec = Jvm.exec) {pc : Nat} (pc' : Nat) {Ls : Array Slot} {S : List Value} {x : Int32} (hd : decode c.code pc = .ok (.i2b, 1)) (h : own_Gs p e below Φ (T.setTop (mkF m pc' Ls (.int (x.toInt8.toInt32) :: S)))) (hp : pc + 1 = pc' := by rfl) : own_Gs p e below Φ (T.setTop (mkF m pc Ls (.int x :: S))) := by
  subst hp; exact own_st (fun t k => XS.i2b X.here hx rfl hd rfl k) h
theorem own_i2s {Φ : Outcome → State → Prop} (X : Stand p l e R s m args below meth c T locs cells slots) (hx : p.tables.exec = Jvm.exec) {pc : Nat} (pc' : Nat) {Ls : Array Slot} {S : List Value} {x : Int32} (hd : decode c.code pc = .ok (.i2s, 1)) (h : own_Gs p e below Φ (T.setTop (mkF m pc' Ls (.int (x.toInt16.toInt32) :: S)))) (hp : pc + 1 = pc' := by rfl) : own_Gs p e below Φ (T.setTop (mkF m pc Ls (.int x :: S))) := by
  subst hp; exact own_st (fun t k => XS.i2s X.here hx rfl hd rfl k) h
theorem own_i2c {Φ : Outcome → State → Prop} (X : Stand p l e R s m args below meth c T locs cells slots) (hx : p.tables.exec = Jvm.exec) {pc : Nat} (pc' : Nat) {Ls : Array Slot} {S : List Value} {x : Int32} (hd : decode c.code pc = .ok (.i2c, 1)) (h : own_Gs p e below Φ (T.setTop (mkF m pc' Ls (.int (x.toUInt32.toUInt16.toUInt32.toInt32) :: S)))) (hp : pc + 1 = pc' := by rfl) : own_Gs p e below Φ (T.setTop (mkF m pc Ls (.int x :: S))) := by
  subst hp; exact own_st (fun t k => XS.i2c X.here hx rfl hd rfl k) h
theorem own_lcmp {Φ : Outcome → State → Prop} (X : Stand p l e R s m args below meth c T locs cells slots) (hx : p.tables.exec = Jvm.exec) {pc : Nat} (pc' : Nat) {Ls : Array Slot} {S : List Value} {x y : Int64} (hd : decode c.code pc = .ok (.lcmp, 1)) (h : own_Gs p e below Φ (T.setTop (mkF m pc' Ls (.int (lcmpW x y) :: S)))) (hp : pc + 1 = pc' := by rfl) : own_Gs p e below Φ (T.setTop (mkF m pc Ls (.long y :: .long x :: S))) := by
  subst hp; exact own_st (fun t k => XS.lcmp X.here hx rfl hd rfl k) h
theorem own_iinc {Φ : Outcome → State → Prop} (X : Stand p l e R s m args below meth c T locs cells slots) (hx : p.tables.exec = Jvm.exec) {pc : Nat} (pc' : Nat) {Ls : Array Slot} {S : List Value} {i : Nat} {cst : Int} {x : Int32} (z : Int32) (l' : Array Slot) (hd : decode c.code pc = .ok (.iinc i cst, 3)) (hl : Ls[i]? = some (.val (.int x))) (hz : Int32.ofInt cst = z) (hl' : storeLocals Ls i (.int (x + z)) = some l') (h : own_Gs p e below Φ (T.setTop (mkF m pc' l' (S)))) (hp : pc + 3 = pc' := by rfl) : own_Gs p e below Φ (T.setTop (mkF m pc Ls (S))) := by
  subst hp; exact own_st (fun t k => XS.iinc X.here hx rfl hd hl (hz ▸ hl') k) h
theorem own_dup {Φ : Outcome → State → Prop} (X : Stand p l e R s m args below meth c T locs cells slots) (hx : p.tables.exec = Jvm.exec) {pc : Nat} (pc' : Nat) {Ls : Array Slot} {S : List Value} {v : Value} (hd : decode c.code pc = .ok (.dup, 1)) (hc : v.category = 1) (h : own_Gs p e below Φ (T.setTop (mkF m pc' Ls (v :: v :: S)))) (hp : pc + 1 = pc' := by rfl) : own_Gs p e below Φ (T.setTop (mkF m pc Ls (v :: S))) := by
  subst hp; exact own_st (fun t k => XS.dup X.here hx rfl hd rfl hc k) h
theorem own_pop {Φ : Outcome → State → Prop} (X : Stand p l e R s m args below meth c T locs cells slots) (hx : p.tables.exec = Jvm.exec) {pc : Nat} (pc' : Nat) {Ls : Array Slot} {S : List Value} {v : Value} (hd : decode c.code pc = .ok (.pop, 1)) (hc : v.category = 1) (h : own_Gs p e below Φ (T.setTop (mkF m pc' Ls (S)))) (hp : pc + 1 = pc' := by rfl) : own_Gs p e below Φ (T.setTop (mkF m pc Ls (v :: S))) := by
  subst hp; exact own_st (fun t k => XS.pop X.here hx rfl hd rfl hc k) h
theorem own_dupX1 {Φ : Outcome → State → Prop} (X : Stand p l e R s m args below meth c T locs cells slots) (hx : p.tables.exec = Jvm.exec) {pc : Nat} (pc' : Nat) {Ls : Array Slot} {S : List Value} {v w : Value} (hd : decode c.code pc = .ok (.dup_x1, 1)) (hc : v.category = 1) (hc' : w.category = 1) (h : own_Gs p e below Φ (T.setTop (mkF m pc' Ls (v :: w :: v :: S)))) (hp : pc + 1 = pc' := by rfl) : own_Gs p e below Φ (T.setTop (mkF m pc Ls (v :: w :: S))) := by
  subst hp; exact own_st (fun t k => XS.dupX1 X.here hx rfl hd rfl hc hc' k) h
theorem own_dup2 {Φ : Outcome → State → Prop} (X : Stand p l e R s m args below meth c T locs cells slots) (hx : p.tables.exec = Jvm.exec) {pc : Nat} (pc' : Nat) {Ls : Array Slot} {S : List Value} {v w : Value} (hd : decode c.code pc = .ok (.dup2, 1)) (hc : v.category = 1) (hc' : w.category = 1) (h : own_Gs p e below Φ (T.setTop (mkF m pc' Ls (v :: w :: v :: w :: S)))) (hp : pc + 1 = pc' := by rfl) : own_Gs p e below Φ (T.setTop (mkF m pc Ls (v :: w :: S))) := by
  subst hp; exact own_st (fun t k => Jvm.Free.XT.dup2 X.here hx rfl hd rfl hc hc' k) h
theorem own_dup2L {Φ : Outcome → State → Prop} (X : Stand p l e R s m args below meth c T locs cells slots) (hx : p.tables.exec = Jvm.exec) {pc : Nat} (pc' : Nat) {Ls : Array Slot} {S : List Value} {x : Int64} (hd : decode c.code pc = .ok (.dup2, 1)) (h : own_Gs p e below Φ (T.setTop (mkF m pc' Ls (.long x :: .long x :: S)))) (hp : pc + 1 = pc' := by rfl) : own_Gs p e below Φ (T.setTop (mkF m pc Ls (.long x :: S))) := by
  subst hp; exact own_st (fun t k => Jvm.Free.XT.dup2L X.here hx rfl hd rfl k) h
theorem own_goto {Φ : Outcome → State → Prop} (X : Stand p l e R s m args below meth c T locs cells slots) (hx : p.tables.exec = Jvm.exec) {pc : Nat} (pc' : Nat) {Ls : Array Slot} {S : List Value} {o : Int}  (hd : decode c.code pc = .ok (.goto o, 3)) (h : own_Gs p e below Φ (T.setTop (mkF m pc' Ls S))) (hp : decide (0 ≤ (pc : Int) + o ∧ ((pc : Int) + o).toNat = pc') = true := by rfl) : own_Gs p e below Φ (T.setTop (mkF m pc Ls (S))) := by
  have q := of_decide_eq_true hp; exact own_st (fun t k => XS.goto X.here hx rfl (pc0 := pc) (pc' := pc') rfl hd q.1 q.2 k) h
theorem own_ifYes {Φ : Outcome → State → Prop} (X : Stand p l e R s m args below meth c T locs cells slots) (hx : p.tables.exec = Jvm.exec) {pc : Nat} (pc' : Nat) {Ls : Array Slot} {S : List Value} {o : Int} {cd : ClassFile.Cond} {x : Int32} (hd : decode c.code pc = .ok (.ifCond cd o, 3)) (hc : if_icmp.holds cd x 0 = true) (h : own_Gs p e below Φ (T.setTop (mkF m pc' Ls S))) (hp : decide (0 ≤ (pc : Int) + o ∧ ((pc : Int) + o).toNat = pc') = true := by rfl) : own_Gs p e below Φ (T.setTop (mkF m pc Ls (.int x :: S))) := by
  have q := of_decide_eq_true hp; exact own_st (fun t k => XS.ifYes X.here hx rfl (pc0 := pc) (pc' := pc') rfl hd rfl ((if0 _ _).trans hc) q.1 q.2 k) h
theorem own_ifNo {Φ : Outcome → State → Prop} (X : Stand p l e R s m args below meth c T locs cells slots) (hx : p.tables.exec = Jvm.exec) {pc : Nat} (pc' : Nat) {Ls : Array Slot} {S : List Value} {o : Int} {cd : ClassFile.Cond} {x : Int32} (hd : decode c.code pc = .ok (.ifCond cd o, 3)) (hc : if_icmp.holds cd x 0 = false) (h : own_Gs p e below Φ (T.setTop (mkF m pc' Ls S))) (hp : pc + 3 = pc' := by rfl) : own_Gs p e below Φ (T.setTop (mkF m pc Ls (.int x :: S))) := by
  subst hp; exact own_st (fun t k => XS.ifNo X.here hx rfl hd rfl ((if0 _ _).trans hc) k) h
theorem own_icmpYes {Φ : Outcome → State → Prop} (X : Stand p l e R s m args below meth c T locs cells slots) (hx : p.tables.exec = Jvm.exec) {pc : Nat} (pc' : Nat) {Ls : Array Slot} {S : List Value} {o : Int} {cd : ClassFile.Cond} {x y : Int32} (hd : decode c.code pc = .ok (.if_icmp cd o, 3)) (hc : if_icmp.holds cd x y = true) (h : own_Gs p e below Φ (T.setTop (mkF m pc' Ls S))) (hp : decide (0 ≤ (pc : Int) + o ∧ ((pc : Int) + o).toNat = pc') = true := by rfl) : own_Gs p e below Φ (T.setTop (mkF m pc Ls (.int y :: .int x :: S))) := by
  have q := of_decide_eq_true hp; exact own_st (fun t k => XS.icmpYes X.here hx rfl (pc0 := pc) (pc' := pc') rfl hd rfl hc q.1 q.2 k) h
theorem own_icmpNo {Φ : Outcome → State → Prop} (X : Stand p l e R s m args below meth c T locs cells slots) (hx : p.tables.exec = Jvm.exec) {pc : Nat} (pc' : Nat) {Ls : Array Slot} {S : List Value} {o : Int} {cd : ClassFile.Cond} {x y : Int32} (hd : decode c.code pc = .ok (.if_icmp cd o, 3)) (hc : if_icmp.holds cd x y = false) (h : own_Gs p e below Φ (T.setTop (mkF m pc' Ls S))) (hp : pc + 3 = pc' := by rfl) : own_Gs p e below Φ (T.setTop (mkF m pc Ls (.int y :: .int x :: S))) := by
  subst hp; exact own_st (fun t k => XS.icmpNo X.here hx rfl hd rfl hc k) h
theorem own_ifnullYes {Φ : Outcome → State → Prop} (X : Stand p l e R s m args below meth c T locs cells slots) (hx : p.tables.exec = Jvm.exec) {pc : Nat} (pc' : Nat) {Ls : Array Slot} {S : List Value} {o : Int}  (hd : decode c.code pc = .ok (.ifnull o, 3)) (h : own_Gs p e below Φ (T.setTop (mkF m pc' Ls S))) (hp : decide (0 ≤ (pc : Int) + o ∧ ((pc : Int) + o).toNat = pc') = true := by rfl) : own_Gs p e below Φ (T.setTop (mkF m pc Ls (.null :: S))) := by
  have q := of_decide_eq_true hp; exact own_st (fun t k => XS.ifnullYes X.here hx rfl (pc0 := pc) (pc' := pc') rfl hd rfl q.1 q.2 k) h
theorem own_ifnullNo {Φ : Outcome → State → Prop} (X : Stand p l e R s m args below meth c T locs cells slots) (hx : p.tables.exec = Jvm.exec) {pc : Nat} (pc' : Nat) {Ls : Array Slot} {S : List Value} {o : Int} {b : Addr} (hd : decode c.code pc = .ok (.ifnull o, 3)) (h : own_Gs p e below Φ (T.setTop (mkF m pc' Ls S))) (hp : pc + 3 = pc' := by rfl) : own_Gs p e below Φ (T.setTop (mkF m pc Ls (.ref b :: S))) := by
  subst hp; exact own_st (fun t k => XS.ifnullNo X.here hx rfl hd rfl k) h
theorem own_ifnonnullYes {Φ : Outcome → State → Prop} (X : Stand p l e R s m args below meth c T locs cells slots) (hx : p.tables.exec = Jvm.exec) {pc : Nat} (pc' : Nat) {Ls : Array Slot} {S : List Value} {o : Int} {b : Addr} (hd : decode c.code pc = .ok (.ifnonnull o, 3)) (h : own_Gs p e below Φ (T.setTop (mkF m pc' Ls S))) (hp : decide (0 ≤ (pc : Int) + o ∧ ((pc : Int) + o).toNat = pc') = true := by rfl) : own_Gs p e below Φ (T.setTop (mkF m pc Ls (.ref b :: S))) := by
  have q := of_decide_eq_true hp; exact own_st (fun t k => XS.ifnonnullYes X.here hx rfl (pc0 := pc) (pc' := pc') rfl hd rfl q.1 q.2 k) h
theorem own_ifnonnullNo {Φ : Outcome → State → Prop} (X : Stand p l e R s m args below meth c T locs cells slots) (hx : p.tables.exec = Jvm.exec) {pc : Nat} (pc' : Nat) {Ls : Array Slot} {S : List Value} {o : Int}  (hd : decode c.code pc = .ok (.ifnonnull o, 3)) (h : own_Gs p e below Φ (T.setTop (mkF m pc' Ls S))) (hp : pc + 3 = pc' := by rfl) : own_Gs p e below Φ (T.setTop (mkF m pc Ls (.null :: S))) := by
  subst hp; exact own_st (fun t k => XS.ifnonnullNo X.here hx rfl hd rfl k) h
theorem own_acmp {Φ : Outcome → State → Prop} (X : Stand p l e R s m args below meth c T locs cells slots) (hx : p.tables.exec = Jvm.exec) {pc : Nat} (pc' : Nat) {Ls : Array Slot} {S : List Value} {o : Int} {cd : ACond} {v w : Value} (same : Bool) (hd : decode c.code pc = .ok (.if_acmp cd o, 3)) (h1 : v.isRef = true) (h2 : w.isRef = true) (hq : decide (v = w) = same) (h : own_Gs p e below Φ (T.setTop (mkF m pc' Ls S))) (hp : decide (0 ≤ (pc : Int) + o ∧ pc' = if acV cd same = true then ((pc : Int) + o).toNat else pc + 3) = true := by rfl) : own_Gs p e below Φ (T.setTop (mkF m pc Ls (w :: v :: S))) := by
  have q := of_decide_eq_true hp; exact own_st (fun t k => Jvm.RoadKit.acmp (g := mkF m pc Ls (w :: v :: S)) X hx rfl h1 h2 (pc0 := pc) (pc' := pc') (same := same) rfl hd rfl hq q.1 q.2 k) h
theorem own_ldcI {Φ : Outcome → State → Prop} (X : Stand p l e R s m args below meth c T locs cells slots) (hx : p.tables.exec = Jvm.exec) {pc : Nat} (pc' : Nat) {Ls : Array Slot} {S : List Value} {own : String} {index : Nat} {v : Int32} (hown : s.vm.findClass own = some m.cls) (hw : (Jvm.Cond.constant own index v).before args s = true) (hd : decode c.code pc = .ok (.ldc index, 2)) (h : own_Gs p e below Φ (T.setTop (mkF m pc' Ls (.int v :: S)))) (hp : pc + 2 = pc' := by rfl) : own_Gs p e below Φ (T.setTop (mkF m pc Ls S)) := by
  subst hp; exact own_st (fun t k => X.ldcInt hx hown hw (g := mkF m pc Ls S) rfl hd _ k) h
theorem own_ldcwI {Φ : Outcome → State → Prop} (X : Stand p l e R s m args below meth c T locs cells slots) (hx : p.tables.exec = Jvm.exec) {pc : Nat} (pc' : Nat) {Ls : Array Slot} {S : List Value} {own : String} {index : Nat} {v : Int32} (hown : s.vm.findClass own = some m.cls) (hw : (Jvm.Cond.constant own index v).before args s = true) (hd : decode c.code pc = .ok (.ldc_w index, 3)) (h : own_Gs p e below Φ (T.setTop (mkF m pc' Ls (.int v :: S)))) (hp : pc + 3 = pc' := by rfl) : own_Gs p e below Φ (T.setTop (mkF m pc Ls S)) := by
  subst hp; exact own_st (fun t k => X.ldcwInt hx hown hw (g := mkF m pc Ls S) rfl hd _ k) h
theorem own_ldcL {Φ : Outcome → State → Prop} (X : Stand p l e R s m args below meth c T locs cells slots) (hx : p.tables.exec = Jvm.exec) {pc : Nat} (pc' : Nat) {Ls : Array Slot} {S : List Value} {own : String} {index : Nat} {v : Int64} (hown : s.vm.findClass own = some m.cls) (hw : (Jvm.Cond.constantLong own index v).before args s = true) (hd : decode c.code pc = .ok (.ldc2_w index, 3)) (h : own_Gs p e below Φ (T.setTop (mkF m pc' Ls (.long v :: S)))) (hp : pc + 3 = pc' := by rfl) : own_Gs p e below Φ (T.setTop (mkF m pc Ls S)) := by
  subst hp; exact own_st (fun t k => X.ldc2Long hx hown hw (g := mkF m pc Ls S) rfl hd _ k) h
theorem own_pop2L {Φ : Outcome → State → Prop} (X : Stand p l e R s m args below meth c T locs cells slots) (hx : p.tables.exec = Jvm.exec) {pc : Nat} (pc' : Nat) {Ls : Array Slot} {S : List Value} {x : Int64} (hd : decode c.code pc = .ok (.pop2, 1)) (h : own_Gs p e below Φ (T.setTop (mkF m pc' Ls S))) (hp : pc + 1 = pc' := by rfl) : own_Gs p e below Φ (T.setTop (mkF m pc Ls (.long x :: S))) := by
  subst hp
  refine own_st (fun t k => ?_) h
  show Steps p.tables e below (T.setTop { method := m, pc := pc, locals := Ls, stack := .long x :: S, locked := none }) _
  jvm_step X.here [X.here.top, hx, hd, Value.category]
  exact k
-- end of steps
theorem own_leafI {z w : Int32} (h : z = w) : some (Value.int z) = some (Value.int w) := by rw [h]
theorem own_leafJ {z w : Int64} (h : z = w) : some (Value.long z) = some (Value.long w) := by rw [h]
theorem own_leafR {z w : Addr} (h : z = w) : some (Value.ref z) = some (Value.ref w) := by rw [h]
theorem own_selfsel {Z s : State} {a0 args : Array Value} {y : MethodName} {n : Nat} (hZ : Z.Warmed39 s.vm) (wi : (Jvm.Cond.instantiable y.cls n).before a0 Z = true) (wm : (Jvm.Cond.instanceMethod y).before a0 Z = true) (wp : (Jvm.Cond.privateMethod y).before a0 Z = true) (hy : y.cls ≠ "java/lang/invoke/MethodHandle" ∧ y.cls ≠ "java/lang/invoke/VarHandle") : (Jvm.Cond.selects y.cls y y).before args s = true := by
  have wi' : (Jvm.Cond.instantiable y.cls n).before args s = true := mvT hZ wi
  obtain ⟨c, k, h1, h2, h3, h4, h5, h6⟩ := Cond.instantiable_spec wi'
  exact selects_self_of_private h1 h2 (by simp only [Bool.or_eq_false_iff] at h4; exact h4.1) (Cond.privateMethod_at (mvP hZ wp (args := #[]))) (mvT hZ wm) hy
theorem own_sta {Z : State} {a0 : Array Value} {C n d K : String} (hx : (Jvm.Cond.exactly (Term.static C n d) K).value a0 Z none Z [] = some true) (hi : (Jvm.Cond.initializedFor C n d).before a0 Z = true ∨ ((Jvm.Cond.initialized C).before a0 Z = true ∧ (Jvm.Cond.laysStatic C n d).before a0 Z = true)) :
    ∃ a : Addr, (Term.static C n d).eval a0 Z none [] Z = some (.ref a) ∧ Sta Z Z.heap C n d (.ref a) ∧ Exa Z Z.heap a K := by
  obtain ⟨a, ha⟩ := exa_v hx
  exact ⟨a, ha, Sta.start ha hi, Exa.start ha hx⟩
theorem own_fldI {Z : State} {a0 : Array Value} {t : Term} {a : Addr} {C n d : String} {k : Int32} (ev : t.eval a0 Z none [] Z = some (.ref a)) (h : (Jvm.Cond.eq (Term.field t C n d) (Term.int k)).value a0 Z none Z [] = some true) : Fld Z Z.heap a C n d (.int k) := by
  refine Fld.start ?_
  rw [← fld_at (args := a0) (first := Z) (o := none) (idx := []) ev]
  obtain ⟨x, y, h1, h2, h3, h4⟩ := cmp_v (Or.inl h)
  rw [Term.int_eval] at h2
  cases h2
  obtain ⟨z, rfl⟩ := h4
  have q : (Jvm.Cond.eq (Term.field t C n d) (Term.int k)).value a0 Z none Z [] = some (decide (z = k)) := Cond.eq_ints h1 (Term.int_eval k)
  rw [h1, gotT q h]
end Own
theorem own_d1_0 : decode prog_31_method_3_code 0 = .ok (.aload_n 0, 1) := by decide +kernel
theorem own_d1_1 : decode prog_31_method_3_code 1 = .ok (.arraylength, 1) := by decide +kernel
theorem own_d1_2 : decode prog_31_method_3_code 2 = .ok (.newarray .long, 2) := by decide +kernel
theorem own_d1_4 : decode prog_31_method_3_code 4 = .ok (.astore_n 1, 1) := by decide +kernel
theorem own_d1_5 : decode prog_31_method_3_code 5 = .ok (.lconst 0, 1) := by decide +kernel
theorem own_d1_6 : decode prog_31_method_3_code 6 = .ok (.lstore_n 2, 1) := by decide +kernel
theorem own_d1_7 : decode prog_31_method_3_code 7 = .ok (.iconst 0, 1) := by decide +kernel
theorem own_d1_8 : decode prog_31_method_3_code 8 = .ok (.istore 4, 2) := by decide +kernel
theorem own_d1_10 : decode prog_31_method_3_code 10 = .ok (.iload 4, 2) := by decide +kernel
theorem own_d1_12 : decode prog_31_method_3_code 12 = .ok (.aload_n 0, 1) := by decide +kernel
theorem own_d1_13 : decode prog_31_method_3_code 13 = .ok (.arraylength, 1) := by decide +kernel
theorem own_d1_14 : decode prog_31_method_3_code 14 = .ok (.if_icmp .ge 21, 3) := by decide +kernel
theorem own_d1_35 : decode prog_31_method_3_code 35 = .ok (.aload_n 1, 1) := by decide +kernel
theorem own_d1_36 : decode prog_31_method_3_code 36 = .ok (.areturn, 1) := by decide +kernel
theorem own_pn0 : plainName "com/example/loomsand/loomsand/Weights" = true := by first | (simp [plainName, overriddenIn]; done) | decide +kernel
theorem own_ef1n0 (m : MethodId) (o1 : Addr) : entryFrame m #[(.ref o1)] 5 = mkF m 0 #[.val (.ref o1), .unset, .unset, .unset, .unset] [] := by first | (simp [entryFrame, mkF, argsToLocals, Value.category]; done) | rfl
def own_Q1n0 (Z : State) (o1 : Addr) (kk : ClassId) (h0 : Heap) (n0 : Nat) (v : Option Value) (h : Heap) (L : List Loc) : Prop := ∃ bb : Addr, ∃ kb : ClassId, v = some (.ref bb) ∧ Fr n0 L ∧ Keep h0 h [] ∧ h0.size ≤ bb ∧ Arv Z h bb kb .long (0 : Int32) [] (.long (0 : Int64))
set_option maxRecDepth 65536 in
set_option maxHeartbeats 40000000 in
theorem own_rm1n0 (l : Launch) (Z : State) (a0 : Array Value) (hw : ∀ d ∈ tables_1, d.before a0 Z = true) (ws : List Jvm.Cond) (o1 : Addr) (kk : ClassId) (h0 : Heap) (n0 : Nat) (Z0 : n0 ≤ h0.size) (pV1 : Arv Z h0 o1 kk .long (0 : Int32) [] (.long (0 : Int64))) :
    MetFree l (⟨"com/example/loomsand/loomsand/Weights", "runningSums", "([J)[J"⟩ : MethodName) (head1 (Jvm.Cond.code (⟨"com/example/loomsand/loomsand/Weights", "runningSums", "([J)[J"⟩ : MethodName) prog_31_method_3_code 5 (some (.array .long)) :: ws) ({ frames := 0, cells := 1, slots := 0, locals := 0 } : Room)) (fun a U => a = #[(.ref o1)] ∧ Z.Warmed39 U.vm ∧ U.heap = h0) (fun _ _ _ _ _ => True) (fun _ U o U' => ∃ v L, o = .returned v ∧ own_Q1n0 Z o1 kk h0 n0 v U'.heap L ∧ FrameEnd U o U' L ({ frames := 0, cells := 1, slots := 0, locals := 0 } : Room).cells ({ frames := 0, cells := 1, slots := 0, locals := 0 } : Room).slots) := by
  refine MetFree.of_bodySF (plainFor_of_name own_pn0) hisR ?_
  intro p e s m args below meth c s₁ Bd hml0 hP hK
  obtain ⟨rfl, hZ, hh⟩ := hP
  have hx := Bd.exec
  have hby := Bd.bytes
  have hlk := Bd.notSynchronized
  have hrt := Bd.returns
  have hml : c.maxLocals = 5 := hml0
  have hown : s.vm.findClass "com/example/loomsand/loomsand/Weights" = some m.cls := findClass_of_methodNamed Bd.named
  have hnm := (name_of_methodNamed Bd.named Bd.method).1
  have X0 : Stand p l e ({ frames := 0, cells := 1, slots := 0, locals := 0 } : Room) s m #[(.ref o1)] below meth c s₁ [] 0 0 := Stand.of_body Bd
  have e0 : s₁.heap = h0 := by rw [← hh, Bd.state]; rfl
  have N0 := Fr.nil n0
  have KC0 := Keep.refl h0 []
  refine own_in (own_ef1n0 m o1) ?_
  refine own_aloadN X0 hx 1 (hb hby own_d1_0) rfl rfl ?_
  obtain ⟨cl1, Ar1, qv1, S1, M1, H1, G1⟩ := id pV1
  have ln1 := len_of S1 M1
  refine own_st (G' := s₁.setTop (mkF m 2 #[.val (.ref o1), .unset, .unset, .unset, .unset] [(.int (0 : Int32))])) (fun t k => X0.arraylength hx (by rw [e0]; exact Ar1.1) (State.isArrayOf_alike hZ.alike Ar1.2.1) (g := (mkF m 1 #[.val (.ref o1), .unset, .unset, .unset, .unset] [(.ref o1)])) rfl rfl (hb hby own_d1_1) _ (by rw [ln1]; exact k)) ?_
  obtain ⟨T2, h2, k2, X2, e2, E2, A2, st2⟩ := newP X0 hx hZ (hw _ (List.mem_of_getElem? (i := 2) rfl)) e0 (g := (mkF m 2 #[.val (.ref o1), .unset, .unset, .unset, .unset] [(.int (0 : Int32))])) rfl (hb hby own_d1_2) rfl (by decide) (cap := 0) (by decide) (by decide) (by decide) (by decide)
  obtain ⟨b2, g2⟩ : ∃ z, z = h0.size := ⟨_, rfl⟩
  rw [← g2] at A2 st2
  have ne3 : o1 ≠ b2 := Nat.ne_of_lt (Nat.lt_of_lt_of_le pV1.lt (Nat.le_of_eq g2.symm))
  have gt_b2 : n0 ≤ b2 := Nat.le_trans Z0 (Nat.le_of_eq g2.symm)
  have sz_b2 : h0.size ≤ b2 := Nat.le_trans KC0.1 (Nat.le_of_eq g2.symm)
  have V2 : Arv Z h2 b2 k2 .long (0 : Int32) [] (.long (0 : Int64)) := (Arv.new A2 (by decide)).pad (pad_rep [] (.long (0 : Int64)) 0)
  have KC4 := KC0.ext E2
  have Z5 := Nat.le_trans Z0 E2.1
  refine own_st (G' := T2.setTop (mkF m 4 #[.val (.ref o1), .unset, .unset, .unset, .unset] [(.ref b2)])) st2 ?_
  refine own_astoreN X2 hx 5 #[.val (.ref o1), .val (.ref b2), .unset, .unset, .unset] (hb hby own_d1_4) rfl rfl ?_
  refine own_lconst X2 hx 6 (0 : Int64) (hb hby own_d1_5) rfl ?_
  refine own_lstoreN X2 hx 7 #[.val (.ref o1), .val (.ref b2), .val (.long (0 : Int64)), .second, .unset] (hb hby own_d1_6) rfl ?_
  refine own_iconst X2 hx 8 (0 : Int32) (hb hby own_d1_7) rfl ?_
  refine own_istore X2 hx 10 #[.val (.ref o1), .val (.ref b2), .val (.long (0 : Int64)), .second, .val (.int (0 : Int32))] (hb hby own_d1_8) rfl ?_
  refine own_iload X2 hx 12 (hb hby own_d1_10) rfl ?_
  refine own_aloadN X2 hx 13 (hb hby own_d1_12) rfl rfl ?_
  have f6 := (pV1.ext E2)
  obtain ⟨cl7, Ar7, qv7, S7, M7, H7, G7⟩ := id f6
  have ln7 := len_of S7 M7
  refine own_st (G' := T2.setTop (mkF m 14 #[.val (.ref o1), .val (.ref b2), .val (.long (0 : Int64)), .second, .val (.int (0 : Int32))] [(.int (0 : Int32)), (.int (0 : Int32))])) (fun t k => X2.arraylength hx (by rw [e2]; exact Ar7.1) (State.isArrayOf_alike hZ.alike Ar7.2.1) (g := (mkF m 13 #[.val (.ref o1), .val (.ref b2), .val (.long (0 : Int64)), .second, .val (.int (0 : Int32))] [(.ref o1), (.int (0 : Int32))])) rfl rfl (hb hby own_d1_13) _ (by rw [ln7]; exact k)) ?_
  refine own_icmpYes X2 hx 35 (hb hby own_d1_14) (flt (by decide : ¬ ((0 : Int32) < (0 : Int32)))).2.1 ?_
  refine own_aloadN X2 hx 36 (hb hby own_d1_35) rfl rfl ?_
  exact own_retA (z := (.ref b2)) (Q := own_Q1n0 Z o1 kk h0 n0) X2 hx hrt rfl rfl (hb hby own_d1_36) hlk e2 ⟨b2, k2, rfl, N0, KC4, sz_b2, V2⟩ (by decide) (by decide)
theorem own_d1_17 : decode prog_31_method_3_code 17 = .ok (.lload_n 2, 1) := by decide +kernel
theorem own_d1_18 : decode prog_31_method_3_code 18 = .ok (.aload_n 0, 1) := by decide +kernel
theorem own_d1_19 : decode prog_31_method_3_code 19 = .ok (.iload 4, 2) := by decide +kernel
theorem own_d1_21 : decode prog_31_method_3_code 21 = .ok (.laload, 1) := by decide +kernel
theorem own_d1_22 : decode prog_31_method_3_code 22 = .ok (.ladd, 1) := by decide +kernel
theorem own_d1_23 : decode prog_31_method_3_code 23 = .ok (.lstore_n 2, 1) := by decide +kernel
theorem own_d1_24 : decode prog_31_method_3_code 24 = .ok (.aload_n 1, 1) := by decide +kernel
theorem own_d1_25 : decode prog_31_method_3_code 25 = .ok (.iload 4, 2) := by decide +kernel
theorem own_d1_27 : decode prog_31_method_3_code 27 = .ok (.lload_n 2, 1) := by decide +kernel
theorem own_d1_28 : decode prog_31_method_3_code 28 = .ok (.lastore, 1) := by decide +kernel
theorem own_d1_29 : decode prog_31_method_3_code 29 = .ok (.iinc 4 1, 3) := by decide +kernel
theorem own_d1_32 : decode prog_31_method_3_code 32 = .ok (.goto (-22), 3) := by decide +kernel
theorem own_ef1n1 (m : MethodId) (o1 : Addr) : entryFrame m #[(.ref o1)] 5 = mkF m 0 #[.val (.ref o1), .unset, .unset, .unset, .unset] [] := by first | (simp [entryFrame, mkF, argsToLocals, Value.category]; done) | rfl
def own_Q1n1 (Z : State) (o1 : Addr) (kk : ClassId) (x0 : Int64) (h0 : Heap) (n0 : Nat) (v : Option Value) (h : Heap) (L : List Loc) : Prop := ∃ bb : Addr, ∃ kb : ClassId, v = some (.ref bb) ∧ Fr n0 L ∧ Keep h0 h [] ∧ h0.size ≤ bb ∧ Arv Z h bb kb .long (1 : Int32) [(.long ((0 : Int64) + x0))] (.long (0 : Int64))
set_option maxRecDepth 65536 in
set_option maxHeartbeats 40000000 in
theorem own_rm1n1 (l : Launch) (Z : State) (a0 : Array Value) (hw : ∀ d ∈ tables_1, d.before a0 Z = true) (ws : List Jvm.Cond) (o1 : Addr) (kk : ClassId) (x0 : Int64) (h0 : Heap) (n0 : Nat) (Z0 : n0 ≤ h0.size) (pV1 : Arv Z h0 o1 kk .long (1 : Int32) [(.long x0)] (.long (0 : Int64))) :
    MetFree l (⟨"com/example/loomsand/loomsand/Weights", "runningSums", "([J)[J"⟩ : MethodName) (head1 (Jvm.Cond.code (⟨"com/example/loomsand/loomsand/Weights", "runningSums", "([J)[J"⟩ : MethodName) prog_31_method_3_code 5 (some (.array .long)) :: ws) ({ frames := 0, cells := 1, slots := 1, locals := 0 } : Room)) (fun a U => a = #[(.ref o1)] ∧ Z.Warmed39 U.vm ∧ U.heap = h0) (fun _ _ _ _ _ => True) (fun _ U o U' => ∃ v L, o = .returned v ∧ own_Q1n1 Z o1 kk x0 h0 n0 v U'.heap L ∧ FrameEnd U o U' L ({ frames := 0, cells := 1, slots := 1, locals := 0 } : Room).cells ({ frames := 0, cells := 1, slots := 1, locals := 0 } : Room).slots) := by
  refine MetFree.of_bodySF (plainFor_of_name own_pn0) hisR ?_
  intro p e s m args below meth c s₁ Bd hml0 hP hK
  obtain ⟨rfl, hZ, hh⟩ := hP
  have hx := Bd.exec
  have hby := Bd.bytes
  have hlk := Bd.notSynchronized
  have hrt := Bd.returns
  have hml : c.maxLocals = 5 := hml0
  have hown : s.vm.findClass "com/example/loomsand/loomsand/Weights" = some m.cls := findClass_of_methodNamed Bd.named
  have hnm := (name_of_methodNamed Bd.named Bd.method).1
  have X0 : Stand p l e ({ frames := 0, cells := 1, slots := 1, locals := 0 } : Room) s m #[(.ref o1)] below meth c s₁ [] 0 0 := Stand.of_body Bd
  have e0 : s₁.heap = h0 := by rw [← hh, Bd.state]; rfl
  have N0 := Fr.nil n0
  have KC0 := Keep.refl h0 []
  refine own_in (own_ef1n1 m o1) ?_
  refine own_aloadN X0 hx 1 (hb hby own_d1_0) rfl rfl ?_
  obtain ⟨cl1, Ar1, qv1, S1, M1, H1, G1⟩ := id pV1
  have ln1 := len_of S1 M1
  refine own_st (G' := s₁.setTop (mkF m 2 #[.val (.ref o1), .unset, .unset, .unset, .unset] [(.int (1 : Int32))])) (fun t k => X0.arraylength hx (by rw [e0]; exact Ar1.1) (State.isArrayOf_alike hZ.alike Ar1.2.1) (g := (mkF m 1 #[.val (.ref o1), .unset, .unset, .unset, .unset] [(.ref o1)])) rfl rfl (hb hby own_d1_1) _ (by rw [ln1]; exact k)) ?_
  obtain ⟨T2, h2, k2, X2, e2, E2, A2, st2⟩ := newP X0 hx hZ (hw _ (List.mem_of_getElem? (i := 2) rfl)) e0 (g := (mkF m 2 #[.val (.ref o1), .unset, .unset, .unset, .unset] [(.int (1 : Int32))])) rfl (hb hby own_d1_2) rfl (by decide) (cap := 1) (by decide) (by decide) (by decide) (by decide)
  obtain ⟨b2, g2⟩ : ∃ z, z = h0.size := ⟨_, rfl⟩
  rw [← g2] at A2 st2
  have ne3 : o1 ≠ b2 := Nat.ne_of_lt (Nat.lt_of_lt_of_le pV1.lt (Nat.le_of_eq g2.symm))
  have gt_b2 : n0 ≤ b2 := Nat.le_trans Z0 (Nat.le_of_eq g2.symm)
  have sz_b2 : h0.size ≤ b2 := Nat.le_trans KC0.1 (Nat.le_of_eq g2.symm)
  have V2 : Arv Z h2 b2 k2 .long (1 : Int32) [(.long (0 : Int64))] (.long (0 : Int64)) := (Arv.new A2 (by decide)).pad (pad_rep [] (.long (0 : Int64)) 1)
  have KC4 := KC0.ext E2
  have Z5 := Nat.le_trans Z0 E2.1
  refine own_st (G' := T2.setTop (mkF m 4 #[.val (.ref o1), .unset, .unset, .unset, .unset] [(.ref b2)])) st2 ?_
  refine own_astoreN X2 hx 5 #[.val (.ref o1), .val (.ref b2), .unset, .unset, .unset] (hb hby own_d1_4) rfl rfl ?_
  refine own_lconst X2 hx 6 (0 : Int64) (hb hby own_d1_5) rfl ?_
  refine own_lstoreN X2 hx 7 #[.val (.ref o1), .val (.ref b2), .val (.long (0 : Int64)), .second, .unset] (hb hby own_d1_6) rfl ?_
  refine own_iconst X2 hx 8 (0 : Int32) (hb hby own_d1_7) rfl ?_
  refine own_istore X2 hx 10 #[.val (.ref o1), .val (.ref b2), .val (.long (0 : Int64)), .second, .val (.int (0 : Int32))] (hb hby own_d1_8) rfl ?_
  refine own_iload X2 hx 12 (hb hby own_d1_10) rfl ?_
  refine own_aloadN X2 hx 13 (hb hby own_d1_12) rfl rfl ?_
  have f6 := (pV1.ext E2)
  obtain ⟨cl7, Ar7, qv7, S7, M7, H7, G7⟩ := id f6
  have ln7 := len_of S7 M7
  refine own_st (G' := T2.setTop (mkF m 14 #[.val (.ref o1), .val (.ref b2), .val (.long (0 : Int64)), .second, .val (.int (0 : Int32))] [(.int (1 : Int32)), (.int (0 : Int32))])) (fun t k => X2.arraylength hx (by rw [e2]; exact Ar7.1) (State.isArrayOf_alike hZ.alike Ar7.2.1) (g := (mkF m 13 #[.val (.ref o1), .val (.ref b2), .val (.long (0 : Int64)), .second, .val (.int (0 : Int32))] [(.ref o1), (.int (0 : Int32))])) rfl rfl (hb hby own_d1_13) _ (by rw [ln7]; exact k)) ?_
  refine own_icmpNo X2 hx 17 (hb hby own_d1_14) (tlt (by decide : (0 : Int32) < (1 : Int32))).2.1 ?_
  refine own_lloadN X2 hx 18 (hb hby own_d1_17) rfl ?_
  refine own_aloadN X2 hx 19 (hb hby own_d1_18) rfl rfl ?_
  refine own_iload X2 hx 21 (hb hby own_d1_19) rfl ?_
  obtain ⟨cl8, Ar8, qv8, S8, M8, H8, G8⟩ := id f6
  have hin8 : ¬ ((0 : Int32) < 0 ∨ cl8.slots.size ≤ ((0 : Int32)).toNatClampNeg) := inb_of S8 ⟨by decide, by decide⟩
  refine own_st (G' := T2.setTop (mkF m 22 #[.val (.ref o1), .val (.ref b2), .val (.long (0 : Int64)), .second, .val (.int (0 : Int32))] [(.long x0), (.long (0 : Int64))])) (fun t k => X2.laload hx (j := (0 : Int32)) (v := (.long x0)) (by rw [e2]; exact Ar8.1) (State.isArrayOf_alike hZ.alike Ar8.2.1) Ar8.2.2 hin8 (H8.at hin8 rfl) (g := (mkF m 21 #[.val (.ref o1), .val (.ref b2), .val (.long (0 : Int64)), .second, .val (.int (0 : Int32))] [(.int (0 : Int32)), (.ref o1), (.long (0 : Int64))])) rfl rfl (hb hby own_d1_21) _ k) ?_
  refine own_ladd X2 hx 23 (hb hby own_d1_22) ?_
  refine own_lstoreN X2 hx 24 #[.val (.ref o1), .val (.ref b2), .val (.long ((0 : Int64) + x0)), .second, .val (.int (0 : Int32))] (hb hby own_d1_23) rfl ?_
  refine own_aloadN X2 hx 25 (hb hby own_d1_24) rfl rfl ?_
  refine own_iload X2 hx 27 (hb hby own_d1_25) rfl ?_
  refine own_lloadN X2 hx 28 (hb hby own_d1_27) rfl ?_
  obtain ⟨cl9, Ar9, qv9, S9, M9, H9, G9⟩ := id V2
  have hin9 : ¬ ((0 : Int32) < 0 ∨ cl9.slots.size ≤ ((0 : Int32)).toNatClampNeg) := inb_of S9 ⟨by decide, by decide⟩
  obtain ⟨T9, h9, X9, e9, W9, st9⟩ := stJ X2 hx hZ e2 Ar9 (j := (0 : Int32)) hin9 (g := (mkF m 28 #[.val (.ref o1), .val (.ref b2), .val (.long ((0 : Int64) + x0)), .second, .val (.int (0 : Int32))] [(.long ((0 : Int64) + x0)), (.int (0 : Int32)), (.ref b2)])) rfl rfl (hb hby own_d1_28)
  have V9 : Arv Z h9 b2 k2 .long (1 : Int32) [(.long ((0 : Int64) + x0))] (.long (0 : Int64)) := Arv.set Ar9 qv9 S9 M9 H9 G9 rfl W9 0 rfl (Nat.le_of_ble_eq_true rfl)
  have N9 := Fr.snoc X9 N0 gt_b2
  have KC10 := KC4.wr W9 (Or.inr sz_b2)
  have Z11 := Nat.le_trans Z5 (Nat.le_of_eq W9.size.symm)
  refine own_st (G' := T9.setTop (mkF m 29 #[.val (.ref o1), .val (.ref b2), .val (.long ((0 : Int64) + x0)), .second, .val (.int (0 : Int32))] [])) st9 ?_
  refine own_iinc X9 hx 32 (1 : Int32) #[.val (.ref o1), .val (.ref b2), .val (.long ((0 : Int64) + x0)), .second, .val (.int (1 : Int32))] (hb hby own_d1_29) rfl rfl rfl ?_
  refine own_goto X9 hx 10 (hb hby own_d1_32) ?_
  refine own_iload X9 hx 12 (hb hby own_d1_10) rfl ?_
  refine own_aloadN X9 hx 13 (hb hby own_d1_12) rfl rfl ?_
  have f12 := (f6.other W9 ne3)
  obtain ⟨cl13, Ar13, qv13, S13, M13, H13, G13⟩ := id f12
  have ln13 := len_of S13 M13
  refine own_st (G' := T9.setTop (mkF m 14 #[.val (.ref o1), .val (.ref b2), .val (.long ((0 : Int64) + x0)), .second, .val (.int (1 : Int32))] [(.int (1 : Int32)), (.int (1 : Int32))])) (fun t k => X9.arraylength hx (by rw [e9]; exact Ar13.1) (State.isArrayOf_alike hZ.alike Ar13.2.1) (g := (mkF m 13 #[.val (.ref o1), .val (.ref b2), .val (.long ((0 : Int64) + x0)), .second, .val (.int (1 : Int32))] [(.ref o1), (.int (1 : Int32))])) rfl rfl (hb hby own_d1_13) _ (by rw [ln13]; exact k)) ?_
  refine own_icmpYes X9 hx 35 (hb hby own_d1_14) (flt (by decide : ¬ ((1 : Int32) < (1 : Int32)))).2.1 ?_
  refine own_aloadN X9 hx 36 (hb hby own_d1_35) rfl rfl ?_
  exact own_retA (z := (.ref b2)) (Q := own_Q1n1 Z o1 kk x0 h0 n0) X9 hx hrt rfl rfl (hb hby own_d1_36) hlk e9 ⟨b2, k2, rfl, N9, KC10, sz_b2, V9⟩ (by decide) (by decide)
theorem own_ef1n2 (m : MethodId) (o1 : Addr) : entryFrame m #[(.ref o1)] 5 = mkF m 0 #[.val (.ref o1), .unset, .unset, .unset, .unset] [] := by first | (simp [entryFrame, mkF, argsToLocals, Value.category]; done) | rfl
def own_Q1n2 (Z : State) (o1 : Addr) (kk : ClassId) (x0 : Int64) (x1 : Int64) (h0 : Heap) (n0 : Nat) (v : Option Value) (h : Heap) (L : List Loc) : Prop := ∃ bb : Addr, ∃ kb : ClassId, v = some (.ref bb) ∧ Fr n0 L ∧ Keep h0 h [] ∧ h0.size ≤ bb ∧ Arv Z h bb kb .long (2 : Int32) [(.long ((0 : Int64) + x0)), (.long (((0 : Int64) + x0) + x1))] (.long (0 : Int64))
set_option maxRecDepth 65536 in
set_option maxHeartbeats 40000000 in
theorem own_rm1n2 (l : Launch) (Z : State) (a0 : Array Value) (hw : ∀ d ∈ tables_1, d.before a0 Z = true) (ws : List Jvm.Cond) (o1 : Addr) (kk : ClassId) (x0 : Int64) (x1 : Int64) (h0 : Heap) (n0 : Nat) (Z0 : n0 ≤ h0.size) (pV1 : Arv Z h0 o1 kk .long (2 : Int32) [(.long x0), (.long x1)] (.long (0 : Int64))) :
    MetFree l (⟨"com/example/loomsand/loomsand/Weights", "runningSums", "([J)[J"⟩ : MethodName) (head1 (Jvm.Cond.code (⟨"com/example/loomsand/loomsand/Weights", "runningSums", "([J)[J"⟩ : MethodName) prog_31_method_3_code 5 (some (.array .long)) :: ws) ({ frames := 0, cells := 1, slots := 2, locals := 0 } : Room)) (fun a U => a = #[(.ref o1)] ∧ Z.Warmed39 U.vm ∧ U.heap = h0) (fun _ _ _ _ _ => True) (fun _ U o U' => ∃ v L, o = .returned v ∧ own_Q1n2 Z o1 kk x0 x1 h0 n0 v U'.heap L ∧ FrameEnd U o U' L ({ frames := 0, cells := 1, slots := 2, locals := 0 } : Room).cells ({ frames := 0, cells := 1, slots := 2, locals := 0 } : Room).slots) := by
  refine MetFree.of_bodySF (plainFor_of_name own_pn0) hisR ?_
  intro p e s m args below meth c s₁ Bd hml0 hP hK
  obtain ⟨rfl, hZ, hh⟩ := hP
  have hx := Bd.exec
  have hby := Bd.bytes
  have hlk := Bd.notSynchronized
  have hrt := Bd.returns
  have hml : c.maxLocals = 5 := hml0
  have hown : s.vm.findClass "com/example/loomsand/loomsand/Weights" = some m.cls := findClass_of_methodNamed Bd.named
  have hnm := (name_of_methodNamed Bd.named Bd.method).1
  have X0 : Stand p l e ({ frames := 0, cells := 1, slots := 2, locals := 0 } : Room) s m #[(.ref o1)] below meth c s₁ [] 0 0 := Stand.of_body Bd
  have e0 : s₁.heap = h0 := by rw [← hh, Bd.state]; rfl
  have N0 := Fr.nil n0
  have KC0 := Keep.refl h0 []
  refine own_in (own_ef1n2 m o1) ?_
  refine own_aloadN X0 hx 1 (hb hby own_d1_0) rfl rfl ?_
  obtain ⟨cl1, Ar1, qv1, S1, M1, H1, G1⟩ := id pV1
  have ln1 := len_of S1 M1
  refine own_st (G' := s₁.setTop (mkF m 2 #[.val (.ref o1), .unset, .unset, .unset, .unset] [(.int (2 : Int32))])) (fun t k => X0.arraylength hx (by rw [e0]; exact Ar1.1) (State.isArrayOf_alike hZ.alike Ar1.2.1) (g := (mkF m 1 #[.val (.ref o1), .unset, .unset, .unset, .unset] [(.ref o1)])) rfl rfl (hb hby own_d1_1) _ (by rw [ln1]; exact k)) ?_
  obtain ⟨T2, h2, k2, X2, e2, E2, A2, st2⟩ := newP X0 hx hZ (hw _ (List.mem_of_getElem? (i := 2) rfl)) e0 (g := (mkF m 2 #[.val (.ref o1), .unset, .unset, .unset, .unset] [(.int (2 : Int32))])) rfl (hb hby own_d1_2) rfl (by decide) (cap := 2) (by decide) (by decide) (by decide) (by decide)
  obtain ⟨b2, g2⟩ : ∃ z, z = h0.size := ⟨_, rfl⟩
  rw [← g2] at A2 st2
  have ne3 : o1 ≠ b2 := Nat.ne_of_lt (Nat.lt_of_lt_of_le pV1.lt (Nat.le_of_eq g2.symm))
  have gt_b2 : n0 ≤ b2 := Nat.le_trans Z0 (Nat.le_of_eq g2.symm)
  have sz_b2 : h0.size ≤ b2 := Nat.le_trans KC0.1 (Nat.le_of_eq g2.symm)
  have V2 : Arv Z h2 b2 k2 .long (2 : Int32) [(.long (0 : Int64)), (.long (0 : Int64))] (.long (0 : Int64)) := (Arv.new A2 (by decide)).pad (pad_rep [] (.long (0 : Int64)) 2)
  have KC4 := KC0.ext E2
  have Z5 := Nat.le_trans Z0 E2.1
  refine own_st (G' := T2.setTop (mkF m 4 #[.val (.ref o1), .unset, .unset, .unset, .unset] [(.ref b2)])) st2 ?_
  refine own_astoreN X2 hx 5 #[.val (.ref o1), .val (.ref b2), .unset, .unset, .unset] (hb hby own_d1_4) rfl rfl ?_
  refine own_lconst X2 hx 6 (0 : Int64) (hb hby own_d1_5) rfl ?_
  refine own_lstoreN X2 hx 7 #[.val (.ref o1), .val (.ref b2), .val (.long (0 : Int64)), .second, .unset] (hb hby own_d1_6) rfl ?_
  refine own_iconst X2 hx 8 (0 : Int32) (hb hby own_d1_7) rfl ?_
  refine own_istore X2 hx 10 #[.val (.ref o1), .val (.ref b2), .val (.long (0 : Int64)), .second, .val (.int (0 : Int32))] (hb hby own_d1_8) rfl ?_
  refine own_iload X2 hx 12 (hb hby own_d1_10) rfl ?_
  refine own_aloadN X2 hx 13 (hb hby own_d1_12) rfl rfl ?_
  have f6 := (pV1.ext E2)
  obtain ⟨cl7, Ar7, qv7, S7, M7, H7, G7⟩ := id f6
  have ln7 := len_of S7 M7
  refine own_st (G' := T2.setTop (mkF m 14 #[.val (.ref o1), .val (.ref b2), .val (.long (0 : Int64)), .second, .val (.int (0 : Int32))] [(.int (2 : Int32)), (.int (0 : Int32))])) (fun t k => X2.arraylength hx (by rw [e2]; exact Ar7.1) (State.isArrayOf_alike hZ.alike Ar7.2.1) (g := (mkF m 13 #[.val (.ref o1), .val (.ref b2), .val (.long (0 : Int64)), .second, .val (.int (0 : Int32))] [(.ref o1), (.int (0 : Int32))])) rfl rfl (hb hby own_d1_13) _ (by rw [ln7]; exact k)) ?_
  refine own_icmpNo X2 hx 17 (hb hby own_d1_14) (tlt (by decide : (0 : Int32) < (2 : Int32))).2.1 ?_
  refine own_lloadN X2 hx 18 (hb hby own_d1_17) rfl ?_
  refine own_aloadN X2 hx 19 (hb hby own_d1_18) rfl rfl ?_
  refine own_iload X2 hx 21 (hb hby own_d1_19) rfl ?_
  obtain ⟨cl8, Ar8, qv8, S8, M8, H8, G8⟩ := id f6
  have hin8 : ¬ ((0 : Int32) < 0 ∨ cl8.slots.size ≤ ((0 : Int32)).toNatClampNeg) := inb_of S8 ⟨by decide, by decide⟩
  refine own_st (G' := T2.setTop (mkF m 22 #[.val (.ref o1), .val (.ref b2), .val (.long (0 : Int64)), .second, .val (.int (0 : Int32))] [(.long x0), (.long (0 : Int64))])) (fun t k => X2.laload hx (j := (0 : Int32)) (v := (.long x0)) (by rw [e2]; exact Ar8.1) (State.isArrayOf_alike hZ.alike Ar8.2.1) Ar8.2.2 hin8 (H8.at hin8 rfl) (g := (mkF m 21 #[.val (.ref o1), .val (.ref b2), .val (.long (0 : Int64)), .second, .val (.int (0 : Int32))] [(.int (0 : Int32)), (.ref o1), (.long (0 : Int64))])) rfl rfl (hb hby own_d1_21) _ k) ?_
  refine own_ladd X2 hx 23 (hb hby own_d1_22) ?_
  refine own_lstoreN X2 hx 24 #[.val (.ref o1), .val (.ref b2), .val (.long ((0 : Int64) + x0)), .second, .val (.int (0 : Int32))] (hb hby own_d1_23) rfl ?_
  refine own_aloadN X2 hx 25 (hb hby own_d1_24) rfl rfl ?_
  refine own_iload X2 hx 27 (hb hby own_d1_25) rfl ?_
  refine own_lloadN X2 hx 28 (hb hby own_d1_27) rfl ?_
  obtain ⟨cl9, Ar9, qv9, S9, M9, H9, G9⟩ := id V2
  have hin9 : ¬ ((0 : Int32) < 0 ∨ cl9.slots.size ≤ ((0 : Int32)).toNatClampNeg) := inb_of S9 ⟨by decide, by decide⟩
  obtain ⟨T9, h9, X9, e9, W9, st9⟩ := stJ X2 hx hZ e2 Ar9 (j := (0 : Int32)) hin9 (g := (mkF m 28 #[.val (.ref o1), .val (.ref b2), .val (.long ((0 : Int64) + x0)), .second, .val (.int (0 : Int32))] [(.long ((0 : Int64) + x0)), (.int (0 : Int32)), (.ref b2)])) rfl rfl (hb hby own_d1_28)
  have V9 : Arv Z h9 b2 k2 .long (2 : Int32) [(.long ((0 : Int64) + x0)), (.long (0 : Int64))] (.long (0 : Int64)) := Arv.set Ar9 qv9 S9 M9 H9 G9 rfl W9 0 rfl (Nat.le_of_ble_eq_true rfl)
  have N9 := Fr.snoc X9 N0 gt_b2
  have KC10 := KC4.wr W9 (Or.inr sz_b2)
  have Z11 := Nat.le_trans Z5 (Nat.le_of_eq W9.size.symm)
  refine own_st (G' := T9.setTop (mkF m 29 #[.val (.ref o1), .val (.ref b2), .val (.long ((0 : Int64) + x0)), .second, .val (.int (0 : Int32))] [])) st9 ?_
  refine own_iinc X9 hx 32 (1 : Int32) #[.val (.ref o1), .val (.ref b2), .val (.long ((0 : Int64) + x0)), .second, .val (.int (1 : Int32))] (hb hby own_d1_29) rfl rfl rfl ?_
  refine own_goto X9 hx 10 (hb hby own_d1_32) ?_
  refine own_iload X9 hx 12 (hb hby own_d1_10) rfl ?_
  refine own_aloadN X9 hx 13 (hb hby own_d1_12) rfl rfl ?_
  have f12 := (f6.other W9 ne3)
  obtain ⟨cl13, Ar13, qv13, S13, M13, H13, G13⟩ := id f12
  have ln13 := len_of S13 M13
  refine own_st (G' := T9.setTop (mkF m 14 #[.val (.ref o1), .val (.ref b2), .val (.long ((0 : Int64) + x0)), .second, .val (.int (1 : Int32))] [(.int (2 : Int32)), (.int (1 : Int32))])) (fun t k => X9.arraylength hx (by rw [e9]; exact Ar13.1) (State.isArrayOf_alike hZ.alike Ar13.2.1) (g := (mkF m 13 #[.val (.ref o1), .val (.ref b2), .val (.long ((0 : Int64) + x0)), .second, .val (.int (1 : Int32))] [(.ref o1), (.int (1 : Int32))])) rfl rfl (hb hby own_d1_13) _ (by rw [ln13]; exact k)) ?_
  refine own_icmpNo X9 hx 17 (hb hby own_d1_14) (tlt (by decide : (1 : Int32) < (2 : Int32))).2.1 ?_
  refine own_lloadN X9 hx 18 (hb hby own_d1_17) rfl ?_
  refine own_aloadN X9 hx 19 (hb hby own_d1_18) rfl rfl ?_
  refine own_iload X9 hx 21 (hb hby own_d1_19) rfl ?_
  obtain ⟨cl14, Ar14, qv14, S14, M14, H14, G14⟩ := id f12
  have hin14 : ¬ ((1 : Int32) < 0 ∨ cl14.slots.size ≤ ((1 : Int32)).toNatClampNeg) := inb_of S14 ⟨by decide, by decide⟩
  refine own_st (G' := T9.setTop (mkF m 22 #[.val (.ref o1), .val (.ref b2), .val (.long ((0 : Int64) + x0)), .second, .val (.int (1 : Int32))] [(.long x1), (.long ((0 : Int64) + x0))])) (fun t k => X9.laload hx (j := (1 : Int32)) (v := (.long x1)) (by rw [e9]; exact Ar14.1) (State.isArrayOf_alike hZ.alike Ar14.2.1) Ar14.2.2 hin14 (H14.at hin14 rfl) (g := (mkF m 21 #[.val (.ref o1), .val (.ref b2), .val (.long ((0 : Int64) + x0)), .second, .val (.int (1 : Int32))] [(.int (1 : Int32)), (.ref o1), (.long ((0 : Int64) + x0))])) rfl rfl (hb hby own_d1_21) _ k) ?_
  refine own_ladd X9 hx 23 (hb hby own_d1_22) ?_
  refine own_lstoreN X9 hx 24 #[.val (.ref o1), .val (.ref b2), .val (.long (((0 : Int64) + x0) + x1)), .second, .val (.int (1 : Int32))] (hb hby own_d1_23) rfl ?_
  refine own_aloadN X9 hx 25 (hb hby own_d1_24) rfl rfl ?_
  refine own_iload X9 hx 27 (hb hby own_d1_25) rfl ?_
  refine own_lloadN X9 hx 28 (hb hby own_d1_27) rfl ?_
  obtain ⟨cl15, Ar15, qv15, S15, M15, H15, G15⟩ := id V9
  have hin15 : ¬ ((1 : Int32) < 0 ∨ cl15.slots.size ≤ ((1 : Int32)).toNatClampNeg) := inb_of S15 ⟨by decide, by decide⟩
  obtain ⟨T15, h15, X15, e15, W15, st15⟩ := stJ X9 hx hZ e9 Ar15 (j := (1 : Int32)) hin15 (g := (mkF m 28 #[.val (.ref o1), .val (.ref b2), .val (.long (((0 : Int64) + x0) + x1)), .second, .val (.int (1 : Int32))] [(.long (((0 : Int64) + x0) + x1)), (.int (1 : Int32)), (.ref b2)])) rfl rfl (hb hby own_d1_28)
  have V15 : Arv Z h15 b2 k2 .long (2 : Int32) [(.long ((0 : Int64) + x0)), (.long (((0 : Int64) + x0) + x1))] (.long (0 : Int64)) := Arv.set Ar15 qv15 S15 M15 H15 G15 rfl W15 1 rfl (Nat.le_of_ble_eq_true rfl)
  have N15 := Fr.snoc X15 N9 gt_b2
  have KC16 := KC10.wr W15 (Or.inr sz_b2)
  have Z17 := Nat.le_trans Z11 (Nat.le_of_eq W15.size.symm)
  refine own_st (G' := T15.setTop (mkF m 29 #[.val (.ref o1), .val (.ref b2), .val (.long (((0 : Int64) + x0) + x1)), .second, .val (.int (1 : Int32))] [])) st15 ?_
  refine own_iinc X15 hx 32 (1 : Int32) #[.val (.ref o1), .val (.ref b2), .val (.long (((0 : Int64) + x0) + x1)), .second, .val (.int (2 : Int32))] (hb hby own_d1_29) rfl rfl rfl ?_
  refine own_goto X15 hx 10 (hb hby own_d1_32) ?_
  refine own_iload X15 hx 12 (hb hby own_d1_10) rfl ?_
  refine own_aloadN X15 hx 13 (hb hby own_d1_12) rfl rfl ?_
  have f18 := (f12.other W15 ne3)
  obtain ⟨cl19, Ar19, qv19, S19, M19, H19, G19⟩ := id f18
  have ln19 := len_of S19 M19
  refine own_st (G' := T15.setTop (mkF m 14 #[.val (.ref o1), .val (.ref b2), .val (.long (((0 : Int64) + x0) + x1)), .second, .val (.int (2 : Int32))] [(.int (2 : Int32)), (.int (2 : Int32))])) (fun t k => X15.arraylength hx (by rw [e15]; exact Ar19.1) (State.isArrayOf_alike hZ.alike Ar19.2.1) (g := (mkF m 13 #[.val (.ref o1), .val (.ref b2), .val (.long (((0 : Int64) + x0) + x1)), .second, .val (.int (2 : Int32))] [(.ref o1), (.int (2 : Int32))])) rfl rfl (hb hby own_d1_13) _ (by rw [ln19]; exact k)) ?_
  refine own_icmpYes X15 hx 35 (hb hby own_d1_14) (flt (by decide : ¬ ((2 : Int32) < (2 : Int32)))).2.1 ?_
  refine own_aloadN X15 hx 36 (hb hby own_d1_35) rfl rfl ?_
  exact own_retA (z := (.ref b2)) (Q := own_Q1n2 Z o1 kk x0 x1 h0 n0) X15 hx hrt rfl rfl (hb hby own_d1_36) hlk e15 ⟨b2, k2, rfl, N15, KC16, sz_b2, V15⟩ (by decide) (by decide)
theorem own_ef1n3 (m : MethodId) (o1 : Addr) : entryFrame m #[(.ref o1)] 5 = mkF m 0 #[.val (.ref o1), .unset, .unset, .unset, .unset] [] := by first | (simp [entryFrame, mkF, argsToLocals, Value.category]; done) | rfl
def own_Q1n3 (Z : State) (o1 : Addr) (kk : ClassId) (x0 : Int64) (x1 : Int64) (x2 : Int64) (h0 : Heap) (n0 : Nat) (v : Option Value) (h : Heap) (L : List Loc) : Prop := ∃ bb : Addr, ∃ kb : ClassId, v = some (.ref bb) ∧ Fr n0 L ∧ Keep h0 h [] ∧ h0.size ≤ bb ∧ Arv Z h bb kb .long (3 : Int32) [(.long ((0 : Int64) + x0)), (.long (((0 : Int64) + x0) + x1)), (.long ((((0 : Int64) + x0) + x1) + x2))] (.long (0 : Int64))
set_option maxRecDepth 65536 in
set_option maxHeartbeats 40000000 in
theorem own_rm1n3 (l : Launch) (Z : State) (a0 : Array Value) (hw : ∀ d ∈ tables_1, d.before a0 Z = true) (ws : List Jvm.Cond) (o1 : Addr) (kk : ClassId) (x0 : Int64) (x1 : Int64) (x2 : Int64) (h0 : Heap) (n0 : Nat) (Z0 : n0 ≤ h0.size) (pV1 : Arv Z h0 o1 kk .long (3 : Int32) [(.long x0), (.long x1), (.long x2)] (.long (0 : Int64))) :
    MetFree l (⟨"com/example/loomsand/loomsand/Weights", "runningSums", "([J)[J"⟩ : MethodName) (head1 (Jvm.Cond.code (⟨"com/example/loomsand/loomsand/Weights", "runningSums", "([J)[J"⟩ : MethodName) prog_31_method_3_code 5 (some (.array .long)) :: ws) ({ frames := 0, cells := 1, slots := 3, locals := 0 } : Room)) (fun a U => a = #[(.ref o1)] ∧ Z.Warmed39 U.vm ∧ U.heap = h0) (fun _ _ _ _ _ => True) (fun _ U o U' => ∃ v L, o = .returned v ∧ own_Q1n3 Z o1 kk x0 x1 x2 h0 n0 v U'.heap L ∧ FrameEnd U o U' L ({ frames := 0, cells := 1, slots := 3, locals := 0 } : Room).cells ({ frames := 0, cells := 1, slots := 3, locals := 0 } : Room).slots) := by
  refine MetFree.of_bodySF (plainFor_of_name own_pn0) hisR ?_
  intro p e s m args below meth c s₁ Bd hml0 hP hK
  obtain ⟨rfl, hZ, hh⟩ := hP
  have hx := Bd.exec
  have hby := Bd.bytes
  have hlk := Bd.notSynchronized
  have hrt := Bd.returns
  have hml : c.maxLocals = 5 := hml0
  have hown : s.vm.findClass "com/example/loomsand/loomsand/Weights" = some m.cls := findClass_of_methodNamed Bd.named
  have hnm := (name_of_methodNamed Bd.named Bd.method).1
  have X0 : Stand p l e ({ frames := 0, cells := 1, slots := 3, locals := 0 } : Room) s m #[(.ref o1)] below meth c s₁ [] 0 0 := Stand.of_body Bd
  have e0 : s₁.heap = h0 := by rw [← hh, Bd.state]; rfl
  have N0 := Fr.nil n0
  have KC0 := Keep.refl h0 []
  refine own_in (own_ef1n3 m o1) ?_
  refine own_aloadN X0 hx 1 (hb hby own_d1_0) rfl rfl ?_
  obtain ⟨cl1, Ar1, qv1, S1, M1, H1, G1⟩ := id pV1
  have ln1 := len_of S1 M1
  refine own_st (G' := s₁.setTop (mkF m 2 #[.val (.ref o1), .unset, .unset, .unset, .unset] [(.int (3 : Int32))])) (fun t k => X0.arraylength hx (by rw [e0]; exact Ar1.1) (State.isArrayOf_alike hZ.alike Ar1.2.1) (g := (mkF m 1 #[.val (.ref o1), .unset, .unset, .unset, .unset] [(.ref o1)])) rfl rfl (hb hby own_d1_1) _ (by rw [ln1]; exact k)) ?_
  obtain ⟨T2, h2, k2, X2, e2, E2, A2, st2⟩ := newP X0 hx hZ (hw _ (List.mem_of_getElem? (i := 2) rfl)) e0 (g := (mkF m 2 #[.val (.ref o1), .unset, .unset, .unset, .unset] [(.int (3 : Int32))])) rfl (hb hby own_d1_2) rfl (by decide) (cap := 3) (by decide) (by decide) (by decide) (by decide)
  obtain ⟨b2, g2⟩ : ∃ z, z = h0.size := ⟨_, rfl⟩
  rw [← g2] at A2 st2
  have ne3 : o1 ≠ b2 := Nat.ne_of_lt (Nat.lt_of_lt_of_le pV1.lt (Nat.le_of_eq g2.symm))
  have gt_b2 : n0 ≤ b2 := Nat.le_trans Z0 (Nat.le_of_eq g2.symm)
  have sz_b2 : h0.size ≤ b2 := Nat.le_trans KC0.1 (Nat.le_of_eq g2.symm)
  have V2 : Arv Z h2 b2 k2 .long (3 : Int32) [(.long (0 : Int64)), (.long (0 : Int64)), (.long (0 : Int64))] (.long (0 : Int64)) := (Arv.new A2 (by decide)).pad (pad_rep [] (.long (0 : Int64)) 3)
  have KC4 := KC0.ext E2
  have Z5 := Nat.le_trans Z0 E2.1
  refine own_st (G' := T2.setTop (mkF m 4 #[.val (.ref o1), .unset, .unset, .unset, .unset] [(.ref b2)])) st2 ?_
  refine own_astoreN X2 hx 5 #[.val (.ref o1), .val (.ref b2), .unset, .unset, .unset] (hb hby own_d1_4) rfl rfl ?_
  refine own_lconst X2 hx 6 (0 : Int64) (hb hby own_d1_5) rfl ?_
  refine own_lstoreN X2 hx 7 #[.val (.ref o1), .val (.ref b2), .val (.long (0 : Int64)), .second, .unset] (hb hby own_d1_6) rfl ?_
  refine own_iconst X2 hx 8 (0 : Int32) (hb hby own_d1_7) rfl ?_
  refine own_istore X2 hx 10 #[.val (.ref o1), .val (.ref b2), .val (.long (0 : Int64)), .second, .val (.int (0 : Int32))] (hb hby own_d1_8) rfl ?_
  refine own_iload X2 hx 12 (hb hby own_d1_10) rfl ?_
  refine own_aloadN X2 hx 13 (hb hby own_d1_12) rfl rfl ?_
  have f6 := (pV1.ext E2)
  obtain ⟨cl7, Ar7, qv7, S7, M7, H7, G7⟩ := id f6
  have ln7 := len_of S7 M7
  refine own_st (G' := T2.setTop (mkF m 14 #[.val (.ref o1), .val (.ref b2), .val (.long (0 : Int64)), .second, .val (.int (0 : Int32))] [(.int (3 : Int32)), (.int (0 : Int32))])) (fun t k => X2.arraylength hx (by rw [e2]; exact Ar7.1) (State.isArrayOf_alike hZ.alike Ar7.2.1) (g := (mkF m 13 #[.val (.ref o1), .val (.ref b2), .val (.long (0 : Int64)), .second, .val (.int (0 : Int32))] [(.ref o1), (.int (0 : Int32))])) rfl rfl (hb hby own_d1_13) _ (by rw [ln7]; exact k)) ?_
  refine own_icmpNo X2 hx 17 (hb hby own_d1_14) (tlt (by decide : (0 : Int32) < (3 : Int32))).2.1 ?_
  refine own_lloadN X2 hx 18 (hb hby own_d1_17) rfl ?_
  refine own_aloadN X2 hx 19 (hb hby own_d1_18) rfl rfl ?_
  refine own_iload X2 hx 21 (hb hby own_d1_19) rfl ?_
  obtain ⟨cl8, Ar8, qv8, S8, M8, H8, G8⟩ := id f6
  have hin8 : ¬ ((0 : Int32) < 0 ∨ cl8.slots.size ≤ ((0 : Int32)).toNatClampNeg) := inb_of S8 ⟨by decide, by decide⟩
  refine own_st (G' := T2.setTop (mkF m 22 #[.val (.ref o1), .val (.ref b2), .val (.long (0 : Int64)), .second, .val (.int (0 : Int32))] [(.long x0), (.long (0 : Int64))])) (fun t k => X2.laload hx (j := (0 : Int32)) (v := (.long x0)) (by rw [e2]; exact Ar8.1) (State.isArrayOf_alike hZ.alike Ar8.2.1) Ar8.2.2 hin8 (H8.at hin8 rfl) (g := (mkF m 21 #[.val (.ref o1), .val (.ref b2), .val (.long (0 : Int64)), .second, .val (.int (0 : Int32))] [(.int (0 : Int32)), (.ref o1), (.long (0 : Int64))])) rfl rfl (hb hby own_d1_21) _ k) ?_
  refine own_ladd X2 hx 23 (hb hby own_d1_22) ?_
  refine own_lstoreN X2 hx 24 #[.val (.ref o1), .val (.ref b2), .val (.long ((0 : Int64) + x0)), .second, .val (.int (0 : Int32))] (hb hby own_d1_23) rfl ?_
  refine own_aloadN X2 hx 25 (hb hby own_d1_24) rfl rfl ?_
  refine own_iload X2 hx 27 (hb hby own_d1_25) rfl ?_
  refine own_lloadN X2 hx 28 (hb hby own_d1_27) rfl ?_
  obtain ⟨cl9, Ar9, qv9, S9, M9, H9, G9⟩ := id V2
  have hin9 : ¬ ((0 : Int32) < 0 ∨ cl9.slots.size ≤ ((0 : Int32)).toNatClampNeg) := inb_of S9 ⟨by decide, by decide⟩
  obtain ⟨T9, h9, X9, e9, W9, st9⟩ := stJ X2 hx hZ e2 Ar9 (j := (0 : Int32)) hin9 (g := (mkF m 28 #[.val (.ref o1), .val (.ref b2), .val (.long ((0 : Int64) + x0)), .second, .val (.int (0 : Int32))] [(.long ((0 : Int64) + x0)), (.int (0 : Int32)), (.ref b2)])) rfl rfl (hb hby own_d1_28)
  have V9 : Arv Z h9 b2 k2 .long (3 : Int32) [(.long ((0 : Int64) + x0)), (.long (0 : Int64)), (.long (0 : Int64))] (.long (0 : Int64)) := Arv.set Ar9 qv9 S9 M9 H9 G9 rfl W9 0 rfl (Nat.le_of_ble_eq_true rfl)
  have N9 := Fr.snoc X9 N0 gt_b2
  have KC10 := KC4.wr W9 (Or.inr sz_b2)
  have Z11 := Nat.le_trans Z5 (Nat.le_of_eq W9.size.symm)
  refine own_st (G' := T9.setTop (mkF m 29 #[.val (.ref o1), .val (.ref b2), .val (.long ((0 : Int64) + x0)), .second, .val (.int (0 : Int32))] [])) st9 ?_
  refine own_iinc X9 hx 32 (1 : Int32) #[.val (.ref o1), .val (.ref b2), .val (.long ((0 : Int64) + x0)), .second, .val (.int (1 : Int32))] (hb hby own_d1_29) rfl rfl rfl ?_
  refine own_goto X9 hx 10 (hb hby own_d1_32) ?_
  refine own_iload X9 hx 12 (hb hby own_d1_10) rfl ?_
  refine own_aloadN X9 hx 13 (hb hby own_d1_12) rfl rfl ?_
  have f12 := (f6.other W9 ne3)
  obtain ⟨cl13, Ar13, qv13, S13, M13, H13, G13⟩ := id f12
  have ln13 := len_of S13 M13
  refine own_st (G' := T9.setTop (mkF m 14 #[.val (.ref o1), .val (.ref b2), .val (.long ((0 : Int64) + x0)), .second, .val (.int (1 : Int32))] [(.int (3 : Int32)), (.int (1 : Int32))])) (fun t k => X9.arraylength hx (by rw [e9]; exact Ar13.1) (State.isArrayOf_alike hZ.alike Ar13.2.1) (g := (mkF m 13 #[.val (.ref o1), .val (.ref b2), .val (.long ((0 : Int64) + x0)), .second, .val (.int (1 : Int32))] [(.ref o1), (.int (1 : Int32))])) rfl rfl (hb hby own_d1_13) _ (by rw [ln13]; exact k)) ?_
  refine own_icmpNo X9 hx 17 (hb hby own_d1_14) (tlt (by decide : (1 : Int32) < (3 : Int32))).2.1 ?_
  refine own_lloadN X9 hx 18 (hb hby own_d1_17) rfl ?_
  refine own_aloadN X9 hx 19 (hb hby own_d1_18) rfl rfl ?_
  refine own_iload X9 hx 21 (hb hby own_d1_19) rfl ?_
  obtain ⟨cl14, Ar14, qv14, S14, M14, H14, G14⟩ := id f12
  have hin14 : ¬ ((1 : Int32) < 0 ∨ cl14.slots.size ≤ ((1 : Int32)).toNatClampNeg) := inb_of S14 ⟨by decide, by decide⟩
  refine own_st (G' := T9.setTop (mkF m 22 #[.val (.ref o1), .val (.ref b2), .val (.long ((0 : Int64) + x0)), .second, .val (.int (1 : Int32))] [(.long x1), (.long ((0 : Int64) + x0))])) (fun t k => X9.laload hx (j := (1 : Int32)) (v := (.long x1)) (by rw [e9]; exact Ar14.1) (State.isArrayOf_alike hZ.alike Ar14.2.1) Ar14.2.2 hin14 (H14.at hin14 rfl) (g := (mkF m 21 #[.val (.ref o1), .val (.ref b2), .val (.long ((0 : Int64) + x0)), .second, .val (.int (1 : Int32))] [(.int (1 : Int32)), (.ref o1), (.long ((0 : Int64) + x0))])) rfl rfl (hb hby own_d1_21) _ k) ?_
  refine own_ladd X9 hx 23 (hb hby own_d1_22) ?_
  refine own_lstoreN X9 hx 24 #[.val (.ref o1), .val (.ref b2), .val (.long (((0 : Int64) + x0) + x1)), .second, .val (.int (1 : Int32))] (hb hby own_d1_23) rfl ?_
  refine own_aloadN X9 hx 25 (hb hby own_d1_24) rfl rfl ?_
  refine own_iload X9 hx 27 (hb hby own_d1_25) rfl ?_
  refine own_lloadN X9 hx 28 (hb hby own_d1_27) rfl ?_
  obtain ⟨cl15, Ar15, qv15, S15, M15, H15, G15⟩ := id V9
  have hin15 : ¬ ((1 : Int32) < 0 ∨ cl15.slots.size ≤ ((1 : Int32)).toNatClampNeg) := inb_of S15 ⟨by decide, by decide⟩
  obtain ⟨T15, h15, X15, e15, W15, st15⟩ := stJ X9 hx hZ e9 Ar15 (j := (1 : Int32)) hin15 (g := (mkF m 28 #[.val (.ref o1), .val (.ref b2), .val (.long (((0 : Int64) + x0) + x1)), .second, .val (.int (1 : Int32))] [(.long (((0 : Int64) + x0) + x1)), (.int (1 : Int32)), (.ref b2)])) rfl rfl (hb hby own_d1_28)
  have V15 : Arv Z h15 b2 k2 .long (3 : Int32) [(.long ((0 : Int64) + x0)), (.long (((0 : Int64) + x0) + x1)), (.long (0 : Int64))] (.long (0 : Int64)) := Arv.set Ar15 qv15 S15 M15 H15 G15 rfl W15 1 rfl (Nat.le_of_ble_eq_true rfl)
  have N15 := Fr.snoc X15 N9 gt_b2
  have KC16 := KC10.wr W15 (Or.inr sz_b2)
  have Z17 := Nat.le_trans Z11 (Nat.le_of_eq W15.size.symm)
  refine own_st (G' := T15.setTop (mkF m 29 #[.val (.ref o1), .val (.ref b2), .val (.long (((0 : Int64) + x0) + x1)), .second, .val (.int (1 : Int32))] [])) st15 ?_
  refine own_iinc X15 hx 32 (1 : Int32) #[.val (.ref o1), .val (.ref b2), .val (.long (((0 : Int64) + x0) + x1)), .second, .val (.int (2 : Int32))] (hb hby own_d1_29) rfl rfl rfl ?_
  refine own_goto X15 hx 10 (hb hby own_d1_32) ?_
  refine own_iload X15 hx 12 (hb hby own_d1_10) rfl ?_
  refine own_aloadN X15 hx 13 (hb hby own_d1_12) rfl rfl ?_
  have f18 := (f12.other W15 ne3)
  obtain ⟨cl19, Ar19, qv19, S19, M19, H19, G19⟩ := id f18
  have ln19 := len_of S19 M19
  refine own_st (G' := T15.setTop (mkF m 14 #[.val (.ref o1), .val (.ref b2), .val (.long (((0 : Int64) + x0) + x1)), .second, .val (.int (2 : Int32))] [(.int (3 : Int32)), (.int (2 : Int32))])) (fun t k => X15.arraylength hx (by rw [e15]; exact Ar19.1) (State.isArrayOf_alike hZ.alike Ar19.2.1) (g := (mkF m 13 #[.val (.ref o1), .val (.ref b2), .val (.long (((0 : Int64) + x0) + x1)), .second, .val (.int (2 : Int32))] [(.ref o1), (.int (2 : Int32))])) rfl rfl (hb hby own_d1_13) _ (by rw [ln19]; exact k)) ?_
  refine own_icmpNo X15 hx 17 (hb hby own_d1_14) (tlt (by decide : (2 : Int32) < (3 : Int32))).2.1 ?_
  refine own_lloadN X15 hx 18 (hb hby own_d1_17) rfl ?_
  refine own_aloadN X15 hx 19 (hb hby own_d1_18) rfl rfl ?_
  refine own_iload X15 hx 21 (hb hby own_d1_19) rfl ?_
  obtain ⟨cl20, Ar20, qv20, S20, M20, H20, G20⟩ := id f18
  have hin20 : ¬ ((2 : Int32) < 0 ∨ cl20.slots.size ≤ ((2 : Int32)).toNatClampNeg) := inb_of S20 ⟨by decide, by decide⟩
  refine own_st (G' := T15.setTop (mkF m 22 #[.val (.ref o1), .val (.ref b2), .val (.long (((0 : Int64) + x0) + x1)), .second, .val (.int (2 : Int32))] [(.long x2), (.long (((0 : Int64) + x0) + x1))])) (fun t k => X15.laload hx (j := (2 : Int32)) (v := (.long x2)) (by rw [e15]; exact Ar20.1) (State.isArrayOf_alike hZ.alike Ar20.2.1) Ar20.2.2 hin20 (H20.at hin20 rfl) (g := (mkF m 21 #[.val (.ref o1), .val (.ref b2), .val (.long (((0 : Int64) + x0) + x1)), .second, .val (.int (2 : Int32))] [(.int (2 : Int32)), (.ref o1), (.long (((0 : Int64) + x0) + x1))])) rfl rfl (hb hby own_d1_21) _ k) ?_
  refine own_ladd X15 hx 23 (hb hby own_d1_22) ?_
  refine own_lstoreN X15 hx 24 #[.val (.ref o1), .val (.ref b2), .val (.long ((((0 : Int64) + x0) + x1) + x2)), .second, .val (.int (2 : Int32))] (hb hby own_d1_23) rfl ?_
  refine own_aloadN X15 hx 25 (hb hby own_d1_24) rfl rfl ?_
  refine own_iload X15 hx 27 (hb hby own_d1_25) rfl ?_
  refine own_lloadN X15 hx 28 (hb hby own_d1_27) rfl ?_
  obtain ⟨cl21, Ar21, qv21, S21, M21, H21, G21⟩ := id V15
  have hin21 : ¬ ((2 : Int32) < 0 ∨ cl21.slots.size ≤ ((2 : Int32)).toNatClampNeg) := inb_of S21 ⟨by decide, by decide⟩
  obtain ⟨T21, h21, X21, e21, W21, st21⟩ := stJ X15 hx hZ e15 Ar21 (j := (2 : Int32)) hin21 (g := (mkF m 28 #[.val (.ref o1), .val (.ref b2), .val (.long ((((0 : Int64) + x0) + x1) + x2)), .second, .val (.int (2 : Int32))] [(.long ((((0 : Int64) + x0) + x1) + x2)), (.int (2 : Int32)), (.ref b2)])) rfl rfl (hb hby own_d1_28)
  have V21 : Arv Z h21 b2 k2 .long (3 : Int32) [(.long ((0 : Int64) + x0)), (.long (((0 : Int64) + x0) + x1)), (.long ((((0 : Int64) + x0) + x1) + x2))] (.long (0 : Int64)) := Arv.set Ar21 qv21 S21 M21 H21 G21 rfl W21 2 rfl (Nat.le_of_ble_eq_true rfl)
  have N21 := Fr.snoc X21 N15 gt_b2
  have KC22 := KC16.wr W21 (Or.inr sz_b2)
  have Z23 := Nat.le_trans Z17 (Nat.le_of_eq W21.size.symm)
  refine own_st (G' := T21.setTop (mkF m 29 #[.val (.ref o1), .val (.ref b2), .val (.long ((((0 : Int64) + x0) + x1) + x2)), .second, .val (.int (2 : Int32))] [])) st21 ?_
  refine own_iinc X21 hx 32 (1 : Int32) #[.val (.ref o1), .val (.ref b2), .val (.long ((((0 : Int64) + x0) + x1) + x2)), .second, .val (.int (3 : Int32))] (hb hby own_d1_29) rfl rfl rfl ?_
  refine own_goto X21 hx 10 (hb hby own_d1_32) ?_
  refine own_iload X21 hx 12 (hb hby own_d1_10) rfl ?_
  refine own_aloadN X21 hx 13 (hb hby own_d1_12) rfl rfl ?_
  have f24 := (f18.other W21 ne3)
  obtain ⟨cl25, Ar25, qv25, S25, M25, H25, G25⟩ := id f24
  have ln25 := len_of S25 M25
  refine own_st (G' := T21.setTop (mkF m 14 #[.val (.ref o1), .val (.ref b2), .val (.long ((((0 : Int64) + x0) + x1) + x2)), .second, .val (.int (3 : Int32))] [(.int (3 : Int32)), (.int (3 : Int32))])) (fun t k => X21.arraylength hx (by rw [e21]; exact Ar25.1) (State.isArrayOf_alike hZ.alike Ar25.2.1) (g := (mkF m 13 #[.val (.ref o1), .val (.ref b2), .val (.long ((((0 : Int64) + x0) + x1) + x2)), .second, .val (.int (3 : Int32))] [(.ref o1), (.int (3 : Int32))])) rfl rfl (hb hby own_d1_13) _ (by rw [ln25]; exact k)) ?_
  refine own_icmpYes X21 hx 35 (hb hby own_d1_14) (flt (by decide : ¬ ((3 : Int32) < (3 : Int32)))).2.1 ?_
  refine own_aloadN X21 hx 36 (hb hby own_d1_35) rfl rfl ?_
  exact own_retA (z := (.ref b2)) (Q := own_Q1n3 Z o1 kk x0 x1 x2 h0 n0) X21 hx hrt rfl rfl (hb hby own_d1_36) hlk e21 ⟨b2, k2, rfl, N21, KC22, sz_b2, V21⟩ (by decide) (by decide)
theorem own_ef1n4 (m : MethodId) (o1 : Addr) : entryFrame m #[(.ref o1)] 5 = mkF m 0 #[.val (.ref o1), .unset, .unset, .unset, .unset] [] := by first | (simp [entryFrame, mkF, argsToLocals, Value.category]; done) | rfl
def own_Q1n4 (Z : State) (o1 : Addr) (kk : ClassId) (x0 : Int64) (x1 : Int64) (x2 : Int64) (x3 : Int64) (h0 : Heap) (n0 : Nat) (v : Option Value) (h : Heap) (L : List Loc) : Prop := ∃ bb : Addr, ∃ kb : ClassId, v = some (.ref bb) ∧ Fr n0 L ∧ Keep h0 h [] ∧ h0.size ≤ bb ∧ Arv Z h bb kb .long (4 : Int32) [(.long ((0 : Int64) + x0)), (.long (((0 : Int64) + x0) + x1)), (.long ((((0 : Int64) + x0) + x1) + x2)), (.long (((((0 : Int64) + x0) + x1) + x2) + x3))] (.long (0 : Int64))
set_option maxRecDepth 65536 in
set_option maxHeartbeats 40000000 in
theorem own_rm1n4 (l : Launch) (Z : State) (a0 : Array Value) (hw : ∀ d ∈ tables_1, d.before a0 Z = true) (ws : List Jvm.Cond) (o1 : Addr) (kk : ClassId) (x0 : Int64) (x1 : Int64) (x2 : Int64) (x3 : Int64) (h0 : Heap) (n0 : Nat) (Z0 : n0 ≤ h0.size) (pV1 : Arv Z h0 o1 kk .long (4 : Int32) [(.long x0), (.long x1), (.long x2), (.long x3)] (.long (0 : Int64))) :
    MetFree l (⟨"com/example/loomsand/loomsand/Weights", "runningSums", "([J)[J"⟩ : MethodName) (head1 (Jvm.Cond.code (⟨"com/example/loomsand/loomsand/Weights", "runningSums", "([J)[J"⟩ : MethodName) prog_31_method_3_code 5 (some (.array .long)) :: ws) ({ frames := 0, cells := 1, slots := 4, locals := 0 } : Room)) (fun a U => a = #[(.ref o1)] ∧ Z.Warmed39 U.vm ∧ U.heap = h0) (fun _ _ _ _ _ => True) (fun _ U o U' => ∃ v L, o = .returned v ∧ own_Q1n4 Z o1 kk x0 x1 x2 x3 h0 n0 v U'.heap L ∧ FrameEnd U o U' L ({ frames := 0, cells := 1, slots := 4, locals := 0 } : Room).cells ({ frames := 0, cells := 1, slots := 4, locals := 0 } : Room).slots) := by
  refine MetFree.of_bodySF (plainFor_of_name own_pn0) hisR ?_
  intro p e s m args below meth c s₁ Bd hml0 hP hK
  obtain ⟨rfl, hZ, hh⟩ := hP
  have hx := Bd.exec
  have hby := Bd.bytes
  have hlk := Bd.notSynchronized
  have hrt := Bd.returns
  have hml : c.maxLocals = 5 := hml0
  have hown : s.vm.findClass "com/example/loomsand/loomsand/Weights" = some m.cls := findClass_of_methodNamed Bd.named
  have hnm := (name_of_methodNamed Bd.named Bd.method).1
  have X0 : Stand p l e ({ frames := 0, cells := 1, slots := 4, locals := 0 } : Room) s m #[(.ref o1)] below meth c s₁ [] 0 0 := Stand.of_body Bd
  have e0 : s₁.heap = h0 := by rw [← hh, Bd.state]; rfl
  have N0 := Fr.nil n0
  have KC0 := Keep.refl h0 []
  refine own_in (own_ef1n4 m o1) ?_
  refine own_aloadN X0 hx 1 (hb hby own_d1_0) rfl rfl ?_
  obtain ⟨cl1, Ar1, qv1, S1, M1, H1, G1⟩ := id pV1
  have ln1 := len_of S1 M1
  refine own_st (G' := s₁.setTop (mkF m 2 #[.val (.ref o1), .unset, .unset, .unset, .unset] [(.int (4 : Int32))])) (fun t k => X0.arraylength hx (by rw [e0]; exact Ar1.1) (State.isArrayOf_alike hZ.alike Ar1.2.1) (g := (mkF m 1 #[.val (.ref o1), .unset, .unset, .unset, .unset] [(.ref o1)])) rfl rfl (hb hby own_d1_1) _ (by rw [ln1]; exact k)) ?_
  obtain ⟨T2, h2, k2, X2, e2, E2, A2, st2⟩ := newP X0 hx hZ (hw _ (List.mem_of_getElem? (i := 2) rfl)) e0 (g := (mkF m 2 #[.val (.ref o1), .unset, .unset, .unset, .unset] [(.int (4 : Int32))])) rfl (hb hby own_d1_2) rfl (by decide) (cap := 4) (by decide) (by decide) (by decide) (by decide)
  obtain ⟨b2, g2⟩ : ∃ z, z = h0.size := ⟨_, rfl⟩
  rw [← g2] at A2 st2
  have ne3 : o1 ≠ b2 := Nat.ne_of_lt (Nat.lt_of_lt_of_le pV1.lt (Nat.le_of_eq g2.symm))
  have gt_b2 : n0 ≤ b2 := Nat.le_trans Z0 (Nat.le_of_eq g2.symm)
  have sz_b2 : h0.size ≤ b2 := Nat.le_trans KC0.1 (Nat.le_of_eq g2.symm)
  have V2 : Arv Z h2 b2 k2 .long (4 : Int32) [(.long (0 : Int64)), (.long (0 : Int64)), (.long (0 : Int64)), (.long (0 : Int64))] (.long (0 : Int64)) := (Arv.new A2 (by decide)).pad (pad_rep [] (.long (0 : Int64)) 4)
  have KC4 := KC0.ext E2
  have Z5 := Nat.le_trans Z0 E2.1
  refine own_st (G' := T2.setTop (mkF m 4 #[.val (.ref o1), .unset, .unset, .unset, .unset] [(.ref b2)])) st2 ?_
  refine own_astoreN X2 hx 5 #[.val (.ref o1), .val (.ref b2), .unset, .unset, .unset] (hb hby own_d1_4) rfl rfl ?_
  refine own_lconst X2 hx 6 (0 : Int64) (hb hby own_d1_5) rfl ?_
  refine own_lstoreN X2 hx 7 #[.val (.ref o1), .val (.ref b2), .val (.long (0 : Int64)), .second, .unset] (hb hby own_d1_6) rfl ?_
  refine own_iconst X2 hx 8 (0 : Int32) (hb hby own_d1_7) rfl ?_
  refine own_istore X2 hx 10 #[.val (.ref o1), .val (.ref b2), .val (.long (0 : Int64)), .second, .val (.int (0 : Int32))] (hb hby own_d1_8) rfl ?_
  refine own_iload X2 hx 12 (hb hby own_d1_10) rfl ?_
  refine own_aloadN X2 hx 13 (hb hby own_d1_12) rfl rfl ?_
  have f6 := (pV1.ext E2)
  obtain ⟨cl7, Ar7, qv7, S7, M7, H7, G7⟩ := id f6
  have ln7 := len_of S7 M7
  refine own_st (G' := T2.setTop (mkF m 14 #[.val (.ref o1), .val (.ref b2), .val (.long (0 : Int64)), .second, .val (.int (0 : Int32))] [(.int (4 : Int32)), (.int (0 : Int32))])) (fun t k => X2.arraylength hx (by rw [e2]; exact Ar7.1) (State.isArrayOf_alike hZ.alike Ar7.2.1) (g := (mkF m 13 #[.val (.ref o1), .val (.ref b2), .val (.long (0 : Int64)), .second, .val (.int (0 : Int32))] [(.ref o1), (.int (0 : Int32))])) rfl rfl (hb hby own_d1_13) _ (by rw [ln7]; exact k)) ?_
  refine own_icmpNo X2 hx 17 (hb hby own_d1_14) (tlt (by decide : (0 : Int32) < (4 : Int32))).2.1 ?_
  refine own_lloadN X2 hx 18 (hb hby own_d1_17) rfl ?_
  refine own_aloadN X2 hx 19 (hb hby own_d1_18) rfl rfl ?_
  refine own_iload X2 hx 21 (hb hby own_d1_19) rfl ?_
  obtain ⟨cl8, Ar8, qv8, S8, M8, H8, G8⟩ := id f6
  have hin8 : ¬ ((0 : Int32) < 0 ∨ cl8.slots.size ≤ ((0 : Int32)).toNatClampNeg) := inb_of S8 ⟨by decide, by decide⟩
  refine own_st (G' := T2.setTop (mkF m 22 #[.val (.ref o1), .val (.ref b2), .val (.long (0 : Int64)), .second, .val (.int (0 : Int32))] [(.long x0), (.long (0 : Int64))])) (fun t k => X2.laload hx (j := (0 : Int32)) (v := (.long x0)) (by rw [e2]; exact Ar8.1) (State.isArrayOf_alike hZ.alike Ar8.2.1) Ar8.2.2 hin8 (H8.at hin8 rfl) (g := (mkF m 21 #[.val (.ref o1), .val (.ref b2), .val (.long (0 : Int64)), .second, .val (.int (0 : Int32))] [(.int (0 : Int32)), (.ref o1), (.long (0 : Int64))])) rfl rfl (hb hby own_d1_21) _ k) ?_
  refine own_ladd X2 hx 23 (hb hby own_d1_22) ?_
  refine own_lstoreN X2 hx 24 #[.val (.ref o1), .val (.ref b2), .val (.long ((0 : Int64) + x0)), .second, .val (.int (0 : Int32))] (hb hby own_d1_23) rfl ?_
  refine own_aloadN X2 hx 25 (hb hby own_d1_24) rfl rfl ?_
  refine own_iload X2 hx 27 (hb hby own_d1_25) rfl ?_
  refine own_lloadN X2 hx 28 (hb hby own_d1_27) rfl ?_
  obtain ⟨cl9, Ar9, qv9, S9, M9, H9, G9⟩ := id V2
  have hin9 : ¬ ((0 : Int32) < 0 ∨ cl9.slots.size ≤ ((0 : Int32)).toNatClampNeg) := inb_of S9 ⟨by decide, by decide⟩
  obtain ⟨T9, h9, X9, e9, W9, st9⟩ := stJ X2 hx hZ e2 Ar9 (j := (0 : Int32)) hin9 (g := (mkF m 28 #[.val (.ref o1), .val (.ref b2), .val (.long ((0 : Int64) + x0)), .second, .val (.int (0 : Int32))] [(.long ((0 : Int64) + x0)), (.int (0 : Int32)), (.ref b2)])) rfl rfl (hb hby own_d1_28)
  have V9 : Arv Z h9 b2 k2 .long (4 : Int32) [(.long ((0 : Int64) + x0)), (.long (0 : Int64)), (.long (0 : Int64)), (.long (0 : Int64))] (.long (0 : Int64)) := Arv.set Ar9 qv9 S9 M9 H9 G9 rfl W9 0 rfl (Nat.le_of_ble_eq_true rfl)
  have N9 := Fr.snoc X9 N0 gt_b2
  have KC10 := KC4.wr W9 (Or.inr sz_b2)
  have Z11 := Nat.le_trans Z5 (Nat.le_of_eq W9.size.symm)
  refine own_st (G' := T9.setTop (mkF m 29 #[.val (.ref o1), .val (.ref b2), .val (.long ((0 : Int64) + x0)), .second, .val (.int (0 : Int32))] [])) st9 ?_
  refine own_iinc X9 hx 32 (1 : Int32) #[.val (.ref o1), .val (.ref b2), .val (.long ((0 : Int64) + x0)), .second, .val (.int (1 : Int32))] (hb hby own_d1_29) rfl rfl rfl ?_
  refine own_goto X9 hx 10 (hb hby own_d1_32) ?_
  refine own_iload X9 hx 12 (hb hby own_d1_10) rfl ?_
  refine own_aloadN X9 hx 13 (hb hby own_d1_12) rfl rfl ?_
  have f12 := (f6.other W9 ne3)
  obtain ⟨cl13, Ar13, qv13, S13, M13, H13, G13⟩ := id f12
  have ln13 := len_of S13 M13
  refine own_st (G' := T9.setTop (mkF m 14 #[.val (.ref o1), .val (.ref b2), .val (.long ((0 : Int64) + x0)), .second, .val (.int (1 : Int32))] [(.int (4 : Int32)), (.int (1 : Int32))])) (fun t k => X9.arraylength hx (by rw [e9]; exact Ar13.1) (State.isArrayOf_alike hZ.alike Ar13.2.1) (g := (mkF m 13 #[.val (.ref o1), .val (.ref b2), .val (.long ((0 : Int64) + x0)), .second, .val (.int (1 : Int32))] [(.ref o1), (.int (1 : Int32))])) rfl rfl (hb hby own_d1_13) _ (by rw [ln13]; exact k)) ?_
  refine own_icmpNo X9 hx 17 (hb hby own_d1_14) (tlt (by decide : (1 : Int32) < (4 : Int32))).2.1 ?_
  refine own_lloadN X9 hx 18 (hb hby own_d1_17) rfl ?_
  refine own_aloadN X9 hx 19 (hb hby own_d1_18) rfl rfl ?_
  refine own_iload X9 hx 21 (hb hby own_d1_19) rfl ?_
  obtain ⟨cl14, Ar14, qv14, S14, M14, H14, G14⟩ := id f12
  have hin14 : ¬ ((1 : Int32) < 0 ∨ cl14.slots.size ≤ ((1 : Int32)).toNatClampNeg) := inb_of S14 ⟨by decide, by decide⟩
  refine own_st (G' := T9.setTop (mkF m 22 #[.val (.ref o1), .val (.ref b2), .val (.long ((0 : Int64) + x0)), .second, .val (.int (1 : Int32))] [(.long x1), (.long ((0 : Int64) + x0))])) (fun t k => X9.laload hx (j := (1 : Int32)) (v := (.long x1)) (by rw [e9]; exact Ar14.1) (State.isArrayOf_alike hZ.alike Ar14.2.1) Ar14.2.2 hin14 (H14.at hin14 rfl) (g := (mkF m 21 #[.val (.ref o1), .val (.ref b2), .val (.long ((0 : Int64) + x0)), .second, .val (.int (1 : Int32))] [(.int (1 : Int32)), (.ref o1), (.long ((0 : Int64) + x0))])) rfl rfl (hb hby own_d1_21) _ k) ?_
  refine own_ladd X9 hx 23 (hb hby own_d1_22) ?_
  refine own_lstoreN X9 hx 24 #[.val (.ref o1), .val (.ref b2), .val (.long (((0 : Int64) + x0) + x1)), .second, .val (.int (1 : Int32))] (hb hby own_d1_23) rfl ?_
  refine own_aloadN X9 hx 25 (hb hby own_d1_24) rfl rfl ?_
  refine own_iload X9 hx 27 (hb hby own_d1_25) rfl ?_
  refine own_lloadN X9 hx 28 (hb hby own_d1_27) rfl ?_
  obtain ⟨cl15, Ar15, qv15, S15, M15, H15, G15⟩ := id V9
  have hin15 : ¬ ((1 : Int32) < 0 ∨ cl15.slots.size ≤ ((1 : Int32)).toNatClampNeg) := inb_of S15 ⟨by decide, by decide⟩
  obtain ⟨T15, h15, X15, e15, W15, st15⟩ := stJ X9 hx hZ e9 Ar15 (j := (1 : Int32)) hin15 (g := (mkF m 28 #[.val (.ref o1), .val (.ref b2), .val (.long (((0 : Int64) + x0) + x1)), .second, .val (.int (1 : Int32))] [(.long (((0 : Int64) + x0) + x1)), (.int (1 : Int32)), (.ref b2)])) rfl rfl (hb hby own_d1_28)
  have V15 : Arv Z h15 b2 k2 .long (4 : Int32) [(.long ((0 : Int64) + x0)), (.long (((0 : Int64) + x0) + x1)), (.long (0 : Int64)), (.long (0 : Int64))] (.long (0 : Int64)) := Arv.set Ar15 qv15 S15 M15 H15 G15 rfl W15 1 rfl (Nat.le_of_ble_eq_true rfl)
  have N15 := Fr.snoc X15 N9 gt_b2
  have KC16 := KC10.wr W15 (Or.inr sz_b2)
  have Z17 := Nat.le_trans Z11 (Nat.le_of_eq W15.size.symm)
  refine own_st (G' := T15.setTop (mkF m 29 #[.val (.ref o1), .val (.ref b2), .val (.long (((0 : Int64) + x0) + x1)), .second, .val (.int (1 : Int32))] [])) st15 ?_
  refine own_iinc X15 hx 32 (1 : Int32) #[.val (.ref o1), .val (.ref b2), .val (.long (((0 : Int64) + x0) + x1)), .second, .val (.int (2 : Int32))] (hb hby own_d1_29) rfl rfl rfl ?_
  refine own_goto X15 hx 10 (hb hby own_d1_32) ?_
  refine own_iload X15 hx 12 (hb hby own_d1_10) rfl ?_
  refine own_aloadN X15 hx 13 (hb hby own_d1_12) rfl rfl ?_
  have f18 := (f12.other W15 ne3)
  obtain ⟨cl19, Ar19, qv19, S19, M19, H19, G19⟩ := id f18
  have ln19 := len_of S19 M19
  refine own_st (G' := T15.setTop (mkF m 14 #[.val (.ref o1), .val (.ref b2), .val (.long (((0 : Int64) + x0) + x1)), .second, .val (.int (2 : Int32))] [(.int (4 : Int32)), (.int (2 : Int32))])) (fun t k => X15.arraylength hx (by rw [e15]; exact Ar19.1) (State.isArrayOf_alike hZ.alike Ar19.2.1) (g := (mkF m 13 #[.val (.ref o1), .val (.ref b2), .val (.long (((0 : Int64) + x0) + x1)), .second, .val (.int (2 : Int32))] [(.ref o1), (.int (2 : Int32))])) rfl rfl (hb hby own_d1_13) _ (by rw [ln19]; exact k)) ?_
  refine own_icmpNo X15 hx 17 (hb hby own_d1_14) (tlt (by decide : (2 : Int32) < (4 : Int32))).2.1 ?_
  refine own_lloadN X15 hx 18 (hb hby own_d1_17) rfl ?_
  refine own_aloadN X15 hx 19 (hb hby own_d1_18) rfl rfl ?_
  refine own_iload X15 hx 21 (hb hby own_d1_19) rfl ?_
  obtain ⟨cl20, Ar20, qv20, S20, M20, H20, G20⟩ := id f18
  have hin20 : ¬ ((2 : Int32) < 0 ∨ cl20.slots.size ≤ ((2 : Int32)).toNatClampNeg) := inb_of S20 ⟨by decide, by decide⟩
  refine own_st (G' := T15.setTop (mkF m 22 #[.val (.ref o1), .val (.ref b2), .val (.long (((0 : Int64) + x0) + x1)), .second, .val (.int (2 : Int32))] [(.long x2), (.long (((0 : Int64) + x0) + x1))])) (fun t k => X15.laload hx (j := (2 : Int32)) (v := (.long x2)) (by rw [e15]; exact Ar20.1) (State.isArrayOf_alike hZ.alike Ar20.2.1) Ar20.2.2 hin20 (H20.at hin20 rfl) (g := (mkF m 21 #[.val (.ref o1), .val (.ref b2), .val (.long (((0 : Int64) + x0) + x1)), .second, .val (.int (2 : Int32))] [(.int (2 : Int32)), (.ref o1), (.long (((0 : Int64) + x0) + x1))])) rfl rfl (hb hby own_d1_21) _ k) ?_
  refine own_ladd X15 hx 23 (hb hby own_d1_22) ?_
  refine own_lstoreN X15 hx 24 #[.val (.ref o1), .val (.ref b2), .val (.long ((((0 : Int64) + x0) + x1) + x2)), .second, .val (.int (2 : Int32))] (hb hby own_d1_23) rfl ?_
  refine own_aloadN X15 hx 25 (hb hby own_d1_24) rfl rfl ?_
  refine own_iload X15 hx 27 (hb hby own_d1_25) rfl ?_
  refine own_lloadN X15 hx 28 (hb hby own_d1_27) rfl ?_
  obtain ⟨cl21, Ar21, qv21, S21, M21, H21, G21⟩ := id V15
  have hin21 : ¬ ((2 : Int32) < 0 ∨ cl21.slots.size ≤ ((2 : Int32)).toNatClampNeg) := inb_of S21 ⟨by decide, by decide⟩
  obtain ⟨T21, h21, X21, e21, W21, st21⟩ := stJ X15 hx hZ e15 Ar21 (j := (2 : Int32)) hin21 (g := (mkF m 28 #[.val (.ref o1), .val (.ref b2), .val (.long ((((0 : Int64) + x0) + x1) + x2)), .second, .val (.int (2 : Int32))] [(.long ((((0 : Int64) + x0) + x1) + x2)), (.int (2 : Int32)), (.ref b2)])) rfl rfl (hb hby own_d1_28)
  have V21 : Arv Z h21 b2 k2 .long (4 : Int32) [(.long ((0 : Int64) + x0)), (.long (((0 : Int64) + x0) + x1)), (.long ((((0 : Int64) + x0) + x1) + x2)), (.long (0 : Int64))] (.long (0 : Int64)) := Arv.set Ar21 qv21 S21 M21 H21 G21 rfl W21 2 rfl (Nat.le_of_ble_eq_true rfl)
  have N21 := Fr.snoc X21 N15 gt_b2
  have KC22 := KC16.wr W21 (Or.inr sz_b2)
  have Z23 := Nat.le_trans Z17 (Nat.le_of_eq W21.size.symm)
  refine own_st (G' := T21.setTop (mkF m 29 #[.val (.ref o1), .val (.ref b2), .val (.long ((((0 : Int64) + x0) + x1) + x2)), .second, .val (.int (2 : Int32))] [])) st21 ?_
  refine own_iinc X21 hx 32 (1 : Int32) #[.val (.ref o1), .val (.ref b2), .val (.long ((((0 : Int64) + x0) + x1) + x2)), .second, .val (.int (3 : Int32))] (hb hby own_d1_29) rfl rfl rfl ?_
  refine own_goto X21 hx 10 (hb hby own_d1_32) ?_
  refine own_iload X21 hx 12 (hb hby own_d1_10) rfl ?_
  refine own_aloadN X21 hx 13 (hb hby own_d1_12) rfl rfl ?_
  have f24 := (f18.other W21 ne3)
  obtain ⟨cl25, Ar25, qv25, S25, M25, H25, G25⟩ := id f24
  have ln25 := len_of S25 M25
  refine own_st (G' := T21.setTop (mkF m 14 #[.val (.ref o1), .val (.ref b2), .val (.long ((((0 : Int64) + x0) + x1) + x2)), .second, .val (.int (3 : Int32))] [(.int (4 : Int32)), (.int (3 : Int32))])) (fun t k => X21.arraylength hx (by rw [e21]; exact Ar25.1) (State.isArrayOf_alike hZ.alike Ar25.2.1) (g := (mkF m 13 #[.val (.ref o1), .val (.ref b2), .val (.long ((((0 : Int64) + x0) + x1) + x2)), .second, .val (.int (3 : Int32))] [(.ref o1), (.int (3 : Int32))])) rfl rfl (hb hby own_d1_13) _ (by rw [ln25]; exact k)) ?_
  refine own_icmpNo X21 hx 17 (hb hby own_d1_14) (tlt (by decide : (3 : Int32) < (4 : Int32))).2.1 ?_
  refine own_lloadN X21 hx 18 (hb hby own_d1_17) rfl ?_
  refine own_aloadN X21 hx 19 (hb hby own_d1_18) rfl rfl ?_
  refine own_iload X21 hx 21 (hb hby own_d1_19) rfl ?_
  obtain ⟨cl26, Ar26, qv26, S26, M26, H26, G26⟩ := id f24
  have hin26 : ¬ ((3 : Int32) < 0 ∨ cl26.slots.size ≤ ((3 : Int32)).toNatClampNeg) := inb_of S26 ⟨by decide, by decide⟩
  refine own_st (G' := T21.setTop (mkF m 22 #[.val (.ref o1), .val (.ref b2), .val (.long ((((0 : Int64) + x0) + x1) + x2)), .second, .val (.int (3 : Int32))] [(.long x3), (.long ((((0 : Int64) + x0) + x1) + x2))])) (fun t k => X21.laload hx (j := (3 : Int32)) (v := (.long x3)) (by rw [e21]; exact Ar26.1) (State.isArrayOf_alike hZ.alike Ar26.2.1) Ar26.2.2 hin26 (H26.at hin26 rfl) (g := (mkF m 21 #[.val (.ref o1), .val (.ref b2), .val (.long ((((0 : Int64) + x0) + x1) + x2)), .second, .val (.int (3 : Int32))] [(.int (3 : Int32)), (.ref o1), (.long ((((0 : Int64) + x0) + x1) + x2))])) rfl rfl (hb hby own_d1_21) _ k) ?_
  refine own_ladd X21 hx 23 (hb hby own_d1_22) ?_
  refine own_lstoreN X21 hx 24 #[.val (.ref o1), .val (.ref b2), .val (.long (((((0 : Int64) + x0) + x1) + x2) + x3)), .second, .val (.int (3 : Int32))] (hb hby own_d1_23) rfl ?_
  refine own_aloadN X21 hx 25 (hb hby own_d1_24) rfl rfl ?_
  refine own_iload X21 hx 27 (hb hby own_d1_25) rfl ?_
  refine own_lloadN X21 hx 28 (hb hby own_d1_27) rfl ?_
  obtain ⟨cl27, Ar27, qv27, S27, M27, H27, G27⟩ := id V21
  have hin27 : ¬ ((3 : Int32) < 0 ∨ cl27.slots.size ≤ ((3 : Int32)).toNatClampNeg) := inb_of S27 ⟨by decide, by decide⟩
  obtain ⟨T27, h27, X27, e27, W27, st27⟩ := stJ X21 hx hZ e21 Ar27 (j := (3 : Int32)) hin27 (g := (mkF m 28 #[.val (.ref o1), .val (.ref b2), .val (.long (((((0 : Int64) + x0) + x1) + x2) + x3)), .second, .val (.int (3 : Int32))] [(.long (((((0 : Int64) + x0) + x1) + x2) + x3)), (.int (3 : Int32)), (.ref b2)])) rfl rfl (hb hby own_d1_28)
  have V27 : Arv Z h27 b2 k2 .long (4 : Int32) [(.long ((0 : Int64) + x0)), (.long (((0 : Int64) + x0) + x1)), (.long ((((0 : Int64) + x0) + x1) + x2)), (.long (((((0 : Int64) + x0) + x1) + x2) + x3))] (.long (0 : Int64)) := Arv.set Ar27 qv27 S27 M27 H27 G27 rfl W27 3 rfl (Nat.le_of_ble_eq_true rfl)
  have N27 := Fr.snoc X27 N21 gt_b2
  have KC28 := KC22.wr W27 (Or.inr sz_b2)
  have Z29 := Nat.le_trans Z23 (Nat.le_of_eq W27.size.symm)
  refine own_st (G' := T27.setTop (mkF m 29 #[.val (.ref o1), .val (.ref b2), .val (.long (((((0 : Int64) + x0) + x1) + x2) + x3)), .second, .val (.int (3 : Int32))] [])) st27 ?_
  refine own_iinc X27 hx 32 (1 : Int32) #[.val (.ref o1), .val (.ref b2), .val (.long (((((0 : Int64) + x0) + x1) + x2) + x3)), .second, .val (.int (4 : Int32))] (hb hby own_d1_29) rfl rfl rfl ?_
  refine own_goto X27 hx 10 (hb hby own_d1_32) ?_
  refine own_iload X27 hx 12 (hb hby own_d1_10) rfl ?_
  refine own_aloadN X27 hx 13 (hb hby own_d1_12) rfl rfl ?_
  have f30 := (f24.other W27 ne3)
  obtain ⟨cl31, Ar31, qv31, S31, M31, H31, G31⟩ := id f30
  have ln31 := len_of S31 M31
  refine own_st (G' := T27.setTop (mkF m 14 #[.val (.ref o1), .val (.ref b2), .val (.long (((((0 : Int64) + x0) + x1) + x2) + x3)), .second, .val (.int (4 : Int32))] [(.int (4 : Int32)), (.int (4 : Int32))])) (fun t k => X27.arraylength hx (by rw [e27]; exact Ar31.1) (State.isArrayOf_alike hZ.alike Ar31.2.1) (g := (mkF m 13 #[.val (.ref o1), .val (.ref b2), .val (.long (((((0 : Int64) + x0) + x1) + x2) + x3)), .second, .val (.int (4 : Int32))] [(.ref o1), (.int (4 : Int32))])) rfl rfl (hb hby own_d1_13) _ (by rw [ln31]; exact k)) ?_
  refine own_icmpYes X27 hx 35 (hb hby own_d1_14) (flt (by decide : ¬ ((4 : Int32) < (4 : Int32)))).2.1 ?_
  refine own_aloadN X27 hx 36 (hb hby own_d1_35) rfl rfl ?_
  exact own_retA (z := (.ref b2)) (Q := own_Q1n4 Z o1 kk x0 x1 x2 x3 h0 n0) X27 hx hrt rfl rfl (hb hby own_d1_36) hlk e27 ⟨b2, k2, rfl, N27, KC28, sz_b2, V27⟩ (by decide) (by decide)
theorem own_d2_0 : decode method_2_code 0 = .ok (.iload_n 1, 1) := by decide +kernel
theorem own_d2_1 : decode method_2_code 1 = .ok (.iload_n 2, 1) := by decide +kernel
theorem own_d2_2 : decode method_2_code 2 = .ok (.if_icmp .ge 11, 3) := by decide +kernel
theorem own_d2_13 : decode method_2_code 13 = .ok (.iconst 1, 1) := by decide +kernel
theorem own_d2_14 : decode method_2_code 14 = .ok (.goto 4, 3) := by decide +kernel
theorem own_d2_18 : decode method_2_code 18 = .ok (.ireturn, 1) := by decide +kernel
theorem own_pn1 : plainName "com/example/loomsand/loomsand/WeightsRunningSumsPinLaw" = true := by first | (simp [plainName, overriddenIn]; done) | decide +kernel
theorem own_ef2n0i0 (m : MethodId) (o1 : Addr) (q1 : Int64) : entryFrame m #[(.ref o1), (.int (0 : Int32)), (.int (0 : Int32)), (.long q1)] 5 = mkF m 0 #[.val (.ref o1), .val (.int (0 : Int32)), .val (.int (0 : Int32)), .val (.long q1), .second] [] := by first | (simp [entryFrame, mkF, argsToLocals, Value.category]; done) | rfl
def own_Q2n0i0 (Z : State) (o1 : Addr) (q1 : Int64) (h0 : Heap) (n0 : Nat) (v : Option Value) (h : Heap) (L : List Loc) : Prop := v = some (.int (1 : Int32)) ∧ Fr n0 L ∧ h = h0
set_option maxRecDepth 65536 in
set_option maxHeartbeats 40000000 in
theorem own_rm2n0i0 (l : Launch) (Z : State) (a0 : Array Value) (hw : ∀ d ∈ tables_1, d.before a0 Z = true) (ws : List Jvm.Cond) (o1 : Addr) (q1 : Int64) (h0 : Heap) (n0 : Nat) (Z0 : n0 ≤ h0.size)  :
    MetFree l (⟨"com/example/loomsand/loomsand/WeightsRunningSumsPinLaw", "at", "([JIIJ)Z"⟩ : MethodName) (head1 (Jvm.Cond.code (⟨"com/example/loomsand/loomsand/WeightsRunningSumsPinLaw", "at", "([JIIJ)Z"⟩ : MethodName) method_2_code 5 (some .boolean) :: ws) ({ frames := 0, cells := 0, slots := 0, locals := 0 } : Room)) (fun a U => a = #[(.ref o1), (.int (0 : Int32)), (.int (0 : Int32)), (.long q1)] ∧ Z.Warmed39 U.vm ∧ U.heap = h0) (fun _ _ _ _ _ => True) (fun _ U o U' => ∃ v L, o = .returned v ∧ own_Q2n0i0 Z o1 q1 h0 n0 v U'.heap L ∧ FrameEnd U o U' L ({ frames := 0, cells := 0, slots := 0, locals := 0 } : Room).cells ({ frames := 0, cells := 0, slots := 0, locals := 0 } : Room).slots) := by
  refine MetFree.of_bodySF (plainFor_of_name own_pn1) hisR ?_
  intro p e s m args below meth c s₁ Bd hml0 hP hK
  obtain ⟨rfl, hZ, hh⟩ := hP
  have hx := Bd.exec
  have hby := Bd.bytes
  have hlk := Bd.notSynchronized
  have hrt := Bd.returns
  have hml : c.maxLocals = 5 := hml0
  have hown : s.vm.findClass "com/example/loomsand/loomsand/WeightsRunningSumsPinLaw" = some m.cls := findClass_of_methodNamed Bd.named
  have hnm := (name_of_methodNamed Bd.named Bd.method).1
  have X0 : Stand p l e ({ frames := 0, cells := 0, slots := 0, locals := 0 } : Room) s m #[(.ref o1), (.int (0 : Int32)), (.int (0 : Int32)), (.long q1)] below meth c s₁ [] 0 0 := Stand.of_body Bd
  have e0 : s₁.heap = h0 := by rw [← hh, Bd.state]; rfl
  have N0 := Fr.nil n0
  refine own_in (own_ef2n0i0 m o1 q1) ?_
  refine own_iloadN X0 hx 1 (hb hby own_d2_0) rfl ?_
  refine own_iloadN X0 hx 2 (hb hby own_d2_1) rfl ?_
  refine own_icmpYes X0 hx 13 (hb hby own_d2_2) (flt (by decide : ¬ ((0 : Int32) < (0 : Int32)))).2.1 ?_
  refine own_iconst X0 hx 14 (1 : Int32) (hb hby own_d2_13) rfl ?_
  refine own_goto X0 hx 18 (hb hby own_d2_14) ?_
  exact own_retN (t := .boolean) (z := (1 : Int32)) (Q := own_Q2n0i0 Z o1 q1 h0 n0) X0 hx hrt (by simp) (hb hby own_d2_18) hlk e0 ⟨rfl, N0, rfl⟩ (by decide) (by decide)
theorem own_ef2n0i1 (m : MethodId) (o1 : Addr) (q1 : Int64) : entryFrame m #[(.ref o1), (.int (1 : Int32)), (.int (0 : Int32)), (.long q1)] 5 = mkF m 0 #[.val (.ref o1), .val (.int (1 : Int32)), .val (.int (0 : Int32)), .val (.long q1), .second] [] := by first | (simp [entryFrame, mkF, argsToLocals, Value.category]; done) | rfl
def own_Q2n0i1 (Z : State) (o1 : Addr) (q1 : Int64) (h0 : Heap) (n0 : Nat) (v : Option Value) (h : Heap) (L : List Loc) : Prop := v = some (.int (1 : Int32)) ∧ Fr n0 L ∧ h = h0
set_option maxRecDepth 65536 in
set_option maxHeartbeats 40000000 in
theorem own_rm2n0i1 (l : Launch) (Z : State) (a0 : Array Value) (hw : ∀ d ∈ tables_1, d.before a0 Z = true) (ws : List Jvm.Cond) (o1 : Addr) (q1 : Int64) (h0 : Heap) (n0 : Nat) (Z0 : n0 ≤ h0.size)  :
    MetFree l (⟨"com/example/loomsand/loomsand/WeightsRunningSumsPinLaw", "at", "([JIIJ)Z"⟩ : MethodName) (head1 (Jvm.Cond.code (⟨"com/example/loomsand/loomsand/WeightsRunningSumsPinLaw", "at", "([JIIJ)Z"⟩ : MethodName) method_2_code 5 (some .boolean) :: ws) ({ frames := 0, cells := 0, slots := 0, locals := 0 } : Room)) (fun a U => a = #[(.ref o1), (.int (1 : Int32)), (.int (0 : Int32)), (.long q1)] ∧ Z.Warmed39 U.vm ∧ U.heap = h0) (fun _ _ _ _ _ => True) (fun _ U o U' => ∃ v L, o = .returned v ∧ own_Q2n0i1 Z o1 q1 h0 n0 v U'.heap L ∧ FrameEnd U o U' L ({ frames := 0, cells := 0, slots := 0, locals := 0 } : Room).cells ({ frames := 0, cells := 0, slots := 0, locals := 0 } : Room).slots) := by
  refine MetFree.of_bodySF (plainFor_of_name own_pn1) hisR ?_
  intro p e s m args below meth c s₁ Bd hml0 hP hK
  obtain ⟨rfl, hZ, hh⟩ := hP
  have hx := Bd.exec
  have hby := Bd.bytes
  have hlk := Bd.notSynchronized
  have hrt := Bd.returns
  have hml : c.maxLocals = 5 := hml0
  have hown : s.vm.findClass "com/example/loomsand/loomsand/WeightsRunningSumsPinLaw" = some m.cls := findClass_of_methodNamed Bd.named
  have hnm := (name_of_methodNamed Bd.named Bd.method).1
  have X0 : Stand p l e ({ frames := 0, cells := 0, slots := 0, locals := 0 } : Room) s m #[(.ref o1), (.int (1 : Int32)), (.int (0 : Int32)), (.long q1)] below meth c s₁ [] 0 0 := Stand.of_body Bd
  have e0 : s₁.heap = h0 := by rw [← hh, Bd.state]; rfl
  have N0 := Fr.nil n0
  refine own_in (own_ef2n0i1 m o1 q1) ?_
  refine own_iloadN X0 hx 1 (hb hby own_d2_0) rfl ?_
  refine own_iloadN X0 hx 2 (hb hby own_d2_1) rfl ?_
  refine own_icmpYes X0 hx 13 (hb hby own_d2_2) (flt (by decide : ¬ ((1 : Int32) < (0 : Int32)))).2.1 ?_
  refine own_iconst X0 hx 14 (1 : Int32) (hb hby own_d2_13) rfl ?_
  refine own_goto X0 hx 18 (hb hby own_d2_14) ?_
  exact own_retN (t := .boolean) (z := (1 : Int32)) (Q := own_Q2n0i1 Z o1 q1 h0 n0) X0 hx hrt (by simp) (hb hby own_d2_18) hlk e0 ⟨rfl, N0, rfl⟩ (by decide) (by decide)
theorem own_ef2n0i2 (m : MethodId) (o1 : Addr) (q1 : Int64) : entryFrame m #[(.ref o1), (.int (2 : Int32)), (.int (0 : Int32)), (.long q1)] 5 = mkF m 0 #[.val (.ref o1), .val (.int (2 : Int32)), .val (.int (0 : Int32)), .val (.long q1), .second] [] := by first | (simp [entryFrame, mkF, argsToLocals, Value.category]; done) | rfl
def own_Q2n0i2 (Z : State) (o1 : Addr) (q1 : Int64) (h0 : Heap) (n0 : Nat) (v : Option Value) (h : Heap) (L : List Loc) : Prop := v = some (.int (1 : Int32)) ∧ Fr n0 L ∧ h = h0
set_option maxRecDepth 65536 in
set_option maxHeartbeats 40000000 in
theorem own_rm2n0i2 (l : Launch) (Z : State) (a0 : Array Value) (hw : ∀ d ∈ tables_1, d.before a0 Z = true) (ws : List Jvm.Cond) (o1 : Addr) (q1 : Int64) (h0 : Heap) (n0 : Nat) (Z0 : n0 ≤ h0.size)  :
    MetFree l (⟨"com/example/loomsand/loomsand/WeightsRunningSumsPinLaw", "at", "([JIIJ)Z"⟩ : MethodName) (head1 (Jvm.Cond.code (⟨"com/example/loomsand/loomsand/WeightsRunningSumsPinLaw", "at", "([JIIJ)Z"⟩ : MethodName) method_2_code 5 (some .boolean) :: ws) ({ frames := 0, cells := 0, slots := 0, locals := 0 } : Room)) (fun a U => a = #[(.ref o1), (.int (2 : Int32)), (.int (0 : Int32)), (.long q1)] ∧ Z.Warmed39 U.vm ∧ U.heap = h0) (fun _ _ _ _ _ => True) (fun _ U o U' => ∃ v L, o = .returned v ∧ own_Q2n0i2 Z o1 q1 h0 n0 v U'.heap L ∧ FrameEnd U o U' L ({ frames := 0, cells := 0, slots := 0, locals := 0 } : Room).cells ({ frames := 0, cells := 0, slots := 0, locals := 0 } : Room).slots) := by
  refine MetFree.of_bodySF (plainFor_of_name own_pn1) hisR ?_
  intro p e s m args below meth c s₁ Bd hml0 hP hK
  obtain ⟨rfl, hZ, hh⟩ := hP
  have hx := Bd.exec
  have hby := Bd.bytes
  have hlk := Bd.notSynchronized
  have hrt := Bd.returns
  have hml : c.maxLocals = 5 := hml0
  have hown : s.vm.findClass "com/example/loomsand/loomsand/WeightsRunningSumsPinLaw" = some m.cls := findClass_of_methodNamed Bd.named
  have hnm := (name_of_methodNamed Bd.named Bd.method).1
  have X0 : Stand p l e ({ frames := 0, cells := 0, slots := 0, locals := 0 } : Room) s m #[(.ref o1), (.int (2 : Int32)), (.int (0 : Int32)), (.long q1)] below meth c s₁ [] 0 0 := Stand.of_body Bd
  have e0 : s₁.heap = h0 := by rw [← hh, Bd.state]; rfl
  have N0 := Fr.nil n0
  refine own_in (own_ef2n0i2 m o1 q1) ?_
  refine own_iloadN X0 hx 1 (hb hby own_d2_0) rfl ?_
  refine own_iloadN X0 hx 2 (hb hby own_d2_1) rfl ?_
  refine own_icmpYes X0 hx 13 (hb hby own_d2_2) (flt (by decide : ¬ ((2 : Int32) < (0 : Int32)))).2.1 ?_
  refine own_iconst X0 hx 14 (1 : Int32) (hb hby own_d2_13) rfl ?_
  refine own_goto X0 hx 18 (hb hby own_d2_14) ?_
  exact own_retN (t := .boolean) (z := (1 : Int32)) (Q := own_Q2n0i2 Z o1 q1 h0 n0) X0 hx hrt (by simp) (hb hby own_d2_18) hlk e0 ⟨rfl, N0, rfl⟩ (by decide) (by decide)
theorem own_ef2n0i3 (m : MethodId) (o1 : Addr) (q1 : Int64) : entryFrame m #[(.ref o1), (.int (3 : Int32)), (.int (0 : Int32)), (.long q1)] 5 = mkF m 0 #[.val (.ref o1), .val (.int (3 : Int32)), .val (.int (0 : Int32)), .val (.long q1), .second] [] := by first | (simp [entryFrame, mkF, argsToLocals, Value.category]; done) | rfl
def own_Q2n0i3 (Z : State) (o1 : Addr) (q1 : Int64) (h0 : Heap) (n0 : Nat) (v : Option Value) (h : Heap) (L : List Loc) : Prop := v = some (.int (1 : Int32)) ∧ Fr n0 L ∧ h = h0
set_option maxRecDepth 65536 in
set_option maxHeartbeats 40000000 in
theorem own_rm2n0i3 (l : Launch) (Z : State) (a0 : Array Value) (hw : ∀ d ∈ tables_1, d.before a0 Z = true) (ws : List Jvm.Cond) (o1 : Addr) (q1 : Int64) (h0 : Heap) (n0 : Nat) (Z0 : n0 ≤ h0.size)  :
    MetFree l (⟨"com/example/loomsand/loomsand/WeightsRunningSumsPinLaw", "at", "([JIIJ)Z"⟩ : MethodName) (head1 (Jvm.Cond.code (⟨"com/example/loomsand/loomsand/WeightsRunningSumsPinLaw", "at", "([JIIJ)Z"⟩ : MethodName) method_2_code 5 (some .boolean) :: ws) ({ frames := 0, cells := 0, slots := 0, locals := 0 } : Room)) (fun a U => a = #[(.ref o1), (.int (3 : Int32)), (.int (0 : Int32)), (.long q1)] ∧ Z.Warmed39 U.vm ∧ U.heap = h0) (fun _ _ _ _ _ => True) (fun _ U o U' => ∃ v L, o = .returned v ∧ own_Q2n0i3 Z o1 q1 h0 n0 v U'.heap L ∧ FrameEnd U o U' L ({ frames := 0, cells := 0, slots := 0, locals := 0 } : Room).cells ({ frames := 0, cells := 0, slots := 0, locals := 0 } : Room).slots) := by
  refine MetFree.of_bodySF (plainFor_of_name own_pn1) hisR ?_
  intro p e s m args below meth c s₁ Bd hml0 hP hK
  obtain ⟨rfl, hZ, hh⟩ := hP
  have hx := Bd.exec
  have hby := Bd.bytes
  have hlk := Bd.notSynchronized
  have hrt := Bd.returns
  have hml : c.maxLocals = 5 := hml0
  have hown : s.vm.findClass "com/example/loomsand/loomsand/WeightsRunningSumsPinLaw" = some m.cls := findClass_of_methodNamed Bd.named
  have hnm := (name_of_methodNamed Bd.named Bd.method).1
  have X0 : Stand p l e ({ frames := 0, cells := 0, slots := 0, locals := 0 } : Room) s m #[(.ref o1), (.int (3 : Int32)), (.int (0 : Int32)), (.long q1)] below meth c s₁ [] 0 0 := Stand.of_body Bd
  have e0 : s₁.heap = h0 := by rw [← hh, Bd.state]; rfl
  have N0 := Fr.nil n0
  refine own_in (own_ef2n0i3 m o1 q1) ?_
  refine own_iloadN X0 hx 1 (hb hby own_d2_0) rfl ?_
  refine own_iloadN X0 hx 2 (hb hby own_d2_1) rfl ?_
  refine own_icmpYes X0 hx 13 (hb hby own_d2_2) (flt (by decide : ¬ ((3 : Int32) < (0 : Int32)))).2.1 ?_
  refine own_iconst X0 hx 14 (1 : Int32) (hb hby own_d2_13) rfl ?_
  refine own_goto X0 hx 18 (hb hby own_d2_14) ?_
  exact own_retN (t := .boolean) (z := (1 : Int32)) (Q := own_Q2n0i3 Z o1 q1 h0 n0) X0 hx hrt (by simp) (hb hby own_d2_18) hlk e0 ⟨rfl, N0, rfl⟩ (by decide) (by decide)
theorem own_d2_5 : decode method_2_code 5 = .ok (.aload_n 0, 1) := by decide +kernel
theorem own_d2_6 : decode method_2_code 6 = .ok (.iload_n 1, 1) := by decide +kernel
theorem own_d2_7 : decode method_2_code 7 = .ok (.laload, 1) := by decide +kernel
theorem own_d2_8 : decode method_2_code 8 = .ok (.lload_n 3, 1) := by decide +kernel
theorem own_d2_9 : decode method_2_code 9 = .ok (.lcmp, 1) := by decide +kernel
theorem own_d2_10 : decode method_2_code 10 = .ok (.ifCond .ne 7, 3) := by decide +kernel
theorem own_ef2n1i0 (m : MethodId) (o1 : Addr) (q1 : Int64) : entryFrame m #[(.ref o1), (.int (0 : Int32)), (.int (1 : Int32)), (.long q1)] 5 = mkF m 0 #[.val (.ref o1), .val (.int (0 : Int32)), .val (.int (1 : Int32)), .val (.long q1), .second] [] := by first | (simp [entryFrame, mkF, argsToLocals, Value.category]; done) | rfl
def own_Q2n1i0 (Z : State) (o1 : Addr) (q1 : Int64) (kk : ClassId) (x0 : Int64) (h0 : Heap) (n0 : Nat) (v : Option Value) (h : Heap) (L : List Loc) : Prop := v = some (.int (1 : Int32)) ∧ Fr n0 L ∧ h = h0
set_option maxRecDepth 65536 in
set_option maxHeartbeats 40000000 in
theorem own_rm2n1i0 (l : Launch) (Z : State) (a0 : Array Value) (hw : ∀ d ∈ tables_1, d.before a0 Z = true) (ws : List Jvm.Cond) (o1 : Addr) (q1 : Int64) (kk : ClassId) (x0 : Int64) (h0 : Heap) (n0 : Nat) (Z0 : n0 ≤ h0.size) (pV1 : Arv Z h0 o1 kk .long (1 : Int32) [(.long x0)] (.long (0 : Int64))) (hq : x0 = q1) :
    MetFree l (⟨"com/example/loomsand/loomsand/WeightsRunningSumsPinLaw", "at", "([JIIJ)Z"⟩ : MethodName) (head1 (Jvm.Cond.code (⟨"com/example/loomsand/loomsand/WeightsRunningSumsPinLaw", "at", "([JIIJ)Z"⟩ : MethodName) method_2_code 5 (some .boolean) :: ws) ({ frames := 0, cells := 0, slots := 0, locals := 0 } : Room)) (fun a U => a = #[(.ref o1), (.int (0 : Int32)), (.int (1 : Int32)), (.long q1)] ∧ Z.Warmed39 U.vm ∧ U.heap = h0) (fun _ _ _ _ _ => True) (fun _ U o U' => ∃ v L, o = .returned v ∧ own_Q2n1i0 Z o1 q1 kk x0 h0 n0 v U'.heap L ∧ FrameEnd U o U' L ({ frames := 0, cells := 0, slots := 0, locals := 0 } : Room).cells ({ frames := 0, cells := 0, slots := 0, locals := 0 } : Room).slots) := by
  refine MetFree.of_bodySF (plainFor_of_name own_pn1) hisR ?_
  intro p e s m args below meth c s₁ Bd hml0 hP hK
  obtain ⟨rfl, hZ, hh⟩ := hP
  have hx := Bd.exec
  have hby := Bd.bytes
  have hlk := Bd.notSynchronized
  have hrt := Bd.returns
  have hml : c.maxLocals = 5 := hml0
  have hown : s.vm.findClass "com/example/loomsand/loomsand/WeightsRunningSumsPinLaw" = some m.cls := findClass_of_methodNamed Bd.named
  have hnm := (name_of_methodNamed Bd.named Bd.method).1
  have X0 : Stand p l e ({ frames := 0, cells := 0, slots := 0, locals := 0 } : Room) s m #[(.ref o1), (.int (0 : Int32)), (.int (1 : Int32)), (.long q1)] below meth c s₁ [] 0 0 := Stand.of_body Bd
  have e0 : s₁.heap = h0 := by rw [← hh, Bd.state]; rfl
  have N0 := Fr.nil n0
  refine own_in (own_ef2n1i0 m o1 q1) ?_
  refine own_iloadN X0 hx 1 (hb hby own_d2_0) rfl ?_
  refine own_iloadN X0 hx 2 (hb hby own_d2_1) rfl ?_
  refine own_icmpNo X0 hx 5 (hb hby own_d2_2) (tlt (by decide : (0 : Int32) < (1 : Int32))).2.1 ?_
  refine own_aloadN X0 hx 6 (hb hby own_d2_5) rfl rfl ?_
  refine own_iloadN X0 hx 7 (hb hby own_d2_6) rfl ?_
  obtain ⟨cl1, Ar1, qv1, S1, M1, H1, G1⟩ := id pV1
  have hin1 : ¬ ((0 : Int32) < 0 ∨ cl1.slots.size ≤ ((0 : Int32)).toNatClampNeg) := inb_of S1 ⟨by decide, by decide⟩
  refine own_st (G' := s₁.setTop (mkF m 8 #[.val (.ref o1), .val (.int (0 : Int32)), .val (.int (1 : Int32)), .val (.long q1), .second] [(.long x0)])) (fun t k => X0.laload hx (j := (0 : Int32)) (v := (.long x0)) (by rw [e0]; exact Ar1.1) (State.isArrayOf_alike hZ.alike Ar1.2.1) Ar1.2.2 hin1 (H1.at hin1 rfl) (g := (mkF m 7 #[.val (.ref o1), .val (.int (0 : Int32)), .val (.int (1 : Int32)), .val (.long q1), .second] [(.int (0 : Int32)), (.ref o1)])) rfl rfl (hb hby own_d2_7) _ k) ?_
  refine own_lloadN X0 hx 9 (hb hby own_d2_8) rfl ?_
  refine own_lcmp X0 hx 10 (hb hby own_d2_9) ?_
  refine own_ifNo X0 hx 13 (hb hby own_d2_10) (teq ((lw_eq _ _).mpr hq)).2 ?_
  refine own_iconst X0 hx 14 (1 : Int32) (hb hby own_d2_13) rfl ?_
  refine own_goto X0 hx 18 (hb hby own_d2_14) ?_
  exact own_retN (t := .boolean) (z := (1 : Int32)) (Q := own_Q2n1i0 Z o1 q1 kk x0 h0 n0) X0 hx hrt (by simp) (hb hby own_d2_18) hlk e0 ⟨rfl, N0, rfl⟩ (by decide) (by decide)
theorem own_ef2n1i1 (m : MethodId) (o1 : Addr) (q1 : Int64) : entryFrame m #[(.ref o1), (.int (1 : Int32)), (.int (1 : Int32)), (.long q1)] 5 = mkF m 0 #[.val (.ref o1), .val (.int (1 : Int32)), .val (.int (1 : Int32)), .val (.long q1), .second] [] := by first | (simp [entryFrame, mkF, argsToLocals, Value.category]; done) | rfl
def own_Q2n1i1 (Z : State) (o1 : Addr) (q1 : Int64) (h0 : Heap) (n0 : Nat) (v : Option Value) (h : Heap) (L : List Loc) : Prop := v = some (.int (1 : Int32)) ∧ Fr n0 L ∧ h = h0
set_option maxRecDepth 65536 in
set_option maxHeartbeats 40000000 in
theorem own_rm2n1i1 (l : Launch) (Z : State) (a0 : Array Value) (hw : ∀ d ∈ tables_1, d.before a0 Z = true) (ws : List Jvm.Cond) (o1 : Addr) (q1 : Int64) (h0 : Heap) (n0 : Nat) (Z0 : n0 ≤ h0.size)  :
    MetFree l (⟨"com/example/loomsand/loomsand/WeightsRunningSumsPinLaw", "at", "([JIIJ)Z"⟩ : MethodName) (head1 (Jvm.Cond.code (⟨"com/example/loomsand/loomsand/WeightsRunningSumsPinLaw", "at", "([JIIJ)Z"⟩ : MethodName) method_2_code 5 (some .boolean) :: ws) ({ frames := 0, cells := 0, slots := 0, locals := 0 } : Room)) (fun a U => a = #[(.ref o1), (.int (1 : Int32)), (.int (1 : Int32)), (.long q1)] ∧ Z.Warmed39 U.vm ∧ U.heap = h0) (fun _ _ _ _ _ => True) (fun _ U o U' => ∃ v L, o = .returned v ∧ own_Q2n1i1 Z o1 q1 h0 n0 v U'.heap L ∧ FrameEnd U o U' L ({ frames := 0, cells := 0, slots := 0, locals := 0 } : Room).cells ({ frames := 0, cells := 0, slots := 0, locals := 0 } : Room).slots) := by
  refine MetFree.of_bodySF (plainFor_of_name own_pn1) hisR ?_
  intro p e s m args below meth c s₁ Bd hml0 hP hK
  obtain ⟨rfl, hZ, hh⟩ := hP
  have hx := Bd.exec
  have hby := Bd.bytes
  have hlk := Bd.notSynchronized
  have hrt := Bd.returns
  have hml : c.maxLocals = 5 := hml0
  have hown : s.vm.findClass "com/example/loomsand/loomsand/WeightsRunningSumsPinLaw" = some m.cls := findClass_of_methodNamed Bd.named
  have hnm := (name_of_methodNamed Bd.named Bd.method).1
  have X0 : Stand p l e ({ frames := 0, cells := 0, slots := 0, locals := 0 } : Room) s m #[(.ref o1), (.int (1 : Int32)), (.int (1 : Int32)), (.long q1)] below meth c s₁ [] 0 0 := Stand.of_body Bd
  have e0 : s₁.heap = h0 := by rw [← hh, Bd.state]; rfl
  have N0 := Fr.nil n0
  refine own_in (own_ef2n1i1 m o1 q1) ?_
  refine own_iloadN X0 hx 1 (hb hby own_d2_0) rfl ?_
  refine own_iloadN X0 hx 2 (hb hby own_d2_1) rfl ?_
  refine own_icmpYes X0 hx 13 (hb hby own_d2_2) (flt (by decide : ¬ ((1 : Int32) < (1 : Int32)))).2.1 ?_
  refine own_iconst X0 hx 14 (1 : Int32) (hb hby own_d2_13) rfl ?_
  refine own_goto X0 hx 18 (hb hby own_d2_14) ?_
  exact own_retN (t := .boolean) (z := (1 : Int32)) (Q := own_Q2n1i1 Z o1 q1 h0 n0) X0 hx hrt (by simp) (hb hby own_d2_18) hlk e0 ⟨rfl, N0, rfl⟩ (by decide) (by decide)
theorem own_ef2n1i2 (m : MethodId) (o1 : Addr) (q1 : Int64) : entryFrame m #[(.ref o1), (.int (2 : Int32)), (.int (1 : Int32)), (.long q1)] 5 = mkF m 0 #[.val (.ref o1), .val (.int (2 : Int32)), .val (.int (1 : Int32)), .val (.long q1), .second] [] := by first | (simp [entryFrame, mkF, argsToLocals, Value.category]; done) | rfl
def own_Q2n1i2 (Z : State) (o1 : Addr) (q1 : Int64) (h0 : Heap) (n0 : Nat) (v : Option Value) (h : Heap) (L : List Loc) : Prop := v = some (.int (1 : Int32)) ∧ Fr n0 L ∧ h = h0
set_option maxRecDepth 65536 in
set_option maxHeartbeats 40000000 in
theorem own_rm2n1i2 (l : Launch) (Z : State) (a0 : Array Value) (hw : ∀ d ∈ tables_1, d.before a0 Z = true) (ws : List Jvm.Cond) (o1 : Addr) (q1 : Int64) (h0 : Heap) (n0 : Nat) (Z0 : n0 ≤ h0.size)  :
    MetFree l (⟨"com/example/loomsand/loomsand/WeightsRunningSumsPinLaw", "at", "([JIIJ)Z"⟩ : MethodName) (head1 (Jvm.Cond.code (⟨"com/example/loomsand/loomsand/WeightsRunningSumsPinLaw", "at", "([JIIJ)Z"⟩ : MethodName) method_2_code 5 (some .boolean) :: ws) ({ frames := 0, cells := 0, slots := 0, locals := 0 } : Room)) (fun a U => a = #[(.ref o1), (.int (2 : Int32)), (.int (1 : Int32)), (.long q1)] ∧ Z.Warmed39 U.vm ∧ U.heap = h0) (fun _ _ _ _ _ => True) (fun _ U o U' => ∃ v L, o = .returned v ∧ own_Q2n1i2 Z o1 q1 h0 n0 v U'.heap L ∧ FrameEnd U o U' L ({ frames := 0, cells := 0, slots := 0, locals := 0 } : Room).cells ({ frames := 0, cells := 0, slots := 0, locals := 0 } : Room).slots) := by
  refine MetFree.of_bodySF (plainFor_of_name own_pn1) hisR ?_
  intro p e s m args below meth c s₁ Bd hml0 hP hK
  obtain ⟨rfl, hZ, hh⟩ := hP
  have hx := Bd.exec
  have hby := Bd.bytes
  have hlk := Bd.notSynchronized
  have hrt := Bd.returns
  have hml : c.maxLocals = 5 := hml0
  have hown : s.vm.findClass "com/example/loomsand/loomsand/WeightsRunningSumsPinLaw" = some m.cls := findClass_of_methodNamed Bd.named
  have hnm := (name_of_methodNamed Bd.named Bd.method).1
  have X0 : Stand p l e ({ frames := 0, cells := 0, slots := 0, locals := 0 } : Room) s m #[(.ref o1), (.int (2 : Int32)), (.int (1 : Int32)), (.long q1)] below meth c s₁ [] 0 0 := Stand.of_body Bd
  have e0 : s₁.heap = h0 := by rw [← hh, Bd.state]; rfl
  have N0 := Fr.nil n0
  refine own_in (own_ef2n1i2 m o1 q1) ?_
  refine own_iloadN X0 hx 1 (hb hby own_d2_0) rfl ?_
  refine own_iloadN X0 hx 2 (hb hby own_d2_1) rfl ?_
  refine own_icmpYes X0 hx 13 (hb hby own_d2_2) (flt (by decide : ¬ ((2 : Int32) < (1 : Int32)))).2.1 ?_
  refine own_iconst X0 hx 14 (1 : Int32) (hb hby own_d2_13) rfl ?_
  refine own_goto X0 hx 18 (hb hby own_d2_14) ?_
  exact own_retN (t := .boolean) (z := (1 : Int32)) (Q := own_Q2n1i2 Z o1 q1 h0 n0) X0 hx hrt (by simp) (hb hby own_d2_18) hlk e0 ⟨rfl, N0, rfl⟩ (by decide) (by decide)
theorem own_ef2n1i3 (m : MethodId) (o1 : Addr) (q1 : Int64) : entryFrame m #[(.ref o1), (.int (3 : Int32)), (.int (1 : Int32)), (.long q1)] 5 = mkF m 0 #[.val (.ref o1), .val (.int (3 : Int32)), .val (.int (1 : Int32)), .val (.long q1), .second] [] := by first | (simp [entryFrame, mkF, argsToLocals, Value.category]; done) | rfl
def own_Q2n1i3 (Z : State) (o1 : Addr) (q1 : Int64) (h0 : Heap) (n0 : Nat) (v : Option Value) (h : Heap) (L : List Loc) : Prop := v = some (.int (1 : Int32)) ∧ Fr n0 L ∧ h = h0
set_option maxRecDepth 65536 in
set_option maxHeartbeats 40000000 in
theorem own_rm2n1i3 (l : Launch) (Z : State) (a0 : Array Value) (hw : ∀ d ∈ tables_1, d.before a0 Z = true) (ws : List Jvm.Cond) (o1 : Addr) (q1 : Int64) (h0 : Heap) (n0 : Nat) (Z0 : n0 ≤ h0.size)  :
    MetFree l (⟨"com/example/loomsand/loomsand/WeightsRunningSumsPinLaw", "at", "([JIIJ)Z"⟩ : MethodName) (head1 (Jvm.Cond.code (⟨"com/example/loomsand/loomsand/WeightsRunningSumsPinLaw", "at", "([JIIJ)Z"⟩ : MethodName) method_2_code 5 (some .boolean) :: ws) ({ frames := 0, cells := 0, slots := 0, locals := 0 } : Room)) (fun a U => a = #[(.ref o1), (.int (3 : Int32)), (.int (1 : Int32)), (.long q1)] ∧ Z.Warmed39 U.vm ∧ U.heap = h0) (fun _ _ _ _ _ => True) (fun _ U o U' => ∃ v L, o = .returned v ∧ own_Q2n1i3 Z o1 q1 h0 n0 v U'.heap L ∧ FrameEnd U o U' L ({ frames := 0, cells := 0, slots := 0, locals := 0 } : Room).cells ({ frames := 0, cells := 0, slots := 0, locals := 0 } : Room).slots) := by
  refine MetFree.of_bodySF (plainFor_of_name own_pn1) hisR ?_
  intro p e s m args below meth c s₁ Bd hml0 hP hK
  obtain ⟨rfl, hZ, hh⟩ := hP
  have hx := Bd.exec
  have hby := Bd.bytes
  have hlk := Bd.notSynchronized
  have hrt := Bd.returns
  have hml : c.maxLocals = 5 := hml0
  have hown : s.vm.findClass "com/example/loomsand/loomsand/WeightsRunningSumsPinLaw" = some m.cls := findClass_of_methodNamed Bd.named
  have hnm := (name_of_methodNamed Bd.named Bd.method).1
  have X0 : Stand p l e ({ frames := 0, cells := 0, slots := 0, locals := 0 } : Room) s m #[(.ref o1), (.int (3 : Int32)), (.int (1 : Int32)), (.long q1)] below meth c s₁ [] 0 0 := Stand.of_body Bd
  have e0 : s₁.heap = h0 := by rw [← hh, Bd.state]; rfl
  have N0 := Fr.nil n0
  refine own_in (own_ef2n1i3 m o1 q1) ?_
  refine own_iloadN X0 hx 1 (hb hby own_d2_0) rfl ?_
  refine own_iloadN X0 hx 2 (hb hby own_d2_1) rfl ?_
  refine own_icmpYes X0 hx 13 (hb hby own_d2_2) (flt (by decide : ¬ ((3 : Int32) < (1 : Int32)))).2.1 ?_
  refine own_iconst X0 hx 14 (1 : Int32) (hb hby own_d2_13) rfl ?_
  refine own_goto X0 hx 18 (hb hby own_d2_14) ?_
  exact own_retN (t := .boolean) (z := (1 : Int32)) (Q := own_Q2n1i3 Z o1 q1 h0 n0) X0 hx hrt (by simp) (hb hby own_d2_18) hlk e0 ⟨rfl, N0, rfl⟩ (by decide) (by decide)
theorem own_ef2n2i0 (m : MethodId) (o1 : Addr) (q1 : Int64) : entryFrame m #[(.ref o1), (.int (0 : Int32)), (.int (2 : Int32)), (.long q1)] 5 = mkF m 0 #[.val (.ref o1), .val (.int (0 : Int32)), .val (.int (2 : Int32)), .val (.long q1), .second] [] := by first | (simp [entryFrame, mkF, argsToLocals, Value.category]; done) | rfl
def own_Q2n2i0 (Z : State) (o1 : Addr) (q1 : Int64) (kk : ClassId) (x0 : Int64) (x1 : Int64) (h0 : Heap) (n0 : Nat) (v : Option Value) (h : Heap) (L : List Loc) : Prop := v = some (.int (1 : Int32)) ∧ Fr n0 L ∧ h = h0
set_option maxRecDepth 65536 in
set_option maxHeartbeats 40000000 in
theorem own_rm2n2i0 (l : Launch) (Z : State) (a0 : Array Value) (hw : ∀ d ∈ tables_1, d.before a0 Z = true) (ws : List Jvm.Cond) (o1 : Addr) (q1 : Int64) (kk : ClassId) (x0 : Int64) (x1 : Int64) (h0 : Heap) (n0 : Nat) (Z0 : n0 ≤ h0.size) (pV1 : Arv Z h0 o1 kk .long (2 : Int32) [(.long x0), (.long x1)] (.long (0 : Int64))) (hq : x0 = q1) :
    MetFree l (⟨"com/example/loomsand/loomsand/WeightsRunningSumsPinLaw", "at", "([JIIJ)Z"⟩ : MethodName) (head1 (Jvm.Cond.code (⟨"com/example/loomsand/loomsand/WeightsRunningSumsPinLaw", "at", "([JIIJ)Z"⟩ : MethodName) method_2_code 5 (some .boolean) :: ws) ({ frames := 0, cells := 0, slots := 0, locals := 0 } : Room)) (fun a U => a = #[(.ref o1), (.int (0 : Int32)), (.int (2 : Int32)), (.long q1)] ∧ Z.Warmed39 U.vm ∧ U.heap = h0) (fun _ _ _ _ _ => True) (fun _ U o U' => ∃ v L, o = .returned v ∧ own_Q2n2i0 Z o1 q1 kk x0 x1 h0 n0 v U'.heap L ∧ FrameEnd U o U' L ({ frames := 0, cells := 0, slots := 0, locals := 0 } : Room).cells ({ frames := 0, cells := 0, slots := 0, locals := 0 } : Room).slots) := by
  refine MetFree.of_bodySF (plainFor_of_name own_pn1) hisR ?_
  intro p e s m args below meth c s₁ Bd hml0 hP hK
  obtain ⟨rfl, hZ, hh⟩ := hP
  have hx := Bd.exec
  have hby := Bd.bytes
  have hlk := Bd.notSynchronized
  have hrt := Bd.returns
  have hml : c.maxLocals = 5 := hml0
  have hown : s.vm.findClass "com/example/loomsand/loomsand/WeightsRunningSumsPinLaw" = some m.cls := findClass_of_methodNamed Bd.named
  have hnm := (name_of_methodNamed Bd.named Bd.method).1
  have X0 : Stand p l e ({ frames := 0, cells := 0, slots := 0, locals := 0 } : Room) s m #[(.ref o1), (.int (0 : Int32)), (.int (2 : Int32)), (.long q1)] below meth c s₁ [] 0 0 := Stand.of_body Bd
  have e0 : s₁.heap = h0 := by rw [← hh, Bd.state]; rfl
  have N0 := Fr.nil n0
  refine own_in (own_ef2n2i0 m o1 q1) ?_
  refine own_iloadN X0 hx 1 (hb hby own_d2_0) rfl ?_
  refine own_iloadN X0 hx 2 (hb hby own_d2_1) rfl ?_
  refine own_icmpNo X0 hx 5 (hb hby own_d2_2) (tlt (by decide : (0 : Int32) < (2 : Int32))).2.1 ?_
  refine own_aloadN X0 hx 6 (hb hby own_d2_5) rfl rfl ?_
  refine own_iloadN X0 hx 7 (hb hby own_d2_6) rfl ?_
  obtain ⟨cl1, Ar1, qv1, S1, M1, H1, G1⟩ := id pV1
  have hin1 : ¬ ((0 : Int32) < 0 ∨ cl1.slots.size ≤ ((0 : Int32)).toNatClampNeg) := inb_of S1 ⟨by decide, by decide⟩
  refine own_st (G' := s₁.setTop (mkF m 8 #[.val (.ref o1), .val (.int (0 : Int32)), .val (.int (2 : Int32)), .val (.long q1), .second] [(.long x0)])) (fun t k => X0.laload hx (j := (0 : Int32)) (v := (.long x0)) (by rw [e0]; exact Ar1.1) (State.isArrayOf_alike hZ.alike Ar1.2.1) Ar1.2.2 hin1 (H1.at hin1 rfl) (g := (mkF m 7 #[.val (.ref o1), .val (.int (0 : Int32)), .val (.int (2 : Int32)), .val (.long q1), .second] [(.int (0 : Int32)), (.ref o1)])) rfl rfl (hb hby own_d2_7) _ k) ?_
  refine own_lloadN X0 hx 9 (hb hby own_d2_8) rfl ?_
  refine own_lcmp X0 hx 10 (hb hby own_d2_9) ?_
  refine own_ifNo X0 hx 13 (hb hby own_d2_10) (teq ((lw_eq _ _).mpr hq)).2 ?_
  refine own_iconst X0 hx 14 (1 : Int32) (hb hby own_d2_13) rfl ?_
  refine own_goto X0 hx 18 (hb hby own_d2_14) ?_
  exact own_retN (t := .boolean) (z := (1 : Int32)) (Q := own_Q2n2i0 Z o1 q1 kk x0 x1 h0 n0) X0 hx hrt (by simp) (hb hby own_d2_18) hlk e0 ⟨rfl, N0, rfl⟩ (by decide) (by decide)
theorem own_ef2n2i1 (m : MethodId) (o1 : Addr) (q1 : Int64) : entryFrame m #[(.ref o1), (.int (1 : Int32)), (.int (2 : Int32)), (.long q1)] 5 = mkF m 0 #[.val (.ref o1), .val (.int (1 : Int32)), .val (.int (2 : Int32)), .val (.long q1), .second] [] := by first | (simp [entryFrame, mkF, argsToLocals, Value.category]; done) | rfl
def own_Q2n2i1 (Z : State) (o1 : Addr) (q1 : Int64) (kk : ClassId) (x0 : Int64) (x1 : Int64) (h0 : Heap) (n0 : Nat) (v : Option Value) (h : Heap) (L : List Loc) : Prop := v = some (.int (1 : Int32)) ∧ Fr n0 L ∧ h = h0
set_option maxRecDepth 65536 in
set_option maxHeartbeats 40000000 in
theorem own_rm2n2i1 (l : Launch) (Z : State) (a0 : Array Value) (hw : ∀ d ∈ tables_1, d.before a0 Z = true) (ws : List Jvm.Cond) (o1 : Addr) (q1 : Int64) (kk : ClassId) (x0 : Int64) (x1 : Int64) (h0 : Heap) (n0 : Nat) (Z0 : n0 ≤ h0.size) (pV1 : Arv Z h0 o1 kk .long (2 : Int32) [(.long x0), (.long x1)] (.long (0 : Int64))) (hq : x1 = q1) :
    MetFree l (⟨"com/example/loomsand/loomsand/WeightsRunningSumsPinLaw", "at", "([JIIJ)Z"⟩ : MethodName) (head1 (Jvm.Cond.code (⟨"com/example/loomsand/loomsand/WeightsRunningSumsPinLaw", "at", "([JIIJ)Z"⟩ : MethodName) method_2_code 5 (some .boolean) :: ws) ({ frames := 0, cells := 0, slots := 0, locals := 0 } : Room)) (fun a U => a = #[(.ref o1), (.int (1 : Int32)), (.int (2 : Int32)), (.long q1)] ∧ Z.Warmed39 U.vm ∧ U.heap = h0) (fun _ _ _ _ _ => True) (fun _ U o U' => ∃ v L, o = .returned v ∧ own_Q2n2i1 Z o1 q1 kk x0 x1 h0 n0 v U'.heap L ∧ FrameEnd U o U' L ({ frames := 0, cells := 0, slots := 0, locals := 0 } : Room).cells ({ frames := 0, cells := 0, slots := 0, locals := 0 } : Room).slots) := by
  refine MetFree.of_bodySF (plainFor_of_name own_pn1) hisR ?_
  intro p e s m args below meth c s₁ Bd hml0 hP hK
  obtain ⟨rfl, hZ, hh⟩ := hP
  have hx := Bd.exec
  have hby := Bd.bytes
  have hlk := Bd.notSynchronized
  have hrt := Bd.returns
  have hml : c.maxLocals = 5 := hml0
  have hown : s.vm.findClass "com/example/loomsand/loomsand/WeightsRunningSumsPinLaw" = some m.cls := findClass_of_methodNamed Bd.named
  have hnm := (name_of_methodNamed Bd.named Bd.method).1
  have X0 : Stand p l e ({ frames := 0, cells := 0, slots := 0, locals := 0 } : Room) s m #[(.ref o1), (.int (1 : Int32)), (.int (2 : Int32)), (.long q1)] below meth c s₁ [] 0 0 := Stand.of_body Bd
  have e0 : s₁.heap = h0 := by rw [← hh, Bd.state]; rfl
  have N0 := Fr.nil n0
  refine own_in (own_ef2n2i1 m o1 q1) ?_
  refine own_iloadN X0 hx 1 (hb hby own_d2_0) rfl ?_
  refine own_iloadN X0 hx 2 (hb hby own_d2_1) rfl ?_
  refine own_icmpNo X0 hx 5 (hb hby own_d2_2) (tlt (by decide : (1 : Int32) < (2 : Int32))).2.1 ?_
  refine own_aloadN X0 hx 6 (hb hby own_d2_5) rfl rfl ?_
  refine own_iloadN X0 hx 7 (hb hby own_d2_6) rfl ?_
  obtain ⟨cl1, Ar1, qv1, S1, M1, H1, G1⟩ := id pV1
  have hin1 : ¬ ((1 : Int32) < 0 ∨ cl1.slots.size ≤ ((1 : Int32)).toNatClampNeg) := inb_of S1 ⟨by decide, by decide⟩
  refine own_st (G' := s₁.setTop (mkF m 8 #[.val (.ref o1), .val (.int (1 : Int32)), .val (.int (2 : Int32)), .val (.long q1), .second] [(.long x1)])) (fun t k => X0.laload hx (j := (1 : Int32)) (v := (.long x1)) (by rw [e0]; exact Ar1.1) (State.isArrayOf_alike hZ.alike Ar1.2.1) Ar1.2.2 hin1 (H1.at hin1 rfl) (g := (mkF m 7 #[.val (.ref o1), .val (.int (1 : Int32)), .val (.int (2 : Int32)), .val (.long q1), .second] [(.int (1 : Int32)), (.ref o1)])) rfl rfl (hb hby own_d2_7) _ k) ?_
  refine own_lloadN X0 hx 9 (hb hby own_d2_8) rfl ?_
  refine own_lcmp X0 hx 10 (hb hby own_d2_9) ?_
  refine own_ifNo X0 hx 13 (hb hby own_d2_10) (teq ((lw_eq _ _).mpr hq)).2 ?_
  refine own_iconst X0 hx 14 (1 : Int32) (hb hby own_d2_13) rfl ?_
  refine own_goto X0 hx 18 (hb hby own_d2_14) ?_
  exact own_retN (t := .boolean) (z := (1 : Int32)) (Q := own_Q2n2i1 Z o1 q1 kk x0 x1 h0 n0) X0 hx hrt (by simp) (hb hby own_d2_18) hlk e0 ⟨rfl, N0, rfl⟩ (by decide) (by decide)
theorem own_ef2n2i2 (m : MethodId) (o1 : Addr) (q1 : Int64) : entryFrame m #[(.ref o1), (.int (2 : Int32)), (.int (2 : Int32)), (.long q1)] 5 = mkF m 0 #[.val (.ref o1), .val (.int (2 : Int32)), .val (.int (2 : Int32)), .val (.long q1), .second] [] := by first | (simp [entryFrame, mkF, argsToLocals, Value.category]; done) | rfl
def own_Q2n2i2 (Z : State) (o1 : Addr) (q1 : Int64) (h0 : Heap) (n0 : Nat) (v : Option Value) (h : Heap) (L : List Loc) : Prop := v = some (.int (1 : Int32)) ∧ Fr n0 L ∧ h = h0
set_option maxRecDepth 65536 in
set_option maxHeartbeats 40000000 in
theorem own_rm2n2i2 (l : Launch) (Z : State) (a0 : Array Value) (hw : ∀ d ∈ tables_1, d.before a0 Z = true) (ws : List Jvm.Cond) (o1 : Addr) (q1 : Int64) (h0 : Heap) (n0 : Nat) (Z0 : n0 ≤ h0.size)  :
    MetFree l (⟨"com/example/loomsand/loomsand/WeightsRunningSumsPinLaw", "at", "([JIIJ)Z"⟩ : MethodName) (head1 (Jvm.Cond.code (⟨"com/example/loomsand/loomsand/WeightsRunningSumsPinLaw", "at", "([JIIJ)Z"⟩ : MethodName) method_2_code 5 (some .boolean) :: ws) ({ frames := 0, cells := 0, slots := 0, locals := 0 } : Room)) (fun a U => a = #[(.ref o1), (.int (2 : Int32)), (.int (2 : Int32)), (.long q1)] ∧ Z.Warmed39 U.vm ∧ U.heap = h0) (fun _ _ _ _ _ => True) (fun _ U o U' => ∃ v L, o = .returned v ∧ own_Q2n2i2 Z o1 q1 h0 n0 v U'.heap L ∧ FrameEnd U o U' L ({ frames := 0, cells := 0, slots := 0, locals := 0 } : Room).cells ({ frames := 0, cells := 0, slots := 0, locals := 0 } : Room).slots) := by
  refine MetFree.of_bodySF (plainFor_of_name own_pn1) hisR ?_
  intro p e s m args below meth c s₁ Bd hml0 hP hK
  obtain ⟨rfl, hZ, hh⟩ := hP
  have hx := Bd.exec
  have hby := Bd.bytes
  have hlk := Bd.notSynchronized
  have hrt := Bd.returns
  have hml : c.maxLocals = 5 := hml0
  have hown : s.vm.findClass "com/example/loomsand/loomsand/WeightsRunningSumsPinLaw" = some m.cls := findClass_of_methodNamed Bd.named
  have hnm := (name_of_methodNamed Bd.named Bd.method).1
  have X0 : Stand p l e ({ frames := 0, cells := 0, slots := 0, locals := 0 } : Room) s m #[(.ref o1), (.int (2 : Int32)), (.int (2 : Int32)), (.long q1)] below meth c s₁ [] 0 0 := Stand.of_body Bd
  have e0 : s₁.heap = h0 := by rw [← hh, Bd.state]; rfl
  have N0 := Fr.nil n0
  refine own_in (own_ef2n2i2 m o1 q1) ?_
  refine own_iloadN X0 hx 1 (hb hby own_d2_0) rfl ?_
  refine own_iloadN X0 hx 2 (hb hby own_d2_1) rfl ?_
  refine own_icmpYes X0 hx 13 (hb hby own_d2_2) (flt (by decide : ¬ ((2 : Int32) < (2 : Int32)))).2.1 ?_
  refine own_iconst X0 hx 14 (1 : Int32) (hb hby own_d2_13) rfl ?_
  refine own_goto X0 hx 18 (hb hby own_d2_14) ?_
  exact own_retN (t := .boolean) (z := (1 : Int32)) (Q := own_Q2n2i2 Z o1 q1 h0 n0) X0 hx hrt (by simp) (hb hby own_d2_18) hlk e0 ⟨rfl, N0, rfl⟩ (by decide) (by decide)
theorem own_ef2n2i3 (m : MethodId) (o1 : Addr) (q1 : Int64) : entryFrame m #[(.ref o1), (.int (3 : Int32)), (.int (2 : Int32)), (.long q1)] 5 = mkF m 0 #[.val (.ref o1), .val (.int (3 : Int32)), .val (.int (2 : Int32)), .val (.long q1), .second] [] := by first | (simp [entryFrame, mkF, argsToLocals, Value.category]; done) | rfl
def own_Q2n2i3 (Z : State) (o1 : Addr) (q1 : Int64) (h0 : Heap) (n0 : Nat) (v : Option Value) (h : Heap) (L : List Loc) : Prop := v = some (.int (1 : Int32)) ∧ Fr n0 L ∧ h = h0
set_option maxRecDepth 65536 in
set_option maxHeartbeats 40000000 in
theorem own_rm2n2i3 (l : Launch) (Z : State) (a0 : Array Value) (hw : ∀ d ∈ tables_1, d.before a0 Z = true) (ws : List Jvm.Cond) (o1 : Addr) (q1 : Int64) (h0 : Heap) (n0 : Nat) (Z0 : n0 ≤ h0.size)  :
    MetFree l (⟨"com/example/loomsand/loomsand/WeightsRunningSumsPinLaw", "at", "([JIIJ)Z"⟩ : MethodName) (head1 (Jvm.Cond.code (⟨"com/example/loomsand/loomsand/WeightsRunningSumsPinLaw", "at", "([JIIJ)Z"⟩ : MethodName) method_2_code 5 (some .boolean) :: ws) ({ frames := 0, cells := 0, slots := 0, locals := 0 } : Room)) (fun a U => a = #[(.ref o1), (.int (3 : Int32)), (.int (2 : Int32)), (.long q1)] ∧ Z.Warmed39 U.vm ∧ U.heap = h0) (fun _ _ _ _ _ => True) (fun _ U o U' => ∃ v L, o = .returned v ∧ own_Q2n2i3 Z o1 q1 h0 n0 v U'.heap L ∧ FrameEnd U o U' L ({ frames := 0, cells := 0, slots := 0, locals := 0 } : Room).cells ({ frames := 0, cells := 0, slots := 0, locals := 0 } : Room).slots) := by
  refine MetFree.of_bodySF (plainFor_of_name own_pn1) hisR ?_
  intro p e s m args below meth c s₁ Bd hml0 hP hK
  obtain ⟨rfl, hZ, hh⟩ := hP
  have hx := Bd.exec
  have hby := Bd.bytes
  have hlk := Bd.notSynchronized
  have hrt := Bd.returns
  have hml : c.maxLocals = 5 := hml0
  have hown : s.vm.findClass "com/example/loomsand/loomsand/WeightsRunningSumsPinLaw" = some m.cls := findClass_of_methodNamed Bd.named
  have hnm := (name_of_methodNamed Bd.named Bd.method).1
  have X0 : Stand p l e ({ frames := 0, cells := 0, slots := 0, locals := 0 } : Room) s m #[(.ref o1), (.int (3 : Int32)), (.int (2 : Int32)), (.long q1)] below meth c s₁ [] 0 0 := Stand.of_body Bd
  have e0 : s₁.heap = h0 := by rw [← hh, Bd.state]; rfl
  have N0 := Fr.nil n0
  refine own_in (own_ef2n2i3 m o1 q1) ?_
  refine own_iloadN X0 hx 1 (hb hby own_d2_0) rfl ?_
  refine own_iloadN X0 hx 2 (hb hby own_d2_1) rfl ?_
  refine own_icmpYes X0 hx 13 (hb hby own_d2_2) (flt (by decide : ¬ ((3 : Int32) < (2 : Int32)))).2.1 ?_
  refine own_iconst X0 hx 14 (1 : Int32) (hb hby own_d2_13) rfl ?_
  refine own_goto X0 hx 18 (hb hby own_d2_14) ?_
  exact own_retN (t := .boolean) (z := (1 : Int32)) (Q := own_Q2n2i3 Z o1 q1 h0 n0) X0 hx hrt (by simp) (hb hby own_d2_18) hlk e0 ⟨rfl, N0, rfl⟩ (by decide) (by decide)
theorem own_ef2n3i0 (m : MethodId) (o1 : Addr) (q1 : Int64) : entryFrame m #[(.ref o1), (.int (0 : Int32)), (.int (3 : Int32)), (.long q1)] 5 = mkF m 0 #[.val (.ref o1), .val (.int (0 : Int32)), .val (.int (3 : Int32)), .val (.long q1), .second] [] := by first | (simp [entryFrame, mkF, argsToLocals, Value.category]; done) | rfl
def own_Q2n3i0 (Z : State) (o1 : Addr) (q1 : Int64) (kk : ClassId) (x0 : Int64) (x1 : Int64) (x2 : Int64) (h0 : Heap) (n0 : Nat) (v : Option Value) (h : Heap) (L : List Loc) : Prop := v = some (.int (1 : Int32)) ∧ Fr n0 L ∧ h = h0
set_option maxRecDepth 65536 in
set_option maxHeartbeats 40000000 in
theorem own_rm2n3i0 (l : Launch) (Z : State) (a0 : Array Value) (hw : ∀ d ∈ tables_1, d.before a0 Z = true) (ws : List Jvm.Cond) (o1 : Addr) (q1 : Int64) (kk : ClassId) (x0 : Int64) (x1 : Int64) (x2 : Int64) (h0 : Heap) (n0 : Nat) (Z0 : n0 ≤ h0.size) (pV1 : Arv Z h0 o1 kk .long (3 : Int32) [(.long x0), (.long x1), (.long x2)] (.long (0 : Int64))) (hq : x0 = q1) :
    MetFree l (⟨"com/example/loomsand/loomsand/WeightsRunningSumsPinLaw", "at", "([JIIJ)Z"⟩ : MethodName) (head1 (Jvm.Cond.code (⟨"com/example/loomsand/loomsand/WeightsRunningSumsPinLaw", "at", "([JIIJ)Z"⟩ : MethodName) method_2_code 5 (some .boolean) :: ws) ({ frames := 0, cells := 0, slots := 0, locals := 0 } : Room)) (fun a U => a = #[(.ref o1), (.int (0 : Int32)), (.int (3 : Int32)), (.long q1)] ∧ Z.Warmed39 U.vm ∧ U.heap = h0) (fun _ _ _ _ _ => True) (fun _ U o U' => ∃ v L, o = .returned v ∧ own_Q2n3i0 Z o1 q1 kk x0 x1 x2 h0 n0 v U'.heap L ∧ FrameEnd U o U' L ({ frames := 0, cells := 0, slots := 0, locals := 0 } : Room).cells ({ frames := 0, cells := 0, slots := 0, locals := 0 } : Room).slots) := by
  refine MetFree.of_bodySF (plainFor_of_name own_pn1) hisR ?_
  intro p e s m args below meth c s₁ Bd hml0 hP hK
  obtain ⟨rfl, hZ, hh⟩ := hP
  have hx := Bd.exec
  have hby := Bd.bytes
  have hlk := Bd.notSynchronized
  have hrt := Bd.returns
  have hml : c.maxLocals = 5 := hml0
  have hown : s.vm.findClass "com/example/loomsand/loomsand/WeightsRunningSumsPinLaw" = some m.cls := findClass_of_methodNamed Bd.named
  have hnm := (name_of_methodNamed Bd.named Bd.method).1
  have X0 : Stand p l e ({ frames := 0, cells := 0, slots := 0, locals := 0 } : Room) s m #[(.ref o1), (.int (0 : Int32)), (.int (3 : Int32)), (.long q1)] below meth c s₁ [] 0 0 := Stand.of_body Bd
  have e0 : s₁.heap = h0 := by rw [← hh, Bd.state]; rfl
  have N0 := Fr.nil n0
  refine own_in (own_ef2n3i0 m o1 q1) ?_
  refine own_iloadN X0 hx 1 (hb hby own_d2_0) rfl ?_
  refine own_iloadN X0 hx 2 (hb hby own_d2_1) rfl ?_
  refine own_icmpNo X0 hx 5 (hb hby own_d2_2) (tlt (by decide : (0 : Int32) < (3 : Int32))).2.1 ?_
  refine own_aloadN X0 hx 6 (hb hby own_d2_5) rfl rfl ?_
  refine own_iloadN X0 hx 7 (hb hby own_d2_6) rfl ?_
  obtain ⟨cl1, Ar1, qv1, S1, M1, H1, G1⟩ := id pV1
  have hin1 : ¬ ((0 : Int32) < 0 ∨ cl1.slots.size ≤ ((0 : Int32)).toNatClampNeg) := inb_of S1 ⟨by decide, by decide⟩
  refine own_st (G' := s₁.setTop (mkF m 8 #[.val (.ref o1), .val (.int (0 : Int32)), .val (.int (3 : Int32)), .val (.long q1), .second] [(.long x0)])) (fun t k => X0.laload hx (j := (0 : Int32)) (v := (.long x0)) (by rw [e0]; exact Ar1.1) (State.isArrayOf_alike hZ.alike Ar1.2.1) Ar1.2.2 hin1 (H1.at hin1 rfl) (g := (mkF m 7 #[.val (.ref o1), .val (.int (0 : Int32)), .val (.int (3 : Int32)), .val (.long q1), .second] [(.int (0 : Int32)), (.ref o1)])) rfl rfl (hb hby own_d2_7) _ k) ?_
  refine own_lloadN X0 hx 9 (hb hby own_d2_8) rfl ?_
  refine own_lcmp X0 hx 10 (hb hby own_d2_9) ?_
  refine own_ifNo X0 hx 13 (hb hby own_d2_10) (teq ((lw_eq _ _).mpr hq)).2 ?_
  refine own_iconst X0 hx 14 (1 : Int32) (hb hby own_d2_13) rfl ?_
  refine own_goto X0 hx 18 (hb hby own_d2_14) ?_
  exact own_retN (t := .boolean) (z := (1 : Int32)) (Q := own_Q2n3i0 Z o1 q1 kk x0 x1 x2 h0 n0) X0 hx hrt (by simp) (hb hby own_d2_18) hlk e0 ⟨rfl, N0, rfl⟩ (by decide) (by decide)
theorem own_ef2n3i1 (m : MethodId) (o1 : Addr) (q1 : Int64) : entryFrame m #[(.ref o1), (.int (1 : Int32)), (.int (3 : Int32)), (.long q1)] 5 = mkF m 0 #[.val (.ref o1), .val (.int (1 : Int32)), .val (.int (3 : Int32)), .val (.long q1), .second] [] := by first | (simp [entryFrame, mkF, argsToLocals, Value.category]; done) | rfl
def own_Q2n3i1 (Z : State) (o1 : Addr) (q1 : Int64) (kk : ClassId) (x0 : Int64) (x1 : Int64) (x2 : Int64) (h0 : Heap) (n0 : Nat) (v : Option Value) (h : Heap) (L : List Loc) : Prop := v = some (.int (1 : Int32)) ∧ Fr n0 L ∧ h = h0
set_option maxRecDepth 65536 in
set_option maxHeartbeats 40000000 in
theorem own_rm2n3i1 (l : Launch) (Z : State) (a0 : Array Value) (hw : ∀ d ∈ tables_1, d.before a0 Z = true) (ws : List Jvm.Cond) (o1 : Addr) (q1 : Int64) (kk : ClassId) (x0 : Int64) (x1 : Int64) (x2 : Int64) (h0 : Heap) (n0 : Nat) (Z0 : n0 ≤ h0.size) (pV1 : Arv Z h0 o1 kk .long (3 : Int32) [(.long x0), (.long x1), (.long x2)] (.long (0 : Int64))) (hq : x1 = q1) :
    MetFree l (⟨"com/example/loomsand/loomsand/WeightsRunningSumsPinLaw", "at", "([JIIJ)Z"⟩ : MethodName) (head1 (Jvm.Cond.code (⟨"com/example/loomsand/loomsand/WeightsRunningSumsPinLaw", "at", "([JIIJ)Z"⟩ : MethodName) method_2_code 5 (some .boolean) :: ws) ({ frames := 0, cells := 0, slots := 0, locals := 0 } : Room)) (fun a U => a = #[(.ref o1), (.int (1 : Int32)), (.int (3 : Int32)), (.long q1)] ∧ Z.Warmed39 U.vm ∧ U.heap = h0) (fun _ _ _ _ _ => True) (fun _ U o U' => ∃ v L, o = .returned v ∧ own_Q2n3i1 Z o1 q1 kk x0 x1 x2 h0 n0 v U'.heap L ∧ FrameEnd U o U' L ({ frames := 0, cells := 0, slots := 0, locals := 0 } : Room).cells ({ frames := 0, cells := 0, slots := 0, locals := 0 } : Room).slots) := by
  refine MetFree.of_bodySF (plainFor_of_name own_pn1) hisR ?_
  intro p e s m args below meth c s₁ Bd hml0 hP hK
  obtain ⟨rfl, hZ, hh⟩ := hP
  have hx := Bd.exec
  have hby := Bd.bytes
  have hlk := Bd.notSynchronized
  have hrt := Bd.returns
  have hml : c.maxLocals = 5 := hml0
  have hown : s.vm.findClass "com/example/loomsand/loomsand/WeightsRunningSumsPinLaw" = some m.cls := findClass_of_methodNamed Bd.named
  have hnm := (name_of_methodNamed Bd.named Bd.method).1
  have X0 : Stand p l e ({ frames := 0, cells := 0, slots := 0, locals := 0 } : Room) s m #[(.ref o1), (.int (1 : Int32)), (.int (3 : Int32)), (.long q1)] below meth c s₁ [] 0 0 := Stand.of_body Bd
  have e0 : s₁.heap = h0 := by rw [← hh, Bd.state]; rfl
  have N0 := Fr.nil n0
  refine own_in (own_ef2n3i1 m o1 q1) ?_
  refine own_iloadN X0 hx 1 (hb hby own_d2_0) rfl ?_
  refine own_iloadN X0 hx 2 (hb hby own_d2_1) rfl ?_
  refine own_icmpNo X0 hx 5 (hb hby own_d2_2) (tlt (by decide : (1 : Int32) < (3 : Int32))).2.1 ?_
  refine own_aloadN X0 hx 6 (hb hby own_d2_5) rfl rfl ?_
  refine own_iloadN X0 hx 7 (hb hby own_d2_6) rfl ?_
  obtain ⟨cl1, Ar1, qv1, S1, M1, H1, G1⟩ := id pV1
  have hin1 : ¬ ((1 : Int32) < 0 ∨ cl1.slots.size ≤ ((1 : Int32)).toNatClampNeg) := inb_of S1 ⟨by decide, by decide⟩
  refine own_st (G' := s₁.setTop (mkF m 8 #[.val (.ref o1), .val (.int (1 : Int32)), .val (.int (3 : Int32)), .val (.long q1), .second] [(.long x1)])) (fun t k => X0.laload hx (j := (1 : Int32)) (v := (.long x1)) (by rw [e0]; exact Ar1.1) (State.isArrayOf_alike hZ.alike Ar1.2.1) Ar1.2.2 hin1 (H1.at hin1 rfl) (g := (mkF m 7 #[.val (.ref o1), .val (.int (1 : Int32)), .val (.int (3 : Int32)), .val (.long q1), .second] [(.int (1 : Int32)), (.ref o1)])) rfl rfl (hb hby own_d2_7) _ k) ?_
  refine own_lloadN X0 hx 9 (hb hby own_d2_8) rfl ?_
  refine own_lcmp X0 hx 10 (hb hby own_d2_9) ?_
  refine own_ifNo X0 hx 13 (hb hby own_d2_10) (teq ((lw_eq _ _).mpr hq)).2 ?_
  refine own_iconst X0 hx 14 (1 : Int32) (hb hby own_d2_13) rfl ?_
  refine own_goto X0 hx 18 (hb hby own_d2_14) ?_
  exact own_retN (t := .boolean) (z := (1 : Int32)) (Q := own_Q2n3i1 Z o1 q1 kk x0 x1 x2 h0 n0) X0 hx hrt (by simp) (hb hby own_d2_18) hlk e0 ⟨rfl, N0, rfl⟩ (by decide) (by decide)
theorem own_ef2n3i2 (m : MethodId) (o1 : Addr) (q1 : Int64) : entryFrame m #[(.ref o1), (.int (2 : Int32)), (.int (3 : Int32)), (.long q1)] 5 = mkF m 0 #[.val (.ref o1), .val (.int (2 : Int32)), .val (.int (3 : Int32)), .val (.long q1), .second] [] := by first | (simp [entryFrame, mkF, argsToLocals, Value.category]; done) | rfl
def own_Q2n3i2 (Z : State) (o1 : Addr) (q1 : Int64) (kk : ClassId) (x0 : Int64) (x1 : Int64) (x2 : Int64) (h0 : Heap) (n0 : Nat) (v : Option Value) (h : Heap) (L : List Loc) : Prop := v = some (.int (1 : Int32)) ∧ Fr n0 L ∧ h = h0
set_option maxRecDepth 65536 in
set_option maxHeartbeats 40000000 in
theorem own_rm2n3i2 (l : Launch) (Z : State) (a0 : Array Value) (hw : ∀ d ∈ tables_1, d.before a0 Z = true) (ws : List Jvm.Cond) (o1 : Addr) (q1 : Int64) (kk : ClassId) (x0 : Int64) (x1 : Int64) (x2 : Int64) (h0 : Heap) (n0 : Nat) (Z0 : n0 ≤ h0.size) (pV1 : Arv Z h0 o1 kk .long (3 : Int32) [(.long x0), (.long x1), (.long x2)] (.long (0 : Int64))) (hq : x2 = q1) :
    MetFree l (⟨"com/example/loomsand/loomsand/WeightsRunningSumsPinLaw", "at", "([JIIJ)Z"⟩ : MethodName) (head1 (Jvm.Cond.code (⟨"com/example/loomsand/loomsand/WeightsRunningSumsPinLaw", "at", "([JIIJ)Z"⟩ : MethodName) method_2_code 5 (some .boolean) :: ws) ({ frames := 0, cells := 0, slots := 0, locals := 0 } : Room)) (fun a U => a = #[(.ref o1), (.int (2 : Int32)), (.int (3 : Int32)), (.long q1)] ∧ Z.Warmed39 U.vm ∧ U.heap = h0) (fun _ _ _ _ _ => True) (fun _ U o U' => ∃ v L, o = .returned v ∧ own_Q2n3i2 Z o1 q1 kk x0 x1 x2 h0 n0 v U'.heap L ∧ FrameEnd U o U' L ({ frames := 0, cells := 0, slots := 0, locals := 0 } : Room).cells ({ frames := 0, cells := 0, slots := 0, locals := 0 } : Room).slots) := by
  refine MetFree.of_bodySF (plainFor_of_name own_pn1) hisR ?_
  intro p e s m args below meth c s₁ Bd hml0 hP hK
  obtain ⟨rfl, hZ, hh⟩ := hP
  have hx := Bd.exec
  have hby := Bd.bytes
  have hlk := Bd.notSynchronized
  have hrt := Bd.returns
  have hml : c.maxLocals = 5 := hml0
  have hown : s.vm.findClass "com/example/loomsand/loomsand/WeightsRunningSumsPinLaw" = some m.cls := findClass_of_methodNamed Bd.named
  have hnm := (name_of_methodNamed Bd.named Bd.method).1
  have X0 : Stand p l e ({ frames := 0, cells := 0, slots := 0, locals := 0 } : Room) s m #[(.ref o1), (.int (2 : Int32)), (.int (3 : Int32)), (.long q1)] below meth c s₁ [] 0 0 := Stand.of_body Bd
  have e0 : s₁.heap = h0 := by rw [← hh, Bd.state]; rfl
  have N0 := Fr.nil n0
  refine own_in (own_ef2n3i2 m o1 q1) ?_
  refine own_iloadN X0 hx 1 (hb hby own_d2_0) rfl ?_
  refine own_iloadN X0 hx 2 (hb hby own_d2_1) rfl ?_
  refine own_icmpNo X0 hx 5 (hb hby own_d2_2) (tlt (by decide : (2 : Int32) < (3 : Int32))).2.1 ?_
  refine own_aloadN X0 hx 6 (hb hby own_d2_5) rfl rfl ?_
  refine own_iloadN X0 hx 7 (hb hby own_d2_6) rfl ?_
  obtain ⟨cl1, Ar1, qv1, S1, M1, H1, G1⟩ := id pV1
  have hin1 : ¬ ((2 : Int32) < 0 ∨ cl1.slots.size ≤ ((2 : Int32)).toNatClampNeg) := inb_of S1 ⟨by decide, by decide⟩
  refine own_st (G' := s₁.setTop (mkF m 8 #[.val (.ref o1), .val (.int (2 : Int32)), .val (.int (3 : Int32)), .val (.long q1), .second] [(.long x2)])) (fun t k => X0.laload hx (j := (2 : Int32)) (v := (.long x2)) (by rw [e0]; exact Ar1.1) (State.isArrayOf_alike hZ.alike Ar1.2.1) Ar1.2.2 hin1 (H1.at hin1 rfl) (g := (mkF m 7 #[.val (.ref o1), .val (.int (2 : Int32)), .val (.int (3 : Int32)), .val (.long q1), .second] [(.int (2 : Int32)), (.ref o1)])) rfl rfl (hb hby own_d2_7) _ k) ?_
  refine own_lloadN X0 hx 9 (hb hby own_d2_8) rfl ?_
  refine own_lcmp X0 hx 10 (hb hby own_d2_9) ?_
  refine own_ifNo X0 hx 13 (hb hby own_d2_10) (teq ((lw_eq _ _).mpr hq)).2 ?_
  refine own_iconst X0 hx 14 (1 : Int32) (hb hby own_d2_13) rfl ?_
  refine own_goto X0 hx 18 (hb hby own_d2_14) ?_
  exact own_retN (t := .boolean) (z := (1 : Int32)) (Q := own_Q2n3i2 Z o1 q1 kk x0 x1 x2 h0 n0) X0 hx hrt (by simp) (hb hby own_d2_18) hlk e0 ⟨rfl, N0, rfl⟩ (by decide) (by decide)
theorem own_ef2n3i3 (m : MethodId) (o1 : Addr) (q1 : Int64) : entryFrame m #[(.ref o1), (.int (3 : Int32)), (.int (3 : Int32)), (.long q1)] 5 = mkF m 0 #[.val (.ref o1), .val (.int (3 : Int32)), .val (.int (3 : Int32)), .val (.long q1), .second] [] := by first | (simp [entryFrame, mkF, argsToLocals, Value.category]; done) | rfl
def own_Q2n3i3 (Z : State) (o1 : Addr) (q1 : Int64) (h0 : Heap) (n0 : Nat) (v : Option Value) (h : Heap) (L : List Loc) : Prop := v = some (.int (1 : Int32)) ∧ Fr n0 L ∧ h = h0
set_option maxRecDepth 65536 in
set_option maxHeartbeats 40000000 in
theorem own_rm2n3i3 (l : Launch) (Z : State) (a0 : Array Value) (hw : ∀ d ∈ tables_1, d.before a0 Z = true) (ws : List Jvm.Cond) (o1 : Addr) (q1 : Int64) (h0 : Heap) (n0 : Nat) (Z0 : n0 ≤ h0.size)  :
    MetFree l (⟨"com/example/loomsand/loomsand/WeightsRunningSumsPinLaw", "at", "([JIIJ)Z"⟩ : MethodName) (head1 (Jvm.Cond.code (⟨"com/example/loomsand/loomsand/WeightsRunningSumsPinLaw", "at", "([JIIJ)Z"⟩ : MethodName) method_2_code 5 (some .boolean) :: ws) ({ frames := 0, cells := 0, slots := 0, locals := 0 } : Room)) (fun a U => a = #[(.ref o1), (.int (3 : Int32)), (.int (3 : Int32)), (.long q1)] ∧ Z.Warmed39 U.vm ∧ U.heap = h0) (fun _ _ _ _ _ => True) (fun _ U o U' => ∃ v L, o = .returned v ∧ own_Q2n3i3 Z o1 q1 h0 n0 v U'.heap L ∧ FrameEnd U o U' L ({ frames := 0, cells := 0, slots := 0, locals := 0 } : Room).cells ({ frames := 0, cells := 0, slots := 0, locals := 0 } : Room).slots) := by
  refine MetFree.of_bodySF (plainFor_of_name own_pn1) hisR ?_
  intro p e s m args below meth c s₁ Bd hml0 hP hK
  obtain ⟨rfl, hZ, hh⟩ := hP
  have hx := Bd.exec
  have hby := Bd.bytes
  have hlk := Bd.notSynchronized
  have hrt := Bd.returns
  have hml : c.maxLocals = 5 := hml0
  have hown : s.vm.findClass "com/example/loomsand/loomsand/WeightsRunningSumsPinLaw" = some m.cls := findClass_of_methodNamed Bd.named
  have hnm := (name_of_methodNamed Bd.named Bd.method).1
  have X0 : Stand p l e ({ frames := 0, cells := 0, slots := 0, locals := 0 } : Room) s m #[(.ref o1), (.int (3 : Int32)), (.int (3 : Int32)), (.long q1)] below meth c s₁ [] 0 0 := Stand.of_body Bd
  have e0 : s₁.heap = h0 := by rw [← hh, Bd.state]; rfl
  have N0 := Fr.nil n0
  refine own_in (own_ef2n3i3 m o1 q1) ?_
  refine own_iloadN X0 hx 1 (hb hby own_d2_0) rfl ?_
  refine own_iloadN X0 hx 2 (hb hby own_d2_1) rfl ?_
  refine own_icmpYes X0 hx 13 (hb hby own_d2_2) (flt (by decide : ¬ ((3 : Int32) < (3 : Int32)))).2.1 ?_
  refine own_iconst X0 hx 14 (1 : Int32) (hb hby own_d2_13) rfl ?_
  refine own_goto X0 hx 18 (hb hby own_d2_14) ?_
  exact own_retN (t := .boolean) (z := (1 : Int32)) (Q := own_Q2n3i3 Z o1 q1 h0 n0) X0 hx hrt (by simp) (hb hby own_d2_18) hlk e0 ⟨rfl, N0, rfl⟩ (by decide) (by decide)
theorem own_ef2n4i0 (m : MethodId) (o1 : Addr) (q1 : Int64) : entryFrame m #[(.ref o1), (.int (0 : Int32)), (.int (4 : Int32)), (.long q1)] 5 = mkF m 0 #[.val (.ref o1), .val (.int (0 : Int32)), .val (.int (4 : Int32)), .val (.long q1), .second] [] := by first | (simp [entryFrame, mkF, argsToLocals, Value.category]; done) | rfl
def own_Q2n4i0 (Z : State) (o1 : Addr) (q1 : Int64) (kk : ClassId) (x0 : Int64) (x1 : Int64) (x2 : Int64) (x3 : Int64) (h0 : Heap) (n0 : Nat) (v : Option Value) (h : Heap) (L : List Loc) : Prop := v = some (.int (1 : Int32)) ∧ Fr n0 L ∧ h = h0
set_option maxRecDepth 65536 in
set_option maxHeartbeats 40000000 in
theorem own_rm2n4i0 (l : Launch) (Z : State) (a0 : Array Value) (hw : ∀ d ∈ tables_1, d.before a0 Z = true) (ws : List Jvm.Cond) (o1 : Addr) (q1 : Int64) (kk : ClassId) (x0 : Int64) (x1 : Int64) (x2 : Int64) (x3 : Int64) (h0 : Heap) (n0 : Nat) (Z0 : n0 ≤ h0.size) (pV1 : Arv Z h0 o1 kk .long (4 : Int32) [(.long x0), (.long x1), (.long x2), (.long x3)] (.long (0 : Int64))) (hq : x0 = q1) :
    MetFree l (⟨"com/example/loomsand/loomsand/WeightsRunningSumsPinLaw", "at", "([JIIJ)Z"⟩ : MethodName) (head1 (Jvm.Cond.code (⟨"com/example/loomsand/loomsand/WeightsRunningSumsPinLaw", "at", "([JIIJ)Z"⟩ : MethodName) method_2_code 5 (some .boolean) :: ws) ({ frames := 0, cells := 0, slots := 0, locals := 0 } : Room)) (fun a U => a = #[(.ref o1), (.int (0 : Int32)), (.int (4 : Int32)), (.long q1)] ∧ Z.Warmed39 U.vm ∧ U.heap = h0) (fun _ _ _ _ _ => True) (fun _ U o U' => ∃ v L, o = .returned v ∧ own_Q2n4i0 Z o1 q1 kk x0 x1 x2 x3 h0 n0 v U'.heap L ∧ FrameEnd U o U' L ({ frames := 0, cells := 0, slots := 0, locals := 0 } : Room).cells ({ frames := 0, cells := 0, slots := 0, locals := 0 } : Room).slots) := by
  refine MetFree.of_bodySF (plainFor_of_name own_pn1) hisR ?_
  intro p e s m args below meth c s₁ Bd hml0 hP hK
  obtain ⟨rfl, hZ, hh⟩ := hP
  have hx := Bd.exec
  have hby := Bd.bytes
  have hlk := Bd.notSynchronized
  have hrt := Bd.returns
  have hml : c.maxLocals = 5 := hml0
  have hown : s.vm.findClass "com/example/loomsand/loomsand/WeightsRunningSumsPinLaw" = some m.cls := findClass_of_methodNamed Bd.named
  have hnm := (name_of_methodNamed Bd.named Bd.method).1
  have X0 : Stand p l e ({ frames := 0, cells := 0, slots := 0, locals := 0 } : Room) s m #[(.ref o1), (.int (0 : Int32)), (.int (4 : Int32)), (.long q1)] below meth c s₁ [] 0 0 := Stand.of_body Bd
  have e0 : s₁.heap = h0 := by rw [← hh, Bd.state]; rfl
  have N0 := Fr.nil n0
  refine own_in (own_ef2n4i0 m o1 q1) ?_
  refine own_iloadN X0 hx 1 (hb hby own_d2_0) rfl ?_
  refine own_iloadN X0 hx 2 (hb hby own_d2_1) rfl ?_
  refine own_icmpNo X0 hx 5 (hb hby own_d2_2) (tlt (by decide : (0 : Int32) < (4 : Int32))).2.1 ?_
  refine own_aloadN X0 hx 6 (hb hby own_d2_5) rfl rfl ?_
  refine own_iloadN X0 hx 7 (hb hby own_d2_6) rfl ?_
  obtain ⟨cl1, Ar1, qv1, S1, M1, H1, G1⟩ := id pV1
  have hin1 : ¬ ((0 : Int32) < 0 ∨ cl1.slots.size ≤ ((0 : Int32)).toNatClampNeg) := inb_of S1 ⟨by decide, by decide⟩
  refine own_st (G' := s₁.setTop (mkF m 8 #[.val (.ref o1), .val (.int (0 : Int32)), .val (.int (4 : Int32)), .val (.long q1), .second] [(.long x0)])) (fun t k => X0.laload hx (j := (0 : Int32)) (v := (.long x0)) (by rw [e0]; exact Ar1.1) (State.isArrayOf_alike hZ.alike Ar1.2.1) Ar1.2.2 hin1 (H1.at hin1 rfl) (g := (mkF m 7 #[.val (.ref o1), .val (.int (0 : Int32)), .val (.int (4 : Int32)), .val (.long q1), .second] [(.int (0 : Int32)), (.ref o1)])) rfl rfl (hb hby own_d2_7) _ k) ?_
  refine own_lloadN X0 hx 9 (hb hby own_d2_8) rfl ?_
  refine own_lcmp X0 hx 10 (hb hby own_d2_9) ?_
  refine own_ifNo X0 hx 13 (hb hby own_d2_10) (teq ((lw_eq _ _).mpr hq)).2 ?_
  refine own_iconst X0 hx 14 (1 : Int32) (hb hby own_d2_13) rfl ?_
  refine own_goto X0 hx 18 (hb hby own_d2_14) ?_
  exact own_retN (t := .boolean) (z := (1 : Int32)) (Q := own_Q2n4i0 Z o1 q1 kk x0 x1 x2 x3 h0 n0) X0 hx hrt (by simp) (hb hby own_d2_18) hlk e0 ⟨rfl, N0, rfl⟩ (by decide) (by decide)
theorem own_ef2n4i1 (m : MethodId) (o1 : Addr) (q1 : Int64) : entryFrame m #[(.ref o1), (.int (1 : Int32)), (.int (4 : Int32)), (.long q1)] 5 = mkF m 0 #[.val (.ref o1), .val (.int (1 : Int32)), .val (.int (4 : Int32)), .val (.long q1), .second] [] := by first | (simp [entryFrame, mkF, argsToLocals, Value.category]; done) | rfl
def own_Q2n4i1 (Z : State) (o1 : Addr) (q1 : Int64) (kk : ClassId) (x0 : Int64) (x1 : Int64) (x2 : Int64) (x3 : Int64) (h0 : Heap) (n0 : Nat) (v : Option Value) (h : Heap) (L : List Loc) : Prop := v = some (.int (1 : Int32)) ∧ Fr n0 L ∧ h = h0
set_option maxRecDepth 65536 in
set_option maxHeartbeats 40000000 in
theorem own_rm2n4i1 (l : Launch) (Z : State) (a0 : Array Value) (hw : ∀ d ∈ tables_1, d.before a0 Z = true) (ws : List Jvm.Cond) (o1 : Addr) (q1 : Int64) (kk : ClassId) (x0 : Int64) (x1 : Int64) (x2 : Int64) (x3 : Int64) (h0 : Heap) (n0 : Nat) (Z0 : n0 ≤ h0.size) (pV1 : Arv Z h0 o1 kk .long (4 : Int32) [(.long x0), (.long x1), (.long x2), (.long x3)] (.long (0 : Int64))) (hq : x1 = q1) :
    MetFree l (⟨"com/example/loomsand/loomsand/WeightsRunningSumsPinLaw", "at", "([JIIJ)Z"⟩ : MethodName) (head1 (Jvm.Cond.code (⟨"com/example/loomsand/loomsand/WeightsRunningSumsPinLaw", "at", "([JIIJ)Z"⟩ : MethodName) method_2_code 5 (some .boolean) :: ws) ({ frames := 0, cells := 0, slots := 0, locals := 0 } : Room)) (fun a U => a = #[(.ref o1), (.int (1 : Int32)), (.int (4 : Int32)), (.long q1)] ∧ Z.Warmed39 U.vm ∧ U.heap = h0) (fun _ _ _ _ _ => True) (fun _ U o U' => ∃ v L, o = .returned v ∧ own_Q2n4i1 Z o1 q1 kk x0 x1 x2 x3 h0 n0 v U'.heap L ∧ FrameEnd U o U' L ({ frames := 0, cells := 0, slots := 0, locals := 0 } : Room).cells ({ frames := 0, cells := 0, slots := 0, locals := 0 } : Room).slots) := by
  refine MetFree.of_bodySF (plainFor_of_name own_pn1) hisR ?_
  intro p e s m args below meth c s₁ Bd hml0 hP hK
  obtain ⟨rfl, hZ, hh⟩ := hP
  have hx := Bd.exec
  have hby := Bd.bytes
  have hlk := Bd.notSynchronized
  have hrt := Bd.returns
  have hml : c.maxLocals = 5 := hml0
  have hown : s.vm.findClass "com/example/loomsand/loomsand/WeightsRunningSumsPinLaw" = some m.cls := findClass_of_methodNamed Bd.named
  have hnm := (name_of_methodNamed Bd.named Bd.method).1
  have X0 : Stand p l e ({ frames := 0, cells := 0, slots := 0, locals := 0 } : Room) s m #[(.ref o1), (.int (1 : Int32)), (.int (4 : Int32)), (.long q1)] below meth c s₁ [] 0 0 := Stand.of_body Bd
  have e0 : s₁.heap = h0 := by rw [← hh, Bd.state]; rfl
  have N0 := Fr.nil n0
  refine own_in (own_ef2n4i1 m o1 q1) ?_
  refine own_iloadN X0 hx 1 (hb hby own_d2_0) rfl ?_
  refine own_iloadN X0 hx 2 (hb hby own_d2_1) rfl ?_
  refine own_icmpNo X0 hx 5 (hb hby own_d2_2) (tlt (by decide : (1 : Int32) < (4 : Int32))).2.1 ?_
  refine own_aloadN X0 hx 6 (hb hby own_d2_5) rfl rfl ?_
  refine own_iloadN X0 hx 7 (hb hby own_d2_6) rfl ?_
  obtain ⟨cl1, Ar1, qv1, S1, M1, H1, G1⟩ := id pV1
  have hin1 : ¬ ((1 : Int32) < 0 ∨ cl1.slots.size ≤ ((1 : Int32)).toNatClampNeg) := inb_of S1 ⟨by decide, by decide⟩
  refine own_st (G' := s₁.setTop (mkF m 8 #[.val (.ref o1), .val (.int (1 : Int32)), .val (.int (4 : Int32)), .val (.long q1), .second] [(.long x1)])) (fun t k => X0.laload hx (j := (1 : Int32)) (v := (.long x1)) (by rw [e0]; exact Ar1.1) (State.isArrayOf_alike hZ.alike Ar1.2.1) Ar1.2.2 hin1 (H1.at hin1 rfl) (g := (mkF m 7 #[.val (.ref o1), .val (.int (1 : Int32)), .val (.int (4 : Int32)), .val (.long q1), .second] [(.int (1 : Int32)), (.ref o1)])) rfl rfl (hb hby own_d2_7) _ k) ?_
  refine own_lloadN X0 hx 9 (hb hby own_d2_8) rfl ?_
  refine own_lcmp X0 hx 10 (hb hby own_d2_9) ?_
  refine own_ifNo X0 hx 13 (hb hby own_d2_10) (teq ((lw_eq _ _).mpr hq)).2 ?_
  refine own_iconst X0 hx 14 (1 : Int32) (hb hby own_d2_13) rfl ?_
  refine own_goto X0 hx 18 (hb hby own_d2_14) ?_
  exact own_retN (t := .boolean) (z := (1 : Int32)) (Q := own_Q2n4i1 Z o1 q1 kk x0 x1 x2 x3 h0 n0) X0 hx hrt (by simp) (hb hby own_d2_18) hlk e0 ⟨rfl, N0, rfl⟩ (by decide) (by decide)
theorem own_ef2n4i2 (m : MethodId) (o1 : Addr) (q1 : Int64) : entryFrame m #[(.ref o1), (.int (2 : Int32)), (.int (4 : Int32)), (.long q1)] 5 = mkF m 0 #[.val (.ref o1), .val (.int (2 : Int32)), .val (.int (4 : Int32)), .val (.long q1), .second] [] := by first | (simp [entryFrame, mkF, argsToLocals, Value.category]; done) | rfl
def own_Q2n4i2 (Z : State) (o1 : Addr) (q1 : Int64) (kk : ClassId) (x0 : Int64) (x1 : Int64) (x2 : Int64) (x3 : Int64) (h0 : Heap) (n0 : Nat) (v : Option Value) (h : Heap) (L : List Loc) : Prop := v = some (.int (1 : Int32)) ∧ Fr n0 L ∧ h = h0
set_option maxRecDepth 65536 in
set_option maxHeartbeats 40000000 in
theorem own_rm2n4i2 (l : Launch) (Z : State) (a0 : Array Value) (hw : ∀ d ∈ tables_1, d.before a0 Z = true) (ws : List Jvm.Cond) (o1 : Addr) (q1 : Int64) (kk : ClassId) (x0 : Int64) (x1 : Int64) (x2 : Int64) (x3 : Int64) (h0 : Heap) (n0 : Nat) (Z0 : n0 ≤ h0.size) (pV1 : Arv Z h0 o1 kk .long (4 : Int32) [(.long x0), (.long x1), (.long x2), (.long x3)] (.long (0 : Int64))) (hq : x2 = q1) :
    MetFree l (⟨"com/example/loomsand/loomsand/WeightsRunningSumsPinLaw", "at", "([JIIJ)Z"⟩ : MethodName) (head1 (Jvm.Cond.code (⟨"com/example/loomsand/loomsand/WeightsRunningSumsPinLaw", "at", "([JIIJ)Z"⟩ : MethodName) method_2_code 5 (some .boolean) :: ws) ({ frames := 0, cells := 0, slots := 0, locals := 0 } : Room)) (fun a U => a = #[(.ref o1), (.int (2 : Int32)), (.int (4 : Int32)), (.long q1)] ∧ Z.Warmed39 U.vm ∧ U.heap = h0) (fun _ _ _ _ _ => True) (fun _ U o U' => ∃ v L, o = .returned v ∧ own_Q2n4i2 Z o1 q1 kk x0 x1 x2 x3 h0 n0 v U'.heap L ∧ FrameEnd U o U' L ({ frames := 0, cells := 0, slots := 0, locals := 0 } : Room).cells ({ frames := 0, cells := 0, slots := 0, locals := 0 } : Room).slots) := by
  refine MetFree.of_bodySF (plainFor_of_name own_pn1) hisR ?_
  intro p e s m args below meth c s₁ Bd hml0 hP hK
  obtain ⟨rfl, hZ, hh⟩ := hP
  have hx := Bd.exec
  have hby := Bd.bytes
  have hlk := Bd.notSynchronized
  have hrt := Bd.returns
  have hml : c.maxLocals = 5 := hml0
  have hown : s.vm.findClass "com/example/loomsand/loomsand/WeightsRunningSumsPinLaw" = some m.cls := findClass_of_methodNamed Bd.named
  have hnm := (name_of_methodNamed Bd.named Bd.method).1
  have X0 : Stand p l e ({ frames := 0, cells := 0, slots := 0, locals := 0 } : Room) s m #[(.ref o1), (.int (2 : Int32)), (.int (4 : Int32)), (.long q1)] below meth c s₁ [] 0 0 := Stand.of_body Bd
  have e0 : s₁.heap = h0 := by rw [← hh, Bd.state]; rfl
  have N0 := Fr.nil n0
  refine own_in (own_ef2n4i2 m o1 q1) ?_
  refine own_iloadN X0 hx 1 (hb hby own_d2_0) rfl ?_
  refine own_iloadN X0 hx 2 (hb hby own_d2_1) rfl ?_
  refine own_icmpNo X0 hx 5 (hb hby own_d2_2) (tlt (by decide : (2 : Int32) < (4 : Int32))).2.1 ?_
  refine own_aloadN X0 hx 6 (hb hby own_d2_5) rfl rfl ?_
  refine own_iloadN X0 hx 7 (hb hby own_d2_6) rfl ?_
  obtain ⟨cl1, Ar1, qv1, S1, M1, H1, G1⟩ := id pV1
  have hin1 : ¬ ((2 : Int32) < 0 ∨ cl1.slots.size ≤ ((2 : Int32)).toNatClampNeg) := inb_of S1 ⟨by decide, by decide⟩
  refine own_st (G' := s₁.setTop (mkF m 8 #[.val (.ref o1), .val (.int (2 : Int32)), .val (.int (4 : Int32)), .val (.long q1), .second] [(.long x2)])) (fun t k => X0.laload hx (j := (2 : Int32)) (v := (.long x2)) (by rw [e0]; exact Ar1.1) (State.isArrayOf_alike hZ.alike Ar1.2.1) Ar1.2.2 hin1 (H1.at hin1 rfl) (g := (mkF m 7 #[.val (.ref o1), .val (.int (2 : Int32)), .val (.int (4 : Int32)), .val (.long q1), .second] [(.int (2 : Int32)), (.ref o1)])) rfl rfl (hb hby own_d2_7) _ k) ?_
  refine own_lloadN X0 hx 9 (hb hby own_d2_8) rfl ?_
  refine own_lcmp X0 hx 10 (hb hby own_d2_9) ?_
  refine own_ifNo X0 hx 13 (hb hby own_d2_10) (teq ((lw_eq _ _).mpr hq)).2 ?_
  refine own_iconst X0 hx 14 (1 : Int32) (hb hby own_d2_13) rfl ?_
  refine own_goto X0 hx 18 (hb hby own_d2_14) ?_
  exact own_retN (t := .boolean) (z := (1 : Int32)) (Q := own_Q2n4i2 Z o1 q1 kk x0 x1 x2 x3 h0 n0) X0 hx hrt (by simp) (hb hby own_d2_18) hlk e0 ⟨rfl, N0, rfl⟩ (by decide) (by decide)
theorem own_ef2n4i3 (m : MethodId) (o1 : Addr) (q1 : Int64) : entryFrame m #[(.ref o1), (.int (3 : Int32)), (.int (4 : Int32)), (.long q1)] 5 = mkF m 0 #[.val (.ref o1), .val (.int (3 : Int32)), .val (.int (4 : Int32)), .val (.long q1), .second] [] := by first | (simp [entryFrame, mkF, argsToLocals, Value.category]; done) | rfl
def own_Q2n4i3 (Z : State) (o1 : Addr) (q1 : Int64) (kk : ClassId) (x0 : Int64) (x1 : Int64) (x2 : Int64) (x3 : Int64) (h0 : Heap) (n0 : Nat) (v : Option Value) (h : Heap) (L : List Loc) : Prop := v = some (.int (1 : Int32)) ∧ Fr n0 L ∧ h = h0
set_option maxRecDepth 65536 in
set_option maxHeartbeats 40000000 in
theorem own_rm2n4i3 (l : Launch) (Z : State) (a0 : Array Value) (hw : ∀ d ∈ tables_1, d.before a0 Z = true) (ws : List Jvm.Cond) (o1 : Addr) (q1 : Int64) (kk : ClassId) (x0 : Int64) (x1 : Int64) (x2 : Int64) (x3 : Int64) (h0 : Heap) (n0 : Nat) (Z0 : n0 ≤ h0.size) (pV1 : Arv Z h0 o1 kk .long (4 : Int32) [(.long x0), (.long x1), (.long x2), (.long x3)] (.long (0 : Int64))) (hq : x3 = q1) :
    MetFree l (⟨"com/example/loomsand/loomsand/WeightsRunningSumsPinLaw", "at", "([JIIJ)Z"⟩ : MethodName) (head1 (Jvm.Cond.code (⟨"com/example/loomsand/loomsand/WeightsRunningSumsPinLaw", "at", "([JIIJ)Z"⟩ : MethodName) method_2_code 5 (some .boolean) :: ws) ({ frames := 0, cells := 0, slots := 0, locals := 0 } : Room)) (fun a U => a = #[(.ref o1), (.int (3 : Int32)), (.int (4 : Int32)), (.long q1)] ∧ Z.Warmed39 U.vm ∧ U.heap = h0) (fun _ _ _ _ _ => True) (fun _ U o U' => ∃ v L, o = .returned v ∧ own_Q2n4i3 Z o1 q1 kk x0 x1 x2 x3 h0 n0 v U'.heap L ∧ FrameEnd U o U' L ({ frames := 0, cells := 0, slots := 0, locals := 0 } : Room).cells ({ frames := 0, cells := 0, slots := 0, locals := 0 } : Room).slots) := by
  refine MetFree.of_bodySF (plainFor_of_name own_pn1) hisR ?_
  intro p e s m args below meth c s₁ Bd hml0 hP hK
  obtain ⟨rfl, hZ, hh⟩ := hP
  have hx := Bd.exec
  have hby := Bd.bytes
  have hlk := Bd.notSynchronized
  have hrt := Bd.returns
  have hml : c.maxLocals = 5 := hml0
  have hown : s.vm.findClass "com/example/loomsand/loomsand/WeightsRunningSumsPinLaw" = some m.cls := findClass_of_methodNamed Bd.named
  have hnm := (name_of_methodNamed Bd.named Bd.method).1
  have X0 : Stand p l e ({ frames := 0, cells := 0, slots := 0, locals := 0 } : Room) s m #[(.ref o1), (.int (3 : Int32)), (.int (4 : Int32)), (.long q1)] below meth c s₁ [] 0 0 := Stand.of_body Bd
  have e0 : s₁.heap = h0 := by rw [← hh, Bd.state]; rfl
  have N0 := Fr.nil n0
  refine own_in (own_ef2n4i3 m o1 q1) ?_
  refine own_iloadN X0 hx 1 (hb hby own_d2_0) rfl ?_
  refine own_iloadN X0 hx 2 (hb hby own_d2_1) rfl ?_
  refine own_icmpNo X0 hx 5 (hb hby own_d2_2) (tlt (by decide : (3 : Int32) < (4 : Int32))).2.1 ?_
  refine own_aloadN X0 hx 6 (hb hby own_d2_5) rfl rfl ?_
  refine own_iloadN X0 hx 7 (hb hby own_d2_6) rfl ?_
  obtain ⟨cl1, Ar1, qv1, S1, M1, H1, G1⟩ := id pV1
  have hin1 : ¬ ((3 : Int32) < 0 ∨ cl1.slots.size ≤ ((3 : Int32)).toNatClampNeg) := inb_of S1 ⟨by decide, by decide⟩
  refine own_st (G' := s₁.setTop (mkF m 8 #[.val (.ref o1), .val (.int (3 : Int32)), .val (.int (4 : Int32)), .val (.long q1), .second] [(.long x3)])) (fun t k => X0.laload hx (j := (3 : Int32)) (v := (.long x3)) (by rw [e0]; exact Ar1.1) (State.isArrayOf_alike hZ.alike Ar1.2.1) Ar1.2.2 hin1 (H1.at hin1 rfl) (g := (mkF m 7 #[.val (.ref o1), .val (.int (3 : Int32)), .val (.int (4 : Int32)), .val (.long q1), .second] [(.int (3 : Int32)), (.ref o1)])) rfl rfl (hb hby own_d2_7) _ k) ?_
  refine own_lloadN X0 hx 9 (hb hby own_d2_8) rfl ?_
  refine own_lcmp X0 hx 10 (hb hby own_d2_9) ?_
  refine own_ifNo X0 hx 13 (hb hby own_d2_10) (teq ((lw_eq _ _).mpr hq)).2 ?_
  refine own_iconst X0 hx 14 (1 : Int32) (hb hby own_d2_13) rfl ?_
  refine own_goto X0 hx 18 (hb hby own_d2_14) ?_
  exact own_retN (t := .boolean) (z := (1 : Int32)) (Q := own_Q2n4i3 Z o1 q1 kk x0 x1 x2 x3 h0 n0) X0 hx hrt (by simp) (hb hby own_d2_18) hlk e0 ⟨rfl, N0, rfl⟩ (by decide) (by decide)
theorem own_five (v : Int32) : ((v &&& (2147483647 : Int32)) % (5 : Int32)) = 0 ∨ ((v &&& (2147483647 : Int32)) % (5 : Int32)) = 1 ∨ ((v &&& (2147483647 : Int32)) % (5 : Int32)) = 2 ∨ ((v &&& (2147483647 : Int32)) % (5 : Int32)) = 3 ∨ ((v &&& (2147483647 : Int32)) % (5 : Int32)) = 4 := by
  have h := c_mask v 2147483647 31 (by decide) (by decide)
  have h2 := (c_irem (v &&& (2147483647 : Int32)) 5 5 rfl).1 (by rw [h]; omega)
  simp only [← Int32.toInt_inj, Int32.reduceToInt]
  omega
theorem own_pd0 : parseMethodDescriptor "([J)[J" = some ⟨[(.array .long)], some (.array .long)⟩ := by decide +kernel
theorem own_pd1 : parseMethodDescriptor "([JIIJ)Z" = some ⟨[(.array .long), .int, .int, .long], some .boolean⟩ := by decide +kernel
theorem own_ef0 (m : MethodId) (v0 : Int32) (q1 : Int64) (q2 : Int64) (q3 : Int64) (q4 : Int64) : entryFrame m #[(.int v0), (.long q1), (.long q2), (.long q3), (.long q4)] maxLocals = mkF m 0 #[.val (.int v0), .val (.long q1), .second, .val (.long q2), .second, .val (.long q3), .second, .val (.long q4), .second, .unset, .unset, .unset, .unset, .unset, .unset, .unset, .unset, .unset, .unset, .unset, .unset, .unset, .unset, .unset, .unset, .unset, .unset, .unset] [] := by first | (simp [entryFrame, mkF, argsToLocals, Value.category, maxLocals]; done) | rfl
def own_Q0 (Z : State) (v0 : Int32) (q1 : Int64) (q2 : Int64) (q3 : Int64) (q4 : Int64) (h0 : Heap) (n0 : Nat) (v : Option Value) (h : Heap) (L : List Loc) : Prop := v = some (.int (1 : Int32)) ∧ Fr n0 L
set_option maxRecDepth 65536 in
set_option maxHeartbeats 40000000 in
theorem own_rm0 (l : Launch) (Z : State) (a0 : Array Value) (hw : ∀ d ∈ tables_1, d.before a0 Z = true) (ws : List Jvm.Cond) (v0 : Int32) (q1 : Int64) (q2 : Int64) (q3 : Int64) (q4 : Int64) (h0 : Heap) (n0 : Nat) (Z0 : n0 ≤ h0.size)  :
    MetFree l x (head1 (Jvm.Cond.code x code maxLocals ret :: ws) room_1) (fun a U => a = #[(.int v0), (.long q1), (.long q2), (.long q3), (.long q4)] ∧ Z.Warmed39 U.vm ∧ U.heap = h0) (fun _ _ _ _ _ => True) (fun _ U o U' => ∃ v L, o = .returned v ∧ own_Q0 Z v0 q1 q2 q3 q4 h0 n0 v U'.heap L ∧ FrameEnd U o U' L room_1.cells room_1.slots) := by
  refine MetFree.of_bodySF (plainFor_of_name own_pn1) hisR ?_
  intro p e s m args below meth c s₁ Bd hml0 hP hK
  obtain ⟨rfl, hZ, hh⟩ := hP
  have hx := Bd.exec
  have hby := Bd.bytes
  have hlk := Bd.notSynchronized
  have hrt := Bd.returns
  have hml : c.maxLocals = 28 := hml0
  have hown : s.vm.findClass "com/example/loomsand/loomsand/WeightsRunningSumsPinLaw" = some m.cls := findClass_of_methodNamed Bd.named
  have hnm := (name_of_methodNamed Bd.named Bd.method).1
  have X0 : Stand p l e room_1 s m #[(.int v0), (.long q1), (.long q2), (.long q3), (.long q4)] below meth c s₁ [] 0 0 := Stand.of_body Bd
  have e0 : s₁.heap = h0 := by rw [← hh, Bd.state]; rfl
  have N0 := Fr.nil n0
  refine own_in (own_ef0 m v0 q1 q2 q3 q4) ?_
  refine own_iloadN X0 hx 1 (hb hby at_0) rfl ?_
  refine own_ldcI X0 hx 3 hown (mvT hZ (hw _ (List.mem_of_getElem? (i := 0) rfl))) (hb hby at_1) ?_
  refine own_iand X0 hx 4 (hb hby at_3) ?_
  refine own_iconst X0 hx 5 (5 : Int32) (hb hby at_4) rfl ?_
  refine own_irem X0 hx 6 (hb hby at_5) (by decide) ?_
  rcases own_five v0 with hk1 | hk2 | hk3 | hk4 | hk5
  · rw [hk1]
    refine own_istore X0 hx 8 #[.val (.int v0), .val (.long q1), .second, .val (.long q2), .second, .val (.long q3), .second, .val (.long q4), .second, .val (.int (0 : Int32)), .unset, .unset, .unset, .unset, .unset, .unset, .unset, .unset, .unset, .unset, .unset, .unset, .unset, .unset, .unset, .unset, .unset, .unset] (hb hby at_6) rfl ?_
    refine own_lloadN X0 hx 9 (hb hby at_8) rfl ?_
    refine own_ldcL X0 hx 12 hown (mvT hZ (hw _ (List.mem_of_getElem? (i := 1) rfl))) (hb hby at_9) ?_
    refine own_land X0 hx 13 (hb hby at_12) ?_
    refine own_iconst X0 hx 14 (2 : Int32) (hb hby at_13) rfl ?_
    refine own_lushr X0 hx 15 (hb hby at_14) ?_
    generalize (((q1 &&& (9223372036854775807 : Int64)).toUInt64 >>> ((2 : Int32) &&& 0x3f).toInt64.toUInt64).toInt64) = x0
    refine own_lstore X0 hx 17 #[.val (.int v0), .val (.long q1), .second, .val (.long q2), .second, .val (.long q3), .second, .val (.long q4), .second, .val (.int (0 : Int32)), .val (.long x0), .second, .unset, .unset, .unset, .unset, .unset, .unset, .unset, .unset, .unset, .unset, .unset, .unset, .unset, .unset, .unset, .unset] (hb hby at_15) rfl ?_
    refine own_lloadN X0 hx 18 (hb hby at_17) rfl ?_
    refine own_ldcL X0 hx 21 hown (mvT hZ (hw _ (List.mem_of_getElem? (i := 1) rfl))) (hb hby at_18) ?_
    refine own_land X0 hx 22 (hb hby at_21) ?_
    refine own_iconst X0 hx 23 (2 : Int32) (hb hby at_22) rfl ?_
    refine own_lushr X0 hx 24 (hb hby at_23) ?_
    generalize (((q2 &&& (9223372036854775807 : Int64)).toUInt64 >>> ((2 : Int32) &&& 0x3f).toInt64.toUInt64).toInt64) = x1
    refine own_lstore X0 hx 26 #[.val (.int v0), .val (.long q1), .second, .val (.long q2), .second, .val (.long q3), .second, .val (.long q4), .second, .val (.int (0 : Int32)), .val (.long x0), .second, .val (.long x1), .second, .unset, .unset, .unset, .unset, .unset, .unset, .unset, .unset, .unset, .unset, .unset, .unset, .unset, .unset] (hb hby at_24) rfl ?_
    refine own_lload X0 hx 28 (hb hby at_26) rfl ?_
    refine own_ldcL X0 hx 31 hown (mvT hZ (hw _ (List.mem_of_getElem? (i := 1) rfl))) (hb hby at_28) ?_
    refine own_land X0 hx 32 (hb hby at_31) ?_
    refine own_iconst X0 hx 33 (2 : Int32) (hb hby at_32) rfl ?_
    refine own_lushr X0 hx 34 (hb hby at_33) ?_
    generalize (((q3 &&& (9223372036854775807 : Int64)).toUInt64 >>> ((2 : Int32) &&& 0x3f).toInt64.toUInt64).toInt64) = x2
    refine own_lstore X0 hx 36 #[.val (.int v0), .val (.long q1), .second, .val (.long q2), .second, .val (.long q3), .second, .val (.long q4), .second, .val (.int (0 : Int32)), .val (.long x0), .second, .val (.long x1), .second, .val (.long x2), .second, .unset, .unset, .unset, .unset, .unset, .unset, .unset, .unset, .unset, .unset, .unset, .unset] (hb hby at_34) rfl ?_
    refine own_lload X0 hx 38 (hb hby at_36) rfl ?_
    refine own_ldcL X0 hx 41 hown (mvT hZ (hw _ (List.mem_of_getElem? (i := 1) rfl))) (hb hby at_38) ?_
    refine own_land X0 hx 42 (hb hby at_41) ?_
    refine own_iconst X0 hx 43 (2 : Int32) (hb hby at_42) rfl ?_
    refine own_lushr X0 hx 44 (hb hby at_43) ?_
    generalize (((q4 &&& (9223372036854775807 : Int64)).toUInt64 >>> ((2 : Int32) &&& 0x3f).toInt64.toUInt64).toInt64) = x3
    refine own_lstore X0 hx 46 #[.val (.int v0), .val (.long q1), .second, .val (.long q2), .second, .val (.long q3), .second, .val (.long q4), .second, .val (.int (0 : Int32)), .val (.long x0), .second, .val (.long x1), .second, .val (.long x2), .second, .val (.long x3), .second, .unset, .unset, .unset, .unset, .unset, .unset, .unset, .unset, .unset, .unset] (hb hby at_44) rfl ?_
    refine own_iload X0 hx 48 (hb hby at_46) rfl ?_
    obtain ⟨T6, h6, k6, X6, e6, E6, A6, st6⟩ := newP X0 hx hZ (hw _ (List.mem_of_getElem? (i := 2) rfl)) e0 (g := (mkF m 48 #[.val (.int v0), .val (.long q1), .second, .val (.long q2), .second, .val (.long q3), .second, .val (.long q4), .second, .val (.int (0 : Int32)), .val (.long x0), .second, .val (.long x1), .second, .val (.long x2), .second, .val (.long x3), .second, .unset, .unset, .unset, .unset, .unset, .unset, .unset, .unset, .unset, .unset] [(.int (0 : Int32))])) rfl (hb hby at_48) rfl (by decide) (cap := 0) (by decide) (by decide) (by decide) (by decide)
    obtain ⟨b6, g6⟩ : ∃ z, z = h0.size := ⟨_, rfl⟩
    rw [← g6] at A6 st6
    have gt_b6 : n0 ≤ b6 := Nat.le_trans Z0 (Nat.le_of_eq g6.symm)
    have V6 : Arv Z h6 b6 k6 .long (0 : Int32) [] (.long (0 : Int64)) := (Arv.new A6 (by decide)).pad (pad_rep [] (.long (0 : Int64)) 0)
    have Z7 := Nat.le_trans Z0 E6.1
    refine own_st (G' := T6.setTop (mkF m 50 #[.val (.int v0), .val (.long q1), .second, .val (.long q2), .second, .val (.long q3), .second, .val (.long q4), .second, .val (.int (0 : Int32)), .val (.long x0), .second, .val (.long x1), .second, .val (.long x2), .second, .val (.long x3), .second, .unset, .unset, .unset, .unset, .unset, .unset, .unset, .unset, .unset, .unset] [(.ref b6)])) st6 ?_
    refine own_astore X6 hx 52 #[.val (.int v0), .val (.long q1), .second, .val (.long q2), .second, .val (.long q3), .second, .val (.long q4), .second, .val (.int (0 : Int32)), .val (.long x0), .second, .val (.long x1), .second, .val (.long x2), .second, .val (.long x3), .second, .val (.ref b6), .unset, .unset, .unset, .unset, .unset, .unset, .unset, .unset, .unset] (hb hby at_50) rfl rfl ?_
    refine own_iload X6 hx 54 (hb hby at_52) rfl ?_
    refine own_ifYes X6 hx 63 (hb hby at_54) (flt (by decide : ¬ ((0 : Int32) < (0 : Int32)))).2.2.2 ?_
    refine own_iload X6 hx 65 (hb hby at_63) rfl ?_
    refine own_iconst X6 hx 66 (1 : Int32) (hb hby at_65) rfl ?_
    refine own_icmpYes X6 hx 75 (hb hby at_66) (flt (by decide : ¬ ((1 : Int32) < (0 : Int32)))).2.2.2 ?_
    refine own_iload X6 hx 77 (hb hby at_75) rfl ?_
    refine own_iconst X6 hx 78 (2 : Int32) (hb hby at_77) rfl ?_
    refine own_icmpYes X6 hx 87 (hb hby at_78) (flt (by decide : ¬ ((2 : Int32) < (0 : Int32)))).2.2.2 ?_
    refine own_iload X6 hx 89 (hb hby at_87) rfl ?_
    refine own_iconst X6 hx 90 (3 : Int32) (hb hby at_89) rfl ?_
    refine own_icmpYes X6 hx 99 (hb hby at_90) (flt (by decide : ¬ ((3 : Int32) < (0 : Int32)))).2.2.2 ?_
    refine own_aload X6 hx 101 (hb hby at_99) rfl rfl ?_
    obtain ⟨_, _, ⟨T8, Lx8, kc8, nc8⟩, -, X8, ⟨Lc8, hQ8, lq8, yq8, zq8⟩, st8⟩ := Jvm.LawKit.callS X6 hx (y := (⟨"com/example/loomsand/loomsand/Weights", "runningSums", "([J)[J"⟩ : MethodName)) hown (mvT hZ (hw _ (List.mem_of_getElem? (i := 3) rfl))) (mvT hZ (hw _ (List.mem_of_getElem? (i := 4) rfl))) (mvT hZ (hw _ (List.mem_of_getElem? (i := 5) rfl))) (mvT hZ (hw _ (List.mem_of_getElem? (i := 6) rfl))) (by decide) (backOf (W := 0) (own_rm1n0 l Z a0 hw [] b6 k6 h6 n0 Z7 V6) hZ (hw _ (List.mem_of_getElem? (i := 6) rfl)) (hw _ (List.mem_of_getElem? (i := 5) rfl)) (by decide) (by decide)) (g := (mkF m 101 #[.val (.int v0), .val (.long q1), .second, .val (.long q2), .second, .val (.long q3), .second, .val (.long q4), .second, .val (.int (0 : Int32)), .val (.long x0), .second, .val (.long x1), .second, .val (.long x2), .second, .val (.long x3), .second, .val (.ref b6), .unset, .unset, .unset, .unset, .unset, .unset, .unset, .unset, .unset] [(.ref b6)])) rfl (by rw [hml]; rfl) (argsL := [(.ref b6)]) (rest := []) (lenOf own_pd0 rfl) rfl (by show 2 * 0 + _ ≤ _; exact Nat.le_of_eq rfl) (hb hby at_101) (fun _ _ => ⟨rfl, e6, (by decide : 1 + 1 ≤ _), (by decide : 0 + 0 ≤ _)⟩)
    dsimp only [Pt.U, Pt.locs, Pt.cells, Pt.slots] at X8 lq8 yq8 zq8 st8 hQ8
    subst lq8 yq8 zq8
    obtain ⟨bb_8, kb_8, rfl, Nq8, Kp8, G8_0, G8_1⟩ := hQ8
    have N8 := Fr.app N0 Nq8
    have ne9 : b6 ≠ bb_8 := Nat.ne_of_lt (Nat.lt_of_lt_of_le V6.lt G8_0)
    have gt_bb_8 : n0 ≤ bb_8 := Nat.le_trans Z7 G8_0
    have Z10 := Nat.le_trans Z7 Kp8.1
    refine own_st (G' := T8.setTop (mkF m 104 #[.val (.int v0), .val (.long q1), .second, .val (.long q2), .second, .val (.long q3), .second, .val (.long q4), .second, .val (.int (0 : Int32)), .val (.long x0), .second, .val (.long x1), .second, .val (.long x2), .second, .val (.long x3), .second, .val (.ref b6), .unset, .unset, .unset, .unset, .unset, .unset, .unset, .unset, .unset] [(.ref bb_8)])) st8 ?_
    refine own_astore X8 hx 106 #[.val (.int v0), .val (.long q1), .second, .val (.long q2), .second, .val (.long q3), .second, .val (.long q4), .second, .val (.int (0 : Int32)), .val (.long x0), .second, .val (.long x1), .second, .val (.long x2), .second, .val (.long x3), .second, .val (.ref b6), .val (.ref bb_8), .unset, .unset, .unset, .unset, .unset, .unset, .unset, .unset] (hb hby at_104) rfl rfl ?_
    refine own_aload X8 hx 108 (hb hby at_106) rfl rfl ?_
    refine own_ifnullNo X8 hx 111 (hb hby at_108) ?_
    refine own_aload X8 hx 113 (hb hby at_111) rfl rfl ?_
    obtain ⟨cl11, Ar11, qv11, S11, M11, H11, G11⟩ := id G8_1
    have ln11 := len_of S11 M11
    refine own_st (G' := T8.setTop (mkF m 114 #[.val (.int v0), .val (.long q1), .second, .val (.long q2), .second, .val (.long q3), .second, .val (.long q4), .second, .val (.int (0 : Int32)), .val (.long x0), .second, .val (.long x1), .second, .val (.long x2), .second, .val (.long x3), .second, .val (.ref b6), .val (.ref bb_8), .unset, .unset, .unset, .unset, .unset, .unset, .unset, .unset] [(.int (0 : Int32))])) (fun t k => X8.arraylength hx Ar11.1 (State.isArrayOf_alike hZ.alike Ar11.2.1) (g := (mkF m 113 #[.val (.int v0), .val (.long q1), .second, .val (.long q2), .second, .val (.long q3), .second, .val (.long q4), .second, .val (.int (0 : Int32)), .val (.long x0), .second, .val (.long x1), .second, .val (.long x2), .second, .val (.long x3), .second, .val (.ref b6), .val (.ref bb_8), .unset, .unset, .unset, .unset, .unset, .unset, .unset, .unset] [(.ref bb_8)])) rfl rfl (hb hby at_113) _ (by rw [ln11]; exact k)) ?_
    refine own_iload X8 hx 116 (hb hby at_114) rfl ?_
    refine own_icmpYes X8 hx 121 (hb hby at_116) (teq (rfl : (0 : Int32) = (0 : Int32))).1 ?_
    refine own_iload X8 hx 123 (hb hby at_121) rfl ?_
    refine own_ifYes X8 hx 138 (hb hby at_123) (flt (by decide : ¬ ((0 : Int32) < (0 : Int32)))).2.2.2 ?_
    refine own_iload X8 hx 140 (hb hby at_138) rfl ?_
    refine own_iconst X8 hx 141 (1 : Int32) (hb hby at_140) rfl ?_
    refine own_icmpYes X8 hx 156 (hb hby at_141) (flt (by decide : ¬ ((1 : Int32) < (0 : Int32)))).2.2.2 ?_
    refine own_iload X8 hx 158 (hb hby at_156) rfl ?_
    refine own_iconst X8 hx 159 (2 : Int32) (hb hby at_158) rfl ?_
    refine own_icmpYes X8 hx 174 (hb hby at_159) (flt (by decide : ¬ ((2 : Int32) < (0 : Int32)))).2.2.2 ?_
    refine own_iload X8 hx 176 (hb hby at_174) rfl ?_
    refine own_iconst X8 hx 177 (3 : Int32) (hb hby at_176) rfl ?_
    refine own_icmpYes X8 hx 192 (hb hby at_177) (flt (by decide : ¬ ((3 : Int32) < (0 : Int32)))).2.2.2 ?_
    refine own_lload X8 hx 194 (hb hby at_192) rfl ?_
    refine own_lstore X8 hx 196 #[.val (.int v0), .val (.long q1), .second, .val (.long q2), .second, .val (.long q3), .second, .val (.long q4), .second, .val (.int (0 : Int32)), .val (.long x0), .second, .val (.long x1), .second, .val (.long x2), .second, .val (.long x3), .second, .val (.ref b6), .val (.ref bb_8), .val (.long x0), .second, .unset, .unset, .unset, .unset, .unset, .unset] (hb hby at_194) rfl ?_
    refine own_lload X8 hx 198 (hb hby at_196) rfl ?_
    refine own_lload X8 hx 200 (hb hby at_198) rfl ?_
    refine own_ladd X8 hx 201 (hb hby at_200) ?_
    refine own_lstore X8 hx 203 #[.val (.int v0), .val (.long q1), .second, .val (.long q2), .second, .val (.long q3), .second, .val (.long q4), .second, .val (.int (0 : Int32)), .val (.long x0), .second, .val (.long x1), .second, .val (.long x2), .second, .val (.long x3), .second, .val (.ref b6), .val (.ref bb_8), .val (.long x0), .second, .val (.long (x0 + x1)), .second, .unset, .unset, .unset, .unset] (hb hby at_201) rfl ?_
    refine own_lload X8 hx 205 (hb hby at_203) rfl ?_
    refine own_lload X8 hx 207 (hb hby at_205) rfl ?_
    refine own_ladd X8 hx 208 (hb hby at_207) ?_
    refine own_lstore X8 hx 210 #[.val (.int v0), .val (.long q1), .second, .val (.long q2), .second, .val (.long q3), .second, .val (.long q4), .second, .val (.int (0 : Int32)), .val (.long x0), .second, .val (.long x1), .second, .val (.long x2), .second, .val (.long x3), .second, .val (.ref b6), .val (.ref bb_8), .val (.long x0), .second, .val (.long (x0 + x1)), .second, .val (.long ((x0 + x1) + x2)), .second, .unset, .unset] (hb hby at_208) rfl ?_
    refine own_lload X8 hx 212 (hb hby at_210) rfl ?_
    refine own_lload X8 hx 214 (hb hby at_212) rfl ?_
    refine own_ladd X8 hx 215 (hb hby at_214) ?_
    refine own_lstore X8 hx 217 #[.val (.int v0), .val (.long q1), .second, .val (.long q2), .second, .val (.long q3), .second, .val (.long q4), .second, .val (.int (0 : Int32)), .val (.long x0), .second, .val (.long x1), .second, .val (.long x2), .second, .val (.long x3), .second, .val (.ref b6), .val (.ref bb_8), .val (.long x0), .second, .val (.long (x0 + x1)), .second, .val (.long ((x0 + x1) + x2)), .second, .val (.long (((x0 + x1) + x2) + x3)), .second] (hb hby at_215) rfl ?_
    refine own_aload X8 hx 219 (hb hby at_217) rfl rfl ?_
    refine own_iconst X8 hx 220 (0 : Int32) (hb hby at_219) rfl ?_
    refine own_iload X8 hx 222 (hb hby at_220) rfl ?_
    refine own_lload X8 hx 224 (hb hby at_222) rfl ?_
    obtain ⟨_, _, ⟨T12, Lx12, kc12, nc12⟩, -, X12, ⟨Lc12, hQ12, lq12, yq12, zq12⟩, st12⟩ := Jvm.LawKit.callS X8 hx (y := (⟨"com/example/loomsand/loomsand/WeightsRunningSumsPinLaw", "at", "([JIIJ)Z"⟩ : MethodName)) hown (mvT hZ (hw _ (List.mem_of_getElem? (i := 7) rfl))) (mvT hZ (hw _ (List.mem_of_getElem? (i := 8) rfl))) (mvT hZ (hw _ (List.mem_of_getElem? (i := 9) rfl))) (mvT hZ (hw _ (List.mem_of_getElem? (i := 10) rfl))) (by decide) (backOf (W := 0) (own_rm2n0i0 l Z a0 hw [] bb_8 x0 T8.heap n0 Z10 ) hZ (hw _ (List.mem_of_getElem? (i := 10) rfl)) (hw _ (List.mem_of_getElem? (i := 9) rfl)) (by decide) (by decide)) (g := (mkF m 224 #[.val (.int v0), .val (.long q1), .second, .val (.long q2), .second, .val (.long q3), .second, .val (.long q4), .second, .val (.int (0 : Int32)), .val (.long x0), .second, .val (.long x1), .second, .val (.long x2), .second, .val (.long x3), .second, .val (.ref b6), .val (.ref bb_8), .val (.long x0), .second, .val (.long (x0 + x1)), .second, .val (.long ((x0 + x1) + x2)), .second, .val (.long (((x0 + x1) + x2) + x3)), .second] [(.long x0), (.int (0 : Int32)), (.int (0 : Int32)), (.ref bb_8)])) rfl (by rw [hml]; rfl) (argsL := [(.ref bb_8), (.int (0 : Int32)), (.int (0 : Int32)), (.long x0)]) (rest := []) (lenOf own_pd1 rfl) rfl (by show 2 * 0 + _ ≤ _; exact Nat.le_of_eq rfl) (hb hby at_224) (fun _ _ => ⟨rfl, rfl, (by decide : 2 + 0 ≤ _), (by decide : 0 + 0 ≤ _)⟩)
    dsimp only [Pt.U, Pt.locs, Pt.cells, Pt.slots] at X12 lq12 yq12 zq12 st12 hQ12
    subst lq12 yq12 zq12
    obtain ⟨rfl, Nq12, eh12⟩ := hQ12
    have N12 := Fr.app N8 Nq12
    refine own_st (G' := T12.setTop (mkF m 227 #[.val (.int v0), .val (.long q1), .second, .val (.long q2), .second, .val (.long q3), .second, .val (.long q4), .second, .val (.int (0 : Int32)), .val (.long x0), .second, .val (.long x1), .second, .val (.long x2), .second, .val (.long x3), .second, .val (.ref b6), .val (.ref bb_8), .val (.long x0), .second, .val (.long (x0 + x1)), .second, .val (.long ((x0 + x1) + x2)), .second, .val (.long (((x0 + x1) + x2) + x3)), .second] [(.int (1 : Int32))])) st12 ?_
    refine own_ifNo X12 hx 230 (hb hby at_227) (feq (by decide : ¬ ((1 : Int32) = (0 : Int32)))).1 ?_
    refine own_aload X12 hx 232 (hb hby at_230) rfl rfl ?_
    refine own_iconst X12 hx 233 (1 : Int32) (hb hby at_232) rfl ?_
    refine own_iload X12 hx 235 (hb hby at_233) rfl ?_
    refine own_lload X12 hx 237 (hb hby at_235) rfl ?_
    obtain ⟨_, _, ⟨T13, Lx13, kc13, nc13⟩, -, X13, ⟨Lc13, hQ13, lq13, yq13, zq13⟩, st13⟩ := Jvm.LawKit.callS X12 hx (y := (⟨"com/example/loomsand/loomsand/WeightsRunningSumsPinLaw", "at", "([JIIJ)Z"⟩ : MethodName)) hown (mvT hZ (hw _ (List.mem_of_getElem? (i := 7) rfl))) (mvT hZ (hw _ (List.mem_of_getElem? (i := 8) rfl))) (mvT hZ (hw _ (List.mem_of_getElem? (i := 9) rfl))) (mvT hZ (hw _ (List.mem_of_getElem? (i := 10) rfl))) (by decide) (backOf (W := 0) (own_rm2n0i1 l Z a0 hw [] bb_8 (x0 + x1) T8.heap n0 Z10 ) hZ (hw _ (List.mem_of_getElem? (i := 10) rfl)) (hw _ (List.mem_of_getElem? (i := 9) rfl)) (by decide) (by decide)) (g := (mkF m 237 #[.val (.int v0), .val (.long q1), .second, .val (.long q2), .second, .val (.long q3), .second, .val (.long q4), .second, .val (.int (0 : Int32)), .val (.long x0), .second, .val (.long x1), .second, .val (.long x2), .second, .val (.long x3), .second, .val (.ref b6), .val (.ref bb_8), .val (.long x0), .second, .val (.long (x0 + x1)), .second, .val (.long ((x0 + x1) + x2)), .second, .val (.long (((x0 + x1) + x2) + x3)), .second] [(.long (x0 + x1)), (.int (0 : Int32)), (.int (1 : Int32)), (.ref bb_8)])) rfl (by rw [hml]; rfl) (argsL := [(.ref bb_8), (.int (1 : Int32)), (.int (0 : Int32)), (.long (x0 + x1))]) (rest := []) (lenOf own_pd1 rfl) rfl (by show 2 * 0 + _ ≤ _; exact Nat.le_of_eq rfl) (hb hby at_237) (fun _ _ => ⟨rfl, eh12, (by decide : 2 + 0 ≤ _), (by decide : 0 + 0 ≤ _)⟩)
    dsimp only [Pt.U, Pt.locs, Pt.cells, Pt.slots] at X13 lq13 yq13 zq13 st13 hQ13
    subst lq13 yq13 zq13
    obtain ⟨rfl, Nq13, eh13⟩ := hQ13
    have N13 := Fr.app N12 Nq13
    refine own_st (G' := T13.setTop (mkF m 240 #[.val (.int v0), .val (.long q1), .second, .val (.long q2), .second, .val (.long q3), .second, .val (.long q4), .second, .val (.int (0 : Int32)), .val (.long x0), .second, .val (.long x1), .second, .val (.long x2), .second, .val (.long x3), .second, .val (.ref b6), .val (.ref bb_8), .val (.long x0), .second, .val (.long (x0 + x1)), .second, .val (.long ((x0 + x1) + x2)), .second, .val (.long (((x0 + x1) + x2) + x3)), .second] [(.int (1 : Int32))])) st13 ?_
    refine own_ifNo X13 hx 243 (hb hby at_240) (feq (by decide : ¬ ((1 : Int32) = (0 : Int32)))).1 ?_
    refine own_aload X13 hx 245 (hb hby at_243) rfl rfl ?_
    refine own_iconst X13 hx 246 (2 : Int32) (hb hby at_245) rfl ?_
    refine own_iload X13 hx 248 (hb hby at_246) rfl ?_
    refine own_lload X13 hx 250 (hb hby at_248) rfl ?_
    obtain ⟨_, _, ⟨T14, Lx14, kc14, nc14⟩, -, X14, ⟨Lc14, hQ14, lq14, yq14, zq14⟩, st14⟩ := Jvm.LawKit.callS X13 hx (y := (⟨"com/example/loomsand/loomsand/WeightsRunningSumsPinLaw", "at", "([JIIJ)Z"⟩ : MethodName)) hown (mvT hZ (hw _ (List.mem_of_getElem? (i := 7) rfl))) (mvT hZ (hw _ (List.mem_of_getElem? (i := 8) rfl))) (mvT hZ (hw _ (List.mem_of_getElem? (i := 9) rfl))) (mvT hZ (hw _ (List.mem_of_getElem? (i := 10) rfl))) (by decide) (backOf (W := 0) (own_rm2n0i2 l Z a0 hw [] bb_8 ((x0 + x1) + x2) T8.heap n0 Z10 ) hZ (hw _ (List.mem_of_getElem? (i := 10) rfl)) (hw _ (List.mem_of_getElem? (i := 9) rfl)) (by decide) (by decide)) (g := (mkF m 250 #[.val (.int v0), .val (.long q1), .second, .val (.long q2), .second, .val (.long q3), .second, .val (.long q4), .second, .val (.int (0 : Int32)), .val (.long x0), .second, .val (.long x1), .second, .val (.long x2), .second, .val (.long x3), .second, .val (.ref b6), .val (.ref bb_8), .val (.long x0), .second, .val (.long (x0 + x1)), .second, .val (.long ((x0 + x1) + x2)), .second, .val (.long (((x0 + x1) + x2) + x3)), .second] [(.long ((x0 + x1) + x2)), (.int (0 : Int32)), (.int (2 : Int32)), (.ref bb_8)])) rfl (by rw [hml]; rfl) (argsL := [(.ref bb_8), (.int (2 : Int32)), (.int (0 : Int32)), (.long ((x0 + x1) + x2))]) (rest := []) (lenOf own_pd1 rfl) rfl (by show 2 * 0 + _ ≤ _; exact Nat.le_of_eq rfl) (hb hby at_250) (fun _ _ => ⟨rfl, eh13, (by decide : 2 + 0 ≤ _), (by decide : 0 + 0 ≤ _)⟩)
    dsimp only [Pt.U, Pt.locs, Pt.cells, Pt.slots] at X14 lq14 yq14 zq14 st14 hQ14
    subst lq14 yq14 zq14
    obtain ⟨rfl, Nq14, eh14⟩ := hQ14
    have N14 := Fr.app N13 Nq14
    refine own_st (G' := T14.setTop (mkF m 253 #[.val (.int v0), .val (.long q1), .second, .val (.long q2), .second, .val (.long q3), .second, .val (.long q4), .second, .val (.int (0 : Int32)), .val (.long x0), .second, .val (.long x1), .second, .val (.long x2), .second, .val (.long x3), .second, .val (.ref b6), .val (.ref bb_8), .val (.long x0), .second, .val (.long (x0 + x1)), .second, .val (.long ((x0 + x1) + x2)), .second, .val (.long (((x0 + x1) + x2) + x3)), .second] [(.int (1 : Int32))])) st14 ?_
    refine own_ifNo X14 hx 256 (hb hby at_253) (feq (by decide : ¬ ((1 : Int32) = (0 : Int32)))).1 ?_
    refine own_aload X14 hx 258 (hb hby at_256) rfl rfl ?_
    refine own_iconst X14 hx 259 (3 : Int32) (hb hby at_258) rfl ?_
    refine own_iload X14 hx 261 (hb hby at_259) rfl ?_
    refine own_lload X14 hx 263 (hb hby at_261) rfl ?_
    obtain ⟨_, _, ⟨T15, Lx15, kc15, nc15⟩, -, X15, ⟨Lc15, hQ15, lq15, yq15, zq15⟩, st15⟩ := Jvm.LawKit.callS X14 hx (y := (⟨"com/example/loomsand/loomsand/WeightsRunningSumsPinLaw", "at", "([JIIJ)Z"⟩ : MethodName)) hown (mvT hZ (hw _ (List.mem_of_getElem? (i := 7) rfl))) (mvT hZ (hw _ (List.mem_of_getElem? (i := 8) rfl))) (mvT hZ (hw _ (List.mem_of_getElem? (i := 9) rfl))) (mvT hZ (hw _ (List.mem_of_getElem? (i := 10) rfl))) (by decide) (backOf (W := 0) (own_rm2n0i3 l Z a0 hw [] bb_8 (((x0 + x1) + x2) + x3) T8.heap n0 Z10 ) hZ (hw _ (List.mem_of_getElem? (i := 10) rfl)) (hw _ (List.mem_of_getElem? (i := 9) rfl)) (by decide) (by decide)) (g := (mkF m 263 #[.val (.int v0), .val (.long q1), .second, .val (.long q2), .second, .val (.long q3), .second, .val (.long q4), .second, .val (.int (0 : Int32)), .val (.long x0), .second, .val (.long x1), .second, .val (.long x2), .second, .val (.long x3), .second, .val (.ref b6), .val (.ref bb_8), .val (.long x0), .second, .val (.long (x0 + x1)), .second, .val (.long ((x0 + x1) + x2)), .second, .val (.long (((x0 + x1) + x2) + x3)), .second] [(.long (((x0 + x1) + x2) + x3)), (.int (0 : Int32)), (.int (3 : Int32)), (.ref bb_8)])) rfl (by rw [hml]; rfl) (argsL := [(.ref bb_8), (.int (3 : Int32)), (.int (0 : Int32)), (.long (((x0 + x1) + x2) + x3))]) (rest := []) (lenOf own_pd1 rfl) rfl (by show 2 * 0 + _ ≤ _; exact Nat.le_of_eq rfl) (hb hby at_263) (fun _ _ => ⟨rfl, eh14, (by decide : 2 + 0 ≤ _), (by decide : 0 + 0 ≤ _)⟩)
    dsimp only [Pt.U, Pt.locs, Pt.cells, Pt.slots] at X15 lq15 yq15 zq15 st15 hQ15
    subst lq15 yq15 zq15
    obtain ⟨rfl, Nq15, eh15⟩ := hQ15
    have N15 := Fr.app N14 Nq15
    refine own_st (G' := T15.setTop (mkF m 266 #[.val (.int v0), .val (.long q1), .second, .val (.long q2), .second, .val (.long q3), .second, .val (.long q4), .second, .val (.int (0 : Int32)), .val (.long x0), .second, .val (.long x1), .second, .val (.long x2), .second, .val (.long x3), .second, .val (.ref b6), .val (.ref bb_8), .val (.long x0), .second, .val (.long (x0 + x1)), .second, .val (.long ((x0 + x1) + x2)), .second, .val (.long (((x0 + x1) + x2) + x3)), .second] [(.int (1 : Int32))])) st15 ?_
    refine own_ifNo X15 hx 269 (hb hby at_266) (feq (by decide : ¬ ((1 : Int32) = (0 : Int32)))).1 ?_
    refine own_iconst X15 hx 270 (1 : Int32) (hb hby at_269) rfl ?_
    refine own_goto X15 hx 274 (hb hby at_270) ?_
    exact own_retN (t := .boolean) (z := (1 : Int32)) (Q := own_Q0 Z v0 q1 q2 q3 q4 h0 n0) X15 hx hrt (by simp) (hb hby at_274) hlk eh15 ⟨rfl, N15⟩ (by decide) (by decide)
  · rw [hk2]
    refine own_istore X0 hx 8 #[.val (.int v0), .val (.long q1), .second, .val (.long q2), .second, .val (.long q3), .second, .val (.long q4), .second, .val (.int (1 : Int32)), .unset, .unset, .unset, .unset, .unset, .unset, .unset, .unset, .unset, .unset, .unset, .unset, .unset, .unset, .unset, .unset, .unset, .unset] (hb hby at_6) rfl ?_
    refine own_lloadN X0 hx 9 (hb hby at_8) rfl ?_
    refine own_ldcL X0 hx 12 hown (mvT hZ (hw _ (List.mem_of_getElem? (i := 1) rfl))) (hb hby at_9) ?_
    refine own_land X0 hx 13 (hb hby at_12) ?_
    refine own_iconst X0 hx 14 (2 : Int32) (hb hby at_13) rfl ?_
    refine own_lushr X0 hx 15 (hb hby at_14) ?_
    generalize (((q1 &&& (9223372036854775807 : Int64)).toUInt64 >>> ((2 : Int32) &&& 0x3f).toInt64.toUInt64).toInt64) = x0
    refine own_lstore X0 hx 17 #[.val (.int v0), .val (.long q1), .second, .val (.long q2), .second, .val (.long q3), .second, .val (.long q4), .second, .val (.int (1 : Int32)), .val (.long x0), .second, .unset, .unset, .unset, .unset, .unset, .unset, .unset, .unset, .unset, .unset, .unset, .unset, .unset, .unset, .unset, .unset] (hb hby at_15) rfl ?_
    refine own_lloadN X0 hx 18 (hb hby at_17) rfl ?_
    refine own_ldcL X0 hx 21 hown (mvT hZ (hw _ (List.mem_of_getElem? (i := 1) rfl))) (hb hby at_18) ?_
    refine own_land X0 hx 22 (hb hby at_21) ?_
    refine own_iconst X0 hx 23 (2 : Int32) (hb hby at_22) rfl ?_
    refine own_lushr X0 hx 24 (hb hby at_23) ?_
    generalize (((q2 &&& (9223372036854775807 : Int64)).toUInt64 >>> ((2 : Int32) &&& 0x3f).toInt64.toUInt64).toInt64) = x1
    refine own_lstore X0 hx 26 #[.val (.int v0), .val (.long q1), .second, .val (.long q2), .second, .val (.long q3), .second, .val (.long q4), .second, .val (.int (1 : Int32)), .val (.long x0), .second, .val (.long x1), .second, .unset, .unset, .unset, .unset, .unset, .unset, .unset, .unset, .unset, .unset, .unset, .unset, .unset, .unset] (hb hby at_24) rfl ?_
    refine own_lload X0 hx 28 (hb hby at_26) rfl ?_
    refine own_ldcL X0 hx 31 hown (mvT hZ (hw _ (List.mem_of_getElem? (i := 1) rfl))) (hb hby at_28) ?_
    refine own_land X0 hx 32 (hb hby at_31) ?_
    refine own_iconst X0 hx 33 (2 : Int32) (hb hby at_32) rfl ?_
    refine own_lushr X0 hx 34 (hb hby at_33) ?_
    generalize (((q3 &&& (9223372036854775807 : Int64)).toUInt64 >>> ((2 : Int32) &&& 0x3f).toInt64.toUInt64).toInt64) = x2
    refine own_lstore X0 hx 36 #[.val (.int v0), .val (.long q1), .second, .val (.long q2), .second, .val (.long q3), .second, .val (.long q4), .second, .val (.int (1 : Int32)), .val (.long x0), .second, .val (.long x1), .second, .val (.long x2), .second, .unset, .unset, .unset, .unset, .unset, .unset, .unset, .unset, .unset, .unset, .unset, .unset] (hb hby at_34) rfl ?_
    refine own_lload X0 hx 38 (hb hby at_36) rfl ?_
    refine own_ldcL X0 hx 41 hown (mvT hZ (hw _ (List.mem_of_getElem? (i := 1) rfl))) (hb hby at_38) ?_
    refine own_land X0 hx 42 (hb hby at_41) ?_
    refine own_iconst X0 hx 43 (2 : Int32) (hb hby at_42) rfl ?_
    refine own_lushr X0 hx 44 (hb hby at_43) ?_
    generalize (((q4 &&& (9223372036854775807 : Int64)).toUInt64 >>> ((2 : Int32) &&& 0x3f).toInt64.toUInt64).toInt64) = x3
    refine own_lstore X0 hx 46 #[.val (.int v0), .val (.long q1), .second, .val (.long q2), .second, .val (.long q3), .second, .val (.long q4), .second, .val (.int (1 : Int32)), .val (.long x0), .second, .val (.long x1), .second, .val (.long x2), .second, .val (.long x3), .second, .unset, .unset, .unset, .unset, .unset, .unset, .unset, .unset, .unset, .unset] (hb hby at_44) rfl ?_
    refine own_iload X0 hx 48 (hb hby at_46) rfl ?_
    obtain ⟨T16, h16, k16, X16, e16, E16, A16, st16⟩ := newP X0 hx hZ (hw _ (List.mem_of_getElem? (i := 2) rfl)) e0 (g := (mkF m 48 #[.val (.int v0), .val (.long q1), .second, .val (.long q2), .second, .val (.long q3), .second, .val (.long q4), .second, .val (.int (1 : Int32)), .val (.long x0), .second, .val (.long x1), .second, .val (.long x2), .second, .val (.long x3), .second, .unset, .unset, .unset, .unset, .unset, .unset, .unset, .unset, .unset, .unset] [(.int (1 : Int32))])) rfl (hb hby at_48) rfl (by decide) (cap := 1) (by decide) (by decide) (by decide) (by decide)
    obtain ⟨b16, g16⟩ : ∃ z, z = h0.size := ⟨_, rfl⟩
    rw [← g16] at A16 st16
    have gt_b16 : n0 ≤ b16 := Nat.le_trans Z0 (Nat.le_of_eq g16.symm)
    have V16 : Arv Z h16 b16 k16 .long (1 : Int32) [(.long (0 : Int64))] (.long (0 : Int64)) := (Arv.new A16 (by decide)).pad (pad_rep [] (.long (0 : Int64)) 1)
    have Z17 := Nat.le_trans Z0 E16.1
    refine own_st (G' := T16.setTop (mkF m 50 #[.val (.int v0), .val (.long q1), .second, .val (.long q2), .second, .val (.long q3), .second, .val (.long q4), .second, .val (.int (1 : Int32)), .val (.long x0), .second, .val (.long x1), .second, .val (.long x2), .second, .val (.long x3), .second, .unset, .unset, .unset, .unset, .unset, .unset, .unset, .unset, .unset, .unset] [(.ref b16)])) st16 ?_
    refine own_astore X16 hx 52 #[.val (.int v0), .val (.long q1), .second, .val (.long q2), .second, .val (.long q3), .second, .val (.long q4), .second, .val (.int (1 : Int32)), .val (.long x0), .second, .val (.long x1), .second, .val (.long x2), .second, .val (.long x3), .second, .val (.ref b16), .unset, .unset, .unset, .unset, .unset, .unset, .unset, .unset, .unset] (hb hby at_50) rfl rfl ?_
    refine own_iload X16 hx 54 (hb hby at_52) rfl ?_
    refine own_ifNo X16 hx 57 (hb hby at_54) (tlt (by decide : (0 : Int32) < (1 : Int32))).2.2.2 ?_
    refine own_aload X16 hx 59 (hb hby at_57) rfl rfl ?_
    refine own_iconst X16 hx 60 (0 : Int32) (hb hby at_59) rfl ?_
    refine own_lload X16 hx 62 (hb hby at_60) rfl ?_
    obtain ⟨cl18, Ar18, qv18, S18, M18, H18, G18⟩ := id V16
    have hin18 : ¬ ((0 : Int32) < 0 ∨ cl18.slots.size ≤ ((0 : Int32)).toNatClampNeg) := inb_of S18 ⟨by decide, by decide⟩
    obtain ⟨T18, h18, X18, e18, W18, st18⟩ := stJ X16 hx hZ e16 Ar18 (j := (0 : Int32)) hin18 (g := (mkF m 62 #[.val (.int v0), .val (.long q1), .second, .val (.long q2), .second, .val (.long q3), .second, .val (.long q4), .second, .val (.int (1 : Int32)), .val (.long x0), .second, .val (.long x1), .second, .val (.long x2), .second, .val (.long x3), .second, .val (.ref b16), .unset, .unset, .unset, .unset, .unset, .unset, .unset, .unset, .unset] [(.long x0), (.int (0 : Int32)), (.ref b16)])) rfl rfl (hb hby at_62)
    have V18 : Arv Z h18 b16 k16 .long (1 : Int32) [(.long x0)] (.long (0 : Int64)) := Arv.set Ar18 qv18 S18 M18 H18 G18 rfl W18 0 rfl (Nat.le_of_ble_eq_true rfl)
    have N18 := Fr.snoc X18 N0 gt_b16
    have Z19 := Nat.le_trans Z17 (Nat.le_of_eq W18.size.symm)
    refine own_st (G' := T18.setTop (mkF m 63 #[.val (.int v0), .val (.long q1), .second, .val (.long q2), .second, .val (.long q3), .second, .val (.long q4), .second, .val (.int (1 : Int32)), .val (.long x0), .second, .val (.long x1), .second, .val (.long x2), .second, .val (.long x3), .second, .val (.ref b16), .unset, .unset, .unset, .unset, .unset, .unset, .unset, .unset, .unset] [])) st18 ?_
    refine own_iload X18 hx 65 (hb hby at_63) rfl ?_
    refine own_iconst X18 hx 66 (1 : Int32) (hb hby at_65) rfl ?_
    refine own_icmpYes X18 hx 75 (hb hby at_66) (flt (by decide : ¬ ((1 : Int32) < (1 : Int32)))).2.2.2 ?_
    refine own_iload X18 hx 77 (hb hby at_75) rfl ?_
    refine own_iconst X18 hx 78 (2 : Int32) (hb hby at_77) rfl ?_
    refine own_icmpYes X18 hx 87 (hb hby at_78) (flt (by decide : ¬ ((2 : Int32) < (1 : Int32)))).2.2.2 ?_
    refine own_iload X18 hx 89 (hb hby at_87) rfl ?_
    refine own_iconst X18 hx 90 (3 : Int32) (hb hby at_89) rfl ?_
    refine own_icmpYes X18 hx 99 (hb hby at_90) (flt (by decide : ¬ ((3 : Int32) < (1 : Int32)))).2.2.2 ?_
    refine own_aload X18 hx 101 (hb hby at_99) rfl rfl ?_
    obtain ⟨_, _, ⟨T20, Lx20, kc20, nc20⟩, -, X20, ⟨Lc20, hQ20, lq20, yq20, zq20⟩, st20⟩ := Jvm.LawKit.callS X18 hx (y := (⟨"com/example/loomsand/loomsand/Weights", "runningSums", "([J)[J"⟩ : MethodName)) hown (mvT hZ (hw _ (List.mem_of_getElem? (i := 3) rfl))) (mvT hZ (hw _ (List.mem_of_getElem? (i := 4) rfl))) (mvT hZ (hw _ (List.mem_of_getElem? (i := 5) rfl))) (mvT hZ (hw _ (List.mem_of_getElem? (i := 6) rfl))) (by decide) (backOf (W := 0) (own_rm1n1 l Z a0 hw [] b16 k16 x0 h18 n0 Z19 V18) hZ (hw _ (List.mem_of_getElem? (i := 6) rfl)) (hw _ (List.mem_of_getElem? (i := 5) rfl)) (by decide) (by decide)) (g := (mkF m 101 #[.val (.int v0), .val (.long q1), .second, .val (.long q2), .second, .val (.long q3), .second, .val (.long q4), .second, .val (.int (1 : Int32)), .val (.long x0), .second, .val (.long x1), .second, .val (.long x2), .second, .val (.long x3), .second, .val (.ref b16), .unset, .unset, .unset, .unset, .unset, .unset, .unset, .unset, .unset] [(.ref b16)])) rfl (by rw [hml]; rfl) (argsL := [(.ref b16)]) (rest := []) (lenOf own_pd0 rfl) rfl (by show 2 * 0 + _ ≤ _; exact Nat.le_of_eq rfl) (hb hby at_101) (fun _ _ => ⟨rfl, e18, (by decide : 1 + 1 ≤ _), (by decide : 1 + 1 ≤ _)⟩)
    dsimp only [Pt.U, Pt.locs, Pt.cells, Pt.slots] at X20 lq20 yq20 zq20 st20 hQ20
    subst lq20 yq20 zq20
    obtain ⟨bb_20, kb_20, rfl, Nq20, Kp20, G20_0, G20_1⟩ := hQ20
    have N20 := Fr.app N18 Nq20
    have ne21 : b16 ≠ bb_20 := Nat.ne_of_lt (Nat.lt_of_lt_of_le V18.lt G20_0)
    have gt_bb_20 : n0 ≤ bb_20 := Nat.le_trans Z19 G20_0
    have Z22 := Nat.le_trans Z19 Kp20.1
    refine own_st (G' := T20.setTop (mkF m 104 #[.val (.int v0), .val (.long q1), .second, .val (.long q2), .second, .val (.long q3), .second, .val (.long q4), .second, .val (.int (1 : Int32)), .val (.long x0), .second, .val (.long x1), .second, .val (.long x2), .second, .val (.long x3), .second, .val (.ref b16), .unset, .unset, .unset, .unset, .unset, .unset, .unset, .unset, .unset] [(.ref bb_20)])) st20 ?_
    refine own_astore X20 hx 106 #[.val (.int v0), .val (.long q1), .second, .val (.long q2), .second, .val (.long q3), .second, .val (.long q4), .second, .val (.int (1 : Int32)), .val (.long x0), .second, .val (.long x1), .second, .val (.long x2), .second, .val (.long x3), .second, .val (.ref b16), .val (.ref bb_20), .unset, .unset, .unset, .unset, .unset, .unset, .unset, .unset] (hb hby at_104) rfl rfl ?_
    refine own_aload X20 hx 108 (hb hby at_106) rfl rfl ?_
    refine own_ifnullNo X20 hx 111 (hb hby at_108) ?_
    refine own_aload X20 hx 113 (hb hby at_111) rfl rfl ?_
    obtain ⟨cl23, Ar23, qv23, S23, M23, H23, G23⟩ := id G20_1
    have ln23 := len_of S23 M23
    refine own_st (G' := T20.setTop (mkF m 114 #[.val (.int v0), .val (.long q1), .second, .val (.long q2), .second, .val (.long q3), .second, .val (.long q4), .second, .val (.int (1 : Int32)), .val (.long x0), .second, .val (.long x1), .second, .val (.long x2), .second, .val (.long x3), .second, .val (.ref b16), .val (.ref bb_20), .unset, .unset, .unset, .unset, .unset, .unset, .unset, .unset] [(.int (1 : Int32))])) (fun t k => X20.arraylength hx Ar23.1 (State.isArrayOf_alike hZ.alike Ar23.2.1) (g := (mkF m 113 #[.val (.int v0), .val (.long q1), .second, .val (.long q2), .second, .val (.long q3), .second, .val (.long q4), .second, .val (.int (1 : Int32)), .val (.long x0), .second, .val (.long x1), .second, .val (.long x2), .second, .val (.long x3), .second, .val (.ref b16), .val (.ref bb_20), .unset, .unset, .unset, .unset, .unset, .unset, .unset, .unset] [(.ref bb_20)])) rfl rfl (hb hby at_113) _ (by rw [ln23]; exact k)) ?_
    refine own_iload X20 hx 116 (hb hby at_114) rfl ?_
    refine own_icmpYes X20 hx 121 (hb hby at_116) (teq (rfl : (1 : Int32) = (1 : Int32))).1 ?_
    refine own_iload X20 hx 123 (hb hby at_121) rfl ?_
    refine own_ifNo X20 hx 126 (hb hby at_123) (tlt (by decide : (0 : Int32) < (1 : Int32))).2.2.2 ?_
    refine own_aload X20 hx 128 (hb hby at_126) rfl rfl ?_
    refine own_iconst X20 hx 129 (0 : Int32) (hb hby at_128) rfl ?_
    have f24 := (V18.keep Kp20 nin0)
    obtain ⟨cl25, Ar25, qv25, S25, M25, H25, G25⟩ := id f24
    have hin25 : ¬ ((0 : Int32) < 0 ∨ cl25.slots.size ≤ ((0 : Int32)).toNatClampNeg) := inb_of S25 ⟨by decide, by decide⟩
    refine own_st (G' := T20.setTop (mkF m 130 #[.val (.int v0), .val (.long q1), .second, .val (.long q2), .second, .val (.long q3), .second, .val (.long q4), .second, .val (.int (1 : Int32)), .val (.long x0), .second, .val (.long x1), .second, .val (.long x2), .second, .val (.long x3), .second, .val (.ref b16), .val (.ref bb_20), .unset, .unset, .unset, .unset, .unset, .unset, .unset, .unset] [(.long x0)])) (fun t k => X20.laload hx (j := (0 : Int32)) (v := (.long x0)) Ar25.1 (State.isArrayOf_alike hZ.alike Ar25.2.1) Ar25.2.2 hin25 (H25.at hin25 rfl) (g := (mkF m 129 #[.val (.int v0), .val (.long q1), .second, .val (.long q2), .second, .val (.long q3), .second, .val (.long q4), .second, .val (.int (1 : Int32)), .val (.long x0), .second, .val (.long x1), .second, .val (.long x2), .second, .val (.long x3), .second, .val (.ref b16), .val (.ref bb_20), .unset, .unset, .unset, .unset, .unset, .unset, .unset, .unset] [(.int (0 : Int32)), (.ref b16)])) rfl rfl (hb hby at_129) _ k) ?_
    refine own_lload X20 hx 132 (hb hby at_130) rfl ?_
    refine own_lcmp X20 hx 133 (hb hby at_132) ?_
    refine own_ifYes X20 hx 138 (hb hby at_133) (teq ((lw_eq _ _).mpr (rfl : x0 = x0))).1 ?_
    refine own_iload X20 hx 140 (hb hby at_138) rfl ?_
    refine own_iconst X20 hx 141 (1 : Int32) (hb hby at_140) rfl ?_
    refine own_icmpYes X20 hx 156 (hb hby at_141) (flt (by decide : ¬ ((1 : Int32) < (1 : Int32)))).2.2.2 ?_
    refine own_iload X20 hx 158 (hb hby at_156) rfl ?_
    refine own_iconst X20 hx 159 (2 : Int32) (hb hby at_158) rfl ?_
    refine own_icmpYes X20 hx 174 (hb hby at_159) (flt (by decide : ¬ ((2 : Int32) < (1 : Int32)))).2.2.2 ?_
    refine own_iload X20 hx 176 (hb hby at_174) rfl ?_
    refine own_iconst X20 hx 177 (3 : Int32) (hb hby at_176) rfl ?_
    refine own_icmpYes X20 hx 192 (hb hby at_177) (flt (by decide : ¬ ((3 : Int32) < (1 : Int32)))).2.2.2 ?_
    refine own_lload X20 hx 194 (hb hby at_192) rfl ?_
    refine own_lstore X20 hx 196 #[.val (.int v0), .val (.long q1), .second, .val (.long q2), .second, .val (.long q3), .second, .val (.long q4), .second, .val (.int (1 : Int32)), .val (.long x0), .second, .val (.long x1), .second, .val (.long x2), .second, .val (.long x3), .second, .val (.ref b16), .val (.ref bb_20), .val (.long x0), .second, .unset, .unset, .unset, .unset, .unset, .unset] (hb hby at_194) rfl ?_
    refine own_lload X20 hx 198 (hb hby at_196) rfl ?_
    refine own_lload X20 hx 200 (hb hby at_198) rfl ?_
    refine own_ladd X20 hx 201 (hb hby at_200) ?_
    refine own_lstore X20 hx 203 #[.val (.int v0), .val (.long q1), .second, .val (.long q2), .second, .val (.long q3), .second, .val (.long q4), .second, .val (.int (1 : Int32)), .val (.long x0), .second, .val (.long x1), .second, .val (.long x2), .second, .val (.long x3), .second, .val (.ref b16), .val (.ref bb_20), .val (.long x0), .second, .val (.long (x0 + x1)), .second, .unset, .unset, .unset, .unset] (hb hby at_201) rfl ?_
    refine own_lload X20 hx 205 (hb hby at_203) rfl ?_
    refine own_lload X20 hx 207 (hb hby at_205) rfl ?_
    refine own_ladd X20 hx 208 (hb hby at_207) ?_
    refine own_lstore X20 hx 210 #[.val (.int v0), .val (.long q1), .second, .val (.long q2), .second, .val (.long q3), .second, .val (.long q4), .second, .val (.int (1 : Int32)), .val (.long x0), .second, .val (.long x1), .second, .val (.long x2), .second, .val (.long x3), .second, .val (.ref b16), .val (.ref bb_20), .val (.long x0), .second, .val (.long (x0 + x1)), .second, .val (.long ((x0 + x1) + x2)), .second, .unset, .unset] (hb hby at_208) rfl ?_
    refine own_lload X20 hx 212 (hb hby at_210) rfl ?_
    refine own_lload X20 hx 214 (hb hby at_212) rfl ?_
    refine own_ladd X20 hx 215 (hb hby at_214) ?_
    refine own_lstore X20 hx 217 #[.val (.int v0), .val (.long q1), .second, .val (.long q2), .second, .val (.long q3), .second, .val (.long q4), .second, .val (.int (1 : Int32)), .val (.long x0), .second, .val (.long x1), .second, .val (.long x2), .second, .val (.long x3), .second, .val (.ref b16), .val (.ref bb_20), .val (.long x0), .second, .val (.long (x0 + x1)), .second, .val (.long ((x0 + x1) + x2)), .second, .val (.long (((x0 + x1) + x2) + x3)), .second] (hb hby at_215) rfl ?_
    refine own_aload X20 hx 219 (hb hby at_217) rfl rfl ?_
    refine own_iconst X20 hx 220 (0 : Int32) (hb hby at_219) rfl ?_
    refine own_iload X20 hx 222 (hb hby at_220) rfl ?_
    refine own_lload X20 hx 224 (hb hby at_222) rfl ?_
    obtain ⟨_, _, ⟨T26, Lx26, kc26, nc26⟩, -, X26, ⟨Lc26, hQ26, lq26, yq26, zq26⟩, st26⟩ := Jvm.LawKit.callS X20 hx (y := (⟨"com/example/loomsand/loomsand/WeightsRunningSumsPinLaw", "at", "([JIIJ)Z"⟩ : MethodName)) hown (mvT hZ (hw _ (List.mem_of_getElem? (i := 7) rfl))) (mvT hZ (hw _ (List.mem_of_getElem? (i := 8) rfl))) (mvT hZ (hw _ (List.mem_of_getElem? (i := 9) rfl))) (mvT hZ (hw _ (List.mem_of_getElem? (i := 10) rfl))) (by decide) (backOf (W := 0) (own_rm2n1i0 l Z a0 hw [] bb_20 x0 kb_20 ((0 : Int64) + x0) T20.heap n0 Z22 G20_1 (by rw [Int64.zero_add] : ((0 : Int64) + x0) = x0)) hZ (hw _ (List.mem_of_getElem? (i := 10) rfl)) (hw _ (List.mem_of_getElem? (i := 9) rfl)) (by decide) (by decide)) (g := (mkF m 224 #[.val (.int v0), .val (.long q1), .second, .val (.long q2), .second, .val (.long q3), .second, .val (.long q4), .second, .val (.int (1 : Int32)), .val (.long x0), .second, .val (.long x1), .second, .val (.long x2), .second, .val (.long x3), .second, .val (.ref b16), .val (.ref bb_20), .val (.long x0), .second, .val (.long (x0 + x1)), .second, .val (.long ((x0 + x1) + x2)), .second, .val (.long (((x0 + x1) + x2) + x3)), .second] [(.long x0), (.int (1 : Int32)), (.int (0 : Int32)), (.ref bb_20)])) rfl (by rw [hml]; rfl) (argsL := [(.ref bb_20), (.int (0 : Int32)), (.int (1 : Int32)), (.long x0)]) (rest := []) (lenOf own_pd1 rfl) rfl (by show 2 * 0 + _ ≤ _; exact Nat.le_of_eq rfl) (hb hby at_224) (fun _ _ => ⟨rfl, rfl, (by decide : 2 + 0 ≤ _), (by decide : 2 + 0 ≤ _)⟩)
    dsimp only [Pt.U, Pt.locs, Pt.cells, Pt.slots] at X26 lq26 yq26 zq26 st26 hQ26
    subst lq26 yq26 zq26
    obtain ⟨rfl, Nq26, eh26⟩ := hQ26
    have N26 := Fr.app N20 Nq26
    refine own_st (G' := T26.setTop (mkF m 227 #[.val (.int v0), .val (.long q1), .second, .val (.long q2), .second, .val (.long q3), .second, .val (.long q4), .second, .val (.int (1 : Int32)), .val (.long x0), .second, .val (.long x1), .second, .val (.long x2), .second, .val (.long x3), .second, .val (.ref b16), .val (.ref bb_20), .val (.long x0), .second, .val (.long (x0 + x1)), .second, .val (.long ((x0 + x1) + x2)), .second, .val (.long (((x0 + x1) + x2) + x3)), .second] [(.int (1 : Int32))])) st26 ?_
    refine own_ifNo X26 hx 230 (hb hby at_227) (feq (by decide : ¬ ((1 : Int32) = (0 : Int32)))).1 ?_
    refine own_aload X26 hx 232 (hb hby at_230) rfl rfl ?_
    refine own_iconst X26 hx 233 (1 : Int32) (hb hby at_232) rfl ?_
    refine own_iload X26 hx 235 (hb hby at_233) rfl ?_
    refine own_lload X26 hx 237 (hb hby at_235) rfl ?_
    obtain ⟨_, _, ⟨T27, Lx27, kc27, nc27⟩, -, X27, ⟨Lc27, hQ27, lq27, yq27, zq27⟩, st27⟩ := Jvm.LawKit.callS X26 hx (y := (⟨"com/example/loomsand/loomsand/WeightsRunningSumsPinLaw", "at", "([JIIJ)Z"⟩ : MethodName)) hown (mvT hZ (hw _ (List.mem_of_getElem? (i := 7) rfl))) (mvT hZ (hw _ (List.mem_of_getElem? (i := 8) rfl))) (mvT hZ (hw _ (List.mem_of_getElem? (i := 9) rfl))) (mvT hZ (hw _ (List.mem_of_getElem? (i := 10) rfl))) (by decide) (backOf (W := 0) (own_rm2n1i1 l Z a0 hw [] bb_20 (x0 + x1) T20.heap n0 Z22 ) hZ (hw _ (List.mem_of_getElem? (i := 10) rfl)) (hw _ (List.mem_of_getElem? (i := 9) rfl)) (by decide) (by decide)) (g := (mkF m 237 #[.val (.int v0), .val (.long q1), .second, .val (.long q2), .second, .val (.long q3), .second, .val (.long q4), .second, .val (.int (1 : Int32)), .val (.long x0), .second, .val (.long x1), .second, .val (.long x2), .second, .val (.long x3), .second, .val (.ref b16), .val (.ref bb_20), .val (.long x0), .second, .val (.long (x0 + x1)), .second, .val (.long ((x0 + x1) + x2)), .second, .val (.long (((x0 + x1) + x2) + x3)), .second] [(.long (x0 + x1)), (.int (1 : Int32)), (.int (1 : Int32)), (.ref bb_20)])) rfl (by rw [hml]; rfl) (argsL := [(.ref bb_20), (.int (1 : Int32)), (.int (1 : Int32)), (.long (x0 + x1))]) (rest := []) (lenOf own_pd1 rfl) rfl (by show 2 * 0 + _ ≤ _; exact Nat.le_of_eq rfl) (hb hby at_237) (fun _ _ => ⟨rfl, eh26, (by decide : 2 + 0 ≤ _), (by decide : 2 + 0 ≤ _)⟩)
    dsimp only [Pt.U, Pt.locs, Pt.cells, Pt.slots] at X27 lq27 yq27 zq27 st27 hQ27
    subst lq27 yq27 zq27
    obtain ⟨rfl, Nq27, eh27⟩ := hQ27
    have N27 := Fr.app N26 Nq27
    refine own_st (G' := T27.setTop (mkF m 240 #[.val (.int v0), .val (.long q1), .second, .val (.long q2), .second, .val (.long q3), .second, .val (.long q4), .second, .val (.int (1 : Int32)), .val (.long x0), .second, .val (.long x1), .second, .val (.long x2), .second, .val (.long x3), .second, .val (.ref b16), .val (.ref bb_20), .val (.long x0), .second, .val (.long (x0 + x1)), .second, .val (.long ((x0 + x1) + x2)), .second, .val (.long (((x0 + x1) + x2) + x3)), .second] [(.int (1 : Int32))])) st27 ?_
    refine own_ifNo X27 hx 243 (hb hby at_240) (feq (by decide : ¬ ((1 : Int32) = (0 : Int32)))).1 ?_
    refine own_aload X27 hx 245 (hb hby at_243) rfl rfl ?_
    refine own_iconst X27 hx 246 (2 : Int32) (hb hby at_245) rfl ?_
    refine own_iload X27 hx 248 (hb hby at_246) rfl ?_
    refine own_lload X27 hx 250 (hb hby at_248) rfl ?_
    obtain ⟨_, _, ⟨T28, Lx28, kc28, nc28⟩, -, X28, ⟨Lc28, hQ28, lq28, yq28, zq28⟩, st28⟩ := Jvm.LawKit.callS X27 hx (y := (⟨"com/example/loomsand/loomsand/WeightsRunningSumsPinLaw", "at", "([JIIJ)Z"⟩ : MethodName)) hown (mvT hZ (hw _ (List.mem_of_getElem? (i := 7) rfl))) (mvT hZ (hw _ (List.mem_of_getElem? (i := 8) rfl))) (mvT hZ (hw _ (List.mem_of_getElem? (i := 9) rfl))) (mvT hZ (hw _ (List.mem_of_getElem? (i := 10) rfl))) (by decide) (backOf (W := 0) (own_rm2n1i2 l Z a0 hw [] bb_20 ((x0 + x1) + x2) T20.heap n0 Z22 ) hZ (hw _ (List.mem_of_getElem? (i := 10) rfl)) (hw _ (List.mem_of_getElem? (i := 9) rfl)) (by decide) (by decide)) (g := (mkF m 250 #[.val (.int v0), .val (.long q1), .second, .val (.long q2), .second, .val (.long q3), .second, .val (.long q4), .second, .val (.int (1 : Int32)), .val (.long x0), .second, .val (.long x1), .second, .val (.long x2), .second, .val (.long x3), .second, .val (.ref b16), .val (.ref bb_20), .val (.long x0), .second, .val (.long (x0 + x1)), .second, .val (.long ((x0 + x1) + x2)), .second, .val (.long (((x0 + x1) + x2) + x3)), .second] [(.long ((x0 + x1) + x2)), (.int (1 : Int32)), (.int (2 : Int32)), (.ref bb_20)])) rfl (by rw [hml]; rfl) (argsL := [(.ref bb_20), (.int (2 : Int32)), (.int (1 : Int32)), (.long ((x0 + x1) + x2))]) (rest := []) (lenOf own_pd1 rfl) rfl (by show 2 * 0 + _ ≤ _; exact Nat.le_of_eq rfl) (hb hby at_250) (fun _ _ => ⟨rfl, eh27, (by decide : 2 + 0 ≤ _), (by decide : 2 + 0 ≤ _)⟩)
    dsimp only [Pt.U, Pt.locs, Pt.cells, Pt.slots] at X28 lq28 yq28 zq28 st28 hQ28
    subst lq28 yq28 zq28
    obtain ⟨rfl, Nq28, eh28⟩ := hQ28
    have N28 := Fr.app N27 Nq28
    refine own_st (G' := T28.setTop (mkF m 253 #[.val (.int v0), .val (.long q1), .second, .val (.long q2), .second, .val (.long q3), .second, .val (.long q4), .second, .val (.int (1 : Int32)), .val (.long x0), .second, .val (.long x1), .second, .val (.long x2), .second, .val (.long x3), .second, .val (.ref b16), .val (.ref bb_20), .val (.long x0), .second, .val (.long (x0 + x1)), .second, .val (.long ((x0 + x1) + x2)), .second, .val (.long (((x0 + x1) + x2) + x3)), .second] [(.int (1 : Int32))])) st28 ?_
    refine own_ifNo X28 hx 256 (hb hby at_253) (feq (by decide : ¬ ((1 : Int32) = (0 : Int32)))).1 ?_
    refine own_aload X28 hx 258 (hb hby at_256) rfl rfl ?_
    refine own_iconst X28 hx 259 (3 : Int32) (hb hby at_258) rfl ?_
    refine own_iload X28 hx 261 (hb hby at_259) rfl ?_
    refine own_lload X28 hx 263 (hb hby at_261) rfl ?_
    obtain ⟨_, _, ⟨T29, Lx29, kc29, nc29⟩, -, X29, ⟨Lc29, hQ29, lq29, yq29, zq29⟩, st29⟩ := Jvm.LawKit.callS X28 hx (y := (⟨"com/example/loomsand/loomsand/WeightsRunningSumsPinLaw", "at", "([JIIJ)Z"⟩ : MethodName)) hown (mvT hZ (hw _ (List.mem_of_getElem? (i := 7) rfl))) (mvT hZ (hw _ (List.mem_of_getElem? (i := 8) rfl))) (mvT hZ (hw _ (List.mem_of_getElem? (i := 9) rfl))) (mvT hZ (hw _ (List.mem_of_getElem? (i := 10) rfl))) (by decide) (backOf (W := 0) (own_rm2n1i3 l Z a0 hw [] bb_20 (((x0 + x1) + x2) + x3) T20.heap n0 Z22 ) hZ (hw _ (List.mem_of_getElem? (i := 10) rfl)) (hw _ (List.mem_of_getElem? (i := 9) rfl)) (by decide) (by decide)) (g := (mkF m 263 #[.val (.int v0), .val (.long q1), .second, .val (.long q2), .second, .val (.long q3), .second, .val (.long q4), .second, .val (.int (1 : Int32)), .val (.long x0), .second, .val (.long x1), .second, .val (.long x2), .second, .val (.long x3), .second, .val (.ref b16), .val (.ref bb_20), .val (.long x0), .second, .val (.long (x0 + x1)), .second, .val (.long ((x0 + x1) + x2)), .second, .val (.long (((x0 + x1) + x2) + x3)), .second] [(.long (((x0 + x1) + x2) + x3)), (.int (1 : Int32)), (.int (3 : Int32)), (.ref bb_20)])) rfl (by rw [hml]; rfl) (argsL := [(.ref bb_20), (.int (3 : Int32)), (.int (1 : Int32)), (.long (((x0 + x1) + x2) + x3))]) (rest := []) (lenOf own_pd1 rfl) rfl (by show 2 * 0 + _ ≤ _; exact Nat.le_of_eq rfl) (hb hby at_263) (fun _ _ => ⟨rfl, eh28, (by decide : 2 + 0 ≤ _), (by decide : 2 + 0 ≤ _)⟩)
    dsimp only [Pt.U, Pt.locs, Pt.cells, Pt.slots] at X29 lq29 yq29 zq29 st29 hQ29
    subst lq29 yq29 zq29
    obtain ⟨rfl, Nq29, eh29⟩ := hQ29
    have N29 := Fr.app N28 Nq29
    refine own_st (G' := T29.setTop (mkF m 266 #[.val (.int v0), .val (.long q1), .second, .val (.long q2), .second, .val (.long q3), .second, .val (.long q4), .second, .val (.int (1 : Int32)), .val (.long x0), .second, .val (.long x1), .second, .val (.long x2), .second, .val (.long x3), .second, .val (.ref b16), .val (.ref bb_20), .val (.long x0), .second, .val (.long (x0 + x1)), .second, .val (.long ((x0 + x1) + x2)), .second, .val (.long (((x0 + x1) + x2) + x3)), .second] [(.int (1 : Int32))])) st29 ?_
    refine own_ifNo X29 hx 269 (hb hby at_266) (feq (by decide : ¬ ((1 : Int32) = (0 : Int32)))).1 ?_
    refine own_iconst X29 hx 270 (1 : Int32) (hb hby at_269) rfl ?_
    refine own_goto X29 hx 274 (hb hby at_270) ?_
    exact own_retN (t := .boolean) (z := (1 : Int32)) (Q := own_Q0 Z v0 q1 q2 q3 q4 h0 n0) X29 hx hrt (by simp) (hb hby at_274) hlk eh29 ⟨rfl, N29⟩ (by decide) (by decide)
  · rw [hk3]
    refine own_istore X0 hx 8 #[.val (.int v0), .val (.long q1), .second, .val (.long q2), .second, .val (.long q3), .second, .val (.long q4), .second, .val (.int (2 : Int32)), .unset, .unset, .unset, .unset, .unset, .unset, .unset, .unset, .unset, .unset, .unset, .unset, .unset, .unset, .unset, .unset, .unset, .unset] (hb hby at_6) rfl ?_
    refine own_lloadN X0 hx 9 (hb hby at_8) rfl ?_
    refine own_ldcL X0 hx 12 hown (mvT hZ (hw _ (List.mem_of_getElem? (i := 1) rfl))) (hb hby at_9) ?_
    refine own_land X0 hx 13 (hb hby at_12) ?_
    refine own_iconst X0 hx 14 (2 : Int32) (hb hby at_13) rfl ?_
    refine own_lushr X0 hx 15 (hb hby at_14) ?_
    generalize (((q1 &&& (9223372036854775807 : Int64)).toUInt64 >>> ((2 : Int32) &&& 0x3f).toInt64.toUInt64).toInt64) = x0
    refine own_lstore X0 hx 17 #[.val (.int v0), .val (.long q1), .second, .val (.long q2), .second, .val (.long q3), .second, .val (.long q4), .second, .val (.int (2 : Int32)), .val (.long x0), .second, .unset, .unset, .unset, .unset, .unset, .unset, .unset, .unset, .unset, .unset, .unset, .unset, .unset, .unset, .unset, .unset] (hb hby at_15) rfl ?_
    refine own_lloadN X0 hx 18 (hb hby at_17) rfl ?_
    refine own_ldcL X0 hx 21 hown (mvT hZ (hw _ (List.mem_of_getElem? (i := 1) rfl))) (hb hby at_18) ?_
    refine own_land X0 hx 22 (hb hby at_21) ?_
    refine own_iconst X0 hx 23 (2 : Int32) (hb hby at_22) rfl ?_
    refine own_lushr X0 hx 24 (hb hby at_23) ?_
    generalize (((q2 &&& (9223372036854775807 : Int64)).toUInt64 >>> ((2 : Int32) &&& 0x3f).toInt64.toUInt64).toInt64) = x1
    refine own_lstore X0 hx 26 #[.val (.int v0), .val (.long q1), .second, .val (.long q2), .second, .val (.long q3), .second, .val (.long q4), .second, .val (.int (2 : Int32)), .val (.long x0), .second, .val (.long x1), .second, .unset, .unset, .unset, .unset, .unset, .unset, .unset, .unset, .unset, .unset, .unset, .unset, .unset, .unset] (hb hby at_24) rfl ?_
    refine own_lload X0 hx 28 (hb hby at_26) rfl ?_
    refine own_ldcL X0 hx 31 hown (mvT hZ (hw _ (List.mem_of_getElem? (i := 1) rfl))) (hb hby at_28) ?_
    refine own_land X0 hx 32 (hb hby at_31) ?_
    refine own_iconst X0 hx 33 (2 : Int32) (hb hby at_32) rfl ?_
    refine own_lushr X0 hx 34 (hb hby at_33) ?_
    generalize (((q3 &&& (9223372036854775807 : Int64)).toUInt64 >>> ((2 : Int32) &&& 0x3f).toInt64.toUInt64).toInt64) = x2
    refine own_lstore X0 hx 36 #[.val (.int v0), .val (.long q1), .second, .val (.long q2), .second, .val (.long q3), .second, .val (.long q4), .second, .val (.int (2 : Int32)), .val (.long x0), .second, .val (.long x1), .second, .val (.long x2), .second, .unset, .unset, .unset, .unset, .unset, .unset, .unset, .unset, .unset, .unset, .unset, .unset] (hb hby at_34) rfl ?_
    refine own_lload X0 hx 38 (hb hby at_36) rfl ?_
    refine own_ldcL X0 hx 41 hown (mvT hZ (hw _ (List.mem_of_getElem? (i := 1) rfl))) (hb hby at_38) ?_
    refine own_land X0 hx 42 (hb hby at_41) ?_
    refine own_iconst X0 hx 43 (2 : Int32) (hb hby at_42) rfl ?_
    refine own_lushr X0 hx 44 (hb hby at_43) ?_
    generalize (((q4 &&& (9223372036854775807 : Int64)).toUInt64 >>> ((2 : Int32) &&& 0x3f).toInt64.toUInt64).toInt64) = x3
    refine own_lstore X0 hx 46 #[.val (.int v0), .val (.long q1), .second, .val (.long q2), .second, .val (.long q3), .second, .val (.long q4), .second, .val (.int (2 : Int32)), .val (.long x0), .second, .val (.long x1), .second, .val (.long x2), .second, .val (.long x3), .second, .unset, .unset, .unset, .unset, .unset, .unset, .unset, .unset, .unset, .unset] (hb hby at_44) rfl ?_
    refine own_iload X0 hx 48 (hb hby at_46) rfl ?_
    obtain ⟨T30, h30, k30, X30, e30, E30, A30, st30⟩ := newP X0 hx hZ (hw _ (List.mem_of_getElem? (i := 2) rfl)) e0 (g := (mkF m 48 #[.val (.int v0), .val (.long q1), .second, .val (.long q2), .second, .val (.long q3), .second, .val (.long q4), .second, .val (.int (2 : Int32)), .val (.long x0), .second, .val (.long x1), .second, .val (.long x2), .second, .val (.long x3), .second, .unset, .unset, .unset, .unset, .unset, .unset, .unset, .unset, .unset, .unset] [(.int (2 : Int32))])) rfl (hb hby at_48) rfl (by decide) (cap := 2) (by decide) (by decide) (by decide) (by decide)
    obtain ⟨b30, g30⟩ : ∃ z, z = h0.size := ⟨_, rfl⟩
    rw [← g30] at A30 st30
    have gt_b30 : n0 ≤ b30 := Nat.le_trans Z0 (Nat.le_of_eq g30.symm)
    have V30 : Arv Z h30 b30 k30 .long (2 : Int32) [(.long (0 : Int64)), (.long (0 : Int64))] (.long (0 : Int64)) := (Arv.new A30 (by decide)).pad (pad_rep [] (.long (0 : Int64)) 2)
    have Z31 := Nat.le_trans Z0 E30.1
    refine own_st (G' := T30.setTop (mkF m 50 #[.val (.int v0), .val (.long q1), .second, .val (.long q2), .second, .val (.long q3), .second, .val (.long q4), .second, .val (.int (2 : Int32)), .val (.long x0), .second, .val (.long x1), .second, .val (.long x2), .second, .val (.long x3), .second, .unset, .unset, .unset, .unset, .unset, .unset, .unset, .unset, .unset, .unset] [(.ref b30)])) st30 ?_
    refine own_astore X30 hx 52 #[.val (.int v0), .val (.long q1), .second, .val (.long q2), .second, .val (.long q3), .second, .val (.long q4), .second, .val (.int (2 : Int32)), .val (.long x0), .second, .val (.long x1), .second, .val (.long x2), .second, .val (.long x3), .second, .val (.ref b30), .unset, .unset, .unset, .unset, .unset, .unset, .unset, .unset, .unset] (hb hby at_50) rfl rfl ?_
    refine own_iload X30 hx 54 (hb hby at_52) rfl ?_
    refine own_ifNo X30 hx 57 (hb hby at_54) (tlt (by decide : (0 : Int32) < (2 : Int32))).2.2.2 ?_
    refine own_aload X30 hx 59 (hb hby at_57) rfl rfl ?_
    refine own_iconst X30 hx 60 (0 : Int32) (hb hby at_59) rfl ?_
    refine own_lload X30 hx 62 (hb hby at_60) rfl ?_
    obtain ⟨cl32, Ar32, qv32, S32, M32, H32, G32⟩ := id V30
    have hin32 : ¬ ((0 : Int32) < 0 ∨ cl32.slots.size ≤ ((0 : Int32)).toNatClampNeg) := inb_of S32 ⟨by decide, by decide⟩
    obtain ⟨T32, h32, X32, e32, W32, st32⟩ := stJ X30 hx hZ e30 Ar32 (j := (0 : Int32)) hin32 (g := (mkF m 62 #[.val (.int v0), .val (.long q1), .second, .val (.long q2), .second, .val (.long q3), .second, .val (.long q4), .second, .val (.int (2 : Int32)), .val (.long x0), .second, .val (.long x1), .second, .val (.long x2), .second, .val (.long x3), .second, .val (.ref b30), .unset, .unset, .unset, .unset, .unset, .unset, .unset, .unset, .unset] [(.long x0), (.int (0 : Int32)), (.ref b30)])) rfl rfl (hb hby at_62)
    have V32 : Arv Z h32 b30 k30 .long (2 : Int32) [(.long x0), (.long (0 : Int64))] (.long (0 : Int64)) := Arv.set Ar32 qv32 S32 M32 H32 G32 rfl W32 0 rfl (Nat.le_of_ble_eq_true rfl)
    have N32 := Fr.snoc X32 N0 gt_b30
    have Z33 := Nat.le_trans Z31 (Nat.le_of_eq W32.size.symm)
    refine own_st (G' := T32.setTop (mkF m 63 #[.val (.int v0), .val (.long q1), .second, .val (.long q2), .second, .val (.long q3), .second, .val (.long q4), .second, .val (.int (2 : Int32)), .val (.long x0), .second, .val (.long x1), .second, .val (.long x2), .second, .val (.long x3), .second, .val (.ref b30), .unset, .unset, .unset, .unset, .unset, .unset, .unset, .unset, .unset] [])) st32 ?_
    refine own_iload X32 hx 65 (hb hby at_63) rfl ?_
    refine own_iconst X32 hx 66 (1 : Int32) (hb hby at_65) rfl ?_
    refine own_icmpNo X32 hx 69 (hb hby at_66) (tlt (by decide : (1 : Int32) < (2 : Int32))).2.2.2 ?_
    refine own_aload X32 hx 71 (hb hby at_69) rfl rfl ?_
    refine own_iconst X32 hx 72 (1 : Int32) (hb hby at_71) rfl ?_
    refine own_lload X32 hx 74 (hb hby at_72) rfl ?_
    obtain ⟨cl34, Ar34, qv34, S34, M34, H34, G34⟩ := id V32
    have hin34 : ¬ ((1 : Int32) < 0 ∨ cl34.slots.size ≤ ((1 : Int32)).toNatClampNeg) := inb_of S34 ⟨by decide, by decide⟩
    obtain ⟨T34, h34, X34, e34, W34, st34⟩ := stJ X32 hx hZ e32 Ar34 (j := (1 : Int32)) hin34 (g := (mkF m 74 #[.val (.int v0), .val (.long q1), .second, .val (.long q2), .second, .val (.long q3), .second, .val (.long q4), .second, .val (.int (2 : Int32)), .val (.long x0), .second, .val (.long x1), .second, .val (.long x2), .second, .val (.long x3), .second, .val (.ref b30), .unset, .unset, .unset, .unset, .unset, .unset, .unset, .unset, .unset] [(.long x1), (.int (1 : Int32)), (.ref b30)])) rfl rfl (hb hby at_74)
    have V34 : Arv Z h34 b30 k30 .long (2 : Int32) [(.long x0), (.long x1)] (.long (0 : Int64)) := Arv.set Ar34 qv34 S34 M34 H34 G34 rfl W34 1 rfl (Nat.le_of_ble_eq_true rfl)
    have N34 := Fr.snoc X34 N32 gt_b30
    have Z35 := Nat.le_trans Z33 (Nat.le_of_eq W34.size.symm)
    refine own_st (G' := T34.setTop (mkF m 75 #[.val (.int v0), .val (.long q1), .second, .val (.long q2), .second, .val (.long q3), .second, .val (.long q4), .second, .val (.int (2 : Int32)), .val (.long x0), .second, .val (.long x1), .second, .val (.long x2), .second, .val (.long x3), .second, .val (.ref b30), .unset, .unset, .unset, .unset, .unset, .unset, .unset, .unset, .unset] [])) st34 ?_
    refine own_iload X34 hx 77 (hb hby at_75) rfl ?_
    refine own_iconst X34 hx 78 (2 : Int32) (hb hby at_77) rfl ?_
    refine own_icmpYes X34 hx 87 (hb hby at_78) (flt (by decide : ¬ ((2 : Int32) < (2 : Int32)))).2.2.2 ?_
    refine own_iload X34 hx 89 (hb hby at_87) rfl ?_
    refine own_iconst X34 hx 90 (3 : Int32) (hb hby at_89) rfl ?_
    refine own_icmpYes X34 hx 99 (hb hby at_90) (flt (by decide : ¬ ((3 : Int32) < (2 : Int32)))).2.2.2 ?_
    refine own_aload X34 hx 101 (hb hby at_99) rfl rfl ?_
    obtain ⟨_, _, ⟨T36, Lx36, kc36, nc36⟩, -, X36, ⟨Lc36, hQ36, lq36, yq36, zq36⟩, st36⟩ := Jvm.LawKit.callS X34 hx (y := (⟨"com/example/loomsand/loomsand/Weights", "runningSums", "([J)[J"⟩ : MethodName)) hown (mvT hZ (hw _ (List.mem_of_getElem? (i := 3) rfl))) (mvT hZ (hw _ (List.mem_of_getElem? (i := 4) rfl))) (mvT hZ (hw _ (List.mem_of_getElem? (i := 5) rfl))) (mvT hZ (hw _ (List.mem_of_getElem? (i := 6) rfl))) (by decide) (backOf (W := 0) (own_rm1n2 l Z a0 hw [] b30 k30 x0 x1 h34 n0 Z35 V34) hZ (hw _ (List.mem_of_getElem? (i := 6) rfl)) (hw _ (List.mem_of_getElem? (i := 5) rfl)) (by decide) (by decide)) (g := (mkF m 101 #[.val (.int v0), .val (.long q1), .second, .val (.long q2), .second, .val (.long q3), .second, .val (.long q4), .second, .val (.int (2 : Int32)), .val (.long x0), .second, .val (.long x1), .second, .val (.long x2), .second, .val (.long x3), .second, .val (.ref b30), .unset, .unset, .unset, .unset, .unset, .unset, .unset, .unset, .unset] [(.ref b30)])) rfl (by rw [hml]; rfl) (argsL := [(.ref b30)]) (rest := []) (lenOf own_pd0 rfl) rfl (by show 2 * 0 + _ ≤ _; exact Nat.le_of_eq rfl) (hb hby at_101) (fun _ _ => ⟨rfl, e34, (by decide : 1 + 1 ≤ _), (by decide : 2 + 2 ≤ _)⟩)
    dsimp only [Pt.U, Pt.locs, Pt.cells, Pt.slots] at X36 lq36 yq36 zq36 st36 hQ36
    subst lq36 yq36 zq36
    obtain ⟨bb_36, kb_36, rfl, Nq36, Kp36, G36_0, G36_1⟩ := hQ36
    have N36 := Fr.app N34 Nq36
    have ne37 : b30 ≠ bb_36 := Nat.ne_of_lt (Nat.lt_of_lt_of_le V34.lt G36_0)
    have gt_bb_36 : n0 ≤ bb_36 := Nat.le_trans Z35 G36_0
    have Z38 := Nat.le_trans Z35 Kp36.1
    refine own_st (G' := T36.setTop (mkF m 104 #[.val (.int v0), .val (.long q1), .second, .val (.long q2), .second, .val (.long q3), .second, .val (.long q4), .second, .val (.int (2 : Int32)), .val (.long x0), .second, .val (.long x1), .second, .val (.long x2), .second, .val (.long x3), .second, .val (.ref b30), .unset, .unset, .unset, .unset, .unset, .unset, .unset, .unset, .unset] [(.ref bb_36)])) st36 ?_
    refine own_astore X36 hx 106 #[.val (.int v0), .val (.long q1), .second, .val (.long q2), .second, .val (.long q3), .second, .val (.long q4), .second, .val (.int (2 : Int32)), .val (.long x0), .second, .val (.long x1), .second, .val (.long x2), .second, .val (.long x3), .second, .val (.ref b30), .val (.ref bb_36), .unset, .unset, .unset, .unset, .unset, .unset, .unset, .unset] (hb hby at_104) rfl rfl ?_
    refine own_aload X36 hx 108 (hb hby at_106) rfl rfl ?_
    refine own_ifnullNo X36 hx 111 (hb hby at_108) ?_
    refine own_aload X36 hx 113 (hb hby at_111) rfl rfl ?_
    obtain ⟨cl39, Ar39, qv39, S39, M39, H39, G39⟩ := id G36_1
    have ln39 := len_of S39 M39
    refine own_st (G' := T36.setTop (mkF m 114 #[.val (.int v0), .val (.long q1), .second, .val (.long q2), .second, .val (.long q3), .second, .val (.long q4), .second, .val (.int (2 : Int32)), .val (.long x0), .second, .val (.long x1), .second, .val (.long x2), .second, .val (.long x3), .second, .val (.ref b30), .val (.ref bb_36), .unset, .unset, .unset, .unset, .unset, .unset, .unset, .unset] [(.int (2 : Int32))])) (fun t k => X36.arraylength hx Ar39.1 (State.isArrayOf_alike hZ.alike Ar39.2.1) (g := (mkF m 113 #[.val (.int v0), .val (.long q1), .second, .val (.long q2), .second, .val (.long q3), .second, .val (.long q4), .second, .val (.int (2 : Int32)), .val (.long x0), .second, .val (.long x1), .second, .val (.long x2), .second, .val (.long x3), .second, .val (.ref b30), .val (.ref bb_36), .unset, .unset, .unset, .unset, .unset, .unset, .unset, .unset] [(.ref bb_36)])) rfl rfl (hb hby at_113) _ (by rw [ln39]; exact k)) ?_
    refine own_iload X36 hx 116 (hb hby at_114) rfl ?_
    refine own_icmpYes X36 hx 121 (hb hby at_116) (teq (rfl : (2 : Int32) = (2 : Int32))).1 ?_
    refine own_iload X36 hx 123 (hb hby at_121) rfl ?_
    refine own_ifNo X36 hx 126 (hb hby at_123) (tlt (by decide : (0 : Int32) < (2 : Int32))).2.2.2 ?_
    refine own_aload X36 hx 128 (hb hby at_126) rfl rfl ?_
    refine own_iconst X36 hx 129 (0 : Int32) (hb hby at_128) rfl ?_
    have f40 := (V34.keep Kp36 nin0)
    obtain ⟨cl41, Ar41, qv41, S41, M41, H41, G41⟩ := id f40
    have hin41 : ¬ ((0 : Int32) < 0 ∨ cl41.slots.size ≤ ((0 : Int32)).toNatClampNeg) := inb_of S41 ⟨by decide, by decide⟩
    refine own_st (G' := T36.setTop (mkF m 130 #[.val (.int v0), .val (.long q1), .second, .val (.long q2), .second, .val (.long q3), .second, .val (.long q4), .second, .val (.int (2 : Int32)), .val (.long x0), .second, .val (.long x1), .second, .val (.long x2), .second, .val (.long x3), .second, .val (.ref b30), .val (.ref bb_36), .unset, .unset, .unset, .unset, .unset, .unset, .unset, .unset] [(.long x0)])) (fun t k => X36.laload hx (j := (0 : Int32)) (v := (.long x0)) Ar41.1 (State.isArrayOf_alike hZ.alike Ar41.2.1) Ar41.2.2 hin41 (H41.at hin41 rfl) (g := (mkF m 129 #[.val (.int v0), .val (.long q1), .second, .val (.long q2), .second, .val (.long q3), .second, .val (.long q4), .second, .val (.int (2 : Int32)), .val (.long x0), .second, .val (.long x1), .second, .val (.long x2), .second, .val (.long x3), .second, .val (.ref b30), .val (.ref bb_36), .unset, .unset, .unset, .unset, .unset, .unset, .unset, .unset] [(.int (0 : Int32)), (.ref b30)])) rfl rfl (hb hby at_129) _ k) ?_
    refine own_lload X36 hx 132 (hb hby at_130) rfl ?_
    refine own_lcmp X36 hx 133 (hb hby at_132) ?_
    refine own_ifYes X36 hx 138 (hb hby at_133) (teq ((lw_eq _ _).mpr (rfl : x0 = x0))).1 ?_
    refine own_iload X36 hx 140 (hb hby at_138) rfl ?_
    refine own_iconst X36 hx 141 (1 : Int32) (hb hby at_140) rfl ?_
    refine own_icmpNo X36 hx 144 (hb hby at_141) (tlt (by decide : (1 : Int32) < (2 : Int32))).2.2.2 ?_
    refine own_aload X36 hx 146 (hb hby at_144) rfl rfl ?_
    refine own_iconst X36 hx 147 (1 : Int32) (hb hby at_146) rfl ?_
    obtain ⟨cl42, Ar42, qv42, S42, M42, H42, G42⟩ := id f40
    have hin42 : ¬ ((1 : Int32) < 0 ∨ cl42.slots.size ≤ ((1 : Int32)).toNatClampNeg) := inb_of S42 ⟨by decide, by decide⟩
    refine own_st (G' := T36.setTop (mkF m 148 #[.val (.int v0), .val (.long q1), .second, .val (.long q2), .second, .val (.long q3), .second, .val (.long q4), .second, .val (.int (2 : Int32)), .val (.long x0), .second, .val (.long x1), .second, .val (.long x2), .second, .val (.long x3), .second, .val (.ref b30), .val (.ref bb_36), .unset, .unset, .unset, .unset, .unset, .unset, .unset, .unset] [(.long x1)])) (fun t k => X36.laload hx (j := (1 : Int32)) (v := (.long x1)) Ar42.1 (State.isArrayOf_alike hZ.alike Ar42.2.1) Ar42.2.2 hin42 (H42.at hin42 rfl) (g := (mkF m 147 #[.val (.int v0), .val (.long q1), .second, .val (.long q2), .second, .val (.long q3), .second, .val (.long q4), .second, .val (.int (2 : Int32)), .val (.long x0), .second, .val (.long x1), .second, .val (.long x2), .second, .val (.long x3), .second, .val (.ref b30), .val (.ref bb_36), .unset, .unset, .unset, .unset, .unset, .unset, .unset, .unset] [(.int (1 : Int32)), (.ref b30)])) rfl rfl (hb hby at_147) _ k) ?_
    refine own_lload X36 hx 150 (hb hby at_148) rfl ?_
    refine own_lcmp X36 hx 151 (hb hby at_150) ?_
    refine own_ifYes X36 hx 156 (hb hby at_151) (teq ((lw_eq _ _).mpr (rfl : x1 = x1))).1 ?_
    refine own_iload X36 hx 158 (hb hby at_156) rfl ?_
    refine own_iconst X36 hx 159 (2 : Int32) (hb hby at_158) rfl ?_
    refine own_icmpYes X36 hx 174 (hb hby at_159) (flt (by decide : ¬ ((2 : Int32) < (2 : Int32)))).2.2.2 ?_
    refine own_iload X36 hx 176 (hb hby at_174) rfl ?_
    refine own_iconst X36 hx 177 (3 : Int32) (hb hby at_176) rfl ?_
    refine own_icmpYes X36 hx 192 (hb hby at_177) (flt (by decide : ¬ ((3 : Int32) < (2 : Int32)))).2.2.2 ?_
    refine own_lload X36 hx 194 (hb hby at_192) rfl ?_
    refine own_lstore X36 hx 196 #[.val (.int v0), .val (.long q1), .second, .val (.long q2), .second, .val (.long q3), .second, .val (.long q4), .second, .val (.int (2 : Int32)), .val (.long x0), .second, .val (.long x1), .second, .val (.long x2), .second, .val (.long x3), .second, .val (.ref b30), .val (.ref bb_36), .val (.long x0), .second, .unset, .unset, .unset, .unset, .unset, .unset] (hb hby at_194) rfl ?_
    refine own_lload X36 hx 198 (hb hby at_196) rfl ?_
    refine own_lload X36 hx 200 (hb hby at_198) rfl ?_
    refine own_ladd X36 hx 201 (hb hby at_200) ?_
    refine own_lstore X36 hx 203 #[.val (.int v0), .val (.long q1), .second, .val (.long q2), .second, .val (.long q3), .second, .val (.long q4), .second, .val (.int (2 : Int32)), .val (.long x0), .second, .val (.long x1), .second, .val (.long x2), .second, .val (.long x3), .second, .val (.ref b30), .val (.ref bb_36), .val (.long x0), .second, .val (.long (x0 + x1)), .second, .unset, .unset, .unset, .unset] (hb hby at_201) rfl ?_
    refine own_lload X36 hx 205 (hb hby at_203) rfl ?_
    refine own_lload X36 hx 207 (hb hby at_205) rfl ?_
    refine own_ladd X36 hx 208 (hb hby at_207) ?_
    refine own_lstore X36 hx 210 #[.val (.int v0), .val (.long q1), .second, .val (.long q2), .second, .val (.long q3), .second, .val (.long q4), .second, .val (.int (2 : Int32)), .val (.long x0), .second, .val (.long x1), .second, .val (.long x2), .second, .val (.long x3), .second, .val (.ref b30), .val (.ref bb_36), .val (.long x0), .second, .val (.long (x0 + x1)), .second, .val (.long ((x0 + x1) + x2)), .second, .unset, .unset] (hb hby at_208) rfl ?_
    refine own_lload X36 hx 212 (hb hby at_210) rfl ?_
    refine own_lload X36 hx 214 (hb hby at_212) rfl ?_
    refine own_ladd X36 hx 215 (hb hby at_214) ?_
    refine own_lstore X36 hx 217 #[.val (.int v0), .val (.long q1), .second, .val (.long q2), .second, .val (.long q3), .second, .val (.long q4), .second, .val (.int (2 : Int32)), .val (.long x0), .second, .val (.long x1), .second, .val (.long x2), .second, .val (.long x3), .second, .val (.ref b30), .val (.ref bb_36), .val (.long x0), .second, .val (.long (x0 + x1)), .second, .val (.long ((x0 + x1) + x2)), .second, .val (.long (((x0 + x1) + x2) + x3)), .second] (hb hby at_215) rfl ?_
    refine own_aload X36 hx 219 (hb hby at_217) rfl rfl ?_
    refine own_iconst X36 hx 220 (0 : Int32) (hb hby at_219) rfl ?_
    refine own_iload X36 hx 222 (hb hby at_220) rfl ?_
    refine own_lload X36 hx 224 (hb hby at_222) rfl ?_
    obtain ⟨_, _, ⟨T43, Lx43, kc43, nc43⟩, -, X43, ⟨Lc43, hQ43, lq43, yq43, zq43⟩, st43⟩ := Jvm.LawKit.callS X36 hx (y := (⟨"com/example/loomsand/loomsand/WeightsRunningSumsPinLaw", "at", "([JIIJ)Z"⟩ : MethodName)) hown (mvT hZ (hw _ (List.mem_of_getElem? (i := 7) rfl))) (mvT hZ (hw _ (List.mem_of_getElem? (i := 8) rfl))) (mvT hZ (hw _ (List.mem_of_getElem? (i := 9) rfl))) (mvT hZ (hw _ (List.mem_of_getElem? (i := 10) rfl))) (by decide) (backOf (W := 0) (own_rm2n2i0 l Z a0 hw [] bb_36 x0 kb_36 ((0 : Int64) + x0) (((0 : Int64) + x0) + x1) T36.heap n0 Z38 G36_1 (by rw [Int64.zero_add] : ((0 : Int64) + x0) = x0)) hZ (hw _ (List.mem_of_getElem? (i := 10) rfl)) (hw _ (List.mem_of_getElem? (i := 9) rfl)) (by decide) (by decide)) (g := (mkF m 224 #[.val (.int v0), .val (.long q1), .second, .val (.long q2), .second, .val (.long q3), .second, .val (.long q4), .second, .val (.int (2 : Int32)), .val (.long x0), .second, .val (.long x1), .second, .val (.long x2), .second, .val (.long x3), .second, .val (.ref b30), .val (.ref bb_36), .val (.long x0), .second, .val (.long (x0 + x1)), .second, .val (.long ((x0 + x1) + x2)), .second, .val (.long (((x0 + x1) + x2) + x3)), .second] [(.long x0), (.int (2 : Int32)), (.int (0 : Int32)), (.ref bb_36)])) rfl (by rw [hml]; rfl) (argsL := [(.ref bb_36), (.int (0 : Int32)), (.int (2 : Int32)), (.long x0)]) (rest := []) (lenOf own_pd1 rfl) rfl (by show 2 * 0 + _ ≤ _; exact Nat.le_of_eq rfl) (hb hby at_224) (fun _ _ => ⟨rfl, rfl, (by decide : 2 + 0 ≤ _), (by decide : 4 + 0 ≤ _)⟩)
    dsimp only [Pt.U, Pt.locs, Pt.cells, Pt.slots] at X43 lq43 yq43 zq43 st43 hQ43
    subst lq43 yq43 zq43
    obtain ⟨rfl, Nq43, eh43⟩ := hQ43
    have N43 := Fr.app N36 Nq43
    refine own_st (G' := T43.setTop (mkF m 227 #[.val (.int v0), .val (.long q1), .second, .val (.long q2), .second, .val (.long q3), .second, .val (.long q4), .second, .val (.int (2 : Int32)), .val (.long x0), .second, .val (.long x1), .second, .val (.long x2), .second, .val (.long x3), .second, .val (.ref b30), .val (.ref bb_36), .val (.long x0), .second, .val (.long (x0 + x1)), .second, .val (.long ((x0 + x1) + x2)), .second, .val (.long (((x0 + x1) + x2) + x3)), .second] [(.int (1 : Int32))])) st43 ?_
    refine own_ifNo X43 hx 230 (hb hby at_227) (feq (by decide : ¬ ((1 : Int32) = (0 : Int32)))).1 ?_
    refine own_aload X43 hx 232 (hb hby at_230) rfl rfl ?_
    refine own_iconst X43 hx 233 (1 : Int32) (hb hby at_232) rfl ?_
    refine own_iload X43 hx 235 (hb hby at_233) rfl ?_
    refine own_lload X43 hx 237 (hb hby at_235) rfl ?_
    obtain ⟨_, _, ⟨T44, Lx44, kc44, nc44⟩, -, X44, ⟨Lc44, hQ44, lq44, yq44, zq44⟩, st44⟩ := Jvm.LawKit.callS X43 hx (y := (⟨"com/example/loomsand/loomsand/WeightsRunningSumsPinLaw", "at", "([JIIJ)Z"⟩ : MethodName)) hown (mvT hZ (hw _ (List.mem_of_getElem? (i := 7) rfl))) (mvT hZ (hw _ (List.mem_of_getElem? (i := 8) rfl))) (mvT hZ (hw _ (List.mem_of_getElem? (i := 9) rfl))) (mvT hZ (hw _ (List.mem_of_getElem? (i := 10) rfl))) (by decide) (backOf (W := 0) (own_rm2n2i1 l Z a0 hw [] bb_36 (x0 + x1) kb_36 ((0 : Int64) + x0) (((0 : Int64) + x0) + x1) T36.heap n0 Z38 G36_1 (by rw [Int64.zero_add] : (((0 : Int64) + x0) + x1) = (x0 + x1))) hZ (hw _ (List.mem_of_getElem? (i := 10) rfl)) (hw _ (List.mem_of_getElem? (i := 9) rfl)) (by decide) (by decide)) (g := (mkF m 237 #[.val (.int v0), .val (.long q1), .second, .val (.long q2), .second, .val (.long q3), .second, .val (.long q4), .second, .val (.int (2 : Int32)), .val (.long x0), .second, .val (.long x1), .second, .val (.long x2), .second, .val (.long x3), .second, .val (.ref b30), .val (.ref bb_36), .val (.long x0), .second, .val (.long (x0 + x1)), .second, .val (.long ((x0 + x1) + x2)), .second, .val (.long (((x0 + x1) + x2) + x3)), .second] [(.long (x0 + x1)), (.int (2 : Int32)), (.int (1 : Int32)), (.ref bb_36)])) rfl (by rw [hml]; rfl) (argsL := [(.ref bb_36), (.int (1 : Int32)), (.int (2 : Int32)), (.long (x0 + x1))]) (rest := []) (lenOf own_pd1 rfl) rfl (by show 2 * 0 + _ ≤ _; exact Nat.le_of_eq rfl) (hb hby at_237) (fun _ _ => ⟨rfl, eh43, (by decide : 2 + 0 ≤ _), (by decide : 4 + 0 ≤ _)⟩)
    dsimp only [Pt.U, Pt.locs, Pt.cells, Pt.slots] at X44 lq44 yq44 zq44 st44 hQ44
    subst lq44 yq44 zq44
    obtain ⟨rfl, Nq44, eh44⟩ := hQ44
    have N44 := Fr.app N43 Nq44
    refine own_st (G' := T44.setTop (mkF m 240 #[.val (.int v0), .val (.long q1), .second, .val (.long q2), .second, .val (.long q3), .second, .val (.long q4), .second, .val (.int (2 : Int32)), .val (.long x0), .second, .val (.long x1), .second, .val (.long x2), .second, .val (.long x3), .second, .val (.ref b30), .val (.ref bb_36), .val (.long x0), .second, .val (.long (x0 + x1)), .second, .val (.long ((x0 + x1) + x2)), .second, .val (.long (((x0 + x1) + x2) + x3)), .second] [(.int (1 : Int32))])) st44 ?_
    refine own_ifNo X44 hx 243 (hb hby at_240) (feq (by decide : ¬ ((1 : Int32) = (0 : Int32)))).1 ?_
    refine own_aload X44 hx 245 (hb hby at_243) rfl rfl ?_
    refine own_iconst X44 hx 246 (2 : Int32) (hb hby at_245) rfl ?_
    refine own_iload X44 hx 248 (hb hby at_246) rfl ?_
    refine own_lload X44 hx 250 (hb hby at_248) rfl ?_
    obtain ⟨_, _, ⟨T45, Lx45, kc45, nc45⟩, -, X45, ⟨Lc45, hQ45, lq45, yq45, zq45⟩, st45⟩ := Jvm.LawKit.callS X44 hx (y := (⟨"com/example/loomsand/loomsand/WeightsRunningSumsPinLaw", "at", "([JIIJ)Z"⟩ : MethodName)) hown (mvT hZ (hw _ (List.mem_of_getElem? (i := 7) rfl))) (mvT hZ (hw _ (List.mem_of_getElem? (i := 8) rfl))) (mvT hZ (hw _ (List.mem_of_getElem? (i := 9) rfl))) (mvT hZ (hw _ (List.mem_of_getElem? (i := 10) rfl))) (by decide) (backOf (W := 0) (own_rm2n2i2 l Z a0 hw [] bb_36 ((x0 + x1) + x2) T36.heap n0 Z38 ) hZ (hw _ (List.mem_of_getElem? (i := 10) rfl)) (hw _ (List.mem_of_getElem? (i := 9) rfl)) (by decide) (by decide)) (g := (mkF m 250 #[.val (.int v0), .val (.long q1), .second, .val (.long q2), .second, .val (.long q3), .second, .val (.long q4), .second, .val (.int (2 : Int32)), .val (.long x0), .second, .val (.long x1), .second, .val (.long x2), .second, .val (.long x3), .second, .val (.ref b30), .val (.ref bb_36), .val (.long x0), .second, .val (.long (x0 + x1)), .second, .val (.long ((x0 + x1) + x2)), .second, .val (.long (((x0 + x1) + x2) + x3)), .second] [(.long ((x0 + x1) + x2)), (.int (2 : Int32)), (.int (2 : Int32)), (.ref bb_36)])) rfl (by rw [hml]; rfl) (argsL := [(.ref bb_36), (.int (2 : Int32)), (.int (2 : Int32)), (.long ((x0 + x1) + x2))]) (rest := []) (lenOf own_pd1 rfl) rfl (by show 2 * 0 + _ ≤ _; exact Nat.le_of_eq rfl) (hb hby at_250) (fun _ _ => ⟨rfl, eh44, (by decide : 2 + 0 ≤ _), (by decide : 4 + 0 ≤ _)⟩)
    dsimp only [Pt.U, Pt.locs, Pt.cells, Pt.slots] at X45 lq45 yq45 zq45 st45 hQ45
    subst lq45 yq45 zq45
    obtain ⟨rfl, Nq45, eh45⟩ := hQ45
    have N45 := Fr.app N44 Nq45
    refine own_st (G' := T45.setTop (mkF m 253 #[.val (.int v0), .val (.long q1), .second, .val (.long q2), .second, .val (.long q3), .second, .val (.long q4), .second, .val (.int (2 : Int32)), .val (.long x0), .second, .val (.long x1), .second, .val (.long x2), .second, .val (.long x3), .second, .val (.ref b30), .val (.ref bb_36), .val (.long x0), .second, .val (.long (x0 + x1)), .second, .val (.long ((x0 + x1) + x2)), .second, .val (.long (((x0 + x1) + x2) + x3)), .second] [(.int (1 : Int32))])) st45 ?_
    refine own_ifNo X45 hx 256 (hb hby at_253) (feq (by decide : ¬ ((1 : Int32) = (0 : Int32)))).1 ?_
    refine own_aload X45 hx 258 (hb hby at_256) rfl rfl ?_
    refine own_iconst X45 hx 259 (3 : Int32) (hb hby at_258) rfl ?_
    refine own_iload X45 hx 261 (hb hby at_259) rfl ?_
    refine own_lload X45 hx 263 (hb hby at_261) rfl ?_
    obtain ⟨_, _, ⟨T46, Lx46, kc46, nc46⟩, -, X46, ⟨Lc46, hQ46, lq46, yq46, zq46⟩, st46⟩ := Jvm.LawKit.callS X45 hx (y := (⟨"com/example/loomsand/loomsand/WeightsRunningSumsPinLaw", "at", "([JIIJ)Z"⟩ : MethodName)) hown (mvT hZ (hw _ (List.mem_of_getElem? (i := 7) rfl))) (mvT hZ (hw _ (List.mem_of_getElem? (i := 8) rfl))) (mvT hZ (hw _ (List.mem_of_getElem? (i := 9) rfl))) (mvT hZ (hw _ (List.mem_of_getElem? (i := 10) rfl))) (by decide) (backOf (W := 0) (own_rm2n2i3 l Z a0 hw [] bb_36 (((x0 + x1) + x2) + x3) T36.heap n0 Z38 ) hZ (hw _ (List.mem_of_getElem? (i := 10) rfl)) (hw _ (List.mem_of_getElem? (i := 9) rfl)) (by decide) (by decide)) (g := (mkF m 263 #[.val (.int v0), .val (.long q1), .second, .val (.long q2), .second, .val (.long q3), .second, .val (.long q4), .second, .val (.int (2 : Int32)), .val (.long x0), .second, .val (.long x1), .second, .val (.long x2), .second, .val (.long x3), .second, .val (.ref b30), .val (.ref bb_36), .val (.long x0), .second, .val (.long (x0 + x1)), .second, .val (.long ((x0 + x1) + x2)), .second, .val (.long (((x0 + x1) + x2) + x3)), .second] [(.long (((x0 + x1) + x2) + x3)), (.int (2 : Int32)), (.int (3 : Int32)), (.ref bb_36)])) rfl (by rw [hml]; rfl) (argsL := [(.ref bb_36), (.int (3 : Int32)), (.int (2 : Int32)), (.long (((x0 + x1) + x2) + x3))]) (rest := []) (lenOf own_pd1 rfl) rfl (by show 2 * 0 + _ ≤ _; exact Nat.le_of_eq rfl) (hb hby at_263) (fun _ _ => ⟨rfl, eh45, (by decide : 2 + 0 ≤ _), (by decide : 4 + 0 ≤ _)⟩)
    dsimp only [Pt.U, Pt.locs, Pt.cells, Pt.slots] at X46 lq46 yq46 zq46 st46 hQ46
    subst lq46 yq46 zq46
    obtain ⟨rfl, Nq46, eh46⟩ := hQ46
    have N46 := Fr.app N45 Nq46
    refine own_st (G' := T46.setTop (mkF m 266 #[.val (.int v0), .val (.long q1), .second, .val (.long q2), .second, .val (.long q3), .second, .val (.long q4), .second, .val (.int (2 : Int32)), .val (.long x0), .second, .val (.long x1), .second, .val (.long x2), .second, .val (.long x3), .second, .val (.ref b30), .val (.ref bb_36), .val (.long x0), .second, .val (.long (x0 + x1)), .second, .val (.long ((x0 + x1) + x2)), .second, .val (.long (((x0 + x1) + x2) + x3)), .second] [(.int (1 : Int32))])) st46 ?_
    refine own_ifNo X46 hx 269 (hb hby at_266) (feq (by decide : ¬ ((1 : Int32) = (0 : Int32)))).1 ?_
    refine own_iconst X46 hx 270 (1 : Int32) (hb hby at_269) rfl ?_
    refine own_goto X46 hx 274 (hb hby at_270) ?_
    exact own_retN (t := .boolean) (z := (1 : Int32)) (Q := own_Q0 Z v0 q1 q2 q3 q4 h0 n0) X46 hx hrt (by simp) (hb hby at_274) hlk eh46 ⟨rfl, N46⟩ (by decide) (by decide)
  · rw [hk4]
    refine own_istore X0 hx 8 #[.val (.int v0), .val (.long q1), .second, .val (.long q2), .second, .val (.long q3), .second, .val (.long q4), .second, .val (.int (3 : Int32)), .unset, .unset, .unset, .unset, .unset, .unset, .unset, .unset, .unset, .unset, .unset, .unset, .unset, .unset, .unset, .unset, .unset, .unset] (hb hby at_6) rfl ?_
    refine own_lloadN X0 hx 9 (hb hby at_8) rfl ?_
    refine own_ldcL X0 hx 12 hown (mvT hZ (hw _ (List.mem_of_getElem? (i := 1) rfl))) (hb hby at_9) ?_
    refine own_land X0 hx 13 (hb hby at_12) ?_
    refine own_iconst X0 hx 14 (2 : Int32) (hb hby at_13) rfl ?_
    refine own_lushr X0 hx 15 (hb hby at_14) ?_
    generalize (((q1 &&& (9223372036854775807 : Int64)).toUInt64 >>> ((2 : Int32) &&& 0x3f).toInt64.toUInt64).toInt64) = x0
    refine own_lstore X0 hx 17 #[.val (.int v0), .val (.long q1), .second, .val (.long q2), .second, .val (.long q3), .second, .val (.long q4), .second, .val (.int (3 : Int32)), .val (.long x0), .second, .unset, .unset, .unset, .unset, .unset, .unset, .unset, .unset, .unset, .unset, .unset, .unset, .unset, .unset, .unset, .unset] (hb hby at_15) rfl ?_
    refine own_lloadN X0 hx 18 (hb hby at_17) rfl ?_
    refine own_ldcL X0 hx 21 hown (mvT hZ (hw _ (List.mem_of_getElem? (i := 1) rfl))) (hb hby at_18) ?_
    refine own_land X0 hx 22 (hb hby at_21) ?_
    refine own_iconst X0 hx 23 (2 : Int32) (hb hby at_22) rfl ?_
    refine own_lushr X0 hx 24 (hb hby at_23) ?_
    generalize (((q2 &&& (9223372036854775807 : Int64)).toUInt64 >>> ((2 : Int32) &&& 0x3f).toInt64.toUInt64).toInt64) = x1
    refine own_lstore X0 hx 26 #[.val (.int v0), .val (.long q1), .second, .val (.long q2), .second, .val (.long q3), .second, .val (.long q4), .second, .val (.int (3 : Int32)), .val (.long x0), .second, .val (.long x1), .second, .unset, .unset, .unset, .unset, .unset, .unset, .unset, .unset, .unset, .unset, .unset, .unset, .unset, .unset] (hb hby at_24) rfl ?_
    refine own_lload X0 hx 28 (hb hby at_26) rfl ?_
    refine own_ldcL X0 hx 31 hown (mvT hZ (hw _ (List.mem_of_getElem? (i := 1) rfl))) (hb hby at_28) ?_
    refine own_land X0 hx 32 (hb hby at_31) ?_
    refine own_iconst X0 hx 33 (2 : Int32) (hb hby at_32) rfl ?_
    refine own_lushr X0 hx 34 (hb hby at_33) ?_
    generalize (((q3 &&& (9223372036854775807 : Int64)).toUInt64 >>> ((2 : Int32) &&& 0x3f).toInt64.toUInt64).toInt64) = x2
    refine own_lstore X0 hx 36 #[.val (.int v0), .val (.long q1), .second, .val (.long q2), .second, .val (.long q3), .second, .val (.long q4), .second, .val (.int (3 : Int32)), .val (.long x0), .second, .val (.long x1), .second, .val (.long x2), .second, .unset, .unset, .unset, .unset, .unset, .unset, .unset, .unset, .unset, .unset, .unset, .unset] (hb hby at_34) rfl ?_
    refine own_lload X0 hx 38 (hb hby at_36) rfl ?_
    refine own_ldcL X0 hx 41 hown (mvT hZ (hw _ (List.mem_of_getElem? (i := 1) rfl))) (hb hby at_38) ?_
    refine own_land X0 hx 42 (hb hby at_41) ?_
    refine own_iconst X0 hx 43 (2 : Int32) (hb hby at_42) rfl ?_
    refine own_lushr X0 hx 44 (hb hby at_43) ?_
    generalize (((q4 &&& (9223372036854775807 : Int64)).toUInt64 >>> ((2 : Int32) &&& 0x3f).toInt64.toUInt64).toInt64) = x3
    refine own_lstore X0 hx 46 #[.val (.int v0), .val (.long q1), .second, .val (.long q2), .second, .val (.long q3), .second, .val (.long q4), .second, .val (.int (3 : Int32)), .val (.long x0), .second, .val (.long x1), .second, .val (.long x2), .second, .val (.long x3), .second, .unset, .unset, .unset, .unset, .unset, .unset, .unset, .unset, .unset, .unset] (hb hby at_44) rfl ?_
    refine own_iload X0 hx 48 (hb hby at_46) rfl ?_
    obtain ⟨T47, h47, k47, X47, e47, E47, A47, st47⟩ := newP X0 hx hZ (hw _ (List.mem_of_getElem? (i := 2) rfl)) e0 (g := (mkF m 48 #[.val (.int v0), .val (.long q1), .second, .val (.long q2), .second, .val (.long q3), .second, .val (.long q4), .second, .val (.int (3 : Int32)), .val (.long x0), .second, .val (.long x1), .second, .val (.long x2), .second, .val (.long x3), .second, .unset, .unset, .unset, .unset, .unset, .unset, .unset, .unset, .unset, .unset] [(.int (3 : Int32))])) rfl (hb hby at_48) rfl (by decide) (cap := 3) (by decide) (by decide) (by decide) (by decide)
    obtain ⟨b47, g47⟩ : ∃ z, z = h0.size := ⟨_, rfl⟩
    rw [← g47] at A47 st47
    have gt_b47 : n0 ≤ b47 := Nat.le_trans Z0 (Nat.le_of_eq g47.symm)
    have V47 : Arv Z h47 b47 k47 .long (3 : Int32) [(.long (0 : Int64)), (.long (0 : Int64)), (.long (0 : Int64))] (.long (0 : Int64)) := (Arv.new A47 (by decide)).pad (pad_rep [] (.long (0 : Int64)) 3)
    have Z48 := Nat.le_trans Z0 E47.1
    refine own_st (G' := T47.setTop (mkF m 50 #[.val (.int v0), .val (.long q1), .second, .val (.long q2), .second, .val (.long q3), .second, .val (.long q4), .second, .val (.int (3 : Int32)), .val (.long x0), .second, .val (.long x1), .second, .val (.long x2), .second, .val (.long x3), .second, .unset, .unset, .unset, .unset, .unset, .unset, .unset, .unset, .unset, .unset] [(.ref b47)])) st47 ?_
    refine own_astore X47 hx 52 #[.val (.int v0), .val (.long q1), .second, .val (.long q2), .second, .val (.long q3), .second, .val (.long q4), .second, .val (.int (3 : Int32)), .val (.long x0), .second, .val (.long x1), .second, .val (.long x2), .second, .val (.long x3), .second, .val (.ref b47), .unset, .unset, .unset, .unset, .unset, .unset, .unset, .unset, .unset] (hb hby at_50) rfl rfl ?_
    refine own_iload X47 hx 54 (hb hby at_52) rfl ?_
    refine own_ifNo X47 hx 57 (hb hby at_54) (tlt (by decide : (0 : Int32) < (3 : Int32))).2.2.2 ?_
    refine own_aload X47 hx 59 (hb hby at_57) rfl rfl ?_
    refine own_iconst X47 hx 60 (0 : Int32) (hb hby at_59) rfl ?_
    refine own_lload X47 hx 62 (hb hby at_60) rfl ?_
    obtain ⟨cl49, Ar49, qv49, S49, M49, H49, G49⟩ := id V47
    have hin49 : ¬ ((0 : Int32) < 0 ∨ cl49.slots.size ≤ ((0 : Int32)).toNatClampNeg) := inb_of S49 ⟨by decide, by decide⟩
    obtain ⟨T49, h49, X49, e49, W49, st49⟩ := stJ X47 hx hZ e47 Ar49 (j := (0 : Int32)) hin49 (g := (mkF m 62 #[.val (.int v0), .val (.long q1), .second, .val (.long q2), .second, .val (.long q3), .second, .val (.long q4), .second, .val (.int (3 : Int32)), .val (.long x0), .second, .val (.long x1), .second, .val (.long x2), .second, .val (.long x3), .second, .val (.ref b47), .unset, .unset, .unset, .unset, .unset, .unset, .unset, .unset, .unset] [(.long x0), (.int (0 : Int32)), (.ref b47)])) rfl rfl (hb hby at_62)
    have V49 : Arv Z h49 b47 k47 .long (3 : Int32) [(.long x0), (.long (0 : Int64)), (.long (0 : Int64))] (.long (0 : Int64)) := Arv.set Ar49 qv49 S49 M49 H49 G49 rfl W49 0 rfl (Nat.le_of_ble_eq_true rfl)
    have N49 := Fr.snoc X49 N0 gt_b47
    have Z50 := Nat.le_trans Z48 (Nat.le_of_eq W49.size.symm)
    refine own_st (G' := T49.setTop (mkF m 63 #[.val (.int v0), .val (.long q1), .second, .val (.long q2), .second, .val (.long q3), .second, .val (.long q4), .second, .val (.int (3 : Int32)), .val (.long x0), .second, .val (.long x1), .second, .val (.long x2), .second, .val (.long x3), .second, .val (.ref b47), .unset, .unset, .unset, .unset, .unset, .unset, .unset, .unset, .unset] [])) st49 ?_
    refine own_iload X49 hx 65 (hb hby at_63) rfl ?_
    refine own_iconst X49 hx 66 (1 : Int32) (hb hby at_65) rfl ?_
    refine own_icmpNo X49 hx 69 (hb hby at_66) (tlt (by decide : (1 : Int32) < (3 : Int32))).2.2.2 ?_
    refine own_aload X49 hx 71 (hb hby at_69) rfl rfl ?_
    refine own_iconst X49 hx 72 (1 : Int32) (hb hby at_71) rfl ?_
    refine own_lload X49 hx 74 (hb hby at_72) rfl ?_
    obtain ⟨cl51, Ar51, qv51, S51, M51, H51, G51⟩ := id V49
    have hin51 : ¬ ((1 : Int32) < 0 ∨ cl51.slots.size ≤ ((1 : Int32)).toNatClampNeg) := inb_of S51 ⟨by decide, by decide⟩
    obtain ⟨T51, h51, X51, e51, W51, st51⟩ := stJ X49 hx hZ e49 Ar51 (j := (1 : Int32)) hin51 (g := (mkF m 74 #[.val (.int v0), .val (.long q1), .second, .val (.long q2), .second, .val (.long q3), .second, .val (.long q4), .second, .val (.int (3 : Int32)), .val (.long x0), .second, .val (.long x1), .second, .val (.long x2), .second, .val (.long x3), .second, .val (.ref b47), .unset, .unset, .unset, .unset, .unset, .unset, .unset, .unset, .unset] [(.long x1), (.int (1 : Int32)), (.ref b47)])) rfl rfl (hb hby at_74)
    have V51 : Arv Z h51 b47 k47 .long (3 : Int32) [(.long x0), (.long x1), (.long (0 : Int64))] (.long (0 : Int64)) := Arv.set Ar51 qv51 S51 M51 H51 G51 rfl W51 1 rfl (Nat.le_of_ble_eq_true rfl)
    have N51 := Fr.snoc X51 N49 gt_b47
    have Z52 := Nat.le_trans Z50 (Nat.le_of_eq W51.size.symm)
    refine own_st (G' := T51.setTop (mkF m 75 #[.val (.int v0), .val (.long q1), .second, .val (.long q2), .second, .val (.long q3), .second, .val (.long q4), .second, .val (.int (3 : Int32)), .val (.long x0), .second, .val (.long x1), .second, .val (.long x2), .second, .val (.long x3), .second, .val (.ref b47), .unset, .unset, .unset, .unset, .unset, .unset, .unset, .unset, .unset] [])) st51 ?_
    refine own_iload X51 hx 77 (hb hby at_75) rfl ?_
    refine own_iconst X51 hx 78 (2 : Int32) (hb hby at_77) rfl ?_
    refine own_icmpNo X51 hx 81 (hb hby at_78) (tlt (by decide : (2 : Int32) < (3 : Int32))).2.2.2 ?_
    refine own_aload X51 hx 83 (hb hby at_81) rfl rfl ?_
    refine own_iconst X51 hx 84 (2 : Int32) (hb hby at_83) rfl ?_
    refine own_lload X51 hx 86 (hb hby at_84) rfl ?_
    obtain ⟨cl53, Ar53, qv53, S53, M53, H53, G53⟩ := id V51
    have hin53 : ¬ ((2 : Int32) < 0 ∨ cl53.slots.size ≤ ((2 : Int32)).toNatClampNeg) := inb_of S53 ⟨by decide, by decide⟩
    obtain ⟨T53, h53, X53, e53, W53, st53⟩ := stJ X51 hx hZ e51 Ar53 (j := (2 : Int32)) hin53 (g := (mkF m 86 #[.val (.int v0), .val (.long q1), .second, .val (.long q2), .second, .val (.long q3), .second, .val (.long q4), .second, .val (.int (3 : Int32)), .val (.long x0), .second, .val (.long x1), .second, .val (.long x2), .second, .val (.long x3), .second, .val (.ref b47), .unset, .unset, .unset, .unset, .unset, .unset, .unset, .unset, .unset] [(.long x2), (.int (2 : Int32)), (.ref b47)])) rfl rfl (hb hby at_86)
    have V53 : Arv Z h53 b47 k47 .long (3 : Int32) [(.long x0), (.long x1), (.long x2)] (.long (0 : Int64)) := Arv.set Ar53 qv53 S53 M53 H53 G53 rfl W53 2 rfl (Nat.le_of_ble_eq_true rfl)
    have N53 := Fr.snoc X53 N51 gt_b47
    have Z54 := Nat.le_trans Z52 (Nat.le_of_eq W53.size.symm)
    refine own_st (G' := T53.setTop (mkF m 87 #[.val (.int v0), .val (.long q1), .second, .val (.long q2), .second, .val (.long q3), .second, .val (.long q4), .second, .val (.int (3 : Int32)), .val (.long x0), .second, .val (.long x1), .second, .val (.long x2), .second, .val (.long x3), .second, .val (.ref b47), .unset, .unset, .unset, .unset, .unset, .unset, .unset, .unset, .unset] [])) st53 ?_
    refine own_iload X53 hx 89 (hb hby at_87) rfl ?_
    refine own_iconst X53 hx 90 (3 : Int32) (hb hby at_89) rfl ?_
    refine own_icmpYes X53 hx 99 (hb hby at_90) (flt (by decide : ¬ ((3 : Int32) < (3 : Int32)))).2.2.2 ?_
    refine own_aload X53 hx 101 (hb hby at_99) rfl rfl ?_
    obtain ⟨_, _, ⟨T55, Lx55, kc55, nc55⟩, -, X55, ⟨Lc55, hQ55, lq55, yq55, zq55⟩, st55⟩ := Jvm.LawKit.callS X53 hx (y := (⟨"com/example/loomsand/loomsand/Weights", "runningSums", "([J)[J"⟩ : MethodName)) hown (mvT hZ (hw _ (List.mem_of_getElem? (i := 3) rfl))) (mvT hZ (hw _ (List.mem_of_getElem? (i := 4) rfl))) (mvT hZ (hw _ (List.mem_of_getElem? (i := 5) rfl))) (mvT hZ (hw _ (List.mem_of_getElem? (i := 6) rfl))) (by decide) (backOf (W := 0) (own_rm1n3 l Z a0 hw [] b47 k47 x0 x1 x2 h53 n0 Z54 V53) hZ (hw _ (List.mem_of_getElem? (i := 6) rfl)) (hw _ (List.mem_of_getElem? (i := 5) rfl)) (by decide) (by decide)) (g := (mkF m 101 #[.val (.int v0), .val (.long q1), .second, .val (.long q2), .second, .val (.long q3), .second, .val (.long q4), .second, .val (.int (3 : Int32)), .val (.long x0), .second, .val (.long x1), .second, .val (.long x2), .second, .val (.long x3), .second, .val (.ref b47), .unset, .unset, .unset, .unset, .unset, .unset, .unset, .unset, .unset] [(.ref b47)])) rfl (by rw [hml]; rfl) (argsL := [(.ref b47)]) (rest := []) (lenOf own_pd0 rfl) rfl (by show 2 * 0 + _ ≤ _; exact Nat.le_of_eq rfl) (hb hby at_101) (fun _ _ => ⟨rfl, e53, (by decide : 1 + 1 ≤ _), (by decide : 3 + 3 ≤ _)⟩)
    dsimp only [Pt.U, Pt.locs, Pt.cells, Pt.slots] at X55 lq55 yq55 zq55 st55 hQ55
    subst lq55 yq55 zq55
    obtain ⟨bb_55, kb_55, rfl, Nq55, Kp55, G55_0, G55_1⟩ := hQ55
    have N55 := Fr.app N53 Nq55
    have ne56 : b47 ≠ bb_55 := Nat.ne_of_lt (Nat.lt_of_lt_of_le V53.lt G55_0)
    have gt_bb_55 : n0 ≤ bb_55 := Nat.le_trans Z54 G55_0
    have Z57 := Nat.le_trans Z54 Kp55.1
    refine own_st (G' := T55.setTop (mkF m 104 #[.val (.int v0), .val (.long q1), .second, .val (.long q2), .second, .val (.long q3), .second, .val (.long q4), .second, .val (.int (3 : Int32)), .val (.long x0), .second, .val (.long x1), .second, .val (.long x2), .second, .val (.long x3), .second, .val (.ref b47), .unset, .unset, .unset, .unset, .unset, .unset, .unset, .unset, .unset] [(.ref bb_55)])) st55 ?_
    refine own_astore X55 hx 106 #[.val (.int v0), .val (.long q1), .second, .val (.long q2), .second, .val (.long q3), .second, .val (.long q4), .second, .val (.int (3 : Int32)), .val (.long x0), .second, .val (.long x1), .second, .val (.long x2), .second, .val (.long x3), .second, .val (.ref b47), .val (.ref bb_55), .unset, .unset, .unset, .unset, .unset, .unset, .unset, .unset] (hb hby at_104) rfl rfl ?_
    refine own_aload X55 hx 108 (hb hby at_106) rfl rfl ?_
    refine own_ifnullNo X55 hx 111 (hb hby at_108) ?_
    refine own_aload X55 hx 113 (hb hby at_111) rfl rfl ?_
    obtain ⟨cl58, Ar58, qv58, S58, M58, H58, G58⟩ := id G55_1
    have ln58 := len_of S58 M58
    refine own_st (G' := T55.setTop (mkF m 114 #[.val (.int v0), .val (.long q1), .second, .val (.long q2), .second, .val (.long q3), .second, .val (.long q4), .second, .val (.int (3 : Int32)), .val (.long x0), .second, .val (.long x1), .second, .val (.long x2), .second, .val (.long x3), .second, .val (.ref b47), .val (.ref bb_55), .unset, .unset, .unset, .unset, .unset, .unset, .unset, .unset] [(.int (3 : Int32))])) (fun t k => X55.arraylength hx Ar58.1 (State.isArrayOf_alike hZ.alike Ar58.2.1) (g := (mkF m 113 #[.val (.int v0), .val (.long q1), .second, .val (.long q2), .second, .val (.long q3), .second, .val (.long q4), .second, .val (.int (3 : Int32)), .val (.long x0), .second, .val (.long x1), .second, .val (.long x2), .second, .val (.long x3), .second, .val (.ref b47), .val (.ref bb_55), .unset, .unset, .unset, .unset, .unset, .unset, .unset, .unset] [(.ref bb_55)])) rfl rfl (hb hby at_113) _ (by rw [ln58]; exact k)) ?_
    refine own_iload X55 hx 116 (hb hby at_114) rfl ?_
    refine own_icmpYes X55 hx 121 (hb hby at_116) (teq (rfl : (3 : Int32) = (3 : Int32))).1 ?_
    refine own_iload X55 hx 123 (hb hby at_121) rfl ?_
    refine own_ifNo X55 hx 126 (hb hby at_123) (tlt (by decide : (0 : Int32) < (3 : Int32))).2.2.2 ?_
    refine own_aload X55 hx 128 (hb hby at_126) rfl rfl ?_
    refine own_iconst X55 hx 129 (0 : Int32) (hb hby at_128) rfl ?_
    have f59 := (V53.keep Kp55 nin0)
    obtain ⟨cl60, Ar60, qv60, S60, M60, H60, G60⟩ := id f59
    have hin60 : ¬ ((0 : Int32) < 0 ∨ cl60.slots.size ≤ ((0 : Int32)).toNatClampNeg) := inb_of S60 ⟨by decide, by decide⟩
    refine own_st (G' := T55.setTop (mkF m 130 #[.val (.int v0), .val (.long q1), .second, .val (.long q2), .second, .val (.long q3), .second, .val (.long q4), .second, .val (.int (3 : Int32)), .val (.long x0), .second, .val (.long x1), .second, .val (.long x2), .second, .val (.long x3), .second, .val (.ref b47), .val (.ref bb_55), .unset, .unset, .unset, .unset, .unset, .unset, .unset, .unset] [(.long x0)])) (fun t k => X55.laload hx (j := (0 : Int32)) (v := (.long x0)) Ar60.1 (State.isArrayOf_alike hZ.alike Ar60.2.1) Ar60.2.2 hin60 (H60.at hin60 rfl) (g := (mkF m 129 #[.val (.int v0), .val (.long q1), .second, .val (.long q2), .second, .val (.long q3), .second, .val (.long q4), .second, .val (.int (3 : Int32)), .val (.long x0), .second, .val (.long x1), .second, .val (.long x2), .second, .val (.long x3), .second, .val (.ref b47), .val (.ref bb_55), .unset, .unset, .unset, .unset, .unset, .unset, .unset, .unset] [(.int (0 : Int32)), (.ref b47)])) rfl rfl (hb hby at_129) _ k) ?_
    refine own_lload X55 hx 132 (hb hby at_130) rfl ?_
    refine own_lcmp X55 hx 133 (hb hby at_132) ?_
    refine own_ifYes X55 hx 138 (hb hby at_133) (teq ((lw_eq _ _).mpr (rfl : x0 = x0))).1 ?_
    refine own_iload X55 hx 140 (hb hby at_138) rfl ?_
    refine own_iconst X55 hx 141 (1 : Int32) (hb hby at_140) rfl ?_
    refine own_icmpNo X55 hx 144 (hb hby at_141) (tlt (by decide : (1 : Int32) < (3 : Int32))).2.2.2 ?_
    refine own_aload X55 hx 146 (hb hby at_144) rfl rfl ?_
    refine own_iconst X55 hx 147 (1 : Int32) (hb hby at_146) rfl ?_
    obtain ⟨cl61, Ar61, qv61, S61, M61, H61, G61⟩ := id f59
    have hin61 : ¬ ((1 : Int32) < 0 ∨ cl61.slots.size ≤ ((1 : Int32)).toNatClampNeg) := inb_of S61 ⟨by decide, by decide⟩
    refine own_st (G' := T55.setTop (mkF m 148 #[.val (.int v0), .val (.long q1), .second, .val (.long q2), .second, .val (.long q3), .second, .val (.long q4), .second, .val (.int (3 : Int32)), .val (.long x0), .second, .val (.long x1), .second, .val (.long x2), .second, .val (.long x3), .second, .val (.ref b47), .val (.ref bb_55), .unset, .unset, .unset, .unset, .unset, .unset, .unset, .unset] [(.long x1)])) (fun t k => X55.laload hx (j := (1 : Int32)) (v := (.long x1)) Ar61.1 (State.isArrayOf_alike hZ.alike Ar61.2.1) Ar61.2.2 hin61 (H61.at hin61 rfl) (g := (mkF m 147 #[.val (.int v0), .val (.long q1), .second, .val (.long q2), .second, .val (.long q3), .second, .val (.long q4), .second, .val (.int (3 : Int32)), .val (.long x0), .second, .val (.long x1), .second, .val (.long x2), .second, .val (.long x3), .second, .val (.ref b47), .val (.ref bb_55), .unset, .unset, .unset, .unset, .unset, .unset, .unset, .unset] [(.int (1 : Int32)), (.ref b47)])) rfl rfl (hb hby at_147) _ k) ?_
    refine own_lload X55 hx 150 (hb hby at_148) rfl ?_
    refine own_lcmp X55 hx 151 (hb hby at_150) ?_
    refine own_ifYes X55 hx 156 (hb hby at_151) (teq ((lw_eq _ _).mpr (rfl : x1 = x1))).1 ?_
    refine own_iload X55 hx 158 (hb hby at_156) rfl ?_
    refine own_iconst X55 hx 159 (2 : Int32) (hb hby at_158) rfl ?_
    refine own_icmpNo X55 hx 162 (hb hby at_159) (tlt (by decide : (2 : Int32) < (3 : Int32))).2.2.2 ?_
    refine own_aload X55 hx 164 (hb hby at_162) rfl rfl ?_
    refine own_iconst X55 hx 165 (2 : Int32) (hb hby at_164) rfl ?_
    obtain ⟨cl62, Ar62, qv62, S62, M62, H62, G62⟩ := id f59
    have hin62 : ¬ ((2 : Int32) < 0 ∨ cl62.slots.size ≤ ((2 : Int32)).toNatClampNeg) := inb_of S62 ⟨by decide, by decide⟩
    refine own_st (G' := T55.setTop (mkF m 166 #[.val (.int v0), .val (.long q1), .second, .val (.long q2), .second, .val (.long q3), .second, .val (.long q4), .second, .val (.int (3 : Int32)), .val (.long x0), .second, .val (.long x1), .second, .val (.long x2), .second, .val (.long x3), .second, .val (.ref b47), .val (.ref bb_55), .unset, .unset, .unset, .unset, .unset, .unset, .unset, .unset] [(.long x2)])) (fun t k => X55.laload hx (j := (2 : Int32)) (v := (.long x2)) Ar62.1 (State.isArrayOf_alike hZ.alike Ar62.2.1) Ar62.2.2 hin62 (H62.at hin62 rfl) (g := (mkF m 165 #[.val (.int v0), .val (.long q1), .second, .val (.long q2), .second, .val (.long q3), .second, .val (.long q4), .second, .val (.int (3 : Int32)), .val (.long x0), .second, .val (.long x1), .second, .val (.long x2), .second, .val (.long x3), .second, .val (.ref b47), .val (.ref bb_55), .unset, .unset, .unset, .unset, .unset, .unset, .unset, .unset] [(.int (2 : Int32)), (.ref b47)])) rfl rfl (hb hby at_165) _ k) ?_
    refine own_lload X55 hx 168 (hb hby at_166) rfl ?_
    refine own_lcmp X55 hx 169 (hb hby at_168) ?_
    refine own_ifYes X55 hx 174 (hb hby at_169) (teq ((lw_eq _ _).mpr (rfl : x2 = x2))).1 ?_
    refine own_iload X55 hx 176 (hb hby at_174) rfl ?_
    refine own_iconst X55 hx 177 (3 : Int32) (hb hby at_176) rfl ?_
    refine own_icmpYes X55 hx 192 (hb hby at_177) (flt (by decide : ¬ ((3 : Int32) < (3 : Int32)))).2.2.2 ?_
    refine own_lload X55 hx 194 (hb hby at_192) rfl ?_
    refine own_lstore X55 hx 196 #[.val (.int v0), .val (.long q1), .second, .val (.long q2), .second, .val (.long q3), .second, .val (.long q4), .second, .val (.int (3 : Int32)), .val (.long x0), .second, .val (.long x1), .second, .val (.long x2), .second, .val (.long x3), .second, .val (.ref b47), .val (.ref bb_55), .val (.long x0), .second, .unset, .unset, .unset, .unset, .unset, .unset] (hb hby at_194) rfl ?_
    refine own_lload X55 hx 198 (hb hby at_196) rfl ?_
    refine own_lload X55 hx 200 (hb hby at_198) rfl ?_
    refine own_ladd X55 hx 201 (hb hby at_200) ?_
    refine own_lstore X55 hx 203 #[.val (.int v0), .val (.long q1), .second, .val (.long q2), .second, .val (.long q3), .second, .val (.long q4), .second, .val (.int (3 : Int32)), .val (.long x0), .second, .val (.long x1), .second, .val (.long x2), .second, .val (.long x3), .second, .val (.ref b47), .val (.ref bb_55), .val (.long x0), .second, .val (.long (x0 + x1)), .second, .unset, .unset, .unset, .unset] (hb hby at_201) rfl ?_
    refine own_lload X55 hx 205 (hb hby at_203) rfl ?_
    refine own_lload X55 hx 207 (hb hby at_205) rfl ?_
    refine own_ladd X55 hx 208 (hb hby at_207) ?_
    refine own_lstore X55 hx 210 #[.val (.int v0), .val (.long q1), .second, .val (.long q2), .second, .val (.long q3), .second, .val (.long q4), .second, .val (.int (3 : Int32)), .val (.long x0), .second, .val (.long x1), .second, .val (.long x2), .second, .val (.long x3), .second, .val (.ref b47), .val (.ref bb_55), .val (.long x0), .second, .val (.long (x0 + x1)), .second, .val (.long ((x0 + x1) + x2)), .second, .unset, .unset] (hb hby at_208) rfl ?_
    refine own_lload X55 hx 212 (hb hby at_210) rfl ?_
    refine own_lload X55 hx 214 (hb hby at_212) rfl ?_
    refine own_ladd X55 hx 215 (hb hby at_214) ?_
    refine own_lstore X55 hx 217 #[.val (.int v0), .val (.long q1), .second, .val (.long q2), .second, .val (.long q3), .second, .val (.long q4), .second, .val (.int (3 : Int32)), .val (.long x0), .second, .val (.long x1), .second, .val (.long x2), .second, .val (.long x3), .second, .val (.ref b47), .val (.ref bb_55), .val (.long x0), .second, .val (.long (x0 + x1)), .second, .val (.long ((x0 + x1) + x2)), .second, .val (.long (((x0 + x1) + x2) + x3)), .second] (hb hby at_215) rfl ?_
    refine own_aload X55 hx 219 (hb hby at_217) rfl rfl ?_
    refine own_iconst X55 hx 220 (0 : Int32) (hb hby at_219) rfl ?_
    refine own_iload X55 hx 222 (hb hby at_220) rfl ?_
    refine own_lload X55 hx 224 (hb hby at_222) rfl ?_
    obtain ⟨_, _, ⟨T63, Lx63, kc63, nc63⟩, -, X63, ⟨Lc63, hQ63, lq63, yq63, zq63⟩, st63⟩ := Jvm.LawKit.callS X55 hx (y := (⟨"com/example/loomsand/loomsand/WeightsRunningSumsPinLaw", "at", "([JIIJ)Z"⟩ : MethodName)) hown (mvT hZ (hw _ (List.mem_of_getElem? (i := 7) rfl))) (mvT hZ (hw _ (List.mem_of_getElem? (i := 8) rfl))) (mvT hZ (hw _ (List.mem_of_getElem? (i := 9) rfl))) (mvT hZ (hw _ (List.mem_of_getElem? (i := 10) rfl))) (by decide) (backOf (W := 0) (own_rm2n3i0 l Z a0 hw [] bb_55 x0 kb_55 ((0 : Int64) + x0) (((0 : Int64) + x0) + x1) ((((0 : Int64) + x0) + x1) + x2) T55.heap n0 Z57 G55_1 (by rw [Int64.zero_add] : ((0 : Int64) + x0) = x0)) hZ (hw _ (List.mem_of_getElem? (i := 10) rfl)) (hw _ (List.mem_of_getElem? (i := 9) rfl)) (by decide) (by decide)) (g := (mkF m 224 #[.val (.int v0), .val (.long q1), .second, .val (.long q2), .second, .val (.long q3), .second, .val (.long q4), .second, .val (.int (3 : Int32)), .val (.long x0), .second, .val (.long x1), .second, .val (.long x2), .second, .val (.long x3), .second, .val (.ref b47), .val (.ref bb_55), .val (.long x0), .second, .val (.long (x0 + x1)), .second, .val (.long ((x0 + x1) + x2)), .second, .val (.long (((x0 + x1) + x2) + x3)), .second] [(.long x0), (.int (3 : Int32)), (.int (0 : Int32)), (.ref bb_55)])) rfl (by rw [hml]; rfl) (argsL := [(.ref bb_55), (.int (0 : Int32)), (.int (3 : Int32)), (.long x0)]) (rest := []) (lenOf own_pd1 rfl) rfl (by show 2 * 0 + _ ≤ _; exact Nat.le_of_eq rfl) (hb hby at_224) (fun _ _ => ⟨rfl, rfl, (by decide : 2 + 0 ≤ _), (by decide : 6 + 0 ≤ _)⟩)
    dsimp only [Pt.U, Pt.locs, Pt.cells, Pt.slots] at X63 lq63 yq63 zq63 st63 hQ63
    subst lq63 yq63 zq63
    obtain ⟨rfl, Nq63, eh63⟩ := hQ63
    have N63 := Fr.app N55 Nq63
    refine own_st (G' := T63.setTop (mkF m 227 #[.val (.int v0), .val (.long q1), .second, .val (.long q2), .second, .val (.long q3), .second, .val (.long q4), .second, .val (.int (3 : Int32)), .val (.long x0), .second, .val (.long x1), .second, .val (.long x2), .second, .val (.long x3), .second, .val (.ref b47), .val (.ref bb_55), .val (.long x0), .second, .val (.long (x0 + x1)), .second, .val (.long ((x0 + x1) + x2)), .second, .val (.long (((x0 + x1) + x2) + x3)), .second] [(.int (1 : Int32))])) st63 ?_
    refine own_ifNo X63 hx 230 (hb hby at_227) (feq (by decide : ¬ ((1 : Int32) = (0 : Int32)))).1 ?_
    refine own_aload X63 hx 232 (hb hby at_230) rfl rfl ?_
    refine own_iconst X63 hx 233 (1 : Int32) (hb hby at_232) rfl ?_
    refine own_iload X63 hx 235 (hb hby at_233) rfl ?_
    refine own_lload X63 hx 237 (hb hby at_235) rfl ?_
    obtain ⟨_, _, ⟨T64, Lx64, kc64, nc64⟩, -, X64, ⟨Lc64, hQ64, lq64, yq64, zq64⟩, st64⟩ := Jvm.LawKit.callS X63 hx (y := (⟨"com/example/loomsand/loomsand/WeightsRunningSumsPinLaw", "at", "([JIIJ)Z"⟩ : MethodName)) hown (mvT hZ (hw _ (List.mem_of_getElem? (i := 7) rfl))) (mvT hZ (hw _ (List.mem_of_getElem? (i := 8) rfl))) (mvT hZ (hw _ (List.mem_of_getElem? (i := 9) rfl))) (mvT hZ (hw _ (List.mem_of_getElem? (i := 10) rfl))) (by decide) (backOf (W := 0) (own_rm2n3i1 l Z a0 hw [] bb_55 (x0 + x1) kb_55 ((0 : Int64) + x0) (((0 : Int64) + x0) + x1) ((((0 : Int64) + x0) + x1) + x2) T55.heap n0 Z57 G55_1 (by rw [Int64.zero_add] : (((0 : Int64) + x0) + x1) = (x0 + x1))) hZ (hw _ (List.mem_of_getElem? (i := 10) rfl)) (hw _ (List.mem_of_getElem? (i := 9) rfl)) (by decide) (by decide)) (g := (mkF m 237 #[.val (.int v0), .val (.long q1), .second, .val (.long q2), .second, .val (.long q3), .second, .val (.long q4), .second, .val (.int (3 : Int32)), .val (.long x0), .second, .val (.long x1), .second, .val (.long x2), .second, .val (.long x3), .second, .val (.ref b47), .val (.ref bb_55), .val (.long x0), .second, .val (.long (x0 + x1)), .second, .val (.long ((x0 + x1) + x2)), .second, .val (.long (((x0 + x1) + x2) + x3)), .second] [(.long (x0 + x1)), (.int (3 : Int32)), (.int (1 : Int32)), (.ref bb_55)])) rfl (by rw [hml]; rfl) (argsL := [(.ref bb_55), (.int (1 : Int32)), (.int (3 : Int32)), (.long (x0 + x1))]) (rest := []) (lenOf own_pd1 rfl) rfl (by show 2 * 0 + _ ≤ _; exact Nat.le_of_eq rfl) (hb hby at_237) (fun _ _ => ⟨rfl, eh63, (by decide : 2 + 0 ≤ _), (by decide : 6 + 0 ≤ _)⟩)
    dsimp only [Pt.U, Pt.locs, Pt.cells, Pt.slots] at X64 lq64 yq64 zq64 st64 hQ64
    subst lq64 yq64 zq64
    obtain ⟨rfl, Nq64, eh64⟩ := hQ64
    have N64 := Fr.app N63 Nq64
    refine own_st (G' := T64.setTop (mkF m 240 #[.val (.int v0), .val (.long q1), .second, .val (.long q2), .second, .val (.long q3), .second, .val (.long q4), .second, .val (.int (3 : Int32)), .val (.long x0), .second, .val (.long x1), .second, .val (.long x2), .second, .val (.long x3), .second, .val (.ref b47), .val (.ref bb_55), .val (.long x0), .second, .val (.long (x0 + x1)), .second, .val (.long ((x0 + x1) + x2)), .second, .val (.long (((x0 + x1) + x2) + x3)), .second] [(.int (1 : Int32))])) st64 ?_
    refine own_ifNo X64 hx 243 (hb hby at_240) (feq (by decide : ¬ ((1 : Int32) = (0 : Int32)))).1 ?_
    refine own_aload X64 hx 245 (hb hby at_243) rfl rfl ?_
    refine own_iconst X64 hx 246 (2 : Int32) (hb hby at_245) rfl ?_
    refine own_iload X64 hx 248 (hb hby at_246) rfl ?_
    refine own_lload X64 hx 250 (hb hby at_248) rfl ?_
    obtain ⟨_, _, ⟨T65, Lx65, kc65, nc65⟩, -, X65, ⟨Lc65, hQ65, lq65, yq65, zq65⟩, st65⟩ := Jvm.LawKit.callS X64 hx (y := (⟨"com/example/loomsand/loomsand/WeightsRunningSumsPinLaw", "at", "([JIIJ)Z"⟩ : MethodName)) hown (mvT hZ (hw _ (List.mem_of_getElem? (i := 7) rfl))) (mvT hZ (hw _ (List.mem_of_getElem? (i := 8) rfl))) (mvT hZ (hw _ (List.mem_of_getElem? (i := 9) rfl))) (mvT hZ (hw _ (List.mem_of_getElem? (i := 10) rfl))) (by decide) (backOf (W := 0) (own_rm2n3i2 l Z a0 hw [] bb_55 ((x0 + x1) + x2) kb_55 ((0 : Int64) + x0) (((0 : Int64) + x0) + x1) ((((0 : Int64) + x0) + x1) + x2) T55.heap n0 Z57 G55_1 (by rw [Int64.zero_add] : ((((0 : Int64) + x0) + x1) + x2) = ((x0 + x1) + x2))) hZ (hw _ (List.mem_of_getElem? (i := 10) rfl)) (hw _ (List.mem_of_getElem? (i := 9) rfl)) (by decide) (by decide)) (g := (mkF m 250 #[.val (.int v0), .val (.long q1), .second, .val (.long q2), .second, .val (.long q3), .second, .val (.long q4), .second, .val (.int (3 : Int32)), .val (.long x0), .second, .val (.long x1), .second, .val (.long x2), .second, .val (.long x3), .second, .val (.ref b47), .val (.ref bb_55), .val (.long x0), .second, .val (.long (x0 + x1)), .second, .val (.long ((x0 + x1) + x2)), .second, .val (.long (((x0 + x1) + x2) + x3)), .second] [(.long ((x0 + x1) + x2)), (.int (3 : Int32)), (.int (2 : Int32)), (.ref bb_55)])) rfl (by rw [hml]; rfl) (argsL := [(.ref bb_55), (.int (2 : Int32)), (.int (3 : Int32)), (.long ((x0 + x1) + x2))]) (rest := []) (lenOf own_pd1 rfl) rfl (by show 2 * 0 + _ ≤ _; exact Nat.le_of_eq rfl) (hb hby at_250) (fun _ _ => ⟨rfl, eh64, (by decide : 2 + 0 ≤ _), (by decide : 6 + 0 ≤ _)⟩)
    dsimp only [Pt.U, Pt.locs, Pt.cells, Pt.slots] at X65 lq65 yq65 zq65 st65 hQ65
    subst lq65 yq65 zq65
    obtain ⟨rfl, Nq65, eh65⟩ := hQ65
    have N65 := Fr.app N64 Nq65
    refine own_st (G' := T65.setTop (mkF m 253 #[.val (.int v0), .val (.long q1), .second, .val (.long q2), .second, .val (.long q3), .second, .val (.long q4), .second, .val (.int (3 : Int32)), .val (.long x0), .second, .val (.long x1), .second, .val (.long x2), .second, .val (.long x3), .second, .val (.ref b47), .val (.ref bb_55), .val (.long x0), .second, .val (.long (x0 + x1)), .second, .val (.long ((x0 + x1) + x2)), .second, .val (.long (((x0 + x1) + x2) + x3)), .second] [(.int (1 : Int32))])) st65 ?_
    refine own_ifNo X65 hx 256 (hb hby at_253) (feq (by decide : ¬ ((1 : Int32) = (0 : Int32)))).1 ?_
    refine own_aload X65 hx 258 (hb hby at_256) rfl rfl ?_
    refine own_iconst X65 hx 259 (3 : Int32) (hb hby at_258) rfl ?_
    refine own_iload X65 hx 261 (hb hby at_259) rfl ?_
    refine own_lload X65 hx 263 (hb hby at_261) rfl ?_
    obtain ⟨_, _, ⟨T66, Lx66, kc66, nc66⟩, -, X66, ⟨Lc66, hQ66, lq66, yq66, zq66⟩, st66⟩ := Jvm.LawKit.callS X65 hx (y := (⟨"com/example/loomsand/loomsand/WeightsRunningSumsPinLaw", "at", "([JIIJ)Z"⟩ : MethodName)) hown (mvT hZ (hw _ (List.mem_of_getElem? (i := 7) rfl))) (mvT hZ (hw _ (List.mem_of_getElem? (i := 8) rfl))) (mvT hZ (hw _ (List.mem_of_getElem? (i := 9) rfl))) (mvT hZ (hw _ (List.mem_of_getElem? (i := 10) rfl))) (by decide) (backOf (W := 0) (own_rm2n3i3 l Z a0 hw [] bb_55 (((x0 + x1) + x2) + x3) T55.heap n0 Z57 ) hZ (hw _ (List.mem_of_getElem? (i := 10) rfl)) (hw _ (List.mem_of_getElem? (i := 9) rfl)) (by decide) (by decide)) (g := (mkF m 263 #[.val (.int v0), .val (.long q1), .second, .val (.long q2), .second, .val (.long q3), .second, .val (.long q4), .second, .val (.int (3 : Int32)), .val (.long x0), .second, .val (.long x1), .second, .val (.long x2), .second, .val (.long x3), .second, .val (.ref b47), .val (.ref bb_55), .val (.long x0), .second, .val (.long (x0 + x1)), .second, .val (.long ((x0 + x1) + x2)), .second, .val (.long (((x0 + x1) + x2) + x3)), .second] [(.long (((x0 + x1) + x2) + x3)), (.int (3 : Int32)), (.int (3 : Int32)), (.ref bb_55)])) rfl (by rw [hml]; rfl) (argsL := [(.ref bb_55), (.int (3 : Int32)), (.int (3 : Int32)), (.long (((x0 + x1) + x2) + x3))]) (rest := []) (lenOf own_pd1 rfl) rfl (by show 2 * 0 + _ ≤ _; exact Nat.le_of_eq rfl) (hb hby at_263) (fun _ _ => ⟨rfl, eh65, (by decide : 2 + 0 ≤ _), (by decide : 6 + 0 ≤ _)⟩)
    dsimp only [Pt.U, Pt.locs, Pt.cells, Pt.slots] at X66 lq66 yq66 zq66 st66 hQ66
    subst lq66 yq66 zq66
    obtain ⟨rfl, Nq66, eh66⟩ := hQ66
    have N66 := Fr.app N65 Nq66
    refine own_st (G' := T66.setTop (mkF m 266 #[.val (.int v0), .val (.long q1), .second, .val (.long q2), .second, .val (.long q3), .second, .val (.long q4), .second, .val (.int (3 : Int32)), .val (.long x0), .second, .val (.long x1), .second, .val (.long x2), .second, .val (.long x3), .second, .val (.ref b47), .val (.ref bb_55), .val (.long x0), .second, .val (.long (x0 + x1)), .second, .val (.long ((x0 + x1) + x2)), .second, .val (.long (((x0 + x1) + x2) + x3)), .second] [(.int (1 : Int32))])) st66 ?_
    refine own_ifNo X66 hx 269 (hb hby at_266) (feq (by decide : ¬ ((1 : Int32) = (0 : Int32)))).1 ?_
    refine own_iconst X66 hx 270 (1 : Int32) (hb hby at_269) rfl ?_
    refine own_goto X66 hx 274 (hb hby at_270) ?_
    exact own_retN (t := .boolean) (z := (1 : Int32)) (Q := own_Q0 Z v0 q1 q2 q3 q4 h0 n0) X66 hx hrt (by simp) (hb hby at_274) hlk eh66 ⟨rfl, N66⟩ (by decide) (by decide)
  · rw [hk5]
    refine own_istore X0 hx 8 #[.val (.int v0), .val (.long q1), .second, .val (.long q2), .second, .val (.long q3), .second, .val (.long q4), .second, .val (.int (4 : Int32)), .unset, .unset, .unset, .unset, .unset, .unset, .unset, .unset, .unset, .unset, .unset, .unset, .unset, .unset, .unset, .unset, .unset, .unset] (hb hby at_6) rfl ?_
    refine own_lloadN X0 hx 9 (hb hby at_8) rfl ?_
    refine own_ldcL X0 hx 12 hown (mvT hZ (hw _ (List.mem_of_getElem? (i := 1) rfl))) (hb hby at_9) ?_
    refine own_land X0 hx 13 (hb hby at_12) ?_
    refine own_iconst X0 hx 14 (2 : Int32) (hb hby at_13) rfl ?_
    refine own_lushr X0 hx 15 (hb hby at_14) ?_
    generalize (((q1 &&& (9223372036854775807 : Int64)).toUInt64 >>> ((2 : Int32) &&& 0x3f).toInt64.toUInt64).toInt64) = x0
    refine own_lstore X0 hx 17 #[.val (.int v0), .val (.long q1), .second, .val (.long q2), .second, .val (.long q3), .second, .val (.long q4), .second, .val (.int (4 : Int32)), .val (.long x0), .second, .unset, .unset, .unset, .unset, .unset, .unset, .unset, .unset, .unset, .unset, .unset, .unset, .unset, .unset, .unset, .unset] (hb hby at_15) rfl ?_
    refine own_lloadN X0 hx 18 (hb hby at_17) rfl ?_
    refine own_ldcL X0 hx 21 hown (mvT hZ (hw _ (List.mem_of_getElem? (i := 1) rfl))) (hb hby at_18) ?_
    refine own_land X0 hx 22 (hb hby at_21) ?_
    refine own_iconst X0 hx 23 (2 : Int32) (hb hby at_22) rfl ?_
    refine own_lushr X0 hx 24 (hb hby at_23) ?_
    generalize (((q2 &&& (9223372036854775807 : Int64)).toUInt64 >>> ((2 : Int32) &&& 0x3f).toInt64.toUInt64).toInt64) = x1
    refine own_lstore X0 hx 26 #[.val (.int v0), .val (.long q1), .second, .val (.long q2), .second, .val (.long q3), .second, .val (.long q4), .second, .val (.int (4 : Int32)), .val (.long x0), .second, .val (.long x1), .second, .unset, .unset, .unset, .unset, .unset, .unset, .unset, .unset, .unset, .unset, .unset, .unset, .unset, .unset] (hb hby at_24) rfl ?_
    refine own_lload X0 hx 28 (hb hby at_26) rfl ?_
    refine own_ldcL X0 hx 31 hown (mvT hZ (hw _ (List.mem_of_getElem? (i := 1) rfl))) (hb hby at_28) ?_
    refine own_land X0 hx 32 (hb hby at_31) ?_
    refine own_iconst X0 hx 33 (2 : Int32) (hb hby at_32) rfl ?_
    refine own_lushr X0 hx 34 (hb hby at_33) ?_
    generalize (((q3 &&& (9223372036854775807 : Int64)).toUInt64 >>> ((2 : Int32) &&& 0x3f).toInt64.toUInt64).toInt64) = x2
    refine own_lstore X0 hx 36 #[.val (.int v0), .val (.long q1), .second, .val (.long q2), .second, .val (.long q3), .second, .val (.long q4), .second, .val (.int (4 : Int32)), .val (.long x0), .second, .val (.long x1), .second, .val (.long x2), .second, .unset, .unset, .unset, .unset, .unset, .unset, .unset, .unset, .unset, .unset, .unset, .unset] (hb hby at_34) rfl ?_
    refine own_lload X0 hx 38 (hb hby at_36) rfl ?_
    refine own_ldcL X0 hx 41 hown (mvT hZ (hw _ (List.mem_of_getElem? (i := 1) rfl))) (hb hby at_38) ?_
    refine own_land X0 hx 42 (hb hby at_41) ?_
    refine own_iconst X0 hx 43 (2 : Int32) (hb hby at_42) rfl ?_
    refine own_lushr X0 hx 44 (hb hby at_43) ?_
    generalize (((q4 &&& (9223372036854775807 : Int64)).toUInt64 >>> ((2 : Int32) &&& 0x3f).toInt64.toUInt64).toInt64) = x3
    refine own_lstore X0 hx 46 #[.val (.int v0), .val (.long q1), .second, .val (.long q2), .second, .val (.long q3), .second, .val (.long q4), .second, .val (.int (4 : Int32)), .val (.long x0), .second, .val (.long x1), .second, .val (.long x2), .second, .val (.long x3), .second, .unset, .unset, .unset, .unset, .unset, .unset, .unset, .unset, .unset, .unset] (hb hby at_44) rfl ?_
    refine own_iload X0 hx 48 (hb hby at_46) rfl ?_
    obtain ⟨T67, h67, k67, X67, e67, E67, A67, st67⟩ := newP X0 hx hZ (hw _ (List.mem_of_getElem? (i := 2) rfl)) e0 (g := (mkF m 48 #[.val (.int v0), .val (.long q1), .second, .val (.long q2), .second, .val (.long q3), .second, .val (.long q4), .second, .val (.int (4 : Int32)), .val (.long x0), .second, .val (.long x1), .second, .val (.long x2), .second, .val (.long x3), .second, .unset, .unset, .unset, .unset, .unset, .unset, .unset, .unset, .unset, .unset] [(.int (4 : Int32))])) rfl (hb hby at_48) rfl (by decide) (cap := 4) (by decide) (by decide) (by decide) (by decide)
    obtain ⟨b67, g67⟩ : ∃ z, z = h0.size := ⟨_, rfl⟩
    rw [← g67] at A67 st67
    have gt_b67 : n0 ≤ b67 := Nat.le_trans Z0 (Nat.le_of_eq g67.symm)
    have V67 : Arv Z h67 b67 k67 .long (4 : Int32) [(.long (0 : Int64)), (.long (0 : Int64)), (.long (0 : Int64)), (.long (0 : Int64))] (.long (0 : Int64)) := (Arv.new A67 (by decide)).pad (pad_rep [] (.long (0 : Int64)) 4)
    have Z68 := Nat.le_trans Z0 E67.1
    refine own_st (G' := T67.setTop (mkF m 50 #[.val (.int v0), .val (.long q1), .second, .val (.long q2), .second, .val (.long q3), .second, .val (.long q4), .second, .val (.int (4 : Int32)), .val (.long x0), .second, .val (.long x1), .second, .val (.long x2), .second, .val (.long x3), .second, .unset, .unset, .unset, .unset, .unset, .unset, .unset, .unset, .unset, .unset] [(.ref b67)])) st67 ?_
    refine own_astore X67 hx 52 #[.val (.int v0), .val (.long q1), .second, .val (.long q2), .second, .val (.long q3), .second, .val (.long q4), .second, .val (.int (4 : Int32)), .val (.long x0), .second, .val (.long x1), .second, .val (.long x2), .second, .val (.long x3), .second, .val (.ref b67), .unset, .unset, .unset, .unset, .unset, .unset, .unset, .unset, .unset] (hb hby at_50) rfl rfl ?_
    refine own_iload X67 hx 54 (hb hby at_52) rfl ?_
    refine own_ifNo X67 hx 57 (hb hby at_54) (tlt (by decide : (0 : Int32) < (4 : Int32))).2.2.2 ?_
    refine own_aload X67 hx 59 (hb hby at_57) rfl rfl ?_
    refine own_iconst X67 hx 60 (0 : Int32) (hb hby at_59) rfl ?_
    refine own_lload X67 hx 62 (hb hby at_60) rfl ?_
    obtain ⟨cl69, Ar69, qv69, S69, M69, H69, G69⟩ := id V67
    have hin69 : ¬ ((0 : Int32) < 0 ∨ cl69.slots.size ≤ ((0 : Int32)).toNatClampNeg) := inb_of S69 ⟨by decide, by decide⟩
    obtain ⟨T69, h69, X69, e69, W69, st69⟩ := stJ X67 hx hZ e67 Ar69 (j := (0 : Int32)) hin69 (g := (mkF m 62 #[.val (.int v0), .val (.long q1), .second, .val (.long q2), .second, .val (.long q3), .second, .val (.long q4), .second, .val (.int (4 : Int32)), .val (.long x0), .second, .val (.long x1), .second, .val (.long x2), .second, .val (.long x3), .second, .val (.ref b67), .unset, .unset, .unset, .unset, .unset, .unset, .unset, .unset, .unset] [(.long x0), (.int (0 : Int32)), (.ref b67)])) rfl rfl (hb hby at_62)
    have V69 : Arv Z h69 b67 k67 .long (4 : Int32) [(.long x0), (.long (0 : Int64)), (.long (0 : Int64)), (.long (0 : Int64))] (.long (0 : Int64)) := Arv.set Ar69 qv69 S69 M69 H69 G69 rfl W69 0 rfl (Nat.le_of_ble_eq_true rfl)
    have N69 := Fr.snoc X69 N0 gt_b67
    have Z70 := Nat.le_trans Z68 (Nat.le_of_eq W69.size.symm)
    refine own_st (G' := T69.setTop (mkF m 63 #[.val (.int v0), .val (.long q1), .second, .val (.long q2), .second, .val (.long q3), .second, .val (.long q4), .second, .val (.int (4 : Int32)), .val (.long x0), .second, .val (.long x1), .second, .val (.long x2), .second, .val (.long x3), .second, .val (.ref b67), .unset, .unset, .unset, .unset, .unset, .unset, .unset, .unset, .unset] [])) st69 ?_
    refine own_iload X69 hx 65 (hb hby at_63) rfl ?_
    refine own_iconst X69 hx 66 (1 : Int32) (hb hby at_65) rfl ?_
    refine own_icmpNo X69 hx 69 (hb hby at_66) (tlt (by decide : (1 : Int32) < (4 : Int32))).2.2.2 ?_
    refine own_aload X69 hx 71 (hb hby at_69) rfl rfl ?_
    refine own_iconst X69 hx 72 (1 : Int32) (hb hby at_71) rfl ?_
    refine own_lload X69 hx 74 (hb hby at_72) rfl ?_
    obtain ⟨cl71, Ar71, qv71, S71, M71, H71, G71⟩ := id V69
    have hin71 : ¬ ((1 : Int32) < 0 ∨ cl71.slots.size ≤ ((1 : Int32)).toNatClampNeg) := inb_of S71 ⟨by decide, by decide⟩
    obtain ⟨T71, h71, X71, e71, W71, st71⟩ := stJ X69 hx hZ e69 Ar71 (j := (1 : Int32)) hin71 (g := (mkF m 74 #[.val (.int v0), .val (.long q1), .second, .val (.long q2), .second, .val (.long q3), .second, .val (.long q4), .second, .val (.int (4 : Int32)), .val (.long x0), .second, .val (.long x1), .second, .val (.long x2), .second, .val (.long x3), .second, .val (.ref b67), .unset, .unset, .unset, .unset, .unset, .unset, .unset, .unset, .unset] [(.long x1), (.int (1 : Int32)), (.ref b67)])) rfl rfl (hb hby at_74)
    have V71 : Arv Z h71 b67 k67 .long (4 : Int32) [(.long x0), (.long x1), (.long (0 : Int64)), (.long (0 : Int64))] (.long (0 : Int64)) := Arv.set Ar71 qv71 S71 M71 H71 G71 rfl W71 1 rfl (Nat.le_of_ble_eq_true rfl)
    have N71 := Fr.snoc X71 N69 gt_b67
    have Z72 := Nat.le_trans Z70 (Nat.le_of_eq W71.size.symm)
    refine own_st (G' := T71.setTop (mkF m 75 #[.val (.int v0), .val (.long q1), .second, .val (.long q2), .second, .val (.long q3), .second, .val (.long q4), .second, .val (.int (4 : Int32)), .val (.long x0), .second, .val (.long x1), .second, .val (.long x2), .second, .val (.long x3), .second, .val (.ref b67), .unset, .unset, .unset, .unset, .unset, .unset, .unset, .unset, .unset] [])) st71 ?_
    refine own_iload X71 hx 77 (hb hby at_75) rfl ?_
    refine own_iconst X71 hx 78 (2 : Int32) (hb hby at_77) rfl ?_
    refine own_icmpNo X71 hx 81 (hb hby at_78) (tlt (by decide : (2 : Int32) < (4 : Int32))).2.2.2 ?_
    refine own_aload X71 hx 83 (hb hby at_81) rfl rfl ?_
    refine own_iconst X71 hx 84 (2 : Int32) (hb hby at_83) rfl ?_
    refine own_lload X71 hx 86 (hb hby at_84) rfl ?_
    obtain ⟨cl73, Ar73, qv73, S73, M73, H73, G73⟩ := id V71
    have hin73 : ¬ ((2 : Int32) < 0 ∨ cl73.slots.size ≤ ((2 : Int32)).toNatClampNeg) := inb_of S73 ⟨by decide, by decide⟩
    obtain ⟨T73, h73, X73, e73, W73, st73⟩ := stJ X71 hx hZ e71 Ar73 (j := (2 : Int32)) hin73 (g := (mkF m 86 #[.val (.int v0), .val (.long q1), .second, .val (.long q2), .second, .val (.long q3), .second, .val (.long q4), .second, .val (.int (4 : Int32)), .val (.long x0), .second, .val (.long x1), .second, .val (.long x2), .second, .val (.long x3), .second, .val (.ref b67), .unset, .unset, .unset, .unset, .unset, .unset, .unset, .unset, .unset] [(.long x2), (.int (2 : Int32)), (.ref b67)])) rfl rfl (hb hby at_86)
    have V73 : Arv Z h73 b67 k67 .long (4 : Int32) [(.long x0), (.long x1), (.long x2), (.long (0 : Int64))] (.long (0 : Int64)) := Arv.set Ar73 qv73 S73 M73 H73 G73 rfl W73 2 rfl (Nat.le_of_ble_eq_true rfl)
    have N73 := Fr.snoc X73 N71 gt_b67
    have Z74 := Nat.le_trans Z72 (Nat.le_of_eq W73.size.symm)
    refine own_st (G' := T73.setTop (mkF m 87 #[.val (.int v0), .val (.long q1), .second, .val (.long q2), .second, .val (.long q3), .second, .val (.long q4), .second, .val (.int (4 : Int32)), .val (.long x0), .second, .val (.long x1), .second, .val (.long x2), .second, .val (.long x3), .second, .val (.ref b67), .unset, .unset, .unset, .unset, .unset, .unset, .unset, .unset, .unset] [])) st73 ?_
    refine own_iload X73 hx 89 (hb hby at_87) rfl ?_
    refine own_iconst X73 hx 90 (3 : Int32) (hb hby at_89) rfl ?_
    refine own_icmpNo X73 hx 93 (hb hby at_90) (tlt (by decide : (3 : Int32) < (4 : Int32))).2.2.2 ?_
    refine own_aload X73 hx 95 (hb hby at_93) rfl rfl ?_
    refine own_iconst X73 hx 96 (3 : Int32) (hb hby at_95) rfl ?_
    refine own_lload X73 hx 98 (hb hby at_96) rfl ?_
    obtain ⟨cl75, Ar75, qv75, S75, M75, H75, G75⟩ := id V73
    have hin75 : ¬ ((3 : Int32) < 0 ∨ cl75.slots.size ≤ ((3 : Int32)).toNatClampNeg) := inb_of S75 ⟨by decide, by decide⟩
    obtain ⟨T75, h75, X75, e75, W75, st75⟩ := stJ X73 hx hZ e73 Ar75 (j := (3 : Int32)) hin75 (g := (mkF m 98 #[.val (.int v0), .val (.long q1), .second, .val (.long q2), .second, .val (.long q3), .second, .val (.long q4), .second, .val (.int (4 : Int32)), .val (.long x0), .second, .val (.long x1), .second, .val (.long x2), .second, .val (.long x3), .second, .val (.ref b67), .unset, .unset, .unset, .unset, .unset, .unset, .unset, .unset, .unset] [(.long x3), (.int (3 : Int32)), (.ref b67)])) rfl rfl (hb hby at_98)
    have V75 : Arv Z h75 b67 k67 .long (4 : Int32) [(.long x0), (.long x1), (.long x2), (.long x3)] (.long (0 : Int64)) := Arv.set Ar75 qv75 S75 M75 H75 G75 rfl W75 3 rfl (Nat.le_of_ble_eq_true rfl)
    have N75 := Fr.snoc X75 N73 gt_b67
    have Z76 := Nat.le_trans Z74 (Nat.le_of_eq W75.size.symm)
    refine own_st (G' := T75.setTop (mkF m 99 #[.val (.int v0), .val (.long q1), .second, .val (.long q2), .second, .val (.long q3), .second, .val (.long q4), .second, .val (.int (4 : Int32)), .val (.long x0), .second, .val (.long x1), .second, .val (.long x2), .second, .val (.long x3), .second, .val (.ref b67), .unset, .unset, .unset, .unset, .unset, .unset, .unset, .unset, .unset] [])) st75 ?_
    refine own_aload X75 hx 101 (hb hby at_99) rfl rfl ?_
    obtain ⟨_, _, ⟨T77, Lx77, kc77, nc77⟩, -, X77, ⟨Lc77, hQ77, lq77, yq77, zq77⟩, st77⟩ := Jvm.LawKit.callS X75 hx (y := (⟨"com/example/loomsand/loomsand/Weights", "runningSums", "([J)[J"⟩ : MethodName)) hown (mvT hZ (hw _ (List.mem_of_getElem? (i := 3) rfl))) (mvT hZ (hw _ (List.mem_of_getElem? (i := 4) rfl))) (mvT hZ (hw _ (List.mem_of_getElem? (i := 5) rfl))) (mvT hZ (hw _ (List.mem_of_getElem? (i := 6) rfl))) (by decide) (backOf (W := 0) (own_rm1n4 l Z a0 hw [] b67 k67 x0 x1 x2 x3 h75 n0 Z76 V75) hZ (hw _ (List.mem_of_getElem? (i := 6) rfl)) (hw _ (List.mem_of_getElem? (i := 5) rfl)) (by decide) (by decide)) (g := (mkF m 101 #[.val (.int v0), .val (.long q1), .second, .val (.long q2), .second, .val (.long q3), .second, .val (.long q4), .second, .val (.int (4 : Int32)), .val (.long x0), .second, .val (.long x1), .second, .val (.long x2), .second, .val (.long x3), .second, .val (.ref b67), .unset, .unset, .unset, .unset, .unset, .unset, .unset, .unset, .unset] [(.ref b67)])) rfl (by rw [hml]; rfl) (argsL := [(.ref b67)]) (rest := []) (lenOf own_pd0 rfl) rfl (by show 2 * 0 + _ ≤ _; exact Nat.le_of_eq rfl) (hb hby at_101) (fun _ _ => ⟨rfl, e75, (by decide : 1 + 1 ≤ _), (by decide : 4 + 4 ≤ _)⟩)
    dsimp only [Pt.U, Pt.locs, Pt.cells, Pt.slots] at X77 lq77 yq77 zq77 st77 hQ77
    subst lq77 yq77 zq77
    obtain ⟨bb_77, kb_77, rfl, Nq77, Kp77, G77_0, G77_1⟩ := hQ77
    have N77 := Fr.app N75 Nq77
    have ne78 : b67 ≠ bb_77 := Nat.ne_of_lt (Nat.lt_of_lt_of_le V75.lt G77_0)
    have gt_bb_77 : n0 ≤ bb_77 := Nat.le_trans Z76 G77_0
    have Z79 := Nat.le_trans Z76 Kp77.1
    refine own_st (G' := T77.setTop (mkF m 104 #[.val (.int v0), .val (.long q1), .second, .val (.long q2), .second, .val (.long q3), .second, .val (.long q4), .second, .val (.int (4 : Int32)), .val (.long x0), .second, .val (.long x1), .second, .val (.long x2), .second, .val (.long x3), .second, .val (.ref b67), .unset, .unset, .unset, .unset, .unset, .unset, .unset, .unset, .unset] [(.ref bb_77)])) st77 ?_
    refine own_astore X77 hx 106 #[.val (.int v0), .val (.long q1), .second, .val (.long q2), .second, .val (.long q3), .second, .val (.long q4), .second, .val (.int (4 : Int32)), .val (.long x0), .second, .val (.long x1), .second, .val (.long x2), .second, .val (.long x3), .second, .val (.ref b67), .val (.ref bb_77), .unset, .unset, .unset, .unset, .unset, .unset, .unset, .unset] (hb hby at_104) rfl rfl ?_
    refine own_aload X77 hx 108 (hb hby at_106) rfl rfl ?_
    refine own_ifnullNo X77 hx 111 (hb hby at_108) ?_
    refine own_aload X77 hx 113 (hb hby at_111) rfl rfl ?_
    obtain ⟨cl80, Ar80, qv80, S80, M80, H80, G80⟩ := id G77_1
    have ln80 := len_of S80 M80
    refine own_st (G' := T77.setTop (mkF m 114 #[.val (.int v0), .val (.long q1), .second, .val (.long q2), .second, .val (.long q3), .second, .val (.long q4), .second, .val (.int (4 : Int32)), .val (.long x0), .second, .val (.long x1), .second, .val (.long x2), .second, .val (.long x3), .second, .val (.ref b67), .val (.ref bb_77), .unset, .unset, .unset, .unset, .unset, .unset, .unset, .unset] [(.int (4 : Int32))])) (fun t k => X77.arraylength hx Ar80.1 (State.isArrayOf_alike hZ.alike Ar80.2.1) (g := (mkF m 113 #[.val (.int v0), .val (.long q1), .second, .val (.long q2), .second, .val (.long q3), .second, .val (.long q4), .second, .val (.int (4 : Int32)), .val (.long x0), .second, .val (.long x1), .second, .val (.long x2), .second, .val (.long x3), .second, .val (.ref b67), .val (.ref bb_77), .unset, .unset, .unset, .unset, .unset, .unset, .unset, .unset] [(.ref bb_77)])) rfl rfl (hb hby at_113) _ (by rw [ln80]; exact k)) ?_
    refine own_iload X77 hx 116 (hb hby at_114) rfl ?_
    refine own_icmpYes X77 hx 121 (hb hby at_116) (teq (rfl : (4 : Int32) = (4 : Int32))).1 ?_
    refine own_iload X77 hx 123 (hb hby at_121) rfl ?_
    refine own_ifNo X77 hx 126 (hb hby at_123) (tlt (by decide : (0 : Int32) < (4 : Int32))).2.2.2 ?_
    refine own_aload X77 hx 128 (hb hby at_126) rfl rfl ?_
    refine own_iconst X77 hx 129 (0 : Int32) (hb hby at_128) rfl ?_
    have f81 := (V75.keep Kp77 nin0)
    obtain ⟨cl82, Ar82, qv82, S82, M82, H82, G82⟩ := id f81
    have hin82 : ¬ ((0 : Int32) < 0 ∨ cl82.slots.size ≤ ((0 : Int32)).toNatClampNeg) := inb_of S82 ⟨by decide, by decide⟩
    refine own_st (G' := T77.setTop (mkF m 130 #[.val (.int v0), .val (.long q1), .second, .val (.long q2), .second, .val (.long q3), .second, .val (.long q4), .second, .val (.int (4 : Int32)), .val (.long x0), .second, .val (.long x1), .second, .val (.long x2), .second, .val (.long x3), .second, .val (.ref b67), .val (.ref bb_77), .unset, .unset, .unset, .unset, .unset, .unset, .unset, .unset] [(.long x0)])) (fun t k => X77.laload hx (j := (0 : Int32)) (v := (.long x0)) Ar82.1 (State.isArrayOf_alike hZ.alike Ar82.2.1) Ar82.2.2 hin82 (H82.at hin82 rfl) (g := (mkF m 129 #[.val (.int v0), .val (.long q1), .second, .val (.long q2), .second, .val (.long q3), .second, .val (.long q4), .second, .val (.int (4 : Int32)), .val (.long x0), .second, .val (.long x1), .second, .val (.long x2), .second, .val (.long x3), .second, .val (.ref b67), .val (.ref bb_77), .unset, .unset, .unset, .unset, .unset, .unset, .unset, .unset] [(.int (0 : Int32)), (.ref b67)])) rfl rfl (hb hby at_129) _ k) ?_
    refine own_lload X77 hx 132 (hb hby at_130) rfl ?_
    refine own_lcmp X77 hx 133 (hb hby at_132) ?_
    refine own_ifYes X77 hx 138 (hb hby at_133) (teq ((lw_eq _ _).mpr (rfl : x0 = x0))).1 ?_
    refine own_iload X77 hx 140 (hb hby at_138) rfl ?_
    refine own_iconst X77 hx 141 (1 : Int32) (hb hby at_140) rfl ?_
    refine own_icmpNo X77 hx 144 (hb hby at_141) (tlt (by decide : (1 : Int32) < (4 : Int32))).2.2.2 ?_
    refine own_aload X77 hx 146 (hb hby at_144) rfl rfl ?_
    refine own_iconst X77 hx 147 (1 : Int32) (hb hby at_146) rfl ?_
    obtain ⟨cl83, Ar83, qv83, S83, M83, H83, G83⟩ := id f81
    have hin83 : ¬ ((1 : Int32) < 0 ∨ cl83.slots.size ≤ ((1 : Int32)).toNatClampNeg) := inb_of S83 ⟨by decide, by decide⟩
    refine own_st (G' := T77.setTop (mkF m 148 #[.val (.int v0), .val (.long q1), .second, .val (.long q2), .second, .val (.long q3), .second, .val (.long q4), .second, .val (.int (4 : Int32)), .val (.long x0), .second, .val (.long x1), .second, .val (.long x2), .second, .val (.long x3), .second, .val (.ref b67), .val (.ref bb_77), .unset, .unset, .unset, .unset, .unset, .unset, .unset, .unset] [(.long x1)])) (fun t k => X77.laload hx (j := (1 : Int32)) (v := (.long x1)) Ar83.1 (State.isArrayOf_alike hZ.alike Ar83.2.1) Ar83.2.2 hin83 (H83.at hin83 rfl) (g := (mkF m 147 #[.val (.int v0), .val (.long q1), .second, .val (.long q2), .second, .val (.long q3), .second, .val (.long q4), .second, .val (.int (4 : Int32)), .val (.long x0), .second, .val (.long x1), .second, .val (.long x2), .second, .val (.long x3), .second, .val (.ref b67), .val (.ref bb_77), .unset, .unset, .unset, .unset, .unset, .unset, .unset, .unset] [(.int (1 : Int32)), (.ref b67)])) rfl rfl (hb hby at_147) _ k) ?_
    refine own_lload X77 hx 150 (hb hby at_148) rfl ?_
    refine own_lcmp X77 hx 151 (hb hby at_150) ?_
    refine own_ifYes X77 hx 156 (hb hby at_151) (teq ((lw_eq _ _).mpr (rfl : x1 = x1))).1 ?_
    refine own_iload X77 hx 158 (hb hby at_156) rfl ?_
    refine own_iconst X77 hx 159 (2 : Int32) (hb hby at_158) rfl ?_
    refine own_icmpNo X77 hx 162 (hb hby at_159) (tlt (by decide : (2 : Int32) < (4 : Int32))).2.2.2 ?_
    refine own_aload X77 hx 164 (hb hby at_162) rfl rfl ?_
    refine own_iconst X77 hx 165 (2 : Int32) (hb hby at_164) rfl ?_
    obtain ⟨cl84, Ar84, qv84, S84, M84, H84, G84⟩ := id f81
    have hin84 : ¬ ((2 : Int32) < 0 ∨ cl84.slots.size ≤ ((2 : Int32)).toNatClampNeg) := inb_of S84 ⟨by decide, by decide⟩
    refine own_st (G' := T77.setTop (mkF m 166 #[.val (.int v0), .val (.long q1), .second, .val (.long q2), .second, .val (.long q3), .second, .val (.long q4), .second, .val (.int (4 : Int32)), .val (.long x0), .second, .val (.long x1), .second, .val (.long x2), .second, .val (.long x3), .second, .val (.ref b67), .val (.ref bb_77), .unset, .unset, .unset, .unset, .unset, .unset, .unset, .unset] [(.long x2)])) (fun t k => X77.laload hx (j := (2 : Int32)) (v := (.long x2)) Ar84.1 (State.isArrayOf_alike hZ.alike Ar84.2.1) Ar84.2.2 hin84 (H84.at hin84 rfl) (g := (mkF m 165 #[.val (.int v0), .val (.long q1), .second, .val (.long q2), .second, .val (.long q3), .second, .val (.long q4), .second, .val (.int (4 : Int32)), .val (.long x0), .second, .val (.long x1), .second, .val (.long x2), .second, .val (.long x3), .second, .val (.ref b67), .val (.ref bb_77), .unset, .unset, .unset, .unset, .unset, .unset, .unset, .unset] [(.int (2 : Int32)), (.ref b67)])) rfl rfl (hb hby at_165) _ k) ?_
    refine own_lload X77 hx 168 (hb hby at_166) rfl ?_
    refine own_lcmp X77 hx 169 (hb hby at_168) ?_
    refine own_ifYes X77 hx 174 (hb hby at_169) (teq ((lw_eq _ _).mpr (rfl : x2 = x2))).1 ?_
    refine own_iload X77 hx 176 (hb hby at_174) rfl ?_
    refine own_iconst X77 hx 177 (3 : Int32) (hb hby at_176) rfl ?_
    refine own_icmpNo X77 hx 180 (hb hby at_177) (tlt (by decide : (3 : Int32) < (4 : Int32))).2.2.2 ?_
    refine own_aload X77 hx 182 (hb hby at_180) rfl rfl ?_
    refine own_iconst X77 hx 183 (3 : Int32) (hb hby at_182) rfl ?_
    obtain ⟨cl85, Ar85, qv85, S85, M85, H85, G85⟩ := id f81
    have hin85 : ¬ ((3 : Int32) < 0 ∨ cl85.slots.size ≤ ((3 : Int32)).toNatClampNeg) := inb_of S85 ⟨by decide, by decide⟩
    refine own_st (G' := T77.setTop (mkF m 184 #[.val (.int v0), .val (.long q1), .second, .val (.long q2), .second, .val (.long q3), .second, .val (.long q4), .second, .val (.int (4 : Int32)), .val (.long x0), .second, .val (.long x1), .second, .val (.long x2), .second, .val (.long x3), .second, .val (.ref b67), .val (.ref bb_77), .unset, .unset, .unset, .unset, .unset, .unset, .unset, .unset] [(.long x3)])) (fun t k => X77.laload hx (j := (3 : Int32)) (v := (.long x3)) Ar85.1 (State.isArrayOf_alike hZ.alike Ar85.2.1) Ar85.2.2 hin85 (H85.at hin85 rfl) (g := (mkF m 183 #[.val (.int v0), .val (.long q1), .second, .val (.long q2), .second, .val (.long q3), .second, .val (.long q4), .second, .val (.int (4 : Int32)), .val (.long x0), .second, .val (.long x1), .second, .val (.long x2), .second, .val (.long x3), .second, .val (.ref b67), .val (.ref bb_77), .unset, .unset, .unset, .unset, .unset, .unset, .unset, .unset] [(.int (3 : Int32)), (.ref b67)])) rfl rfl (hb hby at_183) _ k) ?_
    refine own_lload X77 hx 186 (hb hby at_184) rfl ?_
    refine own_lcmp X77 hx 187 (hb hby at_186) ?_
    refine own_ifYes X77 hx 192 (hb hby at_187) (teq ((lw_eq _ _).mpr (rfl : x3 = x3))).1 ?_
    refine own_lload X77 hx 194 (hb hby at_192) rfl ?_
    refine own_lstore X77 hx 196 #[.val (.int v0), .val (.long q1), .second, .val (.long q2), .second, .val (.long q3), .second, .val (.long q4), .second, .val (.int (4 : Int32)), .val (.long x0), .second, .val (.long x1), .second, .val (.long x2), .second, .val (.long x3), .second, .val (.ref b67), .val (.ref bb_77), .val (.long x0), .second, .unset, .unset, .unset, .unset, .unset, .unset] (hb hby at_194) rfl ?_
    refine own_lload X77 hx 198 (hb hby at_196) rfl ?_
    refine own_lload X77 hx 200 (hb hby at_198) rfl ?_
    refine own_ladd X77 hx 201 (hb hby at_200) ?_
    refine own_lstore X77 hx 203 #[.val (.int v0), .val (.long q1), .second, .val (.long q2), .second, .val (.long q3), .second, .val (.long q4), .second, .val (.int (4 : Int32)), .val (.long x0), .second, .val (.long x1), .second, .val (.long x2), .second, .val (.long x3), .second, .val (.ref b67), .val (.ref bb_77), .val (.long x0), .second, .val (.long (x0 + x1)), .second, .unset, .unset, .unset, .unset] (hb hby at_201) rfl ?_
    refine own_lload X77 hx 205 (hb hby at_203) rfl ?_
    refine own_lload X77 hx 207 (hb hby at_205) rfl ?_
    refine own_ladd X77 hx 208 (hb hby at_207) ?_
    refine own_lstore X77 hx 210 #[.val (.int v0), .val (.long q1), .second, .val (.long q2), .second, .val (.long q3), .second, .val (.long q4), .second, .val (.int (4 : Int32)), .val (.long x0), .second, .val (.long x1), .second, .val (.long x2), .second, .val (.long x3), .second, .val (.ref b67), .val (.ref bb_77), .val (.long x0), .second, .val (.long (x0 + x1)), .second, .val (.long ((x0 + x1) + x2)), .second, .unset, .unset] (hb hby at_208) rfl ?_
    refine own_lload X77 hx 212 (hb hby at_210) rfl ?_
    refine own_lload X77 hx 214 (hb hby at_212) rfl ?_
    refine own_ladd X77 hx 215 (hb hby at_214) ?_
    refine own_lstore X77 hx 217 #[.val (.int v0), .val (.long q1), .second, .val (.long q2), .second, .val (.long q3), .second, .val (.long q4), .second, .val (.int (4 : Int32)), .val (.long x0), .second, .val (.long x1), .second, .val (.long x2), .second, .val (.long x3), .second, .val (.ref b67), .val (.ref bb_77), .val (.long x0), .second, .val (.long (x0 + x1)), .second, .val (.long ((x0 + x1) + x2)), .second, .val (.long (((x0 + x1) + x2) + x3)), .second] (hb hby at_215) rfl ?_
    refine own_aload X77 hx 219 (hb hby at_217) rfl rfl ?_
    refine own_iconst X77 hx 220 (0 : Int32) (hb hby at_219) rfl ?_
    refine own_iload X77 hx 222 (hb hby at_220) rfl ?_
    refine own_lload X77 hx 224 (hb hby at_222) rfl ?_
    obtain ⟨_, _, ⟨T86, Lx86, kc86, nc86⟩, -, X86, ⟨Lc86, hQ86, lq86, yq86, zq86⟩, st86⟩ := Jvm.LawKit.callS X77 hx (y := (⟨"com/example/loomsand/loomsand/WeightsRunningSumsPinLaw", "at", "([JIIJ)Z"⟩ : MethodName)) hown (mvT hZ (hw _ (List.mem_of_getElem? (i := 7) rfl))) (mvT hZ (hw _ (List.mem_of_getElem? (i := 8) rfl))) (mvT hZ (hw _ (List.mem_of_getElem? (i := 9) rfl))) (mvT hZ (hw _ (List.mem_of_getElem? (i := 10) rfl))) (by decide) (backOf (W := 0) (own_rm2n4i0 l Z a0 hw [] bb_77 x0 kb_77 ((0 : Int64) + x0) (((0 : Int64) + x0) + x1) ((((0 : Int64) + x0) + x1) + x2) (((((0 : Int64) + x0) + x1) + x2) + x3) T77.heap n0 Z79 G77_1 (by rw [Int64.zero_add] : ((0 : Int64) + x0) = x0)) hZ (hw _ (List.mem_of_getElem? (i := 10) rfl)) (hw _ (List.mem_of_getElem? (i := 9) rfl)) (by decide) (by decide)) (g := (mkF m 224 #[.val (.int v0), .val (.long q1), .second, .val (.long q2), .second, .val (.long q3), .second, .val (.long q4), .second, .val (.int (4 : Int32)), .val (.long x0), .second, .val (.long x1), .second, .val (.long x2), .second, .val (.long x3), .second, .val (.ref b67), .val (.ref bb_77), .val (.long x0), .second, .val (.long (x0 + x1)), .second, .val (.long ((x0 + x1) + x2)), .second, .val (.long (((x0 + x1) + x2) + x3)), .second] [(.long x0), (.int (4 : Int32)), (.int (0 : Int32)), (.ref bb_77)])) rfl (by rw [hml]; rfl) (argsL := [(.ref bb_77), (.int (0 : Int32)), (.int (4 : Int32)), (.long x0)]) (rest := []) (lenOf own_pd1 rfl) rfl (by show 2 * 0 + _ ≤ _; exact Nat.le_of_eq rfl) (hb hby at_224) (fun _ _ => ⟨rfl, rfl, (by decide : 2 + 0 ≤ _), (by decide : 8 + 0 ≤ _)⟩)
    dsimp only [Pt.U, Pt.locs, Pt.cells, Pt.slots] at X86 lq86 yq86 zq86 st86 hQ86
    subst lq86 yq86 zq86
    obtain ⟨rfl, Nq86, eh86⟩ := hQ86
    have N86 := Fr.app N77 Nq86
    refine own_st (G' := T86.setTop (mkF m 227 #[.val (.int v0), .val (.long q1), .second, .val (.long q2), .second, .val (.long q3), .second, .val (.long q4), .second, .val (.int (4 : Int32)), .val (.long x0), .second, .val (.long x1), .second, .val (.long x2), .second, .val (.long x3), .second, .val (.ref b67), .val (.ref bb_77), .val (.long x0), .second, .val (.long (x0 + x1)), .second, .val (.long ((x0 + x1) + x2)), .second, .val (.long (((x0 + x1) + x2) + x3)), .second] [(.int (1 : Int32))])) st86 ?_
    refine own_ifNo X86 hx 230 (hb hby at_227) (feq (by decide : ¬ ((1 : Int32) = (0 : Int32)))).1 ?_
    refine own_aload X86 hx 232 (hb hby at_230) rfl rfl ?_
    refine own_iconst X86 hx 233 (1 : Int32) (hb hby at_232) rfl ?_
    refine own_iload X86 hx 235 (hb hby at_233) rfl ?_
    refine own_lload X86 hx 237 (hb hby at_235) rfl ?_
    obtain ⟨_, _, ⟨T87, Lx87, kc87, nc87⟩, -, X87, ⟨Lc87, hQ87, lq87, yq87, zq87⟩, st87⟩ := Jvm.LawKit.callS X86 hx (y := (⟨"com/example/loomsand/loomsand/WeightsRunningSumsPinLaw", "at", "([JIIJ)Z"⟩ : MethodName)) hown (mvT hZ (hw _ (List.mem_of_getElem? (i := 7) rfl))) (mvT hZ (hw _ (List.mem_of_getElem? (i := 8) rfl))) (mvT hZ (hw _ (List.mem_of_getElem? (i := 9) rfl))) (mvT hZ (hw _ (List.mem_of_getElem? (i := 10) rfl))) (by decide) (backOf (W := 0) (own_rm2n4i1 l Z a0 hw [] bb_77 (x0 + x1) kb_77 ((0 : Int64) + x0) (((0 : Int64) + x0) + x1) ((((0 : Int64) + x0) + x1) + x2) (((((0 : Int64) + x0) + x1) + x2) + x3) T77.heap n0 Z79 G77_1 (by rw [Int64.zero_add] : (((0 : Int64) + x0) + x1) = (x0 + x1))) hZ (hw _ (List.mem_of_getElem? (i := 10) rfl)) (hw _ (List.mem_of_getElem? (i := 9) rfl)) (by decide) (by decide)) (g := (mkF m 237 #[.val (.int v0), .val (.long q1), .second, .val (.long q2), .second, .val (.long q3), .second, .val (.long q4), .second, .val (.int (4 : Int32)), .val (.long x0), .second, .val (.long x1), .second, .val (.long x2), .second, .val (.long x3), .second, .val (.ref b67), .val (.ref bb_77), .val (.long x0), .second, .val (.long (x0 + x1)), .second, .val (.long ((x0 + x1) + x2)), .second, .val (.long (((x0 + x1) + x2) + x3)), .second] [(.long (x0 + x1)), (.int (4 : Int32)), (.int (1 : Int32)), (.ref bb_77)])) rfl (by rw [hml]; rfl) (argsL := [(.ref bb_77), (.int (1 : Int32)), (.int (4 : Int32)), (.long (x0 + x1))]) (rest := []) (lenOf own_pd1 rfl) rfl (by show 2 * 0 + _ ≤ _; exact Nat.le_of_eq rfl) (hb hby at_237) (fun _ _ => ⟨rfl, eh86, (by decide : 2 + 0 ≤ _), (by decide : 8 + 0 ≤ _)⟩)
    dsimp only [Pt.U, Pt.locs, Pt.cells, Pt.slots] at X87 lq87 yq87 zq87 st87 hQ87
    subst lq87 yq87 zq87
    obtain ⟨rfl, Nq87, eh87⟩ := hQ87
    have N87 := Fr.app N86 Nq87
    refine own_st (G' := T87.setTop (mkF m 240 #[.val (.int v0), .val (.long q1), .second, .val (.long q2), .second, .val (.long q3), .second, .val (.long q4), .second, .val (.int (4 : Int32)), .val (.long x0), .second, .val (.long x1), .second, .val (.long x2), .second, .val (.long x3), .second, .val (.ref b67), .val (.ref bb_77), .val (.long x0), .second, .val (.long (x0 + x1)), .second, .val (.long ((x0 + x1) + x2)), .second, .val (.long (((x0 + x1) + x2) + x3)), .second] [(.int (1 : Int32))])) st87 ?_
    refine own_ifNo X87 hx 243 (hb hby at_240) (feq (by decide : ¬ ((1 : Int32) = (0 : Int32)))).1 ?_
    refine own_aload X87 hx 245 (hb hby at_243) rfl rfl ?_
    refine own_iconst X87 hx 246 (2 : Int32) (hb hby at_245) rfl ?_
    refine own_iload X87 hx 248 (hb hby at_246) rfl ?_
    refine own_lload X87 hx 250 (hb hby at_248) rfl ?_
    obtain ⟨_, _, ⟨T88, Lx88, kc88, nc88⟩, -, X88, ⟨Lc88, hQ88, lq88, yq88, zq88⟩, st88⟩ := Jvm.LawKit.callS X87 hx (y := (⟨"com/example/loomsand/loomsand/WeightsRunningSumsPinLaw", "at", "([JIIJ)Z"⟩ : MethodName)) hown (mvT hZ (hw _ (List.mem_of_getElem? (i := 7) rfl))) (mvT hZ (hw _ (List.mem_of_getElem? (i := 8) rfl))) (mvT hZ (hw _ (List.mem_of_getElem? (i := 9) rfl))) (mvT hZ (hw _ (List.mem_of_getElem? (i := 10) rfl))) (by decide) (backOf (W := 0) (own_rm2n4i2 l Z a0 hw [] bb_77 ((x0 + x1) + x2) kb_77 ((0 : Int64) + x0) (((0 : Int64) + x0) + x1) ((((0 : Int64) + x0) + x1) + x2) (((((0 : Int64) + x0) + x1) + x2) + x3) T77.heap n0 Z79 G77_1 (by rw [Int64.zero_add] : ((((0 : Int64) + x0) + x1) + x2) = ((x0 + x1) + x2))) hZ (hw _ (List.mem_of_getElem? (i := 10) rfl)) (hw _ (List.mem_of_getElem? (i := 9) rfl)) (by decide) (by decide)) (g := (mkF m 250 #[.val (.int v0), .val (.long q1), .second, .val (.long q2), .second, .val (.long q3), .second, .val (.long q4), .second, .val (.int (4 : Int32)), .val (.long x0), .second, .val (.long x1), .second, .val (.long x2), .second, .val (.long x3), .second, .val (.ref b67), .val (.ref bb_77), .val (.long x0), .second, .val (.long (x0 + x1)), .second, .val (.long ((x0 + x1) + x2)), .second, .val (.long (((x0 + x1) + x2) + x3)), .second] [(.long ((x0 + x1) + x2)), (.int (4 : Int32)), (.int (2 : Int32)), (.ref bb_77)])) rfl (by rw [hml]; rfl) (argsL := [(.ref bb_77), (.int (2 : Int32)), (.int (4 : Int32)), (.long ((x0 + x1) + x2))]) (rest := []) (lenOf own_pd1 rfl) rfl (by show 2 * 0 + _ ≤ _; exact Nat.le_of_eq rfl) (hb hby at_250) (fun _ _ => ⟨rfl, eh87, (by decide : 2 + 0 ≤ _), (by decide : 8 + 0 ≤ _)⟩)
    dsimp only [Pt.U, Pt.locs, Pt.cells, Pt.slots] at X88 lq88 yq88 zq88 st88 hQ88
    subst lq88 yq88 zq88
    obtain ⟨rfl, Nq88, eh88⟩ := hQ88
    have N88 := Fr.app N87 Nq88
    refine own_st (G' := T88.setTop (mkF m 253 #[.val (.int v0), .val (.long q1), .second, .val (.long q2), .second, .val (.long q3), .second, .val (.long q4), .second, .val (.int (4 : Int32)), .val (.long x0), .second, .val (.long x1), .second, .val (.long x2), .second, .val (.long x3), .second, .val (.ref b67), .val (.ref bb_77), .val (.long x0), .second, .val (.long (x0 + x1)), .second, .val (.long ((x0 + x1) + x2)), .second, .val (.long (((x0 + x1) + x2) + x3)), .second] [(.int (1 : Int32))])) st88 ?_
    refine own_ifNo X88 hx 256 (hb hby at_253) (feq (by decide : ¬ ((1 : Int32) = (0 : Int32)))).1 ?_
    refine own_aload X88 hx 258 (hb hby at_256) rfl rfl ?_
    refine own_iconst X88 hx 259 (3 : Int32) (hb hby at_258) rfl ?_
    refine own_iload X88 hx 261 (hb hby at_259) rfl ?_
    refine own_lload X88 hx 263 (hb hby at_261) rfl ?_
    obtain ⟨_, _, ⟨T89, Lx89, kc89, nc89⟩, -, X89, ⟨Lc89, hQ89, lq89, yq89, zq89⟩, st89⟩ := Jvm.LawKit.callS X88 hx (y := (⟨"com/example/loomsand/loomsand/WeightsRunningSumsPinLaw", "at", "([JIIJ)Z"⟩ : MethodName)) hown (mvT hZ (hw _ (List.mem_of_getElem? (i := 7) rfl))) (mvT hZ (hw _ (List.mem_of_getElem? (i := 8) rfl))) (mvT hZ (hw _ (List.mem_of_getElem? (i := 9) rfl))) (mvT hZ (hw _ (List.mem_of_getElem? (i := 10) rfl))) (by decide) (backOf (W := 0) (own_rm2n4i3 l Z a0 hw [] bb_77 (((x0 + x1) + x2) + x3) kb_77 ((0 : Int64) + x0) (((0 : Int64) + x0) + x1) ((((0 : Int64) + x0) + x1) + x2) (((((0 : Int64) + x0) + x1) + x2) + x3) T77.heap n0 Z79 G77_1 (by rw [Int64.zero_add] : (((((0 : Int64) + x0) + x1) + x2) + x3) = (((x0 + x1) + x2) + x3))) hZ (hw _ (List.mem_of_getElem? (i := 10) rfl)) (hw _ (List.mem_of_getElem? (i := 9) rfl)) (by decide) (by decide)) (g := (mkF m 263 #[.val (.int v0), .val (.long q1), .second, .val (.long q2), .second, .val (.long q3), .second, .val (.long q4), .second, .val (.int (4 : Int32)), .val (.long x0), .second, .val (.long x1), .second, .val (.long x2), .second, .val (.long x3), .second, .val (.ref b67), .val (.ref bb_77), .val (.long x0), .second, .val (.long (x0 + x1)), .second, .val (.long ((x0 + x1) + x2)), .second, .val (.long (((x0 + x1) + x2) + x3)), .second] [(.long (((x0 + x1) + x2) + x3)), (.int (4 : Int32)), (.int (3 : Int32)), (.ref bb_77)])) rfl (by rw [hml]; rfl) (argsL := [(.ref bb_77), (.int (3 : Int32)), (.int (4 : Int32)), (.long (((x0 + x1) + x2) + x3))]) (rest := []) (lenOf own_pd1 rfl) rfl (by show 2 * 0 + _ ≤ _; exact Nat.le_of_eq rfl) (hb hby at_263) (fun _ _ => ⟨rfl, eh88, (by decide : 2 + 0 ≤ _), (by decide : 8 + 0 ≤ _)⟩)
    dsimp only [Pt.U, Pt.locs, Pt.cells, Pt.slots] at X89 lq89 yq89 zq89 st89 hQ89
    subst lq89 yq89 zq89
    obtain ⟨rfl, Nq89, eh89⟩ := hQ89
    have N89 := Fr.app N88 Nq89
    refine own_st (G' := T89.setTop (mkF m 266 #[.val (.int v0), .val (.long q1), .second, .val (.long q2), .second, .val (.long q3), .second, .val (.long q4), .second, .val (.int (4 : Int32)), .val (.long x0), .second, .val (.long x1), .second, .val (.long x2), .second, .val (.long x3), .second, .val (.ref b67), .val (.ref bb_77), .val (.long x0), .second, .val (.long (x0 + x1)), .second, .val (.long ((x0 + x1) + x2)), .second, .val (.long (((x0 + x1) + x2) + x3)), .second] [(.int (1 : Int32))])) st89 ?_
    refine own_ifNo X89 hx 269 (hb hby at_266) (feq (by decide : ¬ ((1 : Int32) = (0 : Int32)))).1 ?_
    refine own_iconst X89 hx 270 (1 : Int32) (hb hby at_269) rfl ?_
    refine own_goto X89 hx 274 (hb hby at_270) ?_
    exact own_retN (t := .boolean) (z := (1 : Int32)) (Q := own_Q0 Z v0 q1 q2 q3 q4 h0 n0) X89 hx hrt (by simp) (hb hby at_274) hlk eh89 ⟨rfl, N89⟩ (by decide) (by decide)
set_option maxRecDepth 65536 in
set_option maxHeartbeats 40000000 in
theorem own_comes {Post : Tables → Env → Array Value → State → Outcome → State → Prop} (hpost : ∀ tb e args s v u, (limb_1_1.after args s (.returned v) u = true ∧ limb_1_2.after args s (.returned v) u = true ∧ True) → FrameEnd s (.returned v) u (Jvm.fieldLocs frame_1_writes args s ++ Jvm.arrayLocs frame_1_arrays args s ++ Jvm.staticLocs frame_1_statics s) 16 128 → Post tb e args s (.returned v) u) :
    ArmFor flags0 classFile x code maxLocals ret World_1 tables_1 room_1 Calls_1 rest_1 Pre_1 Post := by
  intro l hfl _ _ p e ha hc hk s m args below hf hA hF happ hP
  obtain ⟨hcalls, hrest, hpre⟩ := hP
  obtain ⟨-, -, -, hnamed, -, -, -, hat⟩ := (Spec.applies_iff hf).mp happ
  obtain ⟨hg, hn⟩ := and_e (Cond.before_iff.mp (show (Jvm.Cond.and given_1 narrow_1).before args s = true from hpre))
  obtain ⟨g1, g2⟩ := and_e hg
  obtain ⟨g3, g4⟩ := and_e g2
  obtain ⟨g5, g6⟩ := and_e g4
  obtain ⟨g7, g8⟩ := and_e g6
  obtain ⟨g9, g10⟩ := and_e g8
  obtain ⟨w0, w1, w2, w3, w4, rfl⟩ : ∃ w0 w1 w2 w3 w4 : Value, args = #[w0, w1, w2, w3, w4] := by
    have hs : args.size = 5 := by simpa [Cond.value, given_1] using g1
    obtain ⟨L⟩ := args
    match L, hs with
    | [w0, w1, w2, w3, w4], _ => exact ⟨w0, w1, w2, w3, w4, rfl⟩
  have hw := fun d (hd : d ∈ tables_1) => atoms_spec (ws := Jvm.Cond.code x code maxLocals ret :: tables_1) hat d (List.mem_cons_of_mem _ hd)
  have hfit : Fit s := fun {y c} hc i hi => by
    obtain ⟨ha, rfl⟩ := Array.getElem?_eq_some_iff.mp hc
    have q := List.all_eq_true.mp ((Array.all_eq_true_iff_forall_mem.mp hF) _ (Array.getElem_mem ha)) i (List.mem_range.mpr hi)
    simpa [Array.getElem?_eq_getElem hi] using q
  obtain ⟨i0, ei0⟩ := is_v g3
  obtain rfl : w0 = (.int i0) := Option.some.inj ei0
  obtain ⟨i1, ei1⟩ := isL_v g5
  obtain rfl : w1 = (.long i1) := Option.some.inj ei1
  obtain ⟨i2, ei2⟩ := isL_v g7
  obtain rfl : w2 = (.long i2) := Option.some.inj ei2
  obtain ⟨i3, ei3⟩ := isL_v g9
  obtain rfl : w3 = (.long i3) := Option.some.inj ei3
  obtain ⟨i4, ei4⟩ := isL_v g10
  obtain rfl : w4 = (.long i4) := Option.some.inj ei4
  obtain ⟨n, o, h1, h2, h3, _, L, rfl, ⟨rfl, N⟩, hq⟩ := own_rm0 l s _ hw tables_1 i0 i1 i2 i3 i4 s.heap s.heap.size (Nat.le_refl _)  p e ha hc hk s m _ below hf ((Spec.applies_iff_loose hf).mp happ).1 ⟨rfl, State.Warmed39.refl s, rfl⟩ trivial
  refine ⟨n, _, h1, h2, h3, hpost _ _ _ _ _ _ ⟨Cond.after_iff.mpr rfl, Cond.after_iff.mpr (eq_i res_at (Term.int_eval (1)) rfl), trivial⟩ ⟨hq.1, hq.2.1, (hq.2.2.sift fun y hy => Or.inr (N y hy)).mono (by decide) (by decide)⟩⟩
theorem main_1_1 : Claimed_1_1 := own_comes fun _ _ _ _ _ _ h hF => ⟨h.1, hF⟩
theorem main_1_2 : Claimed_1_2 := own_comes fun _ _ _ _ _ _ h hF => ⟨h.2.1, hF⟩
end Jvm.Pilot.@@N@@
namespace Jvm.Pilot.@@N@@
open Jvm Jvm.ClassFile Sem Op Lib Jvm.Free Jvm.Stand Jvm.Pilot.@@N@@.Jvm.D
/-! MADE BY PROGRAM (witnessworld.py) out of the Statement's table words and the real class files: 11 classes; the members and pool entries that the words name. The judged class is class 1, her method 2. -/
namespace start1
open Jvm.ClassFile
def u (s : String) : CpInfo := .utf8 (stringToUtf16 s)
/-- a pool by its gaps: so many unusable entries, then the entry; so many at the end -/
def gap : Nat → List CpInfo → List CpInfo
  | 0, r => r
  | n + 1, r => .unusable :: gap n r
def poolList (es : List (Nat × CpInfo)) (last : Nat) : List CpInfo := es.foldr (fun e r => gap e.1 (e.2 :: r)) (gap last [])
def pool (es : List (Nat × CpInfo)) (last : Nat) : Array CpInfo := ⟨poolList es last⟩
def fileOf (pool : Array CpInfo) (this : Nat) (attrs : Array Attribute := #[]) (ms : Array MethodInfo := #[]) (fl : Nat := 33) (sup : Nat := 0) (ifs : Array Nat := #[]) (fds : Array FieldInfo := #[]) : ClassFile where
  minorVersion := 0
  majorVersion := 65
  constantPool := pool
  accessFlags := fl
  thisClass := this
  superClass := sup
  interfaces := ifs
  fields := fds
  methods := ms
  attributes := attrs
def plain (name : String) (sup : Option ClassId) : Class where
  name := name
  kind := .ordinary
  loader := none
  accessFlags := 33
  super := sup
  interfaces := #[]
  cf := none
  fields := #[]
  methods := #[]
  instanceTypes := #[]
  staticTypes := #[]
  resolved := #[]
  callSites := []
  init := .initialized
  statics := none
  mirror := none

def pool0 : Array CpInfo := pool [(5, u "<init>"), (0, u "()V"), (1, .class_ 10), (1, u "java/lang/Object")] 113

def k0m0 : Method := { name := "<init>", desc := "()V", sig := { parameters := [], returnType := none }, accessFlags := 1, code := none }
/-- java/lang/Object -/
def k0 : Class := { plain "java/lang/Object" none with
  accessFlags := 33
  interfaces := #[]
  cf := some (fileOf pool0 8 #[] #[{ accessFlags := 1, nameIndex := 5, descriptorIndex := 6, attributes := #[] }] 33 0 #[] #[])
  fields := #[]
  methods := #[k0m0]
  instanceTypes := #[]
  staticTypes := #[]
  resolved := Array.replicate 124 none
  statics := none }

def pool1 : Array CpInfo := pool [(2, .class_ 4), (1, u "java/lang/Object"), (0, u "<init>"), (0, u "()V"), (0, .integer 2147483647), (2, .long 9223372036854775807), (1, .methodref 13 14), (0, .class_ 15), (0, .nameAndType 16 17), (0, u "com/example/loomsand/loomsand/Weights"), (0, u "runningSums"), (0, u "([J)[J"), (0, .methodref 19 20), (0, .class_ 21), (0, .nameAndType 22 23), (0, u "com/example/loomsand/loomsand/WeightsRunningSumsPinLaw"), (0, u "at"), (0, u "([JIIJ)Z"), (3, u "law"), (0, u "(IJJJJ)Z")] 4

def k1m0 : Method := { name := "<init>", desc := "()V", sig := { parameters := [], returnType := none }, accessFlags := 2, code := none }
def k1c1 : Code := { maxStack := 4, maxLocals := 5, code := method_2_code, exceptionTable := #[], attributes := #[] }
def k1m1 : Method := { name := "at", desc := "([JIIJ)Z", sig := { parameters := [(.array .long), .int, .int, .long], returnType := some .boolean }, accessFlags := 10, code := some k1c1 }
def k1c2 : Code := { maxStack := 5, maxLocals := 28, code := code, exceptionTable := #[], attributes := #[] }
def k1m2 : Method := { name := "law", desc := "(IJJJJ)Z", sig := { parameters := [.int, .long, .long, .long, .long], returnType := some .boolean }, accessFlags := 9, code := some k1c2 }
/-- com/example/loomsand/loomsand/WeightsRunningSumsPinLaw -/
def k1 : Class := { plain "com/example/loomsand/loomsand/WeightsRunningSumsPinLaw" (some 0) with
  accessFlags := 49
  interfaces := #[]
  cf := some (fileOf pool1 19 #[] #[{ accessFlags := 2, nameIndex := 5, descriptorIndex := 6, attributes := #[] }, { accessFlags := 10, nameIndex := 22, descriptorIndex := 23, attributes := #[] }, { accessFlags := 9, nameIndex := 27, descriptorIndex := 28, attributes := #[] }] 49 2 #[] #[])
  fields := #[]
  methods := #[k1m0, k1m1, k1m2]
  instanceTypes := #[]
  staticTypes := #[]
  resolved := Array.replicate 33 none
  statics := none }

def pool2 : Array CpInfo := pool [(2, .class_ 4), (1, u "java/lang/Object"), (0, u "<init>"), (0, u "()V"), (28, .class_ 36), (0, u "com/example/loomsand/loomsand/Weights"), (9, u "runningSums"), (0, u "([J)[J")] 2

def k2m0 : Method := { name := "<init>", desc := "()V", sig := { parameters := [], returnType := none }, accessFlags := 2, code := none }
def k2c1 : Code := { maxStack := 4, maxLocals := 5, code := prog_31_method_3_code, exceptionTable := #[], attributes := #[] }
def k2m1 : Method := { name := "runningSums", desc := "([J)[J", sig := { parameters := [(.array .long)], returnType := some (.array .long) }, accessFlags := 8, code := some k2c1 }
/-- com/example/loomsand/loomsand/Weights -/
def k2 : Class := { plain "com/example/loomsand/loomsand/Weights" (some 0) with
  accessFlags := 48
  interfaces := #[]
  cf := some (fileOf pool2 35 #[] #[{ accessFlags := 2, nameIndex := 5, descriptorIndex := 6, attributes := #[] }, { accessFlags := 8, nameIndex := 46, descriptorIndex := 47, attributes := #[] }] 48 2 #[] #[])
  fields := #[]
  methods := #[k2m0, k2m1]
  instanceTypes := #[]
  staticTypes := #[]
  resolved := Array.replicate 50 none
  statics := none }

def pool3 : Array CpInfo := pool [(1, u "java/lang/Cloneable"), (0, .class_ 1), (0, u "java/lang/Object"), (0, .class_ 3)] 3

/-- java/lang/Cloneable -/
def k3 : Class := { plain "java/lang/Cloneable" (some 0) with
  accessFlags := 1537
  interfaces := #[]
  cf := some (fileOf pool3 2 #[] #[] 1537 4 #[] #[])
  fields := #[]
  methods := #[]
  instanceTypes := #[]
  staticTypes := #[]
  resolved := Array.replicate 8 none
  statics := none }

def pool4 : Array CpInfo := pool [(1, u "java/io/Serializable"), (0, .class_ 1), (0, u "java/lang/Object"), (0, .class_ 3)] 3

/-- java/io/Serializable -/
def k4 : Class := { plain "java/io/Serializable" (some 0) with
  accessFlags := 1537
  interfaces := #[]
  cf := some (fileOf pool4 2 #[] #[] 1537 4 #[] #[])
  fields := #[]
  methods := #[]
  instanceTypes := #[]
  staticTypes := #[]
  resolved := Array.replicate 8 none
  statics := none }

/-- the primitive byte -/
def k5 : Class := { plain "byte" none with kind := .primitive 'B', accessFlags := 0x411 }
/-- [B -/
def k6 : Class := { plain "[B" (some 0) with kind := .array 5 .byte, interfaces := #[3, 4], accessFlags := 1041 }

/-- the primitive int -/
def k7 : Class := { plain "int" none with kind := .primitive 'I', accessFlags := 0x411 }
/-- [I -/
def k8 : Class := { plain "[I" (some 0) with kind := .array 7 .int, interfaces := #[3, 4], accessFlags := 1041 }

/-- the primitive long -/
def k9 : Class := { plain "long" none with kind := .primitive 'J', accessFlags := 0x411 }
/-- [J -/
def k10 : Class := { plain "[J" (some 0) with kind := .array 9 .long, interfaces := #[3, 4], accessFlags := 1041 }

def heap : Heap := #[]
def classes : Array Class := #[k0, k1, k2, k3, k4, k5, k6, k7, k8, k9, k10]
def interned : List (Array UInt16 × Addr) := []
def slotsUsed : Nat := 0
def theMethod : MethodId := ⟨1, 2⟩
def args0 : Array Value := #[.int 7, .long 1, .long 2, .long 3, .long 4]
def aboutOver (below : List Frame) : State where
  vm := { classes := classes, interned := interned.toArray }
  heap := heap
  slotsUsed := slotsUsed
  threads := #[{ frames := .invoking theMethod args0 :: below }]
def below0 : List Frame := [.native { method := ⟨0, 0⟩, args := #[] }]
def about1 : State := aboutOver below0
def p0 : Program := .bare "" "" ""
def e0 : Env := launch0.env 0 0 0
theorem w_frames : about1.frames = Frame.invoking theMethod args0 :: below0 := rfl
set_option maxRecDepth 65536 in
theorem w_args : argsFit about1.vm theMethod args0 = true := by decide +kernel
set_option maxRecDepth 65536 in
theorem w_heap : heapFits about1 = true := by decide +kernel
set_option maxRecDepth 65536 in
theorem w_runnable : about1.curStatus? = some .runnable := by decide +kernel
set_option maxRecDepth 65536 in
theorem w_alone : about1.alone = true := by decide +kernel
set_option maxRecDepth 65536 in
theorem w_named : about1.methodNamed? x = some theMethod := by decide +kernel
set_option maxRecDepth 65536 in
theorem w_hears : about1.hears theMethod below0 = true := by decide +kernel
set_option maxRecDepth 65536 in
theorem w_ripe : about1.ripe theMethod args0 below0 = true := by decide +kernel
theorem w_running : about1.status = .running := rfl
set_option maxRecDepth 65536 in
theorem w_room : about1.hasRoom e0.platform room_1 = true :=
  launch0.hasRoom_least _ room_1 (by decide +kernel) (by decide +kernel) (by decide +kernel) (by decide +kernel) (by decide +kernel) (by decide +kernel)
theorem allAtoms_all (ts : List Jvm.Cond) (a : Array Jvm.Value) (st : Jvm.State) : (allAtoms ts).before a st = ts.all (fun c => c.before a st) := by
  induction ts with
  | nil => rfl
  | cons c t ih =>
    show (Jvm.Cond.and c (allAtoms t)).before a st = _
    rw [Jvm.Cond.before_and, ih, List.all_cons]
def words1 : List Jvm.Cond := Jvm.Cond.code x code maxLocals ret :: tables_1
/-- a 'code' word, met by the world's own term for the bytes: nothing is compared byte by byte -/
theorem code_word {y : MethodName} {bytes : ByteArray} {mx : Nat} {rt : Option FieldType} {a : Array Value} {s : State} {m : MethodId} {meth : Method} {c : Code} (h1 : s.methodNamed? y = some m) (h2 : s.vm.method? m = some meth) (h3 : meth.code = some c) (h4 : c.code = bytes)
    (h5 : (c.maxLocals == mx && c.exceptionTable.isEmpty && decide (c.maxStack ≤ mostOperands) && decide (meth.sig.returnType = rt) && !meth.locks && decide (parseMethodDescriptor y.desc = some meth.sig)) = true) : (Jvm.Cond.code y bytes mx rt).before a s = true := by
  simp only [Bool.and_eq_true, beq_iff_eq, Bool.not_eq_true', decide_eq_true_eq] at h5
  obtain ⟨⟨⟨⟨⟨g1, g2⟩, g3⟩, g4⟩, g5⟩, g6⟩ := h5
  simp [Cond.before, Cond.holds, Cond.value, h1, h2, h3, h4, g1, g2, g3, g4, g5, g6]
def isCode : Jvm.Cond → Bool
  | .code _ _ _ _ => true
  | _ => false
theorem all_split {L : List Jvm.Cond} {P : Jvm.Cond → Bool} (h1 : L.all (fun c => isCode c || P c) = true) (h2 : ∀ c ∈ L.filter isCode, P c = true) : L.all P = true := by
  refine List.all_eq_true.mpr fun c hc => ?_
  have h := List.all_eq_true.mp h1 c hc
  rcases Bool.eq_false_or_eq_true (isCode c) with hi | hi
  · exact h2 c (List.mem_filter.mpr ⟨hc, hi⟩)
  · simpa [hi] using h
set_option maxRecDepth 65536 in
theorem w_c0 : (Jvm.Cond.code x code maxLocals ret).before args0 about1 = true := code_word (m := ⟨1, 2⟩) (meth := k1m2) (c := k1c2) (by decide +kernel) rfl rfl rfl (by decide +kernel)
set_option maxRecDepth 65536 in
theorem w_c1 : (Jvm.Cond.code ({ cls := "com/example/loomsand/loomsand/Weights", name := "runningSums", desc := "([J)[J" } : Jvm.MethodName) prog_31_method_3_code (5 : Nat) (Option.some (Jvm.ClassFile.FieldType.array Jvm.ClassFile.FieldType.long))).before args0 about1 = true := code_word (m := ⟨2, 1⟩) (meth := k2m1) (c := k2c1) (by decide +kernel) rfl rfl rfl (by decide +kernel)
set_option maxRecDepth 65536 in
theorem w_c2 : (Jvm.Cond.code ({ cls := "com/example/loomsand/loomsand/WeightsRunningSumsPinLaw", name := "at", desc := "([JIIJ)Z" } : Jvm.MethodName) method_2_code (5 : Nat) (Option.some Jvm.ClassFile.FieldType.boolean)).before args0 about1 = true := code_word (m := ⟨1, 1⟩) (meth := k1m1) (c := k1c1) (by decide +kernel) rfl rfl rfl (by decide +kernel)
def codes1 : List Jvm.Cond := [Jvm.Cond.code x code maxLocals ret, Jvm.Cond.code ({ cls := "com/example/loomsand/loomsand/Weights", name := "runningSums", desc := "([J)[J" } : Jvm.MethodName) prog_31_method_3_code (5 : Nat) (Option.some (Jvm.ClassFile.FieldType.array Jvm.ClassFile.FieldType.long)), Jvm.Cond.code ({ cls := "com/example/loomsand/loomsand/WeightsRunningSumsPinLaw", name := "at", desc := "([JIIJ)Z" } : Jvm.MethodName) method_2_code (5 : Nat) (Option.some Jvm.ClassFile.FieldType.boolean)]
set_option maxRecDepth 65536 in
theorem codes_eq : words1.filter isCode = codes1 := rfl
theorem w_codes : ∀ c ∈ words1.filter isCode, c.before args0 about1 = true := by
  rw [codes_eq]
  intro c hc
  simp only [codes1, List.mem_cons, List.not_mem_nil, or_false] at hc
  rcases hc with rfl | rfl | rfl
  · exact w_c0
  · exact w_c1
  · exact w_c2
set_option maxRecDepth 65536 in
theorem w_t1 : words1.all (fun c => isCode c || c.before args0 about1) = true := by decide +kernel
theorem w_tables : (allAtoms (Jvm.Cond.code x code maxLocals ret :: tables_1)).before args0 about1 = true := by
  rw [allAtoms_all]
  show words1.all (fun c => c.before args0 about1) = true
  refine all_split ?_ w_codes
  rw [w_t1]
set_option maxRecDepth 65536 in
theorem w_case : (Jvm.Cond.and given_1 narrow_1).before args0 about1 = true := by decide +kernel
theorem w_applies : (headSpec (Jvm.Cond.code x code maxLocals ret :: tables_1) room_1).applies x e0.platform about1 = true :=
  (Spec.applies_iff w_frames).mpr ⟨w_running, w_runnable, w_alone, w_named, w_hears, w_ripe, w_room, w_tables⟩
theorem atStart : AtStart classFile x code maxLocals ret World_1 tables_1 room_1 Calls_1 rest_1 Pre_1 launch0 p0 e0 about1 theMethod args0 below0 :=
  ⟨lists_1, trivial, launch0.admits_env _ _ _, launch0.least_env, fairChoices_fair.cas, fairChoices_fair.clock, w_frames, w_args, w_heap, w_applies, trivial, trivial, w_case⟩
end start1
theorem witness_1 : WitnessClaimed_1 := ⟨start1.p0, start1.e0, start1.about1, start1.theMethod, start1.args0, start1.below0, start1.atStart⟩
end Jvm.Pilot.@@N@@
