import JvmDerived
import JvmDerived.Pilot.@@N@@Statement
import JvmDerived.Pilot.@@N@@Code
set_option linter.unusedVariables false
set_option linter.unusedSimpArgs false
namespace Jvm.RoadKit
open Sem ClassFile Op Lib Jvm.Stand Jvm.Free Jvm.LawKit
section New
variable {p : Program} {l : Launch} {e : Env} {R : Room} {s : State} {m : MethodId} {args : Array Value} {below : List Frame} {meth : Method} {c : Code} {T : State} {locs : List Loc} {cells slots : Nat}
theorem retI (X : Stand p l e R s m args below meth c T locs cells slots) (hx : p.tables.exec = Jvm.exec) {pc : Nat} {Ls : Array Slot} {z : Int32} {rest : List Value} (hret : meth.sig.returnType = some .int) (hd : decode c.code pc = .ok (.ireturn, 1)) {fs : List Frame}
    (hl : ∀ (f : JFrame) (acts : List Action), f.method = m → f.locked = none → f.entered = [] → (doReturn e (T.setTop f) acts (some (.int z))).1 = T.setFrames fs) : Steps p.tables e below (T.setTop (mkF m pc Ls (.int z :: rest))) (T.setFrames fs) := by
  have hm' : T.vm.method? m = some meth := X.method'
  have hn : narrow .int (.int z) = .int z := rfl
  show Steps p.tables e below (T.setTop { method := m, pc := pc, locals := Ls, stack := _ :: rest, locked := none }) _
  jvm_step X.here [X.here.top, hx, hd, hm', hret, hn]
  first | (intro acts; rw [hl _ acts rfl rfl rfl]) | rw [hl _ _ rfl rfl rfl]
  exact Steps.refl _
end New
end Jvm.RoadKit
namespace Jvm.Pilot.@@N@@
open Jvm Jvm.ClassFile Sem Op Lib Jvm.Free Jvm.Stand Jvm.LawKit Jvm.RoadKit Bundle Jvm.Pilot.@@N@@.Jvm.D
section Own
variable {p : Program} {l : Launch} {e : Env} {R : Room} {s : State} {m : MethodId} {args : Array Value} {below : List Frame} {meth : Method} {c : Code} {T : State} {locs : List Loc} {cells slots : Nat}
/-- from the state G the run comes to an end with an outcome of which Φ holds -/
def own_Gs (p : Program) (e : Env) (below : List Frame) (Φ : Outcome → State → Prop) (G : State) : Prop :=
  ∃ (t : State) (o : Outcome), Steps p.tables e below G t ∧ t.status = .running ∧ Ended t below o ∧ Φ o t
theorem own_st {Φ : Outcome → State → Prop} {G G' : State} (k : ∀ t, Steps p.tables e below G' t → Steps p.tables e below G t) (h : own_Gs p e below Φ G') : own_Gs p e below Φ G := by
  obtain ⟨a, b, h1, h2⟩ := h
  exact ⟨a, b, k _ h1, h2⟩
theorem own_in {Φ : Outcome → State → Prop} {g g' : JFrame} (q : g = g') (h : own_Gs p e below Φ (T.setTop g')) : ∃ (t : State) (o : Outcome), Steps p.tables e below (T.setTop g) t ∧ t.status = .running ∧ Ended t below o ∧ Φ o t := by
  subst q; exact h
theorem own_ret (X : Stand p l e R s m args below meth c T locs cells slots) {v : Option Value} (hv : meth.sig.returnType = none → v = none) (hlk : meth.locks = false) {G : State}
    (k : ∀ fs, (∀ (f : JFrame) (acts : List Action), f.method = m → f.locked = none → f.entered = [] → (doReturn e (T.setTop f) acts v).1 = T.setFrames fs) → Steps p.tables e below G (T.setFrames fs))
    {Q : Option Value → Heap → List Loc → Prop} {h : Heap} (eT : T.heap = h) (hQ : Q v h locs) {cc ss : Nat} (hc : cells ≤ cc) (hs : slots ≤ ss) :
    own_Gs p e below (fun o t => ∃ v L, o = .returned v ∧ Q v t.heap L ∧ FrameEnd s o t L cc ss) G := by
  obtain ⟨fs, hr, hrun, hended, hW, hsame⟩ := X.leave (v := v) hv hlk
  subst eT
  exact ⟨_, _, k fs hr, hrun, hended, _, _, rfl, hQ, ⟨_, rfl⟩, hW, hsame.mono hc hs⟩
theorem own_retI (X : Stand p l e R s m args below meth c T locs cells slots) (hx : p.tables.exec = Jvm.exec) {pc : Nat} {Ls : Array Slot} {z : Int32} {rest : List Value} (hret : meth.sig.returnType = some .int) (hd : decode c.code pc = .ok (.ireturn, 1)) (hlk : meth.locks = false)
    {Q : Option Value → Heap → List Loc → Prop} {h : Heap} (eT : T.heap = h) (hQ : Q (some (.int z)) h locs) {cc ss : Nat} (hc : cells ≤ cc) (hs : slots ≤ ss) :
    own_Gs p e below (fun o t => ∃ v L, o = .returned v ∧ Q v t.heap L ∧ FrameEnd s o t L cc ss) (T.setTop (mkF m pc Ls (.int z :: rest))) :=
  own_ret X (fun h => by rw [hret] at h; cases h) hlk (fun fs hr => retI X hx hret hd hr) eT hQ hc hs
theorem own_retN (X : Stand p l e R s m args below meth c T locs cells slots) (hx : p.tables.exec = Jvm.exec) {pc : Nat} {Ls : Array Slot} {z : Int32} {t : FieldType} {rest : List Value} (hret : meth.sig.returnType = some t) (ht : t = .boolean ∨ t = .byte ∨ t = .char ∨ t = .short) (hd : decode c.code pc = .ok (.ireturn, 1)) (hlk : meth.locks = false)
    {Q : Option Value → Heap → List Loc → Prop} {h : Heap} (eT : T.heap = h) (hQ : Q (some (.int (nar t z))) h locs) {cc ss : Nat} (hc : cells ≤ cc) (hs : slots ≤ ss) :
    own_Gs p e below (fun o t => ∃ v L, o = .returned v ∧ Q v t.heap L ∧ FrameEnd s o t L cc ss) (T.setTop (mkF m pc Ls (.int z :: rest))) :=
  own_ret X (fun h => by rw [hret] at h; cases h) hlk (fun fs hr => retN X hx hret ht hd hr) eT hQ hc hs
theorem own_retL (X : Stand p l e R s m args below meth c T locs cells slots) (hx : p.tables.exec = Jvm.exec) {pc : Nat} {Ls : Array Slot} {z : Int64} {rest : List Value} (hret : meth.sig.returnType = some .long) (hd : decode c.code pc = .ok (.lreturn, 1)) (hlk : meth.locks = false)
    {Q : Option Value → Heap → List Loc → Prop} {h : Heap} (eT : T.heap = h) (hQ : Q (some (.long z)) h locs) {cc ss : Nat} (hc : cells ≤ cc) (hs : slots ≤ ss) :
    own_Gs p e below (fun o t => ∃ v L, o = .returned v ∧ Q v t.heap L ∧ FrameEnd s o t L cc ss) (T.setTop (mkF m pc Ls (.long z :: rest))) :=
  own_ret X (fun h => by rw [hret] at h; cases h) hlk (fun fs hr => retOut X hx hret rfl (Or.inr (Or.inl ⟨rfl, rfl, z, rfl⟩)) hd hr) eT hQ hc hs
theorem own_retA (X : Stand p l e R s m args below meth c T locs cells slots) (hx : p.tables.exec = Jvm.exec) {pc : Nat} {Ls : Array Slot} {z : Value} {t : FieldType} {rest : List Value} (hret : meth.sig.returnType = some t) (ht : t.isReference = true) (hz : z.isRef = true) (hd : decode c.code pc = .ok (.areturn, 1)) (hlk : meth.locks = false)
    {Q : Option Value → Heap → List Loc → Prop} {h : Heap} (eT : T.heap = h) (hQ : Q (some z) h locs) {cc ss : Nat} (hc : cells ≤ cc) (hs : slots ≤ ss) :
    own_Gs p e below (fun o t => ∃ v L, o = .returned v ∧ Q v t.heap L ∧ FrameEnd s o t L cc ss) (T.setTop (mkF m pc Ls (z :: rest))) :=
  own_ret X (fun h => by rw [hret] at h; cases h) hlk (fun fs hr => retOut X hx hret (by cases t <;> first | rfl | (cases z <;> first | rfl | (simp [Value.isRef] at hz) | (simp [FieldType.isReference] at ht))) (Or.inr (Or.inr (Or.inr (Or.inr ⟨rfl, ht, hz⟩)))) hd hr) eT hQ hc hs
theorem own_retV (X : Stand p l e R s m args below meth c T locs cells slots) (hx : p.tables.exec = Jvm.exec) {pc : Nat} {Ls : Array Slot} (hret : meth.sig.returnType = none) (hd : decode c.code pc = .ok (.return_, 1)) (hlk : meth.locks = false)
    {Q : Option Value → Heap → List Loc → Prop} {h : Heap} (eT : T.heap = h) (hQ : Q none h locs) {cc ss : Nat} (hc : cells ≤ cc) (hs : slots ≤ ss) :
    own_Gs p e below (fun o t => ∃ v L, o = .returned v ∧ Q v t.heap L ∧ FrameEnd s o t L cc ss) (T.setTop (mkF m pc Ls [])) :=
  own_ret X (fun _ => rfl) hlk (fun fs hr => X.returnOut hx hret hd hr) eT hQ hc hs
theorem own_retNW {vm0 : Vm} {k0 : Nat} (X : Stand p l e R (s.setVm vm0) m args below meth c T locs cells slots) (hS : s.Since vm0 k0) {h : Heap} (hk : k0 ≤ h.size) (hx : p.tables.exec = Jvm.exec) {pc : Nat} {Ls : Array Slot} {z : Int32} {t : FieldType} {rest : List Value} (hret : meth.sig.returnType = some t) (ht : t = .boolean ∨ t = .byte ∨ t = .char ∨ t = .short) (hd : decode c.code pc = .ok (.ireturn, 1)) (hlk : meth.locks = false)
    {Q : Option Value → Heap → List Loc → Prop} (eT : T.heap = h) (hQ : Q (some (.int (nar t z))) h locs) {cc ss : Nat} (hc : cells ≤ cc) (hs : slots ≤ ss) :
    own_Gs p e below (fun o t => ∃ v L, o = .returned v ∧ Q v t.heap L ∧ ReturnedEndW s o t L cc ss) (T.setTop (mkF m pc Ls (.int z :: rest))) := by
  subst eT
  obtain ⟨fs, hr, hrun, hended, h1, h2, h3, h4⟩ := X.leaveW hS hk (v := some (.int (nar t z))) (fun h => by rw [hret] at h; cases h) hlk
  exact ⟨_, _, retN X hx hret ht hd hr, hrun, hended, _, _, rfl, hQ, h1, h2, h3, h4.mono hc hs⟩
-- steps
theorem own_iloadN {Φ : Outcome → State → Prop} (X : Stand p l e R s m args below meth c T locs cells slots) (hx : p.tables.exec = Jvm.exec) {pc : Nat} (pc' : Nat) {Ls : Array Slot} {S : List Value} {k : Fin 4} {v : Int32} (hd : decode c.code pc = .ok (.iload_n k, 1)) (hl : Ls[k.val]? = some (.val (.int v))) (h : own_Gs p e below Φ (T.setTop (mkF m pc' Ls (.int v :: S)))) (hp : pc + 1 = pc' := by rfl) : own_Gs p e below Φ (T.setTop (mkF m pc Ls (S))) := by
  subst hp; exact own_st (fun t k => XS.iloadN X.here hx rfl hd hl k) h
theorem own_iload {Φ : Outcome → State → Prop} (X : Stand p l e R s m args below meth c T locs cells slots) (hx : p.tables.exec = Jvm.exec) {pc : Nat} (pc' : Nat) {Ls : Array Slot} {S : List Value} {k : Nat} {v : Int32} (hd : decode c.code pc = .ok (.iload k, 2)) (hl : Ls[k]? = some (.val (.int v))) (h : own_Gs p e below Φ (T.setTop (mkF m pc' Ls (.int v :: S)))) (hp : pc + 2 = pc' := by rfl) : own_Gs p e below Φ (T.setTop (mkF m pc Ls (S))) := by
  subst hp; exact own_st (fun t k => XS.iload X.here hx rfl hd hl k) h
theorem own_lloadN {Φ : Outcome → State → Prop} (X : Stand p l e R s m args below meth c T locs cells slots) (hx : p.tables.exec = Jvm.exec) {pc : Nat} (pc' : Nat) {Ls : Array Slot} {S : List Value} {k : Fin 4} {v : Int64} (hd : decode c.code pc = .ok (.lload_n k, 1)) (hl : Ls[k.val]? = some (.val (.long v))) (h : own_Gs p e below Φ (T.setTop (mkF m pc' Ls (.long v :: S)))) (hp : pc + 1 = pc' := by rfl) : own_Gs p e below Φ (T.setTop (mkF m pc Ls (S))) := by
  subst hp; exact own_st (fun t k => XS.lloadN X.here hx rfl hd hl k) h
theorem own_lload {Φ : Outcome → State → Prop} (X : Stand p l e R s m args below meth c T locs cells slots) (hx : p.tables.exec = Jvm.exec) {pc : Nat} (pc' : Nat) {Ls : Array Slot} {S : List Value} {k : Nat} {v : Int64} (hd : decode c.code pc = .ok (.lload k, 2)) (hl : Ls[k]? = some (.val (.long v))) (h : own_Gs p e below Φ (T.setTop (mkF m pc' Ls (.long v :: S)))) (hp : pc + 2 = pc' := by rfl) : own_Gs p e below Φ (T.setTop (mkF m pc Ls (S))) := by
  subst hp; exact own_st (fun t k => XS.lload X.here hx rfl hd hl k) h
theorem own_aloadN {Φ : Outcome → State → Prop} (X : Stand p l e R s m args below meth c T locs cells slots) (hx : p.tables.exec = Jvm.exec) {pc : Nat} (pc' : Nat) {Ls : Array Slot} {S : List Value} {k : Fin 4} {v : Value} (hd : decode c.code pc = .ok (.aload_n k, 1)) (hl : Ls[k.val]? = some (.val v)) (hv : v.isRef = true) (h : own_Gs p e below Φ (T.setTop (mkF m pc' Ls (v :: S)))) (hp : pc + 1 = pc' := by rfl) : own_Gs p e below Φ (T.setTop (mkF m pc Ls (S))) := by
  subst hp; exact own_st (fun t k => XS.aloadN X.here hx rfl hd hl hv k) h
theorem own_aload {Φ : Outcome → State → Prop} (X : Stand p l e R s m args below meth c T locs cells slots) (hx : p.tables.exec = Jvm.exec) {pc : Nat} (pc' : Nat) {Ls : Array Slot} {S : List Value} {k : Nat} {v : Value} (hd : decode c.code pc = .ok (.aload k, 2)) (hl : Ls[k]? = some (.val v)) (hv : v.isRef = true) (h : own_Gs p e below Φ (T.setTop (mkF m pc' Ls (v :: S)))) (hp : pc + 2 = pc' := by rfl) : own_Gs p e below Φ (T.setTop (mkF m pc Ls (S))) := by
  subst hp; exact own_st (fun t k => XS.aload X.here hx rfl hd hl hv k) h
theorem own_istoreN {Φ : Outcome → State → Prop} (X : Stand p l e R s m args below meth c T locs cells slots) (hx : p.tables.exec = Jvm.exec) {pc : Nat} (pc' : Nat) {Ls : Array Slot} {S : List Value} {k : Fin 4} {v : Int32} (l' : Array Slot) (hd : decode c.code pc = .ok (.istore_n k, 1)) (hl : storeLocals Ls k.val (.int v) = some l') (h : own_Gs p e below Φ (T.setTop (mkF m pc' l' (S)))) (hp : pc + 1 = pc' := by rfl) : own_Gs p e below Φ (T.setTop (mkF m pc Ls (.int v :: S))) := by
  subst hp; exact own_st (fun t k => XS.istoreN X.here hx rfl hd rfl hl k) h
theorem own_istore {Φ : Outcome → State → Prop} (X : Stand p l e R s m args below meth c T locs cells slots) (hx : p.tables.exec = Jvm.exec) {pc : Nat} (pc' : Nat) {Ls : Array Slot} {S : List Value} {k : Nat} {v : Int32} (l' : Array Slot) (hd : decode c.code pc = .ok (.istore k, 2)) (hl : storeLocals Ls k (.int v) = some l') (h : own_Gs p e below Φ (T.setTop (mkF m pc' l' (S)))) (hp : pc + 2 = pc' := by rfl) : own_Gs p e below Φ (T.setTop (mkF m pc Ls (.int v :: S))) := by
  subst hp; exact own_st (fun t k => XS.istore X.here hx rfl hd rfl hl k) h
theorem own_lstoreN {Φ : Outcome → State → Prop} (X : Stand p l e R s m args below meth c T locs cells slots) (hx : p.tables.exec = Jvm.exec) {pc : Nat} (pc' : Nat) {Ls : Array Slot} {S : List Value} {k : Fin 4} {v : Int64} (l' : Array Slot) (hd : decode c.code pc = .ok (.lstore_n k, 1)) (hl : storeLocals Ls k.val (.long v) = some l') (h : own_Gs p e below Φ (T.setTop (mkF m pc' l' (S)))) (hp : pc + 1 = pc' := by rfl) : own_Gs p e below Φ (T.setTop (mkF m pc Ls (.long v :: S))) := by
  subst hp; exact own_st (fun t k => XS.lstoreN X.here hx rfl hd rfl hl k) h
theorem own_lstore {Φ : Outcome → State → Prop} (X : Stand p l e R s m args below meth c T locs cells slots) (hx : p.tables.exec = Jvm.exec) {pc : Nat} (pc' : Nat) {Ls : Array Slot} {S : List Value} {k : Nat} {v : Int64} (l' : Array Slot) (hd : decode c.code pc = .ok (.lstore k, 2)) (hl : storeLocals Ls k (.long v) = some l') (h : own_Gs p e below Φ (T.setTop (mkF m pc' l' (S)))) (hp : pc + 2 = pc' := by rfl) : own_Gs p e below Φ (T.setTop (mkF m pc Ls (.long v :: S))) := by
  subst hp; exact own_st (fun t k => XS.lstore X.here hx rfl hd rfl hl k) h
theorem own_astoreN {Φ : Outcome → State → Prop} (X : Stand p l e R s m args below meth c T locs cells slots) (hx : p.tables.exec = Jvm.exec) {pc : Nat} (pc' : Nat) {Ls : Array Slot} {S : List Value} {k : Fin 4} {v : Value} (l' : Array Slot) (hd : decode c.code pc = .ok (.astore_n k, 1)) (hv : v.isRef = true) (hl : storeLocals Ls k.val v = some l') (h : own_Gs p e below Φ (T.setTop (mkF m pc' l' (S)))) (hp : pc + 1 = pc' := by rfl) : own_Gs p e below Φ (T.setTop (mkF m pc Ls (v :: S))) := by
  subst hp; exact own_st (fun t k => XS.astoreN X.here hx rfl hd rfl hv hl k) h
theorem own_astore {Φ : Outcome → State → Prop} (X : Stand p l e R s m args below meth c T locs cells slots) (hx : p.tables.exec = Jvm.exec) {pc : Nat} (pc' : Nat) {Ls : Array Slot} {S : List Value} {k : Nat} {v : Value} (l' : Array Slot) (hd : decode c.code pc = .ok (.astore k, 2)) (hv : v.isRef = true) (hl : storeLocals Ls k v = some l') (h : own_Gs p e below Φ (T.setTop (mkF m pc' l' (S)))) (hp : pc + 2 = pc' := by rfl) : own_Gs p e below Φ (T.setTop (mkF m pc Ls (v :: S))) := by
  subst hp; exact own_st (fun t k => XS.astore X.here hx rfl hd rfl hv hl k) h
theorem own_iconst {Φ : Outcome → State → Prop} (X : Stand p l e R s m args below meth c T locs cells slots) (hx : p.tables.exec = Jvm.exec) {pc : Nat} (pc' : Nat) {Ls : Array Slot} {S : List Value} {i : Int} (z : Int32) (hd : decode c.code pc = .ok (.iconst i, 1)) (hz : Int32.ofInt i = z) (h : own_Gs p e below Φ (T.setTop (mkF m pc' Ls (.int z :: S)))) (hp : pc + 1 = pc' := by rfl) : own_Gs p e below Φ (T.setTop (mkF m pc Ls (S))) := by
  subst hp; exact own_st (fun t k => XS.iconst X.here hx rfl hd (hz ▸ k)) h
theorem own_bipush {Φ : Outcome → State → Prop} (X : Stand p l e R s m args below meth c T locs cells slots) (hx : p.tables.exec = Jvm.exec) {pc : Nat} (pc' : Nat) {Ls : Array Slot} {S : List Value} {i : Int} (z : Int32) (hd : decode c.code pc = .ok (.bipush i, 2)) (hz : (Int8.ofInt i).toInt32 = z) (h : own_Gs p e below Φ (T.setTop (mkF m pc' Ls (.int z :: S)))) (hp : pc + 2 = pc' := by rfl) : own_Gs p e below Φ (T.setTop (mkF m pc Ls (S))) := by
  subst hp; exact own_st (fun t k => XS.bipush X.here hx rfl hd (hz ▸ k)) h
theorem own_sipush {Φ : Outcome → State → Prop} (X : Stand p l e R s m args below meth c T locs cells slots) (hx : p.tables.exec = Jvm.exec) {pc : Nat} (pc' : Nat) {Ls : Array Slot} {S : List Value} {i : Int} (z : Int32) (hd : decode c.code pc = .ok (.sipush i, 3)) (hz : (Int16.ofInt i).toInt32 = z) (h : own_Gs p e below Φ (T.setTop (mkF m pc' Ls (.int z :: S)))) (hp : pc + 3 = pc' := by rfl) : own_Gs p e below Φ (T.setTop (mkF m pc Ls (S))) := by
  subst hp; exact own_st (fun t k => XS.sipush X.here hx rfl hd (hz ▸ k)) h
theorem own_lconst {Φ : Outcome → State → Prop} (X : Stand p l e R s m args below meth c T locs cells slots) (hx : p.tables.exec = Jvm.exec) {pc : Nat} (pc' : Nat) {Ls : Array Slot} {S : List Value} {i : Fin 2} (z : Int64) (hd : decode c.code pc = .ok (.lconst i, 1)) (hz : Int64.ofNat i = z) (h : own_Gs p e below Φ (T.setTop (mkF m pc' Ls (.long z :: S)))) (hp : pc + 1 = pc' := by rfl) : own_Gs p e below Φ (T.setTop (mkF m pc Ls (S))) := by
  subst hp; exact own_st (fun t k => XS.lconst X.here hx rfl hd (hz ▸ k)) h
theorem own_aconstNull {Φ : Outcome → State → Prop} (X : Stand p l e R s m args below meth c T locs cells slots) (hx : p.tables.exec = Jvm.exec) {pc : Nat} (pc' : Nat) {Ls : Array Slot} {S : List Value}  (hd : decode c.code pc = .ok (.aconst_null, 1)) (h : own_Gs p e below Φ (T.setTop (mkF m pc' Ls (.null :: S)))) (hp : pc + 1 = pc' := by rfl) : own_Gs p e below Φ (T.setTop (mkF m pc Ls (S))) := by
  subst hp; exact own_st (fun t k => XS.aconstNull X.here hx rfl hd k) h
theorem own_iadd {Φ : Outcome → State → Prop} (X : Stand p l e R s m args below meth c T locs cells slots) (hx : p.tables.exec = Jvm.exec) {pc : Nat} (pc' : Nat) {Ls : Array Slot} {S : List Value} {x y : Int32} (hd : decode c.code pc = .ok (.iadd, 1)) (h : own_Gs p e below Φ (T.setTop (mkF m pc' Ls (.int (x + y) :: S)))) (hp : pc + 1 = pc' := by rfl) : own_Gs p e below Φ (T.setTop (mkF m pc Ls (.int y :: .int x :: S))) := by
  subst hp; exact own_st (fun t k => XS.iadd X.here hx rfl hd rfl k) h
theorem own_ladd {Φ : Outcome → State → Prop} (X : Stand p l e R s m args below meth c T locs cells slots) (hx : p.tables.exec = Jvm.exec) {pc : Nat} (pc' : Nat) {Ls : Array Slot} {S : List Value} {x y : Int64} (hd : decode c.code pc = .ok (.ladd, 1)) (h : own_Gs p e below Φ (T.setTop (mkF m pc' Ls (.long (x + y) :: S)))) (hp : pc + 1 = pc' := by rfl) : own_Gs p e below Φ (T.setTop (mkF m pc Ls (.long y :: .long x :: S))) := by
  subst hp; exact own_st (fun t k => XS.ladd X.here hx rfl hd rfl k) h
theorem own_isub {Φ : Outcome → State → Prop} (X : Stand p l e R s m args below meth c T locs cells slots) (hx : p.tables.exec = Jvm.exec) {pc : Nat} (pc' : Nat) {Ls : Array Slot} {S : List Value} {x y : Int32} (hd : decode c.code pc = .ok (.isub, 1)) (h : own_Gs p e below Φ (T.setTop (mkF m pc' Ls (.int (x - y) :: S)))) (hp : pc + 1 = pc' := by rfl) : own_Gs p e below Φ (T.setTop (mkF m pc Ls (.int y :: .int x :: S))) := by
  subst hp; exact own_st (fun t k => XS.isub X.here hx rfl hd rfl k) h
theorem own_lsub {Φ : Outcome → State → Prop} (X : Stand p l e R s m args below meth c T locs cells slots) (hx : p.tables.exec = Jvm.exec) {pc : Nat} (pc' : Nat) {Ls : Array Slot} {S : List Value} {x y : Int64} (hd : decode c.code pc = .ok (.lsub, 1)) (h : own_Gs p e below Φ (T.setTop (mkF m pc' Ls (.long (x - y) :: S)))) (hp : pc + 1 = pc' := by rfl) : own_Gs p e below Φ (T.setTop (mkF m pc Ls (.long y :: .long x :: S))) := by
  subst hp; exact own_st (fun t k => XS.lsub X.here hx rfl hd rfl k) h
theorem own_imul {Φ : Outcome → State → Prop} (X : Stand p l e R s m args below meth c T locs cells slots) (hx : p.tables.exec = Jvm.exec) {pc : Nat} (pc' : Nat) {Ls : Array Slot} {S : List Value} {x y : Int32} (hd : decode c.code pc = .ok (.imul, 1)) (h : own_Gs p e below Φ (T.setTop (mkF m pc' Ls (.int (x * y) :: S)))) (hp : pc + 1 = pc' := by rfl) : own_Gs p e below Φ (T.setTop (mkF m pc Ls (.int y :: .int x :: S))) := by
  subst hp; exact own_st (fun t k => XS.imul X.here hx rfl hd rfl k) h
theorem own_lmul {Φ : Outcome → State → Prop} (X : Stand p l e R s m args below meth c T locs cells slots) (hx : p.tables.exec = Jvm.exec) {pc : Nat} (pc' : Nat) {Ls : Array Slot} {S : List Value} {x y : Int64} (hd : decode c.code pc = .ok (.lmul, 1)) (h : own_Gs p e below Φ (T.setTop (mkF m pc' Ls (.long (x * y) :: S)))) (hp : pc + 1 = pc' := by rfl) : own_Gs p e below Φ (T.setTop (mkF m pc Ls (.long y :: .long x :: S))) := by
  subst hp; exact own_st (fun t k => XS.lmul X.here hx rfl hd rfl k) h
theorem own_iand {Φ : Outcome → State → Prop} (X : Stand p l e R s m args below meth c T locs cells slots) (hx : p.tables.exec = Jvm.exec) {pc : Nat} (pc' : Nat) {Ls : Array Slot} {S : List Value} {x y : Int32} (hd : decode c.code pc = .ok (.iand, 1)) (h : own_Gs p e below Φ (T.setTop (mkF m pc' Ls (.int (x &&& y) :: S)))) (hp : pc + 1 = pc' := by rfl) : own_Gs p e below Φ (T.setTop (mkF m pc Ls (.int y :: .int x :: S))) := by
  subst hp; exact own_st (fun t k => XS.iand X.here hx rfl hd rfl k) h
theorem own_land {Φ : Outcome → State → Prop} (X : Stand p l e R s m args below meth c T locs cells slots) (hx : p.tables.exec = Jvm.exec) {pc : Nat} (pc' : Nat) {Ls : Array Slot} {S : List Value} {x y : Int64} (hd : decode c.code pc = .ok (.land, 1)) (h : own_Gs p e below Φ (T.setTop (mkF m pc' Ls (.long (x &&& y) :: S)))) (hp : pc + 1 = pc' := by rfl) : own_Gs p e below Φ (T.setTop (mkF m pc Ls (.long y :: .long x :: S))) := by
  subst hp; exact own_st (fun t k => XS.land X.here hx rfl hd rfl k) h
theorem own_ior {Φ : Outcome → State → Prop} (X : Stand p l e R s m args below meth c T locs cells slots) (hx : p.tables.exec = Jvm.exec) {pc : Nat} (pc' : Nat) {Ls : Array Slot} {S : List Value} {x y : Int32} (hd : decode c.code pc = .ok (.ior, 1)) (h : own_Gs p e below Φ (T.setTop (mkF m pc' Ls (.int (x ||| y) :: S)))) (hp : pc + 1 = pc' := by rfl) : own_Gs p e below Φ (T.setTop (mkF m pc Ls (.int y :: .int x :: S))) := by
  subst hp; exact own_st (fun t k => XS.ior X.here hx rfl hd rfl k) h
theorem own_lor {Φ : Outcome → State → Prop} (X : Stand p l e R s m args below meth c T locs cells slots) (hx : p.tables.exec = Jvm.exec) {pc : Nat} (pc' : Nat) {Ls : Array Slot} {S : List Value} {x y : Int64} (hd : decode c.code pc = .ok (.lor, 1)) (h : own_Gs p e below Φ (T.setTop (mkF m pc' Ls (.long (x ||| y) :: S)))) (hp : pc + 1 = pc' := by rfl) : own_Gs p e below Φ (T.setTop (mkF m pc Ls (.long y :: .long x :: S))) := by
  subst hp; exact own_st (fun t k => XS.lor X.here hx rfl hd rfl k) h
theorem own_ixor {Φ : Outcome → State → Prop} (X : Stand p l e R s m args below meth c T locs cells slots) (hx : p.tables.exec = Jvm.exec) {pc : Nat} (pc' : Nat) {Ls : Array Slot} {S : List Value} {x y : Int32} (hd : decode c.code pc = .ok (.ixor, 1)) (h : own_Gs p e below Φ (T.setTop (mkF m pc' Ls (.int (x ^^^ y) :: S)))) (hp : pc + 1 = pc' := by rfl) : own_Gs p e below Φ (T.setTop (mkF m pc Ls (.int y :: .int x :: S))) := by
  subst hp; exact own_st (fun t k => XS.ixor X.here hx rfl hd rfl k) h
theorem own_lxor {Φ : Outcome → State → Prop} (X : Stand p l e R s m args below meth c T locs cells slots) (hx : p.tables.exec = Jvm.exec) {pc : Nat} (pc' : Nat) {Ls : Array Slot} {S : List Value} {x y : Int64} (hd : decode c.code pc = .ok (.lxor, 1)) (h : own_Gs p e below Φ (T.setTop (mkF m pc' Ls (.long (x ^^^ y) :: S)))) (hp : pc + 1 = pc' := by rfl) : own_Gs p e below Φ (T.setTop (mkF m pc Ls (.long y :: .long x :: S))) := by
  subst hp; exact own_st (fun t k => XS.lxor X.here hx rfl hd rfl k) h
theorem own_idiv {Φ : Outcome → State → Prop} (X : Stand p l e R s m args below meth c T locs cells slots) (hx : p.tables.exec = Jvm.exec) {pc : Nat} (pc' : Nat) {Ls : Array Slot} {S : List Value} {x y : Int32} (hd : decode c.code pc = .ok (.idiv, 1)) (hy : y ≠ 0) (h : own_Gs p e below Φ (T.setTop (mkF m pc' Ls (.int (x / y) :: S)))) (hp : pc + 1 = pc' := by rfl) : own_Gs p e below Φ (T.setTop (mkF m pc Ls (.int y :: .int x :: S))) := by
  subst hp; exact own_st (fun t k => XS.idiv X.here hx rfl hd rfl hy k) h
theorem own_ldiv {Φ : Outcome → State → Prop} (X : Stand p l e R s m args below meth c T locs cells slots) (hx : p.tables.exec = Jvm.exec) {pc : Nat} (pc' : Nat) {Ls : Array Slot} {S : List Value} {x y : Int64} (hd : decode c.code pc = .ok (.ldiv, 1)) (hy : y ≠ 0) (h : own_Gs p e below Φ (T.setTop (mkF m pc' Ls (.long (x / y) :: S)))) (hp : pc + 1 = pc' := by rfl) : own_Gs p e below Φ (T.setTop (mkF m pc Ls (.long y :: .long x :: S))) := by
  subst hp; exact own_st (fun t k => XS.ldiv X.here hx rfl hd rfl hy k) h
theorem own_irem {Φ : Outcome → State → Prop} (X : Stand p l e R s m args below meth c T locs cells slots) (hx : p.tables.exec = Jvm.exec) {pc : Nat} (pc' : Nat) {Ls : Array Slot} {S : List Value} {x y : Int32} (hd : decode c.code pc = .ok (.irem, 1)) (hy : y ≠ 0) (h : own_Gs p e below Φ (T.setTop (mkF m pc' Ls (.int (x % y) :: S)))) (hp : pc + 1 = pc' := by rfl) : own_Gs p e below Φ (T.setTop (mkF m pc Ls (.int y :: .int x :: S))) := by
  subst hp; exact own_st (fun t k => iremM X hx rfl hd rfl hy k) h
theorem own_lrem {Φ : Outcome → State → Prop} (X : Stand p l e R s m args below meth c T locs cells slots) (hx : p.tables.exec = Jvm.exec) {pc : Nat} (pc' : Nat) {Ls : Array Slot} {S : List Value} {x y : Int64} (hd : decode c.code pc = .ok (.lrem, 1)) (hy : y ≠ 0) (h : own_Gs p e below Φ (T.setTop (mkF m pc' Ls (.long (x % y) :: S)))) (hp : pc + 1 = pc' := by rfl) : own_Gs p e below Φ (T.setTop (mkF m pc Ls (.long y :: .long x :: S))) := by
  subst hp; exact own_st (fun t k => XS.lrem X.here hx rfl hd rfl hy (by rw [lrem_mod]; exact k)) h
theorem own_ishl {Φ : Outcome → State → Prop} (X : Stand p l e R s m args below meth c T locs cells slots) (hx : p.tables.exec = Jvm.exec) {pc : Nat} (pc' : Nat) {Ls : Array Slot} {S : List Value} {x y : Int32} (hd : decode c.code pc = .ok (.ishl, 1)) (h : own_Gs p e below Φ (T.setTop (mkF m pc' Ls (.int (x <<< (y &&& 31)) :: S)))) (hp : pc + 1 = pc' := by rfl) : own_Gs p e below Φ (T.setTop (mkF m pc Ls (.int y :: .int x :: S))) := by
  subst hp; exact own_st (fun t k => XS.ishl X.here hx rfl hd rfl k) h
theorem own_ishr {Φ : Outcome → State → Prop} (X : Stand p l e R s m args below meth c T locs cells slots) (hx : p.tables.exec = Jvm.exec) {pc : Nat} (pc' : Nat) {Ls : Array Slot} {S : List Value} {x y : Int32} (hd : decode c.code pc = .ok (.ishr, 1)) (h : own_Gs p e below Φ (T.setTop (mkF m pc' Ls (.int (x >>> (y &&& 31)) :: S)))) (hp : pc + 1 = pc' := by rfl) : own_Gs p e below Φ (T.setTop (mkF m pc Ls (.int y :: .int x :: S))) := by
  subst hp; exact own_st (fun t k => XS.ishr X.here hx rfl hd rfl k) h
theorem own_iushr {Φ : Outcome → State → Prop} (X : Stand p l e R s m args below meth c T locs cells slots) (hx : p.tables.exec = Jvm.exec) {pc : Nat} (pc' : Nat) {Ls : Array Slot} {S : List Value} {x y : Int32} (hd : decode c.code pc = .ok (.iushr, 1)) (h : own_Gs p e below Φ (T.setTop (mkF m pc' Ls (.int ((x.toUInt32 >>> (y &&& 31).toUInt32).toInt32) :: S)))) (hp : pc + 1 = pc' := by rfl) : own_Gs p e below Φ (T.setTop (mkF m pc Ls (.int y :: .int x :: S))) := by
  subst hp; exact own_st (fun t k => XS.iushr X.here hx rfl hd rfl k) h
theorem own_lshl {Φ : Outcome → State → Prop} (X : Stand p l e R s m args below meth c T locs cells slots) (hx : p.tables.exec = Jvm.exec) {pc : Nat} (pc' : Nat) {Ls : Array Slot} {S : List Value} {x : Int64} {y : Int32} (hd : decode c.code pc = .ok (.lshl, 1)) (h : own_Gs p e below Φ (T.setTop (mkF m pc' Ls (.long (x <<< (y &&& 0x3f).toInt64) :: S)))) (hp : pc + 1 = pc' := by rfl) : own_Gs p e below Φ (T.setTop (mkF m pc Ls (.int y :: .long x :: S))) := by
  subst hp; exact own_st (fun t k => XS.lshl X.here hx rfl hd rfl k) h
theorem own_lshr {Φ : Outcome → State → Prop} (X : Stand p l e R s m args below meth c T locs cells slots) (hx : p.tables.exec = Jvm.exec) {pc : Nat} (pc' : Nat) {Ls : Array Slot} {S : List Value} {x : Int64} {y : Int32} (hd : decode c.code pc = .ok (.lshr, 1)) (h : own_Gs p e below Φ (T.setTop (mkF m pc' Ls (.long (x >>> (y &&& 0x3f).toInt64) :: S)))) (hp : pc + 1 = pc' := by rfl) : own_Gs p e below Φ (T.setTop (mkF m pc Ls (.int y :: .long x :: S))) := by
  subst hp; exact own_st (fun t k => XS.lshr X.here hx rfl hd rfl k) h
theorem own_lushr {Φ : Outcome → State → Prop} (X : Stand p l e R s m args below meth c T locs cells slots) (hx : p.tables.exec = Jvm.exec) {pc : Nat} (pc' : Nat) {Ls : Array Slot} {S : List Value} {x : Int64} {y : Int32} (hd : decode c.code pc = .ok (.lushr, 1)) (h : own_Gs p e below Φ (T.setTop (mkF m pc' Ls (.long ((x.toUInt64 >>> (y &&& 0x3f).toInt64.toUInt64).toInt64) :: S)))) (hp : pc + 1 = pc' := by rfl) : own_Gs p e below Φ (T.setTop (mkF m pc Ls (.int y :: .long x :: S))) := by
  subst hp; exact own_st (fun t k => XS.lushr X.here hx rfl hd rfl k) h
theorem own_ineg {Φ : Outcome → State → Prop} (X : Stand p l e R s m args below meth c T locs cells slots) (hx : p.tables.exec = Jvm.exec) {pc : Nat} (pc' : Nat) {Ls : Array Slot} {S : List Value} {x : Int32} (hd : decode c.code pc = .ok (.ineg, 1)) (h : own_Gs p e below Φ (T.setTop (mkF m pc' Ls (.int (-x) :: S)))) (hp : pc + 1 = pc' := by rfl) : own_Gs p e below Φ (T.setTop (mkF m pc Ls (.int x :: S))) := by
  subst hp; exact own_st (fun t k => XS.ineg X.here hx rfl hd rfl k) h
theorem own_lneg {Φ : Outcome → State → Prop} (X : Stand p l e R s m args below meth c T locs cells slots) (hx : p.tables.exec = Jvm.exec) {pc : Nat} (pc' : Nat) {Ls : Array Slot} {S : List Value} {x : Int64} (hd : decode c.code pc = .ok (.lneg, 1)) (h : own_Gs p e below Φ (T.setTop (mkF m pc' Ls (.long (-x) :: S)))) (hp : pc + 1 = pc' := by rfl) : own_Gs p e below Φ (T.setTop (mkF m pc Ls (.long x :: S))) := by
  subst hp; exact own_st (fun t k => XS.lneg X.here hx rfl hd rfl k) h
theorem own_i2l {Φ : Outcome → State → Prop} (X : Stand p l e R s m args below meth c T locs cells slots) (hx : p.tables.exec = Jvm.exec) {pc : Nat} (pc' : Nat) {Ls : Array Slot} {S : List Value} {x : Int32} (hd : decode c.code pc = .ok (.i2l, 1)) (h : own_Gs p e below Φ (T.setTop (mkF m pc' Ls (.long (x.toInt64) :: S)))) (hp : pc + 1 = pc' := by rfl) : own_Gs p e below Φ (T.setTop (mkF m pc Ls (.int x :: S))) := by
  subst hp; exact own_st (fun t k => XS.i2l X.here hx rfl hd rfl k) h
theorem own_l2i {Φ : Outcome → State → Prop} (X : Stand p l e R s m args below meth c T locs cells slots) (hx : p.tables.exec = Jvm.exec) {pc : Nat} (pc' : Nat) {Ls : Array Slot} {S : List Value} {x : Int64} (hd : decode c.code pc = .ok (.l2i, 1)) (h : own_Gs p e below Φ (T.setTop (mkF m pc' Ls (.int (x.toInt32) :: S)))) (hp : pc + 1 = pc' := by rfl) : own_Gs p e below Φ (T.setTop (mkF m pc Ls (.long x :: S))) := by
  subst hp; exact own_st (fun t k => XS.l2i X.here hx rfl hd rfl k) h
theorem own_i2b {Φ : Outcome → State → Prop} (X : Stand p l e R s m args below meth c T locs cells slots) (hx : p.tables.exec = Jvm.exec) {pc : Nat} (pc' : Nat) {Ls : Array Slot} {S : List Value} {x : Int32} (hd : decode c.code pc = .ok (.i2b, 1)) (h : own_Gs p e below Φ (T.setTop (mkF m pc' Ls (.int (x.toInt8.toInt32) :: S)))) (hp : pc + 1 = pc' := by rfl) : own_Gs p e below Φ (T.setTop (mkF m pc Ls (.int x :: S))) := by
  subst hp; exact own_st (fun t k => XS.i2b X.here hx rfl hd rfl k) h
theorem own_i2s {Φ : Outcome → State → Prop} (X : Stand p l e R s m args below meth c T locs cells slots) (hx : p.tables.exec = Jvm.exec) {pc : Nat} (pc' : Nat) {Ls : Array Slot} {S : List Value} {x : Int32} (hd : decode c.code pc = .ok (.i2s, 1)) (h : own_Gs p e below Φ (T.setTop (mkF m pc' Ls (.int (x.toInt16.toInt32) :: S)))) (hp : pc + 1 = pc' := by rfl) : own_Gs p e below Φ (T.setTop (mkF m pc Ls (.int x :: S))) := by
  subst hp; exact own_st (fun t k => XS.i2s X.here hx rfl hd rfl k) h
theorem own_i2c {Φ : Outcome → State → Prop} (X : Stand p l e R s m args below meth c T locs cells slots) (hx : p.tables.exec = Jvm.exec) {pc : Nat} (pc' : Nat) {Ls : Array Slot} {S : List Value} {x : Int32} (hd : decode c.code pc = .ok (.i2c, 1)) (h : own_Gs p e below Φ (T.setTop (mkF m pc' Ls (.int (x.toUInt32.toUInt16.toUInt32.toInt32) :: S)))) (hp : pc + 1 = pc' := by rfl) : own_Gs p e below Φ (T.setTop (mkF m pc Ls (.int x :: S))) := by
  subst hp; exact own_st (fun t k => XS.i2c X.here hx rfl hd rfl k) h
theorem own_lcmp {Φ : Outcome → State → Prop} (X : Stand p l e R s m args below meth c T locs cells slots) (hx : p.tables.exec = Jvm.exec) {pc : Nat} (pc' : Nat) {Ls : Array Slot} {S : List Value} {x y : Int64} (hd : decode c.code pc = .ok (.lcmp, 1)) (h : own_Gs p e below Φ (T.setTop (mkF m pc' Ls (.int (lcmpW x y) :: S)))) (hp : pc + 1 = pc' := by rfl) : own_Gs p e below Φ (T.setTop (mkF m pc Ls (.long y :: .long x :: S))) := by
  subst hp; exact own_st (fun t k => XS.lcmp X.here hx rfl hd rfl k) h
theorem own_iinc {Φ : Outcome → State → Prop} (X : Stand p l e R s m args below meth c T locs cells slots) (hx : p.tables.exec = Jvm.exec) {pc : Nat} (pc' : Nat) {Ls : Array Slot} {S : List Value} {i : Nat} {cst : Int} {x : Int32} (z : Int32) (l' : Array Slot) (hd : decode c.code pc = .ok (.iinc i cst, 3)) (hl : Ls[i]? = some (.val (.int x))) (hz : Int32.ofInt cst = z) (hl' : storeLocals Ls i (.int (x + z)) = some l') (h : own_Gs p e below Φ (T.setTop (mkF m pc' l' (S)))) (hp : pc + 3 = pc' := by rfl) : own_Gs p e below Φ (T.setTop (mkF m pc Ls (S))) := by
  subst hp; exact own_st (fun t k => XS.iinc X.here hx rfl hd hl (hz ▸ hl') k) h
theorem own_dup {Φ : Outcome → State → Prop} (X : Stand p l e R s m args below meth c T locs cells slots) (hx : p.tables.exec = Jvm.exec) {pc : Nat} (pc' : Nat) {Ls : Array Slot} {S : List Value} {v : Value} (hd : decode c.code pc = .ok (.dup, 1)) (hc : v.category = 1) (h : own_Gs p e below Φ (T.setTop (mkF m pc' Ls (v :: v :: S)))) (hp : pc + 1 = pc' := by rfl) : own_Gs p e below Φ (T.setTop (mkF m pc Ls (v :: S))) := by
  subst hp; exact own_st (fun t k => XS.dup X.here hx rfl hd rfl hc k) h
theorem own_pop {Φ : Outcome → State → Prop} (X : Stand p l e R s m args below meth c T locs cells slots) (hx : p.tables.exec = Jvm.exec) {pc : Nat} (pc' : Nat) {Ls : Array Slot} {S : List Value} {v : Value} (hd : decode c.code pc = .ok (.pop, 1)) (hc : v.category = 1) (h : own_Gs p e below Φ (T.setTop (mkF m pc' Ls (S)))) (hp : pc + 1 = pc' := by rfl) : own_Gs p e below Φ (T.setTop (mkF m pc Ls (v :: S))) := by
  subst hp; exact own_st (fun t k => XS.pop X.here hx rfl hd rfl hc k) h
theorem own_dupX1 {Φ : Outcome → State → Prop} (X : Stand p l e R s m args below meth c T locs cells slots) (hx : p.tables.exec = Jvm.exec) {pc : Nat} (pc' : Nat) {Ls : Array Slot} {S : List Value} {v w : Value} (hd : decode c.code pc = .ok (.dup_x1, 1)) (hc : v.category = 1) (hc' : w.category = 1) (h : own_Gs p e below Φ (T.setTop (mkF m pc' Ls (v :: w :: v :: S)))) (hp : pc + 1 = pc' := by rfl) : own_Gs p e below Φ (T.setTop (mkF m pc Ls (v :: w :: S))) := by
  subst hp; exact own_st (fun t k => XS.dupX1 X.here hx rfl hd rfl hc hc' k) h
theorem own_dup2 {Φ : Outcome → State → Prop} (X : Stand p l e R s m args below meth c T locs cells slots) (hx : p.tables.exec = Jvm.exec) {pc : Nat} (pc' : Nat) {Ls : Array Slot} {S : List Value} {v w : Value} (hd : decode c.code pc = .ok (.dup2, 1)) (hc : v.category = 1) (hc' : w.category = 1) (h : own_Gs p e below Φ (T.setTop (mkF m pc' Ls (v :: w :: v :: w :: S)))) (hp : pc + 1 = pc' := by rfl) : own_Gs p e below Φ (T.setTop (mkF m pc Ls (v :: w :: S))) := by
  subst hp; exact own_st (fun t k => Jvm.Free.XT.dup2 X.here hx rfl hd rfl hc hc' k) h
theorem own_dup2L {Φ : Outcome → State → Prop} (X : Stand p l e R s m args below meth c T locs cells slots) (hx : p.tables.exec = Jvm.exec) {pc : Nat} (pc' : Nat) {Ls : Array Slot} {S : List Value} {x : Int64} (hd : decode c.code pc = .ok (.dup2, 1)) (h : own_Gs p e below Φ (T.setTop (mkF m pc' Ls (.long x :: .long x :: S)))) (hp : pc + 1 = pc' := by rfl) : own_Gs p e below Φ (T.setTop (mkF m pc Ls (.long x :: S))) := by
  subst hp; exact own_st (fun t k => Jvm.Free.XT.dup2L X.here hx rfl hd rfl k) h
theorem own_goto {Φ : Outcome → State → Prop} (X : Stand p l e R s m args below meth c T locs cells slots) (hx : p.tables.exec = Jvm.exec) {pc : Nat} (pc' : Nat) {Ls : Array Slot} {S : List Value} {o : Int}  (hd : decode c.code pc = .ok (.goto o, 3)) (h : own_Gs p e below Φ (T.setTop (mkF m pc' Ls S))) (hp : decide (0 ≤ (pc : Int) + o ∧ ((pc : Int) + o).toNat = pc') = true := by rfl) : own_Gs p e below Φ (T.setTop (mkF m pc Ls (S))) := by
  have q := of_decide_eq_true hp; exact own_st (fun t k => XS.goto X.here hx rfl (pc0 := pc) (pc' := pc') rfl hd q.1 q.2 k) h
theorem own_ifYes {Φ : Outcome → State → Prop} (X : Stand p l e R s m args below meth c T locs cells slots) (hx : p.tables.exec = Jvm.exec) {pc : Nat} (pc' : Nat) {Ls : Array Slot} {S : List Value} {o : Int} {cd : ClassFile.Cond} {x : Int32} (hd : decode c.code pc = .ok (.ifCond cd o, 3)) (hc : if_icmp.holds cd x 0 = true) (h : own_Gs p e below Φ (T.setTop (mkF m pc' Ls S))) (hp : decide (0 ≤ (pc : Int) + o ∧ ((pc : Int) + o).toNat = pc') = true := by rfl) : own_Gs p e below Φ (T.setTop (mkF m pc Ls (.int x :: S))) := by
  have q := of_decide_eq_true hp; exact own_st (fun t k => XS.ifYes X.here hx rfl (pc0 := pc) (pc' := pc') rfl hd rfl ((if0 _ _).trans hc) q.1 q.2 k) h
theorem own_ifNo {Φ : Outcome → State → Prop} (X : Stand p l e R s m args below meth c T locs cells slots) (hx : p.tables.exec = Jvm.exec) {pc : Nat} (pc' : Nat) {Ls : Array Slot} {S : List Value} {o : Int} {cd : ClassFile.Cond} {x : Int32} (hd : decode c.code pc = .ok (.ifCond cd o, 3)) (hc : if_icmp.holds cd x 0 = false) (h : own_Gs p e below Φ (T.setTop (mkF m pc' Ls S))) (hp : pc + 3 = pc' := by rfl) : own_Gs p e below Φ (T.setTop (mkF m pc Ls (.int x :: S))) := by
  subst hp; exact own_st (fun t k => XS.ifNo X.here hx rfl hd rfl ((if0 _ _).trans hc) k) h
theorem own_icmpYes {Φ : Outcome → State → Prop} (X : Stand p l e R s m args below meth c T locs cells slots) (hx : p.tables.exec = Jvm.exec) {pc : Nat} (pc' : Nat) {Ls : Array Slot} {S : List Value} {o : Int} {cd : ClassFile.Cond} {x y : Int32} (hd : decode c.code pc = .ok (.if_icmp cd o, 3)) (hc : if_icmp.holds cd x y = true) (h : own_Gs p e below Φ (T.setTop (mkF m pc' Ls S))) (hp : decide (0 ≤ (pc : Int) + o ∧ ((pc : Int) + o).toNat = pc') = true := by rfl) : own_Gs p e below Φ (T.setTop (mkF m pc Ls (.int y :: .int x :: S))) := by
  have q := of_decide_eq_true hp; exact own_st (fun t k => XS.icmpYes X.here hx rfl (pc0 := pc) (pc' := pc') rfl hd rfl hc q.1 q.2 k) h
theorem own_icmpNo {Φ : Outcome → State → Prop} (X : Stand p l e R s m args below meth c T locs cells slots) (hx : p.tables.exec = Jvm.exec) {pc : Nat} (pc' : Nat) {Ls : Array Slot} {S : List Value} {o : Int} {cd : ClassFile.Cond} {x y : Int32} (hd : decode c.code pc = .ok (.if_icmp cd o, 3)) (hc : if_icmp.holds cd x y = false) (h : own_Gs p e below Φ (T.setTop (mkF m pc' Ls S))) (hp : pc + 3 = pc' := by rfl) : own_Gs p e below Φ (T.setTop (mkF m pc Ls (.int y :: .int x :: S))) := by
  subst hp; exact own_st (fun t k => XS.icmpNo X.here hx rfl hd rfl hc k) h
theorem own_ifnullYes {Φ : Outcome → State → Prop} (X : Stand p l e R s m args below meth c T locs cells slots) (hx : p.tables.exec = Jvm.exec) {pc : Nat} (pc' : Nat) {Ls : Array Slot} {S : List Value} {o : Int}  (hd : decode c.code pc = .ok (.ifnull o, 3)) (h : own_Gs p e below Φ (T.setTop (mkF m pc' Ls S))) (hp : decide (0 ≤ (pc : Int) + o ∧ ((pc : Int) + o).toNat = pc') = true := by rfl) : own_Gs p e below Φ (T.setTop (mkF m pc Ls (.null :: S))) := by
  have q := of_decide_eq_true hp; exact own_st (fun t k => XS.ifnullYes X.here hx rfl (pc0 := pc) (pc' := pc') rfl hd rfl q.1 q.2 k) h
theorem own_ifnullNo {Φ : Outcome → State → Prop} (X : Stand p l e R s m args below meth c T locs cells slots) (hx : p.tables.exec = Jvm.exec) {pc : Nat} (pc' : Nat) {Ls : Array Slot} {S : List Value} {o : Int} {b : Addr} (hd : decode c.code pc = .ok (.ifnull o, 3)) (h : own_Gs p e below Φ (T.setTop (mkF m pc' Ls S))) (hp : pc + 3 = pc' := by rfl) : own_Gs p e below Φ (T.setTop (mkF m pc Ls (.ref b :: S))) := by
  subst hp; exact own_st (fun t k => XS.ifnullNo X.here hx rfl hd rfl k) h
theorem own_ifnonnullYes {Φ : Outcome → State → Prop} (X : Stand p l e R s m args below meth c T locs cells slots) (hx : p.tables.exec = Jvm.exec) {pc : Nat} (pc' : Nat) {Ls : Array Slot} {S : List Value} {o : Int} {b : Addr} (hd : decode c.code pc = .ok (.ifnonnull o, 3)) (h : own_Gs p e below Φ (T.setTop (mkF m pc' Ls S))) (hp : decide (0 ≤ (pc : Int) + o ∧ ((pc : Int) + o).toNat = pc') = true := by rfl) : own_Gs p e below Φ (T.setTop (mkF m pc Ls (.ref b :: S))) := by
  have q := of_decide_eq_true hp; exact own_st (fun t k => XS.ifnonnullYes X.here hx rfl (pc0 := pc) (pc' := pc') rfl hd rfl q.1 q.2 k) h
theorem own_ifnonnullNo {Φ : Outcome → State → Prop} (X : Stand p l e R s m args below meth c T locs cells slots) (hx : p.tables.exec = Jvm.exec) {pc : Nat} (pc' : Nat) {Ls : Array Slot} {S : List Value} {o : Int}  (hd : decode c.code pc = .ok (.ifnonnull o, 3)) (h : own_Gs p e below Φ (T.setTop (mkF m pc' Ls S))) (hp : pc + 3 = pc' := by rfl) : own_Gs p e below Φ (T.setTop (mkF m pc Ls (.null :: S))) := by
  subst hp; exact own_st (fun t k => XS.ifnonnullNo X.here hx rfl hd rfl k) h
theorem own_acmp {Φ : Outcome → State → Prop} (X : Stand p l e R s m args below meth c T locs cells slots) (hx : p.tables.exec = Jvm.exec) {pc : Nat} (pc' : Nat) {Ls : Array Slot} {S : List Value} {o : Int} {cd : ACond} {v w : Value} (same : Bool) (hd : decode c.code pc = .ok (.if_acmp cd o, 3)) (h1 : v.isRef = true) (h2 : w.isRef = true) (hq : decide (v = w) = same) (h : own_Gs p e below Φ (T.setTop (mkF m pc' Ls S))) (hp : decide (0 ≤ (pc : Int) + o ∧ pc' = if acV cd same = true then ((pc : Int) + o).toNat else pc + 3) = true := by rfl) : own_Gs p e below Φ (T.setTop (mkF m pc Ls (w :: v :: S))) := by
  have q := of_decide_eq_true hp; exact own_st (fun t k => Jvm.RoadKit.acmp (g := mkF m pc Ls (w :: v :: S)) X hx rfl h1 h2 (pc0 := pc) (pc' := pc') (same := same) rfl hd rfl hq q.1 q.2 k) h
theorem own_ldcI {Φ : Outcome → State → Prop} (X : Stand p l e R s m args below meth c T locs cells slots) (hx : p.tables.exec = Jvm.exec) {pc : Nat} (pc' : Nat) {Ls : Array Slot} {S : List Value} {own : String} {index : Nat} {v : Int32} (hown : s.vm.findClass own = some m.cls) (hw : (Jvm.Cond.constant own index v).before args s = true) (hd : decode c.code pc = .ok (.ldc index, 2)) (h : own_Gs p e below Φ (T.setTop (mkF m pc' Ls (.int v :: S)))) (hp : pc + 2 = pc' := by rfl) : own_Gs p e below Φ (T.setTop (mkF m pc Ls S)) := by
  subst hp; exact own_st (fun t k => X.ldcInt hx hown hw (g := mkF m pc Ls S) rfl hd _ k) h
theorem own_ldcwI {Φ : Outcome → State → Prop} (X : Stand p l e R s m args below meth c T locs cells slots) (hx : p.tables.exec = Jvm.exec) {pc : Nat} (pc' : Nat) {Ls : Array Slot} {S : List Value} {own : String} {index : Nat} {v : Int32} (hown : s.vm.findClass own = some m.cls) (hw : (Jvm.Cond.constant own index v).before args s = true) (hd : decode c.code pc = .ok (.ldc_w index, 3)) (h : own_Gs p e below Φ (T.setTop (mkF m pc' Ls (.int v :: S)))) (hp : pc + 3 = pc' := by rfl) : own_Gs p e below Φ (T.setTop (mkF m pc Ls S)) := by
  subst hp; exact own_st (fun t k => X.ldcwInt hx hown hw (g := mkF m pc Ls S) rfl hd _ k) h
theorem own_ldcL {Φ : Outcome → State → Prop} (X : Stand p l e R s m args below meth c T locs cells slots) (hx : p.tables.exec = Jvm.exec) {pc : Nat} (pc' : Nat) {Ls : Array Slot} {S : List Value} {own : String} {index : Nat} {v : Int64} (hown : s.vm.findClass own = some m.cls) (hw : (Jvm.Cond.constantLong own index v).before args s = true) (hd : decode c.code pc = .ok (.ldc2_w index, 3)) (h : own_Gs p e below Φ (T.setTop (mkF m pc' Ls (.long v :: S)))) (hp : pc + 3 = pc' := by rfl) : own_Gs p e below Φ (T.setTop (mkF m pc Ls S)) := by
  subst hp; exact own_st (fun t k => X.ldc2Long hx hown hw (g := mkF m pc Ls S) rfl hd _ k) h
theorem own_pop2L {Φ : Outcome → State → Prop} (X : Stand p l e R s m args below meth c T locs cells slots) (hx : p.tables.exec = Jvm.exec) {pc : Nat} (pc' : Nat) {Ls : Array Slot} {S : List Value} {x : Int64} (hd : decode c.code pc = .ok (.pop2, 1)) (h : own_Gs p e below Φ (T.setTop (mkF m pc' Ls S))) (hp : pc + 1 = pc' := by rfl) : own_Gs p e below Φ (T.setTop (mkF m pc Ls (.long x :: S))) := by
  subst hp
  refine own_st (fun t k => ?_) h
  show Steps p.tables e below (T.setTop { method := m, pc := pc, locals := Ls, stack := .long x :: S, locked := none }) _
  jvm_step X.here [X.here.top, hx, hd, Value.category]
  exact k
-- end of steps
theorem own_leafI {z w : Int32} (h : z = w) : some (Value.int z) = some (Value.int w) := by rw [h]
theorem own_leafJ {z w : Int64} (h : z = w) : some (Value.long z) = some (Value.long w) := by rw [h]
theorem own_leafR {z w : Addr} (h : z = w) : some (Value.ref z) = some (Value.ref w) := by rw [h]
theorem own_selfsel {Z s : State} {a0 args : Array Value} {y : MethodName} {n : Nat} (hZ : Z.Warmed39 s.vm) (wi : (Jvm.Cond.instantiable y.cls n).before a0 Z = true) (wm : (Jvm.Cond.instanceMethod y).before a0 Z = true) (wp : (Jvm.Cond.privateMethod y).before a0 Z = true) (hy : y.cls ≠ "java/lang/invoke/MethodHandle" ∧ y.cls ≠ "java/lang/invoke/VarHandle") : (Jvm.Cond.selects y.cls y y).before args s = true := by
  have wi' : (Jvm.Cond.instantiable y.cls n).before args s = true := mvT hZ wi
  obtain ⟨c, k, h1, h2, h3, h4, h5, h6⟩ := Cond.instantiable_spec wi'
  exact selects_self_of_private h1 h2 (by simp only [Bool.or_eq_false_iff] at h4; exact h4.1) (Cond.privateMethod_at (mvP hZ wp (args := #[]))) (mvT hZ wm) hy
theorem own_sta {Z : State} {a0 : Array Value} {C n d K : String} (hx : (Jvm.Cond.exactly (Term.static C n d) K).value a0 Z none Z [] = some true) (hi : (Jvm.Cond.initializedFor C n d).before a0 Z = true ∨ ((Jvm.Cond.initialized C).before a0 Z = true ∧ (Jvm.Cond.laysStatic C n d).before a0 Z = true)) :
    ∃ a : Addr, (Term.static C n d).eval a0 Z none [] Z = some (.ref a) ∧ Sta Z Z.heap C n d (.ref a) ∧ Exa Z Z.heap a K := by
  obtain ⟨a, ha⟩ := exa_v hx
  exact ⟨a, ha, Sta.start ha hi, Exa.start ha hx⟩
theorem own_fldI {Z : State} {a0 : Array Value} {t : Term} {a : Addr} {C n d : String} {k : Int32} (ev : t.eval a0 Z none [] Z = some (.ref a)) (h : (Jvm.Cond.eq (Term.field t C n d) (Term.int k)).value a0 Z none Z [] = some true) : Fld Z Z.heap a C n d (.int k) := by
  refine Fld.start ?_
  rw [← fld_at (args := a0) (first := Z) (o := none) (idx := []) ev]
  obtain ⟨x, y, h1, h2, h3, h4⟩ := cmp_v (Or.inl h)
  rw [Term.int_eval] at h2
  cases h2
  obtain ⟨z, rfl⟩ := h4
  have q : (Jvm.Cond.eq (Term.field t C n d) (Term.int k)).value a0 Z none Z [] = some (decide (z = k)) := Cond.eq_ints h1 (Term.int_eval k)
  rw [h1, gotT q h]
end Own
theorem own_d1_0 : decode method_2_code 0 = .ok (.iload_n 0, 1) := by decide +kernel
theorem own_d1_1 : decode method_2_code 1 = .ok (.ifCond .ne 7, 3) := by decide +kernel
theorem own_d1_4 : decode method_2_code 4 = .ok (.getstatic 7, 3) := by decide +kernel
theorem own_d1_7 : decode method_2_code 7 = .ok (.areturn, 1) := by decide +kernel
theorem own_d1_8 : decode method_2_code 8 = .ok (.iload_n 0, 1) := by decide +kernel
theorem own_d1_9 : decode method_2_code 9 = .ok (.iconst 1, 1) := by decide +kernel
theorem own_d1_10 : decode method_2_code 10 = .ok (.if_icmp .ne 7, 3) := by decide +kernel
theorem own_d1_13 : decode method_2_code 13 = .ok (.getstatic 13, 3) := by decide +kernel
theorem own_d1_16 : decode method_2_code 16 = .ok (.areturn, 1) := by decide +kernel
theorem own_d1_17 : decode method_2_code 17 = .ok (.iload_n 0, 1) := by decide +kernel
theorem own_d1_18 : decode method_2_code 18 = .ok (.iconst 2, 1) := by decide +kernel
theorem own_d1_19 : decode method_2_code 19 = .ok (.if_icmp .ne 7, 3) := by decide +kernel
theorem own_d1_22 : decode method_2_code 22 = .ok (.getstatic 16, 3) := by decide +kernel
theorem own_d1_25 : decode method_2_code 25 = .ok (.areturn, 1) := by decide +kernel
theorem own_d1_26 : decode method_2_code 26 = .ok (.getstatic 19, 3) := by decide +kernel
theorem own_d1_29 : decode method_2_code 29 = .ok (.areturn, 1) := by decide +kernel
theorem own_pn0 : plainName "com/example/deltalog/deltalog/SignTimesPinLaw" = true := by first | (simp [plainName, overriddenIn]; done) | decide +kernel
theorem own_ef1 (m : MethodId) (v0 : Int32) : entryFrame m #[(.int v0)] 1 = mkF m 0 #[.val (.int v0)] [] := by first | (simp [entryFrame, mkF, argsToLocals, Value.category]; done) | rfl
def own_sign (v0 : Int32) (w_ZERO : Addr) (w_NON_NEGATIVE : Addr) (w_NON_POSITIVE : Addr) (w_UNKNOWN : Addr) : Addr := (if v0 = (0 : Int32) then w_ZERO else (if v0 = (1 : Int32) then w_NON_NEGATIVE else (if v0 = (2 : Int32) then w_NON_POSITIVE else w_UNKNOWN)))
def own_Q1 (Z : State) (w_ZERO : Addr) (w_UNKNOWN : Addr) (w_NON_POSITIVE : Addr) (w_NON_NEGATIVE : Addr) (S_w_ZERO : Sta Z Z.heap "com/example/deltalog/deltalog/Sign" "ZERO" "Lcom/example/deltalog/deltalog/Sign;" (.ref w_ZERO)) (S_w_UNKNOWN : Sta Z Z.heap "com/example/deltalog/deltalog/Sign" "UNKNOWN" "Lcom/example/deltalog/deltalog/Sign;" (.ref w_UNKNOWN)) (S_w_NON_POSITIVE : Sta Z Z.heap "com/example/deltalog/deltalog/Sign" "NON_POSITIVE" "Lcom/example/deltalog/deltalog/Sign;" (.ref w_NON_POSITIVE)) (S_w_NON_NEGATIVE : Sta Z Z.heap "com/example/deltalog/deltalog/Sign" "NON_NEGATIVE" "Lcom/example/deltalog/deltalog/Sign;" (.ref w_NON_NEGATIVE)) (E_w_ZERO : Exa Z Z.heap w_ZERO "com/example/deltalog/deltalog/Sign") (E_w_UNKNOWN : Exa Z Z.heap w_UNKNOWN "com/example/deltalog/deltalog/Sign") (E_w_NON_POSITIVE : Exa Z Z.heap w_NON_POSITIVE "com/example/deltalog/deltalog/Sign") (E_w_NON_NEGATIVE : Exa Z Z.heap w_NON_NEGATIVE "com/example/deltalog/deltalog/Sign") (F_ordinal_w_NON_POSITIVE : Fld Z Z.heap w_NON_POSITIVE "java/lang/Enum" "ordinal" "I" (.int (2 : Int32))) (F_ordinal_w_ZERO : Fld Z Z.heap w_ZERO "java/lang/Enum" "ordinal" "I" (.int (0 : Int32))) (F_ordinal_w_NON_NEGATIVE : Fld Z Z.heap w_NON_NEGATIVE "java/lang/Enum" "ordinal" "I" (.int (1 : Int32))) (F_ordinal_w_UNKNOWN : Fld Z Z.heap w_UNKNOWN "java/lang/Enum" "ordinal" "I" (.int (3 : Int32))) (ne_w_NON_POSITIVE_w_ZERO : w_NON_POSITIVE ≠ w_ZERO) (ne_w_NON_POSITIVE_w_NON_NEGATIVE : w_NON_POSITIVE ≠ w_NON_NEGATIVE) (ne_w_NON_POSITIVE_w_UNKNOWN : w_NON_POSITIVE ≠ w_UNKNOWN) (ne_w_ZERO_w_NON_NEGATIVE : w_ZERO ≠ w_NON_NEGATIVE) (ne_w_ZERO_w_UNKNOWN : w_ZERO ≠ w_UNKNOWN) (ne_w_NON_NEGATIVE_w_UNKNOWN : w_NON_NEGATIVE ≠ w_UNKNOWN) (v0 : Int32) (h0 : Heap) (n0 : Nat) (v : Option Value) (h : Heap) (L : List Loc) : Prop := v = some (.ref (own_sign v0 w_ZERO w_NON_NEGATIVE w_NON_POSITIVE w_UNKNOWN)) ∧ Fr n0 L ∧ h = h0
set_option maxRecDepth 65536 in
set_option maxHeartbeats 40000000 in
theorem own_rm1 (l : Launch) (Z : State) (a0 : Array Value) (hw : ∀ d ∈ tables_1, d.before a0 Z = true) (ws : List Jvm.Cond) (w_ZERO : Addr) (w_UNKNOWN : Addr) (w_NON_POSITIVE : Addr) (w_NON_NEGATIVE : Addr) (S_w_ZERO : Sta Z Z.heap "com/example/deltalog/deltalog/Sign" "ZERO" "Lcom/example/deltalog/deltalog/Sign;" (.ref w_ZERO)) (S_w_UNKNOWN : Sta Z Z.heap "com/example/deltalog/deltalog/Sign" "UNKNOWN" "Lcom/example/deltalog/deltalog/Sign;" (.ref w_UNKNOWN)) (S_w_NON_POSITIVE : Sta Z Z.heap "com/example/deltalog/deltalog/Sign" "NON_POSITIVE" "Lcom/example/deltalog/deltalog/Sign;" (.ref w_NON_POSITIVE)) (S_w_NON_NEGATIVE : Sta Z Z.heap "com/example/deltalog/deltalog/Sign" "NON_NEGATIVE" "Lcom/example/deltalog/deltalog/Sign;" (.ref w_NON_NEGATIVE)) (E_w_ZERO : Exa Z Z.heap w_ZERO "com/example/deltalog/deltalog/Sign") (E_w_UNKNOWN : Exa Z Z.heap w_UNKNOWN "com/example/deltalog/deltalog/Sign") (E_w_NON_POSITIVE : Exa Z Z.heap w_NON_POSITIVE "com/example/deltalog/deltalog/Sign") (E_w_NON_NEGATIVE : Exa Z Z.heap w_NON_NEGATIVE "com/example/deltalog/deltalog/Sign") (F_ordinal_w_NON_POSITIVE : Fld Z Z.heap w_NON_POSITIVE "java/lang/Enum" "ordinal" "I" (.int (2 : Int32))) (F_ordinal_w_ZERO : Fld Z Z.heap w_ZERO "java/lang/Enum" "ordinal" "I" (.int (0 : Int32))) (F_ordinal_w_NON_NEGATIVE : Fld Z Z.heap w_NON_NEGATIVE "java/lang/Enum" "ordinal" "I" (.int (1 : Int32))) (F_ordinal_w_UNKNOWN : Fld Z Z.heap w_UNKNOWN "java/lang/Enum" "ordinal" "I" (.int (3 : Int32))) (ne_w_NON_POSITIVE_w_ZERO : w_NON_POSITIVE ≠ w_ZERO) (ne_w_NON_POSITIVE_w_NON_NEGATIVE : w_NON_POSITIVE ≠ w_NON_NEGATIVE) (ne_w_NON_POSITIVE_w_UNKNOWN : w_NON_POSITIVE ≠ w_UNKNOWN) (ne_w_ZERO_w_NON_NEGATIVE : w_ZERO ≠ w_NON_NEGATIVE) (ne_w_ZERO_w_UNKNOWN : w_ZERO ≠ w_UNKNOWN) (ne_w_NON_NEGATIVE_w_UNKNOWN : w_NON_NEGATIVE ≠ w_UNKNOWN) (v0 : Int32) (h0 : Heap) (n0 : Nat) (Z0 : n0 ≤ h0.size) (O0 : Old Z n0 h0) :
    MetFree l (⟨"com/example/deltalog/deltalog/SignTimesPinLaw", "sign", "(I)Lcom/example/deltalog/deltalog/Sign;"⟩ : MethodName) (head1 (Jvm.Cond.code (⟨"com/example/deltalog/deltalog/SignTimesPinLaw", "sign", "(I)Lcom/example/deltalog/deltalog/Sign;"⟩ : MethodName) method_2_code 1 (some (.object "com/example/deltalog/deltalog/Sign")) :: ws) ({ frames := 0, cells := 0, slots := 0, locals := 0 } : Room)) (fun a U => a = #[(.int v0)] ∧ Z.Warmed39 U.vm ∧ U.heap = h0) (fun _ _ _ _ _ => True) (fun _ U o U' => ∃ v L, o = .returned v ∧ own_Q1 Z w_ZERO w_UNKNOWN w_NON_POSITIVE w_NON_NEGATIVE S_w_ZERO S_w_UNKNOWN S_w_NON_POSITIVE S_w_NON_NEGATIVE E_w_ZERO E_w_UNKNOWN E_w_NON_POSITIVE E_w_NON_NEGATIVE F_ordinal_w_NON_POSITIVE F_ordinal_w_ZERO F_ordinal_w_NON_NEGATIVE F_ordinal_w_UNKNOWN ne_w_NON_POSITIVE_w_ZERO ne_w_NON_POSITIVE_w_NON_NEGATIVE ne_w_NON_POSITIVE_w_UNKNOWN ne_w_ZERO_w_NON_NEGATIVE ne_w_ZERO_w_UNKNOWN ne_w_NON_NEGATIVE_w_UNKNOWN v0 h0 n0 v U'.heap L ∧ FrameEnd U o U' L ({ frames := 0, cells := 0, slots := 0, locals := 0 } : Room).cells ({ frames := 0, cells := 0, slots := 0, locals := 0 } : Room).slots) := by
  refine MetFree.of_bodySF (plainFor_of_name own_pn0) hisR ?_
  intro p e s m args below meth c s₁ Bd hml0 hP hK
  obtain ⟨rfl, hZ, hh⟩ := hP
  have hx := Bd.exec
  have hby := Bd.bytes
  have hlk := Bd.notSynchronized
  have hrt := Bd.returns
  have hml : c.maxLocals = 1 := hml0
  have hown : s.vm.findClass "com/example/deltalog/deltalog/SignTimesPinLaw" = some m.cls := findClass_of_methodNamed Bd.named
  have hnm := (name_of_methodNamed Bd.named Bd.method).1
  have X0 : Stand p l e ({ frames := 0, cells := 0, slots := 0, locals := 0 } : Room) s m #[(.int v0)] below meth c s₁ [] 0 0 := Stand.of_body Bd
  have e0 : s₁.heap = h0 := by rw [← hh, Bd.state]; rfl
  have N0 := Fr.nil n0
  refine own_in (own_ef1 m v0) ?_
  refine own_iloadN X0 hx 1 (hb hby own_d1_0) rfl ?_
  by_cases hc1_1 : v0 = (0 : Int32)
  · refine own_ifNo X0 hx 4 (hb hby own_d1_1) (teq hc1_1).2 ?_
    obtain ⟨T2, X2, e2, st2⟩ := getS2 X0 hx hZ hown (host := "") (Or.inl (hw _ (List.mem_of_getElem? (i := 4) rfl))) Via.refl e0 (S_w_ZERO.ext O0.2) (g := (mkF m 4 #[.val (.int v0)] [])) rfl (hb hby own_d1_4)
    refine own_st (G' := T2.setTop (mkF m 7 #[.val (.int v0)] [(.ref w_ZERO)])) st2 ?_
    exact own_retA (z := (.ref w_ZERO)) (Q := own_Q1 Z w_ZERO w_UNKNOWN w_NON_POSITIVE w_NON_NEGATIVE S_w_ZERO S_w_UNKNOWN S_w_NON_POSITIVE S_w_NON_NEGATIVE E_w_ZERO E_w_UNKNOWN E_w_NON_POSITIVE E_w_NON_NEGATIVE F_ordinal_w_NON_POSITIVE F_ordinal_w_ZERO F_ordinal_w_NON_NEGATIVE F_ordinal_w_UNKNOWN ne_w_NON_POSITIVE_w_ZERO ne_w_NON_POSITIVE_w_NON_NEGATIVE ne_w_NON_POSITIVE_w_UNKNOWN ne_w_ZERO_w_NON_NEGATIVE ne_w_ZERO_w_UNKNOWN ne_w_NON_NEGATIVE_w_UNKNOWN v0 h0 n0) X2 hx hrt rfl rfl (hb hby own_d1_7) hlk e2 ⟨(own_leafR (show w_ZERO = own_sign v0 w_ZERO w_NON_NEGATIVE w_NON_POSITIVE w_UNKNOWN from by unfold own_sign; rw [if_pos hc1_1])), N0, rfl⟩ (by decide) (by decide)
  · refine own_ifYes X0 hx 8 (hb hby own_d1_1) (feq hc1_1).2 ?_
    refine own_iloadN X0 hx 9 (hb hby own_d1_8) rfl ?_
    refine own_iconst X0 hx 10 (1 : Int32) (hb hby own_d1_9) rfl ?_
    by_cases hc10_3 : v0 = (1 : Int32)
    · refine own_icmpNo X0 hx 13 (hb hby own_d1_10) (teq hc10_3).2 ?_
      obtain ⟨T4, X4, e4, st4⟩ := getS2 X0 hx hZ hown (host := "") (Or.inl (hw _ (List.mem_of_getElem? (i := 23) rfl))) Via.refl e0 (S_w_NON_NEGATIVE.ext O0.2) (g := (mkF m 13 #[.val (.int v0)] [])) rfl (hb hby own_d1_13)
      refine own_st (G' := T4.setTop (mkF m 16 #[.val (.int v0)] [(.ref w_NON_NEGATIVE)])) st4 ?_
      exact own_retA (z := (.ref w_NON_NEGATIVE)) (Q := own_Q1 Z w_ZERO w_UNKNOWN w_NON_POSITIVE w_NON_NEGATIVE S_w_ZERO S_w_UNKNOWN S_w_NON_POSITIVE S_w_NON_NEGATIVE E_w_ZERO E_w_UNKNOWN E_w_NON_POSITIVE E_w_NON_NEGATIVE F_ordinal_w_NON_POSITIVE F_ordinal_w_ZERO F_ordinal_w_NON_NEGATIVE F_ordinal_w_UNKNOWN ne_w_NON_POSITIVE_w_ZERO ne_w_NON_POSITIVE_w_NON_NEGATIVE ne_w_NON_POSITIVE_w_UNKNOWN ne_w_ZERO_w_NON_NEGATIVE ne_w_ZERO_w_UNKNOWN ne_w_NON_NEGATIVE_w_UNKNOWN v0 h0 n0) X4 hx hrt rfl rfl (hb hby own_d1_16) hlk e4 ⟨(own_leafR (show w_NON_NEGATIVE = own_sign v0 w_ZERO w_NON_NEGATIVE w_NON_POSITIVE w_UNKNOWN from by unfold own_sign; rw [if_neg hc1_1, if_pos hc10_3])), N0, rfl⟩ (by decide) (by decide)
    · refine own_icmpYes X0 hx 17 (hb hby own_d1_10) (feq hc10_3).2 ?_
      refine own_iloadN X0 hx 18 (hb hby own_d1_17) rfl ?_
      refine own_iconst X0 hx 19 (2 : Int32) (hb hby own_d1_18) rfl ?_
      by_cases hc19_5 : v0 = (2 : Int32)
      · refine own_icmpNo X0 hx 22 (hb hby own_d1_19) (teq hc19_5).2 ?_
        obtain ⟨T6, X6, e6, st6⟩ := getS2 X0 hx hZ hown (host := "") (Or.inl (hw _ (List.mem_of_getElem? (i := 21) rfl))) Via.refl e0 (S_w_NON_POSITIVE.ext O0.2) (g := (mkF m 22 #[.val (.int v0)] [])) rfl (hb hby own_d1_22)
        refine own_st (G' := T6.setTop (mkF m 25 #[.val (.int v0)] [(.ref w_NON_POSITIVE)])) st6 ?_
        exact own_retA (z := (.ref w_NON_POSITIVE)) (Q := own_Q1 Z w_ZERO w_UNKNOWN w_NON_POSITIVE w_NON_NEGATIVE S_w_ZERO S_w_UNKNOWN S_w_NON_POSITIVE S_w_NON_NEGATIVE E_w_ZERO E_w_UNKNOWN E_w_NON_POSITIVE E_w_NON_NEGATIVE F_ordinal_w_NON_POSITIVE F_ordinal_w_ZERO F_ordinal_w_NON_NEGATIVE F_ordinal_w_UNKNOWN ne_w_NON_POSITIVE_w_ZERO ne_w_NON_POSITIVE_w_NON_NEGATIVE ne_w_NON_POSITIVE_w_UNKNOWN ne_w_ZERO_w_NON_NEGATIVE ne_w_ZERO_w_UNKNOWN ne_w_NON_NEGATIVE_w_UNKNOWN v0 h0 n0) X6 hx hrt rfl rfl (hb hby own_d1_25) hlk e6 ⟨(own_leafR (show w_NON_POSITIVE = own_sign v0 w_ZERO w_NON_NEGATIVE w_NON_POSITIVE w_UNKNOWN from by unfold own_sign; rw [if_neg hc1_1, if_neg hc10_3, if_pos hc19_5])), N0, rfl⟩ (by decide) (by decide)
      · refine own_icmpYes X0 hx 26 (hb hby own_d1_19) (feq hc19_5).2 ?_
        obtain ⟨T7, X7, e7, st7⟩ := getS2 X0 hx hZ hown (host := "") (Or.inl (hw _ (List.mem_of_getElem? (i := 7) rfl))) Via.refl e0 (S_w_UNKNOWN.ext O0.2) (g := (mkF m 26 #[.val (.int v0)] [])) rfl (hb hby own_d1_26)
        refine own_st (G' := T7.setTop (mkF m 29 #[.val (.int v0)] [(.ref w_UNKNOWN)])) st7 ?_
        exact own_retA (z := (.ref w_UNKNOWN)) (Q := own_Q1 Z w_ZERO w_UNKNOWN w_NON_POSITIVE w_NON_NEGATIVE S_w_ZERO S_w_UNKNOWN S_w_NON_POSITIVE S_w_NON_NEGATIVE E_w_ZERO E_w_UNKNOWN E_w_NON_POSITIVE E_w_NON_NEGATIVE F_ordinal_w_NON_POSITIVE F_ordinal_w_ZERO F_ordinal_w_NON_NEGATIVE F_ordinal_w_UNKNOWN ne_w_NON_POSITIVE_w_ZERO ne_w_NON_POSITIVE_w_NON_NEGATIVE ne_w_NON_POSITIVE_w_UNKNOWN ne_w_ZERO_w_NON_NEGATIVE ne_w_ZERO_w_UNKNOWN ne_w_NON_NEGATIVE_w_UNKNOWN v0 h0 n0) X7 hx hrt rfl rfl (hb hby own_d1_29) hlk e7 ⟨(own_leafR (show w_UNKNOWN = own_sign v0 w_ZERO w_NON_NEGATIVE w_NON_POSITIVE w_UNKNOWN from by unfold own_sign; rw [if_neg hc1_1, if_neg hc10_3, if_neg hc19_5])), N0, rfl⟩ (by decide) (by decide)
theorem own_d3_0 : decode method_3_code 0 = .ok (.iload_n 0, 1) := by decide +kernel
theorem own_d3_1 : decode method_3_code 1 = .ok (.iconst 1, 1) := by decide +kernel
theorem own_d3_2 : decode method_3_code 2 = .ok (.if_icmp .eq 8, 3) := by decide +kernel
theorem own_d3_5 : decode method_3_code 5 = .ok (.iload_n 0, 1) := by decide +kernel
theorem own_d3_6 : decode method_3_code 6 = .ok (.iconst 3, 1) := by decide +kernel
theorem own_d3_7 : decode method_3_code 7 = .ok (.if_icmp .ne 7, 3) := by decide +kernel
theorem own_d3_10 : decode method_3_code 10 = .ok (.iconst 1, 1) := by decide +kernel
theorem own_d3_11 : decode method_3_code 11 = .ok (.goto 4, 3) := by decide +kernel
theorem own_d3_14 : decode method_3_code 14 = .ok (.iconst 0, 1) := by decide +kernel
theorem own_d3_15 : decode method_3_code 15 = .ok (.ireturn, 1) := by decide +kernel
theorem own_ef3 (m : MethodId) (v0 : Int32) : entryFrame m #[(.int v0)] 1 = mkF m 0 #[.val (.int v0)] [] := by first | (simp [entryFrame, mkF, argsToLocals, Value.category]; done) | rfl
def own_pos (v0 : Int32) : Int32 := (if v0 = (1 : Int32) then (1 : Int32) else (if v0 = (3 : Int32) then (1 : Int32) else (0 : Int32)))
def own_Q3 (Z : State) (v0 : Int32) (h0 : Heap) (n0 : Nat) (v : Option Value) (h : Heap) (L : List Loc) : Prop := v = some (.int (own_pos v0)) ∧ Fr n0 L ∧ h = h0
set_option maxRecDepth 65536 in
set_option maxHeartbeats 40000000 in
theorem own_rm3 (l : Launch) (Z : State) (a0 : Array Value) (hw : ∀ d ∈ tables_1, d.before a0 Z = true) (ws : List Jvm.Cond) (v0 : Int32) (h0 : Heap) (n0 : Nat) (Z0 : n0 ≤ h0.size)  :
    MetFree l (⟨"com/example/deltalog/deltalog/SignTimesPinLaw", "mayBePos", "(I)Z"⟩ : MethodName) (head1 (Jvm.Cond.code (⟨"com/example/deltalog/deltalog/SignTimesPinLaw", "mayBePos", "(I)Z"⟩ : MethodName) method_3_code 1 (some .boolean) :: ws) ({ frames := 0, cells := 0, slots := 0, locals := 0 } : Room)) (fun a U => a = #[(.int v0)] ∧ Z.Warmed39 U.vm ∧ U.heap = h0) (fun _ _ _ _ _ => True) (fun _ U o U' => ∃ v L, o = .returned v ∧ own_Q3 Z v0 h0 n0 v U'.heap L ∧ FrameEnd U o U' L ({ frames := 0, cells := 0, slots := 0, locals := 0 } : Room).cells ({ frames := 0, cells := 0, slots := 0, locals := 0 } : Room).slots) := by
  refine MetFree.of_bodySF (plainFor_of_name own_pn0) hisR ?_
  intro p e s m args below meth c s₁ Bd hml0 hP hK
  obtain ⟨rfl, hZ, hh⟩ := hP
  have hx := Bd.exec
  have hby := Bd.bytes
  have hlk := Bd.notSynchronized
  have hrt := Bd.returns
  have hml : c.maxLocals = 1 := hml0
  have hown : s.vm.findClass "com/example/deltalog/deltalog/SignTimesPinLaw" = some m.cls := findClass_of_methodNamed Bd.named
  have hnm := (name_of_methodNamed Bd.named Bd.method).1
  have X0 : Stand p l e ({ frames := 0, cells := 0, slots := 0, locals := 0 } : Room) s m #[(.int v0)] below meth c s₁ [] 0 0 := Stand.of_body Bd
  have e0 : s₁.heap = h0 := by rw [← hh, Bd.state]; rfl
  have N0 := Fr.nil n0
  refine own_in (own_ef3 m v0) ?_
  refine own_iloadN X0 hx 1 (hb hby own_d3_0) rfl ?_
  refine own_iconst X0 hx 2 (1 : Int32) (hb hby own_d3_1) rfl ?_
  by_cases hc2_1 : v0 = (1 : Int32)
  · refine own_icmpYes X0 hx 10 (hb hby own_d3_2) (teq hc2_1).1 ?_
    refine own_iconst X0 hx 11 (1 : Int32) (hb hby own_d3_10) rfl ?_
    refine own_goto X0 hx 15 (hb hby own_d3_11) ?_
    exact own_retN (t := .boolean) (z := (1 : Int32)) (Q := own_Q3 Z v0 h0 n0) X0 hx hrt (by simp) (hb hby own_d3_15) hlk e0 ⟨(own_leafI (show (1 : Int32) = own_pos v0 from by unfold own_pos; rw [if_pos hc2_1])), N0, rfl⟩ (by decide) (by decide)
  · refine own_icmpNo X0 hx 5 (hb hby own_d3_2) (feq hc2_1).1 ?_
    refine own_iloadN X0 hx 6 (hb hby own_d3_5) rfl ?_
    refine own_iconst X0 hx 7 (3 : Int32) (hb hby own_d3_6) rfl ?_
    by_cases hc7_2 : v0 = (3 : Int32)
    · refine own_icmpNo X0 hx 10 (hb hby own_d3_7) (teq hc7_2).2 ?_
      refine own_iconst X0 hx 11 (1 : Int32) (hb hby own_d3_10) rfl ?_
      refine own_goto X0 hx 15 (hb hby own_d3_11) ?_
      exact own_retN (t := .boolean) (z := (1 : Int32)) (Q := own_Q3 Z v0 h0 n0) X0 hx hrt (by simp) (hb hby own_d3_15) hlk e0 ⟨(own_leafI (show (1 : Int32) = own_pos v0 from by unfold own_pos; rw [if_neg hc2_1, if_pos hc7_2])), N0, rfl⟩ (by decide) (by decide)
    · refine own_icmpYes X0 hx 14 (hb hby own_d3_7) (feq hc7_2).2 ?_
      refine own_iconst X0 hx 15 (0 : Int32) (hb hby own_d3_14) rfl ?_
      exact own_retN (t := .boolean) (z := (0 : Int32)) (Q := own_Q3 Z v0 h0 n0) X0 hx hrt (by simp) (hb hby own_d3_15) hlk e0 ⟨(own_leafI (show (0 : Int32) = own_pos v0 from by unfold own_pos; rw [if_neg hc2_1, if_neg hc7_2])), N0, rfl⟩ (by decide) (by decide)
theorem own_d4_0 : decode method_4_code 0 = .ok (.iload_n 0, 1) := by decide +kernel
theorem own_d4_1 : decode method_4_code 1 = .ok (.iconst 2, 1) := by decide +kernel
theorem own_d4_2 : decode method_4_code 2 = .ok (.if_icmp .eq 8, 3) := by decide +kernel
theorem own_d4_5 : decode method_4_code 5 = .ok (.iload_n 0, 1) := by decide +kernel
theorem own_d4_6 : decode method_4_code 6 = .ok (.iconst 3, 1) := by decide +kernel
theorem own_d4_7 : decode method_4_code 7 = .ok (.if_icmp .ne 7, 3) := by decide +kernel
theorem own_d4_10 : decode method_4_code 10 = .ok (.iconst 1, 1) := by decide +kernel
theorem own_d4_11 : decode method_4_code 11 = .ok (.goto 4, 3) := by decide +kernel
theorem own_d4_14 : decode method_4_code 14 = .ok (.iconst 0, 1) := by decide +kernel
theorem own_d4_15 : decode method_4_code 15 = .ok (.ireturn, 1) := by decide +kernel
theorem own_ef4 (m : MethodId) (v0 : Int32) : entryFrame m #[(.int v0)] 1 = mkF m 0 #[.val (.int v0)] [] := by first | (simp [entryFrame, mkF, argsToLocals, Value.category]; done) | rfl
def own_neg (v0 : Int32) : Int32 := (if v0 = (2 : Int32) then (1 : Int32) else (if v0 = (3 : Int32) then (1 : Int32) else (0 : Int32)))
def own_Q4 (Z : State) (v0 : Int32) (h0 : Heap) (n0 : Nat) (v : Option Value) (h : Heap) (L : List Loc) : Prop := v = some (.int (own_neg v0)) ∧ Fr n0 L ∧ h = h0
set_option maxRecDepth 65536 in
set_option maxHeartbeats 40000000 in
theorem own_rm4 (l : Launch) (Z : State) (a0 : Array Value) (hw : ∀ d ∈ tables_1, d.before a0 Z = true) (ws : List Jvm.Cond) (v0 : Int32) (h0 : Heap) (n0 : Nat) (Z0 : n0 ≤ h0.size)  :
    MetFree l (⟨"com/example/deltalog/deltalog/SignTimesPinLaw", "mayBeNeg", "(I)Z"⟩ : MethodName) (head1 (Jvm.Cond.code (⟨"com/example/deltalog/deltalog/SignTimesPinLaw", "mayBeNeg", "(I)Z"⟩ : MethodName) method_4_code 1 (some .boolean) :: ws) ({ frames := 0, cells := 0, slots := 0, locals := 0 } : Room)) (fun a U => a = #[(.int v0)] ∧ Z.Warmed39 U.vm ∧ U.heap = h0) (fun _ _ _ _ _ => True) (fun _ U o U' => ∃ v L, o = .returned v ∧ own_Q4 Z v0 h0 n0 v U'.heap L ∧ FrameEnd U o U' L ({ frames := 0, cells := 0, slots := 0, locals := 0 } : Room).cells ({ frames := 0, cells := 0, slots := 0, locals := 0 } : Room).slots) := by
  refine MetFree.of_bodySF (plainFor_of_name own_pn0) hisR ?_
  intro p e s m args below meth c s₁ Bd hml0 hP hK
  obtain ⟨rfl, hZ, hh⟩ := hP
  have hx := Bd.exec
  have hby := Bd.bytes
  have hlk := Bd.notSynchronized
  have hrt := Bd.returns
  have hml : c.maxLocals = 1 := hml0
  have hown : s.vm.findClass "com/example/deltalog/deltalog/SignTimesPinLaw" = some m.cls := findClass_of_methodNamed Bd.named
  have hnm := (name_of_methodNamed Bd.named Bd.method).1
  have X0 : Stand p l e ({ frames := 0, cells := 0, slots := 0, locals := 0 } : Room) s m #[(.int v0)] below meth c s₁ [] 0 0 := Stand.of_body Bd
  have e0 : s₁.heap = h0 := by rw [← hh, Bd.state]; rfl
  have N0 := Fr.nil n0
  refine own_in (own_ef4 m v0) ?_
  refine own_iloadN X0 hx 1 (hb hby own_d4_0) rfl ?_
  refine own_iconst X0 hx 2 (2 : Int32) (hb hby own_d4_1) rfl ?_
  by_cases hc2_1 : v0 = (2 : Int32)
  · refine own_icmpYes X0 hx 10 (hb hby own_d4_2) (teq hc2_1).1 ?_
    refine own_iconst X0 hx 11 (1 : Int32) (hb hby own_d4_10) rfl ?_
    refine own_goto X0 hx 15 (hb hby own_d4_11) ?_
    exact own_retN (t := .boolean) (z := (1 : Int32)) (Q := own_Q4 Z v0 h0 n0) X0 hx hrt (by simp) (hb hby own_d4_15) hlk e0 ⟨(own_leafI (show (1 : Int32) = own_neg v0 from by unfold own_neg; rw [if_pos hc2_1])), N0, rfl⟩ (by decide) (by decide)
  · refine own_icmpNo X0 hx 5 (hb hby own_d4_2) (feq hc2_1).1 ?_
    refine own_iloadN X0 hx 6 (hb hby own_d4_5) rfl ?_
    refine own_iconst X0 hx 7 (3 : Int32) (hb hby own_d4_6) rfl ?_
    by_cases hc7_2 : v0 = (3 : Int32)
    · refine own_icmpNo X0 hx 10 (hb hby own_d4_7) (teq hc7_2).2 ?_
      refine own_iconst X0 hx 11 (1 : Int32) (hb hby own_d4_10) rfl ?_
      refine own_goto X0 hx 15 (hb hby own_d4_11) ?_
      exact own_retN (t := .boolean) (z := (1 : Int32)) (Q := own_Q4 Z v0 h0 n0) X0 hx hrt (by simp) (hb hby own_d4_15) hlk e0 ⟨(own_leafI (show (1 : Int32) = own_neg v0 from by unfold own_neg; rw [if_neg hc2_1, if_pos hc7_2])), N0, rfl⟩ (by decide) (by decide)
    · refine own_icmpYes X0 hx 14 (hb hby own_d4_7) (feq hc7_2).2 ?_
      refine own_iconst X0 hx 15 (0 : Int32) (hb hby own_d4_14) rfl ?_
      exact own_retN (t := .boolean) (z := (0 : Int32)) (Q := own_Q4 Z v0 h0 n0) X0 hx hrt (by simp) (hb hby own_d4_15) hlk e0 ⟨(own_leafI (show (0 : Int32) = own_neg v0 from by unfold own_neg; rw [if_neg hc2_1, if_neg hc7_2])), N0, rfl⟩ (by decide) (by decide)
theorem own_d2_0 : decode prog_109_method_7_code 0 = .ok (.aload_n 0, 1) := by decide +kernel
theorem own_d2_1 : decode prog_109_method_7_code 1 = .ok (.getstatic 3, 3) := by decide +kernel
theorem own_d2_4 : decode prog_109_method_7_code 4 = .ok (.if_acmp .eq 10, 3) := by decide +kernel
theorem own_d2_7 : decode prog_109_method_7_code 7 = .ok (.aload_n 1, 1) := by decide +kernel
theorem own_d2_8 : decode prog_109_method_7_code 8 = .ok (.getstatic 3, 3) := by decide +kernel
theorem own_d2_11 : decode prog_109_method_7_code 11 = .ok (.if_acmp .ne 10, 3) := by decide +kernel
theorem own_d2_14 : decode prog_109_method_7_code 14 = .ok (.getstatic 3, 3) := by decide +kernel
theorem own_d2_17 : decode prog_109_method_7_code 17 = .ok (.astore_n 2, 1) := by decide +kernel
theorem own_d2_18 : decode prog_109_method_7_code 18 = .ok (.goto 39, 3) := by decide +kernel
theorem own_d2_21 : decode prog_109_method_7_code 21 = .ok (.aload_n 0, 1) := by decide +kernel
theorem own_d2_22 : decode prog_109_method_7_code 22 = .ok (.getstatic 13, 3) := by decide +kernel
theorem own_d2_25 : decode prog_109_method_7_code 25 = .ok (.if_acmp .eq 10, 3) := by decide +kernel
theorem own_d2_28 : decode prog_109_method_7_code 28 = .ok (.aload_n 1, 1) := by decide +kernel
theorem own_d2_29 : decode prog_109_method_7_code 29 = .ok (.getstatic 13, 3) := by decide +kernel
theorem own_d2_32 : decode prog_109_method_7_code 32 = .ok (.if_acmp .ne 10, 3) := by decide +kernel
theorem own_d2_35 : decode prog_109_method_7_code 35 = .ok (.getstatic 13, 3) := by decide +kernel
theorem own_d2_38 : decode prog_109_method_7_code 38 = .ok (.astore_n 2, 1) := by decide +kernel
theorem own_d2_39 : decode prog_109_method_7_code 39 = .ok (.goto 18, 3) := by decide +kernel
theorem own_d2_42 : decode prog_109_method_7_code 42 = .ok (.aload_n 0, 1) := by decide +kernel
theorem own_d2_43 : decode prog_109_method_7_code 43 = .ok (.aload_n 1, 1) := by decide +kernel
theorem own_d2_44 : decode prog_109_method_7_code 44 = .ok (.if_acmp .ne 9, 3) := by decide +kernel
theorem own_d2_47 : decode prog_109_method_7_code 47 = .ok (.getstatic 7, 3) := by decide +kernel
theorem own_d2_50 : decode prog_109_method_7_code 50 = .ok (.goto 6, 3) := by decide +kernel
theorem own_d2_53 : decode prog_109_method_7_code 53 = .ok (.getstatic 10, 3) := by decide +kernel
theorem own_d2_56 : decode prog_109_method_7_code 56 = .ok (.astore_n 2, 1) := by decide +kernel
theorem own_d2_57 : decode prog_109_method_7_code 57 = .ok (.aload_n 2, 1) := by decide +kernel
theorem own_d2_58 : decode prog_109_method_7_code 58 = .ok (.areturn, 1) := by decide +kernel
theorem own_pn1 : plainName "com/example/deltalog/deltalog/Sign" = true := by first | (simp [plainName, overriddenIn]; done) | decide +kernel
theorem own_ef2 (m : MethodId) (o1 : Addr) (o2 : Addr) : entryFrame m #[(.ref o1), (.ref o2)] 3 = mkF m 0 #[.val (.ref o1), .val (.ref o2), .unset] [] := by first | (simp [entryFrame, mkF, argsToLocals, Value.category]; done) | rfl
def own_times (o1 : Addr) (o2 : Addr) (w_ZERO : Addr) (w_NON_NEGATIVE : Addr) (w_NON_POSITIVE : Addr) (w_UNKNOWN : Addr) : Addr := (if o1 = w_ZERO then w_ZERO else (if o2 = w_ZERO then w_ZERO else (if o1 = w_UNKNOWN then w_UNKNOWN else (if o2 = w_UNKNOWN then w_UNKNOWN else (if o1 = o2 then w_NON_NEGATIVE else w_NON_POSITIVE)))))
def own_Q2 (Z : State) (w_ZERO : Addr) (w_UNKNOWN : Addr) (w_NON_POSITIVE : Addr) (w_NON_NEGATIVE : Addr) (S_w_ZERO : Sta Z Z.heap "com/example/deltalog/deltalog/Sign" "ZERO" "Lcom/example/deltalog/deltalog/Sign;" (.ref w_ZERO)) (S_w_UNKNOWN : Sta Z Z.heap "com/example/deltalog/deltalog/Sign" "UNKNOWN" "Lcom/example/deltalog/deltalog/Sign;" (.ref w_UNKNOWN)) (S_w_NON_POSITIVE : Sta Z Z.heap "com/example/deltalog/deltalog/Sign" "NON_POSITIVE" "Lcom/example/deltalog/deltalog/Sign;" (.ref w_NON_POSITIVE)) (S_w_NON_NEGATIVE : Sta Z Z.heap "com/example/deltalog/deltalog/Sign" "NON_NEGATIVE" "Lcom/example/deltalog/deltalog/Sign;" (.ref w_NON_NEGATIVE)) (E_w_ZERO : Exa Z Z.heap w_ZERO "com/example/deltalog/deltalog/Sign") (E_w_UNKNOWN : Exa Z Z.heap w_UNKNOWN "com/example/deltalog/deltalog/Sign") (E_w_NON_POSITIVE : Exa Z Z.heap w_NON_POSITIVE "com/example/deltalog/deltalog/Sign") (E_w_NON_NEGATIVE : Exa Z Z.heap w_NON_NEGATIVE "com/example/deltalog/deltalog/Sign") (F_ordinal_w_NON_POSITIVE : Fld Z Z.heap w_NON_POSITIVE "java/lang/Enum" "ordinal" "I" (.int (2 : Int32))) (F_ordinal_w_ZERO : Fld Z Z.heap w_ZERO "java/lang/Enum" "ordinal" "I" (.int (0 : Int32))) (F_ordinal_w_NON_NEGATIVE : Fld Z Z.heap w_NON_NEGATIVE "java/lang/Enum" "ordinal" "I" (.int (1 : Int32))) (F_ordinal_w_UNKNOWN : Fld Z Z.heap w_UNKNOWN "java/lang/Enum" "ordinal" "I" (.int (3 : Int32))) (ne_w_NON_POSITIVE_w_ZERO : w_NON_POSITIVE ≠ w_ZERO) (ne_w_NON_POSITIVE_w_NON_NEGATIVE : w_NON_POSITIVE ≠ w_NON_NEGATIVE) (ne_w_NON_POSITIVE_w_UNKNOWN : w_NON_POSITIVE ≠ w_UNKNOWN) (ne_w_ZERO_w_NON_NEGATIVE : w_ZERO ≠ w_NON_NEGATIVE) (ne_w_ZERO_w_UNKNOWN : w_ZERO ≠ w_UNKNOWN) (ne_w_NON_NEGATIVE_w_UNKNOWN : w_NON_NEGATIVE ≠ w_UNKNOWN) (o1 : Addr) (o2 : Addr) (h0 : Heap) (n0 : Nat) (v : Option Value) (h : Heap) (L : List Loc) : Prop := v = some (.ref (own_times o1 o2 w_ZERO w_NON_NEGATIVE w_NON_POSITIVE w_UNKNOWN)) ∧ Fr n0 L ∧ h = h0
set_option maxRecDepth 65536 in
set_option maxHeartbeats 40000000 in
theorem own_rm2 (l : Launch) (Z : State) (a0 : Array Value) (hw : ∀ d ∈ tables_1, d.before a0 Z = true) (ws : List Jvm.Cond) (w_ZERO : Addr) (w_UNKNOWN : Addr) (w_NON_POSITIVE : Addr) (w_NON_NEGATIVE : Addr) (S_w_ZERO : Sta Z Z.heap "com/example/deltalog/deltalog/Sign" "ZERO" "Lcom/example/deltalog/deltalog/Sign;" (.ref w_ZERO)) (S_w_UNKNOWN : Sta Z Z.heap "com/example/deltalog/deltalog/Sign" "UNKNOWN" "Lcom/example/deltalog/deltalog/Sign;" (.ref w_UNKNOWN)) (S_w_NON_POSITIVE : Sta Z Z.heap "com/example/deltalog/deltalog/Sign" "NON_POSITIVE" "Lcom/example/deltalog/deltalog/Sign;" (.ref w_NON_POSITIVE)) (S_w_NON_NEGATIVE : Sta Z Z.heap "com/example/deltalog/deltalog/Sign" "NON_NEGATIVE" "Lcom/example/deltalog/deltalog/Sign;" (.ref w_NON_NEGATIVE)) (E_w_ZERO : Exa Z Z.heap w_ZERO "com/example/deltalog/deltalog/Sign") (E_w_UNKNOWN : Exa Z Z.heap w_UNKNOWN "com/example/deltalog/deltalog/Sign") (E_w_NON_POSITIVE : Exa Z Z.heap w_NON_POSITIVE "com/example/deltalog/deltalog/Sign") (E_w_NON_NEGATIVE : Exa Z Z.heap w_NON_NEGATIVE "com/example/deltalog/deltalog/Sign") (F_ordinal_w_NON_POSITIVE : Fld Z Z.heap w_NON_POSITIVE "java/lang/Enum" "ordinal" "I" (.int (2 : Int32))) (F_ordinal_w_ZERO : Fld Z Z.heap w_ZERO "java/lang/Enum" "ordinal" "I" (.int (0 : Int32))) (F_ordinal_w_NON_NEGATIVE : Fld Z Z.heap w_NON_NEGATIVE "java/lang/Enum" "ordinal" "I" (.int (1 : Int32))) (F_ordinal_w_UNKNOWN : Fld Z Z.heap w_UNKNOWN "java/lang/Enum" "ordinal" "I" (.int (3 : Int32))) (ne_w_NON_POSITIVE_w_ZERO : w_NON_POSITIVE ≠ w_ZERO) (ne_w_NON_POSITIVE_w_NON_NEGATIVE : w_NON_POSITIVE ≠ w_NON_NEGATIVE) (ne_w_NON_POSITIVE_w_UNKNOWN : w_NON_POSITIVE ≠ w_UNKNOWN) (ne_w_ZERO_w_NON_NEGATIVE : w_ZERO ≠ w_NON_NEGATIVE) (ne_w_ZERO_w_UNKNOWN : w_ZERO ≠ w_UNKNOWN) (ne_w_NON_NEGATIVE_w_UNKNOWN : w_NON_NEGATIVE ≠ w_UNKNOWN) (o1 : Addr) (o2 : Addr) (h0 : Heap) (n0 : Nat) (Z0 : n0 ≤ h0.size) (O0 : Old Z n0 h0) :
    MetFree l (⟨"com/example/deltalog/deltalog/Sign", "times", "(Lcom/example/deltalog/deltalog/Sign;)Lcom/example/deltalog/deltalog/Sign;"⟩ : MethodName) (head1 (Jvm.Cond.code (⟨"com/example/deltalog/deltalog/Sign", "times", "(Lcom/example/deltalog/deltalog/Sign;)Lcom/example/deltalog/deltalog/Sign;"⟩ : MethodName) prog_109_method_7_code 3 (some (.object "com/example/deltalog/deltalog/Sign")) :: ws) ({ frames := 0, cells := 0, slots := 0, locals := 0 } : Room)) (fun a U => a = #[(.ref o1), (.ref o2)] ∧ Z.Warmed39 U.vm ∧ U.heap = h0) (fun _ _ _ _ _ => True) (fun _ U o U' => ∃ v L, o = .returned v ∧ own_Q2 Z w_ZERO w_UNKNOWN w_NON_POSITIVE w_NON_NEGATIVE S_w_ZERO S_w_UNKNOWN S_w_NON_POSITIVE S_w_NON_NEGATIVE E_w_ZERO E_w_UNKNOWN E_w_NON_POSITIVE E_w_NON_NEGATIVE F_ordinal_w_NON_POSITIVE F_ordinal_w_ZERO F_ordinal_w_NON_NEGATIVE F_ordinal_w_UNKNOWN ne_w_NON_POSITIVE_w_ZERO ne_w_NON_POSITIVE_w_NON_NEGATIVE ne_w_NON_POSITIVE_w_UNKNOWN ne_w_ZERO_w_NON_NEGATIVE ne_w_ZERO_w_UNKNOWN ne_w_NON_NEGATIVE_w_UNKNOWN o1 o2 h0 n0 v U'.heap L ∧ FrameEnd U o U' L ({ frames := 0, cells := 0, slots := 0, locals := 0 } : Room).cells ({ frames := 0, cells := 0, slots := 0, locals := 0 } : Room).slots) := by
  refine MetFree.of_bodySF (plainFor_of_name own_pn1) hisR ?_
  intro p e s m args below meth c s₁ Bd hml0 hP hK
  obtain ⟨rfl, hZ, hh⟩ := hP
  have hx := Bd.exec
  have hby := Bd.bytes
  have hlk := Bd.notSynchronized
  have hrt := Bd.returns
  have hml : c.maxLocals = 3 := hml0
  have hown : s.vm.findClass "com/example/deltalog/deltalog/Sign" = some m.cls := findClass_of_methodNamed Bd.named
  have hnm := (name_of_methodNamed Bd.named Bd.method).1
  have X0 : Stand p l e ({ frames := 0, cells := 0, slots := 0, locals := 0 } : Room) s m #[(.ref o1), (.ref o2)] below meth c s₁ [] 0 0 := Stand.of_body Bd
  have e0 : s₁.heap = h0 := by rw [← hh, Bd.state]; rfl
  have N0 := Fr.nil n0
  refine own_in (own_ef2 m o1 o2) ?_
  refine own_aloadN X0 hx 1 (hb hby own_d2_0) rfl rfl ?_
  obtain ⟨T1, X1, e1, st1⟩ := getS2 X0 hx hZ hown (host := "") (Or.inl (hw _ (List.mem_of_getElem? (i := 14) rfl))) Via.refl e0 (S_w_ZERO.ext O0.2) (g := (mkF m 1 #[.val (.ref o1), .val (.ref o2), .unset] [(.ref o1)])) rfl (hb hby own_d2_1)
  refine own_st (G' := T1.setTop (mkF m 4 #[.val (.ref o1), .val (.ref o2), .unset] [(.ref w_ZERO), (.ref o1)])) st1 ?_
  by_cases hc4_2 : o1 = w_ZERO
  · refine own_acmp X1 hx 14 true (hb hby own_d2_4) rfl rfl (decide_eq_true (congrArg Value.ref hc4_2)) ?_
    obtain ⟨T3, X3, e3, st3⟩ := getS2 X1 hx hZ hown (host := "") (Or.inl (hw _ (List.mem_of_getElem? (i := 14) rfl))) Via.refl e1 (S_w_ZERO.ext O0.2) (g := (mkF m 14 #[.val (.ref o1), .val (.ref o2), .unset] [])) rfl (hb hby own_d2_14)
    refine own_st (G' := T3.setTop (mkF m 17 #[.val (.ref o1), .val (.ref o2), .unset] [(.ref w_ZERO)])) st3 ?_
    refine own_astoreN X3 hx 18 #[.val (.ref o1), .val (.ref o2), .val (.ref w_ZERO)] (hb hby own_d2_17) rfl rfl ?_
    refine own_goto X3 hx 57 (hb hby own_d2_18) ?_
    refine own_aloadN X3 hx 58 (hb hby own_d2_57) rfl rfl ?_
    exact own_retA (z := (.ref w_ZERO)) (Q := own_Q2 Z w_ZERO w_UNKNOWN w_NON_POSITIVE w_NON_NEGATIVE S_w_ZERO S_w_UNKNOWN S_w_NON_POSITIVE S_w_NON_NEGATIVE E_w_ZERO E_w_UNKNOWN E_w_NON_POSITIVE E_w_NON_NEGATIVE F_ordinal_w_NON_POSITIVE F_ordinal_w_ZERO F_ordinal_w_NON_NEGATIVE F_ordinal_w_UNKNOWN ne_w_NON_POSITIVE_w_ZERO ne_w_NON_POSITIVE_w_NON_NEGATIVE ne_w_NON_POSITIVE_w_UNKNOWN ne_w_ZERO_w_NON_NEGATIVE ne_w_ZERO_w_UNKNOWN ne_w_NON_NEGATIVE_w_UNKNOWN o1 o2 h0 n0) X3 hx hrt rfl rfl (hb hby own_d2_58) hlk e3 ⟨(own_leafR (show w_ZERO = own_times o1 o2 w_ZERO w_NON_NEGATIVE w_NON_POSITIVE w_UNKNOWN from by unfold own_times; rw [if_pos hc4_2])), N0, rfl⟩ (by decide) (by decide)
  · refine own_acmp X1 hx 7 false (hb hby own_d2_4) rfl rfl (decide_eq_false fun q => hc4_2 (Value.ref.inj q)) ?_
    refine own_aloadN X1 hx 8 (hb hby own_d2_7) rfl rfl ?_
    obtain ⟨T4, X4, e4, st4⟩ := getS2 X1 hx hZ hown (host := "") (Or.inl (hw _ (List.mem_of_getElem? (i := 14) rfl))) Via.refl e1 (S_w_ZERO.ext O0.2) (g := (mkF m 8 #[.val (.ref o1), .val (.ref o2), .unset] [(.ref o2)])) rfl (hb hby own_d2_8)
    refine own_st (G' := T4.setTop (mkF m 11 #[.val (.ref o1), .val (.ref o2), .unset] [(.ref w_ZERO), (.ref o2)])) st4 ?_
    by_cases hc11_5 : o2 = w_ZERO
    · refine own_acmp X4 hx 14 true (hb hby own_d2_11) rfl rfl (decide_eq_true (congrArg Value.ref hc11_5)) ?_
      obtain ⟨T6, X6, e6, st6⟩ := getS2 X4 hx hZ hown (host := "") (Or.inl (hw _ (List.mem_of_getElem? (i := 14) rfl))) Via.refl e4 (S_w_ZERO.ext O0.2) (g := (mkF m 14 #[.val (.ref o1), .val (.ref o2), .unset] [])) rfl (hb hby own_d2_14)
      refine own_st (G' := T6.setTop (mkF m 17 #[.val (.ref o1), .val (.ref o2), .unset] [(.ref w_ZERO)])) st6 ?_
      refine own_astoreN X6 hx 18 #[.val (.ref o1), .val (.ref o2), .val (.ref w_ZERO)] (hb hby own_d2_17) rfl rfl ?_
      refine own_goto X6 hx 57 (hb hby own_d2_18) ?_
      refine own_aloadN X6 hx 58 (hb hby own_d2_57) rfl rfl ?_
      exact own_retA (z := (.ref w_ZERO)) (Q := own_Q2 Z w_ZERO w_UNKNOWN w_NON_POSITIVE w_NON_NEGATIVE S_w_ZERO S_w_UNKNOWN S_w_NON_POSITIVE S_w_NON_NEGATIVE E_w_ZERO E_w_UNKNOWN E_w_NON_POSITIVE E_w_NON_NEGATIVE F_ordinal_w_NON_POSITIVE F_ordinal_w_ZERO F_ordinal_w_NON_NEGATIVE F_ordinal_w_UNKNOWN ne_w_NON_POSITIVE_w_ZERO ne_w_NON_POSITIVE_w_NON_NEGATIVE ne_w_NON_POSITIVE_w_UNKNOWN ne_w_ZERO_w_NON_NEGATIVE ne_w_ZERO_w_UNKNOWN ne_w_NON_NEGATIVE_w_UNKNOWN o1 o2 h0 n0) X6 hx hrt rfl rfl (hb hby own_d2_58) hlk e6 ⟨(own_leafR (show w_ZERO = own_times o1 o2 w_ZERO w_NON_NEGATIVE w_NON_POSITIVE w_UNKNOWN from by unfold own_times; rw [if_neg hc4_2, if_pos hc11_5])), N0, rfl⟩ (by decide) (by decide)
    · refine own_acmp X4 hx 21 false (hb hby own_d2_11) rfl rfl (decide_eq_false fun q => hc11_5 (Value.ref.inj q)) ?_
      refine own_aloadN X4 hx 22 (hb hby own_d2_21) rfl rfl ?_
      obtain ⟨T7, X7, e7, st7⟩ := getS2 X4 hx hZ hown (host := "") (Or.inl (hw _ (List.mem_of_getElem? (i := 25) rfl))) Via.refl e4 (S_w_UNKNOWN.ext O0.2) (g := (mkF m 22 #[.val (.ref o1), .val (.ref o2), .unset] [(.ref o1)])) rfl (hb hby own_d2_22)
      refine own_st (G' := T7.setTop (mkF m 25 #[.val (.ref o1), .val (.ref o2), .unset] [(.ref w_UNKNOWN), (.ref o1)])) st7 ?_
      by_cases hc25_8 : o1 = w_UNKNOWN
      · refine own_acmp X7 hx 35 true (hb hby own_d2_25) rfl rfl (decide_eq_true (congrArg Value.ref hc25_8)) ?_
        obtain ⟨T9, X9, e9, st9⟩ := getS2 X7 hx hZ hown (host := "") (Or.inl (hw _ (List.mem_of_getElem? (i := 25) rfl))) Via.refl e7 (S_w_UNKNOWN.ext O0.2) (g := (mkF m 35 #[.val (.ref o1), .val (.ref o2), .unset] [])) rfl (hb hby own_d2_35)
        refine own_st (G' := T9.setTop (mkF m 38 #[.val (.ref o1), .val (.ref o2), .unset] [(.ref w_UNKNOWN)])) st9 ?_
        refine own_astoreN X9 hx 39 #[.val (.ref o1), .val (.ref o2), .val (.ref w_UNKNOWN)] (hb hby own_d2_38) rfl rfl ?_
        refine own_goto X9 hx 57 (hb hby own_d2_39) ?_
        refine own_aloadN X9 hx 58 (hb hby own_d2_57) rfl rfl ?_
        exact own_retA (z := (.ref w_UNKNOWN)) (Q := own_Q2 Z w_ZERO w_UNKNOWN w_NON_POSITIVE w_NON_NEGATIVE S_w_ZERO S_w_UNKNOWN S_w_NON_POSITIVE S_w_NON_NEGATIVE E_w_ZERO E_w_UNKNOWN E_w_NON_POSITIVE E_w_NON_NEGATIVE F_ordinal_w_NON_POSITIVE F_ordinal_w_ZERO F_ordinal_w_NON_NEGATIVE F_ordinal_w_UNKNOWN ne_w_NON_POSITIVE_w_ZERO ne_w_NON_POSITIVE_w_NON_NEGATIVE ne_w_NON_POSITIVE_w_UNKNOWN ne_w_ZERO_w_NON_NEGATIVE ne_w_ZERO_w_UNKNOWN ne_w_NON_NEGATIVE_w_UNKNOWN o1 o2 h0 n0) X9 hx hrt rfl rfl (hb hby own_d2_58) hlk e9 ⟨(own_leafR (show w_UNKNOWN = own_times o1 o2 w_ZERO w_NON_NEGATIVE w_NON_POSITIVE w_UNKNOWN from by unfold own_times; rw [if_neg hc4_2, if_neg hc11_5, if_pos hc25_8])), N0, rfl⟩ (by decide) (by decide)
      · refine own_acmp X7 hx 28 false (hb hby own_d2_25) rfl rfl (decide_eq_false fun q => hc25_8 (Value.ref.inj q)) ?_
        refine own_aloadN X7 hx 29 (hb hby own_d2_28) rfl rfl ?_
        obtain ⟨T10, X10, e10, st10⟩ := getS2 X7 hx hZ hown (host := "") (Or.inl (hw _ (List.mem_of_getElem? (i := 25) rfl))) Via.refl e7 (S_w_UNKNOWN.ext O0.2) (g := (mkF m 29 #[.val (.ref o1), .val (.ref o2), .unset] [(.ref o2)])) rfl (hb hby own_d2_29)
        refine own_st (G' := T10.setTop (mkF m 32 #[.val (.ref o1), .val (.ref o2), .unset] [(.ref w_UNKNOWN), (.ref o2)])) st10 ?_
        by_cases hc32_11 : o2 = w_UNKNOWN
        · refine own_acmp X10 hx 35 true (hb hby own_d2_32) rfl rfl (decide_eq_true (congrArg Value.ref hc32_11)) ?_
          obtain ⟨T12, X12, e12, st12⟩ := getS2 X10 hx hZ hown (host := "") (Or.inl (hw _ (List.mem_of_getElem? (i := 25) rfl))) Via.refl e10 (S_w_UNKNOWN.ext O0.2) (g := (mkF m 35 #[.val (.ref o1), .val (.ref o2), .unset] [])) rfl (hb hby own_d2_35)
          refine own_st (G' := T12.setTop (mkF m 38 #[.val (.ref o1), .val (.ref o2), .unset] [(.ref w_UNKNOWN)])) st12 ?_
          refine own_astoreN X12 hx 39 #[.val (.ref o1), .val (.ref o2), .val (.ref w_UNKNOWN)] (hb hby own_d2_38) rfl rfl ?_
          refine own_goto X12 hx 57 (hb hby own_d2_39) ?_
          refine own_aloadN X12 hx 58 (hb hby own_d2_57) rfl rfl ?_
          exact own_retA (z := (.ref w_UNKNOWN)) (Q := own_Q2 Z w_ZERO w_UNKNOWN w_NON_POSITIVE w_NON_NEGATIVE S_w_ZERO S_w_UNKNOWN S_w_NON_POSITIVE S_w_NON_NEGATIVE E_w_ZERO E_w_UNKNOWN E_w_NON_POSITIVE E_w_NON_NEGATIVE F_ordinal_w_NON_POSITIVE F_ordinal_w_ZERO F_ordinal_w_NON_NEGATIVE F_ordinal_w_UNKNOWN ne_w_NON_POSITIVE_w_ZERO ne_w_NON_POSITIVE_w_NON_NEGATIVE ne_w_NON_POSITIVE_w_UNKNOWN ne_w_ZERO_w_NON_NEGATIVE ne_w_ZERO_w_UNKNOWN ne_w_NON_NEGATIVE_w_UNKNOWN o1 o2 h0 n0) X12 hx hrt rfl rfl (hb hby own_d2_58) hlk e12 ⟨(own_leafR (show w_UNKNOWN = own_times o1 o2 w_ZERO w_NON_NEGATIVE w_NON_POSITIVE w_UNKNOWN from by unfold own_times; rw [if_neg hc4_2, if_neg hc11_5, if_neg hc25_8, if_pos hc32_11])), N0, rfl⟩ (by decide) (by decide)
        · refine own_acmp X10 hx 42 false (hb hby own_d2_32) rfl rfl (decide_eq_false fun q => hc32_11 (Value.ref.inj q)) ?_
          refine own_aloadN X10 hx 43 (hb hby own_d2_42) rfl rfl ?_
          refine own_aloadN X10 hx 44 (hb hby own_d2_43) rfl rfl ?_
          by_cases hc44_13 : o1 = o2
          · refine own_acmp X10 hx 47 true (hb hby own_d2_44) rfl rfl (decide_eq_true (congrArg Value.ref hc44_13)) ?_
            obtain ⟨T14, X14, e14, st14⟩ := getS2 X10 hx hZ hown (host := "") (Or.inl (hw _ (List.mem_of_getElem? (i := 27) rfl))) Via.refl e10 (S_w_NON_NEGATIVE.ext O0.2) (g := (mkF m 47 #[.val (.ref o1), .val (.ref o2), .unset] [])) rfl (hb hby own_d2_47)
            refine own_st (G' := T14.setTop (mkF m 50 #[.val (.ref o1), .val (.ref o2), .unset] [(.ref w_NON_NEGATIVE)])) st14 ?_
            refine own_goto X14 hx 56 (hb hby own_d2_50) ?_
            refine own_astoreN X14 hx 57 #[.val (.ref o1), .val (.ref o2), .val (.ref w_NON_NEGATIVE)] (hb hby own_d2_56) rfl rfl ?_
            refine own_aloadN X14 hx 58 (hb hby own_d2_57) rfl rfl ?_
            exact own_retA (z := (.ref w_NON_NEGATIVE)) (Q := own_Q2 Z w_ZERO w_UNKNOWN w_NON_POSITIVE w_NON_NEGATIVE S_w_ZERO S_w_UNKNOWN S_w_NON_POSITIVE S_w_NON_NEGATIVE E_w_ZERO E_w_UNKNOWN E_w_NON_POSITIVE E_w_NON_NEGATIVE F_ordinal_w_NON_POSITIVE F_ordinal_w_ZERO F_ordinal_w_NON_NEGATIVE F_ordinal_w_UNKNOWN ne_w_NON_POSITIVE_w_ZERO ne_w_NON_POSITIVE_w_NON_NEGATIVE ne_w_NON_POSITIVE_w_UNKNOWN ne_w_ZERO_w_NON_NEGATIVE ne_w_ZERO_w_UNKNOWN ne_w_NON_NEGATIVE_w_UNKNOWN o1 o2 h0 n0) X14 hx hrt rfl rfl (hb hby own_d2_58) hlk e14 ⟨(own_leafR (show w_NON_NEGATIVE = own_times o1 o2 w_ZERO w_NON_NEGATIVE w_NON_POSITIVE w_UNKNOWN from by unfold own_times; rw [if_neg hc4_2, if_neg hc11_5, if_neg hc25_8, if_neg hc32_11, if_pos hc44_13])), N0, rfl⟩ (by decide) (by decide)
          · refine own_acmp X10 hx 53 false (hb hby own_d2_44) rfl rfl (decide_eq_false fun q => hc44_13 (Value.ref.inj q)) ?_
            obtain ⟨T15, X15, e15, st15⟩ := getS2 X10 hx hZ hown (host := "") (Or.inl (hw _ (List.mem_of_getElem? (i := 26) rfl))) Via.refl e10 (S_w_NON_POSITIVE.ext O0.2) (g := (mkF m 53 #[.val (.ref o1), .val (.ref o2), .unset] [])) rfl (hb hby own_d2_53)
            refine own_st (G' := T15.setTop (mkF m 56 #[.val (.ref o1), .val (.ref o2), .unset] [(.ref w_NON_POSITIVE)])) st15 ?_
            refine own_astoreN X15 hx 57 #[.val (.ref o1), .val (.ref o2), .val (.ref w_NON_POSITIVE)] (hb hby own_d2_56) rfl rfl ?_
            refine own_aloadN X15 hx 58 (hb hby own_d2_57) rfl rfl ?_
            exact own_retA (z := (.ref w_NON_POSITIVE)) (Q := own_Q2 Z w_ZERO w_UNKNOWN w_NON_POSITIVE w_NON_NEGATIVE S_w_ZERO S_w_UNKNOWN S_w_NON_POSITIVE S_w_NON_NEGATIVE E_w_ZERO E_w_UNKNOWN E_w_NON_POSITIVE E_w_NON_NEGATIVE F_ordinal_w_NON_POSITIVE F_ordinal_w_ZERO F_ordinal_w_NON_NEGATIVE F_ordinal_w_UNKNOWN ne_w_NON_POSITIVE_w_ZERO ne_w_NON_POSITIVE_w_NON_NEGATIVE ne_w_NON_POSITIVE_w_UNKNOWN ne_w_ZERO_w_NON_NEGATIVE ne_w_ZERO_w_UNKNOWN ne_w_NON_NEGATIVE_w_UNKNOWN o1 o2 h0 n0) X15 hx hrt rfl rfl (hb hby own_d2_58) hlk e15 ⟨(own_leafR (show w_NON_POSITIVE = own_times o1 o2 w_ZERO w_NON_NEGATIVE w_NON_POSITIVE w_UNKNOWN from by unfold own_times; rw [if_neg hc4_2, if_neg hc11_5, if_neg hc25_8, if_neg hc32_11, if_neg hc44_13])), N0, rfl⟩ (by decide) (by decide)
theorem own_four (v : Int32) : (v &&& (3 : Int32)) = 0 ∨ (v &&& (3 : Int32)) = 1 ∨ (v &&& (3 : Int32)) = 2 ∨ (v &&& (3 : Int32)) = 3 := by
  have h := c_mask v 3 2 (by decide) (by decide)
  simp only [← Int32.toInt_inj, Int32.reduceToInt]
  omega
theorem own_pd0 : parseMethodDescriptor "(I)Lcom/example/deltalog/deltalog/Sign;" = some ⟨[.int], some (.object "com/example/deltalog/deltalog/Sign")⟩ := by decide +kernel
theorem own_pd1 : parseMethodDescriptor "(Lcom/example/deltalog/deltalog/Sign;)Lcom/example/deltalog/deltalog/Sign;" = some ⟨[(.object "com/example/deltalog/deltalog/Sign")], some (.object "com/example/deltalog/deltalog/Sign")⟩ := by decide +kernel
theorem own_pd2 : parseMethodDescriptor "(I)Z" = some ⟨[.int], some .boolean⟩ := by decide +kernel
theorem own_ef0 (m : MethodId) (v0 : Int32) (v1 : Int32) : entryFrame m #[(.int v0), (.int v1)] maxLocals = mkF m 0 #[.val (.int v0), .val (.int v1), .unset, .unset, .unset, .unset, .unset, .unset] [] := by first | (simp [entryFrame, mkF, argsToLocals, Value.category, maxLocals]; done) | rfl
def own_Q0 (Z : State) (w_ZERO : Addr) (w_UNKNOWN : Addr) (w_NON_POSITIVE : Addr) (w_NON_NEGATIVE : Addr) (S_w_ZERO : Sta Z Z.heap "com/example/deltalog/deltalog/Sign" "ZERO" "Lcom/example/deltalog/deltalog/Sign;" (.ref w_ZERO)) (S_w_UNKNOWN : Sta Z Z.heap "com/example/deltalog/deltalog/Sign" "UNKNOWN" "Lcom/example/deltalog/deltalog/Sign;" (.ref w_UNKNOWN)) (S_w_NON_POSITIVE : Sta Z Z.heap "com/example/deltalog/deltalog/Sign" "NON_POSITIVE" "Lcom/example/deltalog/deltalog/Sign;" (.ref w_NON_POSITIVE)) (S_w_NON_NEGATIVE : Sta Z Z.heap "com/example/deltalog/deltalog/Sign" "NON_NEGATIVE" "Lcom/example/deltalog/deltalog/Sign;" (.ref w_NON_NEGATIVE)) (E_w_ZERO : Exa Z Z.heap w_ZERO "com/example/deltalog/deltalog/Sign") (E_w_UNKNOWN : Exa Z Z.heap w_UNKNOWN "com/example/deltalog/deltalog/Sign") (E_w_NON_POSITIVE : Exa Z Z.heap w_NON_POSITIVE "com/example/deltalog/deltalog/Sign") (E_w_NON_NEGATIVE : Exa Z Z.heap w_NON_NEGATIVE "com/example/deltalog/deltalog/Sign") (F_ordinal_w_NON_POSITIVE : Fld Z Z.heap w_NON_POSITIVE "java/lang/Enum" "ordinal" "I" (.int (2 : Int32))) (F_ordinal_w_ZERO : Fld Z Z.heap w_ZERO "java/lang/Enum" "ordinal" "I" (.int (0 : Int32))) (F_ordinal_w_NON_NEGATIVE : Fld Z Z.heap w_NON_NEGATIVE "java/lang/Enum" "ordinal" "I" (.int (1 : Int32))) (F_ordinal_w_UNKNOWN : Fld Z Z.heap w_UNKNOWN "java/lang/Enum" "ordinal" "I" (.int (3 : Int32))) (ne_w_NON_POSITIVE_w_ZERO : w_NON_POSITIVE ≠ w_ZERO) (ne_w_NON_POSITIVE_w_NON_NEGATIVE : w_NON_POSITIVE ≠ w_NON_NEGATIVE) (ne_w_NON_POSITIVE_w_UNKNOWN : w_NON_POSITIVE ≠ w_UNKNOWN) (ne_w_ZERO_w_NON_NEGATIVE : w_ZERO ≠ w_NON_NEGATIVE) (ne_w_ZERO_w_UNKNOWN : w_ZERO ≠ w_UNKNOWN) (ne_w_NON_NEGATIVE_w_UNKNOWN : w_NON_NEGATIVE ≠ w_UNKNOWN) (v0 : Int32) (v1 : Int32) (h0 : Heap) (n0 : Nat) (v : Option Value) (h : Heap) (L : List Loc) : Prop := v = some (.int (1 : Int32)) ∧ Fr n0 L
set_option maxRecDepth 65536 in
set_option maxHeartbeats 40000000 in
theorem own_rm0 (l : Launch) (Z : State) (a0 : Array Value) (hw : ∀ d ∈ tables_1, d.before a0 Z = true) (ws : List Jvm.Cond) (w_ZERO : Addr) (w_UNKNOWN : Addr) (w_NON_POSITIVE : Addr) (w_NON_NEGATIVE : Addr) (S_w_ZERO : Sta Z Z.heap "com/example/deltalog/deltalog/Sign" "ZERO" "Lcom/example/deltalog/deltalog/Sign;" (.ref w_ZERO)) (S_w_UNKNOWN : Sta Z Z.heap "com/example/deltalog/deltalog/Sign" "UNKNOWN" "Lcom/example/deltalog/deltalog/Sign;" (.ref w_UNKNOWN)) (S_w_NON_POSITIVE : Sta Z Z.heap "com/example/deltalog/deltalog/Sign" "NON_POSITIVE" "Lcom/example/deltalog/deltalog/Sign;" (.ref w_NON_POSITIVE)) (S_w_NON_NEGATIVE : Sta Z Z.heap "com/example/deltalog/deltalog/Sign" "NON_NEGATIVE" "Lcom/example/deltalog/deltalog/Sign;" (.ref w_NON_NEGATIVE)) (E_w_ZERO : Exa Z Z.heap w_ZERO "com/example/deltalog/deltalog/Sign") (E_w_UNKNOWN : Exa Z Z.heap w_UNKNOWN "com/example/deltalog/deltalog/Sign") (E_w_NON_POSITIVE : Exa Z Z.heap w_NON_POSITIVE "com/example/deltalog/deltalog/Sign") (E_w_NON_NEGATIVE : Exa Z Z.heap w_NON_NEGATIVE "com/example/deltalog/deltalog/Sign") (F_ordinal_w_NON_POSITIVE : Fld Z Z.heap w_NON_POSITIVE "java/lang/Enum" "ordinal" "I" (.int (2 : Int32))) (F_ordinal_w_ZERO : Fld Z Z.heap w_ZERO "java/lang/Enum" "ordinal" "I" (.int (0 : Int32))) (F_ordinal_w_NON_NEGATIVE : Fld Z Z.heap w_NON_NEGATIVE "java/lang/Enum" "ordinal" "I" (.int (1 : Int32))) (F_ordinal_w_UNKNOWN : Fld Z Z.heap w_UNKNOWN "java/lang/Enum" "ordinal" "I" (.int (3 : Int32))) (ne_w_NON_POSITIVE_w_ZERO : w_NON_POSITIVE ≠ w_ZERO) (ne_w_NON_POSITIVE_w_NON_NEGATIVE : w_NON_POSITIVE ≠ w_NON_NEGATIVE) (ne_w_NON_POSITIVE_w_UNKNOWN : w_NON_POSITIVE ≠ w_UNKNOWN) (ne_w_ZERO_w_NON_NEGATIVE : w_ZERO ≠ w_NON_NEGATIVE) (ne_w_ZERO_w_UNKNOWN : w_ZERO ≠ w_UNKNOWN) (ne_w_NON_NEGATIVE_w_UNKNOWN : w_NON_NEGATIVE ≠ w_UNKNOWN) (v0 : Int32) (v1 : Int32) (h0 : Heap) (n0 : Nat) (Z0 : n0 ≤ h0.size) (O0 : Old Z n0 h0) :
    MetFree l x (head1 (Jvm.Cond.code x code maxLocals ret :: ws) room_1) (fun a U => a = #[(.int v0), (.int v1)] ∧ Z.Warmed39 U.vm ∧ U.heap = h0) (fun _ _ _ _ _ => True) (fun _ U o U' => ∃ v L, o = .returned v ∧ own_Q0 Z w_ZERO w_UNKNOWN w_NON_POSITIVE w_NON_NEGATIVE S_w_ZERO S_w_UNKNOWN S_w_NON_POSITIVE S_w_NON_NEGATIVE E_w_ZERO E_w_UNKNOWN E_w_NON_POSITIVE E_w_NON_NEGATIVE F_ordinal_w_NON_POSITIVE F_ordinal_w_ZERO F_ordinal_w_NON_NEGATIVE F_ordinal_w_UNKNOWN ne_w_NON_POSITIVE_w_ZERO ne_w_NON_POSITIVE_w_NON_NEGATIVE ne_w_NON_POSITIVE_w_UNKNOWN ne_w_ZERO_w_NON_NEGATIVE ne_w_ZERO_w_UNKNOWN ne_w_NON_NEGATIVE_w_UNKNOWN v0 v1 h0 n0 v U'.heap L ∧ FrameEnd U o U' L room_1.cells room_1.slots) := by
  refine MetFree.of_bodySF (plainFor_of_name own_pn0) hisR ?_
  intro p e s m args below meth c s₁ Bd hml0 hP hK
  obtain ⟨rfl, hZ, hh⟩ := hP
  have hx := Bd.exec
  have hby := Bd.bytes
  have hlk := Bd.notSynchronized
  have hrt := Bd.returns
  have hml : c.maxLocals = 8 := hml0
  have hown : s.vm.findClass "com/example/deltalog/deltalog/SignTimesPinLaw" = some m.cls := findClass_of_methodNamed Bd.named
  have hnm := (name_of_methodNamed Bd.named Bd.method).1
  have X0 : Stand p l e room_1 s m #[(.int v0), (.int v1)] below meth c s₁ [] 0 0 := Stand.of_body Bd
  have e0 : s₁.heap = h0 := by rw [← hh, Bd.state]; rfl
  have N0 := Fr.nil n0
  refine own_in (own_ef0 m v0 v1) ?_
  refine own_iloadN X0 hx 1 (hb hby at_0) rfl ?_
  refine own_iconst X0 hx 2 (3 : Int32) (hb hby at_1) rfl ?_
  refine own_iand X0 hx 3 (hb hby at_2) ?_
  refine own_istoreN X0 hx 4 #[.val (.int v0), .val (.int v1), .val (.int (v0 &&& (3 : Int32))), .unset, .unset, .unset, .unset, .unset] (hb hby at_3) rfl ?_
  refine own_iloadN X0 hx 5 (hb hby at_4) rfl ?_
  refine own_iconst X0 hx 6 (3 : Int32) (hb hby at_5) rfl ?_
  refine own_iand X0 hx 7 (hb hby at_6) ?_
  refine own_istoreN X0 hx 8 #[.val (.int v0), .val (.int v1), .val (.int (v0 &&& (3 : Int32))), .val (.int (v1 &&& (3 : Int32))), .unset, .unset, .unset, .unset] (hb hby at_7) rfl ?_
  refine own_iloadN X0 hx 9 (hb hby at_8) rfl ?_
  obtain ⟨_, _, ⟨T1, Lx1, kc1, nc1⟩, -, X1, ⟨Lc1, hQ1, lq1, yq1, zq1⟩, st1⟩ := Jvm.LawKit.callS X0 hx (y := (⟨"com/example/deltalog/deltalog/SignTimesPinLaw", "sign", "(I)Lcom/example/deltalog/deltalog/Sign;"⟩ : MethodName)) hown (mvT hZ (hw _ (List.mem_of_getElem? (i := 0) rfl))) (mvT hZ (hw _ (List.mem_of_getElem? (i := 1) rfl))) (mvT hZ (hw _ (List.mem_of_getElem? (i := 2) rfl))) (mvT hZ (hw _ (List.mem_of_getElem? (i := 3) rfl))) (by decide) (backOf (W := 0) (own_rm1 l Z a0 hw [] w_ZERO w_UNKNOWN w_NON_POSITIVE w_NON_NEGATIVE S_w_ZERO S_w_UNKNOWN S_w_NON_POSITIVE S_w_NON_NEGATIVE E_w_ZERO E_w_UNKNOWN E_w_NON_POSITIVE E_w_NON_NEGATIVE F_ordinal_w_NON_POSITIVE F_ordinal_w_ZERO F_ordinal_w_NON_NEGATIVE F_ordinal_w_UNKNOWN ne_w_NON_POSITIVE_w_ZERO ne_w_NON_POSITIVE_w_NON_NEGATIVE ne_w_NON_POSITIVE_w_UNKNOWN ne_w_ZERO_w_NON_NEGATIVE ne_w_ZERO_w_UNKNOWN ne_w_NON_NEGATIVE_w_UNKNOWN (v0 &&& (3 : Int32)) h0 n0 Z0 O0) hZ (hw _ (List.mem_of_getElem? (i := 3) rfl)) (hw _ (List.mem_of_getElem? (i := 2) rfl)) (by decide) (by decide)) (g := (mkF m 9 #[.val (.int v0), .val (.int v1), .val (.int (v0 &&& (3 : Int32))), .val (.int (v1 &&& (3 : Int32))), .unset, .unset, .unset, .unset] [(.int (v0 &&& (3 : Int32)))])) rfl (by rw [hml]; rfl) (argsL := [(.int (v0 &&& (3 : Int32)))]) (rest := []) (lenOf own_pd0 rfl) rfl (by show 2 * 0 + _ ≤ _; exact Nat.le_of_eq rfl) (hb hby at_9) (fun _ _ => ⟨rfl, e0, (by decide : 0 + 0 ≤ _), (by decide : 0 + 0 ≤ _)⟩)
  dsimp only [Pt.U, Pt.locs, Pt.cells, Pt.slots] at X1 lq1 yq1 zq1 st1 hQ1
  subst lq1 yq1 zq1
  obtain ⟨rfl, Nq1, eh1⟩ := hQ1
  have N1 := Fr.app N0 Nq1
  refine own_st (G' := T1.setTop (mkF m 12 #[.val (.int v0), .val (.int v1), .val (.int (v0 &&& (3 : Int32))), .val (.int (v1 &&& (3 : Int32))), .unset, .unset, .unset, .unset] [(.ref (own_sign (v0 &&& (3 : Int32)) w_ZERO w_NON_NEGATIVE w_NON_POSITIVE w_UNKNOWN))])) st1 ?_
  refine own_iloadN X1 hx 13 (hb hby at_12) rfl ?_
  obtain ⟨_, _, ⟨T2, Lx2, kc2, nc2⟩, -, X2, ⟨Lc2, hQ2, lq2, yq2, zq2⟩, st2⟩ := Jvm.LawKit.callS X1 hx (y := (⟨"com/example/deltalog/deltalog/SignTimesPinLaw", "sign", "(I)Lcom/example/deltalog/deltalog/Sign;"⟩ : MethodName)) hown (mvT hZ (hw _ (List.mem_of_getElem? (i := 0) rfl))) (mvT hZ (hw _ (List.mem_of_getElem? (i := 1) rfl))) (mvT hZ (hw _ (List.mem_of_getElem? (i := 2) rfl))) (mvT hZ (hw _ (List.mem_of_getElem? (i := 3) rfl))) (by decide) (backOf (W := 1) (own_rm1 l Z a0 hw [] w_ZERO w_UNKNOWN w_NON_POSITIVE w_NON_NEGATIVE S_w_ZERO S_w_UNKNOWN S_w_NON_POSITIVE S_w_NON_NEGATIVE E_w_ZERO E_w_UNKNOWN E_w_NON_POSITIVE E_w_NON_NEGATIVE F_ordinal_w_NON_POSITIVE F_ordinal_w_ZERO F_ordinal_w_NON_NEGATIVE F_ordinal_w_UNKNOWN ne_w_NON_POSITIVE_w_ZERO ne_w_NON_POSITIVE_w_NON_NEGATIVE ne_w_NON_POSITIVE_w_UNKNOWN ne_w_ZERO_w_NON_NEGATIVE ne_w_ZERO_w_UNKNOWN ne_w_NON_NEGATIVE_w_UNKNOWN (v1 &&& (3 : Int32)) h0 n0 Z0 O0) hZ (hw _ (List.mem_of_getElem? (i := 3) rfl)) (hw _ (List.mem_of_getElem? (i := 2) rfl)) (by decide) (by decide)) (g := (mkF m 13 #[.val (.int v0), .val (.int v1), .val (.int (v0 &&& (3 : Int32))), .val (.int (v1 &&& (3 : Int32))), .unset, .unset, .unset, .unset] [(.int (v1 &&& (3 : Int32))), (.ref (own_sign (v0 &&& (3 : Int32)) w_ZERO w_NON_NEGATIVE w_NON_POSITIVE w_UNKNOWN))])) rfl (by rw [hml]; rfl) (argsL := [(.int (v1 &&& (3 : Int32)))]) (rest := [(.ref (own_sign (v0 &&& (3 : Int32)) w_ZERO w_NON_NEGATIVE w_NON_POSITIVE w_UNKNOWN))]) (lenOf own_pd0 rfl) rfl (by show 2 * 0 + _ ≤ _; exact Nat.le_of_eq rfl) (hb hby at_13) (fun _ _ => ⟨rfl, eh1, (by decide : 0 + 0 ≤ _), (by decide : 0 + 0 ≤ _)⟩)
  dsimp only [Pt.U, Pt.locs, Pt.cells, Pt.slots] at X2 lq2 yq2 zq2 st2 hQ2
  subst lq2 yq2 zq2
  obtain ⟨rfl, Nq2, eh2⟩ := hQ2
  have N2 := Fr.app N1 Nq2
  refine own_st (G' := T2.setTop (mkF m 16 #[.val (.int v0), .val (.int v1), .val (.int (v0 &&& (3 : Int32))), .val (.int (v1 &&& (3 : Int32))), .unset, .unset, .unset, .unset] [(.ref (own_sign (v1 &&& (3 : Int32)) w_ZERO w_NON_NEGATIVE w_NON_POSITIVE w_UNKNOWN)), (.ref (own_sign (v0 &&& (3 : Int32)) w_ZERO w_NON_NEGATIVE w_NON_POSITIVE w_UNKNOWN))])) st2 ?_
  have f3 : Exa Z h0 (own_sign (v0 &&& (3 : Int32)) w_ZERO w_NON_NEGATIVE w_NON_POSITIVE w_UNKNOWN) "com/example/deltalog/deltalog/Sign" := by unfold own_sign; (repeat' split) <;> first | exact E_w_ZERO.ext O0.2 | exact E_w_NON_NEGATIVE.ext O0.2 | exact E_w_NON_POSITIVE.ext O0.2 | exact E_w_UNKNOWN.ext O0.2
  obtain ⟨cq4, kq4, q4a, q4b, q4c⟩ := isOf hZ eh2 f3
  obtain ⟨_, _, ⟨T4, Lx4, kc4, nc4⟩, -, X4, ⟨Lc4, hQ4, lq4, yq4, zq4⟩, st4⟩ := X2.virtualBack hx (y := (⟨"com/example/deltalog/deltalog/Sign", "times", "(Lcom/example/deltalog/deltalog/Sign;)Lcom/example/deltalog/deltalog/Sign;"⟩ : MethodName)) (z := (⟨"com/example/deltalog/deltalog/Sign", "times", "(Lcom/example/deltalog/deltalog/Sign;)Lcom/example/deltalog/deltalog/Sign;"⟩ : MethodName)) hown (mvT hZ (hw _ (List.mem_of_getElem? (i := 9) rfl))) (mvT hZ (hw _ (List.mem_of_getElem? (i := 10) rfl))) (notFace_of_selects (args := #[]) (mvT hZ (hw _ (List.mem_of_getElem? (i := 12) rfl)))) (mvT hZ (hw _ (List.mem_of_getElem? (i := 12) rfl))) (mvT hZ (hw _ (List.mem_of_getElem? (i := 11) rfl))) (by decide) (backOf (W := 0) (own_rm2 l Z a0 hw [] w_ZERO w_UNKNOWN w_NON_POSITIVE w_NON_NEGATIVE S_w_ZERO S_w_UNKNOWN S_w_NON_POSITIVE S_w_NON_NEGATIVE E_w_ZERO E_w_UNKNOWN E_w_NON_POSITIVE E_w_NON_NEGATIVE F_ordinal_w_NON_POSITIVE F_ordinal_w_ZERO F_ordinal_w_NON_NEGATIVE F_ordinal_w_UNKNOWN ne_w_NON_POSITIVE_w_ZERO ne_w_NON_POSITIVE_w_NON_NEGATIVE ne_w_NON_POSITIVE_w_UNKNOWN ne_w_ZERO_w_NON_NEGATIVE ne_w_ZERO_w_UNKNOWN ne_w_NON_NEGATIVE_w_UNKNOWN (own_sign (v0 &&& (3 : Int32)) w_ZERO w_NON_NEGATIVE w_NON_POSITIVE w_UNKNOWN) (own_sign (v1 &&& (3 : Int32)) w_ZERO w_NON_NEGATIVE w_NON_POSITIVE w_UNKNOWN) h0 n0 Z0 O0) hZ (hw _ (List.mem_of_getElem? (i := 13) rfl)) (hw _ (List.mem_of_getElem? (i := 5) rfl)) (by decide) (by decide)) q4a q4c (g := (mkF m 16 #[.val (.int v0), .val (.int v1), .val (.int (v0 &&& (3 : Int32))), .val (.int (v1 &&& (3 : Int32))), .unset, .unset, .unset, .unset] [(.ref (own_sign (v1 &&& (3 : Int32)) w_ZERO w_NON_NEGATIVE w_NON_POSITIVE w_UNKNOWN)), (.ref (own_sign (v0 &&& (3 : Int32)) w_ZERO w_NON_NEGATIVE w_NON_POSITIVE w_UNKNOWN))])) rfl (by rw [hml]; rfl) (Steps.refl _) (argsL := [(.ref (own_sign (v1 &&& (3 : Int32)) w_ZERO w_NON_NEGATIVE w_NON_POSITIVE w_UNKNOWN))]) (rest := []) (lenOf own_pd1 rfl) rfl (by show 2 * 0 + _ ≤ _; exact Nat.le_of_eq rfl) (hb hby at_16) (fun _ _ => ⟨rfl, eh2, (by decide : 0 + 0 ≤ _), (by decide : 0 + 0 ≤ _)⟩)
  dsimp only [Pt.U, Pt.locs, Pt.cells, Pt.slots] at X4 lq4 yq4 zq4 st4 hQ4
  subst lq4 yq4 zq4
  obtain ⟨rfl, Nq4, eh4⟩ := hQ4
  have N4 := Fr.app N2 Nq4
  refine own_st (G' := T4.setTop (mkF m 19 #[.val (.int v0), .val (.int v1), .val (.int (v0 &&& (3 : Int32))), .val (.int (v1 &&& (3 : Int32))), .unset, .unset, .unset, .unset] [(.ref (own_times (own_sign (v0 &&& (3 : Int32)) w_ZERO w_NON_NEGATIVE w_NON_POSITIVE w_UNKNOWN) (own_sign (v1 &&& (3 : Int32)) w_ZERO w_NON_NEGATIVE w_NON_POSITIVE w_UNKNOWN) w_ZERO w_NON_NEGATIVE w_NON_POSITIVE w_UNKNOWN))])) (fun t k => st4.trans k) ?_
  refine own_astore X4 hx 21 #[.val (.int v0), .val (.int v1), .val (.int (v0 &&& (3 : Int32))), .val (.int (v1 &&& (3 : Int32))), .val (.ref (own_times (own_sign (v0 &&& (3 : Int32)) w_ZERO w_NON_NEGATIVE w_NON_POSITIVE w_UNKNOWN) (own_sign (v1 &&& (3 : Int32)) w_ZERO w_NON_NEGATIVE w_NON_POSITIVE w_UNKNOWN) w_ZERO w_NON_NEGATIVE w_NON_POSITIVE w_UNKNOWN)), .unset, .unset, .unset] (hb hby at_19) rfl rfl ?_
  refine own_iloadN X4 hx 22 (hb hby at_21) rfl ?_
  obtain ⟨_, _, ⟨T5, Lx5, kc5, nc5⟩, -, X5, ⟨Lc5, hQ5, lq5, yq5, zq5⟩, st5⟩ := Jvm.LawKit.callS X4 hx (y := (⟨"com/example/deltalog/deltalog/SignTimesPinLaw", "mayBePos", "(I)Z"⟩ : MethodName)) hown (mvT hZ (hw _ (List.mem_of_getElem? (i := 15) rfl))) (mvT hZ (hw _ (List.mem_of_getElem? (i := 16) rfl))) (mvT hZ (hw _ (List.mem_of_getElem? (i := 2) rfl))) (mvT hZ (hw _ (List.mem_of_getElem? (i := 17) rfl))) (by decide) (backOf (W := 0) (own_rm3 l Z a0 hw [] (v0 &&& (3 : Int32)) h0 n0 Z0 ) hZ (hw _ (List.mem_of_getElem? (i := 17) rfl)) (hw _ (List.mem_of_getElem? (i := 2) rfl)) (by decide) (by decide)) (g := (mkF m 22 #[.val (.int v0), .val (.int v1), .val (.int (v0 &&& (3 : Int32))), .val (.int (v1 &&& (3 : Int32))), .val (.ref (own_times (own_sign (v0 &&& (3 : Int32)) w_ZERO w_NON_NEGATIVE w_NON_POSITIVE w_UNKNOWN) (own_sign (v1 &&& (3 : Int32)) w_ZERO w_NON_NEGATIVE w_NON_POSITIVE w_UNKNOWN) w_ZERO w_NON_NEGATIVE w_NON_POSITIVE w_UNKNOWN)), .unset, .unset, .unset] [(.int (v0 &&& (3 : Int32)))])) rfl (by rw [hml]; rfl) (argsL := [(.int (v0 &&& (3 : Int32)))]) (rest := []) (lenOf own_pd2 rfl) rfl (by show 2 * 0 + _ ≤ _; exact Nat.le_of_eq rfl) (hb hby at_22) (fun _ _ => ⟨rfl, eh4, (by decide : 0 + 0 ≤ _), (by decide : 0 + 0 ≤ _)⟩)
  dsimp only [Pt.U, Pt.locs, Pt.cells, Pt.slots] at X5 lq5 yq5 zq5 st5 hQ5
  subst lq5 yq5 zq5
  obtain ⟨rfl, Nq5, eh5⟩ := hQ5
  have N5 := Fr.app N4 Nq5
  refine own_st (G' := T5.setTop (mkF m 25 #[.val (.int v0), .val (.int v1), .val (.int (v0 &&& (3 : Int32))), .val (.int (v1 &&& (3 : Int32))), .val (.ref (own_times (own_sign (v0 &&& (3 : Int32)) w_ZERO w_NON_NEGATIVE w_NON_POSITIVE w_UNKNOWN) (own_sign (v1 &&& (3 : Int32)) w_ZERO w_NON_NEGATIVE w_NON_POSITIVE w_UNKNOWN) w_ZERO w_NON_NEGATIVE w_NON_POSITIVE w_UNKNOWN)), .unset, .unset, .unset] [(.int (own_pos (v0 &&& (3 : Int32))))])) st5 ?_
  by_cases hc25_6 : (own_pos (v0 &&& (3 : Int32))) = (0 : Int32)
  · refine own_ifYes X5 hx 35 (hb hby at_25) (teq hc25_6).1 ?_
    refine own_iloadN X5 hx 36 (hb hby at_35) rfl ?_
    obtain ⟨_, _, ⟨T7, Lx7, kc7, nc7⟩, -, X7, ⟨Lc7, hQ7, lq7, yq7, zq7⟩, st7⟩ := Jvm.LawKit.callS X5 hx (y := (⟨"com/example/deltalog/deltalog/SignTimesPinLaw", "mayBeNeg", "(I)Z"⟩ : MethodName)) hown (mvT hZ (hw _ (List.mem_of_getElem? (i := 18) rfl))) (mvT hZ (hw _ (List.mem_of_getElem? (i := 19) rfl))) (mvT hZ (hw _ (List.mem_of_getElem? (i := 2) rfl))) (mvT hZ (hw _ (List.mem_of_getElem? (i := 20) rfl))) (by decide) (backOf (W := 0) (own_rm4 l Z a0 hw [] (v0 &&& (3 : Int32)) h0 n0 Z0 ) hZ (hw _ (List.mem_of_getElem? (i := 20) rfl)) (hw _ (List.mem_of_getElem? (i := 2) rfl)) (by decide) (by decide)) (g := (mkF m 36 #[.val (.int v0), .val (.int v1), .val (.int (v0 &&& (3 : Int32))), .val (.int (v1 &&& (3 : Int32))), .val (.ref (own_times (own_sign (v0 &&& (3 : Int32)) w_ZERO w_NON_NEGATIVE w_NON_POSITIVE w_UNKNOWN) (own_sign (v1 &&& (3 : Int32)) w_ZERO w_NON_NEGATIVE w_NON_POSITIVE w_UNKNOWN) w_ZERO w_NON_NEGATIVE w_NON_POSITIVE w_UNKNOWN)), .unset, .unset, .unset] [(.int (v0 &&& (3 : Int32)))])) rfl (by rw [hml]; rfl) (argsL := [(.int (v0 &&& (3 : Int32)))]) (rest := []) (lenOf own_pd2 rfl) rfl (by show 2 * 0 + _ ≤ _; exact Nat.le_of_eq rfl) (hb hby at_36) (fun _ _ => ⟨rfl, eh5, (by decide : 0 + 0 ≤ _), (by decide : 0 + 0 ≤ _)⟩)
    dsimp only [Pt.U, Pt.locs, Pt.cells, Pt.slots] at X7 lq7 yq7 zq7 st7 hQ7
    subst lq7 yq7 zq7
    obtain ⟨rfl, Nq7, eh7⟩ := hQ7
    have N7 := Fr.app N5 Nq7
    refine own_st (G' := T7.setTop (mkF m 39 #[.val (.int v0), .val (.int v1), .val (.int (v0 &&& (3 : Int32))), .val (.int (v1 &&& (3 : Int32))), .val (.ref (own_times (own_sign (v0 &&& (3 : Int32)) w_ZERO w_NON_NEGATIVE w_NON_POSITIVE w_UNKNOWN) (own_sign (v1 &&& (3 : Int32)) w_ZERO w_NON_NEGATIVE w_NON_POSITIVE w_UNKNOWN) w_ZERO w_NON_NEGATIVE w_NON_POSITIVE w_UNKNOWN)), .unset, .unset, .unset] [(.int (own_neg (v0 &&& (3 : Int32))))])) st7 ?_
    by_cases hc39_8 : (own_neg (v0 &&& (3 : Int32))) = (0 : Int32)
    · refine own_ifYes X7 hx 53 (hb hby at_39) (teq hc39_8).1 ?_
      refine own_iconst X7 hx 54 (0 : Int32) (hb hby at_53) rfl ?_
      refine own_istore X7 hx 56 #[.val (.int v0), .val (.int v1), .val (.int (v0 &&& (3 : Int32))), .val (.int (v1 &&& (3 : Int32))), .val (.ref (own_times (own_sign (v0 &&& (3 : Int32)) w_ZERO w_NON_NEGATIVE w_NON_POSITIVE w_UNKNOWN) (own_sign (v1 &&& (3 : Int32)) w_ZERO w_NON_NEGATIVE w_NON_POSITIVE w_UNKNOWN) w_ZERO w_NON_NEGATIVE w_NON_POSITIVE w_UNKNOWN)), .val (.int (0 : Int32)), .unset, .unset] (hb hby at_54) rfl ?_
      refine own_iloadN X7 hx 57 (hb hby at_56) rfl ?_
      obtain ⟨_, _, ⟨T9, Lx9, kc9, nc9⟩, -, X9, ⟨Lc9, hQ9, lq9, yq9, zq9⟩, st9⟩ := Jvm.LawKit.callS X7 hx (y := (⟨"com/example/deltalog/deltalog/SignTimesPinLaw", "mayBePos", "(I)Z"⟩ : MethodName)) hown (mvT hZ (hw _ (List.mem_of_getElem? (i := 15) rfl))) (mvT hZ (hw _ (List.mem_of_getElem? (i := 16) rfl))) (mvT hZ (hw _ (List.mem_of_getElem? (i := 2) rfl))) (mvT hZ (hw _ (List.mem_of_getElem? (i := 17) rfl))) (by decide) (backOf (W := 0) (own_rm3 l Z a0 hw [] (v0 &&& (3 : Int32)) h0 n0 Z0 ) hZ (hw _ (List.mem_of_getElem? (i := 17) rfl)) (hw _ (List.mem_of_getElem? (i := 2) rfl)) (by decide) (by decide)) (g := (mkF m 57 #[.val (.int v0), .val (.int v1), .val (.int (v0 &&& (3 : Int32))), .val (.int (v1 &&& (3 : Int32))), .val (.ref (own_times (own_sign (v0 &&& (3 : Int32)) w_ZERO w_NON_NEGATIVE w_NON_POSITIVE w_UNKNOWN) (own_sign (v1 &&& (3 : Int32)) w_ZERO w_NON_NEGATIVE w_NON_POSITIVE w_UNKNOWN) w_ZERO w_NON_NEGATIVE w_NON_POSITIVE w_UNKNOWN)), .val (.int (0 : Int32)), .unset, .unset] [(.int (v0 &&& (3 : Int32)))])) rfl (by rw [hml]; rfl) (argsL := [(.int (v0 &&& (3 : Int32)))]) (rest := []) (lenOf own_pd2 rfl) rfl (by show 2 * 0 + _ ≤ _; exact Nat.le_of_eq rfl) (hb hby at_57) (fun _ _ => ⟨rfl, eh7, (by decide : 0 + 0 ≤ _), (by decide : 0 + 0 ≤ _)⟩)
      dsimp only [Pt.U, Pt.locs, Pt.cells, Pt.slots] at X9 lq9 yq9 zq9 st9 hQ9
      subst lq9 yq9 zq9
      obtain ⟨rfl, Nq9, eh9⟩ := hQ9
      have N9 := Fr.app N7 Nq9
      refine own_st (G' := T9.setTop (mkF m 60 #[.val (.int v0), .val (.int v1), .val (.int (v0 &&& (3 : Int32))), .val (.int (v1 &&& (3 : Int32))), .val (.ref (own_times (own_sign (v0 &&& (3 : Int32)) w_ZERO w_NON_NEGATIVE w_NON_POSITIVE w_UNKNOWN) (own_sign (v1 &&& (3 : Int32)) w_ZERO w_NON_NEGATIVE w_NON_POSITIVE w_UNKNOWN) w_ZERO w_NON_NEGATIVE w_NON_POSITIVE w_UNKNOWN)), .val (.int (0 : Int32)), .unset, .unset] [(.int (own_pos (v0 &&& (3 : Int32))))])) st9 ?_
      refine own_ifYes X9 hx 70 (hb hby at_60) (teq hc25_6).1 ?_
      refine own_iloadN X9 hx 71 (hb hby at_70) rfl ?_
      obtain ⟨_, _, ⟨T10, Lx10, kc10, nc10⟩, -, X10, ⟨Lc10, hQ10, lq10, yq10, zq10⟩, st10⟩ := Jvm.LawKit.callS X9 hx (y := (⟨"com/example/deltalog/deltalog/SignTimesPinLaw", "mayBeNeg", "(I)Z"⟩ : MethodName)) hown (mvT hZ (hw _ (List.mem_of_getElem? (i := 18) rfl))) (mvT hZ (hw _ (List.mem_of_getElem? (i := 19) rfl))) (mvT hZ (hw _ (List.mem_of_getElem? (i := 2) rfl))) (mvT hZ (hw _ (List.mem_of_getElem? (i := 20) rfl))) (by decide) (backOf (W := 0) (own_rm4 l Z a0 hw [] (v0 &&& (3 : Int32)) h0 n0 Z0 ) hZ (hw _ (List.mem_of_getElem? (i := 20) rfl)) (hw _ (List.mem_of_getElem? (i := 2) rfl)) (by decide) (by decide)) (g := (mkF m 71 #[.val (.int v0), .val (.int v1), .val (.int (v0 &&& (3 : Int32))), .val (.int (v1 &&& (3 : Int32))), .val (.ref (own_times (own_sign (v0 &&& (3 : Int32)) w_ZERO w_NON_NEGATIVE w_NON_POSITIVE w_UNKNOWN) (own_sign (v1 &&& (3 : Int32)) w_ZERO w_NON_NEGATIVE w_NON_POSITIVE w_UNKNOWN) w_ZERO w_NON_NEGATIVE w_NON_POSITIVE w_UNKNOWN)), .val (.int (0 : Int32)), .unset, .unset] [(.int (v0 &&& (3 : Int32)))])) rfl (by rw [hml]; rfl) (argsL := [(.int (v0 &&& (3 : Int32)))]) (rest := []) (lenOf own_pd2 rfl) rfl (by show 2 * 0 + _ ≤ _; exact Nat.le_of_eq rfl) (hb hby at_71) (fun _ _ => ⟨rfl, eh9, (by decide : 0 + 0 ≤ _), (by decide : 0 + 0 ≤ _)⟩)
      dsimp only [Pt.U, Pt.locs, Pt.cells, Pt.slots] at X10 lq10 yq10 zq10 st10 hQ10
      subst lq10 yq10 zq10
      obtain ⟨rfl, Nq10, eh10⟩ := hQ10
      have N10 := Fr.app N9 Nq10
      refine own_st (G' := T10.setTop (mkF m 74 #[.val (.int v0), .val (.int v1), .val (.int (v0 &&& (3 : Int32))), .val (.int (v1 &&& (3 : Int32))), .val (.ref (own_times (own_sign (v0 &&& (3 : Int32)) w_ZERO w_NON_NEGATIVE w_NON_POSITIVE w_UNKNOWN) (own_sign (v1 &&& (3 : Int32)) w_ZERO w_NON_NEGATIVE w_NON_POSITIVE w_UNKNOWN) w_ZERO w_NON_NEGATIVE w_NON_POSITIVE w_UNKNOWN)), .val (.int (0 : Int32)), .unset, .unset] [(.int (own_neg (v0 &&& (3 : Int32))))])) st10 ?_
      refine own_ifYes X10 hx 88 (hb hby at_74) (teq hc39_8).1 ?_
      refine own_iconst X10 hx 89 (0 : Int32) (hb hby at_88) rfl ?_
      refine own_istore X10 hx 91 #[.val (.int v0), .val (.int v1), .val (.int (v0 &&& (3 : Int32))), .val (.int (v1 &&& (3 : Int32))), .val (.ref (own_times (own_sign (v0 &&& (3 : Int32)) w_ZERO w_NON_NEGATIVE w_NON_POSITIVE w_UNKNOWN) (own_sign (v1 &&& (3 : Int32)) w_ZERO w_NON_NEGATIVE w_NON_POSITIVE w_UNKNOWN) w_ZERO w_NON_NEGATIVE w_NON_POSITIVE w_UNKNOWN)), .val (.int (0 : Int32)), .val (.int (0 : Int32)), .unset] (hb hby at_89) rfl ?_
      refine own_iload X10 hx 93 (hb hby at_91) rfl ?_
      refine own_ifYes X10 hx 109 (hb hby at_93) (teq (rfl : (0 : Int32) = (0 : Int32))).1 ?_
      refine own_iload X10 hx 111 (hb hby at_109) rfl ?_
      refine own_ifYes X10 hx 122 (hb hby at_111) (teq (rfl : (0 : Int32) = (0 : Int32))).1 ?_
      refine own_iload X10 hx 124 (hb hby at_122) rfl ?_
      refine own_ifYes X10 hx 135 (hb hby at_124) (teq (rfl : (0 : Int32) = (0 : Int32))).1 ?_
      obtain ⟨T11, X11, e11, st11⟩ := getS2 X10 hx hZ hown (host := "") (Or.inl (hw _ (List.mem_of_getElem? (i := 4) rfl))) Via.refl eh10 (S_w_ZERO.ext O0.2) (g := (mkF m 135 #[.val (.int v0), .val (.int v1), .val (.int (v0 &&& (3 : Int32))), .val (.int (v1 &&& (3 : Int32))), .val (.ref (own_times (own_sign (v0 &&& (3 : Int32)) w_ZERO w_NON_NEGATIVE w_NON_POSITIVE w_UNKNOWN) (own_sign (v1 &&& (3 : Int32)) w_ZERO w_NON_NEGATIVE w_NON_POSITIVE w_UNKNOWN) w_ZERO w_NON_NEGATIVE w_NON_POSITIVE w_UNKNOWN)), .val (.int (0 : Int32)), .val (.int (0 : Int32)), .unset] [])) rfl (hb hby at_135)
      refine own_st (G' := T11.setTop (mkF m 138 #[.val (.int v0), .val (.int v1), .val (.int (v0 &&& (3 : Int32))), .val (.int (v1 &&& (3 : Int32))), .val (.ref (own_times (own_sign (v0 &&& (3 : Int32)) w_ZERO w_NON_NEGATIVE w_NON_POSITIVE w_UNKNOWN) (own_sign (v1 &&& (3 : Int32)) w_ZERO w_NON_NEGATIVE w_NON_POSITIVE w_UNKNOWN) w_ZERO w_NON_NEGATIVE w_NON_POSITIVE w_UNKNOWN)), .val (.int (0 : Int32)), .val (.int (0 : Int32)), .unset] [(.ref w_ZERO)])) st11 ?_
      refine own_astore X11 hx 140 #[.val (.int v0), .val (.int v1), .val (.int (v0 &&& (3 : Int32))), .val (.int (v1 &&& (3 : Int32))), .val (.ref (own_times (own_sign (v0 &&& (3 : Int32)) w_ZERO w_NON_NEGATIVE w_NON_POSITIVE w_UNKNOWN) (own_sign (v1 &&& (3 : Int32)) w_ZERO w_NON_NEGATIVE w_NON_POSITIVE w_UNKNOWN) w_ZERO w_NON_NEGATIVE w_NON_POSITIVE w_UNKNOWN)), .val (.int (0 : Int32)), .val (.int (0 : Int32)), .val (.ref w_ZERO)] (hb hby at_138) rfl rfl ?_
      refine own_aload X11 hx 142 (hb hby at_140) rfl rfl ?_
      refine own_aload X11 hx 144 (hb hby at_142) rfl rfl ?_
      refine own_acmp X11 hx 147 true (hb hby at_144) rfl rfl (decide_eq_true (congrArg Value.ref (by
          rcases own_four v0 with h1 | h1 | h1 | h1 <;> rcases own_four v1 with h2 | h2 | h2 | h2 <;> simp only [h1, h2, own_pos, own_neg] at hc25_6 hc39_8 ⊢ <;> first | (exfalso; revert hc25_6 hc39_8; decide) | simp [own_times, own_sign, ne_w_NON_POSITIVE_w_ZERO, ne_w_NON_POSITIVE_w_NON_NEGATIVE, ne_w_NON_POSITIVE_w_UNKNOWN, ne_w_ZERO_w_NON_NEGATIVE, ne_w_ZERO_w_UNKNOWN, ne_w_NON_NEGATIVE_w_UNKNOWN, (Ne.symm ne_w_NON_POSITIVE_w_ZERO), (Ne.symm ne_w_NON_POSITIVE_w_NON_NEGATIVE), (Ne.symm ne_w_NON_POSITIVE_w_UNKNOWN), (Ne.symm ne_w_ZERO_w_NON_NEGATIVE), (Ne.symm ne_w_ZERO_w_UNKNOWN), (Ne.symm ne_w_NON_NEGATIVE_w_UNKNOWN)] : (own_times (own_sign (v0 &&& (3 : Int32)) w_ZERO w_NON_NEGATIVE w_NON_POSITIVE w_UNKNOWN) (own_sign (v1 &&& (3 : Int32)) w_ZERO w_NON_NEGATIVE w_NON_POSITIVE w_UNKNOWN) w_ZERO w_NON_NEGATIVE w_NON_POSITIVE w_UNKNOWN) = w_ZERO))) ?_
      refine own_iconst X11 hx 148 (1 : Int32) (hb hby at_147) rfl ?_
      refine own_goto X11 hx 152 (hb hby at_148) ?_
      exact own_retN (t := .boolean) (z := (1 : Int32)) (Q := own_Q0 Z w_ZERO w_UNKNOWN w_NON_POSITIVE w_NON_NEGATIVE S_w_ZERO S_w_UNKNOWN S_w_NON_POSITIVE S_w_NON_NEGATIVE E_w_ZERO E_w_UNKNOWN E_w_NON_POSITIVE E_w_NON_NEGATIVE F_ordinal_w_NON_POSITIVE F_ordinal_w_ZERO F_ordinal_w_NON_NEGATIVE F_ordinal_w_UNKNOWN ne_w_NON_POSITIVE_w_ZERO ne_w_NON_POSITIVE_w_NON_NEGATIVE ne_w_NON_POSITIVE_w_UNKNOWN ne_w_ZERO_w_NON_NEGATIVE ne_w_ZERO_w_UNKNOWN ne_w_NON_NEGATIVE_w_UNKNOWN v0 v1 h0 n0) X11 hx hrt (by simp) (hb hby at_152) hlk e11 ⟨rfl, N10⟩ (by decide) (by decide)
    · refine own_ifNo X7 hx 42 (hb hby at_39) (feq hc39_8).1 ?_
      refine own_iloadN X7 hx 43 (hb hby at_42) rfl ?_
      obtain ⟨_, _, ⟨T12, Lx12, kc12, nc12⟩, -, X12, ⟨Lc12, hQ12, lq12, yq12, zq12⟩, st12⟩ := Jvm.LawKit.callS X7 hx (y := (⟨"com/example/deltalog/deltalog/SignTimesPinLaw", "mayBeNeg", "(I)Z"⟩ : MethodName)) hown (mvT hZ (hw _ (List.mem_of_getElem? (i := 18) rfl))) (mvT hZ (hw _ (List.mem_of_getElem? (i := 19) rfl))) (mvT hZ (hw _ (List.mem_of_getElem? (i := 2) rfl))) (mvT hZ (hw _ (List.mem_of_getElem? (i := 20) rfl))) (by decide) (backOf (W := 0) (own_rm4 l Z a0 hw [] (v1 &&& (3 : Int32)) h0 n0 Z0 ) hZ (hw _ (List.mem_of_getElem? (i := 20) rfl)) (hw _ (List.mem_of_getElem? (i := 2) rfl)) (by decide) (by decide)) (g := (mkF m 43 #[.val (.int v0), .val (.int v1), .val (.int (v0 &&& (3 : Int32))), .val (.int (v1 &&& (3 : Int32))), .val (.ref (own_times (own_sign (v0 &&& (3 : Int32)) w_ZERO w_NON_NEGATIVE w_NON_POSITIVE w_UNKNOWN) (own_sign (v1 &&& (3 : Int32)) w_ZERO w_NON_NEGATIVE w_NON_POSITIVE w_UNKNOWN) w_ZERO w_NON_NEGATIVE w_NON_POSITIVE w_UNKNOWN)), .unset, .unset, .unset] [(.int (v1 &&& (3 : Int32)))])) rfl (by rw [hml]; rfl) (argsL := [(.int (v1 &&& (3 : Int32)))]) (rest := []) (lenOf own_pd2 rfl) rfl (by show 2 * 0 + _ ≤ _; exact Nat.le_of_eq rfl) (hb hby at_43) (fun _ _ => ⟨rfl, eh7, (by decide : 0 + 0 ≤ _), (by decide : 0 + 0 ≤ _)⟩)
      dsimp only [Pt.U, Pt.locs, Pt.cells, Pt.slots] at X12 lq12 yq12 zq12 st12 hQ12
      subst lq12 yq12 zq12
      obtain ⟨rfl, Nq12, eh12⟩ := hQ12
      have N12 := Fr.app N7 Nq12
      refine own_st (G' := T12.setTop (mkF m 46 #[.val (.int v0), .val (.int v1), .val (.int (v0 &&& (3 : Int32))), .val (.int (v1 &&& (3 : Int32))), .val (.ref (own_times (own_sign (v0 &&& (3 : Int32)) w_ZERO w_NON_NEGATIVE w_NON_POSITIVE w_UNKNOWN) (own_sign (v1 &&& (3 : Int32)) w_ZERO w_NON_NEGATIVE w_NON_POSITIVE w_UNKNOWN) w_ZERO w_NON_NEGATIVE w_NON_POSITIVE w_UNKNOWN)), .unset, .unset, .unset] [(.int (own_neg (v1 &&& (3 : Int32))))])) st12 ?_
      by_cases hc46_13 : (own_neg (v1 &&& (3 : Int32))) = (0 : Int32)
      · refine own_ifYes X12 hx 53 (hb hby at_46) (teq hc46_13).1 ?_
        refine own_iconst X12 hx 54 (0 : Int32) (hb hby at_53) rfl ?_
        refine own_istore X12 hx 56 #[.val (.int v0), .val (.int v1), .val (.int (v0 &&& (3 : Int32))), .val (.int (v1 &&& (3 : Int32))), .val (.ref (own_times (own_sign (v0 &&& (3 : Int32)) w_ZERO w_NON_NEGATIVE w_NON_POSITIVE w_UNKNOWN) (own_sign (v1 &&& (3 : Int32)) w_ZERO w_NON_NEGATIVE w_NON_POSITIVE w_UNKNOWN) w_ZERO w_NON_NEGATIVE w_NON_POSITIVE w_UNKNOWN)), .val (.int (0 : Int32)), .unset, .unset] (hb hby at_54) rfl ?_
        refine own_iloadN X12 hx 57 (hb hby at_56) rfl ?_
        obtain ⟨_, _, ⟨T14, Lx14, kc14, nc14⟩, -, X14, ⟨Lc14, hQ14, lq14, yq14, zq14⟩, st14⟩ := Jvm.LawKit.callS X12 hx (y := (⟨"com/example/deltalog/deltalog/SignTimesPinLaw", "mayBePos", "(I)Z"⟩ : MethodName)) hown (mvT hZ (hw _ (List.mem_of_getElem? (i := 15) rfl))) (mvT hZ (hw _ (List.mem_of_getElem? (i := 16) rfl))) (mvT hZ (hw _ (List.mem_of_getElem? (i := 2) rfl))) (mvT hZ (hw _ (List.mem_of_getElem? (i := 17) rfl))) (by decide) (backOf (W := 0) (own_rm3 l Z a0 hw [] (v0 &&& (3 : Int32)) h0 n0 Z0 ) hZ (hw _ (List.mem_of_getElem? (i := 17) rfl)) (hw _ (List.mem_of_getElem? (i := 2) rfl)) (by decide) (by decide)) (g := (mkF m 57 #[.val (.int v0), .val (.int v1), .val (.int (v0 &&& (3 : Int32))), .val (.int (v1 &&& (3 : Int32))), .val (.ref (own_times (own_sign (v0 &&& (3 : Int32)) w_ZERO w_NON_NEGATIVE w_NON_POSITIVE w_UNKNOWN) (own_sign (v1 &&& (3 : Int32)) w_ZERO w_NON_NEGATIVE w_NON_POSITIVE w_UNKNOWN) w_ZERO w_NON_NEGATIVE w_NON_POSITIVE w_UNKNOWN)), .val (.int (0 : Int32)), .unset, .unset] [(.int (v0 &&& (3 : Int32)))])) rfl (by rw [hml]; rfl) (argsL := [(.int (v0 &&& (3 : Int32)))]) (rest := []) (lenOf own_pd2 rfl) rfl (by show 2 * 0 + _ ≤ _; exact Nat.le_of_eq rfl) (hb hby at_57) (fun _ _ => ⟨rfl, eh12, (by decide : 0 + 0 ≤ _), (by decide : 0 + 0 ≤ _)⟩)
        dsimp only [Pt.U, Pt.locs, Pt.cells, Pt.slots] at X14 lq14 yq14 zq14 st14 hQ14
        subst lq14 yq14 zq14
        obtain ⟨rfl, Nq14, eh14⟩ := hQ14
        have N14 := Fr.app N12 Nq14
        refine own_st (G' := T14.setTop (mkF m 60 #[.val (.int v0), .val (.int v1), .val (.int (v0 &&& (3 : Int32))), .val (.int (v1 &&& (3 : Int32))), .val (.ref (own_times (own_sign (v0 &&& (3 : Int32)) w_ZERO w_NON_NEGATIVE w_NON_POSITIVE w_UNKNOWN) (own_sign (v1 &&& (3 : Int32)) w_ZERO w_NON_NEGATIVE w_NON_POSITIVE w_UNKNOWN) w_ZERO w_NON_NEGATIVE w_NON_POSITIVE w_UNKNOWN)), .val (.int (0 : Int32)), .unset, .unset] [(.int (own_pos (v0 &&& (3 : Int32))))])) st14 ?_
        refine own_ifYes X14 hx 70 (hb hby at_60) (teq hc25_6).1 ?_
        refine own_iloadN X14 hx 71 (hb hby at_70) rfl ?_
        obtain ⟨_, _, ⟨T15, Lx15, kc15, nc15⟩, -, X15, ⟨Lc15, hQ15, lq15, yq15, zq15⟩, st15⟩ := Jvm.LawKit.callS X14 hx (y := (⟨"com/example/deltalog/deltalog/SignTimesPinLaw", "mayBeNeg", "(I)Z"⟩ : MethodName)) hown (mvT hZ (hw _ (List.mem_of_getElem? (i := 18) rfl))) (mvT hZ (hw _ (List.mem_of_getElem? (i := 19) rfl))) (mvT hZ (hw _ (List.mem_of_getElem? (i := 2) rfl))) (mvT hZ (hw _ (List.mem_of_getElem? (i := 20) rfl))) (by decide) (backOf (W := 0) (own_rm4 l Z a0 hw [] (v0 &&& (3 : Int32)) h0 n0 Z0 ) hZ (hw _ (List.mem_of_getElem? (i := 20) rfl)) (hw _ (List.mem_of_getElem? (i := 2) rfl)) (by decide) (by decide)) (g := (mkF m 71 #[.val (.int v0), .val (.int v1), .val (.int (v0 &&& (3 : Int32))), .val (.int (v1 &&& (3 : Int32))), .val (.ref (own_times (own_sign (v0 &&& (3 : Int32)) w_ZERO w_NON_NEGATIVE w_NON_POSITIVE w_UNKNOWN) (own_sign (v1 &&& (3 : Int32)) w_ZERO w_NON_NEGATIVE w_NON_POSITIVE w_UNKNOWN) w_ZERO w_NON_NEGATIVE w_NON_POSITIVE w_UNKNOWN)), .val (.int (0 : Int32)), .unset, .unset] [(.int (v0 &&& (3 : Int32)))])) rfl (by rw [hml]; rfl) (argsL := [(.int (v0 &&& (3 : Int32)))]) (rest := []) (lenOf own_pd2 rfl) rfl (by show 2 * 0 + _ ≤ _; exact Nat.le_of_eq rfl) (hb hby at_71) (fun _ _ => ⟨rfl, eh14, (by decide : 0 + 0 ≤ _), (by decide : 0 + 0 ≤ _)⟩)
        dsimp only [Pt.U, Pt.locs, Pt.cells, Pt.slots] at X15 lq15 yq15 zq15 st15 hQ15
        subst lq15 yq15 zq15
        obtain ⟨rfl, Nq15, eh15⟩ := hQ15
        have N15 := Fr.app N14 Nq15
        refine own_st (G' := T15.setTop (mkF m 74 #[.val (.int v0), .val (.int v1), .val (.int (v0 &&& (3 : Int32))), .val (.int (v1 &&& (3 : Int32))), .val (.ref (own_times (own_sign (v0 &&& (3 : Int32)) w_ZERO w_NON_NEGATIVE w_NON_POSITIVE w_UNKNOWN) (own_sign (v1 &&& (3 : Int32)) w_ZERO w_NON_NEGATIVE w_NON_POSITIVE w_UNKNOWN) w_ZERO w_NON_NEGATIVE w_NON_POSITIVE w_UNKNOWN)), .val (.int (0 : Int32)), .unset, .unset] [(.int (own_neg (v0 &&& (3 : Int32))))])) st15 ?_
        refine own_ifNo X15 hx 77 (hb hby at_74) (feq hc39_8).1 ?_
        refine own_iloadN X15 hx 78 (hb hby at_77) rfl ?_
        obtain ⟨_, _, ⟨T16, Lx16, kc16, nc16⟩, -, X16, ⟨Lc16, hQ16, lq16, yq16, zq16⟩, st16⟩ := Jvm.LawKit.callS X15 hx (y := (⟨"com/example/deltalog/deltalog/SignTimesPinLaw", "mayBePos", "(I)Z"⟩ : MethodName)) hown (mvT hZ (hw _ (List.mem_of_getElem? (i := 15) rfl))) (mvT hZ (hw _ (List.mem_of_getElem? (i := 16) rfl))) (mvT hZ (hw _ (List.mem_of_getElem? (i := 2) rfl))) (mvT hZ (hw _ (List.mem_of_getElem? (i := 17) rfl))) (by decide) (backOf (W := 0) (own_rm3 l Z a0 hw [] (v1 &&& (3 : Int32)) h0 n0 Z0 ) hZ (hw _ (List.mem_of_getElem? (i := 17) rfl)) (hw _ (List.mem_of_getElem? (i := 2) rfl)) (by decide) (by decide)) (g := (mkF m 78 #[.val (.int v0), .val (.int v1), .val (.int (v0 &&& (3 : Int32))), .val (.int (v1 &&& (3 : Int32))), .val (.ref (own_times (own_sign (v0 &&& (3 : Int32)) w_ZERO w_NON_NEGATIVE w_NON_POSITIVE w_UNKNOWN) (own_sign (v1 &&& (3 : Int32)) w_ZERO w_NON_NEGATIVE w_NON_POSITIVE w_UNKNOWN) w_ZERO w_NON_NEGATIVE w_NON_POSITIVE w_UNKNOWN)), .val (.int (0 : Int32)), .unset, .unset] [(.int (v1 &&& (3 : Int32)))])) rfl (by rw [hml]; rfl) (argsL := [(.int (v1 &&& (3 : Int32)))]) (rest := []) (lenOf own_pd2 rfl) rfl (by show 2 * 0 + _ ≤ _; exact Nat.le_of_eq rfl) (hb hby at_78) (fun _ _ => ⟨rfl, eh15, (by decide : 0 + 0 ≤ _), (by decide : 0 + 0 ≤ _)⟩)
        dsimp only [Pt.U, Pt.locs, Pt.cells, Pt.slots] at X16 lq16 yq16 zq16 st16 hQ16
        subst lq16 yq16 zq16
        obtain ⟨rfl, Nq16, eh16⟩ := hQ16
        have N16 := Fr.app N15 Nq16
        refine own_st (G' := T16.setTop (mkF m 81 #[.val (.int v0), .val (.int v1), .val (.int (v0 &&& (3 : Int32))), .val (.int (v1 &&& (3 : Int32))), .val (.ref (own_times (own_sign (v0 &&& (3 : Int32)) w_ZERO w_NON_NEGATIVE w_NON_POSITIVE w_UNKNOWN) (own_sign (v1 &&& (3 : Int32)) w_ZERO w_NON_NEGATIVE w_NON_POSITIVE w_UNKNOWN) w_ZERO w_NON_NEGATIVE w_NON_POSITIVE w_UNKNOWN)), .val (.int (0 : Int32)), .unset, .unset] [(.int (own_pos (v1 &&& (3 : Int32))))])) st16 ?_
        by_cases hc81_17 : (own_pos (v1 &&& (3 : Int32))) = (0 : Int32)
        · refine own_ifYes X16 hx 88 (hb hby at_81) (teq hc81_17).1 ?_
          refine own_iconst X16 hx 89 (0 : Int32) (hb hby at_88) rfl ?_
          refine own_istore X16 hx 91 #[.val (.int v0), .val (.int v1), .val (.int (v0 &&& (3 : Int32))), .val (.int (v1 &&& (3 : Int32))), .val (.ref (own_times (own_sign (v0 &&& (3 : Int32)) w_ZERO w_NON_NEGATIVE w_NON_POSITIVE w_UNKNOWN) (own_sign (v1 &&& (3 : Int32)) w_ZERO w_NON_NEGATIVE w_NON_POSITIVE w_UNKNOWN) w_ZERO w_NON_NEGATIVE w_NON_POSITIVE w_UNKNOWN)), .val (.int (0 : Int32)), .val (.int (0 : Int32)), .unset] (hb hby at_89) rfl ?_
          refine own_iload X16 hx 93 (hb hby at_91) rfl ?_
          refine own_ifYes X16 hx 109 (hb hby at_93) (teq (rfl : (0 : Int32) = (0 : Int32))).1 ?_
          refine own_iload X16 hx 111 (hb hby at_109) rfl ?_
          refine own_ifYes X16 hx 122 (hb hby at_111) (teq (rfl : (0 : Int32) = (0 : Int32))).1 ?_
          refine own_iload X16 hx 124 (hb hby at_122) rfl ?_
          refine own_ifYes X16 hx 135 (hb hby at_124) (teq (rfl : (0 : Int32) = (0 : Int32))).1 ?_
          obtain ⟨T18, X18, e18, st18⟩ := getS2 X16 hx hZ hown (host := "") (Or.inl (hw _ (List.mem_of_getElem? (i := 4) rfl))) Via.refl eh16 (S_w_ZERO.ext O0.2) (g := (mkF m 135 #[.val (.int v0), .val (.int v1), .val (.int (v0 &&& (3 : Int32))), .val (.int (v1 &&& (3 : Int32))), .val (.ref (own_times (own_sign (v0 &&& (3 : Int32)) w_ZERO w_NON_NEGATIVE w_NON_POSITIVE w_UNKNOWN) (own_sign (v1 &&& (3 : Int32)) w_ZERO w_NON_NEGATIVE w_NON_POSITIVE w_UNKNOWN) w_ZERO w_NON_NEGATIVE w_NON_POSITIVE w_UNKNOWN)), .val (.int (0 : Int32)), .val (.int (0 : Int32)), .unset] [])) rfl (hb hby at_135)
          refine own_st (G' := T18.setTop (mkF m 138 #[.val (.int v0), .val (.int v1), .val (.int (v0 &&& (3 : Int32))), .val (.int (v1 &&& (3 : Int32))), .val (.ref (own_times (own_sign (v0 &&& (3 : Int32)) w_ZERO w_NON_NEGATIVE w_NON_POSITIVE w_UNKNOWN) (own_sign (v1 &&& (3 : Int32)) w_ZERO w_NON_NEGATIVE w_NON_POSITIVE w_UNKNOWN) w_ZERO w_NON_NEGATIVE w_NON_POSITIVE w_UNKNOWN)), .val (.int (0 : Int32)), .val (.int (0 : Int32)), .unset] [(.ref w_ZERO)])) st18 ?_
          refine own_astore X18 hx 140 #[.val (.int v0), .val (.int v1), .val (.int (v0 &&& (3 : Int32))), .val (.int (v1 &&& (3 : Int32))), .val (.ref (own_times (own_sign (v0 &&& (3 : Int32)) w_ZERO w_NON_NEGATIVE w_NON_POSITIVE w_UNKNOWN) (own_sign (v1 &&& (3 : Int32)) w_ZERO w_NON_NEGATIVE w_NON_POSITIVE w_UNKNOWN) w_ZERO w_NON_NEGATIVE w_NON_POSITIVE w_UNKNOWN)), .val (.int (0 : Int32)), .val (.int (0 : Int32)), .val (.ref w_ZERO)] (hb hby at_138) rfl rfl ?_
          refine own_aload X18 hx 142 (hb hby at_140) rfl rfl ?_
          refine own_aload X18 hx 144 (hb hby at_142) rfl rfl ?_
          refine own_acmp X18 hx 147 true (hb hby at_144) rfl rfl (decide_eq_true (congrArg Value.ref (by
              rcases own_four v0 with h1 | h1 | h1 | h1 <;> rcases own_four v1 with h2 | h2 | h2 | h2 <;> simp only [h1, h2, own_pos, own_neg] at hc25_6 hc39_8 hc46_13 hc81_17 ⊢ <;> first | (exfalso; revert hc25_6 hc39_8 hc46_13 hc81_17; decide) | simp [own_times, own_sign, ne_w_NON_POSITIVE_w_ZERO, ne_w_NON_POSITIVE_w_NON_NEGATIVE, ne_w_NON_POSITIVE_w_UNKNOWN, ne_w_ZERO_w_NON_NEGATIVE, ne_w_ZERO_w_UNKNOWN, ne_w_NON_NEGATIVE_w_UNKNOWN, (Ne.symm ne_w_NON_POSITIVE_w_ZERO), (Ne.symm ne_w_NON_POSITIVE_w_NON_NEGATIVE), (Ne.symm ne_w_NON_POSITIVE_w_UNKNOWN), (Ne.symm ne_w_ZERO_w_NON_NEGATIVE), (Ne.symm ne_w_ZERO_w_UNKNOWN), (Ne.symm ne_w_NON_NEGATIVE_w_UNKNOWN)] : (own_times (own_sign (v0 &&& (3 : Int32)) w_ZERO w_NON_NEGATIVE w_NON_POSITIVE w_UNKNOWN) (own_sign (v1 &&& (3 : Int32)) w_ZERO w_NON_NEGATIVE w_NON_POSITIVE w_UNKNOWN) w_ZERO w_NON_NEGATIVE w_NON_POSITIVE w_UNKNOWN) = w_ZERO))) ?_
          refine own_iconst X18 hx 148 (1 : Int32) (hb hby at_147) rfl ?_
          refine own_goto X18 hx 152 (hb hby at_148) ?_
          exact own_retN (t := .boolean) (z := (1 : Int32)) (Q := own_Q0 Z w_ZERO w_UNKNOWN w_NON_POSITIVE w_NON_NEGATIVE S_w_ZERO S_w_UNKNOWN S_w_NON_POSITIVE S_w_NON_NEGATIVE E_w_ZERO E_w_UNKNOWN E_w_NON_POSITIVE E_w_NON_NEGATIVE F_ordinal_w_NON_POSITIVE F_ordinal_w_ZERO F_ordinal_w_NON_NEGATIVE F_ordinal_w_UNKNOWN ne_w_NON_POSITIVE_w_ZERO ne_w_NON_POSITIVE_w_NON_NEGATIVE ne_w_NON_POSITIVE_w_UNKNOWN ne_w_ZERO_w_NON_NEGATIVE ne_w_ZERO_w_UNKNOWN ne_w_NON_NEGATIVE_w_UNKNOWN v0 v1 h0 n0) X18 hx hrt (by simp) (hb hby at_152) hlk e18 ⟨rfl, N16⟩ (by decide) (by decide)
        · refine own_ifNo X16 hx 84 (hb hby at_81) (feq hc81_17).1 ?_
          refine own_iconst X16 hx 85 (1 : Int32) (hb hby at_84) rfl ?_
          refine own_goto X16 hx 89 (hb hby at_85) ?_
          refine own_istore X16 hx 91 #[.val (.int v0), .val (.int v1), .val (.int (v0 &&& (3 : Int32))), .val (.int (v1 &&& (3 : Int32))), .val (.ref (own_times (own_sign (v0 &&& (3 : Int32)) w_ZERO w_NON_NEGATIVE w_NON_POSITIVE w_UNKNOWN) (own_sign (v1 &&& (3 : Int32)) w_ZERO w_NON_NEGATIVE w_NON_POSITIVE w_UNKNOWN) w_ZERO w_NON_NEGATIVE w_NON_POSITIVE w_UNKNOWN)), .val (.int (0 : Int32)), .val (.int (1 : Int32)), .unset] (hb hby at_89) rfl ?_
          refine own_iload X16 hx 93 (hb hby at_91) rfl ?_
          refine own_ifYes X16 hx 109 (hb hby at_93) (teq (rfl : (0 : Int32) = (0 : Int32))).1 ?_
          refine own_iload X16 hx 111 (hb hby at_109) rfl ?_
          refine own_ifYes X16 hx 122 (hb hby at_111) (teq (rfl : (0 : Int32) = (0 : Int32))).1 ?_
          refine own_iload X16 hx 124 (hb hby at_122) rfl ?_
          refine own_ifNo X16 hx 127 (hb hby at_124) (feq (by decide : ¬ ((1 : Int32) = (0 : Int32)))).1 ?_
          obtain ⟨T19, X19, e19, st19⟩ := getS2 X16 hx hZ hown (host := "") (Or.inl (hw _ (List.mem_of_getElem? (i := 21) rfl))) Via.refl eh16 (S_w_NON_POSITIVE.ext O0.2) (g := (mkF m 127 #[.val (.int v0), .val (.int v1), .val (.int (v0 &&& (3 : Int32))), .val (.int (v1 &&& (3 : Int32))), .val (.ref (own_times (own_sign (v0 &&& (3 : Int32)) w_ZERO w_NON_NEGATIVE w_NON_POSITIVE w_UNKNOWN) (own_sign (v1 &&& (3 : Int32)) w_ZERO w_NON_NEGATIVE w_NON_POSITIVE w_UNKNOWN) w_ZERO w_NON_NEGATIVE w_NON_POSITIVE w_UNKNOWN)), .val (.int (0 : Int32)), .val (.int (1 : Int32)), .unset] [])) rfl (hb hby at_127)
          refine own_st (G' := T19.setTop (mkF m 130 #[.val (.int v0), .val (.int v1), .val (.int (v0 &&& (3 : Int32))), .val (.int (v1 &&& (3 : Int32))), .val (.ref (own_times (own_sign (v0 &&& (3 : Int32)) w_ZERO w_NON_NEGATIVE w_NON_POSITIVE w_UNKNOWN) (own_sign (v1 &&& (3 : Int32)) w_ZERO w_NON_NEGATIVE w_NON_POSITIVE w_UNKNOWN) w_ZERO w_NON_NEGATIVE w_NON_POSITIVE w_UNKNOWN)), .val (.int (0 : Int32)), .val (.int (1 : Int32)), .unset] [(.ref w_NON_POSITIVE)])) st19 ?_
          refine own_astore X19 hx 132 #[.val (.int v0), .val (.int v1), .val (.int (v0 &&& (3 : Int32))), .val (.int (v1 &&& (3 : Int32))), .val (.ref (own_times (own_sign (v0 &&& (3 : Int32)) w_ZERO w_NON_NEGATIVE w_NON_POSITIVE w_UNKNOWN) (own_sign (v1 &&& (3 : Int32)) w_ZERO w_NON_NEGATIVE w_NON_POSITIVE w_UNKNOWN) w_ZERO w_NON_NEGATIVE w_NON_POSITIVE w_UNKNOWN)), .val (.int (0 : Int32)), .val (.int (1 : Int32)), .val (.ref w_NON_POSITIVE)] (hb hby at_130) rfl rfl ?_
          refine own_goto X19 hx 140 (hb hby at_132) ?_
          refine own_aload X19 hx 142 (hb hby at_140) rfl rfl ?_
          refine own_aload X19 hx 144 (hb hby at_142) rfl rfl ?_
          refine own_acmp X19 hx 147 true (hb hby at_144) rfl rfl (decide_eq_true (congrArg Value.ref (by
              rcases own_four v0 with h1 | h1 | h1 | h1 <;> rcases own_four v1 with h2 | h2 | h2 | h2 <;> simp only [h1, h2, own_pos, own_neg] at hc25_6 hc39_8 hc46_13 hc81_17 ⊢ <;> first | (exfalso; revert hc25_6 hc39_8 hc46_13 hc81_17; decide) | simp [own_times, own_sign, ne_w_NON_POSITIVE_w_ZERO, ne_w_NON_POSITIVE_w_NON_NEGATIVE, ne_w_NON_POSITIVE_w_UNKNOWN, ne_w_ZERO_w_NON_NEGATIVE, ne_w_ZERO_w_UNKNOWN, ne_w_NON_NEGATIVE_w_UNKNOWN, (Ne.symm ne_w_NON_POSITIVE_w_ZERO), (Ne.symm ne_w_NON_POSITIVE_w_NON_NEGATIVE), (Ne.symm ne_w_NON_POSITIVE_w_UNKNOWN), (Ne.symm ne_w_ZERO_w_NON_NEGATIVE), (Ne.symm ne_w_ZERO_w_UNKNOWN), (Ne.symm ne_w_NON_NEGATIVE_w_UNKNOWN)] : (own_times (own_sign (v0 &&& (3 : Int32)) w_ZERO w_NON_NEGATIVE w_NON_POSITIVE w_UNKNOWN) (own_sign (v1 &&& (3 : Int32)) w_ZERO w_NON_NEGATIVE w_NON_POSITIVE w_UNKNOWN) w_ZERO w_NON_NEGATIVE w_NON_POSITIVE w_UNKNOWN) = w_NON_POSITIVE))) ?_
          refine own_iconst X19 hx 148 (1 : Int32) (hb hby at_147) rfl ?_
          refine own_goto X19 hx 152 (hb hby at_148) ?_
          exact own_retN (t := .boolean) (z := (1 : Int32)) (Q := own_Q0 Z w_ZERO w_UNKNOWN w_NON_POSITIVE w_NON_NEGATIVE S_w_ZERO S_w_UNKNOWN S_w_NON_POSITIVE S_w_NON_NEGATIVE E_w_ZERO E_w_UNKNOWN E_w_NON_POSITIVE E_w_NON_NEGATIVE F_ordinal_w_NON_POSITIVE F_ordinal_w_ZERO F_ordinal_w_NON_NEGATIVE F_ordinal_w_UNKNOWN ne_w_NON_POSITIVE_w_ZERO ne_w_NON_POSITIVE_w_NON_NEGATIVE ne_w_NON_POSITIVE_w_UNKNOWN ne_w_ZERO_w_NON_NEGATIVE ne_w_ZERO_w_UNKNOWN ne_w_NON_NEGATIVE_w_UNKNOWN v0 v1 h0 n0) X19 hx hrt (by simp) (hb hby at_152) hlk e19 ⟨rfl, N16⟩ (by decide) (by decide)
      · refine own_ifNo X12 hx 49 (hb hby at_46) (feq hc46_13).1 ?_
        refine own_iconst X12 hx 50 (1 : Int32) (hb hby at_49) rfl ?_
        refine own_goto X12 hx 54 (hb hby at_50) ?_
        refine own_istore X12 hx 56 #[.val (.int v0), .val (.int v1), .val (.int (v0 &&& (3 : Int32))), .val (.int (v1 &&& (3 : Int32))), .val (.ref (own_times (own_sign (v0 &&& (3 : Int32)) w_ZERO w_NON_NEGATIVE w_NON_POSITIVE w_UNKNOWN) (own_sign (v1 &&& (3 : Int32)) w_ZERO w_NON_NEGATIVE w_NON_POSITIVE w_UNKNOWN) w_ZERO w_NON_NEGATIVE w_NON_POSITIVE w_UNKNOWN)), .val (.int (1 : Int32)), .unset, .unset] (hb hby at_54) rfl ?_
        refine own_iloadN X12 hx 57 (hb hby at_56) rfl ?_
        obtain ⟨_, _, ⟨T20, Lx20, kc20, nc20⟩, -, X20, ⟨Lc20, hQ20, lq20, yq20, zq20⟩, st20⟩ := Jvm.LawKit.callS X12 hx (y := (⟨"com/example/deltalog/deltalog/SignTimesPinLaw", "mayBePos", "(I)Z"⟩ : MethodName)) hown (mvT hZ (hw _ (List.mem_of_getElem? (i := 15) rfl))) (mvT hZ (hw _ (List.mem_of_getElem? (i := 16) rfl))) (mvT hZ (hw _ (List.mem_of_getElem? (i := 2) rfl))) (mvT hZ (hw _ (List.mem_of_getElem? (i := 17) rfl))) (by decide) (backOf (W := 0) (own_rm3 l Z a0 hw [] (v0 &&& (3 : Int32)) h0 n0 Z0 ) hZ (hw _ (List.mem_of_getElem? (i := 17) rfl)) (hw _ (List.mem_of_getElem? (i := 2) rfl)) (by decide) (by decide)) (g := (mkF m 57 #[.val (.int v0), .val (.int v1), .val (.int (v0 &&& (3 : Int32))), .val (.int (v1 &&& (3 : Int32))), .val (.ref (own_times (own_sign (v0 &&& (3 : Int32)) w_ZERO w_NON_NEGATIVE w_NON_POSITIVE w_UNKNOWN) (own_sign (v1 &&& (3 : Int32)) w_ZERO w_NON_NEGATIVE w_NON_POSITIVE w_UNKNOWN) w_ZERO w_NON_NEGATIVE w_NON_POSITIVE w_UNKNOWN)), .val (.int (1 : Int32)), .unset, .unset] [(.int (v0 &&& (3 : Int32)))])) rfl (by rw [hml]; rfl) (argsL := [(.int (v0 &&& (3 : Int32)))]) (rest := []) (lenOf own_pd2 rfl) rfl (by show 2 * 0 + _ ≤ _; exact Nat.le_of_eq rfl) (hb hby at_57) (fun _ _ => ⟨rfl, eh12, (by decide : 0 + 0 ≤ _), (by decide : 0 + 0 ≤ _)⟩)
        dsimp only [Pt.U, Pt.locs, Pt.cells, Pt.slots] at X20 lq20 yq20 zq20 st20 hQ20
        subst lq20 yq20 zq20
        obtain ⟨rfl, Nq20, eh20⟩ := hQ20
        have N20 := Fr.app N12 Nq20
        refine own_st (G' := T20.setTop (mkF m 60 #[.val (.int v0), .val (.int v1), .val (.int (v0 &&& (3 : Int32))), .val (.int (v1 &&& (3 : Int32))), .val (.ref (own_times (own_sign (v0 &&& (3 : Int32)) w_ZERO w_NON_NEGATIVE w_NON_POSITIVE w_UNKNOWN) (own_sign (v1 &&& (3 : Int32)) w_ZERO w_NON_NEGATIVE w_NON_POSITIVE w_UNKNOWN) w_ZERO w_NON_NEGATIVE w_NON_POSITIVE w_UNKNOWN)), .val (.int (1 : Int32)), .unset, .unset] [(.int (own_pos (v0 &&& (3 : Int32))))])) st20 ?_
        refine own_ifYes X20 hx 70 (hb hby at_60) (teq hc25_6).1 ?_
        refine own_iloadN X20 hx 71 (hb hby at_70) rfl ?_
        obtain ⟨_, _, ⟨T21, Lx21, kc21, nc21⟩, -, X21, ⟨Lc21, hQ21, lq21, yq21, zq21⟩, st21⟩ := Jvm.LawKit.callS X20 hx (y := (⟨"com/example/deltalog/deltalog/SignTimesPinLaw", "mayBeNeg", "(I)Z"⟩ : MethodName)) hown (mvT hZ (hw _ (List.mem_of_getElem? (i := 18) rfl))) (mvT hZ (hw _ (List.mem_of_getElem? (i := 19) rfl))) (mvT hZ (hw _ (List.mem_of_getElem? (i := 2) rfl))) (mvT hZ (hw _ (List.mem_of_getElem? (i := 20) rfl))) (by decide) (backOf (W := 0) (own_rm4 l Z a0 hw [] (v0 &&& (3 : Int32)) h0 n0 Z0 ) hZ (hw _ (List.mem_of_getElem? (i := 20) rfl)) (hw _ (List.mem_of_getElem? (i := 2) rfl)) (by decide) (by decide)) (g := (mkF m 71 #[.val (.int v0), .val (.int v1), .val (.int (v0 &&& (3 : Int32))), .val (.int (v1 &&& (3 : Int32))), .val (.ref (own_times (own_sign (v0 &&& (3 : Int32)) w_ZERO w_NON_NEGATIVE w_NON_POSITIVE w_UNKNOWN) (own_sign (v1 &&& (3 : Int32)) w_ZERO w_NON_NEGATIVE w_NON_POSITIVE w_UNKNOWN) w_ZERO w_NON_NEGATIVE w_NON_POSITIVE w_UNKNOWN)), .val (.int (1 : Int32)), .unset, .unset] [(.int (v0 &&& (3 : Int32)))])) rfl (by rw [hml]; rfl) (argsL := [(.int (v0 &&& (3 : Int32)))]) (rest := []) (lenOf own_pd2 rfl) rfl (by show 2 * 0 + _ ≤ _; exact Nat.le_of_eq rfl) (hb hby at_71) (fun _ _ => ⟨rfl, eh20, (by decide : 0 + 0 ≤ _), (by decide : 0 + 0 ≤ _)⟩)
        dsimp only [Pt.U, Pt.locs, Pt.cells, Pt.slots] at X21 lq21 yq21 zq21 st21 hQ21
        subst lq21 yq21 zq21
        obtain ⟨rfl, Nq21, eh21⟩ := hQ21
        have N21 := Fr.app N20 Nq21
        refine own_st (G' := T21.setTop (mkF m 74 #[.val (.int v0), .val (.int v1), .val (.int (v0 &&& (3 : Int32))), .val (.int (v1 &&& (3 : Int32))), .val (.ref (own_times (own_sign (v0 &&& (3 : Int32)) w_ZERO w_NON_NEGATIVE w_NON_POSITIVE w_UNKNOWN) (own_sign (v1 &&& (3 : Int32)) w_ZERO w_NON_NEGATIVE w_NON_POSITIVE w_UNKNOWN) w_ZERO w_NON_NEGATIVE w_NON_POSITIVE w_UNKNOWN)), .val (.int (1 : Int32)), .unset, .unset] [(.int (own_neg (v0 &&& (3 : Int32))))])) st21 ?_
        refine own_ifNo X21 hx 77 (hb hby at_74) (feq hc39_8).1 ?_
        refine own_iloadN X21 hx 78 (hb hby at_77) rfl ?_
        obtain ⟨_, _, ⟨T22, Lx22, kc22, nc22⟩, -, X22, ⟨Lc22, hQ22, lq22, yq22, zq22⟩, st22⟩ := Jvm.LawKit.callS X21 hx (y := (⟨"com/example/deltalog/deltalog/SignTimesPinLaw", "mayBePos", "(I)Z"⟩ : MethodName)) hown (mvT hZ (hw _ (List.mem_of_getElem? (i := 15) rfl))) (mvT hZ (hw _ (List.mem_of_getElem? (i := 16) rfl))) (mvT hZ (hw _ (List.mem_of_getElem? (i := 2) rfl))) (mvT hZ (hw _ (List.mem_of_getElem? (i := 17) rfl))) (by decide) (backOf (W := 0) (own_rm3 l Z a0 hw [] (v1 &&& (3 : Int32)) h0 n0 Z0 ) hZ (hw _ (List.mem_of_getElem? (i := 17) rfl)) (hw _ (List.mem_of_getElem? (i := 2) rfl)) (by decide) (by decide)) (g := (mkF m 78 #[.val (.int v0), .val (.int v1), .val (.int (v0 &&& (3 : Int32))), .val (.int (v1 &&& (3 : Int32))), .val (.ref (own_times (own_sign (v0 &&& (3 : Int32)) w_ZERO w_NON_NEGATIVE w_NON_POSITIVE w_UNKNOWN) (own_sign (v1 &&& (3 : Int32)) w_ZERO w_NON_NEGATIVE w_NON_POSITIVE w_UNKNOWN) w_ZERO w_NON_NEGATIVE w_NON_POSITIVE w_UNKNOWN)), .val (.int (1 : Int32)), .unset, .unset] [(.int (v1 &&& (3 : Int32)))])) rfl (by rw [hml]; rfl) (argsL := [(.int (v1 &&& (3 : Int32)))]) (rest := []) (lenOf own_pd2 rfl) rfl (by show 2 * 0 + _ ≤ _; exact Nat.le_of_eq rfl) (hb hby at_78) (fun _ _ => ⟨rfl, eh21, (by decide : 0 + 0 ≤ _), (by decide : 0 + 0 ≤ _)⟩)
        dsimp only [Pt.U, Pt.locs, Pt.cells, Pt.slots] at X22 lq22 yq22 zq22 st22 hQ22
        subst lq22 yq22 zq22
        obtain ⟨rfl, Nq22, eh22⟩ := hQ22
        have N22 := Fr.app N21 Nq22
        refine own_st (G' := T22.setTop (mkF m 81 #[.val (.int v0), .val (.int v1), .val (.int (v0 &&& (3 : Int32))), .val (.int (v1 &&& (3 : Int32))), .val (.ref (own_times (own_sign (v0 &&& (3 : Int32)) w_ZERO w_NON_NEGATIVE w_NON_POSITIVE w_UNKNOWN) (own_sign (v1 &&& (3 : Int32)) w_ZERO w_NON_NEGATIVE w_NON_POSITIVE w_UNKNOWN) w_ZERO w_NON_NEGATIVE w_NON_POSITIVE w_UNKNOWN)), .val (.int (1 : Int32)), .unset, .unset] [(.int (own_pos (v1 &&& (3 : Int32))))])) st22 ?_
        by_cases hc81_23 : (own_pos (v1 &&& (3 : Int32))) = (0 : Int32)
        · refine own_ifYes X22 hx 88 (hb hby at_81) (teq hc81_23).1 ?_
          refine own_iconst X22 hx 89 (0 : Int32) (hb hby at_88) rfl ?_
          refine own_istore X22 hx 91 #[.val (.int v0), .val (.int v1), .val (.int (v0 &&& (3 : Int32))), .val (.int (v1 &&& (3 : Int32))), .val (.ref (own_times (own_sign (v0 &&& (3 : Int32)) w_ZERO w_NON_NEGATIVE w_NON_POSITIVE w_UNKNOWN) (own_sign (v1 &&& (3 : Int32)) w_ZERO w_NON_NEGATIVE w_NON_POSITIVE w_UNKNOWN) w_ZERO w_NON_NEGATIVE w_NON_POSITIVE w_UNKNOWN)), .val (.int (1 : Int32)), .val (.int (0 : Int32)), .unset] (hb hby at_89) rfl ?_
          refine own_iload X22 hx 93 (hb hby at_91) rfl ?_
          refine own_ifNo X22 hx 96 (hb hby at_93) (feq (by decide : ¬ ((1 : Int32) = (0 : Int32)))).1 ?_
          refine own_iload X22 hx 98 (hb hby at_96) rfl ?_
          refine own_ifYes X22 hx 109 (hb hby at_98) (teq (rfl : (0 : Int32) = (0 : Int32))).1 ?_
          refine own_iload X22 hx 111 (hb hby at_109) rfl ?_
          refine own_ifNo X22 hx 114 (hb hby at_111) (feq (by decide : ¬ ((1 : Int32) = (0 : Int32)))).1 ?_
          obtain ⟨T24, X24, e24, st24⟩ := getS2 X22 hx hZ hown (host := "") (Or.inl (hw _ (List.mem_of_getElem? (i := 23) rfl))) Via.refl eh22 (S_w_NON_NEGATIVE.ext O0.2) (g := (mkF m 114 #[.val (.int v0), .val (.int v1), .val (.int (v0 &&& (3 : Int32))), .val (.int (v1 &&& (3 : Int32))), .val (.ref (own_times (own_sign (v0 &&& (3 : Int32)) w_ZERO w_NON_NEGATIVE w_NON_POSITIVE w_UNKNOWN) (own_sign (v1 &&& (3 : Int32)) w_ZERO w_NON_NEGATIVE w_NON_POSITIVE w_UNKNOWN) w_ZERO w_NON_NEGATIVE w_NON_POSITIVE w_UNKNOWN)), .val (.int (1 : Int32)), .val (.int (0 : Int32)), .unset] [])) rfl (hb hby at_114)
          refine own_st (G' := T24.setTop (mkF m 117 #[.val (.int v0), .val (.int v1), .val (.int (v0 &&& (3 : Int32))), .val (.int (v1 &&& (3 : Int32))), .val (.ref (own_times (own_sign (v0 &&& (3 : Int32)) w_ZERO w_NON_NEGATIVE w_NON_POSITIVE w_UNKNOWN) (own_sign (v1 &&& (3 : Int32)) w_ZERO w_NON_NEGATIVE w_NON_POSITIVE w_UNKNOWN) w_ZERO w_NON_NEGATIVE w_NON_POSITIVE w_UNKNOWN)), .val (.int (1 : Int32)), .val (.int (0 : Int32)), .unset] [(.ref w_NON_NEGATIVE)])) st24 ?_
          refine own_astore X24 hx 119 #[.val (.int v0), .val (.int v1), .val (.int (v0 &&& (3 : Int32))), .val (.int (v1 &&& (3 : Int32))), .val (.ref (own_times (own_sign (v0 &&& (3 : Int32)) w_ZERO w_NON_NEGATIVE w_NON_POSITIVE w_UNKNOWN) (own_sign (v1 &&& (3 : Int32)) w_ZERO w_NON_NEGATIVE w_NON_POSITIVE w_UNKNOWN) w_ZERO w_NON_NEGATIVE w_NON_POSITIVE w_UNKNOWN)), .val (.int (1 : Int32)), .val (.int (0 : Int32)), .val (.ref w_NON_NEGATIVE)] (hb hby at_117) rfl rfl ?_
          refine own_goto X24 hx 140 (hb hby at_119) ?_
          refine own_aload X24 hx 142 (hb hby at_140) rfl rfl ?_
          refine own_aload X24 hx 144 (hb hby at_142) rfl rfl ?_
          refine own_acmp X24 hx 147 true (hb hby at_144) rfl rfl (decide_eq_true (congrArg Value.ref (by
              rcases own_four v0 with h1 | h1 | h1 | h1 <;> rcases own_four v1 with h2 | h2 | h2 | h2 <;> simp only [h1, h2, own_pos, own_neg] at hc25_6 hc39_8 hc46_13 hc81_23 ⊢ <;> first | (exfalso; revert hc25_6 hc39_8 hc46_13 hc81_23; decide) | simp [own_times, own_sign, ne_w_NON_POSITIVE_w_ZERO, ne_w_NON_POSITIVE_w_NON_NEGATIVE, ne_w_NON_POSITIVE_w_UNKNOWN, ne_w_ZERO_w_NON_NEGATIVE, ne_w_ZERO_w_UNKNOWN, ne_w_NON_NEGATIVE_w_UNKNOWN, (Ne.symm ne_w_NON_POSITIVE_w_ZERO), (Ne.symm ne_w_NON_POSITIVE_w_NON_NEGATIVE), (Ne.symm ne_w_NON_POSITIVE_w_UNKNOWN), (Ne.symm ne_w_ZERO_w_NON_NEGATIVE), (Ne.symm ne_w_ZERO_w_UNKNOWN), (Ne.symm ne_w_NON_NEGATIVE_w_UNKNOWN)] : (own_times (own_sign (v0 &&& (3 : Int32)) w_ZERO w_NON_NEGATIVE w_NON_POSITIVE w_UNKNOWN) (own_sign (v1 &&& (3 : Int32)) w_ZERO w_NON_NEGATIVE w_NON_POSITIVE w_UNKNOWN) w_ZERO w_NON_NEGATIVE w_NON_POSITIVE w_UNKNOWN) = w_NON_NEGATIVE))) ?_
          refine own_iconst X24 hx 148 (1 : Int32) (hb hby at_147) rfl ?_
          refine own_goto X24 hx 152 (hb hby at_148) ?_
          exact own_retN (t := .boolean) (z := (1 : Int32)) (Q := own_Q0 Z w_ZERO w_UNKNOWN w_NON_POSITIVE w_NON_NEGATIVE S_w_ZERO S_w_UNKNOWN S_w_NON_POSITIVE S_w_NON_NEGATIVE E_w_ZERO E_w_UNKNOWN E_w_NON_POSITIVE E_w_NON_NEGATIVE F_ordinal_w_NON_POSITIVE F_ordinal_w_ZERO F_ordinal_w_NON_NEGATIVE F_ordinal_w_UNKNOWN ne_w_NON_POSITIVE_w_ZERO ne_w_NON_POSITIVE_w_NON_NEGATIVE ne_w_NON_POSITIVE_w_UNKNOWN ne_w_ZERO_w_NON_NEGATIVE ne_w_ZERO_w_UNKNOWN ne_w_NON_NEGATIVE_w_UNKNOWN v0 v1 h0 n0) X24 hx hrt (by simp) (hb hby at_152) hlk e24 ⟨rfl, N22⟩ (by decide) (by decide)
        · refine own_ifNo X22 hx 84 (hb hby at_81) (feq hc81_23).1 ?_
          refine own_iconst X22 hx 85 (1 : Int32) (hb hby at_84) rfl ?_
          refine own_goto X22 hx 89 (hb hby at_85) ?_
          refine own_istore X22 hx 91 #[.val (.int v0), .val (.int v1), .val (.int (v0 &&& (3 : Int32))), .val (.int (v1 &&& (3 : Int32))), .val (.ref (own_times (own_sign (v0 &&& (3 : Int32)) w_ZERO w_NON_NEGATIVE w_NON_POSITIVE w_UNKNOWN) (own_sign (v1 &&& (3 : Int32)) w_ZERO w_NON_NEGATIVE w_NON_POSITIVE w_UNKNOWN) w_ZERO w_NON_NEGATIVE w_NON_POSITIVE w_UNKNOWN)), .val (.int (1 : Int32)), .val (.int (1 : Int32)), .unset] (hb hby at_89) rfl ?_
          refine own_iload X22 hx 93 (hb hby at_91) rfl ?_
          refine own_ifNo X22 hx 96 (hb hby at_93) (feq (by decide : ¬ ((1 : Int32) = (0 : Int32)))).1 ?_
          refine own_iload X22 hx 98 (hb hby at_96) rfl ?_
          refine own_ifNo X22 hx 101 (hb hby at_98) (feq (by decide : ¬ ((1 : Int32) = (0 : Int32)))).1 ?_
          obtain ⟨T25, X25, e25, st25⟩ := getS2 X22 hx hZ hown (host := "") (Or.inl (hw _ (List.mem_of_getElem? (i := 7) rfl))) Via.refl eh22 (S_w_UNKNOWN.ext O0.2) (g := (mkF m 101 #[.val (.int v0), .val (.int v1), .val (.int (v0 &&& (3 : Int32))), .val (.int (v1 &&& (3 : Int32))), .val (.ref (own_times (own_sign (v0 &&& (3 : Int32)) w_ZERO w_NON_NEGATIVE w_NON_POSITIVE w_UNKNOWN) (own_sign (v1 &&& (3 : Int32)) w_ZERO w_NON_NEGATIVE w_NON_POSITIVE w_UNKNOWN) w_ZERO w_NON_NEGATIVE w_NON_POSITIVE w_UNKNOWN)), .val (.int (1 : Int32)), .val (.int (1 : Int32)), .unset] [])) rfl (hb hby at_101)
          refine own_st (G' := T25.setTop (mkF m 104 #[.val (.int v0), .val (.int v1), .val (.int (v0 &&& (3 : Int32))), .val (.int (v1 &&& (3 : Int32))), .val (.ref (own_times (own_sign (v0 &&& (3 : Int32)) w_ZERO w_NON_NEGATIVE w_NON_POSITIVE w_UNKNOWN) (own_sign (v1 &&& (3 : Int32)) w_ZERO w_NON_NEGATIVE w_NON_POSITIVE w_UNKNOWN) w_ZERO w_NON_NEGATIVE w_NON_POSITIVE w_UNKNOWN)), .val (.int (1 : Int32)), .val (.int (1 : Int32)), .unset] [(.ref w_UNKNOWN)])) st25 ?_
          refine own_astore X25 hx 106 #[.val (.int v0), .val (.int v1), .val (.int (v0 &&& (3 : Int32))), .val (.int (v1 &&& (3 : Int32))), .val (.ref (own_times (own_sign (v0 &&& (3 : Int32)) w_ZERO w_NON_NEGATIVE w_NON_POSITIVE w_UNKNOWN) (own_sign (v1 &&& (3 : Int32)) w_ZERO w_NON_NEGATIVE w_NON_POSITIVE w_UNKNOWN) w_ZERO w_NON_NEGATIVE w_NON_POSITIVE w_UNKNOWN)), .val (.int (1 : Int32)), .val (.int (1 : Int32)), .val (.ref w_UNKNOWN)] (hb hby at_104) rfl rfl ?_
          refine own_goto X25 hx 140 (hb hby at_106) ?_
          refine own_aload X25 hx 142 (hb hby at_140) rfl rfl ?_
          refine own_aload X25 hx 144 (hb hby at_142) rfl rfl ?_
          refine own_acmp X25 hx 147 true (hb hby at_144) rfl rfl (decide_eq_true (congrArg Value.ref (by
              rcases own_four v0 with h1 | h1 | h1 | h1 <;> rcases own_four v1 with h2 | h2 | h2 | h2 <;> simp only [h1, h2, own_pos, own_neg] at hc25_6 hc39_8 hc46_13 hc81_23 ⊢ <;> first | (exfalso; revert hc25_6 hc39_8 hc46_13 hc81_23; decide) | simp [own_times, own_sign, ne_w_NON_POSITIVE_w_ZERO, ne_w_NON_POSITIVE_w_NON_NEGATIVE, ne_w_NON_POSITIVE_w_UNKNOWN, ne_w_ZERO_w_NON_NEGATIVE, ne_w_ZERO_w_UNKNOWN, ne_w_NON_NEGATIVE_w_UNKNOWN, (Ne.symm ne_w_NON_POSITIVE_w_ZERO), (Ne.symm ne_w_NON_POSITIVE_w_NON_NEGATIVE), (Ne.symm ne_w_NON_POSITIVE_w_UNKNOWN), (Ne.symm ne_w_ZERO_w_NON_NEGATIVE), (Ne.symm ne_w_ZERO_w_UNKNOWN), (Ne.symm ne_w_NON_NEGATIVE_w_UNKNOWN)] : (own_times (own_sign (v0 &&& (3 : Int32)) w_ZERO w_NON_NEGATIVE w_NON_POSITIVE w_UNKNOWN) (own_sign (v1 &&& (3 : Int32)) w_ZERO w_NON_NEGATIVE w_NON_POSITIVE w_UNKNOWN) w_ZERO w_NON_NEGATIVE w_NON_POSITIVE w_UNKNOWN) = w_UNKNOWN))) ?_
          refine own_iconst X25 hx 148 (1 : Int32) (hb hby at_147) rfl ?_
          refine own_goto X25 hx 152 (hb hby at_148) ?_
          exact own_retN (t := .boolean) (z := (1 : Int32)) (Q := own_Q0 Z w_ZERO w_UNKNOWN w_NON_POSITIVE w_NON_NEGATIVE S_w_ZERO S_w_UNKNOWN S_w_NON_POSITIVE S_w_NON_NEGATIVE E_w_ZERO E_w_UNKNOWN E_w_NON_POSITIVE E_w_NON_NEGATIVE F_ordinal_w_NON_POSITIVE F_ordinal_w_ZERO F_ordinal_w_NON_NEGATIVE F_ordinal_w_UNKNOWN ne_w_NON_POSITIVE_w_ZERO ne_w_NON_POSITIVE_w_NON_NEGATIVE ne_w_NON_POSITIVE_w_UNKNOWN ne_w_ZERO_w_NON_NEGATIVE ne_w_ZERO_w_UNKNOWN ne_w_NON_NEGATIVE_w_UNKNOWN v0 v1 h0 n0) X25 hx hrt (by simp) (hb hby at_152) hlk e25 ⟨rfl, N22⟩ (by decide) (by decide)
  · refine own_ifNo X5 hx 28 (hb hby at_25) (feq hc25_6).1 ?_
    refine own_iloadN X5 hx 29 (hb hby at_28) rfl ?_
    obtain ⟨_, _, ⟨T26, Lx26, kc26, nc26⟩, -, X26, ⟨Lc26, hQ26, lq26, yq26, zq26⟩, st26⟩ := Jvm.LawKit.callS X5 hx (y := (⟨"com/example/deltalog/deltalog/SignTimesPinLaw", "mayBePos", "(I)Z"⟩ : MethodName)) hown (mvT hZ (hw _ (List.mem_of_getElem? (i := 15) rfl))) (mvT hZ (hw _ (List.mem_of_getElem? (i := 16) rfl))) (mvT hZ (hw _ (List.mem_of_getElem? (i := 2) rfl))) (mvT hZ (hw _ (List.mem_of_getElem? (i := 17) rfl))) (by decide) (backOf (W := 0) (own_rm3 l Z a0 hw [] (v1 &&& (3 : Int32)) h0 n0 Z0 ) hZ (hw _ (List.mem_of_getElem? (i := 17) rfl)) (hw _ (List.mem_of_getElem? (i := 2) rfl)) (by decide) (by decide)) (g := (mkF m 29 #[.val (.int v0), .val (.int v1), .val (.int (v0 &&& (3 : Int32))), .val (.int (v1 &&& (3 : Int32))), .val (.ref (own_times (own_sign (v0 &&& (3 : Int32)) w_ZERO w_NON_NEGATIVE w_NON_POSITIVE w_UNKNOWN) (own_sign (v1 &&& (3 : Int32)) w_ZERO w_NON_NEGATIVE w_NON_POSITIVE w_UNKNOWN) w_ZERO w_NON_NEGATIVE w_NON_POSITIVE w_UNKNOWN)), .unset, .unset, .unset] [(.int (v1 &&& (3 : Int32)))])) rfl (by rw [hml]; rfl) (argsL := [(.int (v1 &&& (3 : Int32)))]) (rest := []) (lenOf own_pd2 rfl) rfl (by show 2 * 0 + _ ≤ _; exact Nat.le_of_eq rfl) (hb hby at_29) (fun _ _ => ⟨rfl, eh5, (by decide : 0 + 0 ≤ _), (by decide : 0 + 0 ≤ _)⟩)
    dsimp only [Pt.U, Pt.locs, Pt.cells, Pt.slots] at X26 lq26 yq26 zq26 st26 hQ26
    subst lq26 yq26 zq26
    obtain ⟨rfl, Nq26, eh26⟩ := hQ26
    have N26 := Fr.app N5 Nq26
    refine own_st (G' := T26.setTop (mkF m 32 #[.val (.int v0), .val (.int v1), .val (.int (v0 &&& (3 : Int32))), .val (.int (v1 &&& (3 : Int32))), .val (.ref (own_times (own_sign (v0 &&& (3 : Int32)) w_ZERO w_NON_NEGATIVE w_NON_POSITIVE w_UNKNOWN) (own_sign (v1 &&& (3 : Int32)) w_ZERO w_NON_NEGATIVE w_NON_POSITIVE w_UNKNOWN) w_ZERO w_NON_NEGATIVE w_NON_POSITIVE w_UNKNOWN)), .unset, .unset, .unset] [(.int (own_pos (v1 &&& (3 : Int32))))])) st26 ?_
    by_cases hc32_27 : (own_pos (v1 &&& (3 : Int32))) = (0 : Int32)
    · refine own_ifNo X26 hx 35 (hb hby at_32) (teq hc32_27).2 ?_
      refine own_iloadN X26 hx 36 (hb hby at_35) rfl ?_
      obtain ⟨_, _, ⟨T28, Lx28, kc28, nc28⟩, -, X28, ⟨Lc28, hQ28, lq28, yq28, zq28⟩, st28⟩ := Jvm.LawKit.callS X26 hx (y := (⟨"com/example/deltalog/deltalog/SignTimesPinLaw", "mayBeNeg", "(I)Z"⟩ : MethodName)) hown (mvT hZ (hw _ (List.mem_of_getElem? (i := 18) rfl))) (mvT hZ (hw _ (List.mem_of_getElem? (i := 19) rfl))) (mvT hZ (hw _ (List.mem_of_getElem? (i := 2) rfl))) (mvT hZ (hw _ (List.mem_of_getElem? (i := 20) rfl))) (by decide) (backOf (W := 0) (own_rm4 l Z a0 hw [] (v0 &&& (3 : Int32)) h0 n0 Z0 ) hZ (hw _ (List.mem_of_getElem? (i := 20) rfl)) (hw _ (List.mem_of_getElem? (i := 2) rfl)) (by decide) (by decide)) (g := (mkF m 36 #[.val (.int v0), .val (.int v1), .val (.int (v0 &&& (3 : Int32))), .val (.int (v1 &&& (3 : Int32))), .val (.ref (own_times (own_sign (v0 &&& (3 : Int32)) w_ZERO w_NON_NEGATIVE w_NON_POSITIVE w_UNKNOWN) (own_sign (v1 &&& (3 : Int32)) w_ZERO w_NON_NEGATIVE w_NON_POSITIVE w_UNKNOWN) w_ZERO w_NON_NEGATIVE w_NON_POSITIVE w_UNKNOWN)), .unset, .unset, .unset] [(.int (v0 &&& (3 : Int32)))])) rfl (by rw [hml]; rfl) (argsL := [(.int (v0 &&& (3 : Int32)))]) (rest := []) (lenOf own_pd2 rfl) rfl (by show 2 * 0 + _ ≤ _; exact Nat.le_of_eq rfl) (hb hby at_36) (fun _ _ => ⟨rfl, eh26, (by decide : 0 + 0 ≤ _), (by decide : 0 + 0 ≤ _)⟩)
      dsimp only [Pt.U, Pt.locs, Pt.cells, Pt.slots] at X28 lq28 yq28 zq28 st28 hQ28
      subst lq28 yq28 zq28
      obtain ⟨rfl, Nq28, eh28⟩ := hQ28
      have N28 := Fr.app N26 Nq28
      refine own_st (G' := T28.setTop (mkF m 39 #[.val (.int v0), .val (.int v1), .val (.int (v0 &&& (3 : Int32))), .val (.int (v1 &&& (3 : Int32))), .val (.ref (own_times (own_sign (v0 &&& (3 : Int32)) w_ZERO w_NON_NEGATIVE w_NON_POSITIVE w_UNKNOWN) (own_sign (v1 &&& (3 : Int32)) w_ZERO w_NON_NEGATIVE w_NON_POSITIVE w_UNKNOWN) w_ZERO w_NON_NEGATIVE w_NON_POSITIVE w_UNKNOWN)), .unset, .unset, .unset] [(.int (own_neg (v0 &&& (3 : Int32))))])) st28 ?_
      by_cases hc39_29 : (own_neg (v0 &&& (3 : Int32))) = (0 : Int32)
      · refine own_ifYes X28 hx 53 (hb hby at_39) (teq hc39_29).1 ?_
        refine own_iconst X28 hx 54 (0 : Int32) (hb hby at_53) rfl ?_
        refine own_istore X28 hx 56 #[.val (.int v0), .val (.int v1), .val (.int (v0 &&& (3 : Int32))), .val (.int (v1 &&& (3 : Int32))), .val (.ref (own_times (own_sign (v0 &&& (3 : Int32)) w_ZERO w_NON_NEGATIVE w_NON_POSITIVE w_UNKNOWN) (own_sign (v1 &&& (3 : Int32)) w_ZERO w_NON_NEGATIVE w_NON_POSITIVE w_UNKNOWN) w_ZERO w_NON_NEGATIVE w_NON_POSITIVE w_UNKNOWN)), .val (.int (0 : Int32)), .unset, .unset] (hb hby at_54) rfl ?_
        refine own_iloadN X28 hx 57 (hb hby at_56) rfl ?_
        obtain ⟨_, _, ⟨T30, Lx30, kc30, nc30⟩, -, X30, ⟨Lc30, hQ30, lq30, yq30, zq30⟩, st30⟩ := Jvm.LawKit.callS X28 hx (y := (⟨"com/example/deltalog/deltalog/SignTimesPinLaw", "mayBePos", "(I)Z"⟩ : MethodName)) hown (mvT hZ (hw _ (List.mem_of_getElem? (i := 15) rfl))) (mvT hZ (hw _ (List.mem_of_getElem? (i := 16) rfl))) (mvT hZ (hw _ (List.mem_of_getElem? (i := 2) rfl))) (mvT hZ (hw _ (List.mem_of_getElem? (i := 17) rfl))) (by decide) (backOf (W := 0) (own_rm3 l Z a0 hw [] (v0 &&& (3 : Int32)) h0 n0 Z0 ) hZ (hw _ (List.mem_of_getElem? (i := 17) rfl)) (hw _ (List.mem_of_getElem? (i := 2) rfl)) (by decide) (by decide)) (g := (mkF m 57 #[.val (.int v0), .val (.int v1), .val (.int (v0 &&& (3 : Int32))), .val (.int (v1 &&& (3 : Int32))), .val (.ref (own_times (own_sign (v0 &&& (3 : Int32)) w_ZERO w_NON_NEGATIVE w_NON_POSITIVE w_UNKNOWN) (own_sign (v1 &&& (3 : Int32)) w_ZERO w_NON_NEGATIVE w_NON_POSITIVE w_UNKNOWN) w_ZERO w_NON_NEGATIVE w_NON_POSITIVE w_UNKNOWN)), .val (.int (0 : Int32)), .unset, .unset] [(.int (v0 &&& (3 : Int32)))])) rfl (by rw [hml]; rfl) (argsL := [(.int (v0 &&& (3 : Int32)))]) (rest := []) (lenOf own_pd2 rfl) rfl (by show 2 * 0 + _ ≤ _; exact Nat.le_of_eq rfl) (hb hby at_57) (fun _ _ => ⟨rfl, eh28, (by decide : 0 + 0 ≤ _), (by decide : 0 + 0 ≤ _)⟩)
        dsimp only [Pt.U, Pt.locs, Pt.cells, Pt.slots] at X30 lq30 yq30 zq30 st30 hQ30
        subst lq30 yq30 zq30
        obtain ⟨rfl, Nq30, eh30⟩ := hQ30
        have N30 := Fr.app N28 Nq30
        refine own_st (G' := T30.setTop (mkF m 60 #[.val (.int v0), .val (.int v1), .val (.int (v0 &&& (3 : Int32))), .val (.int (v1 &&& (3 : Int32))), .val (.ref (own_times (own_sign (v0 &&& (3 : Int32)) w_ZERO w_NON_NEGATIVE w_NON_POSITIVE w_UNKNOWN) (own_sign (v1 &&& (3 : Int32)) w_ZERO w_NON_NEGATIVE w_NON_POSITIVE w_UNKNOWN) w_ZERO w_NON_NEGATIVE w_NON_POSITIVE w_UNKNOWN)), .val (.int (0 : Int32)), .unset, .unset] [(.int (own_pos (v0 &&& (3 : Int32))))])) st30 ?_
        refine own_ifNo X30 hx 63 (hb hby at_60) (feq hc25_6).1 ?_
        refine own_iloadN X30 hx 64 (hb hby at_63) rfl ?_
        obtain ⟨_, _, ⟨T31, Lx31, kc31, nc31⟩, -, X31, ⟨Lc31, hQ31, lq31, yq31, zq31⟩, st31⟩ := Jvm.LawKit.callS X30 hx (y := (⟨"com/example/deltalog/deltalog/SignTimesPinLaw", "mayBeNeg", "(I)Z"⟩ : MethodName)) hown (mvT hZ (hw _ (List.mem_of_getElem? (i := 18) rfl))) (mvT hZ (hw _ (List.mem_of_getElem? (i := 19) rfl))) (mvT hZ (hw _ (List.mem_of_getElem? (i := 2) rfl))) (mvT hZ (hw _ (List.mem_of_getElem? (i := 20) rfl))) (by decide) (backOf (W := 0) (own_rm4 l Z a0 hw [] (v1 &&& (3 : Int32)) h0 n0 Z0 ) hZ (hw _ (List.mem_of_getElem? (i := 20) rfl)) (hw _ (List.mem_of_getElem? (i := 2) rfl)) (by decide) (by decide)) (g := (mkF m 64 #[.val (.int v0), .val (.int v1), .val (.int (v0 &&& (3 : Int32))), .val (.int (v1 &&& (3 : Int32))), .val (.ref (own_times (own_sign (v0 &&& (3 : Int32)) w_ZERO w_NON_NEGATIVE w_NON_POSITIVE w_UNKNOWN) (own_sign (v1 &&& (3 : Int32)) w_ZERO w_NON_NEGATIVE w_NON_POSITIVE w_UNKNOWN) w_ZERO w_NON_NEGATIVE w_NON_POSITIVE w_UNKNOWN)), .val (.int (0 : Int32)), .unset, .unset] [(.int (v1 &&& (3 : Int32)))])) rfl (by rw [hml]; rfl) (argsL := [(.int (v1 &&& (3 : Int32)))]) (rest := []) (lenOf own_pd2 rfl) rfl (by show 2 * 0 + _ ≤ _; exact Nat.le_of_eq rfl) (hb hby at_64) (fun _ _ => ⟨rfl, eh30, (by decide : 0 + 0 ≤ _), (by decide : 0 + 0 ≤ _)⟩)
        dsimp only [Pt.U, Pt.locs, Pt.cells, Pt.slots] at X31 lq31 yq31 zq31 st31 hQ31
        subst lq31 yq31 zq31
        obtain ⟨rfl, Nq31, eh31⟩ := hQ31
        have N31 := Fr.app N30 Nq31
        refine own_st (G' := T31.setTop (mkF m 67 #[.val (.int v0), .val (.int v1), .val (.int (v0 &&& (3 : Int32))), .val (.int (v1 &&& (3 : Int32))), .val (.ref (own_times (own_sign (v0 &&& (3 : Int32)) w_ZERO w_NON_NEGATIVE w_NON_POSITIVE w_UNKNOWN) (own_sign (v1 &&& (3 : Int32)) w_ZERO w_NON_NEGATIVE w_NON_POSITIVE w_UNKNOWN) w_ZERO w_NON_NEGATIVE w_NON_POSITIVE w_UNKNOWN)), .val (.int (0 : Int32)), .unset, .unset] [(.int (own_neg (v1 &&& (3 : Int32))))])) st31 ?_
        by_cases hc67_32 : (own_neg (v1 &&& (3 : Int32))) = (0 : Int32)
        · refine own_ifNo X31 hx 70 (hb hby at_67) (teq hc67_32).2 ?_
          refine own_iloadN X31 hx 71 (hb hby at_70) rfl ?_
          obtain ⟨_, _, ⟨T33, Lx33, kc33, nc33⟩, -, X33, ⟨Lc33, hQ33, lq33, yq33, zq33⟩, st33⟩ := Jvm.LawKit.callS X31 hx (y := (⟨"com/example/deltalog/deltalog/SignTimesPinLaw", "mayBeNeg", "(I)Z"⟩ : MethodName)) hown (mvT hZ (hw _ (List.mem_of_getElem? (i := 18) rfl))) (mvT hZ (hw _ (List.mem_of_getElem? (i := 19) rfl))) (mvT hZ (hw _ (List.mem_of_getElem? (i := 2) rfl))) (mvT hZ (hw _ (List.mem_of_getElem? (i := 20) rfl))) (by decide) (backOf (W := 0) (own_rm4 l Z a0 hw [] (v0 &&& (3 : Int32)) h0 n0 Z0 ) hZ (hw _ (List.mem_of_getElem? (i := 20) rfl)) (hw _ (List.mem_of_getElem? (i := 2) rfl)) (by decide) (by decide)) (g := (mkF m 71 #[.val (.int v0), .val (.int v1), .val (.int (v0 &&& (3 : Int32))), .val (.int (v1 &&& (3 : Int32))), .val (.ref (own_times (own_sign (v0 &&& (3 : Int32)) w_ZERO w_NON_NEGATIVE w_NON_POSITIVE w_UNKNOWN) (own_sign (v1 &&& (3 : Int32)) w_ZERO w_NON_NEGATIVE w_NON_POSITIVE w_UNKNOWN) w_ZERO w_NON_NEGATIVE w_NON_POSITIVE w_UNKNOWN)), .val (.int (0 : Int32)), .unset, .unset] [(.int (v0 &&& (3 : Int32)))])) rfl (by rw [hml]; rfl) (argsL := [(.int (v0 &&& (3 : Int32)))]) (rest := []) (lenOf own_pd2 rfl) rfl (by show 2 * 0 + _ ≤ _; exact Nat.le_of_eq rfl) (hb hby at_71) (fun _ _ => ⟨rfl, eh31, (by decide : 0 + 0 ≤ _), (by decide : 0 + 0 ≤ _)⟩)
          dsimp only [Pt.U, Pt.locs, Pt.cells, Pt.slots] at X33 lq33 yq33 zq33 st33 hQ33
          subst lq33 yq33 zq33
          obtain ⟨rfl, Nq33, eh33⟩ := hQ33
          have N33 := Fr.app N31 Nq33
          refine own_st (G' := T33.setTop (mkF m 74 #[.val (.int v0), .val (.int v1), .val (.int (v0 &&& (3 : Int32))), .val (.int (v1 &&& (3 : Int32))), .val (.ref (own_times (own_sign (v0 &&& (3 : Int32)) w_ZERO w_NON_NEGATIVE w_NON_POSITIVE w_UNKNOWN) (own_sign (v1 &&& (3 : Int32)) w_ZERO w_NON_NEGATIVE w_NON_POSITIVE w_UNKNOWN) w_ZERO w_NON_NEGATIVE w_NON_POSITIVE w_UNKNOWN)), .val (.int (0 : Int32)), .unset, .unset] [(.int (own_neg (v0 &&& (3 : Int32))))])) st33 ?_
          refine own_ifYes X33 hx 88 (hb hby at_74) (teq hc39_29).1 ?_
          refine own_iconst X33 hx 89 (0 : Int32) (hb hby at_88) rfl ?_
          refine own_istore X33 hx 91 #[.val (.int v0), .val (.int v1), .val (.int (v0 &&& (3 : Int32))), .val (.int (v1 &&& (3 : Int32))), .val (.ref (own_times (own_sign (v0 &&& (3 : Int32)) w_ZERO w_NON_NEGATIVE w_NON_POSITIVE w_UNKNOWN) (own_sign (v1 &&& (3 : Int32)) w_ZERO w_NON_NEGATIVE w_NON_POSITIVE w_UNKNOWN) w_ZERO w_NON_NEGATIVE w_NON_POSITIVE w_UNKNOWN)), .val (.int (0 : Int32)), .val (.int (0 : Int32)), .unset] (hb hby at_89) rfl ?_
          refine own_iload X33 hx 93 (hb hby at_91) rfl ?_
          refine own_ifYes X33 hx 109 (hb hby at_93) (teq (rfl : (0 : Int32) = (0 : Int32))).1 ?_
          refine own_iload X33 hx 111 (hb hby at_109) rfl ?_
          refine own_ifYes X33 hx 122 (hb hby at_111) (teq (rfl : (0 : Int32) = (0 : Int32))).1 ?_
          refine own_iload X33 hx 124 (hb hby at_122) rfl ?_
          refine own_ifYes X33 hx 135 (hb hby at_124) (teq (rfl : (0 : Int32) = (0 : Int32))).1 ?_
          obtain ⟨T34, X34, e34, st34⟩ := getS2 X33 hx hZ hown (host := "") (Or.inl (hw _ (List.mem_of_getElem? (i := 4) rfl))) Via.refl eh33 (S_w_ZERO.ext O0.2) (g := (mkF m 135 #[.val (.int v0), .val (.int v1), .val (.int (v0 &&& (3 : Int32))), .val (.int (v1 &&& (3 : Int32))), .val (.ref (own_times (own_sign (v0 &&& (3 : Int32)) w_ZERO w_NON_NEGATIVE w_NON_POSITIVE w_UNKNOWN) (own_sign (v1 &&& (3 : Int32)) w_ZERO w_NON_NEGATIVE w_NON_POSITIVE w_UNKNOWN) w_ZERO w_NON_NEGATIVE w_NON_POSITIVE w_UNKNOWN)), .val (.int (0 : Int32)), .val (.int (0 : Int32)), .unset] [])) rfl (hb hby at_135)
          refine own_st (G' := T34.setTop (mkF m 138 #[.val (.int v0), .val (.int v1), .val (.int (v0 &&& (3 : Int32))), .val (.int (v1 &&& (3 : Int32))), .val (.ref (own_times (own_sign (v0 &&& (3 : Int32)) w_ZERO w_NON_NEGATIVE w_NON_POSITIVE w_UNKNOWN) (own_sign (v1 &&& (3 : Int32)) w_ZERO w_NON_NEGATIVE w_NON_POSITIVE w_UNKNOWN) w_ZERO w_NON_NEGATIVE w_NON_POSITIVE w_UNKNOWN)), .val (.int (0 : Int32)), .val (.int (0 : Int32)), .unset] [(.ref w_ZERO)])) st34 ?_
          refine own_astore X34 hx 140 #[.val (.int v0), .val (.int v1), .val (.int (v0 &&& (3 : Int32))), .val (.int (v1 &&& (3 : Int32))), .val (.ref (own_times (own_sign (v0 &&& (3 : Int32)) w_ZERO w_NON_NEGATIVE w_NON_POSITIVE w_UNKNOWN) (own_sign (v1 &&& (3 : Int32)) w_ZERO w_NON_NEGATIVE w_NON_POSITIVE w_UNKNOWN) w_ZERO w_NON_NEGATIVE w_NON_POSITIVE w_UNKNOWN)), .val (.int (0 : Int32)), .val (.int (0 : Int32)), .val (.ref w_ZERO)] (hb hby at_138) rfl rfl ?_
          refine own_aload X34 hx 142 (hb hby at_140) rfl rfl ?_
          refine own_aload X34 hx 144 (hb hby at_142) rfl rfl ?_
          refine own_acmp X34 hx 147 true (hb hby at_144) rfl rfl (decide_eq_true (congrArg Value.ref (by
              rcases own_four v0 with h1 | h1 | h1 | h1 <;> rcases own_four v1 with h2 | h2 | h2 | h2 <;> simp only [h1, h2, own_pos, own_neg] at hc25_6 hc32_27 hc39_29 hc67_32 ⊢ <;> first | (exfalso; revert hc25_6 hc32_27 hc39_29 hc67_32; decide) | simp [own_times, own_sign, ne_w_NON_POSITIVE_w_ZERO, ne_w_NON_POSITIVE_w_NON_NEGATIVE, ne_w_NON_POSITIVE_w_UNKNOWN, ne_w_ZERO_w_NON_NEGATIVE, ne_w_ZERO_w_UNKNOWN, ne_w_NON_NEGATIVE_w_UNKNOWN, (Ne.symm ne_w_NON_POSITIVE_w_ZERO), (Ne.symm ne_w_NON_POSITIVE_w_NON_NEGATIVE), (Ne.symm ne_w_NON_POSITIVE_w_UNKNOWN), (Ne.symm ne_w_ZERO_w_NON_NEGATIVE), (Ne.symm ne_w_ZERO_w_UNKNOWN), (Ne.symm ne_w_NON_NEGATIVE_w_UNKNOWN)] : (own_times (own_sign (v0 &&& (3 : Int32)) w_ZERO w_NON_NEGATIVE w_NON_POSITIVE w_UNKNOWN) (own_sign (v1 &&& (3 : Int32)) w_ZERO w_NON_NEGATIVE w_NON_POSITIVE w_UNKNOWN) w_ZERO w_NON_NEGATIVE w_NON_POSITIVE w_UNKNOWN) = w_ZERO))) ?_
          refine own_iconst X34 hx 148 (1 : Int32) (hb hby at_147) rfl ?_
          refine own_goto X34 hx 152 (hb hby at_148) ?_
          exact own_retN (t := .boolean) (z := (1 : Int32)) (Q := own_Q0 Z w_ZERO w_UNKNOWN w_NON_POSITIVE w_NON_NEGATIVE S_w_ZERO S_w_UNKNOWN S_w_NON_POSITIVE S_w_NON_NEGATIVE E_w_ZERO E_w_UNKNOWN E_w_NON_POSITIVE E_w_NON_NEGATIVE F_ordinal_w_NON_POSITIVE F_ordinal_w_ZERO F_ordinal_w_NON_NEGATIVE F_ordinal_w_UNKNOWN ne_w_NON_POSITIVE_w_ZERO ne_w_NON_POSITIVE_w_NON_NEGATIVE ne_w_NON_POSITIVE_w_UNKNOWN ne_w_ZERO_w_NON_NEGATIVE ne_w_ZERO_w_UNKNOWN ne_w_NON_NEGATIVE_w_UNKNOWN v0 v1 h0 n0) X34 hx hrt (by simp) (hb hby at_152) hlk e34 ⟨rfl, N33⟩ (by decide) (by decide)
        · refine own_ifYes X31 hx 84 (hb hby at_67) (feq hc67_32).2 ?_
          refine own_iconst X31 hx 85 (1 : Int32) (hb hby at_84) rfl ?_
          refine own_goto X31 hx 89 (hb hby at_85) ?_
          refine own_istore X31 hx 91 #[.val (.int v0), .val (.int v1), .val (.int (v0 &&& (3 : Int32))), .val (.int (v1 &&& (3 : Int32))), .val (.ref (own_times (own_sign (v0 &&& (3 : Int32)) w_ZERO w_NON_NEGATIVE w_NON_POSITIVE w_UNKNOWN) (own_sign (v1 &&& (3 : Int32)) w_ZERO w_NON_NEGATIVE w_NON_POSITIVE w_UNKNOWN) w_ZERO w_NON_NEGATIVE w_NON_POSITIVE w_UNKNOWN)), .val (.int (0 : Int32)), .val (.int (1 : Int32)), .unset] (hb hby at_89) rfl ?_
          refine own_iload X31 hx 93 (hb hby at_91) rfl ?_
          refine own_ifYes X31 hx 109 (hb hby at_93) (teq (rfl : (0 : Int32) = (0 : Int32))).1 ?_
          refine own_iload X31 hx 111 (hb hby at_109) rfl ?_
          refine own_ifYes X31 hx 122 (hb hby at_111) (teq (rfl : (0 : Int32) = (0 : Int32))).1 ?_
          refine own_iload X31 hx 124 (hb hby at_122) rfl ?_
          refine own_ifNo X31 hx 127 (hb hby at_124) (feq (by decide : ¬ ((1 : Int32) = (0 : Int32)))).1 ?_
          obtain ⟨T35, X35, e35, st35⟩ := getS2 X31 hx hZ hown (host := "") (Or.inl (hw _ (List.mem_of_getElem? (i := 21) rfl))) Via.refl eh31 (S_w_NON_POSITIVE.ext O0.2) (g := (mkF m 127 #[.val (.int v0), .val (.int v1), .val (.int (v0 &&& (3 : Int32))), .val (.int (v1 &&& (3 : Int32))), .val (.ref (own_times (own_sign (v0 &&& (3 : Int32)) w_ZERO w_NON_NEGATIVE w_NON_POSITIVE w_UNKNOWN) (own_sign (v1 &&& (3 : Int32)) w_ZERO w_NON_NEGATIVE w_NON_POSITIVE w_UNKNOWN) w_ZERO w_NON_NEGATIVE w_NON_POSITIVE w_UNKNOWN)), .val (.int (0 : Int32)), .val (.int (1 : Int32)), .unset] [])) rfl (hb hby at_127)
          refine own_st (G' := T35.setTop (mkF m 130 #[.val (.int v0), .val (.int v1), .val (.int (v0 &&& (3 : Int32))), .val (.int (v1 &&& (3 : Int32))), .val (.ref (own_times (own_sign (v0 &&& (3 : Int32)) w_ZERO w_NON_NEGATIVE w_NON_POSITIVE w_UNKNOWN) (own_sign (v1 &&& (3 : Int32)) w_ZERO w_NON_NEGATIVE w_NON_POSITIVE w_UNKNOWN) w_ZERO w_NON_NEGATIVE w_NON_POSITIVE w_UNKNOWN)), .val (.int (0 : Int32)), .val (.int (1 : Int32)), .unset] [(.ref w_NON_POSITIVE)])) st35 ?_
          refine own_astore X35 hx 132 #[.val (.int v0), .val (.int v1), .val (.int (v0 &&& (3 : Int32))), .val (.int (v1 &&& (3 : Int32))), .val (.ref (own_times (own_sign (v0 &&& (3 : Int32)) w_ZERO w_NON_NEGATIVE w_NON_POSITIVE w_UNKNOWN) (own_sign (v1 &&& (3 : Int32)) w_ZERO w_NON_NEGATIVE w_NON_POSITIVE w_UNKNOWN) w_ZERO w_NON_NEGATIVE w_NON_POSITIVE w_UNKNOWN)), .val (.int (0 : Int32)), .val (.int (1 : Int32)), .val (.ref w_NON_POSITIVE)] (hb hby at_130) rfl rfl ?_
          refine own_goto X35 hx 140 (hb hby at_132) ?_
          refine own_aload X35 hx 142 (hb hby at_140) rfl rfl ?_
          refine own_aload X35 hx 144 (hb hby at_142) rfl rfl ?_
          refine own_acmp X35 hx 147 true (hb hby at_144) rfl rfl (decide_eq_true (congrArg Value.ref (by
              rcases own_four v0 with h1 | h1 | h1 | h1 <;> rcases own_four v1 with h2 | h2 | h2 | h2 <;> simp only [h1, h2, own_pos, own_neg] at hc25_6 hc32_27 hc39_29 hc67_32 ⊢ <;> first | (exfalso; revert hc25_6 hc32_27 hc39_29 hc67_32; decide) | simp [own_times, own_sign, ne_w_NON_POSITIVE_w_ZERO, ne_w_NON_POSITIVE_w_NON_NEGATIVE, ne_w_NON_POSITIVE_w_UNKNOWN, ne_w_ZERO_w_NON_NEGATIVE, ne_w_ZERO_w_UNKNOWN, ne_w_NON_NEGATIVE_w_UNKNOWN, (Ne.symm ne_w_NON_POSITIVE_w_ZERO), (Ne.symm ne_w_NON_POSITIVE_w_NON_NEGATIVE), (Ne.symm ne_w_NON_POSITIVE_w_UNKNOWN), (Ne.symm ne_w_ZERO_w_NON_NEGATIVE), (Ne.symm ne_w_ZERO_w_UNKNOWN), (Ne.symm ne_w_NON_NEGATIVE_w_UNKNOWN)] : (own_times (own_sign (v0 &&& (3 : Int32)) w_ZERO w_NON_NEGATIVE w_NON_POSITIVE w_UNKNOWN) (own_sign (v1 &&& (3 : Int32)) w_ZERO w_NON_NEGATIVE w_NON_POSITIVE w_UNKNOWN) w_ZERO w_NON_NEGATIVE w_NON_POSITIVE w_UNKNOWN) = w_NON_POSITIVE))) ?_
          refine own_iconst X35 hx 148 (1 : Int32) (hb hby at_147) rfl ?_
          refine own_goto X35 hx 152 (hb hby at_148) ?_
          exact own_retN (t := .boolean) (z := (1 : Int32)) (Q := own_Q0 Z w_ZERO w_UNKNOWN w_NON_POSITIVE w_NON_NEGATIVE S_w_ZERO S_w_UNKNOWN S_w_NON_POSITIVE S_w_NON_NEGATIVE E_w_ZERO E_w_UNKNOWN E_w_NON_POSITIVE E_w_NON_NEGATIVE F_ordinal_w_NON_POSITIVE F_ordinal_w_ZERO F_ordinal_w_NON_NEGATIVE F_ordinal_w_UNKNOWN ne_w_NON_POSITIVE_w_ZERO ne_w_NON_POSITIVE_w_NON_NEGATIVE ne_w_NON_POSITIVE_w_UNKNOWN ne_w_ZERO_w_NON_NEGATIVE ne_w_ZERO_w_UNKNOWN ne_w_NON_NEGATIVE_w_UNKNOWN v0 v1 h0 n0) X35 hx hrt (by simp) (hb hby at_152) hlk e35 ⟨rfl, N31⟩ (by decide) (by decide)
      · refine own_ifNo X28 hx 42 (hb hby at_39) (feq hc39_29).1 ?_
        refine own_iloadN X28 hx 43 (hb hby at_42) rfl ?_
        obtain ⟨_, _, ⟨T36, Lx36, kc36, nc36⟩, -, X36, ⟨Lc36, hQ36, lq36, yq36, zq36⟩, st36⟩ := Jvm.LawKit.callS X28 hx (y := (⟨"com/example/deltalog/deltalog/SignTimesPinLaw", "mayBeNeg", "(I)Z"⟩ : MethodName)) hown (mvT hZ (hw _ (List.mem_of_getElem? (i := 18) rfl))) (mvT hZ (hw _ (List.mem_of_getElem? (i := 19) rfl))) (mvT hZ (hw _ (List.mem_of_getElem? (i := 2) rfl))) (mvT hZ (hw _ (List.mem_of_getElem? (i := 20) rfl))) (by decide) (backOf (W := 0) (own_rm4 l Z a0 hw [] (v1 &&& (3 : Int32)) h0 n0 Z0 ) hZ (hw _ (List.mem_of_getElem? (i := 20) rfl)) (hw _ (List.mem_of_getElem? (i := 2) rfl)) (by decide) (by decide)) (g := (mkF m 43 #[.val (.int v0), .val (.int v1), .val (.int (v0 &&& (3 : Int32))), .val (.int (v1 &&& (3 : Int32))), .val (.ref (own_times (own_sign (v0 &&& (3 : Int32)) w_ZERO w_NON_NEGATIVE w_NON_POSITIVE w_UNKNOWN) (own_sign (v1 &&& (3 : Int32)) w_ZERO w_NON_NEGATIVE w_NON_POSITIVE w_UNKNOWN) w_ZERO w_NON_NEGATIVE w_NON_POSITIVE w_UNKNOWN)), .unset, .unset, .unset] [(.int (v1 &&& (3 : Int32)))])) rfl (by rw [hml]; rfl) (argsL := [(.int (v1 &&& (3 : Int32)))]) (rest := []) (lenOf own_pd2 rfl) rfl (by show 2 * 0 + _ ≤ _; exact Nat.le_of_eq rfl) (hb hby at_43) (fun _ _ => ⟨rfl, eh28, (by decide : 0 + 0 ≤ _), (by decide : 0 + 0 ≤ _)⟩)
        dsimp only [Pt.U, Pt.locs, Pt.cells, Pt.slots] at X36 lq36 yq36 zq36 st36 hQ36
        subst lq36 yq36 zq36
        obtain ⟨rfl, Nq36, eh36⟩ := hQ36
        have N36 := Fr.app N28 Nq36
        refine own_st (G' := T36.setTop (mkF m 46 #[.val (.int v0), .val (.int v1), .val (.int (v0 &&& (3 : Int32))), .val (.int (v1 &&& (3 : Int32))), .val (.ref (own_times (own_sign (v0 &&& (3 : Int32)) w_ZERO w_NON_NEGATIVE w_NON_POSITIVE w_UNKNOWN) (own_sign (v1 &&& (3 : Int32)) w_ZERO w_NON_NEGATIVE w_NON_POSITIVE w_UNKNOWN) w_ZERO w_NON_NEGATIVE w_NON_POSITIVE w_UNKNOWN)), .unset, .unset, .unset] [(.int (own_neg (v1 &&& (3 : Int32))))])) st36 ?_
        by_cases hc46_37 : (own_neg (v1 &&& (3 : Int32))) = (0 : Int32)
        · refine own_ifYes X36 hx 53 (hb hby at_46) (teq hc46_37).1 ?_
          refine own_iconst X36 hx 54 (0 : Int32) (hb hby at_53) rfl ?_
          refine own_istore X36 hx 56 #[.val (.int v0), .val (.int v1), .val (.int (v0 &&& (3 : Int32))), .val (.int (v1 &&& (3 : Int32))), .val (.ref (own_times (own_sign (v0 &&& (3 : Int32)) w_ZERO w_NON_NEGATIVE w_NON_POSITIVE w_UNKNOWN) (own_sign (v1 &&& (3 : Int32)) w_ZERO w_NON_NEGATIVE w_NON_POSITIVE w_UNKNOWN) w_ZERO w_NON_NEGATIVE w_NON_POSITIVE w_UNKNOWN)), .val (.int (0 : Int32)), .unset, .unset] (hb hby at_54) rfl ?_
          refine own_iloadN X36 hx 57 (hb hby at_56) rfl ?_
          obtain ⟨_, _, ⟨T38, Lx38, kc38, nc38⟩, -, X38, ⟨Lc38, hQ38, lq38, yq38, zq38⟩, st38⟩ := Jvm.LawKit.callS X36 hx (y := (⟨"com/example/deltalog/deltalog/SignTimesPinLaw", "mayBePos", "(I)Z"⟩ : MethodName)) hown (mvT hZ (hw _ (List.mem_of_getElem? (i := 15) rfl))) (mvT hZ (hw _ (List.mem_of_getElem? (i := 16) rfl))) (mvT hZ (hw _ (List.mem_of_getElem? (i := 2) rfl))) (mvT hZ (hw _ (List.mem_of_getElem? (i := 17) rfl))) (by decide) (backOf (W := 0) (own_rm3 l Z a0 hw [] (v0 &&& (3 : Int32)) h0 n0 Z0 ) hZ (hw _ (List.mem_of_getElem? (i := 17) rfl)) (hw _ (List.mem_of_getElem? (i := 2) rfl)) (by decide) (by decide)) (g := (mkF m 57 #[.val (.int v0), .val (.int v1), .val (.int (v0 &&& (3 : Int32))), .val (.int (v1 &&& (3 : Int32))), .val (.ref (own_times (own_sign (v0 &&& (3 : Int32)) w_ZERO w_NON_NEGATIVE w_NON_POSITIVE w_UNKNOWN) (own_sign (v1 &&& (3 : Int32)) w_ZERO w_NON_NEGATIVE w_NON_POSITIVE w_UNKNOWN) w_ZERO w_NON_NEGATIVE w_NON_POSITIVE w_UNKNOWN)), .val (.int (0 : Int32)), .unset, .unset] [(.int (v0 &&& (3 : Int32)))])) rfl (by rw [hml]; rfl) (argsL := [(.int (v0 &&& (3 : Int32)))]) (rest := []) (lenOf own_pd2 rfl) rfl (by show 2 * 0 + _ ≤ _; exact Nat.le_of_eq rfl) (hb hby at_57) (fun _ _ => ⟨rfl, eh36, (by decide : 0 + 0 ≤ _), (by decide : 0 + 0 ≤ _)⟩)
          dsimp only [Pt.U, Pt.locs, Pt.cells, Pt.slots] at X38 lq38 yq38 zq38 st38 hQ38
          subst lq38 yq38 zq38
          obtain ⟨rfl, Nq38, eh38⟩ := hQ38
          have N38 := Fr.app N36 Nq38
          refine own_st (G' := T38.setTop (mkF m 60 #[.val (.int v0), .val (.int v1), .val (.int (v0 &&& (3 : Int32))), .val (.int (v1 &&& (3 : Int32))), .val (.ref (own_times (own_sign (v0 &&& (3 : Int32)) w_ZERO w_NON_NEGATIVE w_NON_POSITIVE w_UNKNOWN) (own_sign (v1 &&& (3 : Int32)) w_ZERO w_NON_NEGATIVE w_NON_POSITIVE w_UNKNOWN) w_ZERO w_NON_NEGATIVE w_NON_POSITIVE w_UNKNOWN)), .val (.int (0 : Int32)), .unset, .unset] [(.int (own_pos (v0 &&& (3 : Int32))))])) st38 ?_
          refine own_ifNo X38 hx 63 (hb hby at_60) (feq hc25_6).1 ?_
          refine own_iloadN X38 hx 64 (hb hby at_63) rfl ?_
          obtain ⟨_, _, ⟨T39, Lx39, kc39, nc39⟩, -, X39, ⟨Lc39, hQ39, lq39, yq39, zq39⟩, st39⟩ := Jvm.LawKit.callS X38 hx (y := (⟨"com/example/deltalog/deltalog/SignTimesPinLaw", "mayBeNeg", "(I)Z"⟩ : MethodName)) hown (mvT hZ (hw _ (List.mem_of_getElem? (i := 18) rfl))) (mvT hZ (hw _ (List.mem_of_getElem? (i := 19) rfl))) (mvT hZ (hw _ (List.mem_of_getElem? (i := 2) rfl))) (mvT hZ (hw _ (List.mem_of_getElem? (i := 20) rfl))) (by decide) (backOf (W := 0) (own_rm4 l Z a0 hw [] (v1 &&& (3 : Int32)) h0 n0 Z0 ) hZ (hw _ (List.mem_of_getElem? (i := 20) rfl)) (hw _ (List.mem_of_getElem? (i := 2) rfl)) (by decide) (by decide)) (g := (mkF m 64 #[.val (.int v0), .val (.int v1), .val (.int (v0 &&& (3 : Int32))), .val (.int (v1 &&& (3 : Int32))), .val (.ref (own_times (own_sign (v0 &&& (3 : Int32)) w_ZERO w_NON_NEGATIVE w_NON_POSITIVE w_UNKNOWN) (own_sign (v1 &&& (3 : Int32)) w_ZERO w_NON_NEGATIVE w_NON_POSITIVE w_UNKNOWN) w_ZERO w_NON_NEGATIVE w_NON_POSITIVE w_UNKNOWN)), .val (.int (0 : Int32)), .unset, .unset] [(.int (v1 &&& (3 : Int32)))])) rfl (by rw [hml]; rfl) (argsL := [(.int (v1 &&& (3 : Int32)))]) (rest := []) (lenOf own_pd2 rfl) rfl (by show 2 * 0 + _ ≤ _; exact Nat.le_of_eq rfl) (hb hby at_64) (fun _ _ => ⟨rfl, eh38, (by decide : 0 + 0 ≤ _), (by decide : 0 + 0 ≤ _)⟩)
          dsimp only [Pt.U, Pt.locs, Pt.cells, Pt.slots] at X39 lq39 yq39 zq39 st39 hQ39
          subst lq39 yq39 zq39
          obtain ⟨rfl, Nq39, eh39⟩ := hQ39
          have N39 := Fr.app N38 Nq39
          refine own_st (G' := T39.setTop (mkF m 67 #[.val (.int v0), .val (.int v1), .val (.int (v0 &&& (3 : Int32))), .val (.int (v1 &&& (3 : Int32))), .val (.ref (own_times (own_sign (v0 &&& (3 : Int32)) w_ZERO w_NON_NEGATIVE w_NON_POSITIVE w_UNKNOWN) (own_sign (v1 &&& (3 : Int32)) w_ZERO w_NON_NEGATIVE w_NON_POSITIVE w_UNKNOWN) w_ZERO w_NON_NEGATIVE w_NON_POSITIVE w_UNKNOWN)), .val (.int (0 : Int32)), .unset, .unset] [(.int (own_neg (v1 &&& (3 : Int32))))])) st39 ?_
          refine own_ifNo X39 hx 70 (hb hby at_67) (teq hc46_37).2 ?_
          refine own_iloadN X39 hx 71 (hb hby at_70) rfl ?_
          obtain ⟨_, _, ⟨T40, Lx40, kc40, nc40⟩, -, X40, ⟨Lc40, hQ40, lq40, yq40, zq40⟩, st40⟩ := Jvm.LawKit.callS X39 hx (y := (⟨"com/example/deltalog/deltalog/SignTimesPinLaw", "mayBeNeg", "(I)Z"⟩ : MethodName)) hown (mvT hZ (hw _ (List.mem_of_getElem? (i := 18) rfl))) (mvT hZ (hw _ (List.mem_of_getElem? (i := 19) rfl))) (mvT hZ (hw _ (List.mem_of_getElem? (i := 2) rfl))) (mvT hZ (hw _ (List.mem_of_getElem? (i := 20) rfl))) (by decide) (backOf (W := 0) (own_rm4 l Z a0 hw [] (v0 &&& (3 : Int32)) h0 n0 Z0 ) hZ (hw _ (List.mem_of_getElem? (i := 20) rfl)) (hw _ (List.mem_of_getElem? (i := 2) rfl)) (by decide) (by decide)) (g := (mkF m 71 #[.val (.int v0), .val (.int v1), .val (.int (v0 &&& (3 : Int32))), .val (.int (v1 &&& (3 : Int32))), .val (.ref (own_times (own_sign (v0 &&& (3 : Int32)) w_ZERO w_NON_NEGATIVE w_NON_POSITIVE w_UNKNOWN) (own_sign (v1 &&& (3 : Int32)) w_ZERO w_NON_NEGATIVE w_NON_POSITIVE w_UNKNOWN) w_ZERO w_NON_NEGATIVE w_NON_POSITIVE w_UNKNOWN)), .val (.int (0 : Int32)), .unset, .unset] [(.int (v0 &&& (3 : Int32)))])) rfl (by rw [hml]; rfl) (argsL := [(.int (v0 &&& (3 : Int32)))]) (rest := []) (lenOf own_pd2 rfl) rfl (by show 2 * 0 + _ ≤ _; exact Nat.le_of_eq rfl) (hb hby at_71) (fun _ _ => ⟨rfl, eh39, (by decide : 0 + 0 ≤ _), (by decide : 0 + 0 ≤ _)⟩)
          dsimp only [Pt.U, Pt.locs, Pt.cells, Pt.slots] at X40 lq40 yq40 zq40 st40 hQ40
          subst lq40 yq40 zq40
          obtain ⟨rfl, Nq40, eh40⟩ := hQ40
          have N40 := Fr.app N39 Nq40
          refine own_st (G' := T40.setTop (mkF m 74 #[.val (.int v0), .val (.int v1), .val (.int (v0 &&& (3 : Int32))), .val (.int (v1 &&& (3 : Int32))), .val (.ref (own_times (own_sign (v0 &&& (3 : Int32)) w_ZERO w_NON_NEGATIVE w_NON_POSITIVE w_UNKNOWN) (own_sign (v1 &&& (3 : Int32)) w_ZERO w_NON_NEGATIVE w_NON_POSITIVE w_UNKNOWN) w_ZERO w_NON_NEGATIVE w_NON_POSITIVE w_UNKNOWN)), .val (.int (0 : Int32)), .unset, .unset] [(.int (own_neg (v0 &&& (3 : Int32))))])) st40 ?_
          refine own_ifNo X40 hx 77 (hb hby at_74) (feq hc39_29).1 ?_
          refine own_iloadN X40 hx 78 (hb hby at_77) rfl ?_
          obtain ⟨_, _, ⟨T41, Lx41, kc41, nc41⟩, -, X41, ⟨Lc41, hQ41, lq41, yq41, zq41⟩, st41⟩ := Jvm.LawKit.callS X40 hx (y := (⟨"com/example/deltalog/deltalog/SignTimesPinLaw", "mayBePos", "(I)Z"⟩ : MethodName)) hown (mvT hZ (hw _ (List.mem_of_getElem? (i := 15) rfl))) (mvT hZ (hw _ (List.mem_of_getElem? (i := 16) rfl))) (mvT hZ (hw _ (List.mem_of_getElem? (i := 2) rfl))) (mvT hZ (hw _ (List.mem_of_getElem? (i := 17) rfl))) (by decide) (backOf (W := 0) (own_rm3 l Z a0 hw [] (v1 &&& (3 : Int32)) h0 n0 Z0 ) hZ (hw _ (List.mem_of_getElem? (i := 17) rfl)) (hw _ (List.mem_of_getElem? (i := 2) rfl)) (by decide) (by decide)) (g := (mkF m 78 #[.val (.int v0), .val (.int v1), .val (.int (v0 &&& (3 : Int32))), .val (.int (v1 &&& (3 : Int32))), .val (.ref (own_times (own_sign (v0 &&& (3 : Int32)) w_ZERO w_NON_NEGATIVE w_NON_POSITIVE w_UNKNOWN) (own_sign (v1 &&& (3 : Int32)) w_ZERO w_NON_NEGATIVE w_NON_POSITIVE w_UNKNOWN) w_ZERO w_NON_NEGATIVE w_NON_POSITIVE w_UNKNOWN)), .val (.int (0 : Int32)), .unset, .unset] [(.int (v1 &&& (3 : Int32)))])) rfl (by rw [hml]; rfl) (argsL := [(.int (v1 &&& (3 : Int32)))]) (rest := []) (lenOf own_pd2 rfl) rfl (by show 2 * 0 + _ ≤ _; exact Nat.le_of_eq rfl) (hb hby at_78) (fun _ _ => ⟨rfl, eh40, (by decide : 0 + 0 ≤ _), (by decide : 0 + 0 ≤ _)⟩)
          dsimp only [Pt.U, Pt.locs, Pt.cells, Pt.slots] at X41 lq41 yq41 zq41 st41 hQ41
          subst lq41 yq41 zq41
          obtain ⟨rfl, Nq41, eh41⟩ := hQ41
          have N41 := Fr.app N40 Nq41
          refine own_st (G' := T41.setTop (mkF m 81 #[.val (.int v0), .val (.int v1), .val (.int (v0 &&& (3 : Int32))), .val (.int (v1 &&& (3 : Int32))), .val (.ref (own_times (own_sign (v0 &&& (3 : Int32)) w_ZERO w_NON_NEGATIVE w_NON_POSITIVE w_UNKNOWN) (own_sign (v1 &&& (3 : Int32)) w_ZERO w_NON_NEGATIVE w_NON_POSITIVE w_UNKNOWN) w_ZERO w_NON_NEGATIVE w_NON_POSITIVE w_UNKNOWN)), .val (.int (0 : Int32)), .unset, .unset] [(.int (own_pos (v1 &&& (3 : Int32))))])) st41 ?_
          refine own_ifYes X41 hx 88 (hb hby at_81) (teq hc32_27).1 ?_
          refine own_iconst X41 hx 89 (0 : Int32) (hb hby at_88) rfl ?_
          refine own_istore X41 hx 91 #[.val (.int v0), .val (.int v1), .val (.int (v0 &&& (3 : Int32))), .val (.int (v1 &&& (3 : Int32))), .val (.ref (own_times (own_sign (v0 &&& (3 : Int32)) w_ZERO w_NON_NEGATIVE w_NON_POSITIVE w_UNKNOWN) (own_sign (v1 &&& (3 : Int32)) w_ZERO w_NON_NEGATIVE w_NON_POSITIVE w_UNKNOWN) w_ZERO w_NON_NEGATIVE w_NON_POSITIVE w_UNKNOWN)), .val (.int (0 : Int32)), .val (.int (0 : Int32)), .unset] (hb hby at_89) rfl ?_
          refine own_iload X41 hx 93 (hb hby at_91) rfl ?_
          refine own_ifYes X41 hx 109 (hb hby at_93) (teq (rfl : (0 : Int32) = (0 : Int32))).1 ?_
          refine own_iload X41 hx 111 (hb hby at_109) rfl ?_
          refine own_ifYes X41 hx 122 (hb hby at_111) (teq (rfl : (0 : Int32) = (0 : Int32))).1 ?_
          refine own_iload X41 hx 124 (hb hby at_122) rfl ?_
          refine own_ifYes X41 hx 135 (hb hby at_124) (teq (rfl : (0 : Int32) = (0 : Int32))).1 ?_
          obtain ⟨T42, X42, e42, st42⟩ := getS2 X41 hx hZ hown (host := "") (Or.inl (hw _ (List.mem_of_getElem? (i := 4) rfl))) Via.refl eh41 (S_w_ZERO.ext O0.2) (g := (mkF m 135 #[.val (.int v0), .val (.int v1), .val (.int (v0 &&& (3 : Int32))), .val (.int (v1 &&& (3 : Int32))), .val (.ref (own_times (own_sign (v0 &&& (3 : Int32)) w_ZERO w_NON_NEGATIVE w_NON_POSITIVE w_UNKNOWN) (own_sign (v1 &&& (3 : Int32)) w_ZERO w_NON_NEGATIVE w_NON_POSITIVE w_UNKNOWN) w_ZERO w_NON_NEGATIVE w_NON_POSITIVE w_UNKNOWN)), .val (.int (0 : Int32)), .val (.int (0 : Int32)), .unset] [])) rfl (hb hby at_135)
          refine own_st (G' := T42.setTop (mkF m 138 #[.val (.int v0), .val (.int v1), .val (.int (v0 &&& (3 : Int32))), .val (.int (v1 &&& (3 : Int32))), .val (.ref (own_times (own_sign (v0 &&& (3 : Int32)) w_ZERO w_NON_NEGATIVE w_NON_POSITIVE w_UNKNOWN) (own_sign (v1 &&& (3 : Int32)) w_ZERO w_NON_NEGATIVE w_NON_POSITIVE w_UNKNOWN) w_ZERO w_NON_NEGATIVE w_NON_POSITIVE w_UNKNOWN)), .val (.int (0 : Int32)), .val (.int (0 : Int32)), .unset] [(.ref w_ZERO)])) st42 ?_
          refine own_astore X42 hx 140 #[.val (.int v0), .val (.int v1), .val (.int (v0 &&& (3 : Int32))), .val (.int (v1 &&& (3 : Int32))), .val (.ref (own_times (own_sign (v0 &&& (3 : Int32)) w_ZERO w_NON_NEGATIVE w_NON_POSITIVE w_UNKNOWN) (own_sign (v1 &&& (3 : Int32)) w_ZERO w_NON_NEGATIVE w_NON_POSITIVE w_UNKNOWN) w_ZERO w_NON_NEGATIVE w_NON_POSITIVE w_UNKNOWN)), .val (.int (0 : Int32)), .val (.int (0 : Int32)), .val (.ref w_ZERO)] (hb hby at_138) rfl rfl ?_
          refine own_aload X42 hx 142 (hb hby at_140) rfl rfl ?_
          refine own_aload X42 hx 144 (hb hby at_142) rfl rfl ?_
          refine own_acmp X42 hx 147 true (hb hby at_144) rfl rfl (decide_eq_true (congrArg Value.ref (by
              rcases own_four v0 with h1 | h1 | h1 | h1 <;> rcases own_four v1 with h2 | h2 | h2 | h2 <;> simp only [h1, h2, own_pos, own_neg] at hc25_6 hc32_27 hc39_29 hc46_37 ⊢ <;> first | (exfalso; revert hc25_6 hc32_27 hc39_29 hc46_37; decide) | simp [own_times, own_sign, ne_w_NON_POSITIVE_w_ZERO, ne_w_NON_POSITIVE_w_NON_NEGATIVE, ne_w_NON_POSITIVE_w_UNKNOWN, ne_w_ZERO_w_NON_NEGATIVE, ne_w_ZERO_w_UNKNOWN, ne_w_NON_NEGATIVE_w_UNKNOWN, (Ne.symm ne_w_NON_POSITIVE_w_ZERO), (Ne.symm ne_w_NON_POSITIVE_w_NON_NEGATIVE), (Ne.symm ne_w_NON_POSITIVE_w_UNKNOWN), (Ne.symm ne_w_ZERO_w_NON_NEGATIVE), (Ne.symm ne_w_ZERO_w_UNKNOWN), (Ne.symm ne_w_NON_NEGATIVE_w_UNKNOWN)] : (own_times (own_sign (v0 &&& (3 : Int32)) w_ZERO w_NON_NEGATIVE w_NON_POSITIVE w_UNKNOWN) (own_sign (v1 &&& (3 : Int32)) w_ZERO w_NON_NEGATIVE w_NON_POSITIVE w_UNKNOWN) w_ZERO w_NON_NEGATIVE w_NON_POSITIVE w_UNKNOWN) = w_ZERO))) ?_
          refine own_iconst X42 hx 148 (1 : Int32) (hb hby at_147) rfl ?_
          refine own_goto X42 hx 152 (hb hby at_148) ?_
          exact own_retN (t := .boolean) (z := (1 : Int32)) (Q := own_Q0 Z w_ZERO w_UNKNOWN w_NON_POSITIVE w_NON_NEGATIVE S_w_ZERO S_w_UNKNOWN S_w_NON_POSITIVE S_w_NON_NEGATIVE E_w_ZERO E_w_UNKNOWN E_w_NON_POSITIVE E_w_NON_NEGATIVE F_ordinal_w_NON_POSITIVE F_ordinal_w_ZERO F_ordinal_w_NON_NEGATIVE F_ordinal_w_UNKNOWN ne_w_NON_POSITIVE_w_ZERO ne_w_NON_POSITIVE_w_NON_NEGATIVE ne_w_NON_POSITIVE_w_UNKNOWN ne_w_ZERO_w_NON_NEGATIVE ne_w_ZERO_w_UNKNOWN ne_w_NON_NEGATIVE_w_UNKNOWN v0 v1 h0 n0) X42 hx hrt (by simp) (hb hby at_152) hlk e42 ⟨rfl, N41⟩ (by decide) (by decide)
        · refine own_ifNo X36 hx 49 (hb hby at_46) (feq hc46_37).1 ?_
          refine own_iconst X36 hx 50 (1 : Int32) (hb hby at_49) rfl ?_
          refine own_goto X36 hx 54 (hb hby at_50) ?_
          refine own_istore X36 hx 56 #[.val (.int v0), .val (.int v1), .val (.int (v0 &&& (3 : Int32))), .val (.int (v1 &&& (3 : Int32))), .val (.ref (own_times (own_sign (v0 &&& (3 : Int32)) w_ZERO w_NON_NEGATIVE w_NON_POSITIVE w_UNKNOWN) (own_sign (v1 &&& (3 : Int32)) w_ZERO w_NON_NEGATIVE w_NON_POSITIVE w_UNKNOWN) w_ZERO w_NON_NEGATIVE w_NON_POSITIVE w_UNKNOWN)), .val (.int (1 : Int32)), .unset, .unset] (hb hby at_54) rfl ?_
          refine own_iloadN X36 hx 57 (hb hby at_56) rfl ?_
          obtain ⟨_, _, ⟨T43, Lx43, kc43, nc43⟩, -, X43, ⟨Lc43, hQ43, lq43, yq43, zq43⟩, st43⟩ := Jvm.LawKit.callS X36 hx (y := (⟨"com/example/deltalog/deltalog/SignTimesPinLaw", "mayBePos", "(I)Z"⟩ : MethodName)) hown (mvT hZ (hw _ (List.mem_of_getElem? (i := 15) rfl))) (mvT hZ (hw _ (List.mem_of_getElem? (i := 16) rfl))) (mvT hZ (hw _ (List.mem_of_getElem? (i := 2) rfl))) (mvT hZ (hw _ (List.mem_of_getElem? (i := 17) rfl))) (by decide) (backOf (W := 0) (own_rm3 l Z a0 hw [] (v0 &&& (3 : Int32)) h0 n0 Z0 ) hZ (hw _ (List.mem_of_getElem? (i := 17) rfl)) (hw _ (List.mem_of_getElem? (i := 2) rfl)) (by decide) (by decide)) (g := (mkF m 57 #[.val (.int v0), .val (.int v1), .val (.int (v0 &&& (3 : Int32))), .val (.int (v1 &&& (3 : Int32))), .val (.ref (own_times (own_sign (v0 &&& (3 : Int32)) w_ZERO w_NON_NEGATIVE w_NON_POSITIVE w_UNKNOWN) (own_sign (v1 &&& (3 : Int32)) w_ZERO w_NON_NEGATIVE w_NON_POSITIVE w_UNKNOWN) w_ZERO w_NON_NEGATIVE w_NON_POSITIVE w_UNKNOWN)), .val (.int (1 : Int32)), .unset, .unset] [(.int (v0 &&& (3 : Int32)))])) rfl (by rw [hml]; rfl) (argsL := [(.int (v0 &&& (3 : Int32)))]) (rest := []) (lenOf own_pd2 rfl) rfl (by show 2 * 0 + _ ≤ _; exact Nat.le_of_eq rfl) (hb hby at_57) (fun _ _ => ⟨rfl, eh36, (by decide : 0 + 0 ≤ _), (by decide : 0 + 0 ≤ _)⟩)
          dsimp only [Pt.U, Pt.locs, Pt.cells, Pt.slots] at X43 lq43 yq43 zq43 st43 hQ43
          subst lq43 yq43 zq43
          obtain ⟨rfl, Nq43, eh43⟩ := hQ43
          have N43 := Fr.app N36 Nq43
          refine own_st (G' := T43.setTop (mkF m 60 #[.val (.int v0), .val (.int v1), .val (.int (v0 &&& (3 : Int32))), .val (.int (v1 &&& (3 : Int32))), .val (.ref (own_times (own_sign (v0 &&& (3 : Int32)) w_ZERO w_NON_NEGATIVE w_NON_POSITIVE w_UNKNOWN) (own_sign (v1 &&& (3 : Int32)) w_ZERO w_NON_NEGATIVE w_NON_POSITIVE w_UNKNOWN) w_ZERO w_NON_NEGATIVE w_NON_POSITIVE w_UNKNOWN)), .val (.int (1 : Int32)), .unset, .unset] [(.int (own_pos (v0 &&& (3 : Int32))))])) st43 ?_
          refine own_ifNo X43 hx 63 (hb hby at_60) (feq hc25_6).1 ?_
          refine own_iloadN X43 hx 64 (hb hby at_63) rfl ?_
          obtain ⟨_, _, ⟨T44, Lx44, kc44, nc44⟩, -, X44, ⟨Lc44, hQ44, lq44, yq44, zq44⟩, st44⟩ := Jvm.LawKit.callS X43 hx (y := (⟨"com/example/deltalog/deltalog/SignTimesPinLaw", "mayBeNeg", "(I)Z"⟩ : MethodName)) hown (mvT hZ (hw _ (List.mem_of_getElem? (i := 18) rfl))) (mvT hZ (hw _ (List.mem_of_getElem? (i := 19) rfl))) (mvT hZ (hw _ (List.mem_of_getElem? (i := 2) rfl))) (mvT hZ (hw _ (List.mem_of_getElem? (i := 20) rfl))) (by decide) (backOf (W := 0) (own_rm4 l Z a0 hw [] (v1 &&& (3 : Int32)) h0 n0 Z0 ) hZ (hw _ (List.mem_of_getElem? (i := 20) rfl)) (hw _ (List.mem_of_getElem? (i := 2) rfl)) (by decide) (by decide)) (g := (mkF m 64 #[.val (.int v0), .val (.int v1), .val (.int (v0 &&& (3 : Int32))), .val (.int (v1 &&& (3 : Int32))), .val (.ref (own_times (own_sign (v0 &&& (3 : Int32)) w_ZERO w_NON_NEGATIVE w_NON_POSITIVE w_UNKNOWN) (own_sign (v1 &&& (3 : Int32)) w_ZERO w_NON_NEGATIVE w_NON_POSITIVE w_UNKNOWN) w_ZERO w_NON_NEGATIVE w_NON_POSITIVE w_UNKNOWN)), .val (.int (1 : Int32)), .unset, .unset] [(.int (v1 &&& (3 : Int32)))])) rfl (by rw [hml]; rfl) (argsL := [(.int (v1 &&& (3 : Int32)))]) (rest := []) (lenOf own_pd2 rfl) rfl (by show 2 * 0 + _ ≤ _; exact Nat.le_of_eq rfl) (hb hby at_64) (fun _ _ => ⟨rfl, eh43, (by decide : 0 + 0 ≤ _), (by decide : 0 + 0 ≤ _)⟩)
          dsimp only [Pt.U, Pt.locs, Pt.cells, Pt.slots] at X44 lq44 yq44 zq44 st44 hQ44
          subst lq44 yq44 zq44
          obtain ⟨rfl, Nq44, eh44⟩ := hQ44
          have N44 := Fr.app N43 Nq44
          refine own_st (G' := T44.setTop (mkF m 67 #[.val (.int v0), .val (.int v1), .val (.int (v0 &&& (3 : Int32))), .val (.int (v1 &&& (3 : Int32))), .val (.ref (own_times (own_sign (v0 &&& (3 : Int32)) w_ZERO w_NON_NEGATIVE w_NON_POSITIVE w_UNKNOWN) (own_sign (v1 &&& (3 : Int32)) w_ZERO w_NON_NEGATIVE w_NON_POSITIVE w_UNKNOWN) w_ZERO w_NON_NEGATIVE w_NON_POSITIVE w_UNKNOWN)), .val (.int (1 : Int32)), .unset, .unset] [(.int (own_neg (v1 &&& (3 : Int32))))])) st44 ?_
          refine own_ifYes X44 hx 84 (hb hby at_67) (feq hc46_37).2 ?_
          refine own_iconst X44 hx 85 (1 : Int32) (hb hby at_84) rfl ?_
          refine own_goto X44 hx 89 (hb hby at_85) ?_
          refine own_istore X44 hx 91 #[.val (.int v0), .val (.int v1), .val (.int (v0 &&& (3 : Int32))), .val (.int (v1 &&& (3 : Int32))), .val (.ref (own_times (own_sign (v0 &&& (3 : Int32)) w_ZERO w_NON_NEGATIVE w_NON_POSITIVE w_UNKNOWN) (own_sign (v1 &&& (3 : Int32)) w_ZERO w_NON_NEGATIVE w_NON_POSITIVE w_UNKNOWN) w_ZERO w_NON_NEGATIVE w_NON_POSITIVE w_UNKNOWN)), .val (.int (1 : Int32)), .val (.int (1 : Int32)), .unset] (hb hby at_89) rfl ?_
          refine own_iload X44 hx 93 (hb hby at_91) rfl ?_
          refine own_ifNo X44 hx 96 (hb hby at_93) (feq (by decide : ¬ ((1 : Int32) = (0 : Int32)))).1 ?_
          refine own_iload X44 hx 98 (hb hby at_96) rfl ?_
          refine own_ifNo X44 hx 101 (hb hby at_98) (feq (by decide : ¬ ((1 : Int32) = (0 : Int32)))).1 ?_
          obtain ⟨T45, X45, e45, st45⟩ := getS2 X44 hx hZ hown (host := "") (Or.inl (hw _ (List.mem_of_getElem? (i := 7) rfl))) Via.refl eh44 (S_w_UNKNOWN.ext O0.2) (g := (mkF m 101 #[.val (.int v0), .val (.int v1), .val (.int (v0 &&& (3 : Int32))), .val (.int (v1 &&& (3 : Int32))), .val (.ref (own_times (own_sign (v0 &&& (3 : Int32)) w_ZERO w_NON_NEGATIVE w_NON_POSITIVE w_UNKNOWN) (own_sign (v1 &&& (3 : Int32)) w_ZERO w_NON_NEGATIVE w_NON_POSITIVE w_UNKNOWN) w_ZERO w_NON_NEGATIVE w_NON_POSITIVE w_UNKNOWN)), .val (.int (1 : Int32)), .val (.int (1 : Int32)), .unset] [])) rfl (hb hby at_101)
          refine own_st (G' := T45.setTop (mkF m 104 #[.val (.int v0), .val (.int v1), .val (.int (v0 &&& (3 : Int32))), .val (.int (v1 &&& (3 : Int32))), .val (.ref (own_times (own_sign (v0 &&& (3 : Int32)) w_ZERO w_NON_NEGATIVE w_NON_POSITIVE w_UNKNOWN) (own_sign (v1 &&& (3 : Int32)) w_ZERO w_NON_NEGATIVE w_NON_POSITIVE w_UNKNOWN) w_ZERO w_NON_NEGATIVE w_NON_POSITIVE w_UNKNOWN)), .val (.int (1 : Int32)), .val (.int (1 : Int32)), .unset] [(.ref w_UNKNOWN)])) st45 ?_
          refine own_astore X45 hx 106 #[.val (.int v0), .val (.int v1), .val (.int (v0 &&& (3 : Int32))), .val (.int (v1 &&& (3 : Int32))), .val (.ref (own_times (own_sign (v0 &&& (3 : Int32)) w_ZERO w_NON_NEGATIVE w_NON_POSITIVE w_UNKNOWN) (own_sign (v1 &&& (3 : Int32)) w_ZERO w_NON_NEGATIVE w_NON_POSITIVE w_UNKNOWN) w_ZERO w_NON_NEGATIVE w_NON_POSITIVE w_UNKNOWN)), .val (.int (1 : Int32)), .val (.int (1 : Int32)), .val (.ref w_UNKNOWN)] (hb hby at_104) rfl rfl ?_
          refine own_goto X45 hx 140 (hb hby at_106) ?_
          refine own_aload X45 hx 142 (hb hby at_140) rfl rfl ?_
          refine own_aload X45 hx 144 (hb hby at_142) rfl rfl ?_
          refine own_acmp X45 hx 147 true (hb hby at_144) rfl rfl (decide_eq_true (congrArg Value.ref (by
              rcases own_four v0 with h1 | h1 | h1 | h1 <;> rcases own_four v1 with h2 | h2 | h2 | h2 <;> simp only [h1, h2, own_pos, own_neg] at hc25_6 hc32_27 hc39_29 hc46_37 ⊢ <;> first | (exfalso; revert hc25_6 hc32_27 hc39_29 hc46_37; decide) | simp [own_times, own_sign, ne_w_NON_POSITIVE_w_ZERO, ne_w_NON_POSITIVE_w_NON_NEGATIVE, ne_w_NON_POSITIVE_w_UNKNOWN, ne_w_ZERO_w_NON_NEGATIVE, ne_w_ZERO_w_UNKNOWN, ne_w_NON_NEGATIVE_w_UNKNOWN, (Ne.symm ne_w_NON_POSITIVE_w_ZERO), (Ne.symm ne_w_NON_POSITIVE_w_NON_NEGATIVE), (Ne.symm ne_w_NON_POSITIVE_w_UNKNOWN), (Ne.symm ne_w_ZERO_w_NON_NEGATIVE), (Ne.symm ne_w_ZERO_w_UNKNOWN), (Ne.symm ne_w_NON_NEGATIVE_w_UNKNOWN)] : (own_times (own_sign (v0 &&& (3 : Int32)) w_ZERO w_NON_NEGATIVE w_NON_POSITIVE w_UNKNOWN) (own_sign (v1 &&& (3 : Int32)) w_ZERO w_NON_NEGATIVE w_NON_POSITIVE w_UNKNOWN) w_ZERO w_NON_NEGATIVE w_NON_POSITIVE w_UNKNOWN) = w_UNKNOWN))) ?_
          refine own_iconst X45 hx 148 (1 : Int32) (hb hby at_147) rfl ?_
          refine own_goto X45 hx 152 (hb hby at_148) ?_
          exact own_retN (t := .boolean) (z := (1 : Int32)) (Q := own_Q0 Z w_ZERO w_UNKNOWN w_NON_POSITIVE w_NON_NEGATIVE S_w_ZERO S_w_UNKNOWN S_w_NON_POSITIVE S_w_NON_NEGATIVE E_w_ZERO E_w_UNKNOWN E_w_NON_POSITIVE E_w_NON_NEGATIVE F_ordinal_w_NON_POSITIVE F_ordinal_w_ZERO F_ordinal_w_NON_NEGATIVE F_ordinal_w_UNKNOWN ne_w_NON_POSITIVE_w_ZERO ne_w_NON_POSITIVE_w_NON_NEGATIVE ne_w_NON_POSITIVE_w_UNKNOWN ne_w_ZERO_w_NON_NEGATIVE ne_w_ZERO_w_UNKNOWN ne_w_NON_NEGATIVE_w_UNKNOWN v0 v1 h0 n0) X45 hx hrt (by simp) (hb hby at_152) hlk e45 ⟨rfl, N44⟩ (by decide) (by decide)
    · refine own_ifYes X26 hx 49 (hb hby at_32) (feq hc32_27).2 ?_
      refine own_iconst X26 hx 50 (1 : Int32) (hb hby at_49) rfl ?_
      refine own_goto X26 hx 54 (hb hby at_50) ?_
      refine own_istore X26 hx 56 #[.val (.int v0), .val (.int v1), .val (.int (v0 &&& (3 : Int32))), .val (.int (v1 &&& (3 : Int32))), .val (.ref (own_times (own_sign (v0 &&& (3 : Int32)) w_ZERO w_NON_NEGATIVE w_NON_POSITIVE w_UNKNOWN) (own_sign (v1 &&& (3 : Int32)) w_ZERO w_NON_NEGATIVE w_NON_POSITIVE w_UNKNOWN) w_ZERO w_NON_NEGATIVE w_NON_POSITIVE w_UNKNOWN)), .val (.int (1 : Int32)), .unset, .unset] (hb hby at_54) rfl ?_
      refine own_iloadN X26 hx 57 (hb hby at_56) rfl ?_
      obtain ⟨_, _, ⟨T46, Lx46, kc46, nc46⟩, -, X46, ⟨Lc46, hQ46, lq46, yq46, zq46⟩, st46⟩ := Jvm.LawKit.callS X26 hx (y := (⟨"com/example/deltalog/deltalog/SignTimesPinLaw", "mayBePos", "(I)Z"⟩ : MethodName)) hown (mvT hZ (hw _ (List.mem_of_getElem? (i := 15) rfl))) (mvT hZ (hw _ (List.mem_of_getElem? (i := 16) rfl))) (mvT hZ (hw _ (List.mem_of_getElem? (i := 2) rfl))) (mvT hZ (hw _ (List.mem_of_getElem? (i := 17) rfl))) (by decide) (backOf (W := 0) (own_rm3 l Z a0 hw [] (v0 &&& (3 : Int32)) h0 n0 Z0 ) hZ (hw _ (List.mem_of_getElem? (i := 17) rfl)) (hw _ (List.mem_of_getElem? (i := 2) rfl)) (by decide) (by decide)) (g := (mkF m 57 #[.val (.int v0), .val (.int v1), .val (.int (v0 &&& (3 : Int32))), .val (.int (v1 &&& (3 : Int32))), .val (.ref (own_times (own_sign (v0 &&& (3 : Int32)) w_ZERO w_NON_NEGATIVE w_NON_POSITIVE w_UNKNOWN) (own_sign (v1 &&& (3 : Int32)) w_ZERO w_NON_NEGATIVE w_NON_POSITIVE w_UNKNOWN) w_ZERO w_NON_NEGATIVE w_NON_POSITIVE w_UNKNOWN)), .val (.int (1 : Int32)), .unset, .unset] [(.int (v0 &&& (3 : Int32)))])) rfl (by rw [hml]; rfl) (argsL := [(.int (v0 &&& (3 : Int32)))]) (rest := []) (lenOf own_pd2 rfl) rfl (by show 2 * 0 + _ ≤ _; exact Nat.le_of_eq rfl) (hb hby at_57) (fun _ _ => ⟨rfl, eh26, (by decide : 0 + 0 ≤ _), (by decide : 0 + 0 ≤ _)⟩)
      dsimp only [Pt.U, Pt.locs, Pt.cells, Pt.slots] at X46 lq46 yq46 zq46 st46 hQ46
      subst lq46 yq46 zq46
      obtain ⟨rfl, Nq46, eh46⟩ := hQ46
      have N46 := Fr.app N26 Nq46
      refine own_st (G' := T46.setTop (mkF m 60 #[.val (.int v0), .val (.int v1), .val (.int (v0 &&& (3 : Int32))), .val (.int (v1 &&& (3 : Int32))), .val (.ref (own_times (own_sign (v0 &&& (3 : Int32)) w_ZERO w_NON_NEGATIVE w_NON_POSITIVE w_UNKNOWN) (own_sign (v1 &&& (3 : Int32)) w_ZERO w_NON_NEGATIVE w_NON_POSITIVE w_UNKNOWN) w_ZERO w_NON_NEGATIVE w_NON_POSITIVE w_UNKNOWN)), .val (.int (1 : Int32)), .unset, .unset] [(.int (own_pos (v0 &&& (3 : Int32))))])) st46 ?_
      refine own_ifNo X46 hx 63 (hb hby at_60) (feq hc25_6).1 ?_
      refine own_iloadN X46 hx 64 (hb hby at_63) rfl ?_
      obtain ⟨_, _, ⟨T47, Lx47, kc47, nc47⟩, -, X47, ⟨Lc47, hQ47, lq47, yq47, zq47⟩, st47⟩ := Jvm.LawKit.callS X46 hx (y := (⟨"com/example/deltalog/deltalog/SignTimesPinLaw", "mayBeNeg", "(I)Z"⟩ : MethodName)) hown (mvT hZ (hw _ (List.mem_of_getElem? (i := 18) rfl))) (mvT hZ (hw _ (List.mem_of_getElem? (i := 19) rfl))) (mvT hZ (hw _ (List.mem_of_getElem? (i := 2) rfl))) (mvT hZ (hw _ (List.mem_of_getElem? (i := 20) rfl))) (by decide) (backOf (W := 0) (own_rm4 l Z a0 hw [] (v1 &&& (3 : Int32)) h0 n0 Z0 ) hZ (hw _ (List.mem_of_getElem? (i := 20) rfl)) (hw _ (List.mem_of_getElem? (i := 2) rfl)) (by decide) (by decide)) (g := (mkF m 64 #[.val (.int v0), .val (.int v1), .val (.int (v0 &&& (3 : Int32))), .val (.int (v1 &&& (3 : Int32))), .val (.ref (own_times (own_sign (v0 &&& (3 : Int32)) w_ZERO w_NON_NEGATIVE w_NON_POSITIVE w_UNKNOWN) (own_sign (v1 &&& (3 : Int32)) w_ZERO w_NON_NEGATIVE w_NON_POSITIVE w_UNKNOWN) w_ZERO w_NON_NEGATIVE w_NON_POSITIVE w_UNKNOWN)), .val (.int (1 : Int32)), .unset, .unset] [(.int (v1 &&& (3 : Int32)))])) rfl (by rw [hml]; rfl) (argsL := [(.int (v1 &&& (3 : Int32)))]) (rest := []) (lenOf own_pd2 rfl) rfl (by show 2 * 0 + _ ≤ _; exact Nat.le_of_eq rfl) (hb hby at_64) (fun _ _ => ⟨rfl, eh46, (by decide : 0 + 0 ≤ _), (by decide : 0 + 0 ≤ _)⟩)
      dsimp only [Pt.U, Pt.locs, Pt.cells, Pt.slots] at X47 lq47 yq47 zq47 st47 hQ47
      subst lq47 yq47 zq47
      obtain ⟨rfl, Nq47, eh47⟩ := hQ47
      have N47 := Fr.app N46 Nq47
      refine own_st (G' := T47.setTop (mkF m 67 #[.val (.int v0), .val (.int v1), .val (.int (v0 &&& (3 : Int32))), .val (.int (v1 &&& (3 : Int32))), .val (.ref (own_times (own_sign (v0 &&& (3 : Int32)) w_ZERO w_NON_NEGATIVE w_NON_POSITIVE w_UNKNOWN) (own_sign (v1 &&& (3 : Int32)) w_ZERO w_NON_NEGATIVE w_NON_POSITIVE w_UNKNOWN) w_ZERO w_NON_NEGATIVE w_NON_POSITIVE w_UNKNOWN)), .val (.int (1 : Int32)), .unset, .unset] [(.int (own_neg (v1 &&& (3 : Int32))))])) st47 ?_
      by_cases hc67_48 : (own_neg (v1 &&& (3 : Int32))) = (0 : Int32)
      · refine own_ifNo X47 hx 70 (hb hby at_67) (teq hc67_48).2 ?_
        refine own_iloadN X47 hx 71 (hb hby at_70) rfl ?_
        obtain ⟨_, _, ⟨T49, Lx49, kc49, nc49⟩, -, X49, ⟨Lc49, hQ49, lq49, yq49, zq49⟩, st49⟩ := Jvm.LawKit.callS X47 hx (y := (⟨"com/example/deltalog/deltalog/SignTimesPinLaw", "mayBeNeg", "(I)Z"⟩ : MethodName)) hown (mvT hZ (hw _ (List.mem_of_getElem? (i := 18) rfl))) (mvT hZ (hw _ (List.mem_of_getElem? (i := 19) rfl))) (mvT hZ (hw _ (List.mem_of_getElem? (i := 2) rfl))) (mvT hZ (hw _ (List.mem_of_getElem? (i := 20) rfl))) (by decide) (backOf (W := 0) (own_rm4 l Z a0 hw [] (v0 &&& (3 : Int32)) h0 n0 Z0 ) hZ (hw _ (List.mem_of_getElem? (i := 20) rfl)) (hw _ (List.mem_of_getElem? (i := 2) rfl)) (by decide) (by decide)) (g := (mkF m 71 #[.val (.int v0), .val (.int v1), .val (.int (v0 &&& (3 : Int32))), .val (.int (v1 &&& (3 : Int32))), .val (.ref (own_times (own_sign (v0 &&& (3 : Int32)) w_ZERO w_NON_NEGATIVE w_NON_POSITIVE w_UNKNOWN) (own_sign (v1 &&& (3 : Int32)) w_ZERO w_NON_NEGATIVE w_NON_POSITIVE w_UNKNOWN) w_ZERO w_NON_NEGATIVE w_NON_POSITIVE w_UNKNOWN)), .val (.int (1 : Int32)), .unset, .unset] [(.int (v0 &&& (3 : Int32)))])) rfl (by rw [hml]; rfl) (argsL := [(.int (v0 &&& (3 : Int32)))]) (rest := []) (lenOf own_pd2 rfl) rfl (by show 2 * 0 + _ ≤ _; exact Nat.le_of_eq rfl) (hb hby at_71) (fun _ _ => ⟨rfl, eh47, (by decide : 0 + 0 ≤ _), (by decide : 0 + 0 ≤ _)⟩)
        dsimp only [Pt.U, Pt.locs, Pt.cells, Pt.slots] at X49 lq49 yq49 zq49 st49 hQ49
        subst lq49 yq49 zq49
        obtain ⟨rfl, Nq49, eh49⟩ := hQ49
        have N49 := Fr.app N47 Nq49
        refine own_st (G' := T49.setTop (mkF m 74 #[.val (.int v0), .val (.int v1), .val (.int (v0 &&& (3 : Int32))), .val (.int (v1 &&& (3 : Int32))), .val (.ref (own_times (own_sign (v0 &&& (3 : Int32)) w_ZERO w_NON_NEGATIVE w_NON_POSITIVE w_UNKNOWN) (own_sign (v1 &&& (3 : Int32)) w_ZERO w_NON_NEGATIVE w_NON_POSITIVE w_UNKNOWN) w_ZERO w_NON_NEGATIVE w_NON_POSITIVE w_UNKNOWN)), .val (.int (1 : Int32)), .unset, .unset] [(.int (own_neg (v0 &&& (3 : Int32))))])) st49 ?_
        by_cases hc74_50 : (own_neg (v0 &&& (3 : Int32))) = (0 : Int32)
        · refine own_ifYes X49 hx 88 (hb hby at_74) (teq hc74_50).1 ?_
          refine own_iconst X49 hx 89 (0 : Int32) (hb hby at_88) rfl ?_
          refine own_istore X49 hx 91 #[.val (.int v0), .val (.int v1), .val (.int (v0 &&& (3 : Int32))), .val (.int (v1 &&& (3 : Int32))), .val (.ref (own_times (own_sign (v0 &&& (3 : Int32)) w_ZERO w_NON_NEGATIVE w_NON_POSITIVE w_UNKNOWN) (own_sign (v1 &&& (3 : Int32)) w_ZERO w_NON_NEGATIVE w_NON_POSITIVE w_UNKNOWN) w_ZERO w_NON_NEGATIVE w_NON_POSITIVE w_UNKNOWN)), .val (.int (1 : Int32)), .val (.int (0 : Int32)), .unset] (hb hby at_89) rfl ?_
          refine own_iload X49 hx 93 (hb hby at_91) rfl ?_
          refine own_ifNo X49 hx 96 (hb hby at_93) (feq (by decide : ¬ ((1 : Int32) = (0 : Int32)))).1 ?_
          refine own_iload X49 hx 98 (hb hby at_96) rfl ?_
          refine own_ifYes X49 hx 109 (hb hby at_98) (teq (rfl : (0 : Int32) = (0 : Int32))).1 ?_
          refine own_iload X49 hx 111 (hb hby at_109) rfl ?_
          refine own_ifNo X49 hx 114 (hb hby at_111) (feq (by decide : ¬ ((1 : Int32) = (0 : Int32)))).1 ?_
          obtain ⟨T51, X51, e51, st51⟩ := getS2 X49 hx hZ hown (host := "") (Or.inl (hw _ (List.mem_of_getElem? (i := 23) rfl))) Via.refl eh49 (S_w_NON_NEGATIVE.ext O0.2) (g := (mkF m 114 #[.val (.int v0), .val (.int v1), .val (.int (v0 &&& (3 : Int32))), .val (.int (v1 &&& (3 : Int32))), .val (.ref (own_times (own_sign (v0 &&& (3 : Int32)) w_ZERO w_NON_NEGATIVE w_NON_POSITIVE w_UNKNOWN) (own_sign (v1 &&& (3 : Int32)) w_ZERO w_NON_NEGATIVE w_NON_POSITIVE w_UNKNOWN) w_ZERO w_NON_NEGATIVE w_NON_POSITIVE w_UNKNOWN)), .val (.int (1 : Int32)), .val (.int (0 : Int32)), .unset] [])) rfl (hb hby at_114)
          refine own_st (G' := T51.setTop (mkF m 117 #[.val (.int v0), .val (.int v1), .val (.int (v0 &&& (3 : Int32))), .val (.int (v1 &&& (3 : Int32))), .val (.ref (own_times (own_sign (v0 &&& (3 : Int32)) w_ZERO w_NON_NEGATIVE w_NON_POSITIVE w_UNKNOWN) (own_sign (v1 &&& (3 : Int32)) w_ZERO w_NON_NEGATIVE w_NON_POSITIVE w_UNKNOWN) w_ZERO w_NON_NEGATIVE w_NON_POSITIVE w_UNKNOWN)), .val (.int (1 : Int32)), .val (.int (0 : Int32)), .unset] [(.ref w_NON_NEGATIVE)])) st51 ?_
          refine own_astore X51 hx 119 #[.val (.int v0), .val (.int v1), .val (.int (v0 &&& (3 : Int32))), .val (.int (v1 &&& (3 : Int32))), .val (.ref (own_times (own_sign (v0 &&& (3 : Int32)) w_ZERO w_NON_NEGATIVE w_NON_POSITIVE w_UNKNOWN) (own_sign (v1 &&& (3 : Int32)) w_ZERO w_NON_NEGATIVE w_NON_POSITIVE w_UNKNOWN) w_ZERO w_NON_NEGATIVE w_NON_POSITIVE w_UNKNOWN)), .val (.int (1 : Int32)), .val (.int (0 : Int32)), .val (.ref w_NON_NEGATIVE)] (hb hby at_117) rfl rfl ?_
          refine own_goto X51 hx 140 (hb hby at_119) ?_
          refine own_aload X51 hx 142 (hb hby at_140) rfl rfl ?_
          refine own_aload X51 hx 144 (hb hby at_142) rfl rfl ?_
          refine own_acmp X51 hx 147 true (hb hby at_144) rfl rfl (decide_eq_true (congrArg Value.ref (by
              rcases own_four v0 with h1 | h1 | h1 | h1 <;> rcases own_four v1 with h2 | h2 | h2 | h2 <;> simp only [h1, h2, own_pos, own_neg] at hc25_6 hc32_27 hc67_48 hc74_50 ⊢ <;> first | (exfalso; revert hc25_6 hc32_27 hc67_48 hc74_50; decide) | simp [own_times, own_sign, ne_w_NON_POSITIVE_w_ZERO, ne_w_NON_POSITIVE_w_NON_NEGATIVE, ne_w_NON_POSITIVE_w_UNKNOWN, ne_w_ZERO_w_NON_NEGATIVE, ne_w_ZERO_w_UNKNOWN, ne_w_NON_NEGATIVE_w_UNKNOWN, (Ne.symm ne_w_NON_POSITIVE_w_ZERO), (Ne.symm ne_w_NON_POSITIVE_w_NON_NEGATIVE), (Ne.symm ne_w_NON_POSITIVE_w_UNKNOWN), (Ne.symm ne_w_ZERO_w_NON_NEGATIVE), (Ne.symm ne_w_ZERO_w_UNKNOWN), (Ne.symm ne_w_NON_NEGATIVE_w_UNKNOWN)] : (own_times (own_sign (v0 &&& (3 : Int32)) w_ZERO w_NON_NEGATIVE w_NON_POSITIVE w_UNKNOWN) (own_sign (v1 &&& (3 : Int32)) w_ZERO w_NON_NEGATIVE w_NON_POSITIVE w_UNKNOWN) w_ZERO w_NON_NEGATIVE w_NON_POSITIVE w_UNKNOWN) = w_NON_NEGATIVE))) ?_
          refine own_iconst X51 hx 148 (1 : Int32) (hb hby at_147) rfl ?_
          refine own_goto X51 hx 152 (hb hby at_148) ?_
          exact own_retN (t := .boolean) (z := (1 : Int32)) (Q := own_Q0 Z w_ZERO w_UNKNOWN w_NON_POSITIVE w_NON_NEGATIVE S_w_ZERO S_w_UNKNOWN S_w_NON_POSITIVE S_w_NON_NEGATIVE E_w_ZERO E_w_UNKNOWN E_w_NON_POSITIVE E_w_NON_NEGATIVE F_ordinal_w_NON_POSITIVE F_ordinal_w_ZERO F_ordinal_w_NON_NEGATIVE F_ordinal_w_UNKNOWN ne_w_NON_POSITIVE_w_ZERO ne_w_NON_POSITIVE_w_NON_NEGATIVE ne_w_NON_POSITIVE_w_UNKNOWN ne_w_ZERO_w_NON_NEGATIVE ne_w_ZERO_w_UNKNOWN ne_w_NON_NEGATIVE_w_UNKNOWN v0 v1 h0 n0) X51 hx hrt (by simp) (hb hby at_152) hlk e51 ⟨rfl, N49⟩ (by decide) (by decide)
        · refine own_ifNo X49 hx 77 (hb hby at_74) (feq hc74_50).1 ?_
          refine own_iloadN X49 hx 78 (hb hby at_77) rfl ?_
          obtain ⟨_, _, ⟨T52, Lx52, kc52, nc52⟩, -, X52, ⟨Lc52, hQ52, lq52, yq52, zq52⟩, st52⟩ := Jvm.LawKit.callS X49 hx (y := (⟨"com/example/deltalog/deltalog/SignTimesPinLaw", "mayBePos", "(I)Z"⟩ : MethodName)) hown (mvT hZ (hw _ (List.mem_of_getElem? (i := 15) rfl))) (mvT hZ (hw _ (List.mem_of_getElem? (i := 16) rfl))) (mvT hZ (hw _ (List.mem_of_getElem? (i := 2) rfl))) (mvT hZ (hw _ (List.mem_of_getElem? (i := 17) rfl))) (by decide) (backOf (W := 0) (own_rm3 l Z a0 hw [] (v1 &&& (3 : Int32)) h0 n0 Z0 ) hZ (hw _ (List.mem_of_getElem? (i := 17) rfl)) (hw _ (List.mem_of_getElem? (i := 2) rfl)) (by decide) (by decide)) (g := (mkF m 78 #[.val (.int v0), .val (.int v1), .val (.int (v0 &&& (3 : Int32))), .val (.int (v1 &&& (3 : Int32))), .val (.ref (own_times (own_sign (v0 &&& (3 : Int32)) w_ZERO w_NON_NEGATIVE w_NON_POSITIVE w_UNKNOWN) (own_sign (v1 &&& (3 : Int32)) w_ZERO w_NON_NEGATIVE w_NON_POSITIVE w_UNKNOWN) w_ZERO w_NON_NEGATIVE w_NON_POSITIVE w_UNKNOWN)), .val (.int (1 : Int32)), .unset, .unset] [(.int (v1 &&& (3 : Int32)))])) rfl (by rw [hml]; rfl) (argsL := [(.int (v1 &&& (3 : Int32)))]) (rest := []) (lenOf own_pd2 rfl) rfl (by show 2 * 0 + _ ≤ _; exact Nat.le_of_eq rfl) (hb hby at_78) (fun _ _ => ⟨rfl, eh49, (by decide : 0 + 0 ≤ _), (by decide : 0 + 0 ≤ _)⟩)
          dsimp only [Pt.U, Pt.locs, Pt.cells, Pt.slots] at X52 lq52 yq52 zq52 st52 hQ52
          subst lq52 yq52 zq52
          obtain ⟨rfl, Nq52, eh52⟩ := hQ52
          have N52 := Fr.app N49 Nq52
          refine own_st (G' := T52.setTop (mkF m 81 #[.val (.int v0), .val (.int v1), .val (.int (v0 &&& (3 : Int32))), .val (.int (v1 &&& (3 : Int32))), .val (.ref (own_times (own_sign (v0 &&& (3 : Int32)) w_ZERO w_NON_NEGATIVE w_NON_POSITIVE w_UNKNOWN) (own_sign (v1 &&& (3 : Int32)) w_ZERO w_NON_NEGATIVE w_NON_POSITIVE w_UNKNOWN) w_ZERO w_NON_NEGATIVE w_NON_POSITIVE w_UNKNOWN)), .val (.int (1 : Int32)), .unset, .unset] [(.int (own_pos (v1 &&& (3 : Int32))))])) st52 ?_
          refine own_ifNo X52 hx 84 (hb hby at_81) (feq hc32_27).1 ?_
          refine own_iconst X52 hx 85 (1 : Int32) (hb hby at_84) rfl ?_
          refine own_goto X52 hx 89 (hb hby at_85) ?_
          refine own_istore X52 hx 91 #[.val (.int v0), .val (.int v1), .val (.int (v0 &&& (3 : Int32))), .val (.int (v1 &&& (3 : Int32))), .val (.ref (own_times (own_sign (v0 &&& (3 : Int32)) w_ZERO w_NON_NEGATIVE w_NON_POSITIVE w_UNKNOWN) (own_sign (v1 &&& (3 : Int32)) w_ZERO w_NON_NEGATIVE w_NON_POSITIVE w_UNKNOWN) w_ZERO w_NON_NEGATIVE w_NON_POSITIVE w_UNKNOWN)), .val (.int (1 : Int32)), .val (.int (1 : Int32)), .unset] (hb hby at_89) rfl ?_
          refine own_iload X52 hx 93 (hb hby at_91) rfl ?_
          refine own_ifNo X52 hx 96 (hb hby at_93) (feq (by decide : ¬ ((1 : Int32) = (0 : Int32)))).1 ?_
          refine own_iload X52 hx 98 (hb hby at_96) rfl ?_
          refine own_ifNo X52 hx 101 (hb hby at_98) (feq (by decide : ¬ ((1 : Int32) = (0 : Int32)))).1 ?_
          obtain ⟨T53, X53, e53, st53⟩ := getS2 X52 hx hZ hown (host := "") (Or.inl (hw _ (List.mem_of_getElem? (i := 7) rfl))) Via.refl eh52 (S_w_UNKNOWN.ext O0.2) (g := (mkF m 101 #[.val (.int v0), .val (.int v1), .val (.int (v0 &&& (3 : Int32))), .val (.int (v1 &&& (3 : Int32))), .val (.ref (own_times (own_sign (v0 &&& (3 : Int32)) w_ZERO w_NON_NEGATIVE w_NON_POSITIVE w_UNKNOWN) (own_sign (v1 &&& (3 : Int32)) w_ZERO w_NON_NEGATIVE w_NON_POSITIVE w_UNKNOWN) w_ZERO w_NON_NEGATIVE w_NON_POSITIVE w_UNKNOWN)), .val (.int (1 : Int32)), .val (.int (1 : Int32)), .unset] [])) rfl (hb hby at_101)
          refine own_st (G' := T53.setTop (mkF m 104 #[.val (.int v0), .val (.int v1), .val (.int (v0 &&& (3 : Int32))), .val (.int (v1 &&& (3 : Int32))), .val (.ref (own_times (own_sign (v0 &&& (3 : Int32)) w_ZERO w_NON_NEGATIVE w_NON_POSITIVE w_UNKNOWN) (own_sign (v1 &&& (3 : Int32)) w_ZERO w_NON_NEGATIVE w_NON_POSITIVE w_UNKNOWN) w_ZERO w_NON_NEGATIVE w_NON_POSITIVE w_UNKNOWN)), .val (.int (1 : Int32)), .val (.int (1 : Int32)), .unset] [(.ref w_UNKNOWN)])) st53 ?_
          refine own_astore X53 hx 106 #[.val (.int v0), .val (.int v1), .val (.int (v0 &&& (3 : Int32))), .val (.int (v1 &&& (3 : Int32))), .val (.ref (own_times (own_sign (v0 &&& (3 : Int32)) w_ZERO w_NON_NEGATIVE w_NON_POSITIVE w_UNKNOWN) (own_sign (v1 &&& (3 : Int32)) w_ZERO w_NON_NEGATIVE w_NON_POSITIVE w_UNKNOWN) w_ZERO w_NON_NEGATIVE w_NON_POSITIVE w_UNKNOWN)), .val (.int (1 : Int32)), .val (.int (1 : Int32)), .val (.ref w_UNKNOWN)] (hb hby at_104) rfl rfl ?_
          refine own_goto X53 hx 140 (hb hby at_106) ?_
          refine own_aload X53 hx 142 (hb hby at_140) rfl rfl ?_
          refine own_aload X53 hx 144 (hb hby at_142) rfl rfl ?_
          refine own_acmp X53 hx 147 true (hb hby at_144) rfl rfl (decide_eq_true (congrArg Value.ref (by
              rcases own_four v0 with h1 | h1 | h1 | h1 <;> rcases own_four v1 with h2 | h2 | h2 | h2 <;> simp only [h1, h2, own_pos, own_neg] at hc25_6 hc32_27 hc67_48 hc74_50 ⊢ <;> first | (exfalso; revert hc25_6 hc32_27 hc67_48 hc74_50; decide) | simp [own_times, own_sign, ne_w_NON_POSITIVE_w_ZERO, ne_w_NON_POSITIVE_w_NON_NEGATIVE, ne_w_NON_POSITIVE_w_UNKNOWN, ne_w_ZERO_w_NON_NEGATIVE, ne_w_ZERO_w_UNKNOWN, ne_w_NON_NEGATIVE_w_UNKNOWN, (Ne.symm ne_w_NON_POSITIVE_w_ZERO), (Ne.symm ne_w_NON_POSITIVE_w_NON_NEGATIVE), (Ne.symm ne_w_NON_POSITIVE_w_UNKNOWN), (Ne.symm ne_w_ZERO_w_NON_NEGATIVE), (Ne.symm ne_w_ZERO_w_UNKNOWN), (Ne.symm ne_w_NON_NEGATIVE_w_UNKNOWN)] : (own_times (own_sign (v0 &&& (3 : Int32)) w_ZERO w_NON_NEGATIVE w_NON_POSITIVE w_UNKNOWN) (own_sign (v1 &&& (3 : Int32)) w_ZERO w_NON_NEGATIVE w_NON_POSITIVE w_UNKNOWN) w_ZERO w_NON_NEGATIVE w_NON_POSITIVE w_UNKNOWN) = w_UNKNOWN))) ?_
          refine own_iconst X53 hx 148 (1 : Int32) (hb hby at_147) rfl ?_
          refine own_goto X53 hx 152 (hb hby at_148) ?_
          exact own_retN (t := .boolean) (z := (1 : Int32)) (Q := own_Q0 Z w_ZERO w_UNKNOWN w_NON_POSITIVE w_NON_NEGATIVE S_w_ZERO S_w_UNKNOWN S_w_NON_POSITIVE S_w_NON_NEGATIVE E_w_ZERO E_w_UNKNOWN E_w_NON_POSITIVE E_w_NON_NEGATIVE F_ordinal_w_NON_POSITIVE F_ordinal_w_ZERO F_ordinal_w_NON_NEGATIVE F_ordinal_w_UNKNOWN ne_w_NON_POSITIVE_w_ZERO ne_w_NON_POSITIVE_w_NON_NEGATIVE ne_w_NON_POSITIVE_w_UNKNOWN ne_w_ZERO_w_NON_NEGATIVE ne_w_ZERO_w_UNKNOWN ne_w_NON_NEGATIVE_w_UNKNOWN v0 v1 h0 n0) X53 hx hrt (by simp) (hb hby at_152) hlk e53 ⟨rfl, N52⟩ (by decide) (by decide)
      · refine own_ifYes X47 hx 84 (hb hby at_67) (feq hc67_48).2 ?_
        refine own_iconst X47 hx 85 (1 : Int32) (hb hby at_84) rfl ?_
        refine own_goto X47 hx 89 (hb hby at_85) ?_
        refine own_istore X47 hx 91 #[.val (.int v0), .val (.int v1), .val (.int (v0 &&& (3 : Int32))), .val (.int (v1 &&& (3 : Int32))), .val (.ref (own_times (own_sign (v0 &&& (3 : Int32)) w_ZERO w_NON_NEGATIVE w_NON_POSITIVE w_UNKNOWN) (own_sign (v1 &&& (3 : Int32)) w_ZERO w_NON_NEGATIVE w_NON_POSITIVE w_UNKNOWN) w_ZERO w_NON_NEGATIVE w_NON_POSITIVE w_UNKNOWN)), .val (.int (1 : Int32)), .val (.int (1 : Int32)), .unset] (hb hby at_89) rfl ?_
        refine own_iload X47 hx 93 (hb hby at_91) rfl ?_
        refine own_ifNo X47 hx 96 (hb hby at_93) (feq (by decide : ¬ ((1 : Int32) = (0 : Int32)))).1 ?_
        refine own_iload X47 hx 98 (hb hby at_96) rfl ?_
        refine own_ifNo X47 hx 101 (hb hby at_98) (feq (by decide : ¬ ((1 : Int32) = (0 : Int32)))).1 ?_
        obtain ⟨T54, X54, e54, st54⟩ := getS2 X47 hx hZ hown (host := "") (Or.inl (hw _ (List.mem_of_getElem? (i := 7) rfl))) Via.refl eh47 (S_w_UNKNOWN.ext O0.2) (g := (mkF m 101 #[.val (.int v0), .val (.int v1), .val (.int (v0 &&& (3 : Int32))), .val (.int (v1 &&& (3 : Int32))), .val (.ref (own_times (own_sign (v0 &&& (3 : Int32)) w_ZERO w_NON_NEGATIVE w_NON_POSITIVE w_UNKNOWN) (own_sign (v1 &&& (3 : Int32)) w_ZERO w_NON_NEGATIVE w_NON_POSITIVE w_UNKNOWN) w_ZERO w_NON_NEGATIVE w_NON_POSITIVE w_UNKNOWN)), .val (.int (1 : Int32)), .val (.int (1 : Int32)), .unset] [])) rfl (hb hby at_101)
        refine own_st (G' := T54.setTop (mkF m 104 #[.val (.int v0), .val (.int v1), .val (.int (v0 &&& (3 : Int32))), .val (.int (v1 &&& (3 : Int32))), .val (.ref (own_times (own_sign (v0 &&& (3 : Int32)) w_ZERO w_NON_NEGATIVE w_NON_POSITIVE w_UNKNOWN) (own_sign (v1 &&& (3 : Int32)) w_ZERO w_NON_NEGATIVE w_NON_POSITIVE w_UNKNOWN) w_ZERO w_NON_NEGATIVE w_NON_POSITIVE w_UNKNOWN)), .val (.int (1 : Int32)), .val (.int (1 : Int32)), .unset] [(.ref w_UNKNOWN)])) st54 ?_
        refine own_astore X54 hx 106 #[.val (.int v0), .val (.int v1), .val (.int (v0 &&& (3 : Int32))), .val (.int (v1 &&& (3 : Int32))), .val (.ref (own_times (own_sign (v0 &&& (3 : Int32)) w_ZERO w_NON_NEGATIVE w_NON_POSITIVE w_UNKNOWN) (own_sign (v1 &&& (3 : Int32)) w_ZERO w_NON_NEGATIVE w_NON_POSITIVE w_UNKNOWN) w_ZERO w_NON_NEGATIVE w_NON_POSITIVE w_UNKNOWN)), .val (.int (1 : Int32)), .val (.int (1 : Int32)), .val (.ref w_UNKNOWN)] (hb hby at_104) rfl rfl ?_
        refine own_goto X54 hx 140 (hb hby at_106) ?_
        refine own_aload X54 hx 142 (hb hby at_140) rfl rfl ?_
        refine own_aload X54 hx 144 (hb hby at_142) rfl rfl ?_
        refine own_acmp X54 hx 147 true (hb hby at_144) rfl rfl (decide_eq_true (congrArg Value.ref (by
            rcases own_four v0 with h1 | h1 | h1 | h1 <;> rcases own_four v1 with h2 | h2 | h2 | h2 <;> simp only [h1, h2, own_pos, own_neg] at hc25_6 hc32_27 hc67_48 ⊢ <;> first | (exfalso; revert hc25_6 hc32_27 hc67_48; decide) | simp [own_times, own_sign, ne_w_NON_POSITIVE_w_ZERO, ne_w_NON_POSITIVE_w_NON_NEGATIVE, ne_w_NON_POSITIVE_w_UNKNOWN, ne_w_ZERO_w_NON_NEGATIVE, ne_w_ZERO_w_UNKNOWN, ne_w_NON_NEGATIVE_w_UNKNOWN, (Ne.symm ne_w_NON_POSITIVE_w_ZERO), (Ne.symm ne_w_NON_POSITIVE_w_NON_NEGATIVE), (Ne.symm ne_w_NON_POSITIVE_w_UNKNOWN), (Ne.symm ne_w_ZERO_w_NON_NEGATIVE), (Ne.symm ne_w_ZERO_w_UNKNOWN), (Ne.symm ne_w_NON_NEGATIVE_w_UNKNOWN)] : (own_times (own_sign (v0 &&& (3 : Int32)) w_ZERO w_NON_NEGATIVE w_NON_POSITIVE w_UNKNOWN) (own_sign (v1 &&& (3 : Int32)) w_ZERO w_NON_NEGATIVE w_NON_POSITIVE w_UNKNOWN) w_ZERO w_NON_NEGATIVE w_NON_POSITIVE w_UNKNOWN) = w_UNKNOWN))) ?_
        refine own_iconst X54 hx 148 (1 : Int32) (hb hby at_147) rfl ?_
        refine own_goto X54 hx 152 (hb hby at_148) ?_
        exact own_retN (t := .boolean) (z := (1 : Int32)) (Q := own_Q0 Z w_ZERO w_UNKNOWN w_NON_POSITIVE w_NON_NEGATIVE S_w_ZERO S_w_UNKNOWN S_w_NON_POSITIVE S_w_NON_NEGATIVE E_w_ZERO E_w_UNKNOWN E_w_NON_POSITIVE E_w_NON_NEGATIVE F_ordinal_w_NON_POSITIVE F_ordinal_w_ZERO F_ordinal_w_NON_NEGATIVE F_ordinal_w_UNKNOWN ne_w_NON_POSITIVE_w_ZERO ne_w_NON_POSITIVE_w_NON_NEGATIVE ne_w_NON_POSITIVE_w_UNKNOWN ne_w_ZERO_w_NON_NEGATIVE ne_w_ZERO_w_UNKNOWN ne_w_NON_NEGATIVE_w_UNKNOWN v0 v1 h0 n0) X54 hx hrt (by simp) (hb hby at_152) hlk e54 ⟨rfl, N47⟩ (by decide) (by decide)
set_option maxRecDepth 65536 in
set_option maxHeartbeats 40000000 in
theorem own_comes {Post : Tables → Env → Array Value → State → Outcome → State → Prop} (hpost : ∀ tb e args s v u, (limb_1_1.after args s (.returned v) u = true ∧ limb_1_2.after args s (.returned v) u = true ∧ True) → FrameEnd s (.returned v) u (Jvm.fieldLocs frame_1_writes args s ++ Jvm.arrayLocs frame_1_arrays args s ++ Jvm.staticLocs frame_1_statics s) 0 0 → Post tb e args s (.returned v) u) :
    ArmFor flags0 classFile x code maxLocals ret World_1 tables_1 room_1 Calls_1 rest_1 Pre_1 Post := by
  intro l hfl _ _ p e ha hc hk s m args below hf hA hF happ hP
  obtain ⟨hcalls, hrest, hpre⟩ := hP
  obtain ⟨-, -, -, hnamed, -, -, -, hat⟩ := (Spec.applies_iff hf).mp happ
  obtain ⟨hg, hn⟩ := and_e (Cond.before_iff.mp (show (Jvm.Cond.and given_1 narrow_1).before args s = true from hpre))
  obtain ⟨g1, g2⟩ := and_e hg
  obtain ⟨g3, g4⟩ := and_e g2
  obtain ⟨w0, w1, rfl⟩ : ∃ w0 w1 : Value, args = #[w0, w1] := by
    have hs : args.size = 2 := by simpa [Cond.value, given_1] using g1
    obtain ⟨L⟩ := args
    match L, hs with
    | [w0, w1], _ => exact ⟨w0, w1, rfl⟩
  have hw := fun d (hd : d ∈ tables_1) => atoms_spec (ws := Jvm.Cond.code x code maxLocals ret :: tables_1) hat d (List.mem_cons_of_mem _ hd)
  have hfit : Fit s := fun {y c} hc i hi => by
    obtain ⟨ha, rfl⟩ := Array.getElem?_eq_some_iff.mp hc
    have q := List.all_eq_true.mp ((Array.all_eq_true_iff_forall_mem.mp hF) _ (Array.getElem_mem ha)) i (List.mem_range.mpr hi)
    simpa [Array.getElem?_eq_getElem hi] using q
  obtain ⟨i0, ei0⟩ := is_v g3
  obtain rfl : w0 = (.int i0) := Option.some.inj ei0
  obtain ⟨i1, ei1⟩ := is_v g4
  obtain rfl : w1 = (.int i1) := Option.some.inj ei1
  obtain ⟨j1a, j1b⟩ := and_e hn
  obtain ⟨j2a, j2b⟩ := and_e j1b
  obtain ⟨j3a, j3b⟩ := and_e j2b
  obtain ⟨j4a, j4b⟩ := and_e j3b
  obtain ⟨j5a, j5b⟩ := and_e j4b
  obtain ⟨j6a, j6b⟩ := and_e j5b
  obtain ⟨j7a, j7b⟩ := and_e j6b
  obtain ⟨w_ZERO, ev_w_ZERO, S_w_ZERO, E_w_ZERO⟩ := own_sta j1a (Or.inr ⟨(hw _ (List.mem_of_getElem? (i := 5) rfl)), (hw _ (List.mem_of_getElem? (i := 6) rfl))⟩)
  obtain ⟨w_UNKNOWN, ev_w_UNKNOWN, S_w_UNKNOWN, E_w_UNKNOWN⟩ := own_sta j2a (Or.inr ⟨(hw _ (List.mem_of_getElem? (i := 5) rfl)), (hw _ (List.mem_of_getElem? (i := 8) rfl))⟩)
  obtain ⟨w_NON_POSITIVE, ev_w_NON_POSITIVE, S_w_NON_POSITIVE, E_w_NON_POSITIVE⟩ := own_sta j3a (Or.inr ⟨(hw _ (List.mem_of_getElem? (i := 5) rfl)), (hw _ (List.mem_of_getElem? (i := 22) rfl))⟩)
  obtain ⟨w_NON_NEGATIVE, ev_w_NON_NEGATIVE, S_w_NON_NEGATIVE, E_w_NON_NEGATIVE⟩ := own_sta j4a (Or.inr ⟨(hw _ (List.mem_of_getElem? (i := 5) rfl)), (hw _ (List.mem_of_getElem? (i := 24) rfl))⟩)
  have F_ordinal_w_NON_POSITIVE := own_fldI ev_w_NON_POSITIVE j5a
  have F_ordinal_w_ZERO := own_fldI ev_w_ZERO j6a
  have F_ordinal_w_NON_NEGATIVE := own_fldI ev_w_NON_NEGATIVE j7a
  have F_ordinal_w_UNKNOWN := own_fldI ev_w_UNKNOWN j7b
  have ne_w_NON_POSITIVE_w_ZERO : w_NON_POSITIVE ≠ w_ZERO := Fld.ne F_ordinal_w_NON_POSITIVE F_ordinal_w_ZERO (by decide)
  have ne_w_NON_POSITIVE_w_NON_NEGATIVE : w_NON_POSITIVE ≠ w_NON_NEGATIVE := Fld.ne F_ordinal_w_NON_POSITIVE F_ordinal_w_NON_NEGATIVE (by decide)
  have ne_w_NON_POSITIVE_w_UNKNOWN : w_NON_POSITIVE ≠ w_UNKNOWN := Fld.ne F_ordinal_w_NON_POSITIVE F_ordinal_w_UNKNOWN (by decide)
  have ne_w_ZERO_w_NON_NEGATIVE : w_ZERO ≠ w_NON_NEGATIVE := Fld.ne F_ordinal_w_ZERO F_ordinal_w_NON_NEGATIVE (by decide)
  have ne_w_ZERO_w_UNKNOWN : w_ZERO ≠ w_UNKNOWN := Fld.ne F_ordinal_w_ZERO F_ordinal_w_UNKNOWN (by decide)
  have ne_w_NON_NEGATIVE_w_UNKNOWN : w_NON_NEGATIVE ≠ w_UNKNOWN := Fld.ne F_ordinal_w_NON_NEGATIVE F_ordinal_w_UNKNOWN (by decide)
  obtain ⟨n, o, h1, h2, h3, _, L, rfl, ⟨rfl, N⟩, hq⟩ := own_rm0 l s _ hw tables_1 w_ZERO w_UNKNOWN w_NON_POSITIVE w_NON_NEGATIVE S_w_ZERO S_w_UNKNOWN S_w_NON_POSITIVE S_w_NON_NEGATIVE E_w_ZERO E_w_UNKNOWN E_w_NON_POSITIVE E_w_NON_NEGATIVE F_ordinal_w_NON_POSITIVE F_ordinal_w_ZERO F_ordinal_w_NON_NEGATIVE F_ordinal_w_UNKNOWN ne_w_NON_POSITIVE_w_ZERO ne_w_NON_POSITIVE_w_NON_NEGATIVE ne_w_NON_POSITIVE_w_UNKNOWN ne_w_ZERO_w_NON_NEGATIVE ne_w_ZERO_w_UNKNOWN ne_w_NON_NEGATIVE_w_UNKNOWN i0 i1 s.heap s.heap.size (Nat.le_refl _) (Old.start s) p e ha hc hk s m _ below hf ((Spec.applies_iff_loose hf).mp happ).1 ⟨rfl, State.Warmed39.refl s, rfl⟩ trivial
  refine ⟨n, _, h1, h2, h3, hpost _ _ _ _ _ _ ⟨Cond.after_iff.mpr rfl, Cond.after_iff.mpr (eq_i res_at (Term.int_eval (1)) rfl), trivial⟩ ⟨hq.1, hq.2.1, (hq.2.2.sift fun y hy => Or.inr (N y hy)).mono (by decide) (by decide)⟩⟩
theorem main_1_1 : Claimed_1_1 := own_comes fun _ _ _ _ _ _ h hF => ⟨h.1, hF⟩
theorem main_1_2 : Claimed_1_2 := own_comes fun _ _ _ _ _ _ h hF => ⟨h.2.1, hF⟩
end Jvm.Pilot.@@N@@
namespace Jvm.Pilot.@@N@@
open Jvm Jvm.ClassFile Sem Op Lib Jvm.Free Jvm.Stand Jvm.Pilot.@@N@@.Jvm.D
/-! MADE BY PROGRAM (witnessworld.py) out of the Statement's table words and the real class files: 12 classes; the members and pool entries that the words name. The judged class is class 1, her method 4. -/
namespace start1
open Jvm.ClassFile
def u (s : String) : CpInfo := .utf8 (stringToUtf16 s)
/-- a pool by its gaps: so many unusable entries, then the entry; so many at the end -/
def gap : Nat → List CpInfo → List CpInfo
  | 0, r => r
  | n + 1, r => .unusable :: gap n r
def poolList (es : List (Nat × CpInfo)) (last : Nat) : List CpInfo := es.foldr (fun e r => gap e.1 (e.2 :: r)) (gap last [])
def pool (es : List (Nat × CpInfo)) (last : Nat) : Array CpInfo := ⟨poolList es last⟩
def fileOf (pool : Array CpInfo) (this : Nat) (attrs : Array Attribute := #[]) (ms : Array MethodInfo := #[]) (fl : Nat := 33) (sup : Nat := 0) (ifs : Array Nat := #[]) (fds : Array FieldInfo := #[]) : ClassFile where
  minorVersion := 0
  majorVersion := 65
  constantPool := pool
  accessFlags := fl
  thisClass := this
  superClass := sup
  interfaces := ifs
  fields := fds
  methods := ms
  attributes := attrs
def plain (name : String) (sup : Option ClassId) : Class where
  name := name
  kind := .ordinary
  loader := none
  accessFlags := 33
  super := sup
  interfaces := #[]
  cf := none
  fields := #[]
  methods := #[]
  instanceTypes := #[]
  staticTypes := #[]
  resolved := #[]
  callSites := []
  init := .initialized
  statics := none
  mirror := none

def pool0 : Array CpInfo := pool [(5, u "<init>"), (0, u "()V"), (1, .class_ 10), (1, u "java/lang/Object")] 113

def k0m0 : Method := { name := "<init>", desc := "()V", sig := { parameters := [], returnType := none }, accessFlags := 1, code := none }
/-- java/lang/Object -/
def k0 : Class := { plain "java/lang/Object" none with
  accessFlags := 33
  interfaces := #[]
  cf := some (fileOf pool0 8 #[] #[{ accessFlags := 1, nameIndex := 5, descriptorIndex := 6, attributes := #[] }] 33 0 #[] #[])
  fields := #[]
  methods := #[k0m0]
  instanceTypes := #[]
  staticTypes := #[]
  resolved := Array.replicate 124 none
  statics := none }

def pool1 : Array CpInfo := pool [(2, .class_ 4), (1, u "java/lang/Object"), (0, u "<init>"), (0, u "()V"), (0, .fieldref 8 9), (0, .class_ 10), (0, .nameAndType 11 12), (0, u "com/example/deltalog/deltalog/Sign"), (0, u "ZERO"), (0, u "Lcom/example/deltalog/deltalog/Sign;"), (0, .fieldref 8 14), (0, .nameAndType 15 12), (0, u "NON_NEGATIVE"), (0, .fieldref 8 17), (0, .nameAndType 18 12), (0, u "NON_POSITIVE"), (0, .fieldref 8 20), (0, .nameAndType 21 12), (0, u "UNKNOWN"), (0, .methodref 23 24), (0, .class_ 25), (0, .nameAndType 26 27), (0, u "com/example/deltalog/deltalog/SignTimesPinLaw"), (0, u "sign"), (0, u "(I)Lcom/example/deltalog/deltalog/Sign;"), (0, .methodref 8 29), (0, .nameAndType 30 31), (0, u "times"), (0, u "(Lcom/example/deltalog/deltalog/Sign;)Lcom/example/deltalog/deltalog/Sign;"), (0, .methodref 23 33), (0, .nameAndType 34 35), (0, u "mayBePos"), (0, u "(I)Z"), (0, .methodref 23 37), (0, .nameAndType 38 35), (0, u "mayBeNeg"), (3, u "law"), (0, u "(II)Z")] 2

def k1m0 : Method := { name := "<init>", desc := "()V", sig := { parameters := [], returnType := none }, accessFlags := 1, code := none }
def k1c1 : Code := { maxStack := 2, maxLocals := 1, code := method_2_code, exceptionTable := #[], attributes := #[] }
def k1m1 : Method := { name := "sign", desc := "(I)Lcom/example/deltalog/deltalog/Sign;", sig := { parameters := [.int], returnType := some (.object "com/example/deltalog/deltalog/Sign") }, accessFlags := 10, code := some k1c1 }
def k1c2 : Code := { maxStack := 2, maxLocals := 1, code := method_3_code, exceptionTable := #[], attributes := #[] }
def k1m2 : Method := { name := "mayBePos", desc := "(I)Z", sig := { parameters := [.int], returnType := some .boolean }, accessFlags := 10, code := some k1c2 }
def k1c3 : Code := { maxStack := 2, maxLocals := 1, code := method_4_code, exceptionTable := #[], attributes := #[] }
def k1m3 : Method := { name := "mayBeNeg", desc := "(I)Z", sig := { parameters := [.int], returnType := some .boolean }, accessFlags := 10, code := some k1c3 }
def k1c4 : Code := { maxStack := 2, maxLocals := 8, code := code, exceptionTable := #[], attributes := #[] }
def k1m4 : Method := { name := "law", desc := "(II)Z", sig := { parameters := [.int, .int], returnType := some .boolean }, accessFlags := 9, code := some k1c4 }
/-- com/example/deltalog/deltalog/SignTimesPinLaw -/
def k1 : Class := { plain "com/example/deltalog/deltalog/SignTimesPinLaw" (some 0) with
  accessFlags := 49
  interfaces := #[]
  cf := some (fileOf pool1 23 #[] #[{ accessFlags := 1, nameIndex := 5, descriptorIndex := 6, attributes := #[] }, { accessFlags := 10, nameIndex := 26, descriptorIndex := 27, attributes := #[] }, { accessFlags := 10, nameIndex := 34, descriptorIndex := 35, attributes := #[] }, { accessFlags := 10, nameIndex := 38, descriptorIndex := 35, attributes := #[] }, { accessFlags := 9, nameIndex := 42, descriptorIndex := 43, attributes := #[] }] 49 2 #[] #[])
  fields := #[]
  methods := #[k1m0, k1m1, k1m2, k1m3, k1m4]
  instanceTypes := #[]
  staticTypes := #[]
  resolved := Array.replicate 46 none
  statics := none }

def pool2 : Array CpInfo := pool [(1, .class_ 2), (0, u "java/lang/constant/Constable"), (0, .class_ 4), (0, u "java/lang/Object")] 6

/-- java/lang/constant/Constable -/
def k2 : Class := { plain "java/lang/constant/Constable" (some 0) with
  accessFlags := 1537
  interfaces := #[]
  cf := some (fileOf pool2 1 #[] #[] 1537 3 #[] #[])
  fields := #[]
  methods := #[]
  instanceTypes := #[]
  staticTypes := #[]
  resolved := Array.replicate 11 none
  statics := none }

def pool3 : Array CpInfo := pool [(1, .class_ 2), (0, u "java/lang/Comparable"), (0, .class_ 4), (0, u "java/lang/Object")] 7

/-- java/lang/Comparable -/
def k3 : Class := { plain "java/lang/Comparable" (some 0) with
  accessFlags := 1537
  interfaces := #[]
  cf := some (fileOf pool3 1 #[] #[] 1537 3 #[] #[])
  fields := #[]
  methods := #[]
  instanceTypes := #[]
  staticTypes := #[]
  resolved := Array.replicate 12 none
  statics := none }

def pool4 : Array CpInfo := pool [(1, .class_ 2), (0, u "java/io/Serializable"), (0, .class_ 4), (0, u "java/lang/Object")] 2

/-- java/io/Serializable -/
def k4 : Class := { plain "java/io/Serializable" (some 0) with
  accessFlags := 1537
  interfaces := #[]
  cf := some (fileOf pool4 1 #[] #[] 1537 3 #[] #[])
  fields := #[]
  methods := #[]
  instanceTypes := #[]
  staticTypes := #[]
  resolved := Array.replicate 7 none
  statics := none }

def pool5 : Array CpInfo := pool [(2, .class_ 4), (1, u "java/lang/Enum"), (0, u "name"), (0, u "Ljava/lang/String;"), (2, u "ordinal"), (0, u "I"), (1, .class_ 14), (1, u "java/lang/Object"), (4, u "hash"), (86, .class_ 108), (1, u "java/lang/Enum$EnumDesc"), (2, .class_ 112), (0, u "java/lang/constant/Constable"), (0, .class_ 114), (0, u "java/lang/Comparable"), (0, .class_ 116), (0, u "java/io/Serializable")] 87

/-- java/lang/Enum -/
def k5 : Class := { plain "java/lang/Enum" (some 0) with
  accessFlags := 1057
  interfaces := #[2, 3, 4]
  cf := some (fileOf pool5 2 #[.nestMembers #[106]] #[] 1057 12 #[111, 113, 115] #[{ accessFlags := 18, nameIndex := 5, descriptorIndex := 6, attributes := #[] }, { accessFlags := 18, nameIndex := 9, descriptorIndex := 10, attributes := #[] }, { accessFlags := 2, nameIndex := 19, descriptorIndex := 10, attributes := #[] }])
  fields := #[{ name := "name", type := (.object "java/lang/String"), accessFlags := 18, slot := 0, constantValue := 0 }, { name := "ordinal", type := .int, accessFlags := 18, slot := 1, constantValue := 0 }, { name := "hash", type := .int, accessFlags := 2, slot := 2, constantValue := 0 }]
  methods := #[]
  instanceTypes := #[(.object "java/lang/String"), .int, .int]
  staticTypes := #[]
  resolved := Array.replicate 204 none
  statics := none }

def pool6 : Array CpInfo := pool [(1, .class_ 2), (0, u "com/example/deltalog/deltalog/Sign"), (0, .fieldref 1 4), (0, .nameAndType 5 6), (0, u "ZERO"), (0, u "Lcom/example/deltalog/deltalog/Sign;"), (0, .fieldref 1 8), (0, .nameAndType 9 6), (0, u "NON_NEGATIVE"), (0, .fieldref 1 11), (0, .nameAndType 12 6), (0, u "NON_POSITIVE"), (0, .fieldref 1 14), (0, .nameAndType 15 6), (0, u "UNKNOWN"), (2, u "$VALUES"), (0, u "[Lcom/example/deltalog/deltalog/Sign;"), (6, .class_ 28), (1, u "java/lang/Enum"), (37, u "(Lcom/example/deltalog/deltalog/Sign;)Lcom/example/deltalog/deltalog/Sign;"), (0, u "times")] 5

def k6c0 : Code := { maxStack := 2, maxLocals := 3, code := prog_109_method_7_code, exceptionTable := #[], attributes := #[] }
def k6m0 : Method := { name := "times", desc := "(Lcom/example/deltalog/deltalog/Sign;)Lcom/example/deltalog/deltalog/Sign;", sig := { parameters := [(.object "com/example/deltalog/deltalog/Sign")], returnType := some (.object "com/example/deltalog/deltalog/Sign") }, accessFlags := 0, code := some k6c0 }
/-- com/example/deltalog/deltalog/Sign -/
def k6 : Class := { plain "com/example/deltalog/deltalog/Sign" (some 5) with
  accessFlags := 16432
  interfaces := #[]
  cf := some (fileOf pool6 1 #[] #[{ accessFlags := 0, nameIndex := 67, descriptorIndex := 66, attributes := #[] }] 16432 26 #[] #[{ accessFlags := 16409, nameIndex := 5, descriptorIndex := 6, attributes := #[] }, { accessFlags := 16409, nameIndex := 9, descriptorIndex := 6, attributes := #[] }, { accessFlags := 16409, nameIndex := 12, descriptorIndex := 6, attributes := #[] }, { accessFlags := 16409, nameIndex := 15, descriptorIndex := 6, attributes := #[] }, { accessFlags := 4122, nameIndex := 18, descriptorIndex := 19, attributes := #[] }])
  fields := #[{ name := "ZERO", type := (.object "com/example/deltalog/deltalog/Sign"), accessFlags := 16409, slot := 0, constantValue := 0 }, { name := "NON_NEGATIVE", type := (.object "com/example/deltalog/deltalog/Sign"), accessFlags := 16409, slot := 1, constantValue := 0 }, { name := "NON_POSITIVE", type := (.object "com/example/deltalog/deltalog/Sign"), accessFlags := 16409, slot := 2, constantValue := 0 }, { name := "UNKNOWN", type := (.object "com/example/deltalog/deltalog/Sign"), accessFlags := 16409, slot := 3, constantValue := 0 }, { name := "$VALUES", type := (.array (.object "com/example/deltalog/deltalog/Sign")), accessFlags := 4122, slot := 4, constantValue := 0 }]
  methods := #[k6m0]
  instanceTypes := #[(.object "java/lang/String"), .int, .int]
  staticTypes := #[(.object "com/example/deltalog/deltalog/Sign"), (.object "com/example/deltalog/deltalog/Sign"), (.object "com/example/deltalog/deltalog/Sign"), (.object "com/example/deltalog/deltalog/Sign"), (.array (.object "com/example/deltalog/deltalog/Sign"))]
  resolved := Array.replicate 73 none
  statics := some 0 }

def pool7 : Array CpInfo := pool [(1, u "java/lang/Cloneable"), (0, .class_ 1), (0, u "java/lang/Object"), (0, .class_ 3)] 3

/-- java/lang/Cloneable -/
def k7 : Class := { plain "java/lang/Cloneable" (some 0) with
  accessFlags := 1537
  interfaces := #[]
  cf := some (fileOf pool7 2 #[] #[] 1537 4 #[] #[])
  fields := #[]
  methods := #[]
  instanceTypes := #[]
  staticTypes := #[]
  resolved := Array.replicate 8 none
  statics := none }

/-- the primitive byte -/
def k8 : Class := { plain "byte" none with kind := .primitive 'B', accessFlags := 0x411 }
/-- [B -/
def k9 : Class := { plain "[B" (some 0) with kind := .array 8 .byte, interfaces := #[7, 4], accessFlags := 1041 }

/-- the primitive int -/
def k10 : Class := { plain "int" none with kind := .primitive 'I', accessFlags := 0x411 }
/-- [I -/
def k11 : Class := { plain "[I" (some 0) with kind := .array 10 .int, interfaces := #[7, 4], accessFlags := 1041 }

def heap : Heap := #[{ cls := 6, slots := #[.ref 1, .ref 2, .ref 3, .ref 4, .null], vm := .statics 6 },
  { cls := 6, slots := #[.null, .int 0, .int 0], vm := .none },
  { cls := 6, slots := #[.null, .int 1, .int 0], vm := .none },
  { cls := 6, slots := #[.null, .int 2, .int 0], vm := .none },
  { cls := 6, slots := #[.null, .int 3, .int 0], vm := .none }]
def classes : Array Class := #[k0, k1, k2, k3, k4, k5, k6, k7, k8, k9, k10, k11]
def interned : List (Array UInt16 × Addr) := []
def slotsUsed : Nat := 17
def theMethod : MethodId := ⟨1, 4⟩
def args0 : Array Value := #[.int 5, .int 6]
def aboutOver (below : List Frame) : State where
  vm := { classes := classes, interned := interned.toArray }
  heap := heap
  slotsUsed := slotsUsed
  threads := #[{ frames := .invoking theMethod args0 :: below }]
def below0 : List Frame := [.native { method := ⟨0, 0⟩, args := #[] }]
def about1 : State := aboutOver below0
def p0 : Program := .bare "" "" ""
def e0 : Env := launch0.env 0 0 0
theorem w_frames : about1.frames = Frame.invoking theMethod args0 :: below0 := rfl
set_option maxRecDepth 65536 in
theorem w_args : argsFit about1.vm theMethod args0 = true := by decide +kernel
set_option maxRecDepth 65536 in
theorem w_heap : heapFits about1 = true := by decide +kernel
set_option maxRecDepth 65536 in
theorem w_runnable : about1.curStatus? = some .runnable := by decide +kernel
set_option maxRecDepth 65536 in
theorem w_alone : about1.alone = true := by decide +kernel
set_option maxRecDepth 65536 in
theorem w_named : about1.methodNamed? x = some theMethod := by decide +kernel
set_option maxRecDepth 65536 in
theorem w_hears : about1.hears theMethod below0 = true := by decide +kernel
set_option maxRecDepth 65536 in
theorem w_ripe : about1.ripe theMethod args0 below0 = true := by decide +kernel
theorem w_running : about1.status = .running := rfl
set_option maxRecDepth 65536 in
theorem w_room : about1.hasRoom e0.platform room_1 = true :=
  launch0.hasRoom_least _ room_1 (by decide +kernel) (by decide +kernel) (by decide +kernel) (by decide +kernel) (by decide +kernel) (by decide +kernel)
theorem allAtoms_all (ts : List Jvm.Cond) (a : Array Jvm.Value) (st : Jvm.State) : (allAtoms ts).before a st = ts.all (fun c => c.before a st) := by
  induction ts with
  | nil => rfl
  | cons c t ih =>
    show (Jvm.Cond.and c (allAtoms t)).before a st = _
    rw [Jvm.Cond.before_and, ih, List.all_cons]
def words1 : List Jvm.Cond := Jvm.Cond.code x code maxLocals ret :: tables_1
/-- a 'code' word, met by the world's own term for the bytes: nothing is compared byte by byte -/
theorem code_word {y : MethodName} {bytes : ByteArray} {mx : Nat} {rt : Option FieldType} {a : Array Value} {s : State} {m : MethodId} {meth : Method} {c : Code} (h1 : s.methodNamed? y = some m) (h2 : s.vm.method? m = some meth) (h3 : meth.code = some c) (h4 : c.code = bytes)
    (h5 : (c.maxLocals == mx && c.exceptionTable.isEmpty && decide (c.maxStack ≤ mostOperands) && decide (meth.sig.returnType = rt) && !meth.locks && decide (parseMethodDescriptor y.desc = some meth.sig)) = true) : (Jvm.Cond.code y bytes mx rt).before a s = true := by
  simp only [Bool.and_eq_true, beq_iff_eq, Bool.not_eq_true', decide_eq_true_eq] at h5
  obtain ⟨⟨⟨⟨⟨g1, g2⟩, g3⟩, g4⟩, g5⟩, g6⟩ := h5
  simp [Cond.before, Cond.holds, Cond.value, h1, h2, h3, h4, g1, g2, g3, g4, g5, g6]
def isCode : Jvm.Cond → Bool
  | .code _ _ _ _ => true
  | _ => false
theorem all_split {L : List Jvm.Cond} {P : Jvm.Cond → Bool} (h1 : L.all (fun c => isCode c || P c) = true) (h2 : ∀ c ∈ L.filter isCode, P c = true) : L.all P = true := by
  refine List.all_eq_true.mpr fun c hc => ?_
  have h := List.all_eq_true.mp h1 c hc
  rcases Bool.eq_false_or_eq_true (isCode c) with hi | hi
  · exact h2 c (List.mem_filter.mpr ⟨hc, hi⟩)
  · simpa [hi] using h
set_option maxRecDepth 65536 in
theorem w_c0 : (Jvm.Cond.code x code maxLocals ret).before args0 about1 = true := code_word (m := ⟨1, 4⟩) (meth := k1m4) (c := k1c4) (by decide +kernel) rfl rfl rfl (by decide +kernel)
set_option maxRecDepth 65536 in
theorem w_c1 : (Jvm.Cond.code ({ cls := "com/example/deltalog/deltalog/SignTimesPinLaw", name := "sign", desc := "(I)Lcom/example/deltalog/deltalog/Sign;" } : Jvm.MethodName) method_2_code (1 : Nat) (Option.some (Jvm.ClassFile.FieldType.object "com/example/deltalog/deltalog/Sign"))).before args0 about1 = true := code_word (m := ⟨1, 1⟩) (meth := k1m1) (c := k1c1) (by decide +kernel) rfl rfl rfl (by decide +kernel)
set_option maxRecDepth 65536 in
theorem w_c2 : (Jvm.Cond.code ({ cls := "com/example/deltalog/deltalog/Sign", name := "times", desc := "(Lcom/example/deltalog/deltalog/Sign;)Lcom/example/deltalog/deltalog/Sign;" } : Jvm.MethodName) prog_109_method_7_code (3 : Nat) (Option.some (Jvm.ClassFile.FieldType.object "com/example/deltalog/deltalog/Sign"))).before args0 about1 = true := code_word (m := ⟨6, 0⟩) (meth := k6m0) (c := k6c0) (by decide +kernel) rfl rfl rfl (by decide +kernel)
set_option maxRecDepth 65536 in
theorem w_c3 : (Jvm.Cond.code ({ cls := "com/example/deltalog/deltalog/SignTimesPinLaw", name := "mayBePos", desc := "(I)Z" } : Jvm.MethodName) method_3_code (1 : Nat) (Option.some Jvm.ClassFile.FieldType.boolean)).before args0 about1 = true := code_word (m := ⟨1, 2⟩) (meth := k1m2) (c := k1c2) (by decide +kernel) rfl rfl rfl (by decide +kernel)
set_option maxRecDepth 65536 in
theorem w_c4 : (Jvm.Cond.code ({ cls := "com/example/deltalog/deltalog/SignTimesPinLaw", name := "mayBeNeg", desc := "(I)Z" } : Jvm.MethodName) method_4_code (1 : Nat) (Option.some Jvm.ClassFile.FieldType.boolean)).before args0 about1 = true := code_word (m := ⟨1, 3⟩) (meth := k1m3) (c := k1c3) (by decide +kernel) rfl rfl rfl (by decide +kernel)
def codes1 : List Jvm.Cond := [Jvm.Cond.code x code maxLocals ret, Jvm.Cond.code ({ cls := "com/example/deltalog/deltalog/SignTimesPinLaw", name := "sign", desc := "(I)Lcom/example/deltalog/deltalog/Sign;" } : Jvm.MethodName) method_2_code (1 : Nat) (Option.some (Jvm.ClassFile.FieldType.object "com/example/deltalog/deltalog/Sign")), Jvm.Cond.code ({ cls := "com/example/deltalog/deltalog/Sign", name := "times", desc := "(Lcom/example/deltalog/deltalog/Sign;)Lcom/example/deltalog/deltalog/Sign;" } : Jvm.MethodName) prog_109_method_7_code (3 : Nat) (Option.some (Jvm.ClassFile.FieldType.object "com/example/deltalog/deltalog/Sign")), Jvm.Cond.code ({ cls := "com/example/deltalog/deltalog/SignTimesPinLaw", name := "mayBePos", desc := "(I)Z" } : Jvm.MethodName) method_3_code (1 : Nat) (Option.some Jvm.ClassFile.FieldType.boolean), Jvm.Cond.code ({ cls := "com/example/deltalog/deltalog/SignTimesPinLaw", name := "mayBeNeg", desc := "(I)Z" } : Jvm.MethodName) method_4_code (1 : Nat) (Option.some Jvm.ClassFile.FieldType.boolean)]
set_option maxRecDepth 65536 in
theorem codes_eq : words1.filter isCode = codes1 := rfl
theorem w_codes : ∀ c ∈ words1.filter isCode, c.before args0 about1 = true := by
  rw [codes_eq]
  intro c hc
  simp only [codes1, List.mem_cons, List.not_mem_nil, or_false] at hc
  rcases hc with rfl | rfl | rfl | rfl | rfl
  · exact w_c0
  · exact w_c1
  · exact w_c2
  · exact w_c3
  · exact w_c4
set_option maxRecDepth 65536 in
theorem w_t1 : (words1.take 24).all (fun c => isCode c || c.before args0 about1) = true := by decide +kernel
set_option maxRecDepth 65536 in
theorem w_t2 : (words1.drop 24).all (fun c => isCode c || c.before args0 about1) = true := by decide +kernel
theorem w_tables : (allAtoms (Jvm.Cond.code x code maxLocals ret :: tables_1)).before args0 about1 = true := by
  rw [allAtoms_all]
  show words1.all (fun c => c.before args0 about1) = true
  refine all_split ?_ w_codes
  rw [← List.take_append_drop 24 words1, List.all_append, w_t1, w_t2]
  rfl
set_option maxRecDepth 65536 in
theorem w_case : (Jvm.Cond.and given_1 narrow_1).before args0 about1 = true := by decide +kernel
theorem w_applies : (headSpec (Jvm.Cond.code x code maxLocals ret :: tables_1) room_1).applies x e0.platform about1 = true :=
  (Spec.applies_iff w_frames).mpr ⟨w_running, w_runnable, w_alone, w_named, w_hears, w_ripe, w_room, w_tables⟩
theorem atStart : AtStart classFile x code maxLocals ret World_1 tables_1 room_1 Calls_1 rest_1 Pre_1 launch0 p0 e0 about1 theMethod args0 below0 :=
  ⟨lists_1, trivial, launch0.admits_env _ _ _, launch0.least_env, fairChoices_fair.cas, fairChoices_fair.clock, w_frames, w_args, w_heap, w_applies, trivial, trivial, w_case⟩
end start1
theorem witness_1 : WitnessClaimed_1 := ⟨start1.p0, start1.e0, start1.about1, start1.theMethod, start1.args0, start1.below0, start1.atStart⟩
end Jvm.Pilot.@@N@@
