import JvmDerived
import JvmDerived.Pilot.@@N@@Statement
import JvmDerived.Pilot.@@N@@Code
set_option linter.unusedVariables false
set_option linter.unusedSimpArgs false
@@BLOCK:LamKit.lean.txt@@
namespace Jvm.RoadKit
open Sem ClassFile Op Lib Jvm.Stand Jvm.Free Jvm.LawKit
section New
variable {p : Program} {l : Launch} {e : Env} {R : Room} {s : State} {m : MethodId} {args : Array Value} {below : List Frame} {meth : Method} {c : Code} {T : State} {locs : List Loc} {cells slots : Nat}
theorem retI (X : Stand p l e R s m args below meth c T locs cells slots) (hx : p.tables.exec = Jvm.exec) {pc : Nat} {Ls : Array Slot} {z : Int32} {rest : List Value} (hret : meth.sig.returnType = some .int) (hd : decode c.code pc = .ok (.ireturn, 1)) {fs : List Frame}
    (hl : ∀ (f : JFrame) (acts : List Action), f.method = m → f.locked = none → f.entered = [] → (doReturn e (T.setTop f) acts (some (.int z))).1 = T.setFrames fs) : Steps p.tables e below (T.setTop (mkF m pc Ls (.int z :: rest))) (T.setFrames fs) := by
  have hm' : T.vm.method? m = some meth := X.method'
  have hn : narrow .int (.int z) = .int z := rfl
  show Steps p.tables e below (T.setTop { method := m, pc := pc, locals := Ls, stack := _ :: rest, locked := none }) _
  jvm_step X.here [X.here.top, hx, hd, hm', hret, hn]
  first | (intro acts; rw [hl _ acts rfl rfl rfl]) | rw [hl _ _ rfl rfl rfl]
  exact Steps.refl _
end New
end Jvm.RoadKit
namespace Jvm.Pilot.@@N@@
open Jvm Jvm.ClassFile Sem Op Lib Jvm.Free Jvm.Stand Jvm.LawKit Jvm.RoadKit Bundle Jvm.Pilot.@@N@@.Jvm.D
section Own
variable {p : Program} {l : Launch} {e : Env} {R : Room} {s : State} {m : MethodId} {args : Array Value} {below : List Frame} {meth : Method} {c : Code} {T : State} {locs : List Loc} {cells slots : Nat}
/-- from the state G the run comes to an end with an outcome of which Φ holds -/
def own_Gs (p : Program) (e : Env) (below : List Frame) (Φ : Outcome → State → Prop) (G : State) : Prop :=
  ∃ (t : State) (o : Outcome), Steps p.tables e below G t ∧ t.status = .running ∧ Ended t below o ∧ Φ o t
theorem own_st {Φ : Outcome → State → Prop} {G G' : State} (k : ∀ t, Steps p.tables e below G' t → Steps p.tables e below G t) (h : own_Gs p e below Φ G') : own_Gs p e below Φ G := by
  obtain ⟨a, b, h1, h2⟩ := h
  exact ⟨a, b, k _ h1, h2⟩
theorem own_in {Φ : Outcome → State → Prop} {g g' : JFrame} (q : g = g') (h : own_Gs p e below Φ (T.setTop g')) : ∃ (t : State) (o : Outcome), Steps p.tables e below (T.setTop g) t ∧ t.status = .running ∧ Ended t below o ∧ Φ o t := by
  subst q; exact h
theorem own_ret (X : Stand p l e R s m args below meth c T locs cells slots) {v : Option Value} (hv : meth.sig.returnType = none → v = none) (hlk : meth.locks = false) {G : State}
    (k : ∀ fs, (∀ (f : JFrame) (acts : List Action), f.method = m → f.locked = none → f.entered = [] → (doReturn e (T.setTop f) acts v).1 = T.setFrames fs) → Steps p.tables e below G (T.setFrames fs))
    {Q : Option Value → Heap → List Loc → Prop} {h : Heap} (eT : T.heap = h) (hQ : Q v h locs) {cc ss : Nat} (hc : cells ≤ cc) (hs : slots ≤ ss) :
    own_Gs p e below (fun o t => ∃ v L, o = .returned v ∧ Q v t.heap L ∧ FrameEnd s o t L cc ss) G := by
  obtain ⟨fs, hr, hrun, hended, hW, hsame⟩ := X.leave (v := v) hv hlk
  subst eT
  exact ⟨_, _, k fs hr, hrun, hended, _, _, rfl, hQ, ⟨_, rfl⟩, hW, hsame.mono hc hs⟩
theorem own_retI (X : Stand p l e R s m args below meth c T locs cells slots) (hx : p.tables.exec = Jvm.exec) {pc : Nat} {Ls : Array Slot} {z : Int32} {rest : List Value} (hret : meth.sig.returnType = some .int) (hd : decode c.code pc = .ok (.ireturn, 1)) (hlk : meth.locks = false)
    {Q : Option Value → Heap → List Loc → Prop} {h : Heap} (eT : T.heap = h) (hQ : Q (some (.int z)) h locs) {cc ss : Nat} (hc : cells ≤ cc) (hs : slots ≤ ss) :
    own_Gs p e below (fun o t => ∃ v L, o = .returned v ∧ Q v t.heap L ∧ FrameEnd s o t L cc ss) (T.setTop (mkF m pc Ls (.int z :: rest))) :=
  own_ret X (fun h => by rw [hret] at h; cases h) hlk (fun fs hr => retI X hx hret hd hr) eT hQ hc hs
theorem own_retN (X : Stand p l e R s m args below meth c T locs cells slots) (hx : p.tables.exec = Jvm.exec) {pc : Nat} {Ls : Array Slot} {z : Int32} {t : FieldType} {rest : List Value} (hret : meth.sig.returnType = some t) (ht : t = .boolean ∨ t = .byte ∨ t = .char ∨ t = .short) (hd : decode c.code pc = .ok (.ireturn, 1)) (hlk : meth.locks = false)
    {Q : Option Value → Heap → List Loc → Prop} {h : Heap} (eT : T.heap = h) (hQ : Q (some (.int (nar t z))) h locs) {cc ss : Nat} (hc : cells ≤ cc) (hs : slots ≤ ss) :
    own_Gs p e below (fun o t => ∃ v L, o = .returned v ∧ Q v t.heap L ∧ FrameEnd s o t L cc ss) (T.setTop (mkF m pc Ls (.int z :: rest))) :=
  own_ret X (fun h => by rw [hret] at h; cases h) hlk (fun fs hr => retN X hx hret ht hd hr) eT hQ hc hs
theorem own_retL (X : Stand p l e R s m args below meth c T locs cells slots) (hx : p.tables.exec = Jvm.exec) {pc : Nat} {Ls : Array Slot} {z : Int64} {rest : List Value} (hret : meth.sig.returnType = some .long) (hd : decode c.code pc = .ok (.lreturn, 1)) (hlk : meth.locks = false)
    {Q : Option Value → Heap → List Loc → Prop} {h : Heap} (eT : T.heap = h) (hQ : Q (some (.long z)) h locs) {cc ss : Nat} (hc : cells ≤ cc) (hs : slots ≤ ss) :
    own_Gs p e below (fun o t => ∃ v L, o = .returned v ∧ Q v t.heap L ∧ FrameEnd s o t L cc ss) (T.setTop (mkF m pc Ls (.long z :: rest))) :=
  own_ret X (fun h => by rw [hret] at h; cases h) hlk (fun fs hr => retOut X hx hret rfl (Or.inr (Or.inl ⟨rfl, rfl, z, rfl⟩)) hd hr) eT hQ hc hs
theorem own_retA (X : Stand p l e R s m args below meth c T locs cells slots) (hx : p.tables.exec = Jvm.exec) {pc : Nat} {Ls : Array Slot} {z : Value} {t : FieldType} {rest : List Value} (hret : meth.sig.returnType = some t) (ht : t.isReference = true) (hz : z.isRef = true) (hd : decode c.code pc = .ok (.areturn, 1)) (hlk : meth.locks = false)
    {Q : Option Value → Heap → List Loc → Prop} {h : Heap} (eT : T.heap = h) (hQ : Q (some z) h locs) {cc ss : Nat} (hc : cells ≤ cc) (hs : slots ≤ ss) :
    own_Gs p e below (fun o t => ∃ v L, o = .returned v ∧ Q v t.heap L ∧ FrameEnd s o t L cc ss) (T.setTop (mkF m pc Ls (z :: rest))) :=
  own_ret X (fun h => by rw [hret] at h; cases h) hlk (fun fs hr => retOut X hx hret (by cases t <;> first | rfl | (cases z <;> first | rfl | (simp [Value.isRef] at hz) | (simp [FieldType.isReference] at ht))) (Or.inr (Or.inr (Or.inr (Or.inr ⟨rfl, ht, hz⟩)))) hd hr) eT hQ hc hs
theorem own_retV (X : Stand p l e R s m args below meth c T locs cells slots) (hx : p.tables.exec = Jvm.exec) {pc : Nat} {Ls : Array Slot} (hret : meth.sig.returnType = none) (hd : decode c.code pc = .ok (.return_, 1)) (hlk : meth.locks = false)
    {Q : Option Value → Heap → List Loc → Prop} {h : Heap} (eT : T.heap = h) (hQ : Q none h locs) {cc ss : Nat} (hc : cells ≤ cc) (hs : slots ≤ ss) :
    own_Gs p e below (fun o t => ∃ v L, o = .returned v ∧ Q v t.heap L ∧ FrameEnd s o t L cc ss) (T.setTop (mkF m pc Ls [])) :=
  own_ret X (fun _ => rfl) hlk (fun fs hr => X.returnOut hx hret hd hr) eT hQ hc hs
theorem own_retNW {vm0 : Vm} {k0 : Nat} (X : Stand p l e R (s.setVm vm0) m args below meth c T locs cells slots) (hS : s.Since vm0 k0) {h : Heap} (hk : k0 ≤ h.size) (hx : p.tables.exec = Jvm.exec) {pc : Nat} {Ls : Array Slot} {z : Int32} {t : FieldType} {rest : List Value} (hret : meth.sig.returnType = some t) (ht : t = .boolean ∨ t = .byte ∨ t = .char ∨ t = .short) (hd : decode c.code pc = .ok (.ireturn, 1)) (hlk : meth.locks = false)
    {Q : Option Value → Heap → List Loc → Prop} (eT : T.heap = h) (hQ : Q (some (.int (nar t z))) h locs) {cc ss : Nat} (hc : cells ≤ cc) (hs : slots ≤ ss) :
    own_Gs p e below (fun o t => ∃ v L, o = .returned v ∧ Q v t.heap L ∧ ReturnedEndW s o t L cc ss) (T.setTop (mkF m pc Ls (.int z :: rest))) := by
  subst eT
  obtain ⟨fs, hr, hrun, hended, h1, h2, h3, h4⟩ := X.leaveW hS hk (v := some (.int (nar t z))) (fun h => by rw [hret] at h; cases h) hlk
  exact ⟨_, _, retN X hx hret ht hd hr, hrun, hended, _, _, rfl, hQ, h1, h2, h3, h4.mono hc hs⟩
-- steps
theorem own_iloadN {Φ : Outcome → State → Prop} (X : Stand p l e R s m args below meth c T locs cells slots) (hx : p.tables.exec = Jvm.exec) {pc : Nat} (pc' : Nat) {Ls : Array Slot} {S : List Value} {k : Fin 4} {v : Int32} (hd : decode c.code pc = .ok (.iload_n k, 1)) (hl : Ls[k.val]? = some (.val (.int v))) (h : own_Gs p e below Φ (T.setTop (mkF m pc' Ls (.int v :: S)))) (hp : pc + 1 = pc' := by rfl) : own_Gs p e below Φ (T.setTop (mkF m pc Ls (S))) := by
  subst hp; exact own_st (fun t k => XS.iloadN X.here hx rfl hd hl k) h
theorem own_iload {Φ : Outcome → State → Prop} (X : Stand p l e R s m args below meth c T locs cells slots) (hx : p.tables.exec = Jvm.exec) {pc : Nat} (pc' : Nat) {Ls : Array Slot} {S : List Value} {k : Nat} {v : Int32} (hd : decode c.code pc = .ok (.iload k, 2)) (hl : Ls[k]? = some (.val (.int v))) (h : own_Gs p e below Φ (T.setTop (mkF m pc' Ls (.int v :: S)))) (hp : pc + 2 = pc' := by rfl) : own_Gs p e below Φ (T.setTop (mkF m pc Ls (S))) := by
  subst hp; exact own_st (fun t k => XS.iload X.here hx rfl hd hl k) h
theorem own_lloadN {Φ : Outcome → State → Prop} (X : Stand p l e R s m args below meth c T locs cells slots) (hx : p.tables.exec = Jvm.exec) {pc : Nat} (pc' : Nat) {Ls : Array Slot} {S : List Value} {k : Fin 4} {v : Int64} (hd : decode c.code pc = .ok (.lload_n k, 1)) (hl : Ls[k.val]? = some (.val (.long v))) (h : own_Gs p e below Φ (T.setTop (mkF m pc' Ls (.long v :: S)))) (hp : pc + 1 = pc' := by rfl) : own_Gs p e below Φ (T.setTop (mkF m pc Ls (S))) := by
  subst hp; exact own_st (fun t k => XS.lloadN X.here hx rfl hd hl k) h
theorem own_lload {Φ : Outcome → State → Prop} (X : Stand p l e R s m args below meth c T locs cells slots) (hx : p.tables.exec = Jvm.exec) {pc : Nat} (pc' : Nat) {Ls : Array Slot} {S : List Value} {k : Nat} {v : Int64} (hd : decode c.code pc = .ok (.lload k, 2)) (hl : Ls[k]? = some (.val (.long v))) (h : own_Gs p e below Φ (T.setTop (mkF m pc' Ls (.long v :: S)))) (hp : pc + 2 = pc' := by rfl) : own_Gs p e below Φ (T.setTop (mkF m pc Ls (S))) := by
  subst hp; exact own_st (fun t k => XS.lload X.here hx rfl hd hl k) h
theorem own_aloadN {Φ : Outcome → State → Prop} (X : Stand p l e R s m args below meth c T locs cells slots) (hx : p.tables.exec = Jvm.exec) {pc : Nat} (pc' : Nat) {Ls : Array Slot} {S : List Value} {k : Fin 4} {v : Value} (hd : decode c.code pc = .ok (.aload_n k, 1)) (hl : Ls[k.val]? = some (.val v)) (hv : v.isRef = true) (h : own_Gs p e below Φ (T.setTop (mkF m pc' Ls (v :: S)))) (hp : pc + 1 = pc' := by rfl) : own_Gs p e below Φ (T.setTop (mkF m pc Ls (S))) := by
  subst hp; exact own_st (fun t k => XS.aloadN X.here hx rfl hd hl hv k) h
theorem own_aload {Φ : Outcome → State → Prop} (X : Stand p l e R s m args below meth c T locs cells slots) (hx : p.tables.exec = Jvm.exec) {pc : Nat} (pc' : Nat) {Ls : Array Slot} {S : List Value} {k : Nat} {v : Value} (hd : decode c.code pc = .ok (.aload k, 2)) (hl : Ls[k]? = some (.val v)) (hv : v.isRef = true) (h : own_Gs p e below Φ (T.setTop (mkF m pc' Ls (v :: S)))) (hp : pc + 2 = pc' := by rfl) : own_Gs p e below Φ (T.setTop (mkF m pc Ls (S))) := by
  subst hp; exact own_st (fun t k => XS.aload X.here hx rfl hd hl hv k) h
theorem own_istoreN {Φ : Outcome → State → Prop} (X : Stand p l e R s m args below meth c T locs cells slots) (hx : p.tables.exec = Jvm.exec) {pc : Nat} (pc' : Nat) {Ls : Array Slot} {S : List Value} {k : Fin 4} {v : Int32} (l' : Array Slot) (hd : decode c.code pc = .ok (.istore_n k, 1)) (hl : storeLocals Ls k.val (.int v) = some l') (h : own_Gs p e below Φ (T.setTop (mkF m pc' l' (S)))) (hp : pc + 1 = pc' := by rfl) : own_Gs p e below Φ (T.setTop (mkF m pc Ls (.int v :: S))) := by
  subst hp; exact own_st (fun t k => XS.istoreN X.here hx rfl hd rfl hl k) h
theorem own_istore {Φ : Outcome → State → Prop} (X : Stand p l e R s m args below meth c T locs cells slots) (hx : p.tables.exec = Jvm.exec) {pc : Nat} (pc' : Nat) {Ls : Array Slot} {S : List Value} {k : Nat} {v : Int32} (l' : Array Slot) (hd : decode c.code pc = .ok (.istore k, 2)) (hl : storeLocals Ls k (.int v) = some l') (h : own_Gs p e below Φ (T.setTop (mkF m pc' l' (S)))) (hp : pc + 2 = pc' := by rfl) : own_Gs p e below Φ (T.setTop (mkF m pc Ls (.int v :: S))) := by
  subst hp; exact own_st (fun t k => XS.istore X.here hx rfl hd rfl hl k) h
theorem own_lstoreN {Φ : Outcome → State → Prop} (X : Stand p l e R s m args below meth c T locs cells slots) (hx : p.tables.exec = Jvm.exec) {pc : Nat} (pc' : Nat) {Ls : Array Slot} {S : List Value} {k : Fin 4} {v : Int64} (l' : Array Slot) (hd : decode c.code pc = .ok (.lstore_n k, 1)) (hl : storeLocals Ls k.val (.long v) = some l') (h : own_Gs p e below Φ (T.setTop (mkF m pc' l' (S)))) (hp : pc + 1 = pc' := by rfl) : own_Gs p e below Φ (T.setTop (mkF m pc Ls (.long v :: S))) := by
  subst hp; exact own_st (fun t k => XS.lstoreN X.here hx rfl hd rfl hl k) h
theorem own_lstore {Φ : Outcome → State → Prop} (X : Stand p l e R s m args below meth c T locs cells slots) (hx : p.tables.exec = Jvm.exec) {pc : Nat} (pc' : Nat) {Ls : Array Slot} {S : List Value} {k : Nat} {v : Int64} (l' : Array Slot) (hd : decode c.code pc = .ok (.lstore k, 2)) (hl : storeLocals Ls k (.long v) = some l') (h : own_Gs p e below Φ (T.setTop (mkF m pc' l' (S)))) (hp : pc + 2 = pc' := by rfl) : own_Gs p e below Φ (T.setTop (mkF m pc Ls (.long v :: S))) := by
  subst hp; exact own_st (fun t k => XS.lstore X.here hx rfl hd rfl hl k) h
theorem own_astoreN {Φ : Outcome → State → Prop} (X : Stand p l e R s m args below meth c T locs cells slots) (hx : p.tables.exec = Jvm.exec) {pc : Nat} (pc' : Nat) {Ls : Array Slot} {S : List Value} {k : Fin 4} {v : Value} (l' : Array Slot) (hd : decode c.code pc = .ok (.astore_n k, 1)) (hv : v.isRef = true) (hl : storeLocals Ls k.val v = some l') (h : own_Gs p e below Φ (T.setTop (mkF m pc' l' (S)))) (hp : pc + 1 = pc' := by rfl) : own_Gs p e below Φ (T.setTop (mkF m pc Ls (v :: S))) := by
  subst hp; exact own_st (fun t k => XS.astoreN X.here hx rfl hd rfl hv hl k) h
theorem own_astore {Φ : Outcome → State → Prop} (X : Stand p l e R s m args below meth c T locs cells slots) (hx : p.tables.exec = Jvm.exec) {pc : Nat} (pc' : Nat) {Ls : Array Slot} {S : List Value} {k : Nat} {v : Value} (l' : Array Slot) (hd : decode c.code pc = .ok (.astore k, 2)) (hv : v.isRef = true) (hl : storeLocals Ls k v = some l') (h : own_Gs p e below Φ (T.setTop (mkF m pc' l' (S)))) (hp : pc + 2 = pc' := by rfl) : own_Gs p e below Φ (T.setTop (mkF m pc Ls (v :: S))) := by
  subst hp; exact own_st (fun t k => XS.astore X.here hx rfl hd rfl hv hl k) h
theorem own_iconst {Φ : Outcome → State → Prop} (X : Stand p l e R s m args below meth c T locs cells slots) (hx : p.tables.exec = Jvm.exec) {pc : Nat} (pc' : Nat) {Ls : Array Slot} {S : List Value} {i : Int} (z : Int32) (hd : decode c.code pc = .ok (.iconst i, 1)) (hz : Int32.ofInt i = z) (h : own_Gs p e below Φ (T.setTop (mkF m pc' Ls (.int z :: S)))) (hp : pc + 1 = pc' := by rfl) : own_Gs p e below Φ (T.setTop (mkF m pc Ls (S))) := by
  subst hp; exact own_st (fun t k => XS.iconst X.here hx rfl hd (hz ▸ k)) h
theorem own_bipush {Φ : Outcome → State → Prop} (X : Stand p l e R s m args below meth c T locs cells slots) (hx : p.tables.exec = Jvm.exec) {pc : Nat} (pc' : Nat) {Ls : Array Slot} {S : List Value} {i : Int} (z : Int32) (hd : decode c.code pc = .ok (.bipush i, 2)) (hz : (Int8.ofInt i).toInt32 = z) (h : own_Gs p e below Φ (T.setTop (mkF m pc' Ls (.int z :: S)))) (hp : pc + 2 = pc' := by rfl) : own_Gs p e below Φ (T.setTop (mkF m pc Ls (S))) := by
  subst hp; exact own_st (fun t k => XS.bipush X.here hx rfl hd (hz ▸ k)) h
theorem own_sipush {Φ : Outcome → State → Prop} (X : Stand p l e R s m args below meth c T locs cells slots) (hx : p.tables.exec = Jvm.exec) {pc : Nat} (pc' : Nat) {Ls : Array Slot} {S : List Value} {i : Int} (z : Int32) (hd : decode c.code pc = .ok (.sipush i, 3)) (hz : (Int16.ofInt i).toInt32 = z) (h : own_Gs p e below Φ (T.setTop (mkF m pc' Ls (.int z :: S)))) (hp : pc + 3 = pc' := by rfl) : own_Gs p e below Φ (T.setTop (mkF m pc Ls (S))) := by
  subst hp; exact own_st (fun t k => XS.sipush X.here hx rfl hd (hz ▸ k)) h
theorem own_lconst {Φ : Outcome → State → Prop} (X : Stand p l e R s m args below meth c T locs cells slots) (hx : p.tables.exec = Jvm.exec) {pc : Nat} (pc' : Nat) {Ls : Array Slot} {S : List Value} {i : Fin 2} (z : Int64) (hd : decode c.code pc = .ok (.lconst i, 1)) (hz : Int64.ofNat i = z) (h : own_Gs p e below Φ (T.setTop (mkF m pc' Ls (.long z :: S)))) (hp : pc + 1 = pc' := by rfl) : own_Gs p e below Φ (T.setTop (mkF m pc Ls (S))) := by
  subst hp; exact own_st (fun t k => XS.lconst X.here hx rfl hd (hz ▸ k)) h
theorem own_aconstNull {Φ : Outcome → State → Prop} (X : Stand p l e R s m args below meth c T locs cells slots) (hx : p.tables.exec = Jvm.exec) {pc : Nat} (pc' : Nat) {Ls : Array Slot} {S : List Value}  (hd : decode c.code pc = .ok (.aconst_null, 1)) (h : own_Gs p e below Φ (T.setTop (mkF m pc' Ls (.null :: S)))) (hp : pc + 1 = pc' := by rfl) : own_Gs p e below Φ (T.setTop (mkF m pc Ls (S))) := by
  subst hp; exact own_st (fun t k => XS.aconstNull X.here hx rfl hd k) h
theorem own_iadd {Φ : Outcome → State → Prop} (X : Stand p l e R s m args below meth c T locs cells slots) (hx : p.tables.exec = Jvm.exec) {pc : Nat} (pc' : Nat) {Ls : Array Slot} {S : List Value} {x y : Int32} (hd : decode c.code pc = .ok (.iadd, 1)) (h : own_Gs p e below Φ (T.setTop (mkF m pc' Ls (.int (x + y) :: S)))) (hp : pc + 1 = pc' := by rfl) : own_Gs p e below Φ (T.setTop (mkF m pc Ls (.int y :: .int x :: S))) := by
  subst hp; exact own_st (fun t k => XS.iadd X.here hx rfl hd rfl k) h
theorem own_ladd {Φ : Outcome → State → Prop} (X : Stand p l e R s m args below meth c T locs cells slots) (hx : p.tables.exec = Jvm.exec) {pc : Nat} (pc' : Nat) {Ls : Array Slot} {S : List Value} {x y : Int64} (hd : decode c.code pc = .ok (.ladd, 1)) (h : own_Gs p e below Φ (T.setTop (mkF m pc' Ls (.long (x + y) :: S)))) (hp : pc + 1 = pc' := by rfl) : own_Gs p e below Φ (T.setTop (mkF m pc Ls (.long y :: .long x :: S))) := by
  subst hp; exact own_st (fun t k => XS.ladd X.here hx rfl hd rfl k) h
theorem own_isub {Φ : Outcome → State → Prop} (X : Stand p l e R s m args below meth c T locs cells slots) (hx : p.tables.exec = Jvm.exec) {pc : Nat} (pc' : Nat) {Ls : Array Slot} {S : List Value} {x y : Int32} (hd : decode c.code pc = .ok (.isub, 1)) (h : own_Gs p e below Φ (T.setTop (mkF m pc' Ls (.int (x - y) :: S)))) (hp : pc + 1 = pc' := by rfl) : own_Gs p e below Φ (T.setTop (mkF m pc Ls (.int y :: .int x :: S))) := by
  subst hp; exact own_st (fun t k => XS.isub X.here hx rfl hd rfl k) h
theorem own_lsub {Φ : Outcome → State → Prop} (X : Stand p l e R s m args below meth c T locs cells slots) (hx : p.tables.exec = Jvm.exec) {pc : Nat} (pc' : Nat) {Ls : Array Slot} {S : List Value} {x y : Int64} (hd : decode c.code pc = .ok (.lsub, 1)) (h : own_Gs p e below Φ (T.setTop (mkF m pc' Ls (.long (x - y) :: S)))) (hp : pc + 1 = pc' := by rfl) : own_Gs p e below Φ (T.setTop (mkF m pc Ls (.long y :: .long x :: S))) := by
  subst hp; exact own_st (fun t k => XS.lsub X.here hx rfl hd rfl k) h
theorem own_imul {Φ : Outcome → State → Prop} (X : Stand p l e R s m args below meth c T locs cells slots) (hx : p.tables.exec = Jvm.exec) {pc : Nat} (pc' : Nat) {Ls : Array Slot} {S : List Value} {x y : Int32} (hd : decode c.code pc = .ok (.imul, 1)) (h : own_Gs p e below Φ (T.setTop (mkF m pc' Ls (.int (x * y) :: S)))) (hp : pc + 1 = pc' := by rfl) : own_Gs p e below Φ (T.setTop (mkF m pc Ls (.int y :: .int x :: S))) := by
  subst hp; exact own_st (fun t k => XS.imul X.here hx rfl hd rfl k) h
theorem own_lmul {Φ : Outcome → State → Prop} (X : Stand p l e R s m args below meth c T locs cells slots) (hx : p.tables.exec = Jvm.exec) {pc : Nat} (pc' : Nat) {Ls : Array Slot} {S : List Value} {x y : Int64} (hd : decode c.code pc = .ok (.lmul, 1)) (h : own_Gs p e below Φ (T.setTop (mkF m pc' Ls (.long (x * y) :: S)))) (hp : pc + 1 = pc' := by rfl) : own_Gs p e below Φ (T.setTop (mkF m pc Ls (.long y :: .long x :: S))) := by
  subst hp; exact own_st (fun t k => XS.lmul X.here hx rfl hd rfl k) h
theorem own_iand {Φ : Outcome → State → Prop} (X : Stand p l e R s m args below meth c T locs cells slots) (hx : p.tables.exec = Jvm.exec) {pc : Nat} (pc' : Nat) {Ls : Array Slot} {S : List Value} {x y : Int32} (hd : decode c.code pc = .ok (.iand, 1)) (h : own_Gs p e below Φ (T.setTop (mkF m pc' Ls (.int (x &&& y) :: S)))) (hp : pc + 1 = pc' := by rfl) : own_Gs p e below Φ (T.setTop (mkF m pc Ls (.int y :: .int x :: S))) := by
  subst hp; exact own_st (fun t k => XS.iand X.here hx rfl hd rfl k) h
theorem own_land {Φ : Outcome → State → Prop} (X : Stand p l e R s m args below meth c T locs cells slots) (hx : p.tables.exec = Jvm.exec) {pc : Nat} (pc' : Nat) {Ls : Array Slot} {S : List Value} {x y : Int64} (hd : decode c.code pc = .ok (.land, 1)) (h : own_Gs p e below Φ (T.setTop (mkF m pc' Ls (.long (x &&& y) :: S)))) (hp : pc + 1 = pc' := by rfl) : own_Gs p e below Φ (T.setTop (mkF m pc Ls (.long y :: .long x :: S))) := by
  subst hp; exact own_st (fun t k => XS.land X.here hx rfl hd rfl k) h
theorem own_ior {Φ : Outcome → State → Prop} (X : Stand p l e R s m args below meth c T locs cells slots) (hx : p.tables.exec = Jvm.exec) {pc : Nat} (pc' : Nat) {Ls : Array Slot} {S : List Value} {x y : Int32} (hd : decode c.code pc = .ok (.ior, 1)) (h : own_Gs p e below Φ (T.setTop (mkF m pc' Ls (.int (x ||| y) :: S)))) (hp : pc + 1 = pc' := by rfl) : own_Gs p e below Φ (T.setTop (mkF m pc Ls (.int y :: .int x :: S))) := by
  subst hp; exact own_st (fun t k => XS.ior X.here hx rfl hd rfl k) h
theorem own_lor {Φ : Outcome → State → Prop} (X : Stand p l e R s m args below meth c T locs cells slots) (hx : p.tables.exec = Jvm.exec) {pc : Nat} (pc' : Nat) {Ls : Array Slot} {S : List Value} {x y : Int64} (hd : decode c.code pc = .ok (.lor, 1)) (h : own_Gs p e below Φ (T.setTop (mkF m pc' Ls (.long (x ||| y) :: S)))) (hp : pc + 1 = pc' := by rfl) : own_Gs p e below Φ (T.setTop (mkF m pc Ls (.long y :: .long x :: S))) := by
  subst hp; exact own_st (fun t k => XS.lor X.here hx rfl hd rfl k) h
theorem own_ixor {Φ : Outcome → State → Prop} (X : Stand p l e R s m args below meth c T locs cells slots) (hx : p.tables.exec = Jvm.exec) {pc : Nat} (pc' : Nat) {Ls : Array Slot} {S : List Value} {x y : Int32} (hd : decode c.code pc = .ok (.ixor, 1)) (h : own_Gs p e below Φ (T.setTop (mkF m pc' Ls (.int (x ^^^ y) :: S)))) (hp : pc + 1 = pc' := by rfl) : own_Gs p e below Φ (T.setTop (mkF m pc Ls (.int y :: .int x :: S))) := by
  subst hp; exact own_st (fun t k => XS.ixor X.here hx rfl hd rfl k) h
theorem own_lxor {Φ : Outcome → State → Prop} (X : Stand p l e R s m args below meth c T locs cells slots) (hx : p.tables.exec = Jvm.exec) {pc : Nat} (pc' : Nat) {Ls : Array Slot} {S : List Value} {x y : Int64} (hd : decode c.code pc = .ok (.lxor, 1)) (h : own_Gs p e below Φ (T.setTop (mkF m pc' Ls (.long (x ^^^ y) :: S)))) (hp : pc + 1 = pc' := by rfl) : own_Gs p e below Φ (T.setTop (mkF m pc Ls (.long y :: .long x :: S))) := by
  subst hp; exact own_st (fun t k => XS.lxor X.here hx rfl hd rfl k) h
theorem own_idiv {Φ : Outcome → State → Prop} (X : Stand p l e R s m args below meth c T locs cells slots) (hx : p.tables.exec = Jvm.exec) {pc : Nat} (pc' : Nat) {Ls : Array Slot} {S : List Value} {x y : Int32} (hd : decode c.code pc = .ok (.idiv, 1)) (hy : y ≠ 0) (h : own_Gs p e below Φ (T.setTop (mkF m pc' Ls (.int (x / y) :: S)))) (hp : pc + 1 = pc' := by rfl) : own_Gs p e below Φ (T.setTop (mkF m pc Ls (.int y :: .int x :: S))) := by
  subst hp; exact own_st (fun t k => XS.idiv X.here hx rfl hd rfl hy k) h
theorem own_ldiv {Φ : Outcome → State → Prop} (X : Stand p l e R s m args below meth c T locs cells slots) (hx : p.tables.exec = Jvm.exec) {pc : Nat} (pc' : Nat) {Ls : Array Slot} {S : List Value} {x y : Int64} (hd : decode c.code pc = .ok (.ldiv, 1)) (hy : y ≠ 0) (h : own_Gs p e below Φ (T.setTop (mkF m pc' Ls (.long (x / y) :: S)))) (hp : pc + 1 = pc' := by rfl) : own_Gs p e below Φ (T.setTop (mkF m pc Ls (.long y :: .long x :: S))) := by
  subst hp; exact own_st (fun t k => XS.ldiv X.here hx rfl hd rfl hy k) h
theorem own_irem {Φ : Outcome → State → Prop} (X : Stand p l e R s m args below meth c T locs cells slots) (hx : p.tables.exec = Jvm.exec) {pc : Nat} (pc' : Nat) {Ls : Array Slot} {S : List Value} {x y : Int32} (hd : decode c.code pc = .ok (.irem, 1)) (hy : y ≠ 0) (h : own_Gs p e below Φ (T.setTop (mkF m pc' Ls (.int (x % y) :: S)))) (hp : pc + 1 = pc' := by rfl) : own_Gs p e below Φ (T.setTop (mkF m pc Ls (.int y :: .int x :: S))) := by
  subst hp; exact own_st (fun t k => iremM X hx rfl hd rfl hy k) h
theorem own_lrem {Φ : Outcome → State → Prop} (X : Stand p l e R s m args below meth c T locs cells slots) (hx : p.tables.exec = Jvm.exec) {pc : Nat} (pc' : Nat) {Ls : Array Slot} {S : List Value} {x y : Int64} (hd : decode c.code pc = .ok (.lrem, 1)) (hy : y ≠ 0) (h : own_Gs p e below Φ (T.setTop (mkF m pc' Ls (.long (x % y) :: S)))) (hp : pc + 1 = pc' := by rfl) : own_Gs p e below Φ (T.setTop (mkF m pc Ls (.long y :: .long x :: S))) := by
  subst hp; exact own_st (fun t k => XS.lrem X.here hx rfl hd rfl hy (by rw [lrem_mod]; exact k)) h
theorem own_ishl {Φ : Outcome → State → Prop} (X : Stand p l e R s m args below meth c T locs cells slots) (hx : p.tables.exec = Jvm.exec) {pc : Nat} (pc' : Nat) {Ls : Array Slot} {S : List Value} {x y : Int32} (hd : decode c.code pc = .ok (.ishl, 1)) (h : own_Gs p e below Φ (T.setTop (mkF m pc' Ls (.int (x <<< (y &&& 31)) :: S)))) (hp : pc + 1 = pc' := by rfl) : own_Gs p e below Φ (T.setTop (mkF m pc Ls (.int y :: .int x :: S))) := by
  subst hp; exact own_st (fun t k => XS.ishl X.here hx rfl hd rfl k) h
theorem own_ishr {Φ : Outcome → State → Prop} (X : Stand p l e R s m args below meth c T locs cells slots) (hx : p.tables.exec = Jvm.exec) {pc : Nat} (pc' : Nat) {Ls : Array Slot} {S : List Value} {x y : Int32} (hd : decode c.code pc = .ok (.ishr, 1)) (h : own_Gs p e below Φ (T.setTop (mkF m pc' Ls (.int (x >>> (y &&& 31)) :: S)))) (hp : pc + 1 = pc' := by rfl) : own_Gs p e below Φ (T.setTop (mkF m pc Ls (.int y :: .int x :: S))) := by
  subst hp; exact own_st (fun t k => XS.ishr X.here hx rfl hd rfl k) h
theorem own_iushr {Φ : Outcome → State → Prop} (X : Stand p l e R s m args below meth c T locs cells slots) (hx : p.tables.exec = Jvm.exec) {pc : Nat} (pc' : Nat) {Ls : Array Slot} {S : List Value} {x y : Int32} (hd : decode c.code pc = .ok (.iushr, 1)) (h : own_Gs p e below Φ (T.setTop (mkF m pc' Ls (.int ((x.toUInt32 >>> (y &&& 31).toUInt32).toInt32) :: S)))) (hp : pc + 1 = pc' := by rfl) : own_Gs p e below Φ (T.setTop (mkF m pc Ls (.int y :: .int x :: S))) := by
  subst hp; exact own_st (fun t k => XS.iushr X.here hx rfl hd rfl k) h
theorem own_lshl {Φ : Outcome → State → Prop} (X : Stand p l e R s m args below meth c T locs cells slots) (hx : p.tables.exec = Jvm.exec) {pc : Nat} (pc' : Nat) {Ls : Array Slot} {S : List Value} {x : Int64} {y : Int32} (hd : decode c.code pc = .ok (.lshl, 1)) (h : own_Gs p e below Φ (T.setTop (mkF m pc' Ls (.long (x <<< (y &&& 0x3f).toInt64) :: S)))) (hp : pc + 1 = pc' := by rfl) : own_Gs p e below Φ (T.setTop (mkF m pc Ls (.int y :: .long x :: S))) := by
  subst hp; exact own_st (fun t k => XS.lshl X.here hx rfl hd rfl k) h
theorem own_lshr {Φ : Outcome → State → Prop} (X : Stand p l e R s m args below meth c T locs cells slots) (hx : p.tables.exec = Jvm.exec) {pc : Nat} (pc' : Nat) {Ls : Array Slot} {S : List Value} {x : Int64} {y : Int32} (hd : decode c.code pc = .ok (.lshr, 1)) (h : own_Gs p e below Φ (T.setTop (mkF m pc' Ls (.long (x >>> (y &&& 0x3f).toInt64) :: S)))) (hp : pc + 1 = pc' := by rfl) : own_Gs p e below Φ (T.setTop (mkF m pc Ls (.int y :: .long x :: S))) := by
  subst hp; exact own_st (fun t k => XS.lshr X.here hx rfl hd rfl k) h
theorem own_lushr {Φ : Outcome → State → Prop} (X : Stand p l e R s m args below meth c T locs cells slots) (hx : p.tables.exec = Jvm.exec) {pc : Nat} (pc' : Nat) {Ls : Array Slot} {S : List Value} {x : Int64} {y : Int32} (hd : decode c.code pc = .ok (.lushr, 1)) (h : own_Gs p e below Φ (T.setTop (mkF m pc' Ls (.long ((x.toUInt64 >>> (y &&& 0x3f).toInt64.toUInt64).toInt64) :: S)))) (hp : pc + 1 = pc' := by rfl) : own_Gs p e below Φ (T.setTop (mkF m pc Ls (.int y :: .long x :: S))) := by
  subst hp; exact own_st (fun t k => XS.lushr X.here hx rfl hd rfl k) h
theorem own_ineg {Φ : Outcome → State → Prop} (X : Stand p l e R s m args below meth c T locs cells slots) (hx : p.tables.exec = Jvm.exec) {pc : Nat} (pc' : Nat) {Ls : Array Slot} {S : List Value} {x : Int32} (hd : decode c.code pc = .ok (.ineg, 1)) (h : own_Gs p e below Φ (T.setTop (mkF m pc' Ls (.int (-x) :: S)))) (hp : pc + 1 = pc' := by rfl) : own_Gs p e below Φ (T.setTop (mkF m pc Ls (.int x :: S))) := by
  subst hp; exact own_st (fun t k => XS.ineg X.here hx rfl hd rfl k) h
theorem own_lneg {Φ : Outcome → State → Prop} (X : Stand p l e R s m args below meth c T locs cells slots) (hx : p.tables.exec = Jvm.exec) {pc : Nat} (pc' : Nat) {Ls : Array Slot} {S : List Value} {x : Int64} (hd : decode c.code pc = .ok (.lneg, 1)) (h : own_Gs p e below Φ (T.setTop (mkF m pc' Ls (.long (-x) :: S)))) (hp : pc + 1 = pc' := by rfl) : own_Gs p e below Φ (T.setTop (mkF m pc Ls (.long x :: S))) := by
  subst hp; exact own_st (fun t k => XS.lneg X.here hx rfl hd rfl k) h
theorem own_i2l {Φ : Outcome → State → Prop} (X : Stand p l e R s m args below meth c T locs cells slots) (hx : p.tables.exec = Jvm.exec) {pc : Nat} (pc' : Nat) {Ls : Array Slot} {S : List Value} {x : Int32} (hd : decode c.code pc = .ok (.i2l, 1)) (h : own_Gs p e below Φ (T.setTop (mkF m pc' Ls (.long (x.toInt64) :: S)))) (hp : pc + 1 = pc' := by rfl) : own_Gs p e below Φ (T.setTop (mkF m pc Ls (.int x :: S))) := by
  subst hp; exact own_st (fun t k => XS.i2l X.here hx rfl hd rfl k) h
theorem own_l2i {Φ : Outcome → State → Prop} (X : Stand p l e R s m args below meth c T locs cells slots) (hx : p.tables.exec = Jvm.exec) {pc : Nat} (pc' : Nat) {Ls : Array Slot} {S : List Value} {x : Int64} (hd : decode c.code pc = .ok (.l2i, 1)) (h : own_Gs p e below Φ (T.setTop (mkF m pc' Ls (.int (x.toInt32) :: S)))) (hp : pc + 1 = pc' := by rfl) : own_Gs p e below Φ (T.setTop (mkF m pc Ls (.long x :: S))) := by
  subst hp; exact own_st (fun t k => XS.l2i X.here hx rfl hd rfl k) h
theorem own_i2b {Φ : Outcome → State → Prop} (X : Stand p l e R s m args below meth c T locs cells slots) (hx : p.tables.exec = Jvm.exec) {pc : Nat} (pc' : Nat) {Ls : Array Slot} {S : List Value} {x : Int32} (hd : decode c.code pc = .ok (.i2b, 1)) (h : own_Gs p e below Φ (T.setTop (mkF m pc' Ls (.int (x.toInt8.toInt32) :: S)))) (hp : pc + 1 = pc' := by rfl) : own_Gs p e below Φ (T.setTop (mkF m pc Ls (.int x :: S))) := by
  subst hp; exact own_st (fun t k => XS.i2b X.here hx rfl hd rfl k) h
theorem own_i2s {Φ : Outcome → State → Prop} (X : Stand p l e R s m args below meth c T locs cells slots) (hx : p.tables.exec = Jvm.exec) {pc : Nat} (pc' : Nat) {Ls : Array Slot} {S : List Value} {x : Int32} (hd : decode c.code pc = .ok (.i2s, 1)) (h : own_Gs p e below Φ (T.setTop (mkF m pc' Ls (.int (x.toInt16.toInt32) :: S)))) (hp : pc + 1 = pc' := by rfl) : own_Gs p e below Φ (T.setTop (mkF m pc Ls (.int x :: S))) := by
  subst hp; exact own_st (fun t k => XS.i2s X.here hx rfl hd rfl k) h
theorem own_i2c {Φ : Outcome → State → Prop} (X : Stand p l e R s m args below meth c T locs cells slots) (hx : p.tables.exec = Jvm.exec) {pc : Nat} (pc' : Nat) {Ls : Array Slot} {S : List Value} {x : Int32} (hd : decode c.code pc = .ok (.i2c, 1)) (h : own_Gs p e below Φ (T.setTop (mkF m pc' Ls (.int (x.toUInt32.toUInt16.toUInt32.toInt32) :: S)))) (hp : pc + 1 = pc' := by rfl) : own_Gs p e below Φ (T.setTop (mkF m pc Ls (.int x :: S))) := by
  subst hp; exact own_st (fun t k => XS.i2c X.here hx rfl hd rfl k) h
theorem own_lcmp {Φ : Outcome → State → Prop} (X : Stand p l e R s m args below meth c T locs cells slots) (hx : p.tables.exec = Jvm.exec) {pc : Nat} (pc' : Nat) {Ls : Array Slot} {S : List Value} {x y : Int64} (hd : decode c.code pc = .ok (.lcmp, 1)) (h : own_Gs p e below Φ (T.setTop (mkF m pc' Ls (.int (lcmpW x y) :: S)))) (hp : pc + 1 = pc' := by rfl) : own_Gs p e below Φ (T.setTop (mkF m pc Ls (.long y :: .long x :: S))) := by
  subst hp; exact own_st (fun t k => XS.lcmp X.here hx rfl hd rfl k) h
theorem own_iinc {Φ : Outcome → State → Prop} (X : Stand p l e R s m args below meth c T locs cells slots) (hx : p.tables.exec = Jvm.exec) {pc : Nat} (pc' : Nat) {Ls : Array Slot} {S : List Value} {i : Nat} {cst : Int} {x : Int32} (z : Int32) (l' : Array Slot) (hd : decode c.code pc = .ok (.iinc i cst, 3)) (hl : Ls[i]? = some (.val (.int x))) (hz : Int32.ofInt cst = z) (hl' : storeLocals Ls i (.int (x + z)) = some l') (h : own_Gs p e below Φ (T.setTop (mkF m pc' l' (S)))) (hp : pc + 3 = pc' := by rfl) : own_Gs p e below Φ (T.setTop (mkF m pc Ls (S))) := by
  subst hp; exact own_st (fun t k => XS.iinc X.here hx rfl hd hl (hz ▸ hl') k) h
theorem own_dup {Φ : Outcome → State → Prop} (X : Stand p l e R s m args below meth c T locs cells slots) (hx : p.tables.exec = Jvm.exec) {pc : Nat} (pc' : Nat) {Ls : Array Slot} {S : List Value} {v : Value} (hd : decode c.code pc = .ok (.dup, 1)) (hc : v.category = 1) (h : own_Gs p e below Φ (T.setTop (mkF m pc' Ls (v :: v :: S)))) (hp : pc + 1 = pc' := by rfl) : own_Gs p e below Φ (T.setTop (mkF m pc Ls (v :: S))) := by
  subst hp; exact own_st (fun t k => XS.dup X.here hx rfl hd rfl hc k) h
theorem own_pop {Φ : Outcome → State → Prop} (X : Stand p l e R s m args below meth c T locs cells slots) (hx : p.tables.exec = Jvm.exec) {pc : Nat} (pc' : Nat) {Ls : Array Slot} {S : List Value} {v : Value} (hd : decode c.code pc = .ok (.pop, 1)) (hc : v.category = 1) (h : own_Gs p e below Φ (T.setTop (mkF m pc' Ls (S)))) (hp : pc + 1 = pc' := by rfl) : own_Gs p e below Φ (T.setTop (mkF m pc Ls (v :: S))) := by
  subst hp; exact own_st (fun t k => XS.pop X.here hx rfl hd rfl hc k) h
theorem own_dupX1 {Φ : Outcome → State → Prop} (X : Stand p l e R s m args below meth c T locs cells slots) (hx : p.tables.exec = Jvm.exec) {pc : Nat} (pc' : Nat) {Ls : Array Slot} {S : List Value} {v w : Value} (hd : decode c.code pc = .ok (.dup_x1, 1)) (hc : v.category = 1) (hc' : w.category = 1) (h : own_Gs p e below Φ (T.setTop (mkF m pc' Ls (v :: w :: v :: S)))) (hp : pc + 1 = pc' := by rfl) : own_Gs p e below Φ (T.setTop (mkF m pc Ls (v :: w :: S))) := by
  subst hp; exact own_st (fun t k => XS.dupX1 X.here hx rfl hd rfl hc hc' k) h
theorem own_dup2 {Φ : Outcome → State → Prop} (X : Stand p l e R s m args below meth c T locs cells slots) (hx : p.tables.exec = Jvm.exec) {pc : Nat} (pc' : Nat) {Ls : Array Slot} {S : List Value} {v w : Value} (hd : decode c.code pc = .ok (.dup2, 1)) (hc : v.category = 1) (hc' : w.category = 1) (h : own_Gs p e below Φ (T.setTop (mkF m pc' Ls (v :: w :: v :: w :: S)))) (hp : pc + 1 = pc' := by rfl) : own_Gs p e below Φ (T.setTop (mkF m pc Ls (v :: w :: S))) := by
  subst hp; exact own_st (fun t k => Jvm.Free.XT.dup2 X.here hx rfl hd rfl hc hc' k) h
theorem own_dup2L {Φ : Outcome → State → Prop} (X : Stand p l e R s m args below meth c T locs cells slots) (hx : p.tables.exec = Jvm.exec) {pc : Nat} (pc' : Nat) {Ls : Array Slot} {S : List Value} {x : Int64} (hd : decode c.code pc = .ok (.dup2, 1)) (h : own_Gs p e below Φ (T.setTop (mkF m pc' Ls (.long x :: .long x :: S)))) (hp : pc + 1 = pc' := by rfl) : own_Gs p e below Φ (T.setTop (mkF m pc Ls (.long x :: S))) := by
  subst hp; exact own_st (fun t k => Jvm.Free.XT.dup2L X.here hx rfl hd rfl k) h
theorem own_goto {Φ : Outcome → State → Prop} (X : Stand p l e R s m args below meth c T locs cells slots) (hx : p.tables.exec = Jvm.exec) {pc : Nat} (pc' : Nat) {Ls : Array Slot} {S : List Value} {o : Int}  (hd : decode c.code pc = .ok (.goto o, 3)) (h : own_Gs p e below Φ (T.setTop (mkF m pc' Ls S))) (hp : decide (0 ≤ (pc : Int) + o ∧ ((pc : Int) + o).toNat = pc') = true := by rfl) : own_Gs p e below Φ (T.setTop (mkF m pc Ls (S))) := by
  have q := of_decide_eq_true hp; exact own_st (fun t k => XS.goto X.here hx rfl (pc0 := pc) (pc' := pc') rfl hd q.1 q.2 k) h
theorem own_ifYes {Φ : Outcome → State → Prop} (X : Stand p l e R s m args below meth c T locs cells slots) (hx : p.tables.exec = Jvm.exec) {pc : Nat} (pc' : Nat) {Ls : Array Slot} {S : List Value} {o : Int} {cd : ClassFile.Cond} {x : Int32} (hd : decode c.code pc = .ok (.ifCond cd o, 3)) (hc : if_icmp.holds cd x 0 = true) (h : own_Gs p e below Φ (T.setTop (mkF m pc' Ls S))) (hp : decide (0 ≤ (pc : Int) + o ∧ ((pc : Int) + o).toNat = pc') = true := by rfl) : own_Gs p e below Φ (T.setTop (mkF m pc Ls (.int x :: S))) := by
  have q := of_decide_eq_true hp; exact own_st (fun t k => XS.ifYes X.here hx rfl (pc0 := pc) (pc' := pc') rfl hd rfl ((if0 _ _).trans hc) q.1 q.2 k) h
theorem own_ifNo {Φ : Outcome → State → Prop} (X : Stand p l e R s m args below meth c T locs cells slots) (hx : p.tables.exec = Jvm.exec) {pc : Nat} (pc' : Nat) {Ls : Array Slot} {S : List Value} {o : Int} {cd : ClassFile.Cond} {x : Int32} (hd : decode c.code pc = .ok (.ifCond cd o, 3)) (hc : if_icmp.holds cd x 0 = false) (h : own_Gs p e below Φ (T.setTop (mkF m pc' Ls S))) (hp : pc + 3 = pc' := by rfl) : own_Gs p e below Φ (T.setTop (mkF m pc Ls (.int x :: S))) := by
  subst hp; exact own_st (fun t k => XS.ifNo X.here hx rfl hd rfl ((if0 _ _).trans hc) k) h
theorem own_icmpYes {Φ : Outcome → State → Prop} (X : Stand p l e R s m args below meth c T locs cells slots) (hx : p.tables.exec = Jvm.exec) {pc : Nat} (pc' : Nat) {Ls : Array Slot} {S : List Value} {o : Int} {cd : ClassFile.Cond} {x y : Int32} (hd : decode c.code pc = .ok (.if_icmp cd o, 3)) (hc : if_icmp.holds cd x y = true) (h : own_Gs p e below Φ (T.setTop (mkF m pc' Ls S))) (hp : decide (0 ≤ (pc : Int) + o ∧ ((pc : Int) + o).toNat = pc') = true := by rfl) : own_Gs p e below Φ (T.setTop (mkF m pc Ls (.int y :: .int x :: S))) := by
  have q := of_decide_eq_true hp; exact own_st (fun t k => XS.icmpYes X.here hx rfl (pc0 := pc) (pc' := pc') rfl hd rfl hc q.1 q.2 k) h
theorem own_icmpNo {Φ : Outcome → State → Prop} (X : Stand p l e R s m args below meth c T locs cells slots) (hx : p.tables.exec = Jvm.exec) {pc : Nat} (pc' : Nat) {Ls : Array Slot} {S : List Value} {o : Int} {cd : ClassFile.Cond} {x y : Int32} (hd : decode c.code pc = .ok (.if_icmp cd o, 3)) (hc : if_icmp.holds cd x y = false) (h : own_Gs p e below Φ (T.setTop (mkF m pc' Ls S))) (hp : pc + 3 = pc' := by rfl) : own_Gs p e below Φ (T.setTop (mkF m pc Ls (.int y :: .int x :: S))) := by
  subst hp; exact own_st (fun t k => XS.icmpNo X.here hx rfl hd rfl hc k) h
theorem own_ifnullYes {Φ : Outcome → State → Prop} (X : Stand p l e R s m args below meth c T locs cells slots) (hx : p.tables.exec = Jvm.exec) {pc : Nat} (pc' : Nat) {Ls : Array Slot} {S : List Value} {o : Int}  (hd : decode c.code pc = .ok (.ifnull o, 3)) (h : own_Gs p e below Φ (T.setTop (mkF m pc' Ls S))) (hp : decide (0 ≤ (pc : Int) + o ∧ ((pc : Int) + o).toNat = pc') = true := by rfl) : own_Gs p e below Φ (T.setTop (mkF m pc Ls (.null :: S))) := by
  have q := of_decide_eq_true hp; exact own_st (fun t k => XS.ifnullYes X.here hx rfl (pc0 := pc) (pc' := pc') rfl hd rfl q.1 q.2 k) h
theorem own_ifnullNo {Φ : Outcome → State → Prop} (X : Stand p l e R s m args below meth c T locs cells slots) (hx : p.tables.exec = Jvm.exec) {pc : Nat} (pc' : Nat) {Ls : Array Slot} {S : List Value} {o : Int} {b : Addr} (hd : decode c.code pc = .ok (.ifnull o, 3)) (h : own_Gs p e below Φ (T.setTop (mkF m pc' Ls S))) (hp : pc + 3 = pc' := by rfl) : own_Gs p e below Φ (T.setTop (mkF m pc Ls (.ref b :: S))) := by
  subst hp; exact own_st (fun t k => XS.ifnullNo X.here hx rfl hd rfl k) h
theorem own_ifnonnullYes {Φ : Outcome → State → Prop} (X : Stand p l e R s m args below meth c T locs cells slots) (hx : p.tables.exec = Jvm.exec) {pc : Nat} (pc' : Nat) {Ls : Array Slot} {S : List Value} {o : Int} {b : Addr} (hd : decode c.code pc = .ok (.ifnonnull o, 3)) (h : own_Gs p e below Φ (T.setTop (mkF m pc' Ls S))) (hp : decide (0 ≤ (pc : Int) + o ∧ ((pc : Int) + o).toNat = pc') = true := by rfl) : own_Gs p e below Φ (T.setTop (mkF m pc Ls (.ref b :: S))) := by
  have q := of_decide_eq_true hp; exact own_st (fun t k => XS.ifnonnullYes X.here hx rfl (pc0 := pc) (pc' := pc') rfl hd rfl q.1 q.2 k) h
theorem own_ifnonnullNo {Φ : Outcome → State → Prop} (X : Stand p l e R s m args below meth c T locs cells slots) (hx : p.tables.exec = Jvm.exec) {pc : Nat} (pc' : Nat) {Ls : Array Slot} {S : List Value} {o : Int}  (hd : decode c.code pc = .ok (.ifnonnull o, 3)) (h : own_Gs p e below Φ (T.setTop (mkF m pc' Ls S))) (hp : pc + 3 = pc' := by rfl) : own_Gs p e below Φ (T.setTop (mkF m pc Ls (.null :: S))) := by
  subst hp; exact own_st (fun t k => XS.ifnonnullNo X.here hx rfl hd rfl k) h
theorem own_acmp {Φ : Outcome → State → Prop} (X : Stand p l e R s m args below meth c T locs cells slots) (hx : p.tables.exec = Jvm.exec) {pc : Nat} (pc' : Nat) {Ls : Array Slot} {S : List Value} {o : Int} {cd : ACond} {v w : Value} (same : Bool) (hd : decode c.code pc = .ok (.if_acmp cd o, 3)) (h1 : v.isRef = true) (h2 : w.isRef = true) (hq : decide (v = w) = same) (h : own_Gs p e below Φ (T.setTop (mkF m pc' Ls S))) (hp : decide (0 ≤ (pc : Int) + o ∧ pc' = if acV cd same = true then ((pc : Int) + o).toNat else pc + 3) = true := by rfl) : own_Gs p e below Φ (T.setTop (mkF m pc Ls (w :: v :: S))) := by
  have q := of_decide_eq_true hp; exact own_st (fun t k => Jvm.RoadKit.acmp (g := mkF m pc Ls (w :: v :: S)) X hx rfl h1 h2 (pc0 := pc) (pc' := pc') (same := same) rfl hd rfl hq q.1 q.2 k) h
theorem own_ldcI {Φ : Outcome → State → Prop} (X : Stand p l e R s m args below meth c T locs cells slots) (hx : p.tables.exec = Jvm.exec) {pc : Nat} (pc' : Nat) {Ls : Array Slot} {S : List Value} {own : String} {index : Nat} {v : Int32} (hown : s.vm.findClass own = some m.cls) (hw : (Jvm.Cond.constant own index v).before args s = true) (hd : decode c.code pc = .ok (.ldc index, 2)) (h : own_Gs p e below Φ (T.setTop (mkF m pc' Ls (.int v :: S)))) (hp : pc + 2 = pc' := by rfl) : own_Gs p e below Φ (T.setTop (mkF m pc Ls S)) := by
  subst hp; exact own_st (fun t k => X.ldcInt hx hown hw (g := mkF m pc Ls S) rfl hd _ k) h
theorem own_ldcwI {Φ : Outcome → State → Prop} (X : Stand p l e R s m args below meth c T locs cells slots) (hx : p.tables.exec = Jvm.exec) {pc : Nat} (pc' : Nat) {Ls : Array Slot} {S : List Value} {own : String} {index : Nat} {v : Int32} (hown : s.vm.findClass own = some m.cls) (hw : (Jvm.Cond.constant own index v).before args s = true) (hd : decode c.code pc = .ok (.ldc_w index, 3)) (h : own_Gs p e below Φ (T.setTop (mkF m pc' Ls (.int v :: S)))) (hp : pc + 3 = pc' := by rfl) : own_Gs p e below Φ (T.setTop (mkF m pc Ls S)) := by
  subst hp; exact own_st (fun t k => X.ldcwInt hx hown hw (g := mkF m pc Ls S) rfl hd _ k) h
theorem own_ldcL {Φ : Outcome → State → Prop} (X : Stand p l e R s m args below meth c T locs cells slots) (hx : p.tables.exec = Jvm.exec) {pc : Nat} (pc' : Nat) {Ls : Array Slot} {S : List Value} {own : String} {index : Nat} {v : Int64} (hown : s.vm.findClass own = some m.cls) (hw : (Jvm.Cond.constantLong own index v).before args s = true) (hd : decode c.code pc = .ok (.ldc2_w index, 3)) (h : own_Gs p e below Φ (T.setTop (mkF m pc' Ls (.long v :: S)))) (hp : pc + 3 = pc' := by rfl) : own_Gs p e below Φ (T.setTop (mkF m pc Ls S)) := by
  subst hp; exact own_st (fun t k => X.ldc2Long hx hown hw (g := mkF m pc Ls S) rfl hd _ k) h
theorem own_pop2L {Φ : Outcome → State → Prop} (X : Stand p l e R s m args below meth c T locs cells slots) (hx : p.tables.exec = Jvm.exec) {pc : Nat} (pc' : Nat) {Ls : Array Slot} {S : List Value} {x : Int64} (hd : decode c.code pc = .ok (.pop2, 1)) (h : own_Gs p e below Φ (T.setTop (mkF m pc' Ls S))) (hp : pc + 1 = pc' := by rfl) : own_Gs p e below Φ (T.setTop (mkF m pc Ls (.long x :: S))) := by
  subst hp
  refine own_st (fun t k => ?_) h
  show Steps p.tables e below (T.setTop { method := m, pc := pc, locals := Ls, stack := .long x :: S, locked := none }) _
  jvm_step X.here [X.here.top, hx, hd, Value.category]
  exact k
-- end of steps
theorem own_leafI {z w : Int32} (h : z = w) : some (Value.int z) = some (Value.int w) := by rw [h]
theorem own_leafJ {z w : Int64} (h : z = w) : some (Value.long z) = some (Value.long w) := by rw [h]
theorem own_leafR {z w : Addr} (h : z = w) : some (Value.ref z) = some (Value.ref w) := by rw [h]
theorem own_selfsel {Z s : State} {a0 args : Array Value} {y : MethodName} {n : Nat} (hZ : Z.Warmed39 s.vm) (wi : (Jvm.Cond.instantiable y.cls n).before a0 Z = true) (wm : (Jvm.Cond.instanceMethod y).before a0 Z = true) (wp : (Jvm.Cond.privateMethod y).before a0 Z = true) (hy : y.cls ≠ "java/lang/invoke/MethodHandle" ∧ y.cls ≠ "java/lang/invoke/VarHandle") : (Jvm.Cond.selects y.cls y y).before args s = true := by
  have wi' : (Jvm.Cond.instantiable y.cls n).before args s = true := mvT hZ wi
  obtain ⟨c, k, h1, h2, h3, h4, h5, h6⟩ := Cond.instantiable_spec wi'
  exact selects_self_of_private h1 h2 (by simp only [Bool.or_eq_false_iff] at h4; exact h4.1) (Cond.privateMethod_at (mvP hZ wp (args := #[]))) (mvT hZ wm) hy
theorem own_sta {Z : State} {a0 : Array Value} {C n d K : String} (hx : (Jvm.Cond.exactly (Term.static C n d) K).value a0 Z none Z [] = some true) (hi : (Jvm.Cond.initializedFor C n d).before a0 Z = true ∨ ((Jvm.Cond.initialized C).before a0 Z = true ∧ (Jvm.Cond.laysStatic C n d).before a0 Z = true)) :
    ∃ a : Addr, (Term.static C n d).eval a0 Z none [] Z = some (.ref a) ∧ Sta Z Z.heap C n d (.ref a) ∧ Exa Z Z.heap a K := by
  obtain ⟨a, ha⟩ := exa_v hx
  exact ⟨a, ha, Sta.start ha hi, Exa.start ha hx⟩
theorem own_fldI {Z : State} {a0 : Array Value} {t : Term} {a : Addr} {C n d : String} {k : Int32} (ev : t.eval a0 Z none [] Z = some (.ref a)) (h : (Jvm.Cond.eq (Term.field t C n d) (Term.int k)).value a0 Z none Z [] = some true) : Fld Z Z.heap a C n d (.int k) := by
  refine Fld.start ?_
  rw [← fld_at (args := a0) (first := Z) (o := none) (idx := []) ev]
  obtain ⟨x, y, h1, h2, h3, h4⟩ := cmp_v (Or.inl h)
  rw [Term.int_eval] at h2
  cases h2
  obtain ⟨z, rfl⟩ := h4
  have q : (Jvm.Cond.eq (Term.field t C n d) (Term.int k)).value a0 Z none Z [] = some (decide (z = k)) := Cond.eq_ints h1 (Term.int_eval k)
  rw [h1, gotT q h]
end Own
section OwnLam
variable {p : Program} {l : Launch} {e : Env} {R : Room} {s : State} {m : MethodId} {args : Array Value} {below : List Frame} {meth : Method} {c : Code} {T : State} {locs : List Loc} {cells slots : Nat}
/-- a lambda site that captures one object, linked: it makes one cell -/
theorem own_lam {Z : State} {a0 : Array Value} {h : Heap} (X : Stand p l e R s m args below meth c T locs cells slots) (hx : p.tables.exec = Jvm.exec) (hZ : Z.Warmed39 s.vm) {y : MethodName} {pc0 index : Nat} {σ : Lambda.Shape} {b : Addr} {K : String}
    (w : (Jvm.Cond.lambdaSite y pc0 index σ).before a0 Z = true) (hn : s.methodNamed? y = some m) (hcap : σ.captured = [.object K]) (wo : (Jvm.Cond.instantiable "java/lang/Object" 0).before a0 Z = true)
    (hlay : ((σ.file y.cls).bind (layoutFields · 0)).map (·.2.1) = some #[.object K]) (eT : T.heap = h) {g : JFrame} (hg : g.method = m) (hpc : g.pc = pc0) (hsize : g.locals.size = c.maxLocals) (hd : decode c.code g.pc = .ok (.invokedynamic index, 5)) {rest : List Value} (hs : g.stack = .ref b :: rest)
    (hwords : 2 * g.monitorRoom + (g.stack.map fun v => v.category).sum + 3072 ≤ R.locals) (hc : cells + 1 ≤ R.cells) (hl : slots + 1 ≤ R.slots) :
    ∃ T' h', Stand p l e R s m args below meth c T' locs (cells + 1) (slots + 1) ∧ T'.heap = h' ∧ Ext h h' ∧ ∀ target, Steps p.tables e below (T'.setTop { g with pc := g.pc + 5, stack := .ref h.size :: rest }) target → Steps p.tables e below (T.setTop g) target := by
  obtain ⟨cK, one, hat⟩ := Cond.lambdaSite_spec w
  obtain ⟨m', kS, cfS, i0, p0, lk, hm', hkS, hcfS, hshape, -, hfind, hmade, hcan, hlk⟩ := State.lambdaAt?_spec hat
  have hm2 : s.methodNamed? y = some m' := by
    have q := State.methodNamed?_setVm (s := Z) hZ.alike y
    rw [hm'] at q; exact q
  cases hn.symm.trans hm2
  obtain ⟨rfl, rfl, -⟩ : lk = .makes cK ∧ one = none ∧ σ.captured ≠ [] := by
    rcases hlk with ⟨a, cell, -, -, h, -⟩ | h
    · rw [hcap] at h; cases h
    · exact h
  obtain ⟨kS', hkS', hnameS⟩ := className_of_methodNamed hm'
  cases hkS.symm.trans hkS'
  obtain ⟨bsm, nt, desc, site, hcp, hnt, hsite, hpar⟩ := Lambda.shapeOf?_site hshape
  obtain ⟨kK, hkK, htyK, hkindK, hhid⟩ := Lambda.made_types hmade hkS wo (by rw [hnameS]; exact hlay)
  obtain ⟨kS1, hkS1, eS⟩ := hZ.alike.2.2 _ _ hkS
  obtain ⟨kK1, hkK1, eK⟩ := hZ.alike.2.2 _ _ hkK
  have hty1 : kK1.instanceTypes = #[.object K] := by rw [eK]; exact htyK
  have hkind1 : kK1.kind = .ordinary := by rw [eK]; exact hkindK
  have hslotsE : ((kK1.instanceTypes.toList.zip [(.ref b : Value)]).map fun (t, v) => narrow t v) = [.ref b] := by rw [hty1]; rfl
  subst hpc
  obtain ⟨X₁, st1⟩ := X.lambdaMakes hx (g := g) hg hsize hd (vals := [.ref b]) (rest := rest) hkS1 (by rw [eS]; exact hfind) (by rw [eS]; exact hcfS) hcp hnt (parseLong_of_parse hsite) (by rw [hpar, hcap]; rfl) hs hkK1
    (by rw [X.admits.platform]; exact hwords) hc (by rw [hslotsE]; exact hl)
    (fun i v hv => by
      rw [hslotsE] at hv
      match i, hv with
      | 0, hv => simp at hv; subst hv; simp [State.fitsSlot, State.slotType?, hkK1, hkind1, hty1, fits]
      | k + 1, hv => simp at hv)
  rw [hslotsE] at X₁ st1
  subst eT
  refine ⟨_, _, X₁, rfl, ⟨?_, fun a cc hh => ?_⟩, st1⟩
  · show T.heap.size ≤ (T.heap.push _).size
    simp
  · show (T.heap.push _)[a]? = _
    rw [Array.getElem?_push_lt (Array.getElem?_eq_some_iff.mp hh).1]; exact (Array.getElem?_eq_getElem _).symm.trans hh
end OwnLam

theorem own_lay : ((((Jvm.Lambda.Shape.mk "com/example/loomsand/loomsand/Feistel$Round" "hash" (Jvm.ClassFile.MethodDescriptor.mk ([Jvm.ClassFile.FieldType.int, Jvm.ClassFile.FieldType.long] : List Jvm.ClassFile.FieldType) (Option.some Jvm.ClassFile.FieldType.long)) ([(Jvm.ClassFile.FieldType.object "com/example/loomsand/loomsand/Draws")] : List Jvm.ClassFile.FieldType) (5 : Nat) "com/example/loomsand/loomsand/Draws" "shuffleRound" (Jvm.ClassFile.MethodDescriptor.mk ([Jvm.ClassFile.FieldType.int, Jvm.ClassFile.FieldType.long] : List Jvm.ClassFile.FieldType) (Option.some Jvm.ClassFile.FieldType.long)) false (Jvm.ClassFile.MethodDescriptor.mk ([Jvm.ClassFile.FieldType.int, Jvm.ClassFile.FieldType.long] : List Jvm.ClassFile.FieldType) (Option.some Jvm.ClassFile.FieldType.long)))).file "com/example/loomsand/loomsand/Draws").bind (layoutFields · 0)).map (·.2.1) = some #[.object "com/example/loomsand/loomsand/Draws"] := by decide +kernel
theorem own_d3_0 : decode prog_18_method_1_code 0 = .ok (.aload_n 0, 1) := by decide +kernel
theorem own_d3_1 : decode prog_18_method_1_code 1 = .ok (.invokespecial 1, 3) := by decide +kernel
theorem own_d3_4 : decode prog_18_method_1_code 4 = .ok (.aload_n 0, 1) := by decide +kernel
theorem own_d3_5 : decode prog_18_method_1_code 5 = .ok (.aload_n 1, 1) := by decide +kernel
theorem own_d3_6 : decode prog_18_method_1_code 6 = .ok (.putfield 7, 3) := by decide +kernel
theorem own_d3_9 : decode prog_18_method_1_code 9 = .ok (.return_, 1) := by decide +kernel
theorem own_pn0 : plainName "com/example/loomsand/loomsand/Feistel" = true := by first | (simp [plainName, overriddenIn]; done) | decide +kernel
theorem own_ef3 (m : MethodId) (o1 : Addr) (o2 : Addr) : entryFrame m #[(.ref o1), (.ref o2)] 2 = mkF m 0 #[.val (.ref o1), .val (.ref o2)] [] := by first | (simp [entryFrame, mkF, argsToLocals, Value.category]; done) | rfl
def own_Q3 (Z : State) (o1 : Addr) (o2 : Addr) (h0 : Heap) (n0 : Nat) (v : Option Value) (h : Heap) (L : List Loc) : Prop := v = none ∧ Fr n0 L ∧ Keep h0 h [o1] ∧ Exa Z h o1 "com/example/loomsand/loomsand/Feistel"
set_option maxRecDepth 65536 in
set_option maxHeartbeats 40000000 in
theorem own_rm3 (l : Launch) (Z : State) (a0 : Array Value) (hw : ∀ d ∈ tables_1, d.before a0 Z = true) (ws : List Jvm.Cond) (o1 : Addr) (o2 : Addr) (h0 : Heap) (n0 : Nat) (Z0 : n0 ≤ h0.size) (pE1 : Exa Z h0 o1 "com/example/loomsand/loomsand/Feistel") (pF2 : Fld Z h0 o1 "com/example/loomsand/loomsand/Feistel" "round" "Lcom/example/loomsand/loomsand/Feistel$Round;" .null) (pG3 : n0 ≤ o1) :
    MetFree l (⟨"com/example/loomsand/loomsand/Feistel", "<init>", "(Lcom/example/loomsand/loomsand/Feistel$Round;)V"⟩ : MethodName) (head1 (Jvm.Cond.code (⟨"com/example/loomsand/loomsand/Feistel", "<init>", "(Lcom/example/loomsand/loomsand/Feistel$Round;)V"⟩ : MethodName) prog_18_method_1_code 2 none :: ws) ({ frames := 1, cells := 0, slots := 0, locals := 12 } : Room)) (fun a U => a = #[(.ref o1), (.ref o2)] ∧ Z.Warmed39 U.vm ∧ U.heap = h0) (fun _ _ _ _ _ => True) (fun _ U o U' => ∃ v L, o = .returned v ∧ own_Q3 Z o1 o2 h0 n0 v U'.heap L ∧ FrameEnd U o U' L ({ frames := 1, cells := 0, slots := 0, locals := 12 } : Room).cells ({ frames := 1, cells := 0, slots := 0, locals := 12 } : Room).slots) := by
  refine MetFree.of_bodySF (plainFor_of_name own_pn0) hisR ?_
  intro p e s m args below meth c s₁ Bd hml0 hP hK
  obtain ⟨rfl, hZ, hh⟩ := hP
  have hx := Bd.exec
  have hby := Bd.bytes
  have hlk := Bd.notSynchronized
  have hrt := Bd.returns
  have hml : c.maxLocals = 2 := hml0
  have hown : s.vm.findClass "com/example/loomsand/loomsand/Feistel" = some m.cls := findClass_of_methodNamed Bd.named
  have hnm := (name_of_methodNamed Bd.named Bd.method).1
  have X0 : Stand p l e ({ frames := 1, cells := 0, slots := 0, locals := 12 } : Room) s m #[(.ref o1), (.ref o2)] below meth c s₁ [] 0 0 := Stand.of_body Bd
  have e0 : s₁.heap = h0 := by rw [← hh, Bd.state]; rfl
  have N0 := Fr.nil n0
  have KC0 := Keep.refl h0 [o1]
  refine own_in (own_ef3 m o1 o2) ?_
  refine own_aloadN X0 hx 1 (hb hby own_d3_0) rfl rfl ?_
  obtain ⟨T1, X1, e1, st1⟩ := initO X0 hx hZ hown (hw _ (List.mem_of_getElem? (i := 19) rfl)) (hw _ (List.mem_of_getElem? (i := 7) rfl)) (hw _ (List.mem_of_getElem? (i := 8) rfl)) e0 (g := (mkF m 1 #[.val (.ref o1), .val (.ref o2)] [(.ref o1)])) rfl (by rw [hml]; rfl) rfl (hb hby own_d3_1) (by decide) (W := 0) (by show 2 * 0 + _ ≤ _; exact Nat.le_of_eq rfl) (by decide)
  refine own_st (G' := T1.setTop (mkF m 4 #[.val (.ref o1), .val (.ref o2)] [])) st1 ?_
  refine own_aloadN X1 hx 5 (hb hby own_d3_4) rfl rfl ?_
  refine own_aloadN X1 hx 6 (hb hby own_d3_5) rfl rfl ?_
  obtain ⟨T2, h2, X2, e2, W2, st2⟩ := putF X1 hx hZ hown (host := "") (Or.inl (hw _ (List.mem_of_getElem? (i := 20) rfl))) Via.refl e1 pF2 pE1 (Or.inr ⟨(hw _ (List.mem_of_getElem? (i := 21) rfl)), rfl, hnm⟩) (hw _ (List.mem_of_getElem? (i := 10) rfl)) (v := (.ref o2)) (ty := (.object "com/example/loomsand/loomsand/Feistel$Round")) (by decide) rfl rfl (g := (mkF m 6 #[.val (.ref o1), .val (.ref o2)] [(.ref o2), (.ref o1)])) rfl rfl (hb hby own_d3_6)
  have Fw2 := pF2.same W2
  have N2 := Fr.snoc X2 N0 pG3
  have KC3 := KC0.wr W2 (Or.inl (List.mem_of_getElem? (i := 0) rfl))
  have Z4 := Nat.le_trans Z0 (Nat.le_of_eq W2.size.symm)
  refine own_st (G' := T2.setTop (mkF m 9 #[.val (.ref o1), .val (.ref o2)] [])) st2 ?_
  have f5 := (pE1.wr W2)
  exact own_retV (Q := own_Q3 Z o1 o2 h0 n0) X2 hx hrt (hb hby own_d3_9) hlk e2 ⟨rfl, N2, KC3, f5⟩ (by decide) (by decide)
theorem own_d1_0 : decode prog_16_method_1_code 0 = .ok (.aload_n 0, 1) := by decide +kernel
theorem own_d1_1 : decode prog_16_method_1_code 1 = .ok (.invokespecial 1, 3) := by decide +kernel
theorem own_d1_4 : decode prog_16_method_1_code 4 = .ok (.aload_n 0, 1) := by decide +kernel
theorem own_d1_5 : decode prog_16_method_1_code 5 = .ok (.new 7, 3) := by decide +kernel
theorem own_d1_8 : decode prog_16_method_1_code 8 = .ok (.dup, 1) := by decide +kernel
theorem own_d1_9 : decode prog_16_method_1_code 9 = .ok (.aload_n 0, 1) := by decide +kernel
theorem own_d1_10 : decode prog_16_method_1_code 10 = .ok (.invokedynamic 9, 5) := by decide +kernel
theorem own_d1_15 : decode prog_16_method_1_code 15 = .ok (.invokespecial 13, 3) := by decide +kernel
theorem own_d1_18 : decode prog_16_method_1_code 18 = .ok (.putfield 16, 3) := by decide +kernel
theorem own_d1_21 : decode prog_16_method_1_code 21 = .ok (.return_, 1) := by decide +kernel
theorem own_pn1 : plainName "com/example/loomsand/loomsand/Draws" = true := by first | (simp [plainName, overriddenIn]; done) | decide +kernel
theorem own_pd0 : parseMethodDescriptor "(Lcom/example/loomsand/loomsand/Feistel$Round;)V" = some ⟨[(.object "com/example/loomsand/loomsand/Feistel$Round")], none⟩ := by decide +kernel
theorem own_ef1 (m : MethodId) (o1 : Addr) : entryFrame m #[(.ref o1)] 1 = mkF m 0 #[.val (.ref o1)] [] := by first | (simp [entryFrame, mkF, argsToLocals, Value.category]; done) | rfl
def own_Q1 (Z : State) (o1 : Addr) (h0 : Heap) (n0 : Nat) (v : Option Value) (h : Heap) (L : List Loc) : Prop := v = none ∧ Fr n0 L ∧ Keep h0 h [o1] ∧ Exa Z h o1 "com/example/loomsand/loomsand/Draws" ∧ Fld Z h o1 "com/example/loomsand/loomsand/Draws" "key" "J" (.long (0 : Int64)) ∧ Fld Z h o1 "com/example/loomsand/loomsand/Draws" "row" "J" (.long (0 : Int64)) ∧ Fld Z h o1 "com/example/loomsand/loomsand/Draws" "state" "J" (.long (0 : Int64))
set_option maxRecDepth 65536 in
set_option maxHeartbeats 40000000 in
theorem own_rm1 (l : Launch) (Z : State) (a0 : Array Value) (hw : ∀ d ∈ tables_1, d.before a0 Z = true) (ws : List Jvm.Cond) (o1 : Addr) (h0 : Heap) (n0 : Nat) (Z0 : n0 ≤ h0.size) (pE1 : Exa Z h0 o1 "com/example/loomsand/loomsand/Draws") (pF2 : Fld Z h0 o1 "com/example/loomsand/loomsand/Draws" "shuffle" "Lcom/example/loomsand/loomsand/Feistel;" .null) (pF3 : Fld Z h0 o1 "com/example/loomsand/loomsand/Draws" "key" "J" (.long (0 : Int64))) (pF4 : Fld Z h0 o1 "com/example/loomsand/loomsand/Draws" "row" "J" (.long (0 : Int64))) (pF5 : Fld Z h0 o1 "com/example/loomsand/loomsand/Draws" "state" "J" (.long (0 : Int64))) (pG6 : n0 ≤ o1) :
    MetFree l (⟨"com/example/loomsand/loomsand/Draws", "<init>", "()V"⟩ : MethodName) (head1 (Jvm.Cond.code (⟨"com/example/loomsand/loomsand/Draws", "<init>", "()V"⟩ : MethodName) prog_16_method_1_code 1 none :: ws) ({ frames := 2, cells := 2, slots := 4, locals := 3076 } : Room)) (fun a U => a = #[(.ref o1)] ∧ Z.Warmed39 U.vm ∧ U.heap = h0) (fun _ _ _ _ _ => True) (fun _ U o U' => ∃ v L, o = .returned v ∧ own_Q1 Z o1 h0 n0 v U'.heap L ∧ FrameEnd U o U' L ({ frames := 2, cells := 2, slots := 4, locals := 3076 } : Room).cells ({ frames := 2, cells := 2, slots := 4, locals := 3076 } : Room).slots) := by
  refine MetFree.of_bodySF (plainFor_of_name own_pn1) hisR ?_
  intro p e s m args below meth c s₁ Bd hml0 hP hK
  obtain ⟨rfl, hZ, hh⟩ := hP
  have hx := Bd.exec
  have hby := Bd.bytes
  have hlk := Bd.notSynchronized
  have hrt := Bd.returns
  have hml : c.maxLocals = 1 := hml0
  have hown : s.vm.findClass "com/example/loomsand/loomsand/Draws" = some m.cls := findClass_of_methodNamed Bd.named
  have hnm := (name_of_methodNamed Bd.named Bd.method).1
  have X0 : Stand p l e ({ frames := 2, cells := 2, slots := 4, locals := 3076 } : Room) s m #[(.ref o1)] below meth c s₁ [] 0 0 := Stand.of_body Bd
  have e0 : s₁.heap = h0 := by rw [← hh, Bd.state]; rfl
  have N0 := Fr.nil n0
  have KC0 := Keep.refl h0 [o1]
  refine own_in (own_ef1 m o1) ?_
  refine own_aloadN X0 hx 1 (hb hby own_d1_0) rfl rfl ?_
  obtain ⟨T1, X1, e1, st1⟩ := initO X0 hx hZ hown (hw _ (List.mem_of_getElem? (i := 6) rfl)) (hw _ (List.mem_of_getElem? (i := 7) rfl)) (hw _ (List.mem_of_getElem? (i := 8) rfl)) e0 (g := (mkF m 1 #[.val (.ref o1)] [(.ref o1)])) rfl (by rw [hml]; rfl) rfl (hb hby own_d1_1) (by decide) (W := 0) (by show 2 * 0 + _ ≤ _; exact Nat.le_of_eq rfl) (by decide)
  refine own_st (G' := T1.setTop (mkF m 4 #[.val (.ref o1)] [])) st1 ?_
  refine own_aloadN X1 hx 5 (hb hby own_d1_4) rfl rfl ?_
  obtain ⟨T2, h2, X2, e2, E2, A2, D2, -, st2⟩ := newO X1 hx hZ hown (hw _ (List.mem_of_getElem? (i := 9) rfl)) (hw _ (List.mem_of_getElem? (i := 10) rfl)) (hw _ (List.mem_of_getElem? (i := 11) rfl)) e1 (g := (mkF m 5 #[.val (.ref o1)] [(.ref o1)])) rfl (hb hby own_d1_5) (by decide) (by decide)
  obtain ⟨b2, g2⟩ : ∃ z, z = h0.size := ⟨_, rfl⟩
  rw [← g2] at A2 D2 st2
  have ne3 : o1 ≠ b2 := Nat.ne_of_lt (Nat.lt_of_lt_of_le pE1.lt (Nat.le_of_eq g2.symm))
  have gt_b2 : n0 ≤ b2 := Nat.le_trans Z0 (Nat.le_of_eq g2.symm)
  have sz_b2 : h0.size ≤ b2 := Nat.le_trans KC0.1 (Nat.le_of_eq g2.symm)
  have KC4 := KC0.ext E2
  have Z5 := Nat.le_trans Z0 E2.1
  have F2_round : Fld Z h2 b2 "com/example/loomsand/loomsand/Feistel" "round" "Lcom/example/loomsand/loomsand/Feistel$Round;" .null := D2 (Or.inr (hw _ (List.mem_of_getElem? (i := 21) rfl))) (ty := (.object "com/example/loomsand/loomsand/Feistel$Round")) (by decide)
  refine own_st (G' := T2.setTop (mkF m 8 #[.val (.ref o1)] [(.ref b2), (.ref o1)])) st2 ?_
  refine own_dup X2 hx 9 (hb hby own_d1_8) rfl ?_
  refine own_aloadN X2 hx 10 (hb hby own_d1_9) rfl rfl ?_
  obtain ⟨T6, h6, X6, e6, E6, st6⟩ := own_lam X2 hx hZ (y := (⟨"com/example/loomsand/loomsand/Draws", "<init>", "()V"⟩ : MethodName)) (pc0 := 10) (hw _ (List.mem_of_getElem? (i := 12) rfl)) Bd.named rfl (hw _ (List.mem_of_getElem? (i := 15) rfl)) own_lay e2 (g := (mkF m 10 #[.val (.ref o1)] [(.ref o1), (.ref b2), (.ref b2), (.ref o1)])) rfl rfl (by rw [hml]; rfl) (hb hby own_d1_10) rfl (Nat.le_of_ble_eq_true rfl) (by decide) (by decide)
  obtain ⟨b6, g6⟩ : ∃ z, z = h2.size := ⟨_, rfl⟩
  rw [← g6] at st6
  have f7 := (pE1.ext E2)
  have ne8 : o1 ≠ b6 := Nat.ne_of_lt (Nat.lt_of_lt_of_le f7.lt (Nat.le_of_eq g6.symm))
  have ne9 : b2 ≠ b6 := Nat.ne_of_lt (Nat.lt_of_lt_of_le A2.lt (Nat.le_of_eq g6.symm))
  have gt_b6 : n0 ≤ b6 := Nat.le_trans Z5 (Nat.le_of_eq g6.symm)
  have sz_b6 : h0.size ≤ b6 := Nat.le_trans KC4.1 (Nat.le_of_eq g6.symm)
  have KC10 := KC4.ext E6
  have Z11 := Nat.le_trans Z5 E6.1
  refine own_st (G' := T6.setTop (mkF m 15 #[.val (.ref o1)] [(.ref b6), (.ref b2), (.ref b2), (.ref o1)])) st6 ?_
  have f12 := (A2.ext E6)
  have f13 := (F2_round.ext E6)
  obtain ⟨_, _, ⟨T14, Lx14, kc14, nc14⟩, -, X14, ⟨Lc14, hQ14, lq14, yq14, zq14⟩, st14⟩ := X6.specialBack hx (y := (⟨"com/example/loomsand/loomsand/Feistel", "<init>", "(Lcom/example/loomsand/loomsand/Feistel$Round;)V"⟩ : MethodName)) rfl hown (mvT hZ (hw _ (List.mem_of_getElem? (i := 16) rfl))) (mvT hZ (hw _ (List.mem_of_getElem? (i := 17) rfl))) (mvT hZ (hw _ (List.mem_of_getElem? (i := 18) rfl))) (by decide) (backOf (W := 2) (own_rm3 l Z a0 hw [] b2 b6 h6 n0 Z11 f12 f13 gt_b2) hZ (hw _ (List.mem_of_getElem? (i := 18) rfl)) (hw _ (List.mem_of_getElem? (i := 11) rfl)) (by decide) (by decide)) (g := (mkF m 15 #[.val (.ref o1)] [(.ref b6), (.ref b2), (.ref b2), (.ref o1)])) rfl (by rw [hml]; rfl) (Steps.refl _) (a := b2) (argsL := [(.ref b6)]) (rest := [(.ref b2), (.ref o1)]) (lenOf own_pd0 rfl) rfl (by show 2 * 0 + _ ≤ _; exact Nat.le_of_eq rfl) (hb hby own_d1_15) (fun _ _ => ⟨rfl, e6, (by decide : 2 + 0 ≤ _), (by decide : 4 + 0 ≤ _)⟩)
  dsimp only [Pt.U, Pt.locs, Pt.cells, Pt.slots] at X14 lq14 yq14 zq14 st14 hQ14
  subst lq14 yq14 zq14
  obtain ⟨rfl, Nq14, Kp14, G14_0⟩ := hQ14
  have N14 := Fr.app N0 Nq14
  have KC15 := KC10.trans Kp14 (allS (Or.inr sz_b2) all0)
  have Z16 := Nat.le_trans Z11 Kp14.1
  refine own_st (G' := T14.setTop (mkF m 18 #[.val (.ref o1)] [(.ref b2), (.ref o1)])) (fun t k => st14.trans k) ?_
  have f17 := (((pF2.ext E2).ext E6).keep Kp14 (ninS ne3 nin0))
  have f18 := ((f7.ext E6).keep Kp14)
  obtain ⟨T19, h19, X19, e19, W19, st19⟩ := putF X14 hx hZ hown (host := "") (Or.inl (hw _ (List.mem_of_getElem? (i := 22) rfl))) Via.refl rfl f17 f18 (Or.inr ⟨(hw _ (List.mem_of_getElem? (i := 23) rfl)), rfl, hnm⟩) (hw _ (List.mem_of_getElem? (i := 1) rfl)) (v := (.ref b2)) (ty := (.object "com/example/loomsand/loomsand/Feistel")) (by decide) rfl rfl (g := (mkF m 18 #[.val (.ref o1)] [(.ref b2), (.ref o1)])) rfl rfl (hb hby own_d1_18)
  have Fw19 := f17.same W19
  have N19 := Fr.snoc X19 N14 pG6
  have KC20 := KC15.wr W19 (Or.inl (List.mem_of_getElem? (i := 0) rfl))
  have Z21 := Nat.le_trans Z16 (Nat.le_of_eq W19.size.symm)
  refine own_st (G' := T19.setTop (mkF m 21 #[.val (.ref o1)] [])) st19 ?_
  have f22 := (f18.wr W19)
  have f23 := ((((pF3.ext E2).ext E6).keep Kp14 (ninS ne3 nin0)).other W19 (Or.inr (slot_ne (Or.inl (hw _ (List.mem_of_getElem? (i := 30) rfl))) (Or.inr (hw _ (List.mem_of_getElem? (i := 23) rfl))) (by decide) (t := .long) (t' := (.object "com/example/loomsand/loomsand/Feistel")) (by decide) (by decide))))
  have f24 := ((((pF4.ext E2).ext E6).keep Kp14 (ninS ne3 nin0)).other W19 (Or.inr (slot_ne (Or.inl (hw _ (List.mem_of_getElem? (i := 32) rfl))) (Or.inr (hw _ (List.mem_of_getElem? (i := 23) rfl))) (by decide) (t := .long) (t' := (.object "com/example/loomsand/loomsand/Feistel")) (by decide) (by decide))))
  have f25 := ((((pF5.ext E2).ext E6).keep Kp14 (ninS ne3 nin0)).other W19 (Or.inr (slot_ne (Or.inl (hw _ (List.mem_of_getElem? (i := 40) rfl))) (Or.inr (hw _ (List.mem_of_getElem? (i := 23) rfl))) (by decide) (t := .long) (t' := (.object "com/example/loomsand/loomsand/Feistel")) (by decide) (by decide))))
  exact own_retV (Q := own_Q1 Z o1 h0 n0) X19 hx hrt (hb hby own_d1_21) hlk e19 ⟨rfl, N19, KC20, f22, f23, f24, f25⟩ (by decide) (by decide)
theorem own_d5_0 : decode prog_16_method_14_code 0 = .ok (.lload_n 0, 1) := by decide +kernel
theorem own_d5_1 : decode prog_16_method_14_code 1 = .ok (.lload_n 0, 1) := by decide +kernel
theorem own_d5_2 : decode prog_16_method_14_code 2 = .ok (.bipush 30, 2) := by decide +kernel
theorem own_d5_4 : decode prog_16_method_14_code 4 = .ok (.lushr, 1) := by decide +kernel
theorem own_d5_5 : decode prog_16_method_14_code 5 = .ok (.lxor, 1) := by decide +kernel
theorem own_d5_6 : decode prog_16_method_14_code 6 = .ok (.ldc2_w 140, 3) := by decide +kernel
theorem own_d5_9 : decode prog_16_method_14_code 9 = .ok (.lmul, 1) := by decide +kernel
theorem own_d5_10 : decode prog_16_method_14_code 10 = .ok (.lstore_n 0, 1) := by decide +kernel
theorem own_d5_11 : decode prog_16_method_14_code 11 = .ok (.lload_n 0, 1) := by decide +kernel
theorem own_d5_12 : decode prog_16_method_14_code 12 = .ok (.lload_n 0, 1) := by decide +kernel
theorem own_d5_13 : decode prog_16_method_14_code 13 = .ok (.bipush 27, 2) := by decide +kernel
theorem own_d5_15 : decode prog_16_method_14_code 15 = .ok (.lushr, 1) := by decide +kernel
theorem own_d5_16 : decode prog_16_method_14_code 16 = .ok (.lxor, 1) := by decide +kernel
theorem own_d5_17 : decode prog_16_method_14_code 17 = .ok (.ldc2_w 142, 3) := by decide +kernel
theorem own_d5_20 : decode prog_16_method_14_code 20 = .ok (.lmul, 1) := by decide +kernel
theorem own_d5_21 : decode prog_16_method_14_code 21 = .ok (.lstore_n 0, 1) := by decide +kernel
theorem own_d5_22 : decode prog_16_method_14_code 22 = .ok (.lload_n 0, 1) := by decide +kernel
theorem own_d5_23 : decode prog_16_method_14_code 23 = .ok (.lload_n 0, 1) := by decide +kernel
theorem own_d5_24 : decode prog_16_method_14_code 24 = .ok (.bipush 31, 2) := by decide +kernel
theorem own_d5_26 : decode prog_16_method_14_code 26 = .ok (.lushr, 1) := by decide +kernel
theorem own_d5_27 : decode prog_16_method_14_code 27 = .ok (.lxor, 1) := by decide +kernel
theorem own_d5_28 : decode prog_16_method_14_code 28 = .ok (.lreturn, 1) := by decide +kernel
theorem own_ef5 (m : MethodId) (q1 : Int64) : entryFrame m #[(.long q1)] 2 = mkF m 0 #[.val (.long q1), .second] [] := by first | (simp [entryFrame, mkF, argsToLocals, Value.category]; done) | rfl
def own_mix (q1 : Int64) : Int64 := (((((q1 ^^^ ((q1.toUInt64 >>> ((30 : Int32) &&& 0x3f).toInt64.toUInt64).toInt64)) * (-4658895280553007687 : Int64)) ^^^ ((((q1 ^^^ ((q1.toUInt64 >>> ((30 : Int32) &&& 0x3f).toInt64.toUInt64).toInt64)) * (-4658895280553007687 : Int64)).toUInt64 >>> ((27 : Int32) &&& 0x3f).toInt64.toUInt64).toInt64)) * (-7723592293110705685 : Int64)) ^^^ ((((((q1 ^^^ ((q1.toUInt64 >>> ((30 : Int32) &&& 0x3f).toInt64.toUInt64).toInt64)) * (-4658895280553007687 : Int64)) ^^^ ((((q1 ^^^ ((q1.toUInt64 >>> ((30 : Int32) &&& 0x3f).toInt64.toUInt64).toInt64)) * (-4658895280553007687 : Int64)).toUInt64 >>> ((27 : Int32) &&& 0x3f).toInt64.toUInt64).toInt64)) * (-7723592293110705685 : Int64)).toUInt64 >>> ((31 : Int32) &&& 0x3f).toInt64.toUInt64).toInt64))
def own_Q5 (Z : State) (q1 : Int64) (h0 : Heap) (n0 : Nat) (v : Option Value) (h : Heap) (L : List Loc) : Prop := v = some (.long (own_mix q1)) ∧ Fr n0 L ∧ h = h0
set_option maxRecDepth 65536 in
set_option maxHeartbeats 40000000 in
theorem own_rm5 (l : Launch) (Z : State) (a0 : Array Value) (hw : ∀ d ∈ tables_1, d.before a0 Z = true) (ws : List Jvm.Cond) (q1 : Int64) (h0 : Heap) (n0 : Nat) (Z0 : n0 ≤ h0.size)  :
    MetFree l (⟨"com/example/loomsand/loomsand/Draws", "mix", "(J)J"⟩ : MethodName) (head1 (Jvm.Cond.code (⟨"com/example/loomsand/loomsand/Draws", "mix", "(J)J"⟩ : MethodName) prog_16_method_14_code 2 (some .long) :: ws) ({ frames := 0, cells := 0, slots := 0, locals := 0 } : Room)) (fun a U => a = #[(.long q1)] ∧ Z.Warmed39 U.vm ∧ U.heap = h0) (fun _ _ _ _ _ => True) (fun _ U o U' => ∃ v L, o = .returned v ∧ own_Q5 Z q1 h0 n0 v U'.heap L ∧ FrameEnd U o U' L ({ frames := 0, cells := 0, slots := 0, locals := 0 } : Room).cells ({ frames := 0, cells := 0, slots := 0, locals := 0 } : Room).slots) := by
  refine MetFree.of_bodySF (plainFor_of_name own_pn1) hisR ?_
  intro p e s m args below meth c s₁ Bd hml0 hP hK
  obtain ⟨rfl, hZ, hh⟩ := hP
  have hx := Bd.exec
  have hby := Bd.bytes
  have hlk := Bd.notSynchronized
  have hrt := Bd.returns
  have hml : c.maxLocals = 2 := hml0
  have hown : s.vm.findClass "com/example/loomsand/loomsand/Draws" = some m.cls := findClass_of_methodNamed Bd.named
  have hnm := (name_of_methodNamed Bd.named Bd.method).1
  have X0 : Stand p l e ({ frames := 0, cells := 0, slots := 0, locals := 0 } : Room) s m #[(.long q1)] below meth c s₁ [] 0 0 := Stand.of_body Bd
  have e0 : s₁.heap = h0 := by rw [← hh, Bd.state]; rfl
  have N0 := Fr.nil n0
  refine own_in (own_ef5 m q1) ?_
  refine own_lloadN X0 hx 1 (hb hby own_d5_0) rfl ?_
  refine own_lloadN X0 hx 2 (hb hby own_d5_1) rfl ?_
  refine own_bipush X0 hx 4 (30 : Int32) (hb hby own_d5_2) rfl ?_
  refine own_lushr X0 hx 5 (hb hby own_d5_4) ?_
  refine own_lxor X0 hx 6 (hb hby own_d5_5) ?_
  refine own_ldcL X0 hx 9 hown (mvT hZ (hw _ (List.mem_of_getElem? (i := 37) rfl))) (hb hby own_d5_6) ?_
  refine own_lmul X0 hx 10 (hb hby own_d5_9) ?_
  refine own_lstoreN X0 hx 11 #[.val (.long ((q1 ^^^ ((q1.toUInt64 >>> ((30 : Int32) &&& 0x3f).toInt64.toUInt64).toInt64)) * (-4658895280553007687 : Int64))), .second] (hb hby own_d5_10) rfl ?_
  refine own_lloadN X0 hx 12 (hb hby own_d5_11) rfl ?_
  refine own_lloadN X0 hx 13 (hb hby own_d5_12) rfl ?_
  refine own_bipush X0 hx 15 (27 : Int32) (hb hby own_d5_13) rfl ?_
  refine own_lushr X0 hx 16 (hb hby own_d5_15) ?_
  refine own_lxor X0 hx 17 (hb hby own_d5_16) ?_
  refine own_ldcL X0 hx 20 hown (mvT hZ (hw _ (List.mem_of_getElem? (i := 38) rfl))) (hb hby own_d5_17) ?_
  refine own_lmul X0 hx 21 (hb hby own_d5_20) ?_
  refine own_lstoreN X0 hx 22 #[.val (.long ((((q1 ^^^ ((q1.toUInt64 >>> ((30 : Int32) &&& 0x3f).toInt64.toUInt64).toInt64)) * (-4658895280553007687 : Int64)) ^^^ ((((q1 ^^^ ((q1.toUInt64 >>> ((30 : Int32) &&& 0x3f).toInt64.toUInt64).toInt64)) * (-4658895280553007687 : Int64)).toUInt64 >>> ((27 : Int32) &&& 0x3f).toInt64.toUInt64).toInt64)) * (-7723592293110705685 : Int64))), .second] (hb hby own_d5_21) rfl ?_
  refine own_lloadN X0 hx 23 (hb hby own_d5_22) rfl ?_
  refine own_lloadN X0 hx 24 (hb hby own_d5_23) rfl ?_
  refine own_bipush X0 hx 26 (31 : Int32) (hb hby own_d5_24) rfl ?_
  refine own_lushr X0 hx 27 (hb hby own_d5_26) ?_
  refine own_lxor X0 hx 28 (hb hby own_d5_27) ?_
  exact own_retL (z := (((((q1 ^^^ ((q1.toUInt64 >>> ((30 : Int32) &&& 0x3f).toInt64.toUInt64).toInt64)) * (-4658895280553007687 : Int64)) ^^^ ((((q1 ^^^ ((q1.toUInt64 >>> ((30 : Int32) &&& 0x3f).toInt64.toUInt64).toInt64)) * (-4658895280553007687 : Int64)).toUInt64 >>> ((27 : Int32) &&& 0x3f).toInt64.toUInt64).toInt64)) * (-7723592293110705685 : Int64)) ^^^ ((((((q1 ^^^ ((q1.toUInt64 >>> ((30 : Int32) &&& 0x3f).toInt64.toUInt64).toInt64)) * (-4658895280553007687 : Int64)) ^^^ ((((q1 ^^^ ((q1.toUInt64 >>> ((30 : Int32) &&& 0x3f).toInt64.toUInt64).toInt64)) * (-4658895280553007687 : Int64)).toUInt64 >>> ((27 : Int32) &&& 0x3f).toInt64.toUInt64).toInt64)) * (-7723592293110705685 : Int64)).toUInt64 >>> ((31 : Int32) &&& 0x3f).toInt64.toUInt64).toInt64))) (Q := own_Q5 Z q1 h0 n0) X0 hx hrt (hb hby own_d5_28) hlk e0 ⟨(own_leafJ (show (((((q1 ^^^ ((q1.toUInt64 >>> ((30 : Int32) &&& 0x3f).toInt64.toUInt64).toInt64)) * (-4658895280553007687 : Int64)) ^^^ ((((q1 ^^^ ((q1.toUInt64 >>> ((30 : Int32) &&& 0x3f).toInt64.toUInt64).toInt64)) * (-4658895280553007687 : Int64)).toUInt64 >>> ((27 : Int32) &&& 0x3f).toInt64.toUInt64).toInt64)) * (-7723592293110705685 : Int64)) ^^^ ((((((q1 ^^^ ((q1.toUInt64 >>> ((30 : Int32) &&& 0x3f).toInt64.toUInt64).toInt64)) * (-4658895280553007687 : Int64)) ^^^ ((((q1 ^^^ ((q1.toUInt64 >>> ((30 : Int32) &&& 0x3f).toInt64.toUInt64).toInt64)) * (-4658895280553007687 : Int64)).toUInt64 >>> ((27 : Int32) &&& 0x3f).toInt64.toUInt64).toInt64)) * (-7723592293110705685 : Int64)).toUInt64 >>> ((31 : Int32) &&& 0x3f).toInt64.toUInt64).toInt64)) = own_mix q1 from rfl)), N0, rfl⟩ (by decide) (by decide)
theorem own_d4_0 : decode prog_16_method_3_code 0 = .ok (.aload_n 0, 1) := by decide +kernel
theorem own_d4_1 : decode prog_16_method_3_code 1 = .ok (.lload_n 1, 1) := by decide +kernel
theorem own_d4_2 : decode prog_16_method_3_code 2 = .ok (.putfield 42, 3) := by decide +kernel
theorem own_d4_5 : decode prog_16_method_3_code 5 = .ok (.aload_n 0, 1) := by decide +kernel
theorem own_d4_6 : decode prog_16_method_3_code 6 = .ok (.lload_n 3, 1) := by decide +kernel
theorem own_d4_7 : decode prog_16_method_3_code 7 = .ok (.putfield 46, 3) := by decide +kernel
theorem own_d4_10 : decode prog_16_method_3_code 10 = .ok (.aload_n 0, 1) := by decide +kernel
theorem own_d4_11 : decode prog_16_method_3_code 11 = .ok (.lload_n 1, 1) := by decide +kernel
theorem own_d4_12 : decode prog_16_method_3_code 12 = .ok (.lload_n 3, 1) := by decide +kernel
theorem own_d4_13 : decode prog_16_method_3_code 13 = .ok (.ldc2_w 49, 3) := by decide +kernel
theorem own_d4_16 : decode prog_16_method_3_code 16 = .ok (.lmul, 1) := by decide +kernel
theorem own_d4_17 : decode prog_16_method_3_code 17 = .ok (.ladd, 1) := by decide +kernel
theorem own_d4_18 : decode prog_16_method_3_code 18 = .ok (.invokestatic 38, 3) := by decide +kernel
theorem own_d4_21 : decode prog_16_method_3_code 21 = .ok (.putfield 51, 3) := by decide +kernel
theorem own_d4_24 : decode prog_16_method_3_code 24 = .ok (.return_, 1) := by decide +kernel
theorem own_pd1 : parseMethodDescriptor "(J)J" = some ⟨[.long], some .long⟩ := by decide +kernel
theorem own_ef4 (m : MethodId) (o1 : Addr) (q1 : Int64) (q2 : Int64) : entryFrame m #[(.ref o1), (.long q1), (.long q2)] 5 = mkF m 0 #[.val (.ref o1), .val (.long q1), .second, .val (.long q2), .second] [] := by first | (simp [entryFrame, mkF, argsToLocals, Value.category]; done) | rfl
def own_Q4 (Z : State) (o1 : Addr) (q1 : Int64) (q2 : Int64) (z1 : Int64) (z2 : Int64) (z3 : Int64) (h0 : Heap) (n0 : Nat) (v : Option Value) (h : Heap) (L : List Loc) : Prop := v = none ∧ Fr n0 L ∧ Keep h0 h [o1] ∧ Exa Z h o1 "com/example/loomsand/loomsand/Draws" ∧ Fld Z h o1 "com/example/loomsand/loomsand/Draws" "key" "J" (.long q1) ∧ Fld Z h o1 "com/example/loomsand/loomsand/Draws" "row" "J" (.long q2) ∧ Fld Z h o1 "com/example/loomsand/loomsand/Draws" "state" "J" (.long (own_mix (q1 + (q2 * (-7046029254386353131 : Int64)))))
set_option maxRecDepth 65536 in
set_option maxHeartbeats 40000000 in
theorem own_rm4 (l : Launch) (Z : State) (a0 : Array Value) (hw : ∀ d ∈ tables_1, d.before a0 Z = true) (ws : List Jvm.Cond) (o1 : Addr) (q1 : Int64) (q2 : Int64) (z1 : Int64) (z2 : Int64) (z3 : Int64) (h0 : Heap) (n0 : Nat) (Z0 : n0 ≤ h0.size) (pE1 : Exa Z h0 o1 "com/example/loomsand/loomsand/Draws") (pF2 : Fld Z h0 o1 "com/example/loomsand/loomsand/Draws" "key" "J" (.long z1)) (pF3 : Fld Z h0 o1 "com/example/loomsand/loomsand/Draws" "row" "J" (.long z2)) (pF4 : Fld Z h0 o1 "com/example/loomsand/loomsand/Draws" "state" "J" (.long z3)) (pG5 : n0 ≤ o1) :
    MetFree l (⟨"com/example/loomsand/loomsand/Draws", "start", "(JJ)V"⟩ : MethodName) (head1 (Jvm.Cond.code (⟨"com/example/loomsand/loomsand/Draws", "start", "(JJ)V"⟩ : MethodName) prog_16_method_3_code 5 none :: ws) ({ frames := 1, cells := 0, slots := 0, locals := 14 } : Room)) (fun a U => a = #[(.ref o1), (.long q1), (.long q2)] ∧ Z.Warmed39 U.vm ∧ U.heap = h0) (fun _ _ _ _ _ => True) (fun _ U o U' => ∃ v L, o = .returned v ∧ own_Q4 Z o1 q1 q2 z1 z2 z3 h0 n0 v U'.heap L ∧ FrameEnd U o U' L ({ frames := 1, cells := 0, slots := 0, locals := 14 } : Room).cells ({ frames := 1, cells := 0, slots := 0, locals := 14 } : Room).slots) := by
  refine MetFree.of_bodySF (plainFor_of_name own_pn1) hisR ?_
  intro p e s m args below meth c s₁ Bd hml0 hP hK
  obtain ⟨rfl, hZ, hh⟩ := hP
  have hx := Bd.exec
  have hby := Bd.bytes
  have hlk := Bd.notSynchronized
  have hrt := Bd.returns
  have hml : c.maxLocals = 5 := hml0
  have hown : s.vm.findClass "com/example/loomsand/loomsand/Draws" = some m.cls := findClass_of_methodNamed Bd.named
  have hnm := (name_of_methodNamed Bd.named Bd.method).1
  have X0 : Stand p l e ({ frames := 1, cells := 0, slots := 0, locals := 14 } : Room) s m #[(.ref o1), (.long q1), (.long q2)] below meth c s₁ [] 0 0 := Stand.of_body Bd
  have e0 : s₁.heap = h0 := by rw [← hh, Bd.state]; rfl
  have N0 := Fr.nil n0
  have KC0 := Keep.refl h0 [o1]
  refine own_in (own_ef4 m o1 q1 q2) ?_
  refine own_aloadN X0 hx 1 (hb hby own_d4_0) rfl rfl ?_
  refine own_lloadN X0 hx 2 (hb hby own_d4_1) rfl ?_
  obtain ⟨T1, h1, X1, e1, W1, st1⟩ := putF X0 hx hZ hown (host := "") (Or.inl (hw _ (List.mem_of_getElem? (i := 29) rfl))) Via.refl e0 pF2 pE1 (Or.inl (hw _ (List.mem_of_getElem? (i := 30) rfl))) (hw _ (List.mem_of_getElem? (i := 1) rfl)) (v := (.long q1)) (ty := .long) (by decide) rfl rfl (g := (mkF m 2 #[.val (.ref o1), .val (.long q1), .second, .val (.long q2), .second] [(.long q1), (.ref o1)])) rfl rfl (hb hby own_d4_2)
  have Fw1 := pF2.same W1
  have N1 := Fr.snoc X1 N0 pG5
  have KC2 := KC0.wr W1 (Or.inl (List.mem_of_getElem? (i := 0) rfl))
  have Z3 := Nat.le_trans Z0 (Nat.le_of_eq W1.size.symm)
  refine own_st (G' := T1.setTop (mkF m 5 #[.val (.ref o1), .val (.long q1), .second, .val (.long q2), .second] [])) st1 ?_
  refine own_aloadN X1 hx 6 (hb hby own_d4_5) rfl rfl ?_
  refine own_lloadN X1 hx 7 (hb hby own_d4_6) rfl ?_
  have f4 := (pF3.other W1 (Or.inr (slot_ne (Or.inl (hw _ (List.mem_of_getElem? (i := 32) rfl))) (Or.inl (hw _ (List.mem_of_getElem? (i := 30) rfl))) (by decide) (t := .long) (t' := .long) (by decide) (by decide))))
  have f5 := (pE1.wr W1)
  obtain ⟨T6, h6, X6, e6, W6, st6⟩ := putF X1 hx hZ hown (host := "") (Or.inl (hw _ (List.mem_of_getElem? (i := 31) rfl))) Via.refl e1 f4 f5 (Or.inl (hw _ (List.mem_of_getElem? (i := 32) rfl))) (hw _ (List.mem_of_getElem? (i := 1) rfl)) (v := (.long q2)) (ty := .long) (by decide) rfl rfl (g := (mkF m 7 #[.val (.ref o1), .val (.long q1), .second, .val (.long q2), .second] [(.long q2), (.ref o1)])) rfl rfl (hb hby own_d4_7)
  have Fw6 := f4.same W6
  have N6 := Fr.snoc X6 N1 pG5
  have KC7 := KC2.wr W6 (Or.inl (List.mem_of_getElem? (i := 0) rfl))
  have Z8 := Nat.le_trans Z3 (Nat.le_of_eq W6.size.symm)
  refine own_st (G' := T6.setTop (mkF m 10 #[.val (.ref o1), .val (.long q1), .second, .val (.long q2), .second] [])) st6 ?_
  refine own_aloadN X6 hx 11 (hb hby own_d4_10) rfl rfl ?_
  refine own_lloadN X6 hx 12 (hb hby own_d4_11) rfl ?_
  refine own_lloadN X6 hx 13 (hb hby own_d4_12) rfl ?_
  refine own_ldcL X6 hx 16 hown (mvT hZ (hw _ (List.mem_of_getElem? (i := 33) rfl))) (hb hby own_d4_13) ?_
  refine own_lmul X6 hx 17 (hb hby own_d4_16) ?_
  refine own_ladd X6 hx 18 (hb hby own_d4_17) ?_
  obtain ⟨_, _, ⟨T9, Lx9, kc9, nc9⟩, -, X9, ⟨Lc9, hQ9, lq9, yq9, zq9⟩, st9⟩ := Jvm.LawKit.callS X6 hx (y := (⟨"com/example/loomsand/loomsand/Draws", "mix", "(J)J"⟩ : MethodName)) hown (mvT hZ (hw _ (List.mem_of_getElem? (i := 34) rfl))) (mvT hZ (hw _ (List.mem_of_getElem? (i := 35) rfl))) (mvT hZ (hw _ (List.mem_of_getElem? (i := 2) rfl))) (mvT hZ (hw _ (List.mem_of_getElem? (i := 36) rfl))) (by decide) (backOf (W := 1) (own_rm5 l Z a0 hw [] (q1 + (q2 * (-7046029254386353131 : Int64))) h6 n0 Z8 ) hZ (hw _ (List.mem_of_getElem? (i := 36) rfl)) (hw _ (List.mem_of_getElem? (i := 2) rfl)) (by decide) (by decide)) (g := (mkF m 18 #[.val (.ref o1), .val (.long q1), .second, .val (.long q2), .second] [(.long (q1 + (q2 * (-7046029254386353131 : Int64)))), (.ref o1)])) rfl (by rw [hml]; rfl) (argsL := [(.long (q1 + (q2 * (-7046029254386353131 : Int64))))]) (rest := [(.ref o1)]) (lenOf own_pd1 rfl) rfl (by show 2 * 0 + _ ≤ _; exact Nat.le_of_eq rfl) (hb hby own_d4_18) (fun _ _ => ⟨rfl, e6, (by decide : 0 + 0 ≤ _), (by decide : 0 + 0 ≤ _)⟩)
  dsimp only [Pt.U, Pt.locs, Pt.cells, Pt.slots] at X9 lq9 yq9 zq9 st9 hQ9
  subst lq9 yq9 zq9
  obtain ⟨rfl, Nq9, eh9⟩ := hQ9
  have N9 := Fr.app N6 Nq9
  refine own_st (G' := T9.setTop (mkF m 21 #[.val (.ref o1), .val (.long q1), .second, .val (.long q2), .second] [(.long (own_mix (q1 + (q2 * (-7046029254386353131 : Int64))))), (.ref o1)])) st9 ?_
  have f10 := ((pF4.other W1 (Or.inr (slot_ne (Or.inl (hw _ (List.mem_of_getElem? (i := 40) rfl))) (Or.inl (hw _ (List.mem_of_getElem? (i := 30) rfl))) (by decide) (t := .long) (t' := .long) (by decide) (by decide)))).other W6 (Or.inr (slot_ne (Or.inl (hw _ (List.mem_of_getElem? (i := 40) rfl))) (Or.inl (hw _ (List.mem_of_getElem? (i := 32) rfl))) (by decide) (t := .long) (t' := .long) (by decide) (by decide))))
  have f11 := (f5.wr W6)
  obtain ⟨T12, h12, X12, e12, W12, st12⟩ := putF X9 hx hZ hown (host := "") (Or.inl (hw _ (List.mem_of_getElem? (i := 39) rfl))) Via.refl eh9 f10 f11 (Or.inl (hw _ (List.mem_of_getElem? (i := 40) rfl))) (hw _ (List.mem_of_getElem? (i := 1) rfl)) (v := (.long (own_mix (q1 + (q2 * (-7046029254386353131 : Int64)))))) (ty := .long) (by decide) rfl rfl (g := (mkF m 21 #[.val (.ref o1), .val (.long q1), .second, .val (.long q2), .second] [(.long (own_mix (q1 + (q2 * (-7046029254386353131 : Int64))))), (.ref o1)])) rfl rfl (hb hby own_d4_21)
  have Fw12 := f10.same W12
  have N12 := Fr.snoc X12 N9 pG5
  have KC13 := KC7.wr W12 (Or.inl (List.mem_of_getElem? (i := 0) rfl))
  have Z14 := Nat.le_trans Z8 (Nat.le_of_eq W12.size.symm)
  refine own_st (G' := T12.setTop (mkF m 24 #[.val (.ref o1), .val (.long q1), .second, .val (.long q2), .second] [])) st12 ?_
  have f15 := (f11.wr W12)
  have f16 := ((Fw1.other W6 (Or.inr (slot_ne (Or.inl (hw _ (List.mem_of_getElem? (i := 30) rfl))) (Or.inl (hw _ (List.mem_of_getElem? (i := 32) rfl))) (by decide) (t := .long) (t' := .long) (by decide) (by decide)))).other W12 (Or.inr (slot_ne (Or.inl (hw _ (List.mem_of_getElem? (i := 30) rfl))) (Or.inl (hw _ (List.mem_of_getElem? (i := 40) rfl))) (by decide) (t := .long) (t' := .long) (by decide) (by decide))))
  have f17 := (Fw6.other W12 (Or.inr (slot_ne (Or.inl (hw _ (List.mem_of_getElem? (i := 32) rfl))) (Or.inl (hw _ (List.mem_of_getElem? (i := 40) rfl))) (by decide) (t := .long) (t' := .long) (by decide) (by decide))))
  exact own_retV (Q := own_Q4 Z o1 q1 q2 z1 z2 z3 h0 n0) X12 hx hrt (hb hby own_d4_24) hlk e12 ⟨rfl, N12, KC13, f15, f16, f17, Fw12⟩ (by decide) (by decide)
theorem own_d6_0 : decode prog_16_method_4_code 0 = .ok (.aload_n 0, 1) := by decide +kernel
theorem own_d6_1 : decode prog_16_method_4_code 1 = .ok (.dup, 1) := by decide +kernel
theorem own_d6_2 : decode prog_16_method_4_code 2 = .ok (.getfield 51, 3) := by decide +kernel
theorem own_d6_5 : decode prog_16_method_4_code 5 = .ok (.ldc2_w 49, 3) := by decide +kernel
theorem own_d6_8 : decode prog_16_method_4_code 8 = .ok (.ladd, 1) := by decide +kernel
theorem own_d6_9 : decode prog_16_method_4_code 9 = .ok (.putfield 51, 3) := by decide +kernel
theorem own_d6_12 : decode prog_16_method_4_code 12 = .ok (.aload_n 0, 1) := by decide +kernel
theorem own_d6_13 : decode prog_16_method_4_code 13 = .ok (.getfield 51, 3) := by decide +kernel
theorem own_d6_16 : decode prog_16_method_4_code 16 = .ok (.invokestatic 38, 3) := by decide +kernel
theorem own_d6_19 : decode prog_16_method_4_code 19 = .ok (.lreturn, 1) := by decide +kernel
theorem own_ef6 (m : MethodId) (o1 : Addr) : entryFrame m #[(.ref o1)] 1 = mkF m 0 #[.val (.ref o1)] [] := by first | (simp [entryFrame, mkF, argsToLocals, Value.category]; done) | rfl
def own_Q6 (Z : State) (o1 : Addr) (z1 : Int64) (z2 : Int64) (z3 : Int64) (h0 : Heap) (n0 : Nat) (v : Option Value) (h : Heap) (L : List Loc) : Prop := v = some (.long (own_mix (z3 + (-7046029254386353131 : Int64)))) ∧ Fr n0 L ∧ Keep h0 h [o1] ∧ Exa Z h o1 "com/example/loomsand/loomsand/Draws" ∧ Fld Z h o1 "com/example/loomsand/loomsand/Draws" "key" "J" (.long z1) ∧ Fld Z h o1 "com/example/loomsand/loomsand/Draws" "row" "J" (.long z2) ∧ Fld Z h o1 "com/example/loomsand/loomsand/Draws" "state" "J" (.long (z3 + (-7046029254386353131 : Int64)))
set_option maxRecDepth 65536 in
set_option maxHeartbeats 40000000 in
theorem own_rm6 (l : Launch) (Z : State) (a0 : Array Value) (hw : ∀ d ∈ tables_1, d.before a0 Z = true) (ws : List Jvm.Cond) (o1 : Addr) (z1 : Int64) (z2 : Int64) (z3 : Int64) (h0 : Heap) (n0 : Nat) (Z0 : n0 ≤ h0.size) (pE1 : Exa Z h0 o1 "com/example/loomsand/loomsand/Draws") (pF2 : Fld Z h0 o1 "com/example/loomsand/loomsand/Draws" "key" "J" (.long z1)) (pF3 : Fld Z h0 o1 "com/example/loomsand/loomsand/Draws" "row" "J" (.long z2)) (pF4 : Fld Z h0 o1 "com/example/loomsand/loomsand/Draws" "state" "J" (.long z3)) (pG5 : n0 ≤ o1) :
    MetFree l (⟨"com/example/loomsand/loomsand/Draws", "next", "()J"⟩ : MethodName) (head1 (Jvm.Cond.code (⟨"com/example/loomsand/loomsand/Draws", "next", "()J"⟩ : MethodName) prog_16_method_4_code 1 (some .long) :: ws) ({ frames := 1, cells := 0, slots := 0, locals := 13 } : Room)) (fun a U => a = #[(.ref o1)] ∧ Z.Warmed39 U.vm ∧ U.heap = h0) (fun _ _ _ _ _ => True) (fun _ U o U' => ∃ v L, o = .returned v ∧ own_Q6 Z o1 z1 z2 z3 h0 n0 v U'.heap L ∧ FrameEnd U o U' L ({ frames := 1, cells := 0, slots := 0, locals := 13 } : Room).cells ({ frames := 1, cells := 0, slots := 0, locals := 13 } : Room).slots) := by
  refine MetFree.of_bodySF (plainFor_of_name own_pn1) hisR ?_
  intro p e s m args below meth c s₁ Bd hml0 hP hK
  obtain ⟨rfl, hZ, hh⟩ := hP
  have hx := Bd.exec
  have hby := Bd.bytes
  have hlk := Bd.notSynchronized
  have hrt := Bd.returns
  have hml : c.maxLocals = 1 := hml0
  have hown : s.vm.findClass "com/example/loomsand/loomsand/Draws" = some m.cls := findClass_of_methodNamed Bd.named
  have hnm := (name_of_methodNamed Bd.named Bd.method).1
  have X0 : Stand p l e ({ frames := 1, cells := 0, slots := 0, locals := 13 } : Room) s m #[(.ref o1)] below meth c s₁ [] 0 0 := Stand.of_body Bd
  have e0 : s₁.heap = h0 := by rw [← hh, Bd.state]; rfl
  have N0 := Fr.nil n0
  have KC0 := Keep.refl h0 [o1]
  refine own_in (own_ef6 m o1) ?_
  refine own_aloadN X0 hx 1 (hb hby own_d6_0) rfl rfl ?_
  refine own_dup X0 hx 2 (hb hby own_d6_1) rfl ?_
  obtain ⟨T1, X1, e1, st1⟩ := getF X0 hx hZ hown (host := "") (Or.inl (hw _ (List.mem_of_getElem? (i := 39) rfl))) Via.refl e0 pF4 (g := (mkF m 2 #[.val (.ref o1)] [(.ref o1), (.ref o1)])) rfl rfl (hb hby own_d6_2)
  refine own_st (G' := T1.setTop (mkF m 5 #[.val (.ref o1)] [(.long z3), (.ref o1)])) st1 ?_
  refine own_ldcL X1 hx 8 hown (mvT hZ (hw _ (List.mem_of_getElem? (i := 33) rfl))) (hb hby own_d6_5) ?_
  refine own_ladd X1 hx 9 (hb hby own_d6_8) ?_
  obtain ⟨T2, h2, X2, e2, W2, st2⟩ := putF X1 hx hZ hown (host := "") (Or.inl (hw _ (List.mem_of_getElem? (i := 39) rfl))) Via.refl e1 pF4 pE1 (Or.inl (hw _ (List.mem_of_getElem? (i := 40) rfl))) (hw _ (List.mem_of_getElem? (i := 1) rfl)) (v := (.long (z3 + (-7046029254386353131 : Int64)))) (ty := .long) (by decide) rfl rfl (g := (mkF m 9 #[.val (.ref o1)] [(.long (z3 + (-7046029254386353131 : Int64))), (.ref o1)])) rfl rfl (hb hby own_d6_9)
  have Fw2 := pF4.same W2
  have N2 := Fr.snoc X2 N0 pG5
  have KC3 := KC0.wr W2 (Or.inl (List.mem_of_getElem? (i := 0) rfl))
  have Z4 := Nat.le_trans Z0 (Nat.le_of_eq W2.size.symm)
  refine own_st (G' := T2.setTop (mkF m 12 #[.val (.ref o1)] [])) st2 ?_
  refine own_aloadN X2 hx 13 (hb hby own_d6_12) rfl rfl ?_
  obtain ⟨T5, X5, e5, st5⟩ := getF X2 hx hZ hown (host := "") (Or.inl (hw _ (List.mem_of_getElem? (i := 39) rfl))) Via.refl e2 Fw2 (g := (mkF m 13 #[.val (.ref o1)] [(.ref o1)])) rfl rfl (hb hby own_d6_13)
  refine own_st (G' := T5.setTop (mkF m 16 #[.val (.ref o1)] [(.long (z3 + (-7046029254386353131 : Int64)))])) st5 ?_
  obtain ⟨_, _, ⟨T6, Lx6, kc6, nc6⟩, -, X6, ⟨Lc6, hQ6, lq6, yq6, zq6⟩, st6⟩ := Jvm.LawKit.callS X5 hx (y := (⟨"com/example/loomsand/loomsand/Draws", "mix", "(J)J"⟩ : MethodName)) hown (mvT hZ (hw _ (List.mem_of_getElem? (i := 34) rfl))) (mvT hZ (hw _ (List.mem_of_getElem? (i := 35) rfl))) (mvT hZ (hw _ (List.mem_of_getElem? (i := 2) rfl))) (mvT hZ (hw _ (List.mem_of_getElem? (i := 36) rfl))) (by decide) (backOf (W := 0) (own_rm5 l Z a0 hw [] (z3 + (-7046029254386353131 : Int64)) h2 n0 Z4 ) hZ (hw _ (List.mem_of_getElem? (i := 36) rfl)) (hw _ (List.mem_of_getElem? (i := 2) rfl)) (by decide) (by decide)) (g := (mkF m 16 #[.val (.ref o1)] [(.long (z3 + (-7046029254386353131 : Int64)))])) rfl (by rw [hml]; rfl) (argsL := [(.long (z3 + (-7046029254386353131 : Int64)))]) (rest := []) (lenOf own_pd1 rfl) rfl (by show 2 * 0 + _ ≤ _; exact Nat.le_of_eq rfl) (hb hby own_d6_16) (fun _ _ => ⟨rfl, e5, (by decide : 0 + 0 ≤ _), (by decide : 0 + 0 ≤ _)⟩)
  dsimp only [Pt.U, Pt.locs, Pt.cells, Pt.slots] at X6 lq6 yq6 zq6 st6 hQ6
  subst lq6 yq6 zq6
  obtain ⟨rfl, Nq6, eh6⟩ := hQ6
  have N6 := Fr.app N2 Nq6
  refine own_st (G' := T6.setTop (mkF m 19 #[.val (.ref o1)] [(.long (own_mix (z3 + (-7046029254386353131 : Int64))))])) st6 ?_
  have f7 := (pE1.wr W2)
  have f8 := (pF2.other W2 (Or.inr (slot_ne (Or.inl (hw _ (List.mem_of_getElem? (i := 30) rfl))) (Or.inl (hw _ (List.mem_of_getElem? (i := 40) rfl))) (by decide) (t := .long) (t' := .long) (by decide) (by decide))))
  have f9 := (pF3.other W2 (Or.inr (slot_ne (Or.inl (hw _ (List.mem_of_getElem? (i := 32) rfl))) (Or.inl (hw _ (List.mem_of_getElem? (i := 40) rfl))) (by decide) (t := .long) (t' := .long) (by decide) (by decide))))
  exact own_retL (z := (own_mix (z3 + (-7046029254386353131 : Int64)))) (Q := own_Q6 Z o1 z1 z2 z3 h0 n0) X6 hx hrt (hb hby own_d6_19) hlk eh6 ⟨rfl, N6, KC3, f7, f8, f9, Fw2⟩ (by decide) (by decide)
theorem own_d7_0 : decode method_3_code 0 = .ok (.lload_n 0, 1) := by decide +kernel
theorem own_d7_1 : decode method_3_code 1 = .ok (.lload_n 0, 1) := by decide +kernel
theorem own_d7_2 : decode method_3_code 2 = .ok (.bipush 30, 2) := by decide +kernel
theorem own_d7_4 : decode method_3_code 4 = .ok (.lushr, 1) := by decide +kernel
theorem own_d7_5 : decode method_3_code 5 = .ok (.lxor, 1) := by decide +kernel
theorem own_d7_6 : decode method_3_code 6 = .ok (.ldc2_w 26, 3) := by decide +kernel
theorem own_d7_9 : decode method_3_code 9 = .ok (.lmul, 1) := by decide +kernel
theorem own_d7_10 : decode method_3_code 10 = .ok (.lstore_n 2, 1) := by decide +kernel
theorem own_d7_11 : decode method_3_code 11 = .ok (.lload_n 2, 1) := by decide +kernel
theorem own_d7_12 : decode method_3_code 12 = .ok (.lload_n 2, 1) := by decide +kernel
theorem own_d7_13 : decode method_3_code 13 = .ok (.bipush 27, 2) := by decide +kernel
theorem own_d7_15 : decode method_3_code 15 = .ok (.lushr, 1) := by decide +kernel
theorem own_d7_16 : decode method_3_code 16 = .ok (.lxor, 1) := by decide +kernel
theorem own_d7_17 : decode method_3_code 17 = .ok (.ldc2_w 28, 3) := by decide +kernel
theorem own_d7_20 : decode method_3_code 20 = .ok (.lmul, 1) := by decide +kernel
theorem own_d7_21 : decode method_3_code 21 = .ok (.lstore 4, 2) := by decide +kernel
theorem own_d7_23 : decode method_3_code 23 = .ok (.lload 4, 2) := by decide +kernel
theorem own_d7_25 : decode method_3_code 25 = .ok (.lload 4, 2) := by decide +kernel
theorem own_d7_27 : decode method_3_code 27 = .ok (.bipush 31, 2) := by decide +kernel
theorem own_d7_29 : decode method_3_code 29 = .ok (.lushr, 1) := by decide +kernel
theorem own_d7_30 : decode method_3_code 30 = .ok (.lxor, 1) := by decide +kernel
theorem own_d7_31 : decode method_3_code 31 = .ok (.lreturn, 1) := by decide +kernel
theorem own_pn2 : plainName "com/example/loomsand/loomsand/DrawsStartPinLaw" = true := by first | (simp [plainName, overriddenIn]; done) | decide +kernel
theorem own_ef7 (m : MethodId) (q1 : Int64) : entryFrame m #[(.long q1)] 6 = mkF m 0 #[.val (.long q1), .second, .unset, .unset, .unset, .unset] [] := by first | (simp [entryFrame, mkF, argsToLocals, Value.category]; done) | rfl
def own_split (q1 : Int64) : Int64 := (((((q1 ^^^ ((q1.toUInt64 >>> ((30 : Int32) &&& 0x3f).toInt64.toUInt64).toInt64)) * (-4658895280553007687 : Int64)) ^^^ ((((q1 ^^^ ((q1.toUInt64 >>> ((30 : Int32) &&& 0x3f).toInt64.toUInt64).toInt64)) * (-4658895280553007687 : Int64)).toUInt64 >>> ((27 : Int32) &&& 0x3f).toInt64.toUInt64).toInt64)) * (-7723592293110705685 : Int64)) ^^^ ((((((q1 ^^^ ((q1.toUInt64 >>> ((30 : Int32) &&& 0x3f).toInt64.toUInt64).toInt64)) * (-4658895280553007687 : Int64)) ^^^ ((((q1 ^^^ ((q1.toUInt64 >>> ((30 : Int32) &&& 0x3f).toInt64.toUInt64).toInt64)) * (-4658895280553007687 : Int64)).toUInt64 >>> ((27 : Int32) &&& 0x3f).toInt64.toUInt64).toInt64)) * (-7723592293110705685 : Int64)).toUInt64 >>> ((31 : Int32) &&& 0x3f).toInt64.toUInt64).toInt64))
def own_Q7 (Z : State) (q1 : Int64) (h0 : Heap) (n0 : Nat) (v : Option Value) (h : Heap) (L : List Loc) : Prop := v = some (.long (own_split q1)) ∧ Fr n0 L ∧ h = h0
set_option maxRecDepth 65536 in
set_option maxHeartbeats 40000000 in
theorem own_rm7 (l : Launch) (Z : State) (a0 : Array Value) (hw : ∀ d ∈ tables_1, d.before a0 Z = true) (ws : List Jvm.Cond) (q1 : Int64) (h0 : Heap) (n0 : Nat) (Z0 : n0 ≤ h0.size)  :
    MetFree l (⟨"com/example/loomsand/loomsand/DrawsStartPinLaw", "splitMix", "(J)J"⟩ : MethodName) (head1 (Jvm.Cond.code (⟨"com/example/loomsand/loomsand/DrawsStartPinLaw", "splitMix", "(J)J"⟩ : MethodName) method_3_code 6 (some .long) :: ws) ({ frames := 0, cells := 0, slots := 0, locals := 0 } : Room)) (fun a U => a = #[(.long q1)] ∧ Z.Warmed39 U.vm ∧ U.heap = h0) (fun _ _ _ _ _ => True) (fun _ U o U' => ∃ v L, o = .returned v ∧ own_Q7 Z q1 h0 n0 v U'.heap L ∧ FrameEnd U o U' L ({ frames := 0, cells := 0, slots := 0, locals := 0 } : Room).cells ({ frames := 0, cells := 0, slots := 0, locals := 0 } : Room).slots) := by
  refine MetFree.of_bodySF (plainFor_of_name own_pn2) hisR ?_
  intro p e s m args below meth c s₁ Bd hml0 hP hK
  obtain ⟨rfl, hZ, hh⟩ := hP
  have hx := Bd.exec
  have hby := Bd.bytes
  have hlk := Bd.notSynchronized
  have hrt := Bd.returns
  have hml : c.maxLocals = 6 := hml0
  have hown : s.vm.findClass "com/example/loomsand/loomsand/DrawsStartPinLaw" = some m.cls := findClass_of_methodNamed Bd.named
  have hnm := (name_of_methodNamed Bd.named Bd.method).1
  have X0 : Stand p l e ({ frames := 0, cells := 0, slots := 0, locals := 0 } : Room) s m #[(.long q1)] below meth c s₁ [] 0 0 := Stand.of_body Bd
  have e0 : s₁.heap = h0 := by rw [← hh, Bd.state]; rfl
  have N0 := Fr.nil n0
  refine own_in (own_ef7 m q1) ?_
  refine own_lloadN X0 hx 1 (hb hby own_d7_0) rfl ?_
  refine own_lloadN X0 hx 2 (hb hby own_d7_1) rfl ?_
  refine own_bipush X0 hx 4 (30 : Int32) (hb hby own_d7_2) rfl ?_
  refine own_lushr X0 hx 5 (hb hby own_d7_4) ?_
  refine own_lxor X0 hx 6 (hb hby own_d7_5) ?_
  refine own_ldcL X0 hx 9 hown (mvT hZ (hw _ (List.mem_of_getElem? (i := 51) rfl))) (hb hby own_d7_6) ?_
  refine own_lmul X0 hx 10 (hb hby own_d7_9) ?_
  refine own_lstoreN X0 hx 11 #[.val (.long q1), .second, .val (.long ((q1 ^^^ ((q1.toUInt64 >>> ((30 : Int32) &&& 0x3f).toInt64.toUInt64).toInt64)) * (-4658895280553007687 : Int64))), .second, .unset, .unset] (hb hby own_d7_10) rfl ?_
  refine own_lloadN X0 hx 12 (hb hby own_d7_11) rfl ?_
  refine own_lloadN X0 hx 13 (hb hby own_d7_12) rfl ?_
  refine own_bipush X0 hx 15 (27 : Int32) (hb hby own_d7_13) rfl ?_
  refine own_lushr X0 hx 16 (hb hby own_d7_15) ?_
  refine own_lxor X0 hx 17 (hb hby own_d7_16) ?_
  refine own_ldcL X0 hx 20 hown (mvT hZ (hw _ (List.mem_of_getElem? (i := 52) rfl))) (hb hby own_d7_17) ?_
  refine own_lmul X0 hx 21 (hb hby own_d7_20) ?_
  refine own_lstore X0 hx 23 #[.val (.long q1), .second, .val (.long ((q1 ^^^ ((q1.toUInt64 >>> ((30 : Int32) &&& 0x3f).toInt64.toUInt64).toInt64)) * (-4658895280553007687 : Int64))), .second, .val (.long ((((q1 ^^^ ((q1.toUInt64 >>> ((30 : Int32) &&& 0x3f).toInt64.toUInt64).toInt64)) * (-4658895280553007687 : Int64)) ^^^ ((((q1 ^^^ ((q1.toUInt64 >>> ((30 : Int32) &&& 0x3f).toInt64.toUInt64).toInt64)) * (-4658895280553007687 : Int64)).toUInt64 >>> ((27 : Int32) &&& 0x3f).toInt64.toUInt64).toInt64)) * (-7723592293110705685 : Int64))), .second] (hb hby own_d7_21) rfl ?_
  refine own_lload X0 hx 25 (hb hby own_d7_23) rfl ?_
  refine own_lload X0 hx 27 (hb hby own_d7_25) rfl ?_
  refine own_bipush X0 hx 29 (31 : Int32) (hb hby own_d7_27) rfl ?_
  refine own_lushr X0 hx 30 (hb hby own_d7_29) ?_
  refine own_lxor X0 hx 31 (hb hby own_d7_30) ?_
  exact own_retL (z := (((((q1 ^^^ ((q1.toUInt64 >>> ((30 : Int32) &&& 0x3f).toInt64.toUInt64).toInt64)) * (-4658895280553007687 : Int64)) ^^^ ((((q1 ^^^ ((q1.toUInt64 >>> ((30 : Int32) &&& 0x3f).toInt64.toUInt64).toInt64)) * (-4658895280553007687 : Int64)).toUInt64 >>> ((27 : Int32) &&& 0x3f).toInt64.toUInt64).toInt64)) * (-7723592293110705685 : Int64)) ^^^ ((((((q1 ^^^ ((q1.toUInt64 >>> ((30 : Int32) &&& 0x3f).toInt64.toUInt64).toInt64)) * (-4658895280553007687 : Int64)) ^^^ ((((q1 ^^^ ((q1.toUInt64 >>> ((30 : Int32) &&& 0x3f).toInt64.toUInt64).toInt64)) * (-4658895280553007687 : Int64)).toUInt64 >>> ((27 : Int32) &&& 0x3f).toInt64.toUInt64).toInt64)) * (-7723592293110705685 : Int64)).toUInt64 >>> ((31 : Int32) &&& 0x3f).toInt64.toUInt64).toInt64))) (Q := own_Q7 Z q1 h0 n0) X0 hx hrt (hb hby own_d7_31) hlk e0 ⟨(own_leafJ (show (((((q1 ^^^ ((q1.toUInt64 >>> ((30 : Int32) &&& 0x3f).toInt64.toUInt64).toInt64)) * (-4658895280553007687 : Int64)) ^^^ ((((q1 ^^^ ((q1.toUInt64 >>> ((30 : Int32) &&& 0x3f).toInt64.toUInt64).toInt64)) * (-4658895280553007687 : Int64)).toUInt64 >>> ((27 : Int32) &&& 0x3f).toInt64.toUInt64).toInt64)) * (-7723592293110705685 : Int64)) ^^^ ((((((q1 ^^^ ((q1.toUInt64 >>> ((30 : Int32) &&& 0x3f).toInt64.toUInt64).toInt64)) * (-4658895280553007687 : Int64)) ^^^ ((((q1 ^^^ ((q1.toUInt64 >>> ((30 : Int32) &&& 0x3f).toInt64.toUInt64).toInt64)) * (-4658895280553007687 : Int64)).toUInt64 >>> ((27 : Int32) &&& 0x3f).toInt64.toUInt64).toInt64)) * (-7723592293110705685 : Int64)).toUInt64 >>> ((31 : Int32) &&& 0x3f).toInt64.toUInt64).toInt64)) = own_split q1 from rfl)), N0, rfl⟩ (by decide) (by decide)
theorem own_eq (q : Int64) : own_split q = own_mix q := rfl
theorem own_pd2 : parseMethodDescriptor "()V" = some ⟨[], none⟩ := by decide +kernel
theorem own_pd3 : parseMethodDescriptor "(JJ)V" = some ⟨[.long, .long], none⟩ := by decide +kernel
theorem own_pd4 : parseMethodDescriptor "()J" = some ⟨[], some .long⟩ := by decide +kernel
theorem own_ef0 (m : MethodId) (q1 : Int64) (q2 : Int64) (q3 : Int64) (q4 : Int64) : entryFrame m #[(.long q1), (.long q2), (.long q3), (.long q4)] maxLocals = mkF m 0 #[.val (.long q1), .second, .val (.long q2), .second, .val (.long q3), .second, .val (.long q4), .second, .unset, .unset, .unset, .unset, .unset, .unset, .unset, .unset, .unset, .unset, .unset] [] := by first | (simp [entryFrame, mkF, argsToLocals, Value.category, maxLocals]; done) | rfl
def own_Q0 (Z : State) (q1 : Int64) (q2 : Int64) (q3 : Int64) (q4 : Int64) (h0 : Heap) (n0 : Nat) (v : Option Value) (h : Heap) (L : List Loc) : Prop := v = some (.int (1 : Int32)) ∧ Fr n0 L
set_option maxRecDepth 65536 in
set_option maxHeartbeats 40000000 in
theorem own_rm0 (l : Launch) (Z : State) (a0 : Array Value) (hw : ∀ d ∈ tables_1, d.before a0 Z = true) (ws : List Jvm.Cond) (q1 : Int64) (q2 : Int64) (q3 : Int64) (q4 : Int64) (h0 : Heap) (n0 : Nat) (Z0 : n0 ≤ h0.size)  :
    MetFree l x (head1 (Jvm.Cond.code x code maxLocals ret :: ws) room_1) (fun a U => a = #[(.long q1), (.long q2), (.long q3), (.long q4)] ∧ Z.Warmed39 U.vm ∧ U.heap = h0) (fun _ _ _ _ _ => True) (fun _ U o U' => ∃ v L, o = .returned v ∧ own_Q0 Z q1 q2 q3 q4 h0 n0 v U'.heap L ∧ FrameEnd U o U' L room_1.cells room_1.slots) := by
  refine MetFree.of_bodySF (plainFor_of_name own_pn2) hisR ?_
  intro p e s m args below meth c s₁ Bd hml0 hP hK
  obtain ⟨rfl, hZ, hh⟩ := hP
  have hx := Bd.exec
  have hby := Bd.bytes
  have hlk := Bd.notSynchronized
  have hrt := Bd.returns
  have hml : c.maxLocals = 19 := hml0
  have hown : s.vm.findClass "com/example/loomsand/loomsand/DrawsStartPinLaw" = some m.cls := findClass_of_methodNamed Bd.named
  have hnm := (name_of_methodNamed Bd.named Bd.method).1
  have X0 : Stand p l e room_1 s m #[(.long q1), (.long q2), (.long q3), (.long q4)] below meth c s₁ [] 0 0 := Stand.of_body Bd
  have e0 : s₁.heap = h0 := by rw [← hh, Bd.state]; rfl
  have N0 := Fr.nil n0
  refine own_in (own_ef0 m q1 q2 q3 q4) ?_
  obtain ⟨T1, h1, X1, e1, E1, A1, D1, -, st1⟩ := newO X0 hx hZ hown (hw _ (List.mem_of_getElem? (i := 0) rfl)) (hw _ (List.mem_of_getElem? (i := 1) rfl)) (hw _ (List.mem_of_getElem? (i := 2) rfl)) e0 (g := (mkF m 0 #[.val (.long q1), .second, .val (.long q2), .second, .val (.long q3), .second, .val (.long q4), .second, .unset, .unset, .unset, .unset, .unset, .unset, .unset, .unset, .unset, .unset, .unset] [])) rfl (hb hby at_0) (by decide) (by decide)
  obtain ⟨b1, g1⟩ : ∃ z, z = h0.size := ⟨_, rfl⟩
  rw [← g1] at A1 D1 st1
  have gt_b1 : n0 ≤ b1 := Nat.le_trans Z0 (Nat.le_of_eq g1.symm)
  have Z2 := Nat.le_trans Z0 E1.1
  have F1_shuffle : Fld Z h1 b1 "com/example/loomsand/loomsand/Draws" "shuffle" "Lcom/example/loomsand/loomsand/Feistel;" .null := D1 (Or.inr (hw _ (List.mem_of_getElem? (i := 23) rfl))) (ty := (.object "com/example/loomsand/loomsand/Feistel")) (by decide)
  have F1_key : Fld Z h1 b1 "com/example/loomsand/loomsand/Draws" "key" "J" (.long (0 : Int64)) := D1 (Or.inl (hw _ (List.mem_of_getElem? (i := 30) rfl))) (ty := .long) (by decide)
  have F1_row : Fld Z h1 b1 "com/example/loomsand/loomsand/Draws" "row" "J" (.long (0 : Int64)) := D1 (Or.inl (hw _ (List.mem_of_getElem? (i := 32) rfl))) (ty := .long) (by decide)
  have F1_state : Fld Z h1 b1 "com/example/loomsand/loomsand/Draws" "state" "J" (.long (0 : Int64)) := D1 (Or.inl (hw _ (List.mem_of_getElem? (i := 40) rfl))) (ty := .long) (by decide)
  refine own_st (G' := T1.setTop (mkF m 3 #[.val (.long q1), .second, .val (.long q2), .second, .val (.long q3), .second, .val (.long q4), .second, .unset, .unset, .unset, .unset, .unset, .unset, .unset, .unset, .unset, .unset, .unset] [(.ref b1)])) st1 ?_
  refine own_dup X1 hx 4 (hb hby at_3) rfl ?_
  obtain ⟨_, _, ⟨T3, Lx3, kc3, nc3⟩, -, X3, ⟨Lc3, hQ3, lq3, yq3, zq3⟩, st3⟩ := X1.specialBack hx (y := (⟨"com/example/loomsand/loomsand/Draws", "<init>", "()V"⟩ : MethodName)) rfl hown (mvT hZ (hw _ (List.mem_of_getElem? (i := 3) rfl))) (mvT hZ (hw _ (List.mem_of_getElem? (i := 4) rfl))) (mvT hZ (hw _ (List.mem_of_getElem? (i := 5) rfl))) (by decide) (backOf (W := 1) (own_rm1 l Z a0 hw [] b1 h1 n0 Z2 A1 F1_shuffle F1_key F1_row F1_state gt_b1) hZ (hw _ (List.mem_of_getElem? (i := 5) rfl)) (hw _ (List.mem_of_getElem? (i := 2) rfl)) (by decide) (by decide)) (g := (mkF m 4 #[.val (.long q1), .second, .val (.long q2), .second, .val (.long q3), .second, .val (.long q4), .second, .unset, .unset, .unset, .unset, .unset, .unset, .unset, .unset, .unset, .unset, .unset] [(.ref b1), (.ref b1)])) rfl (by rw [hml]; rfl) (Steps.refl _) (a := b1) (argsL := []) (rest := [(.ref b1)]) (lenOf own_pd2 rfl) rfl (by show 2 * 0 + _ ≤ _; exact Nat.le_of_eq rfl) (hb hby at_4) (fun _ _ => ⟨rfl, e1, (by decide : 1 + 2 ≤ _), (by decide : 5 + 4 ≤ _)⟩)
  dsimp only [Pt.U, Pt.locs, Pt.cells, Pt.slots] at X3 lq3 yq3 zq3 st3 hQ3
  subst lq3 yq3 zq3
  obtain ⟨rfl, Nq3, Kp3, G3_0, G3_1, G3_2, G3_3⟩ := hQ3
  have N3 := Fr.app N0 Nq3
  have Z4 := Nat.le_trans Z2 Kp3.1
  refine own_st (G' := T3.setTop (mkF m 7 #[.val (.long q1), .second, .val (.long q2), .second, .val (.long q3), .second, .val (.long q4), .second, .unset, .unset, .unset, .unset, .unset, .unset, .unset, .unset, .unset, .unset, .unset] [(.ref b1)])) (fun t k => st3.trans k) ?_
  refine own_astore X3 hx 9 #[.val (.long q1), .second, .val (.long q2), .second, .val (.long q3), .second, .val (.long q4), .second, .val (.ref b1), .unset, .unset, .unset, .unset, .unset, .unset, .unset, .unset, .unset, .unset] (hb hby at_7) rfl rfl ?_
  refine own_aload X3 hx 11 (hb hby at_9) rfl rfl ?_
  refine own_lload X3 hx 13 (hb hby at_11) rfl ?_
  refine own_lload X3 hx 15 (hb hby at_13) rfl ?_
  obtain ⟨cq5, kq5, q5a, q5b, q5c⟩ := isOf hZ rfl G3_0
  obtain ⟨_, _, ⟨T5, Lx5, kc5, nc5⟩, -, X5, ⟨Lc5, hQ5, lq5, yq5, zq5⟩, st5⟩ := X3.virtualBack hx (y := (⟨"com/example/loomsand/loomsand/Draws", "start", "(JJ)V"⟩ : MethodName)) (z := (⟨"com/example/loomsand/loomsand/Draws", "start", "(JJ)V"⟩ : MethodName)) hown (mvT hZ (hw _ (List.mem_of_getElem? (i := 24) rfl))) (mvT hZ (hw _ (List.mem_of_getElem? (i := 25) rfl))) (notFace_of_selects (args := #[]) (mvT hZ (hw _ (List.mem_of_getElem? (i := 27) rfl)))) (mvT hZ (hw _ (List.mem_of_getElem? (i := 27) rfl))) (mvT hZ (hw _ (List.mem_of_getElem? (i := 26) rfl))) (by decide) (backOf (W := 0) (own_rm4 l Z a0 hw [] b1 q3 q4 (0 : Int64) (0 : Int64) (0 : Int64) T3.heap n0 Z4 G3_0 G3_1 G3_2 G3_3 gt_b1) hZ (hw _ (List.mem_of_getElem? (i := 28) rfl)) (hw _ (List.mem_of_getElem? (i := 2) rfl)) (by decide) (by decide)) q5a q5c (g := (mkF m 15 #[.val (.long q1), .second, .val (.long q2), .second, .val (.long q3), .second, .val (.long q4), .second, .val (.ref b1), .unset, .unset, .unset, .unset, .unset, .unset, .unset, .unset, .unset, .unset] [(.long q4), (.long q3), (.ref b1)])) rfl (by rw [hml]; rfl) (Steps.refl _) (argsL := [(.long q3), (.long q4)]) (rest := []) (lenOf own_pd3 rfl) rfl (by show 2 * 0 + _ ≤ _; exact Nat.le_of_eq rfl) (hb hby at_15) (fun _ _ => ⟨rfl, rfl, (by decide : 3 + 0 ≤ _), (by decide : 9 + 0 ≤ _)⟩)
  dsimp only [Pt.U, Pt.locs, Pt.cells, Pt.slots] at X5 lq5 yq5 zq5 st5 hQ5
  subst lq5 yq5 zq5
  obtain ⟨rfl, Nq5, Kp5, G5_0, G5_1, G5_2, G5_3⟩ := hQ5
  have N5 := Fr.app N3 Nq5
  have Z6 := Nat.le_trans Z4 Kp5.1
  refine own_st (G' := T5.setTop (mkF m 18 #[.val (.long q1), .second, .val (.long q2), .second, .val (.long q3), .second, .val (.long q4), .second, .val (.ref b1), .unset, .unset, .unset, .unset, .unset, .unset, .unset, .unset, .unset, .unset] [])) (fun t k => st5.trans k) ?_
  refine own_aload X5 hx 20 (hb hby at_18) rfl rfl ?_
  obtain ⟨cq7, kq7, q7a, q7b, q7c⟩ := isOf hZ rfl G5_0
  obtain ⟨_, _, ⟨T7, Lx7, kc7, nc7⟩, -, X7, ⟨Lc7, hQ7, lq7, yq7, zq7⟩, st7⟩ := X5.virtualBack hx (y := (⟨"com/example/loomsand/loomsand/Draws", "next", "()J"⟩ : MethodName)) (z := (⟨"com/example/loomsand/loomsand/Draws", "next", "()J"⟩ : MethodName)) hown (mvT hZ (hw _ (List.mem_of_getElem? (i := 41) rfl))) (mvT hZ (hw _ (List.mem_of_getElem? (i := 42) rfl))) (notFace_of_selects (args := #[]) (mvT hZ (hw _ (List.mem_of_getElem? (i := 44) rfl)))) (mvT hZ (hw _ (List.mem_of_getElem? (i := 44) rfl))) (mvT hZ (hw _ (List.mem_of_getElem? (i := 43) rfl))) (by decide) (backOf (W := 0) (own_rm6 l Z a0 hw [] b1 q3 q4 (own_mix (q3 + (q4 * (-7046029254386353131 : Int64)))) T5.heap n0 Z6 G5_0 G5_1 G5_2 G5_3 gt_b1) hZ (hw _ (List.mem_of_getElem? (i := 45) rfl)) (hw _ (List.mem_of_getElem? (i := 2) rfl)) (by decide) (by decide)) q7a q7c (g := (mkF m 20 #[.val (.long q1), .second, .val (.long q2), .second, .val (.long q3), .second, .val (.long q4), .second, .val (.ref b1), .unset, .unset, .unset, .unset, .unset, .unset, .unset, .unset, .unset, .unset] [(.ref b1)])) rfl (by rw [hml]; rfl) (Steps.refl _) (argsL := []) (rest := []) (lenOf own_pd4 rfl) rfl (by show 2 * 0 + _ ≤ _; exact Nat.le_of_eq rfl) (hb hby at_20) (fun _ _ => ⟨rfl, rfl, (by decide : 3 + 0 ≤ _), (by decide : 9 + 0 ≤ _)⟩)
  dsimp only [Pt.U, Pt.locs, Pt.cells, Pt.slots] at X7 lq7 yq7 zq7 st7 hQ7
  subst lq7 yq7 zq7
  obtain ⟨rfl, Nq7, Kp7, G7_0, G7_1, G7_2, G7_3⟩ := hQ7
  have N7 := Fr.app N5 Nq7
  have Z8 := Nat.le_trans Z6 Kp7.1
  refine own_st (G' := T7.setTop (mkF m 23 #[.val (.long q1), .second, .val (.long q2), .second, .val (.long q3), .second, .val (.long q4), .second, .val (.ref b1), .unset, .unset, .unset, .unset, .unset, .unset, .unset, .unset, .unset, .unset] [(.long (own_mix ((own_mix (q3 + (q4 * (-7046029254386353131 : Int64)))) + (-7046029254386353131 : Int64))))])) (fun t k => st7.trans k) ?_
  refine own_pop2L X7 hx 24 (hb hby at_23) ?_
  refine own_aload X7 hx 26 (hb hby at_24) rfl rfl ?_
  refine own_lloadN X7 hx 27 (hb hby at_26) rfl ?_
  refine own_lloadN X7 hx 28 (hb hby at_27) rfl ?_
  obtain ⟨cq9, kq9, q9a, q9b, q9c⟩ := isOf hZ rfl G7_0
  obtain ⟨_, _, ⟨T9, Lx9, kc9, nc9⟩, -, X9, ⟨Lc9, hQ9, lq9, yq9, zq9⟩, st9⟩ := X7.virtualBack hx (y := (⟨"com/example/loomsand/loomsand/Draws", "start", "(JJ)V"⟩ : MethodName)) (z := (⟨"com/example/loomsand/loomsand/Draws", "start", "(JJ)V"⟩ : MethodName)) hown (mvT hZ (hw _ (List.mem_of_getElem? (i := 24) rfl))) (mvT hZ (hw _ (List.mem_of_getElem? (i := 25) rfl))) (notFace_of_selects (args := #[]) (mvT hZ (hw _ (List.mem_of_getElem? (i := 27) rfl)))) (mvT hZ (hw _ (List.mem_of_getElem? (i := 27) rfl))) (mvT hZ (hw _ (List.mem_of_getElem? (i := 26) rfl))) (by decide) (backOf (W := 0) (own_rm4 l Z a0 hw [] b1 q1 q2 q3 q4 ((own_mix (q3 + (q4 * (-7046029254386353131 : Int64)))) + (-7046029254386353131 : Int64)) T7.heap n0 Z8 G7_0 G7_1 G7_2 G7_3 gt_b1) hZ (hw _ (List.mem_of_getElem? (i := 28) rfl)) (hw _ (List.mem_of_getElem? (i := 2) rfl)) (by decide) (by decide)) q9a q9c (g := (mkF m 28 #[.val (.long q1), .second, .val (.long q2), .second, .val (.long q3), .second, .val (.long q4), .second, .val (.ref b1), .unset, .unset, .unset, .unset, .unset, .unset, .unset, .unset, .unset, .unset] [(.long q2), (.long q1), (.ref b1)])) rfl (by rw [hml]; rfl) (Steps.refl _) (argsL := [(.long q1), (.long q2)]) (rest := []) (lenOf own_pd3 rfl) rfl (by show 2 * 0 + _ ≤ _; exact Nat.le_of_eq rfl) (hb hby at_28) (fun _ _ => ⟨rfl, rfl, (by decide : 3 + 0 ≤ _), (by decide : 9 + 0 ≤ _)⟩)
  dsimp only [Pt.U, Pt.locs, Pt.cells, Pt.slots] at X9 lq9 yq9 zq9 st9 hQ9
  subst lq9 yq9 zq9
  obtain ⟨rfl, Nq9, Kp9, G9_0, G9_1, G9_2, G9_3⟩ := hQ9
  have N9 := Fr.app N7 Nq9
  have Z10 := Nat.le_trans Z8 Kp9.1
  refine own_st (G' := T9.setTop (mkF m 31 #[.val (.long q1), .second, .val (.long q2), .second, .val (.long q3), .second, .val (.long q4), .second, .val (.ref b1), .unset, .unset, .unset, .unset, .unset, .unset, .unset, .unset, .unset, .unset] [])) (fun t k => st9.trans k) ?_
  refine own_aload X9 hx 33 (hb hby at_31) rfl rfl ?_
  obtain ⟨cq11, kq11, q11a, q11b, q11c⟩ := isOf hZ rfl G9_0
  obtain ⟨_, _, ⟨T11, Lx11, kc11, nc11⟩, -, X11, ⟨Lc11, hQ11, lq11, yq11, zq11⟩, st11⟩ := X9.virtualBack hx (y := (⟨"com/example/loomsand/loomsand/Draws", "next", "()J"⟩ : MethodName)) (z := (⟨"com/example/loomsand/loomsand/Draws", "next", "()J"⟩ : MethodName)) hown (mvT hZ (hw _ (List.mem_of_getElem? (i := 41) rfl))) (mvT hZ (hw _ (List.mem_of_getElem? (i := 42) rfl))) (notFace_of_selects (args := #[]) (mvT hZ (hw _ (List.mem_of_getElem? (i := 44) rfl)))) (mvT hZ (hw _ (List.mem_of_getElem? (i := 44) rfl))) (mvT hZ (hw _ (List.mem_of_getElem? (i := 43) rfl))) (by decide) (backOf (W := 0) (own_rm6 l Z a0 hw [] b1 q1 q2 (own_mix (q1 + (q2 * (-7046029254386353131 : Int64)))) T9.heap n0 Z10 G9_0 G9_1 G9_2 G9_3 gt_b1) hZ (hw _ (List.mem_of_getElem? (i := 45) rfl)) (hw _ (List.mem_of_getElem? (i := 2) rfl)) (by decide) (by decide)) q11a q11c (g := (mkF m 33 #[.val (.long q1), .second, .val (.long q2), .second, .val (.long q3), .second, .val (.long q4), .second, .val (.ref b1), .unset, .unset, .unset, .unset, .unset, .unset, .unset, .unset, .unset, .unset] [(.ref b1)])) rfl (by rw [hml]; rfl) (Steps.refl _) (argsL := []) (rest := []) (lenOf own_pd4 rfl) rfl (by show 2 * 0 + _ ≤ _; exact Nat.le_of_eq rfl) (hb hby at_33) (fun _ _ => ⟨rfl, rfl, (by decide : 3 + 0 ≤ _), (by decide : 9 + 0 ≤ _)⟩)
  dsimp only [Pt.U, Pt.locs, Pt.cells, Pt.slots] at X11 lq11 yq11 zq11 st11 hQ11
  subst lq11 yq11 zq11
  obtain ⟨rfl, Nq11, Kp11, G11_0, G11_1, G11_2, G11_3⟩ := hQ11
  have N11 := Fr.app N9 Nq11
  have Z12 := Nat.le_trans Z10 Kp11.1
  refine own_st (G' := T11.setTop (mkF m 36 #[.val (.long q1), .second, .val (.long q2), .second, .val (.long q3), .second, .val (.long q4), .second, .val (.ref b1), .unset, .unset, .unset, .unset, .unset, .unset, .unset, .unset, .unset, .unset] [(.long (own_mix ((own_mix (q1 + (q2 * (-7046029254386353131 : Int64)))) + (-7046029254386353131 : Int64))))])) (fun t k => st11.trans k) ?_
  refine own_lstore X11 hx 38 #[.val (.long q1), .second, .val (.long q2), .second, .val (.long q3), .second, .val (.long q4), .second, .val (.ref b1), .val (.long (own_mix ((own_mix (q1 + (q2 * (-7046029254386353131 : Int64)))) + (-7046029254386353131 : Int64)))), .second, .unset, .unset, .unset, .unset, .unset, .unset, .unset, .unset] (hb hby at_36) rfl ?_
  refine own_aload X11 hx 40 (hb hby at_38) rfl rfl ?_
  obtain ⟨cq13, kq13, q13a, q13b, q13c⟩ := isOf hZ rfl G11_0
  obtain ⟨_, _, ⟨T13, Lx13, kc13, nc13⟩, -, X13, ⟨Lc13, hQ13, lq13, yq13, zq13⟩, st13⟩ := X11.virtualBack hx (y := (⟨"com/example/loomsand/loomsand/Draws", "next", "()J"⟩ : MethodName)) (z := (⟨"com/example/loomsand/loomsand/Draws", "next", "()J"⟩ : MethodName)) hown (mvT hZ (hw _ (List.mem_of_getElem? (i := 41) rfl))) (mvT hZ (hw _ (List.mem_of_getElem? (i := 42) rfl))) (notFace_of_selects (args := #[]) (mvT hZ (hw _ (List.mem_of_getElem? (i := 44) rfl)))) (mvT hZ (hw _ (List.mem_of_getElem? (i := 44) rfl))) (mvT hZ (hw _ (List.mem_of_getElem? (i := 43) rfl))) (by decide) (backOf (W := 0) (own_rm6 l Z a0 hw [] b1 q1 q2 ((own_mix (q1 + (q2 * (-7046029254386353131 : Int64)))) + (-7046029254386353131 : Int64)) T11.heap n0 Z12 G11_0 G11_1 G11_2 G11_3 gt_b1) hZ (hw _ (List.mem_of_getElem? (i := 45) rfl)) (hw _ (List.mem_of_getElem? (i := 2) rfl)) (by decide) (by decide)) q13a q13c (g := (mkF m 40 #[.val (.long q1), .second, .val (.long q2), .second, .val (.long q3), .second, .val (.long q4), .second, .val (.ref b1), .val (.long (own_mix ((own_mix (q1 + (q2 * (-7046029254386353131 : Int64)))) + (-7046029254386353131 : Int64)))), .second, .unset, .unset, .unset, .unset, .unset, .unset, .unset, .unset] [(.ref b1)])) rfl (by rw [hml]; rfl) (Steps.refl _) (argsL := []) (rest := []) (lenOf own_pd4 rfl) rfl (by show 2 * 0 + _ ≤ _; exact Nat.le_of_eq rfl) (hb hby at_40) (fun _ _ => ⟨rfl, rfl, (by decide : 3 + 0 ≤ _), (by decide : 9 + 0 ≤ _)⟩)
  dsimp only [Pt.U, Pt.locs, Pt.cells, Pt.slots] at X13 lq13 yq13 zq13 st13 hQ13
  subst lq13 yq13 zq13
  obtain ⟨rfl, Nq13, Kp13, G13_0, G13_1, G13_2, G13_3⟩ := hQ13
  have N13 := Fr.app N11 Nq13
  have Z14 := Nat.le_trans Z12 Kp13.1
  refine own_st (G' := T13.setTop (mkF m 43 #[.val (.long q1), .second, .val (.long q2), .second, .val (.long q3), .second, .val (.long q4), .second, .val (.ref b1), .val (.long (own_mix ((own_mix (q1 + (q2 * (-7046029254386353131 : Int64)))) + (-7046029254386353131 : Int64)))), .second, .unset, .unset, .unset, .unset, .unset, .unset, .unset, .unset] [(.long (own_mix (((own_mix (q1 + (q2 * (-7046029254386353131 : Int64)))) + (-7046029254386353131 : Int64)) + (-7046029254386353131 : Int64))))])) (fun t k => st13.trans k) ?_
  refine own_lstore X13 hx 45 #[.val (.long q1), .second, .val (.long q2), .second, .val (.long q3), .second, .val (.long q4), .second, .val (.ref b1), .val (.long (own_mix ((own_mix (q1 + (q2 * (-7046029254386353131 : Int64)))) + (-7046029254386353131 : Int64)))), .second, .val (.long (own_mix (((own_mix (q1 + (q2 * (-7046029254386353131 : Int64)))) + (-7046029254386353131 : Int64)) + (-7046029254386353131 : Int64)))), .second, .unset, .unset, .unset, .unset, .unset, .unset] (hb hby at_43) rfl ?_
  refine own_lloadN X13 hx 46 (hb hby at_45) rfl ?_
  refine own_lloadN X13 hx 47 (hb hby at_46) rfl ?_
  refine own_ldcL X13 hx 50 hown (mvT hZ (hw _ (List.mem_of_getElem? (i := 46) rfl))) (hb hby at_47) ?_
  refine own_lmul X13 hx 51 (hb hby at_50) ?_
  refine own_ladd X13 hx 52 (hb hby at_51) ?_
  obtain ⟨_, _, ⟨T15, Lx15, kc15, nc15⟩, -, X15, ⟨Lc15, hQ15, lq15, yq15, zq15⟩, st15⟩ := Jvm.LawKit.callS X13 hx (y := (⟨"com/example/loomsand/loomsand/DrawsStartPinLaw", "splitMix", "(J)J"⟩ : MethodName)) hown (mvT hZ (hw _ (List.mem_of_getElem? (i := 47) rfl))) (mvT hZ (hw _ (List.mem_of_getElem? (i := 48) rfl))) (mvT hZ (hw _ (List.mem_of_getElem? (i := 49) rfl))) (mvT hZ (hw _ (List.mem_of_getElem? (i := 50) rfl))) (by decide) (backOf (W := 0) (own_rm7 l Z a0 hw [] (q1 + (q2 * (-7046029254386353131 : Int64))) T13.heap n0 Z14 ) hZ (hw _ (List.mem_of_getElem? (i := 50) rfl)) (hw _ (List.mem_of_getElem? (i := 49) rfl)) (by decide) (by decide)) (g := (mkF m 52 #[.val (.long q1), .second, .val (.long q2), .second, .val (.long q3), .second, .val (.long q4), .second, .val (.ref b1), .val (.long (own_mix ((own_mix (q1 + (q2 * (-7046029254386353131 : Int64)))) + (-7046029254386353131 : Int64)))), .second, .val (.long (own_mix (((own_mix (q1 + (q2 * (-7046029254386353131 : Int64)))) + (-7046029254386353131 : Int64)) + (-7046029254386353131 : Int64)))), .second, .unset, .unset, .unset, .unset, .unset, .unset] [(.long (q1 + (q2 * (-7046029254386353131 : Int64))))])) rfl (by rw [hml]; rfl) (argsL := [(.long (q1 + (q2 * (-7046029254386353131 : Int64))))]) (rest := []) (lenOf own_pd1 rfl) rfl (by show 2 * 0 + _ ≤ _; exact Nat.le_of_eq rfl) (hb hby at_52) (fun _ _ => ⟨rfl, rfl, (by decide : 3 + 0 ≤ _), (by decide : 9 + 0 ≤ _)⟩)
  dsimp only [Pt.U, Pt.locs, Pt.cells, Pt.slots] at X15 lq15 yq15 zq15 st15 hQ15
  subst lq15 yq15 zq15
  obtain ⟨rfl, Nq15, eh15⟩ := hQ15
  have N15 := Fr.app N13 Nq15
  refine own_st (G' := T15.setTop (mkF m 55 #[.val (.long q1), .second, .val (.long q2), .second, .val (.long q3), .second, .val (.long q4), .second, .val (.ref b1), .val (.long (own_mix ((own_mix (q1 + (q2 * (-7046029254386353131 : Int64)))) + (-7046029254386353131 : Int64)))), .second, .val (.long (own_mix (((own_mix (q1 + (q2 * (-7046029254386353131 : Int64)))) + (-7046029254386353131 : Int64)) + (-7046029254386353131 : Int64)))), .second, .unset, .unset, .unset, .unset, .unset, .unset] [(.long (own_split (q1 + (q2 * (-7046029254386353131 : Int64)))))])) st15 ?_
  refine own_lstore X15 hx 57 #[.val (.long q1), .second, .val (.long q2), .second, .val (.long q3), .second, .val (.long q4), .second, .val (.ref b1), .val (.long (own_mix ((own_mix (q1 + (q2 * (-7046029254386353131 : Int64)))) + (-7046029254386353131 : Int64)))), .second, .val (.long (own_mix (((own_mix (q1 + (q2 * (-7046029254386353131 : Int64)))) + (-7046029254386353131 : Int64)) + (-7046029254386353131 : Int64)))), .second, .val (.long (own_split (q1 + (q2 * (-7046029254386353131 : Int64))))), .second, .unset, .unset, .unset, .unset] (hb hby at_55) rfl ?_
  refine own_lload X15 hx 59 (hb hby at_57) rfl ?_
  refine own_ldcL X15 hx 62 hown (mvT hZ (hw _ (List.mem_of_getElem? (i := 46) rfl))) (hb hby at_59) ?_
  refine own_ladd X15 hx 63 (hb hby at_62) ?_
  obtain ⟨_, _, ⟨T16, Lx16, kc16, nc16⟩, -, X16, ⟨Lc16, hQ16, lq16, yq16, zq16⟩, st16⟩ := Jvm.LawKit.callS X15 hx (y := (⟨"com/example/loomsand/loomsand/DrawsStartPinLaw", "splitMix", "(J)J"⟩ : MethodName)) hown (mvT hZ (hw _ (List.mem_of_getElem? (i := 47) rfl))) (mvT hZ (hw _ (List.mem_of_getElem? (i := 48) rfl))) (mvT hZ (hw _ (List.mem_of_getElem? (i := 49) rfl))) (mvT hZ (hw _ (List.mem_of_getElem? (i := 50) rfl))) (by decide) (backOf (W := 0) (own_rm7 l Z a0 hw [] ((own_split (q1 + (q2 * (-7046029254386353131 : Int64)))) + (-7046029254386353131 : Int64)) T13.heap n0 Z14 ) hZ (hw _ (List.mem_of_getElem? (i := 50) rfl)) (hw _ (List.mem_of_getElem? (i := 49) rfl)) (by decide) (by decide)) (g := (mkF m 63 #[.val (.long q1), .second, .val (.long q2), .second, .val (.long q3), .second, .val (.long q4), .second, .val (.ref b1), .val (.long (own_mix ((own_mix (q1 + (q2 * (-7046029254386353131 : Int64)))) + (-7046029254386353131 : Int64)))), .second, .val (.long (own_mix (((own_mix (q1 + (q2 * (-7046029254386353131 : Int64)))) + (-7046029254386353131 : Int64)) + (-7046029254386353131 : Int64)))), .second, .val (.long (own_split (q1 + (q2 * (-7046029254386353131 : Int64))))), .second, .unset, .unset, .unset, .unset] [(.long ((own_split (q1 + (q2 * (-7046029254386353131 : Int64)))) + (-7046029254386353131 : Int64)))])) rfl (by rw [hml]; rfl) (argsL := [(.long ((own_split (q1 + (q2 * (-7046029254386353131 : Int64)))) + (-7046029254386353131 : Int64)))]) (rest := []) (lenOf own_pd1 rfl) rfl (by show 2 * 0 + _ ≤ _; exact Nat.le_of_eq rfl) (hb hby at_63) (fun _ _ => ⟨rfl, eh15, (by decide : 3 + 0 ≤ _), (by decide : 9 + 0 ≤ _)⟩)
  dsimp only [Pt.U, Pt.locs, Pt.cells, Pt.slots] at X16 lq16 yq16 zq16 st16 hQ16
  subst lq16 yq16 zq16
  obtain ⟨rfl, Nq16, eh16⟩ := hQ16
  have N16 := Fr.app N15 Nq16
  refine own_st (G' := T16.setTop (mkF m 66 #[.val (.long q1), .second, .val (.long q2), .second, .val (.long q3), .second, .val (.long q4), .second, .val (.ref b1), .val (.long (own_mix ((own_mix (q1 + (q2 * (-7046029254386353131 : Int64)))) + (-7046029254386353131 : Int64)))), .second, .val (.long (own_mix (((own_mix (q1 + (q2 * (-7046029254386353131 : Int64)))) + (-7046029254386353131 : Int64)) + (-7046029254386353131 : Int64)))), .second, .val (.long (own_split (q1 + (q2 * (-7046029254386353131 : Int64))))), .second, .unset, .unset, .unset, .unset] [(.long (own_split ((own_split (q1 + (q2 * (-7046029254386353131 : Int64)))) + (-7046029254386353131 : Int64))))])) st16 ?_
  refine own_lstore X16 hx 68 #[.val (.long q1), .second, .val (.long q2), .second, .val (.long q3), .second, .val (.long q4), .second, .val (.ref b1), .val (.long (own_mix ((own_mix (q1 + (q2 * (-7046029254386353131 : Int64)))) + (-7046029254386353131 : Int64)))), .second, .val (.long (own_mix (((own_mix (q1 + (q2 * (-7046029254386353131 : Int64)))) + (-7046029254386353131 : Int64)) + (-7046029254386353131 : Int64)))), .second, .val (.long (own_split (q1 + (q2 * (-7046029254386353131 : Int64))))), .second, .val (.long (own_split ((own_split (q1 + (q2 * (-7046029254386353131 : Int64)))) + (-7046029254386353131 : Int64)))), .second, .unset, .unset] (hb hby at_66) rfl ?_
  refine own_lload X16 hx 70 (hb hby at_68) rfl ?_
  refine own_ldcL X16 hx 73 hown (mvT hZ (hw _ (List.mem_of_getElem? (i := 46) rfl))) (hb hby at_70) ?_
  refine own_ladd X16 hx 74 (hb hby at_73) ?_
  refine own_ldcL X16 hx 77 hown (mvT hZ (hw _ (List.mem_of_getElem? (i := 46) rfl))) (hb hby at_74) ?_
  refine own_ladd X16 hx 78 (hb hby at_77) ?_
  obtain ⟨_, _, ⟨T17, Lx17, kc17, nc17⟩, -, X17, ⟨Lc17, hQ17, lq17, yq17, zq17⟩, st17⟩ := Jvm.LawKit.callS X16 hx (y := (⟨"com/example/loomsand/loomsand/DrawsStartPinLaw", "splitMix", "(J)J"⟩ : MethodName)) hown (mvT hZ (hw _ (List.mem_of_getElem? (i := 47) rfl))) (mvT hZ (hw _ (List.mem_of_getElem? (i := 48) rfl))) (mvT hZ (hw _ (List.mem_of_getElem? (i := 49) rfl))) (mvT hZ (hw _ (List.mem_of_getElem? (i := 50) rfl))) (by decide) (backOf (W := 0) (own_rm7 l Z a0 hw [] (((own_split (q1 + (q2 * (-7046029254386353131 : Int64)))) + (-7046029254386353131 : Int64)) + (-7046029254386353131 : Int64)) T13.heap n0 Z14 ) hZ (hw _ (List.mem_of_getElem? (i := 50) rfl)) (hw _ (List.mem_of_getElem? (i := 49) rfl)) (by decide) (by decide)) (g := (mkF m 78 #[.val (.long q1), .second, .val (.long q2), .second, .val (.long q3), .second, .val (.long q4), .second, .val (.ref b1), .val (.long (own_mix ((own_mix (q1 + (q2 * (-7046029254386353131 : Int64)))) + (-7046029254386353131 : Int64)))), .second, .val (.long (own_mix (((own_mix (q1 + (q2 * (-7046029254386353131 : Int64)))) + (-7046029254386353131 : Int64)) + (-7046029254386353131 : Int64)))), .second, .val (.long (own_split (q1 + (q2 * (-7046029254386353131 : Int64))))), .second, .val (.long (own_split ((own_split (q1 + (q2 * (-7046029254386353131 : Int64)))) + (-7046029254386353131 : Int64)))), .second, .unset, .unset] [(.long (((own_split (q1 + (q2 * (-7046029254386353131 : Int64)))) + (-7046029254386353131 : Int64)) + (-7046029254386353131 : Int64)))])) rfl (by rw [hml]; rfl) (argsL := [(.long (((own_split (q1 + (q2 * (-7046029254386353131 : Int64)))) + (-7046029254386353131 : Int64)) + (-7046029254386353131 : Int64)))]) (rest := []) (lenOf own_pd1 rfl) rfl (by show 2 * 0 + _ ≤ _; exact Nat.le_of_eq rfl) (hb hby at_78) (fun _ _ => ⟨rfl, eh16, (by decide : 3 + 0 ≤ _), (by decide : 9 + 0 ≤ _)⟩)
  dsimp only [Pt.U, Pt.locs, Pt.cells, Pt.slots] at X17 lq17 yq17 zq17 st17 hQ17
  subst lq17 yq17 zq17
  obtain ⟨rfl, Nq17, eh17⟩ := hQ17
  have N17 := Fr.app N16 Nq17
  refine own_st (G' := T17.setTop (mkF m 81 #[.val (.long q1), .second, .val (.long q2), .second, .val (.long q3), .second, .val (.long q4), .second, .val (.ref b1), .val (.long (own_mix ((own_mix (q1 + (q2 * (-7046029254386353131 : Int64)))) + (-7046029254386353131 : Int64)))), .second, .val (.long (own_mix (((own_mix (q1 + (q2 * (-7046029254386353131 : Int64)))) + (-7046029254386353131 : Int64)) + (-7046029254386353131 : Int64)))), .second, .val (.long (own_split (q1 + (q2 * (-7046029254386353131 : Int64))))), .second, .val (.long (own_split ((own_split (q1 + (q2 * (-7046029254386353131 : Int64)))) + (-7046029254386353131 : Int64)))), .second, .unset, .unset] [(.long (own_split (((own_split (q1 + (q2 * (-7046029254386353131 : Int64)))) + (-7046029254386353131 : Int64)) + (-7046029254386353131 : Int64))))])) st17 ?_
  refine own_lstore X17 hx 83 #[.val (.long q1), .second, .val (.long q2), .second, .val (.long q3), .second, .val (.long q4), .second, .val (.ref b1), .val (.long (own_mix ((own_mix (q1 + (q2 * (-7046029254386353131 : Int64)))) + (-7046029254386353131 : Int64)))), .second, .val (.long (own_mix (((own_mix (q1 + (q2 * (-7046029254386353131 : Int64)))) + (-7046029254386353131 : Int64)) + (-7046029254386353131 : Int64)))), .second, .val (.long (own_split (q1 + (q2 * (-7046029254386353131 : Int64))))), .second, .val (.long (own_split ((own_split (q1 + (q2 * (-7046029254386353131 : Int64)))) + (-7046029254386353131 : Int64)))), .second, .val (.long (own_split (((own_split (q1 + (q2 * (-7046029254386353131 : Int64)))) + (-7046029254386353131 : Int64)) + (-7046029254386353131 : Int64)))), .second] (hb hby at_81) rfl ?_
  refine own_lload X17 hx 85 (hb hby at_83) rfl ?_
  refine own_lload X17 hx 87 (hb hby at_85) rfl ?_
  refine own_lcmp X17 hx 88 (hb hby at_87) ?_
  refine own_ifNo X17 hx 91 (hb hby at_88) (teq ((lw_eq _ _).mpr (by simp only [own_eq] : (own_mix ((own_mix (q1 + (q2 * (-7046029254386353131 : Int64)))) + (-7046029254386353131 : Int64))) = (own_split ((own_split (q1 + (q2 * (-7046029254386353131 : Int64)))) + (-7046029254386353131 : Int64)))))).2 ?_
  refine own_lload X17 hx 93 (hb hby at_91) rfl ?_
  refine own_lload X17 hx 95 (hb hby at_93) rfl ?_
  refine own_lcmp X17 hx 96 (hb hby at_95) ?_
  refine own_ifNo X17 hx 99 (hb hby at_96) (teq ((lw_eq _ _).mpr (by simp only [own_eq] : (own_mix (((own_mix (q1 + (q2 * (-7046029254386353131 : Int64)))) + (-7046029254386353131 : Int64)) + (-7046029254386353131 : Int64))) = (own_split (((own_split (q1 + (q2 * (-7046029254386353131 : Int64)))) + (-7046029254386353131 : Int64)) + (-7046029254386353131 : Int64)))))).2 ?_
  refine own_iconst X17 hx 100 (1 : Int32) (hb hby at_99) rfl ?_
  refine own_goto X17 hx 104 (hb hby at_100) ?_
  exact own_retN (t := .boolean) (z := (1 : Int32)) (Q := own_Q0 Z q1 q2 q3 q4 h0 n0) X17 hx hrt (by simp) (hb hby at_104) hlk eh17 ⟨rfl, N17⟩ (by decide) (by decide)
set_option maxRecDepth 65536 in
set_option maxHeartbeats 40000000 in
theorem own_comes {Post : Tables → Env → Array Value → State → Outcome → State → Prop} (hpost : ∀ tb e args s v u, (limb_1_1.after args s (.returned v) u = true ∧ limb_1_2.after args s (.returned v) u = true ∧ True) → FrameEnd s (.returned v) u (Jvm.fieldLocs frame_1_writes args s ++ Jvm.arrayLocs frame_1_arrays args s ++ Jvm.staticLocs frame_1_statics s) 16 128 → Post tb e args s (.returned v) u) :
    ArmFor flags0 classFile x code maxLocals ret World_1 tables_1 room_1 Calls_1 rest_1 Pre_1 Post := by
  intro l hfl _ _ p e ha hc hk s m args below hf hA hF happ hP
  obtain ⟨hcalls, hrest, hpre⟩ := hP
  obtain ⟨-, -, -, hnamed, -, -, -, hat⟩ := (Spec.applies_iff hf).mp happ
  obtain ⟨hg, hn⟩ := and_e (Cond.before_iff.mp (show (Jvm.Cond.and given_1 narrow_1).before args s = true from hpre))
  obtain ⟨g1, g2⟩ := and_e hg
  obtain ⟨g3, g4⟩ := and_e g2
  obtain ⟨g5, g6⟩ := and_e g4
  obtain ⟨g7, g8⟩ := and_e g6
  obtain ⟨w0, w1, w2, w3, rfl⟩ : ∃ w0 w1 w2 w3 : Value, args = #[w0, w1, w2, w3] := by
    have hs : args.size = 4 := by simpa [Cond.value, given_1] using g1
    obtain ⟨L⟩ := args
    match L, hs with
    | [w0, w1, w2, w3], _ => exact ⟨w0, w1, w2, w3, rfl⟩
  have hw := fun d (hd : d ∈ tables_1) => atoms_spec (ws := Jvm.Cond.code x code maxLocals ret :: tables_1) hat d (List.mem_cons_of_mem _ hd)
  have hfit : Fit s := fun {y c} hc i hi => by
    obtain ⟨ha, rfl⟩ := Array.getElem?_eq_some_iff.mp hc
    have q := List.all_eq_true.mp ((Array.all_eq_true_iff_forall_mem.mp hF) _ (Array.getElem_mem ha)) i (List.mem_range.mpr hi)
    simpa [Array.getElem?_eq_getElem hi] using q
  obtain ⟨i0, ei0⟩ := isL_v g3
  obtain rfl : w0 = (.long i0) := Option.some.inj ei0
  obtain ⟨i1, ei1⟩ := isL_v g5
  obtain rfl : w1 = (.long i1) := Option.some.inj ei1
  obtain ⟨i2, ei2⟩ := isL_v g7
  obtain rfl : w2 = (.long i2) := Option.some.inj ei2
  obtain ⟨i3, ei3⟩ := isL_v g8
  obtain rfl : w3 = (.long i3) := Option.some.inj ei3
  obtain ⟨n, o, h1, h2, h3, _, L, rfl, ⟨rfl, N⟩, hq⟩ := own_rm0 l s _ hw tables_1 i0 i1 i2 i3 s.heap s.heap.size (Nat.le_refl _)  p e ha hc hk s m _ below hf ((Spec.applies_iff_loose hf).mp happ).1 ⟨rfl, State.Warmed39.refl s, rfl⟩ trivial
  refine ⟨n, _, h1, h2, h3, hpost _ _ _ _ _ _ ⟨Cond.after_iff.mpr rfl, Cond.after_iff.mpr (eq_i res_at (Term.int_eval (1)) rfl), trivial⟩ ⟨hq.1, hq.2.1, (hq.2.2.sift fun y hy => Or.inr (N y hy)).mono (by decide) (by decide)⟩⟩
theorem main_1_1 : Claimed_1_1 := own_comes fun _ _ _ _ _ _ h hF => ⟨h.1, Jvm.ReturnedEndW.of_narrow hF.1 hF.2.1 hF.2.2⟩
theorem main_1_2 : Claimed_1_2 := own_comes fun _ _ _ _ _ _ h hF => ⟨h.2.1, Jvm.ReturnedEndW.of_narrow hF.1 hF.2.1 hF.2.2⟩
end Jvm.Pilot.@@N@@
namespace Jvm.Pilot.@@N@@
open Jvm Jvm.ClassFile Sem Op Lib Jvm.Free Jvm.Stand Jvm.Pilot.@@N@@.Jvm.D
/-! MADE BY PROGRAM (witnessworld.py) out of the Statement's table words and the real class files: 12 classes; the members and pool entries that the words name. The judged class is class 1, her method 1. -/
namespace start1
open Jvm.ClassFile
def u (s : String) : CpInfo := .utf8 (stringToUtf16 s)
/-- a pool by its gaps: so many unusable entries, then the entry; so many at the end -/
def gap : Nat → List CpInfo → List CpInfo
  | 0, r => r
  | n + 1, r => .unusable :: gap n r
def poolList (es : List (Nat × CpInfo)) (last : Nat) : List CpInfo := es.foldr (fun e r => gap e.1 (e.2 :: r)) (gap last [])
def pool (es : List (Nat × CpInfo)) (last : Nat) : Array CpInfo := ⟨poolList es last⟩
def fileOf (pool : Array CpInfo) (this : Nat) (attrs : Array Attribute := #[]) (ms : Array MethodInfo := #[]) (fl : Nat := 33) (sup : Nat := 0) (ifs : Array Nat := #[]) (fds : Array FieldInfo := #[]) : ClassFile where
  minorVersion := 0
  majorVersion := 65
  constantPool := pool
  accessFlags := fl
  thisClass := this
  superClass := sup
  interfaces := ifs
  fields := fds
  methods := ms
  attributes := attrs
def plain (name : String) (sup : Option ClassId) : Class where
  name := name
  kind := .ordinary
  loader := none
  accessFlags := 33
  super := sup
  interfaces := #[]
  cf := none
  fields := #[]
  methods := #[]
  instanceTypes := #[]
  staticTypes := #[]
  resolved := #[]
  callSites := []
  init := .initialized
  statics := none
  mirror := none

def pool0 : Array CpInfo := pool [(5, u "<init>"), (0, u "()V"), (1, .class_ 10), (1, u "java/lang/Object")] 113

def k0c0 : Code := { maxStack := 0, maxLocals := 1, code := object_method_1_code, exceptionTable := #[], attributes := #[] }
def k0m0 : Method := { name := "<init>", desc := "()V", sig := { parameters := [], returnType := none }, accessFlags := 1, code := some k0c0 }
/-- java/lang/Object -/
def k0 : Class := { plain "java/lang/Object" none with
  accessFlags := 33
  interfaces := #[]
  cf := some (fileOf pool0 8 #[] #[{ accessFlags := 1, nameIndex := 5, descriptorIndex := 6, attributes := #[] }] 33 0 #[] #[])
  fields := #[]
  methods := #[k0m0]
  instanceTypes := #[]
  staticTypes := #[]
  resolved := Array.replicate 124 none
  statics := none }

def pool1 : Array CpInfo := pool [(2, .class_ 4), (0, .nameAndType 5 6), (0, u "java/lang/Object"), (0, u "<init>"), (0, u "()V"), (0, .class_ 8), (0, u "com/example/loomsand/loomsand/Draws"), (0, .methodref 7 3), (0, .methodref 7 11), (0, .nameAndType 12 13), (0, u "start"), (0, u "(JJ)V"), (0, .methodref 7 15), (0, .nameAndType 16 17), (0, u "next"), (0, u "()J"), (0, .long 11400714819323198485), (1, .methodref 21 22), (0, .class_ 23), (0, .nameAndType 24 25), (0, u "com/example/loomsand/loomsand/DrawsStartPinLaw"), (0, u "splitMix"), (0, u "(J)J"), (0, .long 13787848793156543929), (1, .long 10723151780598845931), (3, u "law"), (0, u "(JJJJ)Z")] 3

def k1m0 : Method := { name := "<init>", desc := "()V", sig := { parameters := [], returnType := none }, accessFlags := 1, code := none }
def k1c1 : Code := { maxStack := 6, maxLocals := 19, code := code, exceptionTable := #[], attributes := #[] }
def k1m1 : Method := { name := "law", desc := "(JJJJ)Z", sig := { parameters := [.long, .long, .long, .long], returnType := some .boolean }, accessFlags := 9, code := some k1c1 }
def k1c2 : Code := { maxStack := 5, maxLocals := 6, code := method_3_code, exceptionTable := #[], attributes := #[] }
def k1m2 : Method := { name := "splitMix", desc := "(J)J", sig := { parameters := [.long], returnType := some .long }, accessFlags := 10, code := some k1c2 }
/-- com/example/loomsand/loomsand/DrawsStartPinLaw -/
def k1 : Class := { plain "com/example/loomsand/loomsand/DrawsStartPinLaw" (some 0) with
  accessFlags := 49
  interfaces := #[]
  cf := some (fileOf pool1 21 #[] #[{ accessFlags := 1, nameIndex := 5, descriptorIndex := 6, attributes := #[] }, { accessFlags := 9, nameIndex := 32, descriptorIndex := 33, attributes := #[] }, { accessFlags := 10, nameIndex := 24, descriptorIndex := 25, attributes := #[] }] 49 2 #[] #[])
  fields := #[]
  methods := #[k1m0, k1m1, k1m2]
  instanceTypes := #[]
  staticTypes := #[]
  resolved := Array.replicate 37 none
  statics := none }

def pool2 : Array CpInfo := pool [(1, .methodref 2 3), (0, .class_ 4), (0, .nameAndType 5 6), (0, u "java/lang/Object"), (0, u "<init>"), (0, u "()V"), (0, .class_ 8), (0, u "com/example/loomsand/loomsand/Feistel"), (0, .invokeDynamic 0 10), (0, .nameAndType 11 12), (0, u "hash"), (0, u "(Lcom/example/loomsand/loomsand/Draws;)Lcom/example/loomsand/loomsand/Feistel$Round;"), (0, .methodref 7 14), (0, .nameAndType 5 15), (0, u "(Lcom/example/loomsand/loomsand/Feistel$Round;)V"), (0, .fieldref 17 18), (0, .class_ 19), (0, .nameAndType 20 21), (0, u "com/example/loomsand/loomsand/Draws"), (0, u "shuffle"), (0, u "Lcom/example/loomsand/loomsand/Feistel;"), (16, .methodref 17 39), (0, .nameAndType 40 41), (0, u "mix"), (0, u "(J)J"), (0, .fieldref 17 43), (0, .nameAndType 44 45), (0, u "key"), (0, u "J"), (0, .fieldref 17 47), (0, .nameAndType 48 45), (0, u "row"), (0, .long 11400714819323198485), (1, .fieldref 17 52), (0, .nameAndType 53 45), (0, u "state"), (11, u "next"), (0, u "()J"), (50, u "shuffleKey"), (22, .long 13787848793156543929), (1, .long 10723151780598845931), (1, u "STEP"), (1, u "FNV_OFFSET"), (0, u "FNV_PRIME"), (5, u "start"), (0, u "(JJ)V"), (5, u "shuffleRound"), (0, u "(IJ)J"), (3, .methodType 161), (0, .methodHandle 5 167), (0, .methodref 17 168), (0, .nameAndType 160 161), (4, .methodHandle 6 174), (0, .methodref 175 176), (0, .class_ 177), (0, .nameAndType 178 179), (0, u "java/lang/invoke/LambdaMetafactory"), (0, u "metafactory"), (0, u "(Ljava/lang/invoke/MethodHandles$Lookup;Ljava/lang/String;Ljava/lang/invoke/MethodType;Ljava/lang/invoke/MethodType;Ljava/lang/invoke/MethodHandle;Ljava/lang/invoke/MethodType;)Ljava/lang/invoke/CallSite;")] 15

def k2c0 : Code := { maxStack := 4, maxLocals := 1, code := prog_16_method_1_code, exceptionTable := #[], attributes := #[] }
def k2m0 : Method := { name := "<init>", desc := "()V", sig := { parameters := [], returnType := none }, accessFlags := 0, code := some k2c0 }
def k2c1 : Code := { maxStack := 7, maxLocals := 5, code := prog_16_method_3_code, exceptionTable := #[], attributes := #[] }
def k2m1 : Method := { name := "start", desc := "(JJ)V", sig := { parameters := [.long, .long], returnType := none }, accessFlags := 0, code := some k2c1 }
def k2c2 : Code := { maxStack := 5, maxLocals := 1, code := prog_16_method_4_code, exceptionTable := #[], attributes := #[] }
def k2m2 : Method := { name := "next", desc := "()J", sig := { parameters := [], returnType := some .long }, accessFlags := 0, code := some k2c2 }
def k2c3 : Code := { maxStack := 6, maxLocals := 4, code := ⟨#[0x2a, 0xb4, 0x00, 0x73, 0x20, 0x14, 0x00, 0x31, 0x69, 0x61, 0xb8, 0x00, 0x26, 0x1b, 0x04, 0x60, 0x85, 0x14, 0x00, 0x31, 0x69, 0x61, 0xb8, 0x00, 0x26, 0xad]⟩, exceptionTable := #[], attributes := #[] }
def k2m3 : Method := { name := "shuffleRound", desc := "(IJ)J", sig := { parameters := [.int, .long], returnType := some .long }, accessFlags := 2, code := some k2c3 }
def k2c4 : Code := { maxStack := 5, maxLocals := 2, code := prog_16_method_14_code, exceptionTable := #[], attributes := #[] }
def k2m4 : Method := { name := "mix", desc := "(J)J", sig := { parameters := [.long], returnType := some .long }, accessFlags := 10, code := some k2c4 }
/-- com/example/loomsand/loomsand/Draws -/
def k2 : Class := { plain "com/example/loomsand/loomsand/Draws" (some 0) with
  accessFlags := 48
  interfaces := #[]
  cf := some (fileOf pool2 17 #[.bootstrapMethods #[⟨173, #[165, 166, 165]⟩, ⟨0, #[]⟩, ⟨0, #[]⟩]] #[{ accessFlags := 0, nameIndex := 5, descriptorIndex := 6, attributes := #[] }, { accessFlags := 0, nameIndex := 153, descriptorIndex := 154, attributes := #[] }, { accessFlags := 0, nameIndex := 65, descriptorIndex := 66, attributes := #[] }, { accessFlags := 2, nameIndex := 160, descriptorIndex := 161, attributes := #[] }, { accessFlags := 10, nameIndex := 40, descriptorIndex := 41, attributes := #[] }] 48 2 #[] #[{ accessFlags := 26, nameIndex := 144, descriptorIndex := 45, attributes := #[] }, { accessFlags := 26, nameIndex := 146, descriptorIndex := 45, attributes := #[] }, { accessFlags := 26, nameIndex := 147, descriptorIndex := 45, attributes := #[] }, { accessFlags := 2, nameIndex := 53, descriptorIndex := 45, attributes := #[] }, { accessFlags := 2, nameIndex := 44, descriptorIndex := 45, attributes := #[] }, { accessFlags := 2, nameIndex := 48, descriptorIndex := 45, attributes := #[] }, { accessFlags := 2, nameIndex := 117, descriptorIndex := 45, attributes := #[] }, { accessFlags := 18, nameIndex := 20, descriptorIndex := 21, attributes := #[] }])
  fields := #[{ name := "STEP", type := .long, accessFlags := 26, slot := 0, constantValue := 0 }, { name := "FNV_OFFSET", type := .long, accessFlags := 26, slot := 1, constantValue := 0 }, { name := "FNV_PRIME", type := .long, accessFlags := 26, slot := 2, constantValue := 0 }, { name := "state", type := .long, accessFlags := 2, slot := 0, constantValue := 0 }, { name := "key", type := .long, accessFlags := 2, slot := 1, constantValue := 0 }, { name := "row", type := .long, accessFlags := 2, slot := 2, constantValue := 0 }, { name := "shuffleKey", type := .long, accessFlags := 2, slot := 3, constantValue := 0 }, { name := "shuffle", type := (.object "com/example/loomsand/loomsand/Feistel"), accessFlags := 18, slot := 4, constantValue := 0 }]
  methods := #[k2m0, k2m1, k2m2, k2m3, k2m4]
  instanceTypes := #[.long, .long, .long, .long, (.object "com/example/loomsand/loomsand/Feistel")]
  staticTypes := #[.long, .long, .long]
  resolved := Array.replicate 195 none
  callSites := [(0, 10, .makes 11)]
  statics := none }

def pool3 : Array CpInfo := pool [(1, .methodref 2 3), (0, .class_ 4), (0, .nameAndType 5 6), (0, u "java/lang/Object"), (0, u "<init>"), (0, u "()V"), (0, .fieldref 8 9), (0, .class_ 10), (0, .nameAndType 11 12), (0, u "com/example/loomsand/loomsand/Feistel"), (0, u "round"), (0, u "Lcom/example/loomsand/loomsand/Feistel$Round;"), (1, .class_ 16), (1, u "com/example/loomsand/loomsand/Feistel$Round"), (10, u "left"), (0, u "J"), (2, u "right"), (0, u "MOST_VALUES"), (3, u "ROUNDS"), (0, u "I"), (1, u "(Lcom/example/loomsand/loomsand/Feistel$Round;)V")] 11

def k3c0 : Code := { maxStack := 2, maxLocals := 2, code := prog_18_method_1_code, exceptionTable := #[], attributes := #[] }
def k3m0 : Method := { name := "<init>", desc := "(Lcom/example/loomsand/loomsand/Feistel$Round;)V", sig := { parameters := [(.object "com/example/loomsand/loomsand/Feistel$Round")], returnType := none }, accessFlags := 0, code := some k3c0 }
/-- com/example/loomsand/loomsand/Feistel -/
def k3 : Class := { plain "com/example/loomsand/loomsand/Feistel" (some 0) with
  accessFlags := 48
  interfaces := #[]
  cf := some (fileOf pool3 8 #[.nestMembers #[14]] #[{ accessFlags := 0, nameIndex := 5, descriptorIndex := 39, attributes := #[] }] 48 2 #[] #[{ accessFlags := 24, nameIndex := 32, descriptorIndex := 28, attributes := #[] }, { accessFlags := 26, nameIndex := 36, descriptorIndex := 37, attributes := #[] }, { accessFlags := 18, nameIndex := 11, descriptorIndex := 12, attributes := #[] }, { accessFlags := 2, nameIndex := 27, descriptorIndex := 28, attributes := #[] }, { accessFlags := 2, nameIndex := 31, descriptorIndex := 28, attributes := #[] }])
  fields := #[{ name := "MOST_VALUES", type := .long, accessFlags := 24, slot := 0, constantValue := 0 }, { name := "ROUNDS", type := .int, accessFlags := 26, slot := 1, constantValue := 0 }, { name := "round", type := (.object "com/example/loomsand/loomsand/Feistel$Round"), accessFlags := 18, slot := 0, constantValue := 0 }, { name := "left", type := .long, accessFlags := 2, slot := 1, constantValue := 0 }, { name := "right", type := .long, accessFlags := 2, slot := 2, constantValue := 0 }]
  methods := #[k3m0]
  instanceTypes := #[(.object "com/example/loomsand/loomsand/Feistel$Round"), .long, .long]
  staticTypes := #[.long, .int]
  resolved := Array.replicate 51 none
  statics := none }

def pool4 : Array CpInfo := pool [(1, .class_ 2), (0, u "com/example/loomsand/loomsand/Feistel$Round"), (0, .class_ 4), (0, u "java/lang/Object"), (0, u "hash"), (0, u "(IJ)J"), (5, .class_ 13), (0, u "com/example/loomsand/loomsand/Feistel")] 2

def k4m0 : Method := { name := "hash", desc := "(IJ)J", sig := { parameters := [.int, .long], returnType := some .long }, accessFlags := 1025, code := none }
/-- com/example/loomsand/loomsand/Feistel$Round -/
def k4 : Class := { plain "com/example/loomsand/loomsand/Feistel$Round" (some 0) with
  accessFlags := 1536
  interfaces := #[]
  cf := some (fileOf pool4 1 #[.nestHost 12] #[{ accessFlags := 1025, nameIndex := 5, descriptorIndex := 6, attributes := #[] }] 1536 3 #[] #[])
  fields := #[]
  methods := #[k4m0]
  instanceTypes := #[]
  staticTypes := #[]
  resolved := Array.replicate 16 none
  statics := none }

def pool5 : Array CpInfo := pool [(1, u "java/lang/Cloneable"), (0, .class_ 1), (0, u "java/lang/Object"), (0, .class_ 3)] 3

/-- java/lang/Cloneable -/
def k5 : Class := { plain "java/lang/Cloneable" (some 0) with
  accessFlags := 1537
  interfaces := #[]
  cf := some (fileOf pool5 2 #[] #[] 1537 4 #[] #[])
  fields := #[]
  methods := #[]
  instanceTypes := #[]
  staticTypes := #[]
  resolved := Array.replicate 8 none
  statics := none }

def pool6 : Array CpInfo := pool [(1, u "java/io/Serializable"), (0, .class_ 1), (0, u "java/lang/Object"), (0, .class_ 3)] 3

/-- java/io/Serializable -/
def k6 : Class := { plain "java/io/Serializable" (some 0) with
  accessFlags := 1537
  interfaces := #[]
  cf := some (fileOf pool6 2 #[] #[] 1537 4 #[] #[])
  fields := #[]
  methods := #[]
  instanceTypes := #[]
  staticTypes := #[]
  resolved := Array.replicate 8 none
  statics := none }

/-- the primitive byte -/
def k7 : Class := { plain "byte" none with kind := .primitive 'B', accessFlags := 0x411 }
/-- [B -/
def k8 : Class := { plain "[B" (some 0) with kind := .array 7 .byte, interfaces := #[5, 6], accessFlags := 1041 }

/-- the primitive int -/
def k9 : Class := { plain "int" none with kind := .primitive 'I', accessFlags := 0x411 }
/-- [I -/
def k10 : Class := { plain "[I" (some 0) with kind := .array 9 .int, interfaces := #[5, 6], accessFlags := 1041 }

def classes0 : Array Class := #[k0, k1, k2, k3, k4, k5, k6, k7, k8, k9, k10]
/-- the class that the rule has made for the site at 10 of com/example/loomsand/loomsand/Draws.<init> -/
def k11 : Class := Jvm.LamKit.madeRec { classes := classes0 } "com/example/loomsand/loomsand/Draws" (Jvm.Lambda.Shape.mk "com/example/loomsand/loomsand/Feistel$Round" "hash" (Jvm.ClassFile.MethodDescriptor.mk ([Jvm.ClassFile.FieldType.int, Jvm.ClassFile.FieldType.long] : List Jvm.ClassFile.FieldType) (Option.some Jvm.ClassFile.FieldType.long)) ([(Jvm.ClassFile.FieldType.object "com/example/loomsand/loomsand/Draws")] : List Jvm.ClassFile.FieldType) (5 : Nat) "com/example/loomsand/loomsand/Draws" "shuffleRound" (Jvm.ClassFile.MethodDescriptor.mk ([Jvm.ClassFile.FieldType.int, Jvm.ClassFile.FieldType.long] : List Jvm.ClassFile.FieldType) (Option.some Jvm.ClassFile.FieldType.long)) false (Jvm.ClassFile.MethodDescriptor.mk ([Jvm.ClassFile.FieldType.int, Jvm.ClassFile.FieldType.long] : List Jvm.ClassFile.FieldType) (Option.some Jvm.ClassFile.FieldType.long))) 11

def heap : Heap := #[]
def classes : Array Class := #[k0, k1, k2, k3, k4, k5, k6, k7, k8, k9, k10, k11]
def interned : List (Array UInt16 × Addr) := []
def slotsUsed : Nat := 0
def theMethod : MethodId := ⟨1, 1⟩
def args0 : Array Value := #[.long 7, .long 1, .long 2, .long 3]
def aboutOver (below : List Frame) : State where
  vm := { classes := classes, interned := interned.toArray }
  heap := heap
  slotsUsed := slotsUsed
  threads := #[{ frames := .invoking theMethod args0 :: below }]
def below0 : List Frame := [.native { method := ⟨0, 0⟩, args := #[] }]
def about1 : State := aboutOver below0
def p0 : Program := .bare "" "" ""
def e0 : Env := launch0.env 0 0 0
theorem w_frames : about1.frames = Frame.invoking theMethod args0 :: below0 := rfl
set_option maxRecDepth 65536 in
theorem w_args : argsFit about1.vm theMethod args0 = true := by decide +kernel
set_option maxRecDepth 65536 in
theorem w_heap : heapFits about1 = true := by decide +kernel
set_option maxRecDepth 65536 in
theorem w_runnable : about1.curStatus? = some .runnable := by decide +kernel
set_option maxRecDepth 65536 in
theorem w_alone : about1.alone = true := by decide +kernel
set_option maxRecDepth 65536 in
theorem w_named : about1.methodNamed? x = some theMethod := by decide +kernel
set_option maxRecDepth 65536 in
theorem w_hears : about1.hears theMethod below0 = true := by decide +kernel
set_option maxRecDepth 65536 in
theorem w_ripe : about1.ripe theMethod args0 below0 = true := by decide +kernel
theorem w_running : about1.status = .running := rfl
set_option maxRecDepth 65536 in
theorem w_room : about1.hasRoom e0.platform room_1 = true :=
  launch0.hasRoom_least _ room_1 (by decide +kernel) (by decide +kernel) (by decide +kernel) (by decide +kernel) (by decide +kernel) (by decide +kernel)
theorem allAtoms_all (ts : List Jvm.Cond) (a : Array Jvm.Value) (st : Jvm.State) : (allAtoms ts).before a st = ts.all (fun c => c.before a st) := by
  induction ts with
  | nil => rfl
  | cons c t ih =>
    show (Jvm.Cond.and c (allAtoms t)).before a st = _
    rw [Jvm.Cond.before_and, ih, List.all_cons]
def words1 : List Jvm.Cond := Jvm.Cond.code x code maxLocals ret :: tables_1
/-- a 'code' word, met by the world's own term for the bytes: nothing is compared byte by byte -/
theorem code_word {y : MethodName} {bytes : ByteArray} {mx : Nat} {rt : Option FieldType} {a : Array Value} {s : State} {m : MethodId} {meth : Method} {c : Code} (h1 : s.methodNamed? y = some m) (h2 : s.vm.method? m = some meth) (h3 : meth.code = some c) (h4 : c.code = bytes)
    (h5 : (c.maxLocals == mx && c.exceptionTable.isEmpty && decide (c.maxStack ≤ mostOperands) && decide (meth.sig.returnType = rt) && !meth.locks && decide (parseMethodDescriptor y.desc = some meth.sig)) = true) : (Jvm.Cond.code y bytes mx rt).before a s = true := by
  simp only [Bool.and_eq_true, beq_iff_eq, Bool.not_eq_true', decide_eq_true_eq] at h5
  obtain ⟨⟨⟨⟨⟨g1, g2⟩, g3⟩, g4⟩, g5⟩, g6⟩ := h5
  simp [Cond.before, Cond.holds, Cond.value, h1, h2, h3, h4, g1, g2, g3, g4, g5, g6]
def isCode : Jvm.Cond → Bool
  | .code _ _ _ _ => true
  | _ => false
theorem all_split {L : List Jvm.Cond} {P : Jvm.Cond → Bool} (h1 : L.all (fun c => isCode c || P c) = true) (h2 : ∀ c ∈ L.filter isCode, P c = true) : L.all P = true := by
  refine List.all_eq_true.mpr fun c hc => ?_
  have h := List.all_eq_true.mp h1 c hc
  rcases Bool.eq_false_or_eq_true (isCode c) with hi | hi
  · exact h2 c (List.mem_filter.mpr ⟨hc, hi⟩)
  · simpa [hi] using h
set_option maxRecDepth 65536 in
theorem w_c0 : (Jvm.Cond.code x code maxLocals ret).before args0 about1 = true := code_word (m := ⟨1, 1⟩) (meth := k1m1) (c := k1c1) (by decide +kernel) rfl rfl rfl (by decide +kernel)
set_option maxRecDepth 65536 in
theorem w_c1 : (Jvm.Cond.code ({ cls := "com/example/loomsand/loomsand/Draws", name := "<init>", desc := "()V" } : Jvm.MethodName) prog_16_method_1_code (1 : Nat) (Option.none : Option Jvm.ClassFile.FieldType)).before args0 about1 = true := code_word (m := ⟨2, 0⟩) (meth := k2m0) (c := k2c0) (by decide +kernel) rfl rfl rfl (by decide +kernel)
set_option maxRecDepth 65536 in
theorem w_c2 : (Jvm.Cond.code ({ cls := "java/lang/Object", name := "<init>", desc := "()V" } : Jvm.MethodName) object_method_1_code (1 : Nat) (Option.none : Option Jvm.ClassFile.FieldType)).before args0 about1 = true := code_word (m := ⟨0, 0⟩) (meth := k0m0) (c := k0c0) (by decide +kernel) rfl rfl rfl (by decide +kernel)
set_option maxRecDepth 65536 in
theorem w_c3 : (Jvm.Cond.code ({ cls := "com/example/loomsand/loomsand/Feistel", name := "<init>", desc := "(Lcom/example/loomsand/loomsand/Feistel$Round;)V" } : Jvm.MethodName) prog_18_method_1_code (2 : Nat) (Option.none : Option Jvm.ClassFile.FieldType)).before args0 about1 = true := code_word (m := ⟨3, 0⟩) (meth := k3m0) (c := k3c0) (by decide +kernel) rfl rfl rfl (by decide +kernel)
set_option maxRecDepth 65536 in
theorem w_c4 : (Jvm.Cond.code ({ cls := "com/example/loomsand/loomsand/Draws", name := "start", desc := "(JJ)V" } : Jvm.MethodName) prog_16_method_3_code (5 : Nat) (Option.none : Option Jvm.ClassFile.FieldType)).before args0 about1 = true := code_word (m := ⟨2, 1⟩) (meth := k2m1) (c := k2c1) (by decide +kernel) rfl rfl rfl (by decide +kernel)
set_option maxRecDepth 65536 in
theorem w_c5 : (Jvm.Cond.code ({ cls := "com/example/loomsand/loomsand/Draws", name := "mix", desc := "(J)J" } : Jvm.MethodName) prog_16_method_14_code (2 : Nat) (Option.some Jvm.ClassFile.FieldType.long)).before args0 about1 = true := code_word (m := ⟨2, 4⟩) (meth := k2m4) (c := k2c4) (by decide +kernel) rfl rfl rfl (by decide +kernel)
set_option maxRecDepth 65536 in
theorem w_c6 : (Jvm.Cond.code ({ cls := "com/example/loomsand/loomsand/Draws", name := "next", desc := "()J" } : Jvm.MethodName) prog_16_method_4_code (1 : Nat) (Option.some Jvm.ClassFile.FieldType.long)).before args0 about1 = true := code_word (m := ⟨2, 2⟩) (meth := k2m2) (c := k2c2) (by decide +kernel) rfl rfl rfl (by decide +kernel)
set_option maxRecDepth 65536 in
theorem w_c7 : (Jvm.Cond.code ({ cls := "com/example/loomsand/loomsand/DrawsStartPinLaw", name := "splitMix", desc := "(J)J" } : Jvm.MethodName) method_3_code (6 : Nat) (Option.some Jvm.ClassFile.FieldType.long)).before args0 about1 = true := code_word (m := ⟨1, 2⟩) (meth := k1m2) (c := k1c2) (by decide +kernel) rfl rfl rfl (by decide +kernel)
def codes1 : List Jvm.Cond := [Jvm.Cond.code x code maxLocals ret, Jvm.Cond.code ({ cls := "com/example/loomsand/loomsand/Draws", name := "<init>", desc := "()V" } : Jvm.MethodName) prog_16_method_1_code (1 : Nat) (Option.none : Option Jvm.ClassFile.FieldType), Jvm.Cond.code ({ cls := "java/lang/Object", name := "<init>", desc := "()V" } : Jvm.MethodName) object_method_1_code (1 : Nat) (Option.none : Option Jvm.ClassFile.FieldType), Jvm.Cond.code ({ cls := "com/example/loomsand/loomsand/Feistel", name := "<init>", desc := "(Lcom/example/loomsand/loomsand/Feistel$Round;)V" } : Jvm.MethodName) prog_18_method_1_code (2 : Nat) (Option.none : Option Jvm.ClassFile.FieldType), Jvm.Cond.code ({ cls := "com/example/loomsand/loomsand/Draws", name := "start", desc := "(JJ)V" } : Jvm.MethodName) prog_16_method_3_code (5 : Nat) (Option.none : Option Jvm.ClassFile.FieldType), Jvm.Cond.code ({ cls := "com/example/loomsand/loomsand/Draws", name := "mix", desc := "(J)J" } : Jvm.MethodName) prog_16_method_14_code (2 : Nat) (Option.some Jvm.ClassFile.FieldType.long), Jvm.Cond.code ({ cls := "com/example/loomsand/loomsand/Draws", name := "next", desc := "()J" } : Jvm.MethodName) prog_16_method_4_code (1 : Nat) (Option.some Jvm.ClassFile.FieldType.long), Jvm.Cond.code ({ cls := "com/example/loomsand/loomsand/DrawsStartPinLaw", name := "splitMix", desc := "(J)J" } : Jvm.MethodName) method_3_code (6 : Nat) (Option.some Jvm.ClassFile.FieldType.long)]
set_option maxRecDepth 65536 in
theorem codes_eq : words1.filter isCode = codes1 := rfl
theorem w_codes : ∀ c ∈ words1.filter isCode, c.before args0 about1 = true := by
  rw [codes_eq]
  intro c hc
  simp only [codes1, List.mem_cons, List.not_mem_nil, or_false] at hc
  rcases hc with rfl | rfl | rfl | rfl | rfl | rfl | rfl | rfl
  · exact w_c0
  · exact w_c1
  · exact w_c2
  · exact w_c3
  · exact w_c4
  · exact w_c5
  · exact w_c6
  · exact w_c7
set_option maxRecDepth 65536 in
theorem w_t1 : (words1.take 24).all (fun c => isCode c || c.before args0 about1) = true := by decide +kernel
set_option maxRecDepth 65536 in
theorem w_t2 : ((words1.drop 24).take 24).all (fun c => isCode c || c.before args0 about1) = true := by decide +kernel
set_option maxRecDepth 65536 in
theorem w_t3 : ((words1.drop 24).drop 24).all (fun c => isCode c || c.before args0 about1) = true := by decide +kernel
theorem w_tables : (allAtoms (Jvm.Cond.code x code maxLocals ret :: tables_1)).before args0 about1 = true := by
  rw [allAtoms_all]
  show words1.all (fun c => c.before args0 about1) = true
  refine all_split ?_ w_codes
  rw [← List.take_append_drop 24 words1, List.all_append, w_t1, ← List.take_append_drop 24 (words1.drop 24), List.all_append, w_t2, w_t3]
  rfl
set_option maxRecDepth 65536 in
theorem w_case : (Jvm.Cond.and given_1 narrow_1).before args0 about1 = true := by decide +kernel
theorem w_applies : (headSpec (Jvm.Cond.code x code maxLocals ret :: tables_1) room_1).applies x e0.platform about1 = true :=
  (Spec.applies_iff w_frames).mpr ⟨w_running, w_runnable, w_alone, w_named, w_hears, w_ripe, w_room, w_tables⟩
theorem atStart : AtStart classFile x code maxLocals ret World_1 tables_1 room_1 Calls_1 rest_1 Pre_1 launch0 p0 e0 about1 theMethod args0 below0 :=
  ⟨lists_1, trivial, launch0.admits_env _ _ _, launch0.least_env, fairChoices_fair.cas, fairChoices_fair.clock, w_frames, w_args, w_heap, w_applies, trivial, trivial, w_case⟩
end start1
theorem witness_1 : WitnessClaimed_1 := ⟨start1.p0, start1.e0, start1.about1, start1.theMethod, start1.args0, start1.below0, start1.atStart⟩
end Jvm.Pilot.@@N@@
