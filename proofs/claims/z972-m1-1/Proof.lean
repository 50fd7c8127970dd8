import JvmDerived
import JvmDerived.Pilot.@@N@@Statement
import JvmDerived.Pilot.@@N@@Code
set_option linter.unusedVariables false
set_option linter.unusedSimpArgs false
namespace Jvm.RoadKit
open Sem ClassFile Op Lib Jvm.Stand Jvm.Free Jvm.LawKit
section New
variable {p : Program} {l : Launch} {e : Env} {R : Room} {s : State} {m : MethodId} {args : Array Value} {below : List Frame} {meth : Method} {c : Code} {T : State} {locs : List Loc} {cells slots : Nat}
theorem retI (X : Stand p l e R s m args below meth c T locs cells slots) (hx : p.tables.exec = Jvm.exec) {pc : Nat} {Ls : Array Slot} {z : Int32} {rest : List Value} (hret : meth.sig.returnType = some .int) (hd : decode c.code pc = .ok (.ireturn, 1)) {fs : List Frame}
    (hl : ∀ (f : JFrame) (acts : List Action), f.method = m → f.locked = none → f.entered = [] → (doReturn e (T.setTop f) acts (some (.int z))).1 = T.setFrames fs) : Steps p.tables e below (T.setTop (mkF m pc Ls (.int z :: rest))) (T.setFrames fs) := by
  have hm' : T.vm.method? m = some meth := X.method'
  have hn : narrow .int (.int z) = .int z := rfl
  show Steps p.tables e below (T.setTop { method := m, pc := pc, locals := Ls, stack := _ :: rest, locked := none }) _
  jvm_step X.here [X.here.top, hx, hd, hm', hret, hn]
  first | (intro acts; rw [hl _ acts rfl rfl rfl]) | rw [hl _ _ rfl rfl rfl]
  exact Steps.refl _
end New
end Jvm.RoadKit
namespace Jvm.Pilot.@@N@@
open Jvm Jvm.ClassFile Sem Op Lib Jvm.Free Jvm.Stand Jvm.LawKit Jvm.RoadKit Bundle Jvm.Pilot.@@N@@.Jvm.D
section Own
variable {p : Program} {l : Launch} {e : Env} {R : Room} {s : State} {m : MethodId} {args : Array Value} {below : List Frame} {meth : Method} {c : Code} {T : State} {locs : List Loc} {cells slots : Nat}
/-- from the state G the run comes to an end with an outcome of which Φ holds -/
def own_Gs (p : Program) (e : Env) (below : List Frame) (Φ : Outcome → State → Prop) (G : State) : Prop :=
  ∃ (t : State) (o : Outcome), Steps p.tables e below G t ∧ t.status = .running ∧ Ended t below o ∧ Φ o t
theorem own_st {Φ : Outcome → State → Prop} {G G' : State} (k : ∀ t, Steps p.tables e below G' t → Steps p.tables e below G t) (h : own_Gs p e below Φ G') : own_Gs p e below Φ G := by
  obtain ⟨a, b, h1, h2⟩ := h
  exact ⟨a, b, k _ h1, h2⟩
/-- the list of what was written, with its name alone: long nested lists cost Lean dearly -/
theorem own_hide {n0 : Nat} (X : Stand p l e R s m args below meth c T locs cells slots) (N : Fr n0 locs) : ∃ L, Stand p l e R s m args below meth c T L cells slots ∧ Fr n0 L := ⟨locs, X, N⟩
theorem own_in {Φ : Outcome → State → Prop} {g g' : JFrame} (q : g = g') (h : own_Gs p e below Φ (T.setTop g')) : ∃ (t : State) (o : Outcome), Steps p.tables e below (T.setTop g) t ∧ t.status = .running ∧ Ended t below o ∧ Φ o t := by
  subst q; exact h
theorem own_ret (X : Stand p l e R s m args below meth c T locs cells slots) {v : Option Value} (hv : meth.sig.returnType = none → v = none) (hlk : meth.locks = false) {G : State}
    (k : ∀ fs, (∀ (f : JFrame) (acts : List Action), f.method = m → f.locked = none → f.entered = [] → (doReturn e (T.setTop f) acts v).1 = T.setFrames fs) → Steps p.tables e below G (T.setFrames fs))
    {Q : Option Value → Heap → List Loc → Prop} {h : Heap} (eT : T.heap = h) (hQ : Q v h locs) {cc ss : Nat} (hc : cells ≤ cc) (hs : slots ≤ ss) :
    own_Gs p e below (fun o t => ∃ v L, o = .returned v ∧ Q v t.heap L ∧ FrameEnd s o t L cc ss) G := by
  obtain ⟨fs, hr, hrun, hended, hW, hsame⟩ := X.leave (v := v) hv hlk
  subst eT
  exact ⟨_, _, k fs hr, hrun, hended, _, _, rfl, hQ, ⟨_, rfl⟩, hW, hsame.mono hc hs⟩
theorem own_retI (X : Stand p l e R s m args below meth c T locs cells slots) (hx : p.tables.exec = Jvm.exec) {pc : Nat} {Ls : Array Slot} {z : Int32} {rest : List Value} (hret : meth.sig.returnType = some .int) (hd : decode c.code pc = .ok (.ireturn, 1)) (hlk : meth.locks = false)
    {Q : Option Value → Heap → List Loc → Prop} {h : Heap} (eT : T.heap = h) (hQ : Q (some (.int z)) h locs) {cc ss : Nat} (hc : cells ≤ cc) (hs : slots ≤ ss) :
    own_Gs p e below (fun o t => ∃ v L, o = .returned v ∧ Q v t.heap L ∧ FrameEnd s o t L cc ss) (T.setTop (mkF m pc Ls (.int z :: rest))) :=
  own_ret X (fun h => by rw [hret] at h; cases h) hlk (fun fs hr => retI X hx hret hd hr) eT hQ hc hs
theorem own_retN (X : Stand p l e R s m args below meth c T locs cells slots) (hx : p.tables.exec = Jvm.exec) {pc : Nat} {Ls : Array Slot} {z : Int32} {t : FieldType} {rest : List Value} (hret : meth.sig.returnType = some t) (ht : t = .boolean ∨ t = .byte ∨ t = .char ∨ t = .short) (hd : decode c.code pc = .ok (.ireturn, 1)) (hlk : meth.locks = false)
    {Q : Option Value → Heap → List Loc → Prop} {h : Heap} (eT : T.heap = h) (hQ : Q (some (.int (nar t z))) h locs) {cc ss : Nat} (hc : cells ≤ cc) (hs : slots ≤ ss) :
    own_Gs p e below (fun o t => ∃ v L, o = .returned v ∧ Q v t.heap L ∧ FrameEnd s o t L cc ss) (T.setTop (mkF m pc Ls (.int z :: rest))) :=
  own_ret X (fun h => by rw [hret] at h; cases h) hlk (fun fs hr => retN X hx hret ht hd hr) eT hQ hc hs
theorem own_retL (X : Stand p l e R s m args below meth c T locs cells slots) (hx : p.tables.exec = Jvm.exec) {pc : Nat} {Ls : Array Slot} {z : Int64} {rest : List Value} (hret : meth.sig.returnType = some .long) (hd : decode c.code pc = .ok (.lreturn, 1)) (hlk : meth.locks = false)
    {Q : Option Value → Heap → List Loc → Prop} {h : Heap} (eT : T.heap = h) (hQ : Q (some (.long z)) h locs) {cc ss : Nat} (hc : cells ≤ cc) (hs : slots ≤ ss) :
    own_Gs p e below (fun o t => ∃ v L, o = .returned v ∧ Q v t.heap L ∧ FrameEnd s o t L cc ss) (T.setTop (mkF m pc Ls (.long z :: rest))) :=
  own_ret X (fun h => by rw [hret] at h; cases h) hlk (fun fs hr => retOut X hx hret rfl (Or.inr (Or.inl ⟨rfl, rfl, z, rfl⟩)) hd hr) eT hQ hc hs
theorem own_retD (X : Stand p l e R s m args below meth c T locs cells slots) (hx : p.tables.exec = Jvm.exec) {pc : Nat} {Ls : Array Slot} {z : UInt64} {rest : List Value} (hret : meth.sig.returnType = some .double) (hd : decode c.code pc = .ok (.dreturn, 1)) (hlk : meth.locks = false)
    {Q : Option Value → Heap → List Loc → Prop} {h : Heap} (eT : T.heap = h) (hQ : Q (some (.double z)) h locs) {cc ss : Nat} (hc : cells ≤ cc) (hs : slots ≤ ss) :
    own_Gs p e below (fun o t => ∃ v L, o = .returned v ∧ Q v t.heap L ∧ FrameEnd s o t L cc ss) (T.setTop (mkF m pc Ls (.double z :: rest))) :=
  own_ret X (fun h => by rw [hret] at h; cases h) hlk (fun fs hr => retOut X hx hret rfl (Or.inr (Or.inr (Or.inl ⟨rfl, rfl, z, rfl⟩))) hd hr) eT hQ hc hs
theorem own_retA (X : Stand p l e R s m args below meth c T locs cells slots) (hx : p.tables.exec = Jvm.exec) {pc : Nat} {Ls : Array Slot} {z : Value} {t : FieldType} {rest : List Value} (hret : meth.sig.returnType = some t) (ht : t.isReference = true) (hz : z.isRef = true) (hd : decode c.code pc = .ok (.areturn, 1)) (hlk : meth.locks = false)
    {Q : Option Value → Heap → List Loc → Prop} {h : Heap} (eT : T.heap = h) (hQ : Q (some z) h locs) {cc ss : Nat} (hc : cells ≤ cc) (hs : slots ≤ ss) :
    own_Gs p e below (fun o t => ∃ v L, o = .returned v ∧ Q v t.heap L ∧ FrameEnd s o t L cc ss) (T.setTop (mkF m pc Ls (z :: rest))) :=
  own_ret X (fun h => by rw [hret] at h; cases h) hlk (fun fs hr => retOut X hx hret (by cases t <;> first | rfl | (cases z <;> first | rfl | (simp [Value.isRef] at hz) | (simp [FieldType.isReference] at ht))) (Or.inr (Or.inr (Or.inr (Or.inr ⟨rfl, ht, hz⟩)))) hd hr) eT hQ hc hs
theorem own_retV (X : Stand p l e R s m args below meth c T locs cells slots) (hx : p.tables.exec = Jvm.exec) {pc : Nat} {Ls : Array Slot} (hret : meth.sig.returnType = none) (hd : decode c.code pc = .ok (.return_, 1)) (hlk : meth.locks = false)
    {Q : Option Value → Heap → List Loc → Prop} {h : Heap} (eT : T.heap = h) (hQ : Q none h locs) {cc ss : Nat} (hc : cells ≤ cc) (hs : slots ≤ ss) :
    own_Gs p e below (fun o t => ∃ v L, o = .returned v ∧ Q v t.heap L ∧ FrameEnd s o t L cc ss) (T.setTop (mkF m pc Ls [])) :=
  own_ret X (fun _ => rfl) hlk (fun fs hr => X.returnOut hx hret hd hr) eT hQ hc hs
theorem own_retNW {vm0 : Vm} {k0 : Nat} (X : Stand p l e R (s.setVm vm0) m args below meth c T locs cells slots) (hS : s.Since vm0 k0) {h : Heap} (hk : k0 ≤ h.size) (hx : p.tables.exec = Jvm.exec) {pc : Nat} {Ls : Array Slot} {z : Int32} {t : FieldType} {rest : List Value} (hret : meth.sig.returnType = some t) (ht : t = .boolean ∨ t = .byte ∨ t = .char ∨ t = .short) (hd : decode c.code pc = .ok (.ireturn, 1)) (hlk : meth.locks = false)
    {Q : Option Value → Heap → List Loc → Prop} (eT : T.heap = h) (hQ : Q (some (.int (nar t z))) h locs) {cc ss : Nat} (hc : cells ≤ cc) (hs : slots ≤ ss) :
    own_Gs p e below (fun o t => ∃ v L, o = .returned v ∧ Q v t.heap L ∧ ReturnedEndW s o t L cc ss) (T.setTop (mkF m pc Ls (.int z :: rest))) := by
  subst eT
  obtain ⟨fs, hr, hrun, hended, h1, h2, h3, h4⟩ := X.leaveW hS hk (v := some (.int (nar t z))) (fun h => by rw [hret] at h; cases h) hlk
  exact ⟨_, _, retN X hx hret ht hd hr, hrun, hended, _, _, rfl, hQ, h1, h2, h3, h4.mono hc hs⟩
-- steps
theorem own_iloadN {Φ : Outcome → State → Prop} (X : Stand p l e R s m args below meth c T locs cells slots) (hx : p.tables.exec = Jvm.exec) {pc : Nat} (pc' : Nat) {Ls : Array Slot} {S : List Value} {k : Fin 4} {v : Int32} (hd : decode c.code pc = .ok (.iload_n k, 1)) (hl : Ls[k.val]? = some (.val (.int v))) (h : own_Gs p e below Φ (T.setTop (mkF m pc' Ls (.int v :: S)))) (hp : pc + 1 = pc' := by rfl) : own_Gs p e below Φ (T.setTop (mkF m pc Ls (S))) := by
  subst hp; exact own_st (fun t k => XS.iloadN X.here hx rfl hd hl k) h
theorem own_iload {Φ : Outcome → State → Prop} (X : Stand p l e R s m args below meth c T locs cells slots) (hx : p.tables.exec = Jvm.exec) {pc : Nat} (pc' : Nat) {Ls : Array Slot} {S : List Value} {k : Nat} {v : Int32} (hd : decode c.code pc = .ok (.iload k, 2)) (hl : Ls[k]? = some (.val (.int v))) (h : own_Gs p e below Φ (T.setTop (mkF m pc' Ls (.int v :: S)))) (hp : pc + 2 = pc' := by rfl) : own_Gs p e below Φ (T.setTop (mkF m pc Ls (S))) := by
  subst hp; exact own_st (fun t k => XS.iload X.here hx rfl hd hl k) h
theorem own_lloadN {Φ : Outcome → State → Prop} (X : Stand p l e R s m args below meth c T locs cells slots) (hx : p.tables.exec = Jvm.exec) {pc : Nat} (pc' : Nat) {Ls : Array Slot} {S : List Value} {k : Fin 4} {v : Int64} (hd : decode c.code pc = .ok (.lload_n k, 1)) (hl : Ls[k.val]? = some (.val (.long v))) (h : own_Gs p e below Φ (T.setTop (mkF m pc' Ls (.long v :: S)))) (hp : pc + 1 = pc' := by rfl) : own_Gs p e below Φ (T.setTop (mkF m pc Ls (S))) := by
  subst hp; exact own_st (fun t k => XS.lloadN X.here hx rfl hd hl k) h
theorem own_lload {Φ : Outcome → State → Prop} (X : Stand p l e R s m args below meth c T locs cells slots) (hx : p.tables.exec = Jvm.exec) {pc : Nat} (pc' : Nat) {Ls : Array Slot} {S : List Value} {k : Nat} {v : Int64} (hd : decode c.code pc = .ok (.lload k, 2)) (hl : Ls[k]? = some (.val (.long v))) (h : own_Gs p e below Φ (T.setTop (mkF m pc' Ls (.long v :: S)))) (hp : pc + 2 = pc' := by rfl) : own_Gs p e below Φ (T.setTop (mkF m pc Ls (S))) := by
  subst hp; exact own_st (fun t k => XS.lload X.here hx rfl hd hl k) h
theorem own_aloadN {Φ : Outcome → State → Prop} (X : Stand p l e R s m args below meth c T locs cells slots) (hx : p.tables.exec = Jvm.exec) {pc : Nat} (pc' : Nat) {Ls : Array Slot} {S : List Value} {k : Fin 4} {v : Value} (hd : decode c.code pc = .ok (.aload_n k, 1)) (hl : Ls[k.val]? = some (.val v)) (hv : v.isRef = true) (h : own_Gs p e below Φ (T.setTop (mkF m pc' Ls (v :: S)))) (hp : pc + 1 = pc' := by rfl) : own_Gs p e below Φ (T.setTop (mkF m pc Ls (S))) := by
  subst hp; exact own_st (fun t k => XS.aloadN X.here hx rfl hd hl hv k) h
theorem own_aload {Φ : Outcome → State → Prop} (X : Stand p l e R s m args below meth c T locs cells slots) (hx : p.tables.exec = Jvm.exec) {pc : Nat} (pc' : Nat) {Ls : Array Slot} {S : List Value} {k : Nat} {v : Value} (hd : decode c.code pc = .ok (.aload k, 2)) (hl : Ls[k]? = some (.val v)) (hv : v.isRef = true) (h : own_Gs p e below Φ (T.setTop (mkF m pc' Ls (v :: S)))) (hp : pc + 2 = pc' := by rfl) : own_Gs p e below Φ (T.setTop (mkF m pc Ls (S))) := by
  subst hp; exact own_st (fun t k => XS.aload X.here hx rfl hd hl hv k) h
theorem own_istoreN {Φ : Outcome → State → Prop} (X : Stand p l e R s m args below meth c T locs cells slots) (hx : p.tables.exec = Jvm.exec) {pc : Nat} (pc' : Nat) {Ls : Array Slot} {S : List Value} {k : Fin 4} {v : Int32} (l' : Array Slot) (hd : decode c.code pc = .ok (.istore_n k, 1)) (hl : storeLocals Ls k.val (.int v) = some l') (h : own_Gs p e below Φ (T.setTop (mkF m pc' l' (S)))) (hp : pc + 1 = pc' := by rfl) : own_Gs p e below Φ (T.setTop (mkF m pc Ls (.int v :: S))) := by
  subst hp; exact own_st (fun t k => XS.istoreN X.here hx rfl hd rfl hl k) h
theorem own_istore {Φ : Outcome → State → Prop} (X : Stand p l e R s m args below meth c T locs cells slots) (hx : p.tables.exec = Jvm.exec) {pc : Nat} (pc' : Nat) {Ls : Array Slot} {S : List Value} {k : Nat} {v : Int32} (l' : Array Slot) (hd : decode c.code pc = .ok (.istore k, 2)) (hl : storeLocals Ls k (.int v) = some l') (h : own_Gs p e below Φ (T.setTop (mkF m pc' l' (S)))) (hp : pc + 2 = pc' := by rfl) : own_Gs p e below Φ (T.setTop (mkF m pc Ls (.int v :: S))) := by
  subst hp; exact own_st (fun t k => XS.istore X.here hx rfl hd rfl hl k) h
theorem own_lstoreN {Φ : Outcome → State → Prop} (X : Stand p l e R s m args below meth c T locs cells slots) (hx : p.tables.exec = Jvm.exec) {pc : Nat} (pc' : Nat) {Ls : Array Slot} {S : List Value} {k : Fin 4} {v : Int64} (l' : Array Slot) (hd : decode c.code pc = .ok (.lstore_n k, 1)) (hl : storeLocals Ls k.val (.long v) = some l') (h : own_Gs p e below Φ (T.setTop (mkF m pc' l' (S)))) (hp : pc + 1 = pc' := by rfl) : own_Gs p e below Φ (T.setTop (mkF m pc Ls (.long v :: S))) := by
  subst hp; exact own_st (fun t k => XS.lstoreN X.here hx rfl hd rfl hl k) h
theorem own_lstore {Φ : Outcome → State → Prop} (X : Stand p l e R s m args below meth c T locs cells slots) (hx : p.tables.exec = Jvm.exec) {pc : Nat} (pc' : Nat) {Ls : Array Slot} {S : List Value} {k : Nat} {v : Int64} (l' : Array Slot) (hd : decode c.code pc = .ok (.lstore k, 2)) (hl : storeLocals Ls k (.long v) = some l') (h : own_Gs p e below Φ (T.setTop (mkF m pc' l' (S)))) (hp : pc + 2 = pc' := by rfl) : own_Gs p e below Φ (T.setTop (mkF m pc Ls (.long v :: S))) := by
  subst hp; exact own_st (fun t k => XS.lstore X.here hx rfl hd rfl hl k) h
theorem own_astoreN {Φ : Outcome → State → Prop} (X : Stand p l e R s m args below meth c T locs cells slots) (hx : p.tables.exec = Jvm.exec) {pc : Nat} (pc' : Nat) {Ls : Array Slot} {S : List Value} {k : Fin 4} {v : Value} (l' : Array Slot) (hd : decode c.code pc = .ok (.astore_n k, 1)) (hv : v.isRef = true) (hl : storeLocals Ls k.val v = some l') (h : own_Gs p e below Φ (T.setTop (mkF m pc' l' (S)))) (hp : pc + 1 = pc' := by rfl) : own_Gs p e below Φ (T.setTop (mkF m pc Ls (v :: S))) := by
  subst hp; exact own_st (fun t k => XS.astoreN X.here hx rfl hd rfl hv hl k) h
theorem own_astore {Φ : Outcome → State → Prop} (X : Stand p l e R s m args below meth c T locs cells slots) (hx : p.tables.exec = Jvm.exec) {pc : Nat} (pc' : Nat) {Ls : Array Slot} {S : List Value} {k : Nat} {v : Value} (l' : Array Slot) (hd : decode c.code pc = .ok (.astore k, 2)) (hv : v.isRef = true) (hl : storeLocals Ls k v = some l') (h : own_Gs p e below Φ (T.setTop (mkF m pc' l' (S)))) (hp : pc + 2 = pc' := by rfl) : own_Gs p e below Φ (T.setTop (mkF m pc Ls (v :: S))) := by
  subst hp; exact own_st (fun t k => XS.astore X.here hx rfl hd rfl hv hl k) h
theorem own_iconst {Φ : Outcome → State → Prop} (X : Stand p l e R s m args below meth c T locs cells slots) (hx : p.tables.exec = Jvm.exec) {pc : Nat} (pc' : Nat) {Ls : Array Slot} {S : List Value} {i : Int} (z : Int32) (hd : decode c.code pc = .ok (.iconst i, 1)) (hz : Int32.ofInt i = z) (h : own_Gs p e below Φ (T.setTop (mkF m pc' Ls (.int z :: S)))) (hp : pc + 1 = pc' := by rfl) : own_Gs p e below Φ (T.setTop (mkF m pc Ls (S))) := by
  subst hp; exact own_st (fun t k => XS.iconst X.here hx rfl hd (hz ▸ k)) h
theorem own_bipush {Φ : Outcome → State → Prop} (X : Stand p l e R s m args below meth c T locs cells slots) (hx : p.tables.exec = Jvm.exec) {pc : Nat} (pc' : Nat) {Ls : Array Slot} {S : List Value} {i : Int} (z : Int32) (hd : decode c.code pc = .ok (.bipush i, 2)) (hz : (Int8.ofInt i).toInt32 = z) (h : own_Gs p e below Φ (T.setTop (mkF m pc' Ls (.int z :: S)))) (hp : pc + 2 = pc' := by rfl) : own_Gs p e below Φ (T.setTop (mkF m pc Ls (S))) := by
  subst hp; exact own_st (fun t k => XS.bipush X.here hx rfl hd (hz ▸ k)) h
theorem own_sipush {Φ : Outcome → State → Prop} (X : Stand p l e R s m args below meth c T locs cells slots) (hx : p.tables.exec = Jvm.exec) {pc : Nat} (pc' : Nat) {Ls : Array Slot} {S : List Value} {i : Int} (z : Int32) (hd : decode c.code pc = .ok (.sipush i, 3)) (hz : (Int16.ofInt i).toInt32 = z) (h : own_Gs p e below Φ (T.setTop (mkF m pc' Ls (.int z :: S)))) (hp : pc + 3 = pc' := by rfl) : own_Gs p e below Φ (T.setTop (mkF m pc Ls (S))) := by
  subst hp; exact own_st (fun t k => XS.sipush X.here hx rfl hd (hz ▸ k)) h
theorem own_lconst {Φ : Outcome → State → Prop} (X : Stand p l e R s m args below meth c T locs cells slots) (hx : p.tables.exec = Jvm.exec) {pc : Nat} (pc' : Nat) {Ls : Array Slot} {S : List Value} {i : Fin 2} (z : Int64) (hd : decode c.code pc = .ok (.lconst i, 1)) (hz : Int64.ofNat i = z) (h : own_Gs p e below Φ (T.setTop (mkF m pc' Ls (.long z :: S)))) (hp : pc + 1 = pc' := by rfl) : own_Gs p e below Φ (T.setTop (mkF m pc Ls (S))) := by
  subst hp; exact own_st (fun t k => XS.lconst X.here hx rfl hd (hz ▸ k)) h
theorem own_aconstNull {Φ : Outcome → State → Prop} (X : Stand p l e R s m args below meth c T locs cells slots) (hx : p.tables.exec = Jvm.exec) {pc : Nat} (pc' : Nat) {Ls : Array Slot} {S : List Value}  (hd : decode c.code pc = .ok (.aconst_null, 1)) (h : own_Gs p e below Φ (T.setTop (mkF m pc' Ls (.null :: S)))) (hp : pc + 1 = pc' := by rfl) : own_Gs p e below Φ (T.setTop (mkF m pc Ls (S))) := by
  subst hp; exact own_st (fun t k => XS.aconstNull X.here hx rfl hd k) h
theorem own_iadd {Φ : Outcome → State → Prop} (X : Stand p l e R s m args below meth c T locs cells slots) (hx : p.tables.exec = Jvm.exec) {pc : Nat} (pc' : Nat) {Ls : Array Slot} {S : List Value} {x y : Int32} (hd : decode c.code pc = .ok (.iadd, 1)) (h : own_Gs p e below Φ (T.setTop (mkF m pc' Ls (.int (x + y) :: S)))) (hp : pc + 1 = pc' := by rfl) : own_Gs p e below Φ (T.setTop (mkF m pc Ls (.int y :: .int x :: S))) := by
  subst hp; exact own_st (fun t k => XS.iadd X.here hx rfl hd rfl k) h
theorem own_ladd {Φ : Outcome → State → Prop} (X : Stand p l e R s m args below meth c T locs cells slots) (hx : p.tables.exec = Jvm.exec) {pc : Nat} (pc' : Nat) {Ls : Array Slot} {S : List Value} {x y : Int64} (hd : decode c.code pc = .ok (.ladd, 1)) (h : own_Gs p e below Φ (T.setTop (mkF m pc' Ls (.long (x + y) :: S)))) (hp : pc + 1 = pc' := by rfl) : own_Gs p e below Φ (T.setTop (mkF m pc Ls (.long y :: .long x :: S))) := by
  subst hp; exact own_st (fun t k => XS.ladd X.here hx rfl hd rfl k) h
theorem own_isub {Φ : Outcome → State → Prop} (X : Stand p l e R s m args below meth c T locs cells slots) (hx : p.tables.exec = Jvm.exec) {pc : Nat} (pc' : Nat) {Ls : Array Slot} {S : List Value} {x y : Int32} (hd : decode c.code pc = .ok (.isub, 1)) (h : own_Gs p e below Φ (T.setTop (mkF m pc' Ls (.int (x - y) :: S)))) (hp : pc + 1 = pc' := by rfl) : own_Gs p e below Φ (T.setTop (mkF m pc Ls (.int y :: .int x :: S))) := by
  subst hp; exact own_st (fun t k => XS.isub X.here hx rfl hd rfl k) h
theorem own_lsub {Φ : Outcome → State → Prop} (X : Stand p l e R s m args below meth c T locs cells slots) (hx : p.tables.exec = Jvm.exec) {pc : Nat} (pc' : Nat) {Ls : Array Slot} {S : List Value} {x y : Int64} (hd : decode c.code pc = .ok (.lsub, 1)) (h : own_Gs p e below Φ (T.setTop (mkF m pc' Ls (.long (x - y) :: S)))) (hp : pc + 1 = pc' := by rfl) : own_Gs p e below Φ (T.setTop (mkF m pc Ls (.long y :: .long x :: S))) := by
  subst hp; exact own_st (fun t k => XS.lsub X.here hx rfl hd rfl k) h
theorem own_imul {Φ : Outcome → State → Prop} (X : Stand p l e R s m args below meth c T locs cells slots) (hx : p.tables.exec = Jvm.exec) {pc : Nat} (pc' : Nat) {Ls : Array Slot} {S : List Value} {x y : Int32} (hd : decode c.code pc = .ok (.imul, 1)) (h : own_Gs p e below Φ (T.setTop (mkF m pc' Ls (.int (x * y) :: S)))) (hp : pc + 1 = pc' := by rfl) : own_Gs p e below Φ (T.setTop (mkF m pc Ls (.int y :: .int x :: S))) := by
  subst hp; exact own_st (fun t k => XS.imul X.here hx rfl hd rfl k) h
theorem own_lmul {Φ : Outcome → State → Prop} (X : Stand p l e R s m args below meth c T locs cells slots) (hx : p.tables.exec = Jvm.exec) {pc : Nat} (pc' : Nat) {Ls : Array Slot} {S : List Value} {x y : Int64} (hd : decode c.code pc = .ok (.lmul, 1)) (h : own_Gs p e below Φ (T.setTop (mkF m pc' Ls (.long (x * y) :: S)))) (hp : pc + 1 = pc' := by rfl) : own_Gs p e below Φ (T.setTop (mkF m pc Ls (.long y :: .long x :: S))) := by
  subst hp; exact own_st (fun t k => XS.lmul X.here hx rfl hd rfl k) h
theorem own_iand {Φ : Outcome → State → Prop} (X : Stand p l e R s m args below meth c T locs cells slots) (hx : p.tables.exec = Jvm.exec) {pc : Nat} (pc' : Nat) {Ls : Array Slot} {S : List Value} {x y : Int32} (hd : decode c.code pc = .ok (.iand, 1)) (h : own_Gs p e below Φ (T.setTop (mkF m pc' Ls (.int (x &&& y) :: S)))) (hp : pc + 1 = pc' := by rfl) : own_Gs p e below Φ (T.setTop (mkF m pc Ls (.int y :: .int x :: S))) := by
  subst hp; exact own_st (fun t k => XS.iand X.here hx rfl hd rfl k) h
theorem own_land {Φ : Outcome → State → Prop} (X : Stand p l e R s m args below meth c T locs cells slots) (hx : p.tables.exec = Jvm.exec) {pc : Nat} (pc' : Nat) {Ls : Array Slot} {S : List Value} {x y : Int64} (hd : decode c.code pc = .ok (.land, 1)) (h : own_Gs p e below Φ (T.setTop (mkF m pc' Ls (.long (x &&& y) :: S)))) (hp : pc + 1 = pc' := by rfl) : own_Gs p e below Φ (T.setTop (mkF m pc Ls (.long y :: .long x :: S))) := by
  subst hp; exact own_st (fun t k => XS.land X.here hx rfl hd rfl k) h
theorem own_ior {Φ : Outcome → State → Prop} (X : Stand p l e R s m args below meth c T locs cells slots) (hx : p.tables.exec = Jvm.exec) {pc : Nat} (pc' : Nat) {Ls : Array Slot} {S : List Value} {x y : Int32} (hd : decode c.code pc = .ok (.ior, 1)) (h : own_Gs p e below Φ (T.setTop (mkF m pc' Ls (.int (x ||| y) :: S)))) (hp : pc + 1 = pc' := by rfl) : own_Gs p e below Φ (T.setTop (mkF m pc Ls (.int y :: .int x :: S))) := by
  subst hp; exact own_st (fun t k => XS.ior X.here hx rfl hd rfl k) h
theorem own_lor {Φ : Outcome → State → Prop} (X : Stand p l e R s m args below meth c T locs cells slots) (hx : p.tables.exec = Jvm.exec) {pc : Nat} (pc' : Nat) {Ls : Array Slot} {S : List Value} {x y : Int64} (hd : decode c.code pc = .ok (.lor, 1)) (h : own_Gs p e below Φ (T.setTop (mkF m pc' Ls (.long (x ||| y) :: S)))) (hp : pc + 1 = pc' := by rfl) : own_Gs p e below Φ (T.setTop (mkF m pc Ls (.long y :: .long x :: S))) := by
  subst hp; exact own_st (fun t k => XS.lor X.here hx rfl hd rfl k) h
theorem own_ixor {Φ : Outcome → State → Prop} (X : Stand p l e R s m args below meth c T locs cells slots) (hx : p.tables.exec = Jvm.exec) {pc : Nat} (pc' : Nat) {Ls : Array Slot} {S : List Value} {x y : Int32} (hd : decode c.code pc = .ok (.ixor, 1)) (h : own_Gs p e below Φ (T.setTop (mkF m pc' Ls (.int (x ^^^ y) :: S)))) (hp : pc + 1 = pc' := by rfl) : own_Gs p e below Φ (T.setTop (mkF m pc Ls (.int y :: .int x :: S))) := by
  subst hp; exact own_st (fun t k => XS.ixor X.here hx rfl hd rfl k) h
theorem own_lxor {Φ : Outcome → State → Prop} (X : Stand p l e R s m args below meth c T locs cells slots) (hx : p.tables.exec = Jvm.exec) {pc : Nat} (pc' : Nat) {Ls : Array Slot} {S : List Value} {x y : Int64} (hd : decode c.code pc = .ok (.lxor, 1)) (h : own_Gs p e below Φ (T.setTop (mkF m pc' Ls (.long (x ^^^ y) :: S)))) (hp : pc + 1 = pc' := by rfl) : own_Gs p e below Φ (T.setTop (mkF m pc Ls (.long y :: .long x :: S))) := by
  subst hp; exact own_st (fun t k => XS.lxor X.here hx rfl hd rfl k) h
theorem own_idiv {Φ : Outcome → State → Prop} (X : Stand p l e R s m args below meth c T locs cells slots) (hx : p.tables.exec = Jvm.exec) {pc : Nat} (pc' : Nat) {Ls : Array Slot} {S : List Value} {x y : Int32} (hd : decode c.code pc = .ok (.idiv, 1)) (hy : y ≠ 0) (h : own_Gs p e below Φ (T.setTop (mkF m pc' Ls (.int (x / y) :: S)))) (hp : pc + 1 = pc' := by rfl) : own_Gs p e below Φ (T.setTop (mkF m pc Ls (.int y :: .int x :: S))) := by
  subst hp; exact own_st (fun t k => XS.idiv X.here hx rfl hd rfl hy k) h
theorem own_ldiv {Φ : Outcome → State → Prop} (X : Stand p l e R s m args below meth c T locs cells slots) (hx : p.tables.exec = Jvm.exec) {pc : Nat} (pc' : Nat) {Ls : Array Slot} {S : List Value} {x y : Int64} (hd : decode c.code pc = .ok (.ldiv, 1)) (hy : y ≠ 0) (h : own_Gs p e below Φ (T.setTop (mkF m pc' Ls (.long (x / y) :: S)))) (hp : pc + 1 = pc' := by rfl) : own_Gs p e below Φ (T.setTop (mkF m pc Ls (.long y :: .long x :: S))) := by
  subst hp; exact own_st (fun t k => XS.ldiv X.here hx rfl hd rfl hy k) h
theorem own_irem {Φ : Outcome → State → Prop} (X : Stand p l e R s m args below meth c T locs cells slots) (hx : p.tables.exec = Jvm.exec) {pc : Nat} (pc' : Nat) {Ls : Array Slot} {S : List Value} {x y : Int32} (hd : decode c.code pc = .ok (.irem, 1)) (hy : y ≠ 0) (h : own_Gs p e below Φ (T.setTop (mkF m pc' Ls (.int (x % y) :: S)))) (hp : pc + 1 = pc' := by rfl) : own_Gs p e below Φ (T.setTop (mkF m pc Ls (.int y :: .int x :: S))) := by
  subst hp; exact own_st (fun t k => iremM X hx rfl hd rfl hy k) h
theorem own_lrem {Φ : Outcome → State → Prop} (X : Stand p l e R s m args below meth c T locs cells slots) (hx : p.tables.exec = Jvm.exec) {pc : Nat} (pc' : Nat) {Ls : Array Slot} {S : List Value} {x y : Int64} (hd : decode c.code pc = .ok (.lrem, 1)) (hy : y ≠ 0) (h : own_Gs p e below Φ (T.setTop (mkF m pc' Ls (.long (x % y) :: S)))) (hp : pc + 1 = pc' := by rfl) : own_Gs p e below Φ (T.setTop (mkF m pc Ls (.long y :: .long x :: S))) := by
  subst hp; exact own_st (fun t k => XS.lrem X.here hx rfl hd rfl hy (by rw [lrem_mod]; exact k)) h
theorem own_ishl {Φ : Outcome → State → Prop} (X : Stand p l e R s m args below meth c T locs cells slots) (hx : p.tables.exec = Jvm.exec) {pc : Nat} (pc' : Nat) {Ls : Array Slot} {S : List Value} {x y : Int32} (hd : decode c.code pc = .ok (.ishl, 1)) (h : own_Gs p e below Φ (T.setTop (mkF m pc' Ls (.int (x <<< (y &&& 31)) :: S)))) (hp : pc + 1 = pc' := by rfl) : own_Gs p e below Φ (T.setTop (mkF m pc Ls (.int y :: .int x :: S))) := by
  subst hp; exact own_st (fun t k => XS.ishl X.here hx rfl hd rfl k) h
theorem own_ishr {Φ : Outcome → State → Prop} (X : Stand p l e R s m args below meth c T locs cells slots) (hx : p.tables.exec = Jvm.exec) {pc : Nat} (pc' : Nat) {Ls : Array Slot} {S : List Value} {x y : Int32} (hd : decode c.code pc = .ok (.ishr, 1)) (h : own_Gs p e below Φ (T.setTop (mkF m pc' Ls (.int (x >>> (y &&& 31)) :: S)))) (hp : pc + 1 = pc' := by rfl) : own_Gs p e below Φ (T.setTop (mkF m pc Ls (.int y :: .int x :: S))) := by
  subst hp; exact own_st (fun t k => XS.ishr X.here hx rfl hd rfl k) h
theorem own_iushr {Φ : Outcome → State → Prop} (X : Stand p l e R s m args below meth c T locs cells slots) (hx : p.tables.exec = Jvm.exec) {pc : Nat} (pc' : Nat) {Ls : Array Slot} {S : List Value} {x y : Int32} (hd : decode c.code pc = .ok (.iushr, 1)) (h : own_Gs p e below Φ (T.setTop (mkF m pc' Ls (.int ((x.toUInt32 >>> (y &&& 31).toUInt32).toInt32) :: S)))) (hp : pc + 1 = pc' := by rfl) : own_Gs p e below Φ (T.setTop (mkF m pc Ls (.int y :: .int x :: S))) := by
  subst hp; exact own_st (fun t k => XS.iushr X.here hx rfl hd rfl k) h
theorem own_lshl {Φ : Outcome → State → Prop} (X : Stand p l e R s m args below meth c T locs cells slots) (hx : p.tables.exec = Jvm.exec) {pc : Nat} (pc' : Nat) {Ls : Array Slot} {S : List Value} {x : Int64} {y : Int32} (hd : decode c.code pc = .ok (.lshl, 1)) (h : own_Gs p e below Φ (T.setTop (mkF m pc' Ls (.long (x <<< (y &&& 0x3f).toInt64) :: S)))) (hp : pc + 1 = pc' := by rfl) : own_Gs p e below Φ (T.setTop (mkF m pc Ls (.int y :: .long x :: S))) := by
  subst hp; exact own_st (fun t k => XS.lshl X.here hx rfl hd rfl k) h
theorem own_lshr {Φ : Outcome → State → Prop} (X : Stand p l e R s m args below meth c T locs cells slots) (hx : p.tables.exec = Jvm.exec) {pc : Nat} (pc' : Nat) {Ls : Array Slot} {S : List Value} {x : Int64} {y : Int32} (hd : decode c.code pc = .ok (.lshr, 1)) (h : own_Gs p e below Φ (T.setTop (mkF m pc' Ls (.long (x >>> (y &&& 0x3f).toInt64) :: S)))) (hp : pc + 1 = pc' := by rfl) : own_Gs p e below Φ (T.setTop (mkF m pc Ls (.int y :: .long x :: S))) := by
  subst hp; exact own_st (fun t k => XS.lshr X.here hx rfl hd rfl k) h
theorem own_lushr {Φ : Outcome → State → Prop} (X : Stand p l e R s m args below meth c T locs cells slots) (hx : p.tables.exec = Jvm.exec) {pc : Nat} (pc' : Nat) {Ls : Array Slot} {S : List Value} {x : Int64} {y : Int32} (hd : decode c.code pc = .ok (.lushr, 1)) (h : own_Gs p e below Φ (T.setTop (mkF m pc' Ls (.long ((x.toUInt64 >>> (y &&& 0x3f).toInt64.toUInt64).toInt64) :: S)))) (hp : pc + 1 = pc' := by rfl) : own_Gs p e below Φ (T.setTop (mkF m pc Ls (.int y :: .long x :: S))) := by
  subst hp; exact own_st (fun t k => XS.lushr X.here hx rfl hd rfl k) h
theorem own_ineg {Φ : Outcome → State → Prop} (X : Stand p l e R s m args below meth c T locs cells slots) (hx : p.tables.exec = Jvm.exec) {pc : Nat} (pc' : Nat) {Ls : Array Slot} {S : List Value} {x : Int32} (hd : decode c.code pc = .ok (.ineg, 1)) (h : own_Gs p e below Φ (T.setTop (mkF m pc' Ls (.int (-x) :: S)))) (hp : pc + 1 = pc' := by rfl) : own_Gs p e below Φ (T.setTop (mkF m pc Ls (.int x :: S))) := by
  subst hp; exact own_st (fun t k => XS.ineg X.here hx rfl hd rfl k) h
theorem own_lneg {Φ : Outcome → State → Prop} (X : Stand p l e R s m args below meth c T locs cells slots) (hx : p.tables.exec = Jvm.exec) {pc : Nat} (pc' : Nat) {Ls : Array Slot} {S : List Value} {x : Int64} (hd : decode c.code pc = .ok (.lneg, 1)) (h : own_Gs p e below Φ (T.setTop (mkF m pc' Ls (.long (-x) :: S)))) (hp : pc + 1 = pc' := by rfl) : own_Gs p e below Φ (T.setTop (mkF m pc Ls (.long x :: S))) := by
  subst hp; exact own_st (fun t k => XS.lneg X.here hx rfl hd rfl k) h
theorem own_i2l {Φ : Outcome → State → Prop} (X : Stand p l e R s m args below meth c T locs cells slots) (hx : p.tables.exec = Jvm.exec) {pc : Nat} (pc' : Nat) {Ls : Array Slot} {S : List Value} {x : Int32} (hd : decode c.code pc = .ok (.i2l, 1)) (h : own_Gs p e below Φ (T.setTop (mkF m pc' Ls (.long (x.toInt64) :: S)))) (hp : pc + 1 = pc' := by rfl) : own_Gs p e below Φ (T.setTop (mkF m pc Ls (.int x :: S))) := by
  subst hp; exact own_st (fun t k => XS.i2l X.here hx rfl hd rfl k) h
theorem own_l2i {Φ : Outcome → State → Prop} (X : Stand p l e R s m args below meth c T locs cells slots) (hx : p.tables.exec = Jvm.exec) {pc : Nat} (pc' : Nat) {Ls : Array Slot} {S : List Value} {x : Int64} (hd : decode c.code pc = .ok (.l2i, 1)) (h : own_Gs p e below Φ (T.setTop (mkF m pc' Ls (.int (x.toInt32) :: S)))) (hp : pc + 1 = pc' := by rfl) : own_Gs p e below Φ (T.setTop (mkF m pc Ls (.long x :: S))) := by
  subst hp; exact own_st (fun t k => XS.l2i X.here hx rfl hd rfl k) h
theorem own_i2b {Φ : Outcome → State → Prop} (X : Stand p l e R s m args below meth c T locs cells slots) (hx : p.tables.exec = Jvm.exec) {pc : Nat} (pc' : Nat) {Ls : Array Slot} {S : List Value} {x : Int32} (hd : decode c.code pc = .ok (.i2b, 1)) (h : own_Gs p e below Φ (T.setTop (mkF m pc' Ls (.int (x.toInt8.toInt32) :: S)))) (hp : pc + 1 = pc' := by rfl) : own_Gs p e below Φ (T.setTop (mkF m pc Ls (.int x :: S))) := by
  subst hp; exact own_st (fun t k => XS.i2b X.here hx rfl hd rfl k) h
theorem own_i2s {Φ : Outcome → State → Prop} (X : Stand p l e R s m args below meth c T locs cells slots) (hx : p.tables.exec = Jvm.exec) {pc : Nat} (pc' : Nat) {Ls : Array Slot} {S : List Value} {x : Int32} (hd : decode c.code pc = .ok (.i2s, 1)) (h : own_Gs p e below Φ (T.setTop (mkF m pc' Ls (.int (x.toInt16.toInt32) :: S)))) (hp : pc + 1 = pc' := by rfl) : own_Gs p e below Φ (T.setTop (mkF m pc Ls (.int x :: S))) := by
  subst hp; exact own_st (fun t k => XS.i2s X.here hx rfl hd rfl k) h
theorem own_i2c {Φ : Outcome → State → Prop} (X : Stand p l e R s m args below meth c T locs cells slots) (hx : p.tables.exec = Jvm.exec) {pc : Nat} (pc' : Nat) {Ls : Array Slot} {S : List Value} {x : Int32} (hd : decode c.code pc = .ok (.i2c, 1)) (h : own_Gs p e below Φ (T.setTop (mkF m pc' Ls (.int (x.toUInt32.toUInt16.toUInt32.toInt32) :: S)))) (hp : pc + 1 = pc' := by rfl) : own_Gs p e below Φ (T.setTop (mkF m pc Ls (.int x :: S))) := by
  subst hp; exact own_st (fun t k => XS.i2c X.here hx rfl hd rfl k) h
theorem own_lcmp {Φ : Outcome → State → Prop} (X : Stand p l e R s m args below meth c T locs cells slots) (hx : p.tables.exec = Jvm.exec) {pc : Nat} (pc' : Nat) {Ls : Array Slot} {S : List Value} {x y : Int64} (hd : decode c.code pc = .ok (.lcmp, 1)) (h : own_Gs p e below Φ (T.setTop (mkF m pc' Ls (.int (lcmpW x y) :: S)))) (hp : pc + 1 = pc' := by rfl) : own_Gs p e below Φ (T.setTop (mkF m pc Ls (.long y :: .long x :: S))) := by
  subst hp; exact own_st (fun t k => XS.lcmp X.here hx rfl hd rfl k) h
theorem own_iinc {Φ : Outcome → State → Prop} (X : Stand p l e R s m args below meth c T locs cells slots) (hx : p.tables.exec = Jvm.exec) {pc : Nat} (pc' : Nat) {Ls : Array Slot} {S : List Value} {i : Nat} {cst : Int} {x : Int32} (z : Int32) (l' : Array Slot) (hd : decode c.code pc = .ok (.iinc i cst, 3)) (hl : Ls[i]? = some (.val (.int x))) (hz : Int32.ofInt cst = z) (hl' : storeLocals Ls i (.int (x + z)) = some l') (h : own_Gs p e below Φ (T.setTop (mkF m pc' l' (S)))) (hp : pc + 3 = pc' := by rfl) : own_Gs p e below Φ (T.setTop (mkF m pc Ls (S))) := by
  subst hp; exact own_st (fun t k => XS.iinc X.here hx rfl hd hl (hz ▸ hl') k) h
theorem own_dup {Φ : Outcome → State → Prop} (X : Stand p l e R s m args below meth c T locs cells slots) (hx : p.tables.exec = Jvm.exec) {pc : Nat} (pc' : Nat) {Ls : Array Slot} {S : List Value} {v : Value} (hd : decode c.code pc = .ok (.dup, 1)) (hc : v.category = 1) (h : own_Gs p e below Φ (T.setTop (mkF m pc' Ls (v :: v :: S)))) (hp : pc + 1 = pc' := by rfl) : own_Gs p e below Φ (T.setTop (mkF m pc Ls (v :: S))) := by
  subst hp; exact own_st (fun t k => XS.dup X.here hx rfl hd rfl hc k) h
theorem own_pop {Φ : Outcome → State → Prop} (X : Stand p l e R s m args below meth c T locs cells slots) (hx : p.tables.exec = Jvm.exec) {pc : Nat} (pc' : Nat) {Ls : Array Slot} {S : List Value} {v : Value} (hd : decode c.code pc = .ok (.pop, 1)) (hc : v.category = 1) (h : own_Gs p e below Φ (T.setTop (mkF m pc' Ls (S)))) (hp : pc + 1 = pc' := by rfl) : own_Gs p e below Φ (T.setTop (mkF m pc Ls (v :: S))) := by
  subst hp; exact own_st (fun t k => XS.pop X.here hx rfl hd rfl hc k) h
theorem own_dupX1 {Φ : Outcome → State → Prop} (X : Stand p l e R s m args below meth c T locs cells slots) (hx : p.tables.exec = Jvm.exec) {pc : Nat} (pc' : Nat) {Ls : Array Slot} {S : List Value} {v w : Value} (hd : decode c.code pc = .ok (.dup_x1, 1)) (hc : v.category = 1) (hc' : w.category = 1) (h : own_Gs p e below Φ (T.setTop (mkF m pc' Ls (v :: w :: v :: S)))) (hp : pc + 1 = pc' := by rfl) : own_Gs p e below Φ (T.setTop (mkF m pc Ls (v :: w :: S))) := by
  subst hp; exact own_st (fun t k => XS.dupX1 X.here hx rfl hd rfl hc hc' k) h
theorem own_dup2 {Φ : Outcome → State → Prop} (X : Stand p l e R s m args below meth c T locs cells slots) (hx : p.tables.exec = Jvm.exec) {pc : Nat} (pc' : Nat) {Ls : Array Slot} {S : List Value} {v w : Value} (hd : decode c.code pc = .ok (.dup2, 1)) (hc : v.category = 1) (hc' : w.category = 1) (h : own_Gs p e below Φ (T.setTop (mkF m pc' Ls (v :: w :: v :: w :: S)))) (hp : pc + 1 = pc' := by rfl) : own_Gs p e below Φ (T.setTop (mkF m pc Ls (v :: w :: S))) := by
  subst hp; exact own_st (fun t k => Jvm.Free.XT.dup2 X.here hx rfl hd rfl hc hc' k) h
theorem own_dup2L {Φ : Outcome → State → Prop} (X : Stand p l e R s m args below meth c T locs cells slots) (hx : p.tables.exec = Jvm.exec) {pc : Nat} (pc' : Nat) {Ls : Array Slot} {S : List Value} {x : Int64} (hd : decode c.code pc = .ok (.dup2, 1)) (h : own_Gs p e below Φ (T.setTop (mkF m pc' Ls (.long x :: .long x :: S)))) (hp : pc + 1 = pc' := by rfl) : own_Gs p e below Φ (T.setTop (mkF m pc Ls (.long x :: S))) := by
  subst hp; exact own_st (fun t k => Jvm.Free.XT.dup2L X.here hx rfl hd rfl k) h
theorem own_dloadN {Φ : Outcome → State → Prop} (X : Stand p l e R s m args below meth c T locs cells slots) (hx : p.tables.exec = Jvm.exec) {pc : Nat} (pc' : Nat) {Ls : Array Slot} {S : List Value} {k : Fin 4} {v : UInt64} (hd : decode c.code pc = .ok (.dload_n k, 1)) (hl : Ls[k.val]? = some (.val (.double v))) (h : own_Gs p e below Φ (T.setTop (mkF m pc' Ls (.double v :: S)))) (hp : pc + 1 = pc' := by rfl) : own_Gs p e below Φ (T.setTop (mkF m pc Ls (S))) := by
  subst hp; exact own_st (fun t k => XS.dloadN X.here hx rfl hd hl k) h
theorem own_dload {Φ : Outcome → State → Prop} (X : Stand p l e R s m args below meth c T locs cells slots) (hx : p.tables.exec = Jvm.exec) {pc : Nat} (pc' : Nat) {Ls : Array Slot} {S : List Value} {k : Nat} {v : UInt64} (hd : decode c.code pc = .ok (.dload k, 2)) (hl : Ls[k]? = some (.val (.double v))) (h : own_Gs p e below Φ (T.setTop (mkF m pc' Ls (.double v :: S)))) (hp : pc + 2 = pc' := by rfl) : own_Gs p e below Φ (T.setTop (mkF m pc Ls (S))) := by
  subst hp; exact own_st (fun t k => XS.dload X.here hx rfl hd hl k) h
theorem own_dstoreN {Φ : Outcome → State → Prop} (X : Stand p l e R s m args below meth c T locs cells slots) (hx : p.tables.exec = Jvm.exec) {pc : Nat} (pc' : Nat) {Ls : Array Slot} {S : List Value} {k : Fin 4} {v : UInt64} (l' : Array Slot) (hd : decode c.code pc = .ok (.dstore_n k, 1)) (hl : storeLocals Ls k.val (.double v) = some l') (h : own_Gs p e below Φ (T.setTop (mkF m pc' l' (S)))) (hp : pc + 1 = pc' := by rfl) : own_Gs p e below Φ (T.setTop (mkF m pc Ls (.double v :: S))) := by
  subst hp; exact own_st (fun t k => XS.dstoreN X.here hx rfl hd rfl hl k) h
theorem own_dstore {Φ : Outcome → State → Prop} (X : Stand p l e R s m args below meth c T locs cells slots) (hx : p.tables.exec = Jvm.exec) {pc : Nat} (pc' : Nat) {Ls : Array Slot} {S : List Value} {k : Nat} {v : UInt64} (l' : Array Slot) (hd : decode c.code pc = .ok (.dstore k, 2)) (hl : storeLocals Ls k (.double v) = some l') (h : own_Gs p e below Φ (T.setTop (mkF m pc' l' (S)))) (hp : pc + 2 = pc' := by rfl) : own_Gs p e below Φ (T.setTop (mkF m pc Ls (.double v :: S))) := by
  subst hp; exact own_st (fun t k => XS.dstore X.here hx rfl hd rfl hl k) h
theorem own_dconst0 {Φ : Outcome → State → Prop} (X : Stand p l e R s m args below meth c T locs cells slots) (hx : p.tables.exec = Jvm.exec) {pc : Nat} (pc' : Nat) {Ls : Array Slot} {S : List Value}  (hd : decode c.code pc = .ok (.dconst 0, 1)) (h : own_Gs p e below Φ (T.setTop (mkF m pc' Ls (.double FP.dconst0 :: S)))) (hp : pc + 1 = pc' := by rfl) : own_Gs p e below Φ (T.setTop (mkF m pc Ls (S))) := by
  subst hp; exact own_st (fun t k => XS.dconst0 X.here hx rfl hd rfl k) h
theorem own_dconst1 {Φ : Outcome → State → Prop} (X : Stand p l e R s m args below meth c T locs cells slots) (hx : p.tables.exec = Jvm.exec) {pc : Nat} (pc' : Nat) {Ls : Array Slot} {S : List Value}  (hd : decode c.code pc = .ok (.dconst 1, 1)) (h : own_Gs p e below Φ (T.setTop (mkF m pc' Ls (.double FP.dconst1 :: S)))) (hp : pc + 1 = pc' := by rfl) : own_Gs p e below Φ (T.setTop (mkF m pc Ls (S))) := by
  subst hp; exact own_st (fun t k => XS.dconst1 X.here hx rfl hd rfl k) h
theorem own_l2d {Φ : Outcome → State → Prop} (X : Stand p l e R s m args below meth c T locs cells slots) (hx : p.tables.exec = Jvm.exec) {pc : Nat} (pc' : Nat) {Ls : Array Slot} {S : List Value} {x : Int64} (hd : decode c.code pc = .ok (.l2d, 1)) (h : own_Gs p e below Φ (T.setTop (mkF m pc' Ls (.double (FP.l2d x) :: S)))) (hp : pc + 1 = pc' := by rfl) : own_Gs p e below Φ (T.setTop (mkF m pc Ls (.long x :: S))) := by
  subst hp; exact own_st (fun t k => XS.l2dS X.here hx rfl hd rfl rfl k) h
theorem own_i2d {Φ : Outcome → State → Prop} (X : Stand p l e R s m args below meth c T locs cells slots) (hx : p.tables.exec = Jvm.exec) {pc : Nat} (pc' : Nat) {Ls : Array Slot} {S : List Value} {x : Int32} (hd : decode c.code pc = .ok (.i2d, 1)) (h : own_Gs p e below Φ (T.setTop (mkF m pc' Ls (.double (FP.i2d x) :: S)))) (hp : pc + 1 = pc' := by rfl) : own_Gs p e below Φ (T.setTop (mkF m pc Ls (.int x :: S))) := by
  subst hp; exact own_st (fun t k => XS.i2dS X.here hx rfl hd rfl rfl k) h
theorem own_dneg {Φ : Outcome → State → Prop} (X : Stand p l e R s m args below meth c T locs cells slots) (hx : p.tables.exec = Jvm.exec) {pc : Nat} (pc' : Nat) {Ls : Array Slot} {S : List Value} {x : UInt64} (hd : decode c.code pc = .ok (.dneg, 1)) (h : own_Gs p e below Φ (T.setTop (mkF m pc' Ls (.double (FP.dneg x) :: S)))) (hp : pc + 1 = pc' := by rfl) : own_Gs p e below Φ (T.setTop (mkF m pc Ls (.double x :: S))) := by
  subst hp; exact own_st (fun t k => XS.dnegS X.here hx rfl hd rfl rfl k) h
theorem own_dadd {Φ : Outcome → State → Prop} (X : Stand p l e R s m args below meth c T locs cells slots) (hx : p.tables.exec = Jvm.exec) {pc : Nat} (pc' : Nat) {Ls : Array Slot} {S : List Value} {x y : UInt64} (hd : decode c.code pc = .ok (.dadd, 1)) (hn : Jvm.Free.Fl.NoNaN64 (FP.dadd x y)) (h : own_Gs p e below Φ (T.setTop (mkF m pc' Ls (.double (FP.dadd x y) :: S)))) (hp : pc + 1 = pc' := by rfl) : own_Gs p e below Φ (T.setTop (mkF m pc Ls (.double y :: .double x :: S))) := by
  subst hp; exact own_st (fun t k => XS.daddS X.here hx rfl hd rfl hn rfl k) h
theorem own_dsub {Φ : Outcome → State → Prop} (X : Stand p l e R s m args below meth c T locs cells slots) (hx : p.tables.exec = Jvm.exec) {pc : Nat} (pc' : Nat) {Ls : Array Slot} {S : List Value} {x y : UInt64} (hd : decode c.code pc = .ok (.dsub, 1)) (hn : Jvm.Free.Fl.NoNaN64 (FP.dsub x y)) (h : own_Gs p e below Φ (T.setTop (mkF m pc' Ls (.double (FP.dsub x y) :: S)))) (hp : pc + 1 = pc' := by rfl) : own_Gs p e below Φ (T.setTop (mkF m pc Ls (.double y :: .double x :: S))) := by
  subst hp; exact own_st (fun t k => XS.dsubS X.here hx rfl hd rfl hn rfl k) h
theorem own_dmul {Φ : Outcome → State → Prop} (X : Stand p l e R s m args below meth c T locs cells slots) (hx : p.tables.exec = Jvm.exec) {pc : Nat} (pc' : Nat) {Ls : Array Slot} {S : List Value} {x y : UInt64} (hd : decode c.code pc = .ok (.dmul, 1)) (hn : Jvm.Free.Fl.NoNaN64 (FP.dmul x y)) (h : own_Gs p e below Φ (T.setTop (mkF m pc' Ls (.double (FP.dmul x y) :: S)))) (hp : pc + 1 = pc' := by rfl) : own_Gs p e below Φ (T.setTop (mkF m pc Ls (.double y :: .double x :: S))) := by
  subst hp; exact own_st (fun t k => XS.dmulS X.here hx rfl hd rfl hn rfl k) h
theorem own_ddiv {Φ : Outcome → State → Prop} (X : Stand p l e R s m args below meth c T locs cells slots) (hx : p.tables.exec = Jvm.exec) {pc : Nat} (pc' : Nat) {Ls : Array Slot} {S : List Value} {x y : UInt64} (hd : decode c.code pc = .ok (.ddiv, 1)) (hn : Jvm.Free.Fl.NoNaN64 (FP.ddiv x y)) (h : own_Gs p e below Φ (T.setTop (mkF m pc' Ls (.double (FP.ddiv x y) :: S)))) (hp : pc + 1 = pc' := by rfl) : own_Gs p e below Φ (T.setTop (mkF m pc Ls (.double y :: .double x :: S))) := by
  subst hp; exact own_st (fun t k => XS.ddivS X.here hx rfl hd rfl hn rfl k) h
theorem own_dcmp {Φ : Outcome → State → Prop} (X : Stand p l e R s m args below meth c T locs cells slots) (hx : p.tables.exec = Jvm.exec) {pc : Nat} (pc' : Nat) {Ls : Array Slot} {S : List Value} {x y : UInt64} {o : CmpOp} (z : Int32) (hd : decode c.code pc = .ok (.dcmp o, 1)) (hz : cmpValue (FP.dcmp x y) o = z) (h : own_Gs p e below Φ (T.setTop (mkF m pc' Ls (.int z :: S)))) (hp : pc + 1 = pc' := by rfl) : own_Gs p e below Φ (T.setTop (mkF m pc Ls (.double y :: .double x :: S))) := by
  subst hp; exact own_st (fun t k => XS.dcmpS X.here hx rfl hd rfl hz k) h
theorem own_goto {Φ : Outcome → State → Prop} (X : Stand p l e R s m args below meth c T locs cells slots) (hx : p.tables.exec = Jvm.exec) {pc : Nat} (pc' : Nat) {Ls : Array Slot} {S : List Value} {o : Int}  (hd : decode c.code pc = .ok (.goto o, 3)) (h : own_Gs p e below Φ (T.setTop (mkF m pc' Ls S))) (hp : decide (0 ≤ (pc : Int) + o ∧ ((pc : Int) + o).toNat = pc') = true := by rfl) : own_Gs p e below Φ (T.setTop (mkF m pc Ls (S))) := by
  have q := of_decide_eq_true hp; exact own_st (fun t k => XS.goto X.here hx rfl (pc0 := pc) (pc' := pc') rfl hd q.1 q.2 k) h
theorem own_ifYes {Φ : Outcome → State → Prop} (X : Stand p l e R s m args below meth c T locs cells slots) (hx : p.tables.exec = Jvm.exec) {pc : Nat} (pc' : Nat) {Ls : Array Slot} {S : List Value} {o : Int} {cd : ClassFile.Cond} {x : Int32} (hd : decode c.code pc = .ok (.ifCond cd o, 3)) (hc : if_icmp.holds cd x 0 = true) (h : own_Gs p e below Φ (T.setTop (mkF m pc' Ls S))) (hp : decide (0 ≤ (pc : Int) + o ∧ ((pc : Int) + o).toNat = pc') = true := by rfl) : own_Gs p e below Φ (T.setTop (mkF m pc Ls (.int x :: S))) := by
  have q := of_decide_eq_true hp; exact own_st (fun t k => XS.ifYes X.here hx rfl (pc0 := pc) (pc' := pc') rfl hd rfl ((if0 _ _).trans hc) q.1 q.2 k) h
theorem own_ifNo {Φ : Outcome → State → Prop} (X : Stand p l e R s m args below meth c T locs cells slots) (hx : p.tables.exec = Jvm.exec) {pc : Nat} (pc' : Nat) {Ls : Array Slot} {S : List Value} {o : Int} {cd : ClassFile.Cond} {x : Int32} (hd : decode c.code pc = .ok (.ifCond cd o, 3)) (hc : if_icmp.holds cd x 0 = false) (h : own_Gs p e below Φ (T.setTop (mkF m pc' Ls S))) (hp : pc + 3 = pc' := by rfl) : own_Gs p e below Φ (T.setTop (mkF m pc Ls (.int x :: S))) := by
  subst hp; exact own_st (fun t k => XS.ifNo X.here hx rfl hd rfl ((if0 _ _).trans hc) k) h
theorem own_icmpYes {Φ : Outcome → State → Prop} (X : Stand p l e R s m args below meth c T locs cells slots) (hx : p.tables.exec = Jvm.exec) {pc : Nat} (pc' : Nat) {Ls : Array Slot} {S : List Value} {o : Int} {cd : ClassFile.Cond} {x y : Int32} (hd : decode c.code pc = .ok (.if_icmp cd o, 3)) (hc : if_icmp.holds cd x y = true) (h : own_Gs p e below Φ (T.setTop (mkF m pc' Ls S))) (hp : decide (0 ≤ (pc : Int) + o ∧ ((pc : Int) + o).toNat = pc') = true := by rfl) : own_Gs p e below Φ (T.setTop (mkF m pc Ls (.int y :: .int x :: S))) := by
  have q := of_decide_eq_true hp; exact own_st (fun t k => XS.icmpYes X.here hx rfl (pc0 := pc) (pc' := pc') rfl hd rfl hc q.1 q.2 k) h
theorem own_icmpNo {Φ : Outcome → State → Prop} (X : Stand p l e R s m args below meth c T locs cells slots) (hx : p.tables.exec = Jvm.exec) {pc : Nat} (pc' : Nat) {Ls : Array Slot} {S : List Value} {o : Int} {cd : ClassFile.Cond} {x y : Int32} (hd : decode c.code pc = .ok (.if_icmp cd o, 3)) (hc : if_icmp.holds cd x y = false) (h : own_Gs p e below Φ (T.setTop (mkF m pc' Ls S))) (hp : pc + 3 = pc' := by rfl) : own_Gs p e below Φ (T.setTop (mkF m pc Ls (.int y :: .int x :: S))) := by
  subst hp; exact own_st (fun t k => XS.icmpNo X.here hx rfl hd rfl hc k) h
theorem own_ifnullYes {Φ : Outcome → State → Prop} (X : Stand p l e R s m args below meth c T locs cells slots) (hx : p.tables.exec = Jvm.exec) {pc : Nat} (pc' : Nat) {Ls : Array Slot} {S : List Value} {o : Int}  (hd : decode c.code pc = .ok (.ifnull o, 3)) (h : own_Gs p e below Φ (T.setTop (mkF m pc' Ls S))) (hp : decide (0 ≤ (pc : Int) + o ∧ ((pc : Int) + o).toNat = pc') = true := by rfl) : own_Gs p e below Φ (T.setTop (mkF m pc Ls (.null :: S))) := by
  have q := of_decide_eq_true hp; exact own_st (fun t k => XS.ifnullYes X.here hx rfl (pc0 := pc) (pc' := pc') rfl hd rfl q.1 q.2 k) h
theorem own_ifnullNo {Φ : Outcome → State → Prop} (X : Stand p l e R s m args below meth c T locs cells slots) (hx : p.tables.exec = Jvm.exec) {pc : Nat} (pc' : Nat) {Ls : Array Slot} {S : List Value} {o : Int} {b : Addr} (hd : decode c.code pc = .ok (.ifnull o, 3)) (h : own_Gs p e below Φ (T.setTop (mkF m pc' Ls S))) (hp : pc + 3 = pc' := by rfl) : own_Gs p e below Φ (T.setTop (mkF m pc Ls (.ref b :: S))) := by
  subst hp; exact own_st (fun t k => XS.ifnullNo X.here hx rfl hd rfl k) h
theorem own_ifnonnullYes {Φ : Outcome → State → Prop} (X : Stand p l e R s m args below meth c T locs cells slots) (hx : p.tables.exec = Jvm.exec) {pc : Nat} (pc' : Nat) {Ls : Array Slot} {S : List Value} {o : Int} {b : Addr} (hd : decode c.code pc = .ok (.ifnonnull o, 3)) (h : own_Gs p e below Φ (T.setTop (mkF m pc' Ls S))) (hp : decide (0 ≤ (pc : Int) + o ∧ ((pc : Int) + o).toNat = pc') = true := by rfl) : own_Gs p e below Φ (T.setTop (mkF m pc Ls (.ref b :: S))) := by
  have q := of_decide_eq_true hp; exact own_st (fun t k => XS.ifnonnullYes X.here hx rfl (pc0 := pc) (pc' := pc') rfl hd rfl q.1 q.2 k) h
theorem own_ifnonnullNo {Φ : Outcome → State → Prop} (X : Stand p l e R s m args below meth c T locs cells slots) (hx : p.tables.exec = Jvm.exec) {pc : Nat} (pc' : Nat) {Ls : Array Slot} {S : List Value} {o : Int}  (hd : decode c.code pc = .ok (.ifnonnull o, 3)) (h : own_Gs p e below Φ (T.setTop (mkF m pc' Ls S))) (hp : pc + 3 = pc' := by rfl) : own_Gs p e below Φ (T.setTop (mkF m pc Ls (.null :: S))) := by
  subst hp; exact own_st (fun t k => XS.ifnonnullNo X.here hx rfl hd rfl k) h
theorem own_acmp {Φ : Outcome → State → Prop} (X : Stand p l e R s m args below meth c T locs cells slots) (hx : p.tables.exec = Jvm.exec) {pc : Nat} (pc' : Nat) {Ls : Array Slot} {S : List Value} {o : Int} {cd : ACond} {v w : Value} (same : Bool) (hd : decode c.code pc = .ok (.if_acmp cd o, 3)) (h1 : v.isRef = true) (h2 : w.isRef = true) (hq : decide (v = w) = same) (h : own_Gs p e below Φ (T.setTop (mkF m pc' Ls S))) (hp : decide (0 ≤ (pc : Int) + o ∧ pc' = if acV cd same = true then ((pc : Int) + o).toNat else pc + 3) = true := by rfl) : own_Gs p e below Φ (T.setTop (mkF m pc Ls (w :: v :: S))) := by
  have q := of_decide_eq_true hp; exact own_st (fun t k => Jvm.RoadKit.acmp (g := mkF m pc Ls (w :: v :: S)) X hx rfl h1 h2 (pc0 := pc) (pc' := pc') (same := same) rfl hd rfl hq q.1 q.2 k) h
theorem own_ldcI {Φ : Outcome → State → Prop} (X : Stand p l e R s m args below meth c T locs cells slots) (hx : p.tables.exec = Jvm.exec) {pc : Nat} (pc' : Nat) {Ls : Array Slot} {S : List Value} {own : String} {index : Nat} {v : Int32} (hown : s.vm.findClass own = some m.cls) (hw : (Jvm.Cond.constant own index v).before args s = true) (hd : decode c.code pc = .ok (.ldc index, 2)) (h : own_Gs p e below Φ (T.setTop (mkF m pc' Ls (.int v :: S)))) (hp : pc + 2 = pc' := by rfl) : own_Gs p e below Φ (T.setTop (mkF m pc Ls S)) := by
  subst hp; exact own_st (fun t k => X.ldcInt hx hown hw (g := mkF m pc Ls S) rfl hd _ k) h
theorem own_ldcwI {Φ : Outcome → State → Prop} (X : Stand p l e R s m args below meth c T locs cells slots) (hx : p.tables.exec = Jvm.exec) {pc : Nat} (pc' : Nat) {Ls : Array Slot} {S : List Value} {own : String} {index : Nat} {v : Int32} (hown : s.vm.findClass own = some m.cls) (hw : (Jvm.Cond.constant own index v).before args s = true) (hd : decode c.code pc = .ok (.ldc_w index, 3)) (h : own_Gs p e below Φ (T.setTop (mkF m pc' Ls (.int v :: S)))) (hp : pc + 3 = pc' := by rfl) : own_Gs p e below Φ (T.setTop (mkF m pc Ls S)) := by
  subst hp; exact own_st (fun t k => X.ldcwInt hx hown hw (g := mkF m pc Ls S) rfl hd _ k) h
theorem own_ldcL {Φ : Outcome → State → Prop} (X : Stand p l e R s m args below meth c T locs cells slots) (hx : p.tables.exec = Jvm.exec) {pc : Nat} (pc' : Nat) {Ls : Array Slot} {S : List Value} {own : String} {index : Nat} {v : Int64} (hown : s.vm.findClass own = some m.cls) (hw : (Jvm.Cond.constantLong own index v).before args s = true) (hd : decode c.code pc = .ok (.ldc2_w index, 3)) (h : own_Gs p e below Φ (T.setTop (mkF m pc' Ls (.long v :: S)))) (hp : pc + 3 = pc' := by rfl) : own_Gs p e below Φ (T.setTop (mkF m pc Ls S)) := by
  subst hp; exact own_st (fun t k => X.ldc2Long hx hown hw (g := mkF m pc Ls S) rfl hd _ k) h
theorem own_ldcD {Φ : Outcome → State → Prop} (X : Stand p l e R s m args below meth c T locs cells slots) (hx : p.tables.exec = Jvm.exec) {pc : Nat} (pc' : Nat) {Ls : Array Slot} {S : List Value} {own : String} {index : Nat} {v : UInt64} (hown : s.vm.findClass own = some m.cls) (hw : (Jvm.Cond.constantDouble own index v).before args s = true) (hd : decode c.code pc = .ok (.ldc2_w index, 3)) (h : own_Gs p e below Φ (T.setTop (mkF m pc' Ls (.double v :: S)))) (hp : pc + 3 = pc' := by rfl) : own_Gs p e below Φ (T.setTop (mkF m pc Ls S)) := by
  subst hp; exact own_st (fun t k => X.ldc2DoubleC hx hown hw (g := mkF m pc Ls S) rfl hd _ k) h
theorem own_pop2L {Φ : Outcome → State → Prop} (X : Stand p l e R s m args below meth c T locs cells slots) (hx : p.tables.exec = Jvm.exec) {pc : Nat} (pc' : Nat) {Ls : Array Slot} {S : List Value} {x : Int64} (hd : decode c.code pc = .ok (.pop2, 1)) (h : own_Gs p e below Φ (T.setTop (mkF m pc' Ls S))) (hp : pc + 1 = pc' := by rfl) : own_Gs p e below Φ (T.setTop (mkF m pc Ls (.long x :: S))) := by
  subst hp
  refine own_st (fun t k => ?_) h
  show Steps p.tables e below (T.setTop { method := m, pc := pc, locals := Ls, stack := .long x :: S, locked := none }) _
  jvm_step X.here [X.here.top, hx, hd, Value.category]
  exact k
-- end of steps
theorem own_leafI {z w : Int32} (h : z = w) : some (Value.int z) = some (Value.int w) := by rw [h]
theorem own_leafJ {z w : Int64} (h : z = w) : some (Value.long z) = some (Value.long w) := by rw [h]
theorem own_leafR {z w : Addr} (h : z = w) : some (Value.ref z) = some (Value.ref w) := by rw [h]
theorem own_selfsel {Z s : State} {a0 args : Array Value} {y : MethodName} {n : Nat} (hZ : Z.Warmed39 s.vm) (wi : (Jvm.Cond.instantiable y.cls n).before a0 Z = true) (wm : (Jvm.Cond.instanceMethod y).before a0 Z = true) (wp : (Jvm.Cond.privateMethod y).before a0 Z = true) (hy : y.cls ≠ "java/lang/invoke/MethodHandle" ∧ y.cls ≠ "java/lang/invoke/VarHandle") : (Jvm.Cond.selects y.cls y y).before args s = true := by
  have wi' : (Jvm.Cond.instantiable y.cls n).before args s = true := mvT hZ wi
  obtain ⟨c, k, h1, h2, h3, h4, h5, h6⟩ := Cond.instantiable_spec wi'
  exact selects_self_of_private h1 h2 (by simp only [Bool.or_eq_false_iff] at h4; exact h4.1) (Cond.privateMethod_at (mvP hZ wp (args := #[]))) (mvT hZ wm) hy
theorem own_sta {Z : State} {a0 : Array Value} {C n d K : String} (hx : (Jvm.Cond.exactly (Term.static C n d) K).value a0 Z none Z [] = some true) (hi : (Jvm.Cond.initializedFor C n d).before a0 Z = true ∨ ((Jvm.Cond.initialized C).before a0 Z = true ∧ (Jvm.Cond.laysStatic C n d).before a0 Z = true)) :
    ∃ a : Addr, (Term.static C n d).eval a0 Z none [] Z = some (.ref a) ∧ Sta Z Z.heap C n d (.ref a) ∧ Exa Z Z.heap a K := by
  obtain ⟨a, ha⟩ := exa_v hx
  exact ⟨a, ha, Sta.start ha hi, Exa.start ha hx⟩
theorem own_fldI {Z : State} {a0 : Array Value} {t : Term} {a : Addr} {C n d : String} {k : Int32} (ev : t.eval a0 Z none [] Z = some (.ref a)) (h : (Jvm.Cond.eq (Term.field t C n d) (Term.int k)).value a0 Z none Z [] = some true) : Fld Z Z.heap a C n d (.int k) := by
  refine Fld.start ?_
  rw [← fld_at (args := a0) (first := Z) (o := none) (idx := []) ev]
  obtain ⟨x, y, h1, h2, h3, h4⟩ := cmp_v (Or.inl h)
  rw [Term.int_eval] at h2
  cases h2
  obtain ⟨z, rfl⟩ := h4
  have q : (Jvm.Cond.eq (Term.field t C n d) (Term.int k)).value a0 Z none Z [] = some (decide (z = k)) := Cond.eq_ints h1 (Term.int_eval k)
  rw [h1, gotT q h]
end Own
def own_lstI (N : Nat) (g : Nat → Int32) : List Value := (List.range N).map fun i => Value.int (g i)
theorem own_lstI_len (N : Nat) (g : Nat → Int32) : (own_lstI N g).length = N := by simp [own_lstI]
theorem own_lstI_get {N : Nat} {g : Nat → Int32} {dv : Value} {j : Nat} (h : j < N) : (own_lstI N g).getD j dv = .int (g j) := by simp [own_lstI, h]
theorem own_lstI_set {N : Nat} {g : Nat → Int32} {q : Nat} {y : Int32} : (own_lstI N g).set q (.int y) = own_lstI N (fun i => if i = q then y else g i) := by
  apply List.ext_getElem?
  intro j
  simp only [own_lstI, List.getElem?_set, List.getElem?_map, List.length_map, List.length_range]
  by_cases h : q = j
  · subst h
    by_cases h2 : q < N
    · simp [h2]
    · simp [h2]
  · have h' : ¬ j = q := fun e => h e.symm
    by_cases h2 : j < N
    · simp [h, h', h2]
    · simp [h, h2]
theorem own_lstI_pad (N : Nat) : ∀ i, (own_lstI N fun _ => (0 : Int32)).getD i (.int (0 : Int32)) = ([] : List Value).getD i (.int (0 : Int32)) := fun i => by
  by_cases h : i < N
  · rw [own_lstI_get h]; simp
  · simp [own_lstI, h]

def own_dig (n i : Nat) : Int32 := Int32.ofNat (48 + n / 10 ^ i % 10)
def own_l0 (q : Int64) : Nat := if q < 0 then 2 else 1
def own_part (n E i : Nat) (g : Nat → Int32) (y : Nat) : Int32 := if E - i ≤ y ∧ y < E then own_dig n (E - 1 - y) else g y
def own_out (q : Int64) (D a : Nat) (g : Nat → Int32) (y : Nat) : Int32 := if a ≤ y ∧ y < a + (own_l0 q + D) then (if q < 0 ∧ y = a then (45 : Int32) else own_dig q.toInt.natAbs (a + (own_l0 q + D) - 1 - y)) else g y
theorem own_digT (n i : Nat) : (own_dig n i).toInt = 48 + ((n / 10 ^ i % 10 : Nat) : Int) := by
  unfold own_dig
  rw [Int32.toInt_ofNat_of_lt (by omega)]
  omega
theorem own_l01 (q : Int64) : (q < 0 ∧ own_l0 q = 2) ∨ (¬ q < 0 ∧ own_l0 q = 1) := by
  unfold own_l0
  by_cases h : q < 0
  · exact Or.inl ⟨h, if_pos h⟩
  · exact Or.inr ⟨h, if_neg h⟩
theorem own_ps (n i : Nat) : n / 10 ^ (i + 1) = n / 10 ^ i / 10 := by rw [Nat.pow_succ, Nat.div_div_eq_div_mul]
theorem own_pp (i : Nat) : 0 < 10 ^ i := Nat.pos_of_neZero _
theorem own_pd {n i : Nat} (h : n / 10 ^ i ≠ 0) : 10 ^ i ≤ n := by
  have := Nat.div_eq_zero_iff (a := n) (b := 10 ^ i)
  have p := own_pp i
  omega
theorem own_na (q : Int64) : q.toInt.natAbs ≤ 9223372036854775808 := by have := rng64 q; omega
theorem own_j18 {n j : Nat} (hn : n ≤ 9223372036854775808) (h : j = 0 ∨ 10 ^ j ≤ n) : j ≤ 18 := by
  rcases h with h | h
  · omega
  · refine Nat.le_of_not_lt fun q => ?_
    have := Nat.pow_le_pow_right (n := 10) (by decide) (show 19 ≤ j by omega)
    omega
theorem own_div {y : Int64} {k : Nat} (h : y.toInt = -(k : Int)) : (y / (10 : Int64)).toInt = -((k / 10 : Nat) : Int) := by
  obtain ⟨a, b⟩ := c_ldiv y 10 10 rfl (by decide)
  by_cases hk : k = 0
  · rw [a (by omega)]; omega
  · rw [b (by omega)]; omega
theorem own_mod {y : Int64} {k : Nat} (h : y.toInt = -(k : Int)) : (y % (10 : Int64)).toInt = -((k % 10 : Nat) : Int) := by
  obtain ⟨a, b⟩ := c_lrem y 10 10 rfl
  rw [lrem_mod] at a b
  by_cases hk : k = 0
  · rw [a (by omega)]; omega
  · rw [b (by omega)]; omega
theorem own_neg0 {q : Int64} (h : q < 0) : q.toInt = -((q.toInt.natAbs : Nat) : Int) := by
  rw [Int64.lt_iff_toInt_lt] at h; have e : (0 : Int64).toInt = 0 := rfl; omega
theorem own_neg1 {q : Int64} (h : ¬ q < 0) : (-q).toInt = -((q.toInt.natAbs : Nat) : Int) := by
  rw [Int64.lt_iff_toInt_lt] at h; have e : (0 : Int64).toInt = 0 := rfl
  have h1 := c_lneg q; have h2 := rng64 (-q); have h3 := rng64 q
  omega
/-! the first loop -/
theorem own_a1 {rr : Int64} {n j : Nat} (hr : rr.toInt = -((n / 10 ^ j : Nat) : Int)) : (rr / (10 : Int64)).toInt = -((n / 10 ^ (j + 1) : Nat) : Int) := by
  rw [own_div hr, own_ps]
theorem own_a2 {rr : Int64} {n j : Nat} (hr : rr.toInt = -((n / 10 ^ j : Nat) : Int)) (h : ¬ (-10 : Int64) < rr) : 10 ≤ n / 10 ^ j := by
  rw [Int64.lt_iff_toInt_lt] at h; have e : (-10 : Int64).toInt = -10 := rfl; omega
theorem own_a3 {n j : Nat} (h : 10 ≤ n / 10 ^ j) : n / 10 ^ (j + 1) < n / 10 ^ j := by rw [own_ps]; omega
theorem own_a4 {n j : Nat} (h : 10 ≤ n / 10 ^ j) : j + 1 = 0 ∨ 10 ^ (j + 1) ≤ n := by
  right; apply own_pd; rw [own_ps]; omega
theorem own_a5 {n j : Nat} {len : Int32} {l0 : Nat} (hn : n ≤ 9223372036854775808) (hl0 : l0 ≤ 2) (hj : j = 0 ∨ 10 ^ j ≤ n) (hl : len.toInt = ((l0 + j : Nat) : Int)) : (len + (1 : Int32)).toInt = ((l0 + (j + 1) : Nat) : Int) := by
  have h18 := own_j18 hn hj
  clear hj hn
  have h1 := c_iadd len 1; have h2 := rng32 (len + 1); have e : (1 : Int32).toInt = 1 := rfl
  omega
theorem own_a6 {rr : Int64} {n j : Nat} (hr : rr.toInt = -((n / 10 ^ j : Nat) : Int)) (h : (-10 : Int64) < rr) : n < 10 ^ (j + 1) := by
  rw [Int64.lt_iff_toInt_lt] at h; have e : (-10 : Int64).toInt = -10 := rfl
  have h2 : n / 10 ^ j < 10 := by omega
  rw [Nat.div_lt_iff_lt_mul (own_pp j)] at h2
  rw [Nat.pow_succ]; omega
theorem own_l2 (q : Int64) : own_l0 q ≤ 2 ∧ 1 ≤ own_l0 q := by rcases own_l01 q with ⟨_, h⟩ | ⟨_, h⟩ <;> omega
/-! the second loop -/
theorem own_b1 {v3 len pos : Int32} {n j i l0 : Nat} (hn : n ≤ 9223372036854775808) (ha : 0 ≤ v3.toInt ∧ v3.toInt ≤ 3) (hl0 : l0 ≤ 2 ∧ 1 ≤ l0) (hj : j = 0 ∨ 10 ^ j ≤ n) (hl : len.toInt = ((l0 + j : Nat) : Int)) (hi : i ≤ j) (hp : pos.toInt = v3.toInt + len.toInt - (i : Int)) :
    (pos + (-1 : Int32)).toInt = v3.toInt + len.toInt - ((i + 1 : Nat) : Int) ∧ (pos + (-1 : Int32)).toNatClampNeg = (v3.toInt + len.toInt).toNat - 1 - i ∧ (pos + (-1 : Int32)).toNatClampNeg < 24 ∧ (¬ (pos + (-1 : Int32)) < 0 ∧ (pos + (-1 : Int32)) < (24 : Int32)) := by
  have h18 := own_j18 hn hj
  clear hj hn
  have h1 := c_iadd pos (-1)
  have h2 := rng32 (pos + (-1))
  have h3 := rng32 pos
  have e : (-1 : Int32).toInt = -1 := rfl
  rw [e] at h1
  clear e
  generalize pos + (-1 : Int32) = p1 at *
  rw [Int32.lt_iff_toInt_lt, Int32.lt_iff_toInt_lt, show (0 : Int32).toInt = 0 from rfl, show (24 : Int32).toInt = 24 from rfl]
  show _ ∧ p1.toInt.toNat = _ ∧ p1.toInt.toNat < 24 ∧ _
  generalize p1.toInt = a at *
  generalize pos.toInt = b at *
  generalize v3.toInt = c at *
  generalize len.toInt = d at *
  subst hl
  have q1 : a = c + ((l0 + j : Nat) : Int) - ((i + 1 : Nat) : Int) := by omega
  refine ⟨q1, ?_, ?_, ?_, ?_⟩ <;> omega
theorem own_b2 {mm : Int64} {n i : Nat} (hm : mm.toInt = -((n / 10 ^ i : Nat) : Int)) : nar .byte ((((48 : Int64) - (mm % (10 : Int64))).toInt32).toInt8.toInt32) = own_dig n i := by
  have h0 := own_mod hm
  have h1 := c_lsub 48 (mm % 10); have r1 := rng64 ((48 : Int64) - (mm % 10)); have e : (48 : Int64).toInt = 48 := rfl
  have h2 := c_l2i ((48 : Int64) - (mm % 10)); have r2 := rng32 (((48 : Int64) - (mm % 10)).toInt32)
  have h3 := c_i2b (((48 : Int64) - (mm % 10)).toInt32)
  have h4 := c_i2b ((((48 : Int64) - (mm % 10)).toInt32).toInt8.toInt32)
  apply Int32.toInt_inj.mp
  rw [own_digT]
  show ((((48 : Int64) - (mm % 10)).toInt32).toInt8.toInt32.toInt8.toInt32).toInt = _
  omega
theorem own_b3 {n E i : Nat} {g gg : Nat → Int32} (hi : i < E) (hg : ∀ y, gg y = own_part n E i g y) {q : Nat} (hq : q = E - 1 - i) {z : Int32} (hz : z = own_dig n i) : ∀ y, (if y = q then z else gg y) = own_part n E (i + 1) g y := by
  intro y
  subst hq hz
  rw [hg]
  unfold own_part
  by_cases h : y = E - 1 - i
  · subst h
    rw [if_pos rfl, if_pos (by omega)]
    congr 1; omega
  · rw [if_neg h]
    by_cases h2 : E - i ≤ y ∧ y < E
    · rw [if_pos h2, if_pos (by omega)]
    · rw [if_neg h2, if_neg (by omega)]
theorem own_b4 {mm : Int64} {n i j : Nat} (hm : mm.toInt = -((n / 10 ^ i : Nat) : Int)) (hlt : n < 10 ^ (j + 1)) (h : ¬ (mm / (10 : Int64)) = 0) : i + 1 ≤ j := by
  have h1 := own_a1 hm
  have h2 : n / 10 ^ (i + 1) ≠ 0 := fun q => h (Int64.toInt_inj.mp (by rw [h1, q]; rfl))
  have h3 := own_pd h2
  refine Nat.le_of_not_lt fun q => ?_
  have := Nat.pow_le_pow_right (n := 10) (by decide) (show j + 1 ≤ i + 1 by omega)
  omega
theorem own_b5 {mm : Int64} {n i j : Nat} (hm : mm.toInt = -((n / 10 ^ i : Nat) : Int)) (hi : i ≤ j) (hj : j = 0 ∨ 10 ^ j ≤ n) (h : (mm / (10 : Int64)) = 0) : i = j := by
  have h1 := own_a1 hm
  rw [h] at h1
  have h2 : n / 10 ^ (i + 1) = 0 := by have e : (0 : Int64).toInt = 0 := rfl; omega
  rcases hj with hj | hj
  · omega
  · refine Nat.le_antisymm hi (Nat.le_of_not_lt fun q => ?_)
    have := Nat.pow_le_pow_right (n := 10) (by decide) (show i + 1 ≤ j by omega)
    have h3 := (Nat.div_eq_zero_iff (a := n) (b := 10 ^ (i + 1))).mp h2
    have p := own_pp (i + 1)
    omega
/-! what it leaves -/
theorem own_c1 {q : Int64} {v3 len : Int32} {D : Nat} {g gg : Nat → Int32} (ha : 0 ≤ v3.toInt ∧ v3.toInt ≤ 3) (hq : ¬ q < 0) (hl : len.toInt = ((own_l0 q + D : Nat) : Int)) (hg : ∀ y, gg y = own_part q.toInt.natAbs (v3.toInt + len.toInt).toNat (D + 1) g y) : ∀ y, gg y = own_out q D v3.toInt.toNat g y := by
  intro y
  rw [hg]
  have h0 : own_l0 q = 1 := if_neg hq
  have hE : (v3.toInt + len.toInt).toNat = v3.toInt.toNat + (own_l0 q + D) := by omega
  unfold own_part own_out
  rw [hE]
  by_cases h : v3.toInt.toNat ≤ y ∧ y < v3.toInt.toNat + (own_l0 q + D)
  · rw [if_pos h, if_pos (by omega), if_neg (fun z => hq z.1)]
  · rw [if_neg h, if_neg (by omega)]
theorem own_c2 {q : Int64} {v3 len : Int32} {D : Nat} {g gg : Nat → Int32} (ha : 0 ≤ v3.toInt ∧ v3.toInt ≤ 3) (hq : q < 0) (hl : len.toInt = ((own_l0 q + D : Nat) : Int)) (hg : ∀ y, gg y = own_part q.toInt.natAbs (v3.toInt + len.toInt).toNat (D + 1) g y) : ∀ y, (if y = v3.toNatClampNeg then (nar .byte (45 : Int32)) else gg y) = own_out q D v3.toInt.toNat g y := by
  intro y
  rw [hg]
  have h0 : own_l0 q = 2 := if_pos hq
  have hE : (v3.toInt + len.toInt).toNat = v3.toInt.toNat + (own_l0 q + D) := by omega
  have e45 : nar .byte (45 : Int32) = 45 := by decide
  unfold own_part own_out
  rw [hE, e45]
  have et : v3.toNatClampNeg = v3.toInt.toNat := rfl
  rw [et]
  by_cases h1 : y = v3.toInt.toNat
  · rw [if_pos h1, if_pos (by omega), if_pos ⟨hq, h1⟩]
  · rw [if_neg h1]
    by_cases h : v3.toInt.toNat ≤ y ∧ y < v3.toInt.toNat + (own_l0 q + D)
    · rw [if_pos h, if_pos (by omega), if_neg (fun z => h1 z.2)]
    · rw [if_neg h, if_neg (by omega)]

/-! the law's own questions -/
theorem own_k0 {q : Int64} {D : Nat} (h2 : (D = 0 ∨ 10 ^ D ≤ q.toInt.natAbs) ∧ q.toInt.natAbs < 10 ^ (D + 1)) : D ≤ 18 := own_j18 (own_na q) h2.1
theorem own_end {q : Int64} {aa len : Int32} {D : Nat} (ha : 0 ≤ aa.toInt ∧ aa.toInt ≤ 3) (h2 : (D = 0 ∨ 10 ^ D ≤ q.toInt.natAbs) ∧ q.toInt.natAbs < 10 ^ (D + 1)) (hl : len.toInt = ((own_l0 q + D : Nat) : Int)) : (aa + len).toInt = ((aa.toInt.toNat + (own_l0 q + D) : Nat) : Int) ∧ own_l0 q + D ≤ 20 ∧ 1 ≤ own_l0 q := by
  have h18 := own_k0 h2
  have h0 := own_l2 q
  clear h2
  have h1 := c_iadd aa len; have h3 := rng32 (aa + len)
  omega
theorem own_e1 {q : Int64} {aa len : Int32} {D : Nat} (ha : 0 ≤ aa.toInt ∧ aa.toInt ≤ 3) (h2 : (D = 0 ∨ 10 ^ D ≤ q.toInt.natAbs) ∧ q.toInt.natAbs < 10 ^ (D + 1)) (hl : len.toInt = ((own_l0 q + D : Nat) : Int)) : ¬ ((aa + len) < (aa + (1 : Int32))) := by
  obtain ⟨h1, h3, h4⟩ := own_end ha h2 hl
  clear h2
  have a1 := c_iadd aa 1; have a2 := rng32 (aa + 1); have e : (1 : Int32).toInt = 1 := rfl
  rw [Int32.lt_iff_toInt_lt]; omega
theorem own_e2 {q : Int64} {aa len : Int32} {D : Nat} (ha : 0 ≤ aa.toInt ∧ aa.toInt ≤ 3) (h2 : (D = 0 ∨ 10 ^ D ≤ q.toInt.natAbs) ∧ q.toInt.natAbs < 10 ^ (D + 1)) (hl : len.toInt = ((own_l0 q + D : Nat) : Int)) : ¬ ((aa + (20 : Int32)) < (aa + len)) := by
  obtain ⟨h1, h3, h4⟩ := own_end ha h2 hl
  clear h2
  have a1 := c_iadd aa 20; have a2 := rng32 (aa + 20); have e : (20 : Int32).toInt = 20 := rfl
  rw [Int32.lt_iff_toInt_lt]; omega
theorem own_ain {aa : Int32} (ha : 0 ≤ aa.toInt ∧ aa.toInt ≤ 3) : (¬ aa < 0 ∧ aa < (24 : Int32)) ∧ aa.toNatClampNeg < 24 := by
  have e : (0 : Int32).toInt = 0 := rfl; have e2 : (24 : Int32).toInt = 24 := rfl
  rw [Int32.lt_iff_toInt_lt, Int32.lt_iff_toInt_lt]; unfold Int32.toNatClampNeg; omega
theorem own_ain1 {aa : Int32} (ha : 0 ≤ aa.toInt ∧ aa.toInt ≤ 3) : (¬ (aa + (1 : Int32)) < 0 ∧ (aa + (1 : Int32)) < (24 : Int32)) ∧ (aa + (1 : Int32)).toNatClampNeg < 24 ∧ (aa + (1 : Int32)).toInt = aa.toInt + 1 := by
  have e : (0 : Int32).toInt = 0 := rfl; have e2 : (24 : Int32).toInt = 24 := rfl
  have a1 := c_iadd aa 1; have a2 := rng32 (aa + 1); have e1 : (1 : Int32).toInt = 1 := rfl
  rw [Int32.lt_iff_toInt_lt, Int32.lt_iff_toInt_lt]; unfold Int32.toNatClampNeg; omega
theorem own_dne {n i : Nat} (k : Int32) (hk : k.toInt < 48 ∨ 57 < k.toInt) : own_dig n i ≠ k := fun e => by
  have := own_digT n i; rw [e] at this; omega
theorem own_f1 {q : Int64} {aa : Int32} {D : Nat} {g gg : Nat → Int32} (ha : 0 ≤ aa.toInt ∧ aa.toInt ≤ 3) (hq : q < 0) (h3 : ∀ y, gg y = own_out q D aa.toInt.toNat g y) : gg aa.toNatClampNeg = (45 : Int32) := by
  rw [h3]
  have h0 := own_l2 q
  have et : aa.toNatClampNeg = aa.toInt.toNat := rfl
  unfold own_out
  rw [et, if_pos (by omega), if_pos ⟨hq, rfl⟩]
theorem own_f2 {q : Int64} {aa : Int32} {D : Nat} {g gg : Nat → Int32} (ha : 0 ≤ aa.toInt ∧ aa.toInt ≤ 3) (hq : ¬ q < 0) (h3 : ∀ y, gg y = own_out q D aa.toInt.toNat g y) : ¬ gg aa.toNatClampNeg = (45 : Int32) := by
  rw [h3]
  have h0 := own_l2 q
  have et : aa.toNatClampNeg = aa.toInt.toNat := rfl
  unfold own_out
  rw [et, if_pos (by omega), if_neg (fun z => hq z.1)]
  exact own_dne 45 (Or.inl (by decide))
theorem own_g1 {q : Int64} {aa len : Int32} {D : Nat} (ha : 0 ≤ aa.toInt ∧ aa.toInt ≤ 3) (h2 : (D = 0 ∨ 10 ^ D ≤ q.toInt.natAbs) ∧ q.toInt.natAbs < 10 ^ (D + 1)) (hl : len.toInt = ((own_l0 q + D : Nat) : Int)) (hq : q < 0) : (aa + (1 : Int32)) < (aa + len) := by
  obtain ⟨h1, h3, h4⟩ := own_end ha h2 hl
  clear h2
  have := (own_ain1 ha).2.2
  have h0 : own_l0 q = 2 := if_pos hq
  rw [Int32.lt_iff_toInt_lt]; omega
theorem own_g2 {q : Int64} {aa len : Int32} {D : Nat} (ha : 0 ≤ aa.toInt ∧ aa.toInt ≤ 3) (h2 : (D = 0 ∨ 10 ^ D ≤ q.toInt.natAbs) ∧ q.toInt.natAbs < 10 ^ (D + 1)) (hl : len.toInt = ((own_l0 q + D : Nat) : Int)) : aa < (aa + len) := by
  obtain ⟨h1, h3, h4⟩ := own_end ha h2 hl
  clear h2
  rw [Int32.lt_iff_toInt_lt]; omega
theorem own_lead {q : Int64} {D : Nat} (h2 : (D = 0 ∨ 10 ^ D ≤ q.toInt.natAbs) ∧ q.toInt.natAbs < 10 ^ (D + 1)) (h : own_dig q.toInt.natAbs D = (48 : Int32)) : D = 0 := by
  have h1 := own_digT q.toInt.natAbs D
  rw [h] at h1
  have e : (48 : Int32).toInt = 48 := rfl
  rcases h2.1 with h3 | h3
  · exact h3
  · have h4 : q.toInt.natAbs / 10 ^ D < 10 := by
      rw [Nat.div_lt_iff_lt_mul (own_pp D)]
      have := h2.2; rw [Nat.pow_succ] at this; omega
    have h5 : 1 ≤ q.toInt.natAbs / 10 ^ D := by
      rw [Nat.le_div_iff_mul_le (own_pp D)]; omega
    omega
theorem own_h1 {q : Int64} {aa len : Int32} {D : Nat} {g gg : Nat → Int32} (ha : 0 ≤ aa.toInt ∧ aa.toInt ≤ 3) (h2 : (D = 0 ∨ 10 ^ D ≤ q.toInt.natAbs) ∧ q.toInt.natAbs < 10 ^ (D + 1)) (hl : len.toInt = ((own_l0 q + D : Nat) : Int)) (h3 : ∀ y, gg y = own_out q D aa.toInt.toNat g y) (hq : q < 0) (h : gg (aa + (1 : Int32)).toNatClampNeg = (48 : Int32)) : (aa + len) = ((aa + (1 : Int32)) + (1 : Int32)) := by
  obtain ⟨h1, h4, h5⟩ := own_end ha h2 hl
  have a := own_ain1 ha
  have h0 : own_l0 q = 2 := if_pos hq
  have et : (aa + (1 : Int32)).toNatClampNeg = aa.toInt.toNat + 1 := by unfold Int32.toNatClampNeg; omega
  rw [h3, et] at h
  unfold own_out at h
  rw [if_pos (by omega), if_neg (by omega)] at h
  have e : aa.toInt.toNat + (own_l0 q + D) - 1 - (aa.toInt.toNat + 1) = D := by omega
  rw [e] at h
  have hD := own_lead h2 h
  have b1 := c_iadd (aa + 1) 1; have b2 := rng32 ((aa + 1) + 1); have e1 : (1 : Int32).toInt = 1 := rfl
  apply Int32.toInt_inj.mp; omega
theorem own_h2 {q : Int64} {aa len : Int32} {D : Nat} {g gg : Nat → Int32} (ha : 0 ≤ aa.toInt ∧ aa.toInt ≤ 3) (h2 : (D = 0 ∨ 10 ^ D ≤ q.toInt.natAbs) ∧ q.toInt.natAbs < 10 ^ (D + 1)) (hl : len.toInt = ((own_l0 q + D : Nat) : Int)) (h3 : ∀ y, gg y = own_out q D aa.toInt.toNat g y) (hq : ¬ q < 0) (h : gg aa.toNatClampNeg = (48 : Int32)) : (aa + len) = (aa + (1 : Int32)) := by
  obtain ⟨h1, h4, h5⟩ := own_end ha h2 hl
  have a := own_ain1 ha
  have h0 : own_l0 q = 1 := if_neg hq
  have et : aa.toNatClampNeg = aa.toInt.toNat := rfl
  rw [h3, et] at h
  unfold own_out at h
  rw [if_pos (by omega), if_neg (fun z => hq z.1)] at h
  have e : aa.toInt.toNat + (own_l0 q + D) - 1 - aa.toInt.toNat = D := by omega
  rw [e] at h
  have hD := own_lead h2 h
  apply Int32.toInt_inj.mp; omega
theorem own_keep {q : Int64} {aa len ff : Int32} {D : Nat} {gg : Nat → Int32} (ha : 0 ≤ aa.toInt ∧ aa.toInt ≤ 3) (h2 : (D = 0 ∨ 10 ^ D ≤ q.toInt.natAbs) ∧ q.toInt.natAbs < 10 ^ (D + 1)) (hl : len.toInt = ((own_l0 q + D : Nat) : Int)) (h3 : ∀ y, gg y = own_out q D aa.toInt.toNat (fun _ => ff) y) (i : Int32) (hi : 0 ≤ i.toInt) : i < aa ∨ ¬ (i < (aa + len)) → gg i.toNatClampNeg = ff := by
  obtain ⟨h1, h4, h5⟩ := own_end ha h2 hl
  clear h2
  rw [Int32.lt_iff_toInt_lt, Int32.lt_iff_toInt_lt]
  intro h
  rw [h3]
  unfold own_out Int32.toNatClampNeg
  rw [if_neg (by omega)]
theorem own_bb (v : Int32) : nar .byte (v.toInt8.toInt32) = v.toInt8.toInt32 := by
  apply Int32.toInt_inj.mp
  show v.toInt8.toInt32.toInt8.toInt32.toInt = _
  have a := c_i2b v; have b := c_i2b v.toInt8.toInt32
  omega
theorem own_03 (v : Int32) : 0 ≤ (v &&& (3 : Int32)).toInt ∧ (v &&& (3 : Int32)).toInt ≤ 3 := by
  have h := c_mask v 3 2 (by decide) (by decide)
  rw [h]; omega
/-! the reading loop -/
theorem own_r1 {q : Int64} {v1 st ii : Int32} {D k : Nat} {g gg : Nat → Int32} (ha : 0 ≤ v1.toInt ∧ v1.toInt ≤ 3) (h2 : (D = 0 ∨ 10 ^ D ≤ q.toInt.natAbs) ∧ q.toInt.natAbs < 10 ^ (D + 1)) (h3 : ∀ y, gg y = own_out q D v1.toInt.toNat g y) (hst : st.toInt = v1.toInt + ((own_l0 q - 1 : Nat) : Int)) (hii : ii.toInt = st.toInt + (k : Int)) (hk : k < D + 1) :
    gg ii.toNatClampNeg = own_dig q.toInt.natAbs (D - k) ∧ (¬ ii < 0 ∧ ii < (24 : Int32)) ∧ ii.toNatClampNeg < 24 := by
  have h18 := own_k0 h2
  have h0 := own_l01 q
  have hl2 := own_l2 q
  clear h2
  have e : (0 : Int32).toInt = 0 := rfl; have e2 : (24 : Int32).toInt = 24 := rfl
  refine ⟨?_, ?_⟩
  · rw [h3]
    unfold own_out Int32.toNatClampNeg
    have hne : ¬ (q < 0 ∧ ii.toInt.toNat = v1.toInt.toNat) := fun z => by
      rcases h0 with ⟨_, h0⟩ | ⟨hq, _⟩
      · have := z.2; omega
      · exact hq z.1
    clear h0
    rw [if_pos (by omega), if_neg hne]
    congr 1; omega
  · clear h0
    rw [Int32.lt_iff_toInt_lt, Int32.lt_iff_toInt_lt]; unfold Int32.toNatClampNeg; omega
theorem own_r2 {n i : Nat} {x : Int32} (h : x = own_dig n i) : (x - (48 : Int32)).toInt = ((n / 10 ^ i % 10 : Nat) : Int) := by
  subst h
  have h1 := own_digT n i
  have a := c_isub (own_dig n i) 48; have b := rng32 (own_dig n i - 48); have e : (48 : Int32).toInt = 48 := rfl
  omega
theorem own_r3 {x : Int32} {n i : Nat} (h : x = own_dig n i) : ¬ ((x - (48 : Int32)) < (0 : Int32)) ∧ ¬ ((9 : Int32) < (x - (48 : Int32))) := by
  have := own_r2 h
  have e : (0 : Int32).toInt = 0 := rfl; have e2 : (9 : Int32).toInt = 9 := rfl
  rw [Int32.lt_iff_toInt_lt, Int32.lt_iff_toInt_lt]; omega
theorem own_r4 {n D k : Nat} (hk : k < D + 1) : n / 10 ^ (D + 1 - (k + 1)) = n / 10 ^ (D + 1 - k) * 10 + n / 10 ^ (D - k) % 10 := by
  have e1 : D + 1 - (k + 1) = D - k := by omega
  have e2 : D + 1 - k = (D - k) + 1 := by omega
  rw [e1, e2, own_ps]; omega
theorem own_r5 (n i : Nat) : n / 10 ^ i ≤ n := Nat.div_le_self _ _
/-- the limit, and what the loop asks of it -/
theorem own_r6 {n D k : Nat} {vv lim : Int64} {x : Int32} (hlim : lim.toInt ≤ -(n : Int)) (hl0 : lim.toInt < 0) (hk : k < D + 1) (hv : vv.toInt = -((n / 10 ^ (D + 1 - k) : Nat) : Int)) (hx : x = own_dig n (D - k)) :
    ¬ (vv < (lim / (10 : Int64))) ∧ ¬ ((vv * (10 : Int64)) < (lim + (x - (48 : Int32)).toInt64)) ∧ ((vv * (10 : Int64)) - (x - (48 : Int32)).toInt64).toInt = -((n / 10 ^ (D + 1 - (k + 1)) : Nat) : Int) := by
  have h4 := own_r4 (n := n) hk
  have h5 := own_r5 n (D + 1 - (k + 1))
  have hd := own_r2 hx
  have hi := c_i2l (x - (48 : Int32))
  have rl := rng64 lim
  obtain ⟨-, b⟩ := c_ldiv lim 10 10 rfl (by decide)
  have hb := b hl0
  have m1 := c_lmul vv 10; have m2 := rng64 (vv * 10); have e10 : (10 : Int64).toInt = 10 := rfl
  have s1 := c_lsub (vv * 10) (x - (48 : Int32)).toInt64; have s2 := rng64 ((vv * 10) - (x - (48 : Int32)).toInt64)
  have a1 := c_ladd lim (x - (48 : Int32)).toInt64; have a2 := rng64 (lim + (x - (48 : Int32)).toInt64)
  rw [e10] at m1
  rw [Int64.lt_iff_toInt_lt, Int64.lt_iff_toInt_lt]
  refine ⟨?_, ?_, ?_⟩ <;> omega
theorem own_r7 {st v2 : Int32} {v1 : Int32} {D l0 : Nat} (h18 : D ≤ 18) (hst : st.toInt = v1.toInt + ((l0 - 1 : Nat) : Int)) (h1 : 1 ≤ l0) (hv2 : v2.toInt = v1.toInt + ((l0 + D : Nat) : Int)) : ¬ st = v2 := fun e => by subst e; omega
theorem own_r8 {ii v1 v2 st : Int32} {D k l0 : Nat} (hst : st.toInt = v1.toInt + ((l0 - 1 : Nat) : Int)) (h1 : 1 ≤ l0) (hv2 : v2.toInt = v1.toInt + ((l0 + D : Nat) : Int)) (hii : ii.toInt = st.toInt + (k : Int)) (h : ii < v2) : k < D + 1 := by
  rw [Int32.lt_iff_toInt_lt] at h; omega
theorem own_r9 {ii v1 v2 st : Int32} {D k l0 : Nat} (hst : st.toInt = v1.toInt + ((l0 - 1 : Nat) : Int)) (h1 : 1 ≤ l0) (hv2 : v2.toInt = v1.toInt + ((l0 + D : Nat) : Int)) (hii : ii.toInt = st.toInt + (k : Int)) (hk : k ≤ D + 1) (h : ¬ ii < v2) : k = D + 1 := by
  rw [Int32.lt_iff_toInt_lt] at h; omega
theorem own_r10 {ii st : Int32} {k D : Nat} (h18 : D ≤ 18) (h3 : 0 ≤ st.toInt ∧ st.toInt ≤ 4) (hk : k < D + 1) (hii : ii.toInt = st.toInt + (k : Int)) : (ii + (1 : Int32)).toInt = st.toInt + ((k + 1 : Nat) : Int) := by
  have a := c_iadd ii 1; have b := rng32 (ii + 1); have e : (1 : Int32).toInt = 1 := rfl
  omega
theorem own_limN (q : Int64) : (-9223372036854775808 : Int64).toInt ≤ -((q.toInt.natAbs : Nat) : Int) ∧ (-9223372036854775808 : Int64).toInt < 0 := by
  have e : (-9223372036854775808 : Int64).toInt = -9223372036854775808 := rfl
  have := own_na q; omega
theorem own_limP {q : Int64} (h : ¬ q < 0) : (-9223372036854775807 : Int64).toInt ≤ -((q.toInt.natAbs : Nat) : Int) ∧ (-9223372036854775807 : Int64).toInt < 0 := by
  have e : (-9223372036854775807 : Int64).toInt = -9223372036854775807 := rfl
  rw [Int64.lt_iff_toInt_lt] at h; have e0 : (0 : Int64).toInt = 0 := rfl
  have := rng64 q; omega
theorem own_finN {q vv : Int64} {D k : Nat} (hq : q < 0) (hk : k = D + 1) (hv : vv.toInt = -((q.toInt.natAbs / 10 ^ (D + 1 - k) : Nat) : Int)) : vv = q := by
  subst hk
  have h := own_neg0 hq
  rw [Nat.sub_self, Nat.pow_zero, Nat.div_one] at hv
  exact Int64.toInt_inj.mp (by omega)
theorem own_finP {q vv : Int64} {D k : Nat} (hq : ¬ q < 0) (hk : k = D + 1) (hv : vv.toInt = -((q.toInt.natAbs / 10 ^ (D + 1 - k) : Nat) : Int)) : -vv = q := by
  subst hk
  rw [Nat.sub_self, Nat.pow_zero, Nat.div_one] at hv
  rw [Int64.lt_iff_toInt_lt] at hq; have e0 : (0 : Int64).toInt = 0 := rfl
  have a := c_lneg vv; have b := rng64 (-vv); have c := rng64 q
  exact Int64.toInt_inj.mp (by omega)

theorem own_part0 (n E : Nat) (g : Nat → Int32) : ∀ y, g y = own_part n E 0 g y := fun y => by unfold own_part; rw [if_neg (by omega)]
theorem own_dec {i j : Nat} (h : i + 1 ≤ j) : j - (i + 1) < j - i := by omega
theorem own_iE {v3 len : Int32} {i j l0 : Nat} (ha : 0 ≤ v3.toInt ∧ v3.toInt ≤ 3) (hl0 : l0 ≤ 2 ∧ 1 ≤ l0) (hl : len.toInt = ((l0 + j : Nat) : Int)) (hi : i ≤ j) : i < (v3.toInt + len.toInt).toNat := by omega
theorem own_p0 {v3 len : Int32} {n j l0 : Nat} (hn : n ≤ 9223372036854775808) (ha : 0 ≤ v3.toInt ∧ v3.toInt ≤ 3) (hl0 : l0 ≤ 2 ∧ 1 ≤ l0) (hj : j = 0 ∨ 10 ^ j ≤ n) (hl : len.toInt = ((l0 + j : Nat) : Int)) : (v3 + len).toInt = v3.toInt + len.toInt - ((0 : Nat) : Int) := by
  have := own_j18 hn hj
  have h1 := c_iadd v3 len; have h2 := rng32 (v3 + len)
  omega
theorem own_d1_0 : decode prog_10_method_9_code 0 = .ok (.lload_n 0, 1) := by decide +kernel
theorem own_d1_1 : decode prog_10_method_9_code 1 = .ok (.lconst 0, 1) := by decide +kernel
theorem own_d1_2 : decode prog_10_method_9_code 2 = .ok (.lcmp, 1) := by decide +kernel
theorem own_d1_3 : decode prog_10_method_9_code 3 = .ok (.ifCond .ge 7, 3) := by decide +kernel
theorem own_d1_6 : decode prog_10_method_9_code 6 = .ok (.lload_n 0, 1) := by decide +kernel
theorem own_d1_7 : decode prog_10_method_9_code 7 = .ok (.goto 5, 3) := by decide +kernel
theorem own_d1_10 : decode prog_10_method_9_code 10 = .ok (.lload_n 0, 1) := by decide +kernel
theorem own_d1_11 : decode prog_10_method_9_code 11 = .ok (.lneg, 1) := by decide +kernel
theorem own_d1_12 : decode prog_10_method_9_code 12 = .ok (.lstore 4, 2) := by decide +kernel
theorem own_d1_14 : decode prog_10_method_9_code 14 = .ok (.lload_n 0, 1) := by decide +kernel
theorem own_d1_15 : decode prog_10_method_9_code 15 = .ok (.lconst 0, 1) := by decide +kernel
theorem own_d1_16 : decode prog_10_method_9_code 16 = .ok (.lcmp, 1) := by decide +kernel
theorem own_d1_17 : decode prog_10_method_9_code 17 = .ok (.ifCond .ge 7, 3) := by decide +kernel
theorem own_d1_20 : decode prog_10_method_9_code 20 = .ok (.iconst 2, 1) := by decide +kernel
theorem own_d1_21 : decode prog_10_method_9_code 21 = .ok (.goto 4, 3) := by decide +kernel
theorem own_d1_24 : decode prog_10_method_9_code 24 = .ok (.iconst 1, 1) := by decide +kernel
theorem own_d1_25 : decode prog_10_method_9_code 25 = .ok (.istore 6, 2) := by decide +kernel
theorem own_d1_27 : decode prog_10_method_9_code 27 = .ok (.lload 4, 2) := by decide +kernel
theorem own_d1_29 : decode prog_10_method_9_code 29 = .ok (.lstore 7, 2) := by decide +kernel
theorem own_d1_31 : decode prog_10_method_9_code 31 = .ok (.lload 7, 2) := by decide +kernel
theorem own_d1_33 : decode prog_10_method_9_code 33 = .ok (.ldc2_w 89, 3) := by decide +kernel
theorem own_d1_36 : decode prog_10_method_9_code 36 = .ok (.lcmp, 1) := by decide +kernel
theorem own_d1_37 : decode prog_10_method_9_code 37 = .ok (.ifCond .gt 17, 3) := by decide +kernel
theorem own_d1_40 : decode prog_10_method_9_code 40 = .ok (.iinc 6 1, 3) := by decide +kernel
theorem own_d1_43 : decode prog_10_method_9_code 43 = .ok (.lload 7, 2) := by decide +kernel
theorem own_d1_45 : decode prog_10_method_9_code 45 = .ok (.ldc2_w 91, 3) := by decide +kernel
theorem own_d1_48 : decode prog_10_method_9_code 48 = .ok (.ldiv, 1) := by decide +kernel
theorem own_d1_49 : decode prog_10_method_9_code 49 = .ok (.lstore 7, 2) := by decide +kernel
theorem own_d1_51 : decode prog_10_method_9_code 51 = .ok (.goto (-20), 3) := by decide +kernel
theorem own_d1_54 : decode prog_10_method_9_code 54 = .ok (.iload_n 3, 1) := by decide +kernel
theorem own_d1_55 : decode prog_10_method_9_code 55 = .ok (.iload 6, 2) := by decide +kernel
theorem own_d1_57 : decode prog_10_method_9_code 57 = .ok (.iadd, 1) := by decide +kernel
theorem own_d1_58 : decode prog_10_method_9_code 58 = .ok (.istore 7, 2) := by decide +kernel
theorem own_d1_60 : decode prog_10_method_9_code 60 = .ok (.aload_n 2, 1) := by decide +kernel
theorem own_d1_61 : decode prog_10_method_9_code 61 = .ok (.iinc 7 (-1), 3) := by decide +kernel
theorem own_d1_64 : decode prog_10_method_9_code 64 = .ok (.iload 7, 2) := by decide +kernel
theorem own_d1_66 : decode prog_10_method_9_code 66 = .ok (.ldc2_w 93, 3) := by decide +kernel
theorem own_d1_69 : decode prog_10_method_9_code 69 = .ok (.lload 4, 2) := by decide +kernel
theorem own_d1_71 : decode prog_10_method_9_code 71 = .ok (.ldc2_w 91, 3) := by decide +kernel
theorem own_d1_74 : decode prog_10_method_9_code 74 = .ok (.lrem, 1) := by decide +kernel
theorem own_d1_75 : decode prog_10_method_9_code 75 = .ok (.lsub, 1) := by decide +kernel
theorem own_d1_76 : decode prog_10_method_9_code 76 = .ok (.l2i, 1) := by decide +kernel
theorem own_d1_77 : decode prog_10_method_9_code 77 = .ok (.i2b, 1) := by decide +kernel
theorem own_d1_78 : decode prog_10_method_9_code 78 = .ok (.bastore, 1) := by decide +kernel
theorem own_d1_79 : decode prog_10_method_9_code 79 = .ok (.lload 4, 2) := by decide +kernel
theorem own_d1_81 : decode prog_10_method_9_code 81 = .ok (.ldc2_w 91, 3) := by decide +kernel
theorem own_d1_84 : decode prog_10_method_9_code 84 = .ok (.ldiv, 1) := by decide +kernel
theorem own_d1_85 : decode prog_10_method_9_code 85 = .ok (.lstore 4, 2) := by decide +kernel
theorem own_d1_87 : decode prog_10_method_9_code 87 = .ok (.lload 4, 2) := by decide +kernel
theorem own_d1_89 : decode prog_10_method_9_code 89 = .ok (.lconst 0, 1) := by decide +kernel
theorem own_d1_90 : decode prog_10_method_9_code 90 = .ok (.lcmp, 1) := by decide +kernel
theorem own_d1_91 : decode prog_10_method_9_code 91 = .ok (.ifCond .ne (-31), 3) := by decide +kernel
theorem own_d1_94 : decode prog_10_method_9_code 94 = .ok (.lload_n 0, 1) := by decide +kernel
theorem own_d1_95 : decode prog_10_method_9_code 95 = .ok (.lconst 0, 1) := by decide +kernel
theorem own_d1_96 : decode prog_10_method_9_code 96 = .ok (.lcmp, 1) := by decide +kernel
theorem own_d1_97 : decode prog_10_method_9_code 97 = .ok (.ifCond .ge 8, 3) := by decide +kernel
theorem own_d1_100 : decode prog_10_method_9_code 100 = .ok (.aload_n 2, 1) := by decide +kernel
theorem own_d1_101 : decode prog_10_method_9_code 101 = .ok (.iload_n 3, 1) := by decide +kernel
theorem own_d1_102 : decode prog_10_method_9_code 102 = .ok (.bipush 45, 2) := by decide +kernel
theorem own_d1_104 : decode prog_10_method_9_code 104 = .ok (.bastore, 1) := by decide +kernel
theorem own_d1_105 : decode prog_10_method_9_code 105 = .ok (.iload_n 3, 1) := by decide +kernel
theorem own_d1_106 : decode prog_10_method_9_code 106 = .ok (.iload 6, 2) := by decide +kernel
theorem own_d1_108 : decode prog_10_method_9_code 108 = .ok (.iadd, 1) := by decide +kernel
theorem own_d1_109 : decode prog_10_method_9_code 109 = .ok (.ireturn, 1) := by decide +kernel
theorem own_pn0 : plainName "com/example/deltalog/deltalog/ColumnType" = true := by first | (simp [plainName, overriddenIn]; done) | decide +kernel
theorem own_ef1 (m : MethodId) (q0 : Int64) (o1 : Addr) (v3 : Int32) : entryFrame m #[(.long q0), (.ref o1), (.int v3)] 9 = mkF m 0 #[.val (.long q0), .second, .val (.ref o1), .val (.int v3), .unset, .unset, .unset, .unset, .unset] [] := by first | (simp [entryFrame, mkF, argsToLocals, Value.category]; done) | rfl
def own_Q1 (Z : State) (q0 : Int64) (o1 : Addr) (v3 : Int32) (kk : ClassId) (g : Nat → Int32) (h0 : Heap) (n0 : Nat) (v : Option Value) (h : Heap) (L : List Loc) : Prop := ∃ len : Int32, ∃ D : Nat, ∃ gg : Nat → Int32, v = some (.int (v3 + len)) ∧ Fr n0 L ∧ Keep h0 h [o1] ∧ Arv Z h o1 kk .byte (24 : Int32) (own_lstI 24 gg) (.int (0 : Int32)) ∧ (len.toInt = ((own_l0 q0 + D : Nat) : Int)) ∧ ((D = 0 ∨ 10 ^ D ≤ q0.toInt.natAbs) ∧ q0.toInt.natAbs < 10 ^ (D + 1)) ∧ (∀ y, gg y = own_out q0 D v3.toInt.toNat g y)
set_option maxRecDepth 65536 in
set_option maxHeartbeats 40000000 in
theorem own_rm1 (l : Launch) (Z : State) (a0 : Array Value) (hw : ∀ d ∈ tables_1, d.before a0 Z = true) (ws : List Jvm.Cond) (q0 : Int64) (o1 : Addr) (v3 : Int32) (kk : ClassId) (g : Nat → Int32) (h0 : Heap) (n0 : Nat) (Z0 : n0 ≤ h0.size) (pV1 : Arv Z h0 o1 kk .byte (24 : Int32) (own_lstI 24 g) (.int (0 : Int32))) (pG2 : n0 ≤ o1) (ha : 0 ≤ v3.toInt ∧ v3.toInt ≤ 3) :
    MetFree l (⟨"com/example/deltalog/deltalog/ColumnType", "writeInt", "(J[BI)I"⟩ : MethodName) (head1 (Jvm.Cond.code (⟨"com/example/deltalog/deltalog/ColumnType", "writeInt", "(J[BI)I"⟩ : MethodName) prog_10_method_9_code 9 (some .int) :: ws) ({ frames := 0, cells := 0, slots := 0, locals := 0 } : Room)) (fun a U => a = #[(.long q0), (.ref o1), (.int v3)] ∧ Z.Warmed39 U.vm ∧ U.heap = h0) (fun _ _ _ _ _ => True) (fun _ U o U' => ∃ v L, o = .returned v ∧ own_Q1 Z q0 o1 v3 kk g h0 n0 v U'.heap L ∧ FrameEnd U o U' L ({ frames := 0, cells := 0, slots := 0, locals := 0 } : Room).cells ({ frames := 0, cells := 0, slots := 0, locals := 0 } : Room).slots) := by
  refine MetFree.of_bodySF (plainFor_of_name own_pn0) hisR ?_
  intro p e s m args below meth c s₁ Bd hml0 hP hK
  obtain ⟨rfl, hZ, hh⟩ := hP
  have hx := Bd.exec
  have hby := Bd.bytes
  have hlk := Bd.notSynchronized
  have hrt := Bd.returns
  have hml : c.maxLocals = 9 := hml0
  have hown : s.vm.findClass "com/example/deltalog/deltalog/ColumnType" = some m.cls := findClass_of_methodNamed Bd.named
  have hnm := (name_of_methodNamed Bd.named Bd.method).1
  have X0 : Stand p l e ({ frames := 0, cells := 0, slots := 0, locals := 0 } : Room) s m #[(.long q0), (.ref o1), (.int v3)] below meth c s₁ [] 0 0 := Stand.of_body Bd
  have e0 : s₁.heap = h0 := by rw [← hh, Bd.state]; rfl
  have N0 := Fr.nil n0
  have KC0 := Keep.refl h0 [o1]
  refine own_in (own_ef1 m q0 o1 v3) ?_
  refine own_lloadN X0 hx 1 (hb hby own_d1_0) rfl ?_
  refine own_lconst X0 hx 2 (0 : Int64) (hb hby own_d1_1) rfl ?_
  refine own_lcmp X0 hx 3 (hb hby own_d1_2) ?_
  by_cases hc3_1 : q0 < (0 : Int64)
  · refine own_ifNo X0 hx 6 (hb hby own_d1_3) (tlt ((lw_lt _ _).mpr hc3_1)).2.1 ?_
    refine own_lloadN X0 hx 7 (hb hby own_d1_6) rfl ?_
    refine own_goto X0 hx 12 (hb hby own_d1_7) ?_
    refine own_lstore X0 hx 14 #[.val (.long q0), .second, .val (.ref o1), .val (.int v3), .val (.long q0), .second, .unset, .unset, .unset] (hb hby own_d1_12) rfl ?_
    refine own_lloadN X0 hx 15 (hb hby own_d1_14) rfl ?_
    refine own_lconst X0 hx 16 (0 : Int64) (hb hby own_d1_15) rfl ?_
    refine own_lcmp X0 hx 17 (hb hby own_d1_16) ?_
    refine own_ifNo X0 hx 20 (hb hby own_d1_17) (tlt ((lw_lt _ _).mpr hc3_1)).2.1 ?_
    refine own_iconst X0 hx 21 (2 : Int32) (hb hby own_d1_20) rfl ?_
    refine own_goto X0 hx 25 (hb hby own_d1_21) ?_
    refine own_istore X0 hx 27 #[.val (.long q0), .second, .val (.ref o1), .val (.int v3), .val (.long q0), .second, .val (.int (2 : Int32)), .unset, .unset] (hb hby own_d1_25) rfl ?_
    refine own_lload X0 hx 29 (hb hby own_d1_27) rfl ?_
    refine own_lstore X0 hx 31 #[.val (.long q0), .second, .val (.ref o1), .val (.int v3), .val (.long q0), .second, .val (.int (2 : Int32)), .val (.long q0), .second] (hb hby own_d1_29) rfl ?_
    have loop31_0 : ∀ (kk31_0 : Nat) (T31_0 : State) (ls31_0 : List Loc) (rr : Int64) (len : Int32) (j : Nat), (q0.toInt.natAbs / 10 ^ j = kk31_0) → (Stand p l e ({ frames := 0, cells := 0, slots := 0, locals := 0 } : Room) s m #[(.long q0), (.ref o1), (.int v3)] below meth c T31_0 ls31_0 0 0) → (T31_0.heap = h0) → (Fr n0 ls31_0) → (n0 ≤ h0.size) → (rr.toInt = -((q0.toInt.natAbs / 10 ^ j : Nat) : Int)) → (len.toInt = ((own_l0 q0 + j : Nat) : Int)) → (j = 0 ∨ 10 ^ j ≤ q0.toInt.natAbs) → own_Gs p e below (fun o U' => ∃ v L, o = .returned v ∧ own_Q1 Z q0 o1 v3 kk g h0 n0 v U'.heap L ∧ FrameEnd s o U' L ({ frames := 0, cells := 0, slots := 0, locals := 0 } : Room).cells ({ frames := 0, cells := 0, slots := 0, locals := 0 } : Room).slots) (T31_0.setTop (mkF m 31 #[.val (.long q0), .second, .val (.ref o1), .val (.int v3), .val (.long q0), .second, .val (.int len), .val (.long rr), .second] [])) := by
      intro kk31_0
      induction kk31_0 using Nat.strongRecOn with
      | _ kk31_0 ih31_0 =>
      intro T31_0 ls31_0 rr len j hmu31_0 X31_0 e31_0 N31_0 Z31_0 hr hl hj
      refine own_lload X31_0 hx 33 (hb hby own_d1_31) rfl ?_
      refine own_ldcL X31_0 hx 36 hown (mvT hZ (hw _ (List.mem_of_getElem? (i := 5) rfl))) (hb hby own_d1_33) ?_
      refine own_lcmp X31_0 hx 37 (hb hby own_d1_36) ?_
      by_cases hc37_2 : (-10 : Int64) < rr
      · refine own_ifYes X31_0 hx 54 (hb hby own_d1_37) (tlt ((lw_gt _ _).mpr hc37_2)).2.2.1 ?_
        have hlt := own_a6 hr hc37_2
        refine own_iloadN X31_0 hx 55 (hb hby own_d1_54) rfl ?_
        refine own_iload X31_0 hx 57 (hb hby own_d1_55) rfl ?_
        refine own_iadd X31_0 hx 58 (hb hby own_d1_57) ?_
        refine own_istore X31_0 hx 60 #[.val (.long q0), .second, .val (.ref o1), .val (.int v3), .val (.long q0), .second, .val (.int len), .val (.int (v3 + len)), .unset] (hb hby own_d1_58) rfl ?_
        have loop60_0 : ∀ (kk60_0 : Nat) (T60_0 : State) (h60_0 : Heap) (ls60_0 : List Loc) (mm : Int64) (pos : Int32) (gg : Nat → Int32) (i : Nat), (j - i = kk60_0) → (Stand p l e ({ frames := 0, cells := 0, slots := 0, locals := 0 } : Room) s m #[(.long q0), (.ref o1), (.int v3)] below meth c T60_0 ls60_0 0 0) → (T60_0.heap = h60_0) → (Fr n0 ls60_0) → (n0 ≤ h60_0.size) → (Keep h0 h60_0 [o1]) → (Arv Z h60_0 o1 kk .byte (24 : Int32) (own_lstI 24 gg) (.int (0 : Int32))) → (mm.toInt = -((q0.toInt.natAbs / 10 ^ i : Nat) : Int)) → (i ≤ j) → (pos.toInt = v3.toInt + len.toInt - (i : Int)) → (∀ y, gg y = own_part q0.toInt.natAbs (v3.toInt + len.toInt).toNat i g y) → own_Gs p e below (fun o U' => ∃ v L, o = .returned v ∧ own_Q1 Z q0 o1 v3 kk g h0 n0 v U'.heap L ∧ FrameEnd s o U' L ({ frames := 0, cells := 0, slots := 0, locals := 0 } : Room).cells ({ frames := 0, cells := 0, slots := 0, locals := 0 } : Room).slots) (T60_0.setTop (mkF m 60 #[.val (.long q0), .second, .val (.ref o1), .val (.int v3), .val (.long mm), .second, .val (.int len), .val (.int pos), .unset] [])) := by
          intro kk60_0
          induction kk60_0 using Nat.strongRecOn with
          | _ kk60_0 ih60_0 =>
          intro T60_0 h60_0 ls60_0 mm pos gg i hmu60_0 X60_0 e60_0 N60_0 Z60_0 K60_0 lf60_0_0 hm hi hp hg
          refine own_aloadN X60_0 hx 61 (hb hby own_d1_60) rfl rfl ?_
          refine own_iinc X60_0 hx 64 (-1 : Int32) #[.val (.long q0), .second, .val (.ref o1), .val (.int v3), .val (.long mm), .second, .val (.int len), .val (.int (pos + (-1 : Int32))), .unset] (hb hby own_d1_61) rfl rfl rfl ?_
          refine own_iload X60_0 hx 66 (hb hby own_d1_64) rfl ?_
          refine own_ldcL X60_0 hx 69 hown (mvT hZ (hw _ (List.mem_of_getElem? (i := 6) rfl))) (hb hby own_d1_66) ?_
          refine own_lload X60_0 hx 71 (hb hby own_d1_69) rfl ?_
          refine own_ldcL X60_0 hx 74 hown (mvT hZ (hw _ (List.mem_of_getElem? (i := 7) rfl))) (hb hby own_d1_71) ?_
          refine own_lrem X60_0 hx 75 (hb hby own_d1_74) (by decide) ?_
          refine own_lsub X60_0 hx 76 (hb hby own_d1_75) ?_
          refine own_l2i X60_0 hx 77 (hb hby own_d1_76) ?_
          refine own_i2b X60_0 hx 78 (hb hby own_d1_77) ?_
          obtain ⟨cl3, Ar3, qv3, S3, M3, H3, G3⟩ := id lf60_0_0
          have hin3 : ¬ ((pos + (-1 : Int32)) < 0 ∨ cl3.slots.size ≤ ((pos + (-1 : Int32))).toNatClampNeg) := inb_of S3 (own_b1 (own_na q0) ha (own_l2 q0) hj hl hi hp).2.2.2
          obtain ⟨T3, h3, X3, e3, W3, st3⟩ := stB X60_0 hx hZ e60_0 Ar3 (j := (pos + (-1 : Int32))) hin3 (g := (mkF m 78 #[.val (.long q0), .second, .val (.ref o1), .val (.int v3), .val (.long mm), .second, .val (.int len), .val (.int (pos + (-1 : Int32))), .unset] [(.int ((((48 : Int64) - (mm % (10 : Int64))).toInt32).toInt8.toInt32)), (.int (pos + (-1 : Int32))), (.ref o1)])) rfl rfl (hb hby own_d1_78)
          have V3 := Arv.set Ar3 qv3 S3 M3 H3 G3 (fits_nar_byte _) W3 ((pos + (-1 : Int32))).toNatClampNeg rfl (by rw [own_lstI_len]; exact (own_b1 (own_na q0) ha (own_l2 q0) hj hl hi hp).2.2.1)
          rw [own_lstI_set] at V3
          have N3 := Fr.snoc X3 N60_0 pG2
          have KC4 := K60_0.wr W3 (Or.inl (List.mem_of_getElem? (i := 0) rfl))
          have Z5 := Nat.le_trans Z60_0 (Nat.le_of_eq W3.size.symm)
          refine own_st (G' := T3.setTop (mkF m 79 #[.val (.long q0), .second, .val (.ref o1), .val (.int v3), .val (.long mm), .second, .val (.int len), .val (.int (pos + (-1 : Int32))), .unset] [])) st3 ?_
          obtain ⟨_, X3h, N3h⟩ := own_hide X3 N3
          refine own_lload X3h hx 81 (hb hby own_d1_79) rfl ?_
          refine own_ldcL X3h hx 84 hown (mvT hZ (hw _ (List.mem_of_getElem? (i := 7) rfl))) (hb hby own_d1_81) ?_
          refine own_ldiv X3h hx 85 (hb hby own_d1_84) (by decide) ?_
          refine own_lstore X3h hx 87 #[.val (.long q0), .second, .val (.ref o1), .val (.int v3), .val (.long (mm / (10 : Int64))), .second, .val (.int len), .val (.int (pos + (-1 : Int32))), .unset] (hb hby own_d1_85) rfl ?_
          refine own_lload X3h hx 89 (hb hby own_d1_87) rfl ?_
          refine own_lconst X3h hx 90 (0 : Int64) (hb hby own_d1_89) rfl ?_
          refine own_lcmp X3h hx 91 (hb hby own_d1_90) ?_
          by_cases hc91_6 : (mm / (10 : Int64)) = (0 : Int64)
          · refine own_ifNo X3h hx 94 (hb hby own_d1_91) (teq ((lw_eq _ _).mpr hc91_6)).2 ?_
            have hij : i = j := own_b5 hm hi hj hc91_6
            have hg2 := own_b3 (own_iE ha (own_l2 q0) hl hi) hg (own_b1 (own_na q0) ha (own_l2 q0) hj hl hi hp).2.1 (own_b2 hm)
            rw [hij] at hg2
            refine own_lloadN X3h hx 95 (hb hby own_d1_94) rfl ?_
            refine own_lconst X3h hx 96 (0 : Int64) (hb hby own_d1_95) rfl ?_
            refine own_lcmp X3h hx 97 (hb hby own_d1_96) ?_
            refine own_ifNo X3h hx 100 (hb hby own_d1_97) (tlt ((lw_lt _ _).mpr hc3_1)).2.1 ?_
            refine own_aloadN X3h hx 101 (hb hby own_d1_100) rfl rfl ?_
            refine own_iloadN X3h hx 102 (hb hby own_d1_101) rfl ?_
            refine own_bipush X3h hx 104 (45 : Int32) (hb hby own_d1_102) rfl ?_
            obtain ⟨cl7, Ar7, qv7, S7, M7, H7, G7⟩ := id V3
            have hin7 : ¬ (v3 < 0 ∨ cl7.slots.size ≤ (v3).toNatClampNeg) := inb_of S7 (own_ain ha).1
            obtain ⟨T7, h7, X7, e7, W7, st7⟩ := stB X3h hx hZ e3 Ar7 (j := v3) hin7 (g := (mkF m 104 #[.val (.long q0), .second, .val (.ref o1), .val (.int v3), .val (.long (mm / (10 : Int64))), .second, .val (.int len), .val (.int (pos + (-1 : Int32))), .unset] [(.int (45 : Int32)), (.int v3), (.ref o1)])) rfl rfl (hb hby own_d1_104)
            have V7 := Arv.set Ar7 qv7 S7 M7 H7 G7 (fits_nar_byte _) W7 (v3).toNatClampNeg rfl (by rw [own_lstI_len]; exact (own_ain ha).2)
            rw [own_lstI_set] at V7
            have N7 := Fr.snoc X7 N3h pG2
            have KC8 := KC4.wr W7 (Or.inl (List.mem_of_getElem? (i := 0) rfl))
            have Z9 := Nat.le_trans Z5 (Nat.le_of_eq W7.size.symm)
            refine own_st (G' := T7.setTop (mkF m 105 #[.val (.long q0), .second, .val (.ref o1), .val (.int v3), .val (.long (mm / (10 : Int64))), .second, .val (.int len), .val (.int (pos + (-1 : Int32))), .unset] [])) st7 ?_
            obtain ⟨_, X7h, N7h⟩ := own_hide X7 N7
            refine own_iloadN X7h hx 106 (hb hby own_d1_105) rfl ?_
            refine own_iload X7h hx 108 (hb hby own_d1_106) rfl ?_
            refine own_iadd X7h hx 109 (hb hby own_d1_108) ?_
            exact own_retI (z := (v3 + len)) (Q := own_Q1 Z q0 o1 v3 kk g h0 n0) X7h hx hrt (hb hby own_d1_109) hlk e7 ⟨len, j, (fun i => if i = (v3).toNatClampNeg then (nar .byte (45 : Int32)) else (fun i => if i = ((pos + (-1 : Int32))).toNatClampNeg then (nar .byte ((((48 : Int64) - (mm % (10 : Int64))).toInt32).toInt8.toInt32)) else gg i) i), rfl, N7h, KC8, V7, hl, ⟨hj, hlt⟩, own_c2 ha hc3_1 hl hg2⟩ (by decide) (by decide)
          · refine own_ifYes X3h hx 60 (hb hby own_d1_91) (feq (mt (lw_eq _ _).mp hc91_6)).2 ?_
            exact ih60_0 _ (by rw [← hmu60_0]; exact own_dec (own_b4 hm hlt hc91_6)) T3 h3 _ (mm / (10 : Int64)) (pos + (-1 : Int32)) (fun i => if i = ((pos + (-1 : Int32))).toNatClampNeg then (nar .byte ((((48 : Int64) - (mm % (10 : Int64))).toInt32).toInt8.toInt32)) else gg i) (i + 1) rfl X3h e3 N3h Z5 KC4 V3 (own_a1 hm : (mm / (10 : Int64)).toInt = -((q0.toInt.natAbs / 10 ^ (i + 1) : Nat) : Int)) (own_b4 hm hlt hc91_6 : (i + 1) ≤ j) ((own_b1 (own_na q0) ha (own_l2 q0) hj hl hi hp).1 : (pos + (-1 : Int32)).toInt = v3.toInt + len.toInt - ((i + 1) : Int)) (own_b3 (own_iE ha (own_l2 q0) hl hi) hg (own_b1 (own_na q0) ha (own_l2 q0) hj hl hi hp).2.1 (own_b2 hm) : ∀ y, (fun i => if i = ((pos + (-1 : Int32))).toNatClampNeg then (nar .byte ((((48 : Int64) - (mm % (10 : Int64))).toInt32).toInt8.toInt32)) else gg i) y = own_part q0.toInt.natAbs (v3.toInt + len.toInt).toNat (i + 1) g y)
        exact loop60_0 _ T31_0 h0 _ q0 (v3 + len) g 0 rfl X31_0 e31_0 N31_0 Z31_0 KC0 pV1 (by rw [Nat.pow_zero, Nat.div_one]; exact own_neg0 hc3_1 : q0.toInt = -((q0.toInt.natAbs / 10 ^ 0 : Nat) : Int)) (Nat.zero_le _ : 0 ≤ j) (own_p0 (own_na q0) ha (own_l2 q0) hj hl : (v3 + len).toInt = v3.toInt + len.toInt - (0 : Int)) (own_part0 _ _ _ : ∀ y, g y = own_part q0.toInt.natAbs (v3.toInt + len.toInt).toNat 0 g y)
      · refine own_ifNo X31_0 hx 40 (hb hby own_d1_37) (flt (mt (lw_gt _ _).mp hc37_2)).2.2.1 ?_
        refine own_iinc X31_0 hx 43 (1 : Int32) #[.val (.long q0), .second, .val (.ref o1), .val (.int v3), .val (.long q0), .second, .val (.int (len + (1 : Int32))), .val (.long rr), .second] (hb hby own_d1_40) rfl rfl rfl ?_
        refine own_lload X31_0 hx 45 (hb hby own_d1_43) rfl ?_
        refine own_ldcL X31_0 hx 48 hown (mvT hZ (hw _ (List.mem_of_getElem? (i := 7) rfl))) (hb hby own_d1_45) ?_
        refine own_ldiv X31_0 hx 49 (hb hby own_d1_48) (by decide) ?_
        refine own_lstore X31_0 hx 51 #[.val (.long q0), .second, .val (.ref o1), .val (.int v3), .val (.long q0), .second, .val (.int (len + (1 : Int32))), .val (.long (rr / (10 : Int64))), .second] (hb hby own_d1_49) rfl ?_
        refine own_goto X31_0 hx 31 (hb hby own_d1_51) ?_
        exact ih31_0 _ (by rw [← hmu31_0]; exact own_a3 (own_a2 hr hc37_2)) T31_0 _ (rr / (10 : Int64)) (len + (1 : Int32)) (j + 1) rfl X31_0 e31_0 N31_0 Z31_0 (own_a1 hr : (rr / (10 : Int64)).toInt = -((q0.toInt.natAbs / 10 ^ (j + 1) : Nat) : Int)) (own_a5 (own_na q0) (own_l2 q0).1 hj hl : (len + (1 : Int32)).toInt = ((own_l0 q0 + (j + 1) : Nat) : Int)) (own_a4 (own_a2 hr hc37_2) : (j + 1) = 0 ∨ 10 ^ (j + 1) ≤ q0.toInt.natAbs)
    exact loop31_0 _ s₁ _ q0 (2 : Int32) 0 rfl X0 e0 N0 Z0 (by rw [Nat.pow_zero, Nat.div_one]; exact own_neg0 hc3_1 : q0.toInt = -((q0.toInt.natAbs / 10 ^ 0 : Nat) : Int)) (by rw [own_l0, if_pos hc3_1]; rfl : (2 : Int32).toInt = ((own_l0 q0 + 0 : Nat) : Int)) (Or.inl rfl : 0 = 0 ∨ 10 ^ 0 ≤ q0.toInt.natAbs)
  · refine own_ifYes X0 hx 10 (hb hby own_d1_3) (flt (mt (lw_lt _ _).mp hc3_1)).2.1 ?_
    refine own_lloadN X0 hx 11 (hb hby own_d1_10) rfl ?_
    refine own_lneg X0 hx 12 (hb hby own_d1_11) ?_
    refine own_lstore X0 hx 14 #[.val (.long q0), .second, .val (.ref o1), .val (.int v3), .val (.long (-q0)), .second, .unset, .unset, .unset] (hb hby own_d1_12) rfl ?_
    refine own_lloadN X0 hx 15 (hb hby own_d1_14) rfl ?_
    refine own_lconst X0 hx 16 (0 : Int64) (hb hby own_d1_15) rfl ?_
    refine own_lcmp X0 hx 17 (hb hby own_d1_16) ?_
    refine own_ifYes X0 hx 24 (hb hby own_d1_17) (flt (mt (lw_lt _ _).mp hc3_1)).2.1 ?_
    refine own_iconst X0 hx 25 (1 : Int32) (hb hby own_d1_24) rfl ?_
    refine own_istore X0 hx 27 #[.val (.long q0), .second, .val (.ref o1), .val (.int v3), .val (.long (-q0)), .second, .val (.int (1 : Int32)), .unset, .unset] (hb hby own_d1_25) rfl ?_
    refine own_lload X0 hx 29 (hb hby own_d1_27) rfl ?_
    refine own_lstore X0 hx 31 #[.val (.long q0), .second, .val (.ref o1), .val (.int v3), .val (.long (-q0)), .second, .val (.int (1 : Int32)), .val (.long (-q0)), .second] (hb hby own_d1_29) rfl ?_
    have loop31_0 : ∀ (kk31_0 : Nat) (T31_0 : State) (ls31_0 : List Loc) (rr : Int64) (len : Int32) (j : Nat), (q0.toInt.natAbs / 10 ^ j = kk31_0) → (Stand p l e ({ frames := 0, cells := 0, slots := 0, locals := 0 } : Room) s m #[(.long q0), (.ref o1), (.int v3)] below meth c T31_0 ls31_0 0 0) → (T31_0.heap = h0) → (Fr n0 ls31_0) → (n0 ≤ h0.size) → (rr.toInt = -((q0.toInt.natAbs / 10 ^ j : Nat) : Int)) → (len.toInt = ((own_l0 q0 + j : Nat) : Int)) → (j = 0 ∨ 10 ^ j ≤ q0.toInt.natAbs) → own_Gs p e below (fun o U' => ∃ v L, o = .returned v ∧ own_Q1 Z q0 o1 v3 kk g h0 n0 v U'.heap L ∧ FrameEnd s o U' L ({ frames := 0, cells := 0, slots := 0, locals := 0 } : Room).cells ({ frames := 0, cells := 0, slots := 0, locals := 0 } : Room).slots) (T31_0.setTop (mkF m 31 #[.val (.long q0), .second, .val (.ref o1), .val (.int v3), .val (.long (-q0)), .second, .val (.int len), .val (.long rr), .second] [])) := by
      intro kk31_0
      induction kk31_0 using Nat.strongRecOn with
      | _ kk31_0 ih31_0 =>
      intro T31_0 ls31_0 rr len j hmu31_0 X31_0 e31_0 N31_0 Z31_0 hr hl hj
      refine own_lload X31_0 hx 33 (hb hby own_d1_31) rfl ?_
      refine own_ldcL X31_0 hx 36 hown (mvT hZ (hw _ (List.mem_of_getElem? (i := 5) rfl))) (hb hby own_d1_33) ?_
      refine own_lcmp X31_0 hx 37 (hb hby own_d1_36) ?_
      by_cases hc37_10 : (-10 : Int64) < rr
      · refine own_ifYes X31_0 hx 54 (hb hby own_d1_37) (tlt ((lw_gt _ _).mpr hc37_10)).2.2.1 ?_
        have hlt := own_a6 hr hc37_10
        refine own_iloadN X31_0 hx 55 (hb hby own_d1_54) rfl ?_
        refine own_iload X31_0 hx 57 (hb hby own_d1_55) rfl ?_
        refine own_iadd X31_0 hx 58 (hb hby own_d1_57) ?_
        refine own_istore X31_0 hx 60 #[.val (.long q0), .second, .val (.ref o1), .val (.int v3), .val (.long (-q0)), .second, .val (.int len), .val (.int (v3 + len)), .unset] (hb hby own_d1_58) rfl ?_
        have loop60_0 : ∀ (kk60_0 : Nat) (T60_0 : State) (h60_0 : Heap) (ls60_0 : List Loc) (mm : Int64) (pos : Int32) (gg : Nat → Int32) (i : Nat), (j - i = kk60_0) → (Stand p l e ({ frames := 0, cells := 0, slots := 0, locals := 0 } : Room) s m #[(.long q0), (.ref o1), (.int v3)] below meth c T60_0 ls60_0 0 0) → (T60_0.heap = h60_0) → (Fr n0 ls60_0) → (n0 ≤ h60_0.size) → (Keep h0 h60_0 [o1]) → (Arv Z h60_0 o1 kk .byte (24 : Int32) (own_lstI 24 gg) (.int (0 : Int32))) → (mm.toInt = -((q0.toInt.natAbs / 10 ^ i : Nat) : Int)) → (i ≤ j) → (pos.toInt = v3.toInt + len.toInt - (i : Int)) → (∀ y, gg y = own_part q0.toInt.natAbs (v3.toInt + len.toInt).toNat i g y) → own_Gs p e below (fun o U' => ∃ v L, o = .returned v ∧ own_Q1 Z q0 o1 v3 kk g h0 n0 v U'.heap L ∧ FrameEnd s o U' L ({ frames := 0, cells := 0, slots := 0, locals := 0 } : Room).cells ({ frames := 0, cells := 0, slots := 0, locals := 0 } : Room).slots) (T60_0.setTop (mkF m 60 #[.val (.long q0), .second, .val (.ref o1), .val (.int v3), .val (.long mm), .second, .val (.int len), .val (.int pos), .unset] [])) := by
          intro kk60_0
          induction kk60_0 using Nat.strongRecOn with
          | _ kk60_0 ih60_0 =>
          intro T60_0 h60_0 ls60_0 mm pos gg i hmu60_0 X60_0 e60_0 N60_0 Z60_0 K60_0 lf60_0_0 hm hi hp hg
          refine own_aloadN X60_0 hx 61 (hb hby own_d1_60) rfl rfl ?_
          refine own_iinc X60_0 hx 64 (-1 : Int32) #[.val (.long q0), .second, .val (.ref o1), .val (.int v3), .val (.long mm), .second, .val (.int len), .val (.int (pos + (-1 : Int32))), .unset] (hb hby own_d1_61) rfl rfl rfl ?_
          refine own_iload X60_0 hx 66 (hb hby own_d1_64) rfl ?_
          refine own_ldcL X60_0 hx 69 hown (mvT hZ (hw _ (List.mem_of_getElem? (i := 6) rfl))) (hb hby own_d1_66) ?_
          refine own_lload X60_0 hx 71 (hb hby own_d1_69) rfl ?_
          refine own_ldcL X60_0 hx 74 hown (mvT hZ (hw _ (List.mem_of_getElem? (i := 7) rfl))) (hb hby own_d1_71) ?_
          refine own_lrem X60_0 hx 75 (hb hby own_d1_74) (by decide) ?_
          refine own_lsub X60_0 hx 76 (hb hby own_d1_75) ?_
          refine own_l2i X60_0 hx 77 (hb hby own_d1_76) ?_
          refine own_i2b X60_0 hx 78 (hb hby own_d1_77) ?_
          obtain ⟨cl11, Ar11, qv11, S11, M11, H11, G11⟩ := id lf60_0_0
          have hin11 : ¬ ((pos + (-1 : Int32)) < 0 ∨ cl11.slots.size ≤ ((pos + (-1 : Int32))).toNatClampNeg) := inb_of S11 (own_b1 (own_na q0) ha (own_l2 q0) hj hl hi hp).2.2.2
          obtain ⟨T11, h11, X11, e11, W11, st11⟩ := stB X60_0 hx hZ e60_0 Ar11 (j := (pos + (-1 : Int32))) hin11 (g := (mkF m 78 #[.val (.long q0), .second, .val (.ref o1), .val (.int v3), .val (.long mm), .second, .val (.int len), .val (.int (pos + (-1 : Int32))), .unset] [(.int ((((48 : Int64) - (mm % (10 : Int64))).toInt32).toInt8.toInt32)), (.int (pos + (-1 : Int32))), (.ref o1)])) rfl rfl (hb hby own_d1_78)
          have V11 := Arv.set Ar11 qv11 S11 M11 H11 G11 (fits_nar_byte _) W11 ((pos + (-1 : Int32))).toNatClampNeg rfl (by rw [own_lstI_len]; exact (own_b1 (own_na q0) ha (own_l2 q0) hj hl hi hp).2.2.1)
          rw [own_lstI_set] at V11
          have N11 := Fr.snoc X11 N60_0 pG2
          have KC12 := K60_0.wr W11 (Or.inl (List.mem_of_getElem? (i := 0) rfl))
          have Z13 := Nat.le_trans Z60_0 (Nat.le_of_eq W11.size.symm)
          refine own_st (G' := T11.setTop (mkF m 79 #[.val (.long q0), .second, .val (.ref o1), .val (.int v3), .val (.long mm), .second, .val (.int len), .val (.int (pos + (-1 : Int32))), .unset] [])) st11 ?_
          obtain ⟨_, X11h, N11h⟩ := own_hide X11 N11
          refine own_lload X11h hx 81 (hb hby own_d1_79) rfl ?_
          refine own_ldcL X11h hx 84 hown (mvT hZ (hw _ (List.mem_of_getElem? (i := 7) rfl))) (hb hby own_d1_81) ?_
          refine own_ldiv X11h hx 85 (hb hby own_d1_84) (by decide) ?_
          refine own_lstore X11h hx 87 #[.val (.long q0), .second, .val (.ref o1), .val (.int v3), .val (.long (mm / (10 : Int64))), .second, .val (.int len), .val (.int (pos + (-1 : Int32))), .unset] (hb hby own_d1_85) rfl ?_
          refine own_lload X11h hx 89 (hb hby own_d1_87) rfl ?_
          refine own_lconst X11h hx 90 (0 : Int64) (hb hby own_d1_89) rfl ?_
          refine own_lcmp X11h hx 91 (hb hby own_d1_90) ?_
          by_cases hc91_14 : (mm / (10 : Int64)) = (0 : Int64)
          · refine own_ifNo X11h hx 94 (hb hby own_d1_91) (teq ((lw_eq _ _).mpr hc91_14)).2 ?_
            have hij : i = j := own_b5 hm hi hj hc91_14
            have hg2 := own_b3 (own_iE ha (own_l2 q0) hl hi) hg (own_b1 (own_na q0) ha (own_l2 q0) hj hl hi hp).2.1 (own_b2 hm)
            rw [hij] at hg2
            refine own_lloadN X11h hx 95 (hb hby own_d1_94) rfl ?_
            refine own_lconst X11h hx 96 (0 : Int64) (hb hby own_d1_95) rfl ?_
            refine own_lcmp X11h hx 97 (hb hby own_d1_96) ?_
            refine own_ifYes X11h hx 105 (hb hby own_d1_97) (flt (mt (lw_lt _ _).mp hc3_1)).2.1 ?_
            refine own_iloadN X11h hx 106 (hb hby own_d1_105) rfl ?_
            refine own_iload X11h hx 108 (hb hby own_d1_106) rfl ?_
            refine own_iadd X11h hx 109 (hb hby own_d1_108) ?_
            exact own_retI (z := (v3 + len)) (Q := own_Q1 Z q0 o1 v3 kk g h0 n0) X11h hx hrt (hb hby own_d1_109) hlk e11 ⟨len, j, (fun i => if i = ((pos + (-1 : Int32))).toNatClampNeg then (nar .byte ((((48 : Int64) - (mm % (10 : Int64))).toInt32).toInt8.toInt32)) else gg i), rfl, N11h, KC12, V11, hl, ⟨hj, hlt⟩, own_c1 ha hc3_1 hl hg2⟩ (by decide) (by decide)
          · refine own_ifYes X11h hx 60 (hb hby own_d1_91) (feq (mt (lw_eq _ _).mp hc91_14)).2 ?_
            exact ih60_0 _ (by rw [← hmu60_0]; exact own_dec (own_b4 hm hlt hc91_14)) T11 h11 _ (mm / (10 : Int64)) (pos + (-1 : Int32)) (fun i => if i = ((pos + (-1 : Int32))).toNatClampNeg then (nar .byte ((((48 : Int64) - (mm % (10 : Int64))).toInt32).toInt8.toInt32)) else gg i) (i + 1) rfl X11h e11 N11h Z13 KC12 V11 (own_a1 hm : (mm / (10 : Int64)).toInt = -((q0.toInt.natAbs / 10 ^ (i + 1) : Nat) : Int)) (own_b4 hm hlt hc91_14 : (i + 1) ≤ j) ((own_b1 (own_na q0) ha (own_l2 q0) hj hl hi hp).1 : (pos + (-1 : Int32)).toInt = v3.toInt + len.toInt - ((i + 1) : Int)) (own_b3 (own_iE ha (own_l2 q0) hl hi) hg (own_b1 (own_na q0) ha (own_l2 q0) hj hl hi hp).2.1 (own_b2 hm) : ∀ y, (fun i => if i = ((pos + (-1 : Int32))).toNatClampNeg then (nar .byte ((((48 : Int64) - (mm % (10 : Int64))).toInt32).toInt8.toInt32)) else gg i) y = own_part q0.toInt.natAbs (v3.toInt + len.toInt).toNat (i + 1) g y)
        exact loop60_0 _ T31_0 h0 _ (-q0) (v3 + len) g 0 rfl X31_0 e31_0 N31_0 Z31_0 KC0 pV1 (by rw [Nat.pow_zero, Nat.div_one]; exact own_neg1 hc3_1 : (-q0).toInt = -((q0.toInt.natAbs / 10 ^ 0 : Nat) : Int)) (Nat.zero_le _ : 0 ≤ j) (own_p0 (own_na q0) ha (own_l2 q0) hj hl : (v3 + len).toInt = v3.toInt + len.toInt - (0 : Int)) (own_part0 _ _ _ : ∀ y, g y = own_part q0.toInt.natAbs (v3.toInt + len.toInt).toNat 0 g y)
      · refine own_ifNo X31_0 hx 40 (hb hby own_d1_37) (flt (mt (lw_gt _ _).mp hc37_10)).2.2.1 ?_
        refine own_iinc X31_0 hx 43 (1 : Int32) #[.val (.long q0), .second, .val (.ref o1), .val (.int v3), .val (.long (-q0)), .second, .val (.int (len + (1 : Int32))), .val (.long rr), .second] (hb hby own_d1_40) rfl rfl rfl ?_
        refine own_lload X31_0 hx 45 (hb hby own_d1_43) rfl ?_
        refine own_ldcL X31_0 hx 48 hown (mvT hZ (hw _ (List.mem_of_getElem? (i := 7) rfl))) (hb hby own_d1_45) ?_
        refine own_ldiv X31_0 hx 49 (hb hby own_d1_48) (by decide) ?_
        refine own_lstore X31_0 hx 51 #[.val (.long q0), .second, .val (.ref o1), .val (.int v3), .val (.long (-q0)), .second, .val (.int (len + (1 : Int32))), .val (.long (rr / (10 : Int64))), .second] (hb hby own_d1_49) rfl ?_
        refine own_goto X31_0 hx 31 (hb hby own_d1_51) ?_
        exact ih31_0 _ (by rw [← hmu31_0]; exact own_a3 (own_a2 hr hc37_10)) T31_0 _ (rr / (10 : Int64)) (len + (1 : Int32)) (j + 1) rfl X31_0 e31_0 N31_0 Z31_0 (own_a1 hr : (rr / (10 : Int64)).toInt = -((q0.toInt.natAbs / 10 ^ (j + 1) : Nat) : Int)) (own_a5 (own_na q0) (own_l2 q0).1 hj hl : (len + (1 : Int32)).toInt = ((own_l0 q0 + (j + 1) : Nat) : Int)) (own_a4 (own_a2 hr hc37_10) : (j + 1) = 0 ∨ 10 ^ (j + 1) ≤ q0.toInt.natAbs)
    exact loop31_0 _ s₁ _ (-q0) (1 : Int32) 0 rfl X0 e0 N0 Z0 (by rw [Nat.pow_zero, Nat.div_one]; exact own_neg1 hc3_1 : (-q0).toInt = -((q0.toInt.natAbs / 10 ^ 0 : Nat) : Int)) (by rw [own_l0, if_neg hc3_1]; rfl : (1 : Int32).toInt = ((own_l0 q0 + 0 : Nat) : Int)) (Or.inl rfl : 0 = 0 ∨ 10 ^ 0 ≤ q0.toInt.natAbs)
theorem own_d2_0 : decode method_2_code 0 = .ok (.iload_n 1, 1) := by decide +kernel
theorem own_d2_1 : decode method_2_code 1 = .ok (.iload_n 2, 1) := by decide +kernel
theorem own_d2_2 : decode method_2_code 2 = .ok (.if_icmp .lt 8, 3) := by decide +kernel
theorem own_d2_5 : decode method_2_code 5 = .ok (.iload_n 1, 1) := by decide +kernel
theorem own_d2_6 : decode method_2_code 6 = .ok (.iload_n 3, 1) := by decide +kernel
theorem own_d2_7 : decode method_2_code 7 = .ok (.if_icmp .lt 11, 3) := by decide +kernel
theorem own_d2_10 : decode method_2_code 10 = .ok (.aload_n 0, 1) := by decide +kernel
theorem own_d2_11 : decode method_2_code 11 = .ok (.iload_n 1, 1) := by decide +kernel
theorem own_d2_12 : decode method_2_code 12 = .ok (.baload, 1) := by decide +kernel
theorem own_d2_13 : decode method_2_code 13 = .ok (.iload 4, 2) := by decide +kernel
theorem own_d2_15 : decode method_2_code 15 = .ok (.if_icmp .ne 7, 3) := by decide +kernel
theorem own_d2_18 : decode method_2_code 18 = .ok (.iconst 1, 1) := by decide +kernel
theorem own_d2_19 : decode method_2_code 19 = .ok (.goto 4, 3) := by decide +kernel
theorem own_d2_23 : decode method_2_code 23 = .ok (.ireturn, 1) := by decide +kernel
theorem own_pn1 : plainName "com/example/deltalog/deltalog/ColumnTypeWriteIntPinLaw" = true := by first | (simp [plainName, overriddenIn]; done) | decide +kernel
theorem own_ef2 (m : MethodId) (o1 : Addr) (v1 : Int32) (v2 : Int32) (v3 : Int32) (v4 : Int32) : entryFrame m #[(.ref o1), (.int v1), (.int v2), (.int v3), (.int v4)] 5 = mkF m 0 #[.val (.ref o1), .val (.int v1), .val (.int v2), .val (.int v3), .val (.int v4)] [] := by first | (simp [entryFrame, mkF, argsToLocals, Value.category]; done) | rfl
def own_Q2 (Z : State) (o1 : Addr) (v1 : Int32) (v2 : Int32) (v3 : Int32) (v4 : Int32) (kk : ClassId) (g : Nat → Int32) (h0 : Heap) (n0 : Nat) (v : Option Value) (h : Heap) (L : List Loc) : Prop := v = some (.int (1 : Int32)) ∧ Fr n0 L ∧ h = h0
set_option maxRecDepth 65536 in
set_option maxHeartbeats 40000000 in
theorem own_rm2 (l : Launch) (Z : State) (a0 : Array Value) (hw : ∀ d ∈ tables_1, d.before a0 Z = true) (ws : List Jvm.Cond) (o1 : Addr) (v1 : Int32) (v2 : Int32) (v3 : Int32) (v4 : Int32) (kk : ClassId) (g : Nat → Int32) (h0 : Heap) (n0 : Nat) (Z0 : n0 ≤ h0.size) (pV1 : Arv Z h0 o1 kk .byte (24 : Int32) (own_lstI 24 g) (.int (0 : Int32))) (hbd : (¬ v1 < 0 ∧ v1 < (24 : Int32)) ∧ v1.toNatClampNeg < 24) (hk : v1 < v2 ∨ ¬ (v1 < v3) → g v1.toNatClampNeg = v4) :
    MetFree l (⟨"com/example/deltalog/deltalog/ColumnTypeWriteIntPinLaw", "kept", "([BIIIB)Z"⟩ : MethodName) (head1 (Jvm.Cond.code (⟨"com/example/deltalog/deltalog/ColumnTypeWriteIntPinLaw", "kept", "([BIIIB)Z"⟩ : MethodName) method_2_code 5 (some .boolean) :: ws) ({ frames := 0, cells := 0, slots := 0, locals := 0 } : Room)) (fun a U => a = #[(.ref o1), (.int v1), (.int v2), (.int v3), (.int v4)] ∧ Z.Warmed39 U.vm ∧ U.heap = h0) (fun _ _ _ _ _ => True) (fun _ U o U' => ∃ v L, o = .returned v ∧ own_Q2 Z o1 v1 v2 v3 v4 kk g h0 n0 v U'.heap L ∧ FrameEnd U o U' L ({ frames := 0, cells := 0, slots := 0, locals := 0 } : Room).cells ({ frames := 0, cells := 0, slots := 0, locals := 0 } : Room).slots) := by
  refine MetFree.of_bodySF (plainFor_of_name own_pn1) hisR ?_
  intro p e s m args below meth c s₁ Bd hml0 hP hK
  obtain ⟨rfl, hZ, hh⟩ := hP
  have hx := Bd.exec
  have hby := Bd.bytes
  have hlk := Bd.notSynchronized
  have hrt := Bd.returns
  have hml : c.maxLocals = 5 := hml0
  have hown : s.vm.findClass "com/example/deltalog/deltalog/ColumnTypeWriteIntPinLaw" = some m.cls := findClass_of_methodNamed Bd.named
  have hnm := (name_of_methodNamed Bd.named Bd.method).1
  have X0 : Stand p l e ({ frames := 0, cells := 0, slots := 0, locals := 0 } : Room) s m #[(.ref o1), (.int v1), (.int v2), (.int v3), (.int v4)] below meth c s₁ [] 0 0 := Stand.of_body Bd
  have e0 : s₁.heap = h0 := by rw [← hh, Bd.state]; rfl
  have N0 := Fr.nil n0
  refine own_in (own_ef2 m o1 v1 v2 v3 v4) ?_
  refine own_iloadN X0 hx 1 (hb hby own_d2_0) rfl ?_
  refine own_iloadN X0 hx 2 (hb hby own_d2_1) rfl ?_
  by_cases hc2_1 : v1 < v2
  · refine own_icmpYes X0 hx 10 (hb hby own_d2_2) (tlt hc2_1).1 ?_
    refine own_aloadN X0 hx 11 (hb hby own_d2_10) rfl rfl ?_
    refine own_iloadN X0 hx 12 (hb hby own_d2_11) rfl ?_
    obtain ⟨cl2, Ar2, qv2, S2, M2, H2, G2⟩ := id pV1
    have hin2 : ¬ (v1 < 0 ∨ cl2.slots.size ≤ (v1).toNatClampNeg) := inb_of S2 hbd.1
    refine own_st (G' := s₁.setTop (mkF m 13 #[.val (.ref o1), .val (.int v1), .val (.int v2), .val (.int v3), .val (.int v4)] [(.int (g v1.toNatClampNeg))])) (fun t k => X0.baloadBytes hx (j := v1) (v := (.int (g v1.toNatClampNeg))) (by rw [e0]; exact Ar2.1) (State.isArrayOf_alike hZ.alike Ar2.2.1) Ar2.2.2 hin2 (H2.at hin2 (own_lstI_get hbd.2)) (g := (mkF m 12 #[.val (.ref o1), .val (.int v1), .val (.int v2), .val (.int v3), .val (.int v4)] [(.int v1), (.ref o1)])) rfl rfl (hb hby own_d2_12) _ k) ?_
    refine own_iload X0 hx 15 (hb hby own_d2_13) rfl ?_
    refine own_icmpNo X0 hx 18 (hb hby own_d2_15) (teq (hk (Or.inl hc2_1) : (g v1.toNatClampNeg) = v4)).2 ?_
    refine own_iconst X0 hx 19 (1 : Int32) (hb hby own_d2_18) rfl ?_
    refine own_goto X0 hx 23 (hb hby own_d2_19) ?_
    exact own_retN (t := .boolean) (z := (1 : Int32)) (Q := own_Q2 Z o1 v1 v2 v3 v4 kk g h0 n0) X0 hx hrt (by simp) (hb hby own_d2_23) hlk e0 ⟨rfl, N0, rfl⟩ (by decide) (by decide)
  · refine own_icmpNo X0 hx 5 (hb hby own_d2_2) (flt hc2_1).1 ?_
    refine own_iloadN X0 hx 6 (hb hby own_d2_5) rfl ?_
    refine own_iloadN X0 hx 7 (hb hby own_d2_6) rfl ?_
    by_cases hc7_3 : v1 < v3
    · refine own_icmpYes X0 hx 18 (hb hby own_d2_7) (tlt hc7_3).1 ?_
      refine own_iconst X0 hx 19 (1 : Int32) (hb hby own_d2_18) rfl ?_
      refine own_goto X0 hx 23 (hb hby own_d2_19) ?_
      exact own_retN (t := .boolean) (z := (1 : Int32)) (Q := own_Q2 Z o1 v1 v2 v3 v4 kk g h0 n0) X0 hx hrt (by simp) (hb hby own_d2_23) hlk e0 ⟨rfl, N0, rfl⟩ (by decide) (by decide)
    · refine own_icmpNo X0 hx 10 (hb hby own_d2_7) (flt hc7_3).1 ?_
      refine own_aloadN X0 hx 11 (hb hby own_d2_10) rfl rfl ?_
      refine own_iloadN X0 hx 12 (hb hby own_d2_11) rfl ?_
      obtain ⟨cl4, Ar4, qv4, S4, M4, H4, G4⟩ := id pV1
      have hin4 : ¬ (v1 < 0 ∨ cl4.slots.size ≤ (v1).toNatClampNeg) := inb_of S4 hbd.1
      refine own_st (G' := s₁.setTop (mkF m 13 #[.val (.ref o1), .val (.int v1), .val (.int v2), .val (.int v3), .val (.int v4)] [(.int (g v1.toNatClampNeg))])) (fun t k => X0.baloadBytes hx (j := v1) (v := (.int (g v1.toNatClampNeg))) (by rw [e0]; exact Ar4.1) (State.isArrayOf_alike hZ.alike Ar4.2.1) Ar4.2.2 hin4 (H4.at hin4 (own_lstI_get hbd.2)) (g := (mkF m 12 #[.val (.ref o1), .val (.int v1), .val (.int v2), .val (.int v3), .val (.int v4)] [(.int v1), (.ref o1)])) rfl rfl (hb hby own_d2_12) _ k) ?_
      refine own_iload X0 hx 15 (hb hby own_d2_13) rfl ?_
      refine own_icmpNo X0 hx 18 (hb hby own_d2_15) (teq (hk (Or.inr hc7_3) : (g v1.toNatClampNeg) = v4)).2 ?_
      refine own_iconst X0 hx 19 (1 : Int32) (hb hby own_d2_18) rfl ?_
      refine own_goto X0 hx 23 (hb hby own_d2_19) ?_
      exact own_retN (t := .boolean) (z := (1 : Int32)) (Q := own_Q2 Z o1 v1 v2 v3 v4 kk g h0 n0) X0 hx hrt (by simp) (hb hby own_d2_23) hlk e0 ⟨rfl, N0, rfl⟩ (by decide) (by decide)
theorem own_stN {q : Int64} {v1 : Int32} (ha : 0 ≤ v1.toInt ∧ v1.toInt ≤ 3) (h : q < 0) : (v1 + (1 : Int32)).toInt = v1.toInt + ((own_l0 q - 1 : Nat) : Int) := by
  have := (own_ain1 ha).2.2; have h0 : own_l0 q = 2 := if_pos h; omega
theorem own_stP {q : Int64} {v1 : Int32} (h : ¬ q < 0) : v1.toInt = v1.toInt + ((own_l0 q - 1 : Nat) : Int) := by
  have h0 : own_l0 q = 1 := if_neg h; omega
theorem own_st04 {q : Int64} {v1 st : Int32} (ha : 0 ≤ v1.toInt ∧ v1.toInt ≤ 3) (hst : st.toInt = v1.toInt + ((own_l0 q - 1 : Nat) : Int)) : 0 ≤ st.toInt ∧ st.toInt ≤ 4 := by
  have := own_l2 q; omega
theorem own_v12 {q : Int64} {v1 v2 : Int32} {D : Nat} (hv2 : v2.toInt = v1.toInt + ((own_l0 q + D : Nat) : Int)) : v1 < v2 := by
  have := own_l2 q; rw [Int32.lt_iff_toInt_lt]; omega
theorem own_dec2 {D k : Nat} (h : k < D + 1) : D + 1 - (k + 1) < D + 1 - k := by omega
theorem own_v0 {n D : Nat} (h : n < 10 ^ (D + 1)) : (0 : Int64).toInt = -((n / 10 ^ (D + 1 - 0) : Nat) : Int) := by
  rw [Nat.sub_zero, Nat.div_eq_of_lt h]; rfl
theorem own_d4_0 : decode prog_10_method_18_code 0 = .ok (.iload_n 1, 1) := by decide +kernel
theorem own_d4_1 : decode prog_10_method_18_code 1 = .ok (.iload_n 2, 1) := by decide +kernel
theorem own_d4_2 : decode prog_10_method_18_code 2 = .ok (.if_icmp .ge 15, 3) := by decide +kernel
theorem own_d4_5 : decode prog_10_method_18_code 5 = .ok (.aload_n 0, 1) := by decide +kernel
theorem own_d4_6 : decode prog_10_method_18_code 6 = .ok (.iload_n 1, 1) := by decide +kernel
theorem own_d4_7 : decode prog_10_method_18_code 7 = .ok (.baload, 1) := by decide +kernel
theorem own_d4_8 : decode prog_10_method_18_code 8 = .ok (.bipush 45, 2) := by decide +kernel
theorem own_d4_10 : decode prog_10_method_18_code 10 = .ok (.if_icmp .ne 7, 3) := by decide +kernel
theorem own_d4_13 : decode prog_10_method_18_code 13 = .ok (.iconst 1, 1) := by decide +kernel
theorem own_d4_14 : decode prog_10_method_18_code 14 = .ok (.goto 4, 3) := by decide +kernel
theorem own_d4_17 : decode prog_10_method_18_code 17 = .ok (.iconst 0, 1) := by decide +kernel
theorem own_d4_18 : decode prog_10_method_18_code 18 = .ok (.istore 4, 2) := by decide +kernel
theorem own_d4_20 : decode prog_10_method_18_code 20 = .ok (.iload 4, 2) := by decide +kernel
theorem own_d4_22 : decode prog_10_method_18_code 22 = .ok (.ifCond .eq 9, 3) := by decide +kernel
theorem own_d4_25 : decode prog_10_method_18_code 25 = .ok (.ldc2_w 187, 3) := by decide +kernel
theorem own_d4_28 : decode prog_10_method_18_code 28 = .ok (.goto 6, 3) := by decide +kernel
theorem own_d4_31 : decode prog_10_method_18_code 31 = .ok (.ldc2_w 189, 3) := by decide +kernel
theorem own_d4_34 : decode prog_10_method_18_code 34 = .ok (.lstore 5, 2) := by decide +kernel
theorem own_d4_36 : decode prog_10_method_18_code 36 = .ok (.iload 4, 2) := by decide +kernel
theorem own_d4_38 : decode prog_10_method_18_code 38 = .ok (.ifCond .eq 9, 3) := by decide +kernel
theorem own_d4_41 : decode prog_10_method_18_code 41 = .ok (.iload_n 1, 1) := by decide +kernel
theorem own_d4_42 : decode prog_10_method_18_code 42 = .ok (.iconst 1, 1) := by decide +kernel
theorem own_d4_43 : decode prog_10_method_18_code 43 = .ok (.iadd, 1) := by decide +kernel
theorem own_d4_44 : decode prog_10_method_18_code 44 = .ok (.goto 4, 3) := by decide +kernel
theorem own_d4_47 : decode prog_10_method_18_code 47 = .ok (.iload_n 1, 1) := by decide +kernel
theorem own_d4_48 : decode prog_10_method_18_code 48 = .ok (.istore 7, 2) := by decide +kernel
theorem own_d4_50 : decode prog_10_method_18_code 50 = .ok (.iload 7, 2) := by decide +kernel
theorem own_d4_52 : decode prog_10_method_18_code 52 = .ok (.iload_n 2, 1) := by decide +kernel
theorem own_d4_53 : decode prog_10_method_18_code 53 = .ok (.if_icmp .ne 17, 3) := by decide +kernel
theorem own_d4_70 : decode prog_10_method_18_code 70 = .ok (.lload 5, 2) := by decide +kernel
theorem own_d4_72 : decode prog_10_method_18_code 72 = .ok (.ldc2_w 91, 3) := by decide +kernel
theorem own_d4_75 : decode prog_10_method_18_code 75 = .ok (.ldiv, 1) := by decide +kernel
theorem own_d4_76 : decode prog_10_method_18_code 76 = .ok (.lstore 8, 2) := by decide +kernel
theorem own_d4_78 : decode prog_10_method_18_code 78 = .ok (.lconst 0, 1) := by decide +kernel
theorem own_d4_79 : decode prog_10_method_18_code 79 = .ok (.lstore 10, 2) := by decide +kernel
theorem own_d4_81 : decode prog_10_method_18_code 81 = .ok (.iconst 1, 1) := by decide +kernel
theorem own_d4_82 : decode prog_10_method_18_code 82 = .ok (.istore 12, 2) := by decide +kernel
theorem own_d4_84 : decode prog_10_method_18_code 84 = .ok (.iload 7, 2) := by decide +kernel
theorem own_d4_86 : decode prog_10_method_18_code 86 = .ok (.istore 13, 2) := by decide +kernel
theorem own_d4_88 : decode prog_10_method_18_code 88 = .ok (.iload 13, 2) := by decide +kernel
theorem own_d4_90 : decode prog_10_method_18_code 90 = .ok (.iload_n 2, 1) := by decide +kernel
theorem own_d4_91 : decode prog_10_method_18_code 91 = .ok (.if_icmp .ge 90, 3) := by decide +kernel
theorem own_d4_94 : decode prog_10_method_18_code 94 = .ok (.aload_n 0, 1) := by decide +kernel
theorem own_d4_95 : decode prog_10_method_18_code 95 = .ok (.iload 13, 2) := by decide +kernel
theorem own_d4_97 : decode prog_10_method_18_code 97 = .ok (.baload, 1) := by decide +kernel
theorem own_d4_98 : decode prog_10_method_18_code 98 = .ok (.bipush 48, 2) := by decide +kernel
theorem own_d4_100 : decode prog_10_method_18_code 100 = .ok (.isub, 1) := by decide +kernel
theorem own_d4_101 : decode prog_10_method_18_code 101 = .ok (.istore 14, 2) := by decide +kernel
theorem own_d4_103 : decode prog_10_method_18_code 103 = .ok (.iload 14, 2) := by decide +kernel
theorem own_d4_105 : decode prog_10_method_18_code 105 = .ok (.ifCond .lt 10, 3) := by decide +kernel
theorem own_d4_108 : decode prog_10_method_18_code 108 = .ok (.iload 14, 2) := by decide +kernel
theorem own_d4_110 : decode prog_10_method_18_code 110 = .ok (.bipush 9, 2) := by decide +kernel
theorem own_d4_112 : decode prog_10_method_18_code 112 = .ok (.if_icmp .le 17, 3) := by decide +kernel
theorem own_d4_129 : decode prog_10_method_18_code 129 = .ok (.iload 12, 2) := by decide +kernel
theorem own_d4_131 : decode prog_10_method_18_code 131 = .ok (.lload 10, 2) := by decide +kernel
theorem own_d4_133 : decode prog_10_method_18_code 133 = .ok (.lload 8, 2) := by decide +kernel
theorem own_d4_135 : decode prog_10_method_18_code 135 = .ok (.lcmp, 1) := by decide +kernel
theorem own_d4_136 : decode prog_10_method_18_code 136 = .ok (.ifCond .lt 23, 3) := by decide +kernel
theorem own_d4_139 : decode prog_10_method_18_code 139 = .ok (.lload 10, 2) := by decide +kernel
theorem own_d4_141 : decode prog_10_method_18_code 141 = .ok (.ldc2_w 91, 3) := by decide +kernel
theorem own_d4_144 : decode prog_10_method_18_code 144 = .ok (.lmul, 1) := by decide +kernel
theorem own_d4_145 : decode prog_10_method_18_code 145 = .ok (.lload 5, 2) := by decide +kernel
theorem own_d4_147 : decode prog_10_method_18_code 147 = .ok (.iload 14, 2) := by decide +kernel
theorem own_d4_149 : decode prog_10_method_18_code 149 = .ok (.i2l, 1) := by decide +kernel
theorem own_d4_150 : decode prog_10_method_18_code 150 = .ok (.ladd, 1) := by decide +kernel
theorem own_d4_151 : decode prog_10_method_18_code 151 = .ok (.lcmp, 1) := by decide +kernel
theorem own_d4_152 : decode prog_10_method_18_code 152 = .ok (.ifCond .lt 7, 3) := by decide +kernel
theorem own_d4_155 : decode prog_10_method_18_code 155 = .ok (.iconst 1, 1) := by decide +kernel
theorem own_d4_156 : decode prog_10_method_18_code 156 = .ok (.goto 4, 3) := by decide +kernel
theorem own_d4_160 : decode prog_10_method_18_code 160 = .ok (.iand, 1) := by decide +kernel
theorem own_d4_161 : decode prog_10_method_18_code 161 = .ok (.istore 12, 2) := by decide +kernel
theorem own_d4_163 : decode prog_10_method_18_code 163 = .ok (.lload 10, 2) := by decide +kernel
theorem own_d4_165 : decode prog_10_method_18_code 165 = .ok (.ldc2_w 91, 3) := by decide +kernel
theorem own_d4_168 : decode prog_10_method_18_code 168 = .ok (.lmul, 1) := by decide +kernel
theorem own_d4_169 : decode prog_10_method_18_code 169 = .ok (.iload 14, 2) := by decide +kernel
theorem own_d4_171 : decode prog_10_method_18_code 171 = .ok (.i2l, 1) := by decide +kernel
theorem own_d4_172 : decode prog_10_method_18_code 172 = .ok (.lsub, 1) := by decide +kernel
theorem own_d4_173 : decode prog_10_method_18_code 173 = .ok (.lstore 10, 2) := by decide +kernel
theorem own_d4_175 : decode prog_10_method_18_code 175 = .ok (.iinc 13 1, 3) := by decide +kernel
theorem own_d4_178 : decode prog_10_method_18_code 178 = .ok (.goto (-90), 3) := by decide +kernel
theorem own_d4_181 : decode prog_10_method_18_code 181 = .ok (.iload 12, 2) := by decide +kernel
theorem own_d4_183 : decode prog_10_method_18_code 183 = .ok (.ifCond .ne 17, 3) := by decide +kernel
theorem own_d4_200 : decode prog_10_method_18_code 200 = .ok (.iload 4, 2) := by decide +kernel
theorem own_d4_202 : decode prog_10_method_18_code 202 = .ok (.ifCond .eq 8, 3) := by decide +kernel
theorem own_d4_205 : decode prog_10_method_18_code 205 = .ok (.lload 10, 2) := by decide +kernel
theorem own_d4_207 : decode prog_10_method_18_code 207 = .ok (.goto 6, 3) := by decide +kernel
theorem own_d4_210 : decode prog_10_method_18_code 210 = .ok (.lload 10, 2) := by decide +kernel
theorem own_d4_212 : decode prog_10_method_18_code 212 = .ok (.lneg, 1) := by decide +kernel
theorem own_d4_213 : decode prog_10_method_18_code 213 = .ok (.lreturn, 1) := by decide +kernel
theorem own_ef4 (m : MethodId) (o1 : Addr) (v1 : Int32) (v2 : Int32) : entryFrame m #[(.ref o1), (.int v1), (.int v2), .null] 15 = mkF m 0 #[.val (.ref o1), .val (.int v1), .val (.int v2), .val .null, .unset, .unset, .unset, .unset, .unset, .unset, .unset, .unset, .unset, .unset, .unset] [] := by first | (simp [entryFrame, mkF, argsToLocals, Value.category]; done) | rfl
def own_Q4 (Z : State) (o1 : Addr) (v1 : Int32) (v2 : Int32) (q0 : Int64) (D : Nat) (kk : ClassId) (g : Nat → Int32) (g0 : Nat → Int32) (h0 : Heap) (n0 : Nat) (v : Option Value) (h : Heap) (L : List Loc) : Prop := v = some (.long q0) ∧ Fr n0 L ∧ h = h0
set_option maxRecDepth 65536 in
set_option maxHeartbeats 40000000 in
theorem own_rm4 (l : Launch) (Z : State) (a0 : Array Value) (hw : ∀ d ∈ tables_1, d.before a0 Z = true) (ws : List Jvm.Cond) (o1 : Addr) (v1 : Int32) (v2 : Int32) (q0 : Int64) (D : Nat) (kk : ClassId) (g : Nat → Int32) (g0 : Nat → Int32) (h0 : Heap) (n0 : Nat) (Z0 : n0 ≤ h0.size) (pV1 : Arv Z h0 o1 kk .byte (24 : Int32) (own_lstI 24 g) (.int (0 : Int32))) (ha : 0 ≤ v1.toInt ∧ v1.toInt ≤ 3) (hv2 : v2.toInt = v1.toInt + ((own_l0 q0 + D : Nat) : Int)) (h2 : (D = 0 ∨ 10 ^ D ≤ q0.toInt.natAbs) ∧ q0.toInt.natAbs < 10 ^ (D + 1)) (h3 : ∀ y, g y = own_out q0 D v1.toInt.toNat g0 y) :
    MetFree l (⟨"com/example/deltalog/deltalog/ColumnType", "intValue", "([BIILjava/lang/String;)J"⟩ : MethodName) (head1 (Jvm.Cond.code (⟨"com/example/deltalog/deltalog/ColumnType", "intValue", "([BIILjava/lang/String;)J"⟩ : MethodName) prog_10_method_18_code 15 (some .long) :: ws) ({ frames := 0, cells := 0, slots := 0, locals := 0 } : Room)) (fun a U => a = #[(.ref o1), (.int v1), (.int v2), .null] ∧ Z.Warmed39 U.vm ∧ U.heap = h0) (fun _ _ _ _ _ => True) (fun _ U o U' => ∃ v L, o = .returned v ∧ own_Q4 Z o1 v1 v2 q0 D kk g g0 h0 n0 v U'.heap L ∧ FrameEnd U o U' L ({ frames := 0, cells := 0, slots := 0, locals := 0 } : Room).cells ({ frames := 0, cells := 0, slots := 0, locals := 0 } : Room).slots) := by
  refine MetFree.of_bodySF (plainFor_of_name own_pn0) hisR ?_
  intro p e s m args below meth c s₁ Bd hml0 hP hK
  obtain ⟨rfl, hZ, hh⟩ := hP
  have hx := Bd.exec
  have hby := Bd.bytes
  have hlk := Bd.notSynchronized
  have hrt := Bd.returns
  have hml : c.maxLocals = 15 := hml0
  have hown : s.vm.findClass "com/example/deltalog/deltalog/ColumnType" = some m.cls := findClass_of_methodNamed Bd.named
  have hnm := (name_of_methodNamed Bd.named Bd.method).1
  have X0 : Stand p l e ({ frames := 0, cells := 0, slots := 0, locals := 0 } : Room) s m #[(.ref o1), (.int v1), (.int v2), .null] below meth c s₁ [] 0 0 := Stand.of_body Bd
  have e0 : s₁.heap = h0 := by rw [← hh, Bd.state]; rfl
  have N0 := Fr.nil n0
  refine own_in (own_ef4 m o1 v1 v2) ?_
  by_cases hc0_1 : q0 < (0 : Int64)
  · refine own_iloadN X0 hx 1 (hb hby own_d4_0) rfl ?_
    refine own_iloadN X0 hx 2 (hb hby own_d4_1) rfl ?_
    refine own_icmpNo X0 hx 5 (hb hby own_d4_2) (tlt (own_v12 hv2 : v1 < v2)).2.1 ?_
    refine own_aloadN X0 hx 6 (hb hby own_d4_5) rfl rfl ?_
    refine own_iloadN X0 hx 7 (hb hby own_d4_6) rfl ?_
    obtain ⟨cl2, Ar2, qv2, S2, M2, H2, G2⟩ := id pV1
    have hin2 : ¬ (v1 < 0 ∨ cl2.slots.size ≤ (v1).toNatClampNeg) := inb_of S2 (own_ain ha).1
    refine own_st (G' := s₁.setTop (mkF m 8 #[.val (.ref o1), .val (.int v1), .val (.int v2), .val .null, .unset, .unset, .unset, .unset, .unset, .unset, .unset, .unset, .unset, .unset, .unset] [(.int (g v1.toNatClampNeg))])) (fun t k => X0.baloadBytes hx (j := v1) (v := (.int (g v1.toNatClampNeg))) (by rw [e0]; exact Ar2.1) (State.isArrayOf_alike hZ.alike Ar2.2.1) Ar2.2.2 hin2 (H2.at hin2 (own_lstI_get (own_ain ha).2)) (g := (mkF m 7 #[.val (.ref o1), .val (.int v1), .val (.int v2), .val .null, .unset, .unset, .unset, .unset, .unset, .unset, .unset, .unset, .unset, .unset, .unset] [(.int v1), (.ref o1)])) rfl rfl (hb hby own_d4_7) _ k) ?_
    refine own_bipush X0 hx 10 (45 : Int32) (hb hby own_d4_8) rfl ?_
    refine own_icmpNo X0 hx 13 (hb hby own_d4_10) (teq (own_f1 ha hc0_1 h3 : (g v1.toNatClampNeg) = (45 : Int32))).2 ?_
    refine own_iconst X0 hx 14 (1 : Int32) (hb hby own_d4_13) rfl ?_
    refine own_goto X0 hx 18 (hb hby own_d4_14) ?_
    refine own_istore X0 hx 20 #[.val (.ref o1), .val (.int v1), .val (.int v2), .val .null, .val (.int (1 : Int32)), .unset, .unset, .unset, .unset, .unset, .unset, .unset, .unset, .unset, .unset] (hb hby own_d4_18) rfl ?_
    refine own_iload X0 hx 22 (hb hby own_d4_20) rfl ?_
    refine own_ifNo X0 hx 25 (hb hby own_d4_22) (feq (by decide : ¬ ((1 : Int32) = (0 : Int32)))).1 ?_
    refine own_ldcL X0 hx 28 hown (mvT hZ (hw _ (List.mem_of_getElem? (i := 19) rfl))) (hb hby own_d4_25) ?_
    refine own_goto X0 hx 34 (hb hby own_d4_28) ?_
    refine own_lstore X0 hx 36 #[.val (.ref o1), .val (.int v1), .val (.int v2), .val .null, .val (.int (1 : Int32)), .val (.long (-9223372036854775808 : Int64)), .second, .unset, .unset, .unset, .unset, .unset, .unset, .unset, .unset] (hb hby own_d4_34) rfl ?_
    refine own_iload X0 hx 38 (hb hby own_d4_36) rfl ?_
    refine own_ifNo X0 hx 41 (hb hby own_d4_38) (feq (by decide : ¬ ((1 : Int32) = (0 : Int32)))).1 ?_
    refine own_iloadN X0 hx 42 (hb hby own_d4_41) rfl ?_
    refine own_iconst X0 hx 43 (1 : Int32) (hb hby own_d4_42) rfl ?_
    refine own_iadd X0 hx 44 (hb hby own_d4_43) ?_
    refine own_goto X0 hx 48 (hb hby own_d4_44) ?_
    refine own_istore X0 hx 50 #[.val (.ref o1), .val (.int v1), .val (.int v2), .val .null, .val (.int (1 : Int32)), .val (.long (-9223372036854775808 : Int64)), .second, .val (.int (v1 + (1 : Int32))), .unset, .unset, .unset, .unset, .unset, .unset, .unset] (hb hby own_d4_48) rfl ?_
    refine own_iload X0 hx 52 (hb hby own_d4_50) rfl ?_
    refine own_iloadN X0 hx 53 (hb hby own_d4_52) rfl ?_
    refine own_icmpYes X0 hx 70 (hb hby own_d4_53) (feq (own_r7 (own_k0 h2) (own_stN ha hc0_1) (own_l2 q0).2 hv2 : ¬ ((v1 + (1 : Int32)) = v2))).2 ?_
    refine own_lload X0 hx 72 (hb hby own_d4_70) rfl ?_
    refine own_ldcL X0 hx 75 hown (mvT hZ (hw _ (List.mem_of_getElem? (i := 7) rfl))) (hb hby own_d4_72) ?_
    refine own_ldiv X0 hx 76 (hb hby own_d4_75) (by decide) ?_
    refine own_lstore X0 hx 78 #[.val (.ref o1), .val (.int v1), .val (.int v2), .val .null, .val (.int (1 : Int32)), .val (.long (-9223372036854775808 : Int64)), .second, .val (.int (v1 + (1 : Int32))), .val (.long ((-9223372036854775808 : Int64) / (10 : Int64))), .second, .unset, .unset, .unset, .unset, .unset] (hb hby own_d4_76) rfl ?_
    refine own_lconst X0 hx 79 (0 : Int64) (hb hby own_d4_78) rfl ?_
    refine own_lstore X0 hx 81 #[.val (.ref o1), .val (.int v1), .val (.int v2), .val .null, .val (.int (1 : Int32)), .val (.long (-9223372036854775808 : Int64)), .second, .val (.int (v1 + (1 : Int32))), .val (.long ((-9223372036854775808 : Int64) / (10 : Int64))), .second, .val (.long (0 : Int64)), .second, .unset, .unset, .unset] (hb hby own_d4_79) rfl ?_
    refine own_iconst X0 hx 82 (1 : Int32) (hb hby own_d4_81) rfl ?_
    refine own_istore X0 hx 84 #[.val (.ref o1), .val (.int v1), .val (.int v2), .val .null, .val (.int (1 : Int32)), .val (.long (-9223372036854775808 : Int64)), .second, .val (.int (v1 + (1 : Int32))), .val (.long ((-9223372036854775808 : Int64) / (10 : Int64))), .second, .val (.long (0 : Int64)), .second, .val (.int (1 : Int32)), .unset, .unset] (hb hby own_d4_82) rfl ?_
    refine own_iload X0 hx 86 (hb hby own_d4_84) rfl ?_
    refine own_istore X0 hx 88 #[.val (.ref o1), .val (.int v1), .val (.int v2), .val .null, .val (.int (1 : Int32)), .val (.long (-9223372036854775808 : Int64)), .second, .val (.int (v1 + (1 : Int32))), .val (.long ((-9223372036854775808 : Int64) / (10 : Int64))), .second, .val (.long (0 : Int64)), .second, .val (.int (1 : Int32)), .val (.int (v1 + (1 : Int32))), .unset] (hb hby own_d4_86) rfl ?_
    have loop88_0 : ∀ (kk88_0 : Nat) (T88_0 : State) (ls88_0 : List Loc) (ii : Int32) (vv : Int64) (k : Nat) (sl14 : Slot), (D + 1 - k = kk88_0) → (Stand p l e ({ frames := 0, cells := 0, slots := 0, locals := 0 } : Room) s m #[(.ref o1), (.int v1), (.int v2), .null] below meth c T88_0 ls88_0 0 0) → (T88_0.heap = h0) → (Fr n0 ls88_0) → (n0 ≤ h0.size) → (One sl14) → (ii.toInt = (v1 + (1 : Int32)).toInt + (k : Int)) → (k ≤ D + 1) → (vv.toInt = -((q0.toInt.natAbs / 10 ^ (D + 1 - k) : Nat) : Int)) → own_Gs p e below (fun o U' => ∃ v L, o = .returned v ∧ own_Q4 Z o1 v1 v2 q0 D kk g g0 h0 n0 v U'.heap L ∧ FrameEnd s o U' L ({ frames := 0, cells := 0, slots := 0, locals := 0 } : Room).cells ({ frames := 0, cells := 0, slots := 0, locals := 0 } : Room).slots) (T88_0.setTop (mkF m 88 #[.val (.ref o1), .val (.int v1), .val (.int v2), .val .null, .val (.int (1 : Int32)), .val (.long (-9223372036854775808 : Int64)), .second, .val (.int (v1 + (1 : Int32))), .val (.long ((-9223372036854775808 : Int64) / (10 : Int64))), .second, .val (.long vv), .second, .val (.int (1 : Int32)), .val (.int ii), sl14] [])) := by
      intro kk88_0
      induction kk88_0 using Nat.strongRecOn with
      | _ kk88_0 ih88_0 =>
      intro T88_0 ls88_0 ii vv k sl14 hmu88_0 X88_0 e88_0 N88_0 Z88_0 h14 hii hkD hv
      refine own_iload X88_0 hx 90 (hb hby own_d4_88) rfl ?_
      refine own_iloadN X88_0 hx 91 (hb hby own_d4_90) rfl ?_
      by_cases hc91_3 : ii < v2
      · refine own_icmpNo X88_0 hx 94 (hb hby own_d4_91) (tlt hc91_3).2.1 ?_
        refine own_aloadN X88_0 hx 95 (hb hby own_d4_94) rfl rfl ?_
        refine own_iload X88_0 hx 97 (hb hby own_d4_95) rfl ?_
        obtain ⟨cl4, Ar4, qv4, S4, M4, H4, G4⟩ := id pV1
        have hin4 : ¬ (ii < 0 ∨ cl4.slots.size ≤ (ii).toNatClampNeg) := inb_of S4 (own_r1 ha h2 h3 (own_stN ha hc0_1) hii (own_r8 (own_stN ha hc0_1) (own_l2 q0).2 hv2 hii hc91_3)).2.1
        refine own_st (G' := T88_0.setTop (mkF m 98 #[.val (.ref o1), .val (.int v1), .val (.int v2), .val .null, .val (.int (1 : Int32)), .val (.long (-9223372036854775808 : Int64)), .second, .val (.int (v1 + (1 : Int32))), .val (.long ((-9223372036854775808 : Int64) / (10 : Int64))), .second, .val (.long vv), .second, .val (.int (1 : Int32)), .val (.int ii), sl14] [(.int (g ii.toNatClampNeg))])) (fun t k => X88_0.baloadBytes hx (j := ii) (v := (.int (g ii.toNatClampNeg))) (by rw [e88_0]; exact Ar4.1) (State.isArrayOf_alike hZ.alike Ar4.2.1) Ar4.2.2 hin4 (H4.at hin4 (own_lstI_get (own_r1 ha h2 h3 (own_stN ha hc0_1) hii (own_r8 (own_stN ha hc0_1) (own_l2 q0).2 hv2 hii hc91_3)).2.2)) (g := (mkF m 97 #[.val (.ref o1), .val (.int v1), .val (.int v2), .val .null, .val (.int (1 : Int32)), .val (.long (-9223372036854775808 : Int64)), .second, .val (.int (v1 + (1 : Int32))), .val (.long ((-9223372036854775808 : Int64) / (10 : Int64))), .second, .val (.long vv), .second, .val (.int (1 : Int32)), .val (.int ii), sl14] [(.int ii), (.ref o1)])) rfl rfl (hb hby own_d4_97) _ k) ?_
        refine own_bipush X88_0 hx 100 (48 : Int32) (hb hby own_d4_98) rfl ?_
        refine own_isub X88_0 hx 101 (hb hby own_d4_100) ?_
        refine own_istore X88_0 hx 103 #[.val (.ref o1), .val (.int v1), .val (.int v2), .val .null, .val (.int (1 : Int32)), .val (.long (-9223372036854775808 : Int64)), .second, .val (.int (v1 + (1 : Int32))), .val (.long ((-9223372036854775808 : Int64) / (10 : Int64))), .second, .val (.long vv), .second, .val (.int (1 : Int32)), .val (.int ii), .val (.int ((g ii.toNatClampNeg) - (48 : Int32)))] (hb hby own_d4_101) (Jvm.Free.XS.store1 rfl h14 rfl) ?_
        refine own_iload X88_0 hx 105 (hb hby own_d4_103) rfl ?_
        refine own_ifNo X88_0 hx 108 (hb hby own_d4_105) (flt ((own_r3 (own_r1 ha h2 h3 (own_stN ha hc0_1) hii (own_r8 (own_stN ha hc0_1) (own_l2 q0).2 hv2 hii hc91_3)).1).1 : ¬ (((g ii.toNatClampNeg) - (48 : Int32)) < (0 : Int32)))).1 ?_
        refine own_iload X88_0 hx 110 (hb hby own_d4_108) rfl ?_
        refine own_bipush X88_0 hx 112 (9 : Int32) (hb hby own_d4_110) rfl ?_
        refine own_icmpYes X88_0 hx 129 (hb hby own_d4_112) (flt ((own_r3 (own_r1 ha h2 h3 (own_stN ha hc0_1) hii (own_r8 (own_stN ha hc0_1) (own_l2 q0).2 hv2 hii hc91_3)).1).2 : ¬ ((9 : Int32) < ((g ii.toNatClampNeg) - (48 : Int32))))).2.2.2 ?_
        refine own_iload X88_0 hx 131 (hb hby own_d4_129) rfl ?_
        refine own_lload X88_0 hx 133 (hb hby own_d4_131) rfl ?_
        refine own_lload X88_0 hx 135 (hb hby own_d4_133) rfl ?_
        refine own_lcmp X88_0 hx 136 (hb hby own_d4_135) ?_
        refine own_ifNo X88_0 hx 139 (hb hby own_d4_136) (flt (mt (lw_lt _ _).mp ((own_r6 (own_limN q0).1 (own_limN q0).2 (own_r8 (own_stN ha hc0_1) (own_l2 q0).2 hv2 hii hc91_3) hv (own_r1 ha h2 h3 (own_stN ha hc0_1) hii (own_r8 (own_stN ha hc0_1) (own_l2 q0).2 hv2 hii hc91_3)).1).1 : ¬ (vv < ((-9223372036854775808 : Int64) / (10 : Int64)))))).1 ?_
        refine own_lload X88_0 hx 141 (hb hby own_d4_139) rfl ?_
        refine own_ldcL X88_0 hx 144 hown (mvT hZ (hw _ (List.mem_of_getElem? (i := 7) rfl))) (hb hby own_d4_141) ?_
        refine own_lmul X88_0 hx 145 (hb hby own_d4_144) ?_
        refine own_lload X88_0 hx 147 (hb hby own_d4_145) rfl ?_
        refine own_iload X88_0 hx 149 (hb hby own_d4_147) rfl ?_
        refine own_i2l X88_0 hx 150 (hb hby own_d4_149) ?_
        refine own_ladd X88_0 hx 151 (hb hby own_d4_150) ?_
        refine own_lcmp X88_0 hx 152 (hb hby own_d4_151) ?_
        refine own_ifNo X88_0 hx 155 (hb hby own_d4_152) (flt (mt (lw_lt _ _).mp ((own_r6 (own_limN q0).1 (own_limN q0).2 (own_r8 (own_stN ha hc0_1) (own_l2 q0).2 hv2 hii hc91_3) hv (own_r1 ha h2 h3 (own_stN ha hc0_1) hii (own_r8 (own_stN ha hc0_1) (own_l2 q0).2 hv2 hii hc91_3)).1).2.1 : ¬ ((vv * (10 : Int64)) < ((-9223372036854775808 : Int64) + (((g ii.toNatClampNeg) - (48 : Int32)).toInt64)))))).1 ?_
        refine own_iconst X88_0 hx 156 (1 : Int32) (hb hby own_d4_155) rfl ?_
        refine own_goto X88_0 hx 160 (hb hby own_d4_156) ?_
        refine own_iand X88_0 hx 161 (hb hby own_d4_160) ?_
        show own_Gs p e below _ (T88_0.setTop (mkF m 161 #[.val (.ref o1), .val (.int v1), .val (.int v2), .val .null, .val (.int (1 : Int32)), .val (.long (-9223372036854775808 : Int64)), .second, .val (.int (v1 + (1 : Int32))), .val (.long ((-9223372036854775808 : Int64) / (10 : Int64))), .second, .val (.long vv), .second, .val (.int (1 : Int32)), .val (.int ii), .val (.int ((g ii.toNatClampNeg) - (48 : Int32)))] [(.int (1 : Int32))]))
        refine own_istore X88_0 hx 163 #[.val (.ref o1), .val (.int v1), .val (.int v2), .val .null, .val (.int (1 : Int32)), .val (.long (-9223372036854775808 : Int64)), .second, .val (.int (v1 + (1 : Int32))), .val (.long ((-9223372036854775808 : Int64) / (10 : Int64))), .second, .val (.long vv), .second, .val (.int (1 : Int32)), .val (.int ii), .val (.int ((g ii.toNatClampNeg) - (48 : Int32)))] (hb hby own_d4_161) rfl ?_
        refine own_lload X88_0 hx 165 (hb hby own_d4_163) rfl ?_
        refine own_ldcL X88_0 hx 168 hown (mvT hZ (hw _ (List.mem_of_getElem? (i := 7) rfl))) (hb hby own_d4_165) ?_
        refine own_lmul X88_0 hx 169 (hb hby own_d4_168) ?_
        refine own_iload X88_0 hx 171 (hb hby own_d4_169) rfl ?_
        refine own_i2l X88_0 hx 172 (hb hby own_d4_171) ?_
        refine own_lsub X88_0 hx 173 (hb hby own_d4_172) ?_
        refine own_lstore X88_0 hx 175 #[.val (.ref o1), .val (.int v1), .val (.int v2), .val .null, .val (.int (1 : Int32)), .val (.long (-9223372036854775808 : Int64)), .second, .val (.int (v1 + (1 : Int32))), .val (.long ((-9223372036854775808 : Int64) / (10 : Int64))), .second, .val (.long ((vv * (10 : Int64)) - (((g ii.toNatClampNeg) - (48 : Int32)).toInt64))), .second, .val (.int (1 : Int32)), .val (.int ii), .val (.int ((g ii.toNatClampNeg) - (48 : Int32)))] (hb hby own_d4_173) rfl ?_
        refine own_iinc X88_0 hx 178 (1 : Int32) #[.val (.ref o1), .val (.int v1), .val (.int v2), .val .null, .val (.int (1 : Int32)), .val (.long (-9223372036854775808 : Int64)), .second, .val (.int (v1 + (1 : Int32))), .val (.long ((-9223372036854775808 : Int64) / (10 : Int64))), .second, .val (.long ((vv * (10 : Int64)) - (((g ii.toNatClampNeg) - (48 : Int32)).toInt64))), .second, .val (.int (1 : Int32)), .val (.int (ii + (1 : Int32))), .val (.int ((g ii.toNatClampNeg) - (48 : Int32)))] (hb hby own_d4_175) rfl rfl rfl ?_
        refine own_goto X88_0 hx 88 (hb hby own_d4_178) ?_
        exact ih88_0 _ (by rw [← hmu88_0]; exact own_dec2 (own_r8 (own_stN ha hc0_1) (own_l2 q0).2 hv2 hii hc91_3)) T88_0 _ (ii + (1 : Int32)) ((vv * (10 : Int64)) - (((g ii.toNatClampNeg) - (48 : Int32)).toInt64)) (k + 1) (.val (.int ((g ii.toNatClampNeg) - (48 : Int32))) : Slot) rfl X88_0 e88_0 N88_0 Z88_0 (One.val rfl : One (.val (.int ((g ii.toNatClampNeg) - (48 : Int32))) : Slot)) (own_r10 (own_k0 h2) (own_st04 ha (own_stN ha hc0_1)) (own_r8 (own_stN ha hc0_1) (own_l2 q0).2 hv2 hii hc91_3) hii : (ii + (1 : Int32)).toInt = (v1 + (1 : Int32)).toInt + ((k + 1) : Int)) ((own_r8 (own_stN ha hc0_1) (own_l2 q0).2 hv2 hii hc91_3) : (k + 1) ≤ D + 1) ((own_r6 (own_limN q0).1 (own_limN q0).2 (own_r8 (own_stN ha hc0_1) (own_l2 q0).2 hv2 hii hc91_3) hv (own_r1 ha h2 h3 (own_stN ha hc0_1) hii (own_r8 (own_stN ha hc0_1) (own_l2 q0).2 hv2 hii hc91_3)).1).2.2 : ((vv * (10 : Int64)) - (((g ii.toNatClampNeg) - (48 : Int32)).toInt64)).toInt = -((q0.toInt.natAbs / 10 ^ (D + 1 - (k + 1)) : Nat) : Int))
      · refine own_icmpYes X88_0 hx 181 (hb hby own_d4_91) (flt hc91_3).2.1 ?_
        refine own_iload X88_0 hx 183 (hb hby own_d4_181) rfl ?_
        refine own_ifYes X88_0 hx 200 (hb hby own_d4_183) (feq (by decide : ¬ ((1 : Int32) = (0 : Int32)))).2 ?_
        refine own_iload X88_0 hx 202 (hb hby own_d4_200) rfl ?_
        refine own_ifNo X88_0 hx 205 (hb hby own_d4_202) (feq (by decide : ¬ ((1 : Int32) = (0 : Int32)))).1 ?_
        refine own_lload X88_0 hx 207 (hb hby own_d4_205) rfl ?_
        refine own_goto X88_0 hx 213 (hb hby own_d4_207) ?_
        exact own_retL (z := vv) (Q := own_Q4 Z o1 v1 v2 q0 D kk g g0 h0 n0) X88_0 hx hrt (hb hby own_d4_213) hlk e88_0 ⟨(own_leafJ (show vv = q0 from own_finN hc0_1 (own_r9 (own_stN ha hc0_1) (own_l2 q0).2 hv2 hii hkD hc91_3) hv)), N88_0, rfl⟩ (by decide) (by decide)
    exact loop88_0 _ s₁ _ (v1 + (1 : Int32)) (0 : Int64) 0 (.unset : Slot) rfl X0 e0 N0 Z0 (One.u : One (.unset : Slot)) ((Int.add_zero _).symm : (v1 + (1 : Int32)).toInt = (v1 + (1 : Int32)).toInt + (0 : Int)) (Nat.zero_le _ : 0 ≤ D + 1) (own_v0 h2.2 : (0 : Int64).toInt = -((q0.toInt.natAbs / 10 ^ (D + 1 - 0) : Nat) : Int))
  · refine own_iloadN X0 hx 1 (hb hby own_d4_0) rfl ?_
    refine own_iloadN X0 hx 2 (hb hby own_d4_1) rfl ?_
    refine own_icmpNo X0 hx 5 (hb hby own_d4_2) (tlt (own_v12 hv2 : v1 < v2)).2.1 ?_
    refine own_aloadN X0 hx 6 (hb hby own_d4_5) rfl rfl ?_
    refine own_iloadN X0 hx 7 (hb hby own_d4_6) rfl ?_
    obtain ⟨cl5, Ar5, qv5, S5, M5, H5, G5⟩ := id pV1
    have hin5 : ¬ (v1 < 0 ∨ cl5.slots.size ≤ (v1).toNatClampNeg) := inb_of S5 (own_ain ha).1
    refine own_st (G' := s₁.setTop (mkF m 8 #[.val (.ref o1), .val (.int v1), .val (.int v2), .val .null, .unset, .unset, .unset, .unset, .unset, .unset, .unset, .unset, .unset, .unset, .unset] [(.int (g v1.toNatClampNeg))])) (fun t k => X0.baloadBytes hx (j := v1) (v := (.int (g v1.toNatClampNeg))) (by rw [e0]; exact Ar5.1) (State.isArrayOf_alike hZ.alike Ar5.2.1) Ar5.2.2 hin5 (H5.at hin5 (own_lstI_get (own_ain ha).2)) (g := (mkF m 7 #[.val (.ref o1), .val (.int v1), .val (.int v2), .val .null, .unset, .unset, .unset, .unset, .unset, .unset, .unset, .unset, .unset, .unset, .unset] [(.int v1), (.ref o1)])) rfl rfl (hb hby own_d4_7) _ k) ?_
    refine own_bipush X0 hx 10 (45 : Int32) (hb hby own_d4_8) rfl ?_
    refine own_icmpYes X0 hx 17 (hb hby own_d4_10) (feq (own_f2 ha hc0_1 h3 : ¬ ((g v1.toNatClampNeg) = (45 : Int32)))).2 ?_
    refine own_iconst X0 hx 18 (0 : Int32) (hb hby own_d4_17) rfl ?_
    refine own_istore X0 hx 20 #[.val (.ref o1), .val (.int v1), .val (.int v2), .val .null, .val (.int (0 : Int32)), .unset, .unset, .unset, .unset, .unset, .unset, .unset, .unset, .unset, .unset] (hb hby own_d4_18) rfl ?_
    refine own_iload X0 hx 22 (hb hby own_d4_20) rfl ?_
    refine own_ifYes X0 hx 31 (hb hby own_d4_22) (teq (rfl : (0 : Int32) = (0 : Int32))).1 ?_
    refine own_ldcL X0 hx 34 hown (mvT hZ (hw _ (List.mem_of_getElem? (i := 18) rfl))) (hb hby own_d4_31) ?_
    refine own_lstore X0 hx 36 #[.val (.ref o1), .val (.int v1), .val (.int v2), .val .null, .val (.int (0 : Int32)), .val (.long (-9223372036854775807 : Int64)), .second, .unset, .unset, .unset, .unset, .unset, .unset, .unset, .unset] (hb hby own_d4_34) rfl ?_
    refine own_iload X0 hx 38 (hb hby own_d4_36) rfl ?_
    refine own_ifYes X0 hx 47 (hb hby own_d4_38) (teq (rfl : (0 : Int32) = (0 : Int32))).1 ?_
    refine own_iloadN X0 hx 48 (hb hby own_d4_47) rfl ?_
    refine own_istore X0 hx 50 #[.val (.ref o1), .val (.int v1), .val (.int v2), .val .null, .val (.int (0 : Int32)), .val (.long (-9223372036854775807 : Int64)), .second, .val (.int v1), .unset, .unset, .unset, .unset, .unset, .unset, .unset] (hb hby own_d4_48) rfl ?_
    refine own_iload X0 hx 52 (hb hby own_d4_50) rfl ?_
    refine own_iloadN X0 hx 53 (hb hby own_d4_52) rfl ?_
    refine own_icmpYes X0 hx 70 (hb hby own_d4_53) (feq (own_r7 (own_k0 h2) (own_stP hc0_1) (own_l2 q0).2 hv2 : ¬ (v1 = v2))).2 ?_
    refine own_lload X0 hx 72 (hb hby own_d4_70) rfl ?_
    refine own_ldcL X0 hx 75 hown (mvT hZ (hw _ (List.mem_of_getElem? (i := 7) rfl))) (hb hby own_d4_72) ?_
    refine own_ldiv X0 hx 76 (hb hby own_d4_75) (by decide) ?_
    refine own_lstore X0 hx 78 #[.val (.ref o1), .val (.int v1), .val (.int v2), .val .null, .val (.int (0 : Int32)), .val (.long (-9223372036854775807 : Int64)), .second, .val (.int v1), .val (.long ((-9223372036854775807 : Int64) / (10 : Int64))), .second, .unset, .unset, .unset, .unset, .unset] (hb hby own_d4_76) rfl ?_
    refine own_lconst X0 hx 79 (0 : Int64) (hb hby own_d4_78) rfl ?_
    refine own_lstore X0 hx 81 #[.val (.ref o1), .val (.int v1), .val (.int v2), .val .null, .val (.int (0 : Int32)), .val (.long (-9223372036854775807 : Int64)), .second, .val (.int v1), .val (.long ((-9223372036854775807 : Int64) / (10 : Int64))), .second, .val (.long (0 : Int64)), .second, .unset, .unset, .unset] (hb hby own_d4_79) rfl ?_
    refine own_iconst X0 hx 82 (1 : Int32) (hb hby own_d4_81) rfl ?_
    refine own_istore X0 hx 84 #[.val (.ref o1), .val (.int v1), .val (.int v2), .val .null, .val (.int (0 : Int32)), .val (.long (-9223372036854775807 : Int64)), .second, .val (.int v1), .val (.long ((-9223372036854775807 : Int64) / (10 : Int64))), .second, .val (.long (0 : Int64)), .second, .val (.int (1 : Int32)), .unset, .unset] (hb hby own_d4_82) rfl ?_
    refine own_iload X0 hx 86 (hb hby own_d4_84) rfl ?_
    refine own_istore X0 hx 88 #[.val (.ref o1), .val (.int v1), .val (.int v2), .val .null, .val (.int (0 : Int32)), .val (.long (-9223372036854775807 : Int64)), .second, .val (.int v1), .val (.long ((-9223372036854775807 : Int64) / (10 : Int64))), .second, .val (.long (0 : Int64)), .second, .val (.int (1 : Int32)), .val (.int v1), .unset] (hb hby own_d4_86) rfl ?_
    have loop88_0 : ∀ (kk88_0 : Nat) (T88_0 : State) (ls88_0 : List Loc) (ii : Int32) (vv : Int64) (k : Nat) (sl14 : Slot), (D + 1 - k = kk88_0) → (Stand p l e ({ frames := 0, cells := 0, slots := 0, locals := 0 } : Room) s m #[(.ref o1), (.int v1), (.int v2), .null] below meth c T88_0 ls88_0 0 0) → (T88_0.heap = h0) → (Fr n0 ls88_0) → (n0 ≤ h0.size) → (One sl14) → (ii.toInt = v1.toInt + (k : Int)) → (k ≤ D + 1) → (vv.toInt = -((q0.toInt.natAbs / 10 ^ (D + 1 - k) : Nat) : Int)) → own_Gs p e below (fun o U' => ∃ v L, o = .returned v ∧ own_Q4 Z o1 v1 v2 q0 D kk g g0 h0 n0 v U'.heap L ∧ FrameEnd s o U' L ({ frames := 0, cells := 0, slots := 0, locals := 0 } : Room).cells ({ frames := 0, cells := 0, slots := 0, locals := 0 } : Room).slots) (T88_0.setTop (mkF m 88 #[.val (.ref o1), .val (.int v1), .val (.int v2), .val .null, .val (.int (0 : Int32)), .val (.long (-9223372036854775807 : Int64)), .second, .val (.int v1), .val (.long ((-9223372036854775807 : Int64) / (10 : Int64))), .second, .val (.long vv), .second, .val (.int (1 : Int32)), .val (.int ii), sl14] [])) := by
      intro kk88_0
      induction kk88_0 using Nat.strongRecOn with
      | _ kk88_0 ih88_0 =>
      intro T88_0 ls88_0 ii vv k sl14 hmu88_0 X88_0 e88_0 N88_0 Z88_0 h14 hii hkD hv
      refine own_iload X88_0 hx 90 (hb hby own_d4_88) rfl ?_
      refine own_iloadN X88_0 hx 91 (hb hby own_d4_90) rfl ?_
      by_cases hc91_6 : ii < v2
      · refine own_icmpNo X88_0 hx 94 (hb hby own_d4_91) (tlt hc91_6).2.1 ?_
        refine own_aloadN X88_0 hx 95 (hb hby own_d4_94) rfl rfl ?_
        refine own_iload X88_0 hx 97 (hb hby own_d4_95) rfl ?_
        obtain ⟨cl7, Ar7, qv7, S7, M7, H7, G7⟩ := id pV1
        have hin7 : ¬ (ii < 0 ∨ cl7.slots.size ≤ (ii).toNatClampNeg) := inb_of S7 (own_r1 ha h2 h3 (own_stP hc0_1) hii (own_r8 (own_stP hc0_1) (own_l2 q0).2 hv2 hii hc91_6)).2.1
        refine own_st (G' := T88_0.setTop (mkF m 98 #[.val (.ref o1), .val (.int v1), .val (.int v2), .val .null, .val (.int (0 : Int32)), .val (.long (-9223372036854775807 : Int64)), .second, .val (.int v1), .val (.long ((-9223372036854775807 : Int64) / (10 : Int64))), .second, .val (.long vv), .second, .val (.int (1 : Int32)), .val (.int ii), sl14] [(.int (g ii.toNatClampNeg))])) (fun t k => X88_0.baloadBytes hx (j := ii) (v := (.int (g ii.toNatClampNeg))) (by rw [e88_0]; exact Ar7.1) (State.isArrayOf_alike hZ.alike Ar7.2.1) Ar7.2.2 hin7 (H7.at hin7 (own_lstI_get (own_r1 ha h2 h3 (own_stP hc0_1) hii (own_r8 (own_stP hc0_1) (own_l2 q0).2 hv2 hii hc91_6)).2.2)) (g := (mkF m 97 #[.val (.ref o1), .val (.int v1), .val (.int v2), .val .null, .val (.int (0 : Int32)), .val (.long (-9223372036854775807 : Int64)), .second, .val (.int v1), .val (.long ((-9223372036854775807 : Int64) / (10 : Int64))), .second, .val (.long vv), .second, .val (.int (1 : Int32)), .val (.int ii), sl14] [(.int ii), (.ref o1)])) rfl rfl (hb hby own_d4_97) _ k) ?_
        refine own_bipush X88_0 hx 100 (48 : Int32) (hb hby own_d4_98) rfl ?_
        refine own_isub X88_0 hx 101 (hb hby own_d4_100) ?_
        refine own_istore X88_0 hx 103 #[.val (.ref o1), .val (.int v1), .val (.int v2), .val .null, .val (.int (0 : Int32)), .val (.long (-9223372036854775807 : Int64)), .second, .val (.int v1), .val (.long ((-9223372036854775807 : Int64) / (10 : Int64))), .second, .val (.long vv), .second, .val (.int (1 : Int32)), .val (.int ii), .val (.int ((g ii.toNatClampNeg) - (48 : Int32)))] (hb hby own_d4_101) (Jvm.Free.XS.store1 rfl h14 rfl) ?_
        refine own_iload X88_0 hx 105 (hb hby own_d4_103) rfl ?_
        refine own_ifNo X88_0 hx 108 (hb hby own_d4_105) (flt ((own_r3 (own_r1 ha h2 h3 (own_stP hc0_1) hii (own_r8 (own_stP hc0_1) (own_l2 q0).2 hv2 hii hc91_6)).1).1 : ¬ (((g ii.toNatClampNeg) - (48 : Int32)) < (0 : Int32)))).1 ?_
        refine own_iload X88_0 hx 110 (hb hby own_d4_108) rfl ?_
        refine own_bipush X88_0 hx 112 (9 : Int32) (hb hby own_d4_110) rfl ?_
        refine own_icmpYes X88_0 hx 129 (hb hby own_d4_112) (flt ((own_r3 (own_r1 ha h2 h3 (own_stP hc0_1) hii (own_r8 (own_stP hc0_1) (own_l2 q0).2 hv2 hii hc91_6)).1).2 : ¬ ((9 : Int32) < ((g ii.toNatClampNeg) - (48 : Int32))))).2.2.2 ?_
        refine own_iload X88_0 hx 131 (hb hby own_d4_129) rfl ?_
        refine own_lload X88_0 hx 133 (hb hby own_d4_131) rfl ?_
        refine own_lload X88_0 hx 135 (hb hby own_d4_133) rfl ?_
        refine own_lcmp X88_0 hx 136 (hb hby own_d4_135) ?_
        refine own_ifNo X88_0 hx 139 (hb hby own_d4_136) (flt (mt (lw_lt _ _).mp ((own_r6 (own_limP hc0_1).1 (own_limP hc0_1).2 (own_r8 (own_stP hc0_1) (own_l2 q0).2 hv2 hii hc91_6) hv (own_r1 ha h2 h3 (own_stP hc0_1) hii (own_r8 (own_stP hc0_1) (own_l2 q0).2 hv2 hii hc91_6)).1).1 : ¬ (vv < ((-9223372036854775807 : Int64) / (10 : Int64)))))).1 ?_
        refine own_lload X88_0 hx 141 (hb hby own_d4_139) rfl ?_
        refine own_ldcL X88_0 hx 144 hown (mvT hZ (hw _ (List.mem_of_getElem? (i := 7) rfl))) (hb hby own_d4_141) ?_
        refine own_lmul X88_0 hx 145 (hb hby own_d4_144) ?_
        refine own_lload X88_0 hx 147 (hb hby own_d4_145) rfl ?_
        refine own_iload X88_0 hx 149 (hb hby own_d4_147) rfl ?_
        refine own_i2l X88_0 hx 150 (hb hby own_d4_149) ?_
        refine own_ladd X88_0 hx 151 (hb hby own_d4_150) ?_
        refine own_lcmp X88_0 hx 152 (hb hby own_d4_151) ?_
        refine own_ifNo X88_0 hx 155 (hb hby own_d4_152) (flt (mt (lw_lt _ _).mp ((own_r6 (own_limP hc0_1).1 (own_limP hc0_1).2 (own_r8 (own_stP hc0_1) (own_l2 q0).2 hv2 hii hc91_6) hv (own_r1 ha h2 h3 (own_stP hc0_1) hii (own_r8 (own_stP hc0_1) (own_l2 q0).2 hv2 hii hc91_6)).1).2.1 : ¬ ((vv * (10 : Int64)) < ((-9223372036854775807 : Int64) + (((g ii.toNatClampNeg) - (48 : Int32)).toInt64)))))).1 ?_
        refine own_iconst X88_0 hx 156 (1 : Int32) (hb hby own_d4_155) rfl ?_
        refine own_goto X88_0 hx 160 (hb hby own_d4_156) ?_
        refine own_iand X88_0 hx 161 (hb hby own_d4_160) ?_
        show own_Gs p e below _ (T88_0.setTop (mkF m 161 #[.val (.ref o1), .val (.int v1), .val (.int v2), .val .null, .val (.int (0 : Int32)), .val (.long (-9223372036854775807 : Int64)), .second, .val (.int v1), .val (.long ((-9223372036854775807 : Int64) / (10 : Int64))), .second, .val (.long vv), .second, .val (.int (1 : Int32)), .val (.int ii), .val (.int ((g ii.toNatClampNeg) - (48 : Int32)))] [(.int (1 : Int32))]))
        refine own_istore X88_0 hx 163 #[.val (.ref o1), .val (.int v1), .val (.int v2), .val .null, .val (.int (0 : Int32)), .val (.long (-9223372036854775807 : Int64)), .second, .val (.int v1), .val (.long ((-9223372036854775807 : Int64) / (10 : Int64))), .second, .val (.long vv), .second, .val (.int (1 : Int32)), .val (.int ii), .val (.int ((g ii.toNatClampNeg) - (48 : Int32)))] (hb hby own_d4_161) rfl ?_
        refine own_lload X88_0 hx 165 (hb hby own_d4_163) rfl ?_
        refine own_ldcL X88_0 hx 168 hown (mvT hZ (hw _ (List.mem_of_getElem? (i := 7) rfl))) (hb hby own_d4_165) ?_
        refine own_lmul X88_0 hx 169 (hb hby own_d4_168) ?_
        refine own_iload X88_0 hx 171 (hb hby own_d4_169) rfl ?_
        refine own_i2l X88_0 hx 172 (hb hby own_d4_171) ?_
        refine own_lsub X88_0 hx 173 (hb hby own_d4_172) ?_
        refine own_lstore X88_0 hx 175 #[.val (.ref o1), .val (.int v1), .val (.int v2), .val .null, .val (.int (0 : Int32)), .val (.long (-9223372036854775807 : Int64)), .second, .val (.int v1), .val (.long ((-9223372036854775807 : Int64) / (10 : Int64))), .second, .val (.long ((vv * (10 : Int64)) - (((g ii.toNatClampNeg) - (48 : Int32)).toInt64))), .second, .val (.int (1 : Int32)), .val (.int ii), .val (.int ((g ii.toNatClampNeg) - (48 : Int32)))] (hb hby own_d4_173) rfl ?_
        refine own_iinc X88_0 hx 178 (1 : Int32) #[.val (.ref o1), .val (.int v1), .val (.int v2), .val .null, .val (.int (0 : Int32)), .val (.long (-9223372036854775807 : Int64)), .second, .val (.int v1), .val (.long ((-9223372036854775807 : Int64) / (10 : Int64))), .second, .val (.long ((vv * (10 : Int64)) - (((g ii.toNatClampNeg) - (48 : Int32)).toInt64))), .second, .val (.int (1 : Int32)), .val (.int (ii + (1 : Int32))), .val (.int ((g ii.toNatClampNeg) - (48 : Int32)))] (hb hby own_d4_175) rfl rfl rfl ?_
        refine own_goto X88_0 hx 88 (hb hby own_d4_178) ?_
        exact ih88_0 _ (by rw [← hmu88_0]; exact own_dec2 (own_r8 (own_stP hc0_1) (own_l2 q0).2 hv2 hii hc91_6)) T88_0 _ (ii + (1 : Int32)) ((vv * (10 : Int64)) - (((g ii.toNatClampNeg) - (48 : Int32)).toInt64)) (k + 1) (.val (.int ((g ii.toNatClampNeg) - (48 : Int32))) : Slot) rfl X88_0 e88_0 N88_0 Z88_0 (One.val rfl : One (.val (.int ((g ii.toNatClampNeg) - (48 : Int32))) : Slot)) (own_r10 (own_k0 h2) (own_st04 ha (own_stP hc0_1)) (own_r8 (own_stP hc0_1) (own_l2 q0).2 hv2 hii hc91_6) hii : (ii + (1 : Int32)).toInt = v1.toInt + ((k + 1) : Int)) ((own_r8 (own_stP hc0_1) (own_l2 q0).2 hv2 hii hc91_6) : (k + 1) ≤ D + 1) ((own_r6 (own_limP hc0_1).1 (own_limP hc0_1).2 (own_r8 (own_stP hc0_1) (own_l2 q0).2 hv2 hii hc91_6) hv (own_r1 ha h2 h3 (own_stP hc0_1) hii (own_r8 (own_stP hc0_1) (own_l2 q0).2 hv2 hii hc91_6)).1).2.2 : ((vv * (10 : Int64)) - (((g ii.toNatClampNeg) - (48 : Int32)).toInt64)).toInt = -((q0.toInt.natAbs / 10 ^ (D + 1 - (k + 1)) : Nat) : Int))
      · refine own_icmpYes X88_0 hx 181 (hb hby own_d4_91) (flt hc91_6).2.1 ?_
        refine own_iload X88_0 hx 183 (hb hby own_d4_181) rfl ?_
        refine own_ifYes X88_0 hx 200 (hb hby own_d4_183) (feq (by decide : ¬ ((1 : Int32) = (0 : Int32)))).2 ?_
        refine own_iload X88_0 hx 202 (hb hby own_d4_200) rfl ?_
        refine own_ifYes X88_0 hx 210 (hb hby own_d4_202) (teq (rfl : (0 : Int32) = (0 : Int32))).1 ?_
        refine own_lload X88_0 hx 212 (hb hby own_d4_210) rfl ?_
        refine own_lneg X88_0 hx 213 (hb hby own_d4_212) ?_
        exact own_retL (z := (-vv)) (Q := own_Q4 Z o1 v1 v2 q0 D kk g g0 h0 n0) X88_0 hx hrt (hb hby own_d4_213) hlk e88_0 ⟨(own_leafJ (show (-vv) = q0 from own_finP hc0_1 (own_r9 (own_stP hc0_1) (own_l2 q0).2 hv2 hii hkD hc91_6) hv)), N88_0, rfl⟩ (by decide) (by decide)
    exact loop88_0 _ s₁ _ v1 (0 : Int64) 0 (.unset : Slot) rfl X0 e0 N0 Z0 (One.u : One (.unset : Slot)) ((Int.add_zero _).symm : v1.toInt = v1.toInt + (0 : Int)) (Nat.zero_le _ : 0 ≤ D + 1) (own_v0 h2.2 : (0 : Int64).toInt = -((q0.toInt.natAbs / 10 ^ (D + 1 - 0) : Nat) : Int))
theorem own_d3_0 : decode prog_10_method_7_code 0 = .ok (.aload_n 0, 1) := by decide +kernel
theorem own_d3_1 : decode prog_10_method_7_code 1 = .ok (.iload_n 1, 1) := by decide +kernel
theorem own_d3_2 : decode prog_10_method_7_code 2 = .ok (.iload_n 2, 1) := by decide +kernel
theorem own_d3_3 : decode prog_10_method_7_code 3 = .ok (.aconst_null, 1) := by decide +kernel
theorem own_d3_4 : decode prog_10_method_7_code 4 = .ok (.invokestatic 67, 3) := by decide +kernel
theorem own_d3_7 : decode prog_10_method_7_code 7 = .ok (.lreturn, 1) := by decide +kernel
theorem own_pd0 : parseMethodDescriptor "([BIILjava/lang/String;)J" = some ⟨[(.array .byte), .int, .int, (.object "java/lang/String")], some .long⟩ := by decide +kernel
theorem own_ef3 (m : MethodId) (o1 : Addr) (v1 : Int32) (v2 : Int32) : entryFrame m #[(.ref o1), (.int v1), (.int v2)] 3 = mkF m 0 #[.val (.ref o1), .val (.int v1), .val (.int v2)] [] := by first | (simp [entryFrame, mkF, argsToLocals, Value.category]; done) | rfl
def own_Q3 (Z : State) (o1 : Addr) (v1 : Int32) (v2 : Int32) (q0 : Int64) (D : Nat) (kk : ClassId) (g : Nat → Int32) (g0 : Nat → Int32) (h0 : Heap) (n0 : Nat) (v : Option Value) (h : Heap) (L : List Loc) : Prop := v = some (.long q0) ∧ Fr n0 L ∧ h = h0
set_option maxRecDepth 65536 in
set_option maxHeartbeats 40000000 in
theorem own_rm3 (l : Launch) (Z : State) (a0 : Array Value) (hw : ∀ d ∈ tables_1, d.before a0 Z = true) (ws : List Jvm.Cond) (o1 : Addr) (v1 : Int32) (v2 : Int32) (q0 : Int64) (D : Nat) (kk : ClassId) (g : Nat → Int32) (g0 : Nat → Int32) (h0 : Heap) (n0 : Nat) (Z0 : n0 ≤ h0.size) (pV1 : Arv Z h0 o1 kk .byte (24 : Int32) (own_lstI 24 g) (.int (0 : Int32))) (ha : 0 ≤ v1.toInt ∧ v1.toInt ≤ 3) (hv2 : v2.toInt = v1.toInt + ((own_l0 q0 + D : Nat) : Int)) (h2 : (D = 0 ∨ 10 ^ D ≤ q0.toInt.natAbs) ∧ q0.toInt.natAbs < 10 ^ (D + 1)) (h3 : ∀ y, g y = own_out q0 D v1.toInt.toNat g0 y) :
    MetFree l (⟨"com/example/deltalog/deltalog/ColumnType", "parseInt", "([BII)J"⟩ : MethodName) (head1 (Jvm.Cond.code (⟨"com/example/deltalog/deltalog/ColumnType", "parseInt", "([BII)J"⟩ : MethodName) prog_10_method_7_code 3 (some .long) :: ws) ({ frames := 1, cells := 0, slots := 0, locals := 26 } : Room)) (fun a U => a = #[(.ref o1), (.int v1), (.int v2)] ∧ Z.Warmed39 U.vm ∧ U.heap = h0) (fun _ _ _ _ _ => True) (fun _ U o U' => ∃ v L, o = .returned v ∧ own_Q3 Z o1 v1 v2 q0 D kk g g0 h0 n0 v U'.heap L ∧ FrameEnd U o U' L ({ frames := 1, cells := 0, slots := 0, locals := 26 } : Room).cells ({ frames := 1, cells := 0, slots := 0, locals := 26 } : Room).slots) := by
  refine MetFree.of_bodySF (plainFor_of_name own_pn0) hisR ?_
  intro p e s m args below meth c s₁ Bd hml0 hP hK
  obtain ⟨rfl, hZ, hh⟩ := hP
  have hx := Bd.exec
  have hby := Bd.bytes
  have hlk := Bd.notSynchronized
  have hrt := Bd.returns
  have hml : c.maxLocals = 3 := hml0
  have hown : s.vm.findClass "com/example/deltalog/deltalog/ColumnType" = some m.cls := findClass_of_methodNamed Bd.named
  have hnm := (name_of_methodNamed Bd.named Bd.method).1
  have X0 : Stand p l e ({ frames := 1, cells := 0, slots := 0, locals := 26 } : Room) s m #[(.ref o1), (.int v1), (.int v2)] below meth c s₁ [] 0 0 := Stand.of_body Bd
  have e0 : s₁.heap = h0 := by rw [← hh, Bd.state]; rfl
  have N0 := Fr.nil n0
  refine own_in (own_ef3 m o1 v1 v2) ?_
  refine own_aloadN X0 hx 1 (hb hby own_d3_0) rfl rfl ?_
  refine own_iloadN X0 hx 2 (hb hby own_d3_1) rfl ?_
  refine own_iloadN X0 hx 3 (hb hby own_d3_2) rfl ?_
  refine own_aconstNull X0 hx 4 (hb hby own_d3_3) ?_
  obtain ⟨_, _, ⟨T1, Lx1, kc1, nc1⟩, -, X1, ⟨Lc1, hQ1, lq1, yq1, zq1⟩, st1⟩ := Jvm.LawKit.callS X0 hx (y := (⟨"com/example/deltalog/deltalog/ColumnType", "intValue", "([BIILjava/lang/String;)J"⟩ : MethodName)) hown (mvT hZ (hw _ (List.mem_of_getElem? (i := 15) rfl))) (mvT hZ (hw _ (List.mem_of_getElem? (i := 16) rfl))) (mvT hZ (hw _ (List.mem_of_getElem? (i := 3) rfl))) (mvT hZ (hw _ (List.mem_of_getElem? (i := 17) rfl))) (by decide) (backOf (W := 0) (own_rm4 l Z a0 hw [] o1 v1 v2 q0 D kk g g0 h0 n0 Z0 pV1 (by assumption : 0 ≤ v1.toInt ∧ v1.toInt ≤ 3) (by assumption : v2.toInt = v1.toInt + ((own_l0 q0 + D : Nat) : Int)) (by assumption : (D = 0 ∨ 10 ^ D ≤ q0.toInt.natAbs) ∧ q0.toInt.natAbs < 10 ^ (D + 1)) (by assumption : ∀ y, g y = own_out q0 D v1.toInt.toNat g0 y)) hZ (hw _ (List.mem_of_getElem? (i := 17) rfl)) (hw _ (List.mem_of_getElem? (i := 3) rfl)) (by decide) (by decide)) (g := (mkF m 4 #[.val (.ref o1), .val (.int v1), .val (.int v2)] [.null, (.int v2), (.int v1), (.ref o1)])) rfl (by rw [hml]; rfl) (argsL := [(.ref o1), (.int v1), (.int v2), .null]) (rest := []) (lenOf own_pd0 rfl) rfl (by show 2 * 0 + _ ≤ _; exact Nat.le_of_eq rfl) (hb hby own_d3_4) (fun _ _ => ⟨rfl, e0, (by decide : 0 + 0 ≤ _), (by decide : 0 + 0 ≤ _)⟩)
  dsimp only [Pt.U, Pt.locs, Pt.cells, Pt.slots] at X1 lq1 yq1 zq1 st1 hQ1
  subst lq1 yq1 zq1
  obtain ⟨rfl, Nq1, eh1⟩ := hQ1
  have N1 := Fr.app N0 Nq1
  refine own_st (G' := T1.setTop (mkF m 7 #[.val (.ref o1), .val (.int v1), .val (.int v2)] [(.long q0)])) st1 ?_
  obtain ⟨_, X1h, N1h⟩ := own_hide X1 N1
  exact own_retL (z := q0) (Q := own_Q3 Z o1 v1 v2 q0 D kk g g0 h0 n0) X1h hx hrt (hb hby own_d3_7) hlk eh1 ⟨rfl, N1h, rfl⟩ (by decide) (by decide)
theorem own_pd1 : parseMethodDescriptor "(J[BI)I" = some ⟨[.long, (.array .byte), .int], some .int⟩ := by decide +kernel
theorem own_pd2 : parseMethodDescriptor "([BIIIB)Z" = some ⟨[(.array .byte), .int, .int, .int, .byte], some .boolean⟩ := by decide +kernel
theorem own_pd3 : parseMethodDescriptor "([BII)J" = some ⟨[(.array .byte), .int, .int], some .long⟩ := by decide +kernel
theorem own_ef0 (m : MethodId) (q1 : Int64) (v2 : Int32) (v3 : Int32) (v4 : Int32) : entryFrame m #[(.long q1), (.int v2), (.int v3), (.int v4)] maxLocals = mkF m 0 #[.val (.long q1), .second, .val (.int v2), .val (.int v3), .val (.int v4), .unset, .unset, .unset, .unset, .unset, .unset, .unset, .unset, .unset, .unset, .unset] [] := by first | (simp [entryFrame, mkF, argsToLocals, Value.category, maxLocals]; done) | rfl
def own_Q0 (Z : State) (q1 : Int64) (v2 : Int32) (v3 : Int32) (v4 : Int32) (h0 : Heap) (n0 : Nat) (v : Option Value) (h : Heap) (L : List Loc) : Prop := v = some (.int (1 : Int32)) ∧ Fr n0 L
set_option maxRecDepth 65536 in
set_option maxHeartbeats 40000000 in
theorem own_rm0 (l : Launch) (Z : State) (a0 : Array Value) (hw : ∀ d ∈ tables_1, d.before a0 Z = true) (ws : List Jvm.Cond) (q1 : Int64) (v2 : Int32) (v3 : Int32) (v4 : Int32) (h0 : Heap) (n0 : Nat) (Z0 : n0 ≤ h0.size)  :
    MetFree l x (head1 (Jvm.Cond.code x code maxLocals ret :: ws) room_1) (fun a U => a = #[(.long q1), (.int v2), (.int v3), (.int v4)] ∧ Z.Warmed39 U.vm ∧ U.heap = h0) (fun _ _ _ _ _ => True) (fun _ U o U' => ∃ v L, o = .returned v ∧ own_Q0 Z q1 v2 v3 v4 h0 n0 v U'.heap L ∧ FrameEnd U o U' L room_1.cells room_1.slots) := by
  refine MetFree.of_bodySF (plainFor_of_name own_pn1) hisR ?_
  intro p e s m args below meth c s₁ Bd hml0 hP hK
  obtain ⟨rfl, hZ, hh⟩ := hP
  have hx := Bd.exec
  have hby := Bd.bytes
  have hlk := Bd.notSynchronized
  have hrt := Bd.returns
  have hml : c.maxLocals = 16 := hml0
  have hown : s.vm.findClass "com/example/deltalog/deltalog/ColumnTypeWriteIntPinLaw" = some m.cls := findClass_of_methodNamed Bd.named
  have hnm := (name_of_methodNamed Bd.named Bd.method).1
  have X0 : Stand p l e room_1 s m #[(.long q1), (.int v2), (.int v3), (.int v4)] below meth c s₁ [] 0 0 := Stand.of_body Bd
  have e0 : s₁.heap = h0 := by rw [← hh, Bd.state]; rfl
  have N0 := Fr.nil n0
  refine own_in (own_ef0 m q1 v2 v3 v4) ?_
  refine own_lloadN X0 hx 1 (hb hby at_0) rfl ?_
  refine own_iloadN X0 hx 2 (hb hby at_1) rfl ?_
  refine own_bipush X0 hx 4 (63 : Int32) (hb hby at_2) rfl ?_
  refine own_iand X0 hx 5 (hb hby at_4) ?_
  refine own_lshr X0 hx 6 (hb hby at_5) ?_
  generalize (q1 >>> ((v2 &&& (63 : Int32)) &&& 0x3f).toInt64) = qq
  refine own_lstore X0 hx 8 #[.val (.long q1), .second, .val (.int v2), .val (.int v3), .val (.int v4), .val (.long qq), .second, .unset, .unset, .unset, .unset, .unset, .unset, .unset, .unset, .unset] (hb hby at_6) rfl ?_
  refine own_iloadN X0 hx 9 (hb hby at_8) rfl ?_
  refine own_iconst X0 hx 10 (3 : Int32) (hb hby at_9) rfl ?_
  refine own_iand X0 hx 11 (hb hby at_10) ?_
  have ha := own_03 v3
  generalize (v3 &&& (3 : Int32)) = aa at ha ⊢
  refine own_istore X0 hx 13 #[.val (.long q1), .second, .val (.int v2), .val (.int v3), .val (.int v4), .val (.long qq), .second, .val (.int aa), .unset, .unset, .unset, .unset, .unset, .unset, .unset, .unset] (hb hby at_11) rfl ?_
  refine own_iload X0 hx 15 (hb hby at_13) rfl ?_
  refine own_i2b X0 hx 16 (hb hby at_15) ?_
  have hff := own_bb v4
  generalize (v4.toInt8.toInt32) = ff at hff ⊢
  refine own_istore X0 hx 18 #[.val (.long q1), .second, .val (.int v2), .val (.int v3), .val (.int v4), .val (.long qq), .second, .val (.int aa), .val (.int ff), .unset, .unset, .unset, .unset, .unset, .unset, .unset] (hb hby at_16) rfl ?_
  refine own_bipush X0 hx 20 (24 : Int32) (hb hby at_18) rfl ?_
  obtain ⟨T1, h1, k1, X1, e1, E1, A1, st1⟩ := newP X0 hx hZ (hw _ (List.mem_of_getElem? (i := 0) rfl)) e0 (g := (mkF m 20 #[.val (.long q1), .second, .val (.int v2), .val (.int v3), .val (.int v4), .val (.long qq), .second, .val (.int aa), .val (.int ff), .unset, .unset, .unset, .unset, .unset, .unset, .unset] [(.int (24 : Int32))])) rfl (hb hby at_20) rfl (by decide) (cap := 24) (by decide) (by decide) (by decide) (by decide)
  obtain ⟨b1, g1⟩ : ∃ z, z = h0.size := ⟨_, rfl⟩
  rw [← g1] at A1 st1
  have gt_b1 : n0 ≤ b1 := Nat.le_trans Z0 (Nat.le_of_eq g1.symm)
  have V1 : Arv Z h1 b1 k1 .byte (24 : Int32) [(.int (0 : Int32)), (.int (0 : Int32)), (.int (0 : Int32)), (.int (0 : Int32)), (.int (0 : Int32)), (.int (0 : Int32)), (.int (0 : Int32)), (.int (0 : Int32)), (.int (0 : Int32)), (.int (0 : Int32)), (.int (0 : Int32)), (.int (0 : Int32)), (.int (0 : Int32)), (.int (0 : Int32)), (.int (0 : Int32)), (.int (0 : Int32)), (.int (0 : Int32)), (.int (0 : Int32)), (.int (0 : Int32)), (.int (0 : Int32)), (.int (0 : Int32)), (.int (0 : Int32)), (.int (0 : Int32)), (.int (0 : Int32))] (.int (0 : Int32)) := (Arv.new A1 (by decide)).pad (pad_rep [] (.int (0 : Int32)) 24)
  have Z2 := Nat.le_trans Z0 E1.1
  refine own_st (G' := T1.setTop (mkF m 22 #[.val (.long q1), .second, .val (.int v2), .val (.int v3), .val (.int v4), .val (.long qq), .second, .val (.int aa), .val (.int ff), .unset, .unset, .unset, .unset, .unset, .unset, .unset] [(.ref b1)])) st1 ?_
  obtain ⟨_, X1h, N1h⟩ := own_hide X1 N0
  refine own_dup X1h hx 23 (hb hby at_22) rfl ?_
  refine own_iconst X1h hx 24 (0 : Int32) (hb hby at_23) rfl ?_
  refine own_iload X1h hx 26 (hb hby at_24) rfl ?_
  obtain ⟨cl3, Ar3, qv3, S3, M3, H3, G3⟩ := id V1
  have hin3 : ¬ ((0 : Int32) < 0 ∨ cl3.slots.size ≤ ((0 : Int32)).toNatClampNeg) := inb_of S3 ⟨by decide, by decide⟩
  obtain ⟨T3, h3, X3, e3, W3, st3⟩ := stB X1h hx hZ e1 Ar3 (j := (0 : Int32)) hin3 (g := (mkF m 26 #[.val (.long q1), .second, .val (.int v2), .val (.int v3), .val (.int v4), .val (.long qq), .second, .val (.int aa), .val (.int ff), .unset, .unset, .unset, .unset, .unset, .unset, .unset] [(.int ff), (.int (0 : Int32)), (.ref b1), (.ref b1)])) rfl rfl (hb hby at_26)
  have V3 : Arv Z h3 b1 k1 .byte (24 : Int32) [(.int (nar .byte ff)), (.int (0 : Int32)), (.int (0 : Int32)), (.int (0 : Int32)), (.int (0 : Int32)), (.int (0 : Int32)), (.int (0 : Int32)), (.int (0 : Int32)), (.int (0 : Int32)), (.int (0 : Int32)), (.int (0 : Int32)), (.int (0 : Int32)), (.int (0 : Int32)), (.int (0 : Int32)), (.int (0 : Int32)), (.int (0 : Int32)), (.int (0 : Int32)), (.int (0 : Int32)), (.int (0 : Int32)), (.int (0 : Int32)), (.int (0 : Int32)), (.int (0 : Int32)), (.int (0 : Int32)), (.int (0 : Int32))] (.int (0 : Int32)) := Arv.set Ar3 qv3 S3 M3 H3 G3 (fits_nar_byte _) W3 0 rfl (Nat.le_of_ble_eq_true rfl)
  have N3 := Fr.snoc X3 N1h gt_b1
  have Z4 := Nat.le_trans Z2 (Nat.le_of_eq W3.size.symm)
  refine own_st (G' := T3.setTop (mkF m 27 #[.val (.long q1), .second, .val (.int v2), .val (.int v3), .val (.int v4), .val (.long qq), .second, .val (.int aa), .val (.int ff), .unset, .unset, .unset, .unset, .unset, .unset, .unset] [(.ref b1)])) st3 ?_
  obtain ⟨_, X3h, N3h⟩ := own_hide X3 N3
  refine own_dup X3h hx 28 (hb hby at_27) rfl ?_
  refine own_iconst X3h hx 29 (1 : Int32) (hb hby at_28) rfl ?_
  refine own_iload X3h hx 31 (hb hby at_29) rfl ?_
  obtain ⟨cl5, Ar5, qv5, S5, M5, H5, G5⟩ := id V3
  have hin5 : ¬ ((1 : Int32) < 0 ∨ cl5.slots.size ≤ ((1 : Int32)).toNatClampNeg) := inb_of S5 ⟨by decide, by decide⟩
  obtain ⟨T5, h5, X5, e5, W5, st5⟩ := stB X3h hx hZ e3 Ar5 (j := (1 : Int32)) hin5 (g := (mkF m 31 #[.val (.long q1), .second, .val (.int v2), .val (.int v3), .val (.int v4), .val (.long qq), .second, .val (.int aa), .val (.int ff), .unset, .unset, .unset, .unset, .unset, .unset, .unset] [(.int ff), (.int (1 : Int32)), (.ref b1), (.ref b1)])) rfl rfl (hb hby at_31)
  have V5 : Arv Z h5 b1 k1 .byte (24 : Int32) [(.int (nar .byte ff)), (.int (nar .byte ff)), (.int (0 : Int32)), (.int (0 : Int32)), (.int (0 : Int32)), (.int (0 : Int32)), (.int (0 : Int32)), (.int (0 : Int32)), (.int (0 : Int32)), (.int (0 : Int32)), (.int (0 : Int32)), (.int (0 : Int32)), (.int (0 : Int32)), (.int (0 : Int32)), (.int (0 : Int32)), (.int (0 : Int32)), (.int (0 : Int32)), (.int (0 : Int32)), (.int (0 : Int32)), (.int (0 : Int32)), (.int (0 : Int32)), (.int (0 : Int32)), (.int (0 : Int32)), (.int (0 : Int32))] (.int (0 : Int32)) := Arv.set Ar5 qv5 S5 M5 H5 G5 (fits_nar_byte _) W5 1 rfl (Nat.le_of_ble_eq_true rfl)
  have N5 := Fr.snoc X5 N3h gt_b1
  have Z6 := Nat.le_trans Z4 (Nat.le_of_eq W5.size.symm)
  refine own_st (G' := T5.setTop (mkF m 32 #[.val (.long q1), .second, .val (.int v2), .val (.int v3), .val (.int v4), .val (.long qq), .second, .val (.int aa), .val (.int ff), .unset, .unset, .unset, .unset, .unset, .unset, .unset] [(.ref b1)])) st5 ?_
  obtain ⟨_, X5h, N5h⟩ := own_hide X5 N5
  refine own_dup X5h hx 33 (hb hby at_32) rfl ?_
  refine own_iconst X5h hx 34 (2 : Int32) (hb hby at_33) rfl ?_
  refine own_iload X5h hx 36 (hb hby at_34) rfl ?_
  obtain ⟨cl7, Ar7, qv7, S7, M7, H7, G7⟩ := id V5
  have hin7 : ¬ ((2 : Int32) < 0 ∨ cl7.slots.size ≤ ((2 : Int32)).toNatClampNeg) := inb_of S7 ⟨by decide, by decide⟩
  obtain ⟨T7, h7, X7, e7, W7, st7⟩ := stB X5h hx hZ e5 Ar7 (j := (2 : Int32)) hin7 (g := (mkF m 36 #[.val (.long q1), .second, .val (.int v2), .val (.int v3), .val (.int v4), .val (.long qq), .second, .val (.int aa), .val (.int ff), .unset, .unset, .unset, .unset, .unset, .unset, .unset] [(.int ff), (.int (2 : Int32)), (.ref b1), (.ref b1)])) rfl rfl (hb hby at_36)
  have V7 : Arv Z h7 b1 k1 .byte (24 : Int32) [(.int (nar .byte ff)), (.int (nar .byte ff)), (.int (nar .byte ff)), (.int (0 : Int32)), (.int (0 : Int32)), (.int (0 : Int32)), (.int (0 : Int32)), (.int (0 : Int32)), (.int (0 : Int32)), (.int (0 : Int32)), (.int (0 : Int32)), (.int (0 : Int32)), (.int (0 : Int32)), (.int (0 : Int32)), (.int (0 : Int32)), (.int (0 : Int32)), (.int (0 : Int32)), (.int (0 : Int32)), (.int (0 : Int32)), (.int (0 : Int32)), (.int (0 : Int32)), (.int (0 : Int32)), (.int (0 : Int32)), (.int (0 : Int32))] (.int (0 : Int32)) := Arv.set Ar7 qv7 S7 M7 H7 G7 (fits_nar_byte _) W7 2 rfl (Nat.le_of_ble_eq_true rfl)
  have N7 := Fr.snoc X7 N5h gt_b1
  have Z8 := Nat.le_trans Z6 (Nat.le_of_eq W7.size.symm)
  refine own_st (G' := T7.setTop (mkF m 37 #[.val (.long q1), .second, .val (.int v2), .val (.int v3), .val (.int v4), .val (.long qq), .second, .val (.int aa), .val (.int ff), .unset, .unset, .unset, .unset, .unset, .unset, .unset] [(.ref b1)])) st7 ?_
  obtain ⟨_, X7h, N7h⟩ := own_hide X7 N7
  refine own_dup X7h hx 38 (hb hby at_37) rfl ?_
  refine own_iconst X7h hx 39 (3 : Int32) (hb hby at_38) rfl ?_
  refine own_iload X7h hx 41 (hb hby at_39) rfl ?_
  obtain ⟨cl9, Ar9, qv9, S9, M9, H9, G9⟩ := id V7
  have hin9 : ¬ ((3 : Int32) < 0 ∨ cl9.slots.size ≤ ((3 : Int32)).toNatClampNeg) := inb_of S9 ⟨by decide, by decide⟩
  obtain ⟨T9, h9, X9, e9, W9, st9⟩ := stB X7h hx hZ e7 Ar9 (j := (3 : Int32)) hin9 (g := (mkF m 41 #[.val (.long q1), .second, .val (.int v2), .val (.int v3), .val (.int v4), .val (.long qq), .second, .val (.int aa), .val (.int ff), .unset, .unset, .unset, .unset, .unset, .unset, .unset] [(.int ff), (.int (3 : Int32)), (.ref b1), (.ref b1)])) rfl rfl (hb hby at_41)
  have V9 : Arv Z h9 b1 k1 .byte (24 : Int32) [(.int (nar .byte ff)), (.int (nar .byte ff)), (.int (nar .byte ff)), (.int (nar .byte ff)), (.int (0 : Int32)), (.int (0 : Int32)), (.int (0 : Int32)), (.int (0 : Int32)), (.int (0 : Int32)), (.int (0 : Int32)), (.int (0 : Int32)), (.int (0 : Int32)), (.int (0 : Int32)), (.int (0 : Int32)), (.int (0 : Int32)), (.int (0 : Int32)), (.int (0 : Int32)), (.int (0 : Int32)), (.int (0 : Int32)), (.int (0 : Int32)), (.int (0 : Int32)), (.int (0 : Int32)), (.int (0 : Int32)), (.int (0 : Int32))] (.int (0 : Int32)) := Arv.set Ar9 qv9 S9 M9 H9 G9 (fits_nar_byte _) W9 3 rfl (Nat.le_of_ble_eq_true rfl)
  have N9 := Fr.snoc X9 N7h gt_b1
  have Z10 := Nat.le_trans Z8 (Nat.le_of_eq W9.size.symm)
  refine own_st (G' := T9.setTop (mkF m 42 #[.val (.long q1), .second, .val (.int v2), .val (.int v3), .val (.int v4), .val (.long qq), .second, .val (.int aa), .val (.int ff), .unset, .unset, .unset, .unset, .unset, .unset, .unset] [(.ref b1)])) st9 ?_
  obtain ⟨_, X9h, N9h⟩ := own_hide X9 N9
  refine own_dup X9h hx 43 (hb hby at_42) rfl ?_
  refine own_iconst X9h hx 44 (4 : Int32) (hb hby at_43) rfl ?_
  refine own_iload X9h hx 46 (hb hby at_44) rfl ?_
  obtain ⟨cl11, Ar11, qv11, S11, M11, H11, G11⟩ := id V9
  have hin11 : ¬ ((4 : Int32) < 0 ∨ cl11.slots.size ≤ ((4 : Int32)).toNatClampNeg) := inb_of S11 ⟨by decide, by decide⟩
  obtain ⟨T11, h11, X11, e11, W11, st11⟩ := stB X9h hx hZ e9 Ar11 (j := (4 : Int32)) hin11 (g := (mkF m 46 #[.val (.long q1), .second, .val (.int v2), .val (.int v3), .val (.int v4), .val (.long qq), .second, .val (.int aa), .val (.int ff), .unset, .unset, .unset, .unset, .unset, .unset, .unset] [(.int ff), (.int (4 : Int32)), (.ref b1), (.ref b1)])) rfl rfl (hb hby at_46)
  have V11 : Arv Z h11 b1 k1 .byte (24 : Int32) [(.int (nar .byte ff)), (.int (nar .byte ff)), (.int (nar .byte ff)), (.int (nar .byte ff)), (.int (nar .byte ff)), (.int (0 : Int32)), (.int (0 : Int32)), (.int (0 : Int32)), (.int (0 : Int32)), (.int (0 : Int32)), (.int (0 : Int32)), (.int (0 : Int32)), (.int (0 : Int32)), (.int (0 : Int32)), (.int (0 : Int32)), (.int (0 : Int32)), (.int (0 : Int32)), (.int (0 : Int32)), (.int (0 : Int32)), (.int (0 : Int32)), (.int (0 : Int32)), (.int (0 : Int32)), (.int (0 : Int32)), (.int (0 : Int32))] (.int (0 : Int32)) := Arv.set Ar11 qv11 S11 M11 H11 G11 (fits_nar_byte _) W11 4 rfl (Nat.le_of_ble_eq_true rfl)
  have N11 := Fr.snoc X11 N9h gt_b1
  have Z12 := Nat.le_trans Z10 (Nat.le_of_eq W11.size.symm)
  refine own_st (G' := T11.setTop (mkF m 47 #[.val (.long q1), .second, .val (.int v2), .val (.int v3), .val (.int v4), .val (.long qq), .second, .val (.int aa), .val (.int ff), .unset, .unset, .unset, .unset, .unset, .unset, .unset] [(.ref b1)])) st11 ?_
  obtain ⟨_, X11h, N11h⟩ := own_hide X11 N11
  refine own_dup X11h hx 48 (hb hby at_47) rfl ?_
  refine own_iconst X11h hx 49 (5 : Int32) (hb hby at_48) rfl ?_
  refine own_iload X11h hx 51 (hb hby at_49) rfl ?_
  obtain ⟨cl13, Ar13, qv13, S13, M13, H13, G13⟩ := id V11
  have hin13 : ¬ ((5 : Int32) < 0 ∨ cl13.slots.size ≤ ((5 : Int32)).toNatClampNeg) := inb_of S13 ⟨by decide, by decide⟩
  obtain ⟨T13, h13, X13, e13, W13, st13⟩ := stB X11h hx hZ e11 Ar13 (j := (5 : Int32)) hin13 (g := (mkF m 51 #[.val (.long q1), .second, .val (.int v2), .val (.int v3), .val (.int v4), .val (.long qq), .second, .val (.int aa), .val (.int ff), .unset, .unset, .unset, .unset, .unset, .unset, .unset] [(.int ff), (.int (5 : Int32)), (.ref b1), (.ref b1)])) rfl rfl (hb hby at_51)
  have V13 : Arv Z h13 b1 k1 .byte (24 : Int32) [(.int (nar .byte ff)), (.int (nar .byte ff)), (.int (nar .byte ff)), (.int (nar .byte ff)), (.int (nar .byte ff)), (.int (nar .byte ff)), (.int (0 : Int32)), (.int (0 : Int32)), (.int (0 : Int32)), (.int (0 : Int32)), (.int (0 : Int32)), (.int (0 : Int32)), (.int (0 : Int32)), (.int (0 : Int32)), (.int (0 : Int32)), (.int (0 : Int32)), (.int (0 : Int32)), (.int (0 : Int32)), (.int (0 : Int32)), (.int (0 : Int32)), (.int (0 : Int32)), (.int (0 : Int32)), (.int (0 : Int32)), (.int (0 : Int32))] (.int (0 : Int32)) := Arv.set Ar13 qv13 S13 M13 H13 G13 (fits_nar_byte _) W13 5 rfl (Nat.le_of_ble_eq_true rfl)
  have N13 := Fr.snoc X13 N11h gt_b1
  have Z14 := Nat.le_trans Z12 (Nat.le_of_eq W13.size.symm)
  refine own_st (G' := T13.setTop (mkF m 52 #[.val (.long q1), .second, .val (.int v2), .val (.int v3), .val (.int v4), .val (.long qq), .second, .val (.int aa), .val (.int ff), .unset, .unset, .unset, .unset, .unset, .unset, .unset] [(.ref b1)])) st13 ?_
  obtain ⟨_, X13h, N13h⟩ := own_hide X13 N13
  refine own_dup X13h hx 53 (hb hby at_52) rfl ?_
  refine own_bipush X13h hx 55 (6 : Int32) (hb hby at_53) rfl ?_
  refine own_iload X13h hx 57 (hb hby at_55) rfl ?_
  obtain ⟨cl15, Ar15, qv15, S15, M15, H15, G15⟩ := id V13
  have hin15 : ¬ ((6 : Int32) < 0 ∨ cl15.slots.size ≤ ((6 : Int32)).toNatClampNeg) := inb_of S15 ⟨by decide, by decide⟩
  obtain ⟨T15, h15, X15, e15, W15, st15⟩ := stB X13h hx hZ e13 Ar15 (j := (6 : Int32)) hin15 (g := (mkF m 57 #[.val (.long q1), .second, .val (.int v2), .val (.int v3), .val (.int v4), .val (.long qq), .second, .val (.int aa), .val (.int ff), .unset, .unset, .unset, .unset, .unset, .unset, .unset] [(.int ff), (.int (6 : Int32)), (.ref b1), (.ref b1)])) rfl rfl (hb hby at_57)
  have V15 : Arv Z h15 b1 k1 .byte (24 : Int32) [(.int (nar .byte ff)), (.int (nar .byte ff)), (.int (nar .byte ff)), (.int (nar .byte ff)), (.int (nar .byte ff)), (.int (nar .byte ff)), (.int (nar .byte ff)), (.int (0 : Int32)), (.int (0 : Int32)), (.int (0 : Int32)), (.int (0 : Int32)), (.int (0 : Int32)), (.int (0 : Int32)), (.int (0 : Int32)), (.int (0 : Int32)), (.int (0 : Int32)), (.int (0 : Int32)), (.int (0 : Int32)), (.int (0 : Int32)), (.int (0 : Int32)), (.int (0 : Int32)), (.int (0 : Int32)), (.int (0 : Int32)), (.int (0 : Int32))] (.int (0 : Int32)) := Arv.set Ar15 qv15 S15 M15 H15 G15 (fits_nar_byte _) W15 6 rfl (Nat.le_of_ble_eq_true rfl)
  have N15 := Fr.snoc X15 N13h gt_b1
  have Z16 := Nat.le_trans Z14 (Nat.le_of_eq W15.size.symm)
  refine own_st (G' := T15.setTop (mkF m 58 #[.val (.long q1), .second, .val (.int v2), .val (.int v3), .val (.int v4), .val (.long qq), .second, .val (.int aa), .val (.int ff), .unset, .unset, .unset, .unset, .unset, .unset, .unset] [(.ref b1)])) st15 ?_
  obtain ⟨_, X15h, N15h⟩ := own_hide X15 N15
  refine own_dup X15h hx 59 (hb hby at_58) rfl ?_
  refine own_bipush X15h hx 61 (7 : Int32) (hb hby at_59) rfl ?_
  refine own_iload X15h hx 63 (hb hby at_61) rfl ?_
  obtain ⟨cl17, Ar17, qv17, S17, M17, H17, G17⟩ := id V15
  have hin17 : ¬ ((7 : Int32) < 0 ∨ cl17.slots.size ≤ ((7 : Int32)).toNatClampNeg) := inb_of S17 ⟨by decide, by decide⟩
  obtain ⟨T17, h17, X17, e17, W17, st17⟩ := stB X15h hx hZ e15 Ar17 (j := (7 : Int32)) hin17 (g := (mkF m 63 #[.val (.long q1), .second, .val (.int v2), .val (.int v3), .val (.int v4), .val (.long qq), .second, .val (.int aa), .val (.int ff), .unset, .unset, .unset, .unset, .unset, .unset, .unset] [(.int ff), (.int (7 : Int32)), (.ref b1), (.ref b1)])) rfl rfl (hb hby at_63)
  have V17 : Arv Z h17 b1 k1 .byte (24 : Int32) [(.int (nar .byte ff)), (.int (nar .byte ff)), (.int (nar .byte ff)), (.int (nar .byte ff)), (.int (nar .byte ff)), (.int (nar .byte ff)), (.int (nar .byte ff)), (.int (nar .byte ff)), (.int (0 : Int32)), (.int (0 : Int32)), (.int (0 : Int32)), (.int (0 : Int32)), (.int (0 : Int32)), (.int (0 : Int32)), (.int (0 : Int32)), (.int (0 : Int32)), (.int (0 : Int32)), (.int (0 : Int32)), (.int (0 : Int32)), (.int (0 : Int32)), (.int (0 : Int32)), (.int (0 : Int32)), (.int (0 : Int32)), (.int (0 : Int32))] (.int (0 : Int32)) := Arv.set Ar17 qv17 S17 M17 H17 G17 (fits_nar_byte _) W17 7 rfl (Nat.le_of_ble_eq_true rfl)
  have N17 := Fr.snoc X17 N15h gt_b1
  have Z18 := Nat.le_trans Z16 (Nat.le_of_eq W17.size.symm)
  refine own_st (G' := T17.setTop (mkF m 64 #[.val (.long q1), .second, .val (.int v2), .val (.int v3), .val (.int v4), .val (.long qq), .second, .val (.int aa), .val (.int ff), .unset, .unset, .unset, .unset, .unset, .unset, .unset] [(.ref b1)])) st17 ?_
  obtain ⟨_, X17h, N17h⟩ := own_hide X17 N17
  refine own_dup X17h hx 65 (hb hby at_64) rfl ?_
  refine own_bipush X17h hx 67 (8 : Int32) (hb hby at_65) rfl ?_
  refine own_iload X17h hx 69 (hb hby at_67) rfl ?_
  obtain ⟨cl19, Ar19, qv19, S19, M19, H19, G19⟩ := id V17
  have hin19 : ¬ ((8 : Int32) < 0 ∨ cl19.slots.size ≤ ((8 : Int32)).toNatClampNeg) := inb_of S19 ⟨by decide, by decide⟩
  obtain ⟨T19, h19, X19, e19, W19, st19⟩ := stB X17h hx hZ e17 Ar19 (j := (8 : Int32)) hin19 (g := (mkF m 69 #[.val (.long q1), .second, .val (.int v2), .val (.int v3), .val (.int v4), .val (.long qq), .second, .val (.int aa), .val (.int ff), .unset, .unset, .unset, .unset, .unset, .unset, .unset] [(.int ff), (.int (8 : Int32)), (.ref b1), (.ref b1)])) rfl rfl (hb hby at_69)
  have V19 : Arv Z h19 b1 k1 .byte (24 : Int32) [(.int (nar .byte ff)), (.int (nar .byte ff)), (.int (nar .byte ff)), (.int (nar .byte ff)), (.int (nar .byte ff)), (.int (nar .byte ff)), (.int (nar .byte ff)), (.int (nar .byte ff)), (.int (nar .byte ff)), (.int (0 : Int32)), (.int (0 : Int32)), (.int (0 : Int32)), (.int (0 : Int32)), (.int (0 : Int32)), (.int (0 : Int32)), (.int (0 : Int32)), (.int (0 : Int32)), (.int (0 : Int32)), (.int (0 : Int32)), (.int (0 : Int32)), (.int (0 : Int32)), (.int (0 : Int32)), (.int (0 : Int32)), (.int (0 : Int32))] (.int (0 : Int32)) := Arv.set Ar19 qv19 S19 M19 H19 G19 (fits_nar_byte _) W19 8 rfl (Nat.le_of_ble_eq_true rfl)
  have N19 := Fr.snoc X19 N17h gt_b1
  have Z20 := Nat.le_trans Z18 (Nat.le_of_eq W19.size.symm)
  refine own_st (G' := T19.setTop (mkF m 70 #[.val (.long q1), .second, .val (.int v2), .val (.int v3), .val (.int v4), .val (.long qq), .second, .val (.int aa), .val (.int ff), .unset, .unset, .unset, .unset, .unset, .unset, .unset] [(.ref b1)])) st19 ?_
  obtain ⟨_, X19h, N19h⟩ := own_hide X19 N19
  refine own_dup X19h hx 71 (hb hby at_70) rfl ?_
  refine own_bipush X19h hx 73 (9 : Int32) (hb hby at_71) rfl ?_
  refine own_iload X19h hx 75 (hb hby at_73) rfl ?_
  obtain ⟨cl21, Ar21, qv21, S21, M21, H21, G21⟩ := id V19
  have hin21 : ¬ ((9 : Int32) < 0 ∨ cl21.slots.size ≤ ((9 : Int32)).toNatClampNeg) := inb_of S21 ⟨by decide, by decide⟩
  obtain ⟨T21, h21, X21, e21, W21, st21⟩ := stB X19h hx hZ e19 Ar21 (j := (9 : Int32)) hin21 (g := (mkF m 75 #[.val (.long q1), .second, .val (.int v2), .val (.int v3), .val (.int v4), .val (.long qq), .second, .val (.int aa), .val (.int ff), .unset, .unset, .unset, .unset, .unset, .unset, .unset] [(.int ff), (.int (9 : Int32)), (.ref b1), (.ref b1)])) rfl rfl (hb hby at_75)
  have V21 : Arv Z h21 b1 k1 .byte (24 : Int32) [(.int (nar .byte ff)), (.int (nar .byte ff)), (.int (nar .byte ff)), (.int (nar .byte ff)), (.int (nar .byte ff)), (.int (nar .byte ff)), (.int (nar .byte ff)), (.int (nar .byte ff)), (.int (nar .byte ff)), (.int (nar .byte ff)), (.int (0 : Int32)), (.int (0 : Int32)), (.int (0 : Int32)), (.int (0 : Int32)), (.int (0 : Int32)), (.int (0 : Int32)), (.int (0 : Int32)), (.int (0 : Int32)), (.int (0 : Int32)), (.int (0 : Int32)), (.int (0 : Int32)), (.int (0 : Int32)), (.int (0 : Int32)), (.int (0 : Int32))] (.int (0 : Int32)) := Arv.set Ar21 qv21 S21 M21 H21 G21 (fits_nar_byte _) W21 9 rfl (Nat.le_of_ble_eq_true rfl)
  have N21 := Fr.snoc X21 N19h gt_b1
  have Z22 := Nat.le_trans Z20 (Nat.le_of_eq W21.size.symm)
  refine own_st (G' := T21.setTop (mkF m 76 #[.val (.long q1), .second, .val (.int v2), .val (.int v3), .val (.int v4), .val (.long qq), .second, .val (.int aa), .val (.int ff), .unset, .unset, .unset, .unset, .unset, .unset, .unset] [(.ref b1)])) st21 ?_
  obtain ⟨_, X21h, N21h⟩ := own_hide X21 N21
  refine own_dup X21h hx 77 (hb hby at_76) rfl ?_
  refine own_bipush X21h hx 79 (10 : Int32) (hb hby at_77) rfl ?_
  refine own_iload X21h hx 81 (hb hby at_79) rfl ?_
  obtain ⟨cl23, Ar23, qv23, S23, M23, H23, G23⟩ := id V21
  have hin23 : ¬ ((10 : Int32) < 0 ∨ cl23.slots.size ≤ ((10 : Int32)).toNatClampNeg) := inb_of S23 ⟨by decide, by decide⟩
  obtain ⟨T23, h23, X23, e23, W23, st23⟩ := stB X21h hx hZ e21 Ar23 (j := (10 : Int32)) hin23 (g := (mkF m 81 #[.val (.long q1), .second, .val (.int v2), .val (.int v3), .val (.int v4), .val (.long qq), .second, .val (.int aa), .val (.int ff), .unset, .unset, .unset, .unset, .unset, .unset, .unset] [(.int ff), (.int (10 : Int32)), (.ref b1), (.ref b1)])) rfl rfl (hb hby at_81)
  have V23 : Arv Z h23 b1 k1 .byte (24 : Int32) [(.int (nar .byte ff)), (.int (nar .byte ff)), (.int (nar .byte ff)), (.int (nar .byte ff)), (.int (nar .byte ff)), (.int (nar .byte ff)), (.int (nar .byte ff)), (.int (nar .byte ff)), (.int (nar .byte ff)), (.int (nar .byte ff)), (.int (nar .byte ff)), (.int (0 : Int32)), (.int (0 : Int32)), (.int (0 : Int32)), (.int (0 : Int32)), (.int (0 : Int32)), (.int (0 : Int32)), (.int (0 : Int32)), (.int (0 : Int32)), (.int (0 : Int32)), (.int (0 : Int32)), (.int (0 : Int32)), (.int (0 : Int32)), (.int (0 : Int32))] (.int (0 : Int32)) := Arv.set Ar23 qv23 S23 M23 H23 G23 (fits_nar_byte _) W23 10 rfl (Nat.le_of_ble_eq_true rfl)
  have N23 := Fr.snoc X23 N21h gt_b1
  have Z24 := Nat.le_trans Z22 (Nat.le_of_eq W23.size.symm)
  refine own_st (G' := T23.setTop (mkF m 82 #[.val (.long q1), .second, .val (.int v2), .val (.int v3), .val (.int v4), .val (.long qq), .second, .val (.int aa), .val (.int ff), .unset, .unset, .unset, .unset, .unset, .unset, .unset] [(.ref b1)])) st23 ?_
  obtain ⟨_, X23h, N23h⟩ := own_hide X23 N23
  refine own_dup X23h hx 83 (hb hby at_82) rfl ?_
  refine own_bipush X23h hx 85 (11 : Int32) (hb hby at_83) rfl ?_
  refine own_iload X23h hx 87 (hb hby at_85) rfl ?_
  obtain ⟨cl25, Ar25, qv25, S25, M25, H25, G25⟩ := id V23
  have hin25 : ¬ ((11 : Int32) < 0 ∨ cl25.slots.size ≤ ((11 : Int32)).toNatClampNeg) := inb_of S25 ⟨by decide, by decide⟩
  obtain ⟨T25, h25, X25, e25, W25, st25⟩ := stB X23h hx hZ e23 Ar25 (j := (11 : Int32)) hin25 (g := (mkF m 87 #[.val (.long q1), .second, .val (.int v2), .val (.int v3), .val (.int v4), .val (.long qq), .second, .val (.int aa), .val (.int ff), .unset, .unset, .unset, .unset, .unset, .unset, .unset] [(.int ff), (.int (11 : Int32)), (.ref b1), (.ref b1)])) rfl rfl (hb hby at_87)
  have V25 : Arv Z h25 b1 k1 .byte (24 : Int32) [(.int (nar .byte ff)), (.int (nar .byte ff)), (.int (nar .byte ff)), (.int (nar .byte ff)), (.int (nar .byte ff)), (.int (nar .byte ff)), (.int (nar .byte ff)), (.int (nar .byte ff)), (.int (nar .byte ff)), (.int (nar .byte ff)), (.int (nar .byte ff)), (.int (nar .byte ff)), (.int (0 : Int32)), (.int (0 : Int32)), (.int (0 : Int32)), (.int (0 : Int32)), (.int (0 : Int32)), (.int (0 : Int32)), (.int (0 : Int32)), (.int (0 : Int32)), (.int (0 : Int32)), (.int (0 : Int32)), (.int (0 : Int32)), (.int (0 : Int32))] (.int (0 : Int32)) := Arv.set Ar25 qv25 S25 M25 H25 G25 (fits_nar_byte _) W25 11 rfl (Nat.le_of_ble_eq_true rfl)
  have N25 := Fr.snoc X25 N23h gt_b1
  have Z26 := Nat.le_trans Z24 (Nat.le_of_eq W25.size.symm)
  refine own_st (G' := T25.setTop (mkF m 88 #[.val (.long q1), .second, .val (.int v2), .val (.int v3), .val (.int v4), .val (.long qq), .second, .val (.int aa), .val (.int ff), .unset, .unset, .unset, .unset, .unset, .unset, .unset] [(.ref b1)])) st25 ?_
  obtain ⟨_, X25h, N25h⟩ := own_hide X25 N25
  refine own_dup X25h hx 89 (hb hby at_88) rfl ?_
  refine own_bipush X25h hx 91 (12 : Int32) (hb hby at_89) rfl ?_
  refine own_iload X25h hx 93 (hb hby at_91) rfl ?_
  obtain ⟨cl27, Ar27, qv27, S27, M27, H27, G27⟩ := id V25
  have hin27 : ¬ ((12 : Int32) < 0 ∨ cl27.slots.size ≤ ((12 : Int32)).toNatClampNeg) := inb_of S27 ⟨by decide, by decide⟩
  obtain ⟨T27, h27, X27, e27, W27, st27⟩ := stB X25h hx hZ e25 Ar27 (j := (12 : Int32)) hin27 (g := (mkF m 93 #[.val (.long q1), .second, .val (.int v2), .val (.int v3), .val (.int v4), .val (.long qq), .second, .val (.int aa), .val (.int ff), .unset, .unset, .unset, .unset, .unset, .unset, .unset] [(.int ff), (.int (12 : Int32)), (.ref b1), (.ref b1)])) rfl rfl (hb hby at_93)
  have V27 : Arv Z h27 b1 k1 .byte (24 : Int32) [(.int (nar .byte ff)), (.int (nar .byte ff)), (.int (nar .byte ff)), (.int (nar .byte ff)), (.int (nar .byte ff)), (.int (nar .byte ff)), (.int (nar .byte ff)), (.int (nar .byte ff)), (.int (nar .byte ff)), (.int (nar .byte ff)), (.int (nar .byte ff)), (.int (nar .byte ff)), (.int (nar .byte ff)), (.int (0 : Int32)), (.int (0 : Int32)), (.int (0 : Int32)), (.int (0 : Int32)), (.int (0 : Int32)), (.int (0 : Int32)), (.int (0 : Int32)), (.int (0 : Int32)), (.int (0 : Int32)), (.int (0 : Int32)), (.int (0 : Int32))] (.int (0 : Int32)) := Arv.set Ar27 qv27 S27 M27 H27 G27 (fits_nar_byte _) W27 12 rfl (Nat.le_of_ble_eq_true rfl)
  have N27 := Fr.snoc X27 N25h gt_b1
  have Z28 := Nat.le_trans Z26 (Nat.le_of_eq W27.size.symm)
  refine own_st (G' := T27.setTop (mkF m 94 #[.val (.long q1), .second, .val (.int v2), .val (.int v3), .val (.int v4), .val (.long qq), .second, .val (.int aa), .val (.int ff), .unset, .unset, .unset, .unset, .unset, .unset, .unset] [(.ref b1)])) st27 ?_
  obtain ⟨_, X27h, N27h⟩ := own_hide X27 N27
  refine own_dup X27h hx 95 (hb hby at_94) rfl ?_
  refine own_bipush X27h hx 97 (13 : Int32) (hb hby at_95) rfl ?_
  refine own_iload X27h hx 99 (hb hby at_97) rfl ?_
  obtain ⟨cl29, Ar29, qv29, S29, M29, H29, G29⟩ := id V27
  have hin29 : ¬ ((13 : Int32) < 0 ∨ cl29.slots.size ≤ ((13 : Int32)).toNatClampNeg) := inb_of S29 ⟨by decide, by decide⟩
  obtain ⟨T29, h29, X29, e29, W29, st29⟩ := stB X27h hx hZ e27 Ar29 (j := (13 : Int32)) hin29 (g := (mkF m 99 #[.val (.long q1), .second, .val (.int v2), .val (.int v3), .val (.int v4), .val (.long qq), .second, .val (.int aa), .val (.int ff), .unset, .unset, .unset, .unset, .unset, .unset, .unset] [(.int ff), (.int (13 : Int32)), (.ref b1), (.ref b1)])) rfl rfl (hb hby at_99)
  have V29 : Arv Z h29 b1 k1 .byte (24 : Int32) [(.int (nar .byte ff)), (.int (nar .byte ff)), (.int (nar .byte ff)), (.int (nar .byte ff)), (.int (nar .byte ff)), (.int (nar .byte ff)), (.int (nar .byte ff)), (.int (nar .byte ff)), (.int (nar .byte ff)), (.int (nar .byte ff)), (.int (nar .byte ff)), (.int (nar .byte ff)), (.int (nar .byte ff)), (.int (nar .byte ff)), (.int (0 : Int32)), (.int (0 : Int32)), (.int (0 : Int32)), (.int (0 : Int32)), (.int (0 : Int32)), (.int (0 : Int32)), (.int (0 : Int32)), (.int (0 : Int32)), (.int (0 : Int32)), (.int (0 : Int32))] (.int (0 : Int32)) := Arv.set Ar29 qv29 S29 M29 H29 G29 (fits_nar_byte _) W29 13 rfl (Nat.le_of_ble_eq_true rfl)
  have N29 := Fr.snoc X29 N27h gt_b1
  have Z30 := Nat.le_trans Z28 (Nat.le_of_eq W29.size.symm)
  refine own_st (G' := T29.setTop (mkF m 100 #[.val (.long q1), .second, .val (.int v2), .val (.int v3), .val (.int v4), .val (.long qq), .second, .val (.int aa), .val (.int ff), .unset, .unset, .unset, .unset, .unset, .unset, .unset] [(.ref b1)])) st29 ?_
  obtain ⟨_, X29h, N29h⟩ := own_hide X29 N29
  refine own_dup X29h hx 101 (hb hby at_100) rfl ?_
  refine own_bipush X29h hx 103 (14 : Int32) (hb hby at_101) rfl ?_
  refine own_iload X29h hx 105 (hb hby at_103) rfl ?_
  obtain ⟨cl31, Ar31, qv31, S31, M31, H31, G31⟩ := id V29
  have hin31 : ¬ ((14 : Int32) < 0 ∨ cl31.slots.size ≤ ((14 : Int32)).toNatClampNeg) := inb_of S31 ⟨by decide, by decide⟩
  obtain ⟨T31, h31, X31, e31, W31, st31⟩ := stB X29h hx hZ e29 Ar31 (j := (14 : Int32)) hin31 (g := (mkF m 105 #[.val (.long q1), .second, .val (.int v2), .val (.int v3), .val (.int v4), .val (.long qq), .second, .val (.int aa), .val (.int ff), .unset, .unset, .unset, .unset, .unset, .unset, .unset] [(.int ff), (.int (14 : Int32)), (.ref b1), (.ref b1)])) rfl rfl (hb hby at_105)
  have V31 : Arv Z h31 b1 k1 .byte (24 : Int32) [(.int (nar .byte ff)), (.int (nar .byte ff)), (.int (nar .byte ff)), (.int (nar .byte ff)), (.int (nar .byte ff)), (.int (nar .byte ff)), (.int (nar .byte ff)), (.int (nar .byte ff)), (.int (nar .byte ff)), (.int (nar .byte ff)), (.int (nar .byte ff)), (.int (nar .byte ff)), (.int (nar .byte ff)), (.int (nar .byte ff)), (.int (nar .byte ff)), (.int (0 : Int32)), (.int (0 : Int32)), (.int (0 : Int32)), (.int (0 : Int32)), (.int (0 : Int32)), (.int (0 : Int32)), (.int (0 : Int32)), (.int (0 : Int32)), (.int (0 : Int32))] (.int (0 : Int32)) := Arv.set Ar31 qv31 S31 M31 H31 G31 (fits_nar_byte _) W31 14 rfl (Nat.le_of_ble_eq_true rfl)
  have N31 := Fr.snoc X31 N29h gt_b1
  have Z32 := Nat.le_trans Z30 (Nat.le_of_eq W31.size.symm)
  refine own_st (G' := T31.setTop (mkF m 106 #[.val (.long q1), .second, .val (.int v2), .val (.int v3), .val (.int v4), .val (.long qq), .second, .val (.int aa), .val (.int ff), .unset, .unset, .unset, .unset, .unset, .unset, .unset] [(.ref b1)])) st31 ?_
  obtain ⟨_, X31h, N31h⟩ := own_hide X31 N31
  refine own_dup X31h hx 107 (hb hby at_106) rfl ?_
  refine own_bipush X31h hx 109 (15 : Int32) (hb hby at_107) rfl ?_
  refine own_iload X31h hx 111 (hb hby at_109) rfl ?_
  obtain ⟨cl33, Ar33, qv33, S33, M33, H33, G33⟩ := id V31
  have hin33 : ¬ ((15 : Int32) < 0 ∨ cl33.slots.size ≤ ((15 : Int32)).toNatClampNeg) := inb_of S33 ⟨by decide, by decide⟩
  obtain ⟨T33, h33, X33, e33, W33, st33⟩ := stB X31h hx hZ e31 Ar33 (j := (15 : Int32)) hin33 (g := (mkF m 111 #[.val (.long q1), .second, .val (.int v2), .val (.int v3), .val (.int v4), .val (.long qq), .second, .val (.int aa), .val (.int ff), .unset, .unset, .unset, .unset, .unset, .unset, .unset] [(.int ff), (.int (15 : Int32)), (.ref b1), (.ref b1)])) rfl rfl (hb hby at_111)
  have V33 : Arv Z h33 b1 k1 .byte (24 : Int32) [(.int (nar .byte ff)), (.int (nar .byte ff)), (.int (nar .byte ff)), (.int (nar .byte ff)), (.int (nar .byte ff)), (.int (nar .byte ff)), (.int (nar .byte ff)), (.int (nar .byte ff)), (.int (nar .byte ff)), (.int (nar .byte ff)), (.int (nar .byte ff)), (.int (nar .byte ff)), (.int (nar .byte ff)), (.int (nar .byte ff)), (.int (nar .byte ff)), (.int (nar .byte ff)), (.int (0 : Int32)), (.int (0 : Int32)), (.int (0 : Int32)), (.int (0 : Int32)), (.int (0 : Int32)), (.int (0 : Int32)), (.int (0 : Int32)), (.int (0 : Int32))] (.int (0 : Int32)) := Arv.set Ar33 qv33 S33 M33 H33 G33 (fits_nar_byte _) W33 15 rfl (Nat.le_of_ble_eq_true rfl)
  have N33 := Fr.snoc X33 N31h gt_b1
  have Z34 := Nat.le_trans Z32 (Nat.le_of_eq W33.size.symm)
  refine own_st (G' := T33.setTop (mkF m 112 #[.val (.long q1), .second, .val (.int v2), .val (.int v3), .val (.int v4), .val (.long qq), .second, .val (.int aa), .val (.int ff), .unset, .unset, .unset, .unset, .unset, .unset, .unset] [(.ref b1)])) st33 ?_
  obtain ⟨_, X33h, N33h⟩ := own_hide X33 N33
  refine own_dup X33h hx 113 (hb hby at_112) rfl ?_
  refine own_bipush X33h hx 115 (16 : Int32) (hb hby at_113) rfl ?_
  refine own_iload X33h hx 117 (hb hby at_115) rfl ?_
  obtain ⟨cl35, Ar35, qv35, S35, M35, H35, G35⟩ := id V33
  have hin35 : ¬ ((16 : Int32) < 0 ∨ cl35.slots.size ≤ ((16 : Int32)).toNatClampNeg) := inb_of S35 ⟨by decide, by decide⟩
  obtain ⟨T35, h35, X35, e35, W35, st35⟩ := stB X33h hx hZ e33 Ar35 (j := (16 : Int32)) hin35 (g := (mkF m 117 #[.val (.long q1), .second, .val (.int v2), .val (.int v3), .val (.int v4), .val (.long qq), .second, .val (.int aa), .val (.int ff), .unset, .unset, .unset, .unset, .unset, .unset, .unset] [(.int ff), (.int (16 : Int32)), (.ref b1), (.ref b1)])) rfl rfl (hb hby at_117)
  have V35 : Arv Z h35 b1 k1 .byte (24 : Int32) [(.int (nar .byte ff)), (.int (nar .byte ff)), (.int (nar .byte ff)), (.int (nar .byte ff)), (.int (nar .byte ff)), (.int (nar .byte ff)), (.int (nar .byte ff)), (.int (nar .byte ff)), (.int (nar .byte ff)), (.int (nar .byte ff)), (.int (nar .byte ff)), (.int (nar .byte ff)), (.int (nar .byte ff)), (.int (nar .byte ff)), (.int (nar .byte ff)), (.int (nar .byte ff)), (.int (nar .byte ff)), (.int (0 : Int32)), (.int (0 : Int32)), (.int (0 : Int32)), (.int (0 : Int32)), (.int (0 : Int32)), (.int (0 : Int32)), (.int (0 : Int32))] (.int (0 : Int32)) := Arv.set Ar35 qv35 S35 M35 H35 G35 (fits_nar_byte _) W35 16 rfl (Nat.le_of_ble_eq_true rfl)
  have N35 := Fr.snoc X35 N33h gt_b1
  have Z36 := Nat.le_trans Z34 (Nat.le_of_eq W35.size.symm)
  refine own_st (G' := T35.setTop (mkF m 118 #[.val (.long q1), .second, .val (.int v2), .val (.int v3), .val (.int v4), .val (.long qq), .second, .val (.int aa), .val (.int ff), .unset, .unset, .unset, .unset, .unset, .unset, .unset] [(.ref b1)])) st35 ?_
  obtain ⟨_, X35h, N35h⟩ := own_hide X35 N35
  refine own_dup X35h hx 119 (hb hby at_118) rfl ?_
  refine own_bipush X35h hx 121 (17 : Int32) (hb hby at_119) rfl ?_
  refine own_iload X35h hx 123 (hb hby at_121) rfl ?_
  obtain ⟨cl37, Ar37, qv37, S37, M37, H37, G37⟩ := id V35
  have hin37 : ¬ ((17 : Int32) < 0 ∨ cl37.slots.size ≤ ((17 : Int32)).toNatClampNeg) := inb_of S37 ⟨by decide, by decide⟩
  obtain ⟨T37, h37, X37, e37, W37, st37⟩ := stB X35h hx hZ e35 Ar37 (j := (17 : Int32)) hin37 (g := (mkF m 123 #[.val (.long q1), .second, .val (.int v2), .val (.int v3), .val (.int v4), .val (.long qq), .second, .val (.int aa), .val (.int ff), .unset, .unset, .unset, .unset, .unset, .unset, .unset] [(.int ff), (.int (17 : Int32)), (.ref b1), (.ref b1)])) rfl rfl (hb hby at_123)
  have V37 : Arv Z h37 b1 k1 .byte (24 : Int32) [(.int (nar .byte ff)), (.int (nar .byte ff)), (.int (nar .byte ff)), (.int (nar .byte ff)), (.int (nar .byte ff)), (.int (nar .byte ff)), (.int (nar .byte ff)), (.int (nar .byte ff)), (.int (nar .byte ff)), (.int (nar .byte ff)), (.int (nar .byte ff)), (.int (nar .byte ff)), (.int (nar .byte ff)), (.int (nar .byte ff)), (.int (nar .byte ff)), (.int (nar .byte ff)), (.int (nar .byte ff)), (.int (nar .byte ff)), (.int (0 : Int32)), (.int (0 : Int32)), (.int (0 : Int32)), (.int (0 : Int32)), (.int (0 : Int32)), (.int (0 : Int32))] (.int (0 : Int32)) := Arv.set Ar37 qv37 S37 M37 H37 G37 (fits_nar_byte _) W37 17 rfl (Nat.le_of_ble_eq_true rfl)
  have N37 := Fr.snoc X37 N35h gt_b1
  have Z38 := Nat.le_trans Z36 (Nat.le_of_eq W37.size.symm)
  refine own_st (G' := T37.setTop (mkF m 124 #[.val (.long q1), .second, .val (.int v2), .val (.int v3), .val (.int v4), .val (.long qq), .second, .val (.int aa), .val (.int ff), .unset, .unset, .unset, .unset, .unset, .unset, .unset] [(.ref b1)])) st37 ?_
  obtain ⟨_, X37h, N37h⟩ := own_hide X37 N37
  refine own_dup X37h hx 125 (hb hby at_124) rfl ?_
  refine own_bipush X37h hx 127 (18 : Int32) (hb hby at_125) rfl ?_
  refine own_iload X37h hx 129 (hb hby at_127) rfl ?_
  obtain ⟨cl39, Ar39, qv39, S39, M39, H39, G39⟩ := id V37
  have hin39 : ¬ ((18 : Int32) < 0 ∨ cl39.slots.size ≤ ((18 : Int32)).toNatClampNeg) := inb_of S39 ⟨by decide, by decide⟩
  obtain ⟨T39, h39, X39, e39, W39, st39⟩ := stB X37h hx hZ e37 Ar39 (j := (18 : Int32)) hin39 (g := (mkF m 129 #[.val (.long q1), .second, .val (.int v2), .val (.int v3), .val (.int v4), .val (.long qq), .second, .val (.int aa), .val (.int ff), .unset, .unset, .unset, .unset, .unset, .unset, .unset] [(.int ff), (.int (18 : Int32)), (.ref b1), (.ref b1)])) rfl rfl (hb hby at_129)
  have V39 : Arv Z h39 b1 k1 .byte (24 : Int32) [(.int (nar .byte ff)), (.int (nar .byte ff)), (.int (nar .byte ff)), (.int (nar .byte ff)), (.int (nar .byte ff)), (.int (nar .byte ff)), (.int (nar .byte ff)), (.int (nar .byte ff)), (.int (nar .byte ff)), (.int (nar .byte ff)), (.int (nar .byte ff)), (.int (nar .byte ff)), (.int (nar .byte ff)), (.int (nar .byte ff)), (.int (nar .byte ff)), (.int (nar .byte ff)), (.int (nar .byte ff)), (.int (nar .byte ff)), (.int (nar .byte ff)), (.int (0 : Int32)), (.int (0 : Int32)), (.int (0 : Int32)), (.int (0 : Int32)), (.int (0 : Int32))] (.int (0 : Int32)) := Arv.set Ar39 qv39 S39 M39 H39 G39 (fits_nar_byte _) W39 18 rfl (Nat.le_of_ble_eq_true rfl)
  have N39 := Fr.snoc X39 N37h gt_b1
  have Z40 := Nat.le_trans Z38 (Nat.le_of_eq W39.size.symm)
  refine own_st (G' := T39.setTop (mkF m 130 #[.val (.long q1), .second, .val (.int v2), .val (.int v3), .val (.int v4), .val (.long qq), .second, .val (.int aa), .val (.int ff), .unset, .unset, .unset, .unset, .unset, .unset, .unset] [(.ref b1)])) st39 ?_
  obtain ⟨_, X39h, N39h⟩ := own_hide X39 N39
  refine own_dup X39h hx 131 (hb hby at_130) rfl ?_
  refine own_bipush X39h hx 133 (19 : Int32) (hb hby at_131) rfl ?_
  refine own_iload X39h hx 135 (hb hby at_133) rfl ?_
  obtain ⟨cl41, Ar41, qv41, S41, M41, H41, G41⟩ := id V39
  have hin41 : ¬ ((19 : Int32) < 0 ∨ cl41.slots.size ≤ ((19 : Int32)).toNatClampNeg) := inb_of S41 ⟨by decide, by decide⟩
  obtain ⟨T41, h41, X41, e41, W41, st41⟩ := stB X39h hx hZ e39 Ar41 (j := (19 : Int32)) hin41 (g := (mkF m 135 #[.val (.long q1), .second, .val (.int v2), .val (.int v3), .val (.int v4), .val (.long qq), .second, .val (.int aa), .val (.int ff), .unset, .unset, .unset, .unset, .unset, .unset, .unset] [(.int ff), (.int (19 : Int32)), (.ref b1), (.ref b1)])) rfl rfl (hb hby at_135)
  have V41 : Arv Z h41 b1 k1 .byte (24 : Int32) [(.int (nar .byte ff)), (.int (nar .byte ff)), (.int (nar .byte ff)), (.int (nar .byte ff)), (.int (nar .byte ff)), (.int (nar .byte ff)), (.int (nar .byte ff)), (.int (nar .byte ff)), (.int (nar .byte ff)), (.int (nar .byte ff)), (.int (nar .byte ff)), (.int (nar .byte ff)), (.int (nar .byte ff)), (.int (nar .byte ff)), (.int (nar .byte ff)), (.int (nar .byte ff)), (.int (nar .byte ff)), (.int (nar .byte ff)), (.int (nar .byte ff)), (.int (nar .byte ff)), (.int (0 : Int32)), (.int (0 : Int32)), (.int (0 : Int32)), (.int (0 : Int32))] (.int (0 : Int32)) := Arv.set Ar41 qv41 S41 M41 H41 G41 (fits_nar_byte _) W41 19 rfl (Nat.le_of_ble_eq_true rfl)
  have N41 := Fr.snoc X41 N39h gt_b1
  have Z42 := Nat.le_trans Z40 (Nat.le_of_eq W41.size.symm)
  refine own_st (G' := T41.setTop (mkF m 136 #[.val (.long q1), .second, .val (.int v2), .val (.int v3), .val (.int v4), .val (.long qq), .second, .val (.int aa), .val (.int ff), .unset, .unset, .unset, .unset, .unset, .unset, .unset] [(.ref b1)])) st41 ?_
  obtain ⟨_, X41h, N41h⟩ := own_hide X41 N41
  refine own_dup X41h hx 137 (hb hby at_136) rfl ?_
  refine own_bipush X41h hx 139 (20 : Int32) (hb hby at_137) rfl ?_
  refine own_iload X41h hx 141 (hb hby at_139) rfl ?_
  obtain ⟨cl43, Ar43, qv43, S43, M43, H43, G43⟩ := id V41
  have hin43 : ¬ ((20 : Int32) < 0 ∨ cl43.slots.size ≤ ((20 : Int32)).toNatClampNeg) := inb_of S43 ⟨by decide, by decide⟩
  obtain ⟨T43, h43, X43, e43, W43, st43⟩ := stB X41h hx hZ e41 Ar43 (j := (20 : Int32)) hin43 (g := (mkF m 141 #[.val (.long q1), .second, .val (.int v2), .val (.int v3), .val (.int v4), .val (.long qq), .second, .val (.int aa), .val (.int ff), .unset, .unset, .unset, .unset, .unset, .unset, .unset] [(.int ff), (.int (20 : Int32)), (.ref b1), (.ref b1)])) rfl rfl (hb hby at_141)
  have V43 : Arv Z h43 b1 k1 .byte (24 : Int32) [(.int (nar .byte ff)), (.int (nar .byte ff)), (.int (nar .byte ff)), (.int (nar .byte ff)), (.int (nar .byte ff)), (.int (nar .byte ff)), (.int (nar .byte ff)), (.int (nar .byte ff)), (.int (nar .byte ff)), (.int (nar .byte ff)), (.int (nar .byte ff)), (.int (nar .byte ff)), (.int (nar .byte ff)), (.int (nar .byte ff)), (.int (nar .byte ff)), (.int (nar .byte ff)), (.int (nar .byte ff)), (.int (nar .byte ff)), (.int (nar .byte ff)), (.int (nar .byte ff)), (.int (nar .byte ff)), (.int (0 : Int32)), (.int (0 : Int32)), (.int (0 : Int32))] (.int (0 : Int32)) := Arv.set Ar43 qv43 S43 M43 H43 G43 (fits_nar_byte _) W43 20 rfl (Nat.le_of_ble_eq_true rfl)
  have N43 := Fr.snoc X43 N41h gt_b1
  have Z44 := Nat.le_trans Z42 (Nat.le_of_eq W43.size.symm)
  refine own_st (G' := T43.setTop (mkF m 142 #[.val (.long q1), .second, .val (.int v2), .val (.int v3), .val (.int v4), .val (.long qq), .second, .val (.int aa), .val (.int ff), .unset, .unset, .unset, .unset, .unset, .unset, .unset] [(.ref b1)])) st43 ?_
  obtain ⟨_, X43h, N43h⟩ := own_hide X43 N43
  refine own_dup X43h hx 143 (hb hby at_142) rfl ?_
  refine own_bipush X43h hx 145 (21 : Int32) (hb hby at_143) rfl ?_
  refine own_iload X43h hx 147 (hb hby at_145) rfl ?_
  obtain ⟨cl45, Ar45, qv45, S45, M45, H45, G45⟩ := id V43
  have hin45 : ¬ ((21 : Int32) < 0 ∨ cl45.slots.size ≤ ((21 : Int32)).toNatClampNeg) := inb_of S45 ⟨by decide, by decide⟩
  obtain ⟨T45, h45, X45, e45, W45, st45⟩ := stB X43h hx hZ e43 Ar45 (j := (21 : Int32)) hin45 (g := (mkF m 147 #[.val (.long q1), .second, .val (.int v2), .val (.int v3), .val (.int v4), .val (.long qq), .second, .val (.int aa), .val (.int ff), .unset, .unset, .unset, .unset, .unset, .unset, .unset] [(.int ff), (.int (21 : Int32)), (.ref b1), (.ref b1)])) rfl rfl (hb hby at_147)
  have V45 : Arv Z h45 b1 k1 .byte (24 : Int32) [(.int (nar .byte ff)), (.int (nar .byte ff)), (.int (nar .byte ff)), (.int (nar .byte ff)), (.int (nar .byte ff)), (.int (nar .byte ff)), (.int (nar .byte ff)), (.int (nar .byte ff)), (.int (nar .byte ff)), (.int (nar .byte ff)), (.int (nar .byte ff)), (.int (nar .byte ff)), (.int (nar .byte ff)), (.int (nar .byte ff)), (.int (nar .byte ff)), (.int (nar .byte ff)), (.int (nar .byte ff)), (.int (nar .byte ff)), (.int (nar .byte ff)), (.int (nar .byte ff)), (.int (nar .byte ff)), (.int (nar .byte ff)), (.int (0 : Int32)), (.int (0 : Int32))] (.int (0 : Int32)) := Arv.set Ar45 qv45 S45 M45 H45 G45 (fits_nar_byte _) W45 21 rfl (Nat.le_of_ble_eq_true rfl)
  have N45 := Fr.snoc X45 N43h gt_b1
  have Z46 := Nat.le_trans Z44 (Nat.le_of_eq W45.size.symm)
  refine own_st (G' := T45.setTop (mkF m 148 #[.val (.long q1), .second, .val (.int v2), .val (.int v3), .val (.int v4), .val (.long qq), .second, .val (.int aa), .val (.int ff), .unset, .unset, .unset, .unset, .unset, .unset, .unset] [(.ref b1)])) st45 ?_
  obtain ⟨_, X45h, N45h⟩ := own_hide X45 N45
  refine own_dup X45h hx 149 (hb hby at_148) rfl ?_
  refine own_bipush X45h hx 151 (22 : Int32) (hb hby at_149) rfl ?_
  refine own_iload X45h hx 153 (hb hby at_151) rfl ?_
  obtain ⟨cl47, Ar47, qv47, S47, M47, H47, G47⟩ := id V45
  have hin47 : ¬ ((22 : Int32) < 0 ∨ cl47.slots.size ≤ ((22 : Int32)).toNatClampNeg) := inb_of S47 ⟨by decide, by decide⟩
  obtain ⟨T47, h47, X47, e47, W47, st47⟩ := stB X45h hx hZ e45 Ar47 (j := (22 : Int32)) hin47 (g := (mkF m 153 #[.val (.long q1), .second, .val (.int v2), .val (.int v3), .val (.int v4), .val (.long qq), .second, .val (.int aa), .val (.int ff), .unset, .unset, .unset, .unset, .unset, .unset, .unset] [(.int ff), (.int (22 : Int32)), (.ref b1), (.ref b1)])) rfl rfl (hb hby at_153)
  have V47 : Arv Z h47 b1 k1 .byte (24 : Int32) [(.int (nar .byte ff)), (.int (nar .byte ff)), (.int (nar .byte ff)), (.int (nar .byte ff)), (.int (nar .byte ff)), (.int (nar .byte ff)), (.int (nar .byte ff)), (.int (nar .byte ff)), (.int (nar .byte ff)), (.int (nar .byte ff)), (.int (nar .byte ff)), (.int (nar .byte ff)), (.int (nar .byte ff)), (.int (nar .byte ff)), (.int (nar .byte ff)), (.int (nar .byte ff)), (.int (nar .byte ff)), (.int (nar .byte ff)), (.int (nar .byte ff)), (.int (nar .byte ff)), (.int (nar .byte ff)), (.int (nar .byte ff)), (.int (nar .byte ff)), (.int (0 : Int32))] (.int (0 : Int32)) := Arv.set Ar47 qv47 S47 M47 H47 G47 (fits_nar_byte _) W47 22 rfl (Nat.le_of_ble_eq_true rfl)
  have N47 := Fr.snoc X47 N45h gt_b1
  have Z48 := Nat.le_trans Z46 (Nat.le_of_eq W47.size.symm)
  refine own_st (G' := T47.setTop (mkF m 154 #[.val (.long q1), .second, .val (.int v2), .val (.int v3), .val (.int v4), .val (.long qq), .second, .val (.int aa), .val (.int ff), .unset, .unset, .unset, .unset, .unset, .unset, .unset] [(.ref b1)])) st47 ?_
  obtain ⟨_, X47h, N47h⟩ := own_hide X47 N47
  refine own_dup X47h hx 155 (hb hby at_154) rfl ?_
  refine own_bipush X47h hx 157 (23 : Int32) (hb hby at_155) rfl ?_
  refine own_iload X47h hx 159 (hb hby at_157) rfl ?_
  obtain ⟨cl49, Ar49, qv49, S49, M49, H49, G49⟩ := id V47
  have hin49 : ¬ ((23 : Int32) < 0 ∨ cl49.slots.size ≤ ((23 : Int32)).toNatClampNeg) := inb_of S49 ⟨by decide, by decide⟩
  obtain ⟨T49, h49, X49, e49, W49, st49⟩ := stB X47h hx hZ e47 Ar49 (j := (23 : Int32)) hin49 (g := (mkF m 159 #[.val (.long q1), .second, .val (.int v2), .val (.int v3), .val (.int v4), .val (.long qq), .second, .val (.int aa), .val (.int ff), .unset, .unset, .unset, .unset, .unset, .unset, .unset] [(.int ff), (.int (23 : Int32)), (.ref b1), (.ref b1)])) rfl rfl (hb hby at_159)
  have V49 : Arv Z h49 b1 k1 .byte (24 : Int32) [(.int (nar .byte ff)), (.int (nar .byte ff)), (.int (nar .byte ff)), (.int (nar .byte ff)), (.int (nar .byte ff)), (.int (nar .byte ff)), (.int (nar .byte ff)), (.int (nar .byte ff)), (.int (nar .byte ff)), (.int (nar .byte ff)), (.int (nar .byte ff)), (.int (nar .byte ff)), (.int (nar .byte ff)), (.int (nar .byte ff)), (.int (nar .byte ff)), (.int (nar .byte ff)), (.int (nar .byte ff)), (.int (nar .byte ff)), (.int (nar .byte ff)), (.int (nar .byte ff)), (.int (nar .byte ff)), (.int (nar .byte ff)), (.int (nar .byte ff)), (.int (nar .byte ff))] (.int (0 : Int32)) := Arv.set Ar49 qv49 S49 M49 H49 G49 (fits_nar_byte _) W49 23 rfl (Nat.le_of_ble_eq_true rfl)
  have N49 := Fr.snoc X49 N47h gt_b1
  have Z50 := Nat.le_trans Z48 (Nat.le_of_eq W49.size.symm)
  refine own_st (G' := T49.setTop (mkF m 160 #[.val (.long q1), .second, .val (.int v2), .val (.int v3), .val (.int v4), .val (.long qq), .second, .val (.int aa), .val (.int ff), .unset, .unset, .unset, .unset, .unset, .unset, .unset] [(.ref b1)])) st49 ?_
  obtain ⟨_, X49h, N49h⟩ := own_hide X49 N49
  refine own_astore X49h hx 162 #[.val (.long q1), .second, .val (.int v2), .val (.int v3), .val (.int v4), .val (.long qq), .second, .val (.int aa), .val (.int ff), .val (.ref b1), .unset, .unset, .unset, .unset, .unset, .unset] (hb hby at_160) rfl rfl ?_
  refine own_lload X49h hx 164 (hb hby at_162) rfl ?_
  refine own_aload X49h hx 166 (hb hby at_164) rfl rfl ?_
  refine own_iload X49h hx 168 (hb hby at_166) rfl ?_
  have V51 : Arv Z h49 b1 k1 .byte (24 : Int32) (own_lstI 24 (fun _ => (nar .byte ff))) (.int (0 : Int32)) := V49
  rw [hff] at V51
  obtain ⟨_, _, ⟨T52, Lx52, kc52, nc52⟩, -, X52, ⟨Lc52, hQ52, lq52, yq52, zq52⟩, st52⟩ := Jvm.LawKit.callS X49h hx (y := (⟨"com/example/deltalog/deltalog/ColumnType", "writeInt", "(J[BI)I"⟩ : MethodName)) hown (mvT hZ (hw _ (List.mem_of_getElem? (i := 1) rfl))) (mvT hZ (hw _ (List.mem_of_getElem? (i := 2) rfl))) (mvT hZ (hw _ (List.mem_of_getElem? (i := 3) rfl))) (mvT hZ (hw _ (List.mem_of_getElem? (i := 4) rfl))) (by decide) (backOf (W := 0) (own_rm1 l Z a0 hw [] qq b1 aa k1 (fun _ => ff) h49 n0 Z50 V51 gt_b1 (ha : 0 ≤ aa.toInt ∧ aa.toInt ≤ 3)) hZ (hw _ (List.mem_of_getElem? (i := 4) rfl)) (hw _ (List.mem_of_getElem? (i := 3) rfl)) (by decide) (by decide)) (g := (mkF m 168 #[.val (.long q1), .second, .val (.int v2), .val (.int v3), .val (.int v4), .val (.long qq), .second, .val (.int aa), .val (.int ff), .val (.ref b1), .unset, .unset, .unset, .unset, .unset, .unset] [(.int aa), (.ref b1), (.long qq)])) rfl (by rw [hml]; rfl) (argsL := [(.long qq), (.ref b1), (.int aa)]) (rest := []) (lenOf own_pd1 rfl) rfl (by show 2 * 0 + _ ≤ _; exact Nat.le_of_eq rfl) (hb hby at_168) (fun _ _ => ⟨rfl, e49, (by decide : 1 + 0 ≤ _), (by decide : 24 + 0 ≤ _)⟩)
  dsimp only [Pt.U, Pt.locs, Pt.cells, Pt.slots] at X52 lq52 yq52 zq52 st52 hQ52
  subst lq52 yq52 zq52
  obtain ⟨len_52, D_52, gg_52, rfl, Nq52, Kp52, G52_0, P52_0, P52_1, P52_2⟩ := hQ52
  have N52 := Fr.app N49h Nq52
  have Z53 := Nat.le_trans Z50 Kp52.1
  refine own_st (G' := T52.setTop (mkF m 171 #[.val (.long q1), .second, .val (.int v2), .val (.int v3), .val (.int v4), .val (.long qq), .second, .val (.int aa), .val (.int ff), .val (.ref b1), .unset, .unset, .unset, .unset, .unset, .unset] [(.int (aa + len_52))])) st52 ?_
  obtain ⟨_, X52h, N52h⟩ := own_hide X52 N52
  refine own_istore X52h hx 173 #[.val (.long q1), .second, .val (.int v2), .val (.int v3), .val (.int v4), .val (.long qq), .second, .val (.int aa), .val (.int ff), .val (.ref b1), .val (.int (aa + len_52)), .unset, .unset, .unset, .unset, .unset] (hb hby at_171) rfl ?_
  by_cases hc173_54 : qq < (0 : Int64)
  · refine own_iload X52h hx 175 (hb hby at_173) rfl ?_
    refine own_iload X52h hx 177 (hb hby at_175) rfl ?_
    refine own_iconst X52h hx 178 (1 : Int32) (hb hby at_177) rfl ?_
    refine own_iadd X52h hx 179 (hb hby at_178) ?_
    refine own_icmpNo X52h hx 182 (hb hby at_179) (flt (own_e1 ha P52_1 P52_0 : ¬ ((aa + len_52) < (aa + (1 : Int32))))).1 ?_
    refine own_iload X52h hx 184 (hb hby at_182) rfl ?_
    refine own_iload X52h hx 186 (hb hby at_184) rfl ?_
    refine own_bipush X52h hx 188 (20 : Int32) (hb hby at_186) rfl ?_
    refine own_iadd X52h hx 189 (hb hby at_188) ?_
    refine own_icmpYes X52h hx 194 (hb hby at_189) (flt (own_e2 ha P52_1 P52_0 : ¬ ((aa + (20 : Int32)) < (aa + len_52)))).2.2.2 ?_
    refine own_aload X52h hx 196 (hb hby at_194) rfl rfl ?_
    refine own_iload X52h hx 198 (hb hby at_196) rfl ?_
    obtain ⟨cl55, Ar55, qv55, S55, M55, H55, G55⟩ := id G52_0
    have hin55 : ¬ (aa < 0 ∨ cl55.slots.size ≤ (aa).toNatClampNeg) := inb_of S55 (own_ain ha).1
    refine own_st (G' := T52.setTop (mkF m 199 #[.val (.long q1), .second, .val (.int v2), .val (.int v3), .val (.int v4), .val (.long qq), .second, .val (.int aa), .val (.int ff), .val (.ref b1), .val (.int (aa + len_52)), .unset, .unset, .unset, .unset, .unset] [(.int (gg_52 aa.toNatClampNeg))])) (fun t k => X52h.baloadBytes hx (j := aa) (v := (.int (gg_52 aa.toNatClampNeg))) Ar55.1 (State.isArrayOf_alike hZ.alike Ar55.2.1) Ar55.2.2 hin55 (H55.at hin55 (own_lstI_get (own_ain ha).2)) (g := (mkF m 198 #[.val (.long q1), .second, .val (.int v2), .val (.int v3), .val (.int v4), .val (.long qq), .second, .val (.int aa), .val (.int ff), .val (.ref b1), .val (.int (aa + len_52)), .unset, .unset, .unset, .unset, .unset] [(.int aa), (.ref b1)])) rfl rfl (hb hby at_198) _ k) ?_
    refine own_bipush X52h hx 201 (45 : Int32) (hb hby at_199) rfl ?_
    refine own_icmpNo X52h hx 204 (hb hby at_201) (teq (own_f1 ha hc173_54 P52_2 : (gg_52 aa.toNatClampNeg) = (45 : Int32))).2 ?_
    refine own_iconst X52h hx 205 (1 : Int32) (hb hby at_204) rfl ?_
    refine own_goto X52h hx 209 (hb hby at_205) ?_
    refine own_istore X52h hx 211 #[.val (.long q1), .second, .val (.int v2), .val (.int v3), .val (.int v4), .val (.long qq), .second, .val (.int aa), .val (.int ff), .val (.ref b1), .val (.int (aa + len_52)), .val (.int (1 : Int32)), .unset, .unset, .unset, .unset] (hb hby at_209) rfl ?_
    refine own_iload X52h hx 213 (hb hby at_211) rfl ?_
    refine own_lload X52h hx 215 (hb hby at_213) rfl ?_
    refine own_lconst X52h hx 216 (0 : Int64) (hb hby at_215) rfl ?_
    refine own_lcmp X52h hx 217 (hb hby at_216) ?_
    refine own_ifNo X52h hx 220 (hb hby at_217) (tlt ((lw_lt _ _).mpr hc173_54)).2.1 ?_
    refine own_iconst X52h hx 221 (1 : Int32) (hb hby at_220) rfl ?_
    refine own_goto X52h hx 225 (hb hby at_221) ?_
    refine own_icmpYes X52h hx 230 (hb hby at_225) (teq (rfl : (1 : Int32) = (1 : Int32))).1 ?_
    refine own_iload X52h hx 232 (hb hby at_230) rfl ?_
    refine own_ifNo X52h hx 235 (hb hby at_232) (feq (by decide : ¬ ((1 : Int32) = (0 : Int32)))).1 ?_
    refine own_iload X52h hx 237 (hb hby at_235) rfl ?_
    refine own_iconst X52h hx 238 (1 : Int32) (hb hby at_237) rfl ?_
    refine own_iadd X52h hx 239 (hb hby at_238) ?_
    refine own_goto X52h hx 244 (hb hby at_239) ?_
    refine own_istore X52h hx 246 #[.val (.long q1), .second, .val (.int v2), .val (.int v3), .val (.int v4), .val (.long qq), .second, .val (.int aa), .val (.int ff), .val (.ref b1), .val (.int (aa + len_52)), .val (.int (1 : Int32)), .val (.int (aa + (1 : Int32))), .unset, .unset, .unset] (hb hby at_244) rfl ?_
    refine own_iload X52h hx 248 (hb hby at_246) rfl ?_
    refine own_iload X52h hx 250 (hb hby at_248) rfl ?_
    refine own_icmpYes X52h hx 255 (hb hby at_250) (tlt (own_g1 ha P52_1 P52_0 hc173_54 : (aa + (1 : Int32)) < (aa + len_52))).2.2.1 ?_
    refine own_aload X52h hx 257 (hb hby at_255) rfl rfl ?_
    refine own_iload X52h hx 259 (hb hby at_257) rfl ?_
    obtain ⟨cl56, Ar56, qv56, S56, M56, H56, G56⟩ := id G52_0
    have hin56 : ¬ ((aa + (1 : Int32)) < 0 ∨ cl56.slots.size ≤ ((aa + (1 : Int32))).toNatClampNeg) := inb_of S56 (own_ain1 ha).1
    refine own_st (G' := T52.setTop (mkF m 260 #[.val (.long q1), .second, .val (.int v2), .val (.int v3), .val (.int v4), .val (.long qq), .second, .val (.int aa), .val (.int ff), .val (.ref b1), .val (.int (aa + len_52)), .val (.int (1 : Int32)), .val (.int (aa + (1 : Int32))), .unset, .unset, .unset] [(.int (gg_52 (aa + (1 : Int32)).toNatClampNeg))])) (fun t k => X52h.baloadBytes hx (j := (aa + (1 : Int32))) (v := (.int (gg_52 (aa + (1 : Int32)).toNatClampNeg))) Ar56.1 (State.isArrayOf_alike hZ.alike Ar56.2.1) Ar56.2.2 hin56 (H56.at hin56 (own_lstI_get (own_ain1 ha).2.1)) (g := (mkF m 259 #[.val (.long q1), .second, .val (.int v2), .val (.int v3), .val (.int v4), .val (.long qq), .second, .val (.int aa), .val (.int ff), .val (.ref b1), .val (.int (aa + len_52)), .val (.int (1 : Int32)), .val (.int (aa + (1 : Int32))), .unset, .unset, .unset] [(.int (aa + (1 : Int32))), (.ref b1)])) rfl rfl (hb hby at_259) _ k) ?_
    refine own_bipush X52h hx 262 (48 : Int32) (hb hby at_260) rfl ?_
    by_cases hc262_57 : (gg_52 (aa + (1 : Int32)).toNatClampNeg) = (48 : Int32)
    · refine own_icmpNo X52h hx 265 (hb hby at_262) (teq hc262_57).2 ?_
      refine own_iload X52h hx 267 (hb hby at_265) rfl ?_
      refine own_iload X52h hx 269 (hb hby at_267) rfl ?_
      refine own_iconst X52h hx 270 (1 : Int32) (hb hby at_269) rfl ?_
      refine own_iadd X52h hx 271 (hb hby at_270) ?_
      refine own_icmpYes X52h hx 276 (hb hby at_271) (teq (own_h1 ha P52_1 P52_0 P52_2 hc173_54 hc262_57 : (aa + len_52) = ((aa + (1 : Int32)) + (1 : Int32)))).1 ?_
      refine own_aload X52h hx 278 (hb hby at_276) rfl rfl ?_
      refine own_iconst X52h hx 279 (0 : Int32) (hb hby at_278) rfl ?_
      refine own_iload X52h hx 281 (hb hby at_279) rfl ?_
      refine own_iload X52h hx 283 (hb hby at_281) rfl ?_
      refine own_iload X52h hx 285 (hb hby at_283) rfl ?_
      obtain ⟨_, _, ⟨T58, Lx58, kc58, nc58⟩, -, X58, ⟨Lc58, hQ58, lq58, yq58, zq58⟩, st58⟩ := Jvm.LawKit.callS X52h hx (y := (⟨"com/example/deltalog/deltalog/ColumnTypeWriteIntPinLaw", "kept", "([BIIIB)Z"⟩ : MethodName)) hown (mvT hZ (hw _ (List.mem_of_getElem? (i := 8) rfl))) (mvT hZ (hw _ (List.mem_of_getElem? (i := 9) rfl))) (mvT hZ (hw _ (List.mem_of_getElem? (i := 10) rfl))) (mvT hZ (hw _ (List.mem_of_getElem? (i := 11) rfl))) (by decide) (backOf (W := 0) (own_rm2 l Z a0 hw [] b1 (0 : Int32) aa (aa + len_52) ff k1 gg_52 T52.heap n0 Z53 G52_0 (by decide : (¬ (0 : Int32) < 0 ∧ (0 : Int32) < (24 : Int32)) ∧ (0 : Int32).toNatClampNeg < 24) (own_keep ha P52_1 P52_0 P52_2 (0 : Int32) (by decide) : (0 : Int32) < aa ∨ ¬ ((0 : Int32) < (aa + len_52)) → gg_52 (0 : Int32).toNatClampNeg = ff)) hZ (hw _ (List.mem_of_getElem? (i := 11) rfl)) (hw _ (List.mem_of_getElem? (i := 10) rfl)) (by decide) (by decide)) (g := (mkF m 285 #[.val (.long q1), .second, .val (.int v2), .val (.int v3), .val (.int v4), .val (.long qq), .second, .val (.int aa), .val (.int ff), .val (.ref b1), .val (.int (aa + len_52)), .val (.int (1 : Int32)), .val (.int (aa + (1 : Int32))), .unset, .unset, .unset] [(.int ff), (.int (aa + len_52)), (.int aa), (.int (0 : Int32)), (.ref b1)])) rfl (by rw [hml]; rfl) (argsL := [(.ref b1), (.int (0 : Int32)), (.int aa), (.int (aa + len_52)), (.int ff)]) (rest := []) (lenOf own_pd2 rfl) rfl (by show 2 * 0 + _ ≤ _; exact Nat.le_of_eq rfl) (hb hby at_285) (fun _ _ => ⟨rfl, rfl, (by decide : 1 + 0 ≤ _), (by decide : 24 + 0 ≤ _)⟩)
      dsimp only [Pt.U, Pt.locs, Pt.cells, Pt.slots] at X58 lq58 yq58 zq58 st58 hQ58
      subst lq58 yq58 zq58
      obtain ⟨rfl, Nq58, eh58⟩ := hQ58
      have N58 := Fr.app N52h Nq58
      refine own_st (G' := T58.setTop (mkF m 288 #[.val (.long q1), .second, .val (.int v2), .val (.int v3), .val (.int v4), .val (.long qq), .second, .val (.int aa), .val (.int ff), .val (.ref b1), .val (.int (aa + len_52)), .val (.int (1 : Int32)), .val (.int (aa + (1 : Int32))), .unset, .unset, .unset] [(.int (1 : Int32))])) st58 ?_
      obtain ⟨_, X58h, N58h⟩ := own_hide X58 N58
      refine own_ifNo X58h hx 291 (hb hby at_288) (feq (by decide : ¬ ((1 : Int32) = (0 : Int32)))).1 ?_
      refine own_aload X58h hx 293 (hb hby at_291) rfl rfl ?_
      refine own_iconst X58h hx 294 (1 : Int32) (hb hby at_293) rfl ?_
      refine own_iload X58h hx 296 (hb hby at_294) rfl ?_
      refine own_iload X58h hx 298 (hb hby at_296) rfl ?_
      refine own_iload X58h hx 300 (hb hby at_298) rfl ?_
      obtain ⟨_, _, ⟨T59, Lx59, kc59, nc59⟩, -, X59, ⟨Lc59, hQ59, lq59, yq59, zq59⟩, st59⟩ := Jvm.LawKit.callS X58h hx (y := (⟨"com/example/deltalog/deltalog/ColumnTypeWriteIntPinLaw", "kept", "([BIIIB)Z"⟩ : MethodName)) hown (mvT hZ (hw _ (List.mem_of_getElem? (i := 8) rfl))) (mvT hZ (hw _ (List.mem_of_getElem? (i := 9) rfl))) (mvT hZ (hw _ (List.mem_of_getElem? (i := 10) rfl))) (mvT hZ (hw _ (List.mem_of_getElem? (i := 11) rfl))) (by decide) (backOf (W := 0) (own_rm2 l Z a0 hw [] b1 (1 : Int32) aa (aa + len_52) ff k1 gg_52 T52.heap n0 Z53 G52_0 (by decide : (¬ (1 : Int32) < 0 ∧ (1 : Int32) < (24 : Int32)) ∧ (1 : Int32).toNatClampNeg < 24) (own_keep ha P52_1 P52_0 P52_2 (1 : Int32) (by decide) : (1 : Int32) < aa ∨ ¬ ((1 : Int32) < (aa + len_52)) → gg_52 (1 : Int32).toNatClampNeg = ff)) hZ (hw _ (List.mem_of_getElem? (i := 11) rfl)) (hw _ (List.mem_of_getElem? (i := 10) rfl)) (by decide) (by decide)) (g := (mkF m 300 #[.val (.long q1), .second, .val (.int v2), .val (.int v3), .val (.int v4), .val (.long qq), .second, .val (.int aa), .val (.int ff), .val (.ref b1), .val (.int (aa + len_52)), .val (.int (1 : Int32)), .val (.int (aa + (1 : Int32))), .unset, .unset, .unset] [(.int ff), (.int (aa + len_52)), (.int aa), (.int (1 : Int32)), (.ref b1)])) rfl (by rw [hml]; rfl) (argsL := [(.ref b1), (.int (1 : Int32)), (.int aa), (.int (aa + len_52)), (.int ff)]) (rest := []) (lenOf own_pd2 rfl) rfl (by show 2 * 0 + _ ≤ _; exact Nat.le_of_eq rfl) (hb hby at_300) (fun _ _ => ⟨rfl, eh58, (by decide : 1 + 0 ≤ _), (by decide : 24 + 0 ≤ _)⟩)
      dsimp only [Pt.U, Pt.locs, Pt.cells, Pt.slots] at X59 lq59 yq59 zq59 st59 hQ59
      subst lq59 yq59 zq59
      obtain ⟨rfl, Nq59, eh59⟩ := hQ59
      have N59 := Fr.app N58h Nq59
      refine own_st (G' := T59.setTop (mkF m 303 #[.val (.long q1), .second, .val (.int v2), .val (.int v3), .val (.int v4), .val (.long qq), .second, .val (.int aa), .val (.int ff), .val (.ref b1), .val (.int (aa + len_52)), .val (.int (1 : Int32)), .val (.int (aa + (1 : Int32))), .unset, .unset, .unset] [(.int (1 : Int32))])) st59 ?_
      obtain ⟨_, X59h, N59h⟩ := own_hide X59 N59
      refine own_ifNo X59h hx 306 (hb hby at_303) (feq (by decide : ¬ ((1 : Int32) = (0 : Int32)))).1 ?_
      refine own_aload X59h hx 308 (hb hby at_306) rfl rfl ?_
      refine own_iconst X59h hx 309 (2 : Int32) (hb hby at_308) rfl ?_
      refine own_iload X59h hx 311 (hb hby at_309) rfl ?_
      refine own_iload X59h hx 313 (hb hby at_311) rfl ?_
      refine own_iload X59h hx 315 (hb hby at_313) rfl ?_
      obtain ⟨_, _, ⟨T60, Lx60, kc60, nc60⟩, -, X60, ⟨Lc60, hQ60, lq60, yq60, zq60⟩, st60⟩ := Jvm.LawKit.callS X59h hx (y := (⟨"com/example/deltalog/deltalog/ColumnTypeWriteIntPinLaw", "kept", "([BIIIB)Z"⟩ : MethodName)) hown (mvT hZ (hw _ (List.mem_of_getElem? (i := 8) rfl))) (mvT hZ (hw _ (List.mem_of_getElem? (i := 9) rfl))) (mvT hZ (hw _ (List.mem_of_getElem? (i := 10) rfl))) (mvT hZ (hw _ (List.mem_of_getElem? (i := 11) rfl))) (by decide) (backOf (W := 0) (own_rm2 l Z a0 hw [] b1 (2 : Int32) aa (aa + len_52) ff k1 gg_52 T52.heap n0 Z53 G52_0 (by decide : (¬ (2 : Int32) < 0 ∧ (2 : Int32) < (24 : Int32)) ∧ (2 : Int32).toNatClampNeg < 24) (own_keep ha P52_1 P52_0 P52_2 (2 : Int32) (by decide) : (2 : Int32) < aa ∨ ¬ ((2 : Int32) < (aa + len_52)) → gg_52 (2 : Int32).toNatClampNeg = ff)) hZ (hw _ (List.mem_of_getElem? (i := 11) rfl)) (hw _ (List.mem_of_getElem? (i := 10) rfl)) (by decide) (by decide)) (g := (mkF m 315 #[.val (.long q1), .second, .val (.int v2), .val (.int v3), .val (.int v4), .val (.long qq), .second, .val (.int aa), .val (.int ff), .val (.ref b1), .val (.int (aa + len_52)), .val (.int (1 : Int32)), .val (.int (aa + (1 : Int32))), .unset, .unset, .unset] [(.int ff), (.int (aa + len_52)), (.int aa), (.int (2 : Int32)), (.ref b1)])) rfl (by rw [hml]; rfl) (argsL := [(.ref b1), (.int (2 : Int32)), (.int aa), (.int (aa + len_52)), (.int ff)]) (rest := []) (lenOf own_pd2 rfl) rfl (by show 2 * 0 + _ ≤ _; exact Nat.le_of_eq rfl) (hb hby at_315) (fun _ _ => ⟨rfl, eh59, (by decide : 1 + 0 ≤ _), (by decide : 24 + 0 ≤ _)⟩)
      dsimp only [Pt.U, Pt.locs, Pt.cells, Pt.slots] at X60 lq60 yq60 zq60 st60 hQ60
      subst lq60 yq60 zq60
      obtain ⟨rfl, Nq60, eh60⟩ := hQ60
      have N60 := Fr.app N59h Nq60
      refine own_st (G' := T60.setTop (mkF m 318 #[.val (.long q1), .second, .val (.int v2), .val (.int v3), .val (.int v4), .val (.long qq), .second, .val (.int aa), .val (.int ff), .val (.ref b1), .val (.int (aa + len_52)), .val (.int (1 : Int32)), .val (.int (aa + (1 : Int32))), .unset, .unset, .unset] [(.int (1 : Int32))])) st60 ?_
      obtain ⟨_, X60h, N60h⟩ := own_hide X60 N60
      refine own_ifNo X60h hx 321 (hb hby at_318) (feq (by decide : ¬ ((1 : Int32) = (0 : Int32)))).1 ?_
      refine own_aload X60h hx 323 (hb hby at_321) rfl rfl ?_
      refine own_iconst X60h hx 324 (3 : Int32) (hb hby at_323) rfl ?_
      refine own_iload X60h hx 326 (hb hby at_324) rfl ?_
      refine own_iload X60h hx 328 (hb hby at_326) rfl ?_
      refine own_iload X60h hx 330 (hb hby at_328) rfl ?_
      obtain ⟨_, _, ⟨T61, Lx61, kc61, nc61⟩, -, X61, ⟨Lc61, hQ61, lq61, yq61, zq61⟩, st61⟩ := Jvm.LawKit.callS X60h hx (y := (⟨"com/example/deltalog/deltalog/ColumnTypeWriteIntPinLaw", "kept", "([BIIIB)Z"⟩ : MethodName)) hown (mvT hZ (hw _ (List.mem_of_getElem? (i := 8) rfl))) (mvT hZ (hw _ (List.mem_of_getElem? (i := 9) rfl))) (mvT hZ (hw _ (List.mem_of_getElem? (i := 10) rfl))) (mvT hZ (hw _ (List.mem_of_getElem? (i := 11) rfl))) (by decide) (backOf (W := 0) (own_rm2 l Z a0 hw [] b1 (3 : Int32) aa (aa + len_52) ff k1 gg_52 T52.heap n0 Z53 G52_0 (by decide : (¬ (3 : Int32) < 0 ∧ (3 : Int32) < (24 : Int32)) ∧ (3 : Int32).toNatClampNeg < 24) (own_keep ha P52_1 P52_0 P52_2 (3 : Int32) (by decide) : (3 : Int32) < aa ∨ ¬ ((3 : Int32) < (aa + len_52)) → gg_52 (3 : Int32).toNatClampNeg = ff)) hZ (hw _ (List.mem_of_getElem? (i := 11) rfl)) (hw _ (List.mem_of_getElem? (i := 10) rfl)) (by decide) (by decide)) (g := (mkF m 330 #[.val (.long q1), .second, .val (.int v2), .val (.int v3), .val (.int v4), .val (.long qq), .second, .val (.int aa), .val (.int ff), .val (.ref b1), .val (.int (aa + len_52)), .val (.int (1 : Int32)), .val (.int (aa + (1 : Int32))), .unset, .unset, .unset] [(.int ff), (.int (aa + len_52)), (.int aa), (.int (3 : Int32)), (.ref b1)])) rfl (by rw [hml]; rfl) (argsL := [(.ref b1), (.int (3 : Int32)), (.int aa), (.int (aa + len_52)), (.int ff)]) (rest := []) (lenOf own_pd2 rfl) rfl (by show 2 * 0 + _ ≤ _; exact Nat.le_of_eq rfl) (hb hby at_330) (fun _ _ => ⟨rfl, eh60, (by decide : 1 + 0 ≤ _), (by decide : 24 + 0 ≤ _)⟩)
      dsimp only [Pt.U, Pt.locs, Pt.cells, Pt.slots] at X61 lq61 yq61 zq61 st61 hQ61
      subst lq61 yq61 zq61
      obtain ⟨rfl, Nq61, eh61⟩ := hQ61
      have N61 := Fr.app N60h Nq61
      refine own_st (G' := T61.setTop (mkF m 333 #[.val (.long q1), .second, .val (.int v2), .val (.int v3), .val (.int v4), .val (.long qq), .second, .val (.int aa), .val (.int ff), .val (.ref b1), .val (.int (aa + len_52)), .val (.int (1 : Int32)), .val (.int (aa + (1 : Int32))), .unset, .unset, .unset] [(.int (1 : Int32))])) st61 ?_
      obtain ⟨_, X61h, N61h⟩ := own_hide X61 N61
      refine own_ifNo X61h hx 336 (hb hby at_333) (feq (by decide : ¬ ((1 : Int32) = (0 : Int32)))).1 ?_
      refine own_aload X61h hx 338 (hb hby at_336) rfl rfl ?_
      refine own_iconst X61h hx 339 (4 : Int32) (hb hby at_338) rfl ?_
      refine own_iload X61h hx 341 (hb hby at_339) rfl ?_
      refine own_iload X61h hx 343 (hb hby at_341) rfl ?_
      refine own_iload X61h hx 345 (hb hby at_343) rfl ?_
      obtain ⟨_, _, ⟨T62, Lx62, kc62, nc62⟩, -, X62, ⟨Lc62, hQ62, lq62, yq62, zq62⟩, st62⟩ := Jvm.LawKit.callS X61h hx (y := (⟨"com/example/deltalog/deltalog/ColumnTypeWriteIntPinLaw", "kept", "([BIIIB)Z"⟩ : MethodName)) hown (mvT hZ (hw _ (List.mem_of_getElem? (i := 8) rfl))) (mvT hZ (hw _ (List.mem_of_getElem? (i := 9) rfl))) (mvT hZ (hw _ (List.mem_of_getElem? (i := 10) rfl))) (mvT hZ (hw _ (List.mem_of_getElem? (i := 11) rfl))) (by decide) (backOf (W := 0) (own_rm2 l Z a0 hw [] b1 (4 : Int32) aa (aa + len_52) ff k1 gg_52 T52.heap n0 Z53 G52_0 (by decide : (¬ (4 : Int32) < 0 ∧ (4 : Int32) < (24 : Int32)) ∧ (4 : Int32).toNatClampNeg < 24) (own_keep ha P52_1 P52_0 P52_2 (4 : Int32) (by decide) : (4 : Int32) < aa ∨ ¬ ((4 : Int32) < (aa + len_52)) → gg_52 (4 : Int32).toNatClampNeg = ff)) hZ (hw _ (List.mem_of_getElem? (i := 11) rfl)) (hw _ (List.mem_of_getElem? (i := 10) rfl)) (by decide) (by decide)) (g := (mkF m 345 #[.val (.long q1), .second, .val (.int v2), .val (.int v3), .val (.int v4), .val (.long qq), .second, .val (.int aa), .val (.int ff), .val (.ref b1), .val (.int (aa + len_52)), .val (.int (1 : Int32)), .val (.int (aa + (1 : Int32))), .unset, .unset, .unset] [(.int ff), (.int (aa + len_52)), (.int aa), (.int (4 : Int32)), (.ref b1)])) rfl (by rw [hml]; rfl) (argsL := [(.ref b1), (.int (4 : Int32)), (.int aa), (.int (aa + len_52)), (.int ff)]) (rest := []) (lenOf own_pd2 rfl) rfl (by show 2 * 0 + _ ≤ _; exact Nat.le_of_eq rfl) (hb hby at_345) (fun _ _ => ⟨rfl, eh61, (by decide : 1 + 0 ≤ _), (by decide : 24 + 0 ≤ _)⟩)
      dsimp only [Pt.U, Pt.locs, Pt.cells, Pt.slots] at X62 lq62 yq62 zq62 st62 hQ62
      subst lq62 yq62 zq62
      obtain ⟨rfl, Nq62, eh62⟩ := hQ62
      have N62 := Fr.app N61h Nq62
      refine own_st (G' := T62.setTop (mkF m 348 #[.val (.long q1), .second, .val (.int v2), .val (.int v3), .val (.int v4), .val (.long qq), .second, .val (.int aa), .val (.int ff), .val (.ref b1), .val (.int (aa + len_52)), .val (.int (1 : Int32)), .val (.int (aa + (1 : Int32))), .unset, .unset, .unset] [(.int (1 : Int32))])) st62 ?_
      obtain ⟨_, X62h, N62h⟩ := own_hide X62 N62
      refine own_ifNo X62h hx 351 (hb hby at_348) (feq (by decide : ¬ ((1 : Int32) = (0 : Int32)))).1 ?_
      refine own_aload X62h hx 353 (hb hby at_351) rfl rfl ?_
      refine own_iconst X62h hx 354 (5 : Int32) (hb hby at_353) rfl ?_
      refine own_iload X62h hx 356 (hb hby at_354) rfl ?_
      refine own_iload X62h hx 358 (hb hby at_356) rfl ?_
      refine own_iload X62h hx 360 (hb hby at_358) rfl ?_
      obtain ⟨_, _, ⟨T63, Lx63, kc63, nc63⟩, -, X63, ⟨Lc63, hQ63, lq63, yq63, zq63⟩, st63⟩ := Jvm.LawKit.callS X62h hx (y := (⟨"com/example/deltalog/deltalog/ColumnTypeWriteIntPinLaw", "kept", "([BIIIB)Z"⟩ : MethodName)) hown (mvT hZ (hw _ (List.mem_of_getElem? (i := 8) rfl))) (mvT hZ (hw _ (List.mem_of_getElem? (i := 9) rfl))) (mvT hZ (hw _ (List.mem_of_getElem? (i := 10) rfl))) (mvT hZ (hw _ (List.mem_of_getElem? (i := 11) rfl))) (by decide) (backOf (W := 0) (own_rm2 l Z a0 hw [] b1 (5 : Int32) aa (aa + len_52) ff k1 gg_52 T52.heap n0 Z53 G52_0 (by decide : (¬ (5 : Int32) < 0 ∧ (5 : Int32) < (24 : Int32)) ∧ (5 : Int32).toNatClampNeg < 24) (own_keep ha P52_1 P52_0 P52_2 (5 : Int32) (by decide) : (5 : Int32) < aa ∨ ¬ ((5 : Int32) < (aa + len_52)) → gg_52 (5 : Int32).toNatClampNeg = ff)) hZ (hw _ (List.mem_of_getElem? (i := 11) rfl)) (hw _ (List.mem_of_getElem? (i := 10) rfl)) (by decide) (by decide)) (g := (mkF m 360 #[.val (.long q1), .second, .val (.int v2), .val (.int v3), .val (.int v4), .val (.long qq), .second, .val (.int aa), .val (.int ff), .val (.ref b1), .val (.int (aa + len_52)), .val (.int (1 : Int32)), .val (.int (aa + (1 : Int32))), .unset, .unset, .unset] [(.int ff), (.int (aa + len_52)), (.int aa), (.int (5 : Int32)), (.ref b1)])) rfl (by rw [hml]; rfl) (argsL := [(.ref b1), (.int (5 : Int32)), (.int aa), (.int (aa + len_52)), (.int ff)]) (rest := []) (lenOf own_pd2 rfl) rfl (by show 2 * 0 + _ ≤ _; exact Nat.le_of_eq rfl) (hb hby at_360) (fun _ _ => ⟨rfl, eh62, (by decide : 1 + 0 ≤ _), (by decide : 24 + 0 ≤ _)⟩)
      dsimp only [Pt.U, Pt.locs, Pt.cells, Pt.slots] at X63 lq63 yq63 zq63 st63 hQ63
      subst lq63 yq63 zq63
      obtain ⟨rfl, Nq63, eh63⟩ := hQ63
      have N63 := Fr.app N62h Nq63
      refine own_st (G' := T63.setTop (mkF m 363 #[.val (.long q1), .second, .val (.int v2), .val (.int v3), .val (.int v4), .val (.long qq), .second, .val (.int aa), .val (.int ff), .val (.ref b1), .val (.int (aa + len_52)), .val (.int (1 : Int32)), .val (.int (aa + (1 : Int32))), .unset, .unset, .unset] [(.int (1 : Int32))])) st63 ?_
      obtain ⟨_, X63h, N63h⟩ := own_hide X63 N63
      refine own_ifNo X63h hx 366 (hb hby at_363) (feq (by decide : ¬ ((1 : Int32) = (0 : Int32)))).1 ?_
      refine own_aload X63h hx 368 (hb hby at_366) rfl rfl ?_
      refine own_bipush X63h hx 370 (6 : Int32) (hb hby at_368) rfl ?_
      refine own_iload X63h hx 372 (hb hby at_370) rfl ?_
      refine own_iload X63h hx 374 (hb hby at_372) rfl ?_
      refine own_iload X63h hx 376 (hb hby at_374) rfl ?_
      obtain ⟨_, _, ⟨T64, Lx64, kc64, nc64⟩, -, X64, ⟨Lc64, hQ64, lq64, yq64, zq64⟩, st64⟩ := Jvm.LawKit.callS X63h hx (y := (⟨"com/example/deltalog/deltalog/ColumnTypeWriteIntPinLaw", "kept", "([BIIIB)Z"⟩ : MethodName)) hown (mvT hZ (hw _ (List.mem_of_getElem? (i := 8) rfl))) (mvT hZ (hw _ (List.mem_of_getElem? (i := 9) rfl))) (mvT hZ (hw _ (List.mem_of_getElem? (i := 10) rfl))) (mvT hZ (hw _ (List.mem_of_getElem? (i := 11) rfl))) (by decide) (backOf (W := 0) (own_rm2 l Z a0 hw [] b1 (6 : Int32) aa (aa + len_52) ff k1 gg_52 T52.heap n0 Z53 G52_0 (by decide : (¬ (6 : Int32) < 0 ∧ (6 : Int32) < (24 : Int32)) ∧ (6 : Int32).toNatClampNeg < 24) (own_keep ha P52_1 P52_0 P52_2 (6 : Int32) (by decide) : (6 : Int32) < aa ∨ ¬ ((6 : Int32) < (aa + len_52)) → gg_52 (6 : Int32).toNatClampNeg = ff)) hZ (hw _ (List.mem_of_getElem? (i := 11) rfl)) (hw _ (List.mem_of_getElem? (i := 10) rfl)) (by decide) (by decide)) (g := (mkF m 376 #[.val (.long q1), .second, .val (.int v2), .val (.int v3), .val (.int v4), .val (.long qq), .second, .val (.int aa), .val (.int ff), .val (.ref b1), .val (.int (aa + len_52)), .val (.int (1 : Int32)), .val (.int (aa + (1 : Int32))), .unset, .unset, .unset] [(.int ff), (.int (aa + len_52)), (.int aa), (.int (6 : Int32)), (.ref b1)])) rfl (by rw [hml]; rfl) (argsL := [(.ref b1), (.int (6 : Int32)), (.int aa), (.int (aa + len_52)), (.int ff)]) (rest := []) (lenOf own_pd2 rfl) rfl (by show 2 * 0 + _ ≤ _; exact Nat.le_of_eq rfl) (hb hby at_376) (fun _ _ => ⟨rfl, eh63, (by decide : 1 + 0 ≤ _), (by decide : 24 + 0 ≤ _)⟩)
      dsimp only [Pt.U, Pt.locs, Pt.cells, Pt.slots] at X64 lq64 yq64 zq64 st64 hQ64
      subst lq64 yq64 zq64
      obtain ⟨rfl, Nq64, eh64⟩ := hQ64
      have N64 := Fr.app N63h Nq64
      refine own_st (G' := T64.setTop (mkF m 379 #[.val (.long q1), .second, .val (.int v2), .val (.int v3), .val (.int v4), .val (.long qq), .second, .val (.int aa), .val (.int ff), .val (.ref b1), .val (.int (aa + len_52)), .val (.int (1 : Int32)), .val (.int (aa + (1 : Int32))), .unset, .unset, .unset] [(.int (1 : Int32))])) st64 ?_
      obtain ⟨_, X64h, N64h⟩ := own_hide X64 N64
      refine own_ifNo X64h hx 382 (hb hby at_379) (feq (by decide : ¬ ((1 : Int32) = (0 : Int32)))).1 ?_
      refine own_aload X64h hx 384 (hb hby at_382) rfl rfl ?_
      refine own_bipush X64h hx 386 (7 : Int32) (hb hby at_384) rfl ?_
      refine own_iload X64h hx 388 (hb hby at_386) rfl ?_
      refine own_iload X64h hx 390 (hb hby at_388) rfl ?_
      refine own_iload X64h hx 392 (hb hby at_390) rfl ?_
      obtain ⟨_, _, ⟨T65, Lx65, kc65, nc65⟩, -, X65, ⟨Lc65, hQ65, lq65, yq65, zq65⟩, st65⟩ := Jvm.LawKit.callS X64h hx (y := (⟨"com/example/deltalog/deltalog/ColumnTypeWriteIntPinLaw", "kept", "([BIIIB)Z"⟩ : MethodName)) hown (mvT hZ (hw _ (List.mem_of_getElem? (i := 8) rfl))) (mvT hZ (hw _ (List.mem_of_getElem? (i := 9) rfl))) (mvT hZ (hw _ (List.mem_of_getElem? (i := 10) rfl))) (mvT hZ (hw _ (List.mem_of_getElem? (i := 11) rfl))) (by decide) (backOf (W := 0) (own_rm2 l Z a0 hw [] b1 (7 : Int32) aa (aa + len_52) ff k1 gg_52 T52.heap n0 Z53 G52_0 (by decide : (¬ (7 : Int32) < 0 ∧ (7 : Int32) < (24 : Int32)) ∧ (7 : Int32).toNatClampNeg < 24) (own_keep ha P52_1 P52_0 P52_2 (7 : Int32) (by decide) : (7 : Int32) < aa ∨ ¬ ((7 : Int32) < (aa + len_52)) → gg_52 (7 : Int32).toNatClampNeg = ff)) hZ (hw _ (List.mem_of_getElem? (i := 11) rfl)) (hw _ (List.mem_of_getElem? (i := 10) rfl)) (by decide) (by decide)) (g := (mkF m 392 #[.val (.long q1), .second, .val (.int v2), .val (.int v3), .val (.int v4), .val (.long qq), .second, .val (.int aa), .val (.int ff), .val (.ref b1), .val (.int (aa + len_52)), .val (.int (1 : Int32)), .val (.int (aa + (1 : Int32))), .unset, .unset, .unset] [(.int ff), (.int (aa + len_52)), (.int aa), (.int (7 : Int32)), (.ref b1)])) rfl (by rw [hml]; rfl) (argsL := [(.ref b1), (.int (7 : Int32)), (.int aa), (.int (aa + len_52)), (.int ff)]) (rest := []) (lenOf own_pd2 rfl) rfl (by show 2 * 0 + _ ≤ _; exact Nat.le_of_eq rfl) (hb hby at_392) (fun _ _ => ⟨rfl, eh64, (by decide : 1 + 0 ≤ _), (by decide : 24 + 0 ≤ _)⟩)
      dsimp only [Pt.U, Pt.locs, Pt.cells, Pt.slots] at X65 lq65 yq65 zq65 st65 hQ65
      subst lq65 yq65 zq65
      obtain ⟨rfl, Nq65, eh65⟩ := hQ65
      have N65 := Fr.app N64h Nq65
      refine own_st (G' := T65.setTop (mkF m 395 #[.val (.long q1), .second, .val (.int v2), .val (.int v3), .val (.int v4), .val (.long qq), .second, .val (.int aa), .val (.int ff), .val (.ref b1), .val (.int (aa + len_52)), .val (.int (1 : Int32)), .val (.int (aa + (1 : Int32))), .unset, .unset, .unset] [(.int (1 : Int32))])) st65 ?_
      obtain ⟨_, X65h, N65h⟩ := own_hide X65 N65
      refine own_ifNo X65h hx 398 (hb hby at_395) (feq (by decide : ¬ ((1 : Int32) = (0 : Int32)))).1 ?_
      refine own_aload X65h hx 400 (hb hby at_398) rfl rfl ?_
      refine own_bipush X65h hx 402 (8 : Int32) (hb hby at_400) rfl ?_
      refine own_iload X65h hx 404 (hb hby at_402) rfl ?_
      refine own_iload X65h hx 406 (hb hby at_404) rfl ?_
      refine own_iload X65h hx 408 (hb hby at_406) rfl ?_
      obtain ⟨_, _, ⟨T66, Lx66, kc66, nc66⟩, -, X66, ⟨Lc66, hQ66, lq66, yq66, zq66⟩, st66⟩ := Jvm.LawKit.callS X65h hx (y := (⟨"com/example/deltalog/deltalog/ColumnTypeWriteIntPinLaw", "kept", "([BIIIB)Z"⟩ : MethodName)) hown (mvT hZ (hw _ (List.mem_of_getElem? (i := 8) rfl))) (mvT hZ (hw _ (List.mem_of_getElem? (i := 9) rfl))) (mvT hZ (hw _ (List.mem_of_getElem? (i := 10) rfl))) (mvT hZ (hw _ (List.mem_of_getElem? (i := 11) rfl))) (by decide) (backOf (W := 0) (own_rm2 l Z a0 hw [] b1 (8 : Int32) aa (aa + len_52) ff k1 gg_52 T52.heap n0 Z53 G52_0 (by decide : (¬ (8 : Int32) < 0 ∧ (8 : Int32) < (24 : Int32)) ∧ (8 : Int32).toNatClampNeg < 24) (own_keep ha P52_1 P52_0 P52_2 (8 : Int32) (by decide) : (8 : Int32) < aa ∨ ¬ ((8 : Int32) < (aa + len_52)) → gg_52 (8 : Int32).toNatClampNeg = ff)) hZ (hw _ (List.mem_of_getElem? (i := 11) rfl)) (hw _ (List.mem_of_getElem? (i := 10) rfl)) (by decide) (by decide)) (g := (mkF m 408 #[.val (.long q1), .second, .val (.int v2), .val (.int v3), .val (.int v4), .val (.long qq), .second, .val (.int aa), .val (.int ff), .val (.ref b1), .val (.int (aa + len_52)), .val (.int (1 : Int32)), .val (.int (aa + (1 : Int32))), .unset, .unset, .unset] [(.int ff), (.int (aa + len_52)), (.int aa), (.int (8 : Int32)), (.ref b1)])) rfl (by rw [hml]; rfl) (argsL := [(.ref b1), (.int (8 : Int32)), (.int aa), (.int (aa + len_52)), (.int ff)]) (rest := []) (lenOf own_pd2 rfl) rfl (by show 2 * 0 + _ ≤ _; exact Nat.le_of_eq rfl) (hb hby at_408) (fun _ _ => ⟨rfl, eh65, (by decide : 1 + 0 ≤ _), (by decide : 24 + 0 ≤ _)⟩)
      dsimp only [Pt.U, Pt.locs, Pt.cells, Pt.slots] at X66 lq66 yq66 zq66 st66 hQ66
      subst lq66 yq66 zq66
      obtain ⟨rfl, Nq66, eh66⟩ := hQ66
      have N66 := Fr.app N65h Nq66
      refine own_st (G' := T66.setTop (mkF m 411 #[.val (.long q1), .second, .val (.int v2), .val (.int v3), .val (.int v4), .val (.long qq), .second, .val (.int aa), .val (.int ff), .val (.ref b1), .val (.int (aa + len_52)), .val (.int (1 : Int32)), .val (.int (aa + (1 : Int32))), .unset, .unset, .unset] [(.int (1 : Int32))])) st66 ?_
      obtain ⟨_, X66h, N66h⟩ := own_hide X66 N66
      refine own_ifNo X66h hx 414 (hb hby at_411) (feq (by decide : ¬ ((1 : Int32) = (0 : Int32)))).1 ?_
      refine own_aload X66h hx 416 (hb hby at_414) rfl rfl ?_
      refine own_bipush X66h hx 418 (9 : Int32) (hb hby at_416) rfl ?_
      refine own_iload X66h hx 420 (hb hby at_418) rfl ?_
      refine own_iload X66h hx 422 (hb hby at_420) rfl ?_
      refine own_iload X66h hx 424 (hb hby at_422) rfl ?_
      obtain ⟨_, _, ⟨T67, Lx67, kc67, nc67⟩, -, X67, ⟨Lc67, hQ67, lq67, yq67, zq67⟩, st67⟩ := Jvm.LawKit.callS X66h hx (y := (⟨"com/example/deltalog/deltalog/ColumnTypeWriteIntPinLaw", "kept", "([BIIIB)Z"⟩ : MethodName)) hown (mvT hZ (hw _ (List.mem_of_getElem? (i := 8) rfl))) (mvT hZ (hw _ (List.mem_of_getElem? (i := 9) rfl))) (mvT hZ (hw _ (List.mem_of_getElem? (i := 10) rfl))) (mvT hZ (hw _ (List.mem_of_getElem? (i := 11) rfl))) (by decide) (backOf (W := 0) (own_rm2 l Z a0 hw [] b1 (9 : Int32) aa (aa + len_52) ff k1 gg_52 T52.heap n0 Z53 G52_0 (by decide : (¬ (9 : Int32) < 0 ∧ (9 : Int32) < (24 : Int32)) ∧ (9 : Int32).toNatClampNeg < 24) (own_keep ha P52_1 P52_0 P52_2 (9 : Int32) (by decide) : (9 : Int32) < aa ∨ ¬ ((9 : Int32) < (aa + len_52)) → gg_52 (9 : Int32).toNatClampNeg = ff)) hZ (hw _ (List.mem_of_getElem? (i := 11) rfl)) (hw _ (List.mem_of_getElem? (i := 10) rfl)) (by decide) (by decide)) (g := (mkF m 424 #[.val (.long q1), .second, .val (.int v2), .val (.int v3), .val (.int v4), .val (.long qq), .second, .val (.int aa), .val (.int ff), .val (.ref b1), .val (.int (aa + len_52)), .val (.int (1 : Int32)), .val (.int (aa + (1 : Int32))), .unset, .unset, .unset] [(.int ff), (.int (aa + len_52)), (.int aa), (.int (9 : Int32)), (.ref b1)])) rfl (by rw [hml]; rfl) (argsL := [(.ref b1), (.int (9 : Int32)), (.int aa), (.int (aa + len_52)), (.int ff)]) (rest := []) (lenOf own_pd2 rfl) rfl (by show 2 * 0 + _ ≤ _; exact Nat.le_of_eq rfl) (hb hby at_424) (fun _ _ => ⟨rfl, eh66, (by decide : 1 + 0 ≤ _), (by decide : 24 + 0 ≤ _)⟩)
      dsimp only [Pt.U, Pt.locs, Pt.cells, Pt.slots] at X67 lq67 yq67 zq67 st67 hQ67
      subst lq67 yq67 zq67
      obtain ⟨rfl, Nq67, eh67⟩ := hQ67
      have N67 := Fr.app N66h Nq67
      refine own_st (G' := T67.setTop (mkF m 427 #[.val (.long q1), .second, .val (.int v2), .val (.int v3), .val (.int v4), .val (.long qq), .second, .val (.int aa), .val (.int ff), .val (.ref b1), .val (.int (aa + len_52)), .val (.int (1 : Int32)), .val (.int (aa + (1 : Int32))), .unset, .unset, .unset] [(.int (1 : Int32))])) st67 ?_
      obtain ⟨_, X67h, N67h⟩ := own_hide X67 N67
      refine own_ifNo X67h hx 430 (hb hby at_427) (feq (by decide : ¬ ((1 : Int32) = (0 : Int32)))).1 ?_
      refine own_aload X67h hx 432 (hb hby at_430) rfl rfl ?_
      refine own_bipush X67h hx 434 (10 : Int32) (hb hby at_432) rfl ?_
      refine own_iload X67h hx 436 (hb hby at_434) rfl ?_
      refine own_iload X67h hx 438 (hb hby at_436) rfl ?_
      refine own_iload X67h hx 440 (hb hby at_438) rfl ?_
      obtain ⟨_, _, ⟨T68, Lx68, kc68, nc68⟩, -, X68, ⟨Lc68, hQ68, lq68, yq68, zq68⟩, st68⟩ := Jvm.LawKit.callS X67h hx (y := (⟨"com/example/deltalog/deltalog/ColumnTypeWriteIntPinLaw", "kept", "([BIIIB)Z"⟩ : MethodName)) hown (mvT hZ (hw _ (List.mem_of_getElem? (i := 8) rfl))) (mvT hZ (hw _ (List.mem_of_getElem? (i := 9) rfl))) (mvT hZ (hw _ (List.mem_of_getElem? (i := 10) rfl))) (mvT hZ (hw _ (List.mem_of_getElem? (i := 11) rfl))) (by decide) (backOf (W := 0) (own_rm2 l Z a0 hw [] b1 (10 : Int32) aa (aa + len_52) ff k1 gg_52 T52.heap n0 Z53 G52_0 (by decide : (¬ (10 : Int32) < 0 ∧ (10 : Int32) < (24 : Int32)) ∧ (10 : Int32).toNatClampNeg < 24) (own_keep ha P52_1 P52_0 P52_2 (10 : Int32) (by decide) : (10 : Int32) < aa ∨ ¬ ((10 : Int32) < (aa + len_52)) → gg_52 (10 : Int32).toNatClampNeg = ff)) hZ (hw _ (List.mem_of_getElem? (i := 11) rfl)) (hw _ (List.mem_of_getElem? (i := 10) rfl)) (by decide) (by decide)) (g := (mkF m 440 #[.val (.long q1), .second, .val (.int v2), .val (.int v3), .val (.int v4), .val (.long qq), .second, .val (.int aa), .val (.int ff), .val (.ref b1), .val (.int (aa + len_52)), .val (.int (1 : Int32)), .val (.int (aa + (1 : Int32))), .unset, .unset, .unset] [(.int ff), (.int (aa + len_52)), (.int aa), (.int (10 : Int32)), (.ref b1)])) rfl (by rw [hml]; rfl) (argsL := [(.ref b1), (.int (10 : Int32)), (.int aa), (.int (aa + len_52)), (.int ff)]) (rest := []) (lenOf own_pd2 rfl) rfl (by show 2 * 0 + _ ≤ _; exact Nat.le_of_eq rfl) (hb hby at_440) (fun _ _ => ⟨rfl, eh67, (by decide : 1 + 0 ≤ _), (by decide : 24 + 0 ≤ _)⟩)
      dsimp only [Pt.U, Pt.locs, Pt.cells, Pt.slots] at X68 lq68 yq68 zq68 st68 hQ68
      subst lq68 yq68 zq68
      obtain ⟨rfl, Nq68, eh68⟩ := hQ68
      have N68 := Fr.app N67h Nq68
      refine own_st (G' := T68.setTop (mkF m 443 #[.val (.long q1), .second, .val (.int v2), .val (.int v3), .val (.int v4), .val (.long qq), .second, .val (.int aa), .val (.int ff), .val (.ref b1), .val (.int (aa + len_52)), .val (.int (1 : Int32)), .val (.int (aa + (1 : Int32))), .unset, .unset, .unset] [(.int (1 : Int32))])) st68 ?_
      obtain ⟨_, X68h, N68h⟩ := own_hide X68 N68
      refine own_ifNo X68h hx 446 (hb hby at_443) (feq (by decide : ¬ ((1 : Int32) = (0 : Int32)))).1 ?_
      refine own_aload X68h hx 448 (hb hby at_446) rfl rfl ?_
      refine own_bipush X68h hx 450 (11 : Int32) (hb hby at_448) rfl ?_
      refine own_iload X68h hx 452 (hb hby at_450) rfl ?_
      refine own_iload X68h hx 454 (hb hby at_452) rfl ?_
      refine own_iload X68h hx 456 (hb hby at_454) rfl ?_
      obtain ⟨_, _, ⟨T69, Lx69, kc69, nc69⟩, -, X69, ⟨Lc69, hQ69, lq69, yq69, zq69⟩, st69⟩ := Jvm.LawKit.callS X68h hx (y := (⟨"com/example/deltalog/deltalog/ColumnTypeWriteIntPinLaw", "kept", "([BIIIB)Z"⟩ : MethodName)) hown (mvT hZ (hw _ (List.mem_of_getElem? (i := 8) rfl))) (mvT hZ (hw _ (List.mem_of_getElem? (i := 9) rfl))) (mvT hZ (hw _ (List.mem_of_getElem? (i := 10) rfl))) (mvT hZ (hw _ (List.mem_of_getElem? (i := 11) rfl))) (by decide) (backOf (W := 0) (own_rm2 l Z a0 hw [] b1 (11 : Int32) aa (aa + len_52) ff k1 gg_52 T52.heap n0 Z53 G52_0 (by decide : (¬ (11 : Int32) < 0 ∧ (11 : Int32) < (24 : Int32)) ∧ (11 : Int32).toNatClampNeg < 24) (own_keep ha P52_1 P52_0 P52_2 (11 : Int32) (by decide) : (11 : Int32) < aa ∨ ¬ ((11 : Int32) < (aa + len_52)) → gg_52 (11 : Int32).toNatClampNeg = ff)) hZ (hw _ (List.mem_of_getElem? (i := 11) rfl)) (hw _ (List.mem_of_getElem? (i := 10) rfl)) (by decide) (by decide)) (g := (mkF m 456 #[.val (.long q1), .second, .val (.int v2), .val (.int v3), .val (.int v4), .val (.long qq), .second, .val (.int aa), .val (.int ff), .val (.ref b1), .val (.int (aa + len_52)), .val (.int (1 : Int32)), .val (.int (aa + (1 : Int32))), .unset, .unset, .unset] [(.int ff), (.int (aa + len_52)), (.int aa), (.int (11 : Int32)), (.ref b1)])) rfl (by rw [hml]; rfl) (argsL := [(.ref b1), (.int (11 : Int32)), (.int aa), (.int (aa + len_52)), (.int ff)]) (rest := []) (lenOf own_pd2 rfl) rfl (by show 2 * 0 + _ ≤ _; exact Nat.le_of_eq rfl) (hb hby at_456) (fun _ _ => ⟨rfl, eh68, (by decide : 1 + 0 ≤ _), (by decide : 24 + 0 ≤ _)⟩)
      dsimp only [Pt.U, Pt.locs, Pt.cells, Pt.slots] at X69 lq69 yq69 zq69 st69 hQ69
      subst lq69 yq69 zq69
      obtain ⟨rfl, Nq69, eh69⟩ := hQ69
      have N69 := Fr.app N68h Nq69
      refine own_st (G' := T69.setTop (mkF m 459 #[.val (.long q1), .second, .val (.int v2), .val (.int v3), .val (.int v4), .val (.long qq), .second, .val (.int aa), .val (.int ff), .val (.ref b1), .val (.int (aa + len_52)), .val (.int (1 : Int32)), .val (.int (aa + (1 : Int32))), .unset, .unset, .unset] [(.int (1 : Int32))])) st69 ?_
      obtain ⟨_, X69h, N69h⟩ := own_hide X69 N69
      refine own_ifNo X69h hx 462 (hb hby at_459) (feq (by decide : ¬ ((1 : Int32) = (0 : Int32)))).1 ?_
      refine own_aload X69h hx 464 (hb hby at_462) rfl rfl ?_
      refine own_bipush X69h hx 466 (12 : Int32) (hb hby at_464) rfl ?_
      refine own_iload X69h hx 468 (hb hby at_466) rfl ?_
      refine own_iload X69h hx 470 (hb hby at_468) rfl ?_
      refine own_iload X69h hx 472 (hb hby at_470) rfl ?_
      obtain ⟨_, _, ⟨T70, Lx70, kc70, nc70⟩, -, X70, ⟨Lc70, hQ70, lq70, yq70, zq70⟩, st70⟩ := Jvm.LawKit.callS X69h hx (y := (⟨"com/example/deltalog/deltalog/ColumnTypeWriteIntPinLaw", "kept", "([BIIIB)Z"⟩ : MethodName)) hown (mvT hZ (hw _ (List.mem_of_getElem? (i := 8) rfl))) (mvT hZ (hw _ (List.mem_of_getElem? (i := 9) rfl))) (mvT hZ (hw _ (List.mem_of_getElem? (i := 10) rfl))) (mvT hZ (hw _ (List.mem_of_getElem? (i := 11) rfl))) (by decide) (backOf (W := 0) (own_rm2 l Z a0 hw [] b1 (12 : Int32) aa (aa + len_52) ff k1 gg_52 T52.heap n0 Z53 G52_0 (by decide : (¬ (12 : Int32) < 0 ∧ (12 : Int32) < (24 : Int32)) ∧ (12 : Int32).toNatClampNeg < 24) (own_keep ha P52_1 P52_0 P52_2 (12 : Int32) (by decide) : (12 : Int32) < aa ∨ ¬ ((12 : Int32) < (aa + len_52)) → gg_52 (12 : Int32).toNatClampNeg = ff)) hZ (hw _ (List.mem_of_getElem? (i := 11) rfl)) (hw _ (List.mem_of_getElem? (i := 10) rfl)) (by decide) (by decide)) (g := (mkF m 472 #[.val (.long q1), .second, .val (.int v2), .val (.int v3), .val (.int v4), .val (.long qq), .second, .val (.int aa), .val (.int ff), .val (.ref b1), .val (.int (aa + len_52)), .val (.int (1 : Int32)), .val (.int (aa + (1 : Int32))), .unset, .unset, .unset] [(.int ff), (.int (aa + len_52)), (.int aa), (.int (12 : Int32)), (.ref b1)])) rfl (by rw [hml]; rfl) (argsL := [(.ref b1), (.int (12 : Int32)), (.int aa), (.int (aa + len_52)), (.int ff)]) (rest := []) (lenOf own_pd2 rfl) rfl (by show 2 * 0 + _ ≤ _; exact Nat.le_of_eq rfl) (hb hby at_472) (fun _ _ => ⟨rfl, eh69, (by decide : 1 + 0 ≤ _), (by decide : 24 + 0 ≤ _)⟩)
      dsimp only [Pt.U, Pt.locs, Pt.cells, Pt.slots] at X70 lq70 yq70 zq70 st70 hQ70
      subst lq70 yq70 zq70
      obtain ⟨rfl, Nq70, eh70⟩ := hQ70
      have N70 := Fr.app N69h Nq70
      refine own_st (G' := T70.setTop (mkF m 475 #[.val (.long q1), .second, .val (.int v2), .val (.int v3), .val (.int v4), .val (.long qq), .second, .val (.int aa), .val (.int ff), .val (.ref b1), .val (.int (aa + len_52)), .val (.int (1 : Int32)), .val (.int (aa + (1 : Int32))), .unset, .unset, .unset] [(.int (1 : Int32))])) st70 ?_
      obtain ⟨_, X70h, N70h⟩ := own_hide X70 N70
      refine own_ifNo X70h hx 478 (hb hby at_475) (feq (by decide : ¬ ((1 : Int32) = (0 : Int32)))).1 ?_
      refine own_aload X70h hx 480 (hb hby at_478) rfl rfl ?_
      refine own_bipush X70h hx 482 (13 : Int32) (hb hby at_480) rfl ?_
      refine own_iload X70h hx 484 (hb hby at_482) rfl ?_
      refine own_iload X70h hx 486 (hb hby at_484) rfl ?_
      refine own_iload X70h hx 488 (hb hby at_486) rfl ?_
      obtain ⟨_, _, ⟨T71, Lx71, kc71, nc71⟩, -, X71, ⟨Lc71, hQ71, lq71, yq71, zq71⟩, st71⟩ := Jvm.LawKit.callS X70h hx (y := (⟨"com/example/deltalog/deltalog/ColumnTypeWriteIntPinLaw", "kept", "([BIIIB)Z"⟩ : MethodName)) hown (mvT hZ (hw _ (List.mem_of_getElem? (i := 8) rfl))) (mvT hZ (hw _ (List.mem_of_getElem? (i := 9) rfl))) (mvT hZ (hw _ (List.mem_of_getElem? (i := 10) rfl))) (mvT hZ (hw _ (List.mem_of_getElem? (i := 11) rfl))) (by decide) (backOf (W := 0) (own_rm2 l Z a0 hw [] b1 (13 : Int32) aa (aa + len_52) ff k1 gg_52 T52.heap n0 Z53 G52_0 (by decide : (¬ (13 : Int32) < 0 ∧ (13 : Int32) < (24 : Int32)) ∧ (13 : Int32).toNatClampNeg < 24) (own_keep ha P52_1 P52_0 P52_2 (13 : Int32) (by decide) : (13 : Int32) < aa ∨ ¬ ((13 : Int32) < (aa + len_52)) → gg_52 (13 : Int32).toNatClampNeg = ff)) hZ (hw _ (List.mem_of_getElem? (i := 11) rfl)) (hw _ (List.mem_of_getElem? (i := 10) rfl)) (by decide) (by decide)) (g := (mkF m 488 #[.val (.long q1), .second, .val (.int v2), .val (.int v3), .val (.int v4), .val (.long qq), .second, .val (.int aa), .val (.int ff), .val (.ref b1), .val (.int (aa + len_52)), .val (.int (1 : Int32)), .val (.int (aa + (1 : Int32))), .unset, .unset, .unset] [(.int ff), (.int (aa + len_52)), (.int aa), (.int (13 : Int32)), (.ref b1)])) rfl (by rw [hml]; rfl) (argsL := [(.ref b1), (.int (13 : Int32)), (.int aa), (.int (aa + len_52)), (.int ff)]) (rest := []) (lenOf own_pd2 rfl) rfl (by show 2 * 0 + _ ≤ _; exact Nat.le_of_eq rfl) (hb hby at_488) (fun _ _ => ⟨rfl, eh70, (by decide : 1 + 0 ≤ _), (by decide : 24 + 0 ≤ _)⟩)
      dsimp only [Pt.U, Pt.locs, Pt.cells, Pt.slots] at X71 lq71 yq71 zq71 st71 hQ71
      subst lq71 yq71 zq71
      obtain ⟨rfl, Nq71, eh71⟩ := hQ71
      have N71 := Fr.app N70h Nq71
      refine own_st (G' := T71.setTop (mkF m 491 #[.val (.long q1), .second, .val (.int v2), .val (.int v3), .val (.int v4), .val (.long qq), .second, .val (.int aa), .val (.int ff), .val (.ref b1), .val (.int (aa + len_52)), .val (.int (1 : Int32)), .val (.int (aa + (1 : Int32))), .unset, .unset, .unset] [(.int (1 : Int32))])) st71 ?_
      obtain ⟨_, X71h, N71h⟩ := own_hide X71 N71
      refine own_ifNo X71h hx 494 (hb hby at_491) (feq (by decide : ¬ ((1 : Int32) = (0 : Int32)))).1 ?_
      refine own_aload X71h hx 496 (hb hby at_494) rfl rfl ?_
      refine own_bipush X71h hx 498 (14 : Int32) (hb hby at_496) rfl ?_
      refine own_iload X71h hx 500 (hb hby at_498) rfl ?_
      refine own_iload X71h hx 502 (hb hby at_500) rfl ?_
      refine own_iload X71h hx 504 (hb hby at_502) rfl ?_
      obtain ⟨_, _, ⟨T72, Lx72, kc72, nc72⟩, -, X72, ⟨Lc72, hQ72, lq72, yq72, zq72⟩, st72⟩ := Jvm.LawKit.callS X71h hx (y := (⟨"com/example/deltalog/deltalog/ColumnTypeWriteIntPinLaw", "kept", "([BIIIB)Z"⟩ : MethodName)) hown (mvT hZ (hw _ (List.mem_of_getElem? (i := 8) rfl))) (mvT hZ (hw _ (List.mem_of_getElem? (i := 9) rfl))) (mvT hZ (hw _ (List.mem_of_getElem? (i := 10) rfl))) (mvT hZ (hw _ (List.mem_of_getElem? (i := 11) rfl))) (by decide) (backOf (W := 0) (own_rm2 l Z a0 hw [] b1 (14 : Int32) aa (aa + len_52) ff k1 gg_52 T52.heap n0 Z53 G52_0 (by decide : (¬ (14 : Int32) < 0 ∧ (14 : Int32) < (24 : Int32)) ∧ (14 : Int32).toNatClampNeg < 24) (own_keep ha P52_1 P52_0 P52_2 (14 : Int32) (by decide) : (14 : Int32) < aa ∨ ¬ ((14 : Int32) < (aa + len_52)) → gg_52 (14 : Int32).toNatClampNeg = ff)) hZ (hw _ (List.mem_of_getElem? (i := 11) rfl)) (hw _ (List.mem_of_getElem? (i := 10) rfl)) (by decide) (by decide)) (g := (mkF m 504 #[.val (.long q1), .second, .val (.int v2), .val (.int v3), .val (.int v4), .val (.long qq), .second, .val (.int aa), .val (.int ff), .val (.ref b1), .val (.int (aa + len_52)), .val (.int (1 : Int32)), .val (.int (aa + (1 : Int32))), .unset, .unset, .unset] [(.int ff), (.int (aa + len_52)), (.int aa), (.int (14 : Int32)), (.ref b1)])) rfl (by rw [hml]; rfl) (argsL := [(.ref b1), (.int (14 : Int32)), (.int aa), (.int (aa + len_52)), (.int ff)]) (rest := []) (lenOf own_pd2 rfl) rfl (by show 2 * 0 + _ ≤ _; exact Nat.le_of_eq rfl) (hb hby at_504) (fun _ _ => ⟨rfl, eh71, (by decide : 1 + 0 ≤ _), (by decide : 24 + 0 ≤ _)⟩)
      dsimp only [Pt.U, Pt.locs, Pt.cells, Pt.slots] at X72 lq72 yq72 zq72 st72 hQ72
      subst lq72 yq72 zq72
      obtain ⟨rfl, Nq72, eh72⟩ := hQ72
      have N72 := Fr.app N71h Nq72
      refine own_st (G' := T72.setTop (mkF m 507 #[.val (.long q1), .second, .val (.int v2), .val (.int v3), .val (.int v4), .val (.long qq), .second, .val (.int aa), .val (.int ff), .val (.ref b1), .val (.int (aa + len_52)), .val (.int (1 : Int32)), .val (.int (aa + (1 : Int32))), .unset, .unset, .unset] [(.int (1 : Int32))])) st72 ?_
      obtain ⟨_, X72h, N72h⟩ := own_hide X72 N72
      refine own_ifNo X72h hx 510 (hb hby at_507) (feq (by decide : ¬ ((1 : Int32) = (0 : Int32)))).1 ?_
      refine own_aload X72h hx 512 (hb hby at_510) rfl rfl ?_
      refine own_bipush X72h hx 514 (15 : Int32) (hb hby at_512) rfl ?_
      refine own_iload X72h hx 516 (hb hby at_514) rfl ?_
      refine own_iload X72h hx 518 (hb hby at_516) rfl ?_
      refine own_iload X72h hx 520 (hb hby at_518) rfl ?_
      obtain ⟨_, _, ⟨T73, Lx73, kc73, nc73⟩, -, X73, ⟨Lc73, hQ73, lq73, yq73, zq73⟩, st73⟩ := Jvm.LawKit.callS X72h hx (y := (⟨"com/example/deltalog/deltalog/ColumnTypeWriteIntPinLaw", "kept", "([BIIIB)Z"⟩ : MethodName)) hown (mvT hZ (hw _ (List.mem_of_getElem? (i := 8) rfl))) (mvT hZ (hw _ (List.mem_of_getElem? (i := 9) rfl))) (mvT hZ (hw _ (List.mem_of_getElem? (i := 10) rfl))) (mvT hZ (hw _ (List.mem_of_getElem? (i := 11) rfl))) (by decide) (backOf (W := 0) (own_rm2 l Z a0 hw [] b1 (15 : Int32) aa (aa + len_52) ff k1 gg_52 T52.heap n0 Z53 G52_0 (by decide : (¬ (15 : Int32) < 0 ∧ (15 : Int32) < (24 : Int32)) ∧ (15 : Int32).toNatClampNeg < 24) (own_keep ha P52_1 P52_0 P52_2 (15 : Int32) (by decide) : (15 : Int32) < aa ∨ ¬ ((15 : Int32) < (aa + len_52)) → gg_52 (15 : Int32).toNatClampNeg = ff)) hZ (hw _ (List.mem_of_getElem? (i := 11) rfl)) (hw _ (List.mem_of_getElem? (i := 10) rfl)) (by decide) (by decide)) (g := (mkF m 520 #[.val (.long q1), .second, .val (.int v2), .val (.int v3), .val (.int v4), .val (.long qq), .second, .val (.int aa), .val (.int ff), .val (.ref b1), .val (.int (aa + len_52)), .val (.int (1 : Int32)), .val (.int (aa + (1 : Int32))), .unset, .unset, .unset] [(.int ff), (.int (aa + len_52)), (.int aa), (.int (15 : Int32)), (.ref b1)])) rfl (by rw [hml]; rfl) (argsL := [(.ref b1), (.int (15 : Int32)), (.int aa), (.int (aa + len_52)), (.int ff)]) (rest := []) (lenOf own_pd2 rfl) rfl (by show 2 * 0 + _ ≤ _; exact Nat.le_of_eq rfl) (hb hby at_520) (fun _ _ => ⟨rfl, eh72, (by decide : 1 + 0 ≤ _), (by decide : 24 + 0 ≤ _)⟩)
      dsimp only [Pt.U, Pt.locs, Pt.cells, Pt.slots] at X73 lq73 yq73 zq73 st73 hQ73
      subst lq73 yq73 zq73
      obtain ⟨rfl, Nq73, eh73⟩ := hQ73
      have N73 := Fr.app N72h Nq73
      refine own_st (G' := T73.setTop (mkF m 523 #[.val (.long q1), .second, .val (.int v2), .val (.int v3), .val (.int v4), .val (.long qq), .second, .val (.int aa), .val (.int ff), .val (.ref b1), .val (.int (aa + len_52)), .val (.int (1 : Int32)), .val (.int (aa + (1 : Int32))), .unset, .unset, .unset] [(.int (1 : Int32))])) st73 ?_
      obtain ⟨_, X73h, N73h⟩ := own_hide X73 N73
      refine own_ifNo X73h hx 526 (hb hby at_523) (feq (by decide : ¬ ((1 : Int32) = (0 : Int32)))).1 ?_
      refine own_aload X73h hx 528 (hb hby at_526) rfl rfl ?_
      refine own_bipush X73h hx 530 (16 : Int32) (hb hby at_528) rfl ?_
      refine own_iload X73h hx 532 (hb hby at_530) rfl ?_
      refine own_iload X73h hx 534 (hb hby at_532) rfl ?_
      refine own_iload X73h hx 536 (hb hby at_534) rfl ?_
      obtain ⟨_, _, ⟨T74, Lx74, kc74, nc74⟩, -, X74, ⟨Lc74, hQ74, lq74, yq74, zq74⟩, st74⟩ := Jvm.LawKit.callS X73h hx (y := (⟨"com/example/deltalog/deltalog/ColumnTypeWriteIntPinLaw", "kept", "([BIIIB)Z"⟩ : MethodName)) hown (mvT hZ (hw _ (List.mem_of_getElem? (i := 8) rfl))) (mvT hZ (hw _ (List.mem_of_getElem? (i := 9) rfl))) (mvT hZ (hw _ (List.mem_of_getElem? (i := 10) rfl))) (mvT hZ (hw _ (List.mem_of_getElem? (i := 11) rfl))) (by decide) (backOf (W := 0) (own_rm2 l Z a0 hw [] b1 (16 : Int32) aa (aa + len_52) ff k1 gg_52 T52.heap n0 Z53 G52_0 (by decide : (¬ (16 : Int32) < 0 ∧ (16 : Int32) < (24 : Int32)) ∧ (16 : Int32).toNatClampNeg < 24) (own_keep ha P52_1 P52_0 P52_2 (16 : Int32) (by decide) : (16 : Int32) < aa ∨ ¬ ((16 : Int32) < (aa + len_52)) → gg_52 (16 : Int32).toNatClampNeg = ff)) hZ (hw _ (List.mem_of_getElem? (i := 11) rfl)) (hw _ (List.mem_of_getElem? (i := 10) rfl)) (by decide) (by decide)) (g := (mkF m 536 #[.val (.long q1), .second, .val (.int v2), .val (.int v3), .val (.int v4), .val (.long qq), .second, .val (.int aa), .val (.int ff), .val (.ref b1), .val (.int (aa + len_52)), .val (.int (1 : Int32)), .val (.int (aa + (1 : Int32))), .unset, .unset, .unset] [(.int ff), (.int (aa + len_52)), (.int aa), (.int (16 : Int32)), (.ref b1)])) rfl (by rw [hml]; rfl) (argsL := [(.ref b1), (.int (16 : Int32)), (.int aa), (.int (aa + len_52)), (.int ff)]) (rest := []) (lenOf own_pd2 rfl) rfl (by show 2 * 0 + _ ≤ _; exact Nat.le_of_eq rfl) (hb hby at_536) (fun _ _ => ⟨rfl, eh73, (by decide : 1 + 0 ≤ _), (by decide : 24 + 0 ≤ _)⟩)
      dsimp only [Pt.U, Pt.locs, Pt.cells, Pt.slots] at X74 lq74 yq74 zq74 st74 hQ74
      subst lq74 yq74 zq74
      obtain ⟨rfl, Nq74, eh74⟩ := hQ74
      have N74 := Fr.app N73h Nq74
      refine own_st (G' := T74.setTop (mkF m 539 #[.val (.long q1), .second, .val (.int v2), .val (.int v3), .val (.int v4), .val (.long qq), .second, .val (.int aa), .val (.int ff), .val (.ref b1), .val (.int (aa + len_52)), .val (.int (1 : Int32)), .val (.int (aa + (1 : Int32))), .unset, .unset, .unset] [(.int (1 : Int32))])) st74 ?_
      obtain ⟨_, X74h, N74h⟩ := own_hide X74 N74
      refine own_ifNo X74h hx 542 (hb hby at_539) (feq (by decide : ¬ ((1 : Int32) = (0 : Int32)))).1 ?_
      refine own_aload X74h hx 544 (hb hby at_542) rfl rfl ?_
      refine own_bipush X74h hx 546 (17 : Int32) (hb hby at_544) rfl ?_
      refine own_iload X74h hx 548 (hb hby at_546) rfl ?_
      refine own_iload X74h hx 550 (hb hby at_548) rfl ?_
      refine own_iload X74h hx 552 (hb hby at_550) rfl ?_
      obtain ⟨_, _, ⟨T75, Lx75, kc75, nc75⟩, -, X75, ⟨Lc75, hQ75, lq75, yq75, zq75⟩, st75⟩ := Jvm.LawKit.callS X74h hx (y := (⟨"com/example/deltalog/deltalog/ColumnTypeWriteIntPinLaw", "kept", "([BIIIB)Z"⟩ : MethodName)) hown (mvT hZ (hw _ (List.mem_of_getElem? (i := 8) rfl))) (mvT hZ (hw _ (List.mem_of_getElem? (i := 9) rfl))) (mvT hZ (hw _ (List.mem_of_getElem? (i := 10) rfl))) (mvT hZ (hw _ (List.mem_of_getElem? (i := 11) rfl))) (by decide) (backOf (W := 0) (own_rm2 l Z a0 hw [] b1 (17 : Int32) aa (aa + len_52) ff k1 gg_52 T52.heap n0 Z53 G52_0 (by decide : (¬ (17 : Int32) < 0 ∧ (17 : Int32) < (24 : Int32)) ∧ (17 : Int32).toNatClampNeg < 24) (own_keep ha P52_1 P52_0 P52_2 (17 : Int32) (by decide) : (17 : Int32) < aa ∨ ¬ ((17 : Int32) < (aa + len_52)) → gg_52 (17 : Int32).toNatClampNeg = ff)) hZ (hw _ (List.mem_of_getElem? (i := 11) rfl)) (hw _ (List.mem_of_getElem? (i := 10) rfl)) (by decide) (by decide)) (g := (mkF m 552 #[.val (.long q1), .second, .val (.int v2), .val (.int v3), .val (.int v4), .val (.long qq), .second, .val (.int aa), .val (.int ff), .val (.ref b1), .val (.int (aa + len_52)), .val (.int (1 : Int32)), .val (.int (aa + (1 : Int32))), .unset, .unset, .unset] [(.int ff), (.int (aa + len_52)), (.int aa), (.int (17 : Int32)), (.ref b1)])) rfl (by rw [hml]; rfl) (argsL := [(.ref b1), (.int (17 : Int32)), (.int aa), (.int (aa + len_52)), (.int ff)]) (rest := []) (lenOf own_pd2 rfl) rfl (by show 2 * 0 + _ ≤ _; exact Nat.le_of_eq rfl) (hb hby at_552) (fun _ _ => ⟨rfl, eh74, (by decide : 1 + 0 ≤ _), (by decide : 24 + 0 ≤ _)⟩)
      dsimp only [Pt.U, Pt.locs, Pt.cells, Pt.slots] at X75 lq75 yq75 zq75 st75 hQ75
      subst lq75 yq75 zq75
      obtain ⟨rfl, Nq75, eh75⟩ := hQ75
      have N75 := Fr.app N74h Nq75
      refine own_st (G' := T75.setTop (mkF m 555 #[.val (.long q1), .second, .val (.int v2), .val (.int v3), .val (.int v4), .val (.long qq), .second, .val (.int aa), .val (.int ff), .val (.ref b1), .val (.int (aa + len_52)), .val (.int (1 : Int32)), .val (.int (aa + (1 : Int32))), .unset, .unset, .unset] [(.int (1 : Int32))])) st75 ?_
      obtain ⟨_, X75h, N75h⟩ := own_hide X75 N75
      refine own_ifNo X75h hx 558 (hb hby at_555) (feq (by decide : ¬ ((1 : Int32) = (0 : Int32)))).1 ?_
      refine own_aload X75h hx 560 (hb hby at_558) rfl rfl ?_
      refine own_bipush X75h hx 562 (18 : Int32) (hb hby at_560) rfl ?_
      refine own_iload X75h hx 564 (hb hby at_562) rfl ?_
      refine own_iload X75h hx 566 (hb hby at_564) rfl ?_
      refine own_iload X75h hx 568 (hb hby at_566) rfl ?_
      obtain ⟨_, _, ⟨T76, Lx76, kc76, nc76⟩, -, X76, ⟨Lc76, hQ76, lq76, yq76, zq76⟩, st76⟩ := Jvm.LawKit.callS X75h hx (y := (⟨"com/example/deltalog/deltalog/ColumnTypeWriteIntPinLaw", "kept", "([BIIIB)Z"⟩ : MethodName)) hown (mvT hZ (hw _ (List.mem_of_getElem? (i := 8) rfl))) (mvT hZ (hw _ (List.mem_of_getElem? (i := 9) rfl))) (mvT hZ (hw _ (List.mem_of_getElem? (i := 10) rfl))) (mvT hZ (hw _ (List.mem_of_getElem? (i := 11) rfl))) (by decide) (backOf (W := 0) (own_rm2 l Z a0 hw [] b1 (18 : Int32) aa (aa + len_52) ff k1 gg_52 T52.heap n0 Z53 G52_0 (by decide : (¬ (18 : Int32) < 0 ∧ (18 : Int32) < (24 : Int32)) ∧ (18 : Int32).toNatClampNeg < 24) (own_keep ha P52_1 P52_0 P52_2 (18 : Int32) (by decide) : (18 : Int32) < aa ∨ ¬ ((18 : Int32) < (aa + len_52)) → gg_52 (18 : Int32).toNatClampNeg = ff)) hZ (hw _ (List.mem_of_getElem? (i := 11) rfl)) (hw _ (List.mem_of_getElem? (i := 10) rfl)) (by decide) (by decide)) (g := (mkF m 568 #[.val (.long q1), .second, .val (.int v2), .val (.int v3), .val (.int v4), .val (.long qq), .second, .val (.int aa), .val (.int ff), .val (.ref b1), .val (.int (aa + len_52)), .val (.int (1 : Int32)), .val (.int (aa + (1 : Int32))), .unset, .unset, .unset] [(.int ff), (.int (aa + len_52)), (.int aa), (.int (18 : Int32)), (.ref b1)])) rfl (by rw [hml]; rfl) (argsL := [(.ref b1), (.int (18 : Int32)), (.int aa), (.int (aa + len_52)), (.int ff)]) (rest := []) (lenOf own_pd2 rfl) rfl (by show 2 * 0 + _ ≤ _; exact Nat.le_of_eq rfl) (hb hby at_568) (fun _ _ => ⟨rfl, eh75, (by decide : 1 + 0 ≤ _), (by decide : 24 + 0 ≤ _)⟩)
      dsimp only [Pt.U, Pt.locs, Pt.cells, Pt.slots] at X76 lq76 yq76 zq76 st76 hQ76
      subst lq76 yq76 zq76
      obtain ⟨rfl, Nq76, eh76⟩ := hQ76
      have N76 := Fr.app N75h Nq76
      refine own_st (G' := T76.setTop (mkF m 571 #[.val (.long q1), .second, .val (.int v2), .val (.int v3), .val (.int v4), .val (.long qq), .second, .val (.int aa), .val (.int ff), .val (.ref b1), .val (.int (aa + len_52)), .val (.int (1 : Int32)), .val (.int (aa + (1 : Int32))), .unset, .unset, .unset] [(.int (1 : Int32))])) st76 ?_
      obtain ⟨_, X76h, N76h⟩ := own_hide X76 N76
      refine own_ifNo X76h hx 574 (hb hby at_571) (feq (by decide : ¬ ((1 : Int32) = (0 : Int32)))).1 ?_
      refine own_aload X76h hx 576 (hb hby at_574) rfl rfl ?_
      refine own_bipush X76h hx 578 (19 : Int32) (hb hby at_576) rfl ?_
      refine own_iload X76h hx 580 (hb hby at_578) rfl ?_
      refine own_iload X76h hx 582 (hb hby at_580) rfl ?_
      refine own_iload X76h hx 584 (hb hby at_582) rfl ?_
      obtain ⟨_, _, ⟨T77, Lx77, kc77, nc77⟩, -, X77, ⟨Lc77, hQ77, lq77, yq77, zq77⟩, st77⟩ := Jvm.LawKit.callS X76h hx (y := (⟨"com/example/deltalog/deltalog/ColumnTypeWriteIntPinLaw", "kept", "([BIIIB)Z"⟩ : MethodName)) hown (mvT hZ (hw _ (List.mem_of_getElem? (i := 8) rfl))) (mvT hZ (hw _ (List.mem_of_getElem? (i := 9) rfl))) (mvT hZ (hw _ (List.mem_of_getElem? (i := 10) rfl))) (mvT hZ (hw _ (List.mem_of_getElem? (i := 11) rfl))) (by decide) (backOf (W := 0) (own_rm2 l Z a0 hw [] b1 (19 : Int32) aa (aa + len_52) ff k1 gg_52 T52.heap n0 Z53 G52_0 (by decide : (¬ (19 : Int32) < 0 ∧ (19 : Int32) < (24 : Int32)) ∧ (19 : Int32).toNatClampNeg < 24) (own_keep ha P52_1 P52_0 P52_2 (19 : Int32) (by decide) : (19 : Int32) < aa ∨ ¬ ((19 : Int32) < (aa + len_52)) → gg_52 (19 : Int32).toNatClampNeg = ff)) hZ (hw _ (List.mem_of_getElem? (i := 11) rfl)) (hw _ (List.mem_of_getElem? (i := 10) rfl)) (by decide) (by decide)) (g := (mkF m 584 #[.val (.long q1), .second, .val (.int v2), .val (.int v3), .val (.int v4), .val (.long qq), .second, .val (.int aa), .val (.int ff), .val (.ref b1), .val (.int (aa + len_52)), .val (.int (1 : Int32)), .val (.int (aa + (1 : Int32))), .unset, .unset, .unset] [(.int ff), (.int (aa + len_52)), (.int aa), (.int (19 : Int32)), (.ref b1)])) rfl (by rw [hml]; rfl) (argsL := [(.ref b1), (.int (19 : Int32)), (.int aa), (.int (aa + len_52)), (.int ff)]) (rest := []) (lenOf own_pd2 rfl) rfl (by show 2 * 0 + _ ≤ _; exact Nat.le_of_eq rfl) (hb hby at_584) (fun _ _ => ⟨rfl, eh76, (by decide : 1 + 0 ≤ _), (by decide : 24 + 0 ≤ _)⟩)
      dsimp only [Pt.U, Pt.locs, Pt.cells, Pt.slots] at X77 lq77 yq77 zq77 st77 hQ77
      subst lq77 yq77 zq77
      obtain ⟨rfl, Nq77, eh77⟩ := hQ77
      have N77 := Fr.app N76h Nq77
      refine own_st (G' := T77.setTop (mkF m 587 #[.val (.long q1), .second, .val (.int v2), .val (.int v3), .val (.int v4), .val (.long qq), .second, .val (.int aa), .val (.int ff), .val (.ref b1), .val (.int (aa + len_52)), .val (.int (1 : Int32)), .val (.int (aa + (1 : Int32))), .unset, .unset, .unset] [(.int (1 : Int32))])) st77 ?_
      obtain ⟨_, X77h, N77h⟩ := own_hide X77 N77
      refine own_ifNo X77h hx 590 (hb hby at_587) (feq (by decide : ¬ ((1 : Int32) = (0 : Int32)))).1 ?_
      refine own_aload X77h hx 592 (hb hby at_590) rfl rfl ?_
      refine own_bipush X77h hx 594 (20 : Int32) (hb hby at_592) rfl ?_
      refine own_iload X77h hx 596 (hb hby at_594) rfl ?_
      refine own_iload X77h hx 598 (hb hby at_596) rfl ?_
      refine own_iload X77h hx 600 (hb hby at_598) rfl ?_
      obtain ⟨_, _, ⟨T78, Lx78, kc78, nc78⟩, -, X78, ⟨Lc78, hQ78, lq78, yq78, zq78⟩, st78⟩ := Jvm.LawKit.callS X77h hx (y := (⟨"com/example/deltalog/deltalog/ColumnTypeWriteIntPinLaw", "kept", "([BIIIB)Z"⟩ : MethodName)) hown (mvT hZ (hw _ (List.mem_of_getElem? (i := 8) rfl))) (mvT hZ (hw _ (List.mem_of_getElem? (i := 9) rfl))) (mvT hZ (hw _ (List.mem_of_getElem? (i := 10) rfl))) (mvT hZ (hw _ (List.mem_of_getElem? (i := 11) rfl))) (by decide) (backOf (W := 0) (own_rm2 l Z a0 hw [] b1 (20 : Int32) aa (aa + len_52) ff k1 gg_52 T52.heap n0 Z53 G52_0 (by decide : (¬ (20 : Int32) < 0 ∧ (20 : Int32) < (24 : Int32)) ∧ (20 : Int32).toNatClampNeg < 24) (own_keep ha P52_1 P52_0 P52_2 (20 : Int32) (by decide) : (20 : Int32) < aa ∨ ¬ ((20 : Int32) < (aa + len_52)) → gg_52 (20 : Int32).toNatClampNeg = ff)) hZ (hw _ (List.mem_of_getElem? (i := 11) rfl)) (hw _ (List.mem_of_getElem? (i := 10) rfl)) (by decide) (by decide)) (g := (mkF m 600 #[.val (.long q1), .second, .val (.int v2), .val (.int v3), .val (.int v4), .val (.long qq), .second, .val (.int aa), .val (.int ff), .val (.ref b1), .val (.int (aa + len_52)), .val (.int (1 : Int32)), .val (.int (aa + (1 : Int32))), .unset, .unset, .unset] [(.int ff), (.int (aa + len_52)), (.int aa), (.int (20 : Int32)), (.ref b1)])) rfl (by rw [hml]; rfl) (argsL := [(.ref b1), (.int (20 : Int32)), (.int aa), (.int (aa + len_52)), (.int ff)]) (rest := []) (lenOf own_pd2 rfl) rfl (by show 2 * 0 + _ ≤ _; exact Nat.le_of_eq rfl) (hb hby at_600) (fun _ _ => ⟨rfl, eh77, (by decide : 1 + 0 ≤ _), (by decide : 24 + 0 ≤ _)⟩)
      dsimp only [Pt.U, Pt.locs, Pt.cells, Pt.slots] at X78 lq78 yq78 zq78 st78 hQ78
      subst lq78 yq78 zq78
      obtain ⟨rfl, Nq78, eh78⟩ := hQ78
      have N78 := Fr.app N77h Nq78
      refine own_st (G' := T78.setTop (mkF m 603 #[.val (.long q1), .second, .val (.int v2), .val (.int v3), .val (.int v4), .val (.long qq), .second, .val (.int aa), .val (.int ff), .val (.ref b1), .val (.int (aa + len_52)), .val (.int (1 : Int32)), .val (.int (aa + (1 : Int32))), .unset, .unset, .unset] [(.int (1 : Int32))])) st78 ?_
      obtain ⟨_, X78h, N78h⟩ := own_hide X78 N78
      refine own_ifNo X78h hx 606 (hb hby at_603) (feq (by decide : ¬ ((1 : Int32) = (0 : Int32)))).1 ?_
      refine own_aload X78h hx 608 (hb hby at_606) rfl rfl ?_
      refine own_bipush X78h hx 610 (21 : Int32) (hb hby at_608) rfl ?_
      refine own_iload X78h hx 612 (hb hby at_610) rfl ?_
      refine own_iload X78h hx 614 (hb hby at_612) rfl ?_
      refine own_iload X78h hx 616 (hb hby at_614) rfl ?_
      obtain ⟨_, _, ⟨T79, Lx79, kc79, nc79⟩, -, X79, ⟨Lc79, hQ79, lq79, yq79, zq79⟩, st79⟩ := Jvm.LawKit.callS X78h hx (y := (⟨"com/example/deltalog/deltalog/ColumnTypeWriteIntPinLaw", "kept", "([BIIIB)Z"⟩ : MethodName)) hown (mvT hZ (hw _ (List.mem_of_getElem? (i := 8) rfl))) (mvT hZ (hw _ (List.mem_of_getElem? (i := 9) rfl))) (mvT hZ (hw _ (List.mem_of_getElem? (i := 10) rfl))) (mvT hZ (hw _ (List.mem_of_getElem? (i := 11) rfl))) (by decide) (backOf (W := 0) (own_rm2 l Z a0 hw [] b1 (21 : Int32) aa (aa + len_52) ff k1 gg_52 T52.heap n0 Z53 G52_0 (by decide : (¬ (21 : Int32) < 0 ∧ (21 : Int32) < (24 : Int32)) ∧ (21 : Int32).toNatClampNeg < 24) (own_keep ha P52_1 P52_0 P52_2 (21 : Int32) (by decide) : (21 : Int32) < aa ∨ ¬ ((21 : Int32) < (aa + len_52)) → gg_52 (21 : Int32).toNatClampNeg = ff)) hZ (hw _ (List.mem_of_getElem? (i := 11) rfl)) (hw _ (List.mem_of_getElem? (i := 10) rfl)) (by decide) (by decide)) (g := (mkF m 616 #[.val (.long q1), .second, .val (.int v2), .val (.int v3), .val (.int v4), .val (.long qq), .second, .val (.int aa), .val (.int ff), .val (.ref b1), .val (.int (aa + len_52)), .val (.int (1 : Int32)), .val (.int (aa + (1 : Int32))), .unset, .unset, .unset] [(.int ff), (.int (aa + len_52)), (.int aa), (.int (21 : Int32)), (.ref b1)])) rfl (by rw [hml]; rfl) (argsL := [(.ref b1), (.int (21 : Int32)), (.int aa), (.int (aa + len_52)), (.int ff)]) (rest := []) (lenOf own_pd2 rfl) rfl (by show 2 * 0 + _ ≤ _; exact Nat.le_of_eq rfl) (hb hby at_616) (fun _ _ => ⟨rfl, eh78, (by decide : 1 + 0 ≤ _), (by decide : 24 + 0 ≤ _)⟩)
      dsimp only [Pt.U, Pt.locs, Pt.cells, Pt.slots] at X79 lq79 yq79 zq79 st79 hQ79
      subst lq79 yq79 zq79
      obtain ⟨rfl, Nq79, eh79⟩ := hQ79
      have N79 := Fr.app N78h Nq79
      refine own_st (G' := T79.setTop (mkF m 619 #[.val (.long q1), .second, .val (.int v2), .val (.int v3), .val (.int v4), .val (.long qq), .second, .val (.int aa), .val (.int ff), .val (.ref b1), .val (.int (aa + len_52)), .val (.int (1 : Int32)), .val (.int (aa + (1 : Int32))), .unset, .unset, .unset] [(.int (1 : Int32))])) st79 ?_
      obtain ⟨_, X79h, N79h⟩ := own_hide X79 N79
      refine own_ifNo X79h hx 622 (hb hby at_619) (feq (by decide : ¬ ((1 : Int32) = (0 : Int32)))).1 ?_
      refine own_aload X79h hx 624 (hb hby at_622) rfl rfl ?_
      refine own_bipush X79h hx 626 (22 : Int32) (hb hby at_624) rfl ?_
      refine own_iload X79h hx 628 (hb hby at_626) rfl ?_
      refine own_iload X79h hx 630 (hb hby at_628) rfl ?_
      refine own_iload X79h hx 632 (hb hby at_630) rfl ?_
      obtain ⟨_, _, ⟨T80, Lx80, kc80, nc80⟩, -, X80, ⟨Lc80, hQ80, lq80, yq80, zq80⟩, st80⟩ := Jvm.LawKit.callS X79h hx (y := (⟨"com/example/deltalog/deltalog/ColumnTypeWriteIntPinLaw", "kept", "([BIIIB)Z"⟩ : MethodName)) hown (mvT hZ (hw _ (List.mem_of_getElem? (i := 8) rfl))) (mvT hZ (hw _ (List.mem_of_getElem? (i := 9) rfl))) (mvT hZ (hw _ (List.mem_of_getElem? (i := 10) rfl))) (mvT hZ (hw _ (List.mem_of_getElem? (i := 11) rfl))) (by decide) (backOf (W := 0) (own_rm2 l Z a0 hw [] b1 (22 : Int32) aa (aa + len_52) ff k1 gg_52 T52.heap n0 Z53 G52_0 (by decide : (¬ (22 : Int32) < 0 ∧ (22 : Int32) < (24 : Int32)) ∧ (22 : Int32).toNatClampNeg < 24) (own_keep ha P52_1 P52_0 P52_2 (22 : Int32) (by decide) : (22 : Int32) < aa ∨ ¬ ((22 : Int32) < (aa + len_52)) → gg_52 (22 : Int32).toNatClampNeg = ff)) hZ (hw _ (List.mem_of_getElem? (i := 11) rfl)) (hw _ (List.mem_of_getElem? (i := 10) rfl)) (by decide) (by decide)) (g := (mkF m 632 #[.val (.long q1), .second, .val (.int v2), .val (.int v3), .val (.int v4), .val (.long qq), .second, .val (.int aa), .val (.int ff), .val (.ref b1), .val (.int (aa + len_52)), .val (.int (1 : Int32)), .val (.int (aa + (1 : Int32))), .unset, .unset, .unset] [(.int ff), (.int (aa + len_52)), (.int aa), (.int (22 : Int32)), (.ref b1)])) rfl (by rw [hml]; rfl) (argsL := [(.ref b1), (.int (22 : Int32)), (.int aa), (.int (aa + len_52)), (.int ff)]) (rest := []) (lenOf own_pd2 rfl) rfl (by show 2 * 0 + _ ≤ _; exact Nat.le_of_eq rfl) (hb hby at_632) (fun _ _ => ⟨rfl, eh79, (by decide : 1 + 0 ≤ _), (by decide : 24 + 0 ≤ _)⟩)
      dsimp only [Pt.U, Pt.locs, Pt.cells, Pt.slots] at X80 lq80 yq80 zq80 st80 hQ80
      subst lq80 yq80 zq80
      obtain ⟨rfl, Nq80, eh80⟩ := hQ80
      have N80 := Fr.app N79h Nq80
      refine own_st (G' := T80.setTop (mkF m 635 #[.val (.long q1), .second, .val (.int v2), .val (.int v3), .val (.int v4), .val (.long qq), .second, .val (.int aa), .val (.int ff), .val (.ref b1), .val (.int (aa + len_52)), .val (.int (1 : Int32)), .val (.int (aa + (1 : Int32))), .unset, .unset, .unset] [(.int (1 : Int32))])) st80 ?_
      obtain ⟨_, X80h, N80h⟩ := own_hide X80 N80
      refine own_ifNo X80h hx 638 (hb hby at_635) (feq (by decide : ¬ ((1 : Int32) = (0 : Int32)))).1 ?_
      refine own_aload X80h hx 640 (hb hby at_638) rfl rfl ?_
      refine own_bipush X80h hx 642 (23 : Int32) (hb hby at_640) rfl ?_
      refine own_iload X80h hx 644 (hb hby at_642) rfl ?_
      refine own_iload X80h hx 646 (hb hby at_644) rfl ?_
      refine own_iload X80h hx 648 (hb hby at_646) rfl ?_
      obtain ⟨_, _, ⟨T81, Lx81, kc81, nc81⟩, -, X81, ⟨Lc81, hQ81, lq81, yq81, zq81⟩, st81⟩ := Jvm.LawKit.callS X80h hx (y := (⟨"com/example/deltalog/deltalog/ColumnTypeWriteIntPinLaw", "kept", "([BIIIB)Z"⟩ : MethodName)) hown (mvT hZ (hw _ (List.mem_of_getElem? (i := 8) rfl))) (mvT hZ (hw _ (List.mem_of_getElem? (i := 9) rfl))) (mvT hZ (hw _ (List.mem_of_getElem? (i := 10) rfl))) (mvT hZ (hw _ (List.mem_of_getElem? (i := 11) rfl))) (by decide) (backOf (W := 0) (own_rm2 l Z a0 hw [] b1 (23 : Int32) aa (aa + len_52) ff k1 gg_52 T52.heap n0 Z53 G52_0 (by decide : (¬ (23 : Int32) < 0 ∧ (23 : Int32) < (24 : Int32)) ∧ (23 : Int32).toNatClampNeg < 24) (own_keep ha P52_1 P52_0 P52_2 (23 : Int32) (by decide) : (23 : Int32) < aa ∨ ¬ ((23 : Int32) < (aa + len_52)) → gg_52 (23 : Int32).toNatClampNeg = ff)) hZ (hw _ (List.mem_of_getElem? (i := 11) rfl)) (hw _ (List.mem_of_getElem? (i := 10) rfl)) (by decide) (by decide)) (g := (mkF m 648 #[.val (.long q1), .second, .val (.int v2), .val (.int v3), .val (.int v4), .val (.long qq), .second, .val (.int aa), .val (.int ff), .val (.ref b1), .val (.int (aa + len_52)), .val (.int (1 : Int32)), .val (.int (aa + (1 : Int32))), .unset, .unset, .unset] [(.int ff), (.int (aa + len_52)), (.int aa), (.int (23 : Int32)), (.ref b1)])) rfl (by rw [hml]; rfl) (argsL := [(.ref b1), (.int (23 : Int32)), (.int aa), (.int (aa + len_52)), (.int ff)]) (rest := []) (lenOf own_pd2 rfl) rfl (by show 2 * 0 + _ ≤ _; exact Nat.le_of_eq rfl) (hb hby at_648) (fun _ _ => ⟨rfl, eh80, (by decide : 1 + 0 ≤ _), (by decide : 24 + 0 ≤ _)⟩)
      dsimp only [Pt.U, Pt.locs, Pt.cells, Pt.slots] at X81 lq81 yq81 zq81 st81 hQ81
      subst lq81 yq81 zq81
      obtain ⟨rfl, Nq81, eh81⟩ := hQ81
      have N81 := Fr.app N80h Nq81
      refine own_st (G' := T81.setTop (mkF m 651 #[.val (.long q1), .second, .val (.int v2), .val (.int v3), .val (.int v4), .val (.long qq), .second, .val (.int aa), .val (.int ff), .val (.ref b1), .val (.int (aa + len_52)), .val (.int (1 : Int32)), .val (.int (aa + (1 : Int32))), .unset, .unset, .unset] [(.int (1 : Int32))])) st81 ?_
      obtain ⟨_, X81h, N81h⟩ := own_hide X81 N81
      refine own_ifNo X81h hx 654 (hb hby at_651) (feq (by decide : ¬ ((1 : Int32) = (0 : Int32)))).1 ?_
      refine own_iconst X81h hx 655 (1 : Int32) (hb hby at_654) rfl ?_
      refine own_goto X81h hx 659 (hb hby at_655) ?_
      refine own_istore X81h hx 661 #[.val (.long q1), .second, .val (.int v2), .val (.int v3), .val (.int v4), .val (.long qq), .second, .val (.int aa), .val (.int ff), .val (.ref b1), .val (.int (aa + len_52)), .val (.int (1 : Int32)), .val (.int (aa + (1 : Int32))), .val (.int (1 : Int32)), .unset, .unset] (hb hby at_659) rfl ?_
      refine own_iload X81h hx 663 (hb hby at_661) rfl ?_
      refine own_ifYes X81h hx 668 (hb hby at_663) (feq (by decide : ¬ ((1 : Int32) = (0 : Int32)))).2 ?_
      refine own_aload X81h hx 670 (hb hby at_668) rfl rfl ?_
      refine own_iload X81h hx 672 (hb hby at_670) rfl ?_
      refine own_iload X81h hx 674 (hb hby at_672) rfl ?_
      obtain ⟨_, _, ⟨T82, Lx82, kc82, nc82⟩, -, X82, ⟨Lc82, hQ82, lq82, yq82, zq82⟩, st82⟩ := Jvm.LawKit.callS X81h hx (y := (⟨"com/example/deltalog/deltalog/ColumnType", "parseInt", "([BII)J"⟩ : MethodName)) hown (mvT hZ (hw _ (List.mem_of_getElem? (i := 12) rfl))) (mvT hZ (hw _ (List.mem_of_getElem? (i := 13) rfl))) (mvT hZ (hw _ (List.mem_of_getElem? (i := 3) rfl))) (mvT hZ (hw _ (List.mem_of_getElem? (i := 14) rfl))) (by decide) (backOf (W := 0) (own_rm3 l Z a0 hw [] b1 aa (aa + len_52) qq D_52 k1 gg_52 (fun _ => ff) T52.heap n0 Z53 G52_0 (ha : 0 ≤ aa.toInt ∧ aa.toInt ≤ 3) (by have q := own_end ha P52_1 P52_0; omega : (aa + len_52).toInt = aa.toInt + ((own_l0 qq + D_52 : Nat) : Int)) (P52_1 : (D_52 = 0 ∨ 10 ^ D_52 ≤ qq.toInt.natAbs) ∧ qq.toInt.natAbs < 10 ^ (D_52 + 1)) (P52_2 : ∀ y, gg_52 y = own_out qq D_52 aa.toInt.toNat (fun _ => ff) y)) hZ (hw _ (List.mem_of_getElem? (i := 14) rfl)) (hw _ (List.mem_of_getElem? (i := 3) rfl)) (by decide) (by decide)) (g := (mkF m 674 #[.val (.long q1), .second, .val (.int v2), .val (.int v3), .val (.int v4), .val (.long qq), .second, .val (.int aa), .val (.int ff), .val (.ref b1), .val (.int (aa + len_52)), .val (.int (1 : Int32)), .val (.int (aa + (1 : Int32))), .val (.int (1 : Int32)), .unset, .unset] [(.int (aa + len_52)), (.int aa), (.ref b1)])) rfl (by rw [hml]; rfl) (argsL := [(.ref b1), (.int aa), (.int (aa + len_52))]) (rest := []) (lenOf own_pd3 rfl) rfl (by show 2 * 0 + _ ≤ _; exact Nat.le_of_eq rfl) (hb hby at_674) (fun _ _ => ⟨rfl, eh81, (by decide : 1 + 0 ≤ _), (by decide : 24 + 0 ≤ _)⟩)
      dsimp only [Pt.U, Pt.locs, Pt.cells, Pt.slots] at X82 lq82 yq82 zq82 st82 hQ82
      subst lq82 yq82 zq82
      obtain ⟨rfl, Nq82, eh82⟩ := hQ82
      have N82 := Fr.app N81h Nq82
      refine own_st (G' := T82.setTop (mkF m 677 #[.val (.long q1), .second, .val (.int v2), .val (.int v3), .val (.int v4), .val (.long qq), .second, .val (.int aa), .val (.int ff), .val (.ref b1), .val (.int (aa + len_52)), .val (.int (1 : Int32)), .val (.int (aa + (1 : Int32))), .val (.int (1 : Int32)), .unset, .unset] [(.long qq)])) st82 ?_
      obtain ⟨_, X82h, N82h⟩ := own_hide X82 N82
      refine own_lstore X82h hx 679 #[.val (.long q1), .second, .val (.int v2), .val (.int v3), .val (.int v4), .val (.long qq), .second, .val (.int aa), .val (.int ff), .val (.ref b1), .val (.int (aa + len_52)), .val (.int (1 : Int32)), .val (.int (aa + (1 : Int32))), .val (.int (1 : Int32)), .val (.long qq), .second] (hb hby at_677) rfl ?_
      refine own_lload X82h hx 681 (hb hby at_679) rfl ?_
      refine own_lload X82h hx 683 (hb hby at_681) rfl ?_
      refine own_lcmp X82h hx 684 (hb hby at_683) ?_
      refine own_ifNo X82h hx 687 (hb hby at_684) (teq ((lw_eq _ _).mpr (rfl : qq = qq))).2 ?_
      refine own_iconst X82h hx 688 (1 : Int32) (hb hby at_687) rfl ?_
      refine own_goto X82h hx 692 (hb hby at_688) ?_
      exact own_retN (t := .boolean) (z := (1 : Int32)) (Q := own_Q0 Z q1 v2 v3 v4 h0 n0) X82h hx hrt (by simp) (hb hby at_692) hlk eh82 ⟨rfl, N82h⟩ (by decide) (by decide)
    · refine own_icmpYes X52h hx 276 (hb hby at_262) (feq hc262_57).2 ?_
      refine own_aload X52h hx 278 (hb hby at_276) rfl rfl ?_
      refine own_iconst X52h hx 279 (0 : Int32) (hb hby at_278) rfl ?_
      refine own_iload X52h hx 281 (hb hby at_279) rfl ?_
      refine own_iload X52h hx 283 (hb hby at_281) rfl ?_
      refine own_iload X52h hx 285 (hb hby at_283) rfl ?_
      obtain ⟨_, _, ⟨T83, Lx83, kc83, nc83⟩, -, X83, ⟨Lc83, hQ83, lq83, yq83, zq83⟩, st83⟩ := Jvm.LawKit.callS X52h hx (y := (⟨"com/example/deltalog/deltalog/ColumnTypeWriteIntPinLaw", "kept", "([BIIIB)Z"⟩ : MethodName)) hown (mvT hZ (hw _ (List.mem_of_getElem? (i := 8) rfl))) (mvT hZ (hw _ (List.mem_of_getElem? (i := 9) rfl))) (mvT hZ (hw _ (List.mem_of_getElem? (i := 10) rfl))) (mvT hZ (hw _ (List.mem_of_getElem? (i := 11) rfl))) (by decide) (backOf (W := 0) (own_rm2 l Z a0 hw [] b1 (0 : Int32) aa (aa + len_52) ff k1 gg_52 T52.heap n0 Z53 G52_0 (by decide : (¬ (0 : Int32) < 0 ∧ (0 : Int32) < (24 : Int32)) ∧ (0 : Int32).toNatClampNeg < 24) (own_keep ha P52_1 P52_0 P52_2 (0 : Int32) (by decide) : (0 : Int32) < aa ∨ ¬ ((0 : Int32) < (aa + len_52)) → gg_52 (0 : Int32).toNatClampNeg = ff)) hZ (hw _ (List.mem_of_getElem? (i := 11) rfl)) (hw _ (List.mem_of_getElem? (i := 10) rfl)) (by decide) (by decide)) (g := (mkF m 285 #[.val (.long q1), .second, .val (.int v2), .val (.int v3), .val (.int v4), .val (.long qq), .second, .val (.int aa), .val (.int ff), .val (.ref b1), .val (.int (aa + len_52)), .val (.int (1 : Int32)), .val (.int (aa + (1 : Int32))), .unset, .unset, .unset] [(.int ff), (.int (aa + len_52)), (.int aa), (.int (0 : Int32)), (.ref b1)])) rfl (by rw [hml]; rfl) (argsL := [(.ref b1), (.int (0 : Int32)), (.int aa), (.int (aa + len_52)), (.int ff)]) (rest := []) (lenOf own_pd2 rfl) rfl (by show 2 * 0 + _ ≤ _; exact Nat.le_of_eq rfl) (hb hby at_285) (fun _ _ => ⟨rfl, rfl, (by decide : 1 + 0 ≤ _), (by decide : 24 + 0 ≤ _)⟩)
      dsimp only [Pt.U, Pt.locs, Pt.cells, Pt.slots] at X83 lq83 yq83 zq83 st83 hQ83
      subst lq83 yq83 zq83
      obtain ⟨rfl, Nq83, eh83⟩ := hQ83
      have N83 := Fr.app N52h Nq83
      refine own_st (G' := T83.setTop (mkF m 288 #[.val (.long q1), .second, .val (.int v2), .val (.int v3), .val (.int v4), .val (.long qq), .second, .val (.int aa), .val (.int ff), .val (.ref b1), .val (.int (aa + len_52)), .val (.int (1 : Int32)), .val (.int (aa + (1 : Int32))), .unset, .unset, .unset] [(.int (1 : Int32))])) st83 ?_
      obtain ⟨_, X83h, N83h⟩ := own_hide X83 N83
      refine own_ifNo X83h hx 291 (hb hby at_288) (feq (by decide : ¬ ((1 : Int32) = (0 : Int32)))).1 ?_
      refine own_aload X83h hx 293 (hb hby at_291) rfl rfl ?_
      refine own_iconst X83h hx 294 (1 : Int32) (hb hby at_293) rfl ?_
      refine own_iload X83h hx 296 (hb hby at_294) rfl ?_
      refine own_iload X83h hx 298 (hb hby at_296) rfl ?_
      refine own_iload X83h hx 300 (hb hby at_298) rfl ?_
      obtain ⟨_, _, ⟨T84, Lx84, kc84, nc84⟩, -, X84, ⟨Lc84, hQ84, lq84, yq84, zq84⟩, st84⟩ := Jvm.LawKit.callS X83h hx (y := (⟨"com/example/deltalog/deltalog/ColumnTypeWriteIntPinLaw", "kept", "([BIIIB)Z"⟩ : MethodName)) hown (mvT hZ (hw _ (List.mem_of_getElem? (i := 8) rfl))) (mvT hZ (hw _ (List.mem_of_getElem? (i := 9) rfl))) (mvT hZ (hw _ (List.mem_of_getElem? (i := 10) rfl))) (mvT hZ (hw _ (List.mem_of_getElem? (i := 11) rfl))) (by decide) (backOf (W := 0) (own_rm2 l Z a0 hw [] b1 (1 : Int32) aa (aa + len_52) ff k1 gg_52 T52.heap n0 Z53 G52_0 (by decide : (¬ (1 : Int32) < 0 ∧ (1 : Int32) < (24 : Int32)) ∧ (1 : Int32).toNatClampNeg < 24) (own_keep ha P52_1 P52_0 P52_2 (1 : Int32) (by decide) : (1 : Int32) < aa ∨ ¬ ((1 : Int32) < (aa + len_52)) → gg_52 (1 : Int32).toNatClampNeg = ff)) hZ (hw _ (List.mem_of_getElem? (i := 11) rfl)) (hw _ (List.mem_of_getElem? (i := 10) rfl)) (by decide) (by decide)) (g := (mkF m 300 #[.val (.long q1), .second, .val (.int v2), .val (.int v3), .val (.int v4), .val (.long qq), .second, .val (.int aa), .val (.int ff), .val (.ref b1), .val (.int (aa + len_52)), .val (.int (1 : Int32)), .val (.int (aa + (1 : Int32))), .unset, .unset, .unset] [(.int ff), (.int (aa + len_52)), (.int aa), (.int (1 : Int32)), (.ref b1)])) rfl (by rw [hml]; rfl) (argsL := [(.ref b1), (.int (1 : Int32)), (.int aa), (.int (aa + len_52)), (.int ff)]) (rest := []) (lenOf own_pd2 rfl) rfl (by show 2 * 0 + _ ≤ _; exact Nat.le_of_eq rfl) (hb hby at_300) (fun _ _ => ⟨rfl, eh83, (by decide : 1 + 0 ≤ _), (by decide : 24 + 0 ≤ _)⟩)
      dsimp only [Pt.U, Pt.locs, Pt.cells, Pt.slots] at X84 lq84 yq84 zq84 st84 hQ84
      subst lq84 yq84 zq84
      obtain ⟨rfl, Nq84, eh84⟩ := hQ84
      have N84 := Fr.app N83h Nq84
      refine own_st (G' := T84.setTop (mkF m 303 #[.val (.long q1), .second, .val (.int v2), .val (.int v3), .val (.int v4), .val (.long qq), .second, .val (.int aa), .val (.int ff), .val (.ref b1), .val (.int (aa + len_52)), .val (.int (1 : Int32)), .val (.int (aa + (1 : Int32))), .unset, .unset, .unset] [(.int (1 : Int32))])) st84 ?_
      obtain ⟨_, X84h, N84h⟩ := own_hide X84 N84
      refine own_ifNo X84h hx 306 (hb hby at_303) (feq (by decide : ¬ ((1 : Int32) = (0 : Int32)))).1 ?_
      refine own_aload X84h hx 308 (hb hby at_306) rfl rfl ?_
      refine own_iconst X84h hx 309 (2 : Int32) (hb hby at_308) rfl ?_
      refine own_iload X84h hx 311 (hb hby at_309) rfl ?_
      refine own_iload X84h hx 313 (hb hby at_311) rfl ?_
      refine own_iload X84h hx 315 (hb hby at_313) rfl ?_
      obtain ⟨_, _, ⟨T85, Lx85, kc85, nc85⟩, -, X85, ⟨Lc85, hQ85, lq85, yq85, zq85⟩, st85⟩ := Jvm.LawKit.callS X84h hx (y := (⟨"com/example/deltalog/deltalog/ColumnTypeWriteIntPinLaw", "kept", "([BIIIB)Z"⟩ : MethodName)) hown (mvT hZ (hw _ (List.mem_of_getElem? (i := 8) rfl))) (mvT hZ (hw _ (List.mem_of_getElem? (i := 9) rfl))) (mvT hZ (hw _ (List.mem_of_getElem? (i := 10) rfl))) (mvT hZ (hw _ (List.mem_of_getElem? (i := 11) rfl))) (by decide) (backOf (W := 0) (own_rm2 l Z a0 hw [] b1 (2 : Int32) aa (aa + len_52) ff k1 gg_52 T52.heap n0 Z53 G52_0 (by decide : (¬ (2 : Int32) < 0 ∧ (2 : Int32) < (24 : Int32)) ∧ (2 : Int32).toNatClampNeg < 24) (own_keep ha P52_1 P52_0 P52_2 (2 : Int32) (by decide) : (2 : Int32) < aa ∨ ¬ ((2 : Int32) < (aa + len_52)) → gg_52 (2 : Int32).toNatClampNeg = ff)) hZ (hw _ (List.mem_of_getElem? (i := 11) rfl)) (hw _ (List.mem_of_getElem? (i := 10) rfl)) (by decide) (by decide)) (g := (mkF m 315 #[.val (.long q1), .second, .val (.int v2), .val (.int v3), .val (.int v4), .val (.long qq), .second, .val (.int aa), .val (.int ff), .val (.ref b1), .val (.int (aa + len_52)), .val (.int (1 : Int32)), .val (.int (aa + (1 : Int32))), .unset, .unset, .unset] [(.int ff), (.int (aa + len_52)), (.int aa), (.int (2 : Int32)), (.ref b1)])) rfl (by rw [hml]; rfl) (argsL := [(.ref b1), (.int (2 : Int32)), (.int aa), (.int (aa + len_52)), (.int ff)]) (rest := []) (lenOf own_pd2 rfl) rfl (by show 2 * 0 + _ ≤ _; exact Nat.le_of_eq rfl) (hb hby at_315) (fun _ _ => ⟨rfl, eh84, (by decide : 1 + 0 ≤ _), (by decide : 24 + 0 ≤ _)⟩)
      dsimp only [Pt.U, Pt.locs, Pt.cells, Pt.slots] at X85 lq85 yq85 zq85 st85 hQ85
      subst lq85 yq85 zq85
      obtain ⟨rfl, Nq85, eh85⟩ := hQ85
      have N85 := Fr.app N84h Nq85
      refine own_st (G' := T85.setTop (mkF m 318 #[.val (.long q1), .second, .val (.int v2), .val (.int v3), .val (.int v4), .val (.long qq), .second, .val (.int aa), .val (.int ff), .val (.ref b1), .val (.int (aa + len_52)), .val (.int (1 : Int32)), .val (.int (aa + (1 : Int32))), .unset, .unset, .unset] [(.int (1 : Int32))])) st85 ?_
      obtain ⟨_, X85h, N85h⟩ := own_hide X85 N85
      refine own_ifNo X85h hx 321 (hb hby at_318) (feq (by decide : ¬ ((1 : Int32) = (0 : Int32)))).1 ?_
      refine own_aload X85h hx 323 (hb hby at_321) rfl rfl ?_
      refine own_iconst X85h hx 324 (3 : Int32) (hb hby at_323) rfl ?_
      refine own_iload X85h hx 326 (hb hby at_324) rfl ?_
      refine own_iload X85h hx 328 (hb hby at_326) rfl ?_
      refine own_iload X85h hx 330 (hb hby at_328) rfl ?_
      obtain ⟨_, _, ⟨T86, Lx86, kc86, nc86⟩, -, X86, ⟨Lc86, hQ86, lq86, yq86, zq86⟩, st86⟩ := Jvm.LawKit.callS X85h hx (y := (⟨"com/example/deltalog/deltalog/ColumnTypeWriteIntPinLaw", "kept", "([BIIIB)Z"⟩ : MethodName)) hown (mvT hZ (hw _ (List.mem_of_getElem? (i := 8) rfl))) (mvT hZ (hw _ (List.mem_of_getElem? (i := 9) rfl))) (mvT hZ (hw _ (List.mem_of_getElem? (i := 10) rfl))) (mvT hZ (hw _ (List.mem_of_getElem? (i := 11) rfl))) (by decide) (backOf (W := 0) (own_rm2 l Z a0 hw [] b1 (3 : Int32) aa (aa + len_52) ff k1 gg_52 T52.heap n0 Z53 G52_0 (by decide : (¬ (3 : Int32) < 0 ∧ (3 : Int32) < (24 : Int32)) ∧ (3 : Int32).toNatClampNeg < 24) (own_keep ha P52_1 P52_0 P52_2 (3 : Int32) (by decide) : (3 : Int32) < aa ∨ ¬ ((3 : Int32) < (aa + len_52)) → gg_52 (3 : Int32).toNatClampNeg = ff)) hZ (hw _ (List.mem_of_getElem? (i := 11) rfl)) (hw _ (List.mem_of_getElem? (i := 10) rfl)) (by decide) (by decide)) (g := (mkF m 330 #[.val (.long q1), .second, .val (.int v2), .val (.int v3), .val (.int v4), .val (.long qq), .second, .val (.int aa), .val (.int ff), .val (.ref b1), .val (.int (aa + len_52)), .val (.int (1 : Int32)), .val (.int (aa + (1 : Int32))), .unset, .unset, .unset] [(.int ff), (.int (aa + len_52)), (.int aa), (.int (3 : Int32)), (.ref b1)])) rfl (by rw [hml]; rfl) (argsL := [(.ref b1), (.int (3 : Int32)), (.int aa), (.int (aa + len_52)), (.int ff)]) (rest := []) (lenOf own_pd2 rfl) rfl (by show 2 * 0 + _ ≤ _; exact Nat.le_of_eq rfl) (hb hby at_330) (fun _ _ => ⟨rfl, eh85, (by decide : 1 + 0 ≤ _), (by decide : 24 + 0 ≤ _)⟩)
      dsimp only [Pt.U, Pt.locs, Pt.cells, Pt.slots] at X86 lq86 yq86 zq86 st86 hQ86
      subst lq86 yq86 zq86
      obtain ⟨rfl, Nq86, eh86⟩ := hQ86
      have N86 := Fr.app N85h Nq86
      refine own_st (G' := T86.setTop (mkF m 333 #[.val (.long q1), .second, .val (.int v2), .val (.int v3), .val (.int v4), .val (.long qq), .second, .val (.int aa), .val (.int ff), .val (.ref b1), .val (.int (aa + len_52)), .val (.int (1 : Int32)), .val (.int (aa + (1 : Int32))), .unset, .unset, .unset] [(.int (1 : Int32))])) st86 ?_
      obtain ⟨_, X86h, N86h⟩ := own_hide X86 N86
      refine own_ifNo X86h hx 336 (hb hby at_333) (feq (by decide : ¬ ((1 : Int32) = (0 : Int32)))).1 ?_
      refine own_aload X86h hx 338 (hb hby at_336) rfl rfl ?_
      refine own_iconst X86h hx 339 (4 : Int32) (hb hby at_338) rfl ?_
      refine own_iload X86h hx 341 (hb hby at_339) rfl ?_
      refine own_iload X86h hx 343 (hb hby at_341) rfl ?_
      refine own_iload X86h hx 345 (hb hby at_343) rfl ?_
      obtain ⟨_, _, ⟨T87, Lx87, kc87, nc87⟩, -, X87, ⟨Lc87, hQ87, lq87, yq87, zq87⟩, st87⟩ := Jvm.LawKit.callS X86h hx (y := (⟨"com/example/deltalog/deltalog/ColumnTypeWriteIntPinLaw", "kept", "([BIIIB)Z"⟩ : MethodName)) hown (mvT hZ (hw _ (List.mem_of_getElem? (i := 8) rfl))) (mvT hZ (hw _ (List.mem_of_getElem? (i := 9) rfl))) (mvT hZ (hw _ (List.mem_of_getElem? (i := 10) rfl))) (mvT hZ (hw _ (List.mem_of_getElem? (i := 11) rfl))) (by decide) (backOf (W := 0) (own_rm2 l Z a0 hw [] b1 (4 : Int32) aa (aa + len_52) ff k1 gg_52 T52.heap n0 Z53 G52_0 (by decide : (¬ (4 : Int32) < 0 ∧ (4 : Int32) < (24 : Int32)) ∧ (4 : Int32).toNatClampNeg < 24) (own_keep ha P52_1 P52_0 P52_2 (4 : Int32) (by decide) : (4 : Int32) < aa ∨ ¬ ((4 : Int32) < (aa + len_52)) → gg_52 (4 : Int32).toNatClampNeg = ff)) hZ (hw _ (List.mem_of_getElem? (i := 11) rfl)) (hw _ (List.mem_of_getElem? (i := 10) rfl)) (by decide) (by decide)) (g := (mkF m 345 #[.val (.long q1), .second, .val (.int v2), .val (.int v3), .val (.int v4), .val (.long qq), .second, .val (.int aa), .val (.int ff), .val (.ref b1), .val (.int (aa + len_52)), .val (.int (1 : Int32)), .val (.int (aa + (1 : Int32))), .unset, .unset, .unset] [(.int ff), (.int (aa + len_52)), (.int aa), (.int (4 : Int32)), (.ref b1)])) rfl (by rw [hml]; rfl) (argsL := [(.ref b1), (.int (4 : Int32)), (.int aa), (.int (aa + len_52)), (.int ff)]) (rest := []) (lenOf own_pd2 rfl) rfl (by show 2 * 0 + _ ≤ _; exact Nat.le_of_eq rfl) (hb hby at_345) (fun _ _ => ⟨rfl, eh86, (by decide : 1 + 0 ≤ _), (by decide : 24 + 0 ≤ _)⟩)
      dsimp only [Pt.U, Pt.locs, Pt.cells, Pt.slots] at X87 lq87 yq87 zq87 st87 hQ87
      subst lq87 yq87 zq87
      obtain ⟨rfl, Nq87, eh87⟩ := hQ87
      have N87 := Fr.app N86h Nq87
      refine own_st (G' := T87.setTop (mkF m 348 #[.val (.long q1), .second, .val (.int v2), .val (.int v3), .val (.int v4), .val (.long qq), .second, .val (.int aa), .val (.int ff), .val (.ref b1), .val (.int (aa + len_52)), .val (.int (1 : Int32)), .val (.int (aa + (1 : Int32))), .unset, .unset, .unset] [(.int (1 : Int32))])) st87 ?_
      obtain ⟨_, X87h, N87h⟩ := own_hide X87 N87
      refine own_ifNo X87h hx 351 (hb hby at_348) (feq (by decide : ¬ ((1 : Int32) = (0 : Int32)))).1 ?_
      refine own_aload X87h hx 353 (hb hby at_351) rfl rfl ?_
      refine own_iconst X87h hx 354 (5 : Int32) (hb hby at_353) rfl ?_
      refine own_iload X87h hx 356 (hb hby at_354) rfl ?_
      refine own_iload X87h hx 358 (hb hby at_356) rfl ?_
      refine own_iload X87h hx 360 (hb hby at_358) rfl ?_
      obtain ⟨_, _, ⟨T88, Lx88, kc88, nc88⟩, -, X88, ⟨Lc88, hQ88, lq88, yq88, zq88⟩, st88⟩ := Jvm.LawKit.callS X87h hx (y := (⟨"com/example/deltalog/deltalog/ColumnTypeWriteIntPinLaw", "kept", "([BIIIB)Z"⟩ : MethodName)) hown (mvT hZ (hw _ (List.mem_of_getElem? (i := 8) rfl))) (mvT hZ (hw _ (List.mem_of_getElem? (i := 9) rfl))) (mvT hZ (hw _ (List.mem_of_getElem? (i := 10) rfl))) (mvT hZ (hw _ (List.mem_of_getElem? (i := 11) rfl))) (by decide) (backOf (W := 0) (own_rm2 l Z a0 hw [] b1 (5 : Int32) aa (aa + len_52) ff k1 gg_52 T52.heap n0 Z53 G52_0 (by decide : (¬ (5 : Int32) < 0 ∧ (5 : Int32) < (24 : Int32)) ∧ (5 : Int32).toNatClampNeg < 24) (own_keep ha P52_1 P52_0 P52_2 (5 : Int32) (by decide) : (5 : Int32) < aa ∨ ¬ ((5 : Int32) < (aa + len_52)) → gg_52 (5 : Int32).toNatClampNeg = ff)) hZ (hw _ (List.mem_of_getElem? (i := 11) rfl)) (hw _ (List.mem_of_getElem? (i := 10) rfl)) (by decide) (by decide)) (g := (mkF m 360 #[.val (.long q1), .second, .val (.int v2), .val (.int v3), .val (.int v4), .val (.long qq), .second, .val (.int aa), .val (.int ff), .val (.ref b1), .val (.int (aa + len_52)), .val (.int (1 : Int32)), .val (.int (aa + (1 : Int32))), .unset, .unset, .unset] [(.int ff), (.int (aa + len_52)), (.int aa), (.int (5 : Int32)), (.ref b1)])) rfl (by rw [hml]; rfl) (argsL := [(.ref b1), (.int (5 : Int32)), (.int aa), (.int (aa + len_52)), (.int ff)]) (rest := []) (lenOf own_pd2 rfl) rfl (by show 2 * 0 + _ ≤ _; exact Nat.le_of_eq rfl) (hb hby at_360) (fun _ _ => ⟨rfl, eh87, (by decide : 1 + 0 ≤ _), (by decide : 24 + 0 ≤ _)⟩)
      dsimp only [Pt.U, Pt.locs, Pt.cells, Pt.slots] at X88 lq88 yq88 zq88 st88 hQ88
      subst lq88 yq88 zq88
      obtain ⟨rfl, Nq88, eh88⟩ := hQ88
      have N88 := Fr.app N87h Nq88
      refine own_st (G' := T88.setTop (mkF m 363 #[.val (.long q1), .second, .val (.int v2), .val (.int v3), .val (.int v4), .val (.long qq), .second, .val (.int aa), .val (.int ff), .val (.ref b1), .val (.int (aa + len_52)), .val (.int (1 : Int32)), .val (.int (aa + (1 : Int32))), .unset, .unset, .unset] [(.int (1 : Int32))])) st88 ?_
      obtain ⟨_, X88h, N88h⟩ := own_hide X88 N88
      refine own_ifNo X88h hx 366 (hb hby at_363) (feq (by decide : ¬ ((1 : Int32) = (0 : Int32)))).1 ?_
      refine own_aload X88h hx 368 (hb hby at_366) rfl rfl ?_
      refine own_bipush X88h hx 370 (6 : Int32) (hb hby at_368) rfl ?_
      refine own_iload X88h hx 372 (hb hby at_370) rfl ?_
      refine own_iload X88h hx 374 (hb hby at_372) rfl ?_
      refine own_iload X88h hx 376 (hb hby at_374) rfl ?_
      obtain ⟨_, _, ⟨T89, Lx89, kc89, nc89⟩, -, X89, ⟨Lc89, hQ89, lq89, yq89, zq89⟩, st89⟩ := Jvm.LawKit.callS X88h hx (y := (⟨"com/example/deltalog/deltalog/ColumnTypeWriteIntPinLaw", "kept", "([BIIIB)Z"⟩ : MethodName)) hown (mvT hZ (hw _ (List.mem_of_getElem? (i := 8) rfl))) (mvT hZ (hw _ (List.mem_of_getElem? (i := 9) rfl))) (mvT hZ (hw _ (List.mem_of_getElem? (i := 10) rfl))) (mvT hZ (hw _ (List.mem_of_getElem? (i := 11) rfl))) (by decide) (backOf (W := 0) (own_rm2 l Z a0 hw [] b1 (6 : Int32) aa (aa + len_52) ff k1 gg_52 T52.heap n0 Z53 G52_0 (by decide : (¬ (6 : Int32) < 0 ∧ (6 : Int32) < (24 : Int32)) ∧ (6 : Int32).toNatClampNeg < 24) (own_keep ha P52_1 P52_0 P52_2 (6 : Int32) (by decide) : (6 : Int32) < aa ∨ ¬ ((6 : Int32) < (aa + len_52)) → gg_52 (6 : Int32).toNatClampNeg = ff)) hZ (hw _ (List.mem_of_getElem? (i := 11) rfl)) (hw _ (List.mem_of_getElem? (i := 10) rfl)) (by decide) (by decide)) (g := (mkF m 376 #[.val (.long q1), .second, .val (.int v2), .val (.int v3), .val (.int v4), .val (.long qq), .second, .val (.int aa), .val (.int ff), .val (.ref b1), .val (.int (aa + len_52)), .val (.int (1 : Int32)), .val (.int (aa + (1 : Int32))), .unset, .unset, .unset] [(.int ff), (.int (aa + len_52)), (.int aa), (.int (6 : Int32)), (.ref b1)])) rfl (by rw [hml]; rfl) (argsL := [(.ref b1), (.int (6 : Int32)), (.int aa), (.int (aa + len_52)), (.int ff)]) (rest := []) (lenOf own_pd2 rfl) rfl (by show 2 * 0 + _ ≤ _; exact Nat.le_of_eq rfl) (hb hby at_376) (fun _ _ => ⟨rfl, eh88, (by decide : 1 + 0 ≤ _), (by decide : 24 + 0 ≤ _)⟩)
      dsimp only [Pt.U, Pt.locs, Pt.cells, Pt.slots] at X89 lq89 yq89 zq89 st89 hQ89
      subst lq89 yq89 zq89
      obtain ⟨rfl, Nq89, eh89⟩ := hQ89
      have N89 := Fr.app N88h Nq89
      refine own_st (G' := T89.setTop (mkF m 379 #[.val (.long q1), .second, .val (.int v2), .val (.int v3), .val (.int v4), .val (.long qq), .second, .val (.int aa), .val (.int ff), .val (.ref b1), .val (.int (aa + len_52)), .val (.int (1 : Int32)), .val (.int (aa + (1 : Int32))), .unset, .unset, .unset] [(.int (1 : Int32))])) st89 ?_
      obtain ⟨_, X89h, N89h⟩ := own_hide X89 N89
      refine own_ifNo X89h hx 382 (hb hby at_379) (feq (by decide : ¬ ((1 : Int32) = (0 : Int32)))).1 ?_
      refine own_aload X89h hx 384 (hb hby at_382) rfl rfl ?_
      refine own_bipush X89h hx 386 (7 : Int32) (hb hby at_384) rfl ?_
      refine own_iload X89h hx 388 (hb hby at_386) rfl ?_
      refine own_iload X89h hx 390 (hb hby at_388) rfl ?_
      refine own_iload X89h hx 392 (hb hby at_390) rfl ?_
      obtain ⟨_, _, ⟨T90, Lx90, kc90, nc90⟩, -, X90, ⟨Lc90, hQ90, lq90, yq90, zq90⟩, st90⟩ := Jvm.LawKit.callS X89h hx (y := (⟨"com/example/deltalog/deltalog/ColumnTypeWriteIntPinLaw", "kept", "([BIIIB)Z"⟩ : MethodName)) hown (mvT hZ (hw _ (List.mem_of_getElem? (i := 8) rfl))) (mvT hZ (hw _ (List.mem_of_getElem? (i := 9) rfl))) (mvT hZ (hw _ (List.mem_of_getElem? (i := 10) rfl))) (mvT hZ (hw _ (List.mem_of_getElem? (i := 11) rfl))) (by decide) (backOf (W := 0) (own_rm2 l Z a0 hw [] b1 (7 : Int32) aa (aa + len_52) ff k1 gg_52 T52.heap n0 Z53 G52_0 (by decide : (¬ (7 : Int32) < 0 ∧ (7 : Int32) < (24 : Int32)) ∧ (7 : Int32).toNatClampNeg < 24) (own_keep ha P52_1 P52_0 P52_2 (7 : Int32) (by decide) : (7 : Int32) < aa ∨ ¬ ((7 : Int32) < (aa + len_52)) → gg_52 (7 : Int32).toNatClampNeg = ff)) hZ (hw _ (List.mem_of_getElem? (i := 11) rfl)) (hw _ (List.mem_of_getElem? (i := 10) rfl)) (by decide) (by decide)) (g := (mkF m 392 #[.val (.long q1), .second, .val (.int v2), .val (.int v3), .val (.int v4), .val (.long qq), .second, .val (.int aa), .val (.int ff), .val (.ref b1), .val (.int (aa + len_52)), .val (.int (1 : Int32)), .val (.int (aa + (1 : Int32))), .unset, .unset, .unset] [(.int ff), (.int (aa + len_52)), (.int aa), (.int (7 : Int32)), (.ref b1)])) rfl (by rw [hml]; rfl) (argsL := [(.ref b1), (.int (7 : Int32)), (.int aa), (.int (aa + len_52)), (.int ff)]) (rest := []) (lenOf own_pd2 rfl) rfl (by show 2 * 0 + _ ≤ _; exact Nat.le_of_eq rfl) (hb hby at_392) (fun _ _ => ⟨rfl, eh89, (by decide : 1 + 0 ≤ _), (by decide : 24 + 0 ≤ _)⟩)
      dsimp only [Pt.U, Pt.locs, Pt.cells, Pt.slots] at X90 lq90 yq90 zq90 st90 hQ90
      subst lq90 yq90 zq90
      obtain ⟨rfl, Nq90, eh90⟩ := hQ90
      have N90 := Fr.app N89h Nq90
      refine own_st (G' := T90.setTop (mkF m 395 #[.val (.long q1), .second, .val (.int v2), .val (.int v3), .val (.int v4), .val (.long qq), .second, .val (.int aa), .val (.int ff), .val (.ref b1), .val (.int (aa + len_52)), .val (.int (1 : Int32)), .val (.int (aa + (1 : Int32))), .unset, .unset, .unset] [(.int (1 : Int32))])) st90 ?_
      obtain ⟨_, X90h, N90h⟩ := own_hide X90 N90
      refine own_ifNo X90h hx 398 (hb hby at_395) (feq (by decide : ¬ ((1 : Int32) = (0 : Int32)))).1 ?_
      refine own_aload X90h hx 400 (hb hby at_398) rfl rfl ?_
      refine own_bipush X90h hx 402 (8 : Int32) (hb hby at_400) rfl ?_
      refine own_iload X90h hx 404 (hb hby at_402) rfl ?_
      refine own_iload X90h hx 406 (hb hby at_404) rfl ?_
      refine own_iload X90h hx 408 (hb hby at_406) rfl ?_
      obtain ⟨_, _, ⟨T91, Lx91, kc91, nc91⟩, -, X91, ⟨Lc91, hQ91, lq91, yq91, zq91⟩, st91⟩ := Jvm.LawKit.callS X90h hx (y := (⟨"com/example/deltalog/deltalog/ColumnTypeWriteIntPinLaw", "kept", "([BIIIB)Z"⟩ : MethodName)) hown (mvT hZ (hw _ (List.mem_of_getElem? (i := 8) rfl))) (mvT hZ (hw _ (List.mem_of_getElem? (i := 9) rfl))) (mvT hZ (hw _ (List.mem_of_getElem? (i := 10) rfl))) (mvT hZ (hw _ (List.mem_of_getElem? (i := 11) rfl))) (by decide) (backOf (W := 0) (own_rm2 l Z a0 hw [] b1 (8 : Int32) aa (aa + len_52) ff k1 gg_52 T52.heap n0 Z53 G52_0 (by decide : (¬ (8 : Int32) < 0 ∧ (8 : Int32) < (24 : Int32)) ∧ (8 : Int32).toNatClampNeg < 24) (own_keep ha P52_1 P52_0 P52_2 (8 : Int32) (by decide) : (8 : Int32) < aa ∨ ¬ ((8 : Int32) < (aa + len_52)) → gg_52 (8 : Int32).toNatClampNeg = ff)) hZ (hw _ (List.mem_of_getElem? (i := 11) rfl)) (hw _ (List.mem_of_getElem? (i := 10) rfl)) (by decide) (by decide)) (g := (mkF m 408 #[.val (.long q1), .second, .val (.int v2), .val (.int v3), .val (.int v4), .val (.long qq), .second, .val (.int aa), .val (.int ff), .val (.ref b1), .val (.int (aa + len_52)), .val (.int (1 : Int32)), .val (.int (aa + (1 : Int32))), .unset, .unset, .unset] [(.int ff), (.int (aa + len_52)), (.int aa), (.int (8 : Int32)), (.ref b1)])) rfl (by rw [hml]; rfl) (argsL := [(.ref b1), (.int (8 : Int32)), (.int aa), (.int (aa + len_52)), (.int ff)]) (rest := []) (lenOf own_pd2 rfl) rfl (by show 2 * 0 + _ ≤ _; exact Nat.le_of_eq rfl) (hb hby at_408) (fun _ _ => ⟨rfl, eh90, (by decide : 1 + 0 ≤ _), (by decide : 24 + 0 ≤ _)⟩)
      dsimp only [Pt.U, Pt.locs, Pt.cells, Pt.slots] at X91 lq91 yq91 zq91 st91 hQ91
      subst lq91 yq91 zq91
      obtain ⟨rfl, Nq91, eh91⟩ := hQ91
      have N91 := Fr.app N90h Nq91
      refine own_st (G' := T91.setTop (mkF m 411 #[.val (.long q1), .second, .val (.int v2), .val (.int v3), .val (.int v4), .val (.long qq), .second, .val (.int aa), .val (.int ff), .val (.ref b1), .val (.int (aa + len_52)), .val (.int (1 : Int32)), .val (.int (aa + (1 : Int32))), .unset, .unset, .unset] [(.int (1 : Int32))])) st91 ?_
      obtain ⟨_, X91h, N91h⟩ := own_hide X91 N91
      refine own_ifNo X91h hx 414 (hb hby at_411) (feq (by decide : ¬ ((1 : Int32) = (0 : Int32)))).1 ?_
      refine own_aload X91h hx 416 (hb hby at_414) rfl rfl ?_
      refine own_bipush X91h hx 418 (9 : Int32) (hb hby at_416) rfl ?_
      refine own_iload X91h hx 420 (hb hby at_418) rfl ?_
      refine own_iload X91h hx 422 (hb hby at_420) rfl ?_
      refine own_iload X91h hx 424 (hb hby at_422) rfl ?_
      obtain ⟨_, _, ⟨T92, Lx92, kc92, nc92⟩, -, X92, ⟨Lc92, hQ92, lq92, yq92, zq92⟩, st92⟩ := Jvm.LawKit.callS X91h hx (y := (⟨"com/example/deltalog/deltalog/ColumnTypeWriteIntPinLaw", "kept", "([BIIIB)Z"⟩ : MethodName)) hown (mvT hZ (hw _ (List.mem_of_getElem? (i := 8) rfl))) (mvT hZ (hw _ (List.mem_of_getElem? (i := 9) rfl))) (mvT hZ (hw _ (List.mem_of_getElem? (i := 10) rfl))) (mvT hZ (hw _ (List.mem_of_getElem? (i := 11) rfl))) (by decide) (backOf (W := 0) (own_rm2 l Z a0 hw [] b1 (9 : Int32) aa (aa + len_52) ff k1 gg_52 T52.heap n0 Z53 G52_0 (by decide : (¬ (9 : Int32) < 0 ∧ (9 : Int32) < (24 : Int32)) ∧ (9 : Int32).toNatClampNeg < 24) (own_keep ha P52_1 P52_0 P52_2 (9 : Int32) (by decide) : (9 : Int32) < aa ∨ ¬ ((9 : Int32) < (aa + len_52)) → gg_52 (9 : Int32).toNatClampNeg = ff)) hZ (hw _ (List.mem_of_getElem? (i := 11) rfl)) (hw _ (List.mem_of_getElem? (i := 10) rfl)) (by decide) (by decide)) (g := (mkF m 424 #[.val (.long q1), .second, .val (.int v2), .val (.int v3), .val (.int v4), .val (.long qq), .second, .val (.int aa), .val (.int ff), .val (.ref b1), .val (.int (aa + len_52)), .val (.int (1 : Int32)), .val (.int (aa + (1 : Int32))), .unset, .unset, .unset] [(.int ff), (.int (aa + len_52)), (.int aa), (.int (9 : Int32)), (.ref b1)])) rfl (by rw [hml]; rfl) (argsL := [(.ref b1), (.int (9 : Int32)), (.int aa), (.int (aa + len_52)), (.int ff)]) (rest := []) (lenOf own_pd2 rfl) rfl (by show 2 * 0 + _ ≤ _; exact Nat.le_of_eq rfl) (hb hby at_424) (fun _ _ => ⟨rfl, eh91, (by decide : 1 + 0 ≤ _), (by decide : 24 + 0 ≤ _)⟩)
      dsimp only [Pt.U, Pt.locs, Pt.cells, Pt.slots] at X92 lq92 yq92 zq92 st92 hQ92
      subst lq92 yq92 zq92
      obtain ⟨rfl, Nq92, eh92⟩ := hQ92
      have N92 := Fr.app N91h Nq92
      refine own_st (G' := T92.setTop (mkF m 427 #[.val (.long q1), .second, .val (.int v2), .val (.int v3), .val (.int v4), .val (.long qq), .second, .val (.int aa), .val (.int ff), .val (.ref b1), .val (.int (aa + len_52)), .val (.int (1 : Int32)), .val (.int (aa + (1 : Int32))), .unset, .unset, .unset] [(.int (1 : Int32))])) st92 ?_
      obtain ⟨_, X92h, N92h⟩ := own_hide X92 N92
      refine own_ifNo X92h hx 430 (hb hby at_427) (feq (by decide : ¬ ((1 : Int32) = (0 : Int32)))).1 ?_
      refine own_aload X92h hx 432 (hb hby at_430) rfl rfl ?_
      refine own_bipush X92h hx 434 (10 : Int32) (hb hby at_432) rfl ?_
      refine own_iload X92h hx 436 (hb hby at_434) rfl ?_
      refine own_iload X92h hx 438 (hb hby at_436) rfl ?_
      refine own_iload X92h hx 440 (hb hby at_438) rfl ?_
      obtain ⟨_, _, ⟨T93, Lx93, kc93, nc93⟩, -, X93, ⟨Lc93, hQ93, lq93, yq93, zq93⟩, st93⟩ := Jvm.LawKit.callS X92h hx (y := (⟨"com/example/deltalog/deltalog/ColumnTypeWriteIntPinLaw", "kept", "([BIIIB)Z"⟩ : MethodName)) hown (mvT hZ (hw _ (List.mem_of_getElem? (i := 8) rfl))) (mvT hZ (hw _ (List.mem_of_getElem? (i := 9) rfl))) (mvT hZ (hw _ (List.mem_of_getElem? (i := 10) rfl))) (mvT hZ (hw _ (List.mem_of_getElem? (i := 11) rfl))) (by decide) (backOf (W := 0) (own_rm2 l Z a0 hw [] b1 (10 : Int32) aa (aa + len_52) ff k1 gg_52 T52.heap n0 Z53 G52_0 (by decide : (¬ (10 : Int32) < 0 ∧ (10 : Int32) < (24 : Int32)) ∧ (10 : Int32).toNatClampNeg < 24) (own_keep ha P52_1 P52_0 P52_2 (10 : Int32) (by decide) : (10 : Int32) < aa ∨ ¬ ((10 : Int32) < (aa + len_52)) → gg_52 (10 : Int32).toNatClampNeg = ff)) hZ (hw _ (List.mem_of_getElem? (i := 11) rfl)) (hw _ (List.mem_of_getElem? (i := 10) rfl)) (by decide) (by decide)) (g := (mkF m 440 #[.val (.long q1), .second, .val (.int v2), .val (.int v3), .val (.int v4), .val (.long qq), .second, .val (.int aa), .val (.int ff), .val (.ref b1), .val (.int (aa + len_52)), .val (.int (1 : Int32)), .val (.int (aa + (1 : Int32))), .unset, .unset, .unset] [(.int ff), (.int (aa + len_52)), (.int aa), (.int (10 : Int32)), (.ref b1)])) rfl (by rw [hml]; rfl) (argsL := [(.ref b1), (.int (10 : Int32)), (.int aa), (.int (aa + len_52)), (.int ff)]) (rest := []) (lenOf own_pd2 rfl) rfl (by show 2 * 0 + _ ≤ _; exact Nat.le_of_eq rfl) (hb hby at_440) (fun _ _ => ⟨rfl, eh92, (by decide : 1 + 0 ≤ _), (by decide : 24 + 0 ≤ _)⟩)
      dsimp only [Pt.U, Pt.locs, Pt.cells, Pt.slots] at X93 lq93 yq93 zq93 st93 hQ93
      subst lq93 yq93 zq93
      obtain ⟨rfl, Nq93, eh93⟩ := hQ93
      have N93 := Fr.app N92h Nq93
      refine own_st (G' := T93.setTop (mkF m 443 #[.val (.long q1), .second, .val (.int v2), .val (.int v3), .val (.int v4), .val (.long qq), .second, .val (.int aa), .val (.int ff), .val (.ref b1), .val (.int (aa + len_52)), .val (.int (1 : Int32)), .val (.int (aa + (1 : Int32))), .unset, .unset, .unset] [(.int (1 : Int32))])) st93 ?_
      obtain ⟨_, X93h, N93h⟩ := own_hide X93 N93
      refine own_ifNo X93h hx 446 (hb hby at_443) (feq (by decide : ¬ ((1 : Int32) = (0 : Int32)))).1 ?_
      refine own_aload X93h hx 448 (hb hby at_446) rfl rfl ?_
      refine own_bipush X93h hx 450 (11 : Int32) (hb hby at_448) rfl ?_
      refine own_iload X93h hx 452 (hb hby at_450) rfl ?_
      refine own_iload X93h hx 454 (hb hby at_452) rfl ?_
      refine own_iload X93h hx 456 (hb hby at_454) rfl ?_
      obtain ⟨_, _, ⟨T94, Lx94, kc94, nc94⟩, -, X94, ⟨Lc94, hQ94, lq94, yq94, zq94⟩, st94⟩ := Jvm.LawKit.callS X93h hx (y := (⟨"com/example/deltalog/deltalog/ColumnTypeWriteIntPinLaw", "kept", "([BIIIB)Z"⟩ : MethodName)) hown (mvT hZ (hw _ (List.mem_of_getElem? (i := 8) rfl))) (mvT hZ (hw _ (List.mem_of_getElem? (i := 9) rfl))) (mvT hZ (hw _ (List.mem_of_getElem? (i := 10) rfl))) (mvT hZ (hw _ (List.mem_of_getElem? (i := 11) rfl))) (by decide) (backOf (W := 0) (own_rm2 l Z a0 hw [] b1 (11 : Int32) aa (aa + len_52) ff k1 gg_52 T52.heap n0 Z53 G52_0 (by decide : (¬ (11 : Int32) < 0 ∧ (11 : Int32) < (24 : Int32)) ∧ (11 : Int32).toNatClampNeg < 24) (own_keep ha P52_1 P52_0 P52_2 (11 : Int32) (by decide) : (11 : Int32) < aa ∨ ¬ ((11 : Int32) < (aa + len_52)) → gg_52 (11 : Int32).toNatClampNeg = ff)) hZ (hw _ (List.mem_of_getElem? (i := 11) rfl)) (hw _ (List.mem_of_getElem? (i := 10) rfl)) (by decide) (by decide)) (g := (mkF m 456 #[.val (.long q1), .second, .val (.int v2), .val (.int v3), .val (.int v4), .val (.long qq), .second, .val (.int aa), .val (.int ff), .val (.ref b1), .val (.int (aa + len_52)), .val (.int (1 : Int32)), .val (.int (aa + (1 : Int32))), .unset, .unset, .unset] [(.int ff), (.int (aa + len_52)), (.int aa), (.int (11 : Int32)), (.ref b1)])) rfl (by rw [hml]; rfl) (argsL := [(.ref b1), (.int (11 : Int32)), (.int aa), (.int (aa + len_52)), (.int ff)]) (rest := []) (lenOf own_pd2 rfl) rfl (by show 2 * 0 + _ ≤ _; exact Nat.le_of_eq rfl) (hb hby at_456) (fun _ _ => ⟨rfl, eh93, (by decide : 1 + 0 ≤ _), (by decide : 24 + 0 ≤ _)⟩)
      dsimp only [Pt.U, Pt.locs, Pt.cells, Pt.slots] at X94 lq94 yq94 zq94 st94 hQ94
      subst lq94 yq94 zq94
      obtain ⟨rfl, Nq94, eh94⟩ := hQ94
      have N94 := Fr.app N93h Nq94
      refine own_st (G' := T94.setTop (mkF m 459 #[.val (.long q1), .second, .val (.int v2), .val (.int v3), .val (.int v4), .val (.long qq), .second, .val (.int aa), .val (.int ff), .val (.ref b1), .val (.int (aa + len_52)), .val (.int (1 : Int32)), .val (.int (aa + (1 : Int32))), .unset, .unset, .unset] [(.int (1 : Int32))])) st94 ?_
      obtain ⟨_, X94h, N94h⟩ := own_hide X94 N94
      refine own_ifNo X94h hx 462 (hb hby at_459) (feq (by decide : ¬ ((1 : Int32) = (0 : Int32)))).1 ?_
      refine own_aload X94h hx 464 (hb hby at_462) rfl rfl ?_
      refine own_bipush X94h hx 466 (12 : Int32) (hb hby at_464) rfl ?_
      refine own_iload X94h hx 468 (hb hby at_466) rfl ?_
      refine own_iload X94h hx 470 (hb hby at_468) rfl ?_
      refine own_iload X94h hx 472 (hb hby at_470) rfl ?_
      obtain ⟨_, _, ⟨T95, Lx95, kc95, nc95⟩, -, X95, ⟨Lc95, hQ95, lq95, yq95, zq95⟩, st95⟩ := Jvm.LawKit.callS X94h hx (y := (⟨"com/example/deltalog/deltalog/ColumnTypeWriteIntPinLaw", "kept", "([BIIIB)Z"⟩ : MethodName)) hown (mvT hZ (hw _ (List.mem_of_getElem? (i := 8) rfl))) (mvT hZ (hw _ (List.mem_of_getElem? (i := 9) rfl))) (mvT hZ (hw _ (List.mem_of_getElem? (i := 10) rfl))) (mvT hZ (hw _ (List.mem_of_getElem? (i := 11) rfl))) (by decide) (backOf (W := 0) (own_rm2 l Z a0 hw [] b1 (12 : Int32) aa (aa + len_52) ff k1 gg_52 T52.heap n0 Z53 G52_0 (by decide : (¬ (12 : Int32) < 0 ∧ (12 : Int32) < (24 : Int32)) ∧ (12 : Int32).toNatClampNeg < 24) (own_keep ha P52_1 P52_0 P52_2 (12 : Int32) (by decide) : (12 : Int32) < aa ∨ ¬ ((12 : Int32) < (aa + len_52)) → gg_52 (12 : Int32).toNatClampNeg = ff)) hZ (hw _ (List.mem_of_getElem? (i := 11) rfl)) (hw _ (List.mem_of_getElem? (i := 10) rfl)) (by decide) (by decide)) (g := (mkF m 472 #[.val (.long q1), .second, .val (.int v2), .val (.int v3), .val (.int v4), .val (.long qq), .second, .val (.int aa), .val (.int ff), .val (.ref b1), .val (.int (aa + len_52)), .val (.int (1 : Int32)), .val (.int (aa + (1 : Int32))), .unset, .unset, .unset] [(.int ff), (.int (aa + len_52)), (.int aa), (.int (12 : Int32)), (.ref b1)])) rfl (by rw [hml]; rfl) (argsL := [(.ref b1), (.int (12 : Int32)), (.int aa), (.int (aa + len_52)), (.int ff)]) (rest := []) (lenOf own_pd2 rfl) rfl (by show 2 * 0 + _ ≤ _; exact Nat.le_of_eq rfl) (hb hby at_472) (fun _ _ => ⟨rfl, eh94, (by decide : 1 + 0 ≤ _), (by decide : 24 + 0 ≤ _)⟩)
      dsimp only [Pt.U, Pt.locs, Pt.cells, Pt.slots] at X95 lq95 yq95 zq95 st95 hQ95
      subst lq95 yq95 zq95
      obtain ⟨rfl, Nq95, eh95⟩ := hQ95
      have N95 := Fr.app N94h Nq95
      refine own_st (G' := T95.setTop (mkF m 475 #[.val (.long q1), .second, .val (.int v2), .val (.int v3), .val (.int v4), .val (.long qq), .second, .val (.int aa), .val (.int ff), .val (.ref b1), .val (.int (aa + len_52)), .val (.int (1 : Int32)), .val (.int (aa + (1 : Int32))), .unset, .unset, .unset] [(.int (1 : Int32))])) st95 ?_
      obtain ⟨_, X95h, N95h⟩ := own_hide X95 N95
      refine own_ifNo X95h hx 478 (hb hby at_475) (feq (by decide : ¬ ((1 : Int32) = (0 : Int32)))).1 ?_
      refine own_aload X95h hx 480 (hb hby at_478) rfl rfl ?_
      refine own_bipush X95h hx 482 (13 : Int32) (hb hby at_480) rfl ?_
      refine own_iload X95h hx 484 (hb hby at_482) rfl ?_
      refine own_iload X95h hx 486 (hb hby at_484) rfl ?_
      refine own_iload X95h hx 488 (hb hby at_486) rfl ?_
      obtain ⟨_, _, ⟨T96, Lx96, kc96, nc96⟩, -, X96, ⟨Lc96, hQ96, lq96, yq96, zq96⟩, st96⟩ := Jvm.LawKit.callS X95h hx (y := (⟨"com/example/deltalog/deltalog/ColumnTypeWriteIntPinLaw", "kept", "([BIIIB)Z"⟩ : MethodName)) hown (mvT hZ (hw _ (List.mem_of_getElem? (i := 8) rfl))) (mvT hZ (hw _ (List.mem_of_getElem? (i := 9) rfl))) (mvT hZ (hw _ (List.mem_of_getElem? (i := 10) rfl))) (mvT hZ (hw _ (List.mem_of_getElem? (i := 11) rfl))) (by decide) (backOf (W := 0) (own_rm2 l Z a0 hw [] b1 (13 : Int32) aa (aa + len_52) ff k1 gg_52 T52.heap n0 Z53 G52_0 (by decide : (¬ (13 : Int32) < 0 ∧ (13 : Int32) < (24 : Int32)) ∧ (13 : Int32).toNatClampNeg < 24) (own_keep ha P52_1 P52_0 P52_2 (13 : Int32) (by decide) : (13 : Int32) < aa ∨ ¬ ((13 : Int32) < (aa + len_52)) → gg_52 (13 : Int32).toNatClampNeg = ff)) hZ (hw _ (List.mem_of_getElem? (i := 11) rfl)) (hw _ (List.mem_of_getElem? (i := 10) rfl)) (by decide) (by decide)) (g := (mkF m 488 #[.val (.long q1), .second, .val (.int v2), .val (.int v3), .val (.int v4), .val (.long qq), .second, .val (.int aa), .val (.int ff), .val (.ref b1), .val (.int (aa + len_52)), .val (.int (1 : Int32)), .val (.int (aa + (1 : Int32))), .unset, .unset, .unset] [(.int ff), (.int (aa + len_52)), (.int aa), (.int (13 : Int32)), (.ref b1)])) rfl (by rw [hml]; rfl) (argsL := [(.ref b1), (.int (13 : Int32)), (.int aa), (.int (aa + len_52)), (.int ff)]) (rest := []) (lenOf own_pd2 rfl) rfl (by show 2 * 0 + _ ≤ _; exact Nat.le_of_eq rfl) (hb hby at_488) (fun _ _ => ⟨rfl, eh95, (by decide : 1 + 0 ≤ _), (by decide : 24 + 0 ≤ _)⟩)
      dsimp only [Pt.U, Pt.locs, Pt.cells, Pt.slots] at X96 lq96 yq96 zq96 st96 hQ96
      subst lq96 yq96 zq96
      obtain ⟨rfl, Nq96, eh96⟩ := hQ96
      have N96 := Fr.app N95h Nq96
      refine own_st (G' := T96.setTop (mkF m 491 #[.val (.long q1), .second, .val (.int v2), .val (.int v3), .val (.int v4), .val (.long qq), .second, .val (.int aa), .val (.int ff), .val (.ref b1), .val (.int (aa + len_52)), .val (.int (1 : Int32)), .val (.int (aa + (1 : Int32))), .unset, .unset, .unset] [(.int (1 : Int32))])) st96 ?_
      obtain ⟨_, X96h, N96h⟩ := own_hide X96 N96
      refine own_ifNo X96h hx 494 (hb hby at_491) (feq (by decide : ¬ ((1 : Int32) = (0 : Int32)))).1 ?_
      refine own_aload X96h hx 496 (hb hby at_494) rfl rfl ?_
      refine own_bipush X96h hx 498 (14 : Int32) (hb hby at_496) rfl ?_
      refine own_iload X96h hx 500 (hb hby at_498) rfl ?_
      refine own_iload X96h hx 502 (hb hby at_500) rfl ?_
      refine own_iload X96h hx 504 (hb hby at_502) rfl ?_
      obtain ⟨_, _, ⟨T97, Lx97, kc97, nc97⟩, -, X97, ⟨Lc97, hQ97, lq97, yq97, zq97⟩, st97⟩ := Jvm.LawKit.callS X96h hx (y := (⟨"com/example/deltalog/deltalog/ColumnTypeWriteIntPinLaw", "kept", "([BIIIB)Z"⟩ : MethodName)) hown (mvT hZ (hw _ (List.mem_of_getElem? (i := 8) rfl))) (mvT hZ (hw _ (List.mem_of_getElem? (i := 9) rfl))) (mvT hZ (hw _ (List.mem_of_getElem? (i := 10) rfl))) (mvT hZ (hw _ (List.mem_of_getElem? (i := 11) rfl))) (by decide) (backOf (W := 0) (own_rm2 l Z a0 hw [] b1 (14 : Int32) aa (aa + len_52) ff k1 gg_52 T52.heap n0 Z53 G52_0 (by decide : (¬ (14 : Int32) < 0 ∧ (14 : Int32) < (24 : Int32)) ∧ (14 : Int32).toNatClampNeg < 24) (own_keep ha P52_1 P52_0 P52_2 (14 : Int32) (by decide) : (14 : Int32) < aa ∨ ¬ ((14 : Int32) < (aa + len_52)) → gg_52 (14 : Int32).toNatClampNeg = ff)) hZ (hw _ (List.mem_of_getElem? (i := 11) rfl)) (hw _ (List.mem_of_getElem? (i := 10) rfl)) (by decide) (by decide)) (g := (mkF m 504 #[.val (.long q1), .second, .val (.int v2), .val (.int v3), .val (.int v4), .val (.long qq), .second, .val (.int aa), .val (.int ff), .val (.ref b1), .val (.int (aa + len_52)), .val (.int (1 : Int32)), .val (.int (aa + (1 : Int32))), .unset, .unset, .unset] [(.int ff), (.int (aa + len_52)), (.int aa), (.int (14 : Int32)), (.ref b1)])) rfl (by rw [hml]; rfl) (argsL := [(.ref b1), (.int (14 : Int32)), (.int aa), (.int (aa + len_52)), (.int ff)]) (rest := []) (lenOf own_pd2 rfl) rfl (by show 2 * 0 + _ ≤ _; exact Nat.le_of_eq rfl) (hb hby at_504) (fun _ _ => ⟨rfl, eh96, (by decide : 1 + 0 ≤ _), (by decide : 24 + 0 ≤ _)⟩)
      dsimp only [Pt.U, Pt.locs, Pt.cells, Pt.slots] at X97 lq97 yq97 zq97 st97 hQ97
      subst lq97 yq97 zq97
      obtain ⟨rfl, Nq97, eh97⟩ := hQ97
      have N97 := Fr.app N96h Nq97
      refine own_st (G' := T97.setTop (mkF m 507 #[.val (.long q1), .second, .val (.int v2), .val (.int v3), .val (.int v4), .val (.long qq), .second, .val (.int aa), .val (.int ff), .val (.ref b1), .val (.int (aa + len_52)), .val (.int (1 : Int32)), .val (.int (aa + (1 : Int32))), .unset, .unset, .unset] [(.int (1 : Int32))])) st97 ?_
      obtain ⟨_, X97h, N97h⟩ := own_hide X97 N97
      refine own_ifNo X97h hx 510 (hb hby at_507) (feq (by decide : ¬ ((1 : Int32) = (0 : Int32)))).1 ?_
      refine own_aload X97h hx 512 (hb hby at_510) rfl rfl ?_
      refine own_bipush X97h hx 514 (15 : Int32) (hb hby at_512) rfl ?_
      refine own_iload X97h hx 516 (hb hby at_514) rfl ?_
      refine own_iload X97h hx 518 (hb hby at_516) rfl ?_
      refine own_iload X97h hx 520 (hb hby at_518) rfl ?_
      obtain ⟨_, _, ⟨T98, Lx98, kc98, nc98⟩, -, X98, ⟨Lc98, hQ98, lq98, yq98, zq98⟩, st98⟩ := Jvm.LawKit.callS X97h hx (y := (⟨"com/example/deltalog/deltalog/ColumnTypeWriteIntPinLaw", "kept", "([BIIIB)Z"⟩ : MethodName)) hown (mvT hZ (hw _ (List.mem_of_getElem? (i := 8) rfl))) (mvT hZ (hw _ (List.mem_of_getElem? (i := 9) rfl))) (mvT hZ (hw _ (List.mem_of_getElem? (i := 10) rfl))) (mvT hZ (hw _ (List.mem_of_getElem? (i := 11) rfl))) (by decide) (backOf (W := 0) (own_rm2 l Z a0 hw [] b1 (15 : Int32) aa (aa + len_52) ff k1 gg_52 T52.heap n0 Z53 G52_0 (by decide : (¬ (15 : Int32) < 0 ∧ (15 : Int32) < (24 : Int32)) ∧ (15 : Int32).toNatClampNeg < 24) (own_keep ha P52_1 P52_0 P52_2 (15 : Int32) (by decide) : (15 : Int32) < aa ∨ ¬ ((15 : Int32) < (aa + len_52)) → gg_52 (15 : Int32).toNatClampNeg = ff)) hZ (hw _ (List.mem_of_getElem? (i := 11) rfl)) (hw _ (List.mem_of_getElem? (i := 10) rfl)) (by decide) (by decide)) (g := (mkF m 520 #[.val (.long q1), .second, .val (.int v2), .val (.int v3), .val (.int v4), .val (.long qq), .second, .val (.int aa), .val (.int ff), .val (.ref b1), .val (.int (aa + len_52)), .val (.int (1 : Int32)), .val (.int (aa + (1 : Int32))), .unset, .unset, .unset] [(.int ff), (.int (aa + len_52)), (.int aa), (.int (15 : Int32)), (.ref b1)])) rfl (by rw [hml]; rfl) (argsL := [(.ref b1), (.int (15 : Int32)), (.int aa), (.int (aa + len_52)), (.int ff)]) (rest := []) (lenOf own_pd2 rfl) rfl (by show 2 * 0 + _ ≤ _; exact Nat.le_of_eq rfl) (hb hby at_520) (fun _ _ => ⟨rfl, eh97, (by decide : 1 + 0 ≤ _), (by decide : 24 + 0 ≤ _)⟩)
      dsimp only [Pt.U, Pt.locs, Pt.cells, Pt.slots] at X98 lq98 yq98 zq98 st98 hQ98
      subst lq98 yq98 zq98
      obtain ⟨rfl, Nq98, eh98⟩ := hQ98
      have N98 := Fr.app N97h Nq98
      refine own_st (G' := T98.setTop (mkF m 523 #[.val (.long q1), .second, .val (.int v2), .val (.int v3), .val (.int v4), .val (.long qq), .second, .val (.int aa), .val (.int ff), .val (.ref b1), .val (.int (aa + len_52)), .val (.int (1 : Int32)), .val (.int (aa + (1 : Int32))), .unset, .unset, .unset] [(.int (1 : Int32))])) st98 ?_
      obtain ⟨_, X98h, N98h⟩ := own_hide X98 N98
      refine own_ifNo X98h hx 526 (hb hby at_523) (feq (by decide : ¬ ((1 : Int32) = (0 : Int32)))).1 ?_
      refine own_aload X98h hx 528 (hb hby at_526) rfl rfl ?_
      refine own_bipush X98h hx 530 (16 : Int32) (hb hby at_528) rfl ?_
      refine own_iload X98h hx 532 (hb hby at_530) rfl ?_
      refine own_iload X98h hx 534 (hb hby at_532) rfl ?_
      refine own_iload X98h hx 536 (hb hby at_534) rfl ?_
      obtain ⟨_, _, ⟨T99, Lx99, kc99, nc99⟩, -, X99, ⟨Lc99, hQ99, lq99, yq99, zq99⟩, st99⟩ := Jvm.LawKit.callS X98h hx (y := (⟨"com/example/deltalog/deltalog/ColumnTypeWriteIntPinLaw", "kept", "([BIIIB)Z"⟩ : MethodName)) hown (mvT hZ (hw _ (List.mem_of_getElem? (i := 8) rfl))) (mvT hZ (hw _ (List.mem_of_getElem? (i := 9) rfl))) (mvT hZ (hw _ (List.mem_of_getElem? (i := 10) rfl))) (mvT hZ (hw _ (List.mem_of_getElem? (i := 11) rfl))) (by decide) (backOf (W := 0) (own_rm2 l Z a0 hw [] b1 (16 : Int32) aa (aa + len_52) ff k1 gg_52 T52.heap n0 Z53 G52_0 (by decide : (¬ (16 : Int32) < 0 ∧ (16 : Int32) < (24 : Int32)) ∧ (16 : Int32).toNatClampNeg < 24) (own_keep ha P52_1 P52_0 P52_2 (16 : Int32) (by decide) : (16 : Int32) < aa ∨ ¬ ((16 : Int32) < (aa + len_52)) → gg_52 (16 : Int32).toNatClampNeg = ff)) hZ (hw _ (List.mem_of_getElem? (i := 11) rfl)) (hw _ (List.mem_of_getElem? (i := 10) rfl)) (by decide) (by decide)) (g := (mkF m 536 #[.val (.long q1), .second, .val (.int v2), .val (.int v3), .val (.int v4), .val (.long qq), .second, .val (.int aa), .val (.int ff), .val (.ref b1), .val (.int (aa + len_52)), .val (.int (1 : Int32)), .val (.int (aa + (1 : Int32))), .unset, .unset, .unset] [(.int ff), (.int (aa + len_52)), (.int aa), (.int (16 : Int32)), (.ref b1)])) rfl (by rw [hml]; rfl) (argsL := [(.ref b1), (.int (16 : Int32)), (.int aa), (.int (aa + len_52)), (.int ff)]) (rest := []) (lenOf own_pd2 rfl) rfl (by show 2 * 0 + _ ≤ _; exact Nat.le_of_eq rfl) (hb hby at_536) (fun _ _ => ⟨rfl, eh98, (by decide : 1 + 0 ≤ _), (by decide : 24 + 0 ≤ _)⟩)
      dsimp only [Pt.U, Pt.locs, Pt.cells, Pt.slots] at X99 lq99 yq99 zq99 st99 hQ99
      subst lq99 yq99 zq99
      obtain ⟨rfl, Nq99, eh99⟩ := hQ99
      have N99 := Fr.app N98h Nq99
      refine own_st (G' := T99.setTop (mkF m 539 #[.val (.long q1), .second, .val (.int v2), .val (.int v3), .val (.int v4), .val (.long qq), .second, .val (.int aa), .val (.int ff), .val (.ref b1), .val (.int (aa + len_52)), .val (.int (1 : Int32)), .val (.int (aa + (1 : Int32))), .unset, .unset, .unset] [(.int (1 : Int32))])) st99 ?_
      obtain ⟨_, X99h, N99h⟩ := own_hide X99 N99
      refine own_ifNo X99h hx 542 (hb hby at_539) (feq (by decide : ¬ ((1 : Int32) = (0 : Int32)))).1 ?_
      refine own_aload X99h hx 544 (hb hby at_542) rfl rfl ?_
      refine own_bipush X99h hx 546 (17 : Int32) (hb hby at_544) rfl ?_
      refine own_iload X99h hx 548 (hb hby at_546) rfl ?_
      refine own_iload X99h hx 550 (hb hby at_548) rfl ?_
      refine own_iload X99h hx 552 (hb hby at_550) rfl ?_
      obtain ⟨_, _, ⟨T100, Lx100, kc100, nc100⟩, -, X100, ⟨Lc100, hQ100, lq100, yq100, zq100⟩, st100⟩ := Jvm.LawKit.callS X99h hx (y := (⟨"com/example/deltalog/deltalog/ColumnTypeWriteIntPinLaw", "kept", "([BIIIB)Z"⟩ : MethodName)) hown (mvT hZ (hw _ (List.mem_of_getElem? (i := 8) rfl))) (mvT hZ (hw _ (List.mem_of_getElem? (i := 9) rfl))) (mvT hZ (hw _ (List.mem_of_getElem? (i := 10) rfl))) (mvT hZ (hw _ (List.mem_of_getElem? (i := 11) rfl))) (by decide) (backOf (W := 0) (own_rm2 l Z a0 hw [] b1 (17 : Int32) aa (aa + len_52) ff k1 gg_52 T52.heap n0 Z53 G52_0 (by decide : (¬ (17 : Int32) < 0 ∧ (17 : Int32) < (24 : Int32)) ∧ (17 : Int32).toNatClampNeg < 24) (own_keep ha P52_1 P52_0 P52_2 (17 : Int32) (by decide) : (17 : Int32) < aa ∨ ¬ ((17 : Int32) < (aa + len_52)) → gg_52 (17 : Int32).toNatClampNeg = ff)) hZ (hw _ (List.mem_of_getElem? (i := 11) rfl)) (hw _ (List.mem_of_getElem? (i := 10) rfl)) (by decide) (by decide)) (g := (mkF m 552 #[.val (.long q1), .second, .val (.int v2), .val (.int v3), .val (.int v4), .val (.long qq), .second, .val (.int aa), .val (.int ff), .val (.ref b1), .val (.int (aa + len_52)), .val (.int (1 : Int32)), .val (.int (aa + (1 : Int32))), .unset, .unset, .unset] [(.int ff), (.int (aa + len_52)), (.int aa), (.int (17 : Int32)), (.ref b1)])) rfl (by rw [hml]; rfl) (argsL := [(.ref b1), (.int (17 : Int32)), (.int aa), (.int (aa + len_52)), (.int ff)]) (rest := []) (lenOf own_pd2 rfl) rfl (by show 2 * 0 + _ ≤ _; exact Nat.le_of_eq rfl) (hb hby at_552) (fun _ _ => ⟨rfl, eh99, (by decide : 1 + 0 ≤ _), (by decide : 24 + 0 ≤ _)⟩)
      dsimp only [Pt.U, Pt.locs, Pt.cells, Pt.slots] at X100 lq100 yq100 zq100 st100 hQ100
      subst lq100 yq100 zq100
      obtain ⟨rfl, Nq100, eh100⟩ := hQ100
      have N100 := Fr.app N99h Nq100
      refine own_st (G' := T100.setTop (mkF m 555 #[.val (.long q1), .second, .val (.int v2), .val (.int v3), .val (.int v4), .val (.long qq), .second, .val (.int aa), .val (.int ff), .val (.ref b1), .val (.int (aa + len_52)), .val (.int (1 : Int32)), .val (.int (aa + (1 : Int32))), .unset, .unset, .unset] [(.int (1 : Int32))])) st100 ?_
      obtain ⟨_, X100h, N100h⟩ := own_hide X100 N100
      refine own_ifNo X100h hx 558 (hb hby at_555) (feq (by decide : ¬ ((1 : Int32) = (0 : Int32)))).1 ?_
      refine own_aload X100h hx 560 (hb hby at_558) rfl rfl ?_
      refine own_bipush X100h hx 562 (18 : Int32) (hb hby at_560) rfl ?_
      refine own_iload X100h hx 564 (hb hby at_562) rfl ?_
      refine own_iload X100h hx 566 (hb hby at_564) rfl ?_
      refine own_iload X100h hx 568 (hb hby at_566) rfl ?_
      obtain ⟨_, _, ⟨T101, Lx101, kc101, nc101⟩, -, X101, ⟨Lc101, hQ101, lq101, yq101, zq101⟩, st101⟩ := Jvm.LawKit.callS X100h hx (y := (⟨"com/example/deltalog/deltalog/ColumnTypeWriteIntPinLaw", "kept", "([BIIIB)Z"⟩ : MethodName)) hown (mvT hZ (hw _ (List.mem_of_getElem? (i := 8) rfl))) (mvT hZ (hw _ (List.mem_of_getElem? (i := 9) rfl))) (mvT hZ (hw _ (List.mem_of_getElem? (i := 10) rfl))) (mvT hZ (hw _ (List.mem_of_getElem? (i := 11) rfl))) (by decide) (backOf (W := 0) (own_rm2 l Z a0 hw [] b1 (18 : Int32) aa (aa + len_52) ff k1 gg_52 T52.heap n0 Z53 G52_0 (by decide : (¬ (18 : Int32) < 0 ∧ (18 : Int32) < (24 : Int32)) ∧ (18 : Int32).toNatClampNeg < 24) (own_keep ha P52_1 P52_0 P52_2 (18 : Int32) (by decide) : (18 : Int32) < aa ∨ ¬ ((18 : Int32) < (aa + len_52)) → gg_52 (18 : Int32).toNatClampNeg = ff)) hZ (hw _ (List.mem_of_getElem? (i := 11) rfl)) (hw _ (List.mem_of_getElem? (i := 10) rfl)) (by decide) (by decide)) (g := (mkF m 568 #[.val (.long q1), .second, .val (.int v2), .val (.int v3), .val (.int v4), .val (.long qq), .second, .val (.int aa), .val (.int ff), .val (.ref b1), .val (.int (aa + len_52)), .val (.int (1 : Int32)), .val (.int (aa + (1 : Int32))), .unset, .unset, .unset] [(.int ff), (.int (aa + len_52)), (.int aa), (.int (18 : Int32)), (.ref b1)])) rfl (by rw [hml]; rfl) (argsL := [(.ref b1), (.int (18 : Int32)), (.int aa), (.int (aa + len_52)), (.int ff)]) (rest := []) (lenOf own_pd2 rfl) rfl (by show 2 * 0 + _ ≤ _; exact Nat.le_of_eq rfl) (hb hby at_568) (fun _ _ => ⟨rfl, eh100, (by decide : 1 + 0 ≤ _), (by decide : 24 + 0 ≤ _)⟩)
      dsimp only [Pt.U, Pt.locs, Pt.cells, Pt.slots] at X101 lq101 yq101 zq101 st101 hQ101
      subst lq101 yq101 zq101
      obtain ⟨rfl, Nq101, eh101⟩ := hQ101
      have N101 := Fr.app N100h Nq101
      refine own_st (G' := T101.setTop (mkF m 571 #[.val (.long q1), .second, .val (.int v2), .val (.int v3), .val (.int v4), .val (.long qq), .second, .val (.int aa), .val (.int ff), .val (.ref b1), .val (.int (aa + len_52)), .val (.int (1 : Int32)), .val (.int (aa + (1 : Int32))), .unset, .unset, .unset] [(.int (1 : Int32))])) st101 ?_
      obtain ⟨_, X101h, N101h⟩ := own_hide X101 N101
      refine own_ifNo X101h hx 574 (hb hby at_571) (feq (by decide : ¬ ((1 : Int32) = (0 : Int32)))).1 ?_
      refine own_aload X101h hx 576 (hb hby at_574) rfl rfl ?_
      refine own_bipush X101h hx 578 (19 : Int32) (hb hby at_576) rfl ?_
      refine own_iload X101h hx 580 (hb hby at_578) rfl ?_
      refine own_iload X101h hx 582 (hb hby at_580) rfl ?_
      refine own_iload X101h hx 584 (hb hby at_582) rfl ?_
      obtain ⟨_, _, ⟨T102, Lx102, kc102, nc102⟩, -, X102, ⟨Lc102, hQ102, lq102, yq102, zq102⟩, st102⟩ := Jvm.LawKit.callS X101h hx (y := (⟨"com/example/deltalog/deltalog/ColumnTypeWriteIntPinLaw", "kept", "([BIIIB)Z"⟩ : MethodName)) hown (mvT hZ (hw _ (List.mem_of_getElem? (i := 8) rfl))) (mvT hZ (hw _ (List.mem_of_getElem? (i := 9) rfl))) (mvT hZ (hw _ (List.mem_of_getElem? (i := 10) rfl))) (mvT hZ (hw _ (List.mem_of_getElem? (i := 11) rfl))) (by decide) (backOf (W := 0) (own_rm2 l Z a0 hw [] b1 (19 : Int32) aa (aa + len_52) ff k1 gg_52 T52.heap n0 Z53 G52_0 (by decide : (¬ (19 : Int32) < 0 ∧ (19 : Int32) < (24 : Int32)) ∧ (19 : Int32).toNatClampNeg < 24) (own_keep ha P52_1 P52_0 P52_2 (19 : Int32) (by decide) : (19 : Int32) < aa ∨ ¬ ((19 : Int32) < (aa + len_52)) → gg_52 (19 : Int32).toNatClampNeg = ff)) hZ (hw _ (List.mem_of_getElem? (i := 11) rfl)) (hw _ (List.mem_of_getElem? (i := 10) rfl)) (by decide) (by decide)) (g := (mkF m 584 #[.val (.long q1), .second, .val (.int v2), .val (.int v3), .val (.int v4), .val (.long qq), .second, .val (.int aa), .val (.int ff), .val (.ref b1), .val (.int (aa + len_52)), .val (.int (1 : Int32)), .val (.int (aa + (1 : Int32))), .unset, .unset, .unset] [(.int ff), (.int (aa + len_52)), (.int aa), (.int (19 : Int32)), (.ref b1)])) rfl (by rw [hml]; rfl) (argsL := [(.ref b1), (.int (19 : Int32)), (.int aa), (.int (aa + len_52)), (.int ff)]) (rest := []) (lenOf own_pd2 rfl) rfl (by show 2 * 0 + _ ≤ _; exact Nat.le_of_eq rfl) (hb hby at_584) (fun _ _ => ⟨rfl, eh101, (by decide : 1 + 0 ≤ _), (by decide : 24 + 0 ≤ _)⟩)
      dsimp only [Pt.U, Pt.locs, Pt.cells, Pt.slots] at X102 lq102 yq102 zq102 st102 hQ102
      subst lq102 yq102 zq102
      obtain ⟨rfl, Nq102, eh102⟩ := hQ102
      have N102 := Fr.app N101h Nq102
      refine own_st (G' := T102.setTop (mkF m 587 #[.val (.long q1), .second, .val (.int v2), .val (.int v3), .val (.int v4), .val (.long qq), .second, .val (.int aa), .val (.int ff), .val (.ref b1), .val (.int (aa + len_52)), .val (.int (1 : Int32)), .val (.int (aa + (1 : Int32))), .unset, .unset, .unset] [(.int (1 : Int32))])) st102 ?_
      obtain ⟨_, X102h, N102h⟩ := own_hide X102 N102
      refine own_ifNo X102h hx 590 (hb hby at_587) (feq (by decide : ¬ ((1 : Int32) = (0 : Int32)))).1 ?_
      refine own_aload X102h hx 592 (hb hby at_590) rfl rfl ?_
      refine own_bipush X102h hx 594 (20 : Int32) (hb hby at_592) rfl ?_
      refine own_iload X102h hx 596 (hb hby at_594) rfl ?_
      refine own_iload X102h hx 598 (hb hby at_596) rfl ?_
      refine own_iload X102h hx 600 (hb hby at_598) rfl ?_
      obtain ⟨_, _, ⟨T103, Lx103, kc103, nc103⟩, -, X103, ⟨Lc103, hQ103, lq103, yq103, zq103⟩, st103⟩ := Jvm.LawKit.callS X102h hx (y := (⟨"com/example/deltalog/deltalog/ColumnTypeWriteIntPinLaw", "kept", "([BIIIB)Z"⟩ : MethodName)) hown (mvT hZ (hw _ (List.mem_of_getElem? (i := 8) rfl))) (mvT hZ (hw _ (List.mem_of_getElem? (i := 9) rfl))) (mvT hZ (hw _ (List.mem_of_getElem? (i := 10) rfl))) (mvT hZ (hw _ (List.mem_of_getElem? (i := 11) rfl))) (by decide) (backOf (W := 0) (own_rm2 l Z a0 hw [] b1 (20 : Int32) aa (aa + len_52) ff k1 gg_52 T52.heap n0 Z53 G52_0 (by decide : (¬ (20 : Int32) < 0 ∧ (20 : Int32) < (24 : Int32)) ∧ (20 : Int32).toNatClampNeg < 24) (own_keep ha P52_1 P52_0 P52_2 (20 : Int32) (by decide) : (20 : Int32) < aa ∨ ¬ ((20 : Int32) < (aa + len_52)) → gg_52 (20 : Int32).toNatClampNeg = ff)) hZ (hw _ (List.mem_of_getElem? (i := 11) rfl)) (hw _ (List.mem_of_getElem? (i := 10) rfl)) (by decide) (by decide)) (g := (mkF m 600 #[.val (.long q1), .second, .val (.int v2), .val (.int v3), .val (.int v4), .val (.long qq), .second, .val (.int aa), .val (.int ff), .val (.ref b1), .val (.int (aa + len_52)), .val (.int (1 : Int32)), .val (.int (aa + (1 : Int32))), .unset, .unset, .unset] [(.int ff), (.int (aa + len_52)), (.int aa), (.int (20 : Int32)), (.ref b1)])) rfl (by rw [hml]; rfl) (argsL := [(.ref b1), (.int (20 : Int32)), (.int aa), (.int (aa + len_52)), (.int ff)]) (rest := []) (lenOf own_pd2 rfl) rfl (by show 2 * 0 + _ ≤ _; exact Nat.le_of_eq rfl) (hb hby at_600) (fun _ _ => ⟨rfl, eh102, (by decide : 1 + 0 ≤ _), (by decide : 24 + 0 ≤ _)⟩)
      dsimp only [Pt.U, Pt.locs, Pt.cells, Pt.slots] at X103 lq103 yq103 zq103 st103 hQ103
      subst lq103 yq103 zq103
      obtain ⟨rfl, Nq103, eh103⟩ := hQ103
      have N103 := Fr.app N102h Nq103
      refine own_st (G' := T103.setTop (mkF m 603 #[.val (.long q1), .second, .val (.int v2), .val (.int v3), .val (.int v4), .val (.long qq), .second, .val (.int aa), .val (.int ff), .val (.ref b1), .val (.int (aa + len_52)), .val (.int (1 : Int32)), .val (.int (aa + (1 : Int32))), .unset, .unset, .unset] [(.int (1 : Int32))])) st103 ?_
      obtain ⟨_, X103h, N103h⟩ := own_hide X103 N103
      refine own_ifNo X103h hx 606 (hb hby at_603) (feq (by decide : ¬ ((1 : Int32) = (0 : Int32)))).1 ?_
      refine own_aload X103h hx 608 (hb hby at_606) rfl rfl ?_
      refine own_bipush X103h hx 610 (21 : Int32) (hb hby at_608) rfl ?_
      refine own_iload X103h hx 612 (hb hby at_610) rfl ?_
      refine own_iload X103h hx 614 (hb hby at_612) rfl ?_
      refine own_iload X103h hx 616 (hb hby at_614) rfl ?_
      obtain ⟨_, _, ⟨T104, Lx104, kc104, nc104⟩, -, X104, ⟨Lc104, hQ104, lq104, yq104, zq104⟩, st104⟩ := Jvm.LawKit.callS X103h hx (y := (⟨"com/example/deltalog/deltalog/ColumnTypeWriteIntPinLaw", "kept", "([BIIIB)Z"⟩ : MethodName)) hown (mvT hZ (hw _ (List.mem_of_getElem? (i := 8) rfl))) (mvT hZ (hw _ (List.mem_of_getElem? (i := 9) rfl))) (mvT hZ (hw _ (List.mem_of_getElem? (i := 10) rfl))) (mvT hZ (hw _ (List.mem_of_getElem? (i := 11) rfl))) (by decide) (backOf (W := 0) (own_rm2 l Z a0 hw [] b1 (21 : Int32) aa (aa + len_52) ff k1 gg_52 T52.heap n0 Z53 G52_0 (by decide : (¬ (21 : Int32) < 0 ∧ (21 : Int32) < (24 : Int32)) ∧ (21 : Int32).toNatClampNeg < 24) (own_keep ha P52_1 P52_0 P52_2 (21 : Int32) (by decide) : (21 : Int32) < aa ∨ ¬ ((21 : Int32) < (aa + len_52)) → gg_52 (21 : Int32).toNatClampNeg = ff)) hZ (hw _ (List.mem_of_getElem? (i := 11) rfl)) (hw _ (List.mem_of_getElem? (i := 10) rfl)) (by decide) (by decide)) (g := (mkF m 616 #[.val (.long q1), .second, .val (.int v2), .val (.int v3), .val (.int v4), .val (.long qq), .second, .val (.int aa), .val (.int ff), .val (.ref b1), .val (.int (aa + len_52)), .val (.int (1 : Int32)), .val (.int (aa + (1 : Int32))), .unset, .unset, .unset] [(.int ff), (.int (aa + len_52)), (.int aa), (.int (21 : Int32)), (.ref b1)])) rfl (by rw [hml]; rfl) (argsL := [(.ref b1), (.int (21 : Int32)), (.int aa), (.int (aa + len_52)), (.int ff)]) (rest := []) (lenOf own_pd2 rfl) rfl (by show 2 * 0 + _ ≤ _; exact Nat.le_of_eq rfl) (hb hby at_616) (fun _ _ => ⟨rfl, eh103, (by decide : 1 + 0 ≤ _), (by decide : 24 + 0 ≤ _)⟩)
      dsimp only [Pt.U, Pt.locs, Pt.cells, Pt.slots] at X104 lq104 yq104 zq104 st104 hQ104
      subst lq104 yq104 zq104
      obtain ⟨rfl, Nq104, eh104⟩ := hQ104
      have N104 := Fr.app N103h Nq104
      refine own_st (G' := T104.setTop (mkF m 619 #[.val (.long q1), .second, .val (.int v2), .val (.int v3), .val (.int v4), .val (.long qq), .second, .val (.int aa), .val (.int ff), .val (.ref b1), .val (.int (aa + len_52)), .val (.int (1 : Int32)), .val (.int (aa + (1 : Int32))), .unset, .unset, .unset] [(.int (1 : Int32))])) st104 ?_
      obtain ⟨_, X104h, N104h⟩ := own_hide X104 N104
      refine own_ifNo X104h hx 622 (hb hby at_619) (feq (by decide : ¬ ((1 : Int32) = (0 : Int32)))).1 ?_
      refine own_aload X104h hx 624 (hb hby at_622) rfl rfl ?_
      refine own_bipush X104h hx 626 (22 : Int32) (hb hby at_624) rfl ?_
      refine own_iload X104h hx 628 (hb hby at_626) rfl ?_
      refine own_iload X104h hx 630 (hb hby at_628) rfl ?_
      refine own_iload X104h hx 632 (hb hby at_630) rfl ?_
      obtain ⟨_, _, ⟨T105, Lx105, kc105, nc105⟩, -, X105, ⟨Lc105, hQ105, lq105, yq105, zq105⟩, st105⟩ := Jvm.LawKit.callS X104h hx (y := (⟨"com/example/deltalog/deltalog/ColumnTypeWriteIntPinLaw", "kept", "([BIIIB)Z"⟩ : MethodName)) hown (mvT hZ (hw _ (List.mem_of_getElem? (i := 8) rfl))) (mvT hZ (hw _ (List.mem_of_getElem? (i := 9) rfl))) (mvT hZ (hw _ (List.mem_of_getElem? (i := 10) rfl))) (mvT hZ (hw _ (List.mem_of_getElem? (i := 11) rfl))) (by decide) (backOf (W := 0) (own_rm2 l Z a0 hw [] b1 (22 : Int32) aa (aa + len_52) ff k1 gg_52 T52.heap n0 Z53 G52_0 (by decide : (¬ (22 : Int32) < 0 ∧ (22 : Int32) < (24 : Int32)) ∧ (22 : Int32).toNatClampNeg < 24) (own_keep ha P52_1 P52_0 P52_2 (22 : Int32) (by decide) : (22 : Int32) < aa ∨ ¬ ((22 : Int32) < (aa + len_52)) → gg_52 (22 : Int32).toNatClampNeg = ff)) hZ (hw _ (List.mem_of_getElem? (i := 11) rfl)) (hw _ (List.mem_of_getElem? (i := 10) rfl)) (by decide) (by decide)) (g := (mkF m 632 #[.val (.long q1), .second, .val (.int v2), .val (.int v3), .val (.int v4), .val (.long qq), .second, .val (.int aa), .val (.int ff), .val (.ref b1), .val (.int (aa + len_52)), .val (.int (1 : Int32)), .val (.int (aa + (1 : Int32))), .unset, .unset, .unset] [(.int ff), (.int (aa + len_52)), (.int aa), (.int (22 : Int32)), (.ref b1)])) rfl (by rw [hml]; rfl) (argsL := [(.ref b1), (.int (22 : Int32)), (.int aa), (.int (aa + len_52)), (.int ff)]) (rest := []) (lenOf own_pd2 rfl) rfl (by show 2 * 0 + _ ≤ _; exact Nat.le_of_eq rfl) (hb hby at_632) (fun _ _ => ⟨rfl, eh104, (by decide : 1 + 0 ≤ _), (by decide : 24 + 0 ≤ _)⟩)
      dsimp only [Pt.U, Pt.locs, Pt.cells, Pt.slots] at X105 lq105 yq105 zq105 st105 hQ105
      subst lq105 yq105 zq105
      obtain ⟨rfl, Nq105, eh105⟩ := hQ105
      have N105 := Fr.app N104h Nq105
      refine own_st (G' := T105.setTop (mkF m 635 #[.val (.long q1), .second, .val (.int v2), .val (.int v3), .val (.int v4), .val (.long qq), .second, .val (.int aa), .val (.int ff), .val (.ref b1), .val (.int (aa + len_52)), .val (.int (1 : Int32)), .val (.int (aa + (1 : Int32))), .unset, .unset, .unset] [(.int (1 : Int32))])) st105 ?_
      obtain ⟨_, X105h, N105h⟩ := own_hide X105 N105
      refine own_ifNo X105h hx 638 (hb hby at_635) (feq (by decide : ¬ ((1 : Int32) = (0 : Int32)))).1 ?_
      refine own_aload X105h hx 640 (hb hby at_638) rfl rfl ?_
      refine own_bipush X105h hx 642 (23 : Int32) (hb hby at_640) rfl ?_
      refine own_iload X105h hx 644 (hb hby at_642) rfl ?_
      refine own_iload X105h hx 646 (hb hby at_644) rfl ?_
      refine own_iload X105h hx 648 (hb hby at_646) rfl ?_
      obtain ⟨_, _, ⟨T106, Lx106, kc106, nc106⟩, -, X106, ⟨Lc106, hQ106, lq106, yq106, zq106⟩, st106⟩ := Jvm.LawKit.callS X105h hx (y := (⟨"com/example/deltalog/deltalog/ColumnTypeWriteIntPinLaw", "kept", "([BIIIB)Z"⟩ : MethodName)) hown (mvT hZ (hw _ (List.mem_of_getElem? (i := 8) rfl))) (mvT hZ (hw _ (List.mem_of_getElem? (i := 9) rfl))) (mvT hZ (hw _ (List.mem_of_getElem? (i := 10) rfl))) (mvT hZ (hw _ (List.mem_of_getElem? (i := 11) rfl))) (by decide) (backOf (W := 0) (own_rm2 l Z a0 hw [] b1 (23 : Int32) aa (aa + len_52) ff k1 gg_52 T52.heap n0 Z53 G52_0 (by decide : (¬ (23 : Int32) < 0 ∧ (23 : Int32) < (24 : Int32)) ∧ (23 : Int32).toNatClampNeg < 24) (own_keep ha P52_1 P52_0 P52_2 (23 : Int32) (by decide) : (23 : Int32) < aa ∨ ¬ ((23 : Int32) < (aa + len_52)) → gg_52 (23 : Int32).toNatClampNeg = ff)) hZ (hw _ (List.mem_of_getElem? (i := 11) rfl)) (hw _ (List.mem_of_getElem? (i := 10) rfl)) (by decide) (by decide)) (g := (mkF m 648 #[.val (.long q1), .second, .val (.int v2), .val (.int v3), .val (.int v4), .val (.long qq), .second, .val (.int aa), .val (.int ff), .val (.ref b1), .val (.int (aa + len_52)), .val (.int (1 : Int32)), .val (.int (aa + (1 : Int32))), .unset, .unset, .unset] [(.int ff), (.int (aa + len_52)), (.int aa), (.int (23 : Int32)), (.ref b1)])) rfl (by rw [hml]; rfl) (argsL := [(.ref b1), (.int (23 : Int32)), (.int aa), (.int (aa + len_52)), (.int ff)]) (rest := []) (lenOf own_pd2 rfl) rfl (by show 2 * 0 + _ ≤ _; exact Nat.le_of_eq rfl) (hb hby at_648) (fun _ _ => ⟨rfl, eh105, (by decide : 1 + 0 ≤ _), (by decide : 24 + 0 ≤ _)⟩)
      dsimp only [Pt.U, Pt.locs, Pt.cells, Pt.slots] at X106 lq106 yq106 zq106 st106 hQ106
      subst lq106 yq106 zq106
      obtain ⟨rfl, Nq106, eh106⟩ := hQ106
      have N106 := Fr.app N105h Nq106
      refine own_st (G' := T106.setTop (mkF m 651 #[.val (.long q1), .second, .val (.int v2), .val (.int v3), .val (.int v4), .val (.long qq), .second, .val (.int aa), .val (.int ff), .val (.ref b1), .val (.int (aa + len_52)), .val (.int (1 : Int32)), .val (.int (aa + (1 : Int32))), .unset, .unset, .unset] [(.int (1 : Int32))])) st106 ?_
      obtain ⟨_, X106h, N106h⟩ := own_hide X106 N106
      refine own_ifNo X106h hx 654 (hb hby at_651) (feq (by decide : ¬ ((1 : Int32) = (0 : Int32)))).1 ?_
      refine own_iconst X106h hx 655 (1 : Int32) (hb hby at_654) rfl ?_
      refine own_goto X106h hx 659 (hb hby at_655) ?_
      refine own_istore X106h hx 661 #[.val (.long q1), .second, .val (.int v2), .val (.int v3), .val (.int v4), .val (.long qq), .second, .val (.int aa), .val (.int ff), .val (.ref b1), .val (.int (aa + len_52)), .val (.int (1 : Int32)), .val (.int (aa + (1 : Int32))), .val (.int (1 : Int32)), .unset, .unset] (hb hby at_659) rfl ?_
      refine own_iload X106h hx 663 (hb hby at_661) rfl ?_
      refine own_ifYes X106h hx 668 (hb hby at_663) (feq (by decide : ¬ ((1 : Int32) = (0 : Int32)))).2 ?_
      refine own_aload X106h hx 670 (hb hby at_668) rfl rfl ?_
      refine own_iload X106h hx 672 (hb hby at_670) rfl ?_
      refine own_iload X106h hx 674 (hb hby at_672) rfl ?_
      obtain ⟨_, _, ⟨T107, Lx107, kc107, nc107⟩, -, X107, ⟨Lc107, hQ107, lq107, yq107, zq107⟩, st107⟩ := Jvm.LawKit.callS X106h hx (y := (⟨"com/example/deltalog/deltalog/ColumnType", "parseInt", "([BII)J"⟩ : MethodName)) hown (mvT hZ (hw _ (List.mem_of_getElem? (i := 12) rfl))) (mvT hZ (hw _ (List.mem_of_getElem? (i := 13) rfl))) (mvT hZ (hw _ (List.mem_of_getElem? (i := 3) rfl))) (mvT hZ (hw _ (List.mem_of_getElem? (i := 14) rfl))) (by decide) (backOf (W := 0) (own_rm3 l Z a0 hw [] b1 aa (aa + len_52) qq D_52 k1 gg_52 (fun _ => ff) T52.heap n0 Z53 G52_0 (ha : 0 ≤ aa.toInt ∧ aa.toInt ≤ 3) (by have q := own_end ha P52_1 P52_0; omega : (aa + len_52).toInt = aa.toInt + ((own_l0 qq + D_52 : Nat) : Int)) (P52_1 : (D_52 = 0 ∨ 10 ^ D_52 ≤ qq.toInt.natAbs) ∧ qq.toInt.natAbs < 10 ^ (D_52 + 1)) (P52_2 : ∀ y, gg_52 y = own_out qq D_52 aa.toInt.toNat (fun _ => ff) y)) hZ (hw _ (List.mem_of_getElem? (i := 14) rfl)) (hw _ (List.mem_of_getElem? (i := 3) rfl)) (by decide) (by decide)) (g := (mkF m 674 #[.val (.long q1), .second, .val (.int v2), .val (.int v3), .val (.int v4), .val (.long qq), .second, .val (.int aa), .val (.int ff), .val (.ref b1), .val (.int (aa + len_52)), .val (.int (1 : Int32)), .val (.int (aa + (1 : Int32))), .val (.int (1 : Int32)), .unset, .unset] [(.int (aa + len_52)), (.int aa), (.ref b1)])) rfl (by rw [hml]; rfl) (argsL := [(.ref b1), (.int aa), (.int (aa + len_52))]) (rest := []) (lenOf own_pd3 rfl) rfl (by show 2 * 0 + _ ≤ _; exact Nat.le_of_eq rfl) (hb hby at_674) (fun _ _ => ⟨rfl, eh106, (by decide : 1 + 0 ≤ _), (by decide : 24 + 0 ≤ _)⟩)
      dsimp only [Pt.U, Pt.locs, Pt.cells, Pt.slots] at X107 lq107 yq107 zq107 st107 hQ107
      subst lq107 yq107 zq107
      obtain ⟨rfl, Nq107, eh107⟩ := hQ107
      have N107 := Fr.app N106h Nq107
      refine own_st (G' := T107.setTop (mkF m 677 #[.val (.long q1), .second, .val (.int v2), .val (.int v3), .val (.int v4), .val (.long qq), .second, .val (.int aa), .val (.int ff), .val (.ref b1), .val (.int (aa + len_52)), .val (.int (1 : Int32)), .val (.int (aa + (1 : Int32))), .val (.int (1 : Int32)), .unset, .unset] [(.long qq)])) st107 ?_
      obtain ⟨_, X107h, N107h⟩ := own_hide X107 N107
      refine own_lstore X107h hx 679 #[.val (.long q1), .second, .val (.int v2), .val (.int v3), .val (.int v4), .val (.long qq), .second, .val (.int aa), .val (.int ff), .val (.ref b1), .val (.int (aa + len_52)), .val (.int (1 : Int32)), .val (.int (aa + (1 : Int32))), .val (.int (1 : Int32)), .val (.long qq), .second] (hb hby at_677) rfl ?_
      refine own_lload X107h hx 681 (hb hby at_679) rfl ?_
      refine own_lload X107h hx 683 (hb hby at_681) rfl ?_
      refine own_lcmp X107h hx 684 (hb hby at_683) ?_
      refine own_ifNo X107h hx 687 (hb hby at_684) (teq ((lw_eq _ _).mpr (rfl : qq = qq))).2 ?_
      refine own_iconst X107h hx 688 (1 : Int32) (hb hby at_687) rfl ?_
      refine own_goto X107h hx 692 (hb hby at_688) ?_
      exact own_retN (t := .boolean) (z := (1 : Int32)) (Q := own_Q0 Z q1 v2 v3 v4 h0 n0) X107h hx hrt (by simp) (hb hby at_692) hlk eh107 ⟨rfl, N107h⟩ (by decide) (by decide)
  · refine own_iload X52h hx 175 (hb hby at_173) rfl ?_
    refine own_iload X52h hx 177 (hb hby at_175) rfl ?_
    refine own_iconst X52h hx 178 (1 : Int32) (hb hby at_177) rfl ?_
    refine own_iadd X52h hx 179 (hb hby at_178) ?_
    refine own_icmpNo X52h hx 182 (hb hby at_179) (flt (own_e1 ha P52_1 P52_0 : ¬ ((aa + len_52) < (aa + (1 : Int32))))).1 ?_
    refine own_iload X52h hx 184 (hb hby at_182) rfl ?_
    refine own_iload X52h hx 186 (hb hby at_184) rfl ?_
    refine own_bipush X52h hx 188 (20 : Int32) (hb hby at_186) rfl ?_
    refine own_iadd X52h hx 189 (hb hby at_188) ?_
    refine own_icmpYes X52h hx 194 (hb hby at_189) (flt (own_e2 ha P52_1 P52_0 : ¬ ((aa + (20 : Int32)) < (aa + len_52)))).2.2.2 ?_
    refine own_aload X52h hx 196 (hb hby at_194) rfl rfl ?_
    refine own_iload X52h hx 198 (hb hby at_196) rfl ?_
    obtain ⟨cl108, Ar108, qv108, S108, M108, H108, G108⟩ := id G52_0
    have hin108 : ¬ (aa < 0 ∨ cl108.slots.size ≤ (aa).toNatClampNeg) := inb_of S108 (own_ain ha).1
    refine own_st (G' := T52.setTop (mkF m 199 #[.val (.long q1), .second, .val (.int v2), .val (.int v3), .val (.int v4), .val (.long qq), .second, .val (.int aa), .val (.int ff), .val (.ref b1), .val (.int (aa + len_52)), .unset, .unset, .unset, .unset, .unset] [(.int (gg_52 aa.toNatClampNeg))])) (fun t k => X52h.baloadBytes hx (j := aa) (v := (.int (gg_52 aa.toNatClampNeg))) Ar108.1 (State.isArrayOf_alike hZ.alike Ar108.2.1) Ar108.2.2 hin108 (H108.at hin108 (own_lstI_get (own_ain ha).2)) (g := (mkF m 198 #[.val (.long q1), .second, .val (.int v2), .val (.int v3), .val (.int v4), .val (.long qq), .second, .val (.int aa), .val (.int ff), .val (.ref b1), .val (.int (aa + len_52)), .unset, .unset, .unset, .unset, .unset] [(.int aa), (.ref b1)])) rfl rfl (hb hby at_198) _ k) ?_
    refine own_bipush X52h hx 201 (45 : Int32) (hb hby at_199) rfl ?_
    refine own_icmpYes X52h hx 208 (hb hby at_201) (feq (own_f2 ha hc173_54 P52_2 : ¬ ((gg_52 aa.toNatClampNeg) = (45 : Int32)))).2 ?_
    refine own_iconst X52h hx 209 (0 : Int32) (hb hby at_208) rfl ?_
    refine own_istore X52h hx 211 #[.val (.long q1), .second, .val (.int v2), .val (.int v3), .val (.int v4), .val (.long qq), .second, .val (.int aa), .val (.int ff), .val (.ref b1), .val (.int (aa + len_52)), .val (.int (0 : Int32)), .unset, .unset, .unset, .unset] (hb hby at_209) rfl ?_
    refine own_iload X52h hx 213 (hb hby at_211) rfl ?_
    refine own_lload X52h hx 215 (hb hby at_213) rfl ?_
    refine own_lconst X52h hx 216 (0 : Int64) (hb hby at_215) rfl ?_
    refine own_lcmp X52h hx 217 (hb hby at_216) ?_
    refine own_ifYes X52h hx 224 (hb hby at_217) (flt (mt (lw_lt _ _).mp hc173_54)).2.1 ?_
    refine own_iconst X52h hx 225 (0 : Int32) (hb hby at_224) rfl ?_
    refine own_icmpYes X52h hx 230 (hb hby at_225) (teq (rfl : (0 : Int32) = (0 : Int32))).1 ?_
    refine own_iload X52h hx 232 (hb hby at_230) rfl ?_
    refine own_ifYes X52h hx 242 (hb hby at_232) (teq (rfl : (0 : Int32) = (0 : Int32))).1 ?_
    refine own_iload X52h hx 244 (hb hby at_242) rfl ?_
    refine own_istore X52h hx 246 #[.val (.long q1), .second, .val (.int v2), .val (.int v3), .val (.int v4), .val (.long qq), .second, .val (.int aa), .val (.int ff), .val (.ref b1), .val (.int (aa + len_52)), .val (.int (0 : Int32)), .val (.int aa), .unset, .unset, .unset] (hb hby at_244) rfl ?_
    refine own_iload X52h hx 248 (hb hby at_246) rfl ?_
    refine own_iload X52h hx 250 (hb hby at_248) rfl ?_
    refine own_icmpYes X52h hx 255 (hb hby at_250) (tlt (own_g2 ha P52_1 P52_0 : aa < (aa + len_52))).2.2.1 ?_
    refine own_aload X52h hx 257 (hb hby at_255) rfl rfl ?_
    refine own_iload X52h hx 259 (hb hby at_257) rfl ?_
    obtain ⟨cl109, Ar109, qv109, S109, M109, H109, G109⟩ := id G52_0
    have hin109 : ¬ (aa < 0 ∨ cl109.slots.size ≤ (aa).toNatClampNeg) := inb_of S109 (own_ain ha).1
    refine own_st (G' := T52.setTop (mkF m 260 #[.val (.long q1), .second, .val (.int v2), .val (.int v3), .val (.int v4), .val (.long qq), .second, .val (.int aa), .val (.int ff), .val (.ref b1), .val (.int (aa + len_52)), .val (.int (0 : Int32)), .val (.int aa), .unset, .unset, .unset] [(.int (gg_52 aa.toNatClampNeg))])) (fun t k => X52h.baloadBytes hx (j := aa) (v := (.int (gg_52 aa.toNatClampNeg))) Ar109.1 (State.isArrayOf_alike hZ.alike Ar109.2.1) Ar109.2.2 hin109 (H109.at hin109 (own_lstI_get (own_ain ha).2)) (g := (mkF m 259 #[.val (.long q1), .second, .val (.int v2), .val (.int v3), .val (.int v4), .val (.long qq), .second, .val (.int aa), .val (.int ff), .val (.ref b1), .val (.int (aa + len_52)), .val (.int (0 : Int32)), .val (.int aa), .unset, .unset, .unset] [(.int aa), (.ref b1)])) rfl rfl (hb hby at_259) _ k) ?_
    refine own_bipush X52h hx 262 (48 : Int32) (hb hby at_260) rfl ?_
    by_cases hc262_110 : (gg_52 aa.toNatClampNeg) = (48 : Int32)
    · refine own_icmpNo X52h hx 265 (hb hby at_262) (teq hc262_110).2 ?_
      refine own_iload X52h hx 267 (hb hby at_265) rfl ?_
      refine own_iload X52h hx 269 (hb hby at_267) rfl ?_
      refine own_iconst X52h hx 270 (1 : Int32) (hb hby at_269) rfl ?_
      refine own_iadd X52h hx 271 (hb hby at_270) ?_
      refine own_icmpYes X52h hx 276 (hb hby at_271) (teq (own_h2 ha P52_1 P52_0 P52_2 hc173_54 hc262_110 : (aa + len_52) = (aa + (1 : Int32)))).1 ?_
      refine own_aload X52h hx 278 (hb hby at_276) rfl rfl ?_
      refine own_iconst X52h hx 279 (0 : Int32) (hb hby at_278) rfl ?_
      refine own_iload X52h hx 281 (hb hby at_279) rfl ?_
      refine own_iload X52h hx 283 (hb hby at_281) rfl ?_
      refine own_iload X52h hx 285 (hb hby at_283) rfl ?_
      obtain ⟨_, _, ⟨T111, Lx111, kc111, nc111⟩, -, X111, ⟨Lc111, hQ111, lq111, yq111, zq111⟩, st111⟩ := Jvm.LawKit.callS X52h hx (y := (⟨"com/example/deltalog/deltalog/ColumnTypeWriteIntPinLaw", "kept", "([BIIIB)Z"⟩ : MethodName)) hown (mvT hZ (hw _ (List.mem_of_getElem? (i := 8) rfl))) (mvT hZ (hw _ (List.mem_of_getElem? (i := 9) rfl))) (mvT hZ (hw _ (List.mem_of_getElem? (i := 10) rfl))) (mvT hZ (hw _ (List.mem_of_getElem? (i := 11) rfl))) (by decide) (backOf (W := 0) (own_rm2 l Z a0 hw [] b1 (0 : Int32) aa (aa + len_52) ff k1 gg_52 T52.heap n0 Z53 G52_0 (by decide : (¬ (0 : Int32) < 0 ∧ (0 : Int32) < (24 : Int32)) ∧ (0 : Int32).toNatClampNeg < 24) (own_keep ha P52_1 P52_0 P52_2 (0 : Int32) (by decide) : (0 : Int32) < aa ∨ ¬ ((0 : Int32) < (aa + len_52)) → gg_52 (0 : Int32).toNatClampNeg = ff)) hZ (hw _ (List.mem_of_getElem? (i := 11) rfl)) (hw _ (List.mem_of_getElem? (i := 10) rfl)) (by decide) (by decide)) (g := (mkF m 285 #[.val (.long q1), .second, .val (.int v2), .val (.int v3), .val (.int v4), .val (.long qq), .second, .val (.int aa), .val (.int ff), .val (.ref b1), .val (.int (aa + len_52)), .val (.int (0 : Int32)), .val (.int aa), .unset, .unset, .unset] [(.int ff), (.int (aa + len_52)), (.int aa), (.int (0 : Int32)), (.ref b1)])) rfl (by rw [hml]; rfl) (argsL := [(.ref b1), (.int (0 : Int32)), (.int aa), (.int (aa + len_52)), (.int ff)]) (rest := []) (lenOf own_pd2 rfl) rfl (by show 2 * 0 + _ ≤ _; exact Nat.le_of_eq rfl) (hb hby at_285) (fun _ _ => ⟨rfl, rfl, (by decide : 1 + 0 ≤ _), (by decide : 24 + 0 ≤ _)⟩)
      dsimp only [Pt.U, Pt.locs, Pt.cells, Pt.slots] at X111 lq111 yq111 zq111 st111 hQ111
      subst lq111 yq111 zq111
      obtain ⟨rfl, Nq111, eh111⟩ := hQ111
      have N111 := Fr.app N52h Nq111
      refine own_st (G' := T111.setTop (mkF m 288 #[.val (.long q1), .second, .val (.int v2), .val (.int v3), .val (.int v4), .val (.long qq), .second, .val (.int aa), .val (.int ff), .val (.ref b1), .val (.int (aa + len_52)), .val (.int (0 : Int32)), .val (.int aa), .unset, .unset, .unset] [(.int (1 : Int32))])) st111 ?_
      obtain ⟨_, X111h, N111h⟩ := own_hide X111 N111
      refine own_ifNo X111h hx 291 (hb hby at_288) (feq (by decide : ¬ ((1 : Int32) = (0 : Int32)))).1 ?_
      refine own_aload X111h hx 293 (hb hby at_291) rfl rfl ?_
      refine own_iconst X111h hx 294 (1 : Int32) (hb hby at_293) rfl ?_
      refine own_iload X111h hx 296 (hb hby at_294) rfl ?_
      refine own_iload X111h hx 298 (hb hby at_296) rfl ?_
      refine own_iload X111h hx 300 (hb hby at_298) rfl ?_
      obtain ⟨_, _, ⟨T112, Lx112, kc112, nc112⟩, -, X112, ⟨Lc112, hQ112, lq112, yq112, zq112⟩, st112⟩ := Jvm.LawKit.callS X111h hx (y := (⟨"com/example/deltalog/deltalog/ColumnTypeWriteIntPinLaw", "kept", "([BIIIB)Z"⟩ : MethodName)) hown (mvT hZ (hw _ (List.mem_of_getElem? (i := 8) rfl))) (mvT hZ (hw _ (List.mem_of_getElem? (i := 9) rfl))) (mvT hZ (hw _ (List.mem_of_getElem? (i := 10) rfl))) (mvT hZ (hw _ (List.mem_of_getElem? (i := 11) rfl))) (by decide) (backOf (W := 0) (own_rm2 l Z a0 hw [] b1 (1 : Int32) aa (aa + len_52) ff k1 gg_52 T52.heap n0 Z53 G52_0 (by decide : (¬ (1 : Int32) < 0 ∧ (1 : Int32) < (24 : Int32)) ∧ (1 : Int32).toNatClampNeg < 24) (own_keep ha P52_1 P52_0 P52_2 (1 : Int32) (by decide) : (1 : Int32) < aa ∨ ¬ ((1 : Int32) < (aa + len_52)) → gg_52 (1 : Int32).toNatClampNeg = ff)) hZ (hw _ (List.mem_of_getElem? (i := 11) rfl)) (hw _ (List.mem_of_getElem? (i := 10) rfl)) (by decide) (by decide)) (g := (mkF m 300 #[.val (.long q1), .second, .val (.int v2), .val (.int v3), .val (.int v4), .val (.long qq), .second, .val (.int aa), .val (.int ff), .val (.ref b1), .val (.int (aa + len_52)), .val (.int (0 : Int32)), .val (.int aa), .unset, .unset, .unset] [(.int ff), (.int (aa + len_52)), (.int aa), (.int (1 : Int32)), (.ref b1)])) rfl (by rw [hml]; rfl) (argsL := [(.ref b1), (.int (1 : Int32)), (.int aa), (.int (aa + len_52)), (.int ff)]) (rest := []) (lenOf own_pd2 rfl) rfl (by show 2 * 0 + _ ≤ _; exact Nat.le_of_eq rfl) (hb hby at_300) (fun _ _ => ⟨rfl, eh111, (by decide : 1 + 0 ≤ _), (by decide : 24 + 0 ≤ _)⟩)
      dsimp only [Pt.U, Pt.locs, Pt.cells, Pt.slots] at X112 lq112 yq112 zq112 st112 hQ112
      subst lq112 yq112 zq112
      obtain ⟨rfl, Nq112, eh112⟩ := hQ112
      have N112 := Fr.app N111h Nq112
      refine own_st (G' := T112.setTop (mkF m 303 #[.val (.long q1), .second, .val (.int v2), .val (.int v3), .val (.int v4), .val (.long qq), .second, .val (.int aa), .val (.int ff), .val (.ref b1), .val (.int (aa + len_52)), .val (.int (0 : Int32)), .val (.int aa), .unset, .unset, .unset] [(.int (1 : Int32))])) st112 ?_
      obtain ⟨_, X112h, N112h⟩ := own_hide X112 N112
      refine own_ifNo X112h hx 306 (hb hby at_303) (feq (by decide : ¬ ((1 : Int32) = (0 : Int32)))).1 ?_
      refine own_aload X112h hx 308 (hb hby at_306) rfl rfl ?_
      refine own_iconst X112h hx 309 (2 : Int32) (hb hby at_308) rfl ?_
      refine own_iload X112h hx 311 (hb hby at_309) rfl ?_
      refine own_iload X112h hx 313 (hb hby at_311) rfl ?_
      refine own_iload X112h hx 315 (hb hby at_313) rfl ?_
      obtain ⟨_, _, ⟨T113, Lx113, kc113, nc113⟩, -, X113, ⟨Lc113, hQ113, lq113, yq113, zq113⟩, st113⟩ := Jvm.LawKit.callS X112h hx (y := (⟨"com/example/deltalog/deltalog/ColumnTypeWriteIntPinLaw", "kept", "([BIIIB)Z"⟩ : MethodName)) hown (mvT hZ (hw _ (List.mem_of_getElem? (i := 8) rfl))) (mvT hZ (hw _ (List.mem_of_getElem? (i := 9) rfl))) (mvT hZ (hw _ (List.mem_of_getElem? (i := 10) rfl))) (mvT hZ (hw _ (List.mem_of_getElem? (i := 11) rfl))) (by decide) (backOf (W := 0) (own_rm2 l Z a0 hw [] b1 (2 : Int32) aa (aa + len_52) ff k1 gg_52 T52.heap n0 Z53 G52_0 (by decide : (¬ (2 : Int32) < 0 ∧ (2 : Int32) < (24 : Int32)) ∧ (2 : Int32).toNatClampNeg < 24) (own_keep ha P52_1 P52_0 P52_2 (2 : Int32) (by decide) : (2 : Int32) < aa ∨ ¬ ((2 : Int32) < (aa + len_52)) → gg_52 (2 : Int32).toNatClampNeg = ff)) hZ (hw _ (List.mem_of_getElem? (i := 11) rfl)) (hw _ (List.mem_of_getElem? (i := 10) rfl)) (by decide) (by decide)) (g := (mkF m 315 #[.val (.long q1), .second, .val (.int v2), .val (.int v3), .val (.int v4), .val (.long qq), .second, .val (.int aa), .val (.int ff), .val (.ref b1), .val (.int (aa + len_52)), .val (.int (0 : Int32)), .val (.int aa), .unset, .unset, .unset] [(.int ff), (.int (aa + len_52)), (.int aa), (.int (2 : Int32)), (.ref b1)])) rfl (by rw [hml]; rfl) (argsL := [(.ref b1), (.int (2 : Int32)), (.int aa), (.int (aa + len_52)), (.int ff)]) (rest := []) (lenOf own_pd2 rfl) rfl (by show 2 * 0 + _ ≤ _; exact Nat.le_of_eq rfl) (hb hby at_315) (fun _ _ => ⟨rfl, eh112, (by decide : 1 + 0 ≤ _), (by decide : 24 + 0 ≤ _)⟩)
      dsimp only [Pt.U, Pt.locs, Pt.cells, Pt.slots] at X113 lq113 yq113 zq113 st113 hQ113
      subst lq113 yq113 zq113
      obtain ⟨rfl, Nq113, eh113⟩ := hQ113
      have N113 := Fr.app N112h Nq113
      refine own_st (G' := T113.setTop (mkF m 318 #[.val (.long q1), .second, .val (.int v2), .val (.int v3), .val (.int v4), .val (.long qq), .second, .val (.int aa), .val (.int ff), .val (.ref b1), .val (.int (aa + len_52)), .val (.int (0 : Int32)), .val (.int aa), .unset, .unset, .unset] [(.int (1 : Int32))])) st113 ?_
      obtain ⟨_, X113h, N113h⟩ := own_hide X113 N113
      refine own_ifNo X113h hx 321 (hb hby at_318) (feq (by decide : ¬ ((1 : Int32) = (0 : Int32)))).1 ?_
      refine own_aload X113h hx 323 (hb hby at_321) rfl rfl ?_
      refine own_iconst X113h hx 324 (3 : Int32) (hb hby at_323) rfl ?_
      refine own_iload X113h hx 326 (hb hby at_324) rfl ?_
      refine own_iload X113h hx 328 (hb hby at_326) rfl ?_
      refine own_iload X113h hx 330 (hb hby at_328) rfl ?_
      obtain ⟨_, _, ⟨T114, Lx114, kc114, nc114⟩, -, X114, ⟨Lc114, hQ114, lq114, yq114, zq114⟩, st114⟩ := Jvm.LawKit.callS X113h hx (y := (⟨"com/example/deltalog/deltalog/ColumnTypeWriteIntPinLaw", "kept", "([BIIIB)Z"⟩ : MethodName)) hown (mvT hZ (hw _ (List.mem_of_getElem? (i := 8) rfl))) (mvT hZ (hw _ (List.mem_of_getElem? (i := 9) rfl))) (mvT hZ (hw _ (List.mem_of_getElem? (i := 10) rfl))) (mvT hZ (hw _ (List.mem_of_getElem? (i := 11) rfl))) (by decide) (backOf (W := 0) (own_rm2 l Z a0 hw [] b1 (3 : Int32) aa (aa + len_52) ff k1 gg_52 T52.heap n0 Z53 G52_0 (by decide : (¬ (3 : Int32) < 0 ∧ (3 : Int32) < (24 : Int32)) ∧ (3 : Int32).toNatClampNeg < 24) (own_keep ha P52_1 P52_0 P52_2 (3 : Int32) (by decide) : (3 : Int32) < aa ∨ ¬ ((3 : Int32) < (aa + len_52)) → gg_52 (3 : Int32).toNatClampNeg = ff)) hZ (hw _ (List.mem_of_getElem? (i := 11) rfl)) (hw _ (List.mem_of_getElem? (i := 10) rfl)) (by decide) (by decide)) (g := (mkF m 330 #[.val (.long q1), .second, .val (.int v2), .val (.int v3), .val (.int v4), .val (.long qq), .second, .val (.int aa), .val (.int ff), .val (.ref b1), .val (.int (aa + len_52)), .val (.int (0 : Int32)), .val (.int aa), .unset, .unset, .unset] [(.int ff), (.int (aa + len_52)), (.int aa), (.int (3 : Int32)), (.ref b1)])) rfl (by rw [hml]; rfl) (argsL := [(.ref b1), (.int (3 : Int32)), (.int aa), (.int (aa + len_52)), (.int ff)]) (rest := []) (lenOf own_pd2 rfl) rfl (by show 2 * 0 + _ ≤ _; exact Nat.le_of_eq rfl) (hb hby at_330) (fun _ _ => ⟨rfl, eh113, (by decide : 1 + 0 ≤ _), (by decide : 24 + 0 ≤ _)⟩)
      dsimp only [Pt.U, Pt.locs, Pt.cells, Pt.slots] at X114 lq114 yq114 zq114 st114 hQ114
      subst lq114 yq114 zq114
      obtain ⟨rfl, Nq114, eh114⟩ := hQ114
      have N114 := Fr.app N113h Nq114
      refine own_st (G' := T114.setTop (mkF m 333 #[.val (.long q1), .second, .val (.int v2), .val (.int v3), .val (.int v4), .val (.long qq), .second, .val (.int aa), .val (.int ff), .val (.ref b1), .val (.int (aa + len_52)), .val (.int (0 : Int32)), .val (.int aa), .unset, .unset, .unset] [(.int (1 : Int32))])) st114 ?_
      obtain ⟨_, X114h, N114h⟩ := own_hide X114 N114
      refine own_ifNo X114h hx 336 (hb hby at_333) (feq (by decide : ¬ ((1 : Int32) = (0 : Int32)))).1 ?_
      refine own_aload X114h hx 338 (hb hby at_336) rfl rfl ?_
      refine own_iconst X114h hx 339 (4 : Int32) (hb hby at_338) rfl ?_
      refine own_iload X114h hx 341 (hb hby at_339) rfl ?_
      refine own_iload X114h hx 343 (hb hby at_341) rfl ?_
      refine own_iload X114h hx 345 (hb hby at_343) rfl ?_
      obtain ⟨_, _, ⟨T115, Lx115, kc115, nc115⟩, -, X115, ⟨Lc115, hQ115, lq115, yq115, zq115⟩, st115⟩ := Jvm.LawKit.callS X114h hx (y := (⟨"com/example/deltalog/deltalog/ColumnTypeWriteIntPinLaw", "kept", "([BIIIB)Z"⟩ : MethodName)) hown (mvT hZ (hw _ (List.mem_of_getElem? (i := 8) rfl))) (mvT hZ (hw _ (List.mem_of_getElem? (i := 9) rfl))) (mvT hZ (hw _ (List.mem_of_getElem? (i := 10) rfl))) (mvT hZ (hw _ (List.mem_of_getElem? (i := 11) rfl))) (by decide) (backOf (W := 0) (own_rm2 l Z a0 hw [] b1 (4 : Int32) aa (aa + len_52) ff k1 gg_52 T52.heap n0 Z53 G52_0 (by decide : (¬ (4 : Int32) < 0 ∧ (4 : Int32) < (24 : Int32)) ∧ (4 : Int32).toNatClampNeg < 24) (own_keep ha P52_1 P52_0 P52_2 (4 : Int32) (by decide) : (4 : Int32) < aa ∨ ¬ ((4 : Int32) < (aa + len_52)) → gg_52 (4 : Int32).toNatClampNeg = ff)) hZ (hw _ (List.mem_of_getElem? (i := 11) rfl)) (hw _ (List.mem_of_getElem? (i := 10) rfl)) (by decide) (by decide)) (g := (mkF m 345 #[.val (.long q1), .second, .val (.int v2), .val (.int v3), .val (.int v4), .val (.long qq), .second, .val (.int aa), .val (.int ff), .val (.ref b1), .val (.int (aa + len_52)), .val (.int (0 : Int32)), .val (.int aa), .unset, .unset, .unset] [(.int ff), (.int (aa + len_52)), (.int aa), (.int (4 : Int32)), (.ref b1)])) rfl (by rw [hml]; rfl) (argsL := [(.ref b1), (.int (4 : Int32)), (.int aa), (.int (aa + len_52)), (.int ff)]) (rest := []) (lenOf own_pd2 rfl) rfl (by show 2 * 0 + _ ≤ _; exact Nat.le_of_eq rfl) (hb hby at_345) (fun _ _ => ⟨rfl, eh114, (by decide : 1 + 0 ≤ _), (by decide : 24 + 0 ≤ _)⟩)
      dsimp only [Pt.U, Pt.locs, Pt.cells, Pt.slots] at X115 lq115 yq115 zq115 st115 hQ115
      subst lq115 yq115 zq115
      obtain ⟨rfl, Nq115, eh115⟩ := hQ115
      have N115 := Fr.app N114h Nq115
      refine own_st (G' := T115.setTop (mkF m 348 #[.val (.long q1), .second, .val (.int v2), .val (.int v3), .val (.int v4), .val (.long qq), .second, .val (.int aa), .val (.int ff), .val (.ref b1), .val (.int (aa + len_52)), .val (.int (0 : Int32)), .val (.int aa), .unset, .unset, .unset] [(.int (1 : Int32))])) st115 ?_
      obtain ⟨_, X115h, N115h⟩ := own_hide X115 N115
      refine own_ifNo X115h hx 351 (hb hby at_348) (feq (by decide : ¬ ((1 : Int32) = (0 : Int32)))).1 ?_
      refine own_aload X115h hx 353 (hb hby at_351) rfl rfl ?_
      refine own_iconst X115h hx 354 (5 : Int32) (hb hby at_353) rfl ?_
      refine own_iload X115h hx 356 (hb hby at_354) rfl ?_
      refine own_iload X115h hx 358 (hb hby at_356) rfl ?_
      refine own_iload X115h hx 360 (hb hby at_358) rfl ?_
      obtain ⟨_, _, ⟨T116, Lx116, kc116, nc116⟩, -, X116, ⟨Lc116, hQ116, lq116, yq116, zq116⟩, st116⟩ := Jvm.LawKit.callS X115h hx (y := (⟨"com/example/deltalog/deltalog/ColumnTypeWriteIntPinLaw", "kept", "([BIIIB)Z"⟩ : MethodName)) hown (mvT hZ (hw _ (List.mem_of_getElem? (i := 8) rfl))) (mvT hZ (hw _ (List.mem_of_getElem? (i := 9) rfl))) (mvT hZ (hw _ (List.mem_of_getElem? (i := 10) rfl))) (mvT hZ (hw _ (List.mem_of_getElem? (i := 11) rfl))) (by decide) (backOf (W := 0) (own_rm2 l Z a0 hw [] b1 (5 : Int32) aa (aa + len_52) ff k1 gg_52 T52.heap n0 Z53 G52_0 (by decide : (¬ (5 : Int32) < 0 ∧ (5 : Int32) < (24 : Int32)) ∧ (5 : Int32).toNatClampNeg < 24) (own_keep ha P52_1 P52_0 P52_2 (5 : Int32) (by decide) : (5 : Int32) < aa ∨ ¬ ((5 : Int32) < (aa + len_52)) → gg_52 (5 : Int32).toNatClampNeg = ff)) hZ (hw _ (List.mem_of_getElem? (i := 11) rfl)) (hw _ (List.mem_of_getElem? (i := 10) rfl)) (by decide) (by decide)) (g := (mkF m 360 #[.val (.long q1), .second, .val (.int v2), .val (.int v3), .val (.int v4), .val (.long qq), .second, .val (.int aa), .val (.int ff), .val (.ref b1), .val (.int (aa + len_52)), .val (.int (0 : Int32)), .val (.int aa), .unset, .unset, .unset] [(.int ff), (.int (aa + len_52)), (.int aa), (.int (5 : Int32)), (.ref b1)])) rfl (by rw [hml]; rfl) (argsL := [(.ref b1), (.int (5 : Int32)), (.int aa), (.int (aa + len_52)), (.int ff)]) (rest := []) (lenOf own_pd2 rfl) rfl (by show 2 * 0 + _ ≤ _; exact Nat.le_of_eq rfl) (hb hby at_360) (fun _ _ => ⟨rfl, eh115, (by decide : 1 + 0 ≤ _), (by decide : 24 + 0 ≤ _)⟩)
      dsimp only [Pt.U, Pt.locs, Pt.cells, Pt.slots] at X116 lq116 yq116 zq116 st116 hQ116
      subst lq116 yq116 zq116
      obtain ⟨rfl, Nq116, eh116⟩ := hQ116
      have N116 := Fr.app N115h Nq116
      refine own_st (G' := T116.setTop (mkF m 363 #[.val (.long q1), .second, .val (.int v2), .val (.int v3), .val (.int v4), .val (.long qq), .second, .val (.int aa), .val (.int ff), .val (.ref b1), .val (.int (aa + len_52)), .val (.int (0 : Int32)), .val (.int aa), .unset, .unset, .unset] [(.int (1 : Int32))])) st116 ?_
      obtain ⟨_, X116h, N116h⟩ := own_hide X116 N116
      refine own_ifNo X116h hx 366 (hb hby at_363) (feq (by decide : ¬ ((1 : Int32) = (0 : Int32)))).1 ?_
      refine own_aload X116h hx 368 (hb hby at_366) rfl rfl ?_
      refine own_bipush X116h hx 370 (6 : Int32) (hb hby at_368) rfl ?_
      refine own_iload X116h hx 372 (hb hby at_370) rfl ?_
      refine own_iload X116h hx 374 (hb hby at_372) rfl ?_
      refine own_iload X116h hx 376 (hb hby at_374) rfl ?_
      obtain ⟨_, _, ⟨T117, Lx117, kc117, nc117⟩, -, X117, ⟨Lc117, hQ117, lq117, yq117, zq117⟩, st117⟩ := Jvm.LawKit.callS X116h hx (y := (⟨"com/example/deltalog/deltalog/ColumnTypeWriteIntPinLaw", "kept", "([BIIIB)Z"⟩ : MethodName)) hown (mvT hZ (hw _ (List.mem_of_getElem? (i := 8) rfl))) (mvT hZ (hw _ (List.mem_of_getElem? (i := 9) rfl))) (mvT hZ (hw _ (List.mem_of_getElem? (i := 10) rfl))) (mvT hZ (hw _ (List.mem_of_getElem? (i := 11) rfl))) (by decide) (backOf (W := 0) (own_rm2 l Z a0 hw [] b1 (6 : Int32) aa (aa + len_52) ff k1 gg_52 T52.heap n0 Z53 G52_0 (by decide : (¬ (6 : Int32) < 0 ∧ (6 : Int32) < (24 : Int32)) ∧ (6 : Int32).toNatClampNeg < 24) (own_keep ha P52_1 P52_0 P52_2 (6 : Int32) (by decide) : (6 : Int32) < aa ∨ ¬ ((6 : Int32) < (aa + len_52)) → gg_52 (6 : Int32).toNatClampNeg = ff)) hZ (hw _ (List.mem_of_getElem? (i := 11) rfl)) (hw _ (List.mem_of_getElem? (i := 10) rfl)) (by decide) (by decide)) (g := (mkF m 376 #[.val (.long q1), .second, .val (.int v2), .val (.int v3), .val (.int v4), .val (.long qq), .second, .val (.int aa), .val (.int ff), .val (.ref b1), .val (.int (aa + len_52)), .val (.int (0 : Int32)), .val (.int aa), .unset, .unset, .unset] [(.int ff), (.int (aa + len_52)), (.int aa), (.int (6 : Int32)), (.ref b1)])) rfl (by rw [hml]; rfl) (argsL := [(.ref b1), (.int (6 : Int32)), (.int aa), (.int (aa + len_52)), (.int ff)]) (rest := []) (lenOf own_pd2 rfl) rfl (by show 2 * 0 + _ ≤ _; exact Nat.le_of_eq rfl) (hb hby at_376) (fun _ _ => ⟨rfl, eh116, (by decide : 1 + 0 ≤ _), (by decide : 24 + 0 ≤ _)⟩)
      dsimp only [Pt.U, Pt.locs, Pt.cells, Pt.slots] at X117 lq117 yq117 zq117 st117 hQ117
      subst lq117 yq117 zq117
      obtain ⟨rfl, Nq117, eh117⟩ := hQ117
      have N117 := Fr.app N116h Nq117
      refine own_st (G' := T117.setTop (mkF m 379 #[.val (.long q1), .second, .val (.int v2), .val (.int v3), .val (.int v4), .val (.long qq), .second, .val (.int aa), .val (.int ff), .val (.ref b1), .val (.int (aa + len_52)), .val (.int (0 : Int32)), .val (.int aa), .unset, .unset, .unset] [(.int (1 : Int32))])) st117 ?_
      obtain ⟨_, X117h, N117h⟩ := own_hide X117 N117
      refine own_ifNo X117h hx 382 (hb hby at_379) (feq (by decide : ¬ ((1 : Int32) = (0 : Int32)))).1 ?_
      refine own_aload X117h hx 384 (hb hby at_382) rfl rfl ?_
      refine own_bipush X117h hx 386 (7 : Int32) (hb hby at_384) rfl ?_
      refine own_iload X117h hx 388 (hb hby at_386) rfl ?_
      refine own_iload X117h hx 390 (hb hby at_388) rfl ?_
      refine own_iload X117h hx 392 (hb hby at_390) rfl ?_
      obtain ⟨_, _, ⟨T118, Lx118, kc118, nc118⟩, -, X118, ⟨Lc118, hQ118, lq118, yq118, zq118⟩, st118⟩ := Jvm.LawKit.callS X117h hx (y := (⟨"com/example/deltalog/deltalog/ColumnTypeWriteIntPinLaw", "kept", "([BIIIB)Z"⟩ : MethodName)) hown (mvT hZ (hw _ (List.mem_of_getElem? (i := 8) rfl))) (mvT hZ (hw _ (List.mem_of_getElem? (i := 9) rfl))) (mvT hZ (hw _ (List.mem_of_getElem? (i := 10) rfl))) (mvT hZ (hw _ (List.mem_of_getElem? (i := 11) rfl))) (by decide) (backOf (W := 0) (own_rm2 l Z a0 hw [] b1 (7 : Int32) aa (aa + len_52) ff k1 gg_52 T52.heap n0 Z53 G52_0 (by decide : (¬ (7 : Int32) < 0 ∧ (7 : Int32) < (24 : Int32)) ∧ (7 : Int32).toNatClampNeg < 24) (own_keep ha P52_1 P52_0 P52_2 (7 : Int32) (by decide) : (7 : Int32) < aa ∨ ¬ ((7 : Int32) < (aa + len_52)) → gg_52 (7 : Int32).toNatClampNeg = ff)) hZ (hw _ (List.mem_of_getElem? (i := 11) rfl)) (hw _ (List.mem_of_getElem? (i := 10) rfl)) (by decide) (by decide)) (g := (mkF m 392 #[.val (.long q1), .second, .val (.int v2), .val (.int v3), .val (.int v4), .val (.long qq), .second, .val (.int aa), .val (.int ff), .val (.ref b1), .val (.int (aa + len_52)), .val (.int (0 : Int32)), .val (.int aa), .unset, .unset, .unset] [(.int ff), (.int (aa + len_52)), (.int aa), (.int (7 : Int32)), (.ref b1)])) rfl (by rw [hml]; rfl) (argsL := [(.ref b1), (.int (7 : Int32)), (.int aa), (.int (aa + len_52)), (.int ff)]) (rest := []) (lenOf own_pd2 rfl) rfl (by show 2 * 0 + _ ≤ _; exact Nat.le_of_eq rfl) (hb hby at_392) (fun _ _ => ⟨rfl, eh117, (by decide : 1 + 0 ≤ _), (by decide : 24 + 0 ≤ _)⟩)
      dsimp only [Pt.U, Pt.locs, Pt.cells, Pt.slots] at X118 lq118 yq118 zq118 st118 hQ118
      subst lq118 yq118 zq118
      obtain ⟨rfl, Nq118, eh118⟩ := hQ118
      have N118 := Fr.app N117h Nq118
      refine own_st (G' := T118.setTop (mkF m 395 #[.val (.long q1), .second, .val (.int v2), .val (.int v3), .val (.int v4), .val (.long qq), .second, .val (.int aa), .val (.int ff), .val (.ref b1), .val (.int (aa + len_52)), .val (.int (0 : Int32)), .val (.int aa), .unset, .unset, .unset] [(.int (1 : Int32))])) st118 ?_
      obtain ⟨_, X118h, N118h⟩ := own_hide X118 N118
      refine own_ifNo X118h hx 398 (hb hby at_395) (feq (by decide : ¬ ((1 : Int32) = (0 : Int32)))).1 ?_
      refine own_aload X118h hx 400 (hb hby at_398) rfl rfl ?_
      refine own_bipush X118h hx 402 (8 : Int32) (hb hby at_400) rfl ?_
      refine own_iload X118h hx 404 (hb hby at_402) rfl ?_
      refine own_iload X118h hx 406 (hb hby at_404) rfl ?_
      refine own_iload X118h hx 408 (hb hby at_406) rfl ?_
      obtain ⟨_, _, ⟨T119, Lx119, kc119, nc119⟩, -, X119, ⟨Lc119, hQ119, lq119, yq119, zq119⟩, st119⟩ := Jvm.LawKit.callS X118h hx (y := (⟨"com/example/deltalog/deltalog/ColumnTypeWriteIntPinLaw", "kept", "([BIIIB)Z"⟩ : MethodName)) hown (mvT hZ (hw _ (List.mem_of_getElem? (i := 8) rfl))) (mvT hZ (hw _ (List.mem_of_getElem? (i := 9) rfl))) (mvT hZ (hw _ (List.mem_of_getElem? (i := 10) rfl))) (mvT hZ (hw _ (List.mem_of_getElem? (i := 11) rfl))) (by decide) (backOf (W := 0) (own_rm2 l Z a0 hw [] b1 (8 : Int32) aa (aa + len_52) ff k1 gg_52 T52.heap n0 Z53 G52_0 (by decide : (¬ (8 : Int32) < 0 ∧ (8 : Int32) < (24 : Int32)) ∧ (8 : Int32).toNatClampNeg < 24) (own_keep ha P52_1 P52_0 P52_2 (8 : Int32) (by decide) : (8 : Int32) < aa ∨ ¬ ((8 : Int32) < (aa + len_52)) → gg_52 (8 : Int32).toNatClampNeg = ff)) hZ (hw _ (List.mem_of_getElem? (i := 11) rfl)) (hw _ (List.mem_of_getElem? (i := 10) rfl)) (by decide) (by decide)) (g := (mkF m 408 #[.val (.long q1), .second, .val (.int v2), .val (.int v3), .val (.int v4), .val (.long qq), .second, .val (.int aa), .val (.int ff), .val (.ref b1), .val (.int (aa + len_52)), .val (.int (0 : Int32)), .val (.int aa), .unset, .unset, .unset] [(.int ff), (.int (aa + len_52)), (.int aa), (.int (8 : Int32)), (.ref b1)])) rfl (by rw [hml]; rfl) (argsL := [(.ref b1), (.int (8 : Int32)), (.int aa), (.int (aa + len_52)), (.int ff)]) (rest := []) (lenOf own_pd2 rfl) rfl (by show 2 * 0 + _ ≤ _; exact Nat.le_of_eq rfl) (hb hby at_408) (fun _ _ => ⟨rfl, eh118, (by decide : 1 + 0 ≤ _), (by decide : 24 + 0 ≤ _)⟩)
      dsimp only [Pt.U, Pt.locs, Pt.cells, Pt.slots] at X119 lq119 yq119 zq119 st119 hQ119
      subst lq119 yq119 zq119
      obtain ⟨rfl, Nq119, eh119⟩ := hQ119
      have N119 := Fr.app N118h Nq119
      refine own_st (G' := T119.setTop (mkF m 411 #[.val (.long q1), .second, .val (.int v2), .val (.int v3), .val (.int v4), .val (.long qq), .second, .val (.int aa), .val (.int ff), .val (.ref b1), .val (.int (aa + len_52)), .val (.int (0 : Int32)), .val (.int aa), .unset, .unset, .unset] [(.int (1 : Int32))])) st119 ?_
      obtain ⟨_, X119h, N119h⟩ := own_hide X119 N119
      refine own_ifNo X119h hx 414 (hb hby at_411) (feq (by decide : ¬ ((1 : Int32) = (0 : Int32)))).1 ?_
      refine own_aload X119h hx 416 (hb hby at_414) rfl rfl ?_
      refine own_bipush X119h hx 418 (9 : Int32) (hb hby at_416) rfl ?_
      refine own_iload X119h hx 420 (hb hby at_418) rfl ?_
      refine own_iload X119h hx 422 (hb hby at_420) rfl ?_
      refine own_iload X119h hx 424 (hb hby at_422) rfl ?_
      obtain ⟨_, _, ⟨T120, Lx120, kc120, nc120⟩, -, X120, ⟨Lc120, hQ120, lq120, yq120, zq120⟩, st120⟩ := Jvm.LawKit.callS X119h hx (y := (⟨"com/example/deltalog/deltalog/ColumnTypeWriteIntPinLaw", "kept", "([BIIIB)Z"⟩ : MethodName)) hown (mvT hZ (hw _ (List.mem_of_getElem? (i := 8) rfl))) (mvT hZ (hw _ (List.mem_of_getElem? (i := 9) rfl))) (mvT hZ (hw _ (List.mem_of_getElem? (i := 10) rfl))) (mvT hZ (hw _ (List.mem_of_getElem? (i := 11) rfl))) (by decide) (backOf (W := 0) (own_rm2 l Z a0 hw [] b1 (9 : Int32) aa (aa + len_52) ff k1 gg_52 T52.heap n0 Z53 G52_0 (by decide : (¬ (9 : Int32) < 0 ∧ (9 : Int32) < (24 : Int32)) ∧ (9 : Int32).toNatClampNeg < 24) (own_keep ha P52_1 P52_0 P52_2 (9 : Int32) (by decide) : (9 : Int32) < aa ∨ ¬ ((9 : Int32) < (aa + len_52)) → gg_52 (9 : Int32).toNatClampNeg = ff)) hZ (hw _ (List.mem_of_getElem? (i := 11) rfl)) (hw _ (List.mem_of_getElem? (i := 10) rfl)) (by decide) (by decide)) (g := (mkF m 424 #[.val (.long q1), .second, .val (.int v2), .val (.int v3), .val (.int v4), .val (.long qq), .second, .val (.int aa), .val (.int ff), .val (.ref b1), .val (.int (aa + len_52)), .val (.int (0 : Int32)), .val (.int aa), .unset, .unset, .unset] [(.int ff), (.int (aa + len_52)), (.int aa), (.int (9 : Int32)), (.ref b1)])) rfl (by rw [hml]; rfl) (argsL := [(.ref b1), (.int (9 : Int32)), (.int aa), (.int (aa + len_52)), (.int ff)]) (rest := []) (lenOf own_pd2 rfl) rfl (by show 2 * 0 + _ ≤ _; exact Nat.le_of_eq rfl) (hb hby at_424) (fun _ _ => ⟨rfl, eh119, (by decide : 1 + 0 ≤ _), (by decide : 24 + 0 ≤ _)⟩)
      dsimp only [Pt.U, Pt.locs, Pt.cells, Pt.slots] at X120 lq120 yq120 zq120 st120 hQ120
      subst lq120 yq120 zq120
      obtain ⟨rfl, Nq120, eh120⟩ := hQ120
      have N120 := Fr.app N119h Nq120
      refine own_st (G' := T120.setTop (mkF m 427 #[.val (.long q1), .second, .val (.int v2), .val (.int v3), .val (.int v4), .val (.long qq), .second, .val (.int aa), .val (.int ff), .val (.ref b1), .val (.int (aa + len_52)), .val (.int (0 : Int32)), .val (.int aa), .unset, .unset, .unset] [(.int (1 : Int32))])) st120 ?_
      obtain ⟨_, X120h, N120h⟩ := own_hide X120 N120
      refine own_ifNo X120h hx 430 (hb hby at_427) (feq (by decide : ¬ ((1 : Int32) = (0 : Int32)))).1 ?_
      refine own_aload X120h hx 432 (hb hby at_430) rfl rfl ?_
      refine own_bipush X120h hx 434 (10 : Int32) (hb hby at_432) rfl ?_
      refine own_iload X120h hx 436 (hb hby at_434) rfl ?_
      refine own_iload X120h hx 438 (hb hby at_436) rfl ?_
      refine own_iload X120h hx 440 (hb hby at_438) rfl ?_
      obtain ⟨_, _, ⟨T121, Lx121, kc121, nc121⟩, -, X121, ⟨Lc121, hQ121, lq121, yq121, zq121⟩, st121⟩ := Jvm.LawKit.callS X120h hx (y := (⟨"com/example/deltalog/deltalog/ColumnTypeWriteIntPinLaw", "kept", "([BIIIB)Z"⟩ : MethodName)) hown (mvT hZ (hw _ (List.mem_of_getElem? (i := 8) rfl))) (mvT hZ (hw _ (List.mem_of_getElem? (i := 9) rfl))) (mvT hZ (hw _ (List.mem_of_getElem? (i := 10) rfl))) (mvT hZ (hw _ (List.mem_of_getElem? (i := 11) rfl))) (by decide) (backOf (W := 0) (own_rm2 l Z a0 hw [] b1 (10 : Int32) aa (aa + len_52) ff k1 gg_52 T52.heap n0 Z53 G52_0 (by decide : (¬ (10 : Int32) < 0 ∧ (10 : Int32) < (24 : Int32)) ∧ (10 : Int32).toNatClampNeg < 24) (own_keep ha P52_1 P52_0 P52_2 (10 : Int32) (by decide) : (10 : Int32) < aa ∨ ¬ ((10 : Int32) < (aa + len_52)) → gg_52 (10 : Int32).toNatClampNeg = ff)) hZ (hw _ (List.mem_of_getElem? (i := 11) rfl)) (hw _ (List.mem_of_getElem? (i := 10) rfl)) (by decide) (by decide)) (g := (mkF m 440 #[.val (.long q1), .second, .val (.int v2), .val (.int v3), .val (.int v4), .val (.long qq), .second, .val (.int aa), .val (.int ff), .val (.ref b1), .val (.int (aa + len_52)), .val (.int (0 : Int32)), .val (.int aa), .unset, .unset, .unset] [(.int ff), (.int (aa + len_52)), (.int aa), (.int (10 : Int32)), (.ref b1)])) rfl (by rw [hml]; rfl) (argsL := [(.ref b1), (.int (10 : Int32)), (.int aa), (.int (aa + len_52)), (.int ff)]) (rest := []) (lenOf own_pd2 rfl) rfl (by show 2 * 0 + _ ≤ _; exact Nat.le_of_eq rfl) (hb hby at_440) (fun _ _ => ⟨rfl, eh120, (by decide : 1 + 0 ≤ _), (by decide : 24 + 0 ≤ _)⟩)
      dsimp only [Pt.U, Pt.locs, Pt.cells, Pt.slots] at X121 lq121 yq121 zq121 st121 hQ121
      subst lq121 yq121 zq121
      obtain ⟨rfl, Nq121, eh121⟩ := hQ121
      have N121 := Fr.app N120h Nq121
      refine own_st (G' := T121.setTop (mkF m 443 #[.val (.long q1), .second, .val (.int v2), .val (.int v3), .val (.int v4), .val (.long qq), .second, .val (.int aa), .val (.int ff), .val (.ref b1), .val (.int (aa + len_52)), .val (.int (0 : Int32)), .val (.int aa), .unset, .unset, .unset] [(.int (1 : Int32))])) st121 ?_
      obtain ⟨_, X121h, N121h⟩ := own_hide X121 N121
      refine own_ifNo X121h hx 446 (hb hby at_443) (feq (by decide : ¬ ((1 : Int32) = (0 : Int32)))).1 ?_
      refine own_aload X121h hx 448 (hb hby at_446) rfl rfl ?_
      refine own_bipush X121h hx 450 (11 : Int32) (hb hby at_448) rfl ?_
      refine own_iload X121h hx 452 (hb hby at_450) rfl ?_
      refine own_iload X121h hx 454 (hb hby at_452) rfl ?_
      refine own_iload X121h hx 456 (hb hby at_454) rfl ?_
      obtain ⟨_, _, ⟨T122, Lx122, kc122, nc122⟩, -, X122, ⟨Lc122, hQ122, lq122, yq122, zq122⟩, st122⟩ := Jvm.LawKit.callS X121h hx (y := (⟨"com/example/deltalog/deltalog/ColumnTypeWriteIntPinLaw", "kept", "([BIIIB)Z"⟩ : MethodName)) hown (mvT hZ (hw _ (List.mem_of_getElem? (i := 8) rfl))) (mvT hZ (hw _ (List.mem_of_getElem? (i := 9) rfl))) (mvT hZ (hw _ (List.mem_of_getElem? (i := 10) rfl))) (mvT hZ (hw _ (List.mem_of_getElem? (i := 11) rfl))) (by decide) (backOf (W := 0) (own_rm2 l Z a0 hw [] b1 (11 : Int32) aa (aa + len_52) ff k1 gg_52 T52.heap n0 Z53 G52_0 (by decide : (¬ (11 : Int32) < 0 ∧ (11 : Int32) < (24 : Int32)) ∧ (11 : Int32).toNatClampNeg < 24) (own_keep ha P52_1 P52_0 P52_2 (11 : Int32) (by decide) : (11 : Int32) < aa ∨ ¬ ((11 : Int32) < (aa + len_52)) → gg_52 (11 : Int32).toNatClampNeg = ff)) hZ (hw _ (List.mem_of_getElem? (i := 11) rfl)) (hw _ (List.mem_of_getElem? (i := 10) rfl)) (by decide) (by decide)) (g := (mkF m 456 #[.val (.long q1), .second, .val (.int v2), .val (.int v3), .val (.int v4), .val (.long qq), .second, .val (.int aa), .val (.int ff), .val (.ref b1), .val (.int (aa + len_52)), .val (.int (0 : Int32)), .val (.int aa), .unset, .unset, .unset] [(.int ff), (.int (aa + len_52)), (.int aa), (.int (11 : Int32)), (.ref b1)])) rfl (by rw [hml]; rfl) (argsL := [(.ref b1), (.int (11 : Int32)), (.int aa), (.int (aa + len_52)), (.int ff)]) (rest := []) (lenOf own_pd2 rfl) rfl (by show 2 * 0 + _ ≤ _; exact Nat.le_of_eq rfl) (hb hby at_456) (fun _ _ => ⟨rfl, eh121, (by decide : 1 + 0 ≤ _), (by decide : 24 + 0 ≤ _)⟩)
      dsimp only [Pt.U, Pt.locs, Pt.cells, Pt.slots] at X122 lq122 yq122 zq122 st122 hQ122
      subst lq122 yq122 zq122
      obtain ⟨rfl, Nq122, eh122⟩ := hQ122
      have N122 := Fr.app N121h Nq122
      refine own_st (G' := T122.setTop (mkF m 459 #[.val (.long q1), .second, .val (.int v2), .val (.int v3), .val (.int v4), .val (.long qq), .second, .val (.int aa), .val (.int ff), .val (.ref b1), .val (.int (aa + len_52)), .val (.int (0 : Int32)), .val (.int aa), .unset, .unset, .unset] [(.int (1 : Int32))])) st122 ?_
      obtain ⟨_, X122h, N122h⟩ := own_hide X122 N122
      refine own_ifNo X122h hx 462 (hb hby at_459) (feq (by decide : ¬ ((1 : Int32) = (0 : Int32)))).1 ?_
      refine own_aload X122h hx 464 (hb hby at_462) rfl rfl ?_
      refine own_bipush X122h hx 466 (12 : Int32) (hb hby at_464) rfl ?_
      refine own_iload X122h hx 468 (hb hby at_466) rfl ?_
      refine own_iload X122h hx 470 (hb hby at_468) rfl ?_
      refine own_iload X122h hx 472 (hb hby at_470) rfl ?_
      obtain ⟨_, _, ⟨T123, Lx123, kc123, nc123⟩, -, X123, ⟨Lc123, hQ123, lq123, yq123, zq123⟩, st123⟩ := Jvm.LawKit.callS X122h hx (y := (⟨"com/example/deltalog/deltalog/ColumnTypeWriteIntPinLaw", "kept", "([BIIIB)Z"⟩ : MethodName)) hown (mvT hZ (hw _ (List.mem_of_getElem? (i := 8) rfl))) (mvT hZ (hw _ (List.mem_of_getElem? (i := 9) rfl))) (mvT hZ (hw _ (List.mem_of_getElem? (i := 10) rfl))) (mvT hZ (hw _ (List.mem_of_getElem? (i := 11) rfl))) (by decide) (backOf (W := 0) (own_rm2 l Z a0 hw [] b1 (12 : Int32) aa (aa + len_52) ff k1 gg_52 T52.heap n0 Z53 G52_0 (by decide : (¬ (12 : Int32) < 0 ∧ (12 : Int32) < (24 : Int32)) ∧ (12 : Int32).toNatClampNeg < 24) (own_keep ha P52_1 P52_0 P52_2 (12 : Int32) (by decide) : (12 : Int32) < aa ∨ ¬ ((12 : Int32) < (aa + len_52)) → gg_52 (12 : Int32).toNatClampNeg = ff)) hZ (hw _ (List.mem_of_getElem? (i := 11) rfl)) (hw _ (List.mem_of_getElem? (i := 10) rfl)) (by decide) (by decide)) (g := (mkF m 472 #[.val (.long q1), .second, .val (.int v2), .val (.int v3), .val (.int v4), .val (.long qq), .second, .val (.int aa), .val (.int ff), .val (.ref b1), .val (.int (aa + len_52)), .val (.int (0 : Int32)), .val (.int aa), .unset, .unset, .unset] [(.int ff), (.int (aa + len_52)), (.int aa), (.int (12 : Int32)), (.ref b1)])) rfl (by rw [hml]; rfl) (argsL := [(.ref b1), (.int (12 : Int32)), (.int aa), (.int (aa + len_52)), (.int ff)]) (rest := []) (lenOf own_pd2 rfl) rfl (by show 2 * 0 + _ ≤ _; exact Nat.le_of_eq rfl) (hb hby at_472) (fun _ _ => ⟨rfl, eh122, (by decide : 1 + 0 ≤ _), (by decide : 24 + 0 ≤ _)⟩)
      dsimp only [Pt.U, Pt.locs, Pt.cells, Pt.slots] at X123 lq123 yq123 zq123 st123 hQ123
      subst lq123 yq123 zq123
      obtain ⟨rfl, Nq123, eh123⟩ := hQ123
      have N123 := Fr.app N122h Nq123
      refine own_st (G' := T123.setTop (mkF m 475 #[.val (.long q1), .second, .val (.int v2), .val (.int v3), .val (.int v4), .val (.long qq), .second, .val (.int aa), .val (.int ff), .val (.ref b1), .val (.int (aa + len_52)), .val (.int (0 : Int32)), .val (.int aa), .unset, .unset, .unset] [(.int (1 : Int32))])) st123 ?_
      obtain ⟨_, X123h, N123h⟩ := own_hide X123 N123
      refine own_ifNo X123h hx 478 (hb hby at_475) (feq (by decide : ¬ ((1 : Int32) = (0 : Int32)))).1 ?_
      refine own_aload X123h hx 480 (hb hby at_478) rfl rfl ?_
      refine own_bipush X123h hx 482 (13 : Int32) (hb hby at_480) rfl ?_
      refine own_iload X123h hx 484 (hb hby at_482) rfl ?_
      refine own_iload X123h hx 486 (hb hby at_484) rfl ?_
      refine own_iload X123h hx 488 (hb hby at_486) rfl ?_
      obtain ⟨_, _, ⟨T124, Lx124, kc124, nc124⟩, -, X124, ⟨Lc124, hQ124, lq124, yq124, zq124⟩, st124⟩ := Jvm.LawKit.callS X123h hx (y := (⟨"com/example/deltalog/deltalog/ColumnTypeWriteIntPinLaw", "kept", "([BIIIB)Z"⟩ : MethodName)) hown (mvT hZ (hw _ (List.mem_of_getElem? (i := 8) rfl))) (mvT hZ (hw _ (List.mem_of_getElem? (i := 9) rfl))) (mvT hZ (hw _ (List.mem_of_getElem? (i := 10) rfl))) (mvT hZ (hw _ (List.mem_of_getElem? (i := 11) rfl))) (by decide) (backOf (W := 0) (own_rm2 l Z a0 hw [] b1 (13 : Int32) aa (aa + len_52) ff k1 gg_52 T52.heap n0 Z53 G52_0 (by decide : (¬ (13 : Int32) < 0 ∧ (13 : Int32) < (24 : Int32)) ∧ (13 : Int32).toNatClampNeg < 24) (own_keep ha P52_1 P52_0 P52_2 (13 : Int32) (by decide) : (13 : Int32) < aa ∨ ¬ ((13 : Int32) < (aa + len_52)) → gg_52 (13 : Int32).toNatClampNeg = ff)) hZ (hw _ (List.mem_of_getElem? (i := 11) rfl)) (hw _ (List.mem_of_getElem? (i := 10) rfl)) (by decide) (by decide)) (g := (mkF m 488 #[.val (.long q1), .second, .val (.int v2), .val (.int v3), .val (.int v4), .val (.long qq), .second, .val (.int aa), .val (.int ff), .val (.ref b1), .val (.int (aa + len_52)), .val (.int (0 : Int32)), .val (.int aa), .unset, .unset, .unset] [(.int ff), (.int (aa + len_52)), (.int aa), (.int (13 : Int32)), (.ref b1)])) rfl (by rw [hml]; rfl) (argsL := [(.ref b1), (.int (13 : Int32)), (.int aa), (.int (aa + len_52)), (.int ff)]) (rest := []) (lenOf own_pd2 rfl) rfl (by show 2 * 0 + _ ≤ _; exact Nat.le_of_eq rfl) (hb hby at_488) (fun _ _ => ⟨rfl, eh123, (by decide : 1 + 0 ≤ _), (by decide : 24 + 0 ≤ _)⟩)
      dsimp only [Pt.U, Pt.locs, Pt.cells, Pt.slots] at X124 lq124 yq124 zq124 st124 hQ124
      subst lq124 yq124 zq124
      obtain ⟨rfl, Nq124, eh124⟩ := hQ124
      have N124 := Fr.app N123h Nq124
      refine own_st (G' := T124.setTop (mkF m 491 #[.val (.long q1), .second, .val (.int v2), .val (.int v3), .val (.int v4), .val (.long qq), .second, .val (.int aa), .val (.int ff), .val (.ref b1), .val (.int (aa + len_52)), .val (.int (0 : Int32)), .val (.int aa), .unset, .unset, .unset] [(.int (1 : Int32))])) st124 ?_
      obtain ⟨_, X124h, N124h⟩ := own_hide X124 N124
      refine own_ifNo X124h hx 494 (hb hby at_491) (feq (by decide : ¬ ((1 : Int32) = (0 : Int32)))).1 ?_
      refine own_aload X124h hx 496 (hb hby at_494) rfl rfl ?_
      refine own_bipush X124h hx 498 (14 : Int32) (hb hby at_496) rfl ?_
      refine own_iload X124h hx 500 (hb hby at_498) rfl ?_
      refine own_iload X124h hx 502 (hb hby at_500) rfl ?_
      refine own_iload X124h hx 504 (hb hby at_502) rfl ?_
      obtain ⟨_, _, ⟨T125, Lx125, kc125, nc125⟩, -, X125, ⟨Lc125, hQ125, lq125, yq125, zq125⟩, st125⟩ := Jvm.LawKit.callS X124h hx (y := (⟨"com/example/deltalog/deltalog/ColumnTypeWriteIntPinLaw", "kept", "([BIIIB)Z"⟩ : MethodName)) hown (mvT hZ (hw _ (List.mem_of_getElem? (i := 8) rfl))) (mvT hZ (hw _ (List.mem_of_getElem? (i := 9) rfl))) (mvT hZ (hw _ (List.mem_of_getElem? (i := 10) rfl))) (mvT hZ (hw _ (List.mem_of_getElem? (i := 11) rfl))) (by decide) (backOf (W := 0) (own_rm2 l Z a0 hw [] b1 (14 : Int32) aa (aa + len_52) ff k1 gg_52 T52.heap n0 Z53 G52_0 (by decide : (¬ (14 : Int32) < 0 ∧ (14 : Int32) < (24 : Int32)) ∧ (14 : Int32).toNatClampNeg < 24) (own_keep ha P52_1 P52_0 P52_2 (14 : Int32) (by decide) : (14 : Int32) < aa ∨ ¬ ((14 : Int32) < (aa + len_52)) → gg_52 (14 : Int32).toNatClampNeg = ff)) hZ (hw _ (List.mem_of_getElem? (i := 11) rfl)) (hw _ (List.mem_of_getElem? (i := 10) rfl)) (by decide) (by decide)) (g := (mkF m 504 #[.val (.long q1), .second, .val (.int v2), .val (.int v3), .val (.int v4), .val (.long qq), .second, .val (.int aa), .val (.int ff), .val (.ref b1), .val (.int (aa + len_52)), .val (.int (0 : Int32)), .val (.int aa), .unset, .unset, .unset] [(.int ff), (.int (aa + len_52)), (.int aa), (.int (14 : Int32)), (.ref b1)])) rfl (by rw [hml]; rfl) (argsL := [(.ref b1), (.int (14 : Int32)), (.int aa), (.int (aa + len_52)), (.int ff)]) (rest := []) (lenOf own_pd2 rfl) rfl (by show 2 * 0 + _ ≤ _; exact Nat.le_of_eq rfl) (hb hby at_504) (fun _ _ => ⟨rfl, eh124, (by decide : 1 + 0 ≤ _), (by decide : 24 + 0 ≤ _)⟩)
      dsimp only [Pt.U, Pt.locs, Pt.cells, Pt.slots] at X125 lq125 yq125 zq125 st125 hQ125
      subst lq125 yq125 zq125
      obtain ⟨rfl, Nq125, eh125⟩ := hQ125
      have N125 := Fr.app N124h Nq125
      refine own_st (G' := T125.setTop (mkF m 507 #[.val (.long q1), .second, .val (.int v2), .val (.int v3), .val (.int v4), .val (.long qq), .second, .val (.int aa), .val (.int ff), .val (.ref b1), .val (.int (aa + len_52)), .val (.int (0 : Int32)), .val (.int aa), .unset, .unset, .unset] [(.int (1 : Int32))])) st125 ?_
      obtain ⟨_, X125h, N125h⟩ := own_hide X125 N125
      refine own_ifNo X125h hx 510 (hb hby at_507) (feq (by decide : ¬ ((1 : Int32) = (0 : Int32)))).1 ?_
      refine own_aload X125h hx 512 (hb hby at_510) rfl rfl ?_
      refine own_bipush X125h hx 514 (15 : Int32) (hb hby at_512) rfl ?_
      refine own_iload X125h hx 516 (hb hby at_514) rfl ?_
      refine own_iload X125h hx 518 (hb hby at_516) rfl ?_
      refine own_iload X125h hx 520 (hb hby at_518) rfl ?_
      obtain ⟨_, _, ⟨T126, Lx126, kc126, nc126⟩, -, X126, ⟨Lc126, hQ126, lq126, yq126, zq126⟩, st126⟩ := Jvm.LawKit.callS X125h hx (y := (⟨"com/example/deltalog/deltalog/ColumnTypeWriteIntPinLaw", "kept", "([BIIIB)Z"⟩ : MethodName)) hown (mvT hZ (hw _ (List.mem_of_getElem? (i := 8) rfl))) (mvT hZ (hw _ (List.mem_of_getElem? (i := 9) rfl))) (mvT hZ (hw _ (List.mem_of_getElem? (i := 10) rfl))) (mvT hZ (hw _ (List.mem_of_getElem? (i := 11) rfl))) (by decide) (backOf (W := 0) (own_rm2 l Z a0 hw [] b1 (15 : Int32) aa (aa + len_52) ff k1 gg_52 T52.heap n0 Z53 G52_0 (by decide : (¬ (15 : Int32) < 0 ∧ (15 : Int32) < (24 : Int32)) ∧ (15 : Int32).toNatClampNeg < 24) (own_keep ha P52_1 P52_0 P52_2 (15 : Int32) (by decide) : (15 : Int32) < aa ∨ ¬ ((15 : Int32) < (aa + len_52)) → gg_52 (15 : Int32).toNatClampNeg = ff)) hZ (hw _ (List.mem_of_getElem? (i := 11) rfl)) (hw _ (List.mem_of_getElem? (i := 10) rfl)) (by decide) (by decide)) (g := (mkF m 520 #[.val (.long q1), .second, .val (.int v2), .val (.int v3), .val (.int v4), .val (.long qq), .second, .val (.int aa), .val (.int ff), .val (.ref b1), .val (.int (aa + len_52)), .val (.int (0 : Int32)), .val (.int aa), .unset, .unset, .unset] [(.int ff), (.int (aa + len_52)), (.int aa), (.int (15 : Int32)), (.ref b1)])) rfl (by rw [hml]; rfl) (argsL := [(.ref b1), (.int (15 : Int32)), (.int aa), (.int (aa + len_52)), (.int ff)]) (rest := []) (lenOf own_pd2 rfl) rfl (by show 2 * 0 + _ ≤ _; exact Nat.le_of_eq rfl) (hb hby at_520) (fun _ _ => ⟨rfl, eh125, (by decide : 1 + 0 ≤ _), (by decide : 24 + 0 ≤ _)⟩)
      dsimp only [Pt.U, Pt.locs, Pt.cells, Pt.slots] at X126 lq126 yq126 zq126 st126 hQ126
      subst lq126 yq126 zq126
      obtain ⟨rfl, Nq126, eh126⟩ := hQ126
      have N126 := Fr.app N125h Nq126
      refine own_st (G' := T126.setTop (mkF m 523 #[.val (.long q1), .second, .val (.int v2), .val (.int v3), .val (.int v4), .val (.long qq), .second, .val (.int aa), .val (.int ff), .val (.ref b1), .val (.int (aa + len_52)), .val (.int (0 : Int32)), .val (.int aa), .unset, .unset, .unset] [(.int (1 : Int32))])) st126 ?_
      obtain ⟨_, X126h, N126h⟩ := own_hide X126 N126
      refine own_ifNo X126h hx 526 (hb hby at_523) (feq (by decide : ¬ ((1 : Int32) = (0 : Int32)))).1 ?_
      refine own_aload X126h hx 528 (hb hby at_526) rfl rfl ?_
      refine own_bipush X126h hx 530 (16 : Int32) (hb hby at_528) rfl ?_
      refine own_iload X126h hx 532 (hb hby at_530) rfl ?_
      refine own_iload X126h hx 534 (hb hby at_532) rfl ?_
      refine own_iload X126h hx 536 (hb hby at_534) rfl ?_
      obtain ⟨_, _, ⟨T127, Lx127, kc127, nc127⟩, -, X127, ⟨Lc127, hQ127, lq127, yq127, zq127⟩, st127⟩ := Jvm.LawKit.callS X126h hx (y := (⟨"com/example/deltalog/deltalog/ColumnTypeWriteIntPinLaw", "kept", "([BIIIB)Z"⟩ : MethodName)) hown (mvT hZ (hw _ (List.mem_of_getElem? (i := 8) rfl))) (mvT hZ (hw _ (List.mem_of_getElem? (i := 9) rfl))) (mvT hZ (hw _ (List.mem_of_getElem? (i := 10) rfl))) (mvT hZ (hw _ (List.mem_of_getElem? (i := 11) rfl))) (by decide) (backOf (W := 0) (own_rm2 l Z a0 hw [] b1 (16 : Int32) aa (aa + len_52) ff k1 gg_52 T52.heap n0 Z53 G52_0 (by decide : (¬ (16 : Int32) < 0 ∧ (16 : Int32) < (24 : Int32)) ∧ (16 : Int32).toNatClampNeg < 24) (own_keep ha P52_1 P52_0 P52_2 (16 : Int32) (by decide) : (16 : Int32) < aa ∨ ¬ ((16 : Int32) < (aa + len_52)) → gg_52 (16 : Int32).toNatClampNeg = ff)) hZ (hw _ (List.mem_of_getElem? (i := 11) rfl)) (hw _ (List.mem_of_getElem? (i := 10) rfl)) (by decide) (by decide)) (g := (mkF m 536 #[.val (.long q1), .second, .val (.int v2), .val (.int v3), .val (.int v4), .val (.long qq), .second, .val (.int aa), .val (.int ff), .val (.ref b1), .val (.int (aa + len_52)), .val (.int (0 : Int32)), .val (.int aa), .unset, .unset, .unset] [(.int ff), (.int (aa + len_52)), (.int aa), (.int (16 : Int32)), (.ref b1)])) rfl (by rw [hml]; rfl) (argsL := [(.ref b1), (.int (16 : Int32)), (.int aa), (.int (aa + len_52)), (.int ff)]) (rest := []) (lenOf own_pd2 rfl) rfl (by show 2 * 0 + _ ≤ _; exact Nat.le_of_eq rfl) (hb hby at_536) (fun _ _ => ⟨rfl, eh126, (by decide : 1 + 0 ≤ _), (by decide : 24 + 0 ≤ _)⟩)
      dsimp only [Pt.U, Pt.locs, Pt.cells, Pt.slots] at X127 lq127 yq127 zq127 st127 hQ127
      subst lq127 yq127 zq127
      obtain ⟨rfl, Nq127, eh127⟩ := hQ127
      have N127 := Fr.app N126h Nq127
      refine own_st (G' := T127.setTop (mkF m 539 #[.val (.long q1), .second, .val (.int v2), .val (.int v3), .val (.int v4), .val (.long qq), .second, .val (.int aa), .val (.int ff), .val (.ref b1), .val (.int (aa + len_52)), .val (.int (0 : Int32)), .val (.int aa), .unset, .unset, .unset] [(.int (1 : Int32))])) st127 ?_
      obtain ⟨_, X127h, N127h⟩ := own_hide X127 N127
      refine own_ifNo X127h hx 542 (hb hby at_539) (feq (by decide : ¬ ((1 : Int32) = (0 : Int32)))).1 ?_
      refine own_aload X127h hx 544 (hb hby at_542) rfl rfl ?_
      refine own_bipush X127h hx 546 (17 : Int32) (hb hby at_544) rfl ?_
      refine own_iload X127h hx 548 (hb hby at_546) rfl ?_
      refine own_iload X127h hx 550 (hb hby at_548) rfl ?_
      refine own_iload X127h hx 552 (hb hby at_550) rfl ?_
      obtain ⟨_, _, ⟨T128, Lx128, kc128, nc128⟩, -, X128, ⟨Lc128, hQ128, lq128, yq128, zq128⟩, st128⟩ := Jvm.LawKit.callS X127h hx (y := (⟨"com/example/deltalog/deltalog/ColumnTypeWriteIntPinLaw", "kept", "([BIIIB)Z"⟩ : MethodName)) hown (mvT hZ (hw _ (List.mem_of_getElem? (i := 8) rfl))) (mvT hZ (hw _ (List.mem_of_getElem? (i := 9) rfl))) (mvT hZ (hw _ (List.mem_of_getElem? (i := 10) rfl))) (mvT hZ (hw _ (List.mem_of_getElem? (i := 11) rfl))) (by decide) (backOf (W := 0) (own_rm2 l Z a0 hw [] b1 (17 : Int32) aa (aa + len_52) ff k1 gg_52 T52.heap n0 Z53 G52_0 (by decide : (¬ (17 : Int32) < 0 ∧ (17 : Int32) < (24 : Int32)) ∧ (17 : Int32).toNatClampNeg < 24) (own_keep ha P52_1 P52_0 P52_2 (17 : Int32) (by decide) : (17 : Int32) < aa ∨ ¬ ((17 : Int32) < (aa + len_52)) → gg_52 (17 : Int32).toNatClampNeg = ff)) hZ (hw _ (List.mem_of_getElem? (i := 11) rfl)) (hw _ (List.mem_of_getElem? (i := 10) rfl)) (by decide) (by decide)) (g := (mkF m 552 #[.val (.long q1), .second, .val (.int v2), .val (.int v3), .val (.int v4), .val (.long qq), .second, .val (.int aa), .val (.int ff), .val (.ref b1), .val (.int (aa + len_52)), .val (.int (0 : Int32)), .val (.int aa), .unset, .unset, .unset] [(.int ff), (.int (aa + len_52)), (.int aa), (.int (17 : Int32)), (.ref b1)])) rfl (by rw [hml]; rfl) (argsL := [(.ref b1), (.int (17 : Int32)), (.int aa), (.int (aa + len_52)), (.int ff)]) (rest := []) (lenOf own_pd2 rfl) rfl (by show 2 * 0 + _ ≤ _; exact Nat.le_of_eq rfl) (hb hby at_552) (fun _ _ => ⟨rfl, eh127, (by decide : 1 + 0 ≤ _), (by decide : 24 + 0 ≤ _)⟩)
      dsimp only [Pt.U, Pt.locs, Pt.cells, Pt.slots] at X128 lq128 yq128 zq128 st128 hQ128
      subst lq128 yq128 zq128
      obtain ⟨rfl, Nq128, eh128⟩ := hQ128
      have N128 := Fr.app N127h Nq128
      refine own_st (G' := T128.setTop (mkF m 555 #[.val (.long q1), .second, .val (.int v2), .val (.int v3), .val (.int v4), .val (.long qq), .second, .val (.int aa), .val (.int ff), .val (.ref b1), .val (.int (aa + len_52)), .val (.int (0 : Int32)), .val (.int aa), .unset, .unset, .unset] [(.int (1 : Int32))])) st128 ?_
      obtain ⟨_, X128h, N128h⟩ := own_hide X128 N128
      refine own_ifNo X128h hx 558 (hb hby at_555) (feq (by decide : ¬ ((1 : Int32) = (0 : Int32)))).1 ?_
      refine own_aload X128h hx 560 (hb hby at_558) rfl rfl ?_
      refine own_bipush X128h hx 562 (18 : Int32) (hb hby at_560) rfl ?_
      refine own_iload X128h hx 564 (hb hby at_562) rfl ?_
      refine own_iload X128h hx 566 (hb hby at_564) rfl ?_
      refine own_iload X128h hx 568 (hb hby at_566) rfl ?_
      obtain ⟨_, _, ⟨T129, Lx129, kc129, nc129⟩, -, X129, ⟨Lc129, hQ129, lq129, yq129, zq129⟩, st129⟩ := Jvm.LawKit.callS X128h hx (y := (⟨"com/example/deltalog/deltalog/ColumnTypeWriteIntPinLaw", "kept", "([BIIIB)Z"⟩ : MethodName)) hown (mvT hZ (hw _ (List.mem_of_getElem? (i := 8) rfl))) (mvT hZ (hw _ (List.mem_of_getElem? (i := 9) rfl))) (mvT hZ (hw _ (List.mem_of_getElem? (i := 10) rfl))) (mvT hZ (hw _ (List.mem_of_getElem? (i := 11) rfl))) (by decide) (backOf (W := 0) (own_rm2 l Z a0 hw [] b1 (18 : Int32) aa (aa + len_52) ff k1 gg_52 T52.heap n0 Z53 G52_0 (by decide : (¬ (18 : Int32) < 0 ∧ (18 : Int32) < (24 : Int32)) ∧ (18 : Int32).toNatClampNeg < 24) (own_keep ha P52_1 P52_0 P52_2 (18 : Int32) (by decide) : (18 : Int32) < aa ∨ ¬ ((18 : Int32) < (aa + len_52)) → gg_52 (18 : Int32).toNatClampNeg = ff)) hZ (hw _ (List.mem_of_getElem? (i := 11) rfl)) (hw _ (List.mem_of_getElem? (i := 10) rfl)) (by decide) (by decide)) (g := (mkF m 568 #[.val (.long q1), .second, .val (.int v2), .val (.int v3), .val (.int v4), .val (.long qq), .second, .val (.int aa), .val (.int ff), .val (.ref b1), .val (.int (aa + len_52)), .val (.int (0 : Int32)), .val (.int aa), .unset, .unset, .unset] [(.int ff), (.int (aa + len_52)), (.int aa), (.int (18 : Int32)), (.ref b1)])) rfl (by rw [hml]; rfl) (argsL := [(.ref b1), (.int (18 : Int32)), (.int aa), (.int (aa + len_52)), (.int ff)]) (rest := []) (lenOf own_pd2 rfl) rfl (by show 2 * 0 + _ ≤ _; exact Nat.le_of_eq rfl) (hb hby at_568) (fun _ _ => ⟨rfl, eh128, (by decide : 1 + 0 ≤ _), (by decide : 24 + 0 ≤ _)⟩)
      dsimp only [Pt.U, Pt.locs, Pt.cells, Pt.slots] at X129 lq129 yq129 zq129 st129 hQ129
      subst lq129 yq129 zq129
      obtain ⟨rfl, Nq129, eh129⟩ := hQ129
      have N129 := Fr.app N128h Nq129
      refine own_st (G' := T129.setTop (mkF m 571 #[.val (.long q1), .second, .val (.int v2), .val (.int v3), .val (.int v4), .val (.long qq), .second, .val (.int aa), .val (.int ff), .val (.ref b1), .val (.int (aa + len_52)), .val (.int (0 : Int32)), .val (.int aa), .unset, .unset, .unset] [(.int (1 : Int32))])) st129 ?_
      obtain ⟨_, X129h, N129h⟩ := own_hide X129 N129
      refine own_ifNo X129h hx 574 (hb hby at_571) (feq (by decide : ¬ ((1 : Int32) = (0 : Int32)))).1 ?_
      refine own_aload X129h hx 576 (hb hby at_574) rfl rfl ?_
      refine own_bipush X129h hx 578 (19 : Int32) (hb hby at_576) rfl ?_
      refine own_iload X129h hx 580 (hb hby at_578) rfl ?_
      refine own_iload X129h hx 582 (hb hby at_580) rfl ?_
      refine own_iload X129h hx 584 (hb hby at_582) rfl ?_
      obtain ⟨_, _, ⟨T130, Lx130, kc130, nc130⟩, -, X130, ⟨Lc130, hQ130, lq130, yq130, zq130⟩, st130⟩ := Jvm.LawKit.callS X129h hx (y := (⟨"com/example/deltalog/deltalog/ColumnTypeWriteIntPinLaw", "kept", "([BIIIB)Z"⟩ : MethodName)) hown (mvT hZ (hw _ (List.mem_of_getElem? (i := 8) rfl))) (mvT hZ (hw _ (List.mem_of_getElem? (i := 9) rfl))) (mvT hZ (hw _ (List.mem_of_getElem? (i := 10) rfl))) (mvT hZ (hw _ (List.mem_of_getElem? (i := 11) rfl))) (by decide) (backOf (W := 0) (own_rm2 l Z a0 hw [] b1 (19 : Int32) aa (aa + len_52) ff k1 gg_52 T52.heap n0 Z53 G52_0 (by decide : (¬ (19 : Int32) < 0 ∧ (19 : Int32) < (24 : Int32)) ∧ (19 : Int32).toNatClampNeg < 24) (own_keep ha P52_1 P52_0 P52_2 (19 : Int32) (by decide) : (19 : Int32) < aa ∨ ¬ ((19 : Int32) < (aa + len_52)) → gg_52 (19 : Int32).toNatClampNeg = ff)) hZ (hw _ (List.mem_of_getElem? (i := 11) rfl)) (hw _ (List.mem_of_getElem? (i := 10) rfl)) (by decide) (by decide)) (g := (mkF m 584 #[.val (.long q1), .second, .val (.int v2), .val (.int v3), .val (.int v4), .val (.long qq), .second, .val (.int aa), .val (.int ff), .val (.ref b1), .val (.int (aa + len_52)), .val (.int (0 : Int32)), .val (.int aa), .unset, .unset, .unset] [(.int ff), (.int (aa + len_52)), (.int aa), (.int (19 : Int32)), (.ref b1)])) rfl (by rw [hml]; rfl) (argsL := [(.ref b1), (.int (19 : Int32)), (.int aa), (.int (aa + len_52)), (.int ff)]) (rest := []) (lenOf own_pd2 rfl) rfl (by show 2 * 0 + _ ≤ _; exact Nat.le_of_eq rfl) (hb hby at_584) (fun _ _ => ⟨rfl, eh129, (by decide : 1 + 0 ≤ _), (by decide : 24 + 0 ≤ _)⟩)
      dsimp only [Pt.U, Pt.locs, Pt.cells, Pt.slots] at X130 lq130 yq130 zq130 st130 hQ130
      subst lq130 yq130 zq130
      obtain ⟨rfl, Nq130, eh130⟩ := hQ130
      have N130 := Fr.app N129h Nq130
      refine own_st (G' := T130.setTop (mkF m 587 #[.val (.long q1), .second, .val (.int v2), .val (.int v3), .val (.int v4), .val (.long qq), .second, .val (.int aa), .val (.int ff), .val (.ref b1), .val (.int (aa + len_52)), .val (.int (0 : Int32)), .val (.int aa), .unset, .unset, .unset] [(.int (1 : Int32))])) st130 ?_
      obtain ⟨_, X130h, N130h⟩ := own_hide X130 N130
      refine own_ifNo X130h hx 590 (hb hby at_587) (feq (by decide : ¬ ((1 : Int32) = (0 : Int32)))).1 ?_
      refine own_aload X130h hx 592 (hb hby at_590) rfl rfl ?_
      refine own_bipush X130h hx 594 (20 : Int32) (hb hby at_592) rfl ?_
      refine own_iload X130h hx 596 (hb hby at_594) rfl ?_
      refine own_iload X130h hx 598 (hb hby at_596) rfl ?_
      refine own_iload X130h hx 600 (hb hby at_598) rfl ?_
      obtain ⟨_, _, ⟨T131, Lx131, kc131, nc131⟩, -, X131, ⟨Lc131, hQ131, lq131, yq131, zq131⟩, st131⟩ := Jvm.LawKit.callS X130h hx (y := (⟨"com/example/deltalog/deltalog/ColumnTypeWriteIntPinLaw", "kept", "([BIIIB)Z"⟩ : MethodName)) hown (mvT hZ (hw _ (List.mem_of_getElem? (i := 8) rfl))) (mvT hZ (hw _ (List.mem_of_getElem? (i := 9) rfl))) (mvT hZ (hw _ (List.mem_of_getElem? (i := 10) rfl))) (mvT hZ (hw _ (List.mem_of_getElem? (i := 11) rfl))) (by decide) (backOf (W := 0) (own_rm2 l Z a0 hw [] b1 (20 : Int32) aa (aa + len_52) ff k1 gg_52 T52.heap n0 Z53 G52_0 (by decide : (¬ (20 : Int32) < 0 ∧ (20 : Int32) < (24 : Int32)) ∧ (20 : Int32).toNatClampNeg < 24) (own_keep ha P52_1 P52_0 P52_2 (20 : Int32) (by decide) : (20 : Int32) < aa ∨ ¬ ((20 : Int32) < (aa + len_52)) → gg_52 (20 : Int32).toNatClampNeg = ff)) hZ (hw _ (List.mem_of_getElem? (i := 11) rfl)) (hw _ (List.mem_of_getElem? (i := 10) rfl)) (by decide) (by decide)) (g := (mkF m 600 #[.val (.long q1), .second, .val (.int v2), .val (.int v3), .val (.int v4), .val (.long qq), .second, .val (.int aa), .val (.int ff), .val (.ref b1), .val (.int (aa + len_52)), .val (.int (0 : Int32)), .val (.int aa), .unset, .unset, .unset] [(.int ff), (.int (aa + len_52)), (.int aa), (.int (20 : Int32)), (.ref b1)])) rfl (by rw [hml]; rfl) (argsL := [(.ref b1), (.int (20 : Int32)), (.int aa), (.int (aa + len_52)), (.int ff)]) (rest := []) (lenOf own_pd2 rfl) rfl (by show 2 * 0 + _ ≤ _; exact Nat.le_of_eq rfl) (hb hby at_600) (fun _ _ => ⟨rfl, eh130, (by decide : 1 + 0 ≤ _), (by decide : 24 + 0 ≤ _)⟩)
      dsimp only [Pt.U, Pt.locs, Pt.cells, Pt.slots] at X131 lq131 yq131 zq131 st131 hQ131
      subst lq131 yq131 zq131
      obtain ⟨rfl, Nq131, eh131⟩ := hQ131
      have N131 := Fr.app N130h Nq131
      refine own_st (G' := T131.setTop (mkF m 603 #[.val (.long q1), .second, .val (.int v2), .val (.int v3), .val (.int v4), .val (.long qq), .second, .val (.int aa), .val (.int ff), .val (.ref b1), .val (.int (aa + len_52)), .val (.int (0 : Int32)), .val (.int aa), .unset, .unset, .unset] [(.int (1 : Int32))])) st131 ?_
      obtain ⟨_, X131h, N131h⟩ := own_hide X131 N131
      refine own_ifNo X131h hx 606 (hb hby at_603) (feq (by decide : ¬ ((1 : Int32) = (0 : Int32)))).1 ?_
      refine own_aload X131h hx 608 (hb hby at_606) rfl rfl ?_
      refine own_bipush X131h hx 610 (21 : Int32) (hb hby at_608) rfl ?_
      refine own_iload X131h hx 612 (hb hby at_610) rfl ?_
      refine own_iload X131h hx 614 (hb hby at_612) rfl ?_
      refine own_iload X131h hx 616 (hb hby at_614) rfl ?_
      obtain ⟨_, _, ⟨T132, Lx132, kc132, nc132⟩, -, X132, ⟨Lc132, hQ132, lq132, yq132, zq132⟩, st132⟩ := Jvm.LawKit.callS X131h hx (y := (⟨"com/example/deltalog/deltalog/ColumnTypeWriteIntPinLaw", "kept", "([BIIIB)Z"⟩ : MethodName)) hown (mvT hZ (hw _ (List.mem_of_getElem? (i := 8) rfl))) (mvT hZ (hw _ (List.mem_of_getElem? (i := 9) rfl))) (mvT hZ (hw _ (List.mem_of_getElem? (i := 10) rfl))) (mvT hZ (hw _ (List.mem_of_getElem? (i := 11) rfl))) (by decide) (backOf (W := 0) (own_rm2 l Z a0 hw [] b1 (21 : Int32) aa (aa + len_52) ff k1 gg_52 T52.heap n0 Z53 G52_0 (by decide : (¬ (21 : Int32) < 0 ∧ (21 : Int32) < (24 : Int32)) ∧ (21 : Int32).toNatClampNeg < 24) (own_keep ha P52_1 P52_0 P52_2 (21 : Int32) (by decide) : (21 : Int32) < aa ∨ ¬ ((21 : Int32) < (aa + len_52)) → gg_52 (21 : Int32).toNatClampNeg = ff)) hZ (hw _ (List.mem_of_getElem? (i := 11) rfl)) (hw _ (List.mem_of_getElem? (i := 10) rfl)) (by decide) (by decide)) (g := (mkF m 616 #[.val (.long q1), .second, .val (.int v2), .val (.int v3), .val (.int v4), .val (.long qq), .second, .val (.int aa), .val (.int ff), .val (.ref b1), .val (.int (aa + len_52)), .val (.int (0 : Int32)), .val (.int aa), .unset, .unset, .unset] [(.int ff), (.int (aa + len_52)), (.int aa), (.int (21 : Int32)), (.ref b1)])) rfl (by rw [hml]; rfl) (argsL := [(.ref b1), (.int (21 : Int32)), (.int aa), (.int (aa + len_52)), (.int ff)]) (rest := []) (lenOf own_pd2 rfl) rfl (by show 2 * 0 + _ ≤ _; exact Nat.le_of_eq rfl) (hb hby at_616) (fun _ _ => ⟨rfl, eh131, (by decide : 1 + 0 ≤ _), (by decide : 24 + 0 ≤ _)⟩)
      dsimp only [Pt.U, Pt.locs, Pt.cells, Pt.slots] at X132 lq132 yq132 zq132 st132 hQ132
      subst lq132 yq132 zq132
      obtain ⟨rfl, Nq132, eh132⟩ := hQ132
      have N132 := Fr.app N131h Nq132
      refine own_st (G' := T132.setTop (mkF m 619 #[.val (.long q1), .second, .val (.int v2), .val (.int v3), .val (.int v4), .val (.long qq), .second, .val (.int aa), .val (.int ff), .val (.ref b1), .val (.int (aa + len_52)), .val (.int (0 : Int32)), .val (.int aa), .unset, .unset, .unset] [(.int (1 : Int32))])) st132 ?_
      obtain ⟨_, X132h, N132h⟩ := own_hide X132 N132
      refine own_ifNo X132h hx 622 (hb hby at_619) (feq (by decide : ¬ ((1 : Int32) = (0 : Int32)))).1 ?_
      refine own_aload X132h hx 624 (hb hby at_622) rfl rfl ?_
      refine own_bipush X132h hx 626 (22 : Int32) (hb hby at_624) rfl ?_
      refine own_iload X132h hx 628 (hb hby at_626) rfl ?_
      refine own_iload X132h hx 630 (hb hby at_628) rfl ?_
      refine own_iload X132h hx 632 (hb hby at_630) rfl ?_
      obtain ⟨_, _, ⟨T133, Lx133, kc133, nc133⟩, -, X133, ⟨Lc133, hQ133, lq133, yq133, zq133⟩, st133⟩ := Jvm.LawKit.callS X132h hx (y := (⟨"com/example/deltalog/deltalog/ColumnTypeWriteIntPinLaw", "kept", "([BIIIB)Z"⟩ : MethodName)) hown (mvT hZ (hw _ (List.mem_of_getElem? (i := 8) rfl))) (mvT hZ (hw _ (List.mem_of_getElem? (i := 9) rfl))) (mvT hZ (hw _ (List.mem_of_getElem? (i := 10) rfl))) (mvT hZ (hw _ (List.mem_of_getElem? (i := 11) rfl))) (by decide) (backOf (W := 0) (own_rm2 l Z a0 hw [] b1 (22 : Int32) aa (aa + len_52) ff k1 gg_52 T52.heap n0 Z53 G52_0 (by decide : (¬ (22 : Int32) < 0 ∧ (22 : Int32) < (24 : Int32)) ∧ (22 : Int32).toNatClampNeg < 24) (own_keep ha P52_1 P52_0 P52_2 (22 : Int32) (by decide) : (22 : Int32) < aa ∨ ¬ ((22 : Int32) < (aa + len_52)) → gg_52 (22 : Int32).toNatClampNeg = ff)) hZ (hw _ (List.mem_of_getElem? (i := 11) rfl)) (hw _ (List.mem_of_getElem? (i := 10) rfl)) (by decide) (by decide)) (g := (mkF m 632 #[.val (.long q1), .second, .val (.int v2), .val (.int v3), .val (.int v4), .val (.long qq), .second, .val (.int aa), .val (.int ff), .val (.ref b1), .val (.int (aa + len_52)), .val (.int (0 : Int32)), .val (.int aa), .unset, .unset, .unset] [(.int ff), (.int (aa + len_52)), (.int aa), (.int (22 : Int32)), (.ref b1)])) rfl (by rw [hml]; rfl) (argsL := [(.ref b1), (.int (22 : Int32)), (.int aa), (.int (aa + len_52)), (.int ff)]) (rest := []) (lenOf own_pd2 rfl) rfl (by show 2 * 0 + _ ≤ _; exact Nat.le_of_eq rfl) (hb hby at_632) (fun _ _ => ⟨rfl, eh132, (by decide : 1 + 0 ≤ _), (by decide : 24 + 0 ≤ _)⟩)
      dsimp only [Pt.U, Pt.locs, Pt.cells, Pt.slots] at X133 lq133 yq133 zq133 st133 hQ133
      subst lq133 yq133 zq133
      obtain ⟨rfl, Nq133, eh133⟩ := hQ133
      have N133 := Fr.app N132h Nq133
      refine own_st (G' := T133.setTop (mkF m 635 #[.val (.long q1), .second, .val (.int v2), .val (.int v3), .val (.int v4), .val (.long qq), .second, .val (.int aa), .val (.int ff), .val (.ref b1), .val (.int (aa + len_52)), .val (.int (0 : Int32)), .val (.int aa), .unset, .unset, .unset] [(.int (1 : Int32))])) st133 ?_
      obtain ⟨_, X133h, N133h⟩ := own_hide X133 N133
      refine own_ifNo X133h hx 638 (hb hby at_635) (feq (by decide : ¬ ((1 : Int32) = (0 : Int32)))).1 ?_
      refine own_aload X133h hx 640 (hb hby at_638) rfl rfl ?_
      refine own_bipush X133h hx 642 (23 : Int32) (hb hby at_640) rfl ?_
      refine own_iload X133h hx 644 (hb hby at_642) rfl ?_
      refine own_iload X133h hx 646 (hb hby at_644) rfl ?_
      refine own_iload X133h hx 648 (hb hby at_646) rfl ?_
      obtain ⟨_, _, ⟨T134, Lx134, kc134, nc134⟩, -, X134, ⟨Lc134, hQ134, lq134, yq134, zq134⟩, st134⟩ := Jvm.LawKit.callS X133h hx (y := (⟨"com/example/deltalog/deltalog/ColumnTypeWriteIntPinLaw", "kept", "([BIIIB)Z"⟩ : MethodName)) hown (mvT hZ (hw _ (List.mem_of_getElem? (i := 8) rfl))) (mvT hZ (hw _ (List.mem_of_getElem? (i := 9) rfl))) (mvT hZ (hw _ (List.mem_of_getElem? (i := 10) rfl))) (mvT hZ (hw _ (List.mem_of_getElem? (i := 11) rfl))) (by decide) (backOf (W := 0) (own_rm2 l Z a0 hw [] b1 (23 : Int32) aa (aa + len_52) ff k1 gg_52 T52.heap n0 Z53 G52_0 (by decide : (¬ (23 : Int32) < 0 ∧ (23 : Int32) < (24 : Int32)) ∧ (23 : Int32).toNatClampNeg < 24) (own_keep ha P52_1 P52_0 P52_2 (23 : Int32) (by decide) : (23 : Int32) < aa ∨ ¬ ((23 : Int32) < (aa + len_52)) → gg_52 (23 : Int32).toNatClampNeg = ff)) hZ (hw _ (List.mem_of_getElem? (i := 11) rfl)) (hw _ (List.mem_of_getElem? (i := 10) rfl)) (by decide) (by decide)) (g := (mkF m 648 #[.val (.long q1), .second, .val (.int v2), .val (.int v3), .val (.int v4), .val (.long qq), .second, .val (.int aa), .val (.int ff), .val (.ref b1), .val (.int (aa + len_52)), .val (.int (0 : Int32)), .val (.int aa), .unset, .unset, .unset] [(.int ff), (.int (aa + len_52)), (.int aa), (.int (23 : Int32)), (.ref b1)])) rfl (by rw [hml]; rfl) (argsL := [(.ref b1), (.int (23 : Int32)), (.int aa), (.int (aa + len_52)), (.int ff)]) (rest := []) (lenOf own_pd2 rfl) rfl (by show 2 * 0 + _ ≤ _; exact Nat.le_of_eq rfl) (hb hby at_648) (fun _ _ => ⟨rfl, eh133, (by decide : 1 + 0 ≤ _), (by decide : 24 + 0 ≤ _)⟩)
      dsimp only [Pt.U, Pt.locs, Pt.cells, Pt.slots] at X134 lq134 yq134 zq134 st134 hQ134
      subst lq134 yq134 zq134
      obtain ⟨rfl, Nq134, eh134⟩ := hQ134
      have N134 := Fr.app N133h Nq134
      refine own_st (G' := T134.setTop (mkF m 651 #[.val (.long q1), .second, .val (.int v2), .val (.int v3), .val (.int v4), .val (.long qq), .second, .val (.int aa), .val (.int ff), .val (.ref b1), .val (.int (aa + len_52)), .val (.int (0 : Int32)), .val (.int aa), .unset, .unset, .unset] [(.int (1 : Int32))])) st134 ?_
      obtain ⟨_, X134h, N134h⟩ := own_hide X134 N134
      refine own_ifNo X134h hx 654 (hb hby at_651) (feq (by decide : ¬ ((1 : Int32) = (0 : Int32)))).1 ?_
      refine own_iconst X134h hx 655 (1 : Int32) (hb hby at_654) rfl ?_
      refine own_goto X134h hx 659 (hb hby at_655) ?_
      refine own_istore X134h hx 661 #[.val (.long q1), .second, .val (.int v2), .val (.int v3), .val (.int v4), .val (.long qq), .second, .val (.int aa), .val (.int ff), .val (.ref b1), .val (.int (aa + len_52)), .val (.int (0 : Int32)), .val (.int aa), .val (.int (1 : Int32)), .unset, .unset] (hb hby at_659) rfl ?_
      refine own_iload X134h hx 663 (hb hby at_661) rfl ?_
      refine own_ifYes X134h hx 668 (hb hby at_663) (feq (by decide : ¬ ((1 : Int32) = (0 : Int32)))).2 ?_
      refine own_aload X134h hx 670 (hb hby at_668) rfl rfl ?_
      refine own_iload X134h hx 672 (hb hby at_670) rfl ?_
      refine own_iload X134h hx 674 (hb hby at_672) rfl ?_
      obtain ⟨_, _, ⟨T135, Lx135, kc135, nc135⟩, -, X135, ⟨Lc135, hQ135, lq135, yq135, zq135⟩, st135⟩ := Jvm.LawKit.callS X134h hx (y := (⟨"com/example/deltalog/deltalog/ColumnType", "parseInt", "([BII)J"⟩ : MethodName)) hown (mvT hZ (hw _ (List.mem_of_getElem? (i := 12) rfl))) (mvT hZ (hw _ (List.mem_of_getElem? (i := 13) rfl))) (mvT hZ (hw _ (List.mem_of_getElem? (i := 3) rfl))) (mvT hZ (hw _ (List.mem_of_getElem? (i := 14) rfl))) (by decide) (backOf (W := 0) (own_rm3 l Z a0 hw [] b1 aa (aa + len_52) qq D_52 k1 gg_52 (fun _ => ff) T52.heap n0 Z53 G52_0 (ha : 0 ≤ aa.toInt ∧ aa.toInt ≤ 3) (by have q := own_end ha P52_1 P52_0; omega : (aa + len_52).toInt = aa.toInt + ((own_l0 qq + D_52 : Nat) : Int)) (P52_1 : (D_52 = 0 ∨ 10 ^ D_52 ≤ qq.toInt.natAbs) ∧ qq.toInt.natAbs < 10 ^ (D_52 + 1)) (P52_2 : ∀ y, gg_52 y = own_out qq D_52 aa.toInt.toNat (fun _ => ff) y)) hZ (hw _ (List.mem_of_getElem? (i := 14) rfl)) (hw _ (List.mem_of_getElem? (i := 3) rfl)) (by decide) (by decide)) (g := (mkF m 674 #[.val (.long q1), .second, .val (.int v2), .val (.int v3), .val (.int v4), .val (.long qq), .second, .val (.int aa), .val (.int ff), .val (.ref b1), .val (.int (aa + len_52)), .val (.int (0 : Int32)), .val (.int aa), .val (.int (1 : Int32)), .unset, .unset] [(.int (aa + len_52)), (.int aa), (.ref b1)])) rfl (by rw [hml]; rfl) (argsL := [(.ref b1), (.int aa), (.int (aa + len_52))]) (rest := []) (lenOf own_pd3 rfl) rfl (by show 2 * 0 + _ ≤ _; exact Nat.le_of_eq rfl) (hb hby at_674) (fun _ _ => ⟨rfl, eh134, (by decide : 1 + 0 ≤ _), (by decide : 24 + 0 ≤ _)⟩)
      dsimp only [Pt.U, Pt.locs, Pt.cells, Pt.slots] at X135 lq135 yq135 zq135 st135 hQ135
      subst lq135 yq135 zq135
      obtain ⟨rfl, Nq135, eh135⟩ := hQ135
      have N135 := Fr.app N134h Nq135
      refine own_st (G' := T135.setTop (mkF m 677 #[.val (.long q1), .second, .val (.int v2), .val (.int v3), .val (.int v4), .val (.long qq), .second, .val (.int aa), .val (.int ff), .val (.ref b1), .val (.int (aa + len_52)), .val (.int (0 : Int32)), .val (.int aa), .val (.int (1 : Int32)), .unset, .unset] [(.long qq)])) st135 ?_
      obtain ⟨_, X135h, N135h⟩ := own_hide X135 N135
      refine own_lstore X135h hx 679 #[.val (.long q1), .second, .val (.int v2), .val (.int v3), .val (.int v4), .val (.long qq), .second, .val (.int aa), .val (.int ff), .val (.ref b1), .val (.int (aa + len_52)), .val (.int (0 : Int32)), .val (.int aa), .val (.int (1 : Int32)), .val (.long qq), .second] (hb hby at_677) rfl ?_
      refine own_lload X135h hx 681 (hb hby at_679) rfl ?_
      refine own_lload X135h hx 683 (hb hby at_681) rfl ?_
      refine own_lcmp X135h hx 684 (hb hby at_683) ?_
      refine own_ifNo X135h hx 687 (hb hby at_684) (teq ((lw_eq _ _).mpr (rfl : qq = qq))).2 ?_
      refine own_iconst X135h hx 688 (1 : Int32) (hb hby at_687) rfl ?_
      refine own_goto X135h hx 692 (hb hby at_688) ?_
      exact own_retN (t := .boolean) (z := (1 : Int32)) (Q := own_Q0 Z q1 v2 v3 v4 h0 n0) X135h hx hrt (by simp) (hb hby at_692) hlk eh135 ⟨rfl, N135h⟩ (by decide) (by decide)
    · refine own_icmpYes X52h hx 276 (hb hby at_262) (feq hc262_110).2 ?_
      refine own_aload X52h hx 278 (hb hby at_276) rfl rfl ?_
      refine own_iconst X52h hx 279 (0 : Int32) (hb hby at_278) rfl ?_
      refine own_iload X52h hx 281 (hb hby at_279) rfl ?_
      refine own_iload X52h hx 283 (hb hby at_281) rfl ?_
      refine own_iload X52h hx 285 (hb hby at_283) rfl ?_
      obtain ⟨_, _, ⟨T136, Lx136, kc136, nc136⟩, -, X136, ⟨Lc136, hQ136, lq136, yq136, zq136⟩, st136⟩ := Jvm.LawKit.callS X52h hx (y := (⟨"com/example/deltalog/deltalog/ColumnTypeWriteIntPinLaw", "kept", "([BIIIB)Z"⟩ : MethodName)) hown (mvT hZ (hw _ (List.mem_of_getElem? (i := 8) rfl))) (mvT hZ (hw _ (List.mem_of_getElem? (i := 9) rfl))) (mvT hZ (hw _ (List.mem_of_getElem? (i := 10) rfl))) (mvT hZ (hw _ (List.mem_of_getElem? (i := 11) rfl))) (by decide) (backOf (W := 0) (own_rm2 l Z a0 hw [] b1 (0 : Int32) aa (aa + len_52) ff k1 gg_52 T52.heap n0 Z53 G52_0 (by decide : (¬ (0 : Int32) < 0 ∧ (0 : Int32) < (24 : Int32)) ∧ (0 : Int32).toNatClampNeg < 24) (own_keep ha P52_1 P52_0 P52_2 (0 : Int32) (by decide) : (0 : Int32) < aa ∨ ¬ ((0 : Int32) < (aa + len_52)) → gg_52 (0 : Int32).toNatClampNeg = ff)) hZ (hw _ (List.mem_of_getElem? (i := 11) rfl)) (hw _ (List.mem_of_getElem? (i := 10) rfl)) (by decide) (by decide)) (g := (mkF m 285 #[.val (.long q1), .second, .val (.int v2), .val (.int v3), .val (.int v4), .val (.long qq), .second, .val (.int aa), .val (.int ff), .val (.ref b1), .val (.int (aa + len_52)), .val (.int (0 : Int32)), .val (.int aa), .unset, .unset, .unset] [(.int ff), (.int (aa + len_52)), (.int aa), (.int (0 : Int32)), (.ref b1)])) rfl (by rw [hml]; rfl) (argsL := [(.ref b1), (.int (0 : Int32)), (.int aa), (.int (aa + len_52)), (.int ff)]) (rest := []) (lenOf own_pd2 rfl) rfl (by show 2 * 0 + _ ≤ _; exact Nat.le_of_eq rfl) (hb hby at_285) (fun _ _ => ⟨rfl, rfl, (by decide : 1 + 0 ≤ _), (by decide : 24 + 0 ≤ _)⟩)
      dsimp only [Pt.U, Pt.locs, Pt.cells, Pt.slots] at X136 lq136 yq136 zq136 st136 hQ136
      subst lq136 yq136 zq136
      obtain ⟨rfl, Nq136, eh136⟩ := hQ136
      have N136 := Fr.app N52h Nq136
      refine own_st (G' := T136.setTop (mkF m 288 #[.val (.long q1), .second, .val (.int v2), .val (.int v3), .val (.int v4), .val (.long qq), .second, .val (.int aa), .val (.int ff), .val (.ref b1), .val (.int (aa + len_52)), .val (.int (0 : Int32)), .val (.int aa), .unset, .unset, .unset] [(.int (1 : Int32))])) st136 ?_
      obtain ⟨_, X136h, N136h⟩ := own_hide X136 N136
      refine own_ifNo X136h hx 291 (hb hby at_288) (feq (by decide : ¬ ((1 : Int32) = (0 : Int32)))).1 ?_
      refine own_aload X136h hx 293 (hb hby at_291) rfl rfl ?_
      refine own_iconst X136h hx 294 (1 : Int32) (hb hby at_293) rfl ?_
      refine own_iload X136h hx 296 (hb hby at_294) rfl ?_
      refine own_iload X136h hx 298 (hb hby at_296) rfl ?_
      refine own_iload X136h hx 300 (hb hby at_298) rfl ?_
      obtain ⟨_, _, ⟨T137, Lx137, kc137, nc137⟩, -, X137, ⟨Lc137, hQ137, lq137, yq137, zq137⟩, st137⟩ := Jvm.LawKit.callS X136h hx (y := (⟨"com/example/deltalog/deltalog/ColumnTypeWriteIntPinLaw", "kept", "([BIIIB)Z"⟩ : MethodName)) hown (mvT hZ (hw _ (List.mem_of_getElem? (i := 8) rfl))) (mvT hZ (hw _ (List.mem_of_getElem? (i := 9) rfl))) (mvT hZ (hw _ (List.mem_of_getElem? (i := 10) rfl))) (mvT hZ (hw _ (List.mem_of_getElem? (i := 11) rfl))) (by decide) (backOf (W := 0) (own_rm2 l Z a0 hw [] b1 (1 : Int32) aa (aa + len_52) ff k1 gg_52 T52.heap n0 Z53 G52_0 (by decide : (¬ (1 : Int32) < 0 ∧ (1 : Int32) < (24 : Int32)) ∧ (1 : Int32).toNatClampNeg < 24) (own_keep ha P52_1 P52_0 P52_2 (1 : Int32) (by decide) : (1 : Int32) < aa ∨ ¬ ((1 : Int32) < (aa + len_52)) → gg_52 (1 : Int32).toNatClampNeg = ff)) hZ (hw _ (List.mem_of_getElem? (i := 11) rfl)) (hw _ (List.mem_of_getElem? (i := 10) rfl)) (by decide) (by decide)) (g := (mkF m 300 #[.val (.long q1), .second, .val (.int v2), .val (.int v3), .val (.int v4), .val (.long qq), .second, .val (.int aa), .val (.int ff), .val (.ref b1), .val (.int (aa + len_52)), .val (.int (0 : Int32)), .val (.int aa), .unset, .unset, .unset] [(.int ff), (.int (aa + len_52)), (.int aa), (.int (1 : Int32)), (.ref b1)])) rfl (by rw [hml]; rfl) (argsL := [(.ref b1), (.int (1 : Int32)), (.int aa), (.int (aa + len_52)), (.int ff)]) (rest := []) (lenOf own_pd2 rfl) rfl (by show 2 * 0 + _ ≤ _; exact Nat.le_of_eq rfl) (hb hby at_300) (fun _ _ => ⟨rfl, eh136, (by decide : 1 + 0 ≤ _), (by decide : 24 + 0 ≤ _)⟩)
      dsimp only [Pt.U, Pt.locs, Pt.cells, Pt.slots] at X137 lq137 yq137 zq137 st137 hQ137
      subst lq137 yq137 zq137
      obtain ⟨rfl, Nq137, eh137⟩ := hQ137
      have N137 := Fr.app N136h Nq137
      refine own_st (G' := T137.setTop (mkF m 303 #[.val (.long q1), .second, .val (.int v2), .val (.int v3), .val (.int v4), .val (.long qq), .second, .val (.int aa), .val (.int ff), .val (.ref b1), .val (.int (aa + len_52)), .val (.int (0 : Int32)), .val (.int aa), .unset, .unset, .unset] [(.int (1 : Int32))])) st137 ?_
      obtain ⟨_, X137h, N137h⟩ := own_hide X137 N137
      refine own_ifNo X137h hx 306 (hb hby at_303) (feq (by decide : ¬ ((1 : Int32) = (0 : Int32)))).1 ?_
      refine own_aload X137h hx 308 (hb hby at_306) rfl rfl ?_
      refine own_iconst X137h hx 309 (2 : Int32) (hb hby at_308) rfl ?_
      refine own_iload X137h hx 311 (hb hby at_309) rfl ?_
      refine own_iload X137h hx 313 (hb hby at_311) rfl ?_
      refine own_iload X137h hx 315 (hb hby at_313) rfl ?_
      obtain ⟨_, _, ⟨T138, Lx138, kc138, nc138⟩, -, X138, ⟨Lc138, hQ138, lq138, yq138, zq138⟩, st138⟩ := Jvm.LawKit.callS X137h hx (y := (⟨"com/example/deltalog/deltalog/ColumnTypeWriteIntPinLaw", "kept", "([BIIIB)Z"⟩ : MethodName)) hown (mvT hZ (hw _ (List.mem_of_getElem? (i := 8) rfl))) (mvT hZ (hw _ (List.mem_of_getElem? (i := 9) rfl))) (mvT hZ (hw _ (List.mem_of_getElem? (i := 10) rfl))) (mvT hZ (hw _ (List.mem_of_getElem? (i := 11) rfl))) (by decide) (backOf (W := 0) (own_rm2 l Z a0 hw [] b1 (2 : Int32) aa (aa + len_52) ff k1 gg_52 T52.heap n0 Z53 G52_0 (by decide : (¬ (2 : Int32) < 0 ∧ (2 : Int32) < (24 : Int32)) ∧ (2 : Int32).toNatClampNeg < 24) (own_keep ha P52_1 P52_0 P52_2 (2 : Int32) (by decide) : (2 : Int32) < aa ∨ ¬ ((2 : Int32) < (aa + len_52)) → gg_52 (2 : Int32).toNatClampNeg = ff)) hZ (hw _ (List.mem_of_getElem? (i := 11) rfl)) (hw _ (List.mem_of_getElem? (i := 10) rfl)) (by decide) (by decide)) (g := (mkF m 315 #[.val (.long q1), .second, .val (.int v2), .val (.int v3), .val (.int v4), .val (.long qq), .second, .val (.int aa), .val (.int ff), .val (.ref b1), .val (.int (aa + len_52)), .val (.int (0 : Int32)), .val (.int aa), .unset, .unset, .unset] [(.int ff), (.int (aa + len_52)), (.int aa), (.int (2 : Int32)), (.ref b1)])) rfl (by rw [hml]; rfl) (argsL := [(.ref b1), (.int (2 : Int32)), (.int aa), (.int (aa + len_52)), (.int ff)]) (rest := []) (lenOf own_pd2 rfl) rfl (by show 2 * 0 + _ ≤ _; exact Nat.le_of_eq rfl) (hb hby at_315) (fun _ _ => ⟨rfl, eh137, (by decide : 1 + 0 ≤ _), (by decide : 24 + 0 ≤ _)⟩)
      dsimp only [Pt.U, Pt.locs, Pt.cells, Pt.slots] at X138 lq138 yq138 zq138 st138 hQ138
      subst lq138 yq138 zq138
      obtain ⟨rfl, Nq138, eh138⟩ := hQ138
      have N138 := Fr.app N137h Nq138
      refine own_st (G' := T138.setTop (mkF m 318 #[.val (.long q1), .second, .val (.int v2), .val (.int v3), .val (.int v4), .val (.long qq), .second, .val (.int aa), .val (.int ff), .val (.ref b1), .val (.int (aa + len_52)), .val (.int (0 : Int32)), .val (.int aa), .unset, .unset, .unset] [(.int (1 : Int32))])) st138 ?_
      obtain ⟨_, X138h, N138h⟩ := own_hide X138 N138
      refine own_ifNo X138h hx 321 (hb hby at_318) (feq (by decide : ¬ ((1 : Int32) = (0 : Int32)))).1 ?_
      refine own_aload X138h hx 323 (hb hby at_321) rfl rfl ?_
      refine own_iconst X138h hx 324 (3 : Int32) (hb hby at_323) rfl ?_
      refine own_iload X138h hx 326 (hb hby at_324) rfl ?_
      refine own_iload X138h hx 328 (hb hby at_326) rfl ?_
      refine own_iload X138h hx 330 (hb hby at_328) rfl ?_
      obtain ⟨_, _, ⟨T139, Lx139, kc139, nc139⟩, -, X139, ⟨Lc139, hQ139, lq139, yq139, zq139⟩, st139⟩ := Jvm.LawKit.callS X138h hx (y := (⟨"com/example/deltalog/deltalog/ColumnTypeWriteIntPinLaw", "kept", "([BIIIB)Z"⟩ : MethodName)) hown (mvT hZ (hw _ (List.mem_of_getElem? (i := 8) rfl))) (mvT hZ (hw _ (List.mem_of_getElem? (i := 9) rfl))) (mvT hZ (hw _ (List.mem_of_getElem? (i := 10) rfl))) (mvT hZ (hw _ (List.mem_of_getElem? (i := 11) rfl))) (by decide) (backOf (W := 0) (own_rm2 l Z a0 hw [] b1 (3 : Int32) aa (aa + len_52) ff k1 gg_52 T52.heap n0 Z53 G52_0 (by decide : (¬ (3 : Int32) < 0 ∧ (3 : Int32) < (24 : Int32)) ∧ (3 : Int32).toNatClampNeg < 24) (own_keep ha P52_1 P52_0 P52_2 (3 : Int32) (by decide) : (3 : Int32) < aa ∨ ¬ ((3 : Int32) < (aa + len_52)) → gg_52 (3 : Int32).toNatClampNeg = ff)) hZ (hw _ (List.mem_of_getElem? (i := 11) rfl)) (hw _ (List.mem_of_getElem? (i := 10) rfl)) (by decide) (by decide)) (g := (mkF m 330 #[.val (.long q1), .second, .val (.int v2), .val (.int v3), .val (.int v4), .val (.long qq), .second, .val (.int aa), .val (.int ff), .val (.ref b1), .val (.int (aa + len_52)), .val (.int (0 : Int32)), .val (.int aa), .unset, .unset, .unset] [(.int ff), (.int (aa + len_52)), (.int aa), (.int (3 : Int32)), (.ref b1)])) rfl (by rw [hml]; rfl) (argsL := [(.ref b1), (.int (3 : Int32)), (.int aa), (.int (aa + len_52)), (.int ff)]) (rest := []) (lenOf own_pd2 rfl) rfl (by show 2 * 0 + _ ≤ _; exact Nat.le_of_eq rfl) (hb hby at_330) (fun _ _ => ⟨rfl, eh138, (by decide : 1 + 0 ≤ _), (by decide : 24 + 0 ≤ _)⟩)
      dsimp only [Pt.U, Pt.locs, Pt.cells, Pt.slots] at X139 lq139 yq139 zq139 st139 hQ139
      subst lq139 yq139 zq139
      obtain ⟨rfl, Nq139, eh139⟩ := hQ139
      have N139 := Fr.app N138h Nq139
      refine own_st (G' := T139.setTop (mkF m 333 #[.val (.long q1), .second, .val (.int v2), .val (.int v3), .val (.int v4), .val (.long qq), .second, .val (.int aa), .val (.int ff), .val (.ref b1), .val (.int (aa + len_52)), .val (.int (0 : Int32)), .val (.int aa), .unset, .unset, .unset] [(.int (1 : Int32))])) st139 ?_
      obtain ⟨_, X139h, N139h⟩ := own_hide X139 N139
      refine own_ifNo X139h hx 336 (hb hby at_333) (feq (by decide : ¬ ((1 : Int32) = (0 : Int32)))).1 ?_
      refine own_aload X139h hx 338 (hb hby at_336) rfl rfl ?_
      refine own_iconst X139h hx 339 (4 : Int32) (hb hby at_338) rfl ?_
      refine own_iload X139h hx 341 (hb hby at_339) rfl ?_
      refine own_iload X139h hx 343 (hb hby at_341) rfl ?_
      refine own_iload X139h hx 345 (hb hby at_343) rfl ?_
      obtain ⟨_, _, ⟨T140, Lx140, kc140, nc140⟩, -, X140, ⟨Lc140, hQ140, lq140, yq140, zq140⟩, st140⟩ := Jvm.LawKit.callS X139h hx (y := (⟨"com/example/deltalog/deltalog/ColumnTypeWriteIntPinLaw", "kept", "([BIIIB)Z"⟩ : MethodName)) hown (mvT hZ (hw _ (List.mem_of_getElem? (i := 8) rfl))) (mvT hZ (hw _ (List.mem_of_getElem? (i := 9) rfl))) (mvT hZ (hw _ (List.mem_of_getElem? (i := 10) rfl))) (mvT hZ (hw _ (List.mem_of_getElem? (i := 11) rfl))) (by decide) (backOf (W := 0) (own_rm2 l Z a0 hw [] b1 (4 : Int32) aa (aa + len_52) ff k1 gg_52 T52.heap n0 Z53 G52_0 (by decide : (¬ (4 : Int32) < 0 ∧ (4 : Int32) < (24 : Int32)) ∧ (4 : Int32).toNatClampNeg < 24) (own_keep ha P52_1 P52_0 P52_2 (4 : Int32) (by decide) : (4 : Int32) < aa ∨ ¬ ((4 : Int32) < (aa + len_52)) → gg_52 (4 : Int32).toNatClampNeg = ff)) hZ (hw _ (List.mem_of_getElem? (i := 11) rfl)) (hw _ (List.mem_of_getElem? (i := 10) rfl)) (by decide) (by decide)) (g := (mkF m 345 #[.val (.long q1), .second, .val (.int v2), .val (.int v3), .val (.int v4), .val (.long qq), .second, .val (.int aa), .val (.int ff), .val (.ref b1), .val (.int (aa + len_52)), .val (.int (0 : Int32)), .val (.int aa), .unset, .unset, .unset] [(.int ff), (.int (aa + len_52)), (.int aa), (.int (4 : Int32)), (.ref b1)])) rfl (by rw [hml]; rfl) (argsL := [(.ref b1), (.int (4 : Int32)), (.int aa), (.int (aa + len_52)), (.int ff)]) (rest := []) (lenOf own_pd2 rfl) rfl (by show 2 * 0 + _ ≤ _; exact Nat.le_of_eq rfl) (hb hby at_345) (fun _ _ => ⟨rfl, eh139, (by decide : 1 + 0 ≤ _), (by decide : 24 + 0 ≤ _)⟩)
      dsimp only [Pt.U, Pt.locs, Pt.cells, Pt.slots] at X140 lq140 yq140 zq140 st140 hQ140
      subst lq140 yq140 zq140
      obtain ⟨rfl, Nq140, eh140⟩ := hQ140
      have N140 := Fr.app N139h Nq140
      refine own_st (G' := T140.setTop (mkF m 348 #[.val (.long q1), .second, .val (.int v2), .val (.int v3), .val (.int v4), .val (.long qq), .second, .val (.int aa), .val (.int ff), .val (.ref b1), .val (.int (aa + len_52)), .val (.int (0 : Int32)), .val (.int aa), .unset, .unset, .unset] [(.int (1 : Int32))])) st140 ?_
      obtain ⟨_, X140h, N140h⟩ := own_hide X140 N140
      refine own_ifNo X140h hx 351 (hb hby at_348) (feq (by decide : ¬ ((1 : Int32) = (0 : Int32)))).1 ?_
      refine own_aload X140h hx 353 (hb hby at_351) rfl rfl ?_
      refine own_iconst X140h hx 354 (5 : Int32) (hb hby at_353) rfl ?_
      refine own_iload X140h hx 356 (hb hby at_354) rfl ?_
      refine own_iload X140h hx 358 (hb hby at_356) rfl ?_
      refine own_iload X140h hx 360 (hb hby at_358) rfl ?_
      obtain ⟨_, _, ⟨T141, Lx141, kc141, nc141⟩, -, X141, ⟨Lc141, hQ141, lq141, yq141, zq141⟩, st141⟩ := Jvm.LawKit.callS X140h hx (y := (⟨"com/example/deltalog/deltalog/ColumnTypeWriteIntPinLaw", "kept", "([BIIIB)Z"⟩ : MethodName)) hown (mvT hZ (hw _ (List.mem_of_getElem? (i := 8) rfl))) (mvT hZ (hw _ (List.mem_of_getElem? (i := 9) rfl))) (mvT hZ (hw _ (List.mem_of_getElem? (i := 10) rfl))) (mvT hZ (hw _ (List.mem_of_getElem? (i := 11) rfl))) (by decide) (backOf (W := 0) (own_rm2 l Z a0 hw [] b1 (5 : Int32) aa (aa + len_52) ff k1 gg_52 T52.heap n0 Z53 G52_0 (by decide : (¬ (5 : Int32) < 0 ∧ (5 : Int32) < (24 : Int32)) ∧ (5 : Int32).toNatClampNeg < 24) (own_keep ha P52_1 P52_0 P52_2 (5 : Int32) (by decide) : (5 : Int32) < aa ∨ ¬ ((5 : Int32) < (aa + len_52)) → gg_52 (5 : Int32).toNatClampNeg = ff)) hZ (hw _ (List.mem_of_getElem? (i := 11) rfl)) (hw _ (List.mem_of_getElem? (i := 10) rfl)) (by decide) (by decide)) (g := (mkF m 360 #[.val (.long q1), .second, .val (.int v2), .val (.int v3), .val (.int v4), .val (.long qq), .second, .val (.int aa), .val (.int ff), .val (.ref b1), .val (.int (aa + len_52)), .val (.int (0 : Int32)), .val (.int aa), .unset, .unset, .unset] [(.int ff), (.int (aa + len_52)), (.int aa), (.int (5 : Int32)), (.ref b1)])) rfl (by rw [hml]; rfl) (argsL := [(.ref b1), (.int (5 : Int32)), (.int aa), (.int (aa + len_52)), (.int ff)]) (rest := []) (lenOf own_pd2 rfl) rfl (by show 2 * 0 + _ ≤ _; exact Nat.le_of_eq rfl) (hb hby at_360) (fun _ _ => ⟨rfl, eh140, (by decide : 1 + 0 ≤ _), (by decide : 24 + 0 ≤ _)⟩)
      dsimp only [Pt.U, Pt.locs, Pt.cells, Pt.slots] at X141 lq141 yq141 zq141 st141 hQ141
      subst lq141 yq141 zq141
      obtain ⟨rfl, Nq141, eh141⟩ := hQ141
      have N141 := Fr.app N140h Nq141
      refine own_st (G' := T141.setTop (mkF m 363 #[.val (.long q1), .second, .val (.int v2), .val (.int v3), .val (.int v4), .val (.long qq), .second, .val (.int aa), .val (.int ff), .val (.ref b1), .val (.int (aa + len_52)), .val (.int (0 : Int32)), .val (.int aa), .unset, .unset, .unset] [(.int (1 : Int32))])) st141 ?_
      obtain ⟨_, X141h, N141h⟩ := own_hide X141 N141
      refine own_ifNo X141h hx 366 (hb hby at_363) (feq (by decide : ¬ ((1 : Int32) = (0 : Int32)))).1 ?_
      refine own_aload X141h hx 368 (hb hby at_366) rfl rfl ?_
      refine own_bipush X141h hx 370 (6 : Int32) (hb hby at_368) rfl ?_
      refine own_iload X141h hx 372 (hb hby at_370) rfl ?_
      refine own_iload X141h hx 374 (hb hby at_372) rfl ?_
      refine own_iload X141h hx 376 (hb hby at_374) rfl ?_
      obtain ⟨_, _, ⟨T142, Lx142, kc142, nc142⟩, -, X142, ⟨Lc142, hQ142, lq142, yq142, zq142⟩, st142⟩ := Jvm.LawKit.callS X141h hx (y := (⟨"com/example/deltalog/deltalog/ColumnTypeWriteIntPinLaw", "kept", "([BIIIB)Z"⟩ : MethodName)) hown (mvT hZ (hw _ (List.mem_of_getElem? (i := 8) rfl))) (mvT hZ (hw _ (List.mem_of_getElem? (i := 9) rfl))) (mvT hZ (hw _ (List.mem_of_getElem? (i := 10) rfl))) (mvT hZ (hw _ (List.mem_of_getElem? (i := 11) rfl))) (by decide) (backOf (W := 0) (own_rm2 l Z a0 hw [] b1 (6 : Int32) aa (aa + len_52) ff k1 gg_52 T52.heap n0 Z53 G52_0 (by decide : (¬ (6 : Int32) < 0 ∧ (6 : Int32) < (24 : Int32)) ∧ (6 : Int32).toNatClampNeg < 24) (own_keep ha P52_1 P52_0 P52_2 (6 : Int32) (by decide) : (6 : Int32) < aa ∨ ¬ ((6 : Int32) < (aa + len_52)) → gg_52 (6 : Int32).toNatClampNeg = ff)) hZ (hw _ (List.mem_of_getElem? (i := 11) rfl)) (hw _ (List.mem_of_getElem? (i := 10) rfl)) (by decide) (by decide)) (g := (mkF m 376 #[.val (.long q1), .second, .val (.int v2), .val (.int v3), .val (.int v4), .val (.long qq), .second, .val (.int aa), .val (.int ff), .val (.ref b1), .val (.int (aa + len_52)), .val (.int (0 : Int32)), .val (.int aa), .unset, .unset, .unset] [(.int ff), (.int (aa + len_52)), (.int aa), (.int (6 : Int32)), (.ref b1)])) rfl (by rw [hml]; rfl) (argsL := [(.ref b1), (.int (6 : Int32)), (.int aa), (.int (aa + len_52)), (.int ff)]) (rest := []) (lenOf own_pd2 rfl) rfl (by show 2 * 0 + _ ≤ _; exact Nat.le_of_eq rfl) (hb hby at_376) (fun _ _ => ⟨rfl, eh141, (by decide : 1 + 0 ≤ _), (by decide : 24 + 0 ≤ _)⟩)
      dsimp only [Pt.U, Pt.locs, Pt.cells, Pt.slots] at X142 lq142 yq142 zq142 st142 hQ142
      subst lq142 yq142 zq142
      obtain ⟨rfl, Nq142, eh142⟩ := hQ142
      have N142 := Fr.app N141h Nq142
      refine own_st (G' := T142.setTop (mkF m 379 #[.val (.long q1), .second, .val (.int v2), .val (.int v3), .val (.int v4), .val (.long qq), .second, .val (.int aa), .val (.int ff), .val (.ref b1), .val (.int (aa + len_52)), .val (.int (0 : Int32)), .val (.int aa), .unset, .unset, .unset] [(.int (1 : Int32))])) st142 ?_
      obtain ⟨_, X142h, N142h⟩ := own_hide X142 N142
      refine own_ifNo X142h hx 382 (hb hby at_379) (feq (by decide : ¬ ((1 : Int32) = (0 : Int32)))).1 ?_
      refine own_aload X142h hx 384 (hb hby at_382) rfl rfl ?_
      refine own_bipush X142h hx 386 (7 : Int32) (hb hby at_384) rfl ?_
      refine own_iload X142h hx 388 (hb hby at_386) rfl ?_
      refine own_iload X142h hx 390 (hb hby at_388) rfl ?_
      refine own_iload X142h hx 392 (hb hby at_390) rfl ?_
      obtain ⟨_, _, ⟨T143, Lx143, kc143, nc143⟩, -, X143, ⟨Lc143, hQ143, lq143, yq143, zq143⟩, st143⟩ := Jvm.LawKit.callS X142h hx (y := (⟨"com/example/deltalog/deltalog/ColumnTypeWriteIntPinLaw", "kept", "([BIIIB)Z"⟩ : MethodName)) hown (mvT hZ (hw _ (List.mem_of_getElem? (i := 8) rfl))) (mvT hZ (hw _ (List.mem_of_getElem? (i := 9) rfl))) (mvT hZ (hw _ (List.mem_of_getElem? (i := 10) rfl))) (mvT hZ (hw _ (List.mem_of_getElem? (i := 11) rfl))) (by decide) (backOf (W := 0) (own_rm2 l Z a0 hw [] b1 (7 : Int32) aa (aa + len_52) ff k1 gg_52 T52.heap n0 Z53 G52_0 (by decide : (¬ (7 : Int32) < 0 ∧ (7 : Int32) < (24 : Int32)) ∧ (7 : Int32).toNatClampNeg < 24) (own_keep ha P52_1 P52_0 P52_2 (7 : Int32) (by decide) : (7 : Int32) < aa ∨ ¬ ((7 : Int32) < (aa + len_52)) → gg_52 (7 : Int32).toNatClampNeg = ff)) hZ (hw _ (List.mem_of_getElem? (i := 11) rfl)) (hw _ (List.mem_of_getElem? (i := 10) rfl)) (by decide) (by decide)) (g := (mkF m 392 #[.val (.long q1), .second, .val (.int v2), .val (.int v3), .val (.int v4), .val (.long qq), .second, .val (.int aa), .val (.int ff), .val (.ref b1), .val (.int (aa + len_52)), .val (.int (0 : Int32)), .val (.int aa), .unset, .unset, .unset] [(.int ff), (.int (aa + len_52)), (.int aa), (.int (7 : Int32)), (.ref b1)])) rfl (by rw [hml]; rfl) (argsL := [(.ref b1), (.int (7 : Int32)), (.int aa), (.int (aa + len_52)), (.int ff)]) (rest := []) (lenOf own_pd2 rfl) rfl (by show 2 * 0 + _ ≤ _; exact Nat.le_of_eq rfl) (hb hby at_392) (fun _ _ => ⟨rfl, eh142, (by decide : 1 + 0 ≤ _), (by decide : 24 + 0 ≤ _)⟩)
      dsimp only [Pt.U, Pt.locs, Pt.cells, Pt.slots] at X143 lq143 yq143 zq143 st143 hQ143
      subst lq143 yq143 zq143
      obtain ⟨rfl, Nq143, eh143⟩ := hQ143
      have N143 := Fr.app N142h Nq143
      refine own_st (G' := T143.setTop (mkF m 395 #[.val (.long q1), .second, .val (.int v2), .val (.int v3), .val (.int v4), .val (.long qq), .second, .val (.int aa), .val (.int ff), .val (.ref b1), .val (.int (aa + len_52)), .val (.int (0 : Int32)), .val (.int aa), .unset, .unset, .unset] [(.int (1 : Int32))])) st143 ?_
      obtain ⟨_, X143h, N143h⟩ := own_hide X143 N143
      refine own_ifNo X143h hx 398 (hb hby at_395) (feq (by decide : ¬ ((1 : Int32) = (0 : Int32)))).1 ?_
      refine own_aload X143h hx 400 (hb hby at_398) rfl rfl ?_
      refine own_bipush X143h hx 402 (8 : Int32) (hb hby at_400) rfl ?_
      refine own_iload X143h hx 404 (hb hby at_402) rfl ?_
      refine own_iload X143h hx 406 (hb hby at_404) rfl ?_
      refine own_iload X143h hx 408 (hb hby at_406) rfl ?_
      obtain ⟨_, _, ⟨T144, Lx144, kc144, nc144⟩, -, X144, ⟨Lc144, hQ144, lq144, yq144, zq144⟩, st144⟩ := Jvm.LawKit.callS X143h hx (y := (⟨"com/example/deltalog/deltalog/ColumnTypeWriteIntPinLaw", "kept", "([BIIIB)Z"⟩ : MethodName)) hown (mvT hZ (hw _ (List.mem_of_getElem? (i := 8) rfl))) (mvT hZ (hw _ (List.mem_of_getElem? (i := 9) rfl))) (mvT hZ (hw _ (List.mem_of_getElem? (i := 10) rfl))) (mvT hZ (hw _ (List.mem_of_getElem? (i := 11) rfl))) (by decide) (backOf (W := 0) (own_rm2 l Z a0 hw [] b1 (8 : Int32) aa (aa + len_52) ff k1 gg_52 T52.heap n0 Z53 G52_0 (by decide : (¬ (8 : Int32) < 0 ∧ (8 : Int32) < (24 : Int32)) ∧ (8 : Int32).toNatClampNeg < 24) (own_keep ha P52_1 P52_0 P52_2 (8 : Int32) (by decide) : (8 : Int32) < aa ∨ ¬ ((8 : Int32) < (aa + len_52)) → gg_52 (8 : Int32).toNatClampNeg = ff)) hZ (hw _ (List.mem_of_getElem? (i := 11) rfl)) (hw _ (List.mem_of_getElem? (i := 10) rfl)) (by decide) (by decide)) (g := (mkF m 408 #[.val (.long q1), .second, .val (.int v2), .val (.int v3), .val (.int v4), .val (.long qq), .second, .val (.int aa), .val (.int ff), .val (.ref b1), .val (.int (aa + len_52)), .val (.int (0 : Int32)), .val (.int aa), .unset, .unset, .unset] [(.int ff), (.int (aa + len_52)), (.int aa), (.int (8 : Int32)), (.ref b1)])) rfl (by rw [hml]; rfl) (argsL := [(.ref b1), (.int (8 : Int32)), (.int aa), (.int (aa + len_52)), (.int ff)]) (rest := []) (lenOf own_pd2 rfl) rfl (by show 2 * 0 + _ ≤ _; exact Nat.le_of_eq rfl) (hb hby at_408) (fun _ _ => ⟨rfl, eh143, (by decide : 1 + 0 ≤ _), (by decide : 24 + 0 ≤ _)⟩)
      dsimp only [Pt.U, Pt.locs, Pt.cells, Pt.slots] at X144 lq144 yq144 zq144 st144 hQ144
      subst lq144 yq144 zq144
      obtain ⟨rfl, Nq144, eh144⟩ := hQ144
      have N144 := Fr.app N143h Nq144
      refine own_st (G' := T144.setTop (mkF m 411 #[.val (.long q1), .second, .val (.int v2), .val (.int v3), .val (.int v4), .val (.long qq), .second, .val (.int aa), .val (.int ff), .val (.ref b1), .val (.int (aa + len_52)), .val (.int (0 : Int32)), .val (.int aa), .unset, .unset, .unset] [(.int (1 : Int32))])) st144 ?_
      obtain ⟨_, X144h, N144h⟩ := own_hide X144 N144
      refine own_ifNo X144h hx 414 (hb hby at_411) (feq (by decide : ¬ ((1 : Int32) = (0 : Int32)))).1 ?_
      refine own_aload X144h hx 416 (hb hby at_414) rfl rfl ?_
      refine own_bipush X144h hx 418 (9 : Int32) (hb hby at_416) rfl ?_
      refine own_iload X144h hx 420 (hb hby at_418) rfl ?_
      refine own_iload X144h hx 422 (hb hby at_420) rfl ?_
      refine own_iload X144h hx 424 (hb hby at_422) rfl ?_
      obtain ⟨_, _, ⟨T145, Lx145, kc145, nc145⟩, -, X145, ⟨Lc145, hQ145, lq145, yq145, zq145⟩, st145⟩ := Jvm.LawKit.callS X144h hx (y := (⟨"com/example/deltalog/deltalog/ColumnTypeWriteIntPinLaw", "kept", "([BIIIB)Z"⟩ : MethodName)) hown (mvT hZ (hw _ (List.mem_of_getElem? (i := 8) rfl))) (mvT hZ (hw _ (List.mem_of_getElem? (i := 9) rfl))) (mvT hZ (hw _ (List.mem_of_getElem? (i := 10) rfl))) (mvT hZ (hw _ (List.mem_of_getElem? (i := 11) rfl))) (by decide) (backOf (W := 0) (own_rm2 l Z a0 hw [] b1 (9 : Int32) aa (aa + len_52) ff k1 gg_52 T52.heap n0 Z53 G52_0 (by decide : (¬ (9 : Int32) < 0 ∧ (9 : Int32) < (24 : Int32)) ∧ (9 : Int32).toNatClampNeg < 24) (own_keep ha P52_1 P52_0 P52_2 (9 : Int32) (by decide) : (9 : Int32) < aa ∨ ¬ ((9 : Int32) < (aa + len_52)) → gg_52 (9 : Int32).toNatClampNeg = ff)) hZ (hw _ (List.mem_of_getElem? (i := 11) rfl)) (hw _ (List.mem_of_getElem? (i := 10) rfl)) (by decide) (by decide)) (g := (mkF m 424 #[.val (.long q1), .second, .val (.int v2), .val (.int v3), .val (.int v4), .val (.long qq), .second, .val (.int aa), .val (.int ff), .val (.ref b1), .val (.int (aa + len_52)), .val (.int (0 : Int32)), .val (.int aa), .unset, .unset, .unset] [(.int ff), (.int (aa + len_52)), (.int aa), (.int (9 : Int32)), (.ref b1)])) rfl (by rw [hml]; rfl) (argsL := [(.ref b1), (.int (9 : Int32)), (.int aa), (.int (aa + len_52)), (.int ff)]) (rest := []) (lenOf own_pd2 rfl) rfl (by show 2 * 0 + _ ≤ _; exact Nat.le_of_eq rfl) (hb hby at_424) (fun _ _ => ⟨rfl, eh144, (by decide : 1 + 0 ≤ _), (by decide : 24 + 0 ≤ _)⟩)
      dsimp only [Pt.U, Pt.locs, Pt.cells, Pt.slots] at X145 lq145 yq145 zq145 st145 hQ145
      subst lq145 yq145 zq145
      obtain ⟨rfl, Nq145, eh145⟩ := hQ145
      have N145 := Fr.app N144h Nq145
      refine own_st (G' := T145.setTop (mkF m 427 #[.val (.long q1), .second, .val (.int v2), .val (.int v3), .val (.int v4), .val (.long qq), .second, .val (.int aa), .val (.int ff), .val (.ref b1), .val (.int (aa + len_52)), .val (.int (0 : Int32)), .val (.int aa), .unset, .unset, .unset] [(.int (1 : Int32))])) st145 ?_
      obtain ⟨_, X145h, N145h⟩ := own_hide X145 N145
      refine own_ifNo X145h hx 430 (hb hby at_427) (feq (by decide : ¬ ((1 : Int32) = (0 : Int32)))).1 ?_
      refine own_aload X145h hx 432 (hb hby at_430) rfl rfl ?_
      refine own_bipush X145h hx 434 (10 : Int32) (hb hby at_432) rfl ?_
      refine own_iload X145h hx 436 (hb hby at_434) rfl ?_
      refine own_iload X145h hx 438 (hb hby at_436) rfl ?_
      refine own_iload X145h hx 440 (hb hby at_438) rfl ?_
      obtain ⟨_, _, ⟨T146, Lx146, kc146, nc146⟩, -, X146, ⟨Lc146, hQ146, lq146, yq146, zq146⟩, st146⟩ := Jvm.LawKit.callS X145h hx (y := (⟨"com/example/deltalog/deltalog/ColumnTypeWriteIntPinLaw", "kept", "([BIIIB)Z"⟩ : MethodName)) hown (mvT hZ (hw _ (List.mem_of_getElem? (i := 8) rfl))) (mvT hZ (hw _ (List.mem_of_getElem? (i := 9) rfl))) (mvT hZ (hw _ (List.mem_of_getElem? (i := 10) rfl))) (mvT hZ (hw _ (List.mem_of_getElem? (i := 11) rfl))) (by decide) (backOf (W := 0) (own_rm2 l Z a0 hw [] b1 (10 : Int32) aa (aa + len_52) ff k1 gg_52 T52.heap n0 Z53 G52_0 (by decide : (¬ (10 : Int32) < 0 ∧ (10 : Int32) < (24 : Int32)) ∧ (10 : Int32).toNatClampNeg < 24) (own_keep ha P52_1 P52_0 P52_2 (10 : Int32) (by decide) : (10 : Int32) < aa ∨ ¬ ((10 : Int32) < (aa + len_52)) → gg_52 (10 : Int32).toNatClampNeg = ff)) hZ (hw _ (List.mem_of_getElem? (i := 11) rfl)) (hw _ (List.mem_of_getElem? (i := 10) rfl)) (by decide) (by decide)) (g := (mkF m 440 #[.val (.long q1), .second, .val (.int v2), .val (.int v3), .val (.int v4), .val (.long qq), .second, .val (.int aa), .val (.int ff), .val (.ref b1), .val (.int (aa + len_52)), .val (.int (0 : Int32)), .val (.int aa), .unset, .unset, .unset] [(.int ff), (.int (aa + len_52)), (.int aa), (.int (10 : Int32)), (.ref b1)])) rfl (by rw [hml]; rfl) (argsL := [(.ref b1), (.int (10 : Int32)), (.int aa), (.int (aa + len_52)), (.int ff)]) (rest := []) (lenOf own_pd2 rfl) rfl (by show 2 * 0 + _ ≤ _; exact Nat.le_of_eq rfl) (hb hby at_440) (fun _ _ => ⟨rfl, eh145, (by decide : 1 + 0 ≤ _), (by decide : 24 + 0 ≤ _)⟩)
      dsimp only [Pt.U, Pt.locs, Pt.cells, Pt.slots] at X146 lq146 yq146 zq146 st146 hQ146
      subst lq146 yq146 zq146
      obtain ⟨rfl, Nq146, eh146⟩ := hQ146
      have N146 := Fr.app N145h Nq146
      refine own_st (G' := T146.setTop (mkF m 443 #[.val (.long q1), .second, .val (.int v2), .val (.int v3), .val (.int v4), .val (.long qq), .second, .val (.int aa), .val (.int ff), .val (.ref b1), .val (.int (aa + len_52)), .val (.int (0 : Int32)), .val (.int aa), .unset, .unset, .unset] [(.int (1 : Int32))])) st146 ?_
      obtain ⟨_, X146h, N146h⟩ := own_hide X146 N146
      refine own_ifNo X146h hx 446 (hb hby at_443) (feq (by decide : ¬ ((1 : Int32) = (0 : Int32)))).1 ?_
      refine own_aload X146h hx 448 (hb hby at_446) rfl rfl ?_
      refine own_bipush X146h hx 450 (11 : Int32) (hb hby at_448) rfl ?_
      refine own_iload X146h hx 452 (hb hby at_450) rfl ?_
      refine own_iload X146h hx 454 (hb hby at_452) rfl ?_
      refine own_iload X146h hx 456 (hb hby at_454) rfl ?_
      obtain ⟨_, _, ⟨T147, Lx147, kc147, nc147⟩, -, X147, ⟨Lc147, hQ147, lq147, yq147, zq147⟩, st147⟩ := Jvm.LawKit.callS X146h hx (y := (⟨"com/example/deltalog/deltalog/ColumnTypeWriteIntPinLaw", "kept", "([BIIIB)Z"⟩ : MethodName)) hown (mvT hZ (hw _ (List.mem_of_getElem? (i := 8) rfl))) (mvT hZ (hw _ (List.mem_of_getElem? (i := 9) rfl))) (mvT hZ (hw _ (List.mem_of_getElem? (i := 10) rfl))) (mvT hZ (hw _ (List.mem_of_getElem? (i := 11) rfl))) (by decide) (backOf (W := 0) (own_rm2 l Z a0 hw [] b1 (11 : Int32) aa (aa + len_52) ff k1 gg_52 T52.heap n0 Z53 G52_0 (by decide : (¬ (11 : Int32) < 0 ∧ (11 : Int32) < (24 : Int32)) ∧ (11 : Int32).toNatClampNeg < 24) (own_keep ha P52_1 P52_0 P52_2 (11 : Int32) (by decide) : (11 : Int32) < aa ∨ ¬ ((11 : Int32) < (aa + len_52)) → gg_52 (11 : Int32).toNatClampNeg = ff)) hZ (hw _ (List.mem_of_getElem? (i := 11) rfl)) (hw _ (List.mem_of_getElem? (i := 10) rfl)) (by decide) (by decide)) (g := (mkF m 456 #[.val (.long q1), .second, .val (.int v2), .val (.int v3), .val (.int v4), .val (.long qq), .second, .val (.int aa), .val (.int ff), .val (.ref b1), .val (.int (aa + len_52)), .val (.int (0 : Int32)), .val (.int aa), .unset, .unset, .unset] [(.int ff), (.int (aa + len_52)), (.int aa), (.int (11 : Int32)), (.ref b1)])) rfl (by rw [hml]; rfl) (argsL := [(.ref b1), (.int (11 : Int32)), (.int aa), (.int (aa + len_52)), (.int ff)]) (rest := []) (lenOf own_pd2 rfl) rfl (by show 2 * 0 + _ ≤ _; exact Nat.le_of_eq rfl) (hb hby at_456) (fun _ _ => ⟨rfl, eh146, (by decide : 1 + 0 ≤ _), (by decide : 24 + 0 ≤ _)⟩)
      dsimp only [Pt.U, Pt.locs, Pt.cells, Pt.slots] at X147 lq147 yq147 zq147 st147 hQ147
      subst lq147 yq147 zq147
      obtain ⟨rfl, Nq147, eh147⟩ := hQ147
      have N147 := Fr.app N146h Nq147
      refine own_st (G' := T147.setTop (mkF m 459 #[.val (.long q1), .second, .val (.int v2), .val (.int v3), .val (.int v4), .val (.long qq), .second, .val (.int aa), .val (.int ff), .val (.ref b1), .val (.int (aa + len_52)), .val (.int (0 : Int32)), .val (.int aa), .unset, .unset, .unset] [(.int (1 : Int32))])) st147 ?_
      obtain ⟨_, X147h, N147h⟩ := own_hide X147 N147
      refine own_ifNo X147h hx 462 (hb hby at_459) (feq (by decide : ¬ ((1 : Int32) = (0 : Int32)))).1 ?_
      refine own_aload X147h hx 464 (hb hby at_462) rfl rfl ?_
      refine own_bipush X147h hx 466 (12 : Int32) (hb hby at_464) rfl ?_
      refine own_iload X147h hx 468 (hb hby at_466) rfl ?_
      refine own_iload X147h hx 470 (hb hby at_468) rfl ?_
      refine own_iload X147h hx 472 (hb hby at_470) rfl ?_
      obtain ⟨_, _, ⟨T148, Lx148, kc148, nc148⟩, -, X148, ⟨Lc148, hQ148, lq148, yq148, zq148⟩, st148⟩ := Jvm.LawKit.callS X147h hx (y := (⟨"com/example/deltalog/deltalog/ColumnTypeWriteIntPinLaw", "kept", "([BIIIB)Z"⟩ : MethodName)) hown (mvT hZ (hw _ (List.mem_of_getElem? (i := 8) rfl))) (mvT hZ (hw _ (List.mem_of_getElem? (i := 9) rfl))) (mvT hZ (hw _ (List.mem_of_getElem? (i := 10) rfl))) (mvT hZ (hw _ (List.mem_of_getElem? (i := 11) rfl))) (by decide) (backOf (W := 0) (own_rm2 l Z a0 hw [] b1 (12 : Int32) aa (aa + len_52) ff k1 gg_52 T52.heap n0 Z53 G52_0 (by decide : (¬ (12 : Int32) < 0 ∧ (12 : Int32) < (24 : Int32)) ∧ (12 : Int32).toNatClampNeg < 24) (own_keep ha P52_1 P52_0 P52_2 (12 : Int32) (by decide) : (12 : Int32) < aa ∨ ¬ ((12 : Int32) < (aa + len_52)) → gg_52 (12 : Int32).toNatClampNeg = ff)) hZ (hw _ (List.mem_of_getElem? (i := 11) rfl)) (hw _ (List.mem_of_getElem? (i := 10) rfl)) (by decide) (by decide)) (g := (mkF m 472 #[.val (.long q1), .second, .val (.int v2), .val (.int v3), .val (.int v4), .val (.long qq), .second, .val (.int aa), .val (.int ff), .val (.ref b1), .val (.int (aa + len_52)), .val (.int (0 : Int32)), .val (.int aa), .unset, .unset, .unset] [(.int ff), (.int (aa + len_52)), (.int aa), (.int (12 : Int32)), (.ref b1)])) rfl (by rw [hml]; rfl) (argsL := [(.ref b1), (.int (12 : Int32)), (.int aa), (.int (aa + len_52)), (.int ff)]) (rest := []) (lenOf own_pd2 rfl) rfl (by show 2 * 0 + _ ≤ _; exact Nat.le_of_eq rfl) (hb hby at_472) (fun _ _ => ⟨rfl, eh147, (by decide : 1 + 0 ≤ _), (by decide : 24 + 0 ≤ _)⟩)
      dsimp only [Pt.U, Pt.locs, Pt.cells, Pt.slots] at X148 lq148 yq148 zq148 st148 hQ148
      subst lq148 yq148 zq148
      obtain ⟨rfl, Nq148, eh148⟩ := hQ148
      have N148 := Fr.app N147h Nq148
      refine own_st (G' := T148.setTop (mkF m 475 #[.val (.long q1), .second, .val (.int v2), .val (.int v3), .val (.int v4), .val (.long qq), .second, .val (.int aa), .val (.int ff), .val (.ref b1), .val (.int (aa + len_52)), .val (.int (0 : Int32)), .val (.int aa), .unset, .unset, .unset] [(.int (1 : Int32))])) st148 ?_
      obtain ⟨_, X148h, N148h⟩ := own_hide X148 N148
      refine own_ifNo X148h hx 478 (hb hby at_475) (feq (by decide : ¬ ((1 : Int32) = (0 : Int32)))).1 ?_
      refine own_aload X148h hx 480 (hb hby at_478) rfl rfl ?_
      refine own_bipush X148h hx 482 (13 : Int32) (hb hby at_480) rfl ?_
      refine own_iload X148h hx 484 (hb hby at_482) rfl ?_
      refine own_iload X148h hx 486 (hb hby at_484) rfl ?_
      refine own_iload X148h hx 488 (hb hby at_486) rfl ?_
      obtain ⟨_, _, ⟨T149, Lx149, kc149, nc149⟩, -, X149, ⟨Lc149, hQ149, lq149, yq149, zq149⟩, st149⟩ := Jvm.LawKit.callS X148h hx (y := (⟨"com/example/deltalog/deltalog/ColumnTypeWriteIntPinLaw", "kept", "([BIIIB)Z"⟩ : MethodName)) hown (mvT hZ (hw _ (List.mem_of_getElem? (i := 8) rfl))) (mvT hZ (hw _ (List.mem_of_getElem? (i := 9) rfl))) (mvT hZ (hw _ (List.mem_of_getElem? (i := 10) rfl))) (mvT hZ (hw _ (List.mem_of_getElem? (i := 11) rfl))) (by decide) (backOf (W := 0) (own_rm2 l Z a0 hw [] b1 (13 : Int32) aa (aa + len_52) ff k1 gg_52 T52.heap n0 Z53 G52_0 (by decide : (¬ (13 : Int32) < 0 ∧ (13 : Int32) < (24 : Int32)) ∧ (13 : Int32).toNatClampNeg < 24) (own_keep ha P52_1 P52_0 P52_2 (13 : Int32) (by decide) : (13 : Int32) < aa ∨ ¬ ((13 : Int32) < (aa + len_52)) → gg_52 (13 : Int32).toNatClampNeg = ff)) hZ (hw _ (List.mem_of_getElem? (i := 11) rfl)) (hw _ (List.mem_of_getElem? (i := 10) rfl)) (by decide) (by decide)) (g := (mkF m 488 #[.val (.long q1), .second, .val (.int v2), .val (.int v3), .val (.int v4), .val (.long qq), .second, .val (.int aa), .val (.int ff), .val (.ref b1), .val (.int (aa + len_52)), .val (.int (0 : Int32)), .val (.int aa), .unset, .unset, .unset] [(.int ff), (.int (aa + len_52)), (.int aa), (.int (13 : Int32)), (.ref b1)])) rfl (by rw [hml]; rfl) (argsL := [(.ref b1), (.int (13 : Int32)), (.int aa), (.int (aa + len_52)), (.int ff)]) (rest := []) (lenOf own_pd2 rfl) rfl (by show 2 * 0 + _ ≤ _; exact Nat.le_of_eq rfl) (hb hby at_488) (fun _ _ => ⟨rfl, eh148, (by decide : 1 + 0 ≤ _), (by decide : 24 + 0 ≤ _)⟩)
      dsimp only [Pt.U, Pt.locs, Pt.cells, Pt.slots] at X149 lq149 yq149 zq149 st149 hQ149
      subst lq149 yq149 zq149
      obtain ⟨rfl, Nq149, eh149⟩ := hQ149
      have N149 := Fr.app N148h Nq149
      refine own_st (G' := T149.setTop (mkF m 491 #[.val (.long q1), .second, .val (.int v2), .val (.int v3), .val (.int v4), .val (.long qq), .second, .val (.int aa), .val (.int ff), .val (.ref b1), .val (.int (aa + len_52)), .val (.int (0 : Int32)), .val (.int aa), .unset, .unset, .unset] [(.int (1 : Int32))])) st149 ?_
      obtain ⟨_, X149h, N149h⟩ := own_hide X149 N149
      refine own_ifNo X149h hx 494 (hb hby at_491) (feq (by decide : ¬ ((1 : Int32) = (0 : Int32)))).1 ?_
      refine own_aload X149h hx 496 (hb hby at_494) rfl rfl ?_
      refine own_bipush X149h hx 498 (14 : Int32) (hb hby at_496) rfl ?_
      refine own_iload X149h hx 500 (hb hby at_498) rfl ?_
      refine own_iload X149h hx 502 (hb hby at_500) rfl ?_
      refine own_iload X149h hx 504 (hb hby at_502) rfl ?_
      obtain ⟨_, _, ⟨T150, Lx150, kc150, nc150⟩, -, X150, ⟨Lc150, hQ150, lq150, yq150, zq150⟩, st150⟩ := Jvm.LawKit.callS X149h hx (y := (⟨"com/example/deltalog/deltalog/ColumnTypeWriteIntPinLaw", "kept", "([BIIIB)Z"⟩ : MethodName)) hown (mvT hZ (hw _ (List.mem_of_getElem? (i := 8) rfl))) (mvT hZ (hw _ (List.mem_of_getElem? (i := 9) rfl))) (mvT hZ (hw _ (List.mem_of_getElem? (i := 10) rfl))) (mvT hZ (hw _ (List.mem_of_getElem? (i := 11) rfl))) (by decide) (backOf (W := 0) (own_rm2 l Z a0 hw [] b1 (14 : Int32) aa (aa + len_52) ff k1 gg_52 T52.heap n0 Z53 G52_0 (by decide : (¬ (14 : Int32) < 0 ∧ (14 : Int32) < (24 : Int32)) ∧ (14 : Int32).toNatClampNeg < 24) (own_keep ha P52_1 P52_0 P52_2 (14 : Int32) (by decide) : (14 : Int32) < aa ∨ ¬ ((14 : Int32) < (aa + len_52)) → gg_52 (14 : Int32).toNatClampNeg = ff)) hZ (hw _ (List.mem_of_getElem? (i := 11) rfl)) (hw _ (List.mem_of_getElem? (i := 10) rfl)) (by decide) (by decide)) (g := (mkF m 504 #[.val (.long q1), .second, .val (.int v2), .val (.int v3), .val (.int v4), .val (.long qq), .second, .val (.int aa), .val (.int ff), .val (.ref b1), .val (.int (aa + len_52)), .val (.int (0 : Int32)), .val (.int aa), .unset, .unset, .unset] [(.int ff), (.int (aa + len_52)), (.int aa), (.int (14 : Int32)), (.ref b1)])) rfl (by rw [hml]; rfl) (argsL := [(.ref b1), (.int (14 : Int32)), (.int aa), (.int (aa + len_52)), (.int ff)]) (rest := []) (lenOf own_pd2 rfl) rfl (by show 2 * 0 + _ ≤ _; exact Nat.le_of_eq rfl) (hb hby at_504) (fun _ _ => ⟨rfl, eh149, (by decide : 1 + 0 ≤ _), (by decide : 24 + 0 ≤ _)⟩)
      dsimp only [Pt.U, Pt.locs, Pt.cells, Pt.slots] at X150 lq150 yq150 zq150 st150 hQ150
      subst lq150 yq150 zq150
      obtain ⟨rfl, Nq150, eh150⟩ := hQ150
      have N150 := Fr.app N149h Nq150
      refine own_st (G' := T150.setTop (mkF m 507 #[.val (.long q1), .second, .val (.int v2), .val (.int v3), .val (.int v4), .val (.long qq), .second, .val (.int aa), .val (.int ff), .val (.ref b1), .val (.int (aa + len_52)), .val (.int (0 : Int32)), .val (.int aa), .unset, .unset, .unset] [(.int (1 : Int32))])) st150 ?_
      obtain ⟨_, X150h, N150h⟩ := own_hide X150 N150
      refine own_ifNo X150h hx 510 (hb hby at_507) (feq (by decide : ¬ ((1 : Int32) = (0 : Int32)))).1 ?_
      refine own_aload X150h hx 512 (hb hby at_510) rfl rfl ?_
      refine own_bipush X150h hx 514 (15 : Int32) (hb hby at_512) rfl ?_
      refine own_iload X150h hx 516 (hb hby at_514) rfl ?_
      refine own_iload X150h hx 518 (hb hby at_516) rfl ?_
      refine own_iload X150h hx 520 (hb hby at_518) rfl ?_
      obtain ⟨_, _, ⟨T151, Lx151, kc151, nc151⟩, -, X151, ⟨Lc151, hQ151, lq151, yq151, zq151⟩, st151⟩ := Jvm.LawKit.callS X150h hx (y := (⟨"com/example/deltalog/deltalog/ColumnTypeWriteIntPinLaw", "kept", "([BIIIB)Z"⟩ : MethodName)) hown (mvT hZ (hw _ (List.mem_of_getElem? (i := 8) rfl))) (mvT hZ (hw _ (List.mem_of_getElem? (i := 9) rfl))) (mvT hZ (hw _ (List.mem_of_getElem? (i := 10) rfl))) (mvT hZ (hw _ (List.mem_of_getElem? (i := 11) rfl))) (by decide) (backOf (W := 0) (own_rm2 l Z a0 hw [] b1 (15 : Int32) aa (aa + len_52) ff k1 gg_52 T52.heap n0 Z53 G52_0 (by decide : (¬ (15 : Int32) < 0 ∧ (15 : Int32) < (24 : Int32)) ∧ (15 : Int32).toNatClampNeg < 24) (own_keep ha P52_1 P52_0 P52_2 (15 : Int32) (by decide) : (15 : Int32) < aa ∨ ¬ ((15 : Int32) < (aa + len_52)) → gg_52 (15 : Int32).toNatClampNeg = ff)) hZ (hw _ (List.mem_of_getElem? (i := 11) rfl)) (hw _ (List.mem_of_getElem? (i := 10) rfl)) (by decide) (by decide)) (g := (mkF m 520 #[.val (.long q1), .second, .val (.int v2), .val (.int v3), .val (.int v4), .val (.long qq), .second, .val (.int aa), .val (.int ff), .val (.ref b1), .val (.int (aa + len_52)), .val (.int (0 : Int32)), .val (.int aa), .unset, .unset, .unset] [(.int ff), (.int (aa + len_52)), (.int aa), (.int (15 : Int32)), (.ref b1)])) rfl (by rw [hml]; rfl) (argsL := [(.ref b1), (.int (15 : Int32)), (.int aa), (.int (aa + len_52)), (.int ff)]) (rest := []) (lenOf own_pd2 rfl) rfl (by show 2 * 0 + _ ≤ _; exact Nat.le_of_eq rfl) (hb hby at_520) (fun _ _ => ⟨rfl, eh150, (by decide : 1 + 0 ≤ _), (by decide : 24 + 0 ≤ _)⟩)
      dsimp only [Pt.U, Pt.locs, Pt.cells, Pt.slots] at X151 lq151 yq151 zq151 st151 hQ151
      subst lq151 yq151 zq151
      obtain ⟨rfl, Nq151, eh151⟩ := hQ151
      have N151 := Fr.app N150h Nq151
      refine own_st (G' := T151.setTop (mkF m 523 #[.val (.long q1), .second, .val (.int v2), .val (.int v3), .val (.int v4), .val (.long qq), .second, .val (.int aa), .val (.int ff), .val (.ref b1), .val (.int (aa + len_52)), .val (.int (0 : Int32)), .val (.int aa), .unset, .unset, .unset] [(.int (1 : Int32))])) st151 ?_
      obtain ⟨_, X151h, N151h⟩ := own_hide X151 N151
      refine own_ifNo X151h hx 526 (hb hby at_523) (feq (by decide : ¬ ((1 : Int32) = (0 : Int32)))).1 ?_
      refine own_aload X151h hx 528 (hb hby at_526) rfl rfl ?_
      refine own_bipush X151h hx 530 (16 : Int32) (hb hby at_528) rfl ?_
      refine own_iload X151h hx 532 (hb hby at_530) rfl ?_
      refine own_iload X151h hx 534 (hb hby at_532) rfl ?_
      refine own_iload X151h hx 536 (hb hby at_534) rfl ?_
      obtain ⟨_, _, ⟨T152, Lx152, kc152, nc152⟩, -, X152, ⟨Lc152, hQ152, lq152, yq152, zq152⟩, st152⟩ := Jvm.LawKit.callS X151h hx (y := (⟨"com/example/deltalog/deltalog/ColumnTypeWriteIntPinLaw", "kept", "([BIIIB)Z"⟩ : MethodName)) hown (mvT hZ (hw _ (List.mem_of_getElem? (i := 8) rfl))) (mvT hZ (hw _ (List.mem_of_getElem? (i := 9) rfl))) (mvT hZ (hw _ (List.mem_of_getElem? (i := 10) rfl))) (mvT hZ (hw _ (List.mem_of_getElem? (i := 11) rfl))) (by decide) (backOf (W := 0) (own_rm2 l Z a0 hw [] b1 (16 : Int32) aa (aa + len_52) ff k1 gg_52 T52.heap n0 Z53 G52_0 (by decide : (¬ (16 : Int32) < 0 ∧ (16 : Int32) < (24 : Int32)) ∧ (16 : Int32).toNatClampNeg < 24) (own_keep ha P52_1 P52_0 P52_2 (16 : Int32) (by decide) : (16 : Int32) < aa ∨ ¬ ((16 : Int32) < (aa + len_52)) → gg_52 (16 : Int32).toNatClampNeg = ff)) hZ (hw _ (List.mem_of_getElem? (i := 11) rfl)) (hw _ (List.mem_of_getElem? (i := 10) rfl)) (by decide) (by decide)) (g := (mkF m 536 #[.val (.long q1), .second, .val (.int v2), .val (.int v3), .val (.int v4), .val (.long qq), .second, .val (.int aa), .val (.int ff), .val (.ref b1), .val (.int (aa + len_52)), .val (.int (0 : Int32)), .val (.int aa), .unset, .unset, .unset] [(.int ff), (.int (aa + len_52)), (.int aa), (.int (16 : Int32)), (.ref b1)])) rfl (by rw [hml]; rfl) (argsL := [(.ref b1), (.int (16 : Int32)), (.int aa), (.int (aa + len_52)), (.int ff)]) (rest := []) (lenOf own_pd2 rfl) rfl (by show 2 * 0 + _ ≤ _; exact Nat.le_of_eq rfl) (hb hby at_536) (fun _ _ => ⟨rfl, eh151, (by decide : 1 + 0 ≤ _), (by decide : 24 + 0 ≤ _)⟩)
      dsimp only [Pt.U, Pt.locs, Pt.cells, Pt.slots] at X152 lq152 yq152 zq152 st152 hQ152
      subst lq152 yq152 zq152
      obtain ⟨rfl, Nq152, eh152⟩ := hQ152
      have N152 := Fr.app N151h Nq152
      refine own_st (G' := T152.setTop (mkF m 539 #[.val (.long q1), .second, .val (.int v2), .val (.int v3), .val (.int v4), .val (.long qq), .second, .val (.int aa), .val (.int ff), .val (.ref b1), .val (.int (aa + len_52)), .val (.int (0 : Int32)), .val (.int aa), .unset, .unset, .unset] [(.int (1 : Int32))])) st152 ?_
      obtain ⟨_, X152h, N152h⟩ := own_hide X152 N152
      refine own_ifNo X152h hx 542 (hb hby at_539) (feq (by decide : ¬ ((1 : Int32) = (0 : Int32)))).1 ?_
      refine own_aload X152h hx 544 (hb hby at_542) rfl rfl ?_
      refine own_bipush X152h hx 546 (17 : Int32) (hb hby at_544) rfl ?_
      refine own_iload X152h hx 548 (hb hby at_546) rfl ?_
      refine own_iload X152h hx 550 (hb hby at_548) rfl ?_
      refine own_iload X152h hx 552 (hb hby at_550) rfl ?_
      obtain ⟨_, _, ⟨T153, Lx153, kc153, nc153⟩, -, X153, ⟨Lc153, hQ153, lq153, yq153, zq153⟩, st153⟩ := Jvm.LawKit.callS X152h hx (y := (⟨"com/example/deltalog/deltalog/ColumnTypeWriteIntPinLaw", "kept", "([BIIIB)Z"⟩ : MethodName)) hown (mvT hZ (hw _ (List.mem_of_getElem? (i := 8) rfl))) (mvT hZ (hw _ (List.mem_of_getElem? (i := 9) rfl))) (mvT hZ (hw _ (List.mem_of_getElem? (i := 10) rfl))) (mvT hZ (hw _ (List.mem_of_getElem? (i := 11) rfl))) (by decide) (backOf (W := 0) (own_rm2 l Z a0 hw [] b1 (17 : Int32) aa (aa + len_52) ff k1 gg_52 T52.heap n0 Z53 G52_0 (by decide : (¬ (17 : Int32) < 0 ∧ (17 : Int32) < (24 : Int32)) ∧ (17 : Int32).toNatClampNeg < 24) (own_keep ha P52_1 P52_0 P52_2 (17 : Int32) (by decide) : (17 : Int32) < aa ∨ ¬ ((17 : Int32) < (aa + len_52)) → gg_52 (17 : Int32).toNatClampNeg = ff)) hZ (hw _ (List.mem_of_getElem? (i := 11) rfl)) (hw _ (List.mem_of_getElem? (i := 10) rfl)) (by decide) (by decide)) (g := (mkF m 552 #[.val (.long q1), .second, .val (.int v2), .val (.int v3), .val (.int v4), .val (.long qq), .second, .val (.int aa), .val (.int ff), .val (.ref b1), .val (.int (aa + len_52)), .val (.int (0 : Int32)), .val (.int aa), .unset, .unset, .unset] [(.int ff), (.int (aa + len_52)), (.int aa), (.int (17 : Int32)), (.ref b1)])) rfl (by rw [hml]; rfl) (argsL := [(.ref b1), (.int (17 : Int32)), (.int aa), (.int (aa + len_52)), (.int ff)]) (rest := []) (lenOf own_pd2 rfl) rfl (by show 2 * 0 + _ ≤ _; exact Nat.le_of_eq rfl) (hb hby at_552) (fun _ _ => ⟨rfl, eh152, (by decide : 1 + 0 ≤ _), (by decide : 24 + 0 ≤ _)⟩)
      dsimp only [Pt.U, Pt.locs, Pt.cells, Pt.slots] at X153 lq153 yq153 zq153 st153 hQ153
      subst lq153 yq153 zq153
      obtain ⟨rfl, Nq153, eh153⟩ := hQ153
      have N153 := Fr.app N152h Nq153
      refine own_st (G' := T153.setTop (mkF m 555 #[.val (.long q1), .second, .val (.int v2), .val (.int v3), .val (.int v4), .val (.long qq), .second, .val (.int aa), .val (.int ff), .val (.ref b1), .val (.int (aa + len_52)), .val (.int (0 : Int32)), .val (.int aa), .unset, .unset, .unset] [(.int (1 : Int32))])) st153 ?_
      obtain ⟨_, X153h, N153h⟩ := own_hide X153 N153
      refine own_ifNo X153h hx 558 (hb hby at_555) (feq (by decide : ¬ ((1 : Int32) = (0 : Int32)))).1 ?_
      refine own_aload X153h hx 560 (hb hby at_558) rfl rfl ?_
      refine own_bipush X153h hx 562 (18 : Int32) (hb hby at_560) rfl ?_
      refine own_iload X153h hx 564 (hb hby at_562) rfl ?_
      refine own_iload X153h hx 566 (hb hby at_564) rfl ?_
      refine own_iload X153h hx 568 (hb hby at_566) rfl ?_
      obtain ⟨_, _, ⟨T154, Lx154, kc154, nc154⟩, -, X154, ⟨Lc154, hQ154, lq154, yq154, zq154⟩, st154⟩ := Jvm.LawKit.callS X153h hx (y := (⟨"com/example/deltalog/deltalog/ColumnTypeWriteIntPinLaw", "kept", "([BIIIB)Z"⟩ : MethodName)) hown (mvT hZ (hw _ (List.mem_of_getElem? (i := 8) rfl))) (mvT hZ (hw _ (List.mem_of_getElem? (i := 9) rfl))) (mvT hZ (hw _ (List.mem_of_getElem? (i := 10) rfl))) (mvT hZ (hw _ (List.mem_of_getElem? (i := 11) rfl))) (by decide) (backOf (W := 0) (own_rm2 l Z a0 hw [] b1 (18 : Int32) aa (aa + len_52) ff k1 gg_52 T52.heap n0 Z53 G52_0 (by decide : (¬ (18 : Int32) < 0 ∧ (18 : Int32) < (24 : Int32)) ∧ (18 : Int32).toNatClampNeg < 24) (own_keep ha P52_1 P52_0 P52_2 (18 : Int32) (by decide) : (18 : Int32) < aa ∨ ¬ ((18 : Int32) < (aa + len_52)) → gg_52 (18 : Int32).toNatClampNeg = ff)) hZ (hw _ (List.mem_of_getElem? (i := 11) rfl)) (hw _ (List.mem_of_getElem? (i := 10) rfl)) (by decide) (by decide)) (g := (mkF m 568 #[.val (.long q1), .second, .val (.int v2), .val (.int v3), .val (.int v4), .val (.long qq), .second, .val (.int aa), .val (.int ff), .val (.ref b1), .val (.int (aa + len_52)), .val (.int (0 : Int32)), .val (.int aa), .unset, .unset, .unset] [(.int ff), (.int (aa + len_52)), (.int aa), (.int (18 : Int32)), (.ref b1)])) rfl (by rw [hml]; rfl) (argsL := [(.ref b1), (.int (18 : Int32)), (.int aa), (.int (aa + len_52)), (.int ff)]) (rest := []) (lenOf own_pd2 rfl) rfl (by show 2 * 0 + _ ≤ _; exact Nat.le_of_eq rfl) (hb hby at_568) (fun _ _ => ⟨rfl, eh153, (by decide : 1 + 0 ≤ _), (by decide : 24 + 0 ≤ _)⟩)
      dsimp only [Pt.U, Pt.locs, Pt.cells, Pt.slots] at X154 lq154 yq154 zq154 st154 hQ154
      subst lq154 yq154 zq154
      obtain ⟨rfl, Nq154, eh154⟩ := hQ154
      have N154 := Fr.app N153h Nq154
      refine own_st (G' := T154.setTop (mkF m 571 #[.val (.long q1), .second, .val (.int v2), .val (.int v3), .val (.int v4), .val (.long qq), .second, .val (.int aa), .val (.int ff), .val (.ref b1), .val (.int (aa + len_52)), .val (.int (0 : Int32)), .val (.int aa), .unset, .unset, .unset] [(.int (1 : Int32))])) st154 ?_
      obtain ⟨_, X154h, N154h⟩ := own_hide X154 N154
      refine own_ifNo X154h hx 574 (hb hby at_571) (feq (by decide : ¬ ((1 : Int32) = (0 : Int32)))).1 ?_
      refine own_aload X154h hx 576 (hb hby at_574) rfl rfl ?_
      refine own_bipush X154h hx 578 (19 : Int32) (hb hby at_576) rfl ?_
      refine own_iload X154h hx 580 (hb hby at_578) rfl ?_
      refine own_iload X154h hx 582 (hb hby at_580) rfl ?_
      refine own_iload X154h hx 584 (hb hby at_582) rfl ?_
      obtain ⟨_, _, ⟨T155, Lx155, kc155, nc155⟩, -, X155, ⟨Lc155, hQ155, lq155, yq155, zq155⟩, st155⟩ := Jvm.LawKit.callS X154h hx (y := (⟨"com/example/deltalog/deltalog/ColumnTypeWriteIntPinLaw", "kept", "([BIIIB)Z"⟩ : MethodName)) hown (mvT hZ (hw _ (List.mem_of_getElem? (i := 8) rfl))) (mvT hZ (hw _ (List.mem_of_getElem? (i := 9) rfl))) (mvT hZ (hw _ (List.mem_of_getElem? (i := 10) rfl))) (mvT hZ (hw _ (List.mem_of_getElem? (i := 11) rfl))) (by decide) (backOf (W := 0) (own_rm2 l Z a0 hw [] b1 (19 : Int32) aa (aa + len_52) ff k1 gg_52 T52.heap n0 Z53 G52_0 (by decide : (¬ (19 : Int32) < 0 ∧ (19 : Int32) < (24 : Int32)) ∧ (19 : Int32).toNatClampNeg < 24) (own_keep ha P52_1 P52_0 P52_2 (19 : Int32) (by decide) : (19 : Int32) < aa ∨ ¬ ((19 : Int32) < (aa + len_52)) → gg_52 (19 : Int32).toNatClampNeg = ff)) hZ (hw _ (List.mem_of_getElem? (i := 11) rfl)) (hw _ (List.mem_of_getElem? (i := 10) rfl)) (by decide) (by decide)) (g := (mkF m 584 #[.val (.long q1), .second, .val (.int v2), .val (.int v3), .val (.int v4), .val (.long qq), .second, .val (.int aa), .val (.int ff), .val (.ref b1), .val (.int (aa + len_52)), .val (.int (0 : Int32)), .val (.int aa), .unset, .unset, .unset] [(.int ff), (.int (aa + len_52)), (.int aa), (.int (19 : Int32)), (.ref b1)])) rfl (by rw [hml]; rfl) (argsL := [(.ref b1), (.int (19 : Int32)), (.int aa), (.int (aa + len_52)), (.int ff)]) (rest := []) (lenOf own_pd2 rfl) rfl (by show 2 * 0 + _ ≤ _; exact Nat.le_of_eq rfl) (hb hby at_584) (fun _ _ => ⟨rfl, eh154, (by decide : 1 + 0 ≤ _), (by decide : 24 + 0 ≤ _)⟩)
      dsimp only [Pt.U, Pt.locs, Pt.cells, Pt.slots] at X155 lq155 yq155 zq155 st155 hQ155
      subst lq155 yq155 zq155
      obtain ⟨rfl, Nq155, eh155⟩ := hQ155
      have N155 := Fr.app N154h Nq155
      refine own_st (G' := T155.setTop (mkF m 587 #[.val (.long q1), .second, .val (.int v2), .val (.int v3), .val (.int v4), .val (.long qq), .second, .val (.int aa), .val (.int ff), .val (.ref b1), .val (.int (aa + len_52)), .val (.int (0 : Int32)), .val (.int aa), .unset, .unset, .unset] [(.int (1 : Int32))])) st155 ?_
      obtain ⟨_, X155h, N155h⟩ := own_hide X155 N155
      refine own_ifNo X155h hx 590 (hb hby at_587) (feq (by decide : ¬ ((1 : Int32) = (0 : Int32)))).1 ?_
      refine own_aload X155h hx 592 (hb hby at_590) rfl rfl ?_
      refine own_bipush X155h hx 594 (20 : Int32) (hb hby at_592) rfl ?_
      refine own_iload X155h hx 596 (hb hby at_594) rfl ?_
      refine own_iload X155h hx 598 (hb hby at_596) rfl ?_
      refine own_iload X155h hx 600 (hb hby at_598) rfl ?_
      obtain ⟨_, _, ⟨T156, Lx156, kc156, nc156⟩, -, X156, ⟨Lc156, hQ156, lq156, yq156, zq156⟩, st156⟩ := Jvm.LawKit.callS X155h hx (y := (⟨"com/example/deltalog/deltalog/ColumnTypeWriteIntPinLaw", "kept", "([BIIIB)Z"⟩ : MethodName)) hown (mvT hZ (hw _ (List.mem_of_getElem? (i := 8) rfl))) (mvT hZ (hw _ (List.mem_of_getElem? (i := 9) rfl))) (mvT hZ (hw _ (List.mem_of_getElem? (i := 10) rfl))) (mvT hZ (hw _ (List.mem_of_getElem? (i := 11) rfl))) (by decide) (backOf (W := 0) (own_rm2 l Z a0 hw [] b1 (20 : Int32) aa (aa + len_52) ff k1 gg_52 T52.heap n0 Z53 G52_0 (by decide : (¬ (20 : Int32) < 0 ∧ (20 : Int32) < (24 : Int32)) ∧ (20 : Int32).toNatClampNeg < 24) (own_keep ha P52_1 P52_0 P52_2 (20 : Int32) (by decide) : (20 : Int32) < aa ∨ ¬ ((20 : Int32) < (aa + len_52)) → gg_52 (20 : Int32).toNatClampNeg = ff)) hZ (hw _ (List.mem_of_getElem? (i := 11) rfl)) (hw _ (List.mem_of_getElem? (i := 10) rfl)) (by decide) (by decide)) (g := (mkF m 600 #[.val (.long q1), .second, .val (.int v2), .val (.int v3), .val (.int v4), .val (.long qq), .second, .val (.int aa), .val (.int ff), .val (.ref b1), .val (.int (aa + len_52)), .val (.int (0 : Int32)), .val (.int aa), .unset, .unset, .unset] [(.int ff), (.int (aa + len_52)), (.int aa), (.int (20 : Int32)), (.ref b1)])) rfl (by rw [hml]; rfl) (argsL := [(.ref b1), (.int (20 : Int32)), (.int aa), (.int (aa + len_52)), (.int ff)]) (rest := []) (lenOf own_pd2 rfl) rfl (by show 2 * 0 + _ ≤ _; exact Nat.le_of_eq rfl) (hb hby at_600) (fun _ _ => ⟨rfl, eh155, (by decide : 1 + 0 ≤ _), (by decide : 24 + 0 ≤ _)⟩)
      dsimp only [Pt.U, Pt.locs, Pt.cells, Pt.slots] at X156 lq156 yq156 zq156 st156 hQ156
      subst lq156 yq156 zq156
      obtain ⟨rfl, Nq156, eh156⟩ := hQ156
      have N156 := Fr.app N155h Nq156
      refine own_st (G' := T156.setTop (mkF m 603 #[.val (.long q1), .second, .val (.int v2), .val (.int v3), .val (.int v4), .val (.long qq), .second, .val (.int aa), .val (.int ff), .val (.ref b1), .val (.int (aa + len_52)), .val (.int (0 : Int32)), .val (.int aa), .unset, .unset, .unset] [(.int (1 : Int32))])) st156 ?_
      obtain ⟨_, X156h, N156h⟩ := own_hide X156 N156
      refine own_ifNo X156h hx 606 (hb hby at_603) (feq (by decide : ¬ ((1 : Int32) = (0 : Int32)))).1 ?_
      refine own_aload X156h hx 608 (hb hby at_606) rfl rfl ?_
      refine own_bipush X156h hx 610 (21 : Int32) (hb hby at_608) rfl ?_
      refine own_iload X156h hx 612 (hb hby at_610) rfl ?_
      refine own_iload X156h hx 614 (hb hby at_612) rfl ?_
      refine own_iload X156h hx 616 (hb hby at_614) rfl ?_
      obtain ⟨_, _, ⟨T157, Lx157, kc157, nc157⟩, -, X157, ⟨Lc157, hQ157, lq157, yq157, zq157⟩, st157⟩ := Jvm.LawKit.callS X156h hx (y := (⟨"com/example/deltalog/deltalog/ColumnTypeWriteIntPinLaw", "kept", "([BIIIB)Z"⟩ : MethodName)) hown (mvT hZ (hw _ (List.mem_of_getElem? (i := 8) rfl))) (mvT hZ (hw _ (List.mem_of_getElem? (i := 9) rfl))) (mvT hZ (hw _ (List.mem_of_getElem? (i := 10) rfl))) (mvT hZ (hw _ (List.mem_of_getElem? (i := 11) rfl))) (by decide) (backOf (W := 0) (own_rm2 l Z a0 hw [] b1 (21 : Int32) aa (aa + len_52) ff k1 gg_52 T52.heap n0 Z53 G52_0 (by decide : (¬ (21 : Int32) < 0 ∧ (21 : Int32) < (24 : Int32)) ∧ (21 : Int32).toNatClampNeg < 24) (own_keep ha P52_1 P52_0 P52_2 (21 : Int32) (by decide) : (21 : Int32) < aa ∨ ¬ ((21 : Int32) < (aa + len_52)) → gg_52 (21 : Int32).toNatClampNeg = ff)) hZ (hw _ (List.mem_of_getElem? (i := 11) rfl)) (hw _ (List.mem_of_getElem? (i := 10) rfl)) (by decide) (by decide)) (g := (mkF m 616 #[.val (.long q1), .second, .val (.int v2), .val (.int v3), .val (.int v4), .val (.long qq), .second, .val (.int aa), .val (.int ff), .val (.ref b1), .val (.int (aa + len_52)), .val (.int (0 : Int32)), .val (.int aa), .unset, .unset, .unset] [(.int ff), (.int (aa + len_52)), (.int aa), (.int (21 : Int32)), (.ref b1)])) rfl (by rw [hml]; rfl) (argsL := [(.ref b1), (.int (21 : Int32)), (.int aa), (.int (aa + len_52)), (.int ff)]) (rest := []) (lenOf own_pd2 rfl) rfl (by show 2 * 0 + _ ≤ _; exact Nat.le_of_eq rfl) (hb hby at_616) (fun _ _ => ⟨rfl, eh156, (by decide : 1 + 0 ≤ _), (by decide : 24 + 0 ≤ _)⟩)
      dsimp only [Pt.U, Pt.locs, Pt.cells, Pt.slots] at X157 lq157 yq157 zq157 st157 hQ157
      subst lq157 yq157 zq157
      obtain ⟨rfl, Nq157, eh157⟩ := hQ157
      have N157 := Fr.app N156h Nq157
      refine own_st (G' := T157.setTop (mkF m 619 #[.val (.long q1), .second, .val (.int v2), .val (.int v3), .val (.int v4), .val (.long qq), .second, .val (.int aa), .val (.int ff), .val (.ref b1), .val (.int (aa + len_52)), .val (.int (0 : Int32)), .val (.int aa), .unset, .unset, .unset] [(.int (1 : Int32))])) st157 ?_
      obtain ⟨_, X157h, N157h⟩ := own_hide X157 N157
      refine own_ifNo X157h hx 622 (hb hby at_619) (feq (by decide : ¬ ((1 : Int32) = (0 : Int32)))).1 ?_
      refine own_aload X157h hx 624 (hb hby at_622) rfl rfl ?_
      refine own_bipush X157h hx 626 (22 : Int32) (hb hby at_624) rfl ?_
      refine own_iload X157h hx 628 (hb hby at_626) rfl ?_
      refine own_iload X157h hx 630 (hb hby at_628) rfl ?_
      refine own_iload X157h hx 632 (hb hby at_630) rfl ?_
      obtain ⟨_, _, ⟨T158, Lx158, kc158, nc158⟩, -, X158, ⟨Lc158, hQ158, lq158, yq158, zq158⟩, st158⟩ := Jvm.LawKit.callS X157h hx (y := (⟨"com/example/deltalog/deltalog/ColumnTypeWriteIntPinLaw", "kept", "([BIIIB)Z"⟩ : MethodName)) hown (mvT hZ (hw _ (List.mem_of_getElem? (i := 8) rfl))) (mvT hZ (hw _ (List.mem_of_getElem? (i := 9) rfl))) (mvT hZ (hw _ (List.mem_of_getElem? (i := 10) rfl))) (mvT hZ (hw _ (List.mem_of_getElem? (i := 11) rfl))) (by decide) (backOf (W := 0) (own_rm2 l Z a0 hw [] b1 (22 : Int32) aa (aa + len_52) ff k1 gg_52 T52.heap n0 Z53 G52_0 (by decide : (¬ (22 : Int32) < 0 ∧ (22 : Int32) < (24 : Int32)) ∧ (22 : Int32).toNatClampNeg < 24) (own_keep ha P52_1 P52_0 P52_2 (22 : Int32) (by decide) : (22 : Int32) < aa ∨ ¬ ((22 : Int32) < (aa + len_52)) → gg_52 (22 : Int32).toNatClampNeg = ff)) hZ (hw _ (List.mem_of_getElem? (i := 11) rfl)) (hw _ (List.mem_of_getElem? (i := 10) rfl)) (by decide) (by decide)) (g := (mkF m 632 #[.val (.long q1), .second, .val (.int v2), .val (.int v3), .val (.int v4), .val (.long qq), .second, .val (.int aa), .val (.int ff), .val (.ref b1), .val (.int (aa + len_52)), .val (.int (0 : Int32)), .val (.int aa), .unset, .unset, .unset] [(.int ff), (.int (aa + len_52)), (.int aa), (.int (22 : Int32)), (.ref b1)])) rfl (by rw [hml]; rfl) (argsL := [(.ref b1), (.int (22 : Int32)), (.int aa), (.int (aa + len_52)), (.int ff)]) (rest := []) (lenOf own_pd2 rfl) rfl (by show 2 * 0 + _ ≤ _; exact Nat.le_of_eq rfl) (hb hby at_632) (fun _ _ => ⟨rfl, eh157, (by decide : 1 + 0 ≤ _), (by decide : 24 + 0 ≤ _)⟩)
      dsimp only [Pt.U, Pt.locs, Pt.cells, Pt.slots] at X158 lq158 yq158 zq158 st158 hQ158
      subst lq158 yq158 zq158
      obtain ⟨rfl, Nq158, eh158⟩ := hQ158
      have N158 := Fr.app N157h Nq158
      refine own_st (G' := T158.setTop (mkF m 635 #[.val (.long q1), .second, .val (.int v2), .val (.int v3), .val (.int v4), .val (.long qq), .second, .val (.int aa), .val (.int ff), .val (.ref b1), .val (.int (aa + len_52)), .val (.int (0 : Int32)), .val (.int aa), .unset, .unset, .unset] [(.int (1 : Int32))])) st158 ?_
      obtain ⟨_, X158h, N158h⟩ := own_hide X158 N158
      refine own_ifNo X158h hx 638 (hb hby at_635) (feq (by decide : ¬ ((1 : Int32) = (0 : Int32)))).1 ?_
      refine own_aload X158h hx 640 (hb hby at_638) rfl rfl ?_
      refine own_bipush X158h hx 642 (23 : Int32) (hb hby at_640) rfl ?_
      refine own_iload X158h hx 644 (hb hby at_642) rfl ?_
      refine own_iload X158h hx 646 (hb hby at_644) rfl ?_
      refine own_iload X158h hx 648 (hb hby at_646) rfl ?_
      obtain ⟨_, _, ⟨T159, Lx159, kc159, nc159⟩, -, X159, ⟨Lc159, hQ159, lq159, yq159, zq159⟩, st159⟩ := Jvm.LawKit.callS X158h hx (y := (⟨"com/example/deltalog/deltalog/ColumnTypeWriteIntPinLaw", "kept", "([BIIIB)Z"⟩ : MethodName)) hown (mvT hZ (hw _ (List.mem_of_getElem? (i := 8) rfl))) (mvT hZ (hw _ (List.mem_of_getElem? (i := 9) rfl))) (mvT hZ (hw _ (List.mem_of_getElem? (i := 10) rfl))) (mvT hZ (hw _ (List.mem_of_getElem? (i := 11) rfl))) (by decide) (backOf (W := 0) (own_rm2 l Z a0 hw [] b1 (23 : Int32) aa (aa + len_52) ff k1 gg_52 T52.heap n0 Z53 G52_0 (by decide : (¬ (23 : Int32) < 0 ∧ (23 : Int32) < (24 : Int32)) ∧ (23 : Int32).toNatClampNeg < 24) (own_keep ha P52_1 P52_0 P52_2 (23 : Int32) (by decide) : (23 : Int32) < aa ∨ ¬ ((23 : Int32) < (aa + len_52)) → gg_52 (23 : Int32).toNatClampNeg = ff)) hZ (hw _ (List.mem_of_getElem? (i := 11) rfl)) (hw _ (List.mem_of_getElem? (i := 10) rfl)) (by decide) (by decide)) (g := (mkF m 648 #[.val (.long q1), .second, .val (.int v2), .val (.int v3), .val (.int v4), .val (.long qq), .second, .val (.int aa), .val (.int ff), .val (.ref b1), .val (.int (aa + len_52)), .val (.int (0 : Int32)), .val (.int aa), .unset, .unset, .unset] [(.int ff), (.int (aa + len_52)), (.int aa), (.int (23 : Int32)), (.ref b1)])) rfl (by rw [hml]; rfl) (argsL := [(.ref b1), (.int (23 : Int32)), (.int aa), (.int (aa + len_52)), (.int ff)]) (rest := []) (lenOf own_pd2 rfl) rfl (by show 2 * 0 + _ ≤ _; exact Nat.le_of_eq rfl) (hb hby at_648) (fun _ _ => ⟨rfl, eh158, (by decide : 1 + 0 ≤ _), (by decide : 24 + 0 ≤ _)⟩)
      dsimp only [Pt.U, Pt.locs, Pt.cells, Pt.slots] at X159 lq159 yq159 zq159 st159 hQ159
      subst lq159 yq159 zq159
      obtain ⟨rfl, Nq159, eh159⟩ := hQ159
      have N159 := Fr.app N158h Nq159
      refine own_st (G' := T159.setTop (mkF m 651 #[.val (.long q1), .second, .val (.int v2), .val (.int v3), .val (.int v4), .val (.long qq), .second, .val (.int aa), .val (.int ff), .val (.ref b1), .val (.int (aa + len_52)), .val (.int (0 : Int32)), .val (.int aa), .unset, .unset, .unset] [(.int (1 : Int32))])) st159 ?_
      obtain ⟨_, X159h, N159h⟩ := own_hide X159 N159
      refine own_ifNo X159h hx 654 (hb hby at_651) (feq (by decide : ¬ ((1 : Int32) = (0 : Int32)))).1 ?_
      refine own_iconst X159h hx 655 (1 : Int32) (hb hby at_654) rfl ?_
      refine own_goto X159h hx 659 (hb hby at_655) ?_
      refine own_istore X159h hx 661 #[.val (.long q1), .second, .val (.int v2), .val (.int v3), .val (.int v4), .val (.long qq), .second, .val (.int aa), .val (.int ff), .val (.ref b1), .val (.int (aa + len_52)), .val (.int (0 : Int32)), .val (.int aa), .val (.int (1 : Int32)), .unset, .unset] (hb hby at_659) rfl ?_
      refine own_iload X159h hx 663 (hb hby at_661) rfl ?_
      refine own_ifYes X159h hx 668 (hb hby at_663) (feq (by decide : ¬ ((1 : Int32) = (0 : Int32)))).2 ?_
      refine own_aload X159h hx 670 (hb hby at_668) rfl rfl ?_
      refine own_iload X159h hx 672 (hb hby at_670) rfl ?_
      refine own_iload X159h hx 674 (hb hby at_672) rfl ?_
      obtain ⟨_, _, ⟨T160, Lx160, kc160, nc160⟩, -, X160, ⟨Lc160, hQ160, lq160, yq160, zq160⟩, st160⟩ := Jvm.LawKit.callS X159h hx (y := (⟨"com/example/deltalog/deltalog/ColumnType", "parseInt", "([BII)J"⟩ : MethodName)) hown (mvT hZ (hw _ (List.mem_of_getElem? (i := 12) rfl))) (mvT hZ (hw _ (List.mem_of_getElem? (i := 13) rfl))) (mvT hZ (hw _ (List.mem_of_getElem? (i := 3) rfl))) (mvT hZ (hw _ (List.mem_of_getElem? (i := 14) rfl))) (by decide) (backOf (W := 0) (own_rm3 l Z a0 hw [] b1 aa (aa + len_52) qq D_52 k1 gg_52 (fun _ => ff) T52.heap n0 Z53 G52_0 (ha : 0 ≤ aa.toInt ∧ aa.toInt ≤ 3) (by have q := own_end ha P52_1 P52_0; omega : (aa + len_52).toInt = aa.toInt + ((own_l0 qq + D_52 : Nat) : Int)) (P52_1 : (D_52 = 0 ∨ 10 ^ D_52 ≤ qq.toInt.natAbs) ∧ qq.toInt.natAbs < 10 ^ (D_52 + 1)) (P52_2 : ∀ y, gg_52 y = own_out qq D_52 aa.toInt.toNat (fun _ => ff) y)) hZ (hw _ (List.mem_of_getElem? (i := 14) rfl)) (hw _ (List.mem_of_getElem? (i := 3) rfl)) (by decide) (by decide)) (g := (mkF m 674 #[.val (.long q1), .second, .val (.int v2), .val (.int v3), .val (.int v4), .val (.long qq), .second, .val (.int aa), .val (.int ff), .val (.ref b1), .val (.int (aa + len_52)), .val (.int (0 : Int32)), .val (.int aa), .val (.int (1 : Int32)), .unset, .unset] [(.int (aa + len_52)), (.int aa), (.ref b1)])) rfl (by rw [hml]; rfl) (argsL := [(.ref b1), (.int aa), (.int (aa + len_52))]) (rest := []) (lenOf own_pd3 rfl) rfl (by show 2 * 0 + _ ≤ _; exact Nat.le_of_eq rfl) (hb hby at_674) (fun _ _ => ⟨rfl, eh159, (by decide : 1 + 0 ≤ _), (by decide : 24 + 0 ≤ _)⟩)
      dsimp only [Pt.U, Pt.locs, Pt.cells, Pt.slots] at X160 lq160 yq160 zq160 st160 hQ160
      subst lq160 yq160 zq160
      obtain ⟨rfl, Nq160, eh160⟩ := hQ160
      have N160 := Fr.app N159h Nq160
      refine own_st (G' := T160.setTop (mkF m 677 #[.val (.long q1), .second, .val (.int v2), .val (.int v3), .val (.int v4), .val (.long qq), .second, .val (.int aa), .val (.int ff), .val (.ref b1), .val (.int (aa + len_52)), .val (.int (0 : Int32)), .val (.int aa), .val (.int (1 : Int32)), .unset, .unset] [(.long qq)])) st160 ?_
      obtain ⟨_, X160h, N160h⟩ := own_hide X160 N160
      refine own_lstore X160h hx 679 #[.val (.long q1), .second, .val (.int v2), .val (.int v3), .val (.int v4), .val (.long qq), .second, .val (.int aa), .val (.int ff), .val (.ref b1), .val (.int (aa + len_52)), .val (.int (0 : Int32)), .val (.int aa), .val (.int (1 : Int32)), .val (.long qq), .second] (hb hby at_677) rfl ?_
      refine own_lload X160h hx 681 (hb hby at_679) rfl ?_
      refine own_lload X160h hx 683 (hb hby at_681) rfl ?_
      refine own_lcmp X160h hx 684 (hb hby at_683) ?_
      refine own_ifNo X160h hx 687 (hb hby at_684) (teq ((lw_eq _ _).mpr (rfl : qq = qq))).2 ?_
      refine own_iconst X160h hx 688 (1 : Int32) (hb hby at_687) rfl ?_
      refine own_goto X160h hx 692 (hb hby at_688) ?_
      exact own_retN (t := .boolean) (z := (1 : Int32)) (Q := own_Q0 Z q1 v2 v3 v4 h0 n0) X160h hx hrt (by simp) (hb hby at_692) hlk eh160 ⟨rfl, N160h⟩ (by decide) (by decide)
set_option maxRecDepth 65536 in
set_option maxHeartbeats 40000000 in
theorem own_comes {Post : Tables → Env → Array Value → State → Outcome → State → Prop} (hpost : ∀ tb e args s v u, (limb_1_1.after args s (.returned v) u = true ∧ limb_1_2.after args s (.returned v) u = true ∧ True) → FrameEnd s (.returned v) u (Jvm.fieldLocs frame_1_writes args s ++ Jvm.arrayLocs frame_1_arrays args s ++ Jvm.staticLocs frame_1_statics s) 16 128 → Post tb e args s (.returned v) u) :
    ArmFor flags0 classFile x code maxLocals ret World_1 tables_1 room_1 Calls_1 rest_1 Pre_1 Post := by
  intro l hfl _ _ p e ha hc hk s m args below hf hA hF happ hP
  obtain ⟨hcalls, hrest, hpre⟩ := hP
  obtain ⟨-, -, -, hnamed, -, -, -, hat⟩ := (Spec.applies_iff hf).mp happ
  obtain ⟨hg, hn⟩ := and_e (Cond.before_iff.mp (show (Jvm.Cond.and given_1 narrow_1).before args s = true from hpre))
  obtain ⟨g1, g2⟩ := and_e hg
  obtain ⟨g3, g4⟩ := and_e g2
  obtain ⟨g5, g6⟩ := and_e g4
  obtain ⟨g7, g8⟩ := and_e g6
  obtain ⟨w0, w1, w2, w3, rfl⟩ : ∃ w0 w1 w2 w3 : Value, args = #[w0, w1, w2, w3] := by
    have hs : args.size = 4 := by simpa [Cond.value, given_1] using g1
    obtain ⟨L⟩ := args
    match L, hs with
    | [w0, w1, w2, w3], _ => exact ⟨w0, w1, w2, w3, rfl⟩
  have hw := fun d (hd : d ∈ tables_1) => atoms_spec (ws := Jvm.Cond.code x code maxLocals ret :: tables_1) hat d (List.mem_cons_of_mem _ hd)
  have hfit : Fit s := fun {y c} hc i hi => by
    obtain ⟨ha, rfl⟩ := Array.getElem?_eq_some_iff.mp hc
    have q := List.all_eq_true.mp ((Array.all_eq_true_iff_forall_mem.mp hF) _ (Array.getElem_mem ha)) i (List.mem_range.mpr hi)
    simpa [Array.getElem?_eq_getElem hi] using q
  obtain ⟨i0, ei0⟩ := isL_v g3
  obtain rfl : w0 = (.long i0) := Option.some.inj ei0
  obtain ⟨i1, ei1⟩ := is_v g5
  obtain rfl : w1 = (.int i1) := Option.some.inj ei1
  obtain ⟨i2, ei2⟩ := is_v g7
  obtain rfl : w2 = (.int i2) := Option.some.inj ei2
  obtain ⟨i3, ei3⟩ := is_v g8
  obtain rfl : w3 = (.int i3) := Option.some.inj ei3
  obtain ⟨n, o, h1, h2, h3, _, L, rfl, ⟨rfl, N⟩, hq⟩ := own_rm0 l s _ hw tables_1 i0 i1 i2 i3 s.heap s.heap.size (Nat.le_refl _)  p e ha hc hk s m _ below hf ((Spec.applies_iff_loose hf).mp happ).1 ⟨rfl, State.Warmed39.refl s, rfl⟩ trivial
  refine ⟨n, _, h1, h2, h3, hpost _ _ _ _ _ _ ⟨Cond.after_iff.mpr rfl, Cond.after_iff.mpr (eq_i res_at (Term.int_eval (1)) rfl), trivial⟩ ⟨hq.1, hq.2.1, (hq.2.2.sift fun y hy => Or.inr (N y hy)).mono (by decide) (by decide)⟩⟩
theorem main_1_1 : Claimed_1_1 := own_comes fun _ _ _ _ _ _ h hF => ⟨h.1, hF⟩
theorem main_1_2 : Claimed_1_2 := own_comes fun _ _ _ _ _ _ h hF => ⟨h.2.1, hF⟩
end Jvm.Pilot.@@N@@
namespace Jvm.Pilot.@@N@@
open Jvm Jvm.ClassFile Sem Op Lib Jvm.Free Jvm.Stand Jvm.Pilot.@@N@@.Jvm.D
/-! MADE BY PROGRAM (witnessworld.py) out of the Statement's table words and the real class files: 13 classes; the members and pool entries that the words name. The judged class is class 1, her method 2. -/
namespace start1
open Jvm.ClassFile
def u (s : String) : CpInfo := .utf8 (stringToUtf16 s)
/-- a pool by its gaps: so many unusable entries, then the entry; so many at the end -/
def gap : Nat → List CpInfo → List CpInfo
  | 0, r => r
  | n + 1, r => .unusable :: gap n r
def poolList (es : List (Nat × CpInfo)) (last : Nat) : List CpInfo := es.foldr (fun e r => gap e.1 (e.2 :: r)) (gap last [])
def pool (es : List (Nat × CpInfo)) (last : Nat) : Array CpInfo := ⟨poolList es last⟩
def fileOf (pool : Array CpInfo) (this : Nat) (attrs : Array Attribute := #[]) (ms : Array MethodInfo := #[]) (fl : Nat := 33) (sup : Nat := 0) (ifs : Array Nat := #[]) (fds : Array FieldInfo := #[]) : ClassFile where
  minorVersion := 0
  majorVersion := 65
  constantPool := pool
  accessFlags := fl
  thisClass := this
  superClass := sup
  interfaces := ifs
  fields := fds
  methods := ms
  attributes := attrs
def plain (name : String) (sup : Option ClassId) : Class where
  name := name
  kind := .ordinary
  loader := none
  accessFlags := 33
  super := sup
  interfaces := #[]
  cf := none
  fields := #[]
  methods := #[]
  instanceTypes := #[]
  staticTypes := #[]
  resolved := #[]
  callSites := []
  init := .initialized
  statics := none
  mirror := none

def pool0 : Array CpInfo := pool [(5, u "<init>"), (0, u "()V"), (1, .class_ 10), (1, u "java/lang/Object")] 113

def k0m0 : Method := { name := "<init>", desc := "()V", sig := { parameters := [], returnType := none }, accessFlags := 1, code := none }
/-- java/lang/Object -/
def k0 : Class := { plain "java/lang/Object" none with
  accessFlags := 33
  interfaces := #[]
  cf := some (fileOf pool0 8 #[] #[{ accessFlags := 1, nameIndex := 5, descriptorIndex := 6, attributes := #[] }] 33 0 #[] #[])
  fields := #[]
  methods := #[k0m0]
  instanceTypes := #[]
  staticTypes := #[]
  resolved := Array.replicate 124 none
  statics := none }

def pool1 : Array CpInfo := pool [(2, .class_ 4), (1, u "java/lang/Object"), (0, u "<init>"), (0, u "()V"), (0, .methodref 8 9), (0, .class_ 10), (0, .nameAndType 11 12), (0, u "com/example/deltalog/deltalog/ColumnType"), (0, u "writeInt"), (0, u "(J[BI)I"), (0, .methodref 14 15), (0, .class_ 16), (0, .nameAndType 17 18), (0, u "com/example/deltalog/deltalog/ColumnTypeWriteIntPinLaw"), (0, u "kept"), (0, u "([BIIIB)Z"), (0, .methodref 8 20), (0, .nameAndType 21 22), (0, u "parseInt"), (0, u "([BII)J"), (3, u "law"), (0, u "(JIII)Z")] 4

def k1m0 : Method := { name := "<init>", desc := "()V", sig := { parameters := [], returnType := none }, accessFlags := 1, code := none }
def k1c1 : Code := { maxStack := 2, maxLocals := 5, code := method_2_code, exceptionTable := #[], attributes := #[] }
def k1m1 : Method := { name := "kept", desc := "([BIIIB)Z", sig := { parameters := [(.array .byte), .int, .int, .int, .byte], returnType := some .boolean }, accessFlags := 10, code := some k1c1 }
def k1c2 : Code := { maxStack := 5, maxLocals := 16, code := code, exceptionTable := #[], attributes := #[] }
def k1m2 : Method := { name := "law", desc := "(JIII)Z", sig := { parameters := [.long, .int, .int, .int], returnType := some .boolean }, accessFlags := 9, code := some k1c2 }
/-- com/example/deltalog/deltalog/ColumnTypeWriteIntPinLaw -/
def k1 : Class := { plain "com/example/deltalog/deltalog/ColumnTypeWriteIntPinLaw" (some 0) with
  accessFlags := 49
  interfaces := #[]
  cf := some (fileOf pool1 14 #[] #[{ accessFlags := 1, nameIndex := 5, descriptorIndex := 6, attributes := #[] }, { accessFlags := 10, nameIndex := 17, descriptorIndex := 18, attributes := #[] }, { accessFlags := 9, nameIndex := 26, descriptorIndex := 27, attributes := #[] }] 49 2 #[] #[])
  fields := #[]
  methods := #[k1m0, k1m1, k1m2]
  instanceTypes := #[]
  staticTypes := #[]
  resolved := Array.replicate 32 none
  statics := none }

def pool2 : Array CpInfo := pool [(1, .class_ 2), (0, u "java/lang/constant/Constable"), (0, .class_ 4), (0, u "java/lang/Object")] 6

/-- java/lang/constant/Constable -/
def k2 : Class := { plain "java/lang/constant/Constable" (some 0) with
  accessFlags := 1537
  interfaces := #[]
  cf := some (fileOf pool2 1 #[] #[] 1537 3 #[] #[])
  fields := #[]
  methods := #[]
  instanceTypes := #[]
  staticTypes := #[]
  resolved := Array.replicate 11 none
  statics := none }

def pool3 : Array CpInfo := pool [(1, .class_ 2), (0, u "java/lang/Comparable"), (0, .class_ 4), (0, u "java/lang/Object")] 7

/-- java/lang/Comparable -/
def k3 : Class := { plain "java/lang/Comparable" (some 0) with
  accessFlags := 1537
  interfaces := #[]
  cf := some (fileOf pool3 1 #[] #[] 1537 3 #[] #[])
  fields := #[]
  methods := #[]
  instanceTypes := #[]
  staticTypes := #[]
  resolved := Array.replicate 12 none
  statics := none }

def pool4 : Array CpInfo := pool [(1, .class_ 2), (0, u "java/io/Serializable"), (0, .class_ 4), (0, u "java/lang/Object")] 2

/-- java/io/Serializable -/
def k4 : Class := { plain "java/io/Serializable" (some 0) with
  accessFlags := 1537
  interfaces := #[]
  cf := some (fileOf pool4 1 #[] #[] 1537 3 #[] #[])
  fields := #[]
  methods := #[]
  instanceTypes := #[]
  staticTypes := #[]
  resolved := Array.replicate 7 none
  statics := none }

def pool5 : Array CpInfo := pool [(2, .class_ 4), (1, u "java/lang/Enum"), (0, u "name"), (0, u "Ljava/lang/String;"), (2, u "ordinal"), (0, u "I"), (1, .class_ 14), (1, u "java/lang/Object"), (4, u "hash"), (86, .class_ 108), (1, u "java/lang/Enum$EnumDesc"), (2, .class_ 112), (0, u "java/lang/constant/Constable"), (0, .class_ 114), (0, u "java/lang/Comparable"), (0, .class_ 116), (0, u "java/io/Serializable")] 87

/-- java/lang/Enum -/
def k5 : Class := { plain "java/lang/Enum" (some 0) with
  accessFlags := 1057
  interfaces := #[2, 3, 4]
  cf := some (fileOf pool5 2 #[.nestMembers #[106]] #[] 1057 12 #[111, 113, 115] #[{ accessFlags := 18, nameIndex := 5, descriptorIndex := 6, attributes := #[] }, { accessFlags := 18, nameIndex := 9, descriptorIndex := 10, attributes := #[] }, { accessFlags := 2, nameIndex := 19, descriptorIndex := 10, attributes := #[] }])
  fields := #[{ name := "name", type := (.object "java/lang/String"), accessFlags := 18, slot := 0, constantValue := 0 }, { name := "ordinal", type := .int, accessFlags := 18, slot := 1, constantValue := 0 }, { name := "hash", type := .int, accessFlags := 2, slot := 2, constantValue := 0 }]
  methods := #[]
  instanceTypes := #[(.object "java/lang/String"), .int, .int]
  staticTypes := #[]
  resolved := Array.replicate 204 none
  statics := none }

def pool6 : Array CpInfo := pool [(2, .class_ 4), (1, u "com/example/deltalog/deltalog/Token$Named"), (46, .class_ 52), (0, u "java/lang/Object"), (14, .class_ 68), (0, u "com/example/deltalog/deltalog/Token")] 20

/-- com/example/deltalog/deltalog/Token$Named -/
def k6 : Class := { plain "com/example/deltalog/deltalog/Token$Named" (some 0) with
  accessFlags := 1536
  interfaces := #[]
  cf := some (fileOf pool6 2 #[.nestHost 67] #[] 1536 51 #[] #[])
  fields := #[]
  methods := #[]
  instanceTypes := #[]
  staticTypes := #[]
  resolved := Array.replicate 89 none
  statics := none }

def pool7 : Array CpInfo := pool [(1, .class_ 2), (0, u "com/example/deltalog/deltalog/ColumnType"), (2, u "INT"), (0, u "Lcom/example/deltalog/deltalog/ColumnType;"), (2, u "FLOAT"), (2, u "STRING"), (2, u "$VALUES"), (0, u "[Lcom/example/deltalog/deltalog/ColumnType;"), (6, .class_ 25), (1, u "java/lang/Enum"), (8, u "keyword"), (0, u "Ljava/lang/String;"), (5, .class_ 43), (1, u "com/example/deltalog/deltalog/Token$Named"), (13, u "parseInt"), (9, .methodref 1 68), (0, .nameAndType 69 70), (0, u "intValue"), (0, u "([BIILjava/lang/String;)J"), (18, .long 18446744073709551606), (1, .long 10), (1, .long 48), (93, .long 9223372036854775808), (1, .long 9223372036854775809), (160, u "IN_RANGE_DIGITS"), (0, u "I"), (2, u "QUOTED_FIELD_LENGTH"), (12, u "([BII)J"), (0, u "writeInt"), (0, u "(J[BI)I")] 38

def k7c0 : Code := { maxStack := 4, maxLocals := 3, code := prog_10_method_7_code, exceptionTable := #[], attributes := #[] }
def k7m0 : Method := { name := "parseInt", desc := "([BII)J", sig := { parameters := [(.array .byte), .int, .int], returnType := some .long }, accessFlags := 8, code := some k7c0 }
def k7c1 : Code := { maxStack := 8, maxLocals := 9, code := prog_10_method_9_code, exceptionTable := #[], attributes := #[] }
def k7m1 : Method := { name := "writeInt", desc := "(J[BI)I", sig := { parameters := [.long, (.array .byte), .int], returnType := some .int }, accessFlags := 8, code := some k7c1 }
def k7c2 : Code := { maxStack := 7, maxLocals := 15, code := prog_10_method_18_code, exceptionTable := #[], attributes := #[] }
def k7m2 : Method := { name := "intValue", desc := "([BIILjava/lang/String;)J", sig := { parameters := [(.array .byte), .int, .int, (.object "java/lang/String")], returnType := some .long }, accessFlags := 10, code := some k7c2 }
/-- com/example/deltalog/deltalog/ColumnType -/
def k7 : Class := { plain "com/example/deltalog/deltalog/ColumnType" (some 5) with
  accessFlags := 16433
  interfaces := #[6]
  cf := some (fileOf pool7 1 #[] #[{ accessFlags := 8, nameIndex := 57, descriptorIndex := 367, attributes := #[] }, { accessFlags := 8, nameIndex := 368, descriptorIndex := 369, attributes := #[] }, { accessFlags := 10, nameIndex := 69, descriptorIndex := 70, attributes := #[] }] 16433 23 #[41] #[{ accessFlags := 16409, nameIndex := 5, descriptorIndex := 6, attributes := #[] }, { accessFlags := 16409, nameIndex := 9, descriptorIndex := 6, attributes := #[] }, { accessFlags := 16409, nameIndex := 12, descriptorIndex := 6, attributes := #[] }, { accessFlags := 24, nameIndex := 350, descriptorIndex := 351, attributes := #[] }, { accessFlags := 26, nameIndex := 354, descriptorIndex := 351, attributes := #[] }, { accessFlags := 18, nameIndex := 34, descriptorIndex := 35, attributes := #[] }, { accessFlags := 4122, nameIndex := 15, descriptorIndex := 16, attributes := #[] }])
  fields := #[{ name := "INT", type := (.object "com/example/deltalog/deltalog/ColumnType"), accessFlags := 16409, slot := 0, constantValue := 0 }, { name := "FLOAT", type := (.object "com/example/deltalog/deltalog/ColumnType"), accessFlags := 16409, slot := 1, constantValue := 0 }, { name := "STRING", type := (.object "com/example/deltalog/deltalog/ColumnType"), accessFlags := 16409, slot := 2, constantValue := 0 }, { name := "IN_RANGE_DIGITS", type := .int, accessFlags := 24, slot := 3, constantValue := 0 }, { name := "QUOTED_FIELD_LENGTH", type := .int, accessFlags := 26, slot := 4, constantValue := 0 }, { name := "keyword", type := (.object "java/lang/String"), accessFlags := 18, slot := 3, constantValue := 0 }, { name := "$VALUES", type := (.array (.object "com/example/deltalog/deltalog/ColumnType")), accessFlags := 4122, slot := 5, constantValue := 0 }]
  methods := #[k7m0, k7m1, k7m2]
  instanceTypes := #[(.object "java/lang/String"), .int, .int, (.object "java/lang/String")]
  staticTypes := #[(.object "com/example/deltalog/deltalog/ColumnType"), (.object "com/example/deltalog/deltalog/ColumnType"), (.object "com/example/deltalog/deltalog/ColumnType"), .int, .int, (.array (.object "com/example/deltalog/deltalog/ColumnType"))]
  resolved := Array.replicate 408 none
  statics := none }

def pool8 : Array CpInfo := pool [(1, u "java/lang/Cloneable"), (0, .class_ 1), (0, u "java/lang/Object"), (0, .class_ 3)] 3

/-- java/lang/Cloneable -/
def k8 : Class := { plain "java/lang/Cloneable" (some 0) with
  accessFlags := 1537
  interfaces := #[]
  cf := some (fileOf pool8 2 #[] #[] 1537 4 #[] #[])
  fields := #[]
  methods := #[]
  instanceTypes := #[]
  staticTypes := #[]
  resolved := Array.replicate 8 none
  statics := none }

/-- the primitive byte -/
def k9 : Class := { plain "byte" none with kind := .primitive 'B', accessFlags := 0x411 }
/-- [B -/
def k10 : Class := { plain "[B" (some 0) with kind := .array 9 .byte, interfaces := #[8, 4], accessFlags := 1041 }

/-- the primitive int -/
def k11 : Class := { plain "int" none with kind := .primitive 'I', accessFlags := 0x411 }
/-- [I -/
def k12 : Class := { plain "[I" (some 0) with kind := .array 11 .int, interfaces := #[8, 4], accessFlags := 1041 }

def heap : Heap := #[]
def classes : Array Class := #[k0, k1, k2, k3, k4, k5, k6, k7, k8, k9, k10, k11, k12]
def interned : List (Array UInt16 × Addr) := []
def slotsUsed : Nat := 0
def theMethod : MethodId := ⟨1, 2⟩
def args0 : Array Value := #[.long 5, .int 3, .int 1, .int 7]
def aboutOver (below : List Frame) : State where
  vm := { classes := classes, interned := interned.toArray }
  heap := heap
  slotsUsed := slotsUsed
  threads := #[{ frames := .invoking theMethod args0 :: below }]
def below0 : List Frame := [.native { method := ⟨0, 0⟩, args := #[] }]
def about1 : State := aboutOver below0
def p0 : Program := .bare "" "" ""
def e0 : Env := launch0.env 0 0 0
theorem w_frames : about1.frames = Frame.invoking theMethod args0 :: below0 := rfl
set_option maxRecDepth 65536 in
theorem w_args : argsFit about1.vm theMethod args0 = true := by decide +kernel
set_option maxRecDepth 65536 in
theorem w_heap : heapFits about1 = true := by decide +kernel
set_option maxRecDepth 65536 in
theorem w_runnable : about1.curStatus? = some .runnable := by decide +kernel
set_option maxRecDepth 65536 in
theorem w_alone : about1.alone = true := by decide +kernel
set_option maxRecDepth 65536 in
theorem w_named : about1.methodNamed? x = some theMethod := by decide +kernel
set_option maxRecDepth 65536 in
theorem w_hears : about1.hears theMethod below0 = true := by decide +kernel
set_option maxRecDepth 65536 in
theorem w_ripe : about1.ripe theMethod args0 below0 = true := by decide +kernel
theorem w_running : about1.status = .running := rfl
set_option maxRecDepth 65536 in
theorem w_room : about1.hasRoom e0.platform room_1 = true :=
  launch0.hasRoom_least _ room_1 (by decide +kernel) (by decide +kernel) (by decide +kernel) (by decide +kernel) (by decide +kernel) (by decide +kernel)
theorem allAtoms_all (ts : List Jvm.Cond) (a : Array Jvm.Value) (st : Jvm.State) : (allAtoms ts).before a st = ts.all (fun c => c.before a st) := by
  induction ts with
  | nil => rfl
  | cons c t ih =>
    show (Jvm.Cond.and c (allAtoms t)).before a st = _
    rw [Jvm.Cond.before_and, ih, List.all_cons]
def words1 : List Jvm.Cond := Jvm.Cond.code x code maxLocals ret :: tables_1
/-- a 'code' word, met by the world's own term for the bytes: nothing is compared byte by byte -/
theorem code_word {y : MethodName} {bytes : ByteArray} {mx : Nat} {rt : Option FieldType} {a : Array Value} {s : State} {m : MethodId} {meth : Method} {c : Code} (h1 : s.methodNamed? y = some m) (h2 : s.vm.method? m = some meth) (h3 : meth.code = some c) (h4 : c.code = bytes)
    (h5 : (c.maxLocals == mx && c.exceptionTable.isEmpty && decide (c.maxStack ≤ mostOperands) && decide (meth.sig.returnType = rt) && !meth.locks && decide (parseMethodDescriptor y.desc = some meth.sig)) = true) : (Jvm.Cond.code y bytes mx rt).before a s = true := by
  simp only [Bool.and_eq_true, beq_iff_eq, Bool.not_eq_true', decide_eq_true_eq] at h5
  obtain ⟨⟨⟨⟨⟨g1, g2⟩, g3⟩, g4⟩, g5⟩, g6⟩ := h5
  simp [Cond.before, Cond.holds, Cond.value, h1, h2, h3, h4, g1, g2, g3, g4, g5, g6]
def isCode : Jvm.Cond → Bool
  | .code _ _ _ _ => true
  | _ => false
theorem all_split {L : List Jvm.Cond} {P : Jvm.Cond → Bool} (h1 : L.all (fun c => isCode c || P c) = true) (h2 : ∀ c ∈ L.filter isCode, P c = true) : L.all P = true := by
  refine List.all_eq_true.mpr fun c hc => ?_
  have h := List.all_eq_true.mp h1 c hc
  rcases Bool.eq_false_or_eq_true (isCode c) with hi | hi
  · exact h2 c (List.mem_filter.mpr ⟨hc, hi⟩)
  · simpa [hi] using h
set_option maxRecDepth 65536 in
theorem w_c0 : (Jvm.Cond.code x code maxLocals ret).before args0 about1 = true := code_word (m := ⟨1, 2⟩) (meth := k1m2) (c := k1c2) (by decide +kernel) rfl rfl rfl (by decide +kernel)
set_option maxRecDepth 65536 in
theorem w_c1 : (Jvm.Cond.code ({ cls := "com/example/deltalog/deltalog/ColumnType", name := "writeInt", desc := "(J[BI)I" } : Jvm.MethodName) prog_10_method_9_code (9 : Nat) (Option.some Jvm.ClassFile.FieldType.int)).before args0 about1 = true := code_word (m := ⟨7, 1⟩) (meth := k7m1) (c := k7c1) (by decide +kernel) rfl rfl rfl (by decide +kernel)
set_option maxRecDepth 65536 in
theorem w_c2 : (Jvm.Cond.code ({ cls := "com/example/deltalog/deltalog/ColumnTypeWriteIntPinLaw", name := "kept", desc := "([BIIIB)Z" } : Jvm.MethodName) method_2_code (5 : Nat) (Option.some Jvm.ClassFile.FieldType.boolean)).before args0 about1 = true := code_word (m := ⟨1, 1⟩) (meth := k1m1) (c := k1c1) (by decide +kernel) rfl rfl rfl (by decide +kernel)
set_option maxRecDepth 65536 in
theorem w_c3 : (Jvm.Cond.code ({ cls := "com/example/deltalog/deltalog/ColumnType", name := "parseInt", desc := "([BII)J" } : Jvm.MethodName) prog_10_method_7_code (3 : Nat) (Option.some Jvm.ClassFile.FieldType.long)).before args0 about1 = true := code_word (m := ⟨7, 0⟩) (meth := k7m0) (c := k7c0) (by decide +kernel) rfl rfl rfl (by decide +kernel)
set_option maxRecDepth 65536 in
theorem w_c4 : (Jvm.Cond.code ({ cls := "com/example/deltalog/deltalog/ColumnType", name := "intValue", desc := "([BIILjava/lang/String;)J" } : Jvm.MethodName) prog_10_method_18_code (15 : Nat) (Option.some Jvm.ClassFile.FieldType.long)).before args0 about1 = true := code_word (m := ⟨7, 2⟩) (meth := k7m2) (c := k7c2) (by decide +kernel) rfl rfl rfl (by decide +kernel)
def codes1 : List Jvm.Cond := [Jvm.Cond.code x code maxLocals ret, Jvm.Cond.code ({ cls := "com/example/deltalog/deltalog/ColumnType", name := "writeInt", desc := "(J[BI)I" } : Jvm.MethodName) prog_10_method_9_code (9 : Nat) (Option.some Jvm.ClassFile.FieldType.int), Jvm.Cond.code ({ cls := "com/example/deltalog/deltalog/ColumnTypeWriteIntPinLaw", name := "kept", desc := "([BIIIB)Z" } : Jvm.MethodName) method_2_code (5 : Nat) (Option.some Jvm.ClassFile.FieldType.boolean), Jvm.Cond.code ({ cls := "com/example/deltalog/deltalog/ColumnType", name := "parseInt", desc := "([BII)J" } : Jvm.MethodName) prog_10_method_7_code (3 : Nat) (Option.some Jvm.ClassFile.FieldType.long), Jvm.Cond.code ({ cls := "com/example/deltalog/deltalog/ColumnType", name := "intValue", desc := "([BIILjava/lang/String;)J" } : Jvm.MethodName) prog_10_method_18_code (15 : Nat) (Option.some Jvm.ClassFile.FieldType.long)]
set_option maxRecDepth 65536 in
theorem codes_eq : words1.filter isCode = codes1 := rfl
theorem w_codes : ∀ c ∈ words1.filter isCode, c.before args0 about1 = true := by
  rw [codes_eq]
  intro c hc
  simp only [codes1, List.mem_cons, List.not_mem_nil, or_false] at hc
  rcases hc with rfl | rfl | rfl | rfl | rfl
  · exact w_c0
  · exact w_c1
  · exact w_c2
  · exact w_c3
  · exact w_c4
set_option maxRecDepth 65536 in
theorem w_t1 : words1.all (fun c => isCode c || c.before args0 about1) = true := by decide +kernel
theorem w_tables : (allAtoms (Jvm.Cond.code x code maxLocals ret :: tables_1)).before args0 about1 = true := by
  rw [allAtoms_all]
  show words1.all (fun c => c.before args0 about1) = true
  refine all_split ?_ w_codes
  rw [w_t1]
set_option maxRecDepth 65536 in
theorem w_case : (Jvm.Cond.and given_1 narrow_1).before args0 about1 = true := by decide +kernel
theorem w_applies : (headSpec (Jvm.Cond.code x code maxLocals ret :: tables_1) room_1).applies x e0.platform about1 = true :=
  (Spec.applies_iff w_frames).mpr ⟨w_running, w_runnable, w_alone, w_named, w_hears, w_ripe, w_room, w_tables⟩
theorem atStart : AtStart classFile x code maxLocals ret World_1 tables_1 room_1 Calls_1 rest_1 Pre_1 launch0 p0 e0 about1 theMethod args0 below0 :=
  ⟨lists_1, trivial, launch0.admits_env _ _ _, launch0.least_env, fairChoices_fair.cas, fairChoices_fair.clock, w_frames, w_args, w_heap, w_applies, trivial, trivial, w_case⟩
end start1
theorem witness_1 : WitnessClaimed_1 := ⟨start1.p0, start1.e0, start1.about1, start1.theMethod, start1.args0, start1.below0, start1.atStart⟩
end Jvm.Pilot.@@N@@
