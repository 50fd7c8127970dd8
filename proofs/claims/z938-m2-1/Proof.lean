import JvmDerived
import JvmDerived.Pilot.@@N@@Statement
import JvmDerived.Pilot.@@N@@Code
set_option linter.unusedVariables false
set_option linter.unusedSimpArgs false
namespace Jvm.RoadKit
open Sem ClassFile Op Lib Jvm.Stand Jvm.Free Jvm.LawKit
section New
variable {p : Program} {l : Launch} {e : Env} {R : Room} {s : State} {m : MethodId} {args : Array Value} {below : List Frame} {meth : Method} {c : Code} {T : State} {locs : List Loc} {cells slots : Nat}
theorem retI (X : Stand p l e R s m args below meth c T locs cells slots) (hx : p.tables.exec = Jvm.exec) {pc : Nat} {Ls : Array Slot} {z : Int32} {rest : List Value} (hret : meth.sig.returnType = some .int) (hd : decode c.code pc = .ok (.ireturn, 1)) {fs : List Frame}
    (hl : ∀ (f : JFrame) (acts : List Action), f.method = m → f.locked = none → f.entered = [] → (doReturn e (T.setTop f) acts (some (.int z))).1 = T.setFrames fs) : Steps p.tables e below (T.setTop (mkF m pc Ls (.int z :: rest))) (T.setFrames fs) := by
  have hm' : T.vm.method? m = some meth := X.method'
  have hn : narrow .int (.int z) = .int z := rfl
  show Steps p.tables e below (T.setTop { method := m, pc := pc, locals := Ls, stack := _ :: rest, locked := none }) _
  jvm_step X.here [X.here.top, hx, hd, hm', hret, hn]
  first | (intro acts; rw [hl _ acts rfl rfl rfl]) | rw [hl _ _ rfl rfl rfl]
  exact Steps.refl _
end New
end Jvm.RoadKit
namespace Jvm.Pilot.@@N@@
open Jvm Jvm.ClassFile Sem Op Lib Jvm.Free Jvm.Stand Jvm.LawKit Jvm.RoadKit Bundle Jvm.Pilot.@@N@@.Jvm.D
section Own
variable {p : Program} {l : Launch} {e : Env} {R : Room} {s : State} {m : MethodId} {args : Array Value} {below : List Frame} {meth : Method} {c : Code} {T : State} {locs : List Loc} {cells slots : Nat}
/-- from the state G the run comes to an end with an outcome of which Φ holds -/
def o_Gs (p : Program) (e : Env) (below : List Frame) (Φ : Outcome → State → Prop) (G : State) : Prop :=
  ∃ (t : State) (o : Outcome), Steps p.tables e below G t ∧ t.status = .running ∧ Ended t below o ∧ Φ o t
theorem o_st {Φ : Outcome → State → Prop} {G G' : State} (k : ∀ t, Steps p.tables e below G' t → Steps p.tables e below G t) (h : o_Gs p e below Φ G') : o_Gs p e below Φ G := by
  obtain ⟨a, b, h1, h2⟩ := h
  exact ⟨a, b, k _ h1, h2⟩
/-- the list of what was written, with its name alone: long nested lists cost Lean dearly -/
theorem o_hide {n0 : Nat} (X : Stand p l e R s m args below meth c T locs cells slots) (N : Fr n0 locs) : ∃ L, Stand p l e R s m args below meth c T L cells slots ∧ Fr n0 L := ⟨locs, X, N⟩
theorem o_in {Φ : Outcome → State → Prop} {g g' : JFrame} (q : g = g') (h : o_Gs p e below Φ (T.setTop g')) : ∃ (t : State) (o : Outcome), Steps p.tables e below (T.setTop g) t ∧ t.status = .running ∧ Ended t below o ∧ Φ o t := by
  subst q; exact h
theorem o_ret (X : Stand p l e R s m args below meth c T locs cells slots) {v : Option Value} (hv : meth.sig.returnType = none → v = none) (hlk : meth.locks = false) {G : State}
    (k : ∀ fs, (∀ (f : JFrame) (acts : List Action), f.method = m → f.locked = none → f.entered = [] → (doReturn e (T.setTop f) acts v).1 = T.setFrames fs) → Steps p.tables e below G (T.setFrames fs))
    {Q : Option Value → Heap → List Loc → Prop} {h : Heap} (eT : T.heap = h) (hQ : Q v h locs) {cc ss : Nat} (hc : cells ≤ cc) (hs : slots ≤ ss) :
    o_Gs p e below (fun o t => ∃ v L, o = .returned v ∧ Q v t.heap L ∧ FrameEnd s o t L cc ss) G := by
  obtain ⟨fs, hr, hrun, hended, hW, hsame⟩ := X.leave (v := v) hv hlk
  subst eT
  exact ⟨_, _, k fs hr, hrun, hended, _, _, rfl, hQ, ⟨_, rfl⟩, hW, hsame.mono hc hs⟩
theorem o_retI (X : Stand p l e R s m args below meth c T locs cells slots) (hx : p.tables.exec = Jvm.exec) {pc : Nat} {Ls : Array Slot} {z : Int32} {rest : List Value} (hret : meth.sig.returnType = some .int) (hd : decode c.code pc = .ok (.ireturn, 1)) (hlk : meth.locks = false)
    {Q : Option Value → Heap → List Loc → Prop} {h : Heap} (eT : T.heap = h) (hQ : Q (some (.int z)) h locs) {cc ss : Nat} (hc : cells ≤ cc) (hs : slots ≤ ss) :
    o_Gs p e below (fun o t => ∃ v L, o = .returned v ∧ Q v t.heap L ∧ FrameEnd s o t L cc ss) (T.setTop (mkF m pc Ls (.int z :: rest))) :=
  o_ret X (fun h => by rw [hret] at h; cases h) hlk (fun fs hr => retI X hx hret hd hr) eT hQ hc hs
theorem o_retN (X : Stand p l e R s m args below meth c T locs cells slots) (hx : p.tables.exec = Jvm.exec) {pc : Nat} {Ls : Array Slot} {z : Int32} {t : FieldType} {rest : List Value} (hret : meth.sig.returnType = some t) (ht : t = .boolean ∨ t = .byte ∨ t = .char ∨ t = .short) (hd : decode c.code pc = .ok (.ireturn, 1)) (hlk : meth.locks = false)
    {Q : Option Value → Heap → List Loc → Prop} {h : Heap} (eT : T.heap = h) (hQ : Q (some (.int (nar t z))) h locs) {cc ss : Nat} (hc : cells ≤ cc) (hs : slots ≤ ss) :
    o_Gs p e below (fun o t => ∃ v L, o = .returned v ∧ Q v t.heap L ∧ FrameEnd s o t L cc ss) (T.setTop (mkF m pc Ls (.int z :: rest))) :=
  o_ret X (fun h => by rw [hret] at h; cases h) hlk (fun fs hr => retN X hx hret ht hd hr) eT hQ hc hs
theorem o_retL (X : Stand p l e R s m args below meth c T locs cells slots) (hx : p.tables.exec = Jvm.exec) {pc : Nat} {Ls : Array Slot} {z : Int64} {rest : List Value} (hret : meth.sig.returnType = some .long) (hd : decode c.code pc = .ok (.lreturn, 1)) (hlk : meth.locks = false)
    {Q : Option Value → Heap → List Loc → Prop} {h : Heap} (eT : T.heap = h) (hQ : Q (some (.long z)) h locs) {cc ss : Nat} (hc : cells ≤ cc) (hs : slots ≤ ss) :
    o_Gs p e below (fun o t => ∃ v L, o = .returned v ∧ Q v t.heap L ∧ FrameEnd s o t L cc ss) (T.setTop (mkF m pc Ls (.long z :: rest))) :=
  o_ret X (fun h => by rw [hret] at h; cases h) hlk (fun fs hr => retOut X hx hret rfl (Or.inr (Or.inl ⟨rfl, rfl, z, rfl⟩)) hd hr) eT hQ hc hs
theorem o_retD (X : Stand p l e R s m args below meth c T locs cells slots) (hx : p.tables.exec = Jvm.exec) {pc : Nat} {Ls : Array Slot} {z : UInt64} {rest : List Value} (hret : meth.sig.returnType = some .double) (hd : decode c.code pc = .ok (.dreturn, 1)) (hlk : meth.locks = false)
    {Q : Option Value → Heap → List Loc → Prop} {h : Heap} (eT : T.heap = h) (hQ : Q (some (.double z)) h locs) {cc ss : Nat} (hc : cells ≤ cc) (hs : slots ≤ ss) :
    o_Gs p e below (fun o t => ∃ v L, o = .returned v ∧ Q v t.heap L ∧ FrameEnd s o t L cc ss) (T.setTop (mkF m pc Ls (.double z :: rest))) :=
  o_ret X (fun h => by rw [hret] at h; cases h) hlk (fun fs hr => retOut X hx hret rfl (Or.inr (Or.inr (Or.inl ⟨rfl, rfl, z, rfl⟩))) hd hr) eT hQ hc hs
theorem o_retA (X : Stand p l e R s m args below meth c T locs cells slots) (hx : p.tables.exec = Jvm.exec) {pc : Nat} {Ls : Array Slot} {z : Value} {t : FieldType} {rest : List Value} (hret : meth.sig.returnType = some t) (ht : t.isReference = true) (hz : z.isRef = true) (hd : decode c.code pc = .ok (.areturn, 1)) (hlk : meth.locks = false)
    {Q : Option Value → Heap → List Loc → Prop} {h : Heap} (eT : T.heap = h) (hQ : Q (some z) h locs) {cc ss : Nat} (hc : cells ≤ cc) (hs : slots ≤ ss) :
    o_Gs p e below (fun o t => ∃ v L, o = .returned v ∧ Q v t.heap L ∧ FrameEnd s o t L cc ss) (T.setTop (mkF m pc Ls (z :: rest))) :=
  o_ret X (fun h => by rw [hret] at h; cases h) hlk (fun fs hr => retOut X hx hret (by cases t <;> first | rfl | (cases z <;> first | rfl | (simp [Value.isRef] at hz) | (simp [FieldType.isReference] at ht))) (Or.inr (Or.inr (Or.inr (Or.inr ⟨rfl, ht, hz⟩)))) hd hr) eT hQ hc hs
theorem o_retV (X : Stand p l e R s m args below meth c T locs cells slots) (hx : p.tables.exec = Jvm.exec) {pc : Nat} {Ls : Array Slot} (hret : meth.sig.returnType = none) (hd : decode c.code pc = .ok (.return_, 1)) (hlk : meth.locks = false)
    {Q : Option Value → Heap → List Loc → Prop} {h : Heap} (eT : T.heap = h) (hQ : Q none h locs) {cc ss : Nat} (hc : cells ≤ cc) (hs : slots ≤ ss) :
    o_Gs p e below (fun o t => ∃ v L, o = .returned v ∧ Q v t.heap L ∧ FrameEnd s o t L cc ss) (T.setTop (mkF m pc Ls [])) :=
  o_ret X (fun _ => rfl) hlk (fun fs hr => X.returnOut hx hret hd hr) eT hQ hc hs
theorem o_retNW {vm0 : Vm} {k0 : Nat} (X : Stand p l e R (s.setVm vm0) m args below meth c T locs cells slots) (hS : s.Since vm0 k0) {h : Heap} (hk : k0 ≤ h.size) (hx : p.tables.exec = Jvm.exec) {pc : Nat} {Ls : Array Slot} {z : Int32} {t : FieldType} {rest : List Value} (hret : meth.sig.returnType = some t) (ht : t = .boolean ∨ t = .byte ∨ t = .char ∨ t = .short) (hd : decode c.code pc = .ok (.ireturn, 1)) (hlk : meth.locks = false)
    {Q : Option Value → Heap → List Loc → Prop} (eT : T.heap = h) (hQ : Q (some (.int (nar t z))) h locs) {cc ss : Nat} (hc : cells ≤ cc) (hs : slots ≤ ss) :
    o_Gs p e below (fun o t => ∃ v L, o = .returned v ∧ Q v t.heap L ∧ ReturnedEndW s o t L cc ss) (T.setTop (mkF m pc Ls (.int z :: rest))) := by
  subst eT
  obtain ⟨fs, hr, hrun, hended, h1, h2, h3, h4⟩ := X.leaveW hS hk (v := some (.int (nar t z))) (fun h => by rw [hret] at h; cases h) hlk
  exact ⟨_, _, retN X hx hret ht hd hr, hrun, hended, _, _, rfl, hQ, h1, h2, h3, h4.mono hc hs⟩
theorem o_retVW {vm0 : Vm} {k0 : Nat} (X : Stand p l e R (s.setVm vm0) m args below meth c T locs cells slots) (hS : s.Since vm0 k0) {h : Heap} (hk : k0 ≤ h.size) (hx : p.tables.exec = Jvm.exec) {pc : Nat} {Ls : Array Slot} (hret : meth.sig.returnType = none) (hd : decode c.code pc = .ok (.return_, 1)) (hlk : meth.locks = false)
    {Q : Option Value → Heap → List Loc → Prop} (eT : T.heap = h) (hQ : Q none h locs) {cc ss : Nat} (hc : cells ≤ cc) (hs : slots ≤ ss) :
    o_Gs p e below (fun o t => ∃ v L, o = .returned v ∧ Q v t.heap L ∧ ReturnedEndW s o t L cc ss) (T.setTop (mkF m pc Ls [])) := by
  subst eT
  obtain ⟨fs, hr, hrun, hended, h1, h2, h3, h4⟩ := X.leaveW hS hk (v := none) (fun _ => rfl) hlk
  exact ⟨_, _, X.returnOut hx hret hd hr, hrun, hended, _, _, rfl, hQ, h1, h2, h3, h4.mono hc hs⟩
theorem o_wz {Z s : State} {vm : Vm} {k : Nat} (hZ : Z.Warmed39 s.vm) (hS : s.Since vm k) : Z.Warmed39 (s.setVm vm).vm := State.Warmed39.trans (t := s) hZ hS.1
theorem o_wo {s : State} {vm : Vm} {k : Nat} {own : String} {c : ClassId} (hS : s.Since vm k) (hown : s.vm.findClass own = some c) : (s.setVm vm).vm.findClass own = some c := by
  rw [show (s.setVm vm).vm = vm from rfl, hS.1.alike.findClass]; exact hown
theorem o_wf {s : State} {vm0 vm : Vm} {k0 n k : Nat} (hS : s.Since vm0 k0) (hk : k0 ≤ n) (h2 : (s.setVm vm0).Since vm k) (g : n ≤ k) : s.Since vm k := hS.trans h2 (Nat.le_trans hk g)
-- steps
theorem o_iloadN {Φ : Outcome → State → Prop} (X : Stand p l e R s m args below meth c T locs cells slots) (hx : p.tables.exec = Jvm.exec) {pc : Nat} (pc' : Nat) {Ls : Array Slot} {S : List Value} {k : Fin 4} {v : Int32} (hd : decode c.code pc = .ok (.iload_n k, 1)) (hl : Ls[k.val]? = some (.val (.int v))) (h : o_Gs p e below Φ (T.setTop (mkF m pc' Ls (.int v :: S)))) (hp : pc + 1 = pc' := by rfl) : o_Gs p e below Φ (T.setTop (mkF m pc Ls (S))) := by
  subst hp; exact o_st (fun t k => XS.iloadN X.here hx rfl hd hl k) h
theorem o_iload {Φ : Outcome → State → Prop} (X : Stand p l e R s m args below meth c T locs cells slots) (hx : p.tables.exec = Jvm.exec) {pc : Nat} (pc' : Nat) {Ls : Array Slot} {S : List Value} {k : Nat} {v : Int32} (hd : decode c.code pc = .ok (.iload k, 2)) (hl : Ls[k]? = some (.val (.int v))) (h : o_Gs p e below Φ (T.setTop (mkF m pc' Ls (.int v :: S)))) (hp : pc + 2 = pc' := by rfl) : o_Gs p e below Φ (T.setTop (mkF m pc Ls (S))) := by
  subst hp; exact o_st (fun t k => XS.iload X.here hx rfl hd hl k) h
theorem o_lloadN {Φ : Outcome → State → Prop} (X : Stand p l e R s m args below meth c T locs cells slots) (hx : p.tables.exec = Jvm.exec) {pc : Nat} (pc' : Nat) {Ls : Array Slot} {S : List Value} {k : Fin 4} {v : Int64} (hd : decode c.code pc = .ok (.lload_n k, 1)) (hl : Ls[k.val]? = some (.val (.long v))) (h : o_Gs p e below Φ (T.setTop (mkF m pc' Ls (.long v :: S)))) (hp : pc + 1 = pc' := by rfl) : o_Gs p e below Φ (T.setTop (mkF m pc Ls (S))) := by
  subst hp; exact o_st (fun t k => XS.lloadN X.here hx rfl hd hl k) h
theorem o_lload {Φ : Outcome → State → Prop} (X : Stand p l e R s m args below meth c T locs cells slots) (hx : p.tables.exec = Jvm.exec) {pc : Nat} (pc' : Nat) {Ls : Array Slot} {S : List Value} {k : Nat} {v : Int64} (hd : decode c.code pc = .ok (.lload k, 2)) (hl : Ls[k]? = some (.val (.long v))) (h : o_Gs p e below Φ (T.setTop (mkF m pc' Ls (.long v :: S)))) (hp : pc + 2 = pc' := by rfl) : o_Gs p e below Φ (T.setTop (mkF m pc Ls (S))) := by
  subst hp; exact o_st (fun t k => XS.lload X.here hx rfl hd hl k) h
theorem o_aloadN {Φ : Outcome → State → Prop} (X : Stand p l e R s m args below meth c T locs cells slots) (hx : p.tables.exec = Jvm.exec) {pc : Nat} (pc' : Nat) {Ls : Array Slot} {S : List Value} {k : Fin 4} {v : Value} (hd : decode c.code pc = .ok (.aload_n k, 1)) (hl : Ls[k.val]? = some (.val v)) (hv : v.isRef = true) (h : o_Gs p e below Φ (T.setTop (mkF m pc' Ls (v :: S)))) (hp : pc + 1 = pc' := by rfl) : o_Gs p e below Φ (T.setTop (mkF m pc Ls (S))) := by
  subst hp; exact o_st (fun t k => XS.aloadN X.here hx rfl hd hl hv k) h
theorem o_aload {Φ : Outcome → State → Prop} (X : Stand p l e R s m args below meth c T locs cells slots) (hx : p.tables.exec = Jvm.exec) {pc : Nat} (pc' : Nat) {Ls : Array Slot} {S : List Value} {k : Nat} {v : Value} (hd : decode c.code pc = .ok (.aload k, 2)) (hl : Ls[k]? = some (.val v)) (hv : v.isRef = true) (h : o_Gs p e below Φ (T.setTop (mkF m pc' Ls (v :: S)))) (hp : pc + 2 = pc' := by rfl) : o_Gs p e below Φ (T.setTop (mkF m pc Ls (S))) := by
  subst hp; exact o_st (fun t k => XS.aload X.here hx rfl hd hl hv k) h
theorem o_istoreN {Φ : Outcome → State → Prop} (X : Stand p l e R s m args below meth c T locs cells slots) (hx : p.tables.exec = Jvm.exec) {pc : Nat} (pc' : Nat) {Ls : Array Slot} {S : List Value} {k : Fin 4} {v : Int32} (l' : Array Slot) (hd : decode c.code pc = .ok (.istore_n k, 1)) (hl : storeLocals Ls k.val (.int v) = some l') (h : o_Gs p e below Φ (T.setTop (mkF m pc' l' (S)))) (hp : pc + 1 = pc' := by rfl) : o_Gs p e below Φ (T.setTop (mkF m pc Ls (.int v :: S))) := by
  subst hp; exact o_st (fun t k => XS.istoreN X.here hx rfl hd rfl hl k) h
theorem o_istore {Φ : Outcome → State → Prop} (X : Stand p l e R s m args below meth c T locs cells slots) (hx : p.tables.exec = Jvm.exec) {pc : Nat} (pc' : Nat) {Ls : Array Slot} {S : List Value} {k : Nat} {v : Int32} (l' : Array Slot) (hd : decode c.code pc = .ok (.istore k, 2)) (hl : storeLocals Ls k (.int v) = some l') (h : o_Gs p e below Φ (T.setTop (mkF m pc' l' (S)))) (hp : pc + 2 = pc' := by rfl) : o_Gs p e below Φ (T.setTop (mkF m pc Ls (.int v :: S))) := by
  subst hp; exact o_st (fun t k => XS.istore X.here hx rfl hd rfl hl k) h
theorem o_lstoreN {Φ : Outcome → State → Prop} (X : Stand p l e R s m args below meth c T locs cells slots) (hx : p.tables.exec = Jvm.exec) {pc : Nat} (pc' : Nat) {Ls : Array Slot} {S : List Value} {k : Fin 4} {v : Int64} (l' : Array Slot) (hd : decode c.code pc = .ok (.lstore_n k, 1)) (hl : storeLocals Ls k.val (.long v) = some l') (h : o_Gs p e below Φ (T.setTop (mkF m pc' l' (S)))) (hp : pc + 1 = pc' := by rfl) : o_Gs p e below Φ (T.setTop (mkF m pc Ls (.long v :: S))) := by
  subst hp; exact o_st (fun t k => XS.lstoreN X.here hx rfl hd rfl hl k) h
theorem o_lstore {Φ : Outcome → State → Prop} (X : Stand p l e R s m args below meth c T locs cells slots) (hx : p.tables.exec = Jvm.exec) {pc : Nat} (pc' : Nat) {Ls : Array Slot} {S : List Value} {k : Nat} {v : Int64} (l' : Array Slot) (hd : decode c.code pc = .ok (.lstore k, 2)) (hl : storeLocals Ls k (.long v) = some l') (h : o_Gs p e below Φ (T.setTop (mkF m pc' l' (S)))) (hp : pc + 2 = pc' := by rfl) : o_Gs p e below Φ (T.setTop (mkF m pc Ls (.long v :: S))) := by
  subst hp; exact o_st (fun t k => XS.lstore X.here hx rfl hd rfl hl k) h
theorem o_astoreN {Φ : Outcome → State → Prop} (X : Stand p l e R s m args below meth c T locs cells slots) (hx : p.tables.exec = Jvm.exec) {pc : Nat} (pc' : Nat) {Ls : Array Slot} {S : List Value} {k : Fin 4} {v : Value} (l' : Array Slot) (hd : decode c.code pc = .ok (.astore_n k, 1)) (hv : v.isRef = true) (hl : storeLocals Ls k.val v = some l') (h : o_Gs p e below Φ (T.setTop (mkF m pc' l' (S)))) (hp : pc + 1 = pc' := by rfl) : o_Gs p e below Φ (T.setTop (mkF m pc Ls (v :: S))) := by
  subst hp; exact o_st (fun t k => XS.astoreN X.here hx rfl hd rfl hv hl k) h
theorem o_astore {Φ : Outcome → State → Prop} (X : Stand p l e R s m args below meth c T locs cells slots) (hx : p.tables.exec = Jvm.exec) {pc : Nat} (pc' : Nat) {Ls : Array Slot} {S : List Value} {k : Nat} {v : Value} (l' : Array Slot) (hd : decode c.code pc = .ok (.astore k, 2)) (hv : v.isRef = true) (hl : storeLocals Ls k v = some l') (h : o_Gs p e below Φ (T.setTop (mkF m pc' l' (S)))) (hp : pc + 2 = pc' := by rfl) : o_Gs p e below Φ (T.setTop (mkF m pc Ls (v :: S))) := by
  subst hp; exact o_st (fun t k => XS.astore X.here hx rfl hd rfl hv hl k) h
theorem o_iconst {Φ : Outcome → State → Prop} (X : Stand p l e R s m args below meth c T locs cells slots) (hx : p.tables.exec = Jvm.exec) {pc : Nat} (pc' : Nat) {Ls : Array Slot} {S : List Value} {i : Int} (z : Int32) (hd : decode c.code pc = .ok (.iconst i, 1)) (hz : Int32.ofInt i = z) (h : o_Gs p e below Φ (T.setTop (mkF m pc' Ls (.int z :: S)))) (hp : pc + 1 = pc' := by rfl) : o_Gs p e below Φ (T.setTop (mkF m pc Ls (S))) := by
  subst hp; exact o_st (fun t k => XS.iconst X.here hx rfl hd (hz ▸ k)) h
theorem o_bipush {Φ : Outcome → State → Prop} (X : Stand p l e R s m args below meth c T locs cells slots) (hx : p.tables.exec = Jvm.exec) {pc : Nat} (pc' : Nat) {Ls : Array Slot} {S : List Value} {i : Int} (z : Int32) (hd : decode c.code pc = .ok (.bipush i, 2)) (hz : (Int8.ofInt i).toInt32 = z) (h : o_Gs p e below Φ (T.setTop (mkF m pc' Ls (.int z :: S)))) (hp : pc + 2 = pc' := by rfl) : o_Gs p e below Φ (T.setTop (mkF m pc Ls (S))) := by
  subst hp; exact o_st (fun t k => XS.bipush X.here hx rfl hd (hz ▸ k)) h
theorem o_sipush {Φ : Outcome → State → Prop} (X : Stand p l e R s m args below meth c T locs cells slots) (hx : p.tables.exec = Jvm.exec) {pc : Nat} (pc' : Nat) {Ls : Array Slot} {S : List Value} {i : Int} (z : Int32) (hd : decode c.code pc = .ok (.sipush i, 3)) (hz : (Int16.ofInt i).toInt32 = z) (h : o_Gs p e below Φ (T.setTop (mkF m pc' Ls (.int z :: S)))) (hp : pc + 3 = pc' := by rfl) : o_Gs p e below Φ (T.setTop (mkF m pc Ls (S))) := by
  subst hp; exact o_st (fun t k => XS.sipush X.here hx rfl hd (hz ▸ k)) h
theorem o_lconst {Φ : Outcome → State → Prop} (X : Stand p l e R s m args below meth c T locs cells slots) (hx : p.tables.exec = Jvm.exec) {pc : Nat} (pc' : Nat) {Ls : Array Slot} {S : List Value} {i : Fin 2} (z : Int64) (hd : decode c.code pc = .ok (.lconst i, 1)) (hz : Int64.ofNat i = z) (h : o_Gs p e below Φ (T.setTop (mkF m pc' Ls (.long z :: S)))) (hp : pc + 1 = pc' := by rfl) : o_Gs p e below Φ (T.setTop (mkF m pc Ls (S))) := by
  subst hp; exact o_st (fun t k => XS.lconst X.here hx rfl hd (hz ▸ k)) h
theorem o_aconstNull {Φ : Outcome → State → Prop} (X : Stand p l e R s m args below meth c T locs cells slots) (hx : p.tables.exec = Jvm.exec) {pc : Nat} (pc' : Nat) {Ls : Array Slot} {S : List Value}  (hd : decode c.code pc = .ok (.aconst_null, 1)) (h : o_Gs p e below Φ (T.setTop (mkF m pc' Ls (.null :: S)))) (hp : pc + 1 = pc' := by rfl) : o_Gs p e below Φ (T.setTop (mkF m pc Ls (S))) := by
  subst hp; exact o_st (fun t k => XS.aconstNull X.here hx rfl hd k) h
theorem o_iadd {Φ : Outcome → State → Prop} (X : Stand p l e R s m args below meth c T locs cells slots) (hx : p.tables.exec = Jvm.exec) {pc : Nat} (pc' : Nat) {Ls : Array Slot} {S : List Value} {x y : Int32} (hd : decode c.code pc = .ok (.iadd, 1)) (h : o_Gs p e below Φ (T.setTop (mkF m pc' Ls (.int (x + y) :: S)))) (hp : pc + 1 = pc' := by rfl) : o_Gs p e below Φ (T.setTop (mkF m pc Ls (.int y :: .int x :: S))) := by
  subst hp; exact o_st (fun t k => XS.iadd X.here hx rfl hd rfl k) h
theorem o_ladd {Φ : Outcome → State → Prop} (X : Stand p l e R s m args below meth c T locs cells slots) (hx : p.tables.exec = Jvm.exec) {pc : Nat} (pc' : Nat) {Ls : Array Slot} {S : List Value} {x y : Int64} (hd : decode c.code pc = .ok (.ladd, 1)) (h : o_Gs p e below Φ (T.setTop (mkF m pc' Ls (.long (x + y) :: S)))) (hp : pc + 1 = pc' := by rfl) : o_Gs p e below Φ (T.setTop (mkF m pc Ls (.long y :: .long x :: S))) := by
  subst hp; exact o_st (fun t k => XS.ladd X.here hx rfl hd rfl k) h
theorem o_isub {Φ : Outcome → State → Prop} (X : Stand p l e R s m args below meth c T locs cells slots) (hx : p.tables.exec = Jvm.exec) {pc : Nat} (pc' : Nat) {Ls : Array Slot} {S : List Value} {x y : Int32} (hd : decode c.code pc = .ok (.isub, 1)) (h : o_Gs p e below Φ (T.setTop (mkF m pc' Ls (.int (x - y) :: S)))) (hp : pc + 1 = pc' := by rfl) : o_Gs p e below Φ (T.setTop (mkF m pc Ls (.int y :: .int x :: S))) := by
  subst hp; exact o_st (fun t k => XS.isub X.here hx rfl hd rfl k) h
theorem o_lsub {Φ : Outcome → State → Prop} (X : Stand p l e R s m args below meth c T locs cells slots) (hx : p.tables.exec = Jvm.exec) {pc : Nat} (pc' : Nat) {Ls : Array Slot} {S : List Value} {x y : Int64} (hd : decode c.code pc = .ok (.lsub, 1)) (h : o_Gs p e below Φ (T.setTop (mkF m pc' Ls (.long (x - y) :: S)))) (hp : pc + 1 = pc' := by rfl) : o_Gs p e below Φ (T.setTop (mkF m pc Ls (.long y :: .long x :: S))) := by
  subst hp; exact o_st (fun t k => XS.lsub X.here hx rfl hd rfl k) h
theorem o_imul {Φ : Outcome → State → Prop} (X : Stand p l e R s m args below meth c T locs cells slots) (hx : p.tables.exec = Jvm.exec) {pc : Nat} (pc' : Nat) {Ls : Array Slot} {S : List Value} {x y : Int32} (hd : decode c.code pc = .ok (.imul, 1)) (h : o_Gs p e below Φ (T.setTop (mkF m pc' Ls (.int (x * y) :: S)))) (hp : pc + 1 = pc' := by rfl) : o_Gs p e below Φ (T.setTop (mkF m pc Ls (.int y :: .int x :: S))) := by
  subst hp; exact o_st (fun t k => XS.imul X.here hx rfl hd rfl k) h
theorem o_lmul {Φ : Outcome → State → Prop} (X : Stand p l e R s m args below meth c T locs cells slots) (hx : p.tables.exec = Jvm.exec) {pc : Nat} (pc' : Nat) {Ls : Array Slot} {S : List Value} {x y : Int64} (hd : decode c.code pc = .ok (.lmul, 1)) (h : o_Gs p e below Φ (T.setTop (mkF m pc' Ls (.long (x * y) :: S)))) (hp : pc + 1 = pc' := by rfl) : o_Gs p e below Φ (T.setTop (mkF m pc Ls (.long y :: .long x :: S))) := by
  subst hp; exact o_st (fun t k => XS.lmul X.here hx rfl hd rfl k) h
theorem o_iand {Φ : Outcome → State → Prop} (X : Stand p l e R s m args below meth c T locs cells slots) (hx : p.tables.exec = Jvm.exec) {pc : Nat} (pc' : Nat) {Ls : Array Slot} {S : List Value} {x y : Int32} (hd : decode c.code pc = .ok (.iand, 1)) (h : o_Gs p e below Φ (T.setTop (mkF m pc' Ls (.int (x &&& y) :: S)))) (hp : pc + 1 = pc' := by rfl) : o_Gs p e below Φ (T.setTop (mkF m pc Ls (.int y :: .int x :: S))) := by
  subst hp; exact o_st (fun t k => XS.iand X.here hx rfl hd rfl k) h
theorem o_land {Φ : Outcome → State → Prop} (X : Stand p l e R s m args below meth c T locs cells slots) (hx : p.tables.exec = Jvm.exec) {pc : Nat} (pc' : Nat) {Ls : Array Slot} {S : List Value} {x y : Int64} (hd : decode c.code pc = .ok (.land, 1)) (h : o_Gs p e below Φ (T.setTop (mkF m pc' Ls (.long (x &&& y) :: S)))) (hp : pc + 1 = pc' := by rfl) : o_Gs p e below Φ (T.setTop (mkF m pc Ls (.long y :: .long x :: S))) := by
  subst hp; exact o_st (fun t k => XS.land X.here hx rfl hd rfl k) h
theorem o_ior {Φ : Outcome → State → Prop} (X : Stand p l e R s m args below meth c T locs cells slots) (hx : p.tables.exec = Jvm.exec) {pc : Nat} (pc' : Nat) {Ls : Array Slot} {S : List Value} {x y : Int32} (hd : decode c.code pc = .ok (.ior, 1)) (h : o_Gs p e below Φ (T.setTop (mkF m pc' Ls (.int (x ||| y) :: S)))) (hp : pc + 1 = pc' := by rfl) : o_Gs p e below Φ (T.setTop (mkF m pc Ls (.int y :: .int x :: S))) := by
  subst hp; exact o_st (fun t k => XS.ior X.here hx rfl hd rfl k) h
theorem o_lor {Φ : Outcome → State → Prop} (X : Stand p l e R s m args below meth c T locs cells slots) (hx : p.tables.exec = Jvm.exec) {pc : Nat} (pc' : Nat) {Ls : Array Slot} {S : List Value} {x y : Int64} (hd : decode c.code pc = .ok (.lor, 1)) (h : o_Gs p e below Φ (T.setTop (mkF m pc' Ls (.long (x ||| y) :: S)))) (hp : pc + 1 = pc' := by rfl) : o_Gs p e below Φ (T.setTop (mkF m pc Ls (.long y :: .long x :: S))) := by
  subst hp; exact o_st (fun t k => XS.lor X.here hx rfl hd rfl k) h
theorem o_ixor {Φ : Outcome → State → Prop} (X : Stand p l e R s m args below meth c T locs cells slots) (hx : p.tables.exec = Jvm.exec) {pc : Nat} (pc' : Nat) {Ls : Array Slot} {S : List Value} {x y : Int32} (hd : decode c.code pc = .ok (.ixor, 1)) (h : o_Gs p e below Φ (T.setTop (mkF m pc' Ls (.int (x ^^^ y) :: S)))) (hp : pc + 1 = pc' := by rfl) : o_Gs p e below Φ (T.setTop (mkF m pc Ls (.int y :: .int x :: S))) := by
  subst hp; exact o_st (fun t k => XS.ixor X.here hx rfl hd rfl k) h
theorem o_lxor {Φ : Outcome → State → Prop} (X : Stand p l e R s m args below meth c T locs cells slots) (hx : p.tables.exec = Jvm.exec) {pc : Nat} (pc' : Nat) {Ls : Array Slot} {S : List Value} {x y : Int64} (hd : decode c.code pc = .ok (.lxor, 1)) (h : o_Gs p e below Φ (T.setTop (mkF m pc' Ls (.long (x ^^^ y) :: S)))) (hp : pc + 1 = pc' := by rfl) : o_Gs p e below Φ (T.setTop (mkF m pc Ls (.long y :: .long x :: S))) := by
  subst hp; exact o_st (fun t k => XS.lxor X.here hx rfl hd rfl k) h
theorem o_idiv {Φ : Outcome → State → Prop} (X : Stand p l e R s m args below meth c T locs cells slots) (hx : p.tables.exec = Jvm.exec) {pc : Nat} (pc' : Nat) {Ls : Array Slot} {S : List Value} {x y : Int32} (hd : decode c.code pc = .ok (.idiv, 1)) (hy : y ≠ 0) (h : o_Gs p e below Φ (T.setTop (mkF m pc' Ls (.int (x / y) :: S)))) (hp : pc + 1 = pc' := by rfl) : o_Gs p e below Φ (T.setTop (mkF m pc Ls (.int y :: .int x :: S))) := by
  subst hp; exact o_st (fun t k => XS.idiv X.here hx rfl hd rfl hy k) h
theorem o_ldiv {Φ : Outcome → State → Prop} (X : Stand p l e R s m args below meth c T locs cells slots) (hx : p.tables.exec = Jvm.exec) {pc : Nat} (pc' : Nat) {Ls : Array Slot} {S : List Value} {x y : Int64} (hd : decode c.code pc = .ok (.ldiv, 1)) (hy : y ≠ 0) (h : o_Gs p e below Φ (T.setTop (mkF m pc' Ls (.long (x / y) :: S)))) (hp : pc + 1 = pc' := by rfl) : o_Gs p e below Φ (T.setTop (mkF m pc Ls (.long y :: .long x :: S))) := by
  subst hp; exact o_st (fun t k => XS.ldiv X.here hx rfl hd rfl hy k) h
theorem o_irem {Φ : Outcome → State → Prop} (X : Stand p l e R s m args below meth c T locs cells slots) (hx : p.tables.exec = Jvm.exec) {pc : Nat} (pc' : Nat) {Ls : Array Slot} {S : List Value} {x y : Int32} (hd : decode c.code pc = .ok (.irem, 1)) (hy : y ≠ 0) (h : o_Gs p e below Φ (T.setTop (mkF m pc' Ls (.int (x % y) :: S)))) (hp : pc + 1 = pc' := by rfl) : o_Gs p e below Φ (T.setTop (mkF m pc Ls (.int y :: .int x :: S))) := by
  subst hp; exact o_st (fun t k => iremM X hx rfl hd rfl hy k) h
theorem o_lrem {Φ : Outcome → State → Prop} (X : Stand p l e R s m args below meth c T locs cells slots) (hx : p.tables.exec = Jvm.exec) {pc : Nat} (pc' : Nat) {Ls : Array Slot} {S : List Value} {x y : Int64} (hd : decode c.code pc = .ok (.lrem, 1)) (hy : y ≠ 0) (h : o_Gs p e below Φ (T.setTop (mkF m pc' Ls (.long (x % y) :: S)))) (hp : pc + 1 = pc' := by rfl) : o_Gs p e below Φ (T.setTop (mkF m pc Ls (.long y :: .long x :: S))) := by
  subst hp; exact o_st (fun t k => XS.lrem X.here hx rfl hd rfl hy (by rw [lrem_mod]; exact k)) h
theorem o_ishl {Φ : Outcome → State → Prop} (X : Stand p l e R s m args below meth c T locs cells slots) (hx : p.tables.exec = Jvm.exec) {pc : Nat} (pc' : Nat) {Ls : Array Slot} {S : List Value} {x y : Int32} (hd : decode c.code pc = .ok (.ishl, 1)) (h : o_Gs p e below Φ (T.setTop (mkF m pc' Ls (.int (x <<< (y &&& 31)) :: S)))) (hp : pc + 1 = pc' := by rfl) : o_Gs p e below Φ (T.setTop (mkF m pc Ls (.int y :: .int x :: S))) := by
  subst hp; exact o_st (fun t k => XS.ishl X.here hx rfl hd rfl k) h
theorem o_ishr {Φ : Outcome → State → Prop} (X : Stand p l e R s m args below meth c T locs cells slots) (hx : p.tables.exec = Jvm.exec) {pc : Nat} (pc' : Nat) {Ls : Array Slot} {S : List Value} {x y : Int32} (hd : decode c.code pc = .ok (.ishr, 1)) (h : o_Gs p e below Φ (T.setTop (mkF m pc' Ls (.int (x >>> (y &&& 31)) :: S)))) (hp : pc + 1 = pc' := by rfl) : o_Gs p e below Φ (T.setTop (mkF m pc Ls (.int y :: .int x :: S))) := by
  subst hp; exact o_st (fun t k => XS.ishr X.here hx rfl hd rfl k) h
theorem o_iushr {Φ : Outcome → State → Prop} (X : Stand p l e R s m args below meth c T locs cells slots) (hx : p.tables.exec = Jvm.exec) {pc : Nat} (pc' : Nat) {Ls : Array Slot} {S : List Value} {x y : Int32} (hd : decode c.code pc = .ok (.iushr, 1)) (h : o_Gs p e below Φ (T.setTop (mkF m pc' Ls (.int ((x.toUInt32 >>> (y &&& 31).toUInt32).toInt32) :: S)))) (hp : pc + 1 = pc' := by rfl) : o_Gs p e below Φ (T.setTop (mkF m pc Ls (.int y :: .int x :: S))) := by
  subst hp; exact o_st (fun t k => XS.iushr X.here hx rfl hd rfl k) h
theorem o_lshl {Φ : Outcome → State → Prop} (X : Stand p l e R s m args below meth c T locs cells slots) (hx : p.tables.exec = Jvm.exec) {pc : Nat} (pc' : Nat) {Ls : Array Slot} {S : List Value} {x : Int64} {y : Int32} (hd : decode c.code pc = .ok (.lshl, 1)) (h : o_Gs p e below Φ (T.setTop (mkF m pc' Ls (.long (x <<< (y &&& 0x3f).toInt64) :: S)))) (hp : pc + 1 = pc' := by rfl) : o_Gs p e below Φ (T.setTop (mkF m pc Ls (.int y :: .long x :: S))) := by
  subst hp; exact o_st (fun t k => XS.lshl X.here hx rfl hd rfl k) h
theorem o_lshr {Φ : Outcome → State → Prop} (X : Stand p l e R s m args below meth c T locs cells slots) (hx : p.tables.exec = Jvm.exec) {pc : Nat} (pc' : Nat) {Ls : Array Slot} {S : List Value} {x : Int64} {y : Int32} (hd : decode c.code pc = .ok (.lshr, 1)) (h : o_Gs p e below Φ (T.setTop (mkF m pc' Ls (.long (x >>> (y &&& 0x3f).toInt64) :: S)))) (hp : pc + 1 = pc' := by rfl) : o_Gs p e below Φ (T.setTop (mkF m pc Ls (.int y :: .long x :: S))) := by
  subst hp; exact o_st (fun t k => XS.lshr X.here hx rfl hd rfl k) h
theorem o_lushr {Φ : Outcome → State → Prop} (X : Stand p l e R s m args below meth c T locs cells slots) (hx : p.tables.exec = Jvm.exec) {pc : Nat} (pc' : Nat) {Ls : Array Slot} {S : List Value} {x : Int64} {y : Int32} (hd : decode c.code pc = .ok (.lushr, 1)) (h : o_Gs p e below Φ (T.setTop (mkF m pc' Ls (.long ((x.toUInt64 >>> (y &&& 0x3f).toInt64.toUInt64).toInt64) :: S)))) (hp : pc + 1 = pc' := by rfl) : o_Gs p e below Φ (T.setTop (mkF m pc Ls (.int y :: .long x :: S))) := by
  subst hp; exact o_st (fun t k => XS.lushr X.here hx rfl hd rfl k) h
theorem o_ineg {Φ : Outcome → State → Prop} (X : Stand p l e R s m args below meth c T locs cells slots) (hx : p.tables.exec = Jvm.exec) {pc : Nat} (pc' : Nat) {Ls : Array Slot} {S : List Value} {x : Int32} (hd : decode c.code pc = .ok (.ineg, 1)) (h : o_Gs p e below Φ (T.setTop (mkF m pc' Ls (.int (-x) :: S)))) (hp : pc + 1 = pc' := by rfl) : o_Gs p e below Φ (T.setTop (mkF m pc Ls (.int x :: S))) := by
  subst hp; exact o_st (fun t k => XS.ineg X.here hx rfl hd rfl k) h
theorem o_lneg {Φ : Outcome → State → Prop} (X : Stand p l e R s m args below meth c T locs cells slots) (hx : p.tables.exec = Jvm.exec) {pc : Nat} (pc' : Nat) {Ls : Array Slot} {S : List Value} {x : Int64} (hd : decode c.code pc = .ok (.lneg, 1)) (h : o_Gs p e below Φ (T.setTop (mkF m pc' Ls (.long (-x) :: S)))) (hp : pc + 1 = pc' := by rfl) : o_Gs p e below Φ (T.setTop (mkF m pc Ls (.long x :: S))) := by
  subst hp; exact o_st (fun t k => XS.lneg X.here hx rfl hd rfl k) h
theorem o_i2l {Φ : Outcome → State → Prop} (X : Stand p l e R s m args below meth c T locs cells slots) (hx : p.tables.exec = Jvm.exec) {pc : Nat} (pc' : Nat) {Ls : Array Slot} {S : List Value} {x : Int32} (hd : decode c.code pc = .ok (.i2l, 1)) (h : o_Gs p e below Φ (T.setTop (mkF m pc' Ls (.long (x.toInt64) :: S)))) (hp : pc + 1 = pc' := by rfl) : o_Gs p e below Φ (T.setTop (mkF m pc Ls (.int x :: S))) := by
  subst hp; exact o_st (fun t k => XS.i2l X.here hx rfl hd rfl k) h
theorem o_l2i {Φ : Outcome → State → Prop} (X : Stand p l e R s m args below meth c T locs cells slots) (hx : p.tables.exec = Jvm.exec) {pc : Nat} (pc' : Nat) {Ls : Array Slot} {S : List Value} {x : Int64} (hd : decode c.code pc = .ok (.l2i, 1)) (h : o_Gs p e below Φ (T.setTop (mkF m pc' Ls (.int (x.toInt32) :: S)))) (hp : pc + 1 = pc' := by rfl) : o_Gs p e below Φ (T.setTop (mkF m pc Ls (.long x :: S))) := by
  subst hp; exact o_st (fun t k => XS.l2i X.here hx rfl hd rfl k) h
theorem o_i2b {Φ : Outcome → State → Prop} (X : Stand p l e R s m args below meth c T locs cells slots) (hx : p.tables.exec = Jvm.exec) {pc : Nat} (pc' : Nat) {Ls : Array Slot} {S : List Value} {x : Int32} (hd : decode c.code pc = .ok (.i2b, 1)) (h : o_Gs p e below Φ (T.setTop (mkF m pc' Ls (.int (x.toInt8.toInt32) :: S)))) (hp : pc + 1 = pc' := by rfl) : o_Gs p e below Φ (T.setTop (mkF m pc Ls (.int x :: S))) := by
  subst hp; exact o_st (fun t k => XS.i2b X.here hx rfl hd rfl k) h
theorem o_i2s {Φ : Outcome → State → Prop} (X : Stand p l e R s m args below meth c T locs cells slots) (hx : p.tables.exec = Jvm.exec) {pc : Nat} (pc' : Nat) {Ls : Array Slot} {S : List Value} {x : Int32} (hd : decode c.code pc = .ok (.i2s, 1)) (h : o_Gs p e below Φ (T.setTop (mkF m pc' Ls (.int (x.toInt16.toInt32) :: S)))) (hp : pc + 1 = pc' := by rfl) : o_Gs p e below Φ (T.setTop (mkF m pc Ls (.int x :: S))) := by
  subst hp; exact o_st (fun t k => XS.i2s X.here hx rfl hd rfl k) h
theorem o_i2c {Φ : Outcome → State → Prop} (X : Stand p l e R s m args below meth c T locs cells slots) (hx : p.tables.exec = Jvm.exec) {pc : Nat} (pc' : Nat) {Ls : Array Slot} {S : List Value} {x : Int32} (hd : decode c.code pc = .ok (.i2c, 1)) (h : o_Gs p e below Φ (T.setTop (mkF m pc' Ls (.int (x.toUInt32.toUInt16.toUInt32.toInt32) :: S)))) (hp : pc + 1 = pc' := by rfl) : o_Gs p e below Φ (T.setTop (mkF m pc Ls (.int x :: S))) := by
  subst hp; exact o_st (fun t k => XS.i2c X.here hx rfl hd rfl k) h
theorem o_lcmp {Φ : Outcome → State → Prop} (X : Stand p l e R s m args below meth c T locs cells slots) (hx : p.tables.exec = Jvm.exec) {pc : Nat} (pc' : Nat) {Ls : Array Slot} {S : List Value} {x y : Int64} (hd : decode c.code pc = .ok (.lcmp, 1)) (h : o_Gs p e below Φ (T.setTop (mkF m pc' Ls (.int (lcmpW x y) :: S)))) (hp : pc + 1 = pc' := by rfl) : o_Gs p e below Φ (T.setTop (mkF m pc Ls (.long y :: .long x :: S))) := by
  subst hp; exact o_st (fun t k => XS.lcmp X.here hx rfl hd rfl k) h
theorem o_iinc {Φ : Outcome → State → Prop} (X : Stand p l e R s m args below meth c T locs cells slots) (hx : p.tables.exec = Jvm.exec) {pc : Nat} (pc' : Nat) {Ls : Array Slot} {S : List Value} {i : Nat} {cst : Int} {x : Int32} (z : Int32) (l' : Array Slot) (hd : decode c.code pc = .ok (.iinc i cst, 3)) (hl : Ls[i]? = some (.val (.int x))) (hz : Int32.ofInt cst = z) (hl' : storeLocals Ls i (.int (x + z)) = some l') (h : o_Gs p e below Φ (T.setTop (mkF m pc' l' (S)))) (hp : pc + 3 = pc' := by rfl) : o_Gs p e below Φ (T.setTop (mkF m pc Ls (S))) := by
  subst hp; exact o_st (fun t k => XS.iinc X.here hx rfl hd hl (hz ▸ hl') k) h
theorem o_dup {Φ : Outcome → State → Prop} (X : Stand p l e R s m args below meth c T locs cells slots) (hx : p.tables.exec = Jvm.exec) {pc : Nat} (pc' : Nat) {Ls : Array Slot} {S : List Value} {v : Value} (hd : decode c.code pc = .ok (.dup, 1)) (hc : v.category = 1) (h : o_Gs p e below Φ (T.setTop (mkF m pc' Ls (v :: v :: S)))) (hp : pc + 1 = pc' := by rfl) : o_Gs p e below Φ (T.setTop (mkF m pc Ls (v :: S))) := by
  subst hp; exact o_st (fun t k => XS.dup X.here hx rfl hd rfl hc k) h
theorem o_pop {Φ : Outcome → State → Prop} (X : Stand p l e R s m args below meth c T locs cells slots) (hx : p.tables.exec = Jvm.exec) {pc : Nat} (pc' : Nat) {Ls : Array Slot} {S : List Value} {v : Value} (hd : decode c.code pc = .ok (.pop, 1)) (hc : v.category = 1) (h : o_Gs p e below Φ (T.setTop (mkF m pc' Ls (S)))) (hp : pc + 1 = pc' := by rfl) : o_Gs p e below Φ (T.setTop (mkF m pc Ls (v :: S))) := by
  subst hp; exact o_st (fun t k => XS.pop X.here hx rfl hd rfl hc k) h
theorem o_dupX1 {Φ : Outcome → State → Prop} (X : Stand p l e R s m args below meth c T locs cells slots) (hx : p.tables.exec = Jvm.exec) {pc : Nat} (pc' : Nat) {Ls : Array Slot} {S : List Value} {v w : Value} (hd : decode c.code pc = .ok (.dup_x1, 1)) (hc : v.category = 1) (hc' : w.category = 1) (h : o_Gs p e below Φ (T.setTop (mkF m pc' Ls (v :: w :: v :: S)))) (hp : pc + 1 = pc' := by rfl) : o_Gs p e below Φ (T.setTop (mkF m pc Ls (v :: w :: S))) := by
  subst hp; exact o_st (fun t k => XS.dupX1 X.here hx rfl hd rfl hc hc' k) h
theorem o_dup2 {Φ : Outcome → State → Prop} (X : Stand p l e R s m args below meth c T locs cells slots) (hx : p.tables.exec = Jvm.exec) {pc : Nat} (pc' : Nat) {Ls : Array Slot} {S : List Value} {v w : Value} (hd : decode c.code pc = .ok (.dup2, 1)) (hc : v.category = 1) (hc' : w.category = 1) (h : o_Gs p e below Φ (T.setTop (mkF m pc' Ls (v :: w :: v :: w :: S)))) (hp : pc + 1 = pc' := by rfl) : o_Gs p e below Φ (T.setTop (mkF m pc Ls (v :: w :: S))) := by
  subst hp; exact o_st (fun t k => Jvm.Free.XT.dup2 X.here hx rfl hd rfl hc hc' k) h
theorem o_dup2L {Φ : Outcome → State → Prop} (X : Stand p l e R s m args below meth c T locs cells slots) (hx : p.tables.exec = Jvm.exec) {pc : Nat} (pc' : Nat) {Ls : Array Slot} {S : List Value} {x : Int64} (hd : decode c.code pc = .ok (.dup2, 1)) (h : o_Gs p e below Φ (T.setTop (mkF m pc' Ls (.long x :: .long x :: S)))) (hp : pc + 1 = pc' := by rfl) : o_Gs p e below Φ (T.setTop (mkF m pc Ls (.long x :: S))) := by
  subst hp; exact o_st (fun t k => Jvm.Free.XT.dup2L X.here hx rfl hd rfl k) h
theorem o_dloadN {Φ : Outcome → State → Prop} (X : Stand p l e R s m args below meth c T locs cells slots) (hx : p.tables.exec = Jvm.exec) {pc : Nat} (pc' : Nat) {Ls : Array Slot} {S : List Value} {k : Fin 4} {v : UInt64} (hd : decode c.code pc = .ok (.dload_n k, 1)) (hl : Ls[k.val]? = some (.val (.double v))) (h : o_Gs p e below Φ (T.setTop (mkF m pc' Ls (.double v :: S)))) (hp : pc + 1 = pc' := by rfl) : o_Gs p e below Φ (T.setTop (mkF m pc Ls (S))) := by
  subst hp; exact o_st (fun t k => XS.dloadN X.here hx rfl hd hl k) h
theorem o_dload {Φ : Outcome → State → Prop} (X : Stand p l e R s m args below meth c T locs cells slots) (hx : p.tables.exec = Jvm.exec) {pc : Nat} (pc' : Nat) {Ls : Array Slot} {S : List Value} {k : Nat} {v : UInt64} (hd : decode c.code pc = .ok (.dload k, 2)) (hl : Ls[k]? = some (.val (.double v))) (h : o_Gs p e below Φ (T.setTop (mkF m pc' Ls (.double v :: S)))) (hp : pc + 2 = pc' := by rfl) : o_Gs p e below Φ (T.setTop (mkF m pc Ls (S))) := by
  subst hp; exact o_st (fun t k => XS.dload X.here hx rfl hd hl k) h
theorem o_dstoreN {Φ : Outcome → State → Prop} (X : Stand p l e R s m args below meth c T locs cells slots) (hx : p.tables.exec = Jvm.exec) {pc : Nat} (pc' : Nat) {Ls : Array Slot} {S : List Value} {k : Fin 4} {v : UInt64} (l' : Array Slot) (hd : decode c.code pc = .ok (.dstore_n k, 1)) (hl : storeLocals Ls k.val (.double v) = some l') (h : o_Gs p e below Φ (T.setTop (mkF m pc' l' (S)))) (hp : pc + 1 = pc' := by rfl) : o_Gs p e below Φ (T.setTop (mkF m pc Ls (.double v :: S))) := by
  subst hp; exact o_st (fun t k => XS.dstoreN X.here hx rfl hd rfl hl k) h
theorem o_dstore {Φ : Outcome → State → Prop} (X : Stand p l e R s m args below meth c T locs cells slots) (hx : p.tables.exec = Jvm.exec) {pc : Nat} (pc' : Nat) {Ls : Array Slot} {S : List Value} {k : Nat} {v : UInt64} (l' : Array Slot) (hd : decode c.code pc = .ok (.dstore k, 2)) (hl : storeLocals Ls k (.double v) = some l') (h : o_Gs p e below Φ (T.setTop (mkF m pc' l' (S)))) (hp : pc + 2 = pc' := by rfl) : o_Gs p e below Φ (T.setTop (mkF m pc Ls (.double v :: S))) := by
  subst hp; exact o_st (fun t k => XS.dstore X.here hx rfl hd rfl hl k) h
theorem o_dconst0 {Φ : Outcome → State → Prop} (X : Stand p l e R s m args below meth c T locs cells slots) (hx : p.tables.exec = Jvm.exec) {pc : Nat} (pc' : Nat) {Ls : Array Slot} {S : List Value}  (hd : decode c.code pc = .ok (.dconst 0, 1)) (h : o_Gs p e below Φ (T.setTop (mkF m pc' Ls (.double FP.dconst0 :: S)))) (hp : pc + 1 = pc' := by rfl) : o_Gs p e below Φ (T.setTop (mkF m pc Ls (S))) := by
  subst hp; exact o_st (fun t k => XS.dconst0 X.here hx rfl hd rfl k) h
theorem o_dconst1 {Φ : Outcome → State → Prop} (X : Stand p l e R s m args below meth c T locs cells slots) (hx : p.tables.exec = Jvm.exec) {pc : Nat} (pc' : Nat) {Ls : Array Slot} {S : List Value}  (hd : decode c.code pc = .ok (.dconst 1, 1)) (h : o_Gs p e below Φ (T.setTop (mkF m pc' Ls (.double FP.dconst1 :: S)))) (hp : pc + 1 = pc' := by rfl) : o_Gs p e below Φ (T.setTop (mkF m pc Ls (S))) := by
  subst hp; exact o_st (fun t k => XS.dconst1 X.here hx rfl hd rfl k) h
theorem o_l2d {Φ : Outcome → State → Prop} (X : Stand p l e R s m args below meth c T locs cells slots) (hx : p.tables.exec = Jvm.exec) {pc : Nat} (pc' : Nat) {Ls : Array Slot} {S : List Value} {x : Int64} (hd : decode c.code pc = .ok (.l2d, 1)) (h : o_Gs p e below Φ (T.setTop (mkF m pc' Ls (.double (FP.l2d x) :: S)))) (hp : pc + 1 = pc' := by rfl) : o_Gs p e below Φ (T.setTop (mkF m pc Ls (.long x :: S))) := by
  subst hp; exact o_st (fun t k => XS.l2dS X.here hx rfl hd rfl rfl k) h
theorem o_i2d {Φ : Outcome → State → Prop} (X : Stand p l e R s m args below meth c T locs cells slots) (hx : p.tables.exec = Jvm.exec) {pc : Nat} (pc' : Nat) {Ls : Array Slot} {S : List Value} {x : Int32} (hd : decode c.code pc = .ok (.i2d, 1)) (h : o_Gs p e below Φ (T.setTop (mkF m pc' Ls (.double (FP.i2d x) :: S)))) (hp : pc + 1 = pc' := by rfl) : o_Gs p e below Φ (T.setTop (mkF m pc Ls (.int x :: S))) := by
  subst hp; exact o_st (fun t k => XS.i2dS X.here hx rfl hd rfl rfl k) h
theorem o_dneg {Φ : Outcome → State → Prop} (X : Stand p l e R s m args below meth c T locs cells slots) (hx : p.tables.exec = Jvm.exec) {pc : Nat} (pc' : Nat) {Ls : Array Slot} {S : List Value} {x : UInt64} (hd : decode c.code pc = .ok (.dneg, 1)) (h : o_Gs p e below Φ (T.setTop (mkF m pc' Ls (.double (FP.dneg x) :: S)))) (hp : pc + 1 = pc' := by rfl) : o_Gs p e below Φ (T.setTop (mkF m pc Ls (.double x :: S))) := by
  subst hp; exact o_st (fun t k => XS.dnegS X.here hx rfl hd rfl rfl k) h
theorem o_dadd {Φ : Outcome → State → Prop} (X : Stand p l e R s m args below meth c T locs cells slots) (hx : p.tables.exec = Jvm.exec) {pc : Nat} (pc' : Nat) {Ls : Array Slot} {S : List Value} {x y : UInt64} (hd : decode c.code pc = .ok (.dadd, 1)) (hn : Jvm.Free.Fl.NoNaN64 (FP.dadd x y)) (h : o_Gs p e below Φ (T.setTop (mkF m pc' Ls (.double (FP.dadd x y) :: S)))) (hp : pc + 1 = pc' := by rfl) : o_Gs p e below Φ (T.setTop (mkF m pc Ls (.double y :: .double x :: S))) := by
  subst hp; exact o_st (fun t k => XS.daddS X.here hx rfl hd rfl hn rfl k) h
theorem o_dsub {Φ : Outcome → State → Prop} (X : Stand p l e R s m args below meth c T locs cells slots) (hx : p.tables.exec = Jvm.exec) {pc : Nat} (pc' : Nat) {Ls : Array Slot} {S : List Value} {x y : UInt64} (hd : decode c.code pc = .ok (.dsub, 1)) (hn : Jvm.Free.Fl.NoNaN64 (FP.dsub x y)) (h : o_Gs p e below Φ (T.setTop (mkF m pc' Ls (.double (FP.dsub x y) :: S)))) (hp : pc + 1 = pc' := by rfl) : o_Gs p e below Φ (T.setTop (mkF m pc Ls (.double y :: .double x :: S))) := by
  subst hp; exact o_st (fun t k => XS.dsubS X.here hx rfl hd rfl hn rfl k) h
theorem o_dmul {Φ : Outcome → State → Prop} (X : Stand p l e R s m args below meth c T locs cells slots) (hx : p.tables.exec = Jvm.exec) {pc : Nat} (pc' : Nat) {Ls : Array Slot} {S : List Value} {x y : UInt64} (hd : decode c.code pc = .ok (.dmul, 1)) (hn : Jvm.Free.Fl.NoNaN64 (FP.dmul x y)) (h : o_Gs p e below Φ (T.setTop (mkF m pc' Ls (.double (FP.dmul x y) :: S)))) (hp : pc + 1 = pc' := by rfl) : o_Gs p e below Φ (T.setTop (mkF m pc Ls (.double y :: .double x :: S))) := by
  subst hp; exact o_st (fun t k => XS.dmulS X.here hx rfl hd rfl hn rfl k) h
theorem o_ddiv {Φ : Outcome → State → Prop} (X : Stand p l e R s m args below meth c T locs cells slots) (hx : p.tables.exec = Jvm.exec) {pc : Nat} (pc' : Nat) {Ls : Array Slot} {S : List Value} {x y : UInt64} (hd : decode c.code pc = .ok (.ddiv, 1)) (hn : Jvm.Free.Fl.NoNaN64 (FP.ddiv x y)) (h : o_Gs p e below Φ (T.setTop (mkF m pc' Ls (.double (FP.ddiv x y) :: S)))) (hp : pc + 1 = pc' := by rfl) : o_Gs p e below Φ (T.setTop (mkF m pc Ls (.double y :: .double x :: S))) := by
  subst hp; exact o_st (fun t k => XS.ddivS X.here hx rfl hd rfl hn rfl k) h
theorem o_dcmp {Φ : Outcome → State → Prop} (X : Stand p l e R s m args below meth c T locs cells slots) (hx : p.tables.exec = Jvm.exec) {pc : Nat} (pc' : Nat) {Ls : Array Slot} {S : List Value} {x y : UInt64} {o : CmpOp} (z : Int32) (hd : decode c.code pc = .ok (.dcmp o, 1)) (hz : cmpValue (FP.dcmp x y) o = z) (h : o_Gs p e below Φ (T.setTop (mkF m pc' Ls (.int z :: S)))) (hp : pc + 1 = pc' := by rfl) : o_Gs p e below Φ (T.setTop (mkF m pc Ls (.double y :: .double x :: S))) := by
  subst hp; exact o_st (fun t k => XS.dcmpS X.here hx rfl hd rfl hz k) h
theorem o_goto {Φ : Outcome → State → Prop} (X : Stand p l e R s m args below meth c T locs cells slots) (hx : p.tables.exec = Jvm.exec) {pc : Nat} (pc' : Nat) {Ls : Array Slot} {S : List Value} {o : Int}  (hd : decode c.code pc = .ok (.goto o, 3)) (h : o_Gs p e below Φ (T.setTop (mkF m pc' Ls S))) (hp : decide (0 ≤ (pc : Int) + o ∧ ((pc : Int) + o).toNat = pc') = true := by rfl) : o_Gs p e below Φ (T.setTop (mkF m pc Ls (S))) := by
  have q := of_decide_eq_true hp; exact o_st (fun t k => XS.goto X.here hx rfl (pc0 := pc) (pc' := pc') rfl hd q.1 q.2 k) h
theorem o_ifYes {Φ : Outcome → State → Prop} (X : Stand p l e R s m args below meth c T locs cells slots) (hx : p.tables.exec = Jvm.exec) {pc : Nat} (pc' : Nat) {Ls : Array Slot} {S : List Value} {o : Int} {cd : ClassFile.Cond} {x : Int32} (hd : decode c.code pc = .ok (.ifCond cd o, 3)) (hc : if_icmp.holds cd x 0 = true) (h : o_Gs p e below Φ (T.setTop (mkF m pc' Ls S))) (hp : decide (0 ≤ (pc : Int) + o ∧ ((pc : Int) + o).toNat = pc') = true := by rfl) : o_Gs p e below Φ (T.setTop (mkF m pc Ls (.int x :: S))) := by
  have q := of_decide_eq_true hp; exact o_st (fun t k => XS.ifYes X.here hx rfl (pc0 := pc) (pc' := pc') rfl hd rfl ((if0 _ _).trans hc) q.1 q.2 k) h
theorem o_ifNo {Φ : Outcome → State → Prop} (X : Stand p l e R s m args below meth c T locs cells slots) (hx : p.tables.exec = Jvm.exec) {pc : Nat} (pc' : Nat) {Ls : Array Slot} {S : List Value} {o : Int} {cd : ClassFile.Cond} {x : Int32} (hd : decode c.code pc = .ok (.ifCond cd o, 3)) (hc : if_icmp.holds cd x 0 = false) (h : o_Gs p e below Φ (T.setTop (mkF m pc' Ls S))) (hp : pc + 3 = pc' := by rfl) : o_Gs p e below Φ (T.setTop (mkF m pc Ls (.int x :: S))) := by
  subst hp; exact o_st (fun t k => XS.ifNo X.here hx rfl hd rfl ((if0 _ _).trans hc) k) h
theorem o_icmpYes {Φ : Outcome → State → Prop} (X : Stand p l e R s m args below meth c T locs cells slots) (hx : p.tables.exec = Jvm.exec) {pc : Nat} (pc' : Nat) {Ls : Array Slot} {S : List Value} {o : Int} {cd : ClassFile.Cond} {x y : Int32} (hd : decode c.code pc = .ok (.if_icmp cd o, 3)) (hc : if_icmp.holds cd x y = true) (h : o_Gs p e below Φ (T.setTop (mkF m pc' Ls S))) (hp : decide (0 ≤ (pc : Int) + o ∧ ((pc : Int) + o).toNat = pc') = true := by rfl) : o_Gs p e below Φ (T.setTop (mkF m pc Ls (.int y :: .int x :: S))) := by
  have q := of_decide_eq_true hp; exact o_st (fun t k => XS.icmpYes X.here hx rfl (pc0 := pc) (pc' := pc') rfl hd rfl hc q.1 q.2 k) h
theorem o_icmpNo {Φ : Outcome → State → Prop} (X : Stand p l e R s m args below meth c T locs cells slots) (hx : p.tables.exec = Jvm.exec) {pc : Nat} (pc' : Nat) {Ls : Array Slot} {S : List Value} {o : Int} {cd : ClassFile.Cond} {x y : Int32} (hd : decode c.code pc = .ok (.if_icmp cd o, 3)) (hc : if_icmp.holds cd x y = false) (h : o_Gs p e below Φ (T.setTop (mkF m pc' Ls S))) (hp : pc + 3 = pc' := by rfl) : o_Gs p e below Φ (T.setTop (mkF m pc Ls (.int y :: .int x :: S))) := by
  subst hp; exact o_st (fun t k => XS.icmpNo X.here hx rfl hd rfl hc k) h
theorem o_ifnullYes {Φ : Outcome → State → Prop} (X : Stand p l e R s m args below meth c T locs cells slots) (hx : p.tables.exec = Jvm.exec) {pc : Nat} (pc' : Nat) {Ls : Array Slot} {S : List Value} {o : Int}  (hd : decode c.code pc = .ok (.ifnull o, 3)) (h : o_Gs p e below Φ (T.setTop (mkF m pc' Ls S))) (hp : decide (0 ≤ (pc : Int) + o ∧ ((pc : Int) + o).toNat = pc') = true := by rfl) : o_Gs p e below Φ (T.setTop (mkF m pc Ls (.null :: S))) := by
  have q := of_decide_eq_true hp; exact o_st (fun t k => XS.ifnullYes X.here hx rfl (pc0 := pc) (pc' := pc') rfl hd rfl q.1 q.2 k) h
theorem o_ifnullNo {Φ : Outcome → State → Prop} (X : Stand p l e R s m args below meth c T locs cells slots) (hx : p.tables.exec = Jvm.exec) {pc : Nat} (pc' : Nat) {Ls : Array Slot} {S : List Value} {o : Int} {b : Addr} (hd : decode c.code pc = .ok (.ifnull o, 3)) (h : o_Gs p e below Φ (T.setTop (mkF m pc' Ls S))) (hp : pc + 3 = pc' := by rfl) : o_Gs p e below Φ (T.setTop (mkF m pc Ls (.ref b :: S))) := by
  subst hp; exact o_st (fun t k => XS.ifnullNo X.here hx rfl hd rfl k) h
theorem o_ifnonnullYes {Φ : Outcome → State → Prop} (X : Stand p l e R s m args below meth c T locs cells slots) (hx : p.tables.exec = Jvm.exec) {pc : Nat} (pc' : Nat) {Ls : Array Slot} {S : List Value} {o : Int} {b : Addr} (hd : decode c.code pc = .ok (.ifnonnull o, 3)) (h : o_Gs p e below Φ (T.setTop (mkF m pc' Ls S))) (hp : decide (0 ≤ (pc : Int) + o ∧ ((pc : Int) + o).toNat = pc') = true := by rfl) : o_Gs p e below Φ (T.setTop (mkF m pc Ls (.ref b :: S))) := by
  have q := of_decide_eq_true hp; exact o_st (fun t k => XS.ifnonnullYes X.here hx rfl (pc0 := pc) (pc' := pc') rfl hd rfl q.1 q.2 k) h
theorem o_ifnonnullNo {Φ : Outcome → State → Prop} (X : Stand p l e R s m args below meth c T locs cells slots) (hx : p.tables.exec = Jvm.exec) {pc : Nat} (pc' : Nat) {Ls : Array Slot} {S : List Value} {o : Int}  (hd : decode c.code pc = .ok (.ifnonnull o, 3)) (h : o_Gs p e below Φ (T.setTop (mkF m pc' Ls S))) (hp : pc + 3 = pc' := by rfl) : o_Gs p e below Φ (T.setTop (mkF m pc Ls (.null :: S))) := by
  subst hp; exact o_st (fun t k => XS.ifnonnullNo X.here hx rfl hd rfl k) h
theorem o_acmp {Φ : Outcome → State → Prop} (X : Stand p l e R s m args below meth c T locs cells slots) (hx : p.tables.exec = Jvm.exec) {pc : Nat} (pc' : Nat) {Ls : Array Slot} {S : List Value} {o : Int} {cd : ACond} {v w : Value} (same : Bool) (hd : decode c.code pc = .ok (.if_acmp cd o, 3)) (h1 : v.isRef = true) (h2 : w.isRef = true) (hq : decide (v = w) = same) (h : o_Gs p e below Φ (T.setTop (mkF m pc' Ls S))) (hp : decide (0 ≤ (pc : Int) + o ∧ pc' = if acV cd same = true then ((pc : Int) + o).toNat else pc + 3) = true := by rfl) : o_Gs p e below Φ (T.setTop (mkF m pc Ls (w :: v :: S))) := by
  have q := of_decide_eq_true hp; exact o_st (fun t k => Jvm.RoadKit.acmp (g := mkF m pc Ls (w :: v :: S)) X hx rfl h1 h2 (pc0 := pc) (pc' := pc') (same := same) rfl hd rfl hq q.1 q.2 k) h
theorem o_ldcI {Φ : Outcome → State → Prop} (X : Stand p l e R s m args below meth c T locs cells slots) (hx : p.tables.exec = Jvm.exec) {pc : Nat} (pc' : Nat) {Ls : Array Slot} {S : List Value} {own : String} {index : Nat} {v : Int32} (hown : s.vm.findClass own = some m.cls) (hw : (Jvm.Cond.constant own index v).before args s = true) (hd : decode c.code pc = .ok (.ldc index, 2)) (h : o_Gs p e below Φ (T.setTop (mkF m pc' Ls (.int v :: S)))) (hp : pc + 2 = pc' := by rfl) : o_Gs p e below Φ (T.setTop (mkF m pc Ls S)) := by
  subst hp; exact o_st (fun t k => X.ldcInt hx hown hw (g := mkF m pc Ls S) rfl hd _ k) h
theorem o_ldcwI {Φ : Outcome → State → Prop} (X : Stand p l e R s m args below meth c T locs cells slots) (hx : p.tables.exec = Jvm.exec) {pc : Nat} (pc' : Nat) {Ls : Array Slot} {S : List Value} {own : String} {index : Nat} {v : Int32} (hown : s.vm.findClass own = some m.cls) (hw : (Jvm.Cond.constant own index v).before args s = true) (hd : decode c.code pc = .ok (.ldc_w index, 3)) (h : o_Gs p e below Φ (T.setTop (mkF m pc' Ls (.int v :: S)))) (hp : pc + 3 = pc' := by rfl) : o_Gs p e below Φ (T.setTop (mkF m pc Ls S)) := by
  subst hp; exact o_st (fun t k => X.ldcwInt hx hown hw (g := mkF m pc Ls S) rfl hd _ k) h
theorem o_ldcL {Φ : Outcome → State → Prop} (X : Stand p l e R s m args below meth c T locs cells slots) (hx : p.tables.exec = Jvm.exec) {pc : Nat} (pc' : Nat) {Ls : Array Slot} {S : List Value} {own : String} {index : Nat} {v : Int64} (hown : s.vm.findClass own = some m.cls) (hw : (Jvm.Cond.constantLong own index v).before args s = true) (hd : decode c.code pc = .ok (.ldc2_w index, 3)) (h : o_Gs p e below Φ (T.setTop (mkF m pc' Ls (.long v :: S)))) (hp : pc + 3 = pc' := by rfl) : o_Gs p e below Φ (T.setTop (mkF m pc Ls S)) := by
  subst hp; exact o_st (fun t k => X.ldc2Long hx hown hw (g := mkF m pc Ls S) rfl hd _ k) h
theorem o_ldcD {Φ : Outcome → State → Prop} (X : Stand p l e R s m args below meth c T locs cells slots) (hx : p.tables.exec = Jvm.exec) {pc : Nat} (pc' : Nat) {Ls : Array Slot} {S : List Value} {own : String} {index : Nat} {v : UInt64} (hown : s.vm.findClass own = some m.cls) (hw : (Jvm.Cond.constantDouble own index v).before args s = true) (hd : decode c.code pc = .ok (.ldc2_w index, 3)) (h : o_Gs p e below Φ (T.setTop (mkF m pc' Ls (.double v :: S)))) (hp : pc + 3 = pc' := by rfl) : o_Gs p e below Φ (T.setTop (mkF m pc Ls S)) := by
  subst hp; exact o_st (fun t k => X.ldc2DoubleC hx hown hw (g := mkF m pc Ls S) rfl hd _ k) h
theorem o_pop2L {Φ : Outcome → State → Prop} (X : Stand p l e R s m args below meth c T locs cells slots) (hx : p.tables.exec = Jvm.exec) {pc : Nat} (pc' : Nat) {Ls : Array Slot} {S : List Value} {x : Int64} (hd : decode c.code pc = .ok (.pop2, 1)) (h : o_Gs p e below Φ (T.setTop (mkF m pc' Ls S))) (hp : pc + 1 = pc' := by rfl) : o_Gs p e below Φ (T.setTop (mkF m pc Ls (.long x :: S))) := by
  subst hp
  refine o_st (fun t k => ?_) h
  show Steps p.tables e below (T.setTop { method := m, pc := pc, locals := Ls, stack := .long x :: S, locked := none }) _
  jvm_step X.here [X.here.top, hx, hd, Value.category]
  exact k
-- end of steps
theorem o_leafI {z w : Int32} (h : z = w) : some (Value.int z) = some (Value.int w) := by rw [h]
theorem o_leafJ {z w : Int64} (h : z = w) : some (Value.long z) = some (Value.long w) := by rw [h]
theorem o_leafR {z w : Addr} (h : z = w) : some (Value.ref z) = some (Value.ref w) := by rw [h]
theorem o_selfsel {Z s : State} {a0 args : Array Value} {y : MethodName} {n : Nat} (hZ : Z.Warmed39 s.vm) (wi : (Jvm.Cond.instantiable y.cls n).before a0 Z = true) (wm : (Jvm.Cond.instanceMethod y).before a0 Z = true) (wp : (Jvm.Cond.privateMethod y).before a0 Z = true) (hy : y.cls ≠ "java/lang/invoke/MethodHandle" ∧ y.cls ≠ "java/lang/invoke/VarHandle") : (Jvm.Cond.selects y.cls y y).before args s = true := by
  have wi' : (Jvm.Cond.instantiable y.cls n).before args s = true := mvT hZ wi
  obtain ⟨c, k, h1, h2, h3, h4, h5, h6⟩ := Cond.instantiable_spec wi'
  exact selects_self_of_private h1 h2 (by simp only [Bool.or_eq_false_iff] at h4; exact h4.1) (Cond.privateMethod_at (mvP hZ wp (args := #[]))) (mvT hZ wm) hy
theorem o_sta {Z : State} {a0 : Array Value} {C n d K : String} (hx : (Jvm.Cond.exactly (Term.static C n d) K).value a0 Z none Z [] = some true) (hi : (Jvm.Cond.initializedFor C n d).before a0 Z = true ∨ ((Jvm.Cond.initialized C).before a0 Z = true ∧ (Jvm.Cond.laysStatic C n d).before a0 Z = true)) :
    ∃ a : Addr, (Term.static C n d).eval a0 Z none [] Z = some (.ref a) ∧ Sta Z Z.heap C n d (.ref a) ∧ Exa Z Z.heap a K := by
  obtain ⟨a, ha⟩ := exa_v hx
  exact ⟨a, ha, Sta.start ha hi, Exa.start ha hx⟩
theorem o_fldI {Z : State} {a0 : Array Value} {t : Term} {a : Addr} {C n d : String} {k : Int32} (ev : t.eval a0 Z none [] Z = some (.ref a)) (h : (Jvm.Cond.eq (Term.field t C n d) (Term.int k)).value a0 Z none Z [] = some true) : Fld Z Z.heap a C n d (.int k) := by
  refine Fld.start ?_
  rw [← fld_at (args := a0) (first := Z) (o := none) (idx := []) ev]
  obtain ⟨x, y, h1, h2, h3, h4⟩ := cmp_v (Or.inl h)
  rw [Term.int_eval] at h2
  cases h2
  obtain ⟨z, rfl⟩ := h4
  have q : (Jvm.Cond.eq (Term.field t C n d) (Term.int k)).value a0 Z none Z [] = some (decide (z = k)) := Cond.eq_ints h1 (Term.int_eval k)
  rw [h1, gotT q h]
end Own
abbrev sI (x : Int32) : Slot := .val (.int x)
abbrev sR (x : Addr) : Slot := .val (.ref x)
abbrev sJ (x : Int64) : Slot := .val (.long x)
abbrev o_Hw (Z : State) (a0 : Array Value) : Prop := ∀ d ∈ tables_1, d.before a0 Z = true
abbrev y0 : MethodName := ⟨"com/example/orbweaver/orbweaver/AsciiText", "lowerCase", "(I)I"⟩
abbrev y1 : MethodName := ⟨"com/example/orbweaver/orbweaver/AsciiTextLowerCasePinLaw", "expected", "(C)C"⟩
abbrev y2 : MethodName := ⟨"jdk/internal/util/Preconditions", "checkIndex", "(IILjava/util/function/BiFunction;)I"⟩
abbrev y3 : MethodName := ⟨"java/lang/String", "checkIndex", "(II)V"⟩
abbrev y4 : MethodName := ⟨"java/lang/String", "coder", "()B"⟩
abbrev y5 : MethodName := ⟨"java/lang/String", "isLatin1", "()Z"⟩
abbrev y6 : MethodName := ⟨"java/lang/StringUTF16", "length", "([B)I"⟩
abbrev y7 : MethodName := ⟨"jdk/internal/util/Preconditions", "checkFromIndexSize", "(IIILjava/util/function/BiFunction;)I"⟩
abbrev y8 : MethodName := ⟨"java/lang/String", "checkBoundsOffCount", "(III)I"⟩
abbrev y9 : MethodName := ⟨"java/lang/StringUTF16", "checkBoundsOffCount", "(II[B)V"⟩
abbrev y10 : MethodName := ⟨"java/lang/StringUTF16", "newBytesLength", "(I)I"⟩
abbrev y11 : MethodName := ⟨"java/lang/StringUTF16", "newBytesFor", "(I)[B"⟩
abbrev y12 : MethodName := ⟨"java/lang/StringUTF16", "putChar", "([BII)V"⟩
abbrev y13 : MethodName := ⟨"java/lang/StringUTF16", "getChar", "([BI)C"⟩
abbrev y14 : MethodName := ⟨"java/lang/StringUTF16", "checkIndex", "(I[B)V"⟩
abbrev y15 : MethodName := ⟨"java/lang/StringUTF16", "charAt", "([BI)C"⟩
abbrev y16 : MethodName := ⟨"java/lang/StringLatin1", "charAt", "([BI)C"⟩
abbrev y17 : MethodName := ⟨"java/lang/StringUTF16", "toBytes", "([CII)[B"⟩
abbrev y18 : MethodName := ⟨"java/lang/StringUTF16", "getChars", "([BII[CI)V"⟩
abbrev y19 : MethodName := ⟨"java/lang/StringLatin1", "inflate", "([BI[CII)V"⟩
abbrev y20 : MethodName := ⟨"java/lang/StringLatin1", "toChars", "([B)[C"⟩
abbrev y21 : MethodName := ⟨"java/lang/String", "toCharArray", "()[C"⟩
abbrev y22 : MethodName := ⟨"java/lang/StringUTF16", "coderFromArrayLen", "([BI)B"⟩
abbrev y23 : MethodName := ⟨"java/lang/String", "length", "()I"⟩
abbrev y24 : MethodName := ⟨"java/lang/String", "charAt", "(I)C"⟩
abbrev y25 : MethodName := ⟨"java/lang/StringUTF16", "toChars", "([B)[C"⟩
abbrev y26 : MethodName := ⟨"java/lang/StringUTF16", "compress", "([CI[BII)I"⟩
abbrev y27 : MethodName := ⟨"java/lang/StringUTF16", "compress", "([CII)[B"⟩
abbrev y28 : MethodName := ⟨"java/lang/String", "<init>", "([CIILjava/lang/Void;)V"⟩
abbrev y29 : MethodName := ⟨"java/lang/String", "<init>", "([C)V"⟩
abbrev y30 : MethodName := ⟨"com/example/orbweaver/orbweaver/AsciiText", "lowerCase", "(Ljava/lang/String;)Ljava/lang/String;"⟩
abbrev r0 : Room := { frames := 0, cells := 0, slots := 0, locals := 0 }
abbrev r1 : Room := { frames := 1, cells := 0, slots := 0, locals := 14 }
abbrev r2 : Room := { frames := 1, cells := 0, slots := 0, locals := 15 }
abbrev r3 : Room := { frames := 2, cells := 0, slots := 0, locals := 29 }
abbrev r4 : Room := { frames := 1, cells := 1, slots := 2, locals := 12 }
abbrev r5 : Room := { frames := 2, cells := 0, slots := 0, locals := 27 }
abbrev r6 : Room := { frames := 3, cells := 0, slots := 0, locals := 40 }
abbrev r7 : Room := { frames := 2, cells := 1, slots := 2, locals := 24 }
abbrev r8 : Room := { frames := 3, cells := 0, slots := 0, locals := 43 }
abbrev r9 : Room := { frames := 1, cells := 1, slots := 1, locals := 17 }
abbrev r10 : Room := { frames := 2, cells := 1, slots := 1, locals := 30 }
abbrev r11 : Room := { frames := 1, cells := 0, slots := 0, locals := 13 }
abbrev r12 : Room := { frames := 4, cells := 1, slots := 1, locals := 60 }
abbrev r13 : Room := { frames := 5, cells := 1, slots := 1, locals := 73 }
abbrev r14 : Room := { frames := 4, cells := 0, slots := 0, locals := 53 }
abbrev r15 : Room := { frames := 1, cells := 1, slots := 1, locals := 18 }
abbrev r16 : Room := { frames := 2, cells := 1, slots := 1, locals := 35 }
abbrev r17 : Room := { frames := 3, cells := 1, slots := 1, locals := 52 }
abbrev r18 : Room := { frames := 4, cells := 3, slots := 6, locals := 66 }
abbrev r19 : Room := { frames := 3, cells := 2, slots := 3, locals := 40 }
abbrev r20 : Room := { frames := 4, cells := 2, slots := 3, locals := 57 }
abbrev r21 : Room := { frames := 5, cells := 2, slots := 3, locals := 74 }
abbrev r22 : Room := { frames := 6, cells := 4, slots := 8, locals := 88 }
abbrev r23 : Room := { frames := 1, cells := 1, slots := 4, locals := 12 }
abbrev r24 : Room := { frames := 2, cells := 1, slots := 4, locals := 24 }
abbrev r25 : Room := { frames := 1, cells := 1, slots := 2, locals := 17 }
abbrev r26 : Room := { frames := 2, cells := 1, slots := 2, locals := 30 }
abbrev r27 : Room := { frames := 4, cells := 1, slots := 2, locals := 60 }
abbrev r28 : Room := { frames := 5, cells := 1, slots := 2, locals := 73 }
abbrev r29 : Room := { frames := 1, cells := 1, slots := 2, locals := 18 }
abbrev r30 : Room := { frames := 2, cells := 1, slots := 2, locals := 35 }
abbrev r31 : Room := { frames := 3, cells := 1, slots := 2, locals := 52 }
abbrev r32 : Room := { frames := 4, cells := 3, slots := 8, locals := 66 }
abbrev r33 : Room := { frames := 3, cells := 2, slots := 6, locals := 40 }
abbrev r34 : Room := { frames := 4, cells := 2, slots := 6, locals := 57 }
abbrev r35 : Room := { frames := 5, cells := 2, slots := 6, locals := 74 }
abbrev r36 : Room := { frames := 6, cells := 4, slots := 12, locals := 88 }
abbrev r37 : Room := { frames := 1, cells := 1, slots := 6, locals := 12 }
abbrev r38 : Room := { frames := 2, cells := 1, slots := 6, locals := 24 }
abbrev r39 : Room := { frames := 1, cells := 1, slots := 3, locals := 17 }
abbrev r40 : Room := { frames := 2, cells := 1, slots := 3, locals := 30 }
abbrev r41 : Room := { frames := 4, cells := 1, slots := 3, locals := 60 }
abbrev r42 : Room := { frames := 5, cells := 1, slots := 3, locals := 73 }
abbrev r43 : Room := { frames := 1, cells := 1, slots := 3, locals := 18 }
abbrev r44 : Room := { frames := 2, cells := 1, slots := 3, locals := 35 }
abbrev r45 : Room := { frames := 3, cells := 1, slots := 3, locals := 52 }
abbrev r46 : Room := { frames := 4, cells := 3, slots := 10, locals := 66 }
abbrev r47 : Room := { frames := 3, cells := 2, slots := 9, locals := 40 }
abbrev r48 : Room := { frames := 4, cells := 2, slots := 9, locals := 57 }
abbrev r49 : Room := { frames := 5, cells := 2, slots := 9, locals := 74 }
abbrev r50 : Room := { frames := 6, cells := 4, slots := 16, locals := 88 }
abbrev r51 : Room := { frames := 1, cells := 2, slots := 4, locals := 12 }
abbrev r52 : Room := { frames := 2, cells := 2, slots := 4, locals := 29 }
abbrev r53 : Room := { frames := 1, cells := 1, slots := 0, locals := 17 }
abbrev r54 : Room := { frames := 2, cells := 1, slots := 0, locals := 30 }
abbrev r55 : Room := { frames := 3, cells := 4, slots := 8, locals := 43 }
abbrev o_Met (l : Launch) (y : MethodName) (bytes : ByteArray) (n : Nat) (rt : Option FieldType) (ws : List Jvm.Cond) (R : Room) (A : Array Value) (Z : State) (h0 : Heap) (Q : Option Value → Heap → List Loc → Prop) : Prop := MetFree l y (head1 (Jvm.Cond.code y bytes n rt :: ws) R) (fun a U => a = A ∧ Z.Warmed39 U.vm ∧ U.heap = h0) (fun _ _ _ _ _ => True) (fun _ U o U' => ∃ v L, o = .returned v ∧ Q v U'.heap L ∧ FrameEnd U o U' L R.cells R.slots)
section OwnBd
variable {p : Program} {l : Launch} {x : MethodName} {S : Spec} {code : ByteArray} {n : Nat} {ret : Option FieldType} {e : Env} {s : State} {m : MethodId} {args : Array Value} {below : List Frame} {meth : Method} {c : Code} {s₁ : State}
theorem o_bd (B : BodyLoose p l x S code n ret e s m args below meth c s₁) : p.tables.exec = Jvm.exec ∧ c.code = code ∧ meth.locks = false ∧ meth.sig.returnType = ret := ⟨B.exec, B.bytes, B.notSynchronized, B.returns⟩
theorem o_e0 (B : BodyLoose p l x S code n ret e s m args below meth c s₁) {h0 : Heap} (hh : s.heap = h0) : s₁.heap = h0 := by rw [← hh, B.state]; rfl
end OwnBd
theorem o_wl {a W : Nat} (h : 2 * 0 + a = W) : 2 * 0 + a ≤ W := Nat.le_of_eq h
theorem W {Z : State} {a0 : Array Value} {d : Jvm.Cond} (hw : o_Hw Z a0) (i : Nat) (h : tables_1[i]? = some d) : d.before a0 Z = true := hw _ (List.mem_of_getElem? h)
def o_C (c : Int32) : Prop := 0 ≤ c.toInt ∧ c.toInt ≤ 65535
theorem o_nc (x : Int32) : nar .char x = x.toUInt32.toUInt16.toUInt32.toInt32 := rfl
theorem o_nb (x : Int32) : nar .byte x = x.toInt8.toInt32 := rfl
theorem o_i2cC (x : Int32) : o_C (x.toUInt32.toUInt16.toUInt32.toInt32) := by
  have h := c_i2c x; unfold o_C; omega
theorem o_narC {c : Int32} (h : o_C c) : nar .char c = c := by
  have k := c_i2c c
  rw [o_nc, ← Int32.toInt_inj]; unfold o_C at h; omega
theorem o_lat {c : Int32} (h : o_C c) (hl : ¬ (255 : Int32) < c) : nar .char ((((nar .byte c.toInt8.toInt32) &&& (255 : Int32)).toUInt32.toUInt16.toUInt32.toInt32)) = c := by
  rw [o_nb, o_nc, ← Int32.toInt_inj]
  rw [Int32.lt_iff_toInt_lt] at hl
  have e : (255 : Int32).toInt = 255 := rfl
  have a := c_i2b c
  have b := c_i2b c.toInt8.toInt32
  generalize c.toInt8.toInt32.toInt8.toInt32 = z at *
  have m := c_mask z 255 8 (by decide) (by decide)
  generalize z &&& (255 : Int32) = w at *
  have d := c_i2c w
  generalize w.toUInt32.toUInt16.toUInt32.toInt32 = u at *
  have f := c_i2c u
  unfold o_C at h; omega
def o_lo (c : Int32) : Int32 := nar .byte ((c >>> ((0 : Int32) &&& 31)).toInt8.toInt32)
def o_hi (c : Int32) : Int32 := nar .byte ((c >>> ((8 : Int32) &&& 31)).toInt8.toInt32)
theorem o_gc {c : Int32} (h : o_C c) : nar .char ((((o_lo c &&& (255 : Int32)) <<< ((0 : Int32) &&& 31)) ||| ((o_hi c &&& (255 : Int32)) <<< ((8 : Int32) &&& 31))).toUInt32.toUInt16.toUInt32.toInt32) = c := by
  unfold o_lo o_hi
  rw [o_nb, o_nb, o_nc, ← Int32.toInt_inj]
  have s0 := c_ishr c 0 0 (by decide)
  have s8 := c_ishr c 8 8 (by decide)
  generalize c >>> ((0 : Int32) &&& 31) = y0 at *
  generalize c >>> ((8 : Int32) &&& 31) = y8 at *
  have a0 := c_i2b y0
  have b0 := c_i2b y0.toInt8.toInt32
  have a8 := c_i2b y8
  have b8 := c_i2b y8.toInt8.toInt32
  generalize y0.toInt8.toInt32.toInt8.toInt32 = z0 at *
  generalize y8.toInt8.toInt32.toInt8.toInt32 = z8 at *
  have m0 := c_mask z0 255 8 (by decide) (by decide)
  have m8 := c_mask z8 255 8 (by decide) (by decide)
  generalize z0 &&& (255 : Int32) = w0 at *
  generalize z8 &&& (255 : Int32) = w8 at *
  have t0 := c_ishl w0 0 0 (by decide)
  have t8 := c_ishl w8 8 8 (by decide)
  have r0 := rng32 (w0 <<< ((0 : Int32) &&& 31))
  have r8 := rng32 (w8 <<< ((8 : Int32) &&& 31))
  generalize w0 <<< ((0 : Int32) &&& 31) = x0 at *
  generalize w8 <<< ((8 : Int32) &&& 31) = x8 at *
  unfold o_C at h
  have o := c_or' x0 x8 8 (by decide) 256 (by decide) (by omega) (by omega) (by omega)
  generalize x0 ||| x8 = p at *
  have d := c_i2c p
  generalize p.toUInt32.toUInt16.toUInt32.toInt32 = u at *
  have f := c_i2c u
  omega
theorem o_len (v : Int32) : (v &&& (3 : Int32)) = 0 ∨ (v &&& (3 : Int32)) = 1 ∨ (v &&& (3 : Int32)) = 2 ∨ (v &&& (3 : Int32)) = 3 := by
  have h := c_mask v 3 2 (by decide) (by decide)
  simp only [← Int32.toInt_inj, Int32.reduceToInt]; omega

theorem o_strs {Z : State} {a0 : Array Value} (hw : o_Hw Z a0) : ∀ a ∈ Bundle.stringAtoms, a.before a0 Z = true := by
  intro a h
  simp only [Bundle.stringAtoms, List.mem_cons, List.not_mem_nil, or_false] at h
  rcases h with rfl | rfl | rfl | rfl | rfl | rfl | rfl
  · exact (W hw 3 rfl)
  · exact (W hw 2 rfl)
  · exact (W hw 15 rfl)
  · exact (W hw 16 rfl)
  · exact (W hw 17 rfl)
  · exact (W hw 18 rfl)
  · exact (W hw 19 rfl)
def o_G (Z : State) (cs : Int32) (sf : Value) : Prop := (Sta Z Z.heap "java/lang/String" "COMPACT_STRINGS" "Z" (.int cs)) ∧ (¬ cs = (0 : Int32)) ∧ (Sta Z Z.heap "jdk/internal/util/Preconditions" "SIOOBE_FORMATTER" "Ljava/util/function/BiFunction;" sf) ∧ (sf.isRef = true) ∧ (Sta Z Z.heap "java/lang/StringUTF16" "$assertionsDisabled" "Z" (.int 1)) ∧ (Sta Z Z.heap "java/lang/StringUTF16" "HI_BYTE_SHIFT" "I" (.int 0)) ∧ (Sta Z Z.heap "java/lang/StringUTF16" "LO_BYTE_SHIFT" "I" (.int 8))
theorem o_d14_0 : decode prog_1_method_5_code 0 = .ok (.iload_n 0, 1) := by decide +kernel
theorem o_d14_1 : decode prog_1_method_5_code 1 = .ok (.bipush 65, 2) := by decide +kernel
theorem o_d14_3 : decode prog_1_method_5_code 3 = .ok (.if_icmp .lt 16, 3) := by decide +kernel
theorem o_d14_6 : decode prog_1_method_5_code 6 = .ok (.iload_n 0, 1) := by decide +kernel
theorem o_d14_7 : decode prog_1_method_5_code 7 = .ok (.bipush 90, 2) := by decide +kernel
theorem o_d14_9 : decode prog_1_method_5_code 9 = .ok (.if_icmp .gt 10, 3) := by decide +kernel
theorem o_d14_12 : decode prog_1_method_5_code 12 = .ok (.iload_n 0, 1) := by decide +kernel
theorem o_d14_13 : decode prog_1_method_5_code 13 = .ok (.bipush 32, 2) := by decide +kernel
theorem o_d14_15 : decode prog_1_method_5_code 15 = .ok (.iadd, 1) := by decide +kernel
theorem o_d14_16 : decode prog_1_method_5_code 16 = .ok (.goto 4, 3) := by decide +kernel
theorem o_d14_19 : decode prog_1_method_5_code 19 = .ok (.iload_n 0, 1) := by decide +kernel
theorem o_d14_20 : decode prog_1_method_5_code 20 = .ok (.ireturn, 1) := by decide +kernel
theorem o_pn0 : plainName "com/example/orbweaver/orbweaver/AsciiText" = true := by first | (simp [plainName, overriddenIn]; done) | decide +kernel
def o_lc (v0 : Int32) : Int32 := (if v0 < (65 : Int32) then v0 else (if (90 : Int32) < v0 then v0 else (v0 + (32 : Int32))))
def o_Q14 (Z : State) (v0 : Int32) (h0 : Heap) (n0 : Nat) (v : Option Value) (h : Heap) (L : List Loc) : Prop := v = some (.int (o_lc v0)) ∧ Fr n0 L ∧ h = h0
set_option maxRecDepth 65536 in
set_option maxHeartbeats 40000000 in
theorem o_rm14 (l : Launch) (Z : State) (a0 : Array Value) (hw : o_Hw Z a0) (ws : List Jvm.Cond) (v0 : Int32) (h0 : Heap) (n0 : Nat) (Z0 : n0 ≤ h0.size)  :
  o_Met l y0 prog_1_method_5_code 1 (some .int) ws r0 #[(.int v0)] Z h0 (o_Q14 Z v0 h0 n0) := by
 refine MetFree.of_bodySF (plainFor_of_name o_pn0) hisR ?_
 intro p e s m args below meth c s₁ Bd hml0 hP hK
 obtain ⟨rfl, hZ, hh⟩ := hP
 obtain ⟨hx, hby, hlk, hrt⟩ := o_bd Bd
 have X0 : Stand p l e r0 s m #[(.int v0)] below meth c s₁ [] 0 0 := Stand.of_body Bd
 have e0 := o_e0 Bd hh
 have N0 := Fr.nil n0
 refine o_in (g' := mkF m 0 #[(sI v0)] []) (by simp [entryFrame, mkF, argsToLocals, Value.category]) ?_
 refine o_iloadN X0 hx 1 (hb hby o_d14_0) rfl ?_
 refine o_bipush X0 hx 3 65 (hb hby o_d14_1) rfl ?_
 by_cases hc3_1 : v0 < (65 : Int32)
 ·refine o_icmpYes X0 hx 19 (hb hby o_d14_3) (tlt hc3_1).1 ?_
  refine o_iloadN X0 hx 20 (hb hby o_d14_19) rfl ?_
  exact o_retI (z := v0) (Q := o_Q14 Z v0 h0 n0) X0 hx hrt (hb hby o_d14_20) hlk e0 ⟨(o_leafI (show v0 = o_lc v0 from by unfold o_lc; rw [if_pos hc3_1])), N0, rfl⟩ (by decide) (by decide)
 ·refine o_icmpNo X0 hx 6 (hb hby o_d14_3) (flt hc3_1).1 ?_
  refine o_iloadN X0 hx 7 (hb hby o_d14_6) rfl ?_
  refine o_bipush X0 hx 9 90 (hb hby o_d14_7) rfl ?_
  by_cases hc9_2 : (90 : Int32) < v0
  ·refine o_icmpYes X0 hx 19 (hb hby o_d14_9) (tlt hc9_2).2.2.1 ?_
   refine o_iloadN X0 hx 20 (hb hby o_d14_19) rfl ?_
   exact o_retI (z := v0) (Q := o_Q14 Z v0 h0 n0) X0 hx hrt (hb hby o_d14_20) hlk e0 ⟨(o_leafI (show v0 = o_lc v0 from by unfold o_lc; rw [if_neg hc3_1, if_pos hc9_2])), N0, rfl⟩ (by decide) (by decide)
  ·refine o_icmpNo X0 hx 12 (hb hby o_d14_9) (flt hc9_2).2.2.1 ?_
   refine o_iloadN X0 hx 13 (hb hby o_d14_12) rfl ?_
   refine o_bipush X0 hx 15 32 (hb hby o_d14_13) rfl ?_
   refine o_iadd X0 hx 16 (hb hby o_d14_15) ?_
   refine o_goto X0 hx 20 (hb hby o_d14_16) ?_
   exact o_retI (z := (v0 + (32 : Int32))) (Q := o_Q14 Z v0 h0 n0) X0 hx hrt (hb hby o_d14_20) hlk e0 ⟨(o_leafI (show (v0 + (32 : Int32)) = o_lc v0 from by unfold o_lc; rw [if_neg hc3_1, if_neg hc9_2])), N0, rfl⟩ (by decide) (by decide)
theorem o_lcC {c : Int32} (h : o_C c) : o_C (o_lc c) := by
  unfold o_lc o_C at *
  simp only [Int32.lt_iff_toInt_lt, Int32.reduceToInt]
  have k := c_iadd c 32
  have r := rng32 (c + 32)
  simp only [Int32.reduceToInt] at k
  generalize c + (32 : Int32) = z at *
  repeat' split
  all_goals omega
theorem o_lcL {c : Int32} (h : o_C c) (hl : ¬ (255 : Int32) < c) : ¬ (255 : Int32) < o_lc c := by
  unfold o_lc o_C at *
  simp only [Int32.lt_iff_toInt_lt, Int32.reduceToInt] at *
  have k := c_iadd c 32
  have r := rng32 (c + 32)
  simp only [Int32.reduceToInt] at k
  generalize c + (32 : Int32) = z at *
  repeat' split
  all_goals omega
theorem o_lcU {c : Int32} (hl : (255 : Int32) < c) : (255 : Int32) < o_lc c := by
  unfold o_lc
  simp only [Int32.lt_iff_toInt_lt, Int32.reduceToInt] at *
  rw [if_neg (by omega), if_pos (by omega)]; exact hl
theorem o_lcn {c : Int32} (h : o_C c) : nar .char ((o_lc c).toUInt32.toUInt16.toUInt32.toInt32) = o_lc c := by
  have k := o_lcC h
  have e : (o_lc c).toUInt32.toUInt16.toUInt32.toInt32 = o_lc c := o_narC k
  rw [e]; exact o_narC k
theorem o_ex1 {c : Int32} (h : o_C c) (h1 : c < (65 : Int32)) : nar .char c = o_lc c := by
  rw [o_narC h]; unfold o_lc; rw [if_pos h1]
theorem o_ex2 {c : Int32} (h : o_C c) (h1 : ¬ c < (65 : Int32)) (h2 : (90 : Int32) < c) : nar .char c = o_lc c := by
  rw [o_narC h]; unfold o_lc; rw [if_neg h1, if_pos h2]
theorem o_ex3 {c : Int32} (h : o_C c) (h1 : ¬ c < (65 : Int32)) (h2 : ¬ (90 : Int32) < c) : nar .char ((c + (32 : Int32)).toUInt32.toUInt16.toUInt32.toInt32) = o_lc c := by
  have e : o_lc c = c + 32 := by unfold o_lc; rw [if_neg h1, if_neg h2]
  have k := o_lcn h
  rw [e] at k; rw [e]; exact k

theorem o_d19_0 : decode method_3_code 0 = .ok (.iload_n 0, 1) := by decide +kernel
theorem o_d19_1 : decode method_3_code 1 = .ok (.bipush 65, 2) := by decide +kernel
theorem o_d19_3 : decode method_3_code 3 = .ok (.if_icmp .ge 5, 3) := by decide +kernel
theorem o_d19_6 : decode method_3_code 6 = .ok (.iload_n 0, 1) := by decide +kernel
theorem o_d19_7 : decode method_3_code 7 = .ok (.ireturn, 1) := by decide +kernel
theorem o_d19_8 : decode method_3_code 8 = .ok (.iload_n 0, 1) := by decide +kernel
theorem o_d19_9 : decode method_3_code 9 = .ok (.bipush 90, 2) := by decide +kernel
theorem o_d19_11 : decode method_3_code 11 = .ok (.if_icmp .le 5, 3) := by decide +kernel
theorem o_d19_14 : decode method_3_code 14 = .ok (.iload_n 0, 1) := by decide +kernel
theorem o_d19_15 : decode method_3_code 15 = .ok (.ireturn, 1) := by decide +kernel
theorem o_d19_16 : decode method_3_code 16 = .ok (.iload_n 0, 1) := by decide +kernel
theorem o_d19_17 : decode method_3_code 17 = .ok (.bipush 32, 2) := by decide +kernel
theorem o_d19_19 : decode method_3_code 19 = .ok (.iadd, 1) := by decide +kernel
theorem o_d19_20 : decode method_3_code 20 = .ok (.i2c, 1) := by decide +kernel
theorem o_d19_21 : decode method_3_code 21 = .ok (.ireturn, 1) := by decide +kernel
theorem o_pn1 : plainName "com/example/orbweaver/orbweaver/AsciiTextLowerCasePinLaw" = true := by first | (simp [plainName, overriddenIn]; done) | decide +kernel
def o_Q19 (Z : State) (v0 : Int32) (h0 : Heap) (n0 : Nat) (v : Option Value) (h : Heap) (L : List Loc) : Prop := v = some (.int (o_lc v0)) ∧ Fr n0 L ∧ h = h0
set_option maxRecDepth 65536 in
set_option maxHeartbeats 40000000 in
theorem o_rm19 (l : Launch) (Z : State) (a0 : Array Value) (hw : o_Hw Z a0) (ws : List Jvm.Cond) (v0 : Int32) (h0 : Heap) (n0 : Nat) (Z0 : n0 ≤ h0.size) (hC : o_C v0) :
  o_Met l y1 method_3_code 1 (some .char) ws r0 #[(.int v0)] Z h0 (o_Q19 Z v0 h0 n0) := by
 refine MetFree.of_bodySF (plainFor_of_name o_pn1) hisR ?_
 intro p e s m args below meth c s₁ Bd hml0 hP hK
 obtain ⟨rfl, hZ, hh⟩ := hP
 obtain ⟨hx, hby, hlk, hrt⟩ := o_bd Bd
 have X0 : Stand p l e r0 s m #[(.int v0)] below meth c s₁ [] 0 0 := Stand.of_body Bd
 have e0 := o_e0 Bd hh
 have N0 := Fr.nil n0
 refine o_in (g' := mkF m 0 #[(sI v0)] []) (by simp [entryFrame, mkF, argsToLocals, Value.category]) ?_
 refine o_iloadN X0 hx 1 (hb hby o_d19_0) rfl ?_
 refine o_bipush X0 hx 3 65 (hb hby o_d19_1) rfl ?_
 by_cases hc3_1 : v0 < (65 : Int32)
 ·refine o_icmpNo X0 hx 6 (hb hby o_d19_3) (tlt hc3_1).2.1 ?_
  refine o_iloadN X0 hx 7 (hb hby o_d19_6) rfl ?_
  exact o_retN (t := .char) (z := v0) (Q := o_Q19 Z v0 h0 n0) X0 hx hrt (by simp) (hb hby o_d19_7) hlk e0 ⟨(o_leafI (o_ex1 hC hc3_1)), N0, rfl⟩ (by decide) (by decide)
 ·refine o_icmpYes X0 hx 8 (hb hby o_d19_3) (flt hc3_1).2.1 ?_
  refine o_iloadN X0 hx 9 (hb hby o_d19_8) rfl ?_
  refine o_bipush X0 hx 11 90 (hb hby o_d19_9) rfl ?_
  by_cases hc11_2 : (90 : Int32) < v0
  ·refine o_icmpNo X0 hx 14 (hb hby o_d19_11) (tlt hc11_2).2.2.2 ?_
   refine o_iloadN X0 hx 15 (hb hby o_d19_14) rfl ?_
   exact o_retN (t := .char) (z := v0) (Q := o_Q19 Z v0 h0 n0) X0 hx hrt (by simp) (hb hby o_d19_15) hlk e0 ⟨(o_leafI (o_ex2 hC hc3_1 hc11_2)), N0, rfl⟩ (by decide) (by decide)
  ·refine o_icmpYes X0 hx 16 (hb hby o_d19_11) (flt hc11_2).2.2.2 ?_
   refine o_iloadN X0 hx 17 (hb hby o_d19_16) rfl ?_
   refine o_bipush X0 hx 19 32 (hb hby o_d19_17) rfl ?_
   refine o_iadd X0 hx 20 (hb hby o_d19_19) ?_
   refine o_i2c X0 hx 21 (hb hby o_d19_20) ?_
   exact o_retN (t := .char) (z := ((v0 + (32 : Int32)).toUInt32.toUInt16.toUInt32.toInt32)) (Q := o_Q19 Z v0 h0 n0) X0 hx hrt (by simp) (hb hby o_d19_21) hlk e0 ⟨(o_leafI (o_ex3 hC hc3_1 hc11_2)), N0, rfl⟩ (by decide) (by decide)
theorem o_d18_0 : decode jdk_41_method_11_code 0 = .ok (.iload_n 0, 1) := by decide +kernel
theorem o_d18_1 : decode jdk_41_method_11_code 1 = .ok (.ifCond .lt 8, 3) := by decide +kernel
theorem o_d18_4 : decode jdk_41_method_11_code 4 = .ok (.iload_n 0, 1) := by decide +kernel
theorem o_d18_5 : decode jdk_41_method_11_code 5 = .ok (.iload_n 1, 1) := by decide +kernel
theorem o_d18_6 : decode jdk_41_method_11_code 6 = .ok (.if_icmp .lt 10, 3) := by decide +kernel
theorem o_d18_16 : decode jdk_41_method_11_code 16 = .ok (.iload_n 0, 1) := by decide +kernel
theorem o_d18_17 : decode jdk_41_method_11_code 17 = .ok (.ireturn, 1) := by decide +kernel
theorem o_pn2 : plainName "jdk/internal/util/Preconditions" = true := by first | (simp [plainName, overriddenIn]; done) | decide +kernel
theorem o_ef18 (m : MethodId) (v1 : Int32) (v2 : Int32) (sf : Value) (hsf : sf.isRef = true) : entryFrame m #[(.int v1), (.int v2), sf] 3 = mkF m 0 #[(sI v1), (sI v2), .val sf] [] := by
  cases sf <;> first | (simp [Value.isRef] at hsf; done) | (simp [entryFrame, mkF, argsToLocals, Value.category]; done) | rfl
def o_Q18 (Z : State) (cs : Int32) (sf : Value) (GG : o_G Z cs sf) (v1 : Int32) (v2 : Int32) (h0 : Heap) (n0 : Nat) (v : Option Value) (h : Heap) (L : List Loc) : Prop := v = some (.int v1) ∧ Fr n0 L ∧ h = h0
set_option maxRecDepth 65536 in
set_option maxHeartbeats 40000000 in
theorem o_rm18 (l : Launch) (Z : State) (a0 : Array Value) (hw : o_Hw Z a0) (ws : List Jvm.Cond) (cs : Int32) (sf : Value) (GG : o_G Z cs sf) (v1 : Int32) (v2 : Int32) (h0 : Heap) (n0 : Nat) (Z0 : n0 ≤ h0.size) (h1 : ¬ v1 < 0) (h2 : v1 < v2) :
  o_Met l y2 jdk_41_method_11_code 3 (some .int) ws r0 #[(.int v1), (.int v2), sf] Z h0 (o_Q18 Z cs sf GG v1 v2 h0 n0) := by
 refine MetFree.of_bodySF (plainFor_of_name o_pn2) hisR ?_
 intro p e s m args below meth c s₁ Bd hml0 hP hK
 obtain ⟨rfl, hZ, hh⟩ := hP
 obtain ⟨hx, hby, hlk, hrt⟩ := o_bd Bd
 have X0 : Stand p l e r0 s m #[(.int v1), (.int v2), sf] below meth c s₁ [] 0 0 := Stand.of_body Bd
 have e0 := o_e0 Bd hh
 have N0 := Fr.nil n0
 refine o_in (o_ef18 m v1 v2 sf GG.2.2.2.1) ?_
 refine o_iloadN X0 hx 1 (hb hby o_d18_0) rfl ?_
 refine o_ifNo X0 hx 4 (hb hby o_d18_1) (flt (h1 : ¬ (v1 < (0 : Int32)))).1 ?_
 refine o_iloadN X0 hx 5 (hb hby o_d18_4) rfl ?_
 refine o_iloadN X0 hx 6 (hb hby o_d18_5) rfl ?_
 refine o_icmpYes X0 hx 16 (hb hby o_d18_6) (tlt h2).1 ?_
 refine o_iloadN X0 hx 17 (hb hby o_d18_16) rfl ?_
 exact o_retI (z := v1) (Q := o_Q18 Z cs sf GG v1 v2 h0 n0) X0 hx hrt (hb hby o_d18_17) hlk e0 ⟨rfl, N0, rfl⟩ (by decide) (by decide)
theorem o_d17_0 : decode jdk_42_method_155_code 0 = .ok (.iload_n 0, 1) := by decide +kernel
theorem o_d17_1 : decode jdk_42_method_155_code 1 = .ok (.iload_n 1, 1) := by decide +kernel
theorem o_d17_2 : decode jdk_42_method_155_code 2 = .ok (.getstatic 1053, 3) := by decide +kernel
theorem o_d17_5 : decode jdk_42_method_155_code 5 = .ok (.invokestatic 1059, 3) := by decide +kernel
theorem o_d17_8 : decode jdk_42_method_155_code 8 = .ok (.pop, 1) := by decide +kernel
theorem o_d17_9 : decode jdk_42_method_155_code 9 = .ok (.return_, 1) := by decide +kernel
theorem o_pn3 : plainName "java/lang/String" = true := by first | (simp [plainName, overriddenIn]; done) | decide +kernel
theorem o_pd0 : parseMethodDescriptor "(IILjava/util/function/BiFunction;)I" = some ⟨[.int, .int, (.object "java/util/function/BiFunction")], some .int⟩ := by decide +kernel
def o_Q17 (Z : State) (cs : Int32) (sf : Value) (GG : o_G Z cs sf) (v1 : Int32) (v2 : Int32) (h0 : Heap) (n0 : Nat) (v : Option Value) (h : Heap) (L : List Loc) : Prop := v = none ∧ Fr n0 L ∧ h = h0
set_option maxRecDepth 65536 in
set_option maxHeartbeats 40000000 in
theorem o_rm17 (l : Launch) (Z : State) (a0 : Array Value) (hw : o_Hw Z a0) (ws : List Jvm.Cond) (cs : Int32) (sf : Value) (GG : o_G Z cs sf) (v1 : Int32) (v2 : Int32) (h0 : Heap) (n0 : Nat) (Z0 : n0 ≤ h0.size) (h1 : ¬ v1 < 0) (h2 : v1 < v2) (O0 : Old Z n0 h0) :
  o_Met l y3 jdk_42_method_155_code 2 none ws r1 #[(.int v1), (.int v2)] Z h0 (o_Q17 Z cs sf GG v1 v2 h0 n0) := by
 refine MetFree.of_bodySF (plainFor_of_name o_pn3) hisR ?_
 intro p e s m args below meth c s₁ Bd hml0 hP hK
 obtain ⟨rfl, hZ, hh⟩ := hP
 obtain ⟨hx, hby, hlk, hrt⟩ := o_bd Bd
 have hml : c.maxLocals = 2 := hml0
 have hown : s.vm.findClass "java/lang/String" = some m.cls := findClass_of_methodNamed Bd.named
 have X0 : Stand p l e r1 s m #[(.int v1), (.int v2)] below meth c s₁ [] 0 0 := Stand.of_body Bd
 have e0 := o_e0 Bd hh
 have N0 := Fr.nil n0
 refine o_in (g' := mkF m 0 #[(sI v1), (sI v2)] []) (by simp [entryFrame, mkF, argsToLocals, Value.category]) ?_
 refine o_iloadN X0 hx 1 (hb hby o_d17_0) rfl ?_
 refine o_iloadN X0 hx 2 (hb hby o_d17_1) rfl ?_
 obtain ⟨T1, X1, e1, st1⟩ := getS2 X0 hx hZ hown (host := "") (Or.inl (W hw 80 rfl)) Via.refl e0 (GG.2.2.1.ext O0.2) (g := (mkF m 2 #[(sI v1), (sI v2)] [(.int v2), (.int v1)])) rfl (hb hby o_d17_2)
 refine o_st (G' := T1.setTop (mkF m 5 #[(sI v1), (sI v2)] [sf, (.int v2), (.int v1)])) st1 ?_
 obtain ⟨_, X1h, N1h⟩ := o_hide X1 N0
 obtain ⟨_, _, ⟨T2, Lx2, kc2, nc2⟩, -, X2, ⟨Lc2, hQ2, lq2, yq2, zq2⟩, st2⟩ := Jvm.LawKit.callS X1h hx (y := y2) hown (mvT hZ (W hw 82 rfl)) (mvT hZ (W hw 83 rfl)) (mvT hZ (W hw 81 rfl)) (mvT hZ (W hw 84 rfl)) (by decide) (backOf (W := 0) (o_rm18 l Z a0 hw [] cs sf GG v1 v2 h0 n0 Z0 (h1 : ¬ v1 < 0) (h2 : v1 < v2)) hZ (W hw 84 rfl) (W hw 81 rfl) (by decide) (by decide)) (g := (mkF m 5 #[(sI v1), (sI v2)] [sf, (.int v2), (.int v1)])) rfl (by rw [hml]; rfl) (argsL := [(.int v1), (.int v2), sf]) (rest := []) (lenOf o_pd0 rfl) rfl (o_wl rfl) (hb hby o_d17_5) (fun _ _ => ⟨rfl, e1, (by decide : 0 + 0 ≤ _), (by decide : 0 + 0 ≤ _)⟩)
 dsimp only [Pt.U, Pt.locs, Pt.cells, Pt.slots] at X2 lq2 yq2 zq2 st2 hQ2
 subst lq2 yq2 zq2
 obtain ⟨rfl, Nq2, eh2⟩ := hQ2
 have N2 := Fr.app N1h Nq2
 refine o_st (G' := T2.setTop (mkF m 8 #[(sI v1), (sI v2)] [(.int v1)])) st2 ?_
 obtain ⟨_, X2h, N2h⟩ := o_hide X2 N2
 refine o_pop X2h hx 9 (hb hby o_d17_8) rfl ?_
 exact o_retV (Q := o_Q17 Z cs sf GG v1 v2 h0 n0) X2h hx hrt (hb hby o_d17_9) hlk eh2 ⟨rfl, N2h, rfl⟩ (by decide) (by decide)
theorem o_d10_0 : decode jdk_42_method_152_code 0 = .ok (.getstatic 38, 3) := by decide +kernel
theorem o_d10_3 : decode jdk_42_method_152_code 3 = .ok (.ifCond .eq 10, 3) := by decide +kernel
theorem o_d10_6 : decode jdk_42_method_152_code 6 = .ok (.aload_n 0, 1) := by decide +kernel
theorem o_d10_7 : decode jdk_42_method_152_code 7 = .ok (.getfield 15, 3) := by decide +kernel
theorem o_d10_10 : decode jdk_42_method_152_code 10 = .ok (.goto 4, 3) := by decide +kernel
theorem o_d10_14 : decode jdk_42_method_152_code 14 = .ok (.ireturn, 1) := by decide +kernel
def o_Q10L (Z : State) (cs : Int32) (sf : Value) (GG : o_G Z cs sf) (o1 : Addr) (h0 : Heap) (n0 : Nat) (v : Option Value) (h : Heap) (L : List Loc) : Prop := v = some (.int 0) ∧ Fr n0 L ∧ h = h0
set_option maxRecDepth 65536 in
set_option maxHeartbeats 40000000 in
theorem o_rm10L (l : Launch) (Z : State) (a0 : Array Value) (hw : o_Hw Z a0) (ws : List Jvm.Cond) (cs : Int32) (sf : Value) (GG : o_G Z cs sf) (o1 : Addr) (h0 : Heap) (n0 : Nat) (Z0 : n0 ≤ h0.size) (pF1 : Fld Z h0 o1 "java/lang/String" "coder" "B" (.int 0)) (O0 : Old Z n0 h0) :
  o_Met l y4 jdk_42_method_152_code 1 (some .byte) ws r0 #[(.ref o1)] Z h0 (o_Q10L Z cs sf GG o1 h0 n0) := by
 refine MetFree.of_bodySF (plainFor_of_name o_pn3) hisR ?_
 intro p e s m args below meth c s₁ Bd hml0 hP hK
 obtain ⟨rfl, hZ, hh⟩ := hP
 obtain ⟨hx, hby, hlk, hrt⟩ := o_bd Bd
 have hown : s.vm.findClass "java/lang/String" = some m.cls := findClass_of_methodNamed Bd.named
 have X0 : Stand p l e r0 s m #[(.ref o1)] below meth c s₁ [] 0 0 := Stand.of_body Bd
 have e0 := o_e0 Bd hh
 have N0 := Fr.nil n0
 refine o_in (g' := mkF m 0 #[(sR o1)] []) (by simp [entryFrame, mkF, argsToLocals, Value.category]) ?_
 obtain ⟨T1, X1, e1, st1⟩ := getS2 X0 hx hZ hown (host := "") (Or.inl (W hw 36 rfl)) Via.refl e0 (GG.1.ext O0.2) (g := (mkF m 0 #[(sR o1)] [])) rfl (hb hby o_d10_0)
 refine o_st (G' := T1.setTop (mkF m 3 #[(sR o1)] [(.int cs)])) st1 ?_
 obtain ⟨_, X1h, N1h⟩ := o_hide X1 N0
 refine o_ifNo X1h hx 6 (hb hby o_d10_3) (feq (GG.2.1 : ¬ (cs = (0 : Int32)))).1 ?_
 refine o_aloadN X1h hx 7 (hb hby o_d10_6) rfl rfl ?_
 obtain ⟨T2, X2, e2, st2⟩ := getF X1h hx hZ hown (host := "") (Or.inl (W hw 21 rfl)) Via.refl e1 pF1 (g := (mkF m 7 #[(sR o1)] [(.ref o1)])) rfl rfl (hb hby o_d10_7)
 refine o_st (G' := T2.setTop (mkF m 10 #[(sR o1)] [(.int 0)])) st2 ?_
 obtain ⟨_, X2h, N2h⟩ := o_hide X2 N1h
 refine o_goto X2h hx 14 (hb hby o_d10_10) ?_
 exact o_retN (t := .byte) (z := (0 : Int32)) (Q := o_Q10L Z cs sf GG o1 h0 n0) X2h hx hrt (by simp) (hb hby o_d10_14) hlk e2 ⟨rfl, N2h, rfl⟩ (by decide) (by decide)
theorem o_d6_0 : decode jdk_42_method_154_code 0 = .ok (.getstatic 38, 3) := by decide +kernel
theorem o_d6_3 : decode jdk_42_method_154_code 3 = .ok (.ifCond .eq 14, 3) := by decide +kernel
theorem o_d6_6 : decode jdk_42_method_154_code 6 = .ok (.aload_n 0, 1) := by decide +kernel
theorem o_d6_7 : decode jdk_42_method_154_code 7 = .ok (.getfield 15, 3) := by decide +kernel
theorem o_d6_10 : decode jdk_42_method_154_code 10 = .ok (.ifCond .ne 7, 3) := by decide +kernel
theorem o_d6_13 : decode jdk_42_method_154_code 13 = .ok (.iconst 1, 1) := by decide +kernel
theorem o_d6_14 : decode jdk_42_method_154_code 14 = .ok (.goto 4, 3) := by decide +kernel
theorem o_d6_18 : decode jdk_42_method_154_code 18 = .ok (.ireturn, 1) := by decide +kernel
def o_Q6L (Z : State) (cs : Int32) (sf : Value) (GG : o_G Z cs sf) (o1 : Addr) (h0 : Heap) (n0 : Nat) (v : Option Value) (h : Heap) (L : List Loc) : Prop := v = some (.int 1) ∧ Fr n0 L ∧ h = h0
set_option maxRecDepth 65536 in
set_option maxHeartbeats 40000000 in
theorem o_rm6L (l : Launch) (Z : State) (a0 : Array Value) (hw : o_Hw Z a0) (ws : List Jvm.Cond) (cs : Int32) (sf : Value) (GG : o_G Z cs sf) (o1 : Addr) (h0 : Heap) (n0 : Nat) (Z0 : n0 ≤ h0.size) (pF1 : Fld Z h0 o1 "java/lang/String" "coder" "B" (.int 0)) (O0 : Old Z n0 h0) :
  o_Met l y5 jdk_42_method_154_code 1 (some .boolean) ws r0 #[(.ref o1)] Z h0 (o_Q6L Z cs sf GG o1 h0 n0) := by
 refine MetFree.of_bodySF (plainFor_of_name o_pn3) hisR ?_
 intro p e s m args below meth c s₁ Bd hml0 hP hK
 obtain ⟨rfl, hZ, hh⟩ := hP
 obtain ⟨hx, hby, hlk, hrt⟩ := o_bd Bd
 have hown : s.vm.findClass "java/lang/String" = some m.cls := findClass_of_methodNamed Bd.named
 have X0 : Stand p l e r0 s m #[(.ref o1)] below meth c s₁ [] 0 0 := Stand.of_body Bd
 have e0 := o_e0 Bd hh
 have N0 := Fr.nil n0
 refine o_in (g' := mkF m 0 #[(sR o1)] []) (by simp [entryFrame, mkF, argsToLocals, Value.category]) ?_
 obtain ⟨T1, X1, e1, st1⟩ := getS2 X0 hx hZ hown (host := "") (Or.inl (W hw 36 rfl)) Via.refl e0 (GG.1.ext O0.2) (g := (mkF m 0 #[(sR o1)] [])) rfl (hb hby o_d6_0)
 refine o_st (G' := T1.setTop (mkF m 3 #[(sR o1)] [(.int cs)])) st1 ?_
 obtain ⟨_, X1h, N1h⟩ := o_hide X1 N0
 refine o_ifNo X1h hx 6 (hb hby o_d6_3) (feq (GG.2.1 : ¬ (cs = (0 : Int32)))).1 ?_
 refine o_aloadN X1h hx 7 (hb hby o_d6_6) rfl rfl ?_
 obtain ⟨T2, X2, e2, st2⟩ := getF X1h hx hZ hown (host := "") (Or.inl (W hw 21 rfl)) Via.refl e1 pF1 (g := (mkF m 7 #[(sR o1)] [(.ref o1)])) rfl rfl (hb hby o_d6_7)
 refine o_st (G' := T2.setTop (mkF m 10 #[(sR o1)] [(.int 0)])) st2 ?_
 obtain ⟨_, X2h, N2h⟩ := o_hide X2 N1h
 refine o_ifNo X2h hx 13 (hb hby o_d6_10) (teq (rfl : (0 : Int32) = (0 : Int32))).2 ?_
 refine o_iconst X2h hx 14 1 (hb hby o_d6_13) rfl ?_
 refine o_goto X2h hx 18 (hb hby o_d6_14) ?_
 exact o_retN (t := .boolean) (z := (1 : Int32)) (Q := o_Q6L Z cs sf GG o1 h0 n0) X2h hx hrt (by simp) (hb hby o_d6_18) hlk e2 ⟨rfl, N2h, rfl⟩ (by decide) (by decide)
def o_Q10U (Z : State) (cs : Int32) (sf : Value) (GG : o_G Z cs sf) (o1 : Addr) (h0 : Heap) (n0 : Nat) (v : Option Value) (h : Heap) (L : List Loc) : Prop := v = some (.int 1) ∧ Fr n0 L ∧ h = h0
set_option maxRecDepth 65536 in
set_option maxHeartbeats 40000000 in
theorem o_rm10U (l : Launch) (Z : State) (a0 : Array Value) (hw : o_Hw Z a0) (ws : List Jvm.Cond) (cs : Int32) (sf : Value) (GG : o_G Z cs sf) (o1 : Addr) (h0 : Heap) (n0 : Nat) (Z0 : n0 ≤ h0.size) (pF1 : Fld Z h0 o1 "java/lang/String" "coder" "B" (.int 1)) (O0 : Old Z n0 h0) :
  o_Met l y4 jdk_42_method_152_code 1 (some .byte) ws r0 #[(.ref o1)] Z h0 (o_Q10U Z cs sf GG o1 h0 n0) := by
 refine MetFree.of_bodySF (plainFor_of_name o_pn3) hisR ?_
 intro p e s m args below meth c s₁ Bd hml0 hP hK
 obtain ⟨rfl, hZ, hh⟩ := hP
 obtain ⟨hx, hby, hlk, hrt⟩ := o_bd Bd
 have hown : s.vm.findClass "java/lang/String" = some m.cls := findClass_of_methodNamed Bd.named
 have X0 : Stand p l e r0 s m #[(.ref o1)] below meth c s₁ [] 0 0 := Stand.of_body Bd
 have e0 := o_e0 Bd hh
 have N0 := Fr.nil n0
 refine o_in (g' := mkF m 0 #[(sR o1)] []) (by simp [entryFrame, mkF, argsToLocals, Value.category]) ?_
 obtain ⟨T1, X1, e1, st1⟩ := getS2 X0 hx hZ hown (host := "") (Or.inl (W hw 36 rfl)) Via.refl e0 (GG.1.ext O0.2) (g := (mkF m 0 #[(sR o1)] [])) rfl (hb hby o_d10_0)
 refine o_st (G' := T1.setTop (mkF m 3 #[(sR o1)] [(.int cs)])) st1 ?_
 obtain ⟨_, X1h, N1h⟩ := o_hide X1 N0
 refine o_ifNo X1h hx 6 (hb hby o_d10_3) (feq (GG.2.1 : ¬ (cs = (0 : Int32)))).1 ?_
 refine o_aloadN X1h hx 7 (hb hby o_d10_6) rfl rfl ?_
 obtain ⟨T2, X2, e2, st2⟩ := getF X1h hx hZ hown (host := "") (Or.inl (W hw 21 rfl)) Via.refl e1 pF1 (g := (mkF m 7 #[(sR o1)] [(.ref o1)])) rfl rfl (hb hby o_d10_7)
 refine o_st (G' := T2.setTop (mkF m 10 #[(sR o1)] [(.int 1)])) st2 ?_
 obtain ⟨_, X2h, N2h⟩ := o_hide X2 N1h
 refine o_goto X2h hx 14 (hb hby o_d10_10) ?_
 exact o_retN (t := .byte) (z := (1 : Int32)) (Q := o_Q10U Z cs sf GG o1 h0 n0) X2h hx hrt (by simp) (hb hby o_d10_14) hlk e2 ⟨rfl, N2h, rfl⟩ (by decide) (by decide)
theorem o_d6_17 : decode jdk_42_method_154_code 17 = .ok (.iconst 0, 1) := by decide +kernel
def o_Q6U (Z : State) (cs : Int32) (sf : Value) (GG : o_G Z cs sf) (o1 : Addr) (h0 : Heap) (n0 : Nat) (v : Option Value) (h : Heap) (L : List Loc) : Prop := v = some (.int 0) ∧ Fr n0 L ∧ h = h0
set_option maxRecDepth 65536 in
set_option maxHeartbeats 40000000 in
theorem o_rm6U (l : Launch) (Z : State) (a0 : Array Value) (hw : o_Hw Z a0) (ws : List Jvm.Cond) (cs : Int32) (sf : Value) (GG : o_G Z cs sf) (o1 : Addr) (h0 : Heap) (n0 : Nat) (Z0 : n0 ≤ h0.size) (pF1 : Fld Z h0 o1 "java/lang/String" "coder" "B" (.int 1)) (O0 : Old Z n0 h0) :
  o_Met l y5 jdk_42_method_154_code 1 (some .boolean) ws r0 #[(.ref o1)] Z h0 (o_Q6U Z cs sf GG o1 h0 n0) := by
 refine MetFree.of_bodySF (plainFor_of_name o_pn3) hisR ?_
 intro p e s m args below meth c s₁ Bd hml0 hP hK
 obtain ⟨rfl, hZ, hh⟩ := hP
 obtain ⟨hx, hby, hlk, hrt⟩ := o_bd Bd
 have hown : s.vm.findClass "java/lang/String" = some m.cls := findClass_of_methodNamed Bd.named
 have X0 : Stand p l e r0 s m #[(.ref o1)] below meth c s₁ [] 0 0 := Stand.of_body Bd
 have e0 := o_e0 Bd hh
 have N0 := Fr.nil n0
 refine o_in (g' := mkF m 0 #[(sR o1)] []) (by simp [entryFrame, mkF, argsToLocals, Value.category]) ?_
 obtain ⟨T1, X1, e1, st1⟩ := getS2 X0 hx hZ hown (host := "") (Or.inl (W hw 36 rfl)) Via.refl e0 (GG.1.ext O0.2) (g := (mkF m 0 #[(sR o1)] [])) rfl (hb hby o_d6_0)
 refine o_st (G' := T1.setTop (mkF m 3 #[(sR o1)] [(.int cs)])) st1 ?_
 obtain ⟨_, X1h, N1h⟩ := o_hide X1 N0
 refine o_ifNo X1h hx 6 (hb hby o_d6_3) (feq (GG.2.1 : ¬ (cs = (0 : Int32)))).1 ?_
 refine o_aloadN X1h hx 7 (hb hby o_d6_6) rfl rfl ?_
 obtain ⟨T2, X2, e2, st2⟩ := getF X1h hx hZ hown (host := "") (Or.inl (W hw 21 rfl)) Via.refl e1 pF1 (g := (mkF m 7 #[(sR o1)] [(.ref o1)])) rfl rfl (hb hby o_d6_7)
 refine o_st (G' := T2.setTop (mkF m 10 #[(sR o1)] [(.int 1)])) st2 ?_
 obtain ⟨_, X2h, N2h⟩ := o_hide X2 N1h
 refine o_ifYes X2h hx 17 (hb hby o_d6_10) (feq (by decide : ¬ ((1 : Int32) = (0 : Int32)))).2 ?_
 refine o_iconst X2h hx 18 0 (hb hby o_d6_17) rfl ?_
 exact o_retN (t := .boolean) (z := (0 : Int32)) (Q := o_Q6U Z cs sf GG o1 h0 n0) X2h hx hrt (by simp) (hb hby o_d6_18) hlk e2 ⟨rfl, N2h, rfl⟩ (by decide) (by decide)
theorem o_d28_0 : decode jdk_52_method_6_code 0 = .ok (.aload_n 0, 1) := by decide +kernel
theorem o_d28_1 : decode jdk_52_method_6_code 1 = .ok (.arraylength, 1) := by decide +kernel
theorem o_d28_2 : decode jdk_52_method_6_code 2 = .ok (.iconst 1, 1) := by decide +kernel
theorem o_d28_3 : decode jdk_52_method_6_code 3 = .ok (.ishr, 1) := by decide +kernel
theorem o_d28_4 : decode jdk_52_method_6_code 4 = .ok (.ireturn, 1) := by decide +kernel
theorem o_pn4 : plainName "java/lang/StringUTF16" = true := by first | (simp [plainName, overriddenIn]; done) | decide +kernel
def o_Q28n1 (Z : State) (o1 : Addr) (kb : ClassId) (vs : List Value) (h0 : Heap) (n0 : Nat) (v : Option Value) (h : Heap) (L : List Loc) : Prop := v = some (.int 1) ∧ Fr n0 L ∧ h = h0
set_option maxRecDepth 65536 in
set_option maxHeartbeats 40000000 in
theorem o_rm28n1 (l : Launch) (Z : State) (a0 : Array Value) (hw : o_Hw Z a0) (ws : List Jvm.Cond) (o1 : Addr) (kb : ClassId) (vs : List Value) (h0 : Heap) (n0 : Nat) (Z0 : n0 ≤ h0.size) (pV1 : Arv Z h0 o1 kb .byte 2 vs (.int 0)) :
  o_Met l y6 jdk_52_method_6_code 1 (some .int) ws r0 #[(.ref o1)] Z h0 (o_Q28n1 Z o1 kb vs h0 n0) := by
 refine MetFree.of_bodySF (plainFor_of_name o_pn4) hisR ?_
 intro p e s m args below meth c s₁ Bd hml0 hP hK
 obtain ⟨rfl, hZ, hh⟩ := hP
 obtain ⟨hx, hby, hlk, hrt⟩ := o_bd Bd
 have X0 : Stand p l e r0 s m #[(.ref o1)] below meth c s₁ [] 0 0 := Stand.of_body Bd
 have e0 := o_e0 Bd hh
 have N0 := Fr.nil n0
 refine o_in (g' := mkF m 0 #[(sR o1)] []) (by simp [entryFrame, mkF, argsToLocals, Value.category]) ?_
 refine o_aloadN X0 hx 1 (hb hby o_d28_0) rfl rfl ?_
 obtain ⟨cl1, Ar1, qv1, S1, M1, H1, G1⟩ := id pV1
 have ln1 := len_of S1 M1
 refine o_st (G' := s₁.setTop (mkF m 2 #[(sR o1)] [(.int 2)])) (fun t k => X0.arraylength hx (by rw [e0]; exact Ar1.1) (State.isArrayOf_alike hZ.alike Ar1.2.1) (g := (mkF m 1 #[(sR o1)] [(.ref o1)])) rfl rfl (hb hby o_d28_1) _ (by rw [ln1]; exact k)) ?_
 refine o_iconst X0 hx 3 1 (hb hby o_d28_2) rfl ?_
 refine o_ishr X0 hx 4 (hb hby o_d28_3) ?_
 rw [show ((2 : Int32) >>> ((1 : Int32) &&& 31)) = (1 : Int32) from by decide]
 exact o_retI (z := (1 : Int32)) (Q := o_Q28n1 Z o1 kb vs h0 n0) X0 hx hrt (hb hby o_d28_4) hlk e0 ⟨rfl, N0, rfl⟩ (by decide) (by decide)
theorem o_d30_0 : decode jdk_41_method_13_code 0 = .ok (.iload_n 2, 1) := by decide +kernel
theorem o_d30_1 : decode jdk_41_method_13_code 1 = .ok (.iload_n 0, 1) := by decide +kernel
theorem o_d30_2 : decode jdk_41_method_13_code 2 = .ok (.ior, 1) := by decide +kernel
theorem o_d30_3 : decode jdk_41_method_13_code 3 = .ok (.iload_n 1, 1) := by decide +kernel
theorem o_d30_4 : decode jdk_41_method_13_code 4 = .ok (.ior, 1) := by decide +kernel
theorem o_d30_5 : decode jdk_41_method_13_code 5 = .ok (.ifCond .lt 10, 3) := by decide +kernel
theorem o_d30_8 : decode jdk_41_method_13_code 8 = .ok (.iload_n 1, 1) := by decide +kernel
theorem o_d30_9 : decode jdk_41_method_13_code 9 = .ok (.iload_n 2, 1) := by decide +kernel
theorem o_d30_10 : decode jdk_41_method_13_code 10 = .ok (.iload_n 0, 1) := by decide +kernel
theorem o_d30_11 : decode jdk_41_method_13_code 11 = .ok (.isub, 1) := by decide +kernel
theorem o_d30_12 : decode jdk_41_method_13_code 12 = .ok (.if_icmp .le 11, 3) := by decide +kernel
theorem o_d30_23 : decode jdk_41_method_13_code 23 = .ok (.iload_n 0, 1) := by decide +kernel
theorem o_d30_24 : decode jdk_41_method_13_code 24 = .ok (.ireturn, 1) := by decide +kernel
theorem o_ef30n1 (m : MethodId) (sf : Value) (hsf : sf.isRef = true) : entryFrame m #[(.int 0), (.int 1), (.int 1), sf] 4 = mkF m 0 #[(sI 0), (sI 1), (sI 1), .val sf] [] := by
  cases sf <;> first | (simp [Value.isRef] at hsf; done) | (simp [entryFrame, mkF, argsToLocals, Value.category]; done) | rfl
def o_Q30n1 (Z : State) (cs : Int32) (sf : Value) (GG : o_G Z cs sf)  (h0 : Heap) (n0 : Nat) (v : Option Value) (h : Heap) (L : List Loc) : Prop := v = some (.int 0) ∧ Fr n0 L ∧ h = h0
set_option maxRecDepth 65536 in
set_option maxHeartbeats 40000000 in
theorem o_rm30n1 (l : Launch) (Z : State) (a0 : Array Value) (hw : o_Hw Z a0) (ws : List Jvm.Cond) (cs : Int32) (sf : Value) (GG : o_G Z cs sf)  (h0 : Heap) (n0 : Nat) (Z0 : n0 ≤ h0.size)  :
  o_Met l y7 jdk_41_method_13_code 4 (some .int) ws r0 #[(.int 0), (.int 1), (.int 1), sf] Z h0 (o_Q30n1 Z cs sf GG  h0 n0) := by
 refine MetFree.of_bodySF (plainFor_of_name o_pn2) hisR ?_
 intro p e s m args below meth c s₁ Bd hml0 hP hK
 obtain ⟨rfl, hZ, hh⟩ := hP
 obtain ⟨hx, hby, hlk, hrt⟩ := o_bd Bd
 have X0 : Stand p l e r0 s m #[(.int 0), (.int 1), (.int 1), sf] below meth c s₁ [] 0 0 := Stand.of_body Bd
 have e0 := o_e0 Bd hh
 have N0 := Fr.nil n0
 refine o_in (o_ef30n1 m sf GG.2.2.2.1) ?_
 refine o_iloadN X0 hx 1 (hb hby o_d30_0) rfl ?_
 refine o_iloadN X0 hx 2 (hb hby o_d30_1) rfl ?_
 refine o_ior X0 hx 3 (hb hby o_d30_2) ?_
 show o_Gs p e below _ (s₁.setTop (mkF m 3 #[(sI 0), (sI 1), (sI 1), .val sf] [(.int 1)]))
 refine o_iloadN X0 hx 4 (hb hby o_d30_3) rfl ?_
 refine o_ior X0 hx 5 (hb hby o_d30_4) ?_
 show o_Gs p e below _ (s₁.setTop (mkF m 5 #[(sI 0), (sI 1), (sI 1), .val sf] [(.int 1)]))
 refine o_ifNo X0 hx 8 (hb hby o_d30_5) (flt (by decide : ¬ ((1 : Int32) < (0 : Int32)))).1 ?_
 refine o_iloadN X0 hx 9 (hb hby o_d30_8) rfl ?_
 refine o_iloadN X0 hx 10 (hb hby o_d30_9) rfl ?_
 refine o_iloadN X0 hx 11 (hb hby o_d30_10) rfl ?_
 refine o_isub X0 hx 12 (hb hby o_d30_11) ?_
 show o_Gs p e below _ (s₁.setTop (mkF m 12 #[(sI 0), (sI 1), (sI 1), .val sf] [(.int 1), (.int 1)]))
 refine o_icmpYes X0 hx 23 (hb hby o_d30_12) (flt (by decide : ¬ ((1 : Int32) < (1 : Int32)))).2.2.2 ?_
 refine o_iloadN X0 hx 24 (hb hby o_d30_23) rfl ?_
 exact o_retI (z := (0 : Int32)) (Q := o_Q30n1 Z cs sf GG  h0 n0) X0 hx hrt (hb hby o_d30_24) hlk e0 ⟨rfl, N0, rfl⟩ (by decide) (by decide)
theorem o_d29_0 : decode jdk_42_method_157_code 0 = .ok (.iload_n 0, 1) := by decide +kernel
theorem o_d29_1 : decode jdk_42_method_157_code 1 = .ok (.iload_n 1, 1) := by decide +kernel
theorem o_d29_2 : decode jdk_42_method_157_code 2 = .ok (.iload_n 2, 1) := by decide +kernel
theorem o_d29_3 : decode jdk_42_method_157_code 3 = .ok (.getstatic 1053, 3) := by decide +kernel
theorem o_d29_6 : decode jdk_42_method_157_code 6 = .ok (.invokestatic 1065, 3) := by decide +kernel
theorem o_d29_9 : decode jdk_42_method_157_code 9 = .ok (.ireturn, 1) := by decide +kernel
theorem o_pd1 : parseMethodDescriptor "(IIILjava/util/function/BiFunction;)I" = some ⟨[.int, .int, .int, (.object "java/util/function/BiFunction")], some .int⟩ := by decide +kernel
def o_Q29n1 (Z : State) (cs : Int32) (sf : Value) (GG : o_G Z cs sf)  (h0 : Heap) (n0 : Nat) (v : Option Value) (h : Heap) (L : List Loc) : Prop := v = some (.int 0) ∧ Fr n0 L ∧ h = h0
set_option maxRecDepth 65536 in
set_option maxHeartbeats 40000000 in
theorem o_rm29n1 (l : Launch) (Z : State) (a0 : Array Value) (hw : o_Hw Z a0) (ws : List Jvm.Cond) (cs : Int32) (sf : Value) (GG : o_G Z cs sf)  (h0 : Heap) (n0 : Nat) (Z0 : n0 ≤ h0.size) (O0 : Old Z n0 h0) :
  o_Met l y8 jdk_42_method_157_code 3 (some .int) ws r2 #[(.int 0), (.int 1), (.int 1)] Z h0 (o_Q29n1 Z cs sf GG  h0 n0) := by
 refine MetFree.of_bodySF (plainFor_of_name o_pn3) hisR ?_
 intro p e s m args below meth c s₁ Bd hml0 hP hK
 obtain ⟨rfl, hZ, hh⟩ := hP
 obtain ⟨hx, hby, hlk, hrt⟩ := o_bd Bd
 have hml : c.maxLocals = 3 := hml0
 have hown : s.vm.findClass "java/lang/String" = some m.cls := findClass_of_methodNamed Bd.named
 have X0 : Stand p l e r2 s m #[(.int 0), (.int 1), (.int 1)] below meth c s₁ [] 0 0 := Stand.of_body Bd
 have e0 := o_e0 Bd hh
 have N0 := Fr.nil n0
 refine o_in (g' := mkF m 0 #[(sI 0), (sI 1), (sI 1)] []) (by simp [entryFrame, mkF, argsToLocals, Value.category]) ?_
 refine o_iloadN X0 hx 1 (hb hby o_d29_0) rfl ?_
 refine o_iloadN X0 hx 2 (hb hby o_d29_1) rfl ?_
 refine o_iloadN X0 hx 3 (hb hby o_d29_2) rfl ?_
 obtain ⟨T1, X1, e1, st1⟩ := getS2 X0 hx hZ hown (host := "") (Or.inl (W hw 80 rfl)) Via.refl e0 (GG.2.2.1.ext O0.2) (g := (mkF m 3 #[(sI 0), (sI 1), (sI 1)] [(.int 1), (.int 1), (.int 0)])) rfl (hb hby o_d29_3)
 refine o_st (G' := T1.setTop (mkF m 6 #[(sI 0), (sI 1), (sI 1)] [sf, (.int 1), (.int 1), (.int 0)])) st1 ?_
 obtain ⟨_, X1h, N1h⟩ := o_hide X1 N0
 obtain ⟨_, _, ⟨T2, Lx2, kc2, nc2⟩, -, X2, ⟨Lc2, hQ2, lq2, yq2, zq2⟩, st2⟩ := Jvm.LawKit.callS X1h hx (y := y7) hown (mvT hZ (W hw 123 rfl)) (mvT hZ (W hw 124 rfl)) (mvT hZ (W hw 81 rfl)) (mvT hZ (W hw 125 rfl)) (by decide) (backOf (W := 0) (o_rm30n1 l Z a0 hw [] cs sf GG  h0 n0 Z0 ) hZ (W hw 125 rfl) (W hw 81 rfl) (by decide) (by decide)) (g := (mkF m 6 #[(sI 0), (sI 1), (sI 1)] [sf, (.int 1), (.int 1), (.int 0)])) rfl (by rw [hml]; rfl) (argsL := [(.int 0), (.int 1), (.int 1), sf]) (rest := []) (lenOf o_pd1 rfl) rfl (o_wl rfl) (hb hby o_d29_6) (fun _ _ => ⟨rfl, e1, (by decide : 0 + 0 ≤ _), (by decide : 0 + 0 ≤ _)⟩)
 dsimp only [Pt.U, Pt.locs, Pt.cells, Pt.slots] at X2 lq2 yq2 zq2 st2 hQ2
 subst lq2 yq2 zq2
 obtain ⟨rfl, Nq2, eh2⟩ := hQ2
 have N2 := Fr.app N1h Nq2
 refine o_st (G' := T2.setTop (mkF m 9 #[(sI 0), (sI 1), (sI 1)] [(.int 0)])) st2 ?_
 obtain ⟨_, X2h, N2h⟩ := o_hide X2 N2
 exact o_retI (z := (0 : Int32)) (Q := o_Q29n1 Z cs sf GG  h0 n0) X2h hx hrt (hb hby o_d29_9) hlk eh2 ⟨rfl, N2h, rfl⟩ (by decide) (by decide)
theorem o_d27_0 : decode jdk_52_method_94_code 0 = .ok (.iload_n 0, 1) := by decide +kernel
theorem o_d27_1 : decode jdk_52_method_94_code 1 = .ok (.iload_n 1, 1) := by decide +kernel
theorem o_d27_2 : decode jdk_52_method_94_code 2 = .ok (.aload_n 2, 1) := by decide +kernel
theorem o_d27_3 : decode jdk_52_method_94_code 3 = .ok (.invokestatic 48, 3) := by decide +kernel
theorem o_d27_6 : decode jdk_52_method_94_code 6 = .ok (.invokestatic 419, 3) := by decide +kernel
theorem o_d27_9 : decode jdk_52_method_94_code 9 = .ok (.pop, 1) := by decide +kernel
theorem o_d27_10 : decode jdk_52_method_94_code 10 = .ok (.return_, 1) := by decide +kernel
theorem o_pd2 : parseMethodDescriptor "([B)I" = some ⟨[(.array .byte)], some .int⟩ := by decide +kernel
theorem o_pd3 : parseMethodDescriptor "(III)I" = some ⟨[.int, .int, .int], some .int⟩ := by decide +kernel
def o_Q27n1 (Z : State) (cs : Int32) (sf : Value) (GG : o_G Z cs sf) (o1 : Addr) (kb : ClassId) (vs : List Value) (h0 : Heap) (n0 : Nat) (v : Option Value) (h : Heap) (L : List Loc) : Prop := v = none ∧ Fr n0 L ∧ h = h0
set_option maxRecDepth 65536 in
set_option maxHeartbeats 40000000 in
theorem o_rm27n1 (l : Launch) (Z : State) (a0 : Array Value) (hw : o_Hw Z a0) (ws : List Jvm.Cond) (cs : Int32) (sf : Value) (GG : o_G Z cs sf) (o1 : Addr) (kb : ClassId) (vs : List Value) (h0 : Heap) (n0 : Nat) (Z0 : n0 ≤ h0.size) (pV1 : Arv Z h0 o1 kb .byte 2 vs (.int 0)) (O0 : Old Z n0 h0) :
  o_Met l y9 jdk_52_method_94_code 3 none ws r3 #[(.int 0), (.int 1), (.ref o1)] Z h0 (o_Q27n1 Z cs sf GG o1 kb vs h0 n0) := by
 refine MetFree.of_bodySF (plainFor_of_name o_pn4) hisR ?_
 intro p e s m args below meth c s₁ Bd hml0 hP hK
 obtain ⟨rfl, hZ, hh⟩ := hP
 obtain ⟨hx, hby, hlk, hrt⟩ := o_bd Bd
 have hml : c.maxLocals = 3 := hml0
 have hown : s.vm.findClass "java/lang/StringUTF16" = some m.cls := findClass_of_methodNamed Bd.named
 have X0 : Stand p l e r3 s m #[(.int 0), (.int 1), (.ref o1)] below meth c s₁ [] 0 0 := Stand.of_body Bd
 have e0 := o_e0 Bd hh
 have N0 := Fr.nil n0
 refine o_in (g' := mkF m 0 #[(sI 0), (sI 1), (sR o1)] []) (by simp [entryFrame, mkF, argsToLocals, Value.category]) ?_
 refine o_iloadN X0 hx 1 (hb hby o_d27_0) rfl ?_
 refine o_iloadN X0 hx 2 (hb hby o_d27_1) rfl ?_
 refine o_aloadN X0 hx 3 (hb hby o_d27_2) rfl rfl ?_
 obtain ⟨_, _, ⟨T1, Lx1, kc1, nc1⟩, -, X1, ⟨Lc1, hQ1, lq1, yq1, zq1⟩, st1⟩ := Jvm.LawKit.callS X0 hx (y := y6) hown (mvT hZ (W hw 117 rfl)) (mvT hZ (W hw 118 rfl)) (mvT hZ (W hw 58 rfl)) (mvT hZ (W hw 119 rfl)) (by decide) (backOf (W := 2) (o_rm28n1 l Z a0 hw [] o1 kb vs h0 n0 Z0 pV1) hZ (W hw 119 rfl) (W hw 58 rfl) (by decide) (by decide)) (g := (mkF m 3 #[(sI 0), (sI 1), (sR o1)] [(.ref o1), (.int 1), (.int 0)])) rfl (by rw [hml]; rfl) (argsL := [(.ref o1)]) (rest := [(.int 1), (.int 0)]) (lenOf o_pd2 rfl) rfl (o_wl rfl) (hb hby o_d27_3) (fun _ _ => ⟨rfl, e0, (by decide : 0 + 0 ≤ _), (by decide : 0 + 0 ≤ _)⟩)
 dsimp only [Pt.U, Pt.locs, Pt.cells, Pt.slots] at X1 lq1 yq1 zq1 st1 hQ1
 subst lq1 yq1 zq1
 obtain ⟨rfl, Nq1, eh1⟩ := hQ1
 have N1 := Fr.app N0 Nq1
 refine o_st (G' := T1.setTop (mkF m 6 #[(sI 0), (sI 1), (sR o1)] [(.int 1), (.int 1), (.int 0)])) st1 ?_
 obtain ⟨_, X1h, N1h⟩ := o_hide X1 N1
 obtain ⟨_, _, ⟨T2, Lx2, kc2, nc2⟩, -, X2, ⟨Lc2, hQ2, lq2, yq2, zq2⟩, st2⟩ := Jvm.LawKit.callS X1h hx (y := y8) hown (mvT hZ (W hw 120 rfl)) (mvT hZ (W hw 121 rfl)) (mvT hZ (W hw 3 rfl)) (mvT hZ (W hw 122 rfl)) (by decide) (backOf (W := 0) (o_rm29n1 l Z a0 hw [] cs sf GG  h0 n0 Z0 O0) hZ (W hw 122 rfl) (W hw 3 rfl) (by decide) (by decide)) (g := (mkF m 6 #[(sI 0), (sI 1), (sR o1)] [(.int 1), (.int 1), (.int 0)])) rfl (by rw [hml]; rfl) (argsL := [(.int 0), (.int 1), (.int 1)]) (rest := []) (lenOf o_pd3 rfl) rfl (o_wl rfl) (hb hby o_d27_6) (fun _ _ => ⟨rfl, eh1, (by decide : 0 + 0 ≤ _), (by decide : 0 + 0 ≤ _)⟩)
 dsimp only [Pt.U, Pt.locs, Pt.cells, Pt.slots] at X2 lq2 yq2 zq2 st2 hQ2
 subst lq2 yq2 zq2
 obtain ⟨rfl, Nq2, eh2⟩ := hQ2
 have N2 := Fr.app N1h Nq2
 refine o_st (G' := T2.setTop (mkF m 9 #[(sI 0), (sI 1), (sR o1)] [(.int 0)])) st2 ?_
 obtain ⟨_, X2h, N2h⟩ := o_hide X2 N2
 refine o_pop X2h hx 10 (hb hby o_d27_9) rfl ?_
 exact o_retV (Q := o_Q27n1 Z cs sf GG o1 kb vs h0 n0) X2h hx hrt (hb hby o_d27_10) hlk eh2 ⟨rfl, N2h, rfl⟩ (by decide) (by decide)
theorem o_d22_0 : decode jdk_52_method_3_code 0 = .ok (.iload_n 0, 1) := by decide +kernel
theorem o_d22_1 : decode jdk_52_method_3_code 1 = .ok (.ifCond .ge 11, 3) := by decide +kernel
theorem o_d22_12 : decode jdk_52_method_3_code 12 = .ok (.iload_n 0, 1) := by decide +kernel
theorem o_d22_13 : decode jdk_52_method_3_code 13 = .ok (.ldc 20, 2) := by decide +kernel
theorem o_d22_15 : decode jdk_52_method_3_code 15 = .ok (.if_icmp .lt 40, 3) := by decide +kernel
theorem o_d22_55 : decode jdk_52_method_3_code 55 = .ok (.iload_n 0, 1) := by decide +kernel
theorem o_d22_56 : decode jdk_52_method_3_code 56 = .ok (.iconst 1, 1) := by decide +kernel
theorem o_d22_57 : decode jdk_52_method_3_code 57 = .ok (.ishl, 1) := by decide +kernel
theorem o_d22_58 : decode jdk_52_method_3_code 58 = .ok (.ireturn, 1) := by decide +kernel
def o_Q22n1 (Z : State)  (h0 : Heap) (n0 : Nat) (v : Option Value) (h : Heap) (L : List Loc) : Prop := v = some (.int 2) ∧ Fr n0 L ∧ h = h0
set_option maxRecDepth 65536 in
set_option maxHeartbeats 40000000 in
theorem o_rm22n1 (l : Launch) (Z : State) (a0 : Array Value) (hw : o_Hw Z a0) (ws : List Jvm.Cond)  (h0 : Heap) (n0 : Nat) (Z0 : n0 ≤ h0.size)  :
  o_Met l y10 jdk_52_method_3_code 1 (some .int) ws r0 #[(.int 1)] Z h0 (o_Q22n1 Z  h0 n0) := by
 refine MetFree.of_bodySF (plainFor_of_name o_pn4) hisR ?_
 intro p e s m args below meth c s₁ Bd hml0 hP hK
 obtain ⟨rfl, hZ, hh⟩ := hP
 obtain ⟨hx, hby, hlk, hrt⟩ := o_bd Bd
 have hown : s.vm.findClass "java/lang/StringUTF16" = some m.cls := findClass_of_methodNamed Bd.named
 have X0 : Stand p l e r0 s m #[(.int 1)] below meth c s₁ [] 0 0 := Stand.of_body Bd
 have e0 := o_e0 Bd hh
 have N0 := Fr.nil n0
 refine o_in (g' := mkF m 0 #[(sI 1)] []) (by simp [entryFrame, mkF, argsToLocals, Value.category]) ?_
 refine o_iloadN X0 hx 1 (hb hby o_d22_0) rfl ?_
 refine o_ifYes X0 hx 12 (hb hby o_d22_1) (flt (by decide : ¬ ((1 : Int32) < (0 : Int32)))).2.1 ?_
 refine o_iloadN X0 hx 13 (hb hby o_d22_12) rfl ?_
 refine o_ldcI X0 hx 15 hown (mvT hZ (W hw 98 rfl)) (hb hby o_d22_13) ?_
 refine o_icmpYes X0 hx 55 (hb hby o_d22_15) (tlt (by decide : (1 : Int32) < (1073741823 : Int32))).1 ?_
 refine o_iloadN X0 hx 56 (hb hby o_d22_55) rfl ?_
 refine o_iconst X0 hx 57 1 (hb hby o_d22_56) rfl ?_
 refine o_ishl X0 hx 58 (hb hby o_d22_57) ?_
 rw [show ((1 : Int32) <<< ((1 : Int32) &&& 31)) = (2 : Int32) from by decide]
 exact o_retI (z := (2 : Int32)) (Q := o_Q22n1 Z  h0 n0) X0 hx hrt (hb hby o_d22_58) hlk e0 ⟨rfl, N0, rfl⟩ (by decide) (by decide)
theorem o_d21_0 : decode jdk_52_method_2_code 0 = .ok (.iload_n 0, 1) := by decide +kernel
theorem o_d21_1 : decode jdk_52_method_2_code 1 = .ok (.invokestatic 11, 3) := by decide +kernel
theorem o_d21_4 : decode jdk_52_method_2_code 4 = .ok (.newarray .byte, 2) := by decide +kernel
theorem o_d21_6 : decode jdk_52_method_2_code 6 = .ok (.areturn, 1) := by decide +kernel
theorem o_pd4 : parseMethodDescriptor "(I)I" = some ⟨[.int], some .int⟩ := by decide +kernel
def o_Q21n1 (Z : State)  (h0 : Heap) (n0 : Nat) (v : Option Value) (h : Heap) (L : List Loc) : Prop := ∃ bb : Addr, ∃ kb : ClassId, v = some (.ref bb) ∧ Fr n0 L ∧ Keep h0 h [] ∧ h0.size ≤ bb ∧ Arv Z h bb kb .byte 2 [(.int 0), (.int 0)] (.int 0)
set_option maxRecDepth 65536 in
set_option maxHeartbeats 40000000 in
theorem o_rm21n1 (l : Launch) (Z : State) (a0 : Array Value) (hw : o_Hw Z a0) (ws : List Jvm.Cond)  (h0 : Heap) (n0 : Nat) (Z0 : n0 ≤ h0.size)  :
  o_Met l y11 jdk_52_method_2_code 1 (some (.array .byte)) ws r4 #[(.int 1)] Z h0 (o_Q21n1 Z  h0 n0) := by
 refine MetFree.of_bodySF (plainFor_of_name o_pn4) hisR ?_
 intro p e s m args below meth c s₁ Bd hml0 hP hK
 obtain ⟨rfl, hZ, hh⟩ := hP
 obtain ⟨hx, hby, hlk, hrt⟩ := o_bd Bd
 have hml : c.maxLocals = 1 := hml0
 have hown : s.vm.findClass "java/lang/StringUTF16" = some m.cls := findClass_of_methodNamed Bd.named
 have X0 : Stand p l e r4 s m #[(.int 1)] below meth c s₁ [] 0 0 := Stand.of_body Bd
 have e0 := o_e0 Bd hh
 have N0 := Fr.nil n0
 have KC0 := Keep.refl h0 []
 refine o_in (g' := mkF m 0 #[(sI 1)] []) (by simp [entryFrame, mkF, argsToLocals, Value.category]) ?_
 refine o_iloadN X0 hx 1 (hb hby o_d21_0) rfl ?_
 obtain ⟨_, _, ⟨T1, Lx1, kc1, nc1⟩, -, X1, ⟨Lc1, hQ1, lq1, yq1, zq1⟩, st1⟩ := Jvm.LawKit.callS X0 hx (y := y10) hown (mvT hZ (W hw 95 rfl)) (mvT hZ (W hw 96 rfl)) (mvT hZ (W hw 58 rfl)) (mvT hZ (W hw 97 rfl)) (by decide) (backOf (W := 0) (o_rm22n1 l Z a0 hw []  h0 n0 Z0 ) hZ (W hw 97 rfl) (W hw 58 rfl) (by decide) (by decide)) (g := (mkF m 1 #[(sI 1)] [(.int 1)])) rfl (by rw [hml]; rfl) (argsL := [(.int 1)]) (rest := []) (lenOf o_pd4 rfl) rfl (o_wl rfl) (hb hby o_d21_1) (fun _ _ => ⟨rfl, e0, (by decide : 0 + 0 ≤ _), (by decide : 0 + 0 ≤ _)⟩)
 dsimp only [Pt.U, Pt.locs, Pt.cells, Pt.slots] at X1 lq1 yq1 zq1 st1 hQ1
 subst lq1 yq1 zq1
 obtain ⟨rfl, Nq1, eh1⟩ := hQ1
 have N1 := Fr.app N0 Nq1
 refine o_st (G' := T1.setTop (mkF m 4 #[(sI 1)] [(.int 2)])) st1 ?_
 obtain ⟨_, X1h, N1h⟩ := o_hide X1 N1
 obtain ⟨T2, h2, k2, X2, e2, E2, A2, st2⟩ := newP X1h hx hZ (W hw 15 rfl) eh1 (g := (mkF m 4 #[(sI 1)] [(.int 2)])) rfl (hb hby o_d21_4) rfl (by decide) (cap := 2) (by decide) (by decide) (by decide) (by decide)
 obtain ⟨b2, g2⟩ : ∃ z, z = h0.size := ⟨_, rfl⟩
 rw [← g2] at A2 st2
 have sz_b2 : h0.size ≤ b2 := Nat.le_trans KC0.1 (Nat.le_of_eq g2.symm)
 have V2 : Arv Z h2 b2 k2 .byte 2 [(.int 0), (.int 0)] (.int 0) := (Arv.new A2 (by decide)).pad (pad_rep [] (.int 0) 2)
 have KC3 := KC0.ext E2
 refine o_st (G' := T2.setTop (mkF m 6 #[(sI 1)] [(.ref b2)])) st2 ?_
 obtain ⟨_, X2h, N2h⟩ := o_hide X2 N1h
 exact o_retA (z := (.ref b2)) (Q := o_Q21n1 Z  h0 n0) X2h hx hrt rfl rfl (hb hby o_d21_6) hlk e2 ⟨b2, k2, rfl, N2h, KC3, sz_b2, V2⟩ (by decide) (by decide)
theorem o_d23_0 : decode jdk_52_method_4_code 0 = .ok (.getstatic 44, 3) := by decide +kernel
theorem o_d23_3 : decode jdk_52_method_4_code 3 = .ok (.ifCond .ne 25, 3) := by decide +kernel
theorem o_d23_28 : decode jdk_52_method_4_code 28 = .ok (.iload_n 1, 1) := by decide +kernel
theorem o_d23_29 : decode jdk_52_method_4_code 29 = .ok (.iconst 1, 1) := by decide +kernel
theorem o_d23_30 : decode jdk_52_method_4_code 30 = .ok (.ishl, 1) := by decide +kernel
theorem o_d23_31 : decode jdk_52_method_4_code 31 = .ok (.istore_n 1, 1) := by decide +kernel
theorem o_d23_32 : decode jdk_52_method_4_code 32 = .ok (.aload_n 0, 1) := by decide +kernel
theorem o_d23_33 : decode jdk_52_method_4_code 33 = .ok (.iload_n 1, 1) := by decide +kernel
theorem o_d23_34 : decode jdk_52_method_4_code 34 = .ok (.iinc 1 1, 3) := by decide +kernel
theorem o_d23_37 : decode jdk_52_method_4_code 37 = .ok (.iload_n 2, 1) := by decide +kernel
theorem o_d23_38 : decode jdk_52_method_4_code 38 = .ok (.getstatic 59, 3) := by decide +kernel
theorem o_d23_41 : decode jdk_52_method_4_code 41 = .ok (.ishr, 1) := by decide +kernel
theorem o_d23_42 : decode jdk_52_method_4_code 42 = .ok (.i2b, 1) := by decide +kernel
theorem o_d23_43 : decode jdk_52_method_4_code 43 = .ok (.bastore, 1) := by decide +kernel
theorem o_d23_44 : decode jdk_52_method_4_code 44 = .ok (.aload_n 0, 1) := by decide +kernel
theorem o_d23_45 : decode jdk_52_method_4_code 45 = .ok (.iload_n 1, 1) := by decide +kernel
theorem o_d23_46 : decode jdk_52_method_4_code 46 = .ok (.iload_n 2, 1) := by decide +kernel
theorem o_d23_47 : decode jdk_52_method_4_code 47 = .ok (.getstatic 63, 3) := by decide +kernel
theorem o_d23_50 : decode jdk_52_method_4_code 50 = .ok (.ishr, 1) := by decide +kernel
theorem o_d23_51 : decode jdk_52_method_4_code 51 = .ok (.i2b, 1) := by decide +kernel
theorem o_d23_52 : decode jdk_52_method_4_code 52 = .ok (.bastore, 1) := by decide +kernel
theorem o_d23_53 : decode jdk_52_method_4_code 53 = .ok (.return_, 1) := by decide +kernel
def o_Q23n1i0 (Z : State) (cs : Int32) (sf : Value) (GG : o_G Z cs sf) (o1 : Addr) (v2 : Int32) (kb : ClassId) (yy0 : Int32) (yy1 : Int32) (h0 : Heap) (n0 : Nat) (v : Option Value) (h : Heap) (L : List Loc) : Prop := v = none ∧ Fr n0 L ∧ Keep h0 h [o1] ∧ Arv Z h o1 kb .byte 2 [(.int (o_lo v2)), (.int (o_hi v2))] (.int 0)
set_option maxRecDepth 65536 in
set_option maxHeartbeats 40000000 in
theorem o_rm23n1i0 (l : Launch) (Z : State) (a0 : Array Value) (hw : o_Hw Z a0) (ws : List Jvm.Cond) (cs : Int32) (sf : Value) (GG : o_G Z cs sf) (o1 : Addr) (v2 : Int32) (kb : ClassId) (yy0 : Int32) (yy1 : Int32) (h0 : Heap) (n0 : Nat) (Z0 : n0 ≤ h0.size) (pV1 : Arv Z h0 o1 kb .byte 2 [(.int yy0), (.int yy1)] (.int 0)) (pG2 : n0 ≤ o1) (O0 : Old Z n0 h0) :
  o_Met l y12 jdk_52_method_4_code 3 none ws r0 #[(.ref o1), (.int 0), (.int v2)] Z h0 (o_Q23n1i0 Z cs sf GG o1 v2 kb yy0 yy1 h0 n0) := by
 refine MetFree.of_bodySF (plainFor_of_name o_pn4) hisR ?_
 intro p e s m args below meth c s₁ Bd hml0 hP hK
 obtain ⟨rfl, hZ, hh⟩ := hP
 obtain ⟨hx, hby, hlk, hrt⟩ := o_bd Bd
 have hown : s.vm.findClass "java/lang/StringUTF16" = some m.cls := findClass_of_methodNamed Bd.named
 have X0 : Stand p l e r0 s m #[(.ref o1), (.int 0), (.int v2)] below meth c s₁ [] 0 0 := Stand.of_body Bd
 have e0 := o_e0 Bd hh
 have N0 := Fr.nil n0
 have KC0 := Keep.refl h0 [o1]
 refine o_in (g' := mkF m 0 #[(sR o1), (sI 0), (sI v2)] []) (by simp [entryFrame, mkF, argsToLocals, Value.category]) ?_
 obtain ⟨T1, X1, e1, st1⟩ := getS2 X0 hx hZ hown (host := "") (Or.inl (W hw 102 rfl)) Via.refl e0 (GG.2.2.2.2.1.ext O0.2) (g := (mkF m 0 #[(sR o1), (sI 0), (sI v2)] [])) rfl (hb hby o_d23_0)
 refine o_st (G' := T1.setTop (mkF m 3 #[(sR o1), (sI 0), (sI v2)] [(.int 1)])) st1 ?_
 obtain ⟨_, X1h, N1h⟩ := o_hide X1 N0
 refine o_ifYes X1h hx 28 (hb hby o_d23_3) (feq (by decide : ¬ ((1 : Int32) = (0 : Int32)))).2 ?_
 refine o_iloadN X1h hx 29 (hb hby o_d23_28) rfl ?_
 refine o_iconst X1h hx 30 1 (hb hby o_d23_29) rfl ?_
 refine o_ishl X1h hx 31 (hb hby o_d23_30) ?_
 rw [show ((0 : Int32) <<< ((1 : Int32) &&& 31)) = (0 : Int32) from by decide]
 refine o_istoreN X1h hx 32 #[(sR o1), (sI 0), (sI v2)] (hb hby o_d23_31) rfl ?_
 refine o_aloadN X1h hx 33 (hb hby o_d23_32) rfl rfl ?_
 refine o_iloadN X1h hx 34 (hb hby o_d23_33) rfl ?_
 refine o_iinc X1h hx 37 (1 : Int32) #[(sR o1), (sI 1), (sI v2)] (hb hby o_d23_34) rfl rfl rfl ?_
 refine o_iloadN X1h hx 38 (hb hby o_d23_37) rfl ?_
 obtain ⟨T2, X2, e2, st2⟩ := getS2 X1h hx hZ hown (host := "") (Or.inl (W hw 103 rfl)) Via.refl e1 (GG.2.2.2.2.2.1.ext O0.2) (g := (mkF m 38 #[(sR o1), (sI 1), (sI v2)] [(.int v2), (.int 0), (.ref o1)])) rfl (hb hby o_d23_38)
 refine o_st (G' := T2.setTop (mkF m 41 #[(sR o1), (sI 1), (sI v2)] [(.int 0), (.int v2), (.int 0), (.ref o1)])) st2 ?_
 obtain ⟨_, X2h, N2h⟩ := o_hide X2 N1h
 refine o_ishr X2h hx 42 (hb hby o_d23_41) ?_
 refine o_i2b X2h hx 43 (hb hby o_d23_42) ?_
 obtain ⟨cl3, Ar3, qv3, S3, M3, H3, G3⟩ := id pV1
 have hin3 := inb_of (j := (0 : Int32)) S3 ⟨by decide, by decide⟩
 obtain ⟨T3, h3, X3, e3, W3, st3⟩ := stB X2h hx hZ e2 Ar3 (j := (0 : Int32)) hin3 (g := (mkF m 43 #[(sR o1), (sI 1), (sI v2)] [(.int ((v2 >>> ((0 : Int32) &&& 31)).toInt8.toInt32)), (.int 0), (.ref o1)])) rfl rfl (hb hby o_d23_43)
 have V3 : Arv Z h3 o1 kb .byte 2 [(.int (nar .byte ((v2 >>> ((0 : Int32) &&& 31)).toInt8.toInt32))), (.int yy1)] (.int 0) := Arv.set Ar3 qv3 S3 M3 H3 G3 (fits_nar_byte _) W3 0 rfl (Nat.le_of_ble_eq_true rfl)
 have N3 := Fr.snoc X3 N2h pG2
 have O4 := O0.wr W3 pG2
 have KC5 := KC0.wr W3 (Or.inl (List.mem_of_getElem? (i := 0) rfl))
 refine o_st (G' := T3.setTop (mkF m 44 #[(sR o1), (sI 1), (sI v2)] [])) st3 ?_
 obtain ⟨_, X3h, N3h⟩ := o_hide X3 N3
 refine o_aloadN X3h hx 45 (hb hby o_d23_44) rfl rfl ?_
 refine o_iloadN X3h hx 46 (hb hby o_d23_45) rfl ?_
 refine o_iloadN X3h hx 47 (hb hby o_d23_46) rfl ?_
 obtain ⟨T7, X7, e7, st7⟩ := getS2 X3h hx hZ hown (host := "") (Or.inl (W hw 104 rfl)) Via.refl e3 (GG.2.2.2.2.2.2.ext O4.2) (g := (mkF m 47 #[(sR o1), (sI 1), (sI v2)] [(.int v2), (.int 1), (.ref o1)])) rfl (hb hby o_d23_47)
 refine o_st (G' := T7.setTop (mkF m 50 #[(sR o1), (sI 1), (sI v2)] [(.int 8), (.int v2), (.int 1), (.ref o1)])) st7 ?_
 obtain ⟨_, X7h, N7h⟩ := o_hide X7 N3h
 refine o_ishr X7h hx 51 (hb hby o_d23_50) ?_
 refine o_i2b X7h hx 52 (hb hby o_d23_51) ?_
 obtain ⟨cl8, Ar8, qv8, S8, M8, H8, G8⟩ := id V3
 have hin8 := inb_of (j := (1 : Int32)) S8 ⟨by decide, by decide⟩
 obtain ⟨T8, h8, X8, e8, W8, st8⟩ := stB X7h hx hZ e7 Ar8 (j := (1 : Int32)) hin8 (g := (mkF m 52 #[(sR o1), (sI 1), (sI v2)] [(.int ((v2 >>> ((8 : Int32) &&& 31)).toInt8.toInt32)), (.int 1), (.ref o1)])) rfl rfl (hb hby o_d23_52)
 have V8 : Arv Z h8 o1 kb .byte 2 [(.int (nar .byte ((v2 >>> ((0 : Int32) &&& 31)).toInt8.toInt32))), (.int (nar .byte ((v2 >>> ((8 : Int32) &&& 31)).toInt8.toInt32)))] (.int 0) := Arv.set Ar8 qv8 S8 M8 H8 G8 (fits_nar_byte _) W8 1 rfl (Nat.le_of_ble_eq_true rfl)
 have N8 := Fr.snoc X8 N7h pG2
 have KC10 := KC5.wr W8 (Or.inl (List.mem_of_getElem? (i := 0) rfl))
 refine o_st (G' := T8.setTop (mkF m 53 #[(sR o1), (sI 1), (sI v2)] [])) st8 ?_
 obtain ⟨_, X8h, N8h⟩ := o_hide X8 N8
 exact o_retV (Q := o_Q23n1i0 Z cs sf GG o1 v2 kb yy0 yy1 h0 n0) X8h hx hrt (hb hby o_d23_53) hlk e8 ⟨rfl, N8h, KC10, V8⟩ (by decide) (by decide)
theorem o_d24_0 : decode jdk_52_method_5_code 0 = .ok (.getstatic 44, 3) := by decide +kernel
theorem o_d24_3 : decode jdk_52_method_5_code 3 = .ok (.ifCond .ne 25, 3) := by decide +kernel
theorem o_d24_28 : decode jdk_52_method_5_code 28 = .ok (.iload_n 1, 1) := by decide +kernel
theorem o_d24_29 : decode jdk_52_method_5_code 29 = .ok (.iconst 1, 1) := by decide +kernel
theorem o_d24_30 : decode jdk_52_method_5_code 30 = .ok (.ishl, 1) := by decide +kernel
theorem o_d24_31 : decode jdk_52_method_5_code 31 = .ok (.istore_n 1, 1) := by decide +kernel
theorem o_d24_32 : decode jdk_52_method_5_code 32 = .ok (.aload_n 0, 1) := by decide +kernel
theorem o_d24_33 : decode jdk_52_method_5_code 33 = .ok (.iload_n 1, 1) := by decide +kernel
theorem o_d24_34 : decode jdk_52_method_5_code 34 = .ok (.iinc 1 1, 3) := by decide +kernel
theorem o_d24_37 : decode jdk_52_method_5_code 37 = .ok (.baload, 1) := by decide +kernel
theorem o_d24_38 : decode jdk_52_method_5_code 38 = .ok (.sipush 255, 3) := by decide +kernel
theorem o_d24_41 : decode jdk_52_method_5_code 41 = .ok (.iand, 1) := by decide +kernel
theorem o_d24_42 : decode jdk_52_method_5_code 42 = .ok (.getstatic 59, 3) := by decide +kernel
theorem o_d24_45 : decode jdk_52_method_5_code 45 = .ok (.ishl, 1) := by decide +kernel
theorem o_d24_46 : decode jdk_52_method_5_code 46 = .ok (.aload_n 0, 1) := by decide +kernel
theorem o_d24_47 : decode jdk_52_method_5_code 47 = .ok (.iload_n 1, 1) := by decide +kernel
theorem o_d24_48 : decode jdk_52_method_5_code 48 = .ok (.baload, 1) := by decide +kernel
theorem o_d24_49 : decode jdk_52_method_5_code 49 = .ok (.sipush 255, 3) := by decide +kernel
theorem o_d24_52 : decode jdk_52_method_5_code 52 = .ok (.iand, 1) := by decide +kernel
theorem o_d24_53 : decode jdk_52_method_5_code 53 = .ok (.getstatic 63, 3) := by decide +kernel
theorem o_d24_56 : decode jdk_52_method_5_code 56 = .ok (.ishl, 1) := by decide +kernel
theorem o_d24_57 : decode jdk_52_method_5_code 57 = .ok (.ior, 1) := by decide +kernel
theorem o_d24_58 : decode jdk_52_method_5_code 58 = .ok (.i2c, 1) := by decide +kernel
theorem o_d24_59 : decode jdk_52_method_5_code 59 = .ok (.ireturn, 1) := by decide +kernel
def o_Q24n1i0 (Z : State) (cs : Int32) (sf : Value) (GG : o_G Z cs sf) (o1 : Addr) (kb : ClassId) (c0 : Int32) (h0 : Heap) (n0 : Nat) (v : Option Value) (h : Heap) (L : List Loc) : Prop := v = some (.int c0) ∧ Fr n0 L ∧ h = h0
set_option maxRecDepth 65536 in
set_option maxHeartbeats 40000000 in
theorem o_rm24n1i0 (l : Launch) (Z : State) (a0 : Array Value) (hw : o_Hw Z a0) (ws : List Jvm.Cond) (cs : Int32) (sf : Value) (GG : o_G Z cs sf) (o1 : Addr) (kb : ClassId) (c0 : Int32) (h0 : Heap) (n0 : Nat) (Z0 : n0 ≤ h0.size) (pV1 : Arv Z h0 o1 kb .byte 2 [(.int (o_lo c0)), (.int (o_hi c0))] (.int 0)) (O0 : Old Z n0 h0) (hC : o_C c0) :
  o_Met l y13 jdk_52_method_5_code 2 (some .char) ws r0 #[(.ref o1), (.int 0)] Z h0 (o_Q24n1i0 Z cs sf GG o1 kb c0 h0 n0) := by
 refine MetFree.of_bodySF (plainFor_of_name o_pn4) hisR ?_
 intro p e s m args below meth c s₁ Bd hml0 hP hK
 obtain ⟨rfl, hZ, hh⟩ := hP
 obtain ⟨hx, hby, hlk, hrt⟩ := o_bd Bd
 have hown : s.vm.findClass "java/lang/StringUTF16" = some m.cls := findClass_of_methodNamed Bd.named
 have X0 : Stand p l e r0 s m #[(.ref o1), (.int 0)] below meth c s₁ [] 0 0 := Stand.of_body Bd
 have e0 := o_e0 Bd hh
 have N0 := Fr.nil n0
 refine o_in (g' := mkF m 0 #[(sR o1), (sI 0)] []) (by simp [entryFrame, mkF, argsToLocals, Value.category]) ?_
 obtain ⟨T1, X1, e1, st1⟩ := getS2 X0 hx hZ hown (host := "") (Or.inl (W hw 102 rfl)) Via.refl e0 (GG.2.2.2.2.1.ext O0.2) (g := (mkF m 0 #[(sR o1), (sI 0)] [])) rfl (hb hby o_d24_0)
 refine o_st (G' := T1.setTop (mkF m 3 #[(sR o1), (sI 0)] [(.int 1)])) st1 ?_
 obtain ⟨_, X1h, N1h⟩ := o_hide X1 N0
 refine o_ifYes X1h hx 28 (hb hby o_d24_3) (feq (by decide : ¬ ((1 : Int32) = (0 : Int32)))).2 ?_
 refine o_iloadN X1h hx 29 (hb hby o_d24_28) rfl ?_
 refine o_iconst X1h hx 30 1 (hb hby o_d24_29) rfl ?_
 refine o_ishl X1h hx 31 (hb hby o_d24_30) ?_
 rw [show ((0 : Int32) <<< ((1 : Int32) &&& 31)) = (0 : Int32) from by decide]
 refine o_istoreN X1h hx 32 #[(sR o1), (sI 0)] (hb hby o_d24_31) rfl ?_
 refine o_aloadN X1h hx 33 (hb hby o_d24_32) rfl rfl ?_
 refine o_iloadN X1h hx 34 (hb hby o_d24_33) rfl ?_
 refine o_iinc X1h hx 37 (1 : Int32) #[(sR o1), (sI 1)] (hb hby o_d24_34) rfl rfl rfl ?_
 obtain ⟨cl2, Ar2, qv2, S2, M2, H2, G2⟩ := id pV1
 have hin2 := inb_of (j := (0 : Int32)) S2 ⟨by decide, by decide⟩
 refine o_st (G' := T1.setTop (mkF m 38 #[(sR o1), (sI 1)] [(.int (o_lo c0))])) (fun t k => X1h.baloadBytes hx (j := (0 : Int32)) (v := (.int (o_lo c0))) (by rw [e1]; exact Ar2.1) (State.isArrayOf_alike hZ.alike Ar2.2.1) Ar2.2.2 hin2 (H2.at hin2 rfl) (g := (mkF m 37 #[(sR o1), (sI 1)] [(.int 0), (.ref o1)])) rfl rfl (hb hby o_d24_37) _ k) ?_
 refine o_sipush X1h hx 41 255 (hb hby o_d24_38) rfl ?_
 refine o_iand X1h hx 42 (hb hby o_d24_41) ?_
 obtain ⟨T3, X3, e3, st3⟩ := getS2 X1h hx hZ hown (host := "") (Or.inl (W hw 103 rfl)) Via.refl e1 (GG.2.2.2.2.2.1.ext O0.2) (g := (mkF m 42 #[(sR o1), (sI 1)] [(.int ((o_lo c0) &&& (255 : Int32)))])) rfl (hb hby o_d24_42)
 refine o_st (G' := T3.setTop (mkF m 45 #[(sR o1), (sI 1)] [(.int 0), (.int ((o_lo c0) &&& (255 : Int32)))])) st3 ?_
 obtain ⟨_, X3h, N3h⟩ := o_hide X3 N1h
 refine o_ishl X3h hx 46 (hb hby o_d24_45) ?_
 refine o_aloadN X3h hx 47 (hb hby o_d24_46) rfl rfl ?_
 refine o_iloadN X3h hx 48 (hb hby o_d24_47) rfl ?_
 obtain ⟨cl4, Ar4, qv4, S4, M4, H4, G4⟩ := id pV1
 have hin4 := inb_of (j := (1 : Int32)) S4 ⟨by decide, by decide⟩
 refine o_st (G' := T3.setTop (mkF m 49 #[(sR o1), (sI 1)] [(.int (o_hi c0)), (.int (((o_lo c0) &&& (255 : Int32)) <<< ((0 : Int32) &&& 31)))])) (fun t k => X3h.baloadBytes hx (j := (1 : Int32)) (v := (.int (o_hi c0))) (by rw [e3]; exact Ar4.1) (State.isArrayOf_alike hZ.alike Ar4.2.1) Ar4.2.2 hin4 (H4.at hin4 rfl) (g := (mkF m 48 #[(sR o1), (sI 1)] [(.int 1), (.ref o1), (.int (((o_lo c0) &&& (255 : Int32)) <<< ((0 : Int32) &&& 31)))])) rfl rfl (hb hby o_d24_48) _ k) ?_
 refine o_sipush X3h hx 52 255 (hb hby o_d24_49) rfl ?_
 refine o_iand X3h hx 53 (hb hby o_d24_52) ?_
 obtain ⟨T5, X5, e5, st5⟩ := getS2 X3h hx hZ hown (host := "") (Or.inl (W hw 104 rfl)) Via.refl e3 (GG.2.2.2.2.2.2.ext O0.2) (g := (mkF m 53 #[(sR o1), (sI 1)] [(.int ((o_hi c0) &&& (255 : Int32))), (.int (((o_lo c0) &&& (255 : Int32)) <<< ((0 : Int32) &&& 31)))])) rfl (hb hby o_d24_53)
 refine o_st (G' := T5.setTop (mkF m 56 #[(sR o1), (sI 1)] [(.int 8), (.int ((o_hi c0) &&& (255 : Int32))), (.int (((o_lo c0) &&& (255 : Int32)) <<< ((0 : Int32) &&& 31)))])) st5 ?_
 obtain ⟨_, X5h, N5h⟩ := o_hide X5 N3h
 refine o_ishl X5h hx 57 (hb hby o_d24_56) ?_
 refine o_ior X5h hx 58 (hb hby o_d24_57) ?_
 refine o_i2c X5h hx 59 (hb hby o_d24_58) ?_
 exact o_retN (t := .char) (z := (((((o_lo c0) &&& (255 : Int32)) <<< ((0 : Int32) &&& 31)) ||| (((o_hi c0) &&& (255 : Int32)) <<< ((8 : Int32) &&& 31))).toUInt32.toUInt16.toUInt32.toInt32)) (Q := o_Q24n1i0 Z cs sf GG o1 kb c0 h0 n0) X5h hx hrt (by simp) (hb hby o_d24_59) hlk e5 ⟨(o_leafI (o_gc hC)), N5h, rfl⟩ (by decide) (by decide)
theorem o_d32_0 : decode jdk_52_method_91_code 0 = .ok (.iload_n 0, 1) := by decide +kernel
theorem o_d32_1 : decode jdk_52_method_91_code 1 = .ok (.aload_n 1, 1) := by decide +kernel
theorem o_d32_2 : decode jdk_52_method_91_code 2 = .ok (.invokestatic 48, 3) := by decide +kernel
theorem o_d32_5 : decode jdk_52_method_91_code 5 = .ok (.invokestatic 414, 3) := by decide +kernel
theorem o_d32_8 : decode jdk_52_method_91_code 8 = .ok (.return_, 1) := by decide +kernel
theorem o_pd5 : parseMethodDescriptor "(II)V" = some ⟨[.int, .int], none⟩ := by decide +kernel
def o_Q32n1 (Z : State) (cs : Int32) (sf : Value) (GG : o_G Z cs sf) (v1 : Int32) (o1 : Addr) (kb : ClassId) (vs : List Value) (h0 : Heap) (n0 : Nat) (v : Option Value) (h : Heap) (L : List Loc) : Prop := v = none ∧ Fr n0 L ∧ h = h0
set_option maxRecDepth 65536 in
set_option maxHeartbeats 40000000 in
theorem o_rm32n1 (l : Launch) (Z : State) (a0 : Array Value) (hw : o_Hw Z a0) (ws : List Jvm.Cond) (cs : Int32) (sf : Value) (GG : o_G Z cs sf) (v1 : Int32) (o1 : Addr) (kb : ClassId) (vs : List Value) (h0 : Heap) (n0 : Nat) (Z0 : n0 ≤ h0.size) (pV1 : Arv Z h0 o1 kb .byte 2 vs (.int 0)) (O0 : Old Z n0 h0) (h1 : ¬ v1 < 0) (h2 : v1 < (1 : Int32)) :
  o_Met l y14 jdk_52_method_91_code 2 none ws r5 #[(.int v1), (.ref o1)] Z h0 (o_Q32n1 Z cs sf GG v1 o1 kb vs h0 n0) := by
 refine MetFree.of_bodySF (plainFor_of_name o_pn4) hisR ?_
 intro p e s m args below meth c s₁ Bd hml0 hP hK
 obtain ⟨rfl, hZ, hh⟩ := hP
 obtain ⟨hx, hby, hlk, hrt⟩ := o_bd Bd
 have hml : c.maxLocals = 2 := hml0
 have hown : s.vm.findClass "java/lang/StringUTF16" = some m.cls := findClass_of_methodNamed Bd.named
 have X0 : Stand p l e r5 s m #[(.int v1), (.ref o1)] below meth c s₁ [] 0 0 := Stand.of_body Bd
 have e0 := o_e0 Bd hh
 have N0 := Fr.nil n0
 refine o_in (g' := mkF m 0 #[(sI v1), (sR o1)] []) (by simp [entryFrame, mkF, argsToLocals, Value.category]) ?_
 refine o_iloadN X0 hx 1 (hb hby o_d32_0) rfl ?_
 refine o_aloadN X0 hx 2 (hb hby o_d32_1) rfl rfl ?_
 obtain ⟨_, _, ⟨T1, Lx1, kc1, nc1⟩, -, X1, ⟨Lc1, hQ1, lq1, yq1, zq1⟩, st1⟩ := Jvm.LawKit.callS X0 hx (y := y6) hown (mvT hZ (W hw 117 rfl)) (mvT hZ (W hw 118 rfl)) (mvT hZ (W hw 58 rfl)) (mvT hZ (W hw 119 rfl)) (by decide) (backOf (W := 1) (o_rm28n1 l Z a0 hw [] o1 kb vs h0 n0 Z0 pV1) hZ (W hw 119 rfl) (W hw 58 rfl) (by decide) (by decide)) (g := (mkF m 2 #[(sI v1), (sR o1)] [(.ref o1), (.int v1)])) rfl (by rw [hml]; rfl) (argsL := [(.ref o1)]) (rest := [(.int v1)]) (lenOf o_pd2 rfl) rfl (o_wl rfl) (hb hby o_d32_2) (fun _ _ => ⟨rfl, e0, (by decide : 0 + 0 ≤ _), (by decide : 0 + 0 ≤ _)⟩)
 dsimp only [Pt.U, Pt.locs, Pt.cells, Pt.slots] at X1 lq1 yq1 zq1 st1 hQ1
 subst lq1 yq1 zq1
 obtain ⟨rfl, Nq1, eh1⟩ := hQ1
 have N1 := Fr.app N0 Nq1
 refine o_st (G' := T1.setTop (mkF m 5 #[(sI v1), (sR o1)] [(.int 1), (.int v1)])) st1 ?_
 obtain ⟨_, X1h, N1h⟩ := o_hide X1 N1
 obtain ⟨_, _, ⟨T2, Lx2, kc2, nc2⟩, -, X2, ⟨Lc2, hQ2, lq2, yq2, zq2⟩, st2⟩ := Jvm.LawKit.callS X1h hx (y := y3) hown (mvT hZ (W hw 132 rfl)) (mvT hZ (W hw 78 rfl)) (mvT hZ (W hw 3 rfl)) (mvT hZ (W hw 79 rfl)) (by decide) (backOf (W := 0) (o_rm17 l Z a0 hw [] cs sf GG v1 (1 : Int32) h0 n0 Z0 (h1 : ¬ v1 < 0) (h2 : v1 < (1 : Int32)) O0) hZ (W hw 79 rfl) (W hw 3 rfl) (by decide) (by decide)) (g := (mkF m 5 #[(sI v1), (sR o1)] [(.int 1), (.int v1)])) rfl (by rw [hml]; rfl) (argsL := [(.int v1), (.int 1)]) (rest := []) (lenOf o_pd5 rfl) rfl (o_wl rfl) (hb hby o_d32_5) (fun _ _ => ⟨rfl, eh1, (by decide : 0 + 0 ≤ _), (by decide : 0 + 0 ≤ _)⟩)
 dsimp only [Pt.U, Pt.locs, Pt.cells, Pt.slots] at X2 lq2 yq2 zq2 st2 hQ2
 subst lq2 yq2 zq2
 obtain ⟨rfl, Nq2, eh2⟩ := hQ2
 have N2 := Fr.app N1h Nq2
 refine o_st (G' := T2.setTop (mkF m 8 #[(sI v1), (sR o1)] [])) st2 ?_
 obtain ⟨_, X2h, N2h⟩ := o_hide X2 N2
 exact o_retV (Q := o_Q32n1 Z cs sf GG v1 o1 kb vs h0 n0) X2h hx hrt (hb hby o_d32_8) hlk eh2 ⟨rfl, N2h, rfl⟩ (by decide) (by decide)
theorem o_d31_0 : decode jdk_52_method_83_code 0 = .ok (.iload_n 1, 1) := by decide +kernel
theorem o_d31_1 : decode jdk_52_method_83_code 1 = .ok (.aload_n 0, 1) := by decide +kernel
theorem o_d31_2 : decode jdk_52_method_83_code 2 = .ok (.invokestatic 67, 3) := by decide +kernel
theorem o_d31_5 : decode jdk_52_method_83_code 5 = .ok (.aload_n 0, 1) := by decide +kernel
theorem o_d31_6 : decode jdk_52_method_83_code 6 = .ok (.iload_n 1, 1) := by decide +kernel
theorem o_d31_7 : decode jdk_52_method_83_code 7 = .ok (.invokestatic 71, 3) := by decide +kernel
theorem o_d31_10 : decode jdk_52_method_83_code 10 = .ok (.ireturn, 1) := by decide +kernel
theorem o_pd6 : parseMethodDescriptor "(I[B)V" = some ⟨[.int, (.array .byte)], none⟩ := by decide +kernel
theorem o_pd7 : parseMethodDescriptor "([BI)C" = some ⟨[(.array .byte), .int], some .char⟩ := by decide +kernel
def o_Q31n1i0 (Z : State) (cs : Int32) (sf : Value) (GG : o_G Z cs sf) (o1 : Addr) (kb : ClassId) (c0 : Int32) (h0 : Heap) (n0 : Nat) (v : Option Value) (h : Heap) (L : List Loc) : Prop := v = some (.int c0) ∧ Fr n0 L ∧ h = h0
set_option maxRecDepth 65536 in
set_option maxHeartbeats 40000000 in
theorem o_rm31n1i0 (l : Launch) (Z : State) (a0 : Array Value) (hw : o_Hw Z a0) (ws : List Jvm.Cond) (cs : Int32) (sf : Value) (GG : o_G Z cs sf) (o1 : Addr) (kb : ClassId) (c0 : Int32) (h0 : Heap) (n0 : Nat) (Z0 : n0 ≤ h0.size) (pV1 : Arv Z h0 o1 kb .byte 2 [(.int (o_lo c0)), (.int (o_hi c0))] (.int 0)) (O0 : Old Z n0 h0) (hC : o_C c0) :
  o_Met l y15 jdk_52_method_83_code 2 (some .char) ws r6 #[(.ref o1), (.int 0)] Z h0 (o_Q31n1i0 Z cs sf GG o1 kb c0 h0 n0) := by
 refine MetFree.of_bodySF (plainFor_of_name o_pn4) hisR ?_
 intro p e s m args below meth c s₁ Bd hml0 hP hK
 obtain ⟨rfl, hZ, hh⟩ := hP
 obtain ⟨hx, hby, hlk, hrt⟩ := o_bd Bd
 have hml : c.maxLocals = 2 := hml0
 have hown : s.vm.findClass "java/lang/StringUTF16" = some m.cls := findClass_of_methodNamed Bd.named
 have X0 : Stand p l e r6 s m #[(.ref o1), (.int 0)] below meth c s₁ [] 0 0 := Stand.of_body Bd
 have e0 := o_e0 Bd hh
 have N0 := Fr.nil n0
 refine o_in (g' := mkF m 0 #[(sR o1), (sI 0)] []) (by simp [entryFrame, mkF, argsToLocals, Value.category]) ?_
 refine o_iloadN X0 hx 1 (hb hby o_d31_0) rfl ?_
 refine o_aloadN X0 hx 2 (hb hby o_d31_1) rfl rfl ?_
 obtain ⟨_, _, ⟨T1, Lx1, kc1, nc1⟩, -, X1, ⟨Lc1, hQ1, lq1, yq1, zq1⟩, st1⟩ := Jvm.LawKit.callS X0 hx (y := y14) hown (mvT hZ (W hw 129 rfl)) (mvT hZ (W hw 130 rfl)) (mvT hZ (W hw 58 rfl)) (mvT hZ (W hw 131 rfl)) (by decide) (backOf (W := 0) (o_rm32n1 l Z a0 hw [] cs sf GG (0 : Int32) o1 kb [(.int (o_lo c0)), (.int (o_hi c0))] h0 n0 Z0 pV1 O0 (by decide : ¬ (0 : Int32) < 0) (by decide : (0 : Int32) < (1 : Int32))) hZ (W hw 131 rfl) (W hw 58 rfl) (by decide) (by decide)) (g := (mkF m 2 #[(sR o1), (sI 0)] [(.ref o1), (.int 0)])) rfl (by rw [hml]; rfl) (argsL := [(.int 0), (.ref o1)]) (rest := []) (lenOf o_pd6 rfl) rfl (o_wl rfl) (hb hby o_d31_2) (fun _ _ => ⟨rfl, e0, (by decide : 0 + 0 ≤ _), (by decide : 0 + 0 ≤ _)⟩)
 dsimp only [Pt.U, Pt.locs, Pt.cells, Pt.slots] at X1 lq1 yq1 zq1 st1 hQ1
 subst lq1 yq1 zq1
 obtain ⟨rfl, Nq1, eh1⟩ := hQ1
 have N1 := Fr.app N0 Nq1
 refine o_st (G' := T1.setTop (mkF m 5 #[(sR o1), (sI 0)] [])) st1 ?_
 obtain ⟨_, X1h, N1h⟩ := o_hide X1 N1
 refine o_aloadN X1h hx 6 (hb hby o_d31_5) rfl rfl ?_
 refine o_iloadN X1h hx 7 (hb hby o_d31_6) rfl ?_
 obtain ⟨_, _, ⟨T2, Lx2, kc2, nc2⟩, -, X2, ⟨Lc2, hQ2, lq2, yq2, zq2⟩, st2⟩ := Jvm.LawKit.callS X1h hx (y := y13) hown (mvT hZ (W hw 105 rfl)) (mvT hZ (W hw 106 rfl)) (mvT hZ (W hw 58 rfl)) (mvT hZ (W hw 107 rfl)) (by decide) (backOf (W := 0) (o_rm24n1i0 l Z a0 hw [] cs sf GG o1 kb c0 h0 n0 Z0 pV1 O0 (hC : o_C c0)) hZ (W hw 107 rfl) (W hw 58 rfl) (by decide) (by decide)) (g := (mkF m 7 #[(sR o1), (sI 0)] [(.int 0), (.ref o1)])) rfl (by rw [hml]; rfl) (argsL := [(.ref o1), (.int 0)]) (rest := []) (lenOf o_pd7 rfl) rfl (o_wl rfl) (hb hby o_d31_7) (fun _ _ => ⟨rfl, eh1, (by decide : 0 + 0 ≤ _), (by decide : 0 + 0 ≤ _)⟩)
 dsimp only [Pt.U, Pt.locs, Pt.cells, Pt.slots] at X2 lq2 yq2 zq2 st2 hQ2
 subst lq2 yq2 zq2
 obtain ⟨rfl, Nq2, eh2⟩ := hQ2
 have N2 := Fr.app N1h Nq2
 refine o_st (G' := T2.setTop (mkF m 10 #[(sR o1), (sI 0)] [(.int c0)])) st2 ?_
 obtain ⟨_, X2h, N2h⟩ := o_hide X2 N2
 exact o_retN (t := .char) (z := c0) (Q := o_Q31n1i0 Z cs sf GG o1 kb c0 h0 n0) X2h hx hrt (by simp) (hb hby o_d31_10) hlk eh2 ⟨(o_leafI (o_narC hC)), N2h, rfl⟩ (by decide) (by decide)
theorem o_d16_0 : decode jdk_43_method_2_code 0 = .ok (.iload_n 1, 1) := by decide +kernel
theorem o_d16_1 : decode jdk_43_method_2_code 1 = .ok (.aload_n 0, 1) := by decide +kernel
theorem o_d16_2 : decode jdk_43_method_2_code 2 = .ok (.arraylength, 1) := by decide +kernel
theorem o_d16_3 : decode jdk_43_method_2_code 3 = .ok (.invokestatic 9, 3) := by decide +kernel
theorem o_d16_6 : decode jdk_43_method_2_code 6 = .ok (.aload_n 0, 1) := by decide +kernel
theorem o_d16_7 : decode jdk_43_method_2_code 7 = .ok (.iload_n 1, 1) := by decide +kernel
theorem o_d16_8 : decode jdk_43_method_2_code 8 = .ok (.baload, 1) := by decide +kernel
theorem o_d16_9 : decode jdk_43_method_2_code 9 = .ok (.sipush 255, 3) := by decide +kernel
theorem o_d16_12 : decode jdk_43_method_2_code 12 = .ok (.iand, 1) := by decide +kernel
theorem o_d16_13 : decode jdk_43_method_2_code 13 = .ok (.i2c, 1) := by decide +kernel
theorem o_d16_14 : decode jdk_43_method_2_code 14 = .ok (.ireturn, 1) := by decide +kernel
theorem o_pn5 : plainName "java/lang/StringLatin1" = true := by first | (simp [plainName, overriddenIn]; done) | decide +kernel
def o_Q16n1i0 (Z : State) (cs : Int32) (sf : Value) (GG : o_G Z cs sf) (o1 : Addr) (kb : ClassId) (c0 : Int32) (h0 : Heap) (n0 : Nat) (v : Option Value) (h : Heap) (L : List Loc) : Prop := v = some (.int c0) ∧ Fr n0 L ∧ h = h0
set_option maxRecDepth 65536 in
set_option maxHeartbeats 40000000 in
theorem o_rm16n1i0 (l : Launch) (Z : State) (a0 : Array Value) (hw : o_Hw Z a0) (ws : List Jvm.Cond) (cs : Int32) (sf : Value) (GG : o_G Z cs sf) (o1 : Addr) (kb : ClassId) (c0 : Int32) (h0 : Heap) (n0 : Nat) (Z0 : n0 ≤ h0.size) (pV1 : Arv Z h0 o1 kb .byte 1 [(.int (nar .byte c0.toInt8.toInt32))] (.int 0)) (O0 : Old Z n0 h0) (hC : o_C c0) (hL : ¬ (255 : Int32) < c0) :
  o_Met l y16 jdk_43_method_2_code 2 (some .char) ws r5 #[(.ref o1), (.int 0)] Z h0 (o_Q16n1i0 Z cs sf GG o1 kb c0 h0 n0) := by
 refine MetFree.of_bodySF (plainFor_of_name o_pn5) hisR ?_
 intro p e s m args below meth c s₁ Bd hml0 hP hK
 obtain ⟨rfl, hZ, hh⟩ := hP
 obtain ⟨hx, hby, hlk, hrt⟩ := o_bd Bd
 have hml : c.maxLocals = 2 := hml0
 have hown : s.vm.findClass "java/lang/StringLatin1" = some m.cls := findClass_of_methodNamed Bd.named
 have X0 : Stand p l e r5 s m #[(.ref o1), (.int 0)] below meth c s₁ [] 0 0 := Stand.of_body Bd
 have e0 := o_e0 Bd hh
 have N0 := Fr.nil n0
 refine o_in (g' := mkF m 0 #[(sR o1), (sI 0)] []) (by simp [entryFrame, mkF, argsToLocals, Value.category]) ?_
 refine o_iloadN X0 hx 1 (hb hby o_d16_0) rfl ?_
 refine o_aloadN X0 hx 2 (hb hby o_d16_1) rfl rfl ?_
 obtain ⟨cl1, Ar1, qv1, S1, M1, H1, G1⟩ := id pV1
 have ln1 := len_of S1 M1
 refine o_st (G' := s₁.setTop (mkF m 3 #[(sR o1), (sI 0)] [(.int 1), (.int 0)])) (fun t k => X0.arraylength hx (by rw [e0]; exact Ar1.1) (State.isArrayOf_alike hZ.alike Ar1.2.1) (g := (mkF m 2 #[(sR o1), (sI 0)] [(.ref o1), (.int 0)])) rfl rfl (hb hby o_d16_2) _ (by rw [ln1]; exact k)) ?_
 obtain ⟨_, _, ⟨T2, Lx2, kc2, nc2⟩, -, X2, ⟨Lc2, hQ2, lq2, yq2, zq2⟩, st2⟩ := Jvm.LawKit.callS X0 hx (y := y3) hown (mvT hZ (W hw 77 rfl)) (mvT hZ (W hw 78 rfl)) (mvT hZ (W hw 3 rfl)) (mvT hZ (W hw 79 rfl)) (by decide) (backOf (W := 0) (o_rm17 l Z a0 hw [] cs sf GG (0 : Int32) (1 : Int32) h0 n0 Z0 (by decide : ¬ (0 : Int32) < 0) (by decide : (0 : Int32) < (1 : Int32)) O0) hZ (W hw 79 rfl) (W hw 3 rfl) (by decide) (by decide)) (g := (mkF m 3 #[(sR o1), (sI 0)] [(.int 1), (.int 0)])) rfl (by rw [hml]; rfl) (argsL := [(.int 0), (.int 1)]) (rest := []) (lenOf o_pd5 rfl) rfl (o_wl rfl) (hb hby o_d16_3) (fun _ _ => ⟨rfl, e0, (by decide : 0 + 0 ≤ _), (by decide : 0 + 0 ≤ _)⟩)
 dsimp only [Pt.U, Pt.locs, Pt.cells, Pt.slots] at X2 lq2 yq2 zq2 st2 hQ2
 subst lq2 yq2 zq2
 obtain ⟨rfl, Nq2, eh2⟩ := hQ2
 have N2 := Fr.app N0 Nq2
 refine o_st (G' := T2.setTop (mkF m 6 #[(sR o1), (sI 0)] [])) st2 ?_
 obtain ⟨_, X2h, N2h⟩ := o_hide X2 N2
 refine o_aloadN X2h hx 7 (hb hby o_d16_6) rfl rfl ?_
 refine o_iloadN X2h hx 8 (hb hby o_d16_7) rfl ?_
 obtain ⟨cl3, Ar3, qv3, S3, M3, H3, G3⟩ := id pV1
 have hin3 := inb_of (j := (0 : Int32)) S3 ⟨by decide, by decide⟩
 refine o_st (G' := T2.setTop (mkF m 9 #[(sR o1), (sI 0)] [(.int (nar .byte c0.toInt8.toInt32))])) (fun t k => X2h.baloadBytes hx (j := (0 : Int32)) (v := (.int (nar .byte c0.toInt8.toInt32))) (by rw [eh2]; exact Ar3.1) (State.isArrayOf_alike hZ.alike Ar3.2.1) Ar3.2.2 hin3 (H3.at hin3 rfl) (g := (mkF m 8 #[(sR o1), (sI 0)] [(.int 0), (.ref o1)])) rfl rfl (hb hby o_d16_8) _ k) ?_
 refine o_sipush X2h hx 12 255 (hb hby o_d16_9) rfl ?_
 refine o_iand X2h hx 13 (hb hby o_d16_12) ?_
 refine o_i2c X2h hx 14 (hb hby o_d16_13) ?_
 exact o_retN (t := .char) (z := (((nar .byte c0.toInt8.toInt32) &&& (255 : Int32)).toUInt32.toUInt16.toUInt32.toInt32)) (Q := o_Q16n1i0 Z cs sf GG o1 kb c0 h0 n0) X2h hx hrt (by simp) (hb hby o_d16_14) hlk eh2 ⟨(o_leafI (o_lat hC hL)), N2h, rfl⟩ (by decide) (by decide)
theorem o_d20_0 : decode jdk_52_method_14_code 0 = .ok (.iload_n 2, 1) := by decide +kernel
theorem o_d20_1 : decode jdk_52_method_14_code 1 = .ok (.invokestatic 107, 3) := by decide +kernel
theorem o_d20_4 : decode jdk_52_method_14_code 4 = .ok (.astore_n 3, 1) := by decide +kernel
theorem o_d20_5 : decode jdk_52_method_14_code 5 = .ok (.iconst 0, 1) := by decide +kernel
theorem o_d20_6 : decode jdk_52_method_14_code 6 = .ok (.istore 4, 2) := by decide +kernel
theorem o_d20_8 : decode jdk_52_method_14_code 8 = .ok (.iload 4, 2) := by decide +kernel
theorem o_d20_10 : decode jdk_52_method_14_code 10 = .ok (.iload_n 2, 1) := by decide +kernel
theorem o_d20_11 : decode jdk_52_method_14_code 11 = .ok (.if_icmp .ge 21, 3) := by decide +kernel
theorem o_d20_14 : decode jdk_52_method_14_code 14 = .ok (.aload_n 3, 1) := by decide +kernel
theorem o_d20_15 : decode jdk_52_method_14_code 15 = .ok (.iload 4, 2) := by decide +kernel
theorem o_d20_17 : decode jdk_52_method_14_code 17 = .ok (.aload_n 0, 1) := by decide +kernel
theorem o_d20_18 : decode jdk_52_method_14_code 18 = .ok (.iload_n 1, 1) := by decide +kernel
theorem o_d20_19 : decode jdk_52_method_14_code 19 = .ok (.caload, 1) := by decide +kernel
theorem o_d20_20 : decode jdk_52_method_14_code 20 = .ok (.invokestatic 111, 3) := by decide +kernel
theorem o_d20_23 : decode jdk_52_method_14_code 23 = .ok (.iinc 1 1, 3) := by decide +kernel
theorem o_d20_26 : decode jdk_52_method_14_code 26 = .ok (.iinc 4 1, 3) := by decide +kernel
theorem o_d20_29 : decode jdk_52_method_14_code 29 = .ok (.goto (-21), 3) := by decide +kernel
theorem o_d20_32 : decode jdk_52_method_14_code 32 = .ok (.aload_n 3, 1) := by decide +kernel
theorem o_d20_33 : decode jdk_52_method_14_code 33 = .ok (.areturn, 1) := by decide +kernel
theorem o_pd8 : parseMethodDescriptor "(I)[B" = some ⟨[.int], some (.array .byte)⟩ := by decide +kernel
theorem o_pd9 : parseMethodDescriptor "([BII)V" = some ⟨[(.array .byte), .int, .int], none⟩ := by decide +kernel
def o_Q20n1 (Z : State) (cs : Int32) (sf : Value) (GG : o_G Z cs sf) (o1 : Addr) (kc : ClassId) (c0 : Int32) (h0 : Heap) (n0 : Nat) (v : Option Value) (h : Heap) (L : List Loc) : Prop := ∃ bb : Addr, ∃ kb : ClassId, v = some (.ref bb) ∧ Fr n0 L ∧ Keep h0 h [] ∧ h0.size ≤ bb ∧ Arv Z h bb kb .byte 2 [(.int (o_lo c0)), (.int (o_hi c0))] (.int 0)
set_option maxRecDepth 65536 in
set_option maxHeartbeats 40000000 in
theorem o_rm20n1 (l : Launch) (Z : State) (a0 : Array Value) (hw : o_Hw Z a0) (ws : List Jvm.Cond) (cs : Int32) (sf : Value) (GG : o_G Z cs sf) (o1 : Addr) (kc : ClassId) (c0 : Int32) (h0 : Heap) (n0 : Nat) (Z0 : n0 ≤ h0.size) (pV1 : Arv Z h0 o1 kc .char 1 [(.int c0)] (.int 0)) (O0 : Old Z n0 h0) :
  o_Met l y17 jdk_52_method_14_code 5 (some (.array .byte)) ws r7 #[(.ref o1), (.int 0), (.int 1)] Z h0 (o_Q20n1 Z cs sf GG o1 kc c0 h0 n0) := by
 refine MetFree.of_bodySF (plainFor_of_name o_pn4) hisR ?_
 intro p e s m args below meth c s₁ Bd hml0 hP hK
 obtain ⟨rfl, hZ, hh⟩ := hP
 obtain ⟨hx, hby, hlk, hrt⟩ := o_bd Bd
 have hml : c.maxLocals = 5 := hml0
 have hown : s.vm.findClass "java/lang/StringUTF16" = some m.cls := findClass_of_methodNamed Bd.named
 have X0 : Stand p l e r7 s m #[(.ref o1), (.int 0), (.int 1)] below meth c s₁ [] 0 0 := Stand.of_body Bd
 have e0 := o_e0 Bd hh
 have N0 := Fr.nil n0
 have KC0 := Keep.refl h0 []
 refine o_in (g' := mkF m 0 #[(sR o1), (sI 0), (sI 1), .unset, .unset] []) (by simp [entryFrame, mkF, argsToLocals, Value.category]) ?_
 refine o_iloadN X0 hx 1 (hb hby o_d20_0) rfl ?_
 obtain ⟨_, _, ⟨T1, Lx1, kc1, nc1⟩, -, X1, ⟨Lc1, hQ1, lq1, yq1, zq1⟩, st1⟩ := Jvm.LawKit.callS X0 hx (y := y11) hown (mvT hZ (W hw 92 rfl)) (mvT hZ (W hw 93 rfl)) (mvT hZ (W hw 58 rfl)) (mvT hZ (W hw 94 rfl)) (by decide) (backOf (W := 0) (o_rm21n1 l Z a0 hw []  h0 n0 Z0 ) hZ (W hw 94 rfl) (W hw 58 rfl) (by decide) (by decide)) (g := (mkF m 1 #[(sR o1), (sI 0), (sI 1), .unset, .unset] [(.int 1)])) rfl (by rw [hml]; rfl) (argsL := [(.int 1)]) (rest := []) (lenOf o_pd8 rfl) rfl (o_wl rfl) (hb hby o_d20_1) (fun _ _ => ⟨rfl, e0, (by decide : 0 + 1 ≤ _), (by decide : 0 + 2 ≤ _)⟩)
 dsimp only [Pt.U, Pt.locs, Pt.cells, Pt.slots] at X1 lq1 yq1 zq1 st1 hQ1
 subst lq1 yq1 zq1
 obtain ⟨bb_1, kb_1, rfl, Nq1, Kp1, G1_0, G1_1⟩ := hQ1
 have N1 := Fr.app N0 Nq1
 have gt_bb_1 : n0 ≤ bb_1 := Nat.le_trans Z0 G1_0
 have sz_bb_1 : h0.size ≤ bb_1 := Nat.le_trans KC0.1 G1_0
 have O3 := O0.keep Kp1 all0
 have KC4 := KC0.trans Kp1 all0
 have Z5 := Nat.le_trans Z0 Kp1.1
 refine o_st (G' := T1.setTop (mkF m 4 #[(sR o1), (sI 0), (sI 1), .unset, .unset] [(.ref bb_1)])) st1 ?_
 obtain ⟨_, X1h, N1h⟩ := o_hide X1 N1
 refine o_astoreN X1h hx 5 #[(sR o1), (sI 0), (sI 1), (sR bb_1), .unset] (hb hby o_d20_4) rfl rfl ?_
 refine o_iconst X1h hx 6 0 (hb hby o_d20_5) rfl ?_
 refine o_istore X1h hx 8 #[(sR o1), (sI 0), (sI 1), (sR bb_1), (sI 0)] (hb hby o_d20_6) rfl ?_
 refine o_iload X1h hx 10 (hb hby o_d20_8) rfl ?_
 refine o_iloadN X1h hx 11 (hb hby o_d20_10) rfl ?_
 refine o_icmpNo X1h hx 14 (hb hby o_d20_11) (tlt (by decide : (0 : Int32) < (1 : Int32))).2.1 ?_
 refine o_aloadN X1h hx 15 (hb hby o_d20_14) rfl rfl ?_
 refine o_iload X1h hx 17 (hb hby o_d20_15) rfl ?_
 refine o_aloadN X1h hx 18 (hb hby o_d20_17) rfl rfl ?_
 refine o_iloadN X1h hx 19 (hb hby o_d20_18) rfl ?_
 have f6 := (pV1.keep Kp1 nin0)
 obtain ⟨cl7, Ar7, qv7, S7, M7, H7, G7⟩ := id f6
 have hin7 := inb_of (j := (0 : Int32)) S7 ⟨by decide, by decide⟩
 refine o_st (G' := T1.setTop (mkF m 20 #[(sR o1), (sI 0), (sI 1), (sR bb_1), (sI 0)] [(.int c0), (.int 0), (.ref bb_1)])) (fun t k => X1h.caload hx (j := (0 : Int32)) (v := (.int c0)) Ar7.1 (State.isArrayOf_alike hZ.alike Ar7.2.1) Ar7.2.2 hin7 (H7.at hin7 rfl) (g := (mkF m 19 #[(sR o1), (sI 0), (sI 1), (sR bb_1), (sI 0)] [(.int 0), (.ref o1), (.int 0), (.ref bb_1)])) rfl rfl (hb hby o_d20_19) _ k) ?_
 obtain ⟨_, _, ⟨T8, Lx8, kc8, nc8⟩, -, X8, ⟨Lc8, hQ8, lq8, yq8, zq8⟩, st8⟩ := Jvm.LawKit.callS X1h hx (y := y12) hown (mvT hZ (W hw 99 rfl)) (mvT hZ (W hw 100 rfl)) (mvT hZ (W hw 58 rfl)) (mvT hZ (W hw 101 rfl)) (by decide) (backOf (W := 0) (o_rm23n1i0 l Z a0 hw [] cs sf GG bb_1 c0 kb_1 (0 : Int32) (0 : Int32) T1.heap n0 Z5 G1_1 gt_bb_1 O3) hZ (W hw 101 rfl) (W hw 58 rfl) (by decide) (by decide)) (g := (mkF m 20 #[(sR o1), (sI 0), (sI 1), (sR bb_1), (sI 0)] [(.int c0), (.int 0), (.ref bb_1)])) rfl (by rw [hml]; rfl) (argsL := [(.ref bb_1), (.int 0), (.int c0)]) (rest := []) (lenOf o_pd9 rfl) rfl (o_wl rfl) (hb hby o_d20_20) (fun _ _ => ⟨rfl, rfl, (by decide : 1 + 0 ≤ _), (by decide : 2 + 0 ≤ _)⟩)
 dsimp only [Pt.U, Pt.locs, Pt.cells, Pt.slots] at X8 lq8 yq8 zq8 st8 hQ8
 subst lq8 yq8 zq8
 obtain ⟨rfl, Nq8, Kp8, G8_0⟩ := hQ8
 have N8 := Fr.app N1h Nq8
 have KC10 := KC4.trans Kp8 (allS (Or.inr sz_bb_1) all0)
 refine o_st (G' := T8.setTop (mkF m 23 #[(sR o1), (sI 0), (sI 1), (sR bb_1), (sI 0)] [])) st8 ?_
 obtain ⟨_, X8h, N8h⟩ := o_hide X8 N8
 refine o_iinc X8h hx 26 (1 : Int32) #[(sR o1), (sI 1), (sI 1), (sR bb_1), (sI 0)] (hb hby o_d20_23) rfl rfl rfl ?_
 refine o_iinc X8h hx 29 (1 : Int32) #[(sR o1), (sI 1), (sI 1), (sR bb_1), (sI 1)] (hb hby o_d20_26) rfl rfl rfl ?_
 refine o_goto X8h hx 8 (hb hby o_d20_29) ?_
 refine o_iload X8h hx 10 (hb hby o_d20_8) rfl ?_
 refine o_iloadN X8h hx 11 (hb hby o_d20_10) rfl ?_
 refine o_icmpYes X8h hx 32 (hb hby o_d20_11) (flt (by decide : ¬ ((1 : Int32) < (1 : Int32)))).2.1 ?_
 refine o_aloadN X8h hx 33 (hb hby o_d20_32) rfl rfl ?_
 exact o_retA (z := (.ref bb_1)) (Q := o_Q20n1 Z cs sf GG o1 kc c0 h0 n0) X8h hx hrt rfl rfl (hb hby o_d20_33) hlk rfl ⟨bb_1, kb_1, rfl, N8h, KC10, sz_bb_1, G8_0⟩ (by decide) (by decide)
theorem o_d26_0 : decode jdk_52_method_26_code 0 = .ok (.iload_n 1, 1) := by decide +kernel
theorem o_d26_1 : decode jdk_52_method_26_code 1 = .ok (.iload_n 2, 1) := by decide +kernel
theorem o_d26_2 : decode jdk_52_method_26_code 2 = .ok (.if_icmp .ge 11, 3) := by decide +kernel
theorem o_d26_5 : decode jdk_52_method_26_code 5 = .ok (.iload_n 1, 1) := by decide +kernel
theorem o_d26_6 : decode jdk_52_method_26_code 6 = .ok (.iload_n 2, 1) := by decide +kernel
theorem o_d26_7 : decode jdk_52_method_26_code 7 = .ok (.iload_n 1, 1) := by decide +kernel
theorem o_d26_8 : decode jdk_52_method_26_code 8 = .ok (.isub, 1) := by decide +kernel
theorem o_d26_9 : decode jdk_52_method_26_code 9 = .ok (.aload_n 0, 1) := by decide +kernel
theorem o_d26_10 : decode jdk_52_method_26_code 10 = .ok (.invokestatic 173, 3) := by decide +kernel
theorem o_d26_13 : decode jdk_52_method_26_code 13 = .ok (.iload_n 1, 1) := by decide +kernel
theorem o_d26_14 : decode jdk_52_method_26_code 14 = .ok (.istore 5, 2) := by decide +kernel
theorem o_d26_16 : decode jdk_52_method_26_code 16 = .ok (.iload 5, 2) := by decide +kernel
theorem o_d26_18 : decode jdk_52_method_26_code 18 = .ok (.iload_n 2, 1) := by decide +kernel
theorem o_d26_19 : decode jdk_52_method_26_code 19 = .ok (.if_icmp .ge 22, 3) := by decide +kernel
theorem o_d26_22 : decode jdk_52_method_26_code 22 = .ok (.aload_n 3, 1) := by decide +kernel
theorem o_d26_23 : decode jdk_52_method_26_code 23 = .ok (.iload 4, 2) := by decide +kernel
theorem o_d26_25 : decode jdk_52_method_26_code 25 = .ok (.iinc 4 1, 3) := by decide +kernel
theorem o_d26_28 : decode jdk_52_method_26_code 28 = .ok (.aload_n 0, 1) := by decide +kernel
theorem o_d26_29 : decode jdk_52_method_26_code 29 = .ok (.iload 5, 2) := by decide +kernel
theorem o_d26_31 : decode jdk_52_method_26_code 31 = .ok (.invokestatic 71, 3) := by decide +kernel
theorem o_d26_34 : decode jdk_52_method_26_code 34 = .ok (.castore, 1) := by decide +kernel
theorem o_d26_35 : decode jdk_52_method_26_code 35 = .ok (.iinc 5 1, 3) := by decide +kernel
theorem o_d26_38 : decode jdk_52_method_26_code 38 = .ok (.goto (-22), 3) := by decide +kernel
theorem o_d26_41 : decode jdk_52_method_26_code 41 = .ok (.return_, 1) := by decide +kernel
theorem o_pd10 : parseMethodDescriptor "(II[B)V" = some ⟨[.int, .int, (.array .byte)], none⟩ := by decide +kernel
def o_Q26n1 (Z : State) (cs : Int32) (sf : Value) (GG : o_G Z cs sf) (o1 : Addr) (o2 : Addr) (kb : ClassId) (kc : ClassId) (c0 : Int32) (h0 : Heap) (n0 : Nat) (v : Option Value) (h : Heap) (L : List Loc) : Prop := v = none ∧ Fr n0 L ∧ Keep h0 h [o2] ∧ Arv Z h o2 kc .char 1 [(.int c0)] (.int 0)
set_option maxRecDepth 65536 in
set_option maxHeartbeats 40000000 in
theorem o_rm26n1 (l : Launch) (Z : State) (a0 : Array Value) (hw : o_Hw Z a0) (ws : List Jvm.Cond) (cs : Int32) (sf : Value) (GG : o_G Z cs sf) (o1 : Addr) (o2 : Addr) (kb : ClassId) (kc : ClassId) (c0 : Int32) (h0 : Heap) (n0 : Nat) (Z0 : n0 ≤ h0.size) (pV1 : Arv Z h0 o1 kb .byte 2 [(.int (o_lo c0)), (.int (o_hi c0))] (.int 0)) (pV2 : Arv Z h0 o2 kc .char 1 [(.int 0)] (.int 0)) (pG3 : n0 ≤ o2) (O0 : Old Z n0 h0) (pN5 : o1 ≠ o2) (hC0 : o_C c0) :
  o_Met l y18 jdk_52_method_26_code 6 none ws r8 #[(.ref o1), (.int 0), (.int 1), (.ref o2), (.int 0)] Z h0 (o_Q26n1 Z cs sf GG o1 o2 kb kc c0 h0 n0) := by
 refine MetFree.of_bodySF (plainFor_of_name o_pn4) hisR ?_
 intro p e s m args below meth c s₁ Bd hml0 hP hK
 obtain ⟨rfl, hZ, hh⟩ := hP
 obtain ⟨hx, hby, hlk, hrt⟩ := o_bd Bd
 have hml : c.maxLocals = 6 := hml0
 have hown : s.vm.findClass "java/lang/StringUTF16" = some m.cls := findClass_of_methodNamed Bd.named
 have X0 : Stand p l e r8 s m #[(.ref o1), (.int 0), (.int 1), (.ref o2), (.int 0)] below meth c s₁ [] 0 0 := Stand.of_body Bd
 have e0 := o_e0 Bd hh
 have N0 := Fr.nil n0
 have KC0 := Keep.refl h0 [o2]
 refine o_in (g' := mkF m 0 #[(sR o1), (sI 0), (sI 1), (sR o2), (sI 0), .unset] []) (by simp [entryFrame, mkF, argsToLocals, Value.category]) ?_
 refine o_iloadN X0 hx 1 (hb hby o_d26_0) rfl ?_
 refine o_iloadN X0 hx 2 (hb hby o_d26_1) rfl ?_
 refine o_icmpNo X0 hx 5 (hb hby o_d26_2) (tlt (by decide : (0 : Int32) < (1 : Int32))).2.1 ?_
 refine o_iloadN X0 hx 6 (hb hby o_d26_5) rfl ?_
 refine o_iloadN X0 hx 7 (hb hby o_d26_6) rfl ?_
 refine o_iloadN X0 hx 8 (hb hby o_d26_7) rfl ?_
 refine o_isub X0 hx 9 (hb hby o_d26_8) ?_
 show o_Gs p e below _ (s₁.setTop (mkF m 9 #[(sR o1), (sI 0), (sI 1), (sR o2), (sI 0), .unset] [(.int 1), (.int 0)]))
 refine o_aloadN X0 hx 10 (hb hby o_d26_9) rfl rfl ?_
 obtain ⟨_, _, ⟨T1, Lx1, kc1, nc1⟩, -, X1, ⟨Lc1, hQ1, lq1, yq1, zq1⟩, st1⟩ := Jvm.LawKit.callS X0 hx (y := y9) hown (mvT hZ (W hw 114 rfl)) (mvT hZ (W hw 115 rfl)) (mvT hZ (W hw 58 rfl)) (mvT hZ (W hw 116 rfl)) (by decide) (backOf (W := 0) (o_rm27n1 l Z a0 hw [] cs sf GG o1 kb [(.int (o_lo c0)), (.int (o_hi c0))] h0 n0 Z0 pV1 O0) hZ (W hw 116 rfl) (W hw 58 rfl) (by decide) (by decide)) (g := (mkF m 10 #[(sR o1), (sI 0), (sI 1), (sR o2), (sI 0), .unset] [(.ref o1), (.int 1), (.int 0)])) rfl (by rw [hml]; rfl) (argsL := [(.int 0), (.int 1), (.ref o1)]) (rest := []) (lenOf o_pd10 rfl) rfl (o_wl rfl) (hb hby o_d26_10) (fun _ _ => ⟨rfl, e0, (by decide : 0 + 0 ≤ _), (by decide : 0 + 0 ≤ _)⟩)
 dsimp only [Pt.U, Pt.locs, Pt.cells, Pt.slots] at X1 lq1 yq1 zq1 st1 hQ1
 subst lq1 yq1 zq1
 obtain ⟨rfl, Nq1, eh1⟩ := hQ1
 have N1 := Fr.app N0 Nq1
 refine o_st (G' := T1.setTop (mkF m 13 #[(sR o1), (sI 0), (sI 1), (sR o2), (sI 0), .unset] [])) st1 ?_
 obtain ⟨_, X1h, N1h⟩ := o_hide X1 N1
 refine o_iloadN X1h hx 14 (hb hby o_d26_13) rfl ?_
 refine o_istore X1h hx 16 #[(sR o1), (sI 0), (sI 1), (sR o2), (sI 0), (sI 0)] (hb hby o_d26_14) rfl ?_
 refine o_iload X1h hx 18 (hb hby o_d26_16) rfl ?_
 refine o_iloadN X1h hx 19 (hb hby o_d26_18) rfl ?_
 refine o_icmpNo X1h hx 22 (hb hby o_d26_19) (tlt (by decide : (0 : Int32) < (1 : Int32))).2.1 ?_
 refine o_aloadN X1h hx 23 (hb hby o_d26_22) rfl rfl ?_
 refine o_iload X1h hx 25 (hb hby o_d26_23) rfl ?_
 refine o_iinc X1h hx 28 (1 : Int32) #[(sR o1), (sI 0), (sI 1), (sR o2), (sI 1), (sI 0)] (hb hby o_d26_25) rfl rfl rfl ?_
 refine o_aloadN X1h hx 29 (hb hby o_d26_28) rfl rfl ?_
 refine o_iload X1h hx 31 (hb hby o_d26_29) rfl ?_
 obtain ⟨_, _, ⟨T2, Lx2, kc2, nc2⟩, -, X2, ⟨Lc2, hQ2, lq2, yq2, zq2⟩, st2⟩ := Jvm.LawKit.callS X1h hx (y := y13) hown (mvT hZ (W hw 105 rfl)) (mvT hZ (W hw 106 rfl)) (mvT hZ (W hw 58 rfl)) (mvT hZ (W hw 107 rfl)) (by decide) (backOf (W := 2) (o_rm24n1i0 l Z a0 hw [] cs sf GG o1 kb c0 h0 n0 Z0 pV1 O0 (hC0 : o_C c0)) hZ (W hw 107 rfl) (W hw 58 rfl) (by decide) (by decide)) (g := (mkF m 31 #[(sR o1), (sI 0), (sI 1), (sR o2), (sI 1), (sI 0)] [(.int 0), (.ref o1), (.int 0), (.ref o2)])) rfl (by rw [hml]; rfl) (argsL := [(.ref o1), (.int 0)]) (rest := [(.int 0), (.ref o2)]) (lenOf o_pd7 rfl) rfl (o_wl rfl) (hb hby o_d26_31) (fun _ _ => ⟨rfl, eh1, (by decide : 0 + 0 ≤ _), (by decide : 0 + 0 ≤ _)⟩)
 dsimp only [Pt.U, Pt.locs, Pt.cells, Pt.slots] at X2 lq2 yq2 zq2 st2 hQ2
 subst lq2 yq2 zq2
 obtain ⟨rfl, Nq2, eh2⟩ := hQ2
 have N2 := Fr.app N1h Nq2
 refine o_st (G' := T2.setTop (mkF m 34 #[(sR o1), (sI 0), (sI 1), (sR o2), (sI 1), (sI 0)] [(.int c0), (.int 0), (.ref o2)])) st2 ?_
 obtain ⟨_, X2h, N2h⟩ := o_hide X2 N2
 obtain ⟨cl3, Ar3, qv3, S3, M3, H3, G3⟩ := id pV2
 have hin3 := inb_of (j := (0 : Int32)) S3 ⟨by decide, by decide⟩
 obtain ⟨T3, h3, X3, e3, W3, st3⟩ := stC X2h hx hZ eh2 Ar3 (j := (0 : Int32)) hin3 (g := (mkF m 34 #[(sR o1), (sI 0), (sI 1), (sR o2), (sI 1), (sI 0)] [(.int c0), (.int 0), (.ref o2)])) rfl rfl (hb hby o_d26_34)
 have V3 : Arv Z h3 o2 kc .char 1 [(.int (nar .char c0))] (.int 0) := Arv.set Ar3 qv3 S3 M3 H3 G3 (fits_nar_char _) W3 0 rfl (Nat.le_of_ble_eq_true rfl)
 have N3 := Fr.snoc X3 N2h pG3
 have KC5 := KC0.wr W3 (Or.inl (List.mem_of_getElem? (i := 0) rfl))
 refine o_st (G' := T3.setTop (mkF m 35 #[(sR o1), (sI 0), (sI 1), (sR o2), (sI 1), (sI 0)] [])) st3 ?_
 obtain ⟨_, X3h, N3h⟩ := o_hide X3 N3
 refine o_iinc X3h hx 38 (1 : Int32) #[(sR o1), (sI 0), (sI 1), (sR o2), (sI 1), (sI 1)] (hb hby o_d26_35) rfl rfl rfl ?_
 refine o_goto X3h hx 16 (hb hby o_d26_38) ?_
 refine o_iload X3h hx 18 (hb hby o_d26_16) rfl ?_
 refine o_iloadN X3h hx 19 (hb hby o_d26_18) rfl ?_
 refine o_icmpYes X3h hx 41 (hb hby o_d26_19) (flt (by decide : ¬ ((1 : Int32) < (1 : Int32)))).2.1 ?_
 exact o_retV (Q := o_Q26n1 Z cs sf GG o1 o2 kb kc c0 h0 n0) X3h hx hrt (hb hby o_d26_41) hlk e3 ⟨rfl, N3h, KC5, (by have q := V3; rw [o_narC hC0] at q; exact q)⟩ (by decide) (by decide)
theorem o_d8_0 : decode jdk_43_method_49_code 0 = .ok (.iconst 0, 1) := by decide +kernel
theorem o_d8_1 : decode jdk_43_method_49_code 1 = .ok (.istore 5, 2) := by decide +kernel
theorem o_d8_3 : decode jdk_43_method_49_code 3 = .ok (.iload 5, 2) := by decide +kernel
theorem o_d8_5 : decode jdk_43_method_49_code 5 = .ok (.iload 4, 2) := by decide +kernel
theorem o_d8_7 : decode jdk_43_method_49_code 7 = .ok (.if_icmp .ge 26, 3) := by decide +kernel
theorem o_d8_10 : decode jdk_43_method_49_code 10 = .ok (.aload_n 2, 1) := by decide +kernel
theorem o_d8_11 : decode jdk_43_method_49_code 11 = .ok (.iload_n 3, 1) := by decide +kernel
theorem o_d8_12 : decode jdk_43_method_49_code 12 = .ok (.iinc 3 1, 3) := by decide +kernel
theorem o_d8_15 : decode jdk_43_method_49_code 15 = .ok (.aload_n 0, 1) := by decide +kernel
theorem o_d8_16 : decode jdk_43_method_49_code 16 = .ok (.iload_n 1, 1) := by decide +kernel
theorem o_d8_17 : decode jdk_43_method_49_code 17 = .ok (.iinc 1 1, 3) := by decide +kernel
theorem o_d8_20 : decode jdk_43_method_49_code 20 = .ok (.baload, 1) := by decide +kernel
theorem o_d8_21 : decode jdk_43_method_49_code 21 = .ok (.sipush 255, 3) := by decide +kernel
theorem o_d8_24 : decode jdk_43_method_49_code 24 = .ok (.iand, 1) := by decide +kernel
theorem o_d8_25 : decode jdk_43_method_49_code 25 = .ok (.i2c, 1) := by decide +kernel
theorem o_d8_26 : decode jdk_43_method_49_code 26 = .ok (.castore, 1) := by decide +kernel
theorem o_d8_27 : decode jdk_43_method_49_code 27 = .ok (.iinc 5 1, 3) := by decide +kernel
theorem o_d8_30 : decode jdk_43_method_49_code 30 = .ok (.goto (-27), 3) := by decide +kernel
theorem o_d8_33 : decode jdk_43_method_49_code 33 = .ok (.return_, 1) := by decide +kernel
def o_Q8n1 (Z : State) (o1 : Addr) (o2 : Addr) (kb : ClassId) (kc : ClassId) (c0 : Int32) (h0 : Heap) (n0 : Nat) (v : Option Value) (h : Heap) (L : List Loc) : Prop := v = none ∧ Fr n0 L ∧ Keep h0 h [o2] ∧ Arv Z h o2 kc .char 1 [(.int c0)] (.int 0)
set_option maxRecDepth 65536 in
set_option maxHeartbeats 40000000 in
theorem o_rm8n1 (l : Launch) (Z : State) (a0 : Array Value) (hw : o_Hw Z a0) (ws : List Jvm.Cond) (o1 : Addr) (o2 : Addr) (kb : ClassId) (kc : ClassId) (c0 : Int32) (h0 : Heap) (n0 : Nat) (Z0 : n0 ≤ h0.size) (pV1 : Arv Z h0 o1 kb .byte 1 [(.int (nar .byte c0.toInt8.toInt32))] (.int 0)) (pV2 : Arv Z h0 o2 kc .char 1 [(.int 0)] (.int 0)) (pG3 : n0 ≤ o2) (pN4 : o1 ≠ o2) (hC0 : o_C c0) (hL0 : ¬ (255 : Int32) < c0) :
  o_Met l y19 jdk_43_method_49_code 6 none ws r0 #[(.ref o1), (.int 0), (.ref o2), (.int 0), (.int 1)] Z h0 (o_Q8n1 Z o1 o2 kb kc c0 h0 n0) := by
 refine MetFree.of_bodySF (plainFor_of_name o_pn5) hisR ?_
 intro p e s m args below meth c s₁ Bd hml0 hP hK
 obtain ⟨rfl, hZ, hh⟩ := hP
 obtain ⟨hx, hby, hlk, hrt⟩ := o_bd Bd
 have X0 : Stand p l e r0 s m #[(.ref o1), (.int 0), (.ref o2), (.int 0), (.int 1)] below meth c s₁ [] 0 0 := Stand.of_body Bd
 have e0 := o_e0 Bd hh
 have N0 := Fr.nil n0
 have KC0 := Keep.refl h0 [o2]
 refine o_in (g' := mkF m 0 #[(sR o1), (sI 0), (sR o2), (sI 0), (sI 1), .unset] []) (by simp [entryFrame, mkF, argsToLocals, Value.category]) ?_
 refine o_iconst X0 hx 1 0 (hb hby o_d8_0) rfl ?_
 refine o_istore X0 hx 3 #[(sR o1), (sI 0), (sR o2), (sI 0), (sI 1), (sI 0)] (hb hby o_d8_1) rfl ?_
 refine o_iload X0 hx 5 (hb hby o_d8_3) rfl ?_
 refine o_iload X0 hx 7 (hb hby o_d8_5) rfl ?_
 refine o_icmpNo X0 hx 10 (hb hby o_d8_7) (tlt (by decide : (0 : Int32) < (1 : Int32))).2.1 ?_
 refine o_aloadN X0 hx 11 (hb hby o_d8_10) rfl rfl ?_
 refine o_iloadN X0 hx 12 (hb hby o_d8_11) rfl ?_
 refine o_iinc X0 hx 15 (1 : Int32) #[(sR o1), (sI 0), (sR o2), (sI 1), (sI 1), (sI 0)] (hb hby o_d8_12) rfl rfl rfl ?_
 refine o_aloadN X0 hx 16 (hb hby o_d8_15) rfl rfl ?_
 refine o_iloadN X0 hx 17 (hb hby o_d8_16) rfl ?_
 refine o_iinc X0 hx 20 (1 : Int32) #[(sR o1), (sI 1), (sR o2), (sI 1), (sI 1), (sI 0)] (hb hby o_d8_17) rfl rfl rfl ?_
 obtain ⟨cl1, Ar1, qv1, S1, M1, H1, G1⟩ := id pV1
 have hin1 := inb_of (j := (0 : Int32)) S1 ⟨by decide, by decide⟩
 refine o_st (G' := s₁.setTop (mkF m 21 #[(sR o1), (sI 1), (sR o2), (sI 1), (sI 1), (sI 0)] [(.int (nar .byte c0.toInt8.toInt32)), (.int 0), (.ref o2)])) (fun t k => X0.baloadBytes hx (j := (0 : Int32)) (v := (.int (nar .byte c0.toInt8.toInt32))) (by rw [e0]; exact Ar1.1) (State.isArrayOf_alike hZ.alike Ar1.2.1) Ar1.2.2 hin1 (H1.at hin1 rfl) (g := (mkF m 20 #[(sR o1), (sI 1), (sR o2), (sI 1), (sI 1), (sI 0)] [(.int 0), (.ref o1), (.int 0), (.ref o2)])) rfl rfl (hb hby o_d8_20) _ k) ?_
 refine o_sipush X0 hx 24 255 (hb hby o_d8_21) rfl ?_
 refine o_iand X0 hx 25 (hb hby o_d8_24) ?_
 refine o_i2c X0 hx 26 (hb hby o_d8_25) ?_
 obtain ⟨cl2, Ar2, qv2, S2, M2, H2, G2⟩ := id pV2
 have hin2 := inb_of (j := (0 : Int32)) S2 ⟨by decide, by decide⟩
 obtain ⟨T2, h2, X2, e2, W2, st2⟩ := stC X0 hx hZ e0 Ar2 (j := (0 : Int32)) hin2 (g := (mkF m 26 #[(sR o1), (sI 1), (sR o2), (sI 1), (sI 1), (sI 0)] [(.int (((nar .byte c0.toInt8.toInt32) &&& (255 : Int32)).toUInt32.toUInt16.toUInt32.toInt32)), (.int 0), (.ref o2)])) rfl rfl (hb hby o_d8_26)
 have V2 : Arv Z h2 o2 kc .char 1 [(.int (nar .char (((nar .byte c0.toInt8.toInt32) &&& (255 : Int32)).toUInt32.toUInt16.toUInt32.toInt32)))] (.int 0) := Arv.set Ar2 qv2 S2 M2 H2 G2 (fits_nar_char _) W2 0 rfl (Nat.le_of_ble_eq_true rfl)
 have N2 := Fr.snoc X2 N0 pG3
 have KC3 := KC0.wr W2 (Or.inl (List.mem_of_getElem? (i := 0) rfl))
 refine o_st (G' := T2.setTop (mkF m 27 #[(sR o1), (sI 1), (sR o2), (sI 1), (sI 1), (sI 0)] [])) st2 ?_
 obtain ⟨_, X2h, N2h⟩ := o_hide X2 N2
 refine o_iinc X2h hx 30 (1 : Int32) #[(sR o1), (sI 1), (sR o2), (sI 1), (sI 1), (sI 1)] (hb hby o_d8_27) rfl rfl rfl ?_
 refine o_goto X2h hx 3 (hb hby o_d8_30) ?_
 refine o_iload X2h hx 5 (hb hby o_d8_3) rfl ?_
 refine o_iload X2h hx 7 (hb hby o_d8_5) rfl ?_
 refine o_icmpYes X2h hx 33 (hb hby o_d8_7) (flt (by decide : ¬ ((1 : Int32) < (1 : Int32)))).2.1 ?_
 exact o_retV (Q := o_Q8n1 Z o1 o2 kb kc c0 h0 n0) X2h hx hrt (hb hby o_d8_33) hlk e2 ⟨rfl, N2h, KC3, (by have q := V2; rw [o_lat hC0 hL0] at q; exact q)⟩ (by decide) (by decide)
theorem o_d7_0 : decode jdk_43_method_9_code 0 = .ok (.aload_n 0, 1) := by decide +kernel
theorem o_d7_1 : decode jdk_43_method_9_code 1 = .ok (.arraylength, 1) := by decide +kernel
theorem o_d7_2 : decode jdk_43_method_9_code 2 = .ok (.newarray .char, 2) := by decide +kernel
theorem o_d7_4 : decode jdk_43_method_9_code 4 = .ok (.astore_n 1, 1) := by decide +kernel
theorem o_d7_5 : decode jdk_43_method_9_code 5 = .ok (.aload_n 0, 1) := by decide +kernel
theorem o_d7_6 : decode jdk_43_method_9_code 6 = .ok (.iconst 0, 1) := by decide +kernel
theorem o_d7_7 : decode jdk_43_method_9_code 7 = .ok (.aload_n 1, 1) := by decide +kernel
theorem o_d7_8 : decode jdk_43_method_9_code 8 = .ok (.iconst 0, 1) := by decide +kernel
theorem o_d7_9 : decode jdk_43_method_9_code 9 = .ok (.aload_n 0, 1) := by decide +kernel
theorem o_d7_10 : decode jdk_43_method_9_code 10 = .ok (.arraylength, 1) := by decide +kernel
theorem o_d7_11 : decode jdk_43_method_9_code 11 = .ok (.invokestatic 13, 3) := by decide +kernel
theorem o_d7_14 : decode jdk_43_method_9_code 14 = .ok (.aload_n 1, 1) := by decide +kernel
theorem o_d7_15 : decode jdk_43_method_9_code 15 = .ok (.areturn, 1) := by decide +kernel
theorem o_pd11 : parseMethodDescriptor "([BI[CII)V" = some ⟨[(.array .byte), .int, (.array .char), .int, .int], none⟩ := by decide +kernel
def o_Q7n1 (Z : State) (cs : Int32) (sf : Value) (GG : o_G Z cs sf) (o1 : Addr) (kb : ClassId) (c0 : Int32) (h0 : Heap) (n0 : Nat) (v : Option Value) (h : Heap) (L : List Loc) : Prop := ∃ ca : Addr, ∃ kc : ClassId, v = some (.ref ca) ∧ Fr n0 L ∧ Keep h0 h [] ∧ h0.size ≤ ca ∧ Arv Z h ca kc .char 1 [(.int c0)] (.int 0)
set_option maxRecDepth 65536 in
set_option maxHeartbeats 40000000 in
theorem o_rm7n1 (l : Launch) (Z : State) (a0 : Array Value) (hw : o_Hw Z a0) (ws : List Jvm.Cond) (cs : Int32) (sf : Value) (GG : o_G Z cs sf) (o1 : Addr) (kb : ClassId) (c0 : Int32) (h0 : Heap) (n0 : Nat) (Z0 : n0 ≤ h0.size) (pV1 : Arv Z h0 o1 kb .byte 1 [(.int (nar .byte c0.toInt8.toInt32))] (.int 0)) (O0 : Old Z n0 h0) (hC0 : o_C c0) (hL0 : ¬ (255 : Int32) < c0) :
  o_Met l y20 jdk_43_method_9_code 2 (some (.array .char)) ws r9 #[(.ref o1)] Z h0 (o_Q7n1 Z cs sf GG o1 kb c0 h0 n0) := by
 refine MetFree.of_bodySF (plainFor_of_name o_pn5) hisR ?_
 intro p e s m args below meth c s₁ Bd hml0 hP hK
 obtain ⟨rfl, hZ, hh⟩ := hP
 obtain ⟨hx, hby, hlk, hrt⟩ := o_bd Bd
 have hml : c.maxLocals = 2 := hml0
 have hown : s.vm.findClass "java/lang/StringLatin1" = some m.cls := findClass_of_methodNamed Bd.named
 have X0 : Stand p l e r9 s m #[(.ref o1)] below meth c s₁ [] 0 0 := Stand.of_body Bd
 have e0 := o_e0 Bd hh
 have N0 := Fr.nil n0
 have KC0 := Keep.refl h0 []
 refine o_in (g' := mkF m 0 #[(sR o1), .unset] []) (by simp [entryFrame, mkF, argsToLocals, Value.category]) ?_
 refine o_aloadN X0 hx 1 (hb hby o_d7_0) rfl rfl ?_
 obtain ⟨cl1, Ar1, qv1, S1, M1, H1, G1⟩ := id pV1
 have ln1 := len_of S1 M1
 refine o_st (G' := s₁.setTop (mkF m 2 #[(sR o1), .unset] [(.int 1)])) (fun t k => X0.arraylength hx (by rw [e0]; exact Ar1.1) (State.isArrayOf_alike hZ.alike Ar1.2.1) (g := (mkF m 1 #[(sR o1), .unset] [(.ref o1)])) rfl rfl (hb hby o_d7_1) _ (by rw [ln1]; exact k)) ?_
 obtain ⟨T2, h2, k2, X2, e2, E2, A2, st2⟩ := newP X0 hx hZ (W hw 0 rfl) e0 (g := (mkF m 2 #[(sR o1), .unset] [(.int 1)])) rfl (hb hby o_d7_2) rfl (by decide) (cap := 1) (by decide) (by decide) (by decide) (by decide)
 obtain ⟨b2, g2⟩ : ∃ z, z = h0.size := ⟨_, rfl⟩
 rw [← g2] at A2 st2
 have ne3 : o1 ≠ b2 := Nat.ne_of_lt (Nat.lt_of_lt_of_le pV1.lt (Nat.le_of_eq g2.symm))
 have gt_b2 : n0 ≤ b2 := Nat.le_trans Z0 (Nat.le_of_eq g2.symm)
 have sz_b2 : h0.size ≤ b2 := Nat.le_trans KC0.1 (Nat.le_of_eq g2.symm)
 have V2 : Arv Z h2 b2 k2 .char 1 [(.int 0)] (.int 0) := (Arv.new A2 (by decide)).pad (pad_rep [] (.int 0) 1)
 have KC5 := KC0.ext E2
 have Z6 := Nat.le_trans Z0 E2.1
 refine o_st (G' := T2.setTop (mkF m 4 #[(sR o1), .unset] [(.ref b2)])) st2 ?_
 obtain ⟨_, X2h, N2h⟩ := o_hide X2 N0
 refine o_astoreN X2h hx 5 #[(sR o1), (sR b2)] (hb hby o_d7_4) rfl rfl ?_
 refine o_aloadN X2h hx 6 (hb hby o_d7_5) rfl rfl ?_
 refine o_iconst X2h hx 7 0 (hb hby o_d7_6) rfl ?_
 refine o_aloadN X2h hx 8 (hb hby o_d7_7) rfl rfl ?_
 refine o_iconst X2h hx 9 0 (hb hby o_d7_8) rfl ?_
 refine o_aloadN X2h hx 10 (hb hby o_d7_9) rfl rfl ?_
 have f7 := (pV1.ext E2)
 obtain ⟨cl8, Ar8, qv8, S8, M8, H8, G8⟩ := id f7
 have ln8 := len_of S8 M8
 refine o_st (G' := T2.setTop (mkF m 11 #[(sR o1), (sR b2)] [(.int 1), (.int 0), (.ref b2), (.int 0), (.ref o1)])) (fun t k => X2h.arraylength hx (by rw [e2]; exact Ar8.1) (State.isArrayOf_alike hZ.alike Ar8.2.1) (g := (mkF m 10 #[(sR o1), (sR b2)] [(.ref o1), (.int 0), (.ref b2), (.int 0), (.ref o1)])) rfl rfl (hb hby o_d7_10) _ (by rw [ln8]; exact k)) ?_
 obtain ⟨_, _, ⟨T9, Lx9, kc9, nc9⟩, -, X9, ⟨Lc9, hQ9, lq9, yq9, zq9⟩, st9⟩ := Jvm.LawKit.callS X2h hx (y := y19) hown (mvT hZ (W hw 41 rfl)) (mvT hZ (W hw 42 rfl)) (mvT hZ (W hw 39 rfl)) (mvT hZ (W hw 43 rfl)) (by decide) (backOf (W := 0) (o_rm8n1 l Z a0 hw [] o1 b2 kb k2 c0 h2 n0 Z6 f7 V2 gt_b2 ne3 (hC0 : o_C c0) (hL0 : ¬ (255 : Int32) < c0)) hZ (W hw 43 rfl) (W hw 39 rfl) (by decide) (by decide)) (g := (mkF m 11 #[(sR o1), (sR b2)] [(.int 1), (.int 0), (.ref b2), (.int 0), (.ref o1)])) rfl (by rw [hml]; rfl) (argsL := [(.ref o1), (.int 0), (.ref b2), (.int 0), (.int 1)]) (rest := []) (lenOf o_pd11 rfl) rfl (o_wl rfl) (hb hby o_d7_11) (fun _ _ => ⟨rfl, e2, (by decide : 1 + 0 ≤ _), (by decide : 1 + 0 ≤ _)⟩)
 dsimp only [Pt.U, Pt.locs, Pt.cells, Pt.slots] at X9 lq9 yq9 zq9 st9 hQ9
 subst lq9 yq9 zq9
 obtain ⟨rfl, Nq9, Kp9, G9_0⟩ := hQ9
 have N9 := Fr.app N2h Nq9
 have KC11 := KC5.trans Kp9 (allS (Or.inr sz_b2) all0)
 refine o_st (G' := T9.setTop (mkF m 14 #[(sR o1), (sR b2)] [])) st9 ?_
 obtain ⟨_, X9h, N9h⟩ := o_hide X9 N9
 refine o_aloadN X9h hx 15 (hb hby o_d7_14) rfl rfl ?_
 exact o_retA (z := (.ref b2)) (Q := o_Q7n1 Z cs sf GG o1 kb c0 h0 n0) X9h hx hrt rfl rfl (hb hby o_d7_15) hlk rfl ⟨b2, k2, rfl, N9h, KC11, sz_b2, G9_0⟩ (by decide) (by decide)
theorem o_d5_0 : decode jdk_42_method_129_code 0 = .ok (.aload_n 0, 1) := by decide +kernel
theorem o_d5_1 : decode jdk_42_method_129_code 1 = .ok (.invokevirtual 492, 3) := by decide +kernel
theorem o_d5_4 : decode jdk_42_method_129_code 4 = .ok (.ifCond .eq 13, 3) := by decide +kernel
theorem o_d5_7 : decode jdk_42_method_129_code 7 = .ok (.aload_n 0, 1) := by decide +kernel
theorem o_d5_8 : decode jdk_42_method_129_code 8 = .ok (.getfield 9, 3) := by decide +kernel
theorem o_d5_11 : decode jdk_42_method_129_code 11 = .ok (.invokestatic 299, 3) := by decide +kernel
theorem o_d5_14 : decode jdk_42_method_129_code 14 = .ok (.goto 10, 3) := by decide +kernel
theorem o_d5_24 : decode jdk_42_method_129_code 24 = .ok (.areturn, 1) := by decide +kernel
theorem o_pd12 : parseMethodDescriptor "()Z" = some ⟨[], some .boolean⟩ := by decide +kernel
theorem o_pd13 : parseMethodDescriptor "([B)[C" = some ⟨[(.array .byte)], some (.array .char)⟩ := by decide +kernel
def o_Q5n1L (Z : State) (cs : Int32) (sf : Value) (GG : o_G Z cs sf) (o1 : Addr) (bb : Addr) (kb : ClassId) (c0 : Int32) (h0 : Heap) (n0 : Nat) (v : Option Value) (h : Heap) (L : List Loc) : Prop := ∃ ca : Addr, ∃ kc : ClassId, v = some (.ref ca) ∧ Fr n0 L ∧ Keep h0 h [] ∧ h0.size ≤ ca ∧ Arv Z h ca kc .char 1 [(.int c0)] (.int 0)
set_option maxRecDepth 65536 in
set_option maxHeartbeats 40000000 in
theorem o_rm5n1L (l : Launch) (Z : State) (a0 : Array Value) (hw : o_Hw Z a0) (ws : List Jvm.Cond) (cs : Int32) (sf : Value) (GG : o_G Z cs sf) (o1 : Addr) (bb : Addr) (kb : ClassId) (c0 : Int32) (h0 : Heap) (n0 : Nat) (Z0 : n0 ≤ h0.size) (pE1 : Exa Z h0 o1 "java/lang/String") (pF2 : Fld Z h0 o1 "java/lang/String" "value" "[B" (.ref bb)) (pF3 : Fld Z h0 o1 "java/lang/String" "coder" "B" (.int 0)) (pV4 : Arv Z h0 bb kb .byte 1 [(.int (nar .byte c0.toInt8.toInt32))] (.int 0)) (O0 : Old Z n0 h0) (hC0 : o_C c0) (hL0 : ¬ (255 : Int32) < c0) :
  o_Met l y21 jdk_42_method_129_code 1 (some (.array .char)) ws r10 #[(.ref o1)] Z h0 (o_Q5n1L Z cs sf GG o1 bb kb c0 h0 n0) := by
 refine MetFree.of_bodySF (plainFor_of_name o_pn3) hisR ?_
 intro p e s m args below meth c s₁ Bd hml0 hP hK
 obtain ⟨rfl, hZ, hh⟩ := hP
 obtain ⟨hx, hby, hlk, hrt⟩ := o_bd Bd
 have hml : c.maxLocals = 1 := hml0
 have hown : s.vm.findClass "java/lang/String" = some m.cls := findClass_of_methodNamed Bd.named
 have X0 : Stand p l e r10 s m #[(.ref o1)] below meth c s₁ [] 0 0 := Stand.of_body Bd
 have e0 := o_e0 Bd hh
 have N0 := Fr.nil n0
 have KC0 := Keep.refl h0 []
 refine o_in (g' := mkF m 0 #[(sR o1)] []) (by simp [entryFrame, mkF, argsToLocals, Value.category]) ?_
 refine o_aloadN X0 hx 1 (hb hby o_d5_0) rfl rfl ?_
 obtain ⟨cq1, kq1, q1a, q1b, q1c⟩ := isOf hZ e0 pE1
 obtain ⟨_, _, ⟨T1, Lx1, kc1, nc1⟩, -, X1, ⟨Lc1, hQ1, lq1, yq1, zq1⟩, st1⟩ := X0.virtualBack hx (y := y5) (z := y5) hown (mvT hZ (W hw 31 rfl)) (mvT hZ (W hw 32 rfl)) (notFace_of_selects (args := #[]) (mvT hZ (W hw 34 rfl))) (mvT hZ (W hw 34 rfl)) (mvT hZ (W hw 33 rfl)) (by decide) (backOf (W := 0) (o_rm6L l Z a0 hw [] cs sf GG o1 h0 n0 Z0 pF3 O0) hZ (W hw 35 rfl) (W hw 3 rfl) (by decide) (by decide)) q1a q1c (g := (mkF m 1 #[(sR o1)] [(.ref o1)])) rfl (by rw [hml]; rfl) (Steps.refl _) (argsL := []) (rest := []) (lenOf o_pd12 rfl) rfl (o_wl rfl) (hb hby o_d5_1) (fun _ _ => ⟨rfl, e0, (by decide : 0 + 0 ≤ _), (by decide : 0 + 0 ≤ _)⟩)
 dsimp only [Pt.U, Pt.locs, Pt.cells, Pt.slots] at X1 lq1 yq1 zq1 st1 hQ1
 subst lq1 yq1 zq1
 obtain ⟨rfl, Nq1, eh1⟩ := hQ1
 have N1 := Fr.app N0 Nq1
 refine o_st (G' := T1.setTop (mkF m 4 #[(sR o1)] [(.int 1)])) (fun t k => st1.trans k) ?_
 obtain ⟨_, X1h, N1h⟩ := o_hide X1 N1
 refine o_ifNo X1h hx 7 (hb hby o_d5_4) (feq (by decide : ¬ ((1 : Int32) = (0 : Int32)))).1 ?_
 refine o_aloadN X1h hx 8 (hb hby o_d5_7) rfl rfl ?_
 obtain ⟨T2, X2, e2, st2⟩ := getF X1h hx hZ hown (host := "") (Or.inl (W hw 20 rfl)) Via.refl eh1 pF2 (g := (mkF m 8 #[(sR o1)] [(.ref o1)])) rfl rfl (hb hby o_d5_8)
 refine o_st (G' := T2.setTop (mkF m 11 #[(sR o1)] [(.ref bb)])) st2 ?_
 obtain ⟨_, X2h, N2h⟩ := o_hide X2 N1h
 obtain ⟨_, _, ⟨T3, Lx3, kc3, nc3⟩, -, X3, ⟨Lc3, hQ3, lq3, yq3, zq3⟩, st3⟩ := Jvm.LawKit.callS X2h hx (y := y20) hown (mvT hZ (W hw 37 rfl)) (mvT hZ (W hw 38 rfl)) (mvT hZ (W hw 39 rfl)) (mvT hZ (W hw 40 rfl)) (by decide) (backOf (W := 0) (o_rm7n1 l Z a0 hw [] cs sf GG bb kb c0 h0 n0 Z0 pV4 O0 (hC0 : o_C c0) (hL0 : ¬ (255 : Int32) < c0)) hZ (W hw 40 rfl) (W hw 39 rfl) (by decide) (by decide)) (g := (mkF m 11 #[(sR o1)] [(.ref bb)])) rfl (by rw [hml]; rfl) (argsL := [(.ref bb)]) (rest := []) (lenOf o_pd13 rfl) rfl (o_wl rfl) (hb hby o_d5_11) (fun _ _ => ⟨rfl, e2, (by decide : 0 + 1 ≤ _), (by decide : 0 + 1 ≤ _)⟩)
 dsimp only [Pt.U, Pt.locs, Pt.cells, Pt.slots] at X3 lq3 yq3 zq3 st3 hQ3
 subst lq3 yq3 zq3
 obtain ⟨ca_3, kc_3, rfl, Nq3, Kp3, G3_0, G3_1⟩ := hQ3
 have N3 := Fr.app N2h Nq3
 have sz_ca_3 : h0.size ≤ ca_3 := Nat.le_trans KC0.1 G3_0
 have KC7 := KC0.trans Kp3 all0
 refine o_st (G' := T3.setTop (mkF m 14 #[(sR o1)] [(.ref ca_3)])) st3 ?_
 obtain ⟨_, X3h, N3h⟩ := o_hide X3 N3
 refine o_goto X3h hx 24 (hb hby o_d5_14) ?_
 exact o_retA (z := (.ref ca_3)) (Q := o_Q5n1L Z cs sf GG o1 bb kb c0 h0 n0) X3h hx hrt rfl rfl (hb hby o_d5_24) hlk rfl ⟨ca_3, kc_3, rfl, N3h, KC7, sz_ca_3, G3_1⟩ (by decide) (by decide)
theorem o_d13_0 : decode jdk_52_method_15_code 0 = .ok (.iload_n 1, 1) := by decide +kernel
theorem o_d13_1 : decode jdk_52_method_15_code 1 = .ok (.aload_n 0, 1) := by decide +kernel
theorem o_d13_2 : decode jdk_52_method_15_code 2 = .ok (.arraylength, 1) := by decide +kernel
theorem o_d13_3 : decode jdk_52_method_15_code 3 = .ok (.isub, 1) := by decide +kernel
theorem o_d13_4 : decode jdk_52_method_15_code 4 = .ok (.bipush 31, 2) := by decide +kernel
theorem o_d13_6 : decode jdk_52_method_15_code 6 = .ok (.iushr, 1) := by decide +kernel
theorem o_d13_7 : decode jdk_52_method_15_code 7 = .ok (.i2b, 1) := by decide +kernel
theorem o_d13_8 : decode jdk_52_method_15_code 8 = .ok (.ireturn, 1) := by decide +kernel
def o_Q13n1L (Z : State) (o1 : Addr) (kb : ClassId) (vs : List Value) (h0 : Heap) (n0 : Nat) (v : Option Value) (h : Heap) (L : List Loc) : Prop := v = some (.int 0) ∧ Fr n0 L ∧ h = h0
set_option maxRecDepth 65536 in
set_option maxHeartbeats 40000000 in
theorem o_rm13n1L (l : Launch) (Z : State) (a0 : Array Value) (hw : o_Hw Z a0) (ws : List Jvm.Cond) (o1 : Addr) (kb : ClassId) (vs : List Value) (h0 : Heap) (n0 : Nat) (Z0 : n0 ≤ h0.size) (pV1 : Arv Z h0 o1 kb .byte 1 vs (.int 0)) :
  o_Met l y22 jdk_52_method_15_code 2 (some .byte) ws r0 #[(.ref o1), (.int 1)] Z h0 (o_Q13n1L Z o1 kb vs h0 n0) := by
 refine MetFree.of_bodySF (plainFor_of_name o_pn4) hisR ?_
 intro p e s m args below meth c s₁ Bd hml0 hP hK
 obtain ⟨rfl, hZ, hh⟩ := hP
 obtain ⟨hx, hby, hlk, hrt⟩ := o_bd Bd
 have X0 : Stand p l e r0 s m #[(.ref o1), (.int 1)] below meth c s₁ [] 0 0 := Stand.of_body Bd
 have e0 := o_e0 Bd hh
 have N0 := Fr.nil n0
 refine o_in (g' := mkF m 0 #[(sR o1), (sI 1)] []) (by simp [entryFrame, mkF, argsToLocals, Value.category]) ?_
 refine o_iloadN X0 hx 1 (hb hby o_d13_0) rfl ?_
 refine o_aloadN X0 hx 2 (hb hby o_d13_1) rfl rfl ?_
 obtain ⟨cl1, Ar1, qv1, S1, M1, H1, G1⟩ := id pV1
 have ln1 := len_of S1 M1
 refine o_st (G' := s₁.setTop (mkF m 3 #[(sR o1), (sI 1)] [(.int 1), (.int 1)])) (fun t k => X0.arraylength hx (by rw [e0]; exact Ar1.1) (State.isArrayOf_alike hZ.alike Ar1.2.1) (g := (mkF m 2 #[(sR o1), (sI 1)] [(.ref o1), (.int 1)])) rfl rfl (hb hby o_d13_2) _ (by rw [ln1]; exact k)) ?_
 refine o_isub X0 hx 4 (hb hby o_d13_3) ?_
 show o_Gs p e below _ (s₁.setTop (mkF m 4 #[(sR o1), (sI 1)] [(.int 0)]))
 refine o_bipush X0 hx 6 31 (hb hby o_d13_4) rfl ?_
 refine o_iushr X0 hx 7 (hb hby o_d13_6) ?_
 rw [show (((0 : Int32).toUInt32 >>> ((31 : Int32) &&& 31).toUInt32).toInt32) = (0 : Int32) from by decide]
 refine o_i2b X0 hx 8 (hb hby o_d13_7) ?_
 rw [show ((0 : Int32).toInt8.toInt32) = (0 : Int32) from by decide]
 exact o_retN (t := .byte) (z := (0 : Int32)) (Q := o_Q13n1L Z o1 kb vs h0 n0) X0 hx hrt (by simp) (hb hby o_d13_8) hlk e0 ⟨rfl, N0, rfl⟩ (by decide) (by decide)
theorem o_d9_0 : decode jdk_42_method_54_code 0 = .ok (.aload_n 0, 1) := by decide +kernel
theorem o_d9_1 : decode jdk_42_method_54_code 1 = .ok (.getfield 9, 3) := by decide +kernel
theorem o_d9_4 : decode jdk_42_method_54_code 4 = .ok (.arraylength, 1) := by decide +kernel
theorem o_d9_5 : decode jdk_42_method_54_code 5 = .ok (.aload_n 0, 1) := by decide +kernel
theorem o_d9_6 : decode jdk_42_method_54_code 6 = .ok (.invokevirtual 335, 3) := by decide +kernel
theorem o_d9_9 : decode jdk_42_method_54_code 9 = .ok (.ishr, 1) := by decide +kernel
theorem o_d9_10 : decode jdk_42_method_54_code 10 = .ok (.ireturn, 1) := by decide +kernel
theorem o_pd14 : parseMethodDescriptor "()B" = some ⟨[], some .byte⟩ := by decide +kernel
def o_Q9n1L (Z : State) (cs : Int32) (sf : Value) (GG : o_G Z cs sf) (o1 : Addr) (bb : Addr) (kb : ClassId) (c0 : Int32) (h0 : Heap) (n0 : Nat) (v : Option Value) (h : Heap) (L : List Loc) : Prop := v = some (.int 1) ∧ Fr n0 L ∧ h = h0
set_option maxRecDepth 65536 in
set_option maxHeartbeats 40000000 in
theorem o_rm9n1L (l : Launch) (Z : State) (a0 : Array Value) (hw : o_Hw Z a0) (ws : List Jvm.Cond) (cs : Int32) (sf : Value) (GG : o_G Z cs sf) (o1 : Addr) (bb : Addr) (kb : ClassId) (c0 : Int32) (h0 : Heap) (n0 : Nat) (Z0 : n0 ≤ h0.size) (pE1 : Exa Z h0 o1 "java/lang/String") (pF2 : Fld Z h0 o1 "java/lang/String" "value" "[B" (.ref bb)) (pF3 : Fld Z h0 o1 "java/lang/String" "coder" "B" (.int 0)) (pV4 : Arv Z h0 bb kb .byte 1 [(.int (nar .byte c0.toInt8.toInt32))] (.int 0)) (O0 : Old Z n0 h0) :
  o_Met l y23 jdk_42_method_54_code 1 (some .int) ws r11 #[(.ref o1)] Z h0 (o_Q9n1L Z cs sf GG o1 bb kb c0 h0 n0) := by
 refine MetFree.of_bodySF (plainFor_of_name o_pn3) hisR ?_
 intro p e s m args below meth c s₁ Bd hml0 hP hK
 obtain ⟨rfl, hZ, hh⟩ := hP
 obtain ⟨hx, hby, hlk, hrt⟩ := o_bd Bd
 have hml : c.maxLocals = 1 := hml0
 have hown : s.vm.findClass "java/lang/String" = some m.cls := findClass_of_methodNamed Bd.named
 have X0 : Stand p l e r11 s m #[(.ref o1)] below meth c s₁ [] 0 0 := Stand.of_body Bd
 have e0 := o_e0 Bd hh
 have N0 := Fr.nil n0
 refine o_in (g' := mkF m 0 #[(sR o1)] []) (by simp [entryFrame, mkF, argsToLocals, Value.category]) ?_
 refine o_aloadN X0 hx 1 (hb hby o_d9_0) rfl rfl ?_
 obtain ⟨T1, X1, e1, st1⟩ := getF X0 hx hZ hown (host := "") (Or.inl (W hw 20 rfl)) Via.refl e0 pF2 (g := (mkF m 1 #[(sR o1)] [(.ref o1)])) rfl rfl (hb hby o_d9_1)
 refine o_st (G' := T1.setTop (mkF m 4 #[(sR o1)] [(.ref bb)])) st1 ?_
 obtain ⟨_, X1h, N1h⟩ := o_hide X1 N0
 obtain ⟨cl2, Ar2, qv2, S2, M2, H2, G2⟩ := id pV4
 have ln2 := len_of S2 M2
 refine o_st (G' := T1.setTop (mkF m 5 #[(sR o1)] [(.int 1)])) (fun t k => X1h.arraylength hx (by rw [e1]; exact Ar2.1) (State.isArrayOf_alike hZ.alike Ar2.2.1) (g := (mkF m 4 #[(sR o1)] [(.ref bb)])) rfl rfl (hb hby o_d9_4) _ (by rw [ln2]; exact k)) ?_
 refine o_aloadN X1h hx 6 (hb hby o_d9_5) rfl rfl ?_
 obtain ⟨cq3, kq3, q3a, q3b, q3c⟩ := isOf hZ e1 pE1
 obtain ⟨_, _, ⟨T3, Lx3, kc3, nc3⟩, -, X3, ⟨Lc3, hQ3, lq3, yq3, zq3⟩, st3⟩ := X1h.virtualBack hx (y := y4) (z := y4) hown (mvT hZ (W hw 51 rfl)) (mvT hZ (W hw 52 rfl)) (notFace_of_selects (args := #[]) (mvT hZ (W hw 54 rfl))) (mvT hZ (W hw 54 rfl)) (mvT hZ (W hw 53 rfl)) (by decide) (backOf (W := 1) (o_rm10L l Z a0 hw [] cs sf GG o1 h0 n0 Z0 pF3 O0) hZ (W hw 55 rfl) (W hw 3 rfl) (by decide) (by decide)) q3a q3c (g := (mkF m 6 #[(sR o1)] [(.ref o1), (.int 1)])) rfl (by rw [hml]; rfl) (Steps.refl _) (argsL := []) (rest := [(.int 1)]) (lenOf o_pd14 rfl) rfl (o_wl rfl) (hb hby o_d9_6) (fun _ _ => ⟨rfl, e1, (by decide : 0 + 0 ≤ _), (by decide : 0 + 0 ≤ _)⟩)
 dsimp only [Pt.U, Pt.locs, Pt.cells, Pt.slots] at X3 lq3 yq3 zq3 st3 hQ3
 subst lq3 yq3 zq3
 obtain ⟨rfl, Nq3, eh3⟩ := hQ3
 have N3 := Fr.app N1h Nq3
 refine o_st (G' := T3.setTop (mkF m 9 #[(sR o1)] [(.int 0), (.int 1)])) (fun t k => st3.trans k) ?_
 obtain ⟨_, X3h, N3h⟩ := o_hide X3 N3
 refine o_ishr X3h hx 10 (hb hby o_d9_9) ?_
 rw [show ((1 : Int32) >>> ((0 : Int32) &&& 31)) = (1 : Int32) from by decide]
 exact o_retI (z := (1 : Int32)) (Q := o_Q9n1L Z cs sf GG o1 bb kb c0 h0 n0) X3h hx hrt (hb hby o_d9_10) hlk eh3 ⟨rfl, N3h, rfl⟩ (by decide) (by decide)
theorem o_d15_0 : decode jdk_42_method_56_code 0 = .ok (.aload_n 0, 1) := by decide +kernel
theorem o_d15_1 : decode jdk_42_method_56_code 1 = .ok (.invokevirtual 492, 3) := by decide +kernel
theorem o_d15_4 : decode jdk_42_method_56_code 4 = .ok (.ifCond .eq 12, 3) := by decide +kernel
theorem o_d15_7 : decode jdk_42_method_56_code 7 = .ok (.aload_n 0, 1) := by decide +kernel
theorem o_d15_8 : decode jdk_42_method_56_code 8 = .ok (.getfield 9, 3) := by decide +kernel
theorem o_d15_11 : decode jdk_42_method_56_code 11 = .ok (.iload_n 1, 1) := by decide +kernel
theorem o_d15_12 : decode jdk_42_method_56_code 12 = .ok (.invokestatic 495, 3) := by decide +kernel
theorem o_d15_15 : decode jdk_42_method_56_code 15 = .ok (.ireturn, 1) := by decide +kernel
def o_Q15n1i0L (Z : State) (cs : Int32) (sf : Value) (GG : o_G Z cs sf) (o1 : Addr) (bb : Addr) (kb : ClassId) (c0 : Int32) (h0 : Heap) (n0 : Nat) (v : Option Value) (h : Heap) (L : List Loc) : Prop := v = some (.int c0) ∧ Fr n0 L ∧ h = h0
set_option maxRecDepth 65536 in
set_option maxHeartbeats 40000000 in
theorem o_rm15n1i0L (l : Launch) (Z : State) (a0 : Array Value) (hw : o_Hw Z a0) (ws : List Jvm.Cond) (cs : Int32) (sf : Value) (GG : o_G Z cs sf) (o1 : Addr) (bb : Addr) (kb : ClassId) (c0 : Int32) (h0 : Heap) (n0 : Nat) (Z0 : n0 ≤ h0.size) (pE1 : Exa Z h0 o1 "java/lang/String") (pF2 : Fld Z h0 o1 "java/lang/String" "value" "[B" (.ref bb)) (pF3 : Fld Z h0 o1 "java/lang/String" "coder" "B" (.int 0)) (pV4 : Arv Z h0 bb kb .byte 1 [(.int (nar .byte c0.toInt8.toInt32))] (.int 0)) (O0 : Old Z n0 h0) (hC : o_C c0) (hL : ¬ (255 : Int32) < c0) :
  o_Met l y24 jdk_42_method_56_code 2 (some .char) ws r6 #[(.ref o1), (.int 0)] Z h0 (o_Q15n1i0L Z cs sf GG o1 bb kb c0 h0 n0) := by
 refine MetFree.of_bodySF (plainFor_of_name o_pn3) hisR ?_
 intro p e s m args below meth c s₁ Bd hml0 hP hK
 obtain ⟨rfl, hZ, hh⟩ := hP
 obtain ⟨hx, hby, hlk, hrt⟩ := o_bd Bd
 have hml : c.maxLocals = 2 := hml0
 have hown : s.vm.findClass "java/lang/String" = some m.cls := findClass_of_methodNamed Bd.named
 have X0 : Stand p l e r6 s m #[(.ref o1), (.int 0)] below meth c s₁ [] 0 0 := Stand.of_body Bd
 have e0 := o_e0 Bd hh
 have N0 := Fr.nil n0
 refine o_in (g' := mkF m 0 #[(sR o1), (sI 0)] []) (by simp [entryFrame, mkF, argsToLocals, Value.category]) ?_
 refine o_aloadN X0 hx 1 (hb hby o_d15_0) rfl rfl ?_
 obtain ⟨cq1, kq1, q1a, q1b, q1c⟩ := isOf hZ e0 pE1
 obtain ⟨_, _, ⟨T1, Lx1, kc1, nc1⟩, -, X1, ⟨Lc1, hQ1, lq1, yq1, zq1⟩, st1⟩ := X0.virtualBack hx (y := y5) (z := y5) hown (mvT hZ (W hw 31 rfl)) (mvT hZ (W hw 32 rfl)) (notFace_of_selects (args := #[]) (mvT hZ (W hw 34 rfl))) (mvT hZ (W hw 34 rfl)) (mvT hZ (W hw 33 rfl)) (by decide) (backOf (W := 0) (o_rm6L l Z a0 hw [] cs sf GG o1 h0 n0 Z0 pF3 O0) hZ (W hw 35 rfl) (W hw 3 rfl) (by decide) (by decide)) q1a q1c (g := (mkF m 1 #[(sR o1), (sI 0)] [(.ref o1)])) rfl (by rw [hml]; rfl) (Steps.refl _) (argsL := []) (rest := []) (lenOf o_pd12 rfl) rfl (o_wl rfl) (hb hby o_d15_1) (fun _ _ => ⟨rfl, e0, (by decide : 0 + 0 ≤ _), (by decide : 0 + 0 ≤ _)⟩)
 dsimp only [Pt.U, Pt.locs, Pt.cells, Pt.slots] at X1 lq1 yq1 zq1 st1 hQ1
 subst lq1 yq1 zq1
 obtain ⟨rfl, Nq1, eh1⟩ := hQ1
 have N1 := Fr.app N0 Nq1
 refine o_st (G' := T1.setTop (mkF m 4 #[(sR o1), (sI 0)] [(.int 1)])) (fun t k => st1.trans k) ?_
 obtain ⟨_, X1h, N1h⟩ := o_hide X1 N1
 refine o_ifNo X1h hx 7 (hb hby o_d15_4) (feq (by decide : ¬ ((1 : Int32) = (0 : Int32)))).1 ?_
 refine o_aloadN X1h hx 8 (hb hby o_d15_7) rfl rfl ?_
 obtain ⟨T2, X2, e2, st2⟩ := getF X1h hx hZ hown (host := "") (Or.inl (W hw 20 rfl)) Via.refl eh1 pF2 (g := (mkF m 8 #[(sR o1), (sI 0)] [(.ref o1)])) rfl rfl (hb hby o_d15_8)
 refine o_st (G' := T2.setTop (mkF m 11 #[(sR o1), (sI 0)] [(.ref bb)])) st2 ?_
 obtain ⟨_, X2h, N2h⟩ := o_hide X2 N1h
 refine o_iloadN X2h hx 12 (hb hby o_d15_11) rfl ?_
 obtain ⟨_, _, ⟨T3, Lx3, kc3, nc3⟩, -, X3, ⟨Lc3, hQ3, lq3, yq3, zq3⟩, st3⟩ := Jvm.LawKit.callS X2h hx (y := y16) hown (mvT hZ (W hw 74 rfl)) (mvT hZ (W hw 75 rfl)) (mvT hZ (W hw 39 rfl)) (mvT hZ (W hw 76 rfl)) (by decide) (backOf (W := 0) (o_rm16n1i0 l Z a0 hw [] cs sf GG bb kb c0 h0 n0 Z0 pV4 O0 (hC : o_C c0) (hL : ¬ (255 : Int32) < c0)) hZ (W hw 76 rfl) (W hw 39 rfl) (by decide) (by decide)) (g := (mkF m 12 #[(sR o1), (sI 0)] [(.int 0), (.ref bb)])) rfl (by rw [hml]; rfl) (argsL := [(.ref bb), (.int 0)]) (rest := []) (lenOf o_pd7 rfl) rfl (o_wl rfl) (hb hby o_d15_12) (fun _ _ => ⟨rfl, e2, (by decide : 0 + 0 ≤ _), (by decide : 0 + 0 ≤ _)⟩)
 dsimp only [Pt.U, Pt.locs, Pt.cells, Pt.slots] at X3 lq3 yq3 zq3 st3 hQ3
 subst lq3 yq3 zq3
 obtain ⟨rfl, Nq3, eh3⟩ := hQ3
 have N3 := Fr.app N2h Nq3
 refine o_st (G' := T3.setTop (mkF m 15 #[(sR o1), (sI 0)] [(.int c0)])) st3 ?_
 obtain ⟨_, X3h, N3h⟩ := o_hide X3 N3
 exact o_retN (t := .char) (z := c0) (Q := o_Q15n1i0L Z cs sf GG o1 bb kb c0 h0 n0) X3h hx hrt (by simp) (hb hby o_d15_15) hlk eh3 ⟨(o_leafI (o_narC hC)), N3h, rfl⟩ (by decide) (by decide)
theorem o_d25_0 : decode jdk_52_method_13_code 0 = .ok (.aload_n 0, 1) := by decide +kernel
theorem o_d25_1 : decode jdk_52_method_13_code 1 = .ok (.arraylength, 1) := by decide +kernel
theorem o_d25_2 : decode jdk_52_method_13_code 2 = .ok (.iconst 1, 1) := by decide +kernel
theorem o_d25_3 : decode jdk_52_method_13_code 3 = .ok (.ishr, 1) := by decide +kernel
theorem o_d25_4 : decode jdk_52_method_13_code 4 = .ok (.newarray .char, 2) := by decide +kernel
theorem o_d25_6 : decode jdk_52_method_13_code 6 = .ok (.astore_n 1, 1) := by decide +kernel
theorem o_d25_7 : decode jdk_52_method_13_code 7 = .ok (.aload_n 0, 1) := by decide +kernel
theorem o_d25_8 : decode jdk_52_method_13_code 8 = .ok (.iconst 0, 1) := by decide +kernel
theorem o_d25_9 : decode jdk_52_method_13_code 9 = .ok (.aload_n 1, 1) := by decide +kernel
theorem o_d25_10 : decode jdk_52_method_13_code 10 = .ok (.arraylength, 1) := by decide +kernel
theorem o_d25_11 : decode jdk_52_method_13_code 11 = .ok (.aload_n 1, 1) := by decide +kernel
theorem o_d25_12 : decode jdk_52_method_13_code 12 = .ok (.iconst 0, 1) := by decide +kernel
theorem o_d25_13 : decode jdk_52_method_13_code 13 = .ok (.invokestatic 103, 3) := by decide +kernel
theorem o_d25_16 : decode jdk_52_method_13_code 16 = .ok (.aload_n 1, 1) := by decide +kernel
theorem o_d25_17 : decode jdk_52_method_13_code 17 = .ok (.areturn, 1) := by decide +kernel
theorem o_pd15 : parseMethodDescriptor "([BII[CI)V" = some ⟨[(.array .byte), .int, .int, (.array .char), .int], none⟩ := by decide +kernel
def o_Q25n1 (Z : State) (cs : Int32) (sf : Value) (GG : o_G Z cs sf) (o1 : Addr) (kb : ClassId) (c0 : Int32) (h0 : Heap) (n0 : Nat) (v : Option Value) (h : Heap) (L : List Loc) : Prop := ∃ ca : Addr, ∃ kc : ClassId, v = some (.ref ca) ∧ Fr n0 L ∧ Keep h0 h [] ∧ h0.size ≤ ca ∧ Arv Z h ca kc .char 1 [(.int c0)] (.int 0)
set_option maxRecDepth 65536 in
set_option maxHeartbeats 40000000 in
theorem o_rm25n1 (l : Launch) (Z : State) (a0 : Array Value) (hw : o_Hw Z a0) (ws : List Jvm.Cond) (cs : Int32) (sf : Value) (GG : o_G Z cs sf) (o1 : Addr) (kb : ClassId) (c0 : Int32) (h0 : Heap) (n0 : Nat) (Z0 : n0 ≤ h0.size) (pV1 : Arv Z h0 o1 kb .byte 2 [(.int (o_lo c0)), (.int (o_hi c0))] (.int 0)) (O0 : Old Z n0 h0) (hC0 : o_C c0) :
  o_Met l y25 jdk_52_method_13_code 2 (some (.array .char)) ws r12 #[(.ref o1)] Z h0 (o_Q25n1 Z cs sf GG o1 kb c0 h0 n0) := by
 refine MetFree.of_bodySF (plainFor_of_name o_pn4) hisR ?_
 intro p e s m args below meth c s₁ Bd hml0 hP hK
 obtain ⟨rfl, hZ, hh⟩ := hP
 obtain ⟨hx, hby, hlk, hrt⟩ := o_bd Bd
 have hml : c.maxLocals = 2 := hml0
 have hown : s.vm.findClass "java/lang/StringUTF16" = some m.cls := findClass_of_methodNamed Bd.named
 have X0 : Stand p l e r12 s m #[(.ref o1)] below meth c s₁ [] 0 0 := Stand.of_body Bd
 have e0 := o_e0 Bd hh
 have N0 := Fr.nil n0
 have KC0 := Keep.refl h0 []
 refine o_in (g' := mkF m 0 #[(sR o1), .unset] []) (by simp [entryFrame, mkF, argsToLocals, Value.category]) ?_
 refine o_aloadN X0 hx 1 (hb hby o_d25_0) rfl rfl ?_
 obtain ⟨cl1, Ar1, qv1, S1, M1, H1, G1⟩ := id pV1
 have ln1 := len_of S1 M1
 refine o_st (G' := s₁.setTop (mkF m 2 #[(sR o1), .unset] [(.int 2)])) (fun t k => X0.arraylength hx (by rw [e0]; exact Ar1.1) (State.isArrayOf_alike hZ.alike Ar1.2.1) (g := (mkF m 1 #[(sR o1), .unset] [(.ref o1)])) rfl rfl (hb hby o_d25_1) _ (by rw [ln1]; exact k)) ?_
 refine o_iconst X0 hx 3 1 (hb hby o_d25_2) rfl ?_
 refine o_ishr X0 hx 4 (hb hby o_d25_3) ?_
 rw [show ((2 : Int32) >>> ((1 : Int32) &&& 31)) = (1 : Int32) from by decide]
 obtain ⟨T2, h2, k2, X2, e2, E2, A2, st2⟩ := newP X0 hx hZ (W hw 0 rfl) e0 (g := (mkF m 4 #[(sR o1), .unset] [(.int 1)])) rfl (hb hby o_d25_4) rfl (by decide) (cap := 1) (by decide) (by decide) (by decide) (by decide)
 obtain ⟨b2, g2⟩ : ∃ z, z = h0.size := ⟨_, rfl⟩
 rw [← g2] at A2 st2
 have ne3 : o1 ≠ b2 := Nat.ne_of_lt (Nat.lt_of_lt_of_le pV1.lt (Nat.le_of_eq g2.symm))
 have gt_b2 : n0 ≤ b2 := Nat.le_trans Z0 (Nat.le_of_eq g2.symm)
 have sz_b2 : h0.size ≤ b2 := Nat.le_trans KC0.1 (Nat.le_of_eq g2.symm)
 have V2 : Arv Z h2 b2 k2 .char 1 [(.int 0)] (.int 0) := (Arv.new A2 (by decide)).pad (pad_rep [] (.int 0) 1)
 have O4 := O0.ext E2
 have KC5 := KC0.ext E2
 have Z6 := Nat.le_trans Z0 E2.1
 refine o_st (G' := T2.setTop (mkF m 6 #[(sR o1), .unset] [(.ref b2)])) st2 ?_
 obtain ⟨_, X2h, N2h⟩ := o_hide X2 N0
 refine o_astoreN X2h hx 7 #[(sR o1), (sR b2)] (hb hby o_d25_6) rfl rfl ?_
 refine o_aloadN X2h hx 8 (hb hby o_d25_7) rfl rfl ?_
 refine o_iconst X2h hx 9 0 (hb hby o_d25_8) rfl ?_
 refine o_aloadN X2h hx 10 (hb hby o_d25_9) rfl rfl ?_
 obtain ⟨cl7, Ar7, qv7, S7, M7, H7, G7⟩ := id V2
 have ln7 := len_of S7 M7
 refine o_st (G' := T2.setTop (mkF m 11 #[(sR o1), (sR b2)] [(.int 1), (.int 0), (.ref o1)])) (fun t k => X2h.arraylength hx (by rw [e2]; exact Ar7.1) (State.isArrayOf_alike hZ.alike Ar7.2.1) (g := (mkF m 10 #[(sR o1), (sR b2)] [(.ref b2), (.int 0), (.ref o1)])) rfl rfl (hb hby o_d25_10) _ (by rw [ln7]; exact k)) ?_
 refine o_aloadN X2h hx 12 (hb hby o_d25_11) rfl rfl ?_
 refine o_iconst X2h hx 13 0 (hb hby o_d25_12) rfl ?_
 have f8 := (pV1.ext E2)
 obtain ⟨_, _, ⟨T9, Lx9, kc9, nc9⟩, -, X9, ⟨Lc9, hQ9, lq9, yq9, zq9⟩, st9⟩ := Jvm.LawKit.callS X2h hx (y := y18) hown (mvT hZ (W hw 111 rfl)) (mvT hZ (W hw 112 rfl)) (mvT hZ (W hw 58 rfl)) (mvT hZ (W hw 113 rfl)) (by decide) (backOf (W := 0) (o_rm26n1 l Z a0 hw [] cs sf GG o1 b2 kb k2 c0 h2 n0 Z6 f8 V2 gt_b2 O4 ne3 (hC0 : o_C c0)) hZ (W hw 113 rfl) (W hw 58 rfl) (by decide) (by decide)) (g := (mkF m 13 #[(sR o1), (sR b2)] [(.int 0), (.ref b2), (.int 1), (.int 0), (.ref o1)])) rfl (by rw [hml]; rfl) (argsL := [(.ref o1), (.int 0), (.int 1), (.ref b2), (.int 0)]) (rest := []) (lenOf o_pd15 rfl) rfl (o_wl rfl) (hb hby o_d25_13) (fun _ _ => ⟨rfl, e2, (by decide : 1 + 0 ≤ _), (by decide : 1 + 0 ≤ _)⟩)
 dsimp only [Pt.U, Pt.locs, Pt.cells, Pt.slots] at X9 lq9 yq9 zq9 st9 hQ9
 subst lq9 yq9 zq9
 obtain ⟨rfl, Nq9, Kp9, G9_0⟩ := hQ9
 have N9 := Fr.app N2h Nq9
 have KC11 := KC5.trans Kp9 (allS (Or.inr sz_b2) all0)
 refine o_st (G' := T9.setTop (mkF m 16 #[(sR o1), (sR b2)] [])) st9 ?_
 obtain ⟨_, X9h, N9h⟩ := o_hide X9 N9
 refine o_aloadN X9h hx 17 (hb hby o_d25_16) rfl rfl ?_
 exact o_retA (z := (.ref b2)) (Q := o_Q25n1 Z cs sf GG o1 kb c0 h0 n0) X9h hx hrt rfl rfl (hb hby o_d25_17) hlk rfl ⟨b2, k2, rfl, N9h, KC11, sz_b2, G9_0⟩ (by decide) (by decide)
theorem o_d5_17 : decode jdk_42_method_129_code 17 = .ok (.aload_n 0, 1) := by decide +kernel
theorem o_d5_18 : decode jdk_42_method_129_code 18 = .ok (.getfield 9, 3) := by decide +kernel
theorem o_d5_21 : decode jdk_42_method_129_code 21 = .ok (.invokestatic 303, 3) := by decide +kernel
def o_Q5n1U (Z : State) (cs : Int32) (sf : Value) (GG : o_G Z cs sf) (o1 : Addr) (bb : Addr) (kb : ClassId) (c0 : Int32) (h0 : Heap) (n0 : Nat) (v : Option Value) (h : Heap) (L : List Loc) : Prop := ∃ ca : Addr, ∃ kc : ClassId, v = some (.ref ca) ∧ Fr n0 L ∧ Keep h0 h [] ∧ h0.size ≤ ca ∧ Arv Z h ca kc .char 1 [(.int c0)] (.int 0)
set_option maxRecDepth 65536 in
set_option maxHeartbeats 40000000 in
theorem o_rm5n1U (l : Launch) (Z : State) (a0 : Array Value) (hw : o_Hw Z a0) (ws : List Jvm.Cond) (cs : Int32) (sf : Value) (GG : o_G Z cs sf) (o1 : Addr) (bb : Addr) (kb : ClassId) (c0 : Int32) (h0 : Heap) (n0 : Nat) (Z0 : n0 ≤ h0.size) (pE1 : Exa Z h0 o1 "java/lang/String") (pF2 : Fld Z h0 o1 "java/lang/String" "value" "[B" (.ref bb)) (pF3 : Fld Z h0 o1 "java/lang/String" "coder" "B" (.int 1)) (pV4 : Arv Z h0 bb kb .byte 2 [(.int (o_lo c0)), (.int (o_hi c0))] (.int 0)) (O0 : Old Z n0 h0) (hC0 : o_C c0) :
  o_Met l y21 jdk_42_method_129_code 1 (some (.array .char)) ws r13 #[(.ref o1)] Z h0 (o_Q5n1U Z cs sf GG o1 bb kb c0 h0 n0) := by
 refine MetFree.of_bodySF (plainFor_of_name o_pn3) hisR ?_
 intro p e s m args below meth c s₁ Bd hml0 hP hK
 obtain ⟨rfl, hZ, hh⟩ := hP
 obtain ⟨hx, hby, hlk, hrt⟩ := o_bd Bd
 have hml : c.maxLocals = 1 := hml0
 have hown : s.vm.findClass "java/lang/String" = some m.cls := findClass_of_methodNamed Bd.named
 have X0 : Stand p l e r13 s m #[(.ref o1)] below meth c s₁ [] 0 0 := Stand.of_body Bd
 have e0 := o_e0 Bd hh
 have N0 := Fr.nil n0
 have KC0 := Keep.refl h0 []
 refine o_in (g' := mkF m 0 #[(sR o1)] []) (by simp [entryFrame, mkF, argsToLocals, Value.category]) ?_
 refine o_aloadN X0 hx 1 (hb hby o_d5_0) rfl rfl ?_
 obtain ⟨cq1, kq1, q1a, q1b, q1c⟩ := isOf hZ e0 pE1
 obtain ⟨_, _, ⟨T1, Lx1, kc1, nc1⟩, -, X1, ⟨Lc1, hQ1, lq1, yq1, zq1⟩, st1⟩ := X0.virtualBack hx (y := y5) (z := y5) hown (mvT hZ (W hw 31 rfl)) (mvT hZ (W hw 32 rfl)) (notFace_of_selects (args := #[]) (mvT hZ (W hw 34 rfl))) (mvT hZ (W hw 34 rfl)) (mvT hZ (W hw 33 rfl)) (by decide) (backOf (W := 0) (o_rm6U l Z a0 hw [] cs sf GG o1 h0 n0 Z0 pF3 O0) hZ (W hw 35 rfl) (W hw 3 rfl) (by decide) (by decide)) q1a q1c (g := (mkF m 1 #[(sR o1)] [(.ref o1)])) rfl (by rw [hml]; rfl) (Steps.refl _) (argsL := []) (rest := []) (lenOf o_pd12 rfl) rfl (o_wl rfl) (hb hby o_d5_1) (fun _ _ => ⟨rfl, e0, (by decide : 0 + 0 ≤ _), (by decide : 0 + 0 ≤ _)⟩)
 dsimp only [Pt.U, Pt.locs, Pt.cells, Pt.slots] at X1 lq1 yq1 zq1 st1 hQ1
 subst lq1 yq1 zq1
 obtain ⟨rfl, Nq1, eh1⟩ := hQ1
 have N1 := Fr.app N0 Nq1
 refine o_st (G' := T1.setTop (mkF m 4 #[(sR o1)] [(.int 0)])) (fun t k => st1.trans k) ?_
 obtain ⟨_, X1h, N1h⟩ := o_hide X1 N1
 refine o_ifYes X1h hx 17 (hb hby o_d5_4) (teq (rfl : (0 : Int32) = (0 : Int32))).1 ?_
 refine o_aloadN X1h hx 18 (hb hby o_d5_17) rfl rfl ?_
 obtain ⟨T2, X2, e2, st2⟩ := getF X1h hx hZ hown (host := "") (Or.inl (W hw 20 rfl)) Via.refl eh1 pF2 (g := (mkF m 18 #[(sR o1)] [(.ref o1)])) rfl rfl (hb hby o_d5_18)
 refine o_st (G' := T2.setTop (mkF m 21 #[(sR o1)] [(.ref bb)])) st2 ?_
 obtain ⟨_, X2h, N2h⟩ := o_hide X2 N1h
 obtain ⟨_, _, ⟨T3, Lx3, kc3, nc3⟩, -, X3, ⟨Lc3, hQ3, lq3, yq3, zq3⟩, st3⟩ := Jvm.LawKit.callS X2h hx (y := y25) hown (mvT hZ (W hw 108 rfl)) (mvT hZ (W hw 109 rfl)) (mvT hZ (W hw 58 rfl)) (mvT hZ (W hw 110 rfl)) (by decide) (backOf (W := 0) (o_rm25n1 l Z a0 hw [] cs sf GG bb kb c0 h0 n0 Z0 pV4 O0 (hC0 : o_C c0)) hZ (W hw 110 rfl) (W hw 58 rfl) (by decide) (by decide)) (g := (mkF m 21 #[(sR o1)] [(.ref bb)])) rfl (by rw [hml]; rfl) (argsL := [(.ref bb)]) (rest := []) (lenOf o_pd13 rfl) rfl (o_wl rfl) (hb hby o_d5_21) (fun _ _ => ⟨rfl, e2, (by decide : 0 + 1 ≤ _), (by decide : 0 + 1 ≤ _)⟩)
 dsimp only [Pt.U, Pt.locs, Pt.cells, Pt.slots] at X3 lq3 yq3 zq3 st3 hQ3
 subst lq3 yq3 zq3
 obtain ⟨ca_3, kc_3, rfl, Nq3, Kp3, G3_0, G3_1⟩ := hQ3
 have N3 := Fr.app N2h Nq3
 have sz_ca_3 : h0.size ≤ ca_3 := Nat.le_trans KC0.1 G3_0
 have KC7 := KC0.trans Kp3 all0
 refine o_st (G' := T3.setTop (mkF m 24 #[(sR o1)] [(.ref ca_3)])) st3 ?_
 obtain ⟨_, X3h, N3h⟩ := o_hide X3 N3
 exact o_retA (z := (.ref ca_3)) (Q := o_Q5n1U Z cs sf GG o1 bb kb c0 h0 n0) X3h hx hrt rfl rfl (hb hby o_d5_24) hlk rfl ⟨ca_3, kc_3, rfl, N3h, KC7, sz_ca_3, G3_1⟩ (by decide) (by decide)
def o_Q13n1U (Z : State) (o1 : Addr) (kb : ClassId) (vs : List Value) (h0 : Heap) (n0 : Nat) (v : Option Value) (h : Heap) (L : List Loc) : Prop := v = some (.int 1) ∧ Fr n0 L ∧ h = h0
set_option maxRecDepth 65536 in
set_option maxHeartbeats 40000000 in
theorem o_rm13n1U (l : Launch) (Z : State) (a0 : Array Value) (hw : o_Hw Z a0) (ws : List Jvm.Cond) (o1 : Addr) (kb : ClassId) (vs : List Value) (h0 : Heap) (n0 : Nat) (Z0 : n0 ≤ h0.size) (pV1 : Arv Z h0 o1 kb .byte 2 vs (.int 0)) :
  o_Met l y22 jdk_52_method_15_code 2 (some .byte) ws r0 #[(.ref o1), (.int 1)] Z h0 (o_Q13n1U Z o1 kb vs h0 n0) := by
 refine MetFree.of_bodySF (plainFor_of_name o_pn4) hisR ?_
 intro p e s m args below meth c s₁ Bd hml0 hP hK
 obtain ⟨rfl, hZ, hh⟩ := hP
 obtain ⟨hx, hby, hlk, hrt⟩ := o_bd Bd
 have X0 : Stand p l e r0 s m #[(.ref o1), (.int 1)] below meth c s₁ [] 0 0 := Stand.of_body Bd
 have e0 := o_e0 Bd hh
 have N0 := Fr.nil n0
 refine o_in (g' := mkF m 0 #[(sR o1), (sI 1)] []) (by simp [entryFrame, mkF, argsToLocals, Value.category]) ?_
 refine o_iloadN X0 hx 1 (hb hby o_d13_0) rfl ?_
 refine o_aloadN X0 hx 2 (hb hby o_d13_1) rfl rfl ?_
 obtain ⟨cl1, Ar1, qv1, S1, M1, H1, G1⟩ := id pV1
 have ln1 := len_of S1 M1
 refine o_st (G' := s₁.setTop (mkF m 3 #[(sR o1), (sI 1)] [(.int 2), (.int 1)])) (fun t k => X0.arraylength hx (by rw [e0]; exact Ar1.1) (State.isArrayOf_alike hZ.alike Ar1.2.1) (g := (mkF m 2 #[(sR o1), (sI 1)] [(.ref o1), (.int 1)])) rfl rfl (hb hby o_d13_2) _ (by rw [ln1]; exact k)) ?_
 refine o_isub X0 hx 4 (hb hby o_d13_3) ?_
 show o_Gs p e below _ (s₁.setTop (mkF m 4 #[(sR o1), (sI 1)] [(.int (-1 : Int32))]))
 refine o_bipush X0 hx 6 31 (hb hby o_d13_4) rfl ?_
 refine o_iushr X0 hx 7 (hb hby o_d13_6) ?_
 rw [show (((-1 : Int32).toUInt32 >>> ((31 : Int32) &&& 31).toUInt32).toInt32) = (1 : Int32) from by decide]
 refine o_i2b X0 hx 8 (hb hby o_d13_7) ?_
 rw [show ((1 : Int32).toInt8.toInt32) = (1 : Int32) from by decide]
 exact o_retN (t := .byte) (z := (1 : Int32)) (Q := o_Q13n1U Z o1 kb vs h0 n0) X0 hx hrt (by simp) (hb hby o_d13_8) hlk e0 ⟨rfl, N0, rfl⟩ (by decide) (by decide)
def o_Q9n1U (Z : State) (cs : Int32) (sf : Value) (GG : o_G Z cs sf) (o1 : Addr) (bb : Addr) (kb : ClassId) (c0 : Int32) (h0 : Heap) (n0 : Nat) (v : Option Value) (h : Heap) (L : List Loc) : Prop := v = some (.int 1) ∧ Fr n0 L ∧ h = h0
set_option maxRecDepth 65536 in
set_option maxHeartbeats 40000000 in
theorem o_rm9n1U (l : Launch) (Z : State) (a0 : Array Value) (hw : o_Hw Z a0) (ws : List Jvm.Cond) (cs : Int32) (sf : Value) (GG : o_G Z cs sf) (o1 : Addr) (bb : Addr) (kb : ClassId) (c0 : Int32) (h0 : Heap) (n0 : Nat) (Z0 : n0 ≤ h0.size) (pE1 : Exa Z h0 o1 "java/lang/String") (pF2 : Fld Z h0 o1 "java/lang/String" "value" "[B" (.ref bb)) (pF3 : Fld Z h0 o1 "java/lang/String" "coder" "B" (.int 1)) (pV4 : Arv Z h0 bb kb .byte 2 [(.int (o_lo c0)), (.int (o_hi c0))] (.int 0)) (O0 : Old Z n0 h0) :
  o_Met l y23 jdk_42_method_54_code 1 (some .int) ws r11 #[(.ref o1)] Z h0 (o_Q9n1U Z cs sf GG o1 bb kb c0 h0 n0) := by
 refine MetFree.of_bodySF (plainFor_of_name o_pn3) hisR ?_
 intro p e s m args below meth c s₁ Bd hml0 hP hK
 obtain ⟨rfl, hZ, hh⟩ := hP
 obtain ⟨hx, hby, hlk, hrt⟩ := o_bd Bd
 have hml : c.maxLocals = 1 := hml0
 have hown : s.vm.findClass "java/lang/String" = some m.cls := findClass_of_methodNamed Bd.named
 have X0 : Stand p l e r11 s m #[(.ref o1)] below meth c s₁ [] 0 0 := Stand.of_body Bd
 have e0 := o_e0 Bd hh
 have N0 := Fr.nil n0
 refine o_in (g' := mkF m 0 #[(sR o1)] []) (by simp [entryFrame, mkF, argsToLocals, Value.category]) ?_
 refine o_aloadN X0 hx 1 (hb hby o_d9_0) rfl rfl ?_
 obtain ⟨T1, X1, e1, st1⟩ := getF X0 hx hZ hown (host := "") (Or.inl (W hw 20 rfl)) Via.refl e0 pF2 (g := (mkF m 1 #[(sR o1)] [(.ref o1)])) rfl rfl (hb hby o_d9_1)
 refine o_st (G' := T1.setTop (mkF m 4 #[(sR o1)] [(.ref bb)])) st1 ?_
 obtain ⟨_, X1h, N1h⟩ := o_hide X1 N0
 obtain ⟨cl2, Ar2, qv2, S2, M2, H2, G2⟩ := id pV4
 have ln2 := len_of S2 M2
 refine o_st (G' := T1.setTop (mkF m 5 #[(sR o1)] [(.int 2)])) (fun t k => X1h.arraylength hx (by rw [e1]; exact Ar2.1) (State.isArrayOf_alike hZ.alike Ar2.2.1) (g := (mkF m 4 #[(sR o1)] [(.ref bb)])) rfl rfl (hb hby o_d9_4) _ (by rw [ln2]; exact k)) ?_
 refine o_aloadN X1h hx 6 (hb hby o_d9_5) rfl rfl ?_
 obtain ⟨cq3, kq3, q3a, q3b, q3c⟩ := isOf hZ e1 pE1
 obtain ⟨_, _, ⟨T3, Lx3, kc3, nc3⟩, -, X3, ⟨Lc3, hQ3, lq3, yq3, zq3⟩, st3⟩ := X1h.virtualBack hx (y := y4) (z := y4) hown (mvT hZ (W hw 51 rfl)) (mvT hZ (W hw 52 rfl)) (notFace_of_selects (args := #[]) (mvT hZ (W hw 54 rfl))) (mvT hZ (W hw 54 rfl)) (mvT hZ (W hw 53 rfl)) (by decide) (backOf (W := 1) (o_rm10U l Z a0 hw [] cs sf GG o1 h0 n0 Z0 pF3 O0) hZ (W hw 55 rfl) (W hw 3 rfl) (by decide) (by decide)) q3a q3c (g := (mkF m 6 #[(sR o1)] [(.ref o1), (.int 2)])) rfl (by rw [hml]; rfl) (Steps.refl _) (argsL := []) (rest := [(.int 2)]) (lenOf o_pd14 rfl) rfl (o_wl rfl) (hb hby o_d9_6) (fun _ _ => ⟨rfl, e1, (by decide : 0 + 0 ≤ _), (by decide : 0 + 0 ≤ _)⟩)
 dsimp only [Pt.U, Pt.locs, Pt.cells, Pt.slots] at X3 lq3 yq3 zq3 st3 hQ3
 subst lq3 yq3 zq3
 obtain ⟨rfl, Nq3, eh3⟩ := hQ3
 have N3 := Fr.app N1h Nq3
 refine o_st (G' := T3.setTop (mkF m 9 #[(sR o1)] [(.int 1), (.int 2)])) (fun t k => st3.trans k) ?_
 obtain ⟨_, X3h, N3h⟩ := o_hide X3 N3
 refine o_ishr X3h hx 10 (hb hby o_d9_9) ?_
 rw [show ((2 : Int32) >>> ((1 : Int32) &&& 31)) = (1 : Int32) from by decide]
 exact o_retI (z := (1 : Int32)) (Q := o_Q9n1U Z cs sf GG o1 bb kb c0 h0 n0) X3h hx hrt (hb hby o_d9_10) hlk eh3 ⟨rfl, N3h, rfl⟩ (by decide) (by decide)
theorem o_d15_16 : decode jdk_42_method_56_code 16 = .ok (.aload_n 0, 1) := by decide +kernel
theorem o_d15_17 : decode jdk_42_method_56_code 17 = .ok (.getfield 9, 3) := by decide +kernel
theorem o_d15_20 : decode jdk_42_method_56_code 20 = .ok (.iload_n 1, 1) := by decide +kernel
theorem o_d15_21 : decode jdk_42_method_56_code 21 = .ok (.invokestatic 498, 3) := by decide +kernel
theorem o_d15_24 : decode jdk_42_method_56_code 24 = .ok (.ireturn, 1) := by decide +kernel
def o_Q15n1i0U (Z : State) (cs : Int32) (sf : Value) (GG : o_G Z cs sf) (o1 : Addr) (bb : Addr) (kb : ClassId) (c0 : Int32) (h0 : Heap) (n0 : Nat) (v : Option Value) (h : Heap) (L : List Loc) : Prop := v = some (.int c0) ∧ Fr n0 L ∧ h = h0
set_option maxRecDepth 65536 in
set_option maxHeartbeats 40000000 in
theorem o_rm15n1i0U (l : Launch) (Z : State) (a0 : Array Value) (hw : o_Hw Z a0) (ws : List Jvm.Cond) (cs : Int32) (sf : Value) (GG : o_G Z cs sf) (o1 : Addr) (bb : Addr) (kb : ClassId) (c0 : Int32) (h0 : Heap) (n0 : Nat) (Z0 : n0 ≤ h0.size) (pE1 : Exa Z h0 o1 "java/lang/String") (pF2 : Fld Z h0 o1 "java/lang/String" "value" "[B" (.ref bb)) (pF3 : Fld Z h0 o1 "java/lang/String" "coder" "B" (.int 1)) (pV4 : Arv Z h0 bb kb .byte 2 [(.int (o_lo c0)), (.int (o_hi c0))] (.int 0)) (O0 : Old Z n0 h0) (hC : o_C c0) :
  o_Met l y24 jdk_42_method_56_code 2 (some .char) ws r14 #[(.ref o1), (.int 0)] Z h0 (o_Q15n1i0U Z cs sf GG o1 bb kb c0 h0 n0) := by
 refine MetFree.of_bodySF (plainFor_of_name o_pn3) hisR ?_
 intro p e s m args below meth c s₁ Bd hml0 hP hK
 obtain ⟨rfl, hZ, hh⟩ := hP
 obtain ⟨hx, hby, hlk, hrt⟩ := o_bd Bd
 have hml : c.maxLocals = 2 := hml0
 have hown : s.vm.findClass "java/lang/String" = some m.cls := findClass_of_methodNamed Bd.named
 have X0 : Stand p l e r14 s m #[(.ref o1), (.int 0)] below meth c s₁ [] 0 0 := Stand.of_body Bd
 have e0 := o_e0 Bd hh
 have N0 := Fr.nil n0
 refine o_in (g' := mkF m 0 #[(sR o1), (sI 0)] []) (by simp [entryFrame, mkF, argsToLocals, Value.category]) ?_
 refine o_aloadN X0 hx 1 (hb hby o_d15_0) rfl rfl ?_
 obtain ⟨cq1, kq1, q1a, q1b, q1c⟩ := isOf hZ e0 pE1
 obtain ⟨_, _, ⟨T1, Lx1, kc1, nc1⟩, -, X1, ⟨Lc1, hQ1, lq1, yq1, zq1⟩, st1⟩ := X0.virtualBack hx (y := y5) (z := y5) hown (mvT hZ (W hw 31 rfl)) (mvT hZ (W hw 32 rfl)) (notFace_of_selects (args := #[]) (mvT hZ (W hw 34 rfl))) (mvT hZ (W hw 34 rfl)) (mvT hZ (W hw 33 rfl)) (by decide) (backOf (W := 0) (o_rm6U l Z a0 hw [] cs sf GG o1 h0 n0 Z0 pF3 O0) hZ (W hw 35 rfl) (W hw 3 rfl) (by decide) (by decide)) q1a q1c (g := (mkF m 1 #[(sR o1), (sI 0)] [(.ref o1)])) rfl (by rw [hml]; rfl) (Steps.refl _) (argsL := []) (rest := []) (lenOf o_pd12 rfl) rfl (o_wl rfl) (hb hby o_d15_1) (fun _ _ => ⟨rfl, e0, (by decide : 0 + 0 ≤ _), (by decide : 0 + 0 ≤ _)⟩)
 dsimp only [Pt.U, Pt.locs, Pt.cells, Pt.slots] at X1 lq1 yq1 zq1 st1 hQ1
 subst lq1 yq1 zq1
 obtain ⟨rfl, Nq1, eh1⟩ := hQ1
 have N1 := Fr.app N0 Nq1
 refine o_st (G' := T1.setTop (mkF m 4 #[(sR o1), (sI 0)] [(.int 0)])) (fun t k => st1.trans k) ?_
 obtain ⟨_, X1h, N1h⟩ := o_hide X1 N1
 refine o_ifYes X1h hx 16 (hb hby o_d15_4) (teq (rfl : (0 : Int32) = (0 : Int32))).1 ?_
 refine o_aloadN X1h hx 17 (hb hby o_d15_16) rfl rfl ?_
 obtain ⟨T2, X2, e2, st2⟩ := getF X1h hx hZ hown (host := "") (Or.inl (W hw 20 rfl)) Via.refl eh1 pF2 (g := (mkF m 17 #[(sR o1), (sI 0)] [(.ref o1)])) rfl rfl (hb hby o_d15_17)
 refine o_st (G' := T2.setTop (mkF m 20 #[(sR o1), (sI 0)] [(.ref bb)])) st2 ?_
 obtain ⟨_, X2h, N2h⟩ := o_hide X2 N1h
 refine o_iloadN X2h hx 21 (hb hby o_d15_20) rfl ?_
 obtain ⟨_, _, ⟨T3, Lx3, kc3, nc3⟩, -, X3, ⟨Lc3, hQ3, lq3, yq3, zq3⟩, st3⟩ := Jvm.LawKit.callS X2h hx (y := y15) hown (mvT hZ (W hw 126 rfl)) (mvT hZ (W hw 127 rfl)) (mvT hZ (W hw 58 rfl)) (mvT hZ (W hw 128 rfl)) (by decide) (backOf (W := 0) (o_rm31n1i0 l Z a0 hw [] cs sf GG bb kb c0 h0 n0 Z0 pV4 O0 (hC : o_C c0)) hZ (W hw 128 rfl) (W hw 58 rfl) (by decide) (by decide)) (g := (mkF m 21 #[(sR o1), (sI 0)] [(.int 0), (.ref bb)])) rfl (by rw [hml]; rfl) (argsL := [(.ref bb), (.int 0)]) (rest := []) (lenOf o_pd7 rfl) rfl (o_wl rfl) (hb hby o_d15_21) (fun _ _ => ⟨rfl, e2, (by decide : 0 + 0 ≤ _), (by decide : 0 + 0 ≤ _)⟩)
 dsimp only [Pt.U, Pt.locs, Pt.cells, Pt.slots] at X3 lq3 yq3 zq3 st3 hQ3
 subst lq3 yq3 zq3
 obtain ⟨rfl, Nq3, eh3⟩ := hQ3
 have N3 := Fr.app N2h Nq3
 refine o_st (G' := T3.setTop (mkF m 24 #[(sR o1), (sI 0)] [(.int c0)])) st3 ?_
 obtain ⟨_, X3h, N3h⟩ := o_hide X3 N3
 exact o_retN (t := .char) (z := c0) (Q := o_Q15n1i0U Z cs sf GG o1 bb kb c0 h0 n0) X3h hx hrt (by simp) (hb hby o_d15_24) hlk eh3 ⟨(o_leafI (o_narC hC)), N3h, rfl⟩ (by decide) (by decide)
theorem o_d12_0 : decode jdk_52_method_21_code 0 = .ok (.iconst 0, 1) := by decide +kernel
theorem o_d12_1 : decode jdk_52_method_21_code 1 = .ok (.istore 5, 2) := by decide +kernel
theorem o_d12_3 : decode jdk_52_method_21_code 3 = .ok (.iload 5, 2) := by decide +kernel
theorem o_d12_5 : decode jdk_52_method_21_code 5 = .ok (.iload 4, 2) := by decide +kernel
theorem o_d12_7 : decode jdk_52_method_21_code 7 = .ok (.if_icmp .ge 37, 3) := by decide +kernel
theorem o_d12_10 : decode jdk_52_method_21_code 10 = .ok (.aload_n 0, 1) := by decide +kernel
theorem o_d12_11 : decode jdk_52_method_21_code 11 = .ok (.iload_n 1, 1) := by decide +kernel
theorem o_d12_12 : decode jdk_52_method_21_code 12 = .ok (.caload, 1) := by decide +kernel
theorem o_d12_13 : decode jdk_52_method_21_code 13 = .ok (.istore 6, 2) := by decide +kernel
theorem o_d12_15 : decode jdk_52_method_21_code 15 = .ok (.iload 6, 2) := by decide +kernel
theorem o_d12_17 : decode jdk_52_method_21_code 17 = .ok (.sipush 255, 3) := by decide +kernel
theorem o_d12_20 : decode jdk_52_method_21_code 20 = .ok (.if_icmp .le 6, 3) := by decide +kernel
theorem o_d12_26 : decode jdk_52_method_21_code 26 = .ok (.aload_n 2, 1) := by decide +kernel
theorem o_d12_27 : decode jdk_52_method_21_code 27 = .ok (.iload_n 3, 1) := by decide +kernel
theorem o_d12_28 : decode jdk_52_method_21_code 28 = .ok (.iload 6, 2) := by decide +kernel
theorem o_d12_30 : decode jdk_52_method_21_code 30 = .ok (.i2b, 1) := by decide +kernel
theorem o_d12_31 : decode jdk_52_method_21_code 31 = .ok (.bastore, 1) := by decide +kernel
theorem o_d12_32 : decode jdk_52_method_21_code 32 = .ok (.iinc 1 1, 3) := by decide +kernel
theorem o_d12_35 : decode jdk_52_method_21_code 35 = .ok (.iinc 3 1, 3) := by decide +kernel
theorem o_d12_38 : decode jdk_52_method_21_code 38 = .ok (.iinc 5 1, 3) := by decide +kernel
theorem o_d12_41 : decode jdk_52_method_21_code 41 = .ok (.goto (-38), 3) := by decide +kernel
theorem o_d12_44 : decode jdk_52_method_21_code 44 = .ok (.iload 4, 2) := by decide +kernel
theorem o_d12_46 : decode jdk_52_method_21_code 46 = .ok (.ireturn, 1) := by decide +kernel
def o_Q12n1L (Z : State) (o1 : Addr) (o2 : Addr) (kb : ClassId) (kc : ClassId) (c0 : Int32) (h0 : Heap) (n0 : Nat) (v : Option Value) (h : Heap) (L : List Loc) : Prop := v = some (.int 1) ∧ Fr n0 L ∧ Keep h0 h [o2] ∧ Arv Z h o2 kb .byte 1 [(.int (nar .byte c0.toInt8.toInt32))] (.int 0)
set_option maxRecDepth 65536 in
set_option maxHeartbeats 40000000 in
theorem o_rm12n1L (l : Launch) (Z : State) (a0 : Array Value) (hw : o_Hw Z a0) (ws : List Jvm.Cond) (o1 : Addr) (o2 : Addr) (kb : ClassId) (kc : ClassId) (c0 : Int32) (h0 : Heap) (n0 : Nat) (Z0 : n0 ≤ h0.size) (pV1 : Arv Z h0 o1 kc .char 1 [(.int c0)] (.int 0)) (pV2 : Arv Z h0 o2 kb .byte 1 [(.int 0)] (.int 0)) (pG3 : n0 ≤ o2) (pN4 : o1 ≠ o2) (hL0 : ¬ (255 : Int32) < c0) :
  o_Met l y26 jdk_52_method_21_code 7 (some .int) ws r0 #[(.ref o1), (.int 0), (.ref o2), (.int 0), (.int 1)] Z h0 (o_Q12n1L Z o1 o2 kb kc c0 h0 n0) := by
 refine MetFree.of_bodySF (plainFor_of_name o_pn4) hisR ?_
 intro p e s m args below meth c s₁ Bd hml0 hP hK
 obtain ⟨rfl, hZ, hh⟩ := hP
 obtain ⟨hx, hby, hlk, hrt⟩ := o_bd Bd
 have X0 : Stand p l e r0 s m #[(.ref o1), (.int 0), (.ref o2), (.int 0), (.int 1)] below meth c s₁ [] 0 0 := Stand.of_body Bd
 have e0 := o_e0 Bd hh
 have N0 := Fr.nil n0
 have KC0 := Keep.refl h0 [o2]
 refine o_in (g' := mkF m 0 #[(sR o1), (sI 0), (sR o2), (sI 0), (sI 1), .unset, .unset] []) (by simp [entryFrame, mkF, argsToLocals, Value.category]) ?_
 refine o_iconst X0 hx 1 0 (hb hby o_d12_0) rfl ?_
 refine o_istore X0 hx 3 #[(sR o1), (sI 0), (sR o2), (sI 0), (sI 1), (sI 0), .unset] (hb hby o_d12_1) rfl ?_
 refine o_iload X0 hx 5 (hb hby o_d12_3) rfl ?_
 refine o_iload X0 hx 7 (hb hby o_d12_5) rfl ?_
 refine o_icmpNo X0 hx 10 (hb hby o_d12_7) (tlt (by decide : (0 : Int32) < (1 : Int32))).2.1 ?_
 refine o_aloadN X0 hx 11 (hb hby o_d12_10) rfl rfl ?_
 refine o_iloadN X0 hx 12 (hb hby o_d12_11) rfl ?_
 obtain ⟨cl1, Ar1, qv1, S1, M1, H1, G1⟩ := id pV1
 have hin1 := inb_of (j := (0 : Int32)) S1 ⟨by decide, by decide⟩
 refine o_st (G' := s₁.setTop (mkF m 13 #[(sR o1), (sI 0), (sR o2), (sI 0), (sI 1), (sI 0), .unset] [(.int c0)])) (fun t k => X0.caload hx (j := (0 : Int32)) (v := (.int c0)) (by rw [e0]; exact Ar1.1) (State.isArrayOf_alike hZ.alike Ar1.2.1) Ar1.2.2 hin1 (H1.at hin1 rfl) (g := (mkF m 12 #[(sR o1), (sI 0), (sR o2), (sI 0), (sI 1), (sI 0), .unset] [(.int 0), (.ref o1)])) rfl rfl (hb hby o_d12_12) _ k) ?_
 refine o_istore X0 hx 15 #[(sR o1), (sI 0), (sR o2), (sI 0), (sI 1), (sI 0), (sI c0)] (hb hby o_d12_13) rfl ?_
 refine o_iload X0 hx 17 (hb hby o_d12_15) rfl ?_
 refine o_sipush X0 hx 20 255 (hb hby o_d12_17) rfl ?_
 refine o_icmpYes X0 hx 26 (hb hby o_d12_20) (flt hL0).2.2.2 ?_
 refine o_aloadN X0 hx 27 (hb hby o_d12_26) rfl rfl ?_
 refine o_iloadN X0 hx 28 (hb hby o_d12_27) rfl ?_
 refine o_iload X0 hx 30 (hb hby o_d12_28) rfl ?_
 refine o_i2b X0 hx 31 (hb hby o_d12_30) ?_
 obtain ⟨cl2, Ar2, qv2, S2, M2, H2, G2⟩ := id pV2
 have hin2 := inb_of (j := (0 : Int32)) S2 ⟨by decide, by decide⟩
 obtain ⟨T2, h2, X2, e2, W2, st2⟩ := stB X0 hx hZ e0 Ar2 (j := (0 : Int32)) hin2 (g := (mkF m 31 #[(sR o1), (sI 0), (sR o2), (sI 0), (sI 1), (sI 0), (sI c0)] [(.int (c0.toInt8.toInt32)), (.int 0), (.ref o2)])) rfl rfl (hb hby o_d12_31)
 have V2 : Arv Z h2 o2 kb .byte 1 [(.int (nar .byte (c0.toInt8.toInt32)))] (.int 0) := Arv.set Ar2 qv2 S2 M2 H2 G2 (fits_nar_byte _) W2 0 rfl (Nat.le_of_ble_eq_true rfl)
 have N2 := Fr.snoc X2 N0 pG3
 have KC3 := KC0.wr W2 (Or.inl (List.mem_of_getElem? (i := 0) rfl))
 refine o_st (G' := T2.setTop (mkF m 32 #[(sR o1), (sI 0), (sR o2), (sI 0), (sI 1), (sI 0), (sI c0)] [])) st2 ?_
 obtain ⟨_, X2h, N2h⟩ := o_hide X2 N2
 refine o_iinc X2h hx 35 (1 : Int32) #[(sR o1), (sI 1), (sR o2), (sI 0), (sI 1), (sI 0), (sI c0)] (hb hby o_d12_32) rfl rfl rfl ?_
 refine o_iinc X2h hx 38 (1 : Int32) #[(sR o1), (sI 1), (sR o2), (sI 1), (sI 1), (sI 0), (sI c0)] (hb hby o_d12_35) rfl rfl rfl ?_
 refine o_iinc X2h hx 41 (1 : Int32) #[(sR o1), (sI 1), (sR o2), (sI 1), (sI 1), (sI 1), (sI c0)] (hb hby o_d12_38) rfl rfl rfl ?_
 refine o_goto X2h hx 3 (hb hby o_d12_41) ?_
 refine o_iload X2h hx 5 (hb hby o_d12_3) rfl ?_
 refine o_iload X2h hx 7 (hb hby o_d12_5) rfl ?_
 refine o_icmpYes X2h hx 44 (hb hby o_d12_7) (flt (by decide : ¬ ((1 : Int32) < (1 : Int32)))).2.1 ?_
 refine o_iload X2h hx 46 (hb hby o_d12_44) rfl ?_
 exact o_retI (z := (1 : Int32)) (Q := o_Q12n1L Z o1 o2 kb kc c0 h0 n0) X2h hx hrt (hb hby o_d12_46) hlk e2 ⟨rfl, N2h, KC3, V2⟩ (by decide) (by decide)
theorem o_d12_23 : decode jdk_52_method_21_code 23 = .ok (.iload 5, 2) := by decide +kernel
theorem o_d12_25 : decode jdk_52_method_21_code 25 = .ok (.ireturn, 1) := by decide +kernel
def o_Q12n1k0 (Z : State) (o1 : Addr) (o2 : Addr) (kb : ClassId) (kc : ClassId) (c0 : Int32) (h0 : Heap) (n0 : Nat) (v : Option Value) (h : Heap) (L : List Loc) : Prop := v = some (.int 0) ∧ Fr n0 L ∧ Keep h0 h [o2]
set_option maxRecDepth 65536 in
set_option maxHeartbeats 40000000 in
theorem o_rm12n1k0 (l : Launch) (Z : State) (a0 : Array Value) (hw : o_Hw Z a0) (ws : List Jvm.Cond) (o1 : Addr) (o2 : Addr) (kb : ClassId) (kc : ClassId) (c0 : Int32) (h0 : Heap) (n0 : Nat) (Z0 : n0 ≤ h0.size) (pV1 : Arv Z h0 o1 kc .char 1 [(.int c0)] (.int 0)) (pV2 : Arv Z h0 o2 kb .byte 1 [(.int 0)] (.int 0)) (pG3 : n0 ≤ o2) (pN4 : o1 ≠ o2) (hU : (255 : Int32) < c0) :
  o_Met l y26 jdk_52_method_21_code 7 (some .int) ws r0 #[(.ref o1), (.int 0), (.ref o2), (.int 0), (.int 1)] Z h0 (o_Q12n1k0 Z o1 o2 kb kc c0 h0 n0) := by
 refine MetFree.of_bodySF (plainFor_of_name o_pn4) hisR ?_
 intro p e s m args below meth c s₁ Bd hml0 hP hK
 obtain ⟨rfl, hZ, hh⟩ := hP
 obtain ⟨hx, hby, hlk, hrt⟩ := o_bd Bd
 have X0 : Stand p l e r0 s m #[(.ref o1), (.int 0), (.ref o2), (.int 0), (.int 1)] below meth c s₁ [] 0 0 := Stand.of_body Bd
 have e0 := o_e0 Bd hh
 have N0 := Fr.nil n0
 have KC0 := Keep.refl h0 [o2]
 refine o_in (g' := mkF m 0 #[(sR o1), (sI 0), (sR o2), (sI 0), (sI 1), .unset, .unset] []) (by simp [entryFrame, mkF, argsToLocals, Value.category]) ?_
 refine o_iconst X0 hx 1 0 (hb hby o_d12_0) rfl ?_
 refine o_istore X0 hx 3 #[(sR o1), (sI 0), (sR o2), (sI 0), (sI 1), (sI 0), .unset] (hb hby o_d12_1) rfl ?_
 refine o_iload X0 hx 5 (hb hby o_d12_3) rfl ?_
 refine o_iload X0 hx 7 (hb hby o_d12_5) rfl ?_
 refine o_icmpNo X0 hx 10 (hb hby o_d12_7) (tlt (by decide : (0 : Int32) < (1 : Int32))).2.1 ?_
 refine o_aloadN X0 hx 11 (hb hby o_d12_10) rfl rfl ?_
 refine o_iloadN X0 hx 12 (hb hby o_d12_11) rfl ?_
 obtain ⟨cl1, Ar1, qv1, S1, M1, H1, G1⟩ := id pV1
 have hin1 := inb_of (j := (0 : Int32)) S1 ⟨by decide, by decide⟩
 refine o_st (G' := s₁.setTop (mkF m 13 #[(sR o1), (sI 0), (sR o2), (sI 0), (sI 1), (sI 0), .unset] [(.int c0)])) (fun t k => X0.caload hx (j := (0 : Int32)) (v := (.int c0)) (by rw [e0]; exact Ar1.1) (State.isArrayOf_alike hZ.alike Ar1.2.1) Ar1.2.2 hin1 (H1.at hin1 rfl) (g := (mkF m 12 #[(sR o1), (sI 0), (sR o2), (sI 0), (sI 1), (sI 0), .unset] [(.int 0), (.ref o1)])) rfl rfl (hb hby o_d12_12) _ k) ?_
 refine o_istore X0 hx 15 #[(sR o1), (sI 0), (sR o2), (sI 0), (sI 1), (sI 0), (sI c0)] (hb hby o_d12_13) rfl ?_
 refine o_iload X0 hx 17 (hb hby o_d12_15) rfl ?_
 refine o_sipush X0 hx 20 255 (hb hby o_d12_17) rfl ?_
 refine o_icmpNo X0 hx 23 (hb hby o_d12_20) (tlt hU).2.2.2 ?_
 refine o_iload X0 hx 25 (hb hby o_d12_23) rfl ?_
 exact o_retI (z := (0 : Int32)) (Q := o_Q12n1k0 Z o1 o2 kb kc c0 h0 n0) X0 hx hrt (hb hby o_d12_25) hlk e0 ⟨rfl, N0, KC0⟩ (by decide) (by decide)
theorem o_d11_0 : decode jdk_52_method_16_code 0 = .ok (.iload_n 2, 1) := by decide +kernel
theorem o_d11_1 : decode jdk_52_method_16_code 1 = .ok (.newarray .byte, 2) := by decide +kernel
theorem o_d11_3 : decode jdk_52_method_16_code 3 = .ok (.astore_n 3, 1) := by decide +kernel
theorem o_d11_4 : decode jdk_52_method_16_code 4 = .ok (.aload_n 0, 1) := by decide +kernel
theorem o_d11_5 : decode jdk_52_method_16_code 5 = .ok (.iload_n 1, 1) := by decide +kernel
theorem o_d11_6 : decode jdk_52_method_16_code 6 = .ok (.aload_n 3, 1) := by decide +kernel
theorem o_d11_7 : decode jdk_52_method_16_code 7 = .ok (.iconst 0, 1) := by decide +kernel
theorem o_d11_8 : decode jdk_52_method_16_code 8 = .ok (.iload_n 2, 1) := by decide +kernel
theorem o_d11_9 : decode jdk_52_method_16_code 9 = .ok (.invokestatic 115, 3) := by decide +kernel
theorem o_d11_12 : decode jdk_52_method_16_code 12 = .ok (.istore 4, 2) := by decide +kernel
theorem o_d11_14 : decode jdk_52_method_16_code 14 = .ok (.iload 4, 2) := by decide +kernel
theorem o_d11_16 : decode jdk_52_method_16_code 16 = .ok (.iload_n 2, 1) := by decide +kernel
theorem o_d11_17 : decode jdk_52_method_16_code 17 = .ok (.if_icmp .eq 40, 3) := by decide +kernel
theorem o_d11_57 : decode jdk_52_method_16_code 57 = .ok (.aload_n 3, 1) := by decide +kernel
theorem o_d11_58 : decode jdk_52_method_16_code 58 = .ok (.areturn, 1) := by decide +kernel
theorem o_pd16 : parseMethodDescriptor "([CI[BII)I" = some ⟨[(.array .char), .int, (.array .byte), .int, .int], some .int⟩ := by decide +kernel
def o_Q11n1L (Z : State) (cs : Int32) (sf : Value) (GG : o_G Z cs sf) (o1 : Addr) (kc : ClassId) (c0 : Int32) (h0 : Heap) (n0 : Nat) (v : Option Value) (h : Heap) (L : List Loc) : Prop := ∃ bb : Addr, ∃ kb : ClassId, v = some (.ref bb) ∧ Fr n0 L ∧ Keep h0 h [] ∧ h0.size ≤ bb ∧ Arv Z h bb kb .byte 1 [(.int (nar .byte c0.toInt8.toInt32))] (.int 0)
set_option maxRecDepth 65536 in
set_option maxHeartbeats 40000000 in
theorem o_rm11n1L (l : Launch) (Z : State) (a0 : Array Value) (hw : o_Hw Z a0) (ws : List Jvm.Cond) (cs : Int32) (sf : Value) (GG : o_G Z cs sf) (o1 : Addr) (kc : ClassId) (c0 : Int32) (h0 : Heap) (n0 : Nat) (Z0 : n0 ≤ h0.size) (pV1 : Arv Z h0 o1 kc .char 1 [(.int c0)] (.int 0)) (O0 : Old Z n0 h0) (hC0 : o_C c0) (hL0 : ¬ (255 : Int32) < c0) :
  o_Met l y27 jdk_52_method_16_code 6 (some (.array .byte)) ws r15 #[(.ref o1), (.int 0), (.int 1)] Z h0 (o_Q11n1L Z cs sf GG o1 kc c0 h0 n0) := by
 refine MetFree.of_bodySF (plainFor_of_name o_pn4) hisR ?_
 intro p e s m args below meth c s₁ Bd hml0 hP hK
 obtain ⟨rfl, hZ, hh⟩ := hP
 obtain ⟨hx, hby, hlk, hrt⟩ := o_bd Bd
 have hml : c.maxLocals = 6 := hml0
 have hown : s.vm.findClass "java/lang/StringUTF16" = some m.cls := findClass_of_methodNamed Bd.named
 have X0 : Stand p l e r15 s m #[(.ref o1), (.int 0), (.int 1)] below meth c s₁ [] 0 0 := Stand.of_body Bd
 have e0 := o_e0 Bd hh
 have N0 := Fr.nil n0
 have KC0 := Keep.refl h0 []
 refine o_in (g' := mkF m 0 #[(sR o1), (sI 0), (sI 1), .unset, .unset, .unset] []) (by simp [entryFrame, mkF, argsToLocals, Value.category]) ?_
 refine o_iloadN X0 hx 1 (hb hby o_d11_0) rfl ?_
 obtain ⟨T1, h1, k1, X1, e1, E1, A1, st1⟩ := newP X0 hx hZ (W hw 15 rfl) e0 (g := (mkF m 1 #[(sR o1), (sI 0), (sI 1), .unset, .unset, .unset] [(.int 1)])) rfl (hb hby o_d11_1) rfl (by decide) (cap := 1) (by decide) (by decide) (by decide) (by decide)
 obtain ⟨b1, g1⟩ : ∃ z, z = h0.size := ⟨_, rfl⟩
 rw [← g1] at A1 st1
 have ne2 : o1 ≠ b1 := Nat.ne_of_lt (Nat.lt_of_lt_of_le pV1.lt (Nat.le_of_eq g1.symm))
 have gt_b1 : n0 ≤ b1 := Nat.le_trans Z0 (Nat.le_of_eq g1.symm)
 have sz_b1 : h0.size ≤ b1 := Nat.le_trans KC0.1 (Nat.le_of_eq g1.symm)
 have V1 : Arv Z h1 b1 k1 .byte 1 [(.int 0)] (.int 0) := (Arv.new A1 (by decide)).pad (pad_rep [] (.int 0) 1)
 have KC4 := KC0.ext E1
 have Z5 := Nat.le_trans Z0 E1.1
 refine o_st (G' := T1.setTop (mkF m 3 #[(sR o1), (sI 0), (sI 1), .unset, .unset, .unset] [(.ref b1)])) st1 ?_
 obtain ⟨_, X1h, N1h⟩ := o_hide X1 N0
 refine o_astoreN X1h hx 4 #[(sR o1), (sI 0), (sI 1), (sR b1), .unset, .unset] (hb hby o_d11_3) rfl rfl ?_
 refine o_aloadN X1h hx 5 (hb hby o_d11_4) rfl rfl ?_
 refine o_iloadN X1h hx 6 (hb hby o_d11_5) rfl ?_
 refine o_aloadN X1h hx 7 (hb hby o_d11_6) rfl rfl ?_
 refine o_iconst X1h hx 8 0 (hb hby o_d11_7) rfl ?_
 refine o_iloadN X1h hx 9 (hb hby o_d11_8) rfl ?_
 have f6 := (pV1.ext E1)
 obtain ⟨_, _, ⟨T7, Lx7, kc7, nc7⟩, -, X7, ⟨Lc7, hQ7, lq7, yq7, zq7⟩, st7⟩ := Jvm.LawKit.callS X1h hx (y := y26) hown (mvT hZ (W hw 60 rfl)) (mvT hZ (W hw 61 rfl)) (mvT hZ (W hw 58 rfl)) (mvT hZ (W hw 62 rfl)) (by decide) (backOf (W := 0) (o_rm12n1L l Z a0 hw [] o1 b1 k1 kc c0 h1 n0 Z5 f6 V1 gt_b1 ne2 (hL0 : ¬ (255 : Int32) < c0)) hZ (W hw 62 rfl) (W hw 58 rfl) (by decide) (by decide)) (g := (mkF m 9 #[(sR o1), (sI 0), (sI 1), (sR b1), .unset, .unset] [(.int 1), (.int 0), (.ref b1), (.int 0), (.ref o1)])) rfl (by rw [hml]; rfl) (argsL := [(.ref o1), (.int 0), (.ref b1), (.int 0), (.int 1)]) (rest := []) (lenOf o_pd16 rfl) rfl (o_wl rfl) (hb hby o_d11_9) (fun _ _ => ⟨rfl, e1, (by decide : 1 + 0 ≤ _), (by decide : 1 + 0 ≤ _)⟩)
 dsimp only [Pt.U, Pt.locs, Pt.cells, Pt.slots] at X7 lq7 yq7 zq7 st7 hQ7
 subst lq7 yq7 zq7
 obtain ⟨rfl, Nq7, Kp7, G7_0⟩ := hQ7
 have N7 := Fr.app N1h Nq7
 have KC9 := KC4.trans Kp7 (allS (Or.inr sz_b1) all0)
 refine o_st (G' := T7.setTop (mkF m 12 #[(sR o1), (sI 0), (sI 1), (sR b1), .unset, .unset] [(.int 1)])) st7 ?_
 obtain ⟨_, X7h, N7h⟩ := o_hide X7 N7
 refine o_istore X7h hx 14 #[(sR o1), (sI 0), (sI 1), (sR b1), (sI 1), .unset] (hb hby o_d11_12) rfl ?_
 refine o_iload X7h hx 16 (hb hby o_d11_14) rfl ?_
 refine o_iloadN X7h hx 17 (hb hby o_d11_16) rfl ?_
 refine o_icmpYes X7h hx 57 (hb hby o_d11_17) (teq (rfl : (1 : Int32) = (1 : Int32))).1 ?_
 refine o_aloadN X7h hx 58 (hb hby o_d11_57) rfl rfl ?_
 exact o_retA (z := (.ref b1)) (Q := o_Q11n1L Z cs sf GG o1 kc c0 h0 n0) X7h hx hrt rfl rfl (hb hby o_d11_58) hlk rfl ⟨b1, k1, rfl, N7h, KC9, sz_b1, G7_0⟩ (by decide) (by decide)
theorem o_d2_0 : decode jdk_42_method_149_code 0 = .ok (.aload_n 0, 1) := by decide +kernel
theorem o_d2_1 : decode jdk_42_method_149_code 1 = .ok (.invokespecial 1, 3) := by decide +kernel
theorem o_d2_4 : decode jdk_42_method_149_code 4 = .ok (.iload_n 3, 1) := by decide +kernel
theorem o_d2_5 : decode jdk_42_method_149_code 5 = .ok (.ifCond .ne 22, 3) := by decide +kernel
theorem o_d2_27 : decode jdk_42_method_149_code 27 = .ok (.getstatic 38, 3) := by decide +kernel
theorem o_d2_30 : decode jdk_42_method_149_code 30 = .ok (.ifCond .eq 28, 3) := by decide +kernel
theorem o_d2_33 : decode jdk_42_method_149_code 33 = .ok (.aload_n 1, 1) := by decide +kernel
theorem o_d2_34 : decode jdk_42_method_149_code 34 = .ok (.iload_n 2, 1) := by decide +kernel
theorem o_d2_35 : decode jdk_42_method_149_code 35 = .ok (.iload_n 3, 1) := by decide +kernel
theorem o_d2_36 : decode jdk_42_method_149_code 36 = .ok (.invokestatic 177, 3) := by decide +kernel
theorem o_d2_39 : decode jdk_42_method_149_code 39 = .ok (.astore 5, 2) := by decide +kernel
theorem o_d2_41 : decode jdk_42_method_149_code 41 = .ok (.aload_n 0, 1) := by decide +kernel
theorem o_d2_42 : decode jdk_42_method_149_code 42 = .ok (.aload 5, 2) := by decide +kernel
theorem o_d2_44 : decode jdk_42_method_149_code 44 = .ok (.iload_n 3, 1) := by decide +kernel
theorem o_d2_45 : decode jdk_42_method_149_code 45 = .ok (.invokestatic 47, 3) := by decide +kernel
theorem o_d2_48 : decode jdk_42_method_149_code 48 = .ok (.putfield 15, 3) := by decide +kernel
theorem o_d2_51 : decode jdk_42_method_149_code 51 = .ok (.aload_n 0, 1) := by decide +kernel
theorem o_d2_52 : decode jdk_42_method_149_code 52 = .ok (.aload 5, 2) := by decide +kernel
theorem o_d2_54 : decode jdk_42_method_149_code 54 = .ok (.putfield 9, 3) := by decide +kernel
theorem o_d2_57 : decode jdk_42_method_149_code 57 = .ok (.return_, 1) := by decide +kernel
theorem o_pd17 : parseMethodDescriptor "([CII)[B" = some ⟨[(.array .char), .int, .int], some (.array .byte)⟩ := by decide +kernel
theorem o_pd18 : parseMethodDescriptor "([BI)B" = some ⟨[(.array .byte), .int], some .byte⟩ := by decide +kernel
def o_Q2n1L (Z : State) (cs : Int32) (sf : Value) (GG : o_G Z cs sf) (o1 : Addr) (o2 : Addr) (kc : ClassId) (c0 : Int32) (h0 : Heap) (n0 : Nat) (v : Option Value) (h : Heap) (L : List Loc) : Prop := ∃ bb : Addr, ∃ kb : ClassId, v = none ∧ Fr n0 L ∧ Keep h0 h [o1] ∧ Exa Z h o1 "java/lang/String" ∧ h0.size ≤ bb ∧ Fld Z h o1 "java/lang/String" "value" "[B" (.ref bb) ∧ Fld Z h o1 "java/lang/String" "coder" "B" (.int 0) ∧ Arv Z h bb kb .byte 1 [(.int (nar .byte c0.toInt8.toInt32))] (.int 0)
set_option maxRecDepth 65536 in
set_option maxHeartbeats 40000000 in
theorem o_rm2n1L (l : Launch) (Z : State) (a0 : Array Value) (hw : o_Hw Z a0) (ws : List Jvm.Cond) (cs : Int32) (sf : Value) (GG : o_G Z cs sf) (o1 : Addr) (o2 : Addr) (kc : ClassId) (c0 : Int32) (h0 : Heap) (n0 : Nat) (Z0 : n0 ≤ h0.size) (pE1 : Exa Z h0 o1 "java/lang/String") (pF2 : Fld Z h0 o1 "java/lang/String" "value" "[B" .null) (pF3 : Fld Z h0 o1 "java/lang/String" "coder" "B" (.int 0)) (pG4 : n0 ≤ o1) (O0 : Old Z n0 h0) (pV6 : Arv Z h0 o2 kc .char 1 [(.int c0)] (.int 0)) (hC0 : o_C c0) (hL0 : ¬ (255 : Int32) < c0) :
  o_Met l y28 jdk_42_method_149_code 6 none ws r16 #[(.ref o1), (.ref o2), (.int 0), (.int 1), .null] Z h0 (o_Q2n1L Z cs sf GG o1 o2 kc c0 h0 n0) := by
 refine MetFree.of_bodySF (plainFor_of_name o_pn3) hisR ?_
 intro p e s m args below meth c s₁ Bd hml0 hP hK
 obtain ⟨rfl, hZ, hh⟩ := hP
 obtain ⟨hx, hby, hlk, hrt⟩ := o_bd Bd
 have hml : c.maxLocals = 6 := hml0
 have hown : s.vm.findClass "java/lang/String" = some m.cls := findClass_of_methodNamed Bd.named
 have hnm := (name_of_methodNamed Bd.named Bd.method).1
 have X0 : Stand p l e r16 s m #[(.ref o1), (.ref o2), (.int 0), (.int 1), .null] below meth c s₁ [] 0 0 := Stand.of_body Bd
 have e0 := o_e0 Bd hh
 have N0 := Fr.nil n0
 have KC0 := Keep.refl h0 [o1]
 refine o_in (g' := mkF m 0 #[(sR o1), (sR o2), (sI 0), (sI 1), .val .null, .unset] []) (by simp [entryFrame, mkF, argsToLocals, Value.category]) ?_
 refine o_aloadN X0 hx 1 (hb hby o_d2_0) rfl rfl ?_
 obtain ⟨T1, X1, e1, st1⟩ := initO X0 hx hZ hown (W hw 11 rfl) (W hw 12 rfl) (W hw 13 rfl) e0 (g := (mkF m 1 #[(sR o1), (sR o2), (sI 0), (sI 1), .val .null, .unset] [(.ref o1)])) rfl (by rw [hml]; rfl) rfl (hb hby o_d2_1) (by decide) (W := 0) (o_wl rfl) (by decide)
 refine o_st (G' := T1.setTop (mkF m 4 #[(sR o1), (sR o2), (sI 0), (sI 1), .val .null, .unset] [])) st1 ?_
 obtain ⟨_, X1h, N1h⟩ := o_hide X1 N0
 refine o_iloadN X1h hx 5 (hb hby o_d2_4) rfl ?_
 refine o_ifYes X1h hx 27 (hb hby o_d2_5) (feq (by decide : ¬ ((1 : Int32) = (0 : Int32)))).2 ?_
 obtain ⟨T2, X2, e2, st2⟩ := getS2 X1h hx hZ hown (host := "") (Or.inl (W hw 36 rfl)) Via.refl e1 (GG.1.ext O0.2) (g := (mkF m 27 #[(sR o1), (sR o2), (sI 0), (sI 1), .val .null, .unset] [])) rfl (hb hby o_d2_27)
 refine o_st (G' := T2.setTop (mkF m 30 #[(sR o1), (sR o2), (sI 0), (sI 1), .val .null, .unset] [(.int cs)])) st2 ?_
 obtain ⟨_, X2h, N2h⟩ := o_hide X2 N1h
 refine o_ifNo X2h hx 33 (hb hby o_d2_30) (feq (GG.2.1 : ¬ (cs = (0 : Int32)))).1 ?_
 refine o_aloadN X2h hx 34 (hb hby o_d2_33) rfl rfl ?_
 refine o_iloadN X2h hx 35 (hb hby o_d2_34) rfl ?_
 refine o_iloadN X2h hx 36 (hb hby o_d2_35) rfl ?_
 obtain ⟨_, _, ⟨T3, Lx3, kc3, nc3⟩, -, X3, ⟨Lc3, hQ3, lq3, yq3, zq3⟩, st3⟩ := Jvm.LawKit.callS X2h hx (y := y27) hown (mvT hZ (W hw 56 rfl)) (mvT hZ (W hw 57 rfl)) (mvT hZ (W hw 58 rfl)) (mvT hZ (W hw 59 rfl)) (by decide) (backOf (W := 0) (o_rm11n1L l Z a0 hw [] cs sf GG o2 kc c0 h0 n0 Z0 pV6 O0 (hC0 : o_C c0) (hL0 : ¬ (255 : Int32) < c0)) hZ (W hw 59 rfl) (W hw 58 rfl) (by decide) (by decide)) (g := (mkF m 36 #[(sR o1), (sR o2), (sI 0), (sI 1), .val .null, .unset] [(.int 1), (.int 0), (.ref o2)])) rfl (by rw [hml]; rfl) (argsL := [(.ref o2), (.int 0), (.int 1)]) (rest := []) (lenOf o_pd17 rfl) rfl (o_wl rfl) (hb hby o_d2_36) (fun _ _ => ⟨rfl, e2, (by decide : 0 + 1 ≤ _), (by decide : 0 + 1 ≤ _)⟩)
 dsimp only [Pt.U, Pt.locs, Pt.cells, Pt.slots] at X3 lq3 yq3 zq3 st3 hQ3
 subst lq3 yq3 zq3
 obtain ⟨bb_3, kb_3, rfl, Nq3, Kp3, G3_0, G3_1⟩ := hQ3
 have N3 := Fr.app N2h Nq3
 have ne4 : o1 ≠ bb_3 := Nat.ne_of_lt (Nat.lt_of_lt_of_le pE1.lt G3_0)
 have sz_bb_3 : h0.size ≤ bb_3 := Nat.le_trans KC0.1 G3_0
 have KC7 := KC0.trans Kp3 all0
 have Z8 := Nat.le_trans Z0 Kp3.1
 refine o_st (G' := T3.setTop (mkF m 39 #[(sR o1), (sR o2), (sI 0), (sI 1), .val .null, .unset] [(.ref bb_3)])) st3 ?_
 obtain ⟨_, X3h, N3h⟩ := o_hide X3 N3
 refine o_astore X3h hx 41 #[(sR o1), (sR o2), (sI 0), (sI 1), .val .null, (sR bb_3)] (hb hby o_d2_39) rfl rfl ?_
 refine o_aloadN X3h hx 42 (hb hby o_d2_41) rfl rfl ?_
 refine o_aload X3h hx 44 (hb hby o_d2_42) rfl rfl ?_
 refine o_iloadN X3h hx 45 (hb hby o_d2_44) rfl ?_
 obtain ⟨_, _, ⟨T9, Lx9, kc9, nc9⟩, -, X9, ⟨Lc9, hQ9, lq9, yq9, zq9⟩, st9⟩ := Jvm.LawKit.callS X3h hx (y := y22) hown (mvT hZ (W hw 63 rfl)) (mvT hZ (W hw 64 rfl)) (mvT hZ (W hw 58 rfl)) (mvT hZ (W hw 65 rfl)) (by decide) (backOf (W := 1) (o_rm13n1L l Z a0 hw [] bb_3 kb_3 [(.int (nar .byte c0.toInt8.toInt32))] T3.heap n0 Z8 G3_1) hZ (W hw 65 rfl) (W hw 58 rfl) (by decide) (by decide)) (g := (mkF m 45 #[(sR o1), (sR o2), (sI 0), (sI 1), .val .null, (sR bb_3)] [(.int 1), (.ref bb_3), (.ref o1)])) rfl (by rw [hml]; rfl) (argsL := [(.ref bb_3), (.int 1)]) (rest := [(.ref o1)]) (lenOf o_pd18 rfl) rfl (o_wl rfl) (hb hby o_d2_45) (fun _ _ => ⟨rfl, rfl, (by decide : 1 + 0 ≤ _), (by decide : 1 + 0 ≤ _)⟩)
 dsimp only [Pt.U, Pt.locs, Pt.cells, Pt.slots] at X9 lq9 yq9 zq9 st9 hQ9
 subst lq9 yq9 zq9
 obtain ⟨rfl, Nq9, eh9⟩ := hQ9
 have N9 := Fr.app N3h Nq9
 refine o_st (G' := T9.setTop (mkF m 48 #[(sR o1), (sR o2), (sI 0), (sI 1), .val .null, (sR bb_3)] [(.int 0), (.ref o1)])) st9 ?_
 obtain ⟨_, X9h, N9h⟩ := o_hide X9 N9
 have f10 := (pF3.keep Kp3 nin0)
 have f11 := (pE1.keep Kp3)
 obtain ⟨T12, h12, X12, e12, W12, st12⟩ := putFN X9h hx hZ hown (W hw 21 rfl) Via.refl eh9 f10 f11 (Or.inr ⟨(W hw 17 rfl), rfl, hnm⟩) (W hw 2 rfl) (ty := .byte) (v' := (.int 0)) (by decide) rfl rfl (g := (mkF m 48 #[(sR o1), (sR o2), (sI 0), (sI 1), .val .null, (sR bb_3)] [(.int 0), (.ref o1)])) rfl rfl (hb hby o_d2_48)
 have Fw12 := f10.same W12
 have N12 := Fr.snoc X12 N9h pG4
 have KC14 := KC7.wr W12 (Or.inl (List.mem_of_getElem? (i := 0) rfl))
 refine o_st (G' := T12.setTop (mkF m 51 #[(sR o1), (sR o2), (sI 0), (sI 1), .val .null, (sR bb_3)] [])) st12 ?_
 obtain ⟨_, X12h, N12h⟩ := o_hide X12 N12
 refine o_aloadN X12h hx 52 (hb hby o_d2_51) rfl rfl ?_
 refine o_aload X12h hx 54 (hb hby o_d2_52) rfl rfl ?_
 have f16 := ((pF2.keep Kp3 nin0).other W12 (Or.inr (slot_ne (Or.inr (W hw 16 rfl)) (Or.inr (W hw 17 rfl)) (by decide) (t := (.array .byte)) (t' := .byte) (by decide) (by decide))))
 have f17 := (f11.wr W12)
 obtain ⟨T18, h18, X18, e18, W18, st18⟩ := putF X12h hx hZ hown (host := "") (Or.inl (W hw 20 rfl)) Via.refl e12 f16 f17 (Or.inr ⟨(W hw 16 rfl), rfl, hnm⟩) (W hw 2 rfl) (v := (.ref bb_3)) (ty := (.array .byte)) (by decide) rfl rfl (g := (mkF m 54 #[(sR o1), (sR o2), (sI 0), (sI 1), .val .null, (sR bb_3)] [(.ref bb_3), (.ref o1)])) rfl rfl (hb hby o_d2_54)
 have Fw18 := f16.same W18
 have N18 := Fr.snoc X18 N12h pG4
 have KC20 := KC14.wr W18 (Or.inl (List.mem_of_getElem? (i := 0) rfl))
 refine o_st (G' := T18.setTop (mkF m 57 #[(sR o1), (sR o2), (sI 0), (sI 1), .val .null, (sR bb_3)] [])) st18 ?_
 obtain ⟨_, X18h, N18h⟩ := o_hide X18 N18
 have f22 := (f17.wr W18)
 have f23 := (Fw12.other W18 (Or.inr (slot_ne (Or.inr (W hw 17 rfl)) (Or.inr (W hw 16 rfl)) (by decide) (t := .byte) (t' := (.array .byte)) (by decide) (by decide))))
 have f24 := ((G3_1.other W12 (Ne.symm ne4)).other W18 (Ne.symm ne4))
 exact o_retV (Q := o_Q2n1L Z cs sf GG o1 o2 kc c0 h0 n0) X18h hx hrt (hb hby o_d2_57) hlk e18 ⟨bb_3, kb_3, rfl, N18h, KC20, f22, sz_bb_3, Fw18, f23, f24⟩ (by decide) (by decide)
theorem o_d1_0 : decode jdk_42_method_3_code 0 = .ok (.aload_n 0, 1) := by decide +kernel
theorem o_d1_1 : decode jdk_42_method_3_code 1 = .ok (.aload_n 1, 1) := by decide +kernel
theorem o_d1_2 : decode jdk_42_method_3_code 2 = .ok (.iconst 0, 1) := by decide +kernel
theorem o_d1_3 : decode jdk_42_method_3_code 3 = .ok (.aload_n 1, 1) := by decide +kernel
theorem o_d1_4 : decode jdk_42_method_3_code 4 = .ok (.arraylength, 1) := by decide +kernel
theorem o_d1_5 : decode jdk_42_method_3_code 5 = .ok (.aconst_null, 1) := by decide +kernel
theorem o_d1_6 : decode jdk_42_method_3_code 6 = .ok (.invokespecial 27, 3) := by decide +kernel
theorem o_d1_9 : decode jdk_42_method_3_code 9 = .ok (.return_, 1) := by decide +kernel
theorem o_pd19 : parseMethodDescriptor "([CIILjava/lang/Void;)V" = some ⟨[(.array .char), .int, .int, (.object "java/lang/Void")], none⟩ := by decide +kernel
def o_Q1n1L (Z : State) (cs : Int32) (sf : Value) (GG : o_G Z cs sf) (o1 : Addr) (o2 : Addr) (kc : ClassId) (c0 : Int32) (h0 : Heap) (n0 : Nat) (v : Option Value) (h : Heap) (L : List Loc) : Prop := ∃ bb : Addr, ∃ kb : ClassId, v = none ∧ Fr n0 L ∧ Keep h0 h [o1] ∧ Exa Z h o1 "java/lang/String" ∧ h0.size ≤ bb ∧ Fld Z h o1 "java/lang/String" "value" "[B" (.ref bb) ∧ Fld Z h o1 "java/lang/String" "coder" "B" (.int 0) ∧ Arv Z h bb kb .byte 1 [(.int (nar .byte c0.toInt8.toInt32))] (.int 0)
set_option maxRecDepth 65536 in
set_option maxHeartbeats 40000000 in
theorem o_rm1n1L (l : Launch) (Z : State) (a0 : Array Value) (hw : o_Hw Z a0) (ws : List Jvm.Cond) (cs : Int32) (sf : Value) (GG : o_G Z cs sf) (o1 : Addr) (o2 : Addr) (kc : ClassId) (c0 : Int32) (h0 : Heap) (n0 : Nat) (Z0 : n0 ≤ h0.size) (pE1 : Exa Z h0 o1 "java/lang/String") (pF2 : Fld Z h0 o1 "java/lang/String" "value" "[B" .null) (pF3 : Fld Z h0 o1 "java/lang/String" "coder" "B" (.int 0)) (pG4 : n0 ≤ o1) (O0 : Old Z n0 h0) (pV6 : Arv Z h0 o2 kc .char 1 [(.int c0)] (.int 0)) (hC0 : o_C c0) (hL0 : ¬ (255 : Int32) < c0) :
  o_Met l y29 jdk_42_method_3_code 2 none ws r17 #[(.ref o1), (.ref o2)] Z h0 (o_Q1n1L Z cs sf GG o1 o2 kc c0 h0 n0) := by
 refine MetFree.of_bodySF (plainFor_of_name o_pn3) hisR ?_
 intro p e s m args below meth c s₁ Bd hml0 hP hK
 obtain ⟨rfl, hZ, hh⟩ := hP
 obtain ⟨hx, hby, hlk, hrt⟩ := o_bd Bd
 have hml : c.maxLocals = 2 := hml0
 have hown : s.vm.findClass "java/lang/String" = some m.cls := findClass_of_methodNamed Bd.named
 have X0 : Stand p l e r17 s m #[(.ref o1), (.ref o2)] below meth c s₁ [] 0 0 := Stand.of_body Bd
 have e0 := o_e0 Bd hh
 have N0 := Fr.nil n0
 have KC0 := Keep.refl h0 [o1]
 refine o_in (g' := mkF m 0 #[(sR o1), (sR o2)] []) (by simp [entryFrame, mkF, argsToLocals, Value.category]) ?_
 refine o_aloadN X0 hx 1 (hb hby o_d1_0) rfl rfl ?_
 refine o_aloadN X0 hx 2 (hb hby o_d1_1) rfl rfl ?_
 refine o_iconst X0 hx 3 0 (hb hby o_d1_2) rfl ?_
 refine o_aloadN X0 hx 4 (hb hby o_d1_3) rfl rfl ?_
 obtain ⟨cl1, Ar1, qv1, S1, M1, H1, G1⟩ := id pV6
 have ln1 := len_of S1 M1
 refine o_st (G' := s₁.setTop (mkF m 5 #[(sR o1), (sR o2)] [(.int 1), (.int 0), (.ref o2), (.ref o1)])) (fun t k => X0.arraylength hx (by rw [e0]; exact Ar1.1) (State.isArrayOf_alike hZ.alike Ar1.2.1) (g := (mkF m 4 #[(sR o1), (sR o2)] [(.ref o2), (.int 0), (.ref o2), (.ref o1)])) rfl rfl (hb hby o_d1_4) _ (by rw [ln1]; exact k)) ?_
 refine o_aconstNull X0 hx 6 (hb hby o_d1_5) ?_
 obtain ⟨_, _, ⟨T2, Lx2, kc2, nc2⟩, -, X2, ⟨Lc2, hQ2, lq2, yq2, zq2⟩, st2⟩ := X0.specialBack hx (y := y28) rfl hown (mvT hZ (W hw 7 rfl)) (mvT hZ (W hw 8 rfl)) (mvT hZ (W hw 10 rfl)) (by decide) (backOf (W := 0) (o_rm2n1L l Z a0 hw [] cs sf GG o1 o2 kc c0 h0 n0 Z0 pE1 pF2 pF3 pG4 O0 pV6 (hC0 : o_C c0) (hL0 : ¬ (255 : Int32) < c0)) hZ (W hw 10 rfl) (W hw 3 rfl) (by decide) (by decide)) (g := (mkF m 6 #[(sR o1), (sR o2)] [.null, (.int 1), (.int 0), (.ref o2), (.ref o1)])) rfl (by rw [hml]; rfl) (Steps.refl _) (a := o1) (argsL := [(.ref o2), (.int 0), (.int 1), .null]) (rest := []) (lenOf o_pd19 rfl) rfl (o_wl rfl) (hb hby o_d1_6) (fun _ _ => ⟨rfl, e0, (by decide : 0 + 1 ≤ _), (by decide : 0 + 1 ≤ _)⟩)
 dsimp only [Pt.U, Pt.locs, Pt.cells, Pt.slots] at X2 lq2 yq2 zq2 st2 hQ2
 subst lq2 yq2 zq2
 obtain ⟨bb_2, kb_2, rfl, Nq2, Kp2, G2_0, G2_1, G2_2, G2_3, G2_4⟩ := hQ2
 have N2 := Fr.app N0 Nq2
 have sz_bb_2 : h0.size ≤ bb_2 := Nat.le_trans KC0.1 G2_1
 have KC6 := KC0.trans Kp2 (allS (Or.inl (List.mem_of_getElem? (i := 0) rfl)) all0)
 refine o_st (G' := T2.setTop (mkF m 9 #[(sR o1), (sR o2)] [])) (fun t k => st2.trans k) ?_
 obtain ⟨_, X2h, N2h⟩ := o_hide X2 N2
 exact o_retV (Q := o_Q1n1L Z cs sf GG o1 o2 kc c0 h0 n0) X2h hx hrt (hb hby o_d1_9) hlk rfl ⟨bb_2, kb_2, rfl, N2h, KC6, G2_0, sz_bb_2, G2_2, G2_3, G2_4⟩ (by decide) (by decide)
theorem o_d4_0 : decode prog_1_method_4_code 0 = .ok (.aload_n 0, 1) := by decide +kernel
theorem o_d4_1 : decode prog_1_method_4_code 1 = .ok (.invokevirtual 27, 3) := by decide +kernel
theorem o_d4_4 : decode prog_1_method_4_code 4 = .ok (.astore_n 1, 1) := by decide +kernel
theorem o_d4_5 : decode prog_1_method_4_code 5 = .ok (.iconst 0, 1) := by decide +kernel
theorem o_d4_6 : decode prog_1_method_4_code 6 = .ok (.istore_n 2, 1) := by decide +kernel
theorem o_d4_7 : decode prog_1_method_4_code 7 = .ok (.iload_n 2, 1) := by decide +kernel
theorem o_d4_8 : decode prog_1_method_4_code 8 = .ok (.aload_n 1, 1) := by decide +kernel
theorem o_d4_9 : decode prog_1_method_4_code 9 = .ok (.arraylength, 1) := by decide +kernel
theorem o_d4_10 : decode prog_1_method_4_code 10 = .ok (.if_icmp .ge 19, 3) := by decide +kernel
theorem o_d4_13 : decode prog_1_method_4_code 13 = .ok (.aload_n 1, 1) := by decide +kernel
theorem o_d4_14 : decode prog_1_method_4_code 14 = .ok (.iload_n 2, 1) := by decide +kernel
theorem o_d4_15 : decode prog_1_method_4_code 15 = .ok (.aload_n 1, 1) := by decide +kernel
theorem o_d4_16 : decode prog_1_method_4_code 16 = .ok (.iload_n 2, 1) := by decide +kernel
theorem o_d4_17 : decode prog_1_method_4_code 17 = .ok (.caload, 1) := by decide +kernel
theorem o_d4_18 : decode prog_1_method_4_code 18 = .ok (.invokestatic 31, 3) := by decide +kernel
theorem o_d4_21 : decode prog_1_method_4_code 21 = .ok (.i2c, 1) := by decide +kernel
theorem o_d4_22 : decode prog_1_method_4_code 22 = .ok (.castore, 1) := by decide +kernel
theorem o_d4_23 : decode prog_1_method_4_code 23 = .ok (.iinc 2 1, 3) := by decide +kernel
theorem o_d4_26 : decode prog_1_method_4_code 26 = .ok (.goto (-19), 3) := by decide +kernel
theorem o_d4_29 : decode prog_1_method_4_code 29 = .ok (.new 8, 3) := by decide +kernel
theorem o_d4_32 : decode prog_1_method_4_code 32 = .ok (.dup, 1) := by decide +kernel
theorem o_d4_33 : decode prog_1_method_4_code 33 = .ok (.aload_n 1, 1) := by decide +kernel
theorem o_d4_34 : decode prog_1_method_4_code 34 = .ok (.invokespecial 35, 3) := by decide +kernel
theorem o_d4_37 : decode prog_1_method_4_code 37 = .ok (.areturn, 1) := by decide +kernel
theorem o_pd20 : parseMethodDescriptor "()[C" = some ⟨[], some (.array .char)⟩ := by decide +kernel
theorem o_pd21 : parseMethodDescriptor "([C)V" = some ⟨[(.array .char)], none⟩ := by decide +kernel
def o_Q4n1L (Z : State) (cs : Int32) (sf : Value) (GG : o_G Z cs sf) (o1 : Addr) (bb : Addr) (kb : ClassId) (c0 : Int32) (h0 : Heap) (n0 : Nat) (v : Option Value) (h : Heap) (L : List Loc) : Prop := ∃ so : Addr, ∃ b2 : Addr, ∃ k2 : ClassId, v = some (.ref so) ∧ Fr n0 L ∧ Keep h0 h [] ∧ h0.size ≤ so ∧ h0.size ≤ b2 ∧ Exa Z h so "java/lang/String" ∧ Fld Z h so "java/lang/String" "value" "[B" (.ref b2) ∧ Fld Z h so "java/lang/String" "coder" "B" (.int 0) ∧ Arv Z h b2 k2 .byte 1 [(.int (nar .byte (o_lc c0).toInt8.toInt32))] (.int 0)
set_option maxRecDepth 65536 in
set_option maxHeartbeats 40000000 in
theorem o_rm4n1L (l : Launch) (Z : State) (a0 : Array Value) (hw : o_Hw Z a0) (ws : List Jvm.Cond) (cs : Int32) (sf : Value) (GG : o_G Z cs sf) (o1 : Addr) (bb : Addr) (kb : ClassId) (c0 : Int32) (h0 : Heap) (n0 : Nat) (Z0 : n0 ≤ h0.size) (pE1 : Exa Z h0 o1 "java/lang/String") (pF2 : Fld Z h0 o1 "java/lang/String" "value" "[B" (.ref bb)) (pF3 : Fld Z h0 o1 "java/lang/String" "coder" "B" (.int 0)) (pV4 : Arv Z h0 bb kb .byte 1 [(.int (nar .byte c0.toInt8.toInt32))] (.int 0)) (O0 : Old Z n0 h0) (hC0 : o_C c0) (hL0 : ¬ (255 : Int32) < c0) :
  o_Met l y30 prog_1_method_4_code 3 (some (.object "java/lang/String")) ws r18 #[(.ref o1)] Z h0 (o_Q4n1L Z cs sf GG o1 bb kb c0 h0 n0) := by
 refine MetFree.of_bodySF (plainFor_of_name o_pn0) hisR ?_
 intro p e s m args below meth c s₁ Bd hml0 hP hK
 obtain ⟨rfl, hZ, hh⟩ := hP
 obtain ⟨hx, hby, hlk, hrt⟩ := o_bd Bd
 have hml : c.maxLocals = 3 := hml0
 have hown : s.vm.findClass "com/example/orbweaver/orbweaver/AsciiText" = some m.cls := findClass_of_methodNamed Bd.named
 have X0 : Stand p l e r18 s m #[(.ref o1)] below meth c s₁ [] 0 0 := Stand.of_body Bd
 have e0 := o_e0 Bd hh
 have N0 := Fr.nil n0
 have KC0 := Keep.refl h0 []
 refine o_in (g' := mkF m 0 #[(sR o1), .unset, .unset] []) (by simp [entryFrame, mkF, argsToLocals, Value.category]) ?_
 refine o_aloadN X0 hx 1 (hb hby o_d4_0) rfl rfl ?_
 obtain ⟨cq1, kq1, q1a, q1b, q1c⟩ := isOf hZ e0 pE1
 obtain ⟨_, _, ⟨T1, Lx1, kc1, nc1⟩, -, X1, ⟨Lc1, hQ1, lq1, yq1, zq1⟩, st1⟩ := X0.virtualBack hx (y := y21) (z := y21) hown (mvT hZ (W hw 26 rfl)) (mvT hZ (W hw 27 rfl)) (notFace_of_selects (args := #[]) (mvT hZ (W hw 29 rfl))) (mvT hZ (W hw 29 rfl)) (mvT hZ (W hw 28 rfl)) (by decide) (backOf (W := 0) (o_rm5n1L l Z a0 hw [] cs sf GG o1 bb kb c0 h0 n0 Z0 pE1 pF2 pF3 pV4 O0 (hC0 : o_C c0) (hL0 : ¬ (255 : Int32) < c0)) hZ (W hw 30 rfl) (W hw 3 rfl) (by decide) (by decide)) q1a q1c (g := (mkF m 1 #[(sR o1), .unset, .unset] [(.ref o1)])) rfl (by rw [hml]; rfl) (Steps.refl _) (argsL := []) (rest := []) (lenOf o_pd20 rfl) rfl (o_wl rfl) (hb hby o_d4_1) (fun _ _ => ⟨rfl, e0, (by decide : 0 + 1 ≤ _), (by decide : 0 + 1 ≤ _)⟩)
 dsimp only [Pt.U, Pt.locs, Pt.cells, Pt.slots] at X1 lq1 yq1 zq1 st1 hQ1
 subst lq1 yq1 zq1
 obtain ⟨ca_1, kc_1, rfl, Nq1, Kp1, G1_0, G1_1⟩ := hQ1
 have N1 := Fr.app N0 Nq1
 have gt_ca_1 : n0 ≤ ca_1 := Nat.le_trans Z0 G1_0
 have sz_ca_1 : h0.size ≤ ca_1 := Nat.le_trans KC0.1 G1_0
 have O4 := O0.keep Kp1 all0
 have KC5 := KC0.trans Kp1 all0
 have Z6 := Nat.le_trans Z0 Kp1.1
 refine o_st (G' := T1.setTop (mkF m 4 #[(sR o1), .unset, .unset] [(.ref ca_1)])) (fun t k => st1.trans k) ?_
 obtain ⟨_, X1h, N1h⟩ := o_hide X1 N1
 refine o_astoreN X1h hx 5 #[(sR o1), (sR ca_1), .unset] (hb hby o_d4_4) rfl rfl ?_
 refine o_iconst X1h hx 6 0 (hb hby o_d4_5) rfl ?_
 refine o_istoreN X1h hx 7 #[(sR o1), (sR ca_1), (sI 0)] (hb hby o_d4_6) rfl ?_
 refine o_iloadN X1h hx 8 (hb hby o_d4_7) rfl ?_
 refine o_aloadN X1h hx 9 (hb hby o_d4_8) rfl rfl ?_
 obtain ⟨cl7, Ar7, qv7, S7, M7, H7, G7⟩ := id G1_1
 have ln7 := len_of S7 M7
 refine o_st (G' := T1.setTop (mkF m 10 #[(sR o1), (sR ca_1), (sI 0)] [(.int 1), (.int 0)])) (fun t k => X1h.arraylength hx Ar7.1 (State.isArrayOf_alike hZ.alike Ar7.2.1) (g := (mkF m 9 #[(sR o1), (sR ca_1), (sI 0)] [(.ref ca_1), (.int 0)])) rfl rfl (hb hby o_d4_9) _ (by rw [ln7]; exact k)) ?_
 refine o_icmpNo X1h hx 13 (hb hby o_d4_10) (tlt (by decide : (0 : Int32) < (1 : Int32))).2.1 ?_
 refine o_aloadN X1h hx 14 (hb hby o_d4_13) rfl rfl ?_
 refine o_iloadN X1h hx 15 (hb hby o_d4_14) rfl ?_
 refine o_aloadN X1h hx 16 (hb hby o_d4_15) rfl rfl ?_
 refine o_iloadN X1h hx 17 (hb hby o_d4_16) rfl ?_
 obtain ⟨cl8, Ar8, qv8, S8, M8, H8, G8⟩ := id G1_1
 have hin8 := inb_of (j := (0 : Int32)) S8 ⟨by decide, by decide⟩
 refine o_st (G' := T1.setTop (mkF m 18 #[(sR o1), (sR ca_1), (sI 0)] [(.int c0), (.int 0), (.ref ca_1)])) (fun t k => X1h.caload hx (j := (0 : Int32)) (v := (.int c0)) Ar8.1 (State.isArrayOf_alike hZ.alike Ar8.2.1) Ar8.2.2 hin8 (H8.at hin8 rfl) (g := (mkF m 17 #[(sR o1), (sR ca_1), (sI 0)] [(.int 0), (.ref ca_1), (.int 0), (.ref ca_1)])) rfl rfl (hb hby o_d4_17) _ k) ?_
 obtain ⟨_, _, ⟨T9, Lx9, kc9, nc9⟩, -, X9, ⟨Lc9, hQ9, lq9, yq9, zq9⟩, st9⟩ := Jvm.LawKit.callS X1h hx (y := y0) hown (mvT hZ (W hw 66 rfl)) (mvT hZ (W hw 67 rfl)) (mvT hZ (W hw 24 rfl)) (mvT hZ (W hw 68 rfl)) (by decide) (backOf (W := 2) (o_rm14 l Z a0 hw [] c0 T1.heap n0 Z6 ) hZ (W hw 68 rfl) (W hw 24 rfl) (by decide) (by decide)) (g := (mkF m 18 #[(sR o1), (sR ca_1), (sI 0)] [(.int c0), (.int 0), (.ref ca_1)])) rfl (by rw [hml]; rfl) (argsL := [(.int c0)]) (rest := [(.int 0), (.ref ca_1)]) (lenOf o_pd4 rfl) rfl (o_wl rfl) (hb hby o_d4_18) (fun _ _ => ⟨rfl, rfl, (by decide : 1 + 0 ≤ _), (by decide : 1 + 0 ≤ _)⟩)
 dsimp only [Pt.U, Pt.locs, Pt.cells, Pt.slots] at X9 lq9 yq9 zq9 st9 hQ9
 subst lq9 yq9 zq9
 obtain ⟨rfl, Nq9, eh9⟩ := hQ9
 have N9 := Fr.app N1h Nq9
 refine o_st (G' := T9.setTop (mkF m 21 #[(sR o1), (sR ca_1), (sI 0)] [(.int (o_lc c0)), (.int 0), (.ref ca_1)])) st9 ?_
 obtain ⟨_, X9h, N9h⟩ := o_hide X9 N9
 refine o_i2c X9h hx 22 (hb hby o_d4_21) ?_
 obtain ⟨cl10, Ar10, qv10, S10, M10, H10, G10⟩ := id G1_1
 have hin10 := inb_of (j := (0 : Int32)) S10 ⟨by decide, by decide⟩
 obtain ⟨T10, h10, X10, e10, W10, st10⟩ := stC X9h hx hZ eh9 Ar10 (j := (0 : Int32)) hin10 (g := (mkF m 22 #[(sR o1), (sR ca_1), (sI 0)] [(.int ((o_lc c0).toUInt32.toUInt16.toUInt32.toInt32)), (.int 0), (.ref ca_1)])) rfl rfl (hb hby o_d4_22)
 have V10 : Arv Z h10 ca_1 kc_1 .char 1 [(.int (nar .char ((o_lc c0).toUInt32.toUInt16.toUInt32.toInt32)))] (.int 0) := Arv.set Ar10 qv10 S10 M10 H10 G10 (fits_nar_char _) W10 0 rfl (Nat.le_of_ble_eq_true rfl)
 have N10 := Fr.snoc X10 N9h gt_ca_1
 have O11 := O4.wr W10 gt_ca_1
 have KC12 := KC5.wr W10 (Or.inr sz_ca_1)
 have Z13 := Nat.le_trans Z6 (Nat.le_of_eq W10.size.symm)
 refine o_st (G' := T10.setTop (mkF m 23 #[(sR o1), (sR ca_1), (sI 0)] [])) st10 ?_
 obtain ⟨_, X10h, N10h⟩ := o_hide X10 N10
 refine o_iinc X10h hx 26 (1 : Int32) #[(sR o1), (sR ca_1), (sI 1)] (hb hby o_d4_23) rfl rfl rfl ?_
 refine o_goto X10h hx 7 (hb hby o_d4_26) ?_
 refine o_iloadN X10h hx 8 (hb hby o_d4_7) rfl ?_
 refine o_aloadN X10h hx 9 (hb hby o_d4_8) rfl rfl ?_
 obtain ⟨cl14, Ar14, qv14, S14, M14, H14, G14⟩ := id V10
 have ln14 := len_of S14 M14
 refine o_st (G' := T10.setTop (mkF m 10 #[(sR o1), (sR ca_1), (sI 1)] [(.int 1), (.int 1)])) (fun t k => X10h.arraylength hx (by rw [e10]; exact Ar14.1) (State.isArrayOf_alike hZ.alike Ar14.2.1) (g := (mkF m 9 #[(sR o1), (sR ca_1), (sI 1)] [(.ref ca_1), (.int 1)])) rfl rfl (hb hby o_d4_9) _ (by rw [ln14]; exact k)) ?_
 refine o_icmpYes X10h hx 29 (hb hby o_d4_10) (flt (by decide : ¬ ((1 : Int32) < (1 : Int32)))).2.1 ?_
 have V15 := V10
 rw [o_lcn hC0] at V15
 obtain ⟨T16, h16, X16, e16, E16, A16, D16, -, st16⟩ := newO X10h hx hZ hown (W hw 44 rfl) (W hw 2 rfl) (W hw 3 rfl) e10 (g := (mkF m 29 #[(sR o1), (sR ca_1), (sI 1)] [])) rfl (hb hby o_d4_29) (by decide) (by decide)
 obtain ⟨b16, g16⟩ : ∃ z, z = h10.size := ⟨_, rfl⟩
 rw [← g16] at A16 D16 st16
 have gt_b16 : n0 ≤ b16 := Nat.le_trans Z13 (Nat.le_of_eq g16.symm)
 have sz_b16 : h0.size ≤ b16 := Nat.le_trans KC12.1 (Nat.le_of_eq g16.symm)
 have O22 := O11.ext E16
 have KC23 := KC12.ext E16
 have Z24 := Nat.le_trans Z13 E16.1
 have F16_value : Fld Z h16 b16 "java/lang/String" "value" "[B" .null := D16 (Or.inr (W hw 16 rfl)) (ty := (.array .byte)) (by decide)
 have F16_coder : Fld Z h16 b16 "java/lang/String" "coder" "B" (.int 0) := D16 (Or.inr (W hw 17 rfl)) (ty := .byte) (by decide)
 refine o_st (G' := T16.setTop (mkF m 32 #[(sR o1), (sR ca_1), (sI 1)] [(.ref b16)])) st16 ?_
 obtain ⟨_, X16h, N16h⟩ := o_hide X16 N10h
 refine o_dup X16h hx 33 (hb hby o_d4_32) rfl ?_
 refine o_aloadN X16h hx 34 (hb hby o_d4_33) rfl rfl ?_
 have f25 := (V15.ext E16)
 obtain ⟨_, _, ⟨T26, Lx26, kc26, nc26⟩, -, X26, ⟨Lc26, hQ26, lq26, yq26, zq26⟩, st26⟩ := X16h.specialBack hx (y := y29) rfl hown (mvT hZ (W hw 45 rfl)) (mvT hZ (W hw 5 rfl)) (mvT hZ (W hw 6 rfl)) (by decide) (backOf (W := 1) (o_rm1n1L l Z a0 hw [] cs sf GG b16 ca_1 kc_1 (o_lc c0) h16 n0 Z24 A16 F16_value F16_coder gt_b16 O22 f25 (o_lcC hC0 : o_C (o_lc c0)) (o_lcL hC0 hL0 : ¬ (255 : Int32) < (o_lc c0))) hZ (W hw 6 rfl) (W hw 3 rfl) (by decide) (by decide)) (g := (mkF m 34 #[(sR o1), (sR ca_1), (sI 1)] [(.ref ca_1), (.ref b16), (.ref b16)])) rfl (by rw [hml]; rfl) (Steps.refl _) (a := b16) (argsL := [(.ref ca_1)]) (rest := [(.ref b16)]) (lenOf o_pd21 rfl) rfl (o_wl rfl) (hb hby o_d4_34) (fun _ _ => ⟨rfl, e16, (by decide : 2 + 1 ≤ _), (by decide : 5 + 1 ≤ _)⟩)
 dsimp only [Pt.U, Pt.locs, Pt.cells, Pt.slots] at X26 lq26 yq26 zq26 st26 hQ26
 subst lq26 yq26 zq26
 obtain ⟨bb_26, kb_26, rfl, Nq26, Kp26, G26_0, G26_1, G26_2, G26_3, G26_4⟩ := hQ26
 have N26 := Fr.app N16h Nq26
 have sz_bb_26 : h0.size ≤ bb_26 := Nat.le_trans KC23.1 G26_1
 have KC34 := KC23.trans Kp26 (allS (Or.inr sz_b16) all0)
 refine o_st (G' := T26.setTop (mkF m 37 #[(sR o1), (sR ca_1), (sI 1)] [(.ref b16)])) (fun t k => st26.trans k) ?_
 obtain ⟨_, X26h, N26h⟩ := o_hide X26 N26
 exact o_retA (z := (.ref b16)) (Q := o_Q4n1L Z cs sf GG o1 bb kb c0 h0 n0) X26h hx hrt rfl rfl (hb hby o_d4_37) hlk rfl ⟨b16, bb_26, kb_26, rfl, N26h, KC34, sz_b16, sz_bb_26, G26_0, G26_2, G26_3, G26_4⟩ (by decide) (by decide)
theorem o_d11_20 : decode jdk_52_method_16_code 20 = .ok (.aload_n 0, 1) := by decide +kernel
theorem o_d11_21 : decode jdk_52_method_16_code 21 = .ok (.iload_n 1, 1) := by decide +kernel
theorem o_d11_22 : decode jdk_52_method_16_code 22 = .ok (.iload_n 2, 1) := by decide +kernel
theorem o_d11_23 : decode jdk_52_method_16_code 23 = .ok (.invokestatic 119, 3) := by decide +kernel
theorem o_d11_26 : decode jdk_52_method_16_code 26 = .ok (.astore 5, 2) := by decide +kernel
theorem o_d11_28 : decode jdk_52_method_16_code 28 = .ok (.aload 5, 2) := by decide +kernel
theorem o_d11_30 : decode jdk_52_method_16_code 30 = .ok (.iload 4, 2) := by decide +kernel
theorem o_d11_32 : decode jdk_52_method_16_code 32 = .ok (.invokestatic 71, 3) := by decide +kernel
theorem o_d11_35 : decode jdk_52_method_16_code 35 = .ok (.sipush 255, 3) := by decide +kernel
theorem o_d11_38 : decode jdk_52_method_16_code 38 = .ok (.if_icmp .gt 16, 3) := by decide +kernel
theorem o_d11_54 : decode jdk_52_method_16_code 54 = .ok (.aload 5, 2) := by decide +kernel
theorem o_d11_56 : decode jdk_52_method_16_code 56 = .ok (.areturn, 1) := by decide +kernel
def o_Q11n1U (Z : State) (cs : Int32) (sf : Value) (GG : o_G Z cs sf) (o1 : Addr) (kc : ClassId) (c0 : Int32) (h0 : Heap) (n0 : Nat) (v : Option Value) (h : Heap) (L : List Loc) : Prop := ∃ bb : Addr, ∃ kb : ClassId, v = some (.ref bb) ∧ Fr n0 L ∧ Keep h0 h [] ∧ h0.size ≤ bb ∧ Arv Z h bb kb .byte 2 [(.int (o_lo c0)), (.int (o_hi c0))] (.int 0)
set_option maxRecDepth 65536 in
set_option maxHeartbeats 40000000 in
theorem o_rm11n1U (l : Launch) (Z : State) (a0 : Array Value) (hw : o_Hw Z a0) (ws : List Jvm.Cond) (cs : Int32) (sf : Value) (GG : o_G Z cs sf) (o1 : Addr) (kc : ClassId) (c0 : Int32) (h0 : Heap) (n0 : Nat) (Z0 : n0 ≤ h0.size) (pV1 : Arv Z h0 o1 kc .char 1 [(.int c0)] (.int 0)) (O0 : Old Z n0 h0) (hC0 : o_C c0) (hU : (255 : Int32) < c0) :
  o_Met l y27 jdk_52_method_16_code 6 (some (.array .byte)) ws r19 #[(.ref o1), (.int 0), (.int 1)] Z h0 (o_Q11n1U Z cs sf GG o1 kc c0 h0 n0) := by
 refine MetFree.of_bodySF (plainFor_of_name o_pn4) hisR ?_
 intro p e s m args below meth c s₁ Bd hml0 hP hK
 obtain ⟨rfl, hZ, hh⟩ := hP
 obtain ⟨hx, hby, hlk, hrt⟩ := o_bd Bd
 have hml : c.maxLocals = 6 := hml0
 have hown : s.vm.findClass "java/lang/StringUTF16" = some m.cls := findClass_of_methodNamed Bd.named
 have X0 : Stand p l e r19 s m #[(.ref o1), (.int 0), (.int 1)] below meth c s₁ [] 0 0 := Stand.of_body Bd
 have e0 := o_e0 Bd hh
 have N0 := Fr.nil n0
 have KC0 := Keep.refl h0 []
 refine o_in (g' := mkF m 0 #[(sR o1), (sI 0), (sI 1), .unset, .unset, .unset] []) (by simp [entryFrame, mkF, argsToLocals, Value.category]) ?_
 have hl1 : (255 : Int32) < c0 := hU
 refine o_iloadN X0 hx 1 (hb hby o_d11_0) rfl ?_
 obtain ⟨T2, h2, k2, X2, e2, E2, A2, st2⟩ := newP X0 hx hZ (W hw 15 rfl) e0 (g := (mkF m 1 #[(sR o1), (sI 0), (sI 1), .unset, .unset, .unset] [(.int 1)])) rfl (hb hby o_d11_1) rfl (by decide) (cap := 1) (by decide) (by decide) (by decide) (by decide)
 obtain ⟨b2, g2⟩ : ∃ z, z = h0.size := ⟨_, rfl⟩
 rw [← g2] at A2 st2
 have ne3 : o1 ≠ b2 := Nat.ne_of_lt (Nat.lt_of_lt_of_le pV1.lt (Nat.le_of_eq g2.symm))
 have gt_b2 : n0 ≤ b2 := Nat.le_trans Z0 (Nat.le_of_eq g2.symm)
 have sz_b2 : h0.size ≤ b2 := Nat.le_trans KC0.1 (Nat.le_of_eq g2.symm)
 have V2 : Arv Z h2 b2 k2 .byte 1 [(.int 0)] (.int 0) := (Arv.new A2 (by decide)).pad (pad_rep [] (.int 0) 1)
 have O4 := O0.ext E2
 have KC5 := KC0.ext E2
 have Z6 := Nat.le_trans Z0 E2.1
 refine o_st (G' := T2.setTop (mkF m 3 #[(sR o1), (sI 0), (sI 1), .unset, .unset, .unset] [(.ref b2)])) st2 ?_
 obtain ⟨_, X2h, N2h⟩ := o_hide X2 N0
 refine o_astoreN X2h hx 4 #[(sR o1), (sI 0), (sI 1), (sR b2), .unset, .unset] (hb hby o_d11_3) rfl rfl ?_
 refine o_aloadN X2h hx 5 (hb hby o_d11_4) rfl rfl ?_
 refine o_iloadN X2h hx 6 (hb hby o_d11_5) rfl ?_
 refine o_aloadN X2h hx 7 (hb hby o_d11_6) rfl rfl ?_
 refine o_iconst X2h hx 8 0 (hb hby o_d11_7) rfl ?_
 refine o_iloadN X2h hx 9 (hb hby o_d11_8) rfl ?_
 have f7 := (pV1.ext E2)
 obtain ⟨_, _, ⟨T8, Lx8, kc8, nc8⟩, -, X8, ⟨Lc8, hQ8, lq8, yq8, zq8⟩, st8⟩ := Jvm.LawKit.callS X2h hx (y := y26) hown (mvT hZ (W hw 60 rfl)) (mvT hZ (W hw 61 rfl)) (mvT hZ (W hw 58 rfl)) (mvT hZ (W hw 62 rfl)) (by decide) (backOf (W := 0) (o_rm12n1k0 l Z a0 hw [] o1 b2 k2 kc c0 h2 n0 Z6 f7 V2 gt_b2 ne3 (hl1 : (255 : Int32) < c0)) hZ (W hw 62 rfl) (W hw 58 rfl) (by decide) (by decide)) (g := (mkF m 9 #[(sR o1), (sI 0), (sI 1), (sR b2), .unset, .unset] [(.int 1), (.int 0), (.ref b2), (.int 0), (.ref o1)])) rfl (by rw [hml]; rfl) (argsL := [(.ref o1), (.int 0), (.ref b2), (.int 0), (.int 1)]) (rest := []) (lenOf o_pd16 rfl) rfl (o_wl rfl) (hb hby o_d11_9) (fun _ _ => ⟨rfl, e2, (by decide : 1 + 0 ≤ _), (by decide : 1 + 0 ≤ _)⟩)
 dsimp only [Pt.U, Pt.locs, Pt.cells, Pt.slots] at X8 lq8 yq8 zq8 st8 hQ8
 subst lq8 yq8 zq8
 obtain ⟨rfl, Nq8, Kp8⟩ := hQ8
 have N8 := Fr.app N2h Nq8
 have O9 := O4.keep Kp8 (allS gt_b2 all0)
 have KC10 := KC5.trans Kp8 (allS (Or.inr sz_b2) all0)
 have Z11 := Nat.le_trans Z6 Kp8.1
 refine o_st (G' := T8.setTop (mkF m 12 #[(sR o1), (sI 0), (sI 1), (sR b2), .unset, .unset] [(.int 0)])) st8 ?_
 obtain ⟨_, X8h, N8h⟩ := o_hide X8 N8
 refine o_istore X8h hx 14 #[(sR o1), (sI 0), (sI 1), (sR b2), (sI 0), .unset] (hb hby o_d11_12) rfl ?_
 refine o_iload X8h hx 16 (hb hby o_d11_14) rfl ?_
 refine o_iloadN X8h hx 17 (hb hby o_d11_16) rfl ?_
 refine o_icmpNo X8h hx 20 (hb hby o_d11_17) (feq (by decide : ¬ ((0 : Int32) = (1 : Int32)))).1 ?_
 refine o_aloadN X8h hx 21 (hb hby o_d11_20) rfl rfl ?_
 refine o_iloadN X8h hx 22 (hb hby o_d11_21) rfl ?_
 refine o_iloadN X8h hx 23 (hb hby o_d11_22) rfl ?_
 have f12 := (f7.keep Kp8 (ninS ne3 nin0))
 obtain ⟨_, _, ⟨T13, Lx13, kc13, nc13⟩, -, X13, ⟨Lc13, hQ13, lq13, yq13, zq13⟩, st13⟩ := Jvm.LawKit.callS X8h hx (y := y17) hown (mvT hZ (W hw 89 rfl)) (mvT hZ (W hw 90 rfl)) (mvT hZ (W hw 58 rfl)) (mvT hZ (W hw 91 rfl)) (by decide) (backOf (W := 0) (o_rm20n1 l Z a0 hw [] cs sf GG o1 kc c0 T8.heap n0 Z11 f12 O9) hZ (W hw 91 rfl) (W hw 58 rfl) (by decide) (by decide)) (g := (mkF m 23 #[(sR o1), (sI 0), (sI 1), (sR b2), (sI 0), .unset] [(.int 1), (.int 0), (.ref o1)])) rfl (by rw [hml]; rfl) (argsL := [(.ref o1), (.int 0), (.int 1)]) (rest := []) (lenOf o_pd17 rfl) rfl (o_wl rfl) (hb hby o_d11_23) (fun _ _ => ⟨rfl, rfl, (by decide : 1 + 1 ≤ _), (by decide : 1 + 2 ≤ _)⟩)
 dsimp only [Pt.U, Pt.locs, Pt.cells, Pt.slots] at X13 lq13 yq13 zq13 st13 hQ13
 subst lq13 yq13 zq13
 obtain ⟨bb_13, kb_13, rfl, Nq13, Kp13, G13_0, G13_1⟩ := hQ13
 have N13 := Fr.app N8h Nq13
 have sz_bb_13 : h0.size ≤ bb_13 := Nat.le_trans KC10.1 G13_0
 have O15 := O9.keep Kp13 all0
 have KC16 := KC10.trans Kp13 all0
 have Z17 := Nat.le_trans Z11 Kp13.1
 refine o_st (G' := T13.setTop (mkF m 26 #[(sR o1), (sI 0), (sI 1), (sR b2), (sI 0), .unset] [(.ref bb_13)])) st13 ?_
 obtain ⟨_, X13h, N13h⟩ := o_hide X13 N13
 refine o_astore X13h hx 28 #[(sR o1), (sI 0), (sI 1), (sR b2), (sI 0), (sR bb_13)] (hb hby o_d11_26) rfl rfl ?_
 refine o_aload X13h hx 30 (hb hby o_d11_28) rfl rfl ?_
 refine o_iload X13h hx 32 (hb hby o_d11_30) rfl ?_
 obtain ⟨_, _, ⟨T18, Lx18, kc18, nc18⟩, -, X18, ⟨Lc18, hQ18, lq18, yq18, zq18⟩, st18⟩ := Jvm.LawKit.callS X13h hx (y := y13) hown (mvT hZ (W hw 105 rfl)) (mvT hZ (W hw 106 rfl)) (mvT hZ (W hw 58 rfl)) (mvT hZ (W hw 107 rfl)) (by decide) (backOf (W := 0) (o_rm24n1i0 l Z a0 hw [] cs sf GG bb_13 kb_13 c0 T13.heap n0 Z17 G13_1 O15 (hC0 : o_C c0)) hZ (W hw 107 rfl) (W hw 58 rfl) (by decide) (by decide)) (g := (mkF m 32 #[(sR o1), (sI 0), (sI 1), (sR b2), (sI 0), (sR bb_13)] [(.int 0), (.ref bb_13)])) rfl (by rw [hml]; rfl) (argsL := [(.ref bb_13), (.int 0)]) (rest := []) (lenOf o_pd7 rfl) rfl (o_wl rfl) (hb hby o_d11_32) (fun _ _ => ⟨rfl, rfl, (by decide : 2 + 0 ≤ _), (by decide : 3 + 0 ≤ _)⟩)
 dsimp only [Pt.U, Pt.locs, Pt.cells, Pt.slots] at X18 lq18 yq18 zq18 st18 hQ18
 subst lq18 yq18 zq18
 obtain ⟨rfl, Nq18, eh18⟩ := hQ18
 have N18 := Fr.app N13h Nq18
 refine o_st (G' := T18.setTop (mkF m 35 #[(sR o1), (sI 0), (sI 1), (sR b2), (sI 0), (sR bb_13)] [(.int c0)])) st18 ?_
 obtain ⟨_, X18h, N18h⟩ := o_hide X18 N18
 refine o_sipush X18h hx 38 255 (hb hby o_d11_35) rfl ?_
 refine o_icmpYes X18h hx 54 (hb hby o_d11_38) (tlt hl1).2.2.1 ?_
 refine o_aload X18h hx 56 (hb hby o_d11_54) rfl rfl ?_
 exact o_retA (z := (.ref bb_13)) (Q := o_Q11n1U Z cs sf GG o1 kc c0 h0 n0) X18h hx hrt rfl rfl (hb hby o_d11_56) hlk eh18 ⟨bb_13, kb_13, rfl, N18h, KC16, sz_bb_13, G13_1⟩ (by decide) (by decide)
def o_Q2n1U (Z : State) (cs : Int32) (sf : Value) (GG : o_G Z cs sf) (o1 : Addr) (o2 : Addr) (kc : ClassId) (c0 : Int32) (h0 : Heap) (n0 : Nat) (v : Option Value) (h : Heap) (L : List Loc) : Prop := ∃ bb : Addr, ∃ kb : ClassId, v = none ∧ Fr n0 L ∧ Keep h0 h [o1] ∧ Exa Z h o1 "java/lang/String" ∧ h0.size ≤ bb ∧ Fld Z h o1 "java/lang/String" "value" "[B" (.ref bb) ∧ Fld Z h o1 "java/lang/String" "coder" "B" (.int 1) ∧ Arv Z h bb kb .byte 2 [(.int (o_lo c0)), (.int (o_hi c0))] (.int 0)
set_option maxRecDepth 65536 in
set_option maxHeartbeats 40000000 in
theorem o_rm2n1U (l : Launch) (Z : State) (a0 : Array Value) (hw : o_Hw Z a0) (ws : List Jvm.Cond) (cs : Int32) (sf : Value) (GG : o_G Z cs sf) (o1 : Addr) (o2 : Addr) (kc : ClassId) (c0 : Int32) (h0 : Heap) (n0 : Nat) (Z0 : n0 ≤ h0.size) (pE1 : Exa Z h0 o1 "java/lang/String") (pF2 : Fld Z h0 o1 "java/lang/String" "value" "[B" .null) (pF3 : Fld Z h0 o1 "java/lang/String" "coder" "B" (.int 0)) (pG4 : n0 ≤ o1) (O0 : Old Z n0 h0) (pV6 : Arv Z h0 o2 kc .char 1 [(.int c0)] (.int 0)) (hC0 : o_C c0) (hU : (255 : Int32) < c0) :
  o_Met l y28 jdk_42_method_149_code 6 none ws r20 #[(.ref o1), (.ref o2), (.int 0), (.int 1), .null] Z h0 (o_Q2n1U Z cs sf GG o1 o2 kc c0 h0 n0) := by
 refine MetFree.of_bodySF (plainFor_of_name o_pn3) hisR ?_
 intro p e s m args below meth c s₁ Bd hml0 hP hK
 obtain ⟨rfl, hZ, hh⟩ := hP
 obtain ⟨hx, hby, hlk, hrt⟩ := o_bd Bd
 have hml : c.maxLocals = 6 := hml0
 have hown : s.vm.findClass "java/lang/String" = some m.cls := findClass_of_methodNamed Bd.named
 have hnm := (name_of_methodNamed Bd.named Bd.method).1
 have X0 : Stand p l e r20 s m #[(.ref o1), (.ref o2), (.int 0), (.int 1), .null] below meth c s₁ [] 0 0 := Stand.of_body Bd
 have e0 := o_e0 Bd hh
 have N0 := Fr.nil n0
 have KC0 := Keep.refl h0 [o1]
 refine o_in (g' := mkF m 0 #[(sR o1), (sR o2), (sI 0), (sI 1), .val .null, .unset] []) (by simp [entryFrame, mkF, argsToLocals, Value.category]) ?_
 refine o_aloadN X0 hx 1 (hb hby o_d2_0) rfl rfl ?_
 obtain ⟨T1, X1, e1, st1⟩ := initO X0 hx hZ hown (W hw 11 rfl) (W hw 12 rfl) (W hw 13 rfl) e0 (g := (mkF m 1 #[(sR o1), (sR o2), (sI 0), (sI 1), .val .null, .unset] [(.ref o1)])) rfl (by rw [hml]; rfl) rfl (hb hby o_d2_1) (by decide) (W := 0) (o_wl rfl) (by decide)
 refine o_st (G' := T1.setTop (mkF m 4 #[(sR o1), (sR o2), (sI 0), (sI 1), .val .null, .unset] [])) st1 ?_
 obtain ⟨_, X1h, N1h⟩ := o_hide X1 N0
 refine o_iloadN X1h hx 5 (hb hby o_d2_4) rfl ?_
 refine o_ifYes X1h hx 27 (hb hby o_d2_5) (feq (by decide : ¬ ((1 : Int32) = (0 : Int32)))).2 ?_
 obtain ⟨T2, X2, e2, st2⟩ := getS2 X1h hx hZ hown (host := "") (Or.inl (W hw 36 rfl)) Via.refl e1 (GG.1.ext O0.2) (g := (mkF m 27 #[(sR o1), (sR o2), (sI 0), (sI 1), .val .null, .unset] [])) rfl (hb hby o_d2_27)
 refine o_st (G' := T2.setTop (mkF m 30 #[(sR o1), (sR o2), (sI 0), (sI 1), .val .null, .unset] [(.int cs)])) st2 ?_
 obtain ⟨_, X2h, N2h⟩ := o_hide X2 N1h
 refine o_ifNo X2h hx 33 (hb hby o_d2_30) (feq (GG.2.1 : ¬ (cs = (0 : Int32)))).1 ?_
 refine o_aloadN X2h hx 34 (hb hby o_d2_33) rfl rfl ?_
 refine o_iloadN X2h hx 35 (hb hby o_d2_34) rfl ?_
 refine o_iloadN X2h hx 36 (hb hby o_d2_35) rfl ?_
 obtain ⟨_, _, ⟨T3, Lx3, kc3, nc3⟩, -, X3, ⟨Lc3, hQ3, lq3, yq3, zq3⟩, st3⟩ := Jvm.LawKit.callS X2h hx (y := y27) hown (mvT hZ (W hw 56 rfl)) (mvT hZ (W hw 57 rfl)) (mvT hZ (W hw 58 rfl)) (mvT hZ (W hw 59 rfl)) (by decide) (backOf (W := 0) (o_rm11n1U l Z a0 hw [] cs sf GG o2 kc c0 h0 n0 Z0 pV6 O0 (hC0 : o_C c0) (hU : (255 : Int32) < c0)) hZ (W hw 59 rfl) (W hw 58 rfl) (by decide) (by decide)) (g := (mkF m 36 #[(sR o1), (sR o2), (sI 0), (sI 1), .val .null, .unset] [(.int 1), (.int 0), (.ref o2)])) rfl (by rw [hml]; rfl) (argsL := [(.ref o2), (.int 0), (.int 1)]) (rest := []) (lenOf o_pd17 rfl) rfl (o_wl rfl) (hb hby o_d2_36) (fun _ _ => ⟨rfl, e2, (by decide : 0 + 2 ≤ _), (by decide : 0 + 3 ≤ _)⟩)
 dsimp only [Pt.U, Pt.locs, Pt.cells, Pt.slots] at X3 lq3 yq3 zq3 st3 hQ3
 subst lq3 yq3 zq3
 obtain ⟨bb_3, kb_3, rfl, Nq3, Kp3, G3_0, G3_1⟩ := hQ3
 have N3 := Fr.app N2h Nq3
 have ne4 : o1 ≠ bb_3 := Nat.ne_of_lt (Nat.lt_of_lt_of_le pE1.lt G3_0)
 have sz_bb_3 : h0.size ≤ bb_3 := Nat.le_trans KC0.1 G3_0
 have KC7 := KC0.trans Kp3 all0
 have Z8 := Nat.le_trans Z0 Kp3.1
 refine o_st (G' := T3.setTop (mkF m 39 #[(sR o1), (sR o2), (sI 0), (sI 1), .val .null, .unset] [(.ref bb_3)])) st3 ?_
 obtain ⟨_, X3h, N3h⟩ := o_hide X3 N3
 refine o_astore X3h hx 41 #[(sR o1), (sR o2), (sI 0), (sI 1), .val .null, (sR bb_3)] (hb hby o_d2_39) rfl rfl ?_
 refine o_aloadN X3h hx 42 (hb hby o_d2_41) rfl rfl ?_
 refine o_aload X3h hx 44 (hb hby o_d2_42) rfl rfl ?_
 refine o_iloadN X3h hx 45 (hb hby o_d2_44) rfl ?_
 obtain ⟨_, _, ⟨T9, Lx9, kc9, nc9⟩, -, X9, ⟨Lc9, hQ9, lq9, yq9, zq9⟩, st9⟩ := Jvm.LawKit.callS X3h hx (y := y22) hown (mvT hZ (W hw 63 rfl)) (mvT hZ (W hw 64 rfl)) (mvT hZ (W hw 58 rfl)) (mvT hZ (W hw 65 rfl)) (by decide) (backOf (W := 1) (o_rm13n1U l Z a0 hw [] bb_3 kb_3 [(.int (o_lo c0)), (.int (o_hi c0))] T3.heap n0 Z8 G3_1) hZ (W hw 65 rfl) (W hw 58 rfl) (by decide) (by decide)) (g := (mkF m 45 #[(sR o1), (sR o2), (sI 0), (sI 1), .val .null, (sR bb_3)] [(.int 1), (.ref bb_3), (.ref o1)])) rfl (by rw [hml]; rfl) (argsL := [(.ref bb_3), (.int 1)]) (rest := [(.ref o1)]) (lenOf o_pd18 rfl) rfl (o_wl rfl) (hb hby o_d2_45) (fun _ _ => ⟨rfl, rfl, (by decide : 2 + 0 ≤ _), (by decide : 3 + 0 ≤ _)⟩)
 dsimp only [Pt.U, Pt.locs, Pt.cells, Pt.slots] at X9 lq9 yq9 zq9 st9 hQ9
 subst lq9 yq9 zq9
 obtain ⟨rfl, Nq9, eh9⟩ := hQ9
 have N9 := Fr.app N3h Nq9
 refine o_st (G' := T9.setTop (mkF m 48 #[(sR o1), (sR o2), (sI 0), (sI 1), .val .null, (sR bb_3)] [(.int 1), (.ref o1)])) st9 ?_
 obtain ⟨_, X9h, N9h⟩ := o_hide X9 N9
 have f10 := (pF3.keep Kp3 nin0)
 have f11 := (pE1.keep Kp3)
 obtain ⟨T12, h12, X12, e12, W12, st12⟩ := putFN X9h hx hZ hown (W hw 21 rfl) Via.refl eh9 f10 f11 (Or.inr ⟨(W hw 17 rfl), rfl, hnm⟩) (W hw 2 rfl) (ty := .byte) (v' := (.int 1)) (by decide) rfl rfl (g := (mkF m 48 #[(sR o1), (sR o2), (sI 0), (sI 1), .val .null, (sR bb_3)] [(.int 1), (.ref o1)])) rfl rfl (hb hby o_d2_48)
 have Fw12 := f10.same W12
 have N12 := Fr.snoc X12 N9h pG4
 have KC14 := KC7.wr W12 (Or.inl (List.mem_of_getElem? (i := 0) rfl))
 refine o_st (G' := T12.setTop (mkF m 51 #[(sR o1), (sR o2), (sI 0), (sI 1), .val .null, (sR bb_3)] [])) st12 ?_
 obtain ⟨_, X12h, N12h⟩ := o_hide X12 N12
 refine o_aloadN X12h hx 52 (hb hby o_d2_51) rfl rfl ?_
 refine o_aload X12h hx 54 (hb hby o_d2_52) rfl rfl ?_
 have f16 := ((pF2.keep Kp3 nin0).other W12 (Or.inr (slot_ne (Or.inr (W hw 16 rfl)) (Or.inr (W hw 17 rfl)) (by decide) (t := (.array .byte)) (t' := .byte) (by decide) (by decide))))
 have f17 := (f11.wr W12)
 obtain ⟨T18, h18, X18, e18, W18, st18⟩ := putF X12h hx hZ hown (host := "") (Or.inl (W hw 20 rfl)) Via.refl e12 f16 f17 (Or.inr ⟨(W hw 16 rfl), rfl, hnm⟩) (W hw 2 rfl) (v := (.ref bb_3)) (ty := (.array .byte)) (by decide) rfl rfl (g := (mkF m 54 #[(sR o1), (sR o2), (sI 0), (sI 1), .val .null, (sR bb_3)] [(.ref bb_3), (.ref o1)])) rfl rfl (hb hby o_d2_54)
 have Fw18 := f16.same W18
 have N18 := Fr.snoc X18 N12h pG4
 have KC20 := KC14.wr W18 (Or.inl (List.mem_of_getElem? (i := 0) rfl))
 refine o_st (G' := T18.setTop (mkF m 57 #[(sR o1), (sR o2), (sI 0), (sI 1), .val .null, (sR bb_3)] [])) st18 ?_
 obtain ⟨_, X18h, N18h⟩ := o_hide X18 N18
 have f22 := (f17.wr W18)
 have f23 := (Fw12.other W18 (Or.inr (slot_ne (Or.inr (W hw 17 rfl)) (Or.inr (W hw 16 rfl)) (by decide) (t := .byte) (t' := (.array .byte)) (by decide) (by decide))))
 have f24 := ((G3_1.other W12 (Ne.symm ne4)).other W18 (Ne.symm ne4))
 exact o_retV (Q := o_Q2n1U Z cs sf GG o1 o2 kc c0 h0 n0) X18h hx hrt (hb hby o_d2_57) hlk e18 ⟨bb_3, kb_3, rfl, N18h, KC20, f22, sz_bb_3, Fw18, f23, f24⟩ (by decide) (by decide)
def o_Q1n1U (Z : State) (cs : Int32) (sf : Value) (GG : o_G Z cs sf) (o1 : Addr) (o2 : Addr) (kc : ClassId) (c0 : Int32) (h0 : Heap) (n0 : Nat) (v : Option Value) (h : Heap) (L : List Loc) : Prop := ∃ bb : Addr, ∃ kb : ClassId, v = none ∧ Fr n0 L ∧ Keep h0 h [o1] ∧ Exa Z h o1 "java/lang/String" ∧ h0.size ≤ bb ∧ Fld Z h o1 "java/lang/String" "value" "[B" (.ref bb) ∧ Fld Z h o1 "java/lang/String" "coder" "B" (.int 1) ∧ Arv Z h bb kb .byte 2 [(.int (o_lo c0)), (.int (o_hi c0))] (.int 0)
set_option maxRecDepth 65536 in
set_option maxHeartbeats 40000000 in
theorem o_rm1n1U (l : Launch) (Z : State) (a0 : Array Value) (hw : o_Hw Z a0) (ws : List Jvm.Cond) (cs : Int32) (sf : Value) (GG : o_G Z cs sf) (o1 : Addr) (o2 : Addr) (kc : ClassId) (c0 : Int32) (h0 : Heap) (n0 : Nat) (Z0 : n0 ≤ h0.size) (pE1 : Exa Z h0 o1 "java/lang/String") (pF2 : Fld Z h0 o1 "java/lang/String" "value" "[B" .null) (pF3 : Fld Z h0 o1 "java/lang/String" "coder" "B" (.int 0)) (pG4 : n0 ≤ o1) (O0 : Old Z n0 h0) (pV6 : Arv Z h0 o2 kc .char 1 [(.int c0)] (.int 0)) (hC0 : o_C c0) (hU : (255 : Int32) < c0) :
  o_Met l y29 jdk_42_method_3_code 2 none ws r21 #[(.ref o1), (.ref o2)] Z h0 (o_Q1n1U Z cs sf GG o1 o2 kc c0 h0 n0) := by
 refine MetFree.of_bodySF (plainFor_of_name o_pn3) hisR ?_
 intro p e s m args below meth c s₁ Bd hml0 hP hK
 obtain ⟨rfl, hZ, hh⟩ := hP
 obtain ⟨hx, hby, hlk, hrt⟩ := o_bd Bd
 have hml : c.maxLocals = 2 := hml0
 have hown : s.vm.findClass "java/lang/String" = some m.cls := findClass_of_methodNamed Bd.named
 have X0 : Stand p l e r21 s m #[(.ref o1), (.ref o2)] below meth c s₁ [] 0 0 := Stand.of_body Bd
 have e0 := o_e0 Bd hh
 have N0 := Fr.nil n0
 have KC0 := Keep.refl h0 [o1]
 refine o_in (g' := mkF m 0 #[(sR o1), (sR o2)] []) (by simp [entryFrame, mkF, argsToLocals, Value.category]) ?_
 refine o_aloadN X0 hx 1 (hb hby o_d1_0) rfl rfl ?_
 refine o_aloadN X0 hx 2 (hb hby o_d1_1) rfl rfl ?_
 refine o_iconst X0 hx 3 0 (hb hby o_d1_2) rfl ?_
 refine o_aloadN X0 hx 4 (hb hby o_d1_3) rfl rfl ?_
 obtain ⟨cl1, Ar1, qv1, S1, M1, H1, G1⟩ := id pV6
 have ln1 := len_of S1 M1
 refine o_st (G' := s₁.setTop (mkF m 5 #[(sR o1), (sR o2)] [(.int 1), (.int 0), (.ref o2), (.ref o1)])) (fun t k => X0.arraylength hx (by rw [e0]; exact Ar1.1) (State.isArrayOf_alike hZ.alike Ar1.2.1) (g := (mkF m 4 #[(sR o1), (sR o2)] [(.ref o2), (.int 0), (.ref o2), (.ref o1)])) rfl rfl (hb hby o_d1_4) _ (by rw [ln1]; exact k)) ?_
 refine o_aconstNull X0 hx 6 (hb hby o_d1_5) ?_
 obtain ⟨_, _, ⟨T2, Lx2, kc2, nc2⟩, -, X2, ⟨Lc2, hQ2, lq2, yq2, zq2⟩, st2⟩ := X0.specialBack hx (y := y28) rfl hown (mvT hZ (W hw 7 rfl)) (mvT hZ (W hw 8 rfl)) (mvT hZ (W hw 10 rfl)) (by decide) (backOf (W := 0) (o_rm2n1U l Z a0 hw [] cs sf GG o1 o2 kc c0 h0 n0 Z0 pE1 pF2 pF3 pG4 O0 pV6 (hC0 : o_C c0) (hU : (255 : Int32) < c0)) hZ (W hw 10 rfl) (W hw 3 rfl) (by decide) (by decide)) (g := (mkF m 6 #[(sR o1), (sR o2)] [.null, (.int 1), (.int 0), (.ref o2), (.ref o1)])) rfl (by rw [hml]; rfl) (Steps.refl _) (a := o1) (argsL := [(.ref o2), (.int 0), (.int 1), .null]) (rest := []) (lenOf o_pd19 rfl) rfl (o_wl rfl) (hb hby o_d1_6) (fun _ _ => ⟨rfl, e0, (by decide : 0 + 2 ≤ _), (by decide : 0 + 3 ≤ _)⟩)
 dsimp only [Pt.U, Pt.locs, Pt.cells, Pt.slots] at X2 lq2 yq2 zq2 st2 hQ2
 subst lq2 yq2 zq2
 obtain ⟨bb_2, kb_2, rfl, Nq2, Kp2, G2_0, G2_1, G2_2, G2_3, G2_4⟩ := hQ2
 have N2 := Fr.app N0 Nq2
 have sz_bb_2 : h0.size ≤ bb_2 := Nat.le_trans KC0.1 G2_1
 have KC6 := KC0.trans Kp2 (allS (Or.inl (List.mem_of_getElem? (i := 0) rfl)) all0)
 refine o_st (G' := T2.setTop (mkF m 9 #[(sR o1), (sR o2)] [])) (fun t k => st2.trans k) ?_
 obtain ⟨_, X2h, N2h⟩ := o_hide X2 N2
 exact o_retV (Q := o_Q1n1U Z cs sf GG o1 o2 kc c0 h0 n0) X2h hx hrt (hb hby o_d1_9) hlk rfl ⟨bb_2, kb_2, rfl, N2h, KC6, G2_0, sz_bb_2, G2_2, G2_3, G2_4⟩ (by decide) (by decide)
def o_Q4n1U (Z : State) (cs : Int32) (sf : Value) (GG : o_G Z cs sf) (o1 : Addr) (bb : Addr) (kb : ClassId) (c0 : Int32) (h0 : Heap) (n0 : Nat) (v : Option Value) (h : Heap) (L : List Loc) : Prop := ∃ so : Addr, ∃ b2 : Addr, ∃ k2 : ClassId, v = some (.ref so) ∧ Fr n0 L ∧ Keep h0 h [] ∧ h0.size ≤ so ∧ h0.size ≤ b2 ∧ Exa Z h so "java/lang/String" ∧ Fld Z h so "java/lang/String" "value" "[B" (.ref b2) ∧ Fld Z h so "java/lang/String" "coder" "B" (.int 1) ∧ Arv Z h b2 k2 .byte 2 [(.int (o_lo (o_lc c0))), (.int (o_hi (o_lc c0)))] (.int 0)
set_option maxRecDepth 65536 in
set_option maxHeartbeats 40000000 in
theorem o_rm4n1U (l : Launch) (Z : State) (a0 : Array Value) (hw : o_Hw Z a0) (ws : List Jvm.Cond) (cs : Int32) (sf : Value) (GG : o_G Z cs sf) (o1 : Addr) (bb : Addr) (kb : ClassId) (c0 : Int32) (h0 : Heap) (n0 : Nat) (Z0 : n0 ≤ h0.size) (pE1 : Exa Z h0 o1 "java/lang/String") (pF2 : Fld Z h0 o1 "java/lang/String" "value" "[B" (.ref bb)) (pF3 : Fld Z h0 o1 "java/lang/String" "coder" "B" (.int 1)) (pV4 : Arv Z h0 bb kb .byte 2 [(.int (o_lo c0)), (.int (o_hi c0))] (.int 0)) (O0 : Old Z n0 h0) (hC0 : o_C c0) (hU : (255 : Int32) < c0) :
  o_Met l y30 prog_1_method_4_code 3 (some (.object "java/lang/String")) ws r22 #[(.ref o1)] Z h0 (o_Q4n1U Z cs sf GG o1 bb kb c0 h0 n0) := by
 refine MetFree.of_bodySF (plainFor_of_name o_pn0) hisR ?_
 intro p e s m args below meth c s₁ Bd hml0 hP hK
 obtain ⟨rfl, hZ, hh⟩ := hP
 obtain ⟨hx, hby, hlk, hrt⟩ := o_bd Bd
 have hml : c.maxLocals = 3 := hml0
 have hown : s.vm.findClass "com/example/orbweaver/orbweaver/AsciiText" = some m.cls := findClass_of_methodNamed Bd.named
 have X0 : Stand p l e r22 s m #[(.ref o1)] below meth c s₁ [] 0 0 := Stand.of_body Bd
 have e0 := o_e0 Bd hh
 have N0 := Fr.nil n0
 have KC0 := Keep.refl h0 []
 refine o_in (g' := mkF m 0 #[(sR o1), .unset, .unset] []) (by simp [entryFrame, mkF, argsToLocals, Value.category]) ?_
 refine o_aloadN X0 hx 1 (hb hby o_d4_0) rfl rfl ?_
 obtain ⟨cq1, kq1, q1a, q1b, q1c⟩ := isOf hZ e0 pE1
 obtain ⟨_, _, ⟨T1, Lx1, kc1, nc1⟩, -, X1, ⟨Lc1, hQ1, lq1, yq1, zq1⟩, st1⟩ := X0.virtualBack hx (y := y21) (z := y21) hown (mvT hZ (W hw 26 rfl)) (mvT hZ (W hw 27 rfl)) (notFace_of_selects (args := #[]) (mvT hZ (W hw 29 rfl))) (mvT hZ (W hw 29 rfl)) (mvT hZ (W hw 28 rfl)) (by decide) (backOf (W := 0) (o_rm5n1U l Z a0 hw [] cs sf GG o1 bb kb c0 h0 n0 Z0 pE1 pF2 pF3 pV4 O0 (hC0 : o_C c0)) hZ (W hw 30 rfl) (W hw 3 rfl) (by decide) (by decide)) q1a q1c (g := (mkF m 1 #[(sR o1), .unset, .unset] [(.ref o1)])) rfl (by rw [hml]; rfl) (Steps.refl _) (argsL := []) (rest := []) (lenOf o_pd20 rfl) rfl (o_wl rfl) (hb hby o_d4_1) (fun _ _ => ⟨rfl, e0, (by decide : 0 + 1 ≤ _), (by decide : 0 + 1 ≤ _)⟩)
 dsimp only [Pt.U, Pt.locs, Pt.cells, Pt.slots] at X1 lq1 yq1 zq1 st1 hQ1
 subst lq1 yq1 zq1
 obtain ⟨ca_1, kc_1, rfl, Nq1, Kp1, G1_0, G1_1⟩ := hQ1
 have N1 := Fr.app N0 Nq1
 have gt_ca_1 : n0 ≤ ca_1 := Nat.le_trans Z0 G1_0
 have sz_ca_1 : h0.size ≤ ca_1 := Nat.le_trans KC0.1 G1_0
 have O4 := O0.keep Kp1 all0
 have KC5 := KC0.trans Kp1 all0
 have Z6 := Nat.le_trans Z0 Kp1.1
 refine o_st (G' := T1.setTop (mkF m 4 #[(sR o1), .unset, .unset] [(.ref ca_1)])) (fun t k => st1.trans k) ?_
 obtain ⟨_, X1h, N1h⟩ := o_hide X1 N1
 refine o_astoreN X1h hx 5 #[(sR o1), (sR ca_1), .unset] (hb hby o_d4_4) rfl rfl ?_
 refine o_iconst X1h hx 6 0 (hb hby o_d4_5) rfl ?_
 refine o_istoreN X1h hx 7 #[(sR o1), (sR ca_1), (sI 0)] (hb hby o_d4_6) rfl ?_
 refine o_iloadN X1h hx 8 (hb hby o_d4_7) rfl ?_
 refine o_aloadN X1h hx 9 (hb hby o_d4_8) rfl rfl ?_
 obtain ⟨cl7, Ar7, qv7, S7, M7, H7, G7⟩ := id G1_1
 have ln7 := len_of S7 M7
 refine o_st (G' := T1.setTop (mkF m 10 #[(sR o1), (sR ca_1), (sI 0)] [(.int 1), (.int 0)])) (fun t k => X1h.arraylength hx Ar7.1 (State.isArrayOf_alike hZ.alike Ar7.2.1) (g := (mkF m 9 #[(sR o1), (sR ca_1), (sI 0)] [(.ref ca_1), (.int 0)])) rfl rfl (hb hby o_d4_9) _ (by rw [ln7]; exact k)) ?_
 refine o_icmpNo X1h hx 13 (hb hby o_d4_10) (tlt (by decide : (0 : Int32) < (1 : Int32))).2.1 ?_
 refine o_aloadN X1h hx 14 (hb hby o_d4_13) rfl rfl ?_
 refine o_iloadN X1h hx 15 (hb hby o_d4_14) rfl ?_
 refine o_aloadN X1h hx 16 (hb hby o_d4_15) rfl rfl ?_
 refine o_iloadN X1h hx 17 (hb hby o_d4_16) rfl ?_
 obtain ⟨cl8, Ar8, qv8, S8, M8, H8, G8⟩ := id G1_1
 have hin8 := inb_of (j := (0 : Int32)) S8 ⟨by decide, by decide⟩
 refine o_st (G' := T1.setTop (mkF m 18 #[(sR o1), (sR ca_1), (sI 0)] [(.int c0), (.int 0), (.ref ca_1)])) (fun t k => X1h.caload hx (j := (0 : Int32)) (v := (.int c0)) Ar8.1 (State.isArrayOf_alike hZ.alike Ar8.2.1) Ar8.2.2 hin8 (H8.at hin8 rfl) (g := (mkF m 17 #[(sR o1), (sR ca_1), (sI 0)] [(.int 0), (.ref ca_1), (.int 0), (.ref ca_1)])) rfl rfl (hb hby o_d4_17) _ k) ?_
 obtain ⟨_, _, ⟨T9, Lx9, kc9, nc9⟩, -, X9, ⟨Lc9, hQ9, lq9, yq9, zq9⟩, st9⟩ := Jvm.LawKit.callS X1h hx (y := y0) hown (mvT hZ (W hw 66 rfl)) (mvT hZ (W hw 67 rfl)) (mvT hZ (W hw 24 rfl)) (mvT hZ (W hw 68 rfl)) (by decide) (backOf (W := 2) (o_rm14 l Z a0 hw [] c0 T1.heap n0 Z6 ) hZ (W hw 68 rfl) (W hw 24 rfl) (by decide) (by decide)) (g := (mkF m 18 #[(sR o1), (sR ca_1), (sI 0)] [(.int c0), (.int 0), (.ref ca_1)])) rfl (by rw [hml]; rfl) (argsL := [(.int c0)]) (rest := [(.int 0), (.ref ca_1)]) (lenOf o_pd4 rfl) rfl (o_wl rfl) (hb hby o_d4_18) (fun _ _ => ⟨rfl, rfl, (by decide : 1 + 0 ≤ _), (by decide : 1 + 0 ≤ _)⟩)
 dsimp only [Pt.U, Pt.locs, Pt.cells, Pt.slots] at X9 lq9 yq9 zq9 st9 hQ9
 subst lq9 yq9 zq9
 obtain ⟨rfl, Nq9, eh9⟩ := hQ9
 have N9 := Fr.app N1h Nq9
 refine o_st (G' := T9.setTop (mkF m 21 #[(sR o1), (sR ca_1), (sI 0)] [(.int (o_lc c0)), (.int 0), (.ref ca_1)])) st9 ?_
 obtain ⟨_, X9h, N9h⟩ := o_hide X9 N9
 refine o_i2c X9h hx 22 (hb hby o_d4_21) ?_
 obtain ⟨cl10, Ar10, qv10, S10, M10, H10, G10⟩ := id G1_1
 have hin10 := inb_of (j := (0 : Int32)) S10 ⟨by decide, by decide⟩
 obtain ⟨T10, h10, X10, e10, W10, st10⟩ := stC X9h hx hZ eh9 Ar10 (j := (0 : Int32)) hin10 (g := (mkF m 22 #[(sR o1), (sR ca_1), (sI 0)] [(.int ((o_lc c0).toUInt32.toUInt16.toUInt32.toInt32)), (.int 0), (.ref ca_1)])) rfl rfl (hb hby o_d4_22)
 have V10 : Arv Z h10 ca_1 kc_1 .char 1 [(.int (nar .char ((o_lc c0).toUInt32.toUInt16.toUInt32.toInt32)))] (.int 0) := Arv.set Ar10 qv10 S10 M10 H10 G10 (fits_nar_char _) W10 0 rfl (Nat.le_of_ble_eq_true rfl)
 have N10 := Fr.snoc X10 N9h gt_ca_1
 have O11 := O4.wr W10 gt_ca_1
 have KC12 := KC5.wr W10 (Or.inr sz_ca_1)
 have Z13 := Nat.le_trans Z6 (Nat.le_of_eq W10.size.symm)
 refine o_st (G' := T10.setTop (mkF m 23 #[(sR o1), (sR ca_1), (sI 0)] [])) st10 ?_
 obtain ⟨_, X10h, N10h⟩ := o_hide X10 N10
 refine o_iinc X10h hx 26 (1 : Int32) #[(sR o1), (sR ca_1), (sI 1)] (hb hby o_d4_23) rfl rfl rfl ?_
 refine o_goto X10h hx 7 (hb hby o_d4_26) ?_
 refine o_iloadN X10h hx 8 (hb hby o_d4_7) rfl ?_
 refine o_aloadN X10h hx 9 (hb hby o_d4_8) rfl rfl ?_
 obtain ⟨cl14, Ar14, qv14, S14, M14, H14, G14⟩ := id V10
 have ln14 := len_of S14 M14
 refine o_st (G' := T10.setTop (mkF m 10 #[(sR o1), (sR ca_1), (sI 1)] [(.int 1), (.int 1)])) (fun t k => X10h.arraylength hx (by rw [e10]; exact Ar14.1) (State.isArrayOf_alike hZ.alike Ar14.2.1) (g := (mkF m 9 #[(sR o1), (sR ca_1), (sI 1)] [(.ref ca_1), (.int 1)])) rfl rfl (hb hby o_d4_9) _ (by rw [ln14]; exact k)) ?_
 refine o_icmpYes X10h hx 29 (hb hby o_d4_10) (flt (by decide : ¬ ((1 : Int32) < (1 : Int32)))).2.1 ?_
 have V15 := V10
 rw [o_lcn hC0] at V15
 obtain ⟨T16, h16, X16, e16, E16, A16, D16, -, st16⟩ := newO X10h hx hZ hown (W hw 44 rfl) (W hw 2 rfl) (W hw 3 rfl) e10 (g := (mkF m 29 #[(sR o1), (sR ca_1), (sI 1)] [])) rfl (hb hby o_d4_29) (by decide) (by decide)
 obtain ⟨b16, g16⟩ : ∃ z, z = h10.size := ⟨_, rfl⟩
 rw [← g16] at A16 D16 st16
 have gt_b16 : n0 ≤ b16 := Nat.le_trans Z13 (Nat.le_of_eq g16.symm)
 have sz_b16 : h0.size ≤ b16 := Nat.le_trans KC12.1 (Nat.le_of_eq g16.symm)
 have O22 := O11.ext E16
 have KC23 := KC12.ext E16
 have Z24 := Nat.le_trans Z13 E16.1
 have F16_value : Fld Z h16 b16 "java/lang/String" "value" "[B" .null := D16 (Or.inr (W hw 16 rfl)) (ty := (.array .byte)) (by decide)
 have F16_coder : Fld Z h16 b16 "java/lang/String" "coder" "B" (.int 0) := D16 (Or.inr (W hw 17 rfl)) (ty := .byte) (by decide)
 refine o_st (G' := T16.setTop (mkF m 32 #[(sR o1), (sR ca_1), (sI 1)] [(.ref b16)])) st16 ?_
 obtain ⟨_, X16h, N16h⟩ := o_hide X16 N10h
 refine o_dup X16h hx 33 (hb hby o_d4_32) rfl ?_
 refine o_aloadN X16h hx 34 (hb hby o_d4_33) rfl rfl ?_
 have f25 := (V15.ext E16)
 obtain ⟨_, _, ⟨T26, Lx26, kc26, nc26⟩, -, X26, ⟨Lc26, hQ26, lq26, yq26, zq26⟩, st26⟩ := X16h.specialBack hx (y := y29) rfl hown (mvT hZ (W hw 45 rfl)) (mvT hZ (W hw 5 rfl)) (mvT hZ (W hw 6 rfl)) (by decide) (backOf (W := 1) (o_rm1n1U l Z a0 hw [] cs sf GG b16 ca_1 kc_1 (o_lc c0) h16 n0 Z24 A16 F16_value F16_coder gt_b16 O22 f25 (o_lcC hC0 : o_C (o_lc c0)) (o_lcU hU : (255 : Int32) < (o_lc c0))) hZ (W hw 6 rfl) (W hw 3 rfl) (by decide) (by decide)) (g := (mkF m 34 #[(sR o1), (sR ca_1), (sI 1)] [(.ref ca_1), (.ref b16), (.ref b16)])) rfl (by rw [hml]; rfl) (Steps.refl _) (a := b16) (argsL := [(.ref ca_1)]) (rest := [(.ref b16)]) (lenOf o_pd21 rfl) rfl (o_wl rfl) (hb hby o_d4_34) (fun _ _ => ⟨rfl, e16, (by decide : 2 + 2 ≤ _), (by decide : 5 + 3 ≤ _)⟩)
 dsimp only [Pt.U, Pt.locs, Pt.cells, Pt.slots] at X26 lq26 yq26 zq26 st26 hQ26
 subst lq26 yq26 zq26
 obtain ⟨bb_26, kb_26, rfl, Nq26, Kp26, G26_0, G26_1, G26_2, G26_3, G26_4⟩ := hQ26
 have N26 := Fr.app N16h Nq26
 have sz_bb_26 : h0.size ≤ bb_26 := Nat.le_trans KC23.1 G26_1
 have KC34 := KC23.trans Kp26 (allS (Or.inr sz_b16) all0)
 refine o_st (G' := T26.setTop (mkF m 37 #[(sR o1), (sR ca_1), (sI 1)] [(.ref b16)])) (fun t k => st26.trans k) ?_
 obtain ⟨_, X26h, N26h⟩ := o_hide X26 N26
 exact o_retA (z := (.ref b16)) (Q := o_Q4n1U Z cs sf GG o1 bb kb c0 h0 n0) X26h hx hrt rfl rfl (hb hby o_d4_37) hlk rfl ⟨b16, bb_26, kb_26, rfl, N26h, KC34, sz_b16, sz_bb_26, G26_0, G26_2, G26_3, G26_4⟩ (by decide) (by decide)
def o_Q28n2 (Z : State) (o1 : Addr) (kb : ClassId) (vs : List Value) (h0 : Heap) (n0 : Nat) (v : Option Value) (h : Heap) (L : List Loc) : Prop := v = some (.int 2) ∧ Fr n0 L ∧ h = h0
set_option maxRecDepth 65536 in
set_option maxHeartbeats 40000000 in
theorem o_rm28n2 (l : Launch) (Z : State) (a0 : Array Value) (hw : o_Hw Z a0) (ws : List Jvm.Cond) (o1 : Addr) (kb : ClassId) (vs : List Value) (h0 : Heap) (n0 : Nat) (Z0 : n0 ≤ h0.size) (pV1 : Arv Z h0 o1 kb .byte 4 vs (.int 0)) :
  o_Met l y6 jdk_52_method_6_code 1 (some .int) ws r0 #[(.ref o1)] Z h0 (o_Q28n2 Z o1 kb vs h0 n0) := by
 refine MetFree.of_bodySF (plainFor_of_name o_pn4) hisR ?_
 intro p e s m args below meth c s₁ Bd hml0 hP hK
 obtain ⟨rfl, hZ, hh⟩ := hP
 obtain ⟨hx, hby, hlk, hrt⟩ := o_bd Bd
 have X0 : Stand p l e r0 s m #[(.ref o1)] below meth c s₁ [] 0 0 := Stand.of_body Bd
 have e0 := o_e0 Bd hh
 have N0 := Fr.nil n0
 refine o_in (g' := mkF m 0 #[(sR o1)] []) (by simp [entryFrame, mkF, argsToLocals, Value.category]) ?_
 refine o_aloadN X0 hx 1 (hb hby o_d28_0) rfl rfl ?_
 obtain ⟨cl1, Ar1, qv1, S1, M1, H1, G1⟩ := id pV1
 have ln1 := len_of S1 M1
 refine o_st (G' := s₁.setTop (mkF m 2 #[(sR o1)] [(.int 4)])) (fun t k => X0.arraylength hx (by rw [e0]; exact Ar1.1) (State.isArrayOf_alike hZ.alike Ar1.2.1) (g := (mkF m 1 #[(sR o1)] [(.ref o1)])) rfl rfl (hb hby o_d28_1) _ (by rw [ln1]; exact k)) ?_
 refine o_iconst X0 hx 3 1 (hb hby o_d28_2) rfl ?_
 refine o_ishr X0 hx 4 (hb hby o_d28_3) ?_
 rw [show ((4 : Int32) >>> ((1 : Int32) &&& 31)) = (2 : Int32) from by decide]
 exact o_retI (z := (2 : Int32)) (Q := o_Q28n2 Z o1 kb vs h0 n0) X0 hx hrt (hb hby o_d28_4) hlk e0 ⟨rfl, N0, rfl⟩ (by decide) (by decide)
theorem o_ef30n2 (m : MethodId) (sf : Value) (hsf : sf.isRef = true) : entryFrame m #[(.int 0), (.int 2), (.int 2), sf] 4 = mkF m 0 #[(sI 0), (sI 2), (sI 2), .val sf] [] := by
  cases sf <;> first | (simp [Value.isRef] at hsf; done) | (simp [entryFrame, mkF, argsToLocals, Value.category]; done) | rfl
def o_Q30n2 (Z : State) (cs : Int32) (sf : Value) (GG : o_G Z cs sf)  (h0 : Heap) (n0 : Nat) (v : Option Value) (h : Heap) (L : List Loc) : Prop := v = some (.int 0) ∧ Fr n0 L ∧ h = h0
set_option maxRecDepth 65536 in
set_option maxHeartbeats 40000000 in
theorem o_rm30n2 (l : Launch) (Z : State) (a0 : Array Value) (hw : o_Hw Z a0) (ws : List Jvm.Cond) (cs : Int32) (sf : Value) (GG : o_G Z cs sf)  (h0 : Heap) (n0 : Nat) (Z0 : n0 ≤ h0.size)  :
  o_Met l y7 jdk_41_method_13_code 4 (some .int) ws r0 #[(.int 0), (.int 2), (.int 2), sf] Z h0 (o_Q30n2 Z cs sf GG  h0 n0) := by
 refine MetFree.of_bodySF (plainFor_of_name o_pn2) hisR ?_
 intro p e s m args below meth c s₁ Bd hml0 hP hK
 obtain ⟨rfl, hZ, hh⟩ := hP
 obtain ⟨hx, hby, hlk, hrt⟩ := o_bd Bd
 have X0 : Stand p l e r0 s m #[(.int 0), (.int 2), (.int 2), sf] below meth c s₁ [] 0 0 := Stand.of_body Bd
 have e0 := o_e0 Bd hh
 have N0 := Fr.nil n0
 refine o_in (o_ef30n2 m sf GG.2.2.2.1) ?_
 refine o_iloadN X0 hx 1 (hb hby o_d30_0) rfl ?_
 refine o_iloadN X0 hx 2 (hb hby o_d30_1) rfl ?_
 refine o_ior X0 hx 3 (hb hby o_d30_2) ?_
 show o_Gs p e below _ (s₁.setTop (mkF m 3 #[(sI 0), (sI 2), (sI 2), .val sf] [(.int 2)]))
 refine o_iloadN X0 hx 4 (hb hby o_d30_3) rfl ?_
 refine o_ior X0 hx 5 (hb hby o_d30_4) ?_
 show o_Gs p e below _ (s₁.setTop (mkF m 5 #[(sI 0), (sI 2), (sI 2), .val sf] [(.int 2)]))
 refine o_ifNo X0 hx 8 (hb hby o_d30_5) (flt (by decide : ¬ ((2 : Int32) < (0 : Int32)))).1 ?_
 refine o_iloadN X0 hx 9 (hb hby o_d30_8) rfl ?_
 refine o_iloadN X0 hx 10 (hb hby o_d30_9) rfl ?_
 refine o_iloadN X0 hx 11 (hb hby o_d30_10) rfl ?_
 refine o_isub X0 hx 12 (hb hby o_d30_11) ?_
 show o_Gs p e below _ (s₁.setTop (mkF m 12 #[(sI 0), (sI 2), (sI 2), .val sf] [(.int 2), (.int 2)]))
 refine o_icmpYes X0 hx 23 (hb hby o_d30_12) (flt (by decide : ¬ ((2 : Int32) < (2 : Int32)))).2.2.2 ?_
 refine o_iloadN X0 hx 24 (hb hby o_d30_23) rfl ?_
 exact o_retI (z := (0 : Int32)) (Q := o_Q30n2 Z cs sf GG  h0 n0) X0 hx hrt (hb hby o_d30_24) hlk e0 ⟨rfl, N0, rfl⟩ (by decide) (by decide)
def o_Q29n2 (Z : State) (cs : Int32) (sf : Value) (GG : o_G Z cs sf)  (h0 : Heap) (n0 : Nat) (v : Option Value) (h : Heap) (L : List Loc) : Prop := v = some (.int 0) ∧ Fr n0 L ∧ h = h0
set_option maxRecDepth 65536 in
set_option maxHeartbeats 40000000 in
theorem o_rm29n2 (l : Launch) (Z : State) (a0 : Array Value) (hw : o_Hw Z a0) (ws : List Jvm.Cond) (cs : Int32) (sf : Value) (GG : o_G Z cs sf)  (h0 : Heap) (n0 : Nat) (Z0 : n0 ≤ h0.size) (O0 : Old Z n0 h0) :
  o_Met l y8 jdk_42_method_157_code 3 (some .int) ws r2 #[(.int 0), (.int 2), (.int 2)] Z h0 (o_Q29n2 Z cs sf GG  h0 n0) := by
 refine MetFree.of_bodySF (plainFor_of_name o_pn3) hisR ?_
 intro p e s m args below meth c s₁ Bd hml0 hP hK
 obtain ⟨rfl, hZ, hh⟩ := hP
 obtain ⟨hx, hby, hlk, hrt⟩ := o_bd Bd
 have hml : c.maxLocals = 3 := hml0
 have hown : s.vm.findClass "java/lang/String" = some m.cls := findClass_of_methodNamed Bd.named
 have X0 : Stand p l e r2 s m #[(.int 0), (.int 2), (.int 2)] below meth c s₁ [] 0 0 := Stand.of_body Bd
 have e0 := o_e0 Bd hh
 have N0 := Fr.nil n0
 refine o_in (g' := mkF m 0 #[(sI 0), (sI 2), (sI 2)] []) (by simp [entryFrame, mkF, argsToLocals, Value.category]) ?_
 refine o_iloadN X0 hx 1 (hb hby o_d29_0) rfl ?_
 refine o_iloadN X0 hx 2 (hb hby o_d29_1) rfl ?_
 refine o_iloadN X0 hx 3 (hb hby o_d29_2) rfl ?_
 obtain ⟨T1, X1, e1, st1⟩ := getS2 X0 hx hZ hown (host := "") (Or.inl (W hw 80 rfl)) Via.refl e0 (GG.2.2.1.ext O0.2) (g := (mkF m 3 #[(sI 0), (sI 2), (sI 2)] [(.int 2), (.int 2), (.int 0)])) rfl (hb hby o_d29_3)
 refine o_st (G' := T1.setTop (mkF m 6 #[(sI 0), (sI 2), (sI 2)] [sf, (.int 2), (.int 2), (.int 0)])) st1 ?_
 obtain ⟨_, X1h, N1h⟩ := o_hide X1 N0
 obtain ⟨_, _, ⟨T2, Lx2, kc2, nc2⟩, -, X2, ⟨Lc2, hQ2, lq2, yq2, zq2⟩, st2⟩ := Jvm.LawKit.callS X1h hx (y := y7) hown (mvT hZ (W hw 123 rfl)) (mvT hZ (W hw 124 rfl)) (mvT hZ (W hw 81 rfl)) (mvT hZ (W hw 125 rfl)) (by decide) (backOf (W := 0) (o_rm30n2 l Z a0 hw [] cs sf GG  h0 n0 Z0 ) hZ (W hw 125 rfl) (W hw 81 rfl) (by decide) (by decide)) (g := (mkF m 6 #[(sI 0), (sI 2), (sI 2)] [sf, (.int 2), (.int 2), (.int 0)])) rfl (by rw [hml]; rfl) (argsL := [(.int 0), (.int 2), (.int 2), sf]) (rest := []) (lenOf o_pd1 rfl) rfl (o_wl rfl) (hb hby o_d29_6) (fun _ _ => ⟨rfl, e1, (by decide : 0 + 0 ≤ _), (by decide : 0 + 0 ≤ _)⟩)
 dsimp only [Pt.U, Pt.locs, Pt.cells, Pt.slots] at X2 lq2 yq2 zq2 st2 hQ2
 subst lq2 yq2 zq2
 obtain ⟨rfl, Nq2, eh2⟩ := hQ2
 have N2 := Fr.app N1h Nq2
 refine o_st (G' := T2.setTop (mkF m 9 #[(sI 0), (sI 2), (sI 2)] [(.int 0)])) st2 ?_
 obtain ⟨_, X2h, N2h⟩ := o_hide X2 N2
 exact o_retI (z := (0 : Int32)) (Q := o_Q29n2 Z cs sf GG  h0 n0) X2h hx hrt (hb hby o_d29_9) hlk eh2 ⟨rfl, N2h, rfl⟩ (by decide) (by decide)
def o_Q27n2 (Z : State) (cs : Int32) (sf : Value) (GG : o_G Z cs sf) (o1 : Addr) (kb : ClassId) (vs : List Value) (h0 : Heap) (n0 : Nat) (v : Option Value) (h : Heap) (L : List Loc) : Prop := v = none ∧ Fr n0 L ∧ h = h0
set_option maxRecDepth 65536 in
set_option maxHeartbeats 40000000 in
theorem o_rm27n2 (l : Launch) (Z : State) (a0 : Array Value) (hw : o_Hw Z a0) (ws : List Jvm.Cond) (cs : Int32) (sf : Value) (GG : o_G Z cs sf) (o1 : Addr) (kb : ClassId) (vs : List Value) (h0 : Heap) (n0 : Nat) (Z0 : n0 ≤ h0.size) (pV1 : Arv Z h0 o1 kb .byte 4 vs (.int 0)) (O0 : Old Z n0 h0) :
  o_Met l y9 jdk_52_method_94_code 3 none ws r3 #[(.int 0), (.int 2), (.ref o1)] Z h0 (o_Q27n2 Z cs sf GG o1 kb vs h0 n0) := by
 refine MetFree.of_bodySF (plainFor_of_name o_pn4) hisR ?_
 intro p e s m args below meth c s₁ Bd hml0 hP hK
 obtain ⟨rfl, hZ, hh⟩ := hP
 obtain ⟨hx, hby, hlk, hrt⟩ := o_bd Bd
 have hml : c.maxLocals = 3 := hml0
 have hown : s.vm.findClass "java/lang/StringUTF16" = some m.cls := findClass_of_methodNamed Bd.named
 have X0 : Stand p l e r3 s m #[(.int 0), (.int 2), (.ref o1)] below meth c s₁ [] 0 0 := Stand.of_body Bd
 have e0 := o_e0 Bd hh
 have N0 := Fr.nil n0
 refine o_in (g' := mkF m 0 #[(sI 0), (sI 2), (sR o1)] []) (by simp [entryFrame, mkF, argsToLocals, Value.category]) ?_
 refine o_iloadN X0 hx 1 (hb hby o_d27_0) rfl ?_
 refine o_iloadN X0 hx 2 (hb hby o_d27_1) rfl ?_
 refine o_aloadN X0 hx 3 (hb hby o_d27_2) rfl rfl ?_
 obtain ⟨_, _, ⟨T1, Lx1, kc1, nc1⟩, -, X1, ⟨Lc1, hQ1, lq1, yq1, zq1⟩, st1⟩ := Jvm.LawKit.callS X0 hx (y := y6) hown (mvT hZ (W hw 117 rfl)) (mvT hZ (W hw 118 rfl)) (mvT hZ (W hw 58 rfl)) (mvT hZ (W hw 119 rfl)) (by decide) (backOf (W := 2) (o_rm28n2 l Z a0 hw [] o1 kb vs h0 n0 Z0 pV1) hZ (W hw 119 rfl) (W hw 58 rfl) (by decide) (by decide)) (g := (mkF m 3 #[(sI 0), (sI 2), (sR o1)] [(.ref o1), (.int 2), (.int 0)])) rfl (by rw [hml]; rfl) (argsL := [(.ref o1)]) (rest := [(.int 2), (.int 0)]) (lenOf o_pd2 rfl) rfl (o_wl rfl) (hb hby o_d27_3) (fun _ _ => ⟨rfl, e0, (by decide : 0 + 0 ≤ _), (by decide : 0 + 0 ≤ _)⟩)
 dsimp only [Pt.U, Pt.locs, Pt.cells, Pt.slots] at X1 lq1 yq1 zq1 st1 hQ1
 subst lq1 yq1 zq1
 obtain ⟨rfl, Nq1, eh1⟩ := hQ1
 have N1 := Fr.app N0 Nq1
 refine o_st (G' := T1.setTop (mkF m 6 #[(sI 0), (sI 2), (sR o1)] [(.int 2), (.int 2), (.int 0)])) st1 ?_
 obtain ⟨_, X1h, N1h⟩ := o_hide X1 N1
 obtain ⟨_, _, ⟨T2, Lx2, kc2, nc2⟩, -, X2, ⟨Lc2, hQ2, lq2, yq2, zq2⟩, st2⟩ := Jvm.LawKit.callS X1h hx (y := y8) hown (mvT hZ (W hw 120 rfl)) (mvT hZ (W hw 121 rfl)) (mvT hZ (W hw 3 rfl)) (mvT hZ (W hw 122 rfl)) (by decide) (backOf (W := 0) (o_rm29n2 l Z a0 hw [] cs sf GG  h0 n0 Z0 O0) hZ (W hw 122 rfl) (W hw 3 rfl) (by decide) (by decide)) (g := (mkF m 6 #[(sI 0), (sI 2), (sR o1)] [(.int 2), (.int 2), (.int 0)])) rfl (by rw [hml]; rfl) (argsL := [(.int 0), (.int 2), (.int 2)]) (rest := []) (lenOf o_pd3 rfl) rfl (o_wl rfl) (hb hby o_d27_6) (fun _ _ => ⟨rfl, eh1, (by decide : 0 + 0 ≤ _), (by decide : 0 + 0 ≤ _)⟩)
 dsimp only [Pt.U, Pt.locs, Pt.cells, Pt.slots] at X2 lq2 yq2 zq2 st2 hQ2
 subst lq2 yq2 zq2
 obtain ⟨rfl, Nq2, eh2⟩ := hQ2
 have N2 := Fr.app N1h Nq2
 refine o_st (G' := T2.setTop (mkF m 9 #[(sI 0), (sI 2), (sR o1)] [(.int 0)])) st2 ?_
 obtain ⟨_, X2h, N2h⟩ := o_hide X2 N2
 refine o_pop X2h hx 10 (hb hby o_d27_9) rfl ?_
 exact o_retV (Q := o_Q27n2 Z cs sf GG o1 kb vs h0 n0) X2h hx hrt (hb hby o_d27_10) hlk eh2 ⟨rfl, N2h, rfl⟩ (by decide) (by decide)
def o_Q22n2 (Z : State)  (h0 : Heap) (n0 : Nat) (v : Option Value) (h : Heap) (L : List Loc) : Prop := v = some (.int 4) ∧ Fr n0 L ∧ h = h0
set_option maxRecDepth 65536 in
set_option maxHeartbeats 40000000 in
theorem o_rm22n2 (l : Launch) (Z : State) (a0 : Array Value) (hw : o_Hw Z a0) (ws : List Jvm.Cond)  (h0 : Heap) (n0 : Nat) (Z0 : n0 ≤ h0.size)  :
  o_Met l y10 jdk_52_method_3_code 1 (some .int) ws r0 #[(.int 2)] Z h0 (o_Q22n2 Z  h0 n0) := by
 refine MetFree.of_bodySF (plainFor_of_name o_pn4) hisR ?_
 intro p e s m args below meth c s₁ Bd hml0 hP hK
 obtain ⟨rfl, hZ, hh⟩ := hP
 obtain ⟨hx, hby, hlk, hrt⟩ := o_bd Bd
 have hown : s.vm.findClass "java/lang/StringUTF16" = some m.cls := findClass_of_methodNamed Bd.named
 have X0 : Stand p l e r0 s m #[(.int 2)] below meth c s₁ [] 0 0 := Stand.of_body Bd
 have e0 := o_e0 Bd hh
 have N0 := Fr.nil n0
 refine o_in (g' := mkF m 0 #[(sI 2)] []) (by simp [entryFrame, mkF, argsToLocals, Value.category]) ?_
 refine o_iloadN X0 hx 1 (hb hby o_d22_0) rfl ?_
 refine o_ifYes X0 hx 12 (hb hby o_d22_1) (flt (by decide : ¬ ((2 : Int32) < (0 : Int32)))).2.1 ?_
 refine o_iloadN X0 hx 13 (hb hby o_d22_12) rfl ?_
 refine o_ldcI X0 hx 15 hown (mvT hZ (W hw 98 rfl)) (hb hby o_d22_13) ?_
 refine o_icmpYes X0 hx 55 (hb hby o_d22_15) (tlt (by decide : (2 : Int32) < (1073741823 : Int32))).1 ?_
 refine o_iloadN X0 hx 56 (hb hby o_d22_55) rfl ?_
 refine o_iconst X0 hx 57 1 (hb hby o_d22_56) rfl ?_
 refine o_ishl X0 hx 58 (hb hby o_d22_57) ?_
 rw [show ((2 : Int32) <<< ((1 : Int32) &&& 31)) = (4 : Int32) from by decide]
 exact o_retI (z := (4 : Int32)) (Q := o_Q22n2 Z  h0 n0) X0 hx hrt (hb hby o_d22_58) hlk e0 ⟨rfl, N0, rfl⟩ (by decide) (by decide)
def o_Q21n2 (Z : State)  (h0 : Heap) (n0 : Nat) (v : Option Value) (h : Heap) (L : List Loc) : Prop := ∃ bb : Addr, ∃ kb : ClassId, v = some (.ref bb) ∧ Fr n0 L ∧ Keep h0 h [] ∧ h0.size ≤ bb ∧ Arv Z h bb kb .byte 4 [(.int 0), (.int 0), (.int 0), (.int 0)] (.int 0)
set_option maxRecDepth 65536 in
set_option maxHeartbeats 40000000 in
theorem o_rm21n2 (l : Launch) (Z : State) (a0 : Array Value) (hw : o_Hw Z a0) (ws : List Jvm.Cond)  (h0 : Heap) (n0 : Nat) (Z0 : n0 ≤ h0.size)  :
  o_Met l y11 jdk_52_method_2_code 1 (some (.array .byte)) ws r23 #[(.int 2)] Z h0 (o_Q21n2 Z  h0 n0) := by
 refine MetFree.of_bodySF (plainFor_of_name o_pn4) hisR ?_
 intro p e s m args below meth c s₁ Bd hml0 hP hK
 obtain ⟨rfl, hZ, hh⟩ := hP
 obtain ⟨hx, hby, hlk, hrt⟩ := o_bd Bd
 have hml : c.maxLocals = 1 := hml0
 have hown : s.vm.findClass "java/lang/StringUTF16" = some m.cls := findClass_of_methodNamed Bd.named
 have X0 : Stand p l e r23 s m #[(.int 2)] below meth c s₁ [] 0 0 := Stand.of_body Bd
 have e0 := o_e0 Bd hh
 have N0 := Fr.nil n0
 have KC0 := Keep.refl h0 []
 refine o_in (g' := mkF m 0 #[(sI 2)] []) (by simp [entryFrame, mkF, argsToLocals, Value.category]) ?_
 refine o_iloadN X0 hx 1 (hb hby o_d21_0) rfl ?_
 obtain ⟨_, _, ⟨T1, Lx1, kc1, nc1⟩, -, X1, ⟨Lc1, hQ1, lq1, yq1, zq1⟩, st1⟩ := Jvm.LawKit.callS X0 hx (y := y10) hown (mvT hZ (W hw 95 rfl)) (mvT hZ (W hw 96 rfl)) (mvT hZ (W hw 58 rfl)) (mvT hZ (W hw 97 rfl)) (by decide) (backOf (W := 0) (o_rm22n2 l Z a0 hw []  h0 n0 Z0 ) hZ (W hw 97 rfl) (W hw 58 rfl) (by decide) (by decide)) (g := (mkF m 1 #[(sI 2)] [(.int 2)])) rfl (by rw [hml]; rfl) (argsL := [(.int 2)]) (rest := []) (lenOf o_pd4 rfl) rfl (o_wl rfl) (hb hby o_d21_1) (fun _ _ => ⟨rfl, e0, (by decide : 0 + 0 ≤ _), (by decide : 0 + 0 ≤ _)⟩)
 dsimp only [Pt.U, Pt.locs, Pt.cells, Pt.slots] at X1 lq1 yq1 zq1 st1 hQ1
 subst lq1 yq1 zq1
 obtain ⟨rfl, Nq1, eh1⟩ := hQ1
 have N1 := Fr.app N0 Nq1
 refine o_st (G' := T1.setTop (mkF m 4 #[(sI 2)] [(.int 4)])) st1 ?_
 obtain ⟨_, X1h, N1h⟩ := o_hide X1 N1
 obtain ⟨T2, h2, k2, X2, e2, E2, A2, st2⟩ := newP X1h hx hZ (W hw 15 rfl) eh1 (g := (mkF m 4 #[(sI 2)] [(.int 4)])) rfl (hb hby o_d21_4) rfl (by decide) (cap := 4) (by decide) (by decide) (by decide) (by decide)
 obtain ⟨b2, g2⟩ : ∃ z, z = h0.size := ⟨_, rfl⟩
 rw [← g2] at A2 st2
 have sz_b2 : h0.size ≤ b2 := Nat.le_trans KC0.1 (Nat.le_of_eq g2.symm)
 have V2 : Arv Z h2 b2 k2 .byte 4 [(.int 0), (.int 0), (.int 0), (.int 0)] (.int 0) := (Arv.new A2 (by decide)).pad (pad_rep [] (.int 0) 4)
 have KC3 := KC0.ext E2
 refine o_st (G' := T2.setTop (mkF m 6 #[(sI 2)] [(.ref b2)])) st2 ?_
 obtain ⟨_, X2h, N2h⟩ := o_hide X2 N1h
 exact o_retA (z := (.ref b2)) (Q := o_Q21n2 Z  h0 n0) X2h hx hrt rfl rfl (hb hby o_d21_6) hlk e2 ⟨b2, k2, rfl, N2h, KC3, sz_b2, V2⟩ (by decide) (by decide)
def o_Q23n2i0 (Z : State) (cs : Int32) (sf : Value) (GG : o_G Z cs sf) (o1 : Addr) (v2 : Int32) (kb : ClassId) (yy0 : Int32) (yy1 : Int32) (yy2 : Int32) (yy3 : Int32) (h0 : Heap) (n0 : Nat) (v : Option Value) (h : Heap) (L : List Loc) : Prop := v = none ∧ Fr n0 L ∧ Keep h0 h [o1] ∧ Arv Z h o1 kb .byte 4 [(.int (o_lo v2)), (.int (o_hi v2)), (.int yy2), (.int yy3)] (.int 0)
set_option maxRecDepth 65536 in
set_option maxHeartbeats 40000000 in
theorem o_rm23n2i0 (l : Launch) (Z : State) (a0 : Array Value) (hw : o_Hw Z a0) (ws : List Jvm.Cond) (cs : Int32) (sf : Value) (GG : o_G Z cs sf) (o1 : Addr) (v2 : Int32) (kb : ClassId) (yy0 : Int32) (yy1 : Int32) (yy2 : Int32) (yy3 : Int32) (h0 : Heap) (n0 : Nat) (Z0 : n0 ≤ h0.size) (pV1 : Arv Z h0 o1 kb .byte 4 [(.int yy0), (.int yy1), (.int yy2), (.int yy3)] (.int 0)) (pG2 : n0 ≤ o1) (O0 : Old Z n0 h0) :
  o_Met l y12 jdk_52_method_4_code 3 none ws r0 #[(.ref o1), (.int 0), (.int v2)] Z h0 (o_Q23n2i0 Z cs sf GG o1 v2 kb yy0 yy1 yy2 yy3 h0 n0) := by
 refine MetFree.of_bodySF (plainFor_of_name o_pn4) hisR ?_
 intro p e s m args below meth c s₁ Bd hml0 hP hK
 obtain ⟨rfl, hZ, hh⟩ := hP
 obtain ⟨hx, hby, hlk, hrt⟩ := o_bd Bd
 have hown : s.vm.findClass "java/lang/StringUTF16" = some m.cls := findClass_of_methodNamed Bd.named
 have X0 : Stand p l e r0 s m #[(.ref o1), (.int 0), (.int v2)] below meth c s₁ [] 0 0 := Stand.of_body Bd
 have e0 := o_e0 Bd hh
 have N0 := Fr.nil n0
 have KC0 := Keep.refl h0 [o1]
 refine o_in (g' := mkF m 0 #[(sR o1), (sI 0), (sI v2)] []) (by simp [entryFrame, mkF, argsToLocals, Value.category]) ?_
 obtain ⟨T1, X1, e1, st1⟩ := getS2 X0 hx hZ hown (host := "") (Or.inl (W hw 102 rfl)) Via.refl e0 (GG.2.2.2.2.1.ext O0.2) (g := (mkF m 0 #[(sR o1), (sI 0), (sI v2)] [])) rfl (hb hby o_d23_0)
 refine o_st (G' := T1.setTop (mkF m 3 #[(sR o1), (sI 0), (sI v2)] [(.int 1)])) st1 ?_
 obtain ⟨_, X1h, N1h⟩ := o_hide X1 N0
 refine o_ifYes X1h hx 28 (hb hby o_d23_3) (feq (by decide : ¬ ((1 : Int32) = (0 : Int32)))).2 ?_
 refine o_iloadN X1h hx 29 (hb hby o_d23_28) rfl ?_
 refine o_iconst X1h hx 30 1 (hb hby o_d23_29) rfl ?_
 refine o_ishl X1h hx 31 (hb hby o_d23_30) ?_
 rw [show ((0 : Int32) <<< ((1 : Int32) &&& 31)) = (0 : Int32) from by decide]
 refine o_istoreN X1h hx 32 #[(sR o1), (sI 0), (sI v2)] (hb hby o_d23_31) rfl ?_
 refine o_aloadN X1h hx 33 (hb hby o_d23_32) rfl rfl ?_
 refine o_iloadN X1h hx 34 (hb hby o_d23_33) rfl ?_
 refine o_iinc X1h hx 37 (1 : Int32) #[(sR o1), (sI 1), (sI v2)] (hb hby o_d23_34) rfl rfl rfl ?_
 refine o_iloadN X1h hx 38 (hb hby o_d23_37) rfl ?_
 obtain ⟨T2, X2, e2, st2⟩ := getS2 X1h hx hZ hown (host := "") (Or.inl (W hw 103 rfl)) Via.refl e1 (GG.2.2.2.2.2.1.ext O0.2) (g := (mkF m 38 #[(sR o1), (sI 1), (sI v2)] [(.int v2), (.int 0), (.ref o1)])) rfl (hb hby o_d23_38)
 refine o_st (G' := T2.setTop (mkF m 41 #[(sR o1), (sI 1), (sI v2)] [(.int 0), (.int v2), (.int 0), (.ref o1)])) st2 ?_
 obtain ⟨_, X2h, N2h⟩ := o_hide X2 N1h
 refine o_ishr X2h hx 42 (hb hby o_d23_41) ?_
 refine o_i2b X2h hx 43 (hb hby o_d23_42) ?_
 obtain ⟨cl3, Ar3, qv3, S3, M3, H3, G3⟩ := id pV1
 have hin3 := inb_of (j := (0 : Int32)) S3 ⟨by decide, by decide⟩
 obtain ⟨T3, h3, X3, e3, W3, st3⟩ := stB X2h hx hZ e2 Ar3 (j := (0 : Int32)) hin3 (g := (mkF m 43 #[(sR o1), (sI 1), (sI v2)] [(.int ((v2 >>> ((0 : Int32) &&& 31)).toInt8.toInt32)), (.int 0), (.ref o1)])) rfl rfl (hb hby o_d23_43)
 have V3 : Arv Z h3 o1 kb .byte 4 [(.int (nar .byte ((v2 >>> ((0 : Int32) &&& 31)).toInt8.toInt32))), (.int yy1), (.int yy2), (.int yy3)] (.int 0) := Arv.set Ar3 qv3 S3 M3 H3 G3 (fits_nar_byte _) W3 0 rfl (Nat.le_of_ble_eq_true rfl)
 have N3 := Fr.snoc X3 N2h pG2
 have O4 := O0.wr W3 pG2
 have KC5 := KC0.wr W3 (Or.inl (List.mem_of_getElem? (i := 0) rfl))
 refine o_st (G' := T3.setTop (mkF m 44 #[(sR o1), (sI 1), (sI v2)] [])) st3 ?_
 obtain ⟨_, X3h, N3h⟩ := o_hide X3 N3
 refine o_aloadN X3h hx 45 (hb hby o_d23_44) rfl rfl ?_
 refine o_iloadN X3h hx 46 (hb hby o_d23_45) rfl ?_
 refine o_iloadN X3h hx 47 (hb hby o_d23_46) rfl ?_
 obtain ⟨T7, X7, e7, st7⟩ := getS2 X3h hx hZ hown (host := "") (Or.inl (W hw 104 rfl)) Via.refl e3 (GG.2.2.2.2.2.2.ext O4.2) (g := (mkF m 47 #[(sR o1), (sI 1), (sI v2)] [(.int v2), (.int 1), (.ref o1)])) rfl (hb hby o_d23_47)
 refine o_st (G' := T7.setTop (mkF m 50 #[(sR o1), (sI 1), (sI v2)] [(.int 8), (.int v2), (.int 1), (.ref o1)])) st7 ?_
 obtain ⟨_, X7h, N7h⟩ := o_hide X7 N3h
 refine o_ishr X7h hx 51 (hb hby o_d23_50) ?_
 refine o_i2b X7h hx 52 (hb hby o_d23_51) ?_
 obtain ⟨cl8, Ar8, qv8, S8, M8, H8, G8⟩ := id V3
 have hin8 := inb_of (j := (1 : Int32)) S8 ⟨by decide, by decide⟩
 obtain ⟨T8, h8, X8, e8, W8, st8⟩ := stB X7h hx hZ e7 Ar8 (j := (1 : Int32)) hin8 (g := (mkF m 52 #[(sR o1), (sI 1), (sI v2)] [(.int ((v2 >>> ((8 : Int32) &&& 31)).toInt8.toInt32)), (.int 1), (.ref o1)])) rfl rfl (hb hby o_d23_52)
 have V8 : Arv Z h8 o1 kb .byte 4 [(.int (nar .byte ((v2 >>> ((0 : Int32) &&& 31)).toInt8.toInt32))), (.int (nar .byte ((v2 >>> ((8 : Int32) &&& 31)).toInt8.toInt32))), (.int yy2), (.int yy3)] (.int 0) := Arv.set Ar8 qv8 S8 M8 H8 G8 (fits_nar_byte _) W8 1 rfl (Nat.le_of_ble_eq_true rfl)
 have N8 := Fr.snoc X8 N7h pG2
 have KC10 := KC5.wr W8 (Or.inl (List.mem_of_getElem? (i := 0) rfl))
 refine o_st (G' := T8.setTop (mkF m 53 #[(sR o1), (sI 1), (sI v2)] [])) st8 ?_
 obtain ⟨_, X8h, N8h⟩ := o_hide X8 N8
 exact o_retV (Q := o_Q23n2i0 Z cs sf GG o1 v2 kb yy0 yy1 yy2 yy3 h0 n0) X8h hx hrt (hb hby o_d23_53) hlk e8 ⟨rfl, N8h, KC10, V8⟩ (by decide) (by decide)
def o_Q24n2i0 (Z : State) (cs : Int32) (sf : Value) (GG : o_G Z cs sf) (o1 : Addr) (kb : ClassId) (c0 : Int32) (c1 : Int32) (h0 : Heap) (n0 : Nat) (v : Option Value) (h : Heap) (L : List Loc) : Prop := v = some (.int c0) ∧ Fr n0 L ∧ h = h0
set_option maxRecDepth 65536 in
set_option maxHeartbeats 40000000 in
theorem o_rm24n2i0 (l : Launch) (Z : State) (a0 : Array Value) (hw : o_Hw Z a0) (ws : List Jvm.Cond) (cs : Int32) (sf : Value) (GG : o_G Z cs sf) (o1 : Addr) (kb : ClassId) (c0 : Int32) (c1 : Int32) (h0 : Heap) (n0 : Nat) (Z0 : n0 ≤ h0.size) (pV1 : Arv Z h0 o1 kb .byte 4 [(.int (o_lo c0)), (.int (o_hi c0)), (.int (o_lo c1)), (.int (o_hi c1))] (.int 0)) (O0 : Old Z n0 h0) (hC : o_C c0) :
  o_Met l y13 jdk_52_method_5_code 2 (some .char) ws r0 #[(.ref o1), (.int 0)] Z h0 (o_Q24n2i0 Z cs sf GG o1 kb c0 c1 h0 n0) := by
 refine MetFree.of_bodySF (plainFor_of_name o_pn4) hisR ?_
 intro p e s m args below meth c s₁ Bd hml0 hP hK
 obtain ⟨rfl, hZ, hh⟩ := hP
 obtain ⟨hx, hby, hlk, hrt⟩ := o_bd Bd
 have hown : s.vm.findClass "java/lang/StringUTF16" = some m.cls := findClass_of_methodNamed Bd.named
 have X0 : Stand p l e r0 s m #[(.ref o1), (.int 0)] below meth c s₁ [] 0 0 := Stand.of_body Bd
 have e0 := o_e0 Bd hh
 have N0 := Fr.nil n0
 refine o_in (g' := mkF m 0 #[(sR o1), (sI 0)] []) (by simp [entryFrame, mkF, argsToLocals, Value.category]) ?_
 obtain ⟨T1, X1, e1, st1⟩ := getS2 X0 hx hZ hown (host := "") (Or.inl (W hw 102 rfl)) Via.refl e0 (GG.2.2.2.2.1.ext O0.2) (g := (mkF m 0 #[(sR o1), (sI 0)] [])) rfl (hb hby o_d24_0)
 refine o_st (G' := T1.setTop (mkF m 3 #[(sR o1), (sI 0)] [(.int 1)])) st1 ?_
 obtain ⟨_, X1h, N1h⟩ := o_hide X1 N0
 refine o_ifYes X1h hx 28 (hb hby o_d24_3) (feq (by decide : ¬ ((1 : Int32) = (0 : Int32)))).2 ?_
 refine o_iloadN X1h hx 29 (hb hby o_d24_28) rfl ?_
 refine o_iconst X1h hx 30 1 (hb hby o_d24_29) rfl ?_
 refine o_ishl X1h hx 31 (hb hby o_d24_30) ?_
 rw [show ((0 : Int32) <<< ((1 : Int32) &&& 31)) = (0 : Int32) from by decide]
 refine o_istoreN X1h hx 32 #[(sR o1), (sI 0)] (hb hby o_d24_31) rfl ?_
 refine o_aloadN X1h hx 33 (hb hby o_d24_32) rfl rfl ?_
 refine o_iloadN X1h hx 34 (hb hby o_d24_33) rfl ?_
 refine o_iinc X1h hx 37 (1 : Int32) #[(sR o1), (sI 1)] (hb hby o_d24_34) rfl rfl rfl ?_
 obtain ⟨cl2, Ar2, qv2, S2, M2, H2, G2⟩ := id pV1
 have hin2 := inb_of (j := (0 : Int32)) S2 ⟨by decide, by decide⟩
 refine o_st (G' := T1.setTop (mkF m 38 #[(sR o1), (sI 1)] [(.int (o_lo c0))])) (fun t k => X1h.baloadBytes hx (j := (0 : Int32)) (v := (.int (o_lo c0))) (by rw [e1]; exact Ar2.1) (State.isArrayOf_alike hZ.alike Ar2.2.1) Ar2.2.2 hin2 (H2.at hin2 rfl) (g := (mkF m 37 #[(sR o1), (sI 1)] [(.int 0), (.ref o1)])) rfl rfl (hb hby o_d24_37) _ k) ?_
 refine o_sipush X1h hx 41 255 (hb hby o_d24_38) rfl ?_
 refine o_iand X1h hx 42 (hb hby o_d24_41) ?_
 obtain ⟨T3, X3, e3, st3⟩ := getS2 X1h hx hZ hown (host := "") (Or.inl (W hw 103 rfl)) Via.refl e1 (GG.2.2.2.2.2.1.ext O0.2) (g := (mkF m 42 #[(sR o1), (sI 1)] [(.int ((o_lo c0) &&& (255 : Int32)))])) rfl (hb hby o_d24_42)
 refine o_st (G' := T3.setTop (mkF m 45 #[(sR o1), (sI 1)] [(.int 0), (.int ((o_lo c0) &&& (255 : Int32)))])) st3 ?_
 obtain ⟨_, X3h, N3h⟩ := o_hide X3 N1h
 refine o_ishl X3h hx 46 (hb hby o_d24_45) ?_
 refine o_aloadN X3h hx 47 (hb hby o_d24_46) rfl rfl ?_
 refine o_iloadN X3h hx 48 (hb hby o_d24_47) rfl ?_
 obtain ⟨cl4, Ar4, qv4, S4, M4, H4, G4⟩ := id pV1
 have hin4 := inb_of (j := (1 : Int32)) S4 ⟨by decide, by decide⟩
 refine o_st (G' := T3.setTop (mkF m 49 #[(sR o1), (sI 1)] [(.int (o_hi c0)), (.int (((o_lo c0) &&& (255 : Int32)) <<< ((0 : Int32) &&& 31)))])) (fun t k => X3h.baloadBytes hx (j := (1 : Int32)) (v := (.int (o_hi c0))) (by rw [e3]; exact Ar4.1) (State.isArrayOf_alike hZ.alike Ar4.2.1) Ar4.2.2 hin4 (H4.at hin4 rfl) (g := (mkF m 48 #[(sR o1), (sI 1)] [(.int 1), (.ref o1), (.int (((o_lo c0) &&& (255 : Int32)) <<< ((0 : Int32) &&& 31)))])) rfl rfl (hb hby o_d24_48) _ k) ?_
 refine o_sipush X3h hx 52 255 (hb hby o_d24_49) rfl ?_
 refine o_iand X3h hx 53 (hb hby o_d24_52) ?_
 obtain ⟨T5, X5, e5, st5⟩ := getS2 X3h hx hZ hown (host := "") (Or.inl (W hw 104 rfl)) Via.refl e3 (GG.2.2.2.2.2.2.ext O0.2) (g := (mkF m 53 #[(sR o1), (sI 1)] [(.int ((o_hi c0) &&& (255 : Int32))), (.int (((o_lo c0) &&& (255 : Int32)) <<< ((0 : Int32) &&& 31)))])) rfl (hb hby o_d24_53)
 refine o_st (G' := T5.setTop (mkF m 56 #[(sR o1), (sI 1)] [(.int 8), (.int ((o_hi c0) &&& (255 : Int32))), (.int (((o_lo c0) &&& (255 : Int32)) <<< ((0 : Int32) &&& 31)))])) st5 ?_
 obtain ⟨_, X5h, N5h⟩ := o_hide X5 N3h
 refine o_ishl X5h hx 57 (hb hby o_d24_56) ?_
 refine o_ior X5h hx 58 (hb hby o_d24_57) ?_
 refine o_i2c X5h hx 59 (hb hby o_d24_58) ?_
 exact o_retN (t := .char) (z := (((((o_lo c0) &&& (255 : Int32)) <<< ((0 : Int32) &&& 31)) ||| (((o_hi c0) &&& (255 : Int32)) <<< ((8 : Int32) &&& 31))).toUInt32.toUInt16.toUInt32.toInt32)) (Q := o_Q24n2i0 Z cs sf GG o1 kb c0 c1 h0 n0) X5h hx hrt (by simp) (hb hby o_d24_59) hlk e5 ⟨(o_leafI (o_gc hC)), N5h, rfl⟩ (by decide) (by decide)
def o_Q32n2 (Z : State) (cs : Int32) (sf : Value) (GG : o_G Z cs sf) (v1 : Int32) (o1 : Addr) (kb : ClassId) (vs : List Value) (h0 : Heap) (n0 : Nat) (v : Option Value) (h : Heap) (L : List Loc) : Prop := v = none ∧ Fr n0 L ∧ h = h0
set_option maxRecDepth 65536 in
set_option maxHeartbeats 40000000 in
theorem o_rm32n2 (l : Launch) (Z : State) (a0 : Array Value) (hw : o_Hw Z a0) (ws : List Jvm.Cond) (cs : Int32) (sf : Value) (GG : o_G Z cs sf) (v1 : Int32) (o1 : Addr) (kb : ClassId) (vs : List Value) (h0 : Heap) (n0 : Nat) (Z0 : n0 ≤ h0.size) (pV1 : Arv Z h0 o1 kb .byte 4 vs (.int 0)) (O0 : Old Z n0 h0) (h1 : ¬ v1 < 0) (h2 : v1 < (2 : Int32)) :
  o_Met l y14 jdk_52_method_91_code 2 none ws r5 #[(.int v1), (.ref o1)] Z h0 (o_Q32n2 Z cs sf GG v1 o1 kb vs h0 n0) := by
 refine MetFree.of_bodySF (plainFor_of_name o_pn4) hisR ?_
 intro p e s m args below meth c s₁ Bd hml0 hP hK
 obtain ⟨rfl, hZ, hh⟩ := hP
 obtain ⟨hx, hby, hlk, hrt⟩ := o_bd Bd
 have hml : c.maxLocals = 2 := hml0
 have hown : s.vm.findClass "java/lang/StringUTF16" = some m.cls := findClass_of_methodNamed Bd.named
 have X0 : Stand p l e r5 s m #[(.int v1), (.ref o1)] below meth c s₁ [] 0 0 := Stand.of_body Bd
 have e0 := o_e0 Bd hh
 have N0 := Fr.nil n0
 refine o_in (g' := mkF m 0 #[(sI v1), (sR o1)] []) (by simp [entryFrame, mkF, argsToLocals, Value.category]) ?_
 refine o_iloadN X0 hx 1 (hb hby o_d32_0) rfl ?_
 refine o_aloadN X0 hx 2 (hb hby o_d32_1) rfl rfl ?_
 obtain ⟨_, _, ⟨T1, Lx1, kc1, nc1⟩, -, X1, ⟨Lc1, hQ1, lq1, yq1, zq1⟩, st1⟩ := Jvm.LawKit.callS X0 hx (y := y6) hown (mvT hZ (W hw 117 rfl)) (mvT hZ (W hw 118 rfl)) (mvT hZ (W hw 58 rfl)) (mvT hZ (W hw 119 rfl)) (by decide) (backOf (W := 1) (o_rm28n2 l Z a0 hw [] o1 kb vs h0 n0 Z0 pV1) hZ (W hw 119 rfl) (W hw 58 rfl) (by decide) (by decide)) (g := (mkF m 2 #[(sI v1), (sR o1)] [(.ref o1), (.int v1)])) rfl (by rw [hml]; rfl) (argsL := [(.ref o1)]) (rest := [(.int v1)]) (lenOf o_pd2 rfl) rfl (o_wl rfl) (hb hby o_d32_2) (fun _ _ => ⟨rfl, e0, (by decide : 0 + 0 ≤ _), (by decide : 0 + 0 ≤ _)⟩)
 dsimp only [Pt.U, Pt.locs, Pt.cells, Pt.slots] at X1 lq1 yq1 zq1 st1 hQ1
 subst lq1 yq1 zq1
 obtain ⟨rfl, Nq1, eh1⟩ := hQ1
 have N1 := Fr.app N0 Nq1
 refine o_st (G' := T1.setTop (mkF m 5 #[(sI v1), (sR o1)] [(.int 2), (.int v1)])) st1 ?_
 obtain ⟨_, X1h, N1h⟩ := o_hide X1 N1
 obtain ⟨_, _, ⟨T2, Lx2, kc2, nc2⟩, -, X2, ⟨Lc2, hQ2, lq2, yq2, zq2⟩, st2⟩ := Jvm.LawKit.callS X1h hx (y := y3) hown (mvT hZ (W hw 132 rfl)) (mvT hZ (W hw 78 rfl)) (mvT hZ (W hw 3 rfl)) (mvT hZ (W hw 79 rfl)) (by decide) (backOf (W := 0) (o_rm17 l Z a0 hw [] cs sf GG v1 (2 : Int32) h0 n0 Z0 (h1 : ¬ v1 < 0) (h2 : v1 < (2 : Int32)) O0) hZ (W hw 79 rfl) (W hw 3 rfl) (by decide) (by decide)) (g := (mkF m 5 #[(sI v1), (sR o1)] [(.int 2), (.int v1)])) rfl (by rw [hml]; rfl) (argsL := [(.int v1), (.int 2)]) (rest := []) (lenOf o_pd5 rfl) rfl (o_wl rfl) (hb hby o_d32_5) (fun _ _ => ⟨rfl, eh1, (by decide : 0 + 0 ≤ _), (by decide : 0 + 0 ≤ _)⟩)
 dsimp only [Pt.U, Pt.locs, Pt.cells, Pt.slots] at X2 lq2 yq2 zq2 st2 hQ2
 subst lq2 yq2 zq2
 obtain ⟨rfl, Nq2, eh2⟩ := hQ2
 have N2 := Fr.app N1h Nq2
 refine o_st (G' := T2.setTop (mkF m 8 #[(sI v1), (sR o1)] [])) st2 ?_
 obtain ⟨_, X2h, N2h⟩ := o_hide X2 N2
 exact o_retV (Q := o_Q32n2 Z cs sf GG v1 o1 kb vs h0 n0) X2h hx hrt (hb hby o_d32_8) hlk eh2 ⟨rfl, N2h, rfl⟩ (by decide) (by decide)
def o_Q31n2i0 (Z : State) (cs : Int32) (sf : Value) (GG : o_G Z cs sf) (o1 : Addr) (kb : ClassId) (c0 : Int32) (c1 : Int32) (h0 : Heap) (n0 : Nat) (v : Option Value) (h : Heap) (L : List Loc) : Prop := v = some (.int c0) ∧ Fr n0 L ∧ h = h0
set_option maxRecDepth 65536 in
set_option maxHeartbeats 40000000 in
theorem o_rm31n2i0 (l : Launch) (Z : State) (a0 : Array Value) (hw : o_Hw Z a0) (ws : List Jvm.Cond) (cs : Int32) (sf : Value) (GG : o_G Z cs sf) (o1 : Addr) (kb : ClassId) (c0 : Int32) (c1 : Int32) (h0 : Heap) (n0 : Nat) (Z0 : n0 ≤ h0.size) (pV1 : Arv Z h0 o1 kb .byte 4 [(.int (o_lo c0)), (.int (o_hi c0)), (.int (o_lo c1)), (.int (o_hi c1))] (.int 0)) (O0 : Old Z n0 h0) (hC : o_C c0) :
  o_Met l y15 jdk_52_method_83_code 2 (some .char) ws r6 #[(.ref o1), (.int 0)] Z h0 (o_Q31n2i0 Z cs sf GG o1 kb c0 c1 h0 n0) := by
 refine MetFree.of_bodySF (plainFor_of_name o_pn4) hisR ?_
 intro p e s m args below meth c s₁ Bd hml0 hP hK
 obtain ⟨rfl, hZ, hh⟩ := hP
 obtain ⟨hx, hby, hlk, hrt⟩ := o_bd Bd
 have hml : c.maxLocals = 2 := hml0
 have hown : s.vm.findClass "java/lang/StringUTF16" = some m.cls := findClass_of_methodNamed Bd.named
 have X0 : Stand p l e r6 s m #[(.ref o1), (.int 0)] below meth c s₁ [] 0 0 := Stand.of_body Bd
 have e0 := o_e0 Bd hh
 have N0 := Fr.nil n0
 refine o_in (g' := mkF m 0 #[(sR o1), (sI 0)] []) (by simp [entryFrame, mkF, argsToLocals, Value.category]) ?_
 refine o_iloadN X0 hx 1 (hb hby o_d31_0) rfl ?_
 refine o_aloadN X0 hx 2 (hb hby o_d31_1) rfl rfl ?_
 obtain ⟨_, _, ⟨T1, Lx1, kc1, nc1⟩, -, X1, ⟨Lc1, hQ1, lq1, yq1, zq1⟩, st1⟩ := Jvm.LawKit.callS X0 hx (y := y14) hown (mvT hZ (W hw 129 rfl)) (mvT hZ (W hw 130 rfl)) (mvT hZ (W hw 58 rfl)) (mvT hZ (W hw 131 rfl)) (by decide) (backOf (W := 0) (o_rm32n2 l Z a0 hw [] cs sf GG (0 : Int32) o1 kb [(.int (o_lo c0)), (.int (o_hi c0)), (.int (o_lo c1)), (.int (o_hi c1))] h0 n0 Z0 pV1 O0 (by decide : ¬ (0 : Int32) < 0) (by decide : (0 : Int32) < (2 : Int32))) hZ (W hw 131 rfl) (W hw 58 rfl) (by decide) (by decide)) (g := (mkF m 2 #[(sR o1), (sI 0)] [(.ref o1), (.int 0)])) rfl (by rw [hml]; rfl) (argsL := [(.int 0), (.ref o1)]) (rest := []) (lenOf o_pd6 rfl) rfl (o_wl rfl) (hb hby o_d31_2) (fun _ _ => ⟨rfl, e0, (by decide : 0 + 0 ≤ _), (by decide : 0 + 0 ≤ _)⟩)
 dsimp only [Pt.U, Pt.locs, Pt.cells, Pt.slots] at X1 lq1 yq1 zq1 st1 hQ1
 subst lq1 yq1 zq1
 obtain ⟨rfl, Nq1, eh1⟩ := hQ1
 have N1 := Fr.app N0 Nq1
 refine o_st (G' := T1.setTop (mkF m 5 #[(sR o1), (sI 0)] [])) st1 ?_
 obtain ⟨_, X1h, N1h⟩ := o_hide X1 N1
 refine o_aloadN X1h hx 6 (hb hby o_d31_5) rfl rfl ?_
 refine o_iloadN X1h hx 7 (hb hby o_d31_6) rfl ?_
 obtain ⟨_, _, ⟨T2, Lx2, kc2, nc2⟩, -, X2, ⟨Lc2, hQ2, lq2, yq2, zq2⟩, st2⟩ := Jvm.LawKit.callS X1h hx (y := y13) hown (mvT hZ (W hw 105 rfl)) (mvT hZ (W hw 106 rfl)) (mvT hZ (W hw 58 rfl)) (mvT hZ (W hw 107 rfl)) (by decide) (backOf (W := 0) (o_rm24n2i0 l Z a0 hw [] cs sf GG o1 kb c0 c1 h0 n0 Z0 pV1 O0 (hC : o_C c0)) hZ (W hw 107 rfl) (W hw 58 rfl) (by decide) (by decide)) (g := (mkF m 7 #[(sR o1), (sI 0)] [(.int 0), (.ref o1)])) rfl (by rw [hml]; rfl) (argsL := [(.ref o1), (.int 0)]) (rest := []) (lenOf o_pd7 rfl) rfl (o_wl rfl) (hb hby o_d31_7) (fun _ _ => ⟨rfl, eh1, (by decide : 0 + 0 ≤ _), (by decide : 0 + 0 ≤ _)⟩)
 dsimp only [Pt.U, Pt.locs, Pt.cells, Pt.slots] at X2 lq2 yq2 zq2 st2 hQ2
 subst lq2 yq2 zq2
 obtain ⟨rfl, Nq2, eh2⟩ := hQ2
 have N2 := Fr.app N1h Nq2
 refine o_st (G' := T2.setTop (mkF m 10 #[(sR o1), (sI 0)] [(.int c0)])) st2 ?_
 obtain ⟨_, X2h, N2h⟩ := o_hide X2 N2
 exact o_retN (t := .char) (z := c0) (Q := o_Q31n2i0 Z cs sf GG o1 kb c0 c1 h0 n0) X2h hx hrt (by simp) (hb hby o_d31_10) hlk eh2 ⟨(o_leafI (o_narC hC)), N2h, rfl⟩ (by decide) (by decide)
def o_Q16n2i0 (Z : State) (cs : Int32) (sf : Value) (GG : o_G Z cs sf) (o1 : Addr) (kb : ClassId) (c0 : Int32) (c1 : Int32) (h0 : Heap) (n0 : Nat) (v : Option Value) (h : Heap) (L : List Loc) : Prop := v = some (.int c0) ∧ Fr n0 L ∧ h = h0
set_option maxRecDepth 65536 in
set_option maxHeartbeats 40000000 in
theorem o_rm16n2i0 (l : Launch) (Z : State) (a0 : Array Value) (hw : o_Hw Z a0) (ws : List Jvm.Cond) (cs : Int32) (sf : Value) (GG : o_G Z cs sf) (o1 : Addr) (kb : ClassId) (c0 : Int32) (c1 : Int32) (h0 : Heap) (n0 : Nat) (Z0 : n0 ≤ h0.size) (pV1 : Arv Z h0 o1 kb .byte 2 [(.int (nar .byte c0.toInt8.toInt32)), (.int (nar .byte c1.toInt8.toInt32))] (.int 0)) (O0 : Old Z n0 h0) (hC : o_C c0) (hL : ¬ (255 : Int32) < c0) :
  o_Met l y16 jdk_43_method_2_code 2 (some .char) ws r5 #[(.ref o1), (.int 0)] Z h0 (o_Q16n2i0 Z cs sf GG o1 kb c0 c1 h0 n0) := by
 refine MetFree.of_bodySF (plainFor_of_name o_pn5) hisR ?_
 intro p e s m args below meth c s₁ Bd hml0 hP hK
 obtain ⟨rfl, hZ, hh⟩ := hP
 obtain ⟨hx, hby, hlk, hrt⟩ := o_bd Bd
 have hml : c.maxLocals = 2 := hml0
 have hown : s.vm.findClass "java/lang/StringLatin1" = some m.cls := findClass_of_methodNamed Bd.named
 have X0 : Stand p l e r5 s m #[(.ref o1), (.int 0)] below meth c s₁ [] 0 0 := Stand.of_body Bd
 have e0 := o_e0 Bd hh
 have N0 := Fr.nil n0
 refine o_in (g' := mkF m 0 #[(sR o1), (sI 0)] []) (by simp [entryFrame, mkF, argsToLocals, Value.category]) ?_
 refine o_iloadN X0 hx 1 (hb hby o_d16_0) rfl ?_
 refine o_aloadN X0 hx 2 (hb hby o_d16_1) rfl rfl ?_
 obtain ⟨cl1, Ar1, qv1, S1, M1, H1, G1⟩ := id pV1
 have ln1 := len_of S1 M1
 refine o_st (G' := s₁.setTop (mkF m 3 #[(sR o1), (sI 0)] [(.int 2), (.int 0)])) (fun t k => X0.arraylength hx (by rw [e0]; exact Ar1.1) (State.isArrayOf_alike hZ.alike Ar1.2.1) (g := (mkF m 2 #[(sR o1), (sI 0)] [(.ref o1), (.int 0)])) rfl rfl (hb hby o_d16_2) _ (by rw [ln1]; exact k)) ?_
 obtain ⟨_, _, ⟨T2, Lx2, kc2, nc2⟩, -, X2, ⟨Lc2, hQ2, lq2, yq2, zq2⟩, st2⟩ := Jvm.LawKit.callS X0 hx (y := y3) hown (mvT hZ (W hw 77 rfl)) (mvT hZ (W hw 78 rfl)) (mvT hZ (W hw 3 rfl)) (mvT hZ (W hw 79 rfl)) (by decide) (backOf (W := 0) (o_rm17 l Z a0 hw [] cs sf GG (0 : Int32) (2 : Int32) h0 n0 Z0 (by decide : ¬ (0 : Int32) < 0) (by decide : (0 : Int32) < (2 : Int32)) O0) hZ (W hw 79 rfl) (W hw 3 rfl) (by decide) (by decide)) (g := (mkF m 3 #[(sR o1), (sI 0)] [(.int 2), (.int 0)])) rfl (by rw [hml]; rfl) (argsL := [(.int 0), (.int 2)]) (rest := []) (lenOf o_pd5 rfl) rfl (o_wl rfl) (hb hby o_d16_3) (fun _ _ => ⟨rfl, e0, (by decide : 0 + 0 ≤ _), (by decide : 0 + 0 ≤ _)⟩)
 dsimp only [Pt.U, Pt.locs, Pt.cells, Pt.slots] at X2 lq2 yq2 zq2 st2 hQ2
 subst lq2 yq2 zq2
 obtain ⟨rfl, Nq2, eh2⟩ := hQ2
 have N2 := Fr.app N0 Nq2
 refine o_st (G' := T2.setTop (mkF m 6 #[(sR o1), (sI 0)] [])) st2 ?_
 obtain ⟨_, X2h, N2h⟩ := o_hide X2 N2
 refine o_aloadN X2h hx 7 (hb hby o_d16_6) rfl rfl ?_
 refine o_iloadN X2h hx 8 (hb hby o_d16_7) rfl ?_
 obtain ⟨cl3, Ar3, qv3, S3, M3, H3, G3⟩ := id pV1
 have hin3 := inb_of (j := (0 : Int32)) S3 ⟨by decide, by decide⟩
 refine o_st (G' := T2.setTop (mkF m 9 #[(sR o1), (sI 0)] [(.int (nar .byte c0.toInt8.toInt32))])) (fun t k => X2h.baloadBytes hx (j := (0 : Int32)) (v := (.int (nar .byte c0.toInt8.toInt32))) (by rw [eh2]; exact Ar3.1) (State.isArrayOf_alike hZ.alike Ar3.2.1) Ar3.2.2 hin3 (H3.at hin3 rfl) (g := (mkF m 8 #[(sR o1), (sI 0)] [(.int 0), (.ref o1)])) rfl rfl (hb hby o_d16_8) _ k) ?_
 refine o_sipush X2h hx 12 255 (hb hby o_d16_9) rfl ?_
 refine o_iand X2h hx 13 (hb hby o_d16_12) ?_
 refine o_i2c X2h hx 14 (hb hby o_d16_13) ?_
 exact o_retN (t := .char) (z := (((nar .byte c0.toInt8.toInt32) &&& (255 : Int32)).toUInt32.toUInt16.toUInt32.toInt32)) (Q := o_Q16n2i0 Z cs sf GG o1 kb c0 c1 h0 n0) X2h hx hrt (by simp) (hb hby o_d16_14) hlk eh2 ⟨(o_leafI (o_lat hC hL)), N2h, rfl⟩ (by decide) (by decide)
def o_Q23n2i1 (Z : State) (cs : Int32) (sf : Value) (GG : o_G Z cs sf) (o1 : Addr) (v2 : Int32) (kb : ClassId) (yy0 : Int32) (yy1 : Int32) (yy2 : Int32) (yy3 : Int32) (h0 : Heap) (n0 : Nat) (v : Option Value) (h : Heap) (L : List Loc) : Prop := v = none ∧ Fr n0 L ∧ Keep h0 h [o1] ∧ Arv Z h o1 kb .byte 4 [(.int yy0), (.int yy1), (.int (o_lo v2)), (.int (o_hi v2))] (.int 0)
set_option maxRecDepth 65536 in
set_option maxHeartbeats 40000000 in
theorem o_rm23n2i1 (l : Launch) (Z : State) (a0 : Array Value) (hw : o_Hw Z a0) (ws : List Jvm.Cond) (cs : Int32) (sf : Value) (GG : o_G Z cs sf) (o1 : Addr) (v2 : Int32) (kb : ClassId) (yy0 : Int32) (yy1 : Int32) (yy2 : Int32) (yy3 : Int32) (h0 : Heap) (n0 : Nat) (Z0 : n0 ≤ h0.size) (pV1 : Arv Z h0 o1 kb .byte 4 [(.int yy0), (.int yy1), (.int yy2), (.int yy3)] (.int 0)) (pG2 : n0 ≤ o1) (O0 : Old Z n0 h0) :
  o_Met l y12 jdk_52_method_4_code 3 none ws r0 #[(.ref o1), (.int 1), (.int v2)] Z h0 (o_Q23n2i1 Z cs sf GG o1 v2 kb yy0 yy1 yy2 yy3 h0 n0) := by
 refine MetFree.of_bodySF (plainFor_of_name o_pn4) hisR ?_
 intro p e s m args below meth c s₁ Bd hml0 hP hK
 obtain ⟨rfl, hZ, hh⟩ := hP
 obtain ⟨hx, hby, hlk, hrt⟩ := o_bd Bd
 have hown : s.vm.findClass "java/lang/StringUTF16" = some m.cls := findClass_of_methodNamed Bd.named
 have X0 : Stand p l e r0 s m #[(.ref o1), (.int 1), (.int v2)] below meth c s₁ [] 0 0 := Stand.of_body Bd
 have e0 := o_e0 Bd hh
 have N0 := Fr.nil n0
 have KC0 := Keep.refl h0 [o1]
 refine o_in (g' := mkF m 0 #[(sR o1), (sI 1), (sI v2)] []) (by simp [entryFrame, mkF, argsToLocals, Value.category]) ?_
 obtain ⟨T1, X1, e1, st1⟩ := getS2 X0 hx hZ hown (host := "") (Or.inl (W hw 102 rfl)) Via.refl e0 (GG.2.2.2.2.1.ext O0.2) (g := (mkF m 0 #[(sR o1), (sI 1), (sI v2)] [])) rfl (hb hby o_d23_0)
 refine o_st (G' := T1.setTop (mkF m 3 #[(sR o1), (sI 1), (sI v2)] [(.int 1)])) st1 ?_
 obtain ⟨_, X1h, N1h⟩ := o_hide X1 N0
 refine o_ifYes X1h hx 28 (hb hby o_d23_3) (feq (by decide : ¬ ((1 : Int32) = (0 : Int32)))).2 ?_
 refine o_iloadN X1h hx 29 (hb hby o_d23_28) rfl ?_
 refine o_iconst X1h hx 30 1 (hb hby o_d23_29) rfl ?_
 refine o_ishl X1h hx 31 (hb hby o_d23_30) ?_
 rw [show ((1 : Int32) <<< ((1 : Int32) &&& 31)) = (2 : Int32) from by decide]
 refine o_istoreN X1h hx 32 #[(sR o1), (sI 2), (sI v2)] (hb hby o_d23_31) rfl ?_
 refine o_aloadN X1h hx 33 (hb hby o_d23_32) rfl rfl ?_
 refine o_iloadN X1h hx 34 (hb hby o_d23_33) rfl ?_
 refine o_iinc X1h hx 37 (1 : Int32) #[(sR o1), (sI 3), (sI v2)] (hb hby o_d23_34) rfl rfl rfl ?_
 refine o_iloadN X1h hx 38 (hb hby o_d23_37) rfl ?_
 obtain ⟨T2, X2, e2, st2⟩ := getS2 X1h hx hZ hown (host := "") (Or.inl (W hw 103 rfl)) Via.refl e1 (GG.2.2.2.2.2.1.ext O0.2) (g := (mkF m 38 #[(sR o1), (sI 3), (sI v2)] [(.int v2), (.int 2), (.ref o1)])) rfl (hb hby o_d23_38)
 refine o_st (G' := T2.setTop (mkF m 41 #[(sR o1), (sI 3), (sI v2)] [(.int 0), (.int v2), (.int 2), (.ref o1)])) st2 ?_
 obtain ⟨_, X2h, N2h⟩ := o_hide X2 N1h
 refine o_ishr X2h hx 42 (hb hby o_d23_41) ?_
 refine o_i2b X2h hx 43 (hb hby o_d23_42) ?_
 obtain ⟨cl3, Ar3, qv3, S3, M3, H3, G3⟩ := id pV1
 have hin3 := inb_of (j := (2 : Int32)) S3 ⟨by decide, by decide⟩
 obtain ⟨T3, h3, X3, e3, W3, st3⟩ := stB X2h hx hZ e2 Ar3 (j := (2 : Int32)) hin3 (g := (mkF m 43 #[(sR o1), (sI 3), (sI v2)] [(.int ((v2 >>> ((0 : Int32) &&& 31)).toInt8.toInt32)), (.int 2), (.ref o1)])) rfl rfl (hb hby o_d23_43)
 have V3 : Arv Z h3 o1 kb .byte 4 [(.int yy0), (.int yy1), (.int (nar .byte ((v2 >>> ((0 : Int32) &&& 31)).toInt8.toInt32))), (.int yy3)] (.int 0) := Arv.set Ar3 qv3 S3 M3 H3 G3 (fits_nar_byte _) W3 2 rfl (Nat.le_of_ble_eq_true rfl)
 have N3 := Fr.snoc X3 N2h pG2
 have O4 := O0.wr W3 pG2
 have KC5 := KC0.wr W3 (Or.inl (List.mem_of_getElem? (i := 0) rfl))
 refine o_st (G' := T3.setTop (mkF m 44 #[(sR o1), (sI 3), (sI v2)] [])) st3 ?_
 obtain ⟨_, X3h, N3h⟩ := o_hide X3 N3
 refine o_aloadN X3h hx 45 (hb hby o_d23_44) rfl rfl ?_
 refine o_iloadN X3h hx 46 (hb hby o_d23_45) rfl ?_
 refine o_iloadN X3h hx 47 (hb hby o_d23_46) rfl ?_
 obtain ⟨T7, X7, e7, st7⟩ := getS2 X3h hx hZ hown (host := "") (Or.inl (W hw 104 rfl)) Via.refl e3 (GG.2.2.2.2.2.2.ext O4.2) (g := (mkF m 47 #[(sR o1), (sI 3), (sI v2)] [(.int v2), (.int 3), (.ref o1)])) rfl (hb hby o_d23_47)
 refine o_st (G' := T7.setTop (mkF m 50 #[(sR o1), (sI 3), (sI v2)] [(.int 8), (.int v2), (.int 3), (.ref o1)])) st7 ?_
 obtain ⟨_, X7h, N7h⟩ := o_hide X7 N3h
 refine o_ishr X7h hx 51 (hb hby o_d23_50) ?_
 refine o_i2b X7h hx 52 (hb hby o_d23_51) ?_
 obtain ⟨cl8, Ar8, qv8, S8, M8, H8, G8⟩ := id V3
 have hin8 := inb_of (j := (3 : Int32)) S8 ⟨by decide, by decide⟩
 obtain ⟨T8, h8, X8, e8, W8, st8⟩ := stB X7h hx hZ e7 Ar8 (j := (3 : Int32)) hin8 (g := (mkF m 52 #[(sR o1), (sI 3), (sI v2)] [(.int ((v2 >>> ((8 : Int32) &&& 31)).toInt8.toInt32)), (.int 3), (.ref o1)])) rfl rfl (hb hby o_d23_52)
 have V8 : Arv Z h8 o1 kb .byte 4 [(.int yy0), (.int yy1), (.int (nar .byte ((v2 >>> ((0 : Int32) &&& 31)).toInt8.toInt32))), (.int (nar .byte ((v2 >>> ((8 : Int32) &&& 31)).toInt8.toInt32)))] (.int 0) := Arv.set Ar8 qv8 S8 M8 H8 G8 (fits_nar_byte _) W8 3 rfl (Nat.le_of_ble_eq_true rfl)
 have N8 := Fr.snoc X8 N7h pG2
 have KC10 := KC5.wr W8 (Or.inl (List.mem_of_getElem? (i := 0) rfl))
 refine o_st (G' := T8.setTop (mkF m 53 #[(sR o1), (sI 3), (sI v2)] [])) st8 ?_
 obtain ⟨_, X8h, N8h⟩ := o_hide X8 N8
 exact o_retV (Q := o_Q23n2i1 Z cs sf GG o1 v2 kb yy0 yy1 yy2 yy3 h0 n0) X8h hx hrt (hb hby o_d23_53) hlk e8 ⟨rfl, N8h, KC10, V8⟩ (by decide) (by decide)
def o_Q24n2i1 (Z : State) (cs : Int32) (sf : Value) (GG : o_G Z cs sf) (o1 : Addr) (kb : ClassId) (c0 : Int32) (c1 : Int32) (h0 : Heap) (n0 : Nat) (v : Option Value) (h : Heap) (L : List Loc) : Prop := v = some (.int c1) ∧ Fr n0 L ∧ h = h0
set_option maxRecDepth 65536 in
set_option maxHeartbeats 40000000 in
theorem o_rm24n2i1 (l : Launch) (Z : State) (a0 : Array Value) (hw : o_Hw Z a0) (ws : List Jvm.Cond) (cs : Int32) (sf : Value) (GG : o_G Z cs sf) (o1 : Addr) (kb : ClassId) (c0 : Int32) (c1 : Int32) (h0 : Heap) (n0 : Nat) (Z0 : n0 ≤ h0.size) (pV1 : Arv Z h0 o1 kb .byte 4 [(.int (o_lo c0)), (.int (o_hi c0)), (.int (o_lo c1)), (.int (o_hi c1))] (.int 0)) (O0 : Old Z n0 h0) (hC : o_C c1) :
  o_Met l y13 jdk_52_method_5_code 2 (some .char) ws r0 #[(.ref o1), (.int 1)] Z h0 (o_Q24n2i1 Z cs sf GG o1 kb c0 c1 h0 n0) := by
 refine MetFree.of_bodySF (plainFor_of_name o_pn4) hisR ?_
 intro p e s m args below meth c s₁ Bd hml0 hP hK
 obtain ⟨rfl, hZ, hh⟩ := hP
 obtain ⟨hx, hby, hlk, hrt⟩ := o_bd Bd
 have hown : s.vm.findClass "java/lang/StringUTF16" = some m.cls := findClass_of_methodNamed Bd.named
 have X0 : Stand p l e r0 s m #[(.ref o1), (.int 1)] below meth c s₁ [] 0 0 := Stand.of_body Bd
 have e0 := o_e0 Bd hh
 have N0 := Fr.nil n0
 refine o_in (g' := mkF m 0 #[(sR o1), (sI 1)] []) (by simp [entryFrame, mkF, argsToLocals, Value.category]) ?_
 obtain ⟨T1, X1, e1, st1⟩ := getS2 X0 hx hZ hown (host := "") (Or.inl (W hw 102 rfl)) Via.refl e0 (GG.2.2.2.2.1.ext O0.2) (g := (mkF m 0 #[(sR o1), (sI 1)] [])) rfl (hb hby o_d24_0)
 refine o_st (G' := T1.setTop (mkF m 3 #[(sR o1), (sI 1)] [(.int 1)])) st1 ?_
 obtain ⟨_, X1h, N1h⟩ := o_hide X1 N0
 refine o_ifYes X1h hx 28 (hb hby o_d24_3) (feq (by decide : ¬ ((1 : Int32) = (0 : Int32)))).2 ?_
 refine o_iloadN X1h hx 29 (hb hby o_d24_28) rfl ?_
 refine o_iconst X1h hx 30 1 (hb hby o_d24_29) rfl ?_
 refine o_ishl X1h hx 31 (hb hby o_d24_30) ?_
 rw [show ((1 : Int32) <<< ((1 : Int32) &&& 31)) = (2 : Int32) from by decide]
 refine o_istoreN X1h hx 32 #[(sR o1), (sI 2)] (hb hby o_d24_31) rfl ?_
 refine o_aloadN X1h hx 33 (hb hby o_d24_32) rfl rfl ?_
 refine o_iloadN X1h hx 34 (hb hby o_d24_33) rfl ?_
 refine o_iinc X1h hx 37 (1 : Int32) #[(sR o1), (sI 3)] (hb hby o_d24_34) rfl rfl rfl ?_
 obtain ⟨cl2, Ar2, qv2, S2, M2, H2, G2⟩ := id pV1
 have hin2 := inb_of (j := (2 : Int32)) S2 ⟨by decide, by decide⟩
 refine o_st (G' := T1.setTop (mkF m 38 #[(sR o1), (sI 3)] [(.int (o_lo c1))])) (fun t k => X1h.baloadBytes hx (j := (2 : Int32)) (v := (.int (o_lo c1))) (by rw [e1]; exact Ar2.1) (State.isArrayOf_alike hZ.alike Ar2.2.1) Ar2.2.2 hin2 (H2.at hin2 rfl) (g := (mkF m 37 #[(sR o1), (sI 3)] [(.int 2), (.ref o1)])) rfl rfl (hb hby o_d24_37) _ k) ?_
 refine o_sipush X1h hx 41 255 (hb hby o_d24_38) rfl ?_
 refine o_iand X1h hx 42 (hb hby o_d24_41) ?_
 obtain ⟨T3, X3, e3, st3⟩ := getS2 X1h hx hZ hown (host := "") (Or.inl (W hw 103 rfl)) Via.refl e1 (GG.2.2.2.2.2.1.ext O0.2) (g := (mkF m 42 #[(sR o1), (sI 3)] [(.int ((o_lo c1) &&& (255 : Int32)))])) rfl (hb hby o_d24_42)
 refine o_st (G' := T3.setTop (mkF m 45 #[(sR o1), (sI 3)] [(.int 0), (.int ((o_lo c1) &&& (255 : Int32)))])) st3 ?_
 obtain ⟨_, X3h, N3h⟩ := o_hide X3 N1h
 refine o_ishl X3h hx 46 (hb hby o_d24_45) ?_
 refine o_aloadN X3h hx 47 (hb hby o_d24_46) rfl rfl ?_
 refine o_iloadN X3h hx 48 (hb hby o_d24_47) rfl ?_
 obtain ⟨cl4, Ar4, qv4, S4, M4, H4, G4⟩ := id pV1
 have hin4 := inb_of (j := (3 : Int32)) S4 ⟨by decide, by decide⟩
 refine o_st (G' := T3.setTop (mkF m 49 #[(sR o1), (sI 3)] [(.int (o_hi c1)), (.int (((o_lo c1) &&& (255 : Int32)) <<< ((0 : Int32) &&& 31)))])) (fun t k => X3h.baloadBytes hx (j := (3 : Int32)) (v := (.int (o_hi c1))) (by rw [e3]; exact Ar4.1) (State.isArrayOf_alike hZ.alike Ar4.2.1) Ar4.2.2 hin4 (H4.at hin4 rfl) (g := (mkF m 48 #[(sR o1), (sI 3)] [(.int 3), (.ref o1), (.int (((o_lo c1) &&& (255 : Int32)) <<< ((0 : Int32) &&& 31)))])) rfl rfl (hb hby o_d24_48) _ k) ?_
 refine o_sipush X3h hx 52 255 (hb hby o_d24_49) rfl ?_
 refine o_iand X3h hx 53 (hb hby o_d24_52) ?_
 obtain ⟨T5, X5, e5, st5⟩ := getS2 X3h hx hZ hown (host := "") (Or.inl (W hw 104 rfl)) Via.refl e3 (GG.2.2.2.2.2.2.ext O0.2) (g := (mkF m 53 #[(sR o1), (sI 3)] [(.int ((o_hi c1) &&& (255 : Int32))), (.int (((o_lo c1) &&& (255 : Int32)) <<< ((0 : Int32) &&& 31)))])) rfl (hb hby o_d24_53)
 refine o_st (G' := T5.setTop (mkF m 56 #[(sR o1), (sI 3)] [(.int 8), (.int ((o_hi c1) &&& (255 : Int32))), (.int (((o_lo c1) &&& (255 : Int32)) <<< ((0 : Int32) &&& 31)))])) st5 ?_
 obtain ⟨_, X5h, N5h⟩ := o_hide X5 N3h
 refine o_ishl X5h hx 57 (hb hby o_d24_56) ?_
 refine o_ior X5h hx 58 (hb hby o_d24_57) ?_
 refine o_i2c X5h hx 59 (hb hby o_d24_58) ?_
 exact o_retN (t := .char) (z := (((((o_lo c1) &&& (255 : Int32)) <<< ((0 : Int32) &&& 31)) ||| (((o_hi c1) &&& (255 : Int32)) <<< ((8 : Int32) &&& 31))).toUInt32.toUInt16.toUInt32.toInt32)) (Q := o_Q24n2i1 Z cs sf GG o1 kb c0 c1 h0 n0) X5h hx hrt (by simp) (hb hby o_d24_59) hlk e5 ⟨(o_leafI (o_gc hC)), N5h, rfl⟩ (by decide) (by decide)
def o_Q31n2i1 (Z : State) (cs : Int32) (sf : Value) (GG : o_G Z cs sf) (o1 : Addr) (kb : ClassId) (c0 : Int32) (c1 : Int32) (h0 : Heap) (n0 : Nat) (v : Option Value) (h : Heap) (L : List Loc) : Prop := v = some (.int c1) ∧ Fr n0 L ∧ h = h0
set_option maxRecDepth 65536 in
set_option maxHeartbeats 40000000 in
theorem o_rm31n2i1 (l : Launch) (Z : State) (a0 : Array Value) (hw : o_Hw Z a0) (ws : List Jvm.Cond) (cs : Int32) (sf : Value) (GG : o_G Z cs sf) (o1 : Addr) (kb : ClassId) (c0 : Int32) (c1 : Int32) (h0 : Heap) (n0 : Nat) (Z0 : n0 ≤ h0.size) (pV1 : Arv Z h0 o1 kb .byte 4 [(.int (o_lo c0)), (.int (o_hi c0)), (.int (o_lo c1)), (.int (o_hi c1))] (.int 0)) (O0 : Old Z n0 h0) (hC : o_C c1) :
  o_Met l y15 jdk_52_method_83_code 2 (some .char) ws r6 #[(.ref o1), (.int 1)] Z h0 (o_Q31n2i1 Z cs sf GG o1 kb c0 c1 h0 n0) := by
 refine MetFree.of_bodySF (plainFor_of_name o_pn4) hisR ?_
 intro p e s m args below meth c s₁ Bd hml0 hP hK
 obtain ⟨rfl, hZ, hh⟩ := hP
 obtain ⟨hx, hby, hlk, hrt⟩ := o_bd Bd
 have hml : c.maxLocals = 2 := hml0
 have hown : s.vm.findClass "java/lang/StringUTF16" = some m.cls := findClass_of_methodNamed Bd.named
 have X0 : Stand p l e r6 s m #[(.ref o1), (.int 1)] below meth c s₁ [] 0 0 := Stand.of_body Bd
 have e0 := o_e0 Bd hh
 have N0 := Fr.nil n0
 refine o_in (g' := mkF m 0 #[(sR o1), (sI 1)] []) (by simp [entryFrame, mkF, argsToLocals, Value.category]) ?_
 refine o_iloadN X0 hx 1 (hb hby o_d31_0) rfl ?_
 refine o_aloadN X0 hx 2 (hb hby o_d31_1) rfl rfl ?_
 obtain ⟨_, _, ⟨T1, Lx1, kc1, nc1⟩, -, X1, ⟨Lc1, hQ1, lq1, yq1, zq1⟩, st1⟩ := Jvm.LawKit.callS X0 hx (y := y14) hown (mvT hZ (W hw 129 rfl)) (mvT hZ (W hw 130 rfl)) (mvT hZ (W hw 58 rfl)) (mvT hZ (W hw 131 rfl)) (by decide) (backOf (W := 0) (o_rm32n2 l Z a0 hw [] cs sf GG (1 : Int32) o1 kb [(.int (o_lo c0)), (.int (o_hi c0)), (.int (o_lo c1)), (.int (o_hi c1))] h0 n0 Z0 pV1 O0 (by decide : ¬ (1 : Int32) < 0) (by decide : (1 : Int32) < (2 : Int32))) hZ (W hw 131 rfl) (W hw 58 rfl) (by decide) (by decide)) (g := (mkF m 2 #[(sR o1), (sI 1)] [(.ref o1), (.int 1)])) rfl (by rw [hml]; rfl) (argsL := [(.int 1), (.ref o1)]) (rest := []) (lenOf o_pd6 rfl) rfl (o_wl rfl) (hb hby o_d31_2) (fun _ _ => ⟨rfl, e0, (by decide : 0 + 0 ≤ _), (by decide : 0 + 0 ≤ _)⟩)
 dsimp only [Pt.U, Pt.locs, Pt.cells, Pt.slots] at X1 lq1 yq1 zq1 st1 hQ1
 subst lq1 yq1 zq1
 obtain ⟨rfl, Nq1, eh1⟩ := hQ1
 have N1 := Fr.app N0 Nq1
 refine o_st (G' := T1.setTop (mkF m 5 #[(sR o1), (sI 1)] [])) st1 ?_
 obtain ⟨_, X1h, N1h⟩ := o_hide X1 N1
 refine o_aloadN X1h hx 6 (hb hby o_d31_5) rfl rfl ?_
 refine o_iloadN X1h hx 7 (hb hby o_d31_6) rfl ?_
 obtain ⟨_, _, ⟨T2, Lx2, kc2, nc2⟩, -, X2, ⟨Lc2, hQ2, lq2, yq2, zq2⟩, st2⟩ := Jvm.LawKit.callS X1h hx (y := y13) hown (mvT hZ (W hw 105 rfl)) (mvT hZ (W hw 106 rfl)) (mvT hZ (W hw 58 rfl)) (mvT hZ (W hw 107 rfl)) (by decide) (backOf (W := 0) (o_rm24n2i1 l Z a0 hw [] cs sf GG o1 kb c0 c1 h0 n0 Z0 pV1 O0 (hC : o_C c1)) hZ (W hw 107 rfl) (W hw 58 rfl) (by decide) (by decide)) (g := (mkF m 7 #[(sR o1), (sI 1)] [(.int 1), (.ref o1)])) rfl (by rw [hml]; rfl) (argsL := [(.ref o1), (.int 1)]) (rest := []) (lenOf o_pd7 rfl) rfl (o_wl rfl) (hb hby o_d31_7) (fun _ _ => ⟨rfl, eh1, (by decide : 0 + 0 ≤ _), (by decide : 0 + 0 ≤ _)⟩)
 dsimp only [Pt.U, Pt.locs, Pt.cells, Pt.slots] at X2 lq2 yq2 zq2 st2 hQ2
 subst lq2 yq2 zq2
 obtain ⟨rfl, Nq2, eh2⟩ := hQ2
 have N2 := Fr.app N1h Nq2
 refine o_st (G' := T2.setTop (mkF m 10 #[(sR o1), (sI 1)] [(.int c1)])) st2 ?_
 obtain ⟨_, X2h, N2h⟩ := o_hide X2 N2
 exact o_retN (t := .char) (z := c1) (Q := o_Q31n2i1 Z cs sf GG o1 kb c0 c1 h0 n0) X2h hx hrt (by simp) (hb hby o_d31_10) hlk eh2 ⟨(o_leafI (o_narC hC)), N2h, rfl⟩ (by decide) (by decide)
def o_Q16n2i1 (Z : State) (cs : Int32) (sf : Value) (GG : o_G Z cs sf) (o1 : Addr) (kb : ClassId) (c0 : Int32) (c1 : Int32) (h0 : Heap) (n0 : Nat) (v : Option Value) (h : Heap) (L : List Loc) : Prop := v = some (.int c1) ∧ Fr n0 L ∧ h = h0
set_option maxRecDepth 65536 in
set_option maxHeartbeats 40000000 in
theorem o_rm16n2i1 (l : Launch) (Z : State) (a0 : Array Value) (hw : o_Hw Z a0) (ws : List Jvm.Cond) (cs : Int32) (sf : Value) (GG : o_G Z cs sf) (o1 : Addr) (kb : ClassId) (c0 : Int32) (c1 : Int32) (h0 : Heap) (n0 : Nat) (Z0 : n0 ≤ h0.size) (pV1 : Arv Z h0 o1 kb .byte 2 [(.int (nar .byte c0.toInt8.toInt32)), (.int (nar .byte c1.toInt8.toInt32))] (.int 0)) (O0 : Old Z n0 h0) (hC : o_C c1) (hL : ¬ (255 : Int32) < c1) :
  o_Met l y16 jdk_43_method_2_code 2 (some .char) ws r5 #[(.ref o1), (.int 1)] Z h0 (o_Q16n2i1 Z cs sf GG o1 kb c0 c1 h0 n0) := by
 refine MetFree.of_bodySF (plainFor_of_name o_pn5) hisR ?_
 intro p e s m args below meth c s₁ Bd hml0 hP hK
 obtain ⟨rfl, hZ, hh⟩ := hP
 obtain ⟨hx, hby, hlk, hrt⟩ := o_bd Bd
 have hml : c.maxLocals = 2 := hml0
 have hown : s.vm.findClass "java/lang/StringLatin1" = some m.cls := findClass_of_methodNamed Bd.named
 have X0 : Stand p l e r5 s m #[(.ref o1), (.int 1)] below meth c s₁ [] 0 0 := Stand.of_body Bd
 have e0 := o_e0 Bd hh
 have N0 := Fr.nil n0
 refine o_in (g' := mkF m 0 #[(sR o1), (sI 1)] []) (by simp [entryFrame, mkF, argsToLocals, Value.category]) ?_
 refine o_iloadN X0 hx 1 (hb hby o_d16_0) rfl ?_
 refine o_aloadN X0 hx 2 (hb hby o_d16_1) rfl rfl ?_
 obtain ⟨cl1, Ar1, qv1, S1, M1, H1, G1⟩ := id pV1
 have ln1 := len_of S1 M1
 refine o_st (G' := s₁.setTop (mkF m 3 #[(sR o1), (sI 1)] [(.int 2), (.int 1)])) (fun t k => X0.arraylength hx (by rw [e0]; exact Ar1.1) (State.isArrayOf_alike hZ.alike Ar1.2.1) (g := (mkF m 2 #[(sR o1), (sI 1)] [(.ref o1), (.int 1)])) rfl rfl (hb hby o_d16_2) _ (by rw [ln1]; exact k)) ?_
 obtain ⟨_, _, ⟨T2, Lx2, kc2, nc2⟩, -, X2, ⟨Lc2, hQ2, lq2, yq2, zq2⟩, st2⟩ := Jvm.LawKit.callS X0 hx (y := y3) hown (mvT hZ (W hw 77 rfl)) (mvT hZ (W hw 78 rfl)) (mvT hZ (W hw 3 rfl)) (mvT hZ (W hw 79 rfl)) (by decide) (backOf (W := 0) (o_rm17 l Z a0 hw [] cs sf GG (1 : Int32) (2 : Int32) h0 n0 Z0 (by decide : ¬ (1 : Int32) < 0) (by decide : (1 : Int32) < (2 : Int32)) O0) hZ (W hw 79 rfl) (W hw 3 rfl) (by decide) (by decide)) (g := (mkF m 3 #[(sR o1), (sI 1)] [(.int 2), (.int 1)])) rfl (by rw [hml]; rfl) (argsL := [(.int 1), (.int 2)]) (rest := []) (lenOf o_pd5 rfl) rfl (o_wl rfl) (hb hby o_d16_3) (fun _ _ => ⟨rfl, e0, (by decide : 0 + 0 ≤ _), (by decide : 0 + 0 ≤ _)⟩)
 dsimp only [Pt.U, Pt.locs, Pt.cells, Pt.slots] at X2 lq2 yq2 zq2 st2 hQ2
 subst lq2 yq2 zq2
 obtain ⟨rfl, Nq2, eh2⟩ := hQ2
 have N2 := Fr.app N0 Nq2
 refine o_st (G' := T2.setTop (mkF m 6 #[(sR o1), (sI 1)] [])) st2 ?_
 obtain ⟨_, X2h, N2h⟩ := o_hide X2 N2
 refine o_aloadN X2h hx 7 (hb hby o_d16_6) rfl rfl ?_
 refine o_iloadN X2h hx 8 (hb hby o_d16_7) rfl ?_
 obtain ⟨cl3, Ar3, qv3, S3, M3, H3, G3⟩ := id pV1
 have hin3 := inb_of (j := (1 : Int32)) S3 ⟨by decide, by decide⟩
 refine o_st (G' := T2.setTop (mkF m 9 #[(sR o1), (sI 1)] [(.int (nar .byte c1.toInt8.toInt32))])) (fun t k => X2h.baloadBytes hx (j := (1 : Int32)) (v := (.int (nar .byte c1.toInt8.toInt32))) (by rw [eh2]; exact Ar3.1) (State.isArrayOf_alike hZ.alike Ar3.2.1) Ar3.2.2 hin3 (H3.at hin3 rfl) (g := (mkF m 8 #[(sR o1), (sI 1)] [(.int 1), (.ref o1)])) rfl rfl (hb hby o_d16_8) _ k) ?_
 refine o_sipush X2h hx 12 255 (hb hby o_d16_9) rfl ?_
 refine o_iand X2h hx 13 (hb hby o_d16_12) ?_
 refine o_i2c X2h hx 14 (hb hby o_d16_13) ?_
 exact o_retN (t := .char) (z := (((nar .byte c1.toInt8.toInt32) &&& (255 : Int32)).toUInt32.toUInt16.toUInt32.toInt32)) (Q := o_Q16n2i1 Z cs sf GG o1 kb c0 c1 h0 n0) X2h hx hrt (by simp) (hb hby o_d16_14) hlk eh2 ⟨(o_leafI (o_lat hC hL)), N2h, rfl⟩ (by decide) (by decide)
def o_Q20n2 (Z : State) (cs : Int32) (sf : Value) (GG : o_G Z cs sf) (o1 : Addr) (kc : ClassId) (c0 : Int32) (c1 : Int32) (h0 : Heap) (n0 : Nat) (v : Option Value) (h : Heap) (L : List Loc) : Prop := ∃ bb : Addr, ∃ kb : ClassId, v = some (.ref bb) ∧ Fr n0 L ∧ Keep h0 h [] ∧ h0.size ≤ bb ∧ Arv Z h bb kb .byte 4 [(.int (o_lo c0)), (.int (o_hi c0)), (.int (o_lo c1)), (.int (o_hi c1))] (.int 0)
set_option maxRecDepth 65536 in
set_option maxHeartbeats 40000000 in
theorem o_rm20n2 (l : Launch) (Z : State) (a0 : Array Value) (hw : o_Hw Z a0) (ws : List Jvm.Cond) (cs : Int32) (sf : Value) (GG : o_G Z cs sf) (o1 : Addr) (kc : ClassId) (c0 : Int32) (c1 : Int32) (h0 : Heap) (n0 : Nat) (Z0 : n0 ≤ h0.size) (pV1 : Arv Z h0 o1 kc .char 2 [(.int c0), (.int c1)] (.int 0)) (O0 : Old Z n0 h0) :
  o_Met l y17 jdk_52_method_14_code 5 (some (.array .byte)) ws r24 #[(.ref o1), (.int 0), (.int 2)] Z h0 (o_Q20n2 Z cs sf GG o1 kc c0 c1 h0 n0) := by
 refine MetFree.of_bodySF (plainFor_of_name o_pn4) hisR ?_
 intro p e s m args below meth c s₁ Bd hml0 hP hK
 obtain ⟨rfl, hZ, hh⟩ := hP
 obtain ⟨hx, hby, hlk, hrt⟩ := o_bd Bd
 have hml : c.maxLocals = 5 := hml0
 have hown : s.vm.findClass "java/lang/StringUTF16" = some m.cls := findClass_of_methodNamed Bd.named
 have X0 : Stand p l e r24 s m #[(.ref o1), (.int 0), (.int 2)] below meth c s₁ [] 0 0 := Stand.of_body Bd
 have e0 := o_e0 Bd hh
 have N0 := Fr.nil n0
 have KC0 := Keep.refl h0 []
 refine o_in (g' := mkF m 0 #[(sR o1), (sI 0), (sI 2), .unset, .unset] []) (by simp [entryFrame, mkF, argsToLocals, Value.category]) ?_
 refine o_iloadN X0 hx 1 (hb hby o_d20_0) rfl ?_
 obtain ⟨_, _, ⟨T1, Lx1, kc1, nc1⟩, -, X1, ⟨Lc1, hQ1, lq1, yq1, zq1⟩, st1⟩ := Jvm.LawKit.callS X0 hx (y := y11) hown (mvT hZ (W hw 92 rfl)) (mvT hZ (W hw 93 rfl)) (mvT hZ (W hw 58 rfl)) (mvT hZ (W hw 94 rfl)) (by decide) (backOf (W := 0) (o_rm21n2 l Z a0 hw []  h0 n0 Z0 ) hZ (W hw 94 rfl) (W hw 58 rfl) (by decide) (by decide)) (g := (mkF m 1 #[(sR o1), (sI 0), (sI 2), .unset, .unset] [(.int 2)])) rfl (by rw [hml]; rfl) (argsL := [(.int 2)]) (rest := []) (lenOf o_pd8 rfl) rfl (o_wl rfl) (hb hby o_d20_1) (fun _ _ => ⟨rfl, e0, (by decide : 0 + 1 ≤ _), (by decide : 0 + 4 ≤ _)⟩)
 dsimp only [Pt.U, Pt.locs, Pt.cells, Pt.slots] at X1 lq1 yq1 zq1 st1 hQ1
 subst lq1 yq1 zq1
 obtain ⟨bb_1, kb_1, rfl, Nq1, Kp1, G1_0, G1_1⟩ := hQ1
 have N1 := Fr.app N0 Nq1
 have ne2 : o1 ≠ bb_1 := Nat.ne_of_lt (Nat.lt_of_lt_of_le pV1.lt G1_0)
 have gt_bb_1 : n0 ≤ bb_1 := Nat.le_trans Z0 G1_0
 have sz_bb_1 : h0.size ≤ bb_1 := Nat.le_trans KC0.1 G1_0
 have O3 := O0.keep Kp1 all0
 have KC4 := KC0.trans Kp1 all0
 have Z5 := Nat.le_trans Z0 Kp1.1
 refine o_st (G' := T1.setTop (mkF m 4 #[(sR o1), (sI 0), (sI 2), .unset, .unset] [(.ref bb_1)])) st1 ?_
 obtain ⟨_, X1h, N1h⟩ := o_hide X1 N1
 refine o_astoreN X1h hx 5 #[(sR o1), (sI 0), (sI 2), (sR bb_1), .unset] (hb hby o_d20_4) rfl rfl ?_
 refine o_iconst X1h hx 6 0 (hb hby o_d20_5) rfl ?_
 refine o_istore X1h hx 8 #[(sR o1), (sI 0), (sI 2), (sR bb_1), (sI 0)] (hb hby o_d20_6) rfl ?_
 refine o_iload X1h hx 10 (hb hby o_d20_8) rfl ?_
 refine o_iloadN X1h hx 11 (hb hby o_d20_10) rfl ?_
 refine o_icmpNo X1h hx 14 (hb hby o_d20_11) (tlt (by decide : (0 : Int32) < (2 : Int32))).2.1 ?_
 refine o_aloadN X1h hx 15 (hb hby o_d20_14) rfl rfl ?_
 refine o_iload X1h hx 17 (hb hby o_d20_15) rfl ?_
 refine o_aloadN X1h hx 18 (hb hby o_d20_17) rfl rfl ?_
 refine o_iloadN X1h hx 19 (hb hby o_d20_18) rfl ?_
 have f6 := (pV1.keep Kp1 nin0)
 obtain ⟨cl7, Ar7, qv7, S7, M7, H7, G7⟩ := id f6
 have hin7 := inb_of (j := (0 : Int32)) S7 ⟨by decide, by decide⟩
 refine o_st (G' := T1.setTop (mkF m 20 #[(sR o1), (sI 0), (sI 2), (sR bb_1), (sI 0)] [(.int c0), (.int 0), (.ref bb_1)])) (fun t k => X1h.caload hx (j := (0 : Int32)) (v := (.int c0)) Ar7.1 (State.isArrayOf_alike hZ.alike Ar7.2.1) Ar7.2.2 hin7 (H7.at hin7 rfl) (g := (mkF m 19 #[(sR o1), (sI 0), (sI 2), (sR bb_1), (sI 0)] [(.int 0), (.ref o1), (.int 0), (.ref bb_1)])) rfl rfl (hb hby o_d20_19) _ k) ?_
 obtain ⟨_, _, ⟨T8, Lx8, kc8, nc8⟩, -, X8, ⟨Lc8, hQ8, lq8, yq8, zq8⟩, st8⟩ := Jvm.LawKit.callS X1h hx (y := y12) hown (mvT hZ (W hw 99 rfl)) (mvT hZ (W hw 100 rfl)) (mvT hZ (W hw 58 rfl)) (mvT hZ (W hw 101 rfl)) (by decide) (backOf (W := 0) (o_rm23n2i0 l Z a0 hw [] cs sf GG bb_1 c0 kb_1 (0 : Int32) (0 : Int32) (0 : Int32) (0 : Int32) T1.heap n0 Z5 G1_1 gt_bb_1 O3) hZ (W hw 101 rfl) (W hw 58 rfl) (by decide) (by decide)) (g := (mkF m 20 #[(sR o1), (sI 0), (sI 2), (sR bb_1), (sI 0)] [(.int c0), (.int 0), (.ref bb_1)])) rfl (by rw [hml]; rfl) (argsL := [(.ref bb_1), (.int 0), (.int c0)]) (rest := []) (lenOf o_pd9 rfl) rfl (o_wl rfl) (hb hby o_d20_20) (fun _ _ => ⟨rfl, rfl, (by decide : 1 + 0 ≤ _), (by decide : 4 + 0 ≤ _)⟩)
 dsimp only [Pt.U, Pt.locs, Pt.cells, Pt.slots] at X8 lq8 yq8 zq8 st8 hQ8
 subst lq8 yq8 zq8
 obtain ⟨rfl, Nq8, Kp8, G8_0⟩ := hQ8
 have N8 := Fr.app N1h Nq8
 have O9 := O3.keep Kp8 (allS gt_bb_1 all0)
 have KC10 := KC4.trans Kp8 (allS (Or.inr sz_bb_1) all0)
 have Z11 := Nat.le_trans Z5 Kp8.1
 refine o_st (G' := T8.setTop (mkF m 23 #[(sR o1), (sI 0), (sI 2), (sR bb_1), (sI 0)] [])) st8 ?_
 obtain ⟨_, X8h, N8h⟩ := o_hide X8 N8
 refine o_iinc X8h hx 26 (1 : Int32) #[(sR o1), (sI 1), (sI 2), (sR bb_1), (sI 0)] (hb hby o_d20_23) rfl rfl rfl ?_
 refine o_iinc X8h hx 29 (1 : Int32) #[(sR o1), (sI 1), (sI 2), (sR bb_1), (sI 1)] (hb hby o_d20_26) rfl rfl rfl ?_
 refine o_goto X8h hx 8 (hb hby o_d20_29) ?_
 refine o_iload X8h hx 10 (hb hby o_d20_8) rfl ?_
 refine o_iloadN X8h hx 11 (hb hby o_d20_10) rfl ?_
 refine o_icmpNo X8h hx 14 (hb hby o_d20_11) (tlt (by decide : (1 : Int32) < (2 : Int32))).2.1 ?_
 refine o_aloadN X8h hx 15 (hb hby o_d20_14) rfl rfl ?_
 refine o_iload X8h hx 17 (hb hby o_d20_15) rfl ?_
 refine o_aloadN X8h hx 18 (hb hby o_d20_17) rfl rfl ?_
 refine o_iloadN X8h hx 19 (hb hby o_d20_18) rfl ?_
 have f12 := (f6.keep Kp8 (ninS ne2 nin0))
 obtain ⟨cl13, Ar13, qv13, S13, M13, H13, G13⟩ := id f12
 have hin13 := inb_of (j := (1 : Int32)) S13 ⟨by decide, by decide⟩
 refine o_st (G' := T8.setTop (mkF m 20 #[(sR o1), (sI 1), (sI 2), (sR bb_1), (sI 1)] [(.int c1), (.int 1), (.ref bb_1)])) (fun t k => X8h.caload hx (j := (1 : Int32)) (v := (.int c1)) Ar13.1 (State.isArrayOf_alike hZ.alike Ar13.2.1) Ar13.2.2 hin13 (H13.at hin13 rfl) (g := (mkF m 19 #[(sR o1), (sI 1), (sI 2), (sR bb_1), (sI 1)] [(.int 1), (.ref o1), (.int 1), (.ref bb_1)])) rfl rfl (hb hby o_d20_19) _ k) ?_
 obtain ⟨_, _, ⟨T14, Lx14, kc14, nc14⟩, -, X14, ⟨Lc14, hQ14, lq14, yq14, zq14⟩, st14⟩ := Jvm.LawKit.callS X8h hx (y := y12) hown (mvT hZ (W hw 99 rfl)) (mvT hZ (W hw 100 rfl)) (mvT hZ (W hw 58 rfl)) (mvT hZ (W hw 101 rfl)) (by decide) (backOf (W := 0) (o_rm23n2i1 l Z a0 hw [] cs sf GG bb_1 c1 kb_1 (o_lo c0) (o_hi c0) (0 : Int32) (0 : Int32) T8.heap n0 Z11 G8_0 gt_bb_1 O9) hZ (W hw 101 rfl) (W hw 58 rfl) (by decide) (by decide)) (g := (mkF m 20 #[(sR o1), (sI 1), (sI 2), (sR bb_1), (sI 1)] [(.int c1), (.int 1), (.ref bb_1)])) rfl (by rw [hml]; rfl) (argsL := [(.ref bb_1), (.int 1), (.int c1)]) (rest := []) (lenOf o_pd9 rfl) rfl (o_wl rfl) (hb hby o_d20_20) (fun _ _ => ⟨rfl, rfl, (by decide : 1 + 0 ≤ _), (by decide : 4 + 0 ≤ _)⟩)
 dsimp only [Pt.U, Pt.locs, Pt.cells, Pt.slots] at X14 lq14 yq14 zq14 st14 hQ14
 subst lq14 yq14 zq14
 obtain ⟨rfl, Nq14, Kp14, G14_0⟩ := hQ14
 have N14 := Fr.app N8h Nq14
 have KC16 := KC10.trans Kp14 (allS (Or.inr sz_bb_1) all0)
 refine o_st (G' := T14.setTop (mkF m 23 #[(sR o1), (sI 1), (sI 2), (sR bb_1), (sI 1)] [])) st14 ?_
 obtain ⟨_, X14h, N14h⟩ := o_hide X14 N14
 refine o_iinc X14h hx 26 (1 : Int32) #[(sR o1), (sI 2), (sI 2), (sR bb_1), (sI 1)] (hb hby o_d20_23) rfl rfl rfl ?_
 refine o_iinc X14h hx 29 (1 : Int32) #[(sR o1), (sI 2), (sI 2), (sR bb_1), (sI 2)] (hb hby o_d20_26) rfl rfl rfl ?_
 refine o_goto X14h hx 8 (hb hby o_d20_29) ?_
 refine o_iload X14h hx 10 (hb hby o_d20_8) rfl ?_
 refine o_iloadN X14h hx 11 (hb hby o_d20_10) rfl ?_
 refine o_icmpYes X14h hx 32 (hb hby o_d20_11) (flt (by decide : ¬ ((2 : Int32) < (2 : Int32)))).2.1 ?_
 refine o_aloadN X14h hx 33 (hb hby o_d20_32) rfl rfl ?_
 exact o_retA (z := (.ref bb_1)) (Q := o_Q20n2 Z cs sf GG o1 kc c0 c1 h0 n0) X14h hx hrt rfl rfl (hb hby o_d20_33) hlk rfl ⟨bb_1, kb_1, rfl, N14h, KC16, sz_bb_1, G14_0⟩ (by decide) (by decide)
def o_Q26n2 (Z : State) (cs : Int32) (sf : Value) (GG : o_G Z cs sf) (o1 : Addr) (o2 : Addr) (kb : ClassId) (kc : ClassId) (c0 : Int32) (c1 : Int32) (h0 : Heap) (n0 : Nat) (v : Option Value) (h : Heap) (L : List Loc) : Prop := v = none ∧ Fr n0 L ∧ Keep h0 h [o2] ∧ Arv Z h o2 kc .char 2 [(.int c0), (.int c1)] (.int 0)
set_option maxRecDepth 65536 in
set_option maxHeartbeats 40000000 in
theorem o_rm26n2 (l : Launch) (Z : State) (a0 : Array Value) (hw : o_Hw Z a0) (ws : List Jvm.Cond) (cs : Int32) (sf : Value) (GG : o_G Z cs sf) (o1 : Addr) (o2 : Addr) (kb : ClassId) (kc : ClassId) (c0 : Int32) (c1 : Int32) (h0 : Heap) (n0 : Nat) (Z0 : n0 ≤ h0.size) (pV1 : Arv Z h0 o1 kb .byte 4 [(.int (o_lo c0)), (.int (o_hi c0)), (.int (o_lo c1)), (.int (o_hi c1))] (.int 0)) (pV2 : Arv Z h0 o2 kc .char 2 [(.int 0), (.int 0)] (.int 0)) (pG3 : n0 ≤ o2) (O0 : Old Z n0 h0) (pN5 : o1 ≠ o2) (hC0 : o_C c0) (hC1 : o_C c1) :
  o_Met l y18 jdk_52_method_26_code 6 none ws r8 #[(.ref o1), (.int 0), (.int 2), (.ref o2), (.int 0)] Z h0 (o_Q26n2 Z cs sf GG o1 o2 kb kc c0 c1 h0 n0) := by
 refine MetFree.of_bodySF (plainFor_of_name o_pn4) hisR ?_
 intro p e s m args below meth c s₁ Bd hml0 hP hK
 obtain ⟨rfl, hZ, hh⟩ := hP
 obtain ⟨hx, hby, hlk, hrt⟩ := o_bd Bd
 have hml : c.maxLocals = 6 := hml0
 have hown : s.vm.findClass "java/lang/StringUTF16" = some m.cls := findClass_of_methodNamed Bd.named
 have X0 : Stand p l e r8 s m #[(.ref o1), (.int 0), (.int 2), (.ref o2), (.int 0)] below meth c s₁ [] 0 0 := Stand.of_body Bd
 have e0 := o_e0 Bd hh
 have N0 := Fr.nil n0
 have KC0 := Keep.refl h0 [o2]
 refine o_in (g' := mkF m 0 #[(sR o1), (sI 0), (sI 2), (sR o2), (sI 0), .unset] []) (by simp [entryFrame, mkF, argsToLocals, Value.category]) ?_
 refine o_iloadN X0 hx 1 (hb hby o_d26_0) rfl ?_
 refine o_iloadN X0 hx 2 (hb hby o_d26_1) rfl ?_
 refine o_icmpNo X0 hx 5 (hb hby o_d26_2) (tlt (by decide : (0 : Int32) < (2 : Int32))).2.1 ?_
 refine o_iloadN X0 hx 6 (hb hby o_d26_5) rfl ?_
 refine o_iloadN X0 hx 7 (hb hby o_d26_6) rfl ?_
 refine o_iloadN X0 hx 8 (hb hby o_d26_7) rfl ?_
 refine o_isub X0 hx 9 (hb hby o_d26_8) ?_
 show o_Gs p e below _ (s₁.setTop (mkF m 9 #[(sR o1), (sI 0), (sI 2), (sR o2), (sI 0), .unset] [(.int 2), (.int 0)]))
 refine o_aloadN X0 hx 10 (hb hby o_d26_9) rfl rfl ?_
 obtain ⟨_, _, ⟨T1, Lx1, kc1, nc1⟩, -, X1, ⟨Lc1, hQ1, lq1, yq1, zq1⟩, st1⟩ := Jvm.LawKit.callS X0 hx (y := y9) hown (mvT hZ (W hw 114 rfl)) (mvT hZ (W hw 115 rfl)) (mvT hZ (W hw 58 rfl)) (mvT hZ (W hw 116 rfl)) (by decide) (backOf (W := 0) (o_rm27n2 l Z a0 hw [] cs sf GG o1 kb [(.int (o_lo c0)), (.int (o_hi c0)), (.int (o_lo c1)), (.int (o_hi c1))] h0 n0 Z0 pV1 O0) hZ (W hw 116 rfl) (W hw 58 rfl) (by decide) (by decide)) (g := (mkF m 10 #[(sR o1), (sI 0), (sI 2), (sR o2), (sI 0), .unset] [(.ref o1), (.int 2), (.int 0)])) rfl (by rw [hml]; rfl) (argsL := [(.int 0), (.int 2), (.ref o1)]) (rest := []) (lenOf o_pd10 rfl) rfl (o_wl rfl) (hb hby o_d26_10) (fun _ _ => ⟨rfl, e0, (by decide : 0 + 0 ≤ _), (by decide : 0 + 0 ≤ _)⟩)
 dsimp only [Pt.U, Pt.locs, Pt.cells, Pt.slots] at X1 lq1 yq1 zq1 st1 hQ1
 subst lq1 yq1 zq1
 obtain ⟨rfl, Nq1, eh1⟩ := hQ1
 have N1 := Fr.app N0 Nq1
 refine o_st (G' := T1.setTop (mkF m 13 #[(sR o1), (sI 0), (sI 2), (sR o2), (sI 0), .unset] [])) st1 ?_
 obtain ⟨_, X1h, N1h⟩ := o_hide X1 N1
 refine o_iloadN X1h hx 14 (hb hby o_d26_13) rfl ?_
 refine o_istore X1h hx 16 #[(sR o1), (sI 0), (sI 2), (sR o2), (sI 0), (sI 0)] (hb hby o_d26_14) rfl ?_
 refine o_iload X1h hx 18 (hb hby o_d26_16) rfl ?_
 refine o_iloadN X1h hx 19 (hb hby o_d26_18) rfl ?_
 refine o_icmpNo X1h hx 22 (hb hby o_d26_19) (tlt (by decide : (0 : Int32) < (2 : Int32))).2.1 ?_
 refine o_aloadN X1h hx 23 (hb hby o_d26_22) rfl rfl ?_
 refine o_iload X1h hx 25 (hb hby o_d26_23) rfl ?_
 refine o_iinc X1h hx 28 (1 : Int32) #[(sR o1), (sI 0), (sI 2), (sR o2), (sI 1), (sI 0)] (hb hby o_d26_25) rfl rfl rfl ?_
 refine o_aloadN X1h hx 29 (hb hby o_d26_28) rfl rfl ?_
 refine o_iload X1h hx 31 (hb hby o_d26_29) rfl ?_
 obtain ⟨_, _, ⟨T2, Lx2, kc2, nc2⟩, -, X2, ⟨Lc2, hQ2, lq2, yq2, zq2⟩, st2⟩ := Jvm.LawKit.callS X1h hx (y := y13) hown (mvT hZ (W hw 105 rfl)) (mvT hZ (W hw 106 rfl)) (mvT hZ (W hw 58 rfl)) (mvT hZ (W hw 107 rfl)) (by decide) (backOf (W := 2) (o_rm24n2i0 l Z a0 hw [] cs sf GG o1 kb c0 c1 h0 n0 Z0 pV1 O0 (hC0 : o_C c0)) hZ (W hw 107 rfl) (W hw 58 rfl) (by decide) (by decide)) (g := (mkF m 31 #[(sR o1), (sI 0), (sI 2), (sR o2), (sI 1), (sI 0)] [(.int 0), (.ref o1), (.int 0), (.ref o2)])) rfl (by rw [hml]; rfl) (argsL := [(.ref o1), (.int 0)]) (rest := [(.int 0), (.ref o2)]) (lenOf o_pd7 rfl) rfl (o_wl rfl) (hb hby o_d26_31) (fun _ _ => ⟨rfl, eh1, (by decide : 0 + 0 ≤ _), (by decide : 0 + 0 ≤ _)⟩)
 dsimp only [Pt.U, Pt.locs, Pt.cells, Pt.slots] at X2 lq2 yq2 zq2 st2 hQ2
 subst lq2 yq2 zq2
 obtain ⟨rfl, Nq2, eh2⟩ := hQ2
 have N2 := Fr.app N1h Nq2
 refine o_st (G' := T2.setTop (mkF m 34 #[(sR o1), (sI 0), (sI 2), (sR o2), (sI 1), (sI 0)] [(.int c0), (.int 0), (.ref o2)])) st2 ?_
 obtain ⟨_, X2h, N2h⟩ := o_hide X2 N2
 obtain ⟨cl3, Ar3, qv3, S3, M3, H3, G3⟩ := id pV2
 have hin3 := inb_of (j := (0 : Int32)) S3 ⟨by decide, by decide⟩
 obtain ⟨T3, h3, X3, e3, W3, st3⟩ := stC X2h hx hZ eh2 Ar3 (j := (0 : Int32)) hin3 (g := (mkF m 34 #[(sR o1), (sI 0), (sI 2), (sR o2), (sI 1), (sI 0)] [(.int c0), (.int 0), (.ref o2)])) rfl rfl (hb hby o_d26_34)
 have V3 : Arv Z h3 o2 kc .char 2 [(.int (nar .char c0)), (.int 0)] (.int 0) := Arv.set Ar3 qv3 S3 M3 H3 G3 (fits_nar_char _) W3 0 rfl (Nat.le_of_ble_eq_true rfl)
 have N3 := Fr.snoc X3 N2h pG3
 have O4 := O0.wr W3 pG3
 have KC5 := KC0.wr W3 (Or.inl (List.mem_of_getElem? (i := 0) rfl))
 have Z6 := Nat.le_trans Z0 (Nat.le_of_eq W3.size.symm)
 refine o_st (G' := T3.setTop (mkF m 35 #[(sR o1), (sI 0), (sI 2), (sR o2), (sI 1), (sI 0)] [])) st3 ?_
 obtain ⟨_, X3h, N3h⟩ := o_hide X3 N3
 refine o_iinc X3h hx 38 (1 : Int32) #[(sR o1), (sI 0), (sI 2), (sR o2), (sI 1), (sI 1)] (hb hby o_d26_35) rfl rfl rfl ?_
 refine o_goto X3h hx 16 (hb hby o_d26_38) ?_
 refine o_iload X3h hx 18 (hb hby o_d26_16) rfl ?_
 refine o_iloadN X3h hx 19 (hb hby o_d26_18) rfl ?_
 refine o_icmpNo X3h hx 22 (hb hby o_d26_19) (tlt (by decide : (1 : Int32) < (2 : Int32))).2.1 ?_
 refine o_aloadN X3h hx 23 (hb hby o_d26_22) rfl rfl ?_
 refine o_iload X3h hx 25 (hb hby o_d26_23) rfl ?_
 refine o_iinc X3h hx 28 (1 : Int32) #[(sR o1), (sI 0), (sI 2), (sR o2), (sI 2), (sI 1)] (hb hby o_d26_25) rfl rfl rfl ?_
 refine o_aloadN X3h hx 29 (hb hby o_d26_28) rfl rfl ?_
 refine o_iload X3h hx 31 (hb hby o_d26_29) rfl ?_
 have f7 := (pV1.other W3 pN5)
 obtain ⟨_, _, ⟨T8, Lx8, kc8, nc8⟩, -, X8, ⟨Lc8, hQ8, lq8, yq8, zq8⟩, st8⟩ := Jvm.LawKit.callS X3h hx (y := y13) hown (mvT hZ (W hw 105 rfl)) (mvT hZ (W hw 106 rfl)) (mvT hZ (W hw 58 rfl)) (mvT hZ (W hw 107 rfl)) (by decide) (backOf (W := 2) (o_rm24n2i1 l Z a0 hw [] cs sf GG o1 kb c0 c1 h3 n0 Z6 f7 O4 (hC1 : o_C c1)) hZ (W hw 107 rfl) (W hw 58 rfl) (by decide) (by decide)) (g := (mkF m 31 #[(sR o1), (sI 0), (sI 2), (sR o2), (sI 2), (sI 1)] [(.int 1), (.ref o1), (.int 1), (.ref o2)])) rfl (by rw [hml]; rfl) (argsL := [(.ref o1), (.int 1)]) (rest := [(.int 1), (.ref o2)]) (lenOf o_pd7 rfl) rfl (o_wl rfl) (hb hby o_d26_31) (fun _ _ => ⟨rfl, e3, (by decide : 0 + 0 ≤ _), (by decide : 0 + 0 ≤ _)⟩)
 dsimp only [Pt.U, Pt.locs, Pt.cells, Pt.slots] at X8 lq8 yq8 zq8 st8 hQ8
 subst lq8 yq8 zq8
 obtain ⟨rfl, Nq8, eh8⟩ := hQ8
 have N8 := Fr.app N3h Nq8
 refine o_st (G' := T8.setTop (mkF m 34 #[(sR o1), (sI 0), (sI 2), (sR o2), (sI 2), (sI 1)] [(.int c1), (.int 1), (.ref o2)])) st8 ?_
 obtain ⟨_, X8h, N8h⟩ := o_hide X8 N8
 obtain ⟨cl9, Ar9, qv9, S9, M9, H9, G9⟩ := id V3
 have hin9 := inb_of (j := (1 : Int32)) S9 ⟨by decide, by decide⟩
 obtain ⟨T9, h9, X9, e9, W9, st9⟩ := stC X8h hx hZ eh8 Ar9 (j := (1 : Int32)) hin9 (g := (mkF m 34 #[(sR o1), (sI 0), (sI 2), (sR o2), (sI 2), (sI 1)] [(.int c1), (.int 1), (.ref o2)])) rfl rfl (hb hby o_d26_34)
 have V9 : Arv Z h9 o2 kc .char 2 [(.int (nar .char c0)), (.int (nar .char c1))] (.int 0) := Arv.set Ar9 qv9 S9 M9 H9 G9 (fits_nar_char _) W9 1 rfl (Nat.le_of_ble_eq_true rfl)
 have N9 := Fr.snoc X9 N8h pG3
 have KC11 := KC5.wr W9 (Or.inl (List.mem_of_getElem? (i := 0) rfl))
 refine o_st (G' := T9.setTop (mkF m 35 #[(sR o1), (sI 0), (sI 2), (sR o2), (sI 2), (sI 1)] [])) st9 ?_
 obtain ⟨_, X9h, N9h⟩ := o_hide X9 N9
 refine o_iinc X9h hx 38 (1 : Int32) #[(sR o1), (sI 0), (sI 2), (sR o2), (sI 2), (sI 2)] (hb hby o_d26_35) rfl rfl rfl ?_
 refine o_goto X9h hx 16 (hb hby o_d26_38) ?_
 refine o_iload X9h hx 18 (hb hby o_d26_16) rfl ?_
 refine o_iloadN X9h hx 19 (hb hby o_d26_18) rfl ?_
 refine o_icmpYes X9h hx 41 (hb hby o_d26_19) (flt (by decide : ¬ ((2 : Int32) < (2 : Int32)))).2.1 ?_
 exact o_retV (Q := o_Q26n2 Z cs sf GG o1 o2 kb kc c0 c1 h0 n0) X9h hx hrt (hb hby o_d26_41) hlk e9 ⟨rfl, N9h, KC11, (by have q := V9; rw [o_narC hC0, o_narC hC1] at q; exact q)⟩ (by decide) (by decide)
def o_Q8n2 (Z : State) (o1 : Addr) (o2 : Addr) (kb : ClassId) (kc : ClassId) (c0 : Int32) (c1 : Int32) (h0 : Heap) (n0 : Nat) (v : Option Value) (h : Heap) (L : List Loc) : Prop := v = none ∧ Fr n0 L ∧ Keep h0 h [o2] ∧ Arv Z h o2 kc .char 2 [(.int c0), (.int c1)] (.int 0)
set_option maxRecDepth 65536 in
set_option maxHeartbeats 40000000 in
theorem o_rm8n2 (l : Launch) (Z : State) (a0 : Array Value) (hw : o_Hw Z a0) (ws : List Jvm.Cond) (o1 : Addr) (o2 : Addr) (kb : ClassId) (kc : ClassId) (c0 : Int32) (c1 : Int32) (h0 : Heap) (n0 : Nat) (Z0 : n0 ≤ h0.size) (pV1 : Arv Z h0 o1 kb .byte 2 [(.int (nar .byte c0.toInt8.toInt32)), (.int (nar .byte c1.toInt8.toInt32))] (.int 0)) (pV2 : Arv Z h0 o2 kc .char 2 [(.int 0), (.int 0)] (.int 0)) (pG3 : n0 ≤ o2) (pN4 : o1 ≠ o2) (hC0 : o_C c0) (hC1 : o_C c1) (hL0 : ¬ (255 : Int32) < c0) (hL1 : ¬ (255 : Int32) < c1) :
  o_Met l y19 jdk_43_method_49_code 6 none ws r0 #[(.ref o1), (.int 0), (.ref o2), (.int 0), (.int 2)] Z h0 (o_Q8n2 Z o1 o2 kb kc c0 c1 h0 n0) := by
 refine MetFree.of_bodySF (plainFor_of_name o_pn5) hisR ?_
 intro p e s m args below meth c s₁ Bd hml0 hP hK
 obtain ⟨rfl, hZ, hh⟩ := hP
 obtain ⟨hx, hby, hlk, hrt⟩ := o_bd Bd
 have X0 : Stand p l e r0 s m #[(.ref o1), (.int 0), (.ref o2), (.int 0), (.int 2)] below meth c s₁ [] 0 0 := Stand.of_body Bd
 have e0 := o_e0 Bd hh
 have N0 := Fr.nil n0
 have KC0 := Keep.refl h0 [o2]
 refine o_in (g' := mkF m 0 #[(sR o1), (sI 0), (sR o2), (sI 0), (sI 2), .unset] []) (by simp [entryFrame, mkF, argsToLocals, Value.category]) ?_
 refine o_iconst X0 hx 1 0 (hb hby o_d8_0) rfl ?_
 refine o_istore X0 hx 3 #[(sR o1), (sI 0), (sR o2), (sI 0), (sI 2), (sI 0)] (hb hby o_d8_1) rfl ?_
 refine o_iload X0 hx 5 (hb hby o_d8_3) rfl ?_
 refine o_iload X0 hx 7 (hb hby o_d8_5) rfl ?_
 refine o_icmpNo X0 hx 10 (hb hby o_d8_7) (tlt (by decide : (0 : Int32) < (2 : Int32))).2.1 ?_
 refine o_aloadN X0 hx 11 (hb hby o_d8_10) rfl rfl ?_
 refine o_iloadN X0 hx 12 (hb hby o_d8_11) rfl ?_
 refine o_iinc X0 hx 15 (1 : Int32) #[(sR o1), (sI 0), (sR o2), (sI 1), (sI 2), (sI 0)] (hb hby o_d8_12) rfl rfl rfl ?_
 refine o_aloadN X0 hx 16 (hb hby o_d8_15) rfl rfl ?_
 refine o_iloadN X0 hx 17 (hb hby o_d8_16) rfl ?_
 refine o_iinc X0 hx 20 (1 : Int32) #[(sR o1), (sI 1), (sR o2), (sI 1), (sI 2), (sI 0)] (hb hby o_d8_17) rfl rfl rfl ?_
 obtain ⟨cl1, Ar1, qv1, S1, M1, H1, G1⟩ := id pV1
 have hin1 := inb_of (j := (0 : Int32)) S1 ⟨by decide, by decide⟩
 refine o_st (G' := s₁.setTop (mkF m 21 #[(sR o1), (sI 1), (sR o2), (sI 1), (sI 2), (sI 0)] [(.int (nar .byte c0.toInt8.toInt32)), (.int 0), (.ref o2)])) (fun t k => X0.baloadBytes hx (j := (0 : Int32)) (v := (.int (nar .byte c0.toInt8.toInt32))) (by rw [e0]; exact Ar1.1) (State.isArrayOf_alike hZ.alike Ar1.2.1) Ar1.2.2 hin1 (H1.at hin1 rfl) (g := (mkF m 20 #[(sR o1), (sI 1), (sR o2), (sI 1), (sI 2), (sI 0)] [(.int 0), (.ref o1), (.int 0), (.ref o2)])) rfl rfl (hb hby o_d8_20) _ k) ?_
 refine o_sipush X0 hx 24 255 (hb hby o_d8_21) rfl ?_
 refine o_iand X0 hx 25 (hb hby o_d8_24) ?_
 refine o_i2c X0 hx 26 (hb hby o_d8_25) ?_
 obtain ⟨cl2, Ar2, qv2, S2, M2, H2, G2⟩ := id pV2
 have hin2 := inb_of (j := (0 : Int32)) S2 ⟨by decide, by decide⟩
 obtain ⟨T2, h2, X2, e2, W2, st2⟩ := stC X0 hx hZ e0 Ar2 (j := (0 : Int32)) hin2 (g := (mkF m 26 #[(sR o1), (sI 1), (sR o2), (sI 1), (sI 2), (sI 0)] [(.int (((nar .byte c0.toInt8.toInt32) &&& (255 : Int32)).toUInt32.toUInt16.toUInt32.toInt32)), (.int 0), (.ref o2)])) rfl rfl (hb hby o_d8_26)
 have V2 : Arv Z h2 o2 kc .char 2 [(.int (nar .char (((nar .byte c0.toInt8.toInt32) &&& (255 : Int32)).toUInt32.toUInt16.toUInt32.toInt32))), (.int 0)] (.int 0) := Arv.set Ar2 qv2 S2 M2 H2 G2 (fits_nar_char _) W2 0 rfl (Nat.le_of_ble_eq_true rfl)
 have N2 := Fr.snoc X2 N0 pG3
 have KC3 := KC0.wr W2 (Or.inl (List.mem_of_getElem? (i := 0) rfl))
 refine o_st (G' := T2.setTop (mkF m 27 #[(sR o1), (sI 1), (sR o2), (sI 1), (sI 2), (sI 0)] [])) st2 ?_
 obtain ⟨_, X2h, N2h⟩ := o_hide X2 N2
 refine o_iinc X2h hx 30 (1 : Int32) #[(sR o1), (sI 1), (sR o2), (sI 1), (sI 2), (sI 1)] (hb hby o_d8_27) rfl rfl rfl ?_
 refine o_goto X2h hx 3 (hb hby o_d8_30) ?_
 refine o_iload X2h hx 5 (hb hby o_d8_3) rfl ?_
 refine o_iload X2h hx 7 (hb hby o_d8_5) rfl ?_
 refine o_icmpNo X2h hx 10 (hb hby o_d8_7) (tlt (by decide : (1 : Int32) < (2 : Int32))).2.1 ?_
 refine o_aloadN X2h hx 11 (hb hby o_d8_10) rfl rfl ?_
 refine o_iloadN X2h hx 12 (hb hby o_d8_11) rfl ?_
 refine o_iinc X2h hx 15 (1 : Int32) #[(sR o1), (sI 1), (sR o2), (sI 2), (sI 2), (sI 1)] (hb hby o_d8_12) rfl rfl rfl ?_
 refine o_aloadN X2h hx 16 (hb hby o_d8_15) rfl rfl ?_
 refine o_iloadN X2h hx 17 (hb hby o_d8_16) rfl ?_
 refine o_iinc X2h hx 20 (1 : Int32) #[(sR o1), (sI 2), (sR o2), (sI 2), (sI 2), (sI 1)] (hb hby o_d8_17) rfl rfl rfl ?_
 have f5 := (pV1.other W2 pN4)
 obtain ⟨cl6, Ar6, qv6, S6, M6, H6, G6⟩ := id f5
 have hin6 := inb_of (j := (1 : Int32)) S6 ⟨by decide, by decide⟩
 refine o_st (G' := T2.setTop (mkF m 21 #[(sR o1), (sI 2), (sR o2), (sI 2), (sI 2), (sI 1)] [(.int (nar .byte c1.toInt8.toInt32)), (.int 1), (.ref o2)])) (fun t k => X2h.baloadBytes hx (j := (1 : Int32)) (v := (.int (nar .byte c1.toInt8.toInt32))) (by rw [e2]; exact Ar6.1) (State.isArrayOf_alike hZ.alike Ar6.2.1) Ar6.2.2 hin6 (H6.at hin6 rfl) (g := (mkF m 20 #[(sR o1), (sI 2), (sR o2), (sI 2), (sI 2), (sI 1)] [(.int 1), (.ref o1), (.int 1), (.ref o2)])) rfl rfl (hb hby o_d8_20) _ k) ?_
 refine o_sipush X2h hx 24 255 (hb hby o_d8_21) rfl ?_
 refine o_iand X2h hx 25 (hb hby o_d8_24) ?_
 refine o_i2c X2h hx 26 (hb hby o_d8_25) ?_
 obtain ⟨cl7, Ar7, qv7, S7, M7, H7, G7⟩ := id V2
 have hin7 := inb_of (j := (1 : Int32)) S7 ⟨by decide, by decide⟩
 obtain ⟨T7, h7, X7, e7, W7, st7⟩ := stC X2h hx hZ e2 Ar7 (j := (1 : Int32)) hin7 (g := (mkF m 26 #[(sR o1), (sI 2), (sR o2), (sI 2), (sI 2), (sI 1)] [(.int (((nar .byte c1.toInt8.toInt32) &&& (255 : Int32)).toUInt32.toUInt16.toUInt32.toInt32)), (.int 1), (.ref o2)])) rfl rfl (hb hby o_d8_26)
 have V7 : Arv Z h7 o2 kc .char 2 [(.int (nar .char (((nar .byte c0.toInt8.toInt32) &&& (255 : Int32)).toUInt32.toUInt16.toUInt32.toInt32))), (.int (nar .char (((nar .byte c1.toInt8.toInt32) &&& (255 : Int32)).toUInt32.toUInt16.toUInt32.toInt32)))] (.int 0) := Arv.set Ar7 qv7 S7 M7 H7 G7 (fits_nar_char _) W7 1 rfl (Nat.le_of_ble_eq_true rfl)
 have N7 := Fr.snoc X7 N2h pG3
 have KC8 := KC3.wr W7 (Or.inl (List.mem_of_getElem? (i := 0) rfl))
 refine o_st (G' := T7.setTop (mkF m 27 #[(sR o1), (sI 2), (sR o2), (sI 2), (sI 2), (sI 1)] [])) st7 ?_
 obtain ⟨_, X7h, N7h⟩ := o_hide X7 N7
 refine o_iinc X7h hx 30 (1 : Int32) #[(sR o1), (sI 2), (sR o2), (sI 2), (sI 2), (sI 2)] (hb hby o_d8_27) rfl rfl rfl ?_
 refine o_goto X7h hx 3 (hb hby o_d8_30) ?_
 refine o_iload X7h hx 5 (hb hby o_d8_3) rfl ?_
 refine o_iload X7h hx 7 (hb hby o_d8_5) rfl ?_
 refine o_icmpYes X7h hx 33 (hb hby o_d8_7) (flt (by decide : ¬ ((2 : Int32) < (2 : Int32)))).2.1 ?_
 exact o_retV (Q := o_Q8n2 Z o1 o2 kb kc c0 c1 h0 n0) X7h hx hrt (hb hby o_d8_33) hlk e7 ⟨rfl, N7h, KC8, (by have q := V7; rw [o_lat hC0 hL0, o_lat hC1 hL1] at q; exact q)⟩ (by decide) (by decide)
def o_Q7n2 (Z : State) (cs : Int32) (sf : Value) (GG : o_G Z cs sf) (o1 : Addr) (kb : ClassId) (c0 : Int32) (c1 : Int32) (h0 : Heap) (n0 : Nat) (v : Option Value) (h : Heap) (L : List Loc) : Prop := ∃ ca : Addr, ∃ kc : ClassId, v = some (.ref ca) ∧ Fr n0 L ∧ Keep h0 h [] ∧ h0.size ≤ ca ∧ Arv Z h ca kc .char 2 [(.int c0), (.int c1)] (.int 0)
set_option maxRecDepth 65536 in
set_option maxHeartbeats 40000000 in
theorem o_rm7n2 (l : Launch) (Z : State) (a0 : Array Value) (hw : o_Hw Z a0) (ws : List Jvm.Cond) (cs : Int32) (sf : Value) (GG : o_G Z cs sf) (o1 : Addr) (kb : ClassId) (c0 : Int32) (c1 : Int32) (h0 : Heap) (n0 : Nat) (Z0 : n0 ≤ h0.size) (pV1 : Arv Z h0 o1 kb .byte 2 [(.int (nar .byte c0.toInt8.toInt32)), (.int (nar .byte c1.toInt8.toInt32))] (.int 0)) (O0 : Old Z n0 h0) (hC0 : o_C c0) (hC1 : o_C c1) (hL0 : ¬ (255 : Int32) < c0) (hL1 : ¬ (255 : Int32) < c1) :
  o_Met l y20 jdk_43_method_9_code 2 (some (.array .char)) ws r25 #[(.ref o1)] Z h0 (o_Q7n2 Z cs sf GG o1 kb c0 c1 h0 n0) := by
 refine MetFree.of_bodySF (plainFor_of_name o_pn5) hisR ?_
 intro p e s m args below meth c s₁ Bd hml0 hP hK
 obtain ⟨rfl, hZ, hh⟩ := hP
 obtain ⟨hx, hby, hlk, hrt⟩ := o_bd Bd
 have hml : c.maxLocals = 2 := hml0
 have hown : s.vm.findClass "java/lang/StringLatin1" = some m.cls := findClass_of_methodNamed Bd.named
 have X0 : Stand p l e r25 s m #[(.ref o1)] below meth c s₁ [] 0 0 := Stand.of_body Bd
 have e0 := o_e0 Bd hh
 have N0 := Fr.nil n0
 have KC0 := Keep.refl h0 []
 refine o_in (g' := mkF m 0 #[(sR o1), .unset] []) (by simp [entryFrame, mkF, argsToLocals, Value.category]) ?_
 refine o_aloadN X0 hx 1 (hb hby o_d7_0) rfl rfl ?_
 obtain ⟨cl1, Ar1, qv1, S1, M1, H1, G1⟩ := id pV1
 have ln1 := len_of S1 M1
 refine o_st (G' := s₁.setTop (mkF m 2 #[(sR o1), .unset] [(.int 2)])) (fun t k => X0.arraylength hx (by rw [e0]; exact Ar1.1) (State.isArrayOf_alike hZ.alike Ar1.2.1) (g := (mkF m 1 #[(sR o1), .unset] [(.ref o1)])) rfl rfl (hb hby o_d7_1) _ (by rw [ln1]; exact k)) ?_
 obtain ⟨T2, h2, k2, X2, e2, E2, A2, st2⟩ := newP X0 hx hZ (W hw 0 rfl) e0 (g := (mkF m 2 #[(sR o1), .unset] [(.int 2)])) rfl (hb hby o_d7_2) rfl (by decide) (cap := 2) (by decide) (by decide) (by decide) (by decide)
 obtain ⟨b2, g2⟩ : ∃ z, z = h0.size := ⟨_, rfl⟩
 rw [← g2] at A2 st2
 have ne3 : o1 ≠ b2 := Nat.ne_of_lt (Nat.lt_of_lt_of_le pV1.lt (Nat.le_of_eq g2.symm))
 have gt_b2 : n0 ≤ b2 := Nat.le_trans Z0 (Nat.le_of_eq g2.symm)
 have sz_b2 : h0.size ≤ b2 := Nat.le_trans KC0.1 (Nat.le_of_eq g2.symm)
 have V2 : Arv Z h2 b2 k2 .char 2 [(.int 0), (.int 0)] (.int 0) := (Arv.new A2 (by decide)).pad (pad_rep [] (.int 0) 2)
 have KC5 := KC0.ext E2
 have Z6 := Nat.le_trans Z0 E2.1
 refine o_st (G' := T2.setTop (mkF m 4 #[(sR o1), .unset] [(.ref b2)])) st2 ?_
 obtain ⟨_, X2h, N2h⟩ := o_hide X2 N0
 refine o_astoreN X2h hx 5 #[(sR o1), (sR b2)] (hb hby o_d7_4) rfl rfl ?_
 refine o_aloadN X2h hx 6 (hb hby o_d7_5) rfl rfl ?_
 refine o_iconst X2h hx 7 0 (hb hby o_d7_6) rfl ?_
 refine o_aloadN X2h hx 8 (hb hby o_d7_7) rfl rfl ?_
 refine o_iconst X2h hx 9 0 (hb hby o_d7_8) rfl ?_
 refine o_aloadN X2h hx 10 (hb hby o_d7_9) rfl rfl ?_
 have f7 := (pV1.ext E2)
 obtain ⟨cl8, Ar8, qv8, S8, M8, H8, G8⟩ := id f7
 have ln8 := len_of S8 M8
 refine o_st (G' := T2.setTop (mkF m 11 #[(sR o1), (sR b2)] [(.int 2), (.int 0), (.ref b2), (.int 0), (.ref o1)])) (fun t k => X2h.arraylength hx (by rw [e2]; exact Ar8.1) (State.isArrayOf_alike hZ.alike Ar8.2.1) (g := (mkF m 10 #[(sR o1), (sR b2)] [(.ref o1), (.int 0), (.ref b2), (.int 0), (.ref o1)])) rfl rfl (hb hby o_d7_10) _ (by rw [ln8]; exact k)) ?_
 obtain ⟨_, _, ⟨T9, Lx9, kc9, nc9⟩, -, X9, ⟨Lc9, hQ9, lq9, yq9, zq9⟩, st9⟩ := Jvm.LawKit.callS X2h hx (y := y19) hown (mvT hZ (W hw 41 rfl)) (mvT hZ (W hw 42 rfl)) (mvT hZ (W hw 39 rfl)) (mvT hZ (W hw 43 rfl)) (by decide) (backOf (W := 0) (o_rm8n2 l Z a0 hw [] o1 b2 kb k2 c0 c1 h2 n0 Z6 f7 V2 gt_b2 ne3 (hC0 : o_C c0) (hC1 : o_C c1) (hL0 : ¬ (255 : Int32) < c0) (hL1 : ¬ (255 : Int32) < c1)) hZ (W hw 43 rfl) (W hw 39 rfl) (by decide) (by decide)) (g := (mkF m 11 #[(sR o1), (sR b2)] [(.int 2), (.int 0), (.ref b2), (.int 0), (.ref o1)])) rfl (by rw [hml]; rfl) (argsL := [(.ref o1), (.int 0), (.ref b2), (.int 0), (.int 2)]) (rest := []) (lenOf o_pd11 rfl) rfl (o_wl rfl) (hb hby o_d7_11) (fun _ _ => ⟨rfl, e2, (by decide : 1 + 0 ≤ _), (by decide : 2 + 0 ≤ _)⟩)
 dsimp only [Pt.U, Pt.locs, Pt.cells, Pt.slots] at X9 lq9 yq9 zq9 st9 hQ9
 subst lq9 yq9 zq9
 obtain ⟨rfl, Nq9, Kp9, G9_0⟩ := hQ9
 have N9 := Fr.app N2h Nq9
 have KC11 := KC5.trans Kp9 (allS (Or.inr sz_b2) all0)
 refine o_st (G' := T9.setTop (mkF m 14 #[(sR o1), (sR b2)] [])) st9 ?_
 obtain ⟨_, X9h, N9h⟩ := o_hide X9 N9
 refine o_aloadN X9h hx 15 (hb hby o_d7_14) rfl rfl ?_
 exact o_retA (z := (.ref b2)) (Q := o_Q7n2 Z cs sf GG o1 kb c0 c1 h0 n0) X9h hx hrt rfl rfl (hb hby o_d7_15) hlk rfl ⟨b2, k2, rfl, N9h, KC11, sz_b2, G9_0⟩ (by decide) (by decide)
def o_Q5n2L (Z : State) (cs : Int32) (sf : Value) (GG : o_G Z cs sf) (o1 : Addr) (bb : Addr) (kb : ClassId) (c0 : Int32) (c1 : Int32) (h0 : Heap) (n0 : Nat) (v : Option Value) (h : Heap) (L : List Loc) : Prop := ∃ ca : Addr, ∃ kc : ClassId, v = some (.ref ca) ∧ Fr n0 L ∧ Keep h0 h [] ∧ h0.size ≤ ca ∧ Arv Z h ca kc .char 2 [(.int c0), (.int c1)] (.int 0)
set_option maxRecDepth 65536 in
set_option maxHeartbeats 40000000 in
theorem o_rm5n2L (l : Launch) (Z : State) (a0 : Array Value) (hw : o_Hw Z a0) (ws : List Jvm.Cond) (cs : Int32) (sf : Value) (GG : o_G Z cs sf) (o1 : Addr) (bb : Addr) (kb : ClassId) (c0 : Int32) (c1 : Int32) (h0 : Heap) (n0 : Nat) (Z0 : n0 ≤ h0.size) (pE1 : Exa Z h0 o1 "java/lang/String") (pF2 : Fld Z h0 o1 "java/lang/String" "value" "[B" (.ref bb)) (pF3 : Fld Z h0 o1 "java/lang/String" "coder" "B" (.int 0)) (pV4 : Arv Z h0 bb kb .byte 2 [(.int (nar .byte c0.toInt8.toInt32)), (.int (nar .byte c1.toInt8.toInt32))] (.int 0)) (O0 : Old Z n0 h0) (hC0 : o_C c0) (hC1 : o_C c1) (hL0 : ¬ (255 : Int32) < c0) (hL1 : ¬ (255 : Int32) < c1) :
  o_Met l y21 jdk_42_method_129_code 1 (some (.array .char)) ws r26 #[(.ref o1)] Z h0 (o_Q5n2L Z cs sf GG o1 bb kb c0 c1 h0 n0) := by
 refine MetFree.of_bodySF (plainFor_of_name o_pn3) hisR ?_
 intro p e s m args below meth c s₁ Bd hml0 hP hK
 obtain ⟨rfl, hZ, hh⟩ := hP
 obtain ⟨hx, hby, hlk, hrt⟩ := o_bd Bd
 have hml : c.maxLocals = 1 := hml0
 have hown : s.vm.findClass "java/lang/String" = some m.cls := findClass_of_methodNamed Bd.named
 have X0 : Stand p l e r26 s m #[(.ref o1)] below meth c s₁ [] 0 0 := Stand.of_body Bd
 have e0 := o_e0 Bd hh
 have N0 := Fr.nil n0
 have KC0 := Keep.refl h0 []
 refine o_in (g' := mkF m 0 #[(sR o1)] []) (by simp [entryFrame, mkF, argsToLocals, Value.category]) ?_
 refine o_aloadN X0 hx 1 (hb hby o_d5_0) rfl rfl ?_
 obtain ⟨cq1, kq1, q1a, q1b, q1c⟩ := isOf hZ e0 pE1
 obtain ⟨_, _, ⟨T1, Lx1, kc1, nc1⟩, -, X1, ⟨Lc1, hQ1, lq1, yq1, zq1⟩, st1⟩ := X0.virtualBack hx (y := y5) (z := y5) hown (mvT hZ (W hw 31 rfl)) (mvT hZ (W hw 32 rfl)) (notFace_of_selects (args := #[]) (mvT hZ (W hw 34 rfl))) (mvT hZ (W hw 34 rfl)) (mvT hZ (W hw 33 rfl)) (by decide) (backOf (W := 0) (o_rm6L l Z a0 hw [] cs sf GG o1 h0 n0 Z0 pF3 O0) hZ (W hw 35 rfl) (W hw 3 rfl) (by decide) (by decide)) q1a q1c (g := (mkF m 1 #[(sR o1)] [(.ref o1)])) rfl (by rw [hml]; rfl) (Steps.refl _) (argsL := []) (rest := []) (lenOf o_pd12 rfl) rfl (o_wl rfl) (hb hby o_d5_1) (fun _ _ => ⟨rfl, e0, (by decide : 0 + 0 ≤ _), (by decide : 0 + 0 ≤ _)⟩)
 dsimp only [Pt.U, Pt.locs, Pt.cells, Pt.slots] at X1 lq1 yq1 zq1 st1 hQ1
 subst lq1 yq1 zq1
 obtain ⟨rfl, Nq1, eh1⟩ := hQ1
 have N1 := Fr.app N0 Nq1
 refine o_st (G' := T1.setTop (mkF m 4 #[(sR o1)] [(.int 1)])) (fun t k => st1.trans k) ?_
 obtain ⟨_, X1h, N1h⟩ := o_hide X1 N1
 refine o_ifNo X1h hx 7 (hb hby o_d5_4) (feq (by decide : ¬ ((1 : Int32) = (0 : Int32)))).1 ?_
 refine o_aloadN X1h hx 8 (hb hby o_d5_7) rfl rfl ?_
 obtain ⟨T2, X2, e2, st2⟩ := getF X1h hx hZ hown (host := "") (Or.inl (W hw 20 rfl)) Via.refl eh1 pF2 (g := (mkF m 8 #[(sR o1)] [(.ref o1)])) rfl rfl (hb hby o_d5_8)
 refine o_st (G' := T2.setTop (mkF m 11 #[(sR o1)] [(.ref bb)])) st2 ?_
 obtain ⟨_, X2h, N2h⟩ := o_hide X2 N1h
 obtain ⟨_, _, ⟨T3, Lx3, kc3, nc3⟩, -, X3, ⟨Lc3, hQ3, lq3, yq3, zq3⟩, st3⟩ := Jvm.LawKit.callS X2h hx (y := y20) hown (mvT hZ (W hw 37 rfl)) (mvT hZ (W hw 38 rfl)) (mvT hZ (W hw 39 rfl)) (mvT hZ (W hw 40 rfl)) (by decide) (backOf (W := 0) (o_rm7n2 l Z a0 hw [] cs sf GG bb kb c0 c1 h0 n0 Z0 pV4 O0 (hC0 : o_C c0) (hC1 : o_C c1) (hL0 : ¬ (255 : Int32) < c0) (hL1 : ¬ (255 : Int32) < c1)) hZ (W hw 40 rfl) (W hw 39 rfl) (by decide) (by decide)) (g := (mkF m 11 #[(sR o1)] [(.ref bb)])) rfl (by rw [hml]; rfl) (argsL := [(.ref bb)]) (rest := []) (lenOf o_pd13 rfl) rfl (o_wl rfl) (hb hby o_d5_11) (fun _ _ => ⟨rfl, e2, (by decide : 0 + 1 ≤ _), (by decide : 0 + 2 ≤ _)⟩)
 dsimp only [Pt.U, Pt.locs, Pt.cells, Pt.slots] at X3 lq3 yq3 zq3 st3 hQ3
 subst lq3 yq3 zq3
 obtain ⟨ca_3, kc_3, rfl, Nq3, Kp3, G3_0, G3_1⟩ := hQ3
 have N3 := Fr.app N2h Nq3
 have sz_ca_3 : h0.size ≤ ca_3 := Nat.le_trans KC0.1 G3_0
 have KC7 := KC0.trans Kp3 all0
 refine o_st (G' := T3.setTop (mkF m 14 #[(sR o1)] [(.ref ca_3)])) st3 ?_
 obtain ⟨_, X3h, N3h⟩ := o_hide X3 N3
 refine o_goto X3h hx 24 (hb hby o_d5_14) ?_
 exact o_retA (z := (.ref ca_3)) (Q := o_Q5n2L Z cs sf GG o1 bb kb c0 c1 h0 n0) X3h hx hrt rfl rfl (hb hby o_d5_24) hlk rfl ⟨ca_3, kc_3, rfl, N3h, KC7, sz_ca_3, G3_1⟩ (by decide) (by decide)
def o_Q13n2L (Z : State) (o1 : Addr) (kb : ClassId) (vs : List Value) (h0 : Heap) (n0 : Nat) (v : Option Value) (h : Heap) (L : List Loc) : Prop := v = some (.int 0) ∧ Fr n0 L ∧ h = h0
set_option maxRecDepth 65536 in
set_option maxHeartbeats 40000000 in
theorem o_rm13n2L (l : Launch) (Z : State) (a0 : Array Value) (hw : o_Hw Z a0) (ws : List Jvm.Cond) (o1 : Addr) (kb : ClassId) (vs : List Value) (h0 : Heap) (n0 : Nat) (Z0 : n0 ≤ h0.size) (pV1 : Arv Z h0 o1 kb .byte 2 vs (.int 0)) :
  o_Met l y22 jdk_52_method_15_code 2 (some .byte) ws r0 #[(.ref o1), (.int 2)] Z h0 (o_Q13n2L Z o1 kb vs h0 n0) := by
 refine MetFree.of_bodySF (plainFor_of_name o_pn4) hisR ?_
 intro p e s m args below meth c s₁ Bd hml0 hP hK
 obtain ⟨rfl, hZ, hh⟩ := hP
 obtain ⟨hx, hby, hlk, hrt⟩ := o_bd Bd
 have X0 : Stand p l e r0 s m #[(.ref o1), (.int 2)] below meth c s₁ [] 0 0 := Stand.of_body Bd
 have e0 := o_e0 Bd hh
 have N0 := Fr.nil n0
 refine o_in (g' := mkF m 0 #[(sR o1), (sI 2)] []) (by simp [entryFrame, mkF, argsToLocals, Value.category]) ?_
 refine o_iloadN X0 hx 1 (hb hby o_d13_0) rfl ?_
 refine o_aloadN X0 hx 2 (hb hby o_d13_1) rfl rfl ?_
 obtain ⟨cl1, Ar1, qv1, S1, M1, H1, G1⟩ := id pV1
 have ln1 := len_of S1 M1
 refine o_st (G' := s₁.setTop (mkF m 3 #[(sR o1), (sI 2)] [(.int 2), (.int 2)])) (fun t k => X0.arraylength hx (by rw [e0]; exact Ar1.1) (State.isArrayOf_alike hZ.alike Ar1.2.1) (g := (mkF m 2 #[(sR o1), (sI 2)] [(.ref o1), (.int 2)])) rfl rfl (hb hby o_d13_2) _ (by rw [ln1]; exact k)) ?_
 refine o_isub X0 hx 4 (hb hby o_d13_3) ?_
 show o_Gs p e below _ (s₁.setTop (mkF m 4 #[(sR o1), (sI 2)] [(.int 0)]))
 refine o_bipush X0 hx 6 31 (hb hby o_d13_4) rfl ?_
 refine o_iushr X0 hx 7 (hb hby o_d13_6) ?_
 rw [show (((0 : Int32).toUInt32 >>> ((31 : Int32) &&& 31).toUInt32).toInt32) = (0 : Int32) from by decide]
 refine o_i2b X0 hx 8 (hb hby o_d13_7) ?_
 rw [show ((0 : Int32).toInt8.toInt32) = (0 : Int32) from by decide]
 exact o_retN (t := .byte) (z := (0 : Int32)) (Q := o_Q13n2L Z o1 kb vs h0 n0) X0 hx hrt (by simp) (hb hby o_d13_8) hlk e0 ⟨rfl, N0, rfl⟩ (by decide) (by decide)
def o_Q9n2L (Z : State) (cs : Int32) (sf : Value) (GG : o_G Z cs sf) (o1 : Addr) (bb : Addr) (kb : ClassId) (c0 : Int32) (c1 : Int32) (h0 : Heap) (n0 : Nat) (v : Option Value) (h : Heap) (L : List Loc) : Prop := v = some (.int 2) ∧ Fr n0 L ∧ h = h0
set_option maxRecDepth 65536 in
set_option maxHeartbeats 40000000 in
theorem o_rm9n2L (l : Launch) (Z : State) (a0 : Array Value) (hw : o_Hw Z a0) (ws : List Jvm.Cond) (cs : Int32) (sf : Value) (GG : o_G Z cs sf) (o1 : Addr) (bb : Addr) (kb : ClassId) (c0 : Int32) (c1 : Int32) (h0 : Heap) (n0 : Nat) (Z0 : n0 ≤ h0.size) (pE1 : Exa Z h0 o1 "java/lang/String") (pF2 : Fld Z h0 o1 "java/lang/String" "value" "[B" (.ref bb)) (pF3 : Fld Z h0 o1 "java/lang/String" "coder" "B" (.int 0)) (pV4 : Arv Z h0 bb kb .byte 2 [(.int (nar .byte c0.toInt8.toInt32)), (.int (nar .byte c1.toInt8.toInt32))] (.int 0)) (O0 : Old Z n0 h0) :
  o_Met l y23 jdk_42_method_54_code 1 (some .int) ws r11 #[(.ref o1)] Z h0 (o_Q9n2L Z cs sf GG o1 bb kb c0 c1 h0 n0) := by
 refine MetFree.of_bodySF (plainFor_of_name o_pn3) hisR ?_
 intro p e s m args below meth c s₁ Bd hml0 hP hK
 obtain ⟨rfl, hZ, hh⟩ := hP
 obtain ⟨hx, hby, hlk, hrt⟩ := o_bd Bd
 have hml : c.maxLocals = 1 := hml0
 have hown : s.vm.findClass "java/lang/String" = some m.cls := findClass_of_methodNamed Bd.named
 have X0 : Stand p l e r11 s m #[(.ref o1)] below meth c s₁ [] 0 0 := Stand.of_body Bd
 have e0 := o_e0 Bd hh
 have N0 := Fr.nil n0
 refine o_in (g' := mkF m 0 #[(sR o1)] []) (by simp [entryFrame, mkF, argsToLocals, Value.category]) ?_
 refine o_aloadN X0 hx 1 (hb hby o_d9_0) rfl rfl ?_
 obtain ⟨T1, X1, e1, st1⟩ := getF X0 hx hZ hown (host := "") (Or.inl (W hw 20 rfl)) Via.refl e0 pF2 (g := (mkF m 1 #[(sR o1)] [(.ref o1)])) rfl rfl (hb hby o_d9_1)
 refine o_st (G' := T1.setTop (mkF m 4 #[(sR o1)] [(.ref bb)])) st1 ?_
 obtain ⟨_, X1h, N1h⟩ := o_hide X1 N0
 obtain ⟨cl2, Ar2, qv2, S2, M2, H2, G2⟩ := id pV4
 have ln2 := len_of S2 M2
 refine o_st (G' := T1.setTop (mkF m 5 #[(sR o1)] [(.int 2)])) (fun t k => X1h.arraylength hx (by rw [e1]; exact Ar2.1) (State.isArrayOf_alike hZ.alike Ar2.2.1) (g := (mkF m 4 #[(sR o1)] [(.ref bb)])) rfl rfl (hb hby o_d9_4) _ (by rw [ln2]; exact k)) ?_
 refine o_aloadN X1h hx 6 (hb hby o_d9_5) rfl rfl ?_
 obtain ⟨cq3, kq3, q3a, q3b, q3c⟩ := isOf hZ e1 pE1
 obtain ⟨_, _, ⟨T3, Lx3, kc3, nc3⟩, -, X3, ⟨Lc3, hQ3, lq3, yq3, zq3⟩, st3⟩ := X1h.virtualBack hx (y := y4) (z := y4) hown (mvT hZ (W hw 51 rfl)) (mvT hZ (W hw 52 rfl)) (notFace_of_selects (args := #[]) (mvT hZ (W hw 54 rfl))) (mvT hZ (W hw 54 rfl)) (mvT hZ (W hw 53 rfl)) (by decide) (backOf (W := 1) (o_rm10L l Z a0 hw [] cs sf GG o1 h0 n0 Z0 pF3 O0) hZ (W hw 55 rfl) (W hw 3 rfl) (by decide) (by decide)) q3a q3c (g := (mkF m 6 #[(sR o1)] [(.ref o1), (.int 2)])) rfl (by rw [hml]; rfl) (Steps.refl _) (argsL := []) (rest := [(.int 2)]) (lenOf o_pd14 rfl) rfl (o_wl rfl) (hb hby o_d9_6) (fun _ _ => ⟨rfl, e1, (by decide : 0 + 0 ≤ _), (by decide : 0 + 0 ≤ _)⟩)
 dsimp only [Pt.U, Pt.locs, Pt.cells, Pt.slots] at X3 lq3 yq3 zq3 st3 hQ3
 subst lq3 yq3 zq3
 obtain ⟨rfl, Nq3, eh3⟩ := hQ3
 have N3 := Fr.app N1h Nq3
 refine o_st (G' := T3.setTop (mkF m 9 #[(sR o1)] [(.int 0), (.int 2)])) (fun t k => st3.trans k) ?_
 obtain ⟨_, X3h, N3h⟩ := o_hide X3 N3
 refine o_ishr X3h hx 10 (hb hby o_d9_9) ?_
 rw [show ((2 : Int32) >>> ((0 : Int32) &&& 31)) = (2 : Int32) from by decide]
 exact o_retI (z := (2 : Int32)) (Q := o_Q9n2L Z cs sf GG o1 bb kb c0 c1 h0 n0) X3h hx hrt (hb hby o_d9_10) hlk eh3 ⟨rfl, N3h, rfl⟩ (by decide) (by decide)
def o_Q15n2i0L (Z : State) (cs : Int32) (sf : Value) (GG : o_G Z cs sf) (o1 : Addr) (bb : Addr) (kb : ClassId) (c0 : Int32) (c1 : Int32) (h0 : Heap) (n0 : Nat) (v : Option Value) (h : Heap) (L : List Loc) : Prop := v = some (.int c0) ∧ Fr n0 L ∧ h = h0
set_option maxRecDepth 65536 in
set_option maxHeartbeats 40000000 in
theorem o_rm15n2i0L (l : Launch) (Z : State) (a0 : Array Value) (hw : o_Hw Z a0) (ws : List Jvm.Cond) (cs : Int32) (sf : Value) (GG : o_G Z cs sf) (o1 : Addr) (bb : Addr) (kb : ClassId) (c0 : Int32) (c1 : Int32) (h0 : Heap) (n0 : Nat) (Z0 : n0 ≤ h0.size) (pE1 : Exa Z h0 o1 "java/lang/String") (pF2 : Fld Z h0 o1 "java/lang/String" "value" "[B" (.ref bb)) (pF3 : Fld Z h0 o1 "java/lang/String" "coder" "B" (.int 0)) (pV4 : Arv Z h0 bb kb .byte 2 [(.int (nar .byte c0.toInt8.toInt32)), (.int (nar .byte c1.toInt8.toInt32))] (.int 0)) (O0 : Old Z n0 h0) (hC : o_C c0) (hL : ¬ (255 : Int32) < c0) :
  o_Met l y24 jdk_42_method_56_code 2 (some .char) ws r6 #[(.ref o1), (.int 0)] Z h0 (o_Q15n2i0L Z cs sf GG o1 bb kb c0 c1 h0 n0) := by
 refine MetFree.of_bodySF (plainFor_of_name o_pn3) hisR ?_
 intro p e s m args below meth c s₁ Bd hml0 hP hK
 obtain ⟨rfl, hZ, hh⟩ := hP
 obtain ⟨hx, hby, hlk, hrt⟩ := o_bd Bd
 have hml : c.maxLocals = 2 := hml0
 have hown : s.vm.findClass "java/lang/String" = some m.cls := findClass_of_methodNamed Bd.named
 have X0 : Stand p l e r6 s m #[(.ref o1), (.int 0)] below meth c s₁ [] 0 0 := Stand.of_body Bd
 have e0 := o_e0 Bd hh
 have N0 := Fr.nil n0
 refine o_in (g' := mkF m 0 #[(sR o1), (sI 0)] []) (by simp [entryFrame, mkF, argsToLocals, Value.category]) ?_
 refine o_aloadN X0 hx 1 (hb hby o_d15_0) rfl rfl ?_
 obtain ⟨cq1, kq1, q1a, q1b, q1c⟩ := isOf hZ e0 pE1
 obtain ⟨_, _, ⟨T1, Lx1, kc1, nc1⟩, -, X1, ⟨Lc1, hQ1, lq1, yq1, zq1⟩, st1⟩ := X0.virtualBack hx (y := y5) (z := y5) hown (mvT hZ (W hw 31 rfl)) (mvT hZ (W hw 32 rfl)) (notFace_of_selects (args := #[]) (mvT hZ (W hw 34 rfl))) (mvT hZ (W hw 34 rfl)) (mvT hZ (W hw 33 rfl)) (by decide) (backOf (W := 0) (o_rm6L l Z a0 hw [] cs sf GG o1 h0 n0 Z0 pF3 O0) hZ (W hw 35 rfl) (W hw 3 rfl) (by decide) (by decide)) q1a q1c (g := (mkF m 1 #[(sR o1), (sI 0)] [(.ref o1)])) rfl (by rw [hml]; rfl) (Steps.refl _) (argsL := []) (rest := []) (lenOf o_pd12 rfl) rfl (o_wl rfl) (hb hby o_d15_1) (fun _ _ => ⟨rfl, e0, (by decide : 0 + 0 ≤ _), (by decide : 0 + 0 ≤ _)⟩)
 dsimp only [Pt.U, Pt.locs, Pt.cells, Pt.slots] at X1 lq1 yq1 zq1 st1 hQ1
 subst lq1 yq1 zq1
 obtain ⟨rfl, Nq1, eh1⟩ := hQ1
 have N1 := Fr.app N0 Nq1
 refine o_st (G' := T1.setTop (mkF m 4 #[(sR o1), (sI 0)] [(.int 1)])) (fun t k => st1.trans k) ?_
 obtain ⟨_, X1h, N1h⟩ := o_hide X1 N1
 refine o_ifNo X1h hx 7 (hb hby o_d15_4) (feq (by decide : ¬ ((1 : Int32) = (0 : Int32)))).1 ?_
 refine o_aloadN X1h hx 8 (hb hby o_d15_7) rfl rfl ?_
 obtain ⟨T2, X2, e2, st2⟩ := getF X1h hx hZ hown (host := "") (Or.inl (W hw 20 rfl)) Via.refl eh1 pF2 (g := (mkF m 8 #[(sR o1), (sI 0)] [(.ref o1)])) rfl rfl (hb hby o_d15_8)
 refine o_st (G' := T2.setTop (mkF m 11 #[(sR o1), (sI 0)] [(.ref bb)])) st2 ?_
 obtain ⟨_, X2h, N2h⟩ := o_hide X2 N1h
 refine o_iloadN X2h hx 12 (hb hby o_d15_11) rfl ?_
 obtain ⟨_, _, ⟨T3, Lx3, kc3, nc3⟩, -, X3, ⟨Lc3, hQ3, lq3, yq3, zq3⟩, st3⟩ := Jvm.LawKit.callS X2h hx (y := y16) hown (mvT hZ (W hw 74 rfl)) (mvT hZ (W hw 75 rfl)) (mvT hZ (W hw 39 rfl)) (mvT hZ (W hw 76 rfl)) (by decide) (backOf (W := 0) (o_rm16n2i0 l Z a0 hw [] cs sf GG bb kb c0 c1 h0 n0 Z0 pV4 O0 (hC : o_C c0) (hL : ¬ (255 : Int32) < c0)) hZ (W hw 76 rfl) (W hw 39 rfl) (by decide) (by decide)) (g := (mkF m 12 #[(sR o1), (sI 0)] [(.int 0), (.ref bb)])) rfl (by rw [hml]; rfl) (argsL := [(.ref bb), (.int 0)]) (rest := []) (lenOf o_pd7 rfl) rfl (o_wl rfl) (hb hby o_d15_12) (fun _ _ => ⟨rfl, e2, (by decide : 0 + 0 ≤ _), (by decide : 0 + 0 ≤ _)⟩)
 dsimp only [Pt.U, Pt.locs, Pt.cells, Pt.slots] at X3 lq3 yq3 zq3 st3 hQ3
 subst lq3 yq3 zq3
 obtain ⟨rfl, Nq3, eh3⟩ := hQ3
 have N3 := Fr.app N2h Nq3
 refine o_st (G' := T3.setTop (mkF m 15 #[(sR o1), (sI 0)] [(.int c0)])) st3 ?_
 obtain ⟨_, X3h, N3h⟩ := o_hide X3 N3
 exact o_retN (t := .char) (z := c0) (Q := o_Q15n2i0L Z cs sf GG o1 bb kb c0 c1 h0 n0) X3h hx hrt (by simp) (hb hby o_d15_15) hlk eh3 ⟨(o_leafI (o_narC hC)), N3h, rfl⟩ (by decide) (by decide)
def o_Q15n2i1L (Z : State) (cs : Int32) (sf : Value) (GG : o_G Z cs sf) (o1 : Addr) (bb : Addr) (kb : ClassId) (c0 : Int32) (c1 : Int32) (h0 : Heap) (n0 : Nat) (v : Option Value) (h : Heap) (L : List Loc) : Prop := v = some (.int c1) ∧ Fr n0 L ∧ h = h0
set_option maxRecDepth 65536 in
set_option maxHeartbeats 40000000 in
theorem o_rm15n2i1L (l : Launch) (Z : State) (a0 : Array Value) (hw : o_Hw Z a0) (ws : List Jvm.Cond) (cs : Int32) (sf : Value) (GG : o_G Z cs sf) (o1 : Addr) (bb : Addr) (kb : ClassId) (c0 : Int32) (c1 : Int32) (h0 : Heap) (n0 : Nat) (Z0 : n0 ≤ h0.size) (pE1 : Exa Z h0 o1 "java/lang/String") (pF2 : Fld Z h0 o1 "java/lang/String" "value" "[B" (.ref bb)) (pF3 : Fld Z h0 o1 "java/lang/String" "coder" "B" (.int 0)) (pV4 : Arv Z h0 bb kb .byte 2 [(.int (nar .byte c0.toInt8.toInt32)), (.int (nar .byte c1.toInt8.toInt32))] (.int 0)) (O0 : Old Z n0 h0) (hC : o_C c1) (hL : ¬ (255 : Int32) < c1) :
  o_Met l y24 jdk_42_method_56_code 2 (some .char) ws r6 #[(.ref o1), (.int 1)] Z h0 (o_Q15n2i1L Z cs sf GG o1 bb kb c0 c1 h0 n0) := by
 refine MetFree.of_bodySF (plainFor_of_name o_pn3) hisR ?_
 intro p e s m args below meth c s₁ Bd hml0 hP hK
 obtain ⟨rfl, hZ, hh⟩ := hP
 obtain ⟨hx, hby, hlk, hrt⟩ := o_bd Bd
 have hml : c.maxLocals = 2 := hml0
 have hown : s.vm.findClass "java/lang/String" = some m.cls := findClass_of_methodNamed Bd.named
 have X0 : Stand p l e r6 s m #[(.ref o1), (.int 1)] below meth c s₁ [] 0 0 := Stand.of_body Bd
 have e0 := o_e0 Bd hh
 have N0 := Fr.nil n0
 refine o_in (g' := mkF m 0 #[(sR o1), (sI 1)] []) (by simp [entryFrame, mkF, argsToLocals, Value.category]) ?_
 refine o_aloadN X0 hx 1 (hb hby o_d15_0) rfl rfl ?_
 obtain ⟨cq1, kq1, q1a, q1b, q1c⟩ := isOf hZ e0 pE1
 obtain ⟨_, _, ⟨T1, Lx1, kc1, nc1⟩, -, X1, ⟨Lc1, hQ1, lq1, yq1, zq1⟩, st1⟩ := X0.virtualBack hx (y := y5) (z := y5) hown (mvT hZ (W hw 31 rfl)) (mvT hZ (W hw 32 rfl)) (notFace_of_selects (args := #[]) (mvT hZ (W hw 34 rfl))) (mvT hZ (W hw 34 rfl)) (mvT hZ (W hw 33 rfl)) (by decide) (backOf (W := 0) (o_rm6L l Z a0 hw [] cs sf GG o1 h0 n0 Z0 pF3 O0) hZ (W hw 35 rfl) (W hw 3 rfl) (by decide) (by decide)) q1a q1c (g := (mkF m 1 #[(sR o1), (sI 1)] [(.ref o1)])) rfl (by rw [hml]; rfl) (Steps.refl _) (argsL := []) (rest := []) (lenOf o_pd12 rfl) rfl (o_wl rfl) (hb hby o_d15_1) (fun _ _ => ⟨rfl, e0, (by decide : 0 + 0 ≤ _), (by decide : 0 + 0 ≤ _)⟩)
 dsimp only [Pt.U, Pt.locs, Pt.cells, Pt.slots] at X1 lq1 yq1 zq1 st1 hQ1
 subst lq1 yq1 zq1
 obtain ⟨rfl, Nq1, eh1⟩ := hQ1
 have N1 := Fr.app N0 Nq1
 refine o_st (G' := T1.setTop (mkF m 4 #[(sR o1), (sI 1)] [(.int 1)])) (fun t k => st1.trans k) ?_
 obtain ⟨_, X1h, N1h⟩ := o_hide X1 N1
 refine o_ifNo X1h hx 7 (hb hby o_d15_4) (feq (by decide : ¬ ((1 : Int32) = (0 : Int32)))).1 ?_
 refine o_aloadN X1h hx 8 (hb hby o_d15_7) rfl rfl ?_
 obtain ⟨T2, X2, e2, st2⟩ := getF X1h hx hZ hown (host := "") (Or.inl (W hw 20 rfl)) Via.refl eh1 pF2 (g := (mkF m 8 #[(sR o1), (sI 1)] [(.ref o1)])) rfl rfl (hb hby o_d15_8)
 refine o_st (G' := T2.setTop (mkF m 11 #[(sR o1), (sI 1)] [(.ref bb)])) st2 ?_
 obtain ⟨_, X2h, N2h⟩ := o_hide X2 N1h
 refine o_iloadN X2h hx 12 (hb hby o_d15_11) rfl ?_
 obtain ⟨_, _, ⟨T3, Lx3, kc3, nc3⟩, -, X3, ⟨Lc3, hQ3, lq3, yq3, zq3⟩, st3⟩ := Jvm.LawKit.callS X2h hx (y := y16) hown (mvT hZ (W hw 74 rfl)) (mvT hZ (W hw 75 rfl)) (mvT hZ (W hw 39 rfl)) (mvT hZ (W hw 76 rfl)) (by decide) (backOf (W := 0) (o_rm16n2i1 l Z a0 hw [] cs sf GG bb kb c0 c1 h0 n0 Z0 pV4 O0 (hC : o_C c1) (hL : ¬ (255 : Int32) < c1)) hZ (W hw 76 rfl) (W hw 39 rfl) (by decide) (by decide)) (g := (mkF m 12 #[(sR o1), (sI 1)] [(.int 1), (.ref bb)])) rfl (by rw [hml]; rfl) (argsL := [(.ref bb), (.int 1)]) (rest := []) (lenOf o_pd7 rfl) rfl (o_wl rfl) (hb hby o_d15_12) (fun _ _ => ⟨rfl, e2, (by decide : 0 + 0 ≤ _), (by decide : 0 + 0 ≤ _)⟩)
 dsimp only [Pt.U, Pt.locs, Pt.cells, Pt.slots] at X3 lq3 yq3 zq3 st3 hQ3
 subst lq3 yq3 zq3
 obtain ⟨rfl, Nq3, eh3⟩ := hQ3
 have N3 := Fr.app N2h Nq3
 refine o_st (G' := T3.setTop (mkF m 15 #[(sR o1), (sI 1)] [(.int c1)])) st3 ?_
 obtain ⟨_, X3h, N3h⟩ := o_hide X3 N3
 exact o_retN (t := .char) (z := c1) (Q := o_Q15n2i1L Z cs sf GG o1 bb kb c0 c1 h0 n0) X3h hx hrt (by simp) (hb hby o_d15_15) hlk eh3 ⟨(o_leafI (o_narC hC)), N3h, rfl⟩ (by decide) (by decide)
def o_Q25n2 (Z : State) (cs : Int32) (sf : Value) (GG : o_G Z cs sf) (o1 : Addr) (kb : ClassId) (c0 : Int32) (c1 : Int32) (h0 : Heap) (n0 : Nat) (v : Option Value) (h : Heap) (L : List Loc) : Prop := ∃ ca : Addr, ∃ kc : ClassId, v = some (.ref ca) ∧ Fr n0 L ∧ Keep h0 h [] ∧ h0.size ≤ ca ∧ Arv Z h ca kc .char 2 [(.int c0), (.int c1)] (.int 0)
set_option maxRecDepth 65536 in
set_option maxHeartbeats 40000000 in
theorem o_rm25n2 (l : Launch) (Z : State) (a0 : Array Value) (hw : o_Hw Z a0) (ws : List Jvm.Cond) (cs : Int32) (sf : Value) (GG : o_G Z cs sf) (o1 : Addr) (kb : ClassId) (c0 : Int32) (c1 : Int32) (h0 : Heap) (n0 : Nat) (Z0 : n0 ≤ h0.size) (pV1 : Arv Z h0 o1 kb .byte 4 [(.int (o_lo c0)), (.int (o_hi c0)), (.int (o_lo c1)), (.int (o_hi c1))] (.int 0)) (O0 : Old Z n0 h0) (hC0 : o_C c0) (hC1 : o_C c1) :
  o_Met l y25 jdk_52_method_13_code 2 (some (.array .char)) ws r27 #[(.ref o1)] Z h0 (o_Q25n2 Z cs sf GG o1 kb c0 c1 h0 n0) := by
 refine MetFree.of_bodySF (plainFor_of_name o_pn4) hisR ?_
 intro p e s m args below meth c s₁ Bd hml0 hP hK
 obtain ⟨rfl, hZ, hh⟩ := hP
 obtain ⟨hx, hby, hlk, hrt⟩ := o_bd Bd
 have hml : c.maxLocals = 2 := hml0
 have hown : s.vm.findClass "java/lang/StringUTF16" = some m.cls := findClass_of_methodNamed Bd.named
 have X0 : Stand p l e r27 s m #[(.ref o1)] below meth c s₁ [] 0 0 := Stand.of_body Bd
 have e0 := o_e0 Bd hh
 have N0 := Fr.nil n0
 have KC0 := Keep.refl h0 []
 refine o_in (g' := mkF m 0 #[(sR o1), .unset] []) (by simp [entryFrame, mkF, argsToLocals, Value.category]) ?_
 refine o_aloadN X0 hx 1 (hb hby o_d25_0) rfl rfl ?_
 obtain ⟨cl1, Ar1, qv1, S1, M1, H1, G1⟩ := id pV1
 have ln1 := len_of S1 M1
 refine o_st (G' := s₁.setTop (mkF m 2 #[(sR o1), .unset] [(.int 4)])) (fun t k => X0.arraylength hx (by rw [e0]; exact Ar1.1) (State.isArrayOf_alike hZ.alike Ar1.2.1) (g := (mkF m 1 #[(sR o1), .unset] [(.ref o1)])) rfl rfl (hb hby o_d25_1) _ (by rw [ln1]; exact k)) ?_
 refine o_iconst X0 hx 3 1 (hb hby o_d25_2) rfl ?_
 refine o_ishr X0 hx 4 (hb hby o_d25_3) ?_
 rw [show ((4 : Int32) >>> ((1 : Int32) &&& 31)) = (2 : Int32) from by decide]
 obtain ⟨T2, h2, k2, X2, e2, E2, A2, st2⟩ := newP X0 hx hZ (W hw 0 rfl) e0 (g := (mkF m 4 #[(sR o1), .unset] [(.int 2)])) rfl (hb hby o_d25_4) rfl (by decide) (cap := 2) (by decide) (by decide) (by decide) (by decide)
 obtain ⟨b2, g2⟩ : ∃ z, z = h0.size := ⟨_, rfl⟩
 rw [← g2] at A2 st2
 have ne3 : o1 ≠ b2 := Nat.ne_of_lt (Nat.lt_of_lt_of_le pV1.lt (Nat.le_of_eq g2.symm))
 have gt_b2 : n0 ≤ b2 := Nat.le_trans Z0 (Nat.le_of_eq g2.symm)
 have sz_b2 : h0.size ≤ b2 := Nat.le_trans KC0.1 (Nat.le_of_eq g2.symm)
 have V2 : Arv Z h2 b2 k2 .char 2 [(.int 0), (.int 0)] (.int 0) := (Arv.new A2 (by decide)).pad (pad_rep [] (.int 0) 2)
 have O4 := O0.ext E2
 have KC5 := KC0.ext E2
 have Z6 := Nat.le_trans Z0 E2.1
 refine o_st (G' := T2.setTop (mkF m 6 #[(sR o1), .unset] [(.ref b2)])) st2 ?_
 obtain ⟨_, X2h, N2h⟩ := o_hide X2 N0
 refine o_astoreN X2h hx 7 #[(sR o1), (sR b2)] (hb hby o_d25_6) rfl rfl ?_
 refine o_aloadN X2h hx 8 (hb hby o_d25_7) rfl rfl ?_
 refine o_iconst X2h hx 9 0 (hb hby o_d25_8) rfl ?_
 refine o_aloadN X2h hx 10 (hb hby o_d25_9) rfl rfl ?_
 obtain ⟨cl7, Ar7, qv7, S7, M7, H7, G7⟩ := id V2
 have ln7 := len_of S7 M7
 refine o_st (G' := T2.setTop (mkF m 11 #[(sR o1), (sR b2)] [(.int 2), (.int 0), (.ref o1)])) (fun t k => X2h.arraylength hx (by rw [e2]; exact Ar7.1) (State.isArrayOf_alike hZ.alike Ar7.2.1) (g := (mkF m 10 #[(sR o1), (sR b2)] [(.ref b2), (.int 0), (.ref o1)])) rfl rfl (hb hby o_d25_10) _ (by rw [ln7]; exact k)) ?_
 refine o_aloadN X2h hx 12 (hb hby o_d25_11) rfl rfl ?_
 refine o_iconst X2h hx 13 0 (hb hby o_d25_12) rfl ?_
 have f8 := (pV1.ext E2)
 obtain ⟨_, _, ⟨T9, Lx9, kc9, nc9⟩, -, X9, ⟨Lc9, hQ9, lq9, yq9, zq9⟩, st9⟩ := Jvm.LawKit.callS X2h hx (y := y18) hown (mvT hZ (W hw 111 rfl)) (mvT hZ (W hw 112 rfl)) (mvT hZ (W hw 58 rfl)) (mvT hZ (W hw 113 rfl)) (by decide) (backOf (W := 0) (o_rm26n2 l Z a0 hw [] cs sf GG o1 b2 kb k2 c0 c1 h2 n0 Z6 f8 V2 gt_b2 O4 ne3 (hC0 : o_C c0) (hC1 : o_C c1)) hZ (W hw 113 rfl) (W hw 58 rfl) (by decide) (by decide)) (g := (mkF m 13 #[(sR o1), (sR b2)] [(.int 0), (.ref b2), (.int 2), (.int 0), (.ref o1)])) rfl (by rw [hml]; rfl) (argsL := [(.ref o1), (.int 0), (.int 2), (.ref b2), (.int 0)]) (rest := []) (lenOf o_pd15 rfl) rfl (o_wl rfl) (hb hby o_d25_13) (fun _ _ => ⟨rfl, e2, (by decide : 1 + 0 ≤ _), (by decide : 2 + 0 ≤ _)⟩)
 dsimp only [Pt.U, Pt.locs, Pt.cells, Pt.slots] at X9 lq9 yq9 zq9 st9 hQ9
 subst lq9 yq9 zq9
 obtain ⟨rfl, Nq9, Kp9, G9_0⟩ := hQ9
 have N9 := Fr.app N2h Nq9
 have KC11 := KC5.trans Kp9 (allS (Or.inr sz_b2) all0)
 refine o_st (G' := T9.setTop (mkF m 16 #[(sR o1), (sR b2)] [])) st9 ?_
 obtain ⟨_, X9h, N9h⟩ := o_hide X9 N9
 refine o_aloadN X9h hx 17 (hb hby o_d25_16) rfl rfl ?_
 exact o_retA (z := (.ref b2)) (Q := o_Q25n2 Z cs sf GG o1 kb c0 c1 h0 n0) X9h hx hrt rfl rfl (hb hby o_d25_17) hlk rfl ⟨b2, k2, rfl, N9h, KC11, sz_b2, G9_0⟩ (by decide) (by decide)
def o_Q5n2U (Z : State) (cs : Int32) (sf : Value) (GG : o_G Z cs sf) (o1 : Addr) (bb : Addr) (kb : ClassId) (c0 : Int32) (c1 : Int32) (h0 : Heap) (n0 : Nat) (v : Option Value) (h : Heap) (L : List Loc) : Prop := ∃ ca : Addr, ∃ kc : ClassId, v = some (.ref ca) ∧ Fr n0 L ∧ Keep h0 h [] ∧ h0.size ≤ ca ∧ Arv Z h ca kc .char 2 [(.int c0), (.int c1)] (.int 0)
set_option maxRecDepth 65536 in
set_option maxHeartbeats 40000000 in
theorem o_rm5n2U (l : Launch) (Z : State) (a0 : Array Value) (hw : o_Hw Z a0) (ws : List Jvm.Cond) (cs : Int32) (sf : Value) (GG : o_G Z cs sf) (o1 : Addr) (bb : Addr) (kb : ClassId) (c0 : Int32) (c1 : Int32) (h0 : Heap) (n0 : Nat) (Z0 : n0 ≤ h0.size) (pE1 : Exa Z h0 o1 "java/lang/String") (pF2 : Fld Z h0 o1 "java/lang/String" "value" "[B" (.ref bb)) (pF3 : Fld Z h0 o1 "java/lang/String" "coder" "B" (.int 1)) (pV4 : Arv Z h0 bb kb .byte 4 [(.int (o_lo c0)), (.int (o_hi c0)), (.int (o_lo c1)), (.int (o_hi c1))] (.int 0)) (O0 : Old Z n0 h0) (hC0 : o_C c0) (hC1 : o_C c1) :
  o_Met l y21 jdk_42_method_129_code 1 (some (.array .char)) ws r28 #[(.ref o1)] Z h0 (o_Q5n2U Z cs sf GG o1 bb kb c0 c1 h0 n0) := by
 refine MetFree.of_bodySF (plainFor_of_name o_pn3) hisR ?_
 intro p e s m args below meth c s₁ Bd hml0 hP hK
 obtain ⟨rfl, hZ, hh⟩ := hP
 obtain ⟨hx, hby, hlk, hrt⟩ := o_bd Bd
 have hml : c.maxLocals = 1 := hml0
 have hown : s.vm.findClass "java/lang/String" = some m.cls := findClass_of_methodNamed Bd.named
 have X0 : Stand p l e r28 s m #[(.ref o1)] below meth c s₁ [] 0 0 := Stand.of_body Bd
 have e0 := o_e0 Bd hh
 have N0 := Fr.nil n0
 have KC0 := Keep.refl h0 []
 refine o_in (g' := mkF m 0 #[(sR o1)] []) (by simp [entryFrame, mkF, argsToLocals, Value.category]) ?_
 refine o_aloadN X0 hx 1 (hb hby o_d5_0) rfl rfl ?_
 obtain ⟨cq1, kq1, q1a, q1b, q1c⟩ := isOf hZ e0 pE1
 obtain ⟨_, _, ⟨T1, Lx1, kc1, nc1⟩, -, X1, ⟨Lc1, hQ1, lq1, yq1, zq1⟩, st1⟩ := X0.virtualBack hx (y := y5) (z := y5) hown (mvT hZ (W hw 31 rfl)) (mvT hZ (W hw 32 rfl)) (notFace_of_selects (args := #[]) (mvT hZ (W hw 34 rfl))) (mvT hZ (W hw 34 rfl)) (mvT hZ (W hw 33 rfl)) (by decide) (backOf (W := 0) (o_rm6U l Z a0 hw [] cs sf GG o1 h0 n0 Z0 pF3 O0) hZ (W hw 35 rfl) (W hw 3 rfl) (by decide) (by decide)) q1a q1c (g := (mkF m 1 #[(sR o1)] [(.ref o1)])) rfl (by rw [hml]; rfl) (Steps.refl _) (argsL := []) (rest := []) (lenOf o_pd12 rfl) rfl (o_wl rfl) (hb hby o_d5_1) (fun _ _ => ⟨rfl, e0, (by decide : 0 + 0 ≤ _), (by decide : 0 + 0 ≤ _)⟩)
 dsimp only [Pt.U, Pt.locs, Pt.cells, Pt.slots] at X1 lq1 yq1 zq1 st1 hQ1
 subst lq1 yq1 zq1
 obtain ⟨rfl, Nq1, eh1⟩ := hQ1
 have N1 := Fr.app N0 Nq1
 refine o_st (G' := T1.setTop (mkF m 4 #[(sR o1)] [(.int 0)])) (fun t k => st1.trans k) ?_
 obtain ⟨_, X1h, N1h⟩ := o_hide X1 N1
 refine o_ifYes X1h hx 17 (hb hby o_d5_4) (teq (rfl : (0 : Int32) = (0 : Int32))).1 ?_
 refine o_aloadN X1h hx 18 (hb hby o_d5_17) rfl rfl ?_
 obtain ⟨T2, X2, e2, st2⟩ := getF X1h hx hZ hown (host := "") (Or.inl (W hw 20 rfl)) Via.refl eh1 pF2 (g := (mkF m 18 #[(sR o1)] [(.ref o1)])) rfl rfl (hb hby o_d5_18)
 refine o_st (G' := T2.setTop (mkF m 21 #[(sR o1)] [(.ref bb)])) st2 ?_
 obtain ⟨_, X2h, N2h⟩ := o_hide X2 N1h
 obtain ⟨_, _, ⟨T3, Lx3, kc3, nc3⟩, -, X3, ⟨Lc3, hQ3, lq3, yq3, zq3⟩, st3⟩ := Jvm.LawKit.callS X2h hx (y := y25) hown (mvT hZ (W hw 108 rfl)) (mvT hZ (W hw 109 rfl)) (mvT hZ (W hw 58 rfl)) (mvT hZ (W hw 110 rfl)) (by decide) (backOf (W := 0) (o_rm25n2 l Z a0 hw [] cs sf GG bb kb c0 c1 h0 n0 Z0 pV4 O0 (hC0 : o_C c0) (hC1 : o_C c1)) hZ (W hw 110 rfl) (W hw 58 rfl) (by decide) (by decide)) (g := (mkF m 21 #[(sR o1)] [(.ref bb)])) rfl (by rw [hml]; rfl) (argsL := [(.ref bb)]) (rest := []) (lenOf o_pd13 rfl) rfl (o_wl rfl) (hb hby o_d5_21) (fun _ _ => ⟨rfl, e2, (by decide : 0 + 1 ≤ _), (by decide : 0 + 2 ≤ _)⟩)
 dsimp only [Pt.U, Pt.locs, Pt.cells, Pt.slots] at X3 lq3 yq3 zq3 st3 hQ3
 subst lq3 yq3 zq3
 obtain ⟨ca_3, kc_3, rfl, Nq3, Kp3, G3_0, G3_1⟩ := hQ3
 have N3 := Fr.app N2h Nq3
 have sz_ca_3 : h0.size ≤ ca_3 := Nat.le_trans KC0.1 G3_0
 have KC7 := KC0.trans Kp3 all0
 refine o_st (G' := T3.setTop (mkF m 24 #[(sR o1)] [(.ref ca_3)])) st3 ?_
 obtain ⟨_, X3h, N3h⟩ := o_hide X3 N3
 exact o_retA (z := (.ref ca_3)) (Q := o_Q5n2U Z cs sf GG o1 bb kb c0 c1 h0 n0) X3h hx hrt rfl rfl (hb hby o_d5_24) hlk rfl ⟨ca_3, kc_3, rfl, N3h, KC7, sz_ca_3, G3_1⟩ (by decide) (by decide)
def o_Q13n2U (Z : State) (o1 : Addr) (kb : ClassId) (vs : List Value) (h0 : Heap) (n0 : Nat) (v : Option Value) (h : Heap) (L : List Loc) : Prop := v = some (.int 1) ∧ Fr n0 L ∧ h = h0
set_option maxRecDepth 65536 in
set_option maxHeartbeats 40000000 in
theorem o_rm13n2U (l : Launch) (Z : State) (a0 : Array Value) (hw : o_Hw Z a0) (ws : List Jvm.Cond) (o1 : Addr) (kb : ClassId) (vs : List Value) (h0 : Heap) (n0 : Nat) (Z0 : n0 ≤ h0.size) (pV1 : Arv Z h0 o1 kb .byte 4 vs (.int 0)) :
  o_Met l y22 jdk_52_method_15_code 2 (some .byte) ws r0 #[(.ref o1), (.int 2)] Z h0 (o_Q13n2U Z o1 kb vs h0 n0) := by
 refine MetFree.of_bodySF (plainFor_of_name o_pn4) hisR ?_
 intro p e s m args below meth c s₁ Bd hml0 hP hK
 obtain ⟨rfl, hZ, hh⟩ := hP
 obtain ⟨hx, hby, hlk, hrt⟩ := o_bd Bd
 have X0 : Stand p l e r0 s m #[(.ref o1), (.int 2)] below meth c s₁ [] 0 0 := Stand.of_body Bd
 have e0 := o_e0 Bd hh
 have N0 := Fr.nil n0
 refine o_in (g' := mkF m 0 #[(sR o1), (sI 2)] []) (by simp [entryFrame, mkF, argsToLocals, Value.category]) ?_
 refine o_iloadN X0 hx 1 (hb hby o_d13_0) rfl ?_
 refine o_aloadN X0 hx 2 (hb hby o_d13_1) rfl rfl ?_
 obtain ⟨cl1, Ar1, qv1, S1, M1, H1, G1⟩ := id pV1
 have ln1 := len_of S1 M1
 refine o_st (G' := s₁.setTop (mkF m 3 #[(sR o1), (sI 2)] [(.int 4), (.int 2)])) (fun t k => X0.arraylength hx (by rw [e0]; exact Ar1.1) (State.isArrayOf_alike hZ.alike Ar1.2.1) (g := (mkF m 2 #[(sR o1), (sI 2)] [(.ref o1), (.int 2)])) rfl rfl (hb hby o_d13_2) _ (by rw [ln1]; exact k)) ?_
 refine o_isub X0 hx 4 (hb hby o_d13_3) ?_
 show o_Gs p e below _ (s₁.setTop (mkF m 4 #[(sR o1), (sI 2)] [(.int (-2 : Int32))]))
 refine o_bipush X0 hx 6 31 (hb hby o_d13_4) rfl ?_
 refine o_iushr X0 hx 7 (hb hby o_d13_6) ?_
 rw [show (((-2 : Int32).toUInt32 >>> ((31 : Int32) &&& 31).toUInt32).toInt32) = (1 : Int32) from by decide]
 refine o_i2b X0 hx 8 (hb hby o_d13_7) ?_
 rw [show ((1 : Int32).toInt8.toInt32) = (1 : Int32) from by decide]
 exact o_retN (t := .byte) (z := (1 : Int32)) (Q := o_Q13n2U Z o1 kb vs h0 n0) X0 hx hrt (by simp) (hb hby o_d13_8) hlk e0 ⟨rfl, N0, rfl⟩ (by decide) (by decide)
def o_Q9n2U (Z : State) (cs : Int32) (sf : Value) (GG : o_G Z cs sf) (o1 : Addr) (bb : Addr) (kb : ClassId) (c0 : Int32) (c1 : Int32) (h0 : Heap) (n0 : Nat) (v : Option Value) (h : Heap) (L : List Loc) : Prop := v = some (.int 2) ∧ Fr n0 L ∧ h = h0
set_option maxRecDepth 65536 in
set_option maxHeartbeats 40000000 in
theorem o_rm9n2U (l : Launch) (Z : State) (a0 : Array Value) (hw : o_Hw Z a0) (ws : List Jvm.Cond) (cs : Int32) (sf : Value) (GG : o_G Z cs sf) (o1 : Addr) (bb : Addr) (kb : ClassId) (c0 : Int32) (c1 : Int32) (h0 : Heap) (n0 : Nat) (Z0 : n0 ≤ h0.size) (pE1 : Exa Z h0 o1 "java/lang/String") (pF2 : Fld Z h0 o1 "java/lang/String" "value" "[B" (.ref bb)) (pF3 : Fld Z h0 o1 "java/lang/String" "coder" "B" (.int 1)) (pV4 : Arv Z h0 bb kb .byte 4 [(.int (o_lo c0)), (.int (o_hi c0)), (.int (o_lo c1)), (.int (o_hi c1))] (.int 0)) (O0 : Old Z n0 h0) :
  o_Met l y23 jdk_42_method_54_code 1 (some .int) ws r11 #[(.ref o1)] Z h0 (o_Q9n2U Z cs sf GG o1 bb kb c0 c1 h0 n0) := by
 refine MetFree.of_bodySF (plainFor_of_name o_pn3) hisR ?_
 intro p e s m args below meth c s₁ Bd hml0 hP hK
 obtain ⟨rfl, hZ, hh⟩ := hP
 obtain ⟨hx, hby, hlk, hrt⟩ := o_bd Bd
 have hml : c.maxLocals = 1 := hml0
 have hown : s.vm.findClass "java/lang/String" = some m.cls := findClass_of_methodNamed Bd.named
 have X0 : Stand p l e r11 s m #[(.ref o1)] below meth c s₁ [] 0 0 := Stand.of_body Bd
 have e0 := o_e0 Bd hh
 have N0 := Fr.nil n0
 refine o_in (g' := mkF m 0 #[(sR o1)] []) (by simp [entryFrame, mkF, argsToLocals, Value.category]) ?_
 refine o_aloadN X0 hx 1 (hb hby o_d9_0) rfl rfl ?_
 obtain ⟨T1, X1, e1, st1⟩ := getF X0 hx hZ hown (host := "") (Or.inl (W hw 20 rfl)) Via.refl e0 pF2 (g := (mkF m 1 #[(sR o1)] [(.ref o1)])) rfl rfl (hb hby o_d9_1)
 refine o_st (G' := T1.setTop (mkF m 4 #[(sR o1)] [(.ref bb)])) st1 ?_
 obtain ⟨_, X1h, N1h⟩ := o_hide X1 N0
 obtain ⟨cl2, Ar2, qv2, S2, M2, H2, G2⟩ := id pV4
 have ln2 := len_of S2 M2
 refine o_st (G' := T1.setTop (mkF m 5 #[(sR o1)] [(.int 4)])) (fun t k => X1h.arraylength hx (by rw [e1]; exact Ar2.1) (State.isArrayOf_alike hZ.alike Ar2.2.1) (g := (mkF m 4 #[(sR o1)] [(.ref bb)])) rfl rfl (hb hby o_d9_4) _ (by rw [ln2]; exact k)) ?_
 refine o_aloadN X1h hx 6 (hb hby o_d9_5) rfl rfl ?_
 obtain ⟨cq3, kq3, q3a, q3b, q3c⟩ := isOf hZ e1 pE1
 obtain ⟨_, _, ⟨T3, Lx3, kc3, nc3⟩, -, X3, ⟨Lc3, hQ3, lq3, yq3, zq3⟩, st3⟩ := X1h.virtualBack hx (y := y4) (z := y4) hown (mvT hZ (W hw 51 rfl)) (mvT hZ (W hw 52 rfl)) (notFace_of_selects (args := #[]) (mvT hZ (W hw 54 rfl))) (mvT hZ (W hw 54 rfl)) (mvT hZ (W hw 53 rfl)) (by decide) (backOf (W := 1) (o_rm10U l Z a0 hw [] cs sf GG o1 h0 n0 Z0 pF3 O0) hZ (W hw 55 rfl) (W hw 3 rfl) (by decide) (by decide)) q3a q3c (g := (mkF m 6 #[(sR o1)] [(.ref o1), (.int 4)])) rfl (by rw [hml]; rfl) (Steps.refl _) (argsL := []) (rest := [(.int 4)]) (lenOf o_pd14 rfl) rfl (o_wl rfl) (hb hby o_d9_6) (fun _ _ => ⟨rfl, e1, (by decide : 0 + 0 ≤ _), (by decide : 0 + 0 ≤ _)⟩)
 dsimp only [Pt.U, Pt.locs, Pt.cells, Pt.slots] at X3 lq3 yq3 zq3 st3 hQ3
 subst lq3 yq3 zq3
 obtain ⟨rfl, Nq3, eh3⟩ := hQ3
 have N3 := Fr.app N1h Nq3
 refine o_st (G' := T3.setTop (mkF m 9 #[(sR o1)] [(.int 1), (.int 4)])) (fun t k => st3.trans k) ?_
 obtain ⟨_, X3h, N3h⟩ := o_hide X3 N3
 refine o_ishr X3h hx 10 (hb hby o_d9_9) ?_
 rw [show ((4 : Int32) >>> ((1 : Int32) &&& 31)) = (2 : Int32) from by decide]
 exact o_retI (z := (2 : Int32)) (Q := o_Q9n2U Z cs sf GG o1 bb kb c0 c1 h0 n0) X3h hx hrt (hb hby o_d9_10) hlk eh3 ⟨rfl, N3h, rfl⟩ (by decide) (by decide)
def o_Q15n2i0U (Z : State) (cs : Int32) (sf : Value) (GG : o_G Z cs sf) (o1 : Addr) (bb : Addr) (kb : ClassId) (c0 : Int32) (c1 : Int32) (h0 : Heap) (n0 : Nat) (v : Option Value) (h : Heap) (L : List Loc) : Prop := v = some (.int c0) ∧ Fr n0 L ∧ h = h0
set_option maxRecDepth 65536 in
set_option maxHeartbeats 40000000 in
theorem o_rm15n2i0U (l : Launch) (Z : State) (a0 : Array Value) (hw : o_Hw Z a0) (ws : List Jvm.Cond) (cs : Int32) (sf : Value) (GG : o_G Z cs sf) (o1 : Addr) (bb : Addr) (kb : ClassId) (c0 : Int32) (c1 : Int32) (h0 : Heap) (n0 : Nat) (Z0 : n0 ≤ h0.size) (pE1 : Exa Z h0 o1 "java/lang/String") (pF2 : Fld Z h0 o1 "java/lang/String" "value" "[B" (.ref bb)) (pF3 : Fld Z h0 o1 "java/lang/String" "coder" "B" (.int 1)) (pV4 : Arv Z h0 bb kb .byte 4 [(.int (o_lo c0)), (.int (o_hi c0)), (.int (o_lo c1)), (.int (o_hi c1))] (.int 0)) (O0 : Old Z n0 h0) (hC : o_C c0) :
  o_Met l y24 jdk_42_method_56_code 2 (some .char) ws r14 #[(.ref o1), (.int 0)] Z h0 (o_Q15n2i0U Z cs sf GG o1 bb kb c0 c1 h0 n0) := by
 refine MetFree.of_bodySF (plainFor_of_name o_pn3) hisR ?_
 intro p e s m args below meth c s₁ Bd hml0 hP hK
 obtain ⟨rfl, hZ, hh⟩ := hP
 obtain ⟨hx, hby, hlk, hrt⟩ := o_bd Bd
 have hml : c.maxLocals = 2 := hml0
 have hown : s.vm.findClass "java/lang/String" = some m.cls := findClass_of_methodNamed Bd.named
 have X0 : Stand p l e r14 s m #[(.ref o1), (.int 0)] below meth c s₁ [] 0 0 := Stand.of_body Bd
 have e0 := o_e0 Bd hh
 have N0 := Fr.nil n0
 refine o_in (g' := mkF m 0 #[(sR o1), (sI 0)] []) (by simp [entryFrame, mkF, argsToLocals, Value.category]) ?_
 refine o_aloadN X0 hx 1 (hb hby o_d15_0) rfl rfl ?_
 obtain ⟨cq1, kq1, q1a, q1b, q1c⟩ := isOf hZ e0 pE1
 obtain ⟨_, _, ⟨T1, Lx1, kc1, nc1⟩, -, X1, ⟨Lc1, hQ1, lq1, yq1, zq1⟩, st1⟩ := X0.virtualBack hx (y := y5) (z := y5) hown (mvT hZ (W hw 31 rfl)) (mvT hZ (W hw 32 rfl)) (notFace_of_selects (args := #[]) (mvT hZ (W hw 34 rfl))) (mvT hZ (W hw 34 rfl)) (mvT hZ (W hw 33 rfl)) (by decide) (backOf (W := 0) (o_rm6U l Z a0 hw [] cs sf GG o1 h0 n0 Z0 pF3 O0) hZ (W hw 35 rfl) (W hw 3 rfl) (by decide) (by decide)) q1a q1c (g := (mkF m 1 #[(sR o1), (sI 0)] [(.ref o1)])) rfl (by rw [hml]; rfl) (Steps.refl _) (argsL := []) (rest := []) (lenOf o_pd12 rfl) rfl (o_wl rfl) (hb hby o_d15_1) (fun _ _ => ⟨rfl, e0, (by decide : 0 + 0 ≤ _), (by decide : 0 + 0 ≤ _)⟩)
 dsimp only [Pt.U, Pt.locs, Pt.cells, Pt.slots] at X1 lq1 yq1 zq1 st1 hQ1
 subst lq1 yq1 zq1
 obtain ⟨rfl, Nq1, eh1⟩ := hQ1
 have N1 := Fr.app N0 Nq1
 refine o_st (G' := T1.setTop (mkF m 4 #[(sR o1), (sI 0)] [(.int 0)])) (fun t k => st1.trans k) ?_
 obtain ⟨_, X1h, N1h⟩ := o_hide X1 N1
 refine o_ifYes X1h hx 16 (hb hby o_d15_4) (teq (rfl : (0 : Int32) = (0 : Int32))).1 ?_
 refine o_aloadN X1h hx 17 (hb hby o_d15_16) rfl rfl ?_
 obtain ⟨T2, X2, e2, st2⟩ := getF X1h hx hZ hown (host := "") (Or.inl (W hw 20 rfl)) Via.refl eh1 pF2 (g := (mkF m 17 #[(sR o1), (sI 0)] [(.ref o1)])) rfl rfl (hb hby o_d15_17)
 refine o_st (G' := T2.setTop (mkF m 20 #[(sR o1), (sI 0)] [(.ref bb)])) st2 ?_
 obtain ⟨_, X2h, N2h⟩ := o_hide X2 N1h
 refine o_iloadN X2h hx 21 (hb hby o_d15_20) rfl ?_
 obtain ⟨_, _, ⟨T3, Lx3, kc3, nc3⟩, -, X3, ⟨Lc3, hQ3, lq3, yq3, zq3⟩, st3⟩ := Jvm.LawKit.callS X2h hx (y := y15) hown (mvT hZ (W hw 126 rfl)) (mvT hZ (W hw 127 rfl)) (mvT hZ (W hw 58 rfl)) (mvT hZ (W hw 128 rfl)) (by decide) (backOf (W := 0) (o_rm31n2i0 l Z a0 hw [] cs sf GG bb kb c0 c1 h0 n0 Z0 pV4 O0 (hC : o_C c0)) hZ (W hw 128 rfl) (W hw 58 rfl) (by decide) (by decide)) (g := (mkF m 21 #[(sR o1), (sI 0)] [(.int 0), (.ref bb)])) rfl (by rw [hml]; rfl) (argsL := [(.ref bb), (.int 0)]) (rest := []) (lenOf o_pd7 rfl) rfl (o_wl rfl) (hb hby o_d15_21) (fun _ _ => ⟨rfl, e2, (by decide : 0 + 0 ≤ _), (by decide : 0 + 0 ≤ _)⟩)
 dsimp only [Pt.U, Pt.locs, Pt.cells, Pt.slots] at X3 lq3 yq3 zq3 st3 hQ3
 subst lq3 yq3 zq3
 obtain ⟨rfl, Nq3, eh3⟩ := hQ3
 have N3 := Fr.app N2h Nq3
 refine o_st (G' := T3.setTop (mkF m 24 #[(sR o1), (sI 0)] [(.int c0)])) st3 ?_
 obtain ⟨_, X3h, N3h⟩ := o_hide X3 N3
 exact o_retN (t := .char) (z := c0) (Q := o_Q15n2i0U Z cs sf GG o1 bb kb c0 c1 h0 n0) X3h hx hrt (by simp) (hb hby o_d15_24) hlk eh3 ⟨(o_leafI (o_narC hC)), N3h, rfl⟩ (by decide) (by decide)
def o_Q15n2i1U (Z : State) (cs : Int32) (sf : Value) (GG : o_G Z cs sf) (o1 : Addr) (bb : Addr) (kb : ClassId) (c0 : Int32) (c1 : Int32) (h0 : Heap) (n0 : Nat) (v : Option Value) (h : Heap) (L : List Loc) : Prop := v = some (.int c1) ∧ Fr n0 L ∧ h = h0
set_option maxRecDepth 65536 in
set_option maxHeartbeats 40000000 in
theorem o_rm15n2i1U (l : Launch) (Z : State) (a0 : Array Value) (hw : o_Hw Z a0) (ws : List Jvm.Cond) (cs : Int32) (sf : Value) (GG : o_G Z cs sf) (o1 : Addr) (bb : Addr) (kb : ClassId) (c0 : Int32) (c1 : Int32) (h0 : Heap) (n0 : Nat) (Z0 : n0 ≤ h0.size) (pE1 : Exa Z h0 o1 "java/lang/String") (pF2 : Fld Z h0 o1 "java/lang/String" "value" "[B" (.ref bb)) (pF3 : Fld Z h0 o1 "java/lang/String" "coder" "B" (.int 1)) (pV4 : Arv Z h0 bb kb .byte 4 [(.int (o_lo c0)), (.int (o_hi c0)), (.int (o_lo c1)), (.int (o_hi c1))] (.int 0)) (O0 : Old Z n0 h0) (hC : o_C c1) :
  o_Met l y24 jdk_42_method_56_code 2 (some .char) ws r14 #[(.ref o1), (.int 1)] Z h0 (o_Q15n2i1U Z cs sf GG o1 bb kb c0 c1 h0 n0) := by
 refine MetFree.of_bodySF (plainFor_of_name o_pn3) hisR ?_
 intro p e s m args below meth c s₁ Bd hml0 hP hK
 obtain ⟨rfl, hZ, hh⟩ := hP
 obtain ⟨hx, hby, hlk, hrt⟩ := o_bd Bd
 have hml : c.maxLocals = 2 := hml0
 have hown : s.vm.findClass "java/lang/String" = some m.cls := findClass_of_methodNamed Bd.named
 have X0 : Stand p l e r14 s m #[(.ref o1), (.int 1)] below meth c s₁ [] 0 0 := Stand.of_body Bd
 have e0 := o_e0 Bd hh
 have N0 := Fr.nil n0
 refine o_in (g' := mkF m 0 #[(sR o1), (sI 1)] []) (by simp [entryFrame, mkF, argsToLocals, Value.category]) ?_
 refine o_aloadN X0 hx 1 (hb hby o_d15_0) rfl rfl ?_
 obtain ⟨cq1, kq1, q1a, q1b, q1c⟩ := isOf hZ e0 pE1
 obtain ⟨_, _, ⟨T1, Lx1, kc1, nc1⟩, -, X1, ⟨Lc1, hQ1, lq1, yq1, zq1⟩, st1⟩ := X0.virtualBack hx (y := y5) (z := y5) hown (mvT hZ (W hw 31 rfl)) (mvT hZ (W hw 32 rfl)) (notFace_of_selects (args := #[]) (mvT hZ (W hw 34 rfl))) (mvT hZ (W hw 34 rfl)) (mvT hZ (W hw 33 rfl)) (by decide) (backOf (W := 0) (o_rm6U l Z a0 hw [] cs sf GG o1 h0 n0 Z0 pF3 O0) hZ (W hw 35 rfl) (W hw 3 rfl) (by decide) (by decide)) q1a q1c (g := (mkF m 1 #[(sR o1), (sI 1)] [(.ref o1)])) rfl (by rw [hml]; rfl) (Steps.refl _) (argsL := []) (rest := []) (lenOf o_pd12 rfl) rfl (o_wl rfl) (hb hby o_d15_1) (fun _ _ => ⟨rfl, e0, (by decide : 0 + 0 ≤ _), (by decide : 0 + 0 ≤ _)⟩)
 dsimp only [Pt.U, Pt.locs, Pt.cells, Pt.slots] at X1 lq1 yq1 zq1 st1 hQ1
 subst lq1 yq1 zq1
 obtain ⟨rfl, Nq1, eh1⟩ := hQ1
 have N1 := Fr.app N0 Nq1
 refine o_st (G' := T1.setTop (mkF m 4 #[(sR o1), (sI 1)] [(.int 0)])) (fun t k => st1.trans k) ?_
 obtain ⟨_, X1h, N1h⟩ := o_hide X1 N1
 refine o_ifYes X1h hx 16 (hb hby o_d15_4) (teq (rfl : (0 : Int32) = (0 : Int32))).1 ?_
 refine o_aloadN X1h hx 17 (hb hby o_d15_16) rfl rfl ?_
 obtain ⟨T2, X2, e2, st2⟩ := getF X1h hx hZ hown (host := "") (Or.inl (W hw 20 rfl)) Via.refl eh1 pF2 (g := (mkF m 17 #[(sR o1), (sI 1)] [(.ref o1)])) rfl rfl (hb hby o_d15_17)
 refine o_st (G' := T2.setTop (mkF m 20 #[(sR o1), (sI 1)] [(.ref bb)])) st2 ?_
 obtain ⟨_, X2h, N2h⟩ := o_hide X2 N1h
 refine o_iloadN X2h hx 21 (hb hby o_d15_20) rfl ?_
 obtain ⟨_, _, ⟨T3, Lx3, kc3, nc3⟩, -, X3, ⟨Lc3, hQ3, lq3, yq3, zq3⟩, st3⟩ := Jvm.LawKit.callS X2h hx (y := y15) hown (mvT hZ (W hw 126 rfl)) (mvT hZ (W hw 127 rfl)) (mvT hZ (W hw 58 rfl)) (mvT hZ (W hw 128 rfl)) (by decide) (backOf (W := 0) (o_rm31n2i1 l Z a0 hw [] cs sf GG bb kb c0 c1 h0 n0 Z0 pV4 O0 (hC : o_C c1)) hZ (W hw 128 rfl) (W hw 58 rfl) (by decide) (by decide)) (g := (mkF m 21 #[(sR o1), (sI 1)] [(.int 1), (.ref bb)])) rfl (by rw [hml]; rfl) (argsL := [(.ref bb), (.int 1)]) (rest := []) (lenOf o_pd7 rfl) rfl (o_wl rfl) (hb hby o_d15_21) (fun _ _ => ⟨rfl, e2, (by decide : 0 + 0 ≤ _), (by decide : 0 + 0 ≤ _)⟩)
 dsimp only [Pt.U, Pt.locs, Pt.cells, Pt.slots] at X3 lq3 yq3 zq3 st3 hQ3
 subst lq3 yq3 zq3
 obtain ⟨rfl, Nq3, eh3⟩ := hQ3
 have N3 := Fr.app N2h Nq3
 refine o_st (G' := T3.setTop (mkF m 24 #[(sR o1), (sI 1)] [(.int c1)])) st3 ?_
 obtain ⟨_, X3h, N3h⟩ := o_hide X3 N3
 exact o_retN (t := .char) (z := c1) (Q := o_Q15n2i1U Z cs sf GG o1 bb kb c0 c1 h0 n0) X3h hx hrt (by simp) (hb hby o_d15_24) hlk eh3 ⟨(o_leafI (o_narC hC)), N3h, rfl⟩ (by decide) (by decide)
def o_Q12n2L (Z : State) (o1 : Addr) (o2 : Addr) (kb : ClassId) (kc : ClassId) (c0 : Int32) (c1 : Int32) (h0 : Heap) (n0 : Nat) (v : Option Value) (h : Heap) (L : List Loc) : Prop := v = some (.int 2) ∧ Fr n0 L ∧ Keep h0 h [o2] ∧ Arv Z h o2 kb .byte 2 [(.int (nar .byte c0.toInt8.toInt32)), (.int (nar .byte c1.toInt8.toInt32))] (.int 0)
set_option maxRecDepth 65536 in
set_option maxHeartbeats 40000000 in
theorem o_rm12n2L (l : Launch) (Z : State) (a0 : Array Value) (hw : o_Hw Z a0) (ws : List Jvm.Cond) (o1 : Addr) (o2 : Addr) (kb : ClassId) (kc : ClassId) (c0 : Int32) (c1 : Int32) (h0 : Heap) (n0 : Nat) (Z0 : n0 ≤ h0.size) (pV1 : Arv Z h0 o1 kc .char 2 [(.int c0), (.int c1)] (.int 0)) (pV2 : Arv Z h0 o2 kb .byte 2 [(.int 0), (.int 0)] (.int 0)) (pG3 : n0 ≤ o2) (pN4 : o1 ≠ o2) (hL0 : ¬ (255 : Int32) < c0) (hL1 : ¬ (255 : Int32) < c1) :
  o_Met l y26 jdk_52_method_21_code 7 (some .int) ws r0 #[(.ref o1), (.int 0), (.ref o2), (.int 0), (.int 2)] Z h0 (o_Q12n2L Z o1 o2 kb kc c0 c1 h0 n0) := by
 refine MetFree.of_bodySF (plainFor_of_name o_pn4) hisR ?_
 intro p e s m args below meth c s₁ Bd hml0 hP hK
 obtain ⟨rfl, hZ, hh⟩ := hP
 obtain ⟨hx, hby, hlk, hrt⟩ := o_bd Bd
 have X0 : Stand p l e r0 s m #[(.ref o1), (.int 0), (.ref o2), (.int 0), (.int 2)] below meth c s₁ [] 0 0 := Stand.of_body Bd
 have e0 := o_e0 Bd hh
 have N0 := Fr.nil n0
 have KC0 := Keep.refl h0 [o2]
 refine o_in (g' := mkF m 0 #[(sR o1), (sI 0), (sR o2), (sI 0), (sI 2), .unset, .unset] []) (by simp [entryFrame, mkF, argsToLocals, Value.category]) ?_
 refine o_iconst X0 hx 1 0 (hb hby o_d12_0) rfl ?_
 refine o_istore X0 hx 3 #[(sR o1), (sI 0), (sR o2), (sI 0), (sI 2), (sI 0), .unset] (hb hby o_d12_1) rfl ?_
 refine o_iload X0 hx 5 (hb hby o_d12_3) rfl ?_
 refine o_iload X0 hx 7 (hb hby o_d12_5) rfl ?_
 refine o_icmpNo X0 hx 10 (hb hby o_d12_7) (tlt (by decide : (0 : Int32) < (2 : Int32))).2.1 ?_
 refine o_aloadN X0 hx 11 (hb hby o_d12_10) rfl rfl ?_
 refine o_iloadN X0 hx 12 (hb hby o_d12_11) rfl ?_
 obtain ⟨cl1, Ar1, qv1, S1, M1, H1, G1⟩ := id pV1
 have hin1 := inb_of (j := (0 : Int32)) S1 ⟨by decide, by decide⟩
 refine o_st (G' := s₁.setTop (mkF m 13 #[(sR o1), (sI 0), (sR o2), (sI 0), (sI 2), (sI 0), .unset] [(.int c0)])) (fun t k => X0.caload hx (j := (0 : Int32)) (v := (.int c0)) (by rw [e0]; exact Ar1.1) (State.isArrayOf_alike hZ.alike Ar1.2.1) Ar1.2.2 hin1 (H1.at hin1 rfl) (g := (mkF m 12 #[(sR o1), (sI 0), (sR o2), (sI 0), (sI 2), (sI 0), .unset] [(.int 0), (.ref o1)])) rfl rfl (hb hby o_d12_12) _ k) ?_
 refine o_istore X0 hx 15 #[(sR o1), (sI 0), (sR o2), (sI 0), (sI 2), (sI 0), (sI c0)] (hb hby o_d12_13) rfl ?_
 refine o_iload X0 hx 17 (hb hby o_d12_15) rfl ?_
 refine o_sipush X0 hx 20 255 (hb hby o_d12_17) rfl ?_
 refine o_icmpYes X0 hx 26 (hb hby o_d12_20) (flt hL0).2.2.2 ?_
 refine o_aloadN X0 hx 27 (hb hby o_d12_26) rfl rfl ?_
 refine o_iloadN X0 hx 28 (hb hby o_d12_27) rfl ?_
 refine o_iload X0 hx 30 (hb hby o_d12_28) rfl ?_
 refine o_i2b X0 hx 31 (hb hby o_d12_30) ?_
 obtain ⟨cl2, Ar2, qv2, S2, M2, H2, G2⟩ := id pV2
 have hin2 := inb_of (j := (0 : Int32)) S2 ⟨by decide, by decide⟩
 obtain ⟨T2, h2, X2, e2, W2, st2⟩ := stB X0 hx hZ e0 Ar2 (j := (0 : Int32)) hin2 (g := (mkF m 31 #[(sR o1), (sI 0), (sR o2), (sI 0), (sI 2), (sI 0), (sI c0)] [(.int (c0.toInt8.toInt32)), (.int 0), (.ref o2)])) rfl rfl (hb hby o_d12_31)
 have V2 : Arv Z h2 o2 kb .byte 2 [(.int (nar .byte (c0.toInt8.toInt32))), (.int 0)] (.int 0) := Arv.set Ar2 qv2 S2 M2 H2 G2 (fits_nar_byte _) W2 0 rfl (Nat.le_of_ble_eq_true rfl)
 have N2 := Fr.snoc X2 N0 pG3
 have KC3 := KC0.wr W2 (Or.inl (List.mem_of_getElem? (i := 0) rfl))
 refine o_st (G' := T2.setTop (mkF m 32 #[(sR o1), (sI 0), (sR o2), (sI 0), (sI 2), (sI 0), (sI c0)] [])) st2 ?_
 obtain ⟨_, X2h, N2h⟩ := o_hide X2 N2
 refine o_iinc X2h hx 35 (1 : Int32) #[(sR o1), (sI 1), (sR o2), (sI 0), (sI 2), (sI 0), (sI c0)] (hb hby o_d12_32) rfl rfl rfl ?_
 refine o_iinc X2h hx 38 (1 : Int32) #[(sR o1), (sI 1), (sR o2), (sI 1), (sI 2), (sI 0), (sI c0)] (hb hby o_d12_35) rfl rfl rfl ?_
 refine o_iinc X2h hx 41 (1 : Int32) #[(sR o1), (sI 1), (sR o2), (sI 1), (sI 2), (sI 1), (sI c0)] (hb hby o_d12_38) rfl rfl rfl ?_
 refine o_goto X2h hx 3 (hb hby o_d12_41) ?_
 refine o_iload X2h hx 5 (hb hby o_d12_3) rfl ?_
 refine o_iload X2h hx 7 (hb hby o_d12_5) rfl ?_
 refine o_icmpNo X2h hx 10 (hb hby o_d12_7) (tlt (by decide : (1 : Int32) < (2 : Int32))).2.1 ?_
 refine o_aloadN X2h hx 11 (hb hby o_d12_10) rfl rfl ?_
 refine o_iloadN X2h hx 12 (hb hby o_d12_11) rfl ?_
 have f5 := (pV1.other W2 pN4)
 obtain ⟨cl6, Ar6, qv6, S6, M6, H6, G6⟩ := id f5
 have hin6 := inb_of (j := (1 : Int32)) S6 ⟨by decide, by decide⟩
 refine o_st (G' := T2.setTop (mkF m 13 #[(sR o1), (sI 1), (sR o2), (sI 1), (sI 2), (sI 1), (sI c0)] [(.int c1)])) (fun t k => X2h.caload hx (j := (1 : Int32)) (v := (.int c1)) (by rw [e2]; exact Ar6.1) (State.isArrayOf_alike hZ.alike Ar6.2.1) Ar6.2.2 hin6 (H6.at hin6 rfl) (g := (mkF m 12 #[(sR o1), (sI 1), (sR o2), (sI 1), (sI 2), (sI 1), (sI c0)] [(.int 1), (.ref o1)])) rfl rfl (hb hby o_d12_12) _ k) ?_
 refine o_istore X2h hx 15 #[(sR o1), (sI 1), (sR o2), (sI 1), (sI 2), (sI 1), (sI c1)] (hb hby o_d12_13) rfl ?_
 refine o_iload X2h hx 17 (hb hby o_d12_15) rfl ?_
 refine o_sipush X2h hx 20 255 (hb hby o_d12_17) rfl ?_
 refine o_icmpYes X2h hx 26 (hb hby o_d12_20) (flt hL1).2.2.2 ?_
 refine o_aloadN X2h hx 27 (hb hby o_d12_26) rfl rfl ?_
 refine o_iloadN X2h hx 28 (hb hby o_d12_27) rfl ?_
 refine o_iload X2h hx 30 (hb hby o_d12_28) rfl ?_
 refine o_i2b X2h hx 31 (hb hby o_d12_30) ?_
 obtain ⟨cl7, Ar7, qv7, S7, M7, H7, G7⟩ := id V2
 have hin7 := inb_of (j := (1 : Int32)) S7 ⟨by decide, by decide⟩
 obtain ⟨T7, h7, X7, e7, W7, st7⟩ := stB X2h hx hZ e2 Ar7 (j := (1 : Int32)) hin7 (g := (mkF m 31 #[(sR o1), (sI 1), (sR o2), (sI 1), (sI 2), (sI 1), (sI c1)] [(.int (c1.toInt8.toInt32)), (.int 1), (.ref o2)])) rfl rfl (hb hby o_d12_31)
 have V7 : Arv Z h7 o2 kb .byte 2 [(.int (nar .byte (c0.toInt8.toInt32))), (.int (nar .byte (c1.toInt8.toInt32)))] (.int 0) := Arv.set Ar7 qv7 S7 M7 H7 G7 (fits_nar_byte _) W7 1 rfl (Nat.le_of_ble_eq_true rfl)
 have N7 := Fr.snoc X7 N2h pG3
 have KC8 := KC3.wr W7 (Or.inl (List.mem_of_getElem? (i := 0) rfl))
 refine o_st (G' := T7.setTop (mkF m 32 #[(sR o1), (sI 1), (sR o2), (sI 1), (sI 2), (sI 1), (sI c1)] [])) st7 ?_
 obtain ⟨_, X7h, N7h⟩ := o_hide X7 N7
 refine o_iinc X7h hx 35 (1 : Int32) #[(sR o1), (sI 2), (sR o2), (sI 1), (sI 2), (sI 1), (sI c1)] (hb hby o_d12_32) rfl rfl rfl ?_
 refine o_iinc X7h hx 38 (1 : Int32) #[(sR o1), (sI 2), (sR o2), (sI 2), (sI 2), (sI 1), (sI c1)] (hb hby o_d12_35) rfl rfl rfl ?_
 refine o_iinc X7h hx 41 (1 : Int32) #[(sR o1), (sI 2), (sR o2), (sI 2), (sI 2), (sI 2), (sI c1)] (hb hby o_d12_38) rfl rfl rfl ?_
 refine o_goto X7h hx 3 (hb hby o_d12_41) ?_
 refine o_iload X7h hx 5 (hb hby o_d12_3) rfl ?_
 refine o_iload X7h hx 7 (hb hby o_d12_5) rfl ?_
 refine o_icmpYes X7h hx 44 (hb hby o_d12_7) (flt (by decide : ¬ ((2 : Int32) < (2 : Int32)))).2.1 ?_
 refine o_iload X7h hx 46 (hb hby o_d12_44) rfl ?_
 exact o_retI (z := (2 : Int32)) (Q := o_Q12n2L Z o1 o2 kb kc c0 c1 h0 n0) X7h hx hrt (hb hby o_d12_46) hlk e7 ⟨rfl, N7h, KC8, V7⟩ (by decide) (by decide)
def o_Q12n2k0 (Z : State) (o1 : Addr) (o2 : Addr) (kb : ClassId) (kc : ClassId) (c0 : Int32) (c1 : Int32) (h0 : Heap) (n0 : Nat) (v : Option Value) (h : Heap) (L : List Loc) : Prop := v = some (.int 0) ∧ Fr n0 L ∧ Keep h0 h [o2]
set_option maxRecDepth 65536 in
set_option maxHeartbeats 40000000 in
theorem o_rm12n2k0 (l : Launch) (Z : State) (a0 : Array Value) (hw : o_Hw Z a0) (ws : List Jvm.Cond) (o1 : Addr) (o2 : Addr) (kb : ClassId) (kc : ClassId) (c0 : Int32) (c1 : Int32) (h0 : Heap) (n0 : Nat) (Z0 : n0 ≤ h0.size) (pV1 : Arv Z h0 o1 kc .char 2 [(.int c0), (.int c1)] (.int 0)) (pV2 : Arv Z h0 o2 kb .byte 2 [(.int 0), (.int 0)] (.int 0)) (pG3 : n0 ≤ o2) (pN4 : o1 ≠ o2) (hU : (255 : Int32) < c0) :
  o_Met l y26 jdk_52_method_21_code 7 (some .int) ws r0 #[(.ref o1), (.int 0), (.ref o2), (.int 0), (.int 2)] Z h0 (o_Q12n2k0 Z o1 o2 kb kc c0 c1 h0 n0) := by
 refine MetFree.of_bodySF (plainFor_of_name o_pn4) hisR ?_
 intro p e s m args below meth c s₁ Bd hml0 hP hK
 obtain ⟨rfl, hZ, hh⟩ := hP
 obtain ⟨hx, hby, hlk, hrt⟩ := o_bd Bd
 have X0 : Stand p l e r0 s m #[(.ref o1), (.int 0), (.ref o2), (.int 0), (.int 2)] below meth c s₁ [] 0 0 := Stand.of_body Bd
 have e0 := o_e0 Bd hh
 have N0 := Fr.nil n0
 have KC0 := Keep.refl h0 [o2]
 refine o_in (g' := mkF m 0 #[(sR o1), (sI 0), (sR o2), (sI 0), (sI 2), .unset, .unset] []) (by simp [entryFrame, mkF, argsToLocals, Value.category]) ?_
 refine o_iconst X0 hx 1 0 (hb hby o_d12_0) rfl ?_
 refine o_istore X0 hx 3 #[(sR o1), (sI 0), (sR o2), (sI 0), (sI 2), (sI 0), .unset] (hb hby o_d12_1) rfl ?_
 refine o_iload X0 hx 5 (hb hby o_d12_3) rfl ?_
 refine o_iload X0 hx 7 (hb hby o_d12_5) rfl ?_
 refine o_icmpNo X0 hx 10 (hb hby o_d12_7) (tlt (by decide : (0 : Int32) < (2 : Int32))).2.1 ?_
 refine o_aloadN X0 hx 11 (hb hby o_d12_10) rfl rfl ?_
 refine o_iloadN X0 hx 12 (hb hby o_d12_11) rfl ?_
 obtain ⟨cl1, Ar1, qv1, S1, M1, H1, G1⟩ := id pV1
 have hin1 := inb_of (j := (0 : Int32)) S1 ⟨by decide, by decide⟩
 refine o_st (G' := s₁.setTop (mkF m 13 #[(sR o1), (sI 0), (sR o2), (sI 0), (sI 2), (sI 0), .unset] [(.int c0)])) (fun t k => X0.caload hx (j := (0 : Int32)) (v := (.int c0)) (by rw [e0]; exact Ar1.1) (State.isArrayOf_alike hZ.alike Ar1.2.1) Ar1.2.2 hin1 (H1.at hin1 rfl) (g := (mkF m 12 #[(sR o1), (sI 0), (sR o2), (sI 0), (sI 2), (sI 0), .unset] [(.int 0), (.ref o1)])) rfl rfl (hb hby o_d12_12) _ k) ?_
 refine o_istore X0 hx 15 #[(sR o1), (sI 0), (sR o2), (sI 0), (sI 2), (sI 0), (sI c0)] (hb hby o_d12_13) rfl ?_
 refine o_iload X0 hx 17 (hb hby o_d12_15) rfl ?_
 refine o_sipush X0 hx 20 255 (hb hby o_d12_17) rfl ?_
 refine o_icmpNo X0 hx 23 (hb hby o_d12_20) (tlt hU).2.2.2 ?_
 refine o_iload X0 hx 25 (hb hby o_d12_23) rfl ?_
 exact o_retI (z := (0 : Int32)) (Q := o_Q12n2k0 Z o1 o2 kb kc c0 c1 h0 n0) X0 hx hrt (hb hby o_d12_25) hlk e0 ⟨rfl, N0, KC0⟩ (by decide) (by decide)
def o_Q12n2k1 (Z : State) (o1 : Addr) (o2 : Addr) (kb : ClassId) (kc : ClassId) (c0 : Int32) (c1 : Int32) (h0 : Heap) (n0 : Nat) (v : Option Value) (h : Heap) (L : List Loc) : Prop := v = some (.int 1) ∧ Fr n0 L ∧ Keep h0 h [o2]
set_option maxRecDepth 65536 in
set_option maxHeartbeats 40000000 in
theorem o_rm12n2k1 (l : Launch) (Z : State) (a0 : Array Value) (hw : o_Hw Z a0) (ws : List Jvm.Cond) (o1 : Addr) (o2 : Addr) (kb : ClassId) (kc : ClassId) (c0 : Int32) (c1 : Int32) (h0 : Heap) (n0 : Nat) (Z0 : n0 ≤ h0.size) (pV1 : Arv Z h0 o1 kc .char 2 [(.int c0), (.int c1)] (.int 0)) (pV2 : Arv Z h0 o2 kb .byte 2 [(.int 0), (.int 0)] (.int 0)) (pG3 : n0 ≤ o2) (pN4 : o1 ≠ o2) (hL0 : ¬ (255 : Int32) < c0) (hU : (255 : Int32) < c1) :
  o_Met l y26 jdk_52_method_21_code 7 (some .int) ws r0 #[(.ref o1), (.int 0), (.ref o2), (.int 0), (.int 2)] Z h0 (o_Q12n2k1 Z o1 o2 kb kc c0 c1 h0 n0) := by
 refine MetFree.of_bodySF (plainFor_of_name o_pn4) hisR ?_
 intro p e s m args below meth c s₁ Bd hml0 hP hK
 obtain ⟨rfl, hZ, hh⟩ := hP
 obtain ⟨hx, hby, hlk, hrt⟩ := o_bd Bd
 have X0 : Stand p l e r0 s m #[(.ref o1), (.int 0), (.ref o2), (.int 0), (.int 2)] below meth c s₁ [] 0 0 := Stand.of_body Bd
 have e0 := o_e0 Bd hh
 have N0 := Fr.nil n0
 have KC0 := Keep.refl h0 [o2]
 refine o_in (g' := mkF m 0 #[(sR o1), (sI 0), (sR o2), (sI 0), (sI 2), .unset, .unset] []) (by simp [entryFrame, mkF, argsToLocals, Value.category]) ?_
 refine o_iconst X0 hx 1 0 (hb hby o_d12_0) rfl ?_
 refine o_istore X0 hx 3 #[(sR o1), (sI 0), (sR o2), (sI 0), (sI 2), (sI 0), .unset] (hb hby o_d12_1) rfl ?_
 refine o_iload X0 hx 5 (hb hby o_d12_3) rfl ?_
 refine o_iload X0 hx 7 (hb hby o_d12_5) rfl ?_
 refine o_icmpNo X0 hx 10 (hb hby o_d12_7) (tlt (by decide : (0 : Int32) < (2 : Int32))).2.1 ?_
 refine o_aloadN X0 hx 11 (hb hby o_d12_10) rfl rfl ?_
 refine o_iloadN X0 hx 12 (hb hby o_d12_11) rfl ?_
 obtain ⟨cl1, Ar1, qv1, S1, M1, H1, G1⟩ := id pV1
 have hin1 := inb_of (j := (0 : Int32)) S1 ⟨by decide, by decide⟩
 refine o_st (G' := s₁.setTop (mkF m 13 #[(sR o1), (sI 0), (sR o2), (sI 0), (sI 2), (sI 0), .unset] [(.int c0)])) (fun t k => X0.caload hx (j := (0 : Int32)) (v := (.int c0)) (by rw [e0]; exact Ar1.1) (State.isArrayOf_alike hZ.alike Ar1.2.1) Ar1.2.2 hin1 (H1.at hin1 rfl) (g := (mkF m 12 #[(sR o1), (sI 0), (sR o2), (sI 0), (sI 2), (sI 0), .unset] [(.int 0), (.ref o1)])) rfl rfl (hb hby o_d12_12) _ k) ?_
 refine o_istore X0 hx 15 #[(sR o1), (sI 0), (sR o2), (sI 0), (sI 2), (sI 0), (sI c0)] (hb hby o_d12_13) rfl ?_
 refine o_iload X0 hx 17 (hb hby o_d12_15) rfl ?_
 refine o_sipush X0 hx 20 255 (hb hby o_d12_17) rfl ?_
 refine o_icmpYes X0 hx 26 (hb hby o_d12_20) (flt hL0).2.2.2 ?_
 refine o_aloadN X0 hx 27 (hb hby o_d12_26) rfl rfl ?_
 refine o_iloadN X0 hx 28 (hb hby o_d12_27) rfl ?_
 refine o_iload X0 hx 30 (hb hby o_d12_28) rfl ?_
 refine o_i2b X0 hx 31 (hb hby o_d12_30) ?_
 obtain ⟨cl2, Ar2, qv2, S2, M2, H2, G2⟩ := id pV2
 have hin2 := inb_of (j := (0 : Int32)) S2 ⟨by decide, by decide⟩
 obtain ⟨T2, h2, X2, e2, W2, st2⟩ := stB X0 hx hZ e0 Ar2 (j := (0 : Int32)) hin2 (g := (mkF m 31 #[(sR o1), (sI 0), (sR o2), (sI 0), (sI 2), (sI 0), (sI c0)] [(.int (c0.toInt8.toInt32)), (.int 0), (.ref o2)])) rfl rfl (hb hby o_d12_31)
 have N2 := Fr.snoc X2 N0 pG3
 have KC3 := KC0.wr W2 (Or.inl (List.mem_of_getElem? (i := 0) rfl))
 refine o_st (G' := T2.setTop (mkF m 32 #[(sR o1), (sI 0), (sR o2), (sI 0), (sI 2), (sI 0), (sI c0)] [])) st2 ?_
 obtain ⟨_, X2h, N2h⟩ := o_hide X2 N2
 refine o_iinc X2h hx 35 (1 : Int32) #[(sR o1), (sI 1), (sR o2), (sI 0), (sI 2), (sI 0), (sI c0)] (hb hby o_d12_32) rfl rfl rfl ?_
 refine o_iinc X2h hx 38 (1 : Int32) #[(sR o1), (sI 1), (sR o2), (sI 1), (sI 2), (sI 0), (sI c0)] (hb hby o_d12_35) rfl rfl rfl ?_
 refine o_iinc X2h hx 41 (1 : Int32) #[(sR o1), (sI 1), (sR o2), (sI 1), (sI 2), (sI 1), (sI c0)] (hb hby o_d12_38) rfl rfl rfl ?_
 refine o_goto X2h hx 3 (hb hby o_d12_41) ?_
 refine o_iload X2h hx 5 (hb hby o_d12_3) rfl ?_
 refine o_iload X2h hx 7 (hb hby o_d12_5) rfl ?_
 refine o_icmpNo X2h hx 10 (hb hby o_d12_7) (tlt (by decide : (1 : Int32) < (2 : Int32))).2.1 ?_
 refine o_aloadN X2h hx 11 (hb hby o_d12_10) rfl rfl ?_
 refine o_iloadN X2h hx 12 (hb hby o_d12_11) rfl ?_
 have f5 := (pV1.other W2 pN4)
 obtain ⟨cl6, Ar6, qv6, S6, M6, H6, G6⟩ := id f5
 have hin6 := inb_of (j := (1 : Int32)) S6 ⟨by decide, by decide⟩
 refine o_st (G' := T2.setTop (mkF m 13 #[(sR o1), (sI 1), (sR o2), (sI 1), (sI 2), (sI 1), (sI c0)] [(.int c1)])) (fun t k => X2h.caload hx (j := (1 : Int32)) (v := (.int c1)) (by rw [e2]; exact Ar6.1) (State.isArrayOf_alike hZ.alike Ar6.2.1) Ar6.2.2 hin6 (H6.at hin6 rfl) (g := (mkF m 12 #[(sR o1), (sI 1), (sR o2), (sI 1), (sI 2), (sI 1), (sI c0)] [(.int 1), (.ref o1)])) rfl rfl (hb hby o_d12_12) _ k) ?_
 refine o_istore X2h hx 15 #[(sR o1), (sI 1), (sR o2), (sI 1), (sI 2), (sI 1), (sI c1)] (hb hby o_d12_13) rfl ?_
 refine o_iload X2h hx 17 (hb hby o_d12_15) rfl ?_
 refine o_sipush X2h hx 20 255 (hb hby o_d12_17) rfl ?_
 refine o_icmpNo X2h hx 23 (hb hby o_d12_20) (tlt hU).2.2.2 ?_
 refine o_iload X2h hx 25 (hb hby o_d12_23) rfl ?_
 exact o_retI (z := (1 : Int32)) (Q := o_Q12n2k1 Z o1 o2 kb kc c0 c1 h0 n0) X2h hx hrt (hb hby o_d12_25) hlk e2 ⟨rfl, N2h, KC3⟩ (by decide) (by decide)
def o_Q11n2L (Z : State) (cs : Int32) (sf : Value) (GG : o_G Z cs sf) (o1 : Addr) (kc : ClassId) (c0 : Int32) (c1 : Int32) (h0 : Heap) (n0 : Nat) (v : Option Value) (h : Heap) (L : List Loc) : Prop := ∃ bb : Addr, ∃ kb : ClassId, v = some (.ref bb) ∧ Fr n0 L ∧ Keep h0 h [] ∧ h0.size ≤ bb ∧ Arv Z h bb kb .byte 2 [(.int (nar .byte c0.toInt8.toInt32)), (.int (nar .byte c1.toInt8.toInt32))] (.int 0)
set_option maxRecDepth 65536 in
set_option maxHeartbeats 40000000 in
theorem o_rm11n2L (l : Launch) (Z : State) (a0 : Array Value) (hw : o_Hw Z a0) (ws : List Jvm.Cond) (cs : Int32) (sf : Value) (GG : o_G Z cs sf) (o1 : Addr) (kc : ClassId) (c0 : Int32) (c1 : Int32) (h0 : Heap) (n0 : Nat) (Z0 : n0 ≤ h0.size) (pV1 : Arv Z h0 o1 kc .char 2 [(.int c0), (.int c1)] (.int 0)) (O0 : Old Z n0 h0) (hC0 : o_C c0) (hC1 : o_C c1) (hL0 : ¬ (255 : Int32) < c0) (hL1 : ¬ (255 : Int32) < c1) :
  o_Met l y27 jdk_52_method_16_code 6 (some (.array .byte)) ws r29 #[(.ref o1), (.int 0), (.int 2)] Z h0 (o_Q11n2L Z cs sf GG o1 kc c0 c1 h0 n0) := by
 refine MetFree.of_bodySF (plainFor_of_name o_pn4) hisR ?_
 intro p e s m args below meth c s₁ Bd hml0 hP hK
 obtain ⟨rfl, hZ, hh⟩ := hP
 obtain ⟨hx, hby, hlk, hrt⟩ := o_bd Bd
 have hml : c.maxLocals = 6 := hml0
 have hown : s.vm.findClass "java/lang/StringUTF16" = some m.cls := findClass_of_methodNamed Bd.named
 have X0 : Stand p l e r29 s m #[(.ref o1), (.int 0), (.int 2)] below meth c s₁ [] 0 0 := Stand.of_body Bd
 have e0 := o_e0 Bd hh
 have N0 := Fr.nil n0
 have KC0 := Keep.refl h0 []
 refine o_in (g' := mkF m 0 #[(sR o1), (sI 0), (sI 2), .unset, .unset, .unset] []) (by simp [entryFrame, mkF, argsToLocals, Value.category]) ?_
 refine o_iloadN X0 hx 1 (hb hby o_d11_0) rfl ?_
 obtain ⟨T1, h1, k1, X1, e1, E1, A1, st1⟩ := newP X0 hx hZ (W hw 15 rfl) e0 (g := (mkF m 1 #[(sR o1), (sI 0), (sI 2), .unset, .unset, .unset] [(.int 2)])) rfl (hb hby o_d11_1) rfl (by decide) (cap := 2) (by decide) (by decide) (by decide) (by decide)
 obtain ⟨b1, g1⟩ : ∃ z, z = h0.size := ⟨_, rfl⟩
 rw [← g1] at A1 st1
 have ne2 : o1 ≠ b1 := Nat.ne_of_lt (Nat.lt_of_lt_of_le pV1.lt (Nat.le_of_eq g1.symm))
 have gt_b1 : n0 ≤ b1 := Nat.le_trans Z0 (Nat.le_of_eq g1.symm)
 have sz_b1 : h0.size ≤ b1 := Nat.le_trans KC0.1 (Nat.le_of_eq g1.symm)
 have V1 : Arv Z h1 b1 k1 .byte 2 [(.int 0), (.int 0)] (.int 0) := (Arv.new A1 (by decide)).pad (pad_rep [] (.int 0) 2)
 have KC4 := KC0.ext E1
 have Z5 := Nat.le_trans Z0 E1.1
 refine o_st (G' := T1.setTop (mkF m 3 #[(sR o1), (sI 0), (sI 2), .unset, .unset, .unset] [(.ref b1)])) st1 ?_
 obtain ⟨_, X1h, N1h⟩ := o_hide X1 N0
 refine o_astoreN X1h hx 4 #[(sR o1), (sI 0), (sI 2), (sR b1), .unset, .unset] (hb hby o_d11_3) rfl rfl ?_
 refine o_aloadN X1h hx 5 (hb hby o_d11_4) rfl rfl ?_
 refine o_iloadN X1h hx 6 (hb hby o_d11_5) rfl ?_
 refine o_aloadN X1h hx 7 (hb hby o_d11_6) rfl rfl ?_
 refine o_iconst X1h hx 8 0 (hb hby o_d11_7) rfl ?_
 refine o_iloadN X1h hx 9 (hb hby o_d11_8) rfl ?_
 have f6 := (pV1.ext E1)
 obtain ⟨_, _, ⟨T7, Lx7, kc7, nc7⟩, -, X7, ⟨Lc7, hQ7, lq7, yq7, zq7⟩, st7⟩ := Jvm.LawKit.callS X1h hx (y := y26) hown (mvT hZ (W hw 60 rfl)) (mvT hZ (W hw 61 rfl)) (mvT hZ (W hw 58 rfl)) (mvT hZ (W hw 62 rfl)) (by decide) (backOf (W := 0) (o_rm12n2L l Z a0 hw [] o1 b1 k1 kc c0 c1 h1 n0 Z5 f6 V1 gt_b1 ne2 (hL0 : ¬ (255 : Int32) < c0) (hL1 : ¬ (255 : Int32) < c1)) hZ (W hw 62 rfl) (W hw 58 rfl) (by decide) (by decide)) (g := (mkF m 9 #[(sR o1), (sI 0), (sI 2), (sR b1), .unset, .unset] [(.int 2), (.int 0), (.ref b1), (.int 0), (.ref o1)])) rfl (by rw [hml]; rfl) (argsL := [(.ref o1), (.int 0), (.ref b1), (.int 0), (.int 2)]) (rest := []) (lenOf o_pd16 rfl) rfl (o_wl rfl) (hb hby o_d11_9) (fun _ _ => ⟨rfl, e1, (by decide : 1 + 0 ≤ _), (by decide : 2 + 0 ≤ _)⟩)
 dsimp only [Pt.U, Pt.locs, Pt.cells, Pt.slots] at X7 lq7 yq7 zq7 st7 hQ7
 subst lq7 yq7 zq7
 obtain ⟨rfl, Nq7, Kp7, G7_0⟩ := hQ7
 have N7 := Fr.app N1h Nq7
 have KC9 := KC4.trans Kp7 (allS (Or.inr sz_b1) all0)
 refine o_st (G' := T7.setTop (mkF m 12 #[(sR o1), (sI 0), (sI 2), (sR b1), .unset, .unset] [(.int 2)])) st7 ?_
 obtain ⟨_, X7h, N7h⟩ := o_hide X7 N7
 refine o_istore X7h hx 14 #[(sR o1), (sI 0), (sI 2), (sR b1), (sI 2), .unset] (hb hby o_d11_12) rfl ?_
 refine o_iload X7h hx 16 (hb hby o_d11_14) rfl ?_
 refine o_iloadN X7h hx 17 (hb hby o_d11_16) rfl ?_
 refine o_icmpYes X7h hx 57 (hb hby o_d11_17) (teq (rfl : (2 : Int32) = (2 : Int32))).1 ?_
 refine o_aloadN X7h hx 58 (hb hby o_d11_57) rfl rfl ?_
 exact o_retA (z := (.ref b1)) (Q := o_Q11n2L Z cs sf GG o1 kc c0 c1 h0 n0) X7h hx hrt rfl rfl (hb hby o_d11_58) hlk rfl ⟨b1, k1, rfl, N7h, KC9, sz_b1, G7_0⟩ (by decide) (by decide)
def o_Q2n2L (Z : State) (cs : Int32) (sf : Value) (GG : o_G Z cs sf) (o1 : Addr) (o2 : Addr) (kc : ClassId) (c0 : Int32) (c1 : Int32) (h0 : Heap) (n0 : Nat) (v : Option Value) (h : Heap) (L : List Loc) : Prop := ∃ bb : Addr, ∃ kb : ClassId, v = none ∧ Fr n0 L ∧ Keep h0 h [o1] ∧ Exa Z h o1 "java/lang/String" ∧ h0.size ≤ bb ∧ Fld Z h o1 "java/lang/String" "value" "[B" (.ref bb) ∧ Fld Z h o1 "java/lang/String" "coder" "B" (.int 0) ∧ Arv Z h bb kb .byte 2 [(.int (nar .byte c0.toInt8.toInt32)), (.int (nar .byte c1.toInt8.toInt32))] (.int 0)
set_option maxRecDepth 65536 in
set_option maxHeartbeats 40000000 in
theorem o_rm2n2L (l : Launch) (Z : State) (a0 : Array Value) (hw : o_Hw Z a0) (ws : List Jvm.Cond) (cs : Int32) (sf : Value) (GG : o_G Z cs sf) (o1 : Addr) (o2 : Addr) (kc : ClassId) (c0 : Int32) (c1 : Int32) (h0 : Heap) (n0 : Nat) (Z0 : n0 ≤ h0.size) (pE1 : Exa Z h0 o1 "java/lang/String") (pF2 : Fld Z h0 o1 "java/lang/String" "value" "[B" .null) (pF3 : Fld Z h0 o1 "java/lang/String" "coder" "B" (.int 0)) (pG4 : n0 ≤ o1) (O0 : Old Z n0 h0) (pV6 : Arv Z h0 o2 kc .char 2 [(.int c0), (.int c1)] (.int 0)) (hC0 : o_C c0) (hC1 : o_C c1) (hL0 : ¬ (255 : Int32) < c0) (hL1 : ¬ (255 : Int32) < c1) :
  o_Met l y28 jdk_42_method_149_code 6 none ws r30 #[(.ref o1), (.ref o2), (.int 0), (.int 2), .null] Z h0 (o_Q2n2L Z cs sf GG o1 o2 kc c0 c1 h0 n0) := by
 refine MetFree.of_bodySF (plainFor_of_name o_pn3) hisR ?_
 intro p e s m args below meth c s₁ Bd hml0 hP hK
 obtain ⟨rfl, hZ, hh⟩ := hP
 obtain ⟨hx, hby, hlk, hrt⟩ := o_bd Bd
 have hml : c.maxLocals = 6 := hml0
 have hown : s.vm.findClass "java/lang/String" = some m.cls := findClass_of_methodNamed Bd.named
 have hnm := (name_of_methodNamed Bd.named Bd.method).1
 have X0 : Stand p l e r30 s m #[(.ref o1), (.ref o2), (.int 0), (.int 2), .null] below meth c s₁ [] 0 0 := Stand.of_body Bd
 have e0 := o_e0 Bd hh
 have N0 := Fr.nil n0
 have KC0 := Keep.refl h0 [o1]
 refine o_in (g' := mkF m 0 #[(sR o1), (sR o2), (sI 0), (sI 2), .val .null, .unset] []) (by simp [entryFrame, mkF, argsToLocals, Value.category]) ?_
 refine o_aloadN X0 hx 1 (hb hby o_d2_0) rfl rfl ?_
 obtain ⟨T1, X1, e1, st1⟩ := initO X0 hx hZ hown (W hw 11 rfl) (W hw 12 rfl) (W hw 13 rfl) e0 (g := (mkF m 1 #[(sR o1), (sR o2), (sI 0), (sI 2), .val .null, .unset] [(.ref o1)])) rfl (by rw [hml]; rfl) rfl (hb hby o_d2_1) (by decide) (W := 0) (o_wl rfl) (by decide)
 refine o_st (G' := T1.setTop (mkF m 4 #[(sR o1), (sR o2), (sI 0), (sI 2), .val .null, .unset] [])) st1 ?_
 obtain ⟨_, X1h, N1h⟩ := o_hide X1 N0
 refine o_iloadN X1h hx 5 (hb hby o_d2_4) rfl ?_
 refine o_ifYes X1h hx 27 (hb hby o_d2_5) (feq (by decide : ¬ ((2 : Int32) = (0 : Int32)))).2 ?_
 obtain ⟨T2, X2, e2, st2⟩ := getS2 X1h hx hZ hown (host := "") (Or.inl (W hw 36 rfl)) Via.refl e1 (GG.1.ext O0.2) (g := (mkF m 27 #[(sR o1), (sR o2), (sI 0), (sI 2), .val .null, .unset] [])) rfl (hb hby o_d2_27)
 refine o_st (G' := T2.setTop (mkF m 30 #[(sR o1), (sR o2), (sI 0), (sI 2), .val .null, .unset] [(.int cs)])) st2 ?_
 obtain ⟨_, X2h, N2h⟩ := o_hide X2 N1h
 refine o_ifNo X2h hx 33 (hb hby o_d2_30) (feq (GG.2.1 : ¬ (cs = (0 : Int32)))).1 ?_
 refine o_aloadN X2h hx 34 (hb hby o_d2_33) rfl rfl ?_
 refine o_iloadN X2h hx 35 (hb hby o_d2_34) rfl ?_
 refine o_iloadN X2h hx 36 (hb hby o_d2_35) rfl ?_
 obtain ⟨_, _, ⟨T3, Lx3, kc3, nc3⟩, -, X3, ⟨Lc3, hQ3, lq3, yq3, zq3⟩, st3⟩ := Jvm.LawKit.callS X2h hx (y := y27) hown (mvT hZ (W hw 56 rfl)) (mvT hZ (W hw 57 rfl)) (mvT hZ (W hw 58 rfl)) (mvT hZ (W hw 59 rfl)) (by decide) (backOf (W := 0) (o_rm11n2L l Z a0 hw [] cs sf GG o2 kc c0 c1 h0 n0 Z0 pV6 O0 (hC0 : o_C c0) (hC1 : o_C c1) (hL0 : ¬ (255 : Int32) < c0) (hL1 : ¬ (255 : Int32) < c1)) hZ (W hw 59 rfl) (W hw 58 rfl) (by decide) (by decide)) (g := (mkF m 36 #[(sR o1), (sR o2), (sI 0), (sI 2), .val .null, .unset] [(.int 2), (.int 0), (.ref o2)])) rfl (by rw [hml]; rfl) (argsL := [(.ref o2), (.int 0), (.int 2)]) (rest := []) (lenOf o_pd17 rfl) rfl (o_wl rfl) (hb hby o_d2_36) (fun _ _ => ⟨rfl, e2, (by decide : 0 + 1 ≤ _), (by decide : 0 + 2 ≤ _)⟩)
 dsimp only [Pt.U, Pt.locs, Pt.cells, Pt.slots] at X3 lq3 yq3 zq3 st3 hQ3
 subst lq3 yq3 zq3
 obtain ⟨bb_3, kb_3, rfl, Nq3, Kp3, G3_0, G3_1⟩ := hQ3
 have N3 := Fr.app N2h Nq3
 have ne4 : o1 ≠ bb_3 := Nat.ne_of_lt (Nat.lt_of_lt_of_le pE1.lt G3_0)
 have sz_bb_3 : h0.size ≤ bb_3 := Nat.le_trans KC0.1 G3_0
 have KC7 := KC0.trans Kp3 all0
 have Z8 := Nat.le_trans Z0 Kp3.1
 refine o_st (G' := T3.setTop (mkF m 39 #[(sR o1), (sR o2), (sI 0), (sI 2), .val .null, .unset] [(.ref bb_3)])) st3 ?_
 obtain ⟨_, X3h, N3h⟩ := o_hide X3 N3
 refine o_astore X3h hx 41 #[(sR o1), (sR o2), (sI 0), (sI 2), .val .null, (sR bb_3)] (hb hby o_d2_39) rfl rfl ?_
 refine o_aloadN X3h hx 42 (hb hby o_d2_41) rfl rfl ?_
 refine o_aload X3h hx 44 (hb hby o_d2_42) rfl rfl ?_
 refine o_iloadN X3h hx 45 (hb hby o_d2_44) rfl ?_
 obtain ⟨_, _, ⟨T9, Lx9, kc9, nc9⟩, -, X9, ⟨Lc9, hQ9, lq9, yq9, zq9⟩, st9⟩ := Jvm.LawKit.callS X3h hx (y := y22) hown (mvT hZ (W hw 63 rfl)) (mvT hZ (W hw 64 rfl)) (mvT hZ (W hw 58 rfl)) (mvT hZ (W hw 65 rfl)) (by decide) (backOf (W := 1) (o_rm13n2L l Z a0 hw [] bb_3 kb_3 [(.int (nar .byte c0.toInt8.toInt32)), (.int (nar .byte c1.toInt8.toInt32))] T3.heap n0 Z8 G3_1) hZ (W hw 65 rfl) (W hw 58 rfl) (by decide) (by decide)) (g := (mkF m 45 #[(sR o1), (sR o2), (sI 0), (sI 2), .val .null, (sR bb_3)] [(.int 2), (.ref bb_3), (.ref o1)])) rfl (by rw [hml]; rfl) (argsL := [(.ref bb_3), (.int 2)]) (rest := [(.ref o1)]) (lenOf o_pd18 rfl) rfl (o_wl rfl) (hb hby o_d2_45) (fun _ _ => ⟨rfl, rfl, (by decide : 1 + 0 ≤ _), (by decide : 2 + 0 ≤ _)⟩)
 dsimp only [Pt.U, Pt.locs, Pt.cells, Pt.slots] at X9 lq9 yq9 zq9 st9 hQ9
 subst lq9 yq9 zq9
 obtain ⟨rfl, Nq9, eh9⟩ := hQ9
 have N9 := Fr.app N3h Nq9
 refine o_st (G' := T9.setTop (mkF m 48 #[(sR o1), (sR o2), (sI 0), (sI 2), .val .null, (sR bb_3)] [(.int 0), (.ref o1)])) st9 ?_
 obtain ⟨_, X9h, N9h⟩ := o_hide X9 N9
 have f10 := (pF3.keep Kp3 nin0)
 have f11 := (pE1.keep Kp3)
 obtain ⟨T12, h12, X12, e12, W12, st12⟩ := putFN X9h hx hZ hown (W hw 21 rfl) Via.refl eh9 f10 f11 (Or.inr ⟨(W hw 17 rfl), rfl, hnm⟩) (W hw 2 rfl) (ty := .byte) (v' := (.int 0)) (by decide) rfl rfl (g := (mkF m 48 #[(sR o1), (sR o2), (sI 0), (sI 2), .val .null, (sR bb_3)] [(.int 0), (.ref o1)])) rfl rfl (hb hby o_d2_48)
 have Fw12 := f10.same W12
 have N12 := Fr.snoc X12 N9h pG4
 have KC14 := KC7.wr W12 (Or.inl (List.mem_of_getElem? (i := 0) rfl))
 refine o_st (G' := T12.setTop (mkF m 51 #[(sR o1), (sR o2), (sI 0), (sI 2), .val .null, (sR bb_3)] [])) st12 ?_
 obtain ⟨_, X12h, N12h⟩ := o_hide X12 N12
 refine o_aloadN X12h hx 52 (hb hby o_d2_51) rfl rfl ?_
 refine o_aload X12h hx 54 (hb hby o_d2_52) rfl rfl ?_
 have f16 := ((pF2.keep Kp3 nin0).other W12 (Or.inr (slot_ne (Or.inr (W hw 16 rfl)) (Or.inr (W hw 17 rfl)) (by decide) (t := (.array .byte)) (t' := .byte) (by decide) (by decide))))
 have f17 := (f11.wr W12)
 obtain ⟨T18, h18, X18, e18, W18, st18⟩ := putF X12h hx hZ hown (host := "") (Or.inl (W hw 20 rfl)) Via.refl e12 f16 f17 (Or.inr ⟨(W hw 16 rfl), rfl, hnm⟩) (W hw 2 rfl) (v := (.ref bb_3)) (ty := (.array .byte)) (by decide) rfl rfl (g := (mkF m 54 #[(sR o1), (sR o2), (sI 0), (sI 2), .val .null, (sR bb_3)] [(.ref bb_3), (.ref o1)])) rfl rfl (hb hby o_d2_54)
 have Fw18 := f16.same W18
 have N18 := Fr.snoc X18 N12h pG4
 have KC20 := KC14.wr W18 (Or.inl (List.mem_of_getElem? (i := 0) rfl))
 refine o_st (G' := T18.setTop (mkF m 57 #[(sR o1), (sR o2), (sI 0), (sI 2), .val .null, (sR bb_3)] [])) st18 ?_
 obtain ⟨_, X18h, N18h⟩ := o_hide X18 N18
 have f22 := (f17.wr W18)
 have f23 := (Fw12.other W18 (Or.inr (slot_ne (Or.inr (W hw 17 rfl)) (Or.inr (W hw 16 rfl)) (by decide) (t := .byte) (t' := (.array .byte)) (by decide) (by decide))))
 have f24 := ((G3_1.other W12 (Ne.symm ne4)).other W18 (Ne.symm ne4))
 exact o_retV (Q := o_Q2n2L Z cs sf GG o1 o2 kc c0 c1 h0 n0) X18h hx hrt (hb hby o_d2_57) hlk e18 ⟨bb_3, kb_3, rfl, N18h, KC20, f22, sz_bb_3, Fw18, f23, f24⟩ (by decide) (by decide)
def o_Q1n2L (Z : State) (cs : Int32) (sf : Value) (GG : o_G Z cs sf) (o1 : Addr) (o2 : Addr) (kc : ClassId) (c0 : Int32) (c1 : Int32) (h0 : Heap) (n0 : Nat) (v : Option Value) (h : Heap) (L : List Loc) : Prop := ∃ bb : Addr, ∃ kb : ClassId, v = none ∧ Fr n0 L ∧ Keep h0 h [o1] ∧ Exa Z h o1 "java/lang/String" ∧ h0.size ≤ bb ∧ Fld Z h o1 "java/lang/String" "value" "[B" (.ref bb) ∧ Fld Z h o1 "java/lang/String" "coder" "B" (.int 0) ∧ Arv Z h bb kb .byte 2 [(.int (nar .byte c0.toInt8.toInt32)), (.int (nar .byte c1.toInt8.toInt32))] (.int 0)
set_option maxRecDepth 65536 in
set_option maxHeartbeats 40000000 in
theorem o_rm1n2L (l : Launch) (Z : State) (a0 : Array Value) (hw : o_Hw Z a0) (ws : List Jvm.Cond) (cs : Int32) (sf : Value) (GG : o_G Z cs sf) (o1 : Addr) (o2 : Addr) (kc : ClassId) (c0 : Int32) (c1 : Int32) (h0 : Heap) (n0 : Nat) (Z0 : n0 ≤ h0.size) (pE1 : Exa Z h0 o1 "java/lang/String") (pF2 : Fld Z h0 o1 "java/lang/String" "value" "[B" .null) (pF3 : Fld Z h0 o1 "java/lang/String" "coder" "B" (.int 0)) (pG4 : n0 ≤ o1) (O0 : Old Z n0 h0) (pV6 : Arv Z h0 o2 kc .char 2 [(.int c0), (.int c1)] (.int 0)) (hC0 : o_C c0) (hC1 : o_C c1) (hL0 : ¬ (255 : Int32) < c0) (hL1 : ¬ (255 : Int32) < c1) :
  o_Met l y29 jdk_42_method_3_code 2 none ws r31 #[(.ref o1), (.ref o2)] Z h0 (o_Q1n2L Z cs sf GG o1 o2 kc c0 c1 h0 n0) := by
 refine MetFree.of_bodySF (plainFor_of_name o_pn3) hisR ?_
 intro p e s m args below meth c s₁ Bd hml0 hP hK
 obtain ⟨rfl, hZ, hh⟩ := hP
 obtain ⟨hx, hby, hlk, hrt⟩ := o_bd Bd
 have hml : c.maxLocals = 2 := hml0
 have hown : s.vm.findClass "java/lang/String" = some m.cls := findClass_of_methodNamed Bd.named
 have X0 : Stand p l e r31 s m #[(.ref o1), (.ref o2)] below meth c s₁ [] 0 0 := Stand.of_body Bd
 have e0 := o_e0 Bd hh
 have N0 := Fr.nil n0
 have KC0 := Keep.refl h0 [o1]
 refine o_in (g' := mkF m 0 #[(sR o1), (sR o2)] []) (by simp [entryFrame, mkF, argsToLocals, Value.category]) ?_
 refine o_aloadN X0 hx 1 (hb hby o_d1_0) rfl rfl ?_
 refine o_aloadN X0 hx 2 (hb hby o_d1_1) rfl rfl ?_
 refine o_iconst X0 hx 3 0 (hb hby o_d1_2) rfl ?_
 refine o_aloadN X0 hx 4 (hb hby o_d1_3) rfl rfl ?_
 obtain ⟨cl1, Ar1, qv1, S1, M1, H1, G1⟩ := id pV6
 have ln1 := len_of S1 M1
 refine o_st (G' := s₁.setTop (mkF m 5 #[(sR o1), (sR o2)] [(.int 2), (.int 0), (.ref o2), (.ref o1)])) (fun t k => X0.arraylength hx (by rw [e0]; exact Ar1.1) (State.isArrayOf_alike hZ.alike Ar1.2.1) (g := (mkF m 4 #[(sR o1), (sR o2)] [(.ref o2), (.int 0), (.ref o2), (.ref o1)])) rfl rfl (hb hby o_d1_4) _ (by rw [ln1]; exact k)) ?_
 refine o_aconstNull X0 hx 6 (hb hby o_d1_5) ?_
 obtain ⟨_, _, ⟨T2, Lx2, kc2, nc2⟩, -, X2, ⟨Lc2, hQ2, lq2, yq2, zq2⟩, st2⟩ := X0.specialBack hx (y := y28) rfl hown (mvT hZ (W hw 7 rfl)) (mvT hZ (W hw 8 rfl)) (mvT hZ (W hw 10 rfl)) (by decide) (backOf (W := 0) (o_rm2n2L l Z a0 hw [] cs sf GG o1 o2 kc c0 c1 h0 n0 Z0 pE1 pF2 pF3 pG4 O0 pV6 (hC0 : o_C c0) (hC1 : o_C c1) (hL0 : ¬ (255 : Int32) < c0) (hL1 : ¬ (255 : Int32) < c1)) hZ (W hw 10 rfl) (W hw 3 rfl) (by decide) (by decide)) (g := (mkF m 6 #[(sR o1), (sR o2)] [.null, (.int 2), (.int 0), (.ref o2), (.ref o1)])) rfl (by rw [hml]; rfl) (Steps.refl _) (a := o1) (argsL := [(.ref o2), (.int 0), (.int 2), .null]) (rest := []) (lenOf o_pd19 rfl) rfl (o_wl rfl) (hb hby o_d1_6) (fun _ _ => ⟨rfl, e0, (by decide : 0 + 1 ≤ _), (by decide : 0 + 2 ≤ _)⟩)
 dsimp only [Pt.U, Pt.locs, Pt.cells, Pt.slots] at X2 lq2 yq2 zq2 st2 hQ2
 subst lq2 yq2 zq2
 obtain ⟨bb_2, kb_2, rfl, Nq2, Kp2, G2_0, G2_1, G2_2, G2_3, G2_4⟩ := hQ2
 have N2 := Fr.app N0 Nq2
 have sz_bb_2 : h0.size ≤ bb_2 := Nat.le_trans KC0.1 G2_1
 have KC6 := KC0.trans Kp2 (allS (Or.inl (List.mem_of_getElem? (i := 0) rfl)) all0)
 refine o_st (G' := T2.setTop (mkF m 9 #[(sR o1), (sR o2)] [])) (fun t k => st2.trans k) ?_
 obtain ⟨_, X2h, N2h⟩ := o_hide X2 N2
 exact o_retV (Q := o_Q1n2L Z cs sf GG o1 o2 kc c0 c1 h0 n0) X2h hx hrt (hb hby o_d1_9) hlk rfl ⟨bb_2, kb_2, rfl, N2h, KC6, G2_0, sz_bb_2, G2_2, G2_3, G2_4⟩ (by decide) (by decide)
def o_Q4n2L (Z : State) (cs : Int32) (sf : Value) (GG : o_G Z cs sf) (o1 : Addr) (bb : Addr) (kb : ClassId) (c0 : Int32) (c1 : Int32) (h0 : Heap) (n0 : Nat) (v : Option Value) (h : Heap) (L : List Loc) : Prop := ∃ so : Addr, ∃ b2 : Addr, ∃ k2 : ClassId, v = some (.ref so) ∧ Fr n0 L ∧ Keep h0 h [] ∧ h0.size ≤ so ∧ h0.size ≤ b2 ∧ Exa Z h so "java/lang/String" ∧ Fld Z h so "java/lang/String" "value" "[B" (.ref b2) ∧ Fld Z h so "java/lang/String" "coder" "B" (.int 0) ∧ Arv Z h b2 k2 .byte 2 [(.int (nar .byte (o_lc c0).toInt8.toInt32)), (.int (nar .byte (o_lc c1).toInt8.toInt32))] (.int 0)
set_option maxRecDepth 65536 in
set_option maxHeartbeats 40000000 in
theorem o_rm4n2L (l : Launch) (Z : State) (a0 : Array Value) (hw : o_Hw Z a0) (ws : List Jvm.Cond) (cs : Int32) (sf : Value) (GG : o_G Z cs sf) (o1 : Addr) (bb : Addr) (kb : ClassId) (c0 : Int32) (c1 : Int32) (h0 : Heap) (n0 : Nat) (Z0 : n0 ≤ h0.size) (pE1 : Exa Z h0 o1 "java/lang/String") (pF2 : Fld Z h0 o1 "java/lang/String" "value" "[B" (.ref bb)) (pF3 : Fld Z h0 o1 "java/lang/String" "coder" "B" (.int 0)) (pV4 : Arv Z h0 bb kb .byte 2 [(.int (nar .byte c0.toInt8.toInt32)), (.int (nar .byte c1.toInt8.toInt32))] (.int 0)) (O0 : Old Z n0 h0) (hC0 : o_C c0) (hC1 : o_C c1) (hL0 : ¬ (255 : Int32) < c0) (hL1 : ¬ (255 : Int32) < c1) :
  o_Met l y30 prog_1_method_4_code 3 (some (.object "java/lang/String")) ws r32 #[(.ref o1)] Z h0 (o_Q4n2L Z cs sf GG o1 bb kb c0 c1 h0 n0) := by
 refine MetFree.of_bodySF (plainFor_of_name o_pn0) hisR ?_
 intro p e s m args below meth c s₁ Bd hml0 hP hK
 obtain ⟨rfl, hZ, hh⟩ := hP
 obtain ⟨hx, hby, hlk, hrt⟩ := o_bd Bd
 have hml : c.maxLocals = 3 := hml0
 have hown : s.vm.findClass "com/example/orbweaver/orbweaver/AsciiText" = some m.cls := findClass_of_methodNamed Bd.named
 have X0 : Stand p l e r32 s m #[(.ref o1)] below meth c s₁ [] 0 0 := Stand.of_body Bd
 have e0 := o_e0 Bd hh
 have N0 := Fr.nil n0
 have KC0 := Keep.refl h0 []
 refine o_in (g' := mkF m 0 #[(sR o1), .unset, .unset] []) (by simp [entryFrame, mkF, argsToLocals, Value.category]) ?_
 refine o_aloadN X0 hx 1 (hb hby o_d4_0) rfl rfl ?_
 obtain ⟨cq1, kq1, q1a, q1b, q1c⟩ := isOf hZ e0 pE1
 obtain ⟨_, _, ⟨T1, Lx1, kc1, nc1⟩, -, X1, ⟨Lc1, hQ1, lq1, yq1, zq1⟩, st1⟩ := X0.virtualBack hx (y := y21) (z := y21) hown (mvT hZ (W hw 26 rfl)) (mvT hZ (W hw 27 rfl)) (notFace_of_selects (args := #[]) (mvT hZ (W hw 29 rfl))) (mvT hZ (W hw 29 rfl)) (mvT hZ (W hw 28 rfl)) (by decide) (backOf (W := 0) (o_rm5n2L l Z a0 hw [] cs sf GG o1 bb kb c0 c1 h0 n0 Z0 pE1 pF2 pF3 pV4 O0 (hC0 : o_C c0) (hC1 : o_C c1) (hL0 : ¬ (255 : Int32) < c0) (hL1 : ¬ (255 : Int32) < c1)) hZ (W hw 30 rfl) (W hw 3 rfl) (by decide) (by decide)) q1a q1c (g := (mkF m 1 #[(sR o1), .unset, .unset] [(.ref o1)])) rfl (by rw [hml]; rfl) (Steps.refl _) (argsL := []) (rest := []) (lenOf o_pd20 rfl) rfl (o_wl rfl) (hb hby o_d4_1) (fun _ _ => ⟨rfl, e0, (by decide : 0 + 1 ≤ _), (by decide : 0 + 2 ≤ _)⟩)
 dsimp only [Pt.U, Pt.locs, Pt.cells, Pt.slots] at X1 lq1 yq1 zq1 st1 hQ1
 subst lq1 yq1 zq1
 obtain ⟨ca_1, kc_1, rfl, Nq1, Kp1, G1_0, G1_1⟩ := hQ1
 have N1 := Fr.app N0 Nq1
 have gt_ca_1 : n0 ≤ ca_1 := Nat.le_trans Z0 G1_0
 have sz_ca_1 : h0.size ≤ ca_1 := Nat.le_trans KC0.1 G1_0
 have O4 := O0.keep Kp1 all0
 have KC5 := KC0.trans Kp1 all0
 have Z6 := Nat.le_trans Z0 Kp1.1
 refine o_st (G' := T1.setTop (mkF m 4 #[(sR o1), .unset, .unset] [(.ref ca_1)])) (fun t k => st1.trans k) ?_
 obtain ⟨_, X1h, N1h⟩ := o_hide X1 N1
 refine o_astoreN X1h hx 5 #[(sR o1), (sR ca_1), .unset] (hb hby o_d4_4) rfl rfl ?_
 refine o_iconst X1h hx 6 0 (hb hby o_d4_5) rfl ?_
 refine o_istoreN X1h hx 7 #[(sR o1), (sR ca_1), (sI 0)] (hb hby o_d4_6) rfl ?_
 refine o_iloadN X1h hx 8 (hb hby o_d4_7) rfl ?_
 refine o_aloadN X1h hx 9 (hb hby o_d4_8) rfl rfl ?_
 obtain ⟨cl7, Ar7, qv7, S7, M7, H7, G7⟩ := id G1_1
 have ln7 := len_of S7 M7
 refine o_st (G' := T1.setTop (mkF m 10 #[(sR o1), (sR ca_1), (sI 0)] [(.int 2), (.int 0)])) (fun t k => X1h.arraylength hx Ar7.1 (State.isArrayOf_alike hZ.alike Ar7.2.1) (g := (mkF m 9 #[(sR o1), (sR ca_1), (sI 0)] [(.ref ca_1), (.int 0)])) rfl rfl (hb hby o_d4_9) _ (by rw [ln7]; exact k)) ?_
 refine o_icmpNo X1h hx 13 (hb hby o_d4_10) (tlt (by decide : (0 : Int32) < (2 : Int32))).2.1 ?_
 refine o_aloadN X1h hx 14 (hb hby o_d4_13) rfl rfl ?_
 refine o_iloadN X1h hx 15 (hb hby o_d4_14) rfl ?_
 refine o_aloadN X1h hx 16 (hb hby o_d4_15) rfl rfl ?_
 refine o_iloadN X1h hx 17 (hb hby o_d4_16) rfl ?_
 obtain ⟨cl8, Ar8, qv8, S8, M8, H8, G8⟩ := id G1_1
 have hin8 := inb_of (j := (0 : Int32)) S8 ⟨by decide, by decide⟩
 refine o_st (G' := T1.setTop (mkF m 18 #[(sR o1), (sR ca_1), (sI 0)] [(.int c0), (.int 0), (.ref ca_1)])) (fun t k => X1h.caload hx (j := (0 : Int32)) (v := (.int c0)) Ar8.1 (State.isArrayOf_alike hZ.alike Ar8.2.1) Ar8.2.2 hin8 (H8.at hin8 rfl) (g := (mkF m 17 #[(sR o1), (sR ca_1), (sI 0)] [(.int 0), (.ref ca_1), (.int 0), (.ref ca_1)])) rfl rfl (hb hby o_d4_17) _ k) ?_
 obtain ⟨_, _, ⟨T9, Lx9, kc9, nc9⟩, -, X9, ⟨Lc9, hQ9, lq9, yq9, zq9⟩, st9⟩ := Jvm.LawKit.callS X1h hx (y := y0) hown (mvT hZ (W hw 66 rfl)) (mvT hZ (W hw 67 rfl)) (mvT hZ (W hw 24 rfl)) (mvT hZ (W hw 68 rfl)) (by decide) (backOf (W := 2) (o_rm14 l Z a0 hw [] c0 T1.heap n0 Z6 ) hZ (W hw 68 rfl) (W hw 24 rfl) (by decide) (by decide)) (g := (mkF m 18 #[(sR o1), (sR ca_1), (sI 0)] [(.int c0), (.int 0), (.ref ca_1)])) rfl (by rw [hml]; rfl) (argsL := [(.int c0)]) (rest := [(.int 0), (.ref ca_1)]) (lenOf o_pd4 rfl) rfl (o_wl rfl) (hb hby o_d4_18) (fun _ _ => ⟨rfl, rfl, (by decide : 1 + 0 ≤ _), (by decide : 2 + 0 ≤ _)⟩)
 dsimp only [Pt.U, Pt.locs, Pt.cells, Pt.slots] at X9 lq9 yq9 zq9 st9 hQ9
 subst lq9 yq9 zq9
 obtain ⟨rfl, Nq9, eh9⟩ := hQ9
 have N9 := Fr.app N1h Nq9
 refine o_st (G' := T9.setTop (mkF m 21 #[(sR o1), (sR ca_1), (sI 0)] [(.int (o_lc c0)), (.int 0), (.ref ca_1)])) st9 ?_
 obtain ⟨_, X9h, N9h⟩ := o_hide X9 N9
 refine o_i2c X9h hx 22 (hb hby o_d4_21) ?_
 obtain ⟨cl10, Ar10, qv10, S10, M10, H10, G10⟩ := id G1_1
 have hin10 := inb_of (j := (0 : Int32)) S10 ⟨by decide, by decide⟩
 obtain ⟨T10, h10, X10, e10, W10, st10⟩ := stC X9h hx hZ eh9 Ar10 (j := (0 : Int32)) hin10 (g := (mkF m 22 #[(sR o1), (sR ca_1), (sI 0)] [(.int ((o_lc c0).toUInt32.toUInt16.toUInt32.toInt32)), (.int 0), (.ref ca_1)])) rfl rfl (hb hby o_d4_22)
 have V10 : Arv Z h10 ca_1 kc_1 .char 2 [(.int (nar .char ((o_lc c0).toUInt32.toUInt16.toUInt32.toInt32))), (.int c1)] (.int 0) := Arv.set Ar10 qv10 S10 M10 H10 G10 (fits_nar_char _) W10 0 rfl (Nat.le_of_ble_eq_true rfl)
 have N10 := Fr.snoc X10 N9h gt_ca_1
 have O11 := O4.wr W10 gt_ca_1
 have KC12 := KC5.wr W10 (Or.inr sz_ca_1)
 have Z13 := Nat.le_trans Z6 (Nat.le_of_eq W10.size.symm)
 refine o_st (G' := T10.setTop (mkF m 23 #[(sR o1), (sR ca_1), (sI 0)] [])) st10 ?_
 obtain ⟨_, X10h, N10h⟩ := o_hide X10 N10
 refine o_iinc X10h hx 26 (1 : Int32) #[(sR o1), (sR ca_1), (sI 1)] (hb hby o_d4_23) rfl rfl rfl ?_
 refine o_goto X10h hx 7 (hb hby o_d4_26) ?_
 refine o_iloadN X10h hx 8 (hb hby o_d4_7) rfl ?_
 refine o_aloadN X10h hx 9 (hb hby o_d4_8) rfl rfl ?_
 obtain ⟨cl14, Ar14, qv14, S14, M14, H14, G14⟩ := id V10
 have ln14 := len_of S14 M14
 refine o_st (G' := T10.setTop (mkF m 10 #[(sR o1), (sR ca_1), (sI 1)] [(.int 2), (.int 1)])) (fun t k => X10h.arraylength hx (by rw [e10]; exact Ar14.1) (State.isArrayOf_alike hZ.alike Ar14.2.1) (g := (mkF m 9 #[(sR o1), (sR ca_1), (sI 1)] [(.ref ca_1), (.int 1)])) rfl rfl (hb hby o_d4_9) _ (by rw [ln14]; exact k)) ?_
 refine o_icmpNo X10h hx 13 (hb hby o_d4_10) (tlt (by decide : (1 : Int32) < (2 : Int32))).2.1 ?_
 refine o_aloadN X10h hx 14 (hb hby o_d4_13) rfl rfl ?_
 refine o_iloadN X10h hx 15 (hb hby o_d4_14) rfl ?_
 refine o_aloadN X10h hx 16 (hb hby o_d4_15) rfl rfl ?_
 refine o_iloadN X10h hx 17 (hb hby o_d4_16) rfl ?_
 obtain ⟨cl15, Ar15, qv15, S15, M15, H15, G15⟩ := id V10
 have hin15 := inb_of (j := (1 : Int32)) S15 ⟨by decide, by decide⟩
 refine o_st (G' := T10.setTop (mkF m 18 #[(sR o1), (sR ca_1), (sI 1)] [(.int c1), (.int 1), (.ref ca_1)])) (fun t k => X10h.caload hx (j := (1 : Int32)) (v := (.int c1)) (by rw [e10]; exact Ar15.1) (State.isArrayOf_alike hZ.alike Ar15.2.1) Ar15.2.2 hin15 (H15.at hin15 rfl) (g := (mkF m 17 #[(sR o1), (sR ca_1), (sI 1)] [(.int 1), (.ref ca_1), (.int 1), (.ref ca_1)])) rfl rfl (hb hby o_d4_17) _ k) ?_
 obtain ⟨_, _, ⟨T16, Lx16, kc16, nc16⟩, -, X16, ⟨Lc16, hQ16, lq16, yq16, zq16⟩, st16⟩ := Jvm.LawKit.callS X10h hx (y := y0) hown (mvT hZ (W hw 66 rfl)) (mvT hZ (W hw 67 rfl)) (mvT hZ (W hw 24 rfl)) (mvT hZ (W hw 68 rfl)) (by decide) (backOf (W := 2) (o_rm14 l Z a0 hw [] c1 h10 n0 Z13 ) hZ (W hw 68 rfl) (W hw 24 rfl) (by decide) (by decide)) (g := (mkF m 18 #[(sR o1), (sR ca_1), (sI 1)] [(.int c1), (.int 1), (.ref ca_1)])) rfl (by rw [hml]; rfl) (argsL := [(.int c1)]) (rest := [(.int 1), (.ref ca_1)]) (lenOf o_pd4 rfl) rfl (o_wl rfl) (hb hby o_d4_18) (fun _ _ => ⟨rfl, e10, (by decide : 1 + 0 ≤ _), (by decide : 2 + 0 ≤ _)⟩)
 dsimp only [Pt.U, Pt.locs, Pt.cells, Pt.slots] at X16 lq16 yq16 zq16 st16 hQ16
 subst lq16 yq16 zq16
 obtain ⟨rfl, Nq16, eh16⟩ := hQ16
 have N16 := Fr.app N10h Nq16
 refine o_st (G' := T16.setTop (mkF m 21 #[(sR o1), (sR ca_1), (sI 1)] [(.int (o_lc c1)), (.int 1), (.ref ca_1)])) st16 ?_
 obtain ⟨_, X16h, N16h⟩ := o_hide X16 N16
 refine o_i2c X16h hx 22 (hb hby o_d4_21) ?_
 obtain ⟨cl17, Ar17, qv17, S17, M17, H17, G17⟩ := id V10
 have hin17 := inb_of (j := (1 : Int32)) S17 ⟨by decide, by decide⟩
 obtain ⟨T17, h17, X17, e17, W17, st17⟩ := stC X16h hx hZ eh16 Ar17 (j := (1 : Int32)) hin17 (g := (mkF m 22 #[(sR o1), (sR ca_1), (sI 1)] [(.int ((o_lc c1).toUInt32.toUInt16.toUInt32.toInt32)), (.int 1), (.ref ca_1)])) rfl rfl (hb hby o_d4_22)
 have V17 : Arv Z h17 ca_1 kc_1 .char 2 [(.int (nar .char ((o_lc c0).toUInt32.toUInt16.toUInt32.toInt32))), (.int (nar .char ((o_lc c1).toUInt32.toUInt16.toUInt32.toInt32)))] (.int 0) := Arv.set Ar17 qv17 S17 M17 H17 G17 (fits_nar_char _) W17 1 rfl (Nat.le_of_ble_eq_true rfl)
 have N17 := Fr.snoc X17 N16h gt_ca_1
 have O18 := O11.wr W17 gt_ca_1
 have KC19 := KC12.wr W17 (Or.inr sz_ca_1)
 have Z20 := Nat.le_trans Z13 (Nat.le_of_eq W17.size.symm)
 refine o_st (G' := T17.setTop (mkF m 23 #[(sR o1), (sR ca_1), (sI 1)] [])) st17 ?_
 obtain ⟨_, X17h, N17h⟩ := o_hide X17 N17
 refine o_iinc X17h hx 26 (1 : Int32) #[(sR o1), (sR ca_1), (sI 2)] (hb hby o_d4_23) rfl rfl rfl ?_
 refine o_goto X17h hx 7 (hb hby o_d4_26) ?_
 refine o_iloadN X17h hx 8 (hb hby o_d4_7) rfl ?_
 refine o_aloadN X17h hx 9 (hb hby o_d4_8) rfl rfl ?_
 obtain ⟨cl21, Ar21, qv21, S21, M21, H21, G21⟩ := id V17
 have ln21 := len_of S21 M21
 refine o_st (G' := T17.setTop (mkF m 10 #[(sR o1), (sR ca_1), (sI 2)] [(.int 2), (.int 2)])) (fun t k => X17h.arraylength hx (by rw [e17]; exact Ar21.1) (State.isArrayOf_alike hZ.alike Ar21.2.1) (g := (mkF m 9 #[(sR o1), (sR ca_1), (sI 2)] [(.ref ca_1), (.int 2)])) rfl rfl (hb hby o_d4_9) _ (by rw [ln21]; exact k)) ?_
 refine o_icmpYes X17h hx 29 (hb hby o_d4_10) (flt (by decide : ¬ ((2 : Int32) < (2 : Int32)))).2.1 ?_
 have V22 := V17
 rw [o_lcn hC0, o_lcn hC1] at V22
 obtain ⟨T23, h23, X23, e23, E23, A23, D23, -, st23⟩ := newO X17h hx hZ hown (W hw 44 rfl) (W hw 2 rfl) (W hw 3 rfl) e17 (g := (mkF m 29 #[(sR o1), (sR ca_1), (sI 2)] [])) rfl (hb hby o_d4_29) (by decide) (by decide)
 obtain ⟨b23, g23⟩ : ∃ z, z = h17.size := ⟨_, rfl⟩
 rw [← g23] at A23 D23 st23
 have gt_b23 : n0 ≤ b23 := Nat.le_trans Z20 (Nat.le_of_eq g23.symm)
 have sz_b23 : h0.size ≤ b23 := Nat.le_trans KC19.1 (Nat.le_of_eq g23.symm)
 have O29 := O18.ext E23
 have KC30 := KC19.ext E23
 have Z31 := Nat.le_trans Z20 E23.1
 have F23_value : Fld Z h23 b23 "java/lang/String" "value" "[B" .null := D23 (Or.inr (W hw 16 rfl)) (ty := (.array .byte)) (by decide)
 have F23_coder : Fld Z h23 b23 "java/lang/String" "coder" "B" (.int 0) := D23 (Or.inr (W hw 17 rfl)) (ty := .byte) (by decide)
 refine o_st (G' := T23.setTop (mkF m 32 #[(sR o1), (sR ca_1), (sI 2)] [(.ref b23)])) st23 ?_
 obtain ⟨_, X23h, N23h⟩ := o_hide X23 N17h
 refine o_dup X23h hx 33 (hb hby o_d4_32) rfl ?_
 refine o_aloadN X23h hx 34 (hb hby o_d4_33) rfl rfl ?_
 have f32 := (V22.ext E23)
 obtain ⟨_, _, ⟨T33, Lx33, kc33, nc33⟩, -, X33, ⟨Lc33, hQ33, lq33, yq33, zq33⟩, st33⟩ := X23h.specialBack hx (y := y29) rfl hown (mvT hZ (W hw 45 rfl)) (mvT hZ (W hw 5 rfl)) (mvT hZ (W hw 6 rfl)) (by decide) (backOf (W := 1) (o_rm1n2L l Z a0 hw [] cs sf GG b23 ca_1 kc_1 (o_lc c0) (o_lc c1) h23 n0 Z31 A23 F23_value F23_coder gt_b23 O29 f32 (o_lcC hC0 : o_C (o_lc c0)) (o_lcC hC1 : o_C (o_lc c1)) (o_lcL hC0 hL0 : ¬ (255 : Int32) < (o_lc c0)) (o_lcL hC1 hL1 : ¬ (255 : Int32) < (o_lc c1))) hZ (W hw 6 rfl) (W hw 3 rfl) (by decide) (by decide)) (g := (mkF m 34 #[(sR o1), (sR ca_1), (sI 2)] [(.ref ca_1), (.ref b23), (.ref b23)])) rfl (by rw [hml]; rfl) (Steps.refl _) (a := b23) (argsL := [(.ref ca_1)]) (rest := [(.ref b23)]) (lenOf o_pd21 rfl) rfl (o_wl rfl) (hb hby o_d4_34) (fun _ _ => ⟨rfl, e23, (by decide : 2 + 1 ≤ _), (by decide : 6 + 2 ≤ _)⟩)
 dsimp only [Pt.U, Pt.locs, Pt.cells, Pt.slots] at X33 lq33 yq33 zq33 st33 hQ33
 subst lq33 yq33 zq33
 obtain ⟨bb_33, kb_33, rfl, Nq33, Kp33, G33_0, G33_1, G33_2, G33_3, G33_4⟩ := hQ33
 have N33 := Fr.app N23h Nq33
 have sz_bb_33 : h0.size ≤ bb_33 := Nat.le_trans KC30.1 G33_1
 have KC41 := KC30.trans Kp33 (allS (Or.inr sz_b23) all0)
 refine o_st (G' := T33.setTop (mkF m 37 #[(sR o1), (sR ca_1), (sI 2)] [(.ref b23)])) (fun t k => st33.trans k) ?_
 obtain ⟨_, X33h, N33h⟩ := o_hide X33 N33
 exact o_retA (z := (.ref b23)) (Q := o_Q4n2L Z cs sf GG o1 bb kb c0 c1 h0 n0) X33h hx hrt rfl rfl (hb hby o_d4_37) hlk rfl ⟨b23, bb_33, kb_33, rfl, N33h, KC41, sz_b23, sz_bb_33, G33_0, G33_2, G33_3, G33_4⟩ (by decide) (by decide)
def o_Q11n2U (Z : State) (cs : Int32) (sf : Value) (GG : o_G Z cs sf) (o1 : Addr) (kc : ClassId) (c0 : Int32) (c1 : Int32) (h0 : Heap) (n0 : Nat) (v : Option Value) (h : Heap) (L : List Loc) : Prop := ∃ bb : Addr, ∃ kb : ClassId, v = some (.ref bb) ∧ Fr n0 L ∧ Keep h0 h [] ∧ h0.size ≤ bb ∧ Arv Z h bb kb .byte 4 [(.int (o_lo c0)), (.int (o_hi c0)), (.int (o_lo c1)), (.int (o_hi c1))] (.int 0)
set_option maxRecDepth 65536 in
set_option maxHeartbeats 40000000 in
theorem o_rm11n2U (l : Launch) (Z : State) (a0 : Array Value) (hw : o_Hw Z a0) (ws : List Jvm.Cond) (cs : Int32) (sf : Value) (GG : o_G Z cs sf) (o1 : Addr) (kc : ClassId) (c0 : Int32) (c1 : Int32) (h0 : Heap) (n0 : Nat) (Z0 : n0 ≤ h0.size) (pV1 : Arv Z h0 o1 kc .char 2 [(.int c0), (.int c1)] (.int 0)) (O0 : Old Z n0 h0) (hC0 : o_C c0) (hC1 : o_C c1) (hU : (255 : Int32) < c0 ∨ (255 : Int32) < c1) :
  o_Met l y27 jdk_52_method_16_code 6 (some (.array .byte)) ws r33 #[(.ref o1), (.int 0), (.int 2)] Z h0 (o_Q11n2U Z cs sf GG o1 kc c0 c1 h0 n0) := by
 refine MetFree.of_bodySF (plainFor_of_name o_pn4) hisR ?_
 intro p e s m args below meth c s₁ Bd hml0 hP hK
 obtain ⟨rfl, hZ, hh⟩ := hP
 obtain ⟨hx, hby, hlk, hrt⟩ := o_bd Bd
 have hml : c.maxLocals = 6 := hml0
 have hown : s.vm.findClass "java/lang/StringUTF16" = some m.cls := findClass_of_methodNamed Bd.named
 have X0 : Stand p l e r33 s m #[(.ref o1), (.int 0), (.int 2)] below meth c s₁ [] 0 0 := Stand.of_body Bd
 have e0 := o_e0 Bd hh
 have N0 := Fr.nil n0
 have KC0 := Keep.refl h0 []
 refine o_in (g' := mkF m 0 #[(sR o1), (sI 0), (sI 2), .unset, .unset, .unset] []) (by simp [entryFrame, mkF, argsToLocals, Value.category]) ?_
 by_cases hc0_1 : (255 : Int32) < c0
 ·refine o_iloadN X0 hx 1 (hb hby o_d11_0) rfl ?_
  obtain ⟨T2, h2, k2, X2, e2, E2, A2, st2⟩ := newP X0 hx hZ (W hw 15 rfl) e0 (g := (mkF m 1 #[(sR o1), (sI 0), (sI 2), .unset, .unset, .unset] [(.int 2)])) rfl (hb hby o_d11_1) rfl (by decide) (cap := 2) (by decide) (by decide) (by decide) (by decide)
  obtain ⟨b2, g2⟩ : ∃ z, z = h0.size := ⟨_, rfl⟩
  rw [← g2] at A2 st2
  have ne3 : o1 ≠ b2 := Nat.ne_of_lt (Nat.lt_of_lt_of_le pV1.lt (Nat.le_of_eq g2.symm))
  have gt_b2 : n0 ≤ b2 := Nat.le_trans Z0 (Nat.le_of_eq g2.symm)
  have sz_b2 : h0.size ≤ b2 := Nat.le_trans KC0.1 (Nat.le_of_eq g2.symm)
  have V2 : Arv Z h2 b2 k2 .byte 2 [(.int 0), (.int 0)] (.int 0) := (Arv.new A2 (by decide)).pad (pad_rep [] (.int 0) 2)
  have O4 := O0.ext E2
  have KC5 := KC0.ext E2
  have Z6 := Nat.le_trans Z0 E2.1
  refine o_st (G' := T2.setTop (mkF m 3 #[(sR o1), (sI 0), (sI 2), .unset, .unset, .unset] [(.ref b2)])) st2 ?_
  obtain ⟨_, X2h, N2h⟩ := o_hide X2 N0
  refine o_astoreN X2h hx 4 #[(sR o1), (sI 0), (sI 2), (sR b2), .unset, .unset] (hb hby o_d11_3) rfl rfl ?_
  refine o_aloadN X2h hx 5 (hb hby o_d11_4) rfl rfl ?_
  refine o_iloadN X2h hx 6 (hb hby o_d11_5) rfl ?_
  refine o_aloadN X2h hx 7 (hb hby o_d11_6) rfl rfl ?_
  refine o_iconst X2h hx 8 0 (hb hby o_d11_7) rfl ?_
  refine o_iloadN X2h hx 9 (hb hby o_d11_8) rfl ?_
  have f7 := (pV1.ext E2)
  obtain ⟨_, _, ⟨T8, Lx8, kc8, nc8⟩, -, X8, ⟨Lc8, hQ8, lq8, yq8, zq8⟩, st8⟩ := Jvm.LawKit.callS X2h hx (y := y26) hown (mvT hZ (W hw 60 rfl)) (mvT hZ (W hw 61 rfl)) (mvT hZ (W hw 58 rfl)) (mvT hZ (W hw 62 rfl)) (by decide) (backOf (W := 0) (o_rm12n2k0 l Z a0 hw [] o1 b2 k2 kc c0 c1 h2 n0 Z6 f7 V2 gt_b2 ne3 (hc0_1 : (255 : Int32) < c0)) hZ (W hw 62 rfl) (W hw 58 rfl) (by decide) (by decide)) (g := (mkF m 9 #[(sR o1), (sI 0), (sI 2), (sR b2), .unset, .unset] [(.int 2), (.int 0), (.ref b2), (.int 0), (.ref o1)])) rfl (by rw [hml]; rfl) (argsL := [(.ref o1), (.int 0), (.ref b2), (.int 0), (.int 2)]) (rest := []) (lenOf o_pd16 rfl) rfl (o_wl rfl) (hb hby o_d11_9) (fun _ _ => ⟨rfl, e2, (by decide : 1 + 0 ≤ _), (by decide : 2 + 0 ≤ _)⟩)
  dsimp only [Pt.U, Pt.locs, Pt.cells, Pt.slots] at X8 lq8 yq8 zq8 st8 hQ8
  subst lq8 yq8 zq8
  obtain ⟨rfl, Nq8, Kp8⟩ := hQ8
  have N8 := Fr.app N2h Nq8
  have O9 := O4.keep Kp8 (allS gt_b2 all0)
  have KC10 := KC5.trans Kp8 (allS (Or.inr sz_b2) all0)
  have Z11 := Nat.le_trans Z6 Kp8.1
  refine o_st (G' := T8.setTop (mkF m 12 #[(sR o1), (sI 0), (sI 2), (sR b2), .unset, .unset] [(.int 0)])) st8 ?_
  obtain ⟨_, X8h, N8h⟩ := o_hide X8 N8
  refine o_istore X8h hx 14 #[(sR o1), (sI 0), (sI 2), (sR b2), (sI 0), .unset] (hb hby o_d11_12) rfl ?_
  refine o_iload X8h hx 16 (hb hby o_d11_14) rfl ?_
  refine o_iloadN X8h hx 17 (hb hby o_d11_16) rfl ?_
  refine o_icmpNo X8h hx 20 (hb hby o_d11_17) (feq (by decide : ¬ ((0 : Int32) = (2 : Int32)))).1 ?_
  refine o_aloadN X8h hx 21 (hb hby o_d11_20) rfl rfl ?_
  refine o_iloadN X8h hx 22 (hb hby o_d11_21) rfl ?_
  refine o_iloadN X8h hx 23 (hb hby o_d11_22) rfl ?_
  have f12 := (f7.keep Kp8 (ninS ne3 nin0))
  obtain ⟨_, _, ⟨T13, Lx13, kc13, nc13⟩, -, X13, ⟨Lc13, hQ13, lq13, yq13, zq13⟩, st13⟩ := Jvm.LawKit.callS X8h hx (y := y17) hown (mvT hZ (W hw 89 rfl)) (mvT hZ (W hw 90 rfl)) (mvT hZ (W hw 58 rfl)) (mvT hZ (W hw 91 rfl)) (by decide) (backOf (W := 0) (o_rm20n2 l Z a0 hw [] cs sf GG o1 kc c0 c1 T8.heap n0 Z11 f12 O9) hZ (W hw 91 rfl) (W hw 58 rfl) (by decide) (by decide)) (g := (mkF m 23 #[(sR o1), (sI 0), (sI 2), (sR b2), (sI 0), .unset] [(.int 2), (.int 0), (.ref o1)])) rfl (by rw [hml]; rfl) (argsL := [(.ref o1), (.int 0), (.int 2)]) (rest := []) (lenOf o_pd17 rfl) rfl (o_wl rfl) (hb hby o_d11_23) (fun _ _ => ⟨rfl, rfl, (by decide : 1 + 1 ≤ _), (by decide : 2 + 4 ≤ _)⟩)
  dsimp only [Pt.U, Pt.locs, Pt.cells, Pt.slots] at X13 lq13 yq13 zq13 st13 hQ13
  subst lq13 yq13 zq13
  obtain ⟨bb_13, kb_13, rfl, Nq13, Kp13, G13_0, G13_1⟩ := hQ13
  have N13 := Fr.app N8h Nq13
  have sz_bb_13 : h0.size ≤ bb_13 := Nat.le_trans KC10.1 G13_0
  have O15 := O9.keep Kp13 all0
  have KC16 := KC10.trans Kp13 all0
  have Z17 := Nat.le_trans Z11 Kp13.1
  refine o_st (G' := T13.setTop (mkF m 26 #[(sR o1), (sI 0), (sI 2), (sR b2), (sI 0), .unset] [(.ref bb_13)])) st13 ?_
  obtain ⟨_, X13h, N13h⟩ := o_hide X13 N13
  refine o_astore X13h hx 28 #[(sR o1), (sI 0), (sI 2), (sR b2), (sI 0), (sR bb_13)] (hb hby o_d11_26) rfl rfl ?_
  refine o_aload X13h hx 30 (hb hby o_d11_28) rfl rfl ?_
  refine o_iload X13h hx 32 (hb hby o_d11_30) rfl ?_
  obtain ⟨_, _, ⟨T18, Lx18, kc18, nc18⟩, -, X18, ⟨Lc18, hQ18, lq18, yq18, zq18⟩, st18⟩ := Jvm.LawKit.callS X13h hx (y := y13) hown (mvT hZ (W hw 105 rfl)) (mvT hZ (W hw 106 rfl)) (mvT hZ (W hw 58 rfl)) (mvT hZ (W hw 107 rfl)) (by decide) (backOf (W := 0) (o_rm24n2i0 l Z a0 hw [] cs sf GG bb_13 kb_13 c0 c1 T13.heap n0 Z17 G13_1 O15 (hC0 : o_C c0)) hZ (W hw 107 rfl) (W hw 58 rfl) (by decide) (by decide)) (g := (mkF m 32 #[(sR o1), (sI 0), (sI 2), (sR b2), (sI 0), (sR bb_13)] [(.int 0), (.ref bb_13)])) rfl (by rw [hml]; rfl) (argsL := [(.ref bb_13), (.int 0)]) (rest := []) (lenOf o_pd7 rfl) rfl (o_wl rfl) (hb hby o_d11_32) (fun _ _ => ⟨rfl, rfl, (by decide : 2 + 0 ≤ _), (by decide : 6 + 0 ≤ _)⟩)
  dsimp only [Pt.U, Pt.locs, Pt.cells, Pt.slots] at X18 lq18 yq18 zq18 st18 hQ18
  subst lq18 yq18 zq18
  obtain ⟨rfl, Nq18, eh18⟩ := hQ18
  have N18 := Fr.app N13h Nq18
  refine o_st (G' := T18.setTop (mkF m 35 #[(sR o1), (sI 0), (sI 2), (sR b2), (sI 0), (sR bb_13)] [(.int c0)])) st18 ?_
  obtain ⟨_, X18h, N18h⟩ := o_hide X18 N18
  refine o_sipush X18h hx 38 255 (hb hby o_d11_35) rfl ?_
  refine o_icmpYes X18h hx 54 (hb hby o_d11_38) (tlt hc0_1).2.2.1 ?_
  refine o_aload X18h hx 56 (hb hby o_d11_54) rfl rfl ?_
  exact o_retA (z := (.ref bb_13)) (Q := o_Q11n2U Z cs sf GG o1 kc c0 c1 h0 n0) X18h hx hrt rfl rfl (hb hby o_d11_56) hlk eh18 ⟨bb_13, kb_13, rfl, N18h, KC16, sz_bb_13, G13_1⟩ (by decide) (by decide)
 ·have hl19 : (255 : Int32) < c1 := hU.resolve_left hc0_1
  refine o_iloadN X0 hx 1 (hb hby o_d11_0) rfl ?_
  obtain ⟨T20, h20, k20, X20, e20, E20, A20, st20⟩ := newP X0 hx hZ (W hw 15 rfl) e0 (g := (mkF m 1 #[(sR o1), (sI 0), (sI 2), .unset, .unset, .unset] [(.int 2)])) rfl (hb hby o_d11_1) rfl (by decide) (cap := 2) (by decide) (by decide) (by decide) (by decide)
  obtain ⟨b20, g20⟩ : ∃ z, z = h0.size := ⟨_, rfl⟩
  rw [← g20] at A20 st20
  have ne21 : o1 ≠ b20 := Nat.ne_of_lt (Nat.lt_of_lt_of_le pV1.lt (Nat.le_of_eq g20.symm))
  have gt_b20 : n0 ≤ b20 := Nat.le_trans Z0 (Nat.le_of_eq g20.symm)
  have sz_b20 : h0.size ≤ b20 := Nat.le_trans KC0.1 (Nat.le_of_eq g20.symm)
  have V20 : Arv Z h20 b20 k20 .byte 2 [(.int 0), (.int 0)] (.int 0) := (Arv.new A20 (by decide)).pad (pad_rep [] (.int 0) 2)
  have O22 := O0.ext E20
  have KC23 := KC0.ext E20
  have Z24 := Nat.le_trans Z0 E20.1
  refine o_st (G' := T20.setTop (mkF m 3 #[(sR o1), (sI 0), (sI 2), .unset, .unset, .unset] [(.ref b20)])) st20 ?_
  obtain ⟨_, X20h, N20h⟩ := o_hide X20 N0
  refine o_astoreN X20h hx 4 #[(sR o1), (sI 0), (sI 2), (sR b20), .unset, .unset] (hb hby o_d11_3) rfl rfl ?_
  refine o_aloadN X20h hx 5 (hb hby o_d11_4) rfl rfl ?_
  refine o_iloadN X20h hx 6 (hb hby o_d11_5) rfl ?_
  refine o_aloadN X20h hx 7 (hb hby o_d11_6) rfl rfl ?_
  refine o_iconst X20h hx 8 0 (hb hby o_d11_7) rfl ?_
  refine o_iloadN X20h hx 9 (hb hby o_d11_8) rfl ?_
  have f25 := (pV1.ext E20)
  obtain ⟨_, _, ⟨T26, Lx26, kc26, nc26⟩, -, X26, ⟨Lc26, hQ26, lq26, yq26, zq26⟩, st26⟩ := Jvm.LawKit.callS X20h hx (y := y26) hown (mvT hZ (W hw 60 rfl)) (mvT hZ (W hw 61 rfl)) (mvT hZ (W hw 58 rfl)) (mvT hZ (W hw 62 rfl)) (by decide) (backOf (W := 0) (o_rm12n2k1 l Z a0 hw [] o1 b20 k20 kc c0 c1 h20 n0 Z24 f25 V20 gt_b20 ne21 (hc0_1 : ¬ (255 : Int32) < c0) (hl19 : (255 : Int32) < c1)) hZ (W hw 62 rfl) (W hw 58 rfl) (by decide) (by decide)) (g := (mkF m 9 #[(sR o1), (sI 0), (sI 2), (sR b20), .unset, .unset] [(.int 2), (.int 0), (.ref b20), (.int 0), (.ref o1)])) rfl (by rw [hml]; rfl) (argsL := [(.ref o1), (.int 0), (.ref b20), (.int 0), (.int 2)]) (rest := []) (lenOf o_pd16 rfl) rfl (o_wl rfl) (hb hby o_d11_9) (fun _ _ => ⟨rfl, e20, (by decide : 1 + 0 ≤ _), (by decide : 2 + 0 ≤ _)⟩)
  dsimp only [Pt.U, Pt.locs, Pt.cells, Pt.slots] at X26 lq26 yq26 zq26 st26 hQ26
  subst lq26 yq26 zq26
  obtain ⟨rfl, Nq26, Kp26⟩ := hQ26
  have N26 := Fr.app N20h Nq26
  have O27 := O22.keep Kp26 (allS gt_b20 all0)
  have KC28 := KC23.trans Kp26 (allS (Or.inr sz_b20) all0)
  have Z29 := Nat.le_trans Z24 Kp26.1
  refine o_st (G' := T26.setTop (mkF m 12 #[(sR o1), (sI 0), (sI 2), (sR b20), .unset, .unset] [(.int 1)])) st26 ?_
  obtain ⟨_, X26h, N26h⟩ := o_hide X26 N26
  refine o_istore X26h hx 14 #[(sR o1), (sI 0), (sI 2), (sR b20), (sI 1), .unset] (hb hby o_d11_12) rfl ?_
  refine o_iload X26h hx 16 (hb hby o_d11_14) rfl ?_
  refine o_iloadN X26h hx 17 (hb hby o_d11_16) rfl ?_
  refine o_icmpNo X26h hx 20 (hb hby o_d11_17) (feq (by decide : ¬ ((1 : Int32) = (2 : Int32)))).1 ?_
  refine o_aloadN X26h hx 21 (hb hby o_d11_20) rfl rfl ?_
  refine o_iloadN X26h hx 22 (hb hby o_d11_21) rfl ?_
  refine o_iloadN X26h hx 23 (hb hby o_d11_22) rfl ?_
  have f30 := (f25.keep Kp26 (ninS ne21 nin0))
  obtain ⟨_, _, ⟨T31, Lx31, kc31, nc31⟩, -, X31, ⟨Lc31, hQ31, lq31, yq31, zq31⟩, st31⟩ := Jvm.LawKit.callS X26h hx (y := y17) hown (mvT hZ (W hw 89 rfl)) (mvT hZ (W hw 90 rfl)) (mvT hZ (W hw 58 rfl)) (mvT hZ (W hw 91 rfl)) (by decide) (backOf (W := 0) (o_rm20n2 l Z a0 hw [] cs sf GG o1 kc c0 c1 T26.heap n0 Z29 f30 O27) hZ (W hw 91 rfl) (W hw 58 rfl) (by decide) (by decide)) (g := (mkF m 23 #[(sR o1), (sI 0), (sI 2), (sR b20), (sI 1), .unset] [(.int 2), (.int 0), (.ref o1)])) rfl (by rw [hml]; rfl) (argsL := [(.ref o1), (.int 0), (.int 2)]) (rest := []) (lenOf o_pd17 rfl) rfl (o_wl rfl) (hb hby o_d11_23) (fun _ _ => ⟨rfl, rfl, (by decide : 1 + 1 ≤ _), (by decide : 2 + 4 ≤ _)⟩)
  dsimp only [Pt.U, Pt.locs, Pt.cells, Pt.slots] at X31 lq31 yq31 zq31 st31 hQ31
  subst lq31 yq31 zq31
  obtain ⟨bb_31, kb_31, rfl, Nq31, Kp31, G31_0, G31_1⟩ := hQ31
  have N31 := Fr.app N26h Nq31
  have sz_bb_31 : h0.size ≤ bb_31 := Nat.le_trans KC28.1 G31_0
  have O33 := O27.keep Kp31 all0
  have KC34 := KC28.trans Kp31 all0
  have Z35 := Nat.le_trans Z29 Kp31.1
  refine o_st (G' := T31.setTop (mkF m 26 #[(sR o1), (sI 0), (sI 2), (sR b20), (sI 1), .unset] [(.ref bb_31)])) st31 ?_
  obtain ⟨_, X31h, N31h⟩ := o_hide X31 N31
  refine o_astore X31h hx 28 #[(sR o1), (sI 0), (sI 2), (sR b20), (sI 1), (sR bb_31)] (hb hby o_d11_26) rfl rfl ?_
  refine o_aload X31h hx 30 (hb hby o_d11_28) rfl rfl ?_
  refine o_iload X31h hx 32 (hb hby o_d11_30) rfl ?_
  obtain ⟨_, _, ⟨T36, Lx36, kc36, nc36⟩, -, X36, ⟨Lc36, hQ36, lq36, yq36, zq36⟩, st36⟩ := Jvm.LawKit.callS X31h hx (y := y13) hown (mvT hZ (W hw 105 rfl)) (mvT hZ (W hw 106 rfl)) (mvT hZ (W hw 58 rfl)) (mvT hZ (W hw 107 rfl)) (by decide) (backOf (W := 0) (o_rm24n2i1 l Z a0 hw [] cs sf GG bb_31 kb_31 c0 c1 T31.heap n0 Z35 G31_1 O33 (hC1 : o_C c1)) hZ (W hw 107 rfl) (W hw 58 rfl) (by decide) (by decide)) (g := (mkF m 32 #[(sR o1), (sI 0), (sI 2), (sR b20), (sI 1), (sR bb_31)] [(.int 1), (.ref bb_31)])) rfl (by rw [hml]; rfl) (argsL := [(.ref bb_31), (.int 1)]) (rest := []) (lenOf o_pd7 rfl) rfl (o_wl rfl) (hb hby o_d11_32) (fun _ _ => ⟨rfl, rfl, (by decide : 2 + 0 ≤ _), (by decide : 6 + 0 ≤ _)⟩)
  dsimp only [Pt.U, Pt.locs, Pt.cells, Pt.slots] at X36 lq36 yq36 zq36 st36 hQ36
  subst lq36 yq36 zq36
  obtain ⟨rfl, Nq36, eh36⟩ := hQ36
  have N36 := Fr.app N31h Nq36
  refine o_st (G' := T36.setTop (mkF m 35 #[(sR o1), (sI 0), (sI 2), (sR b20), (sI 1), (sR bb_31)] [(.int c1)])) st36 ?_
  obtain ⟨_, X36h, N36h⟩ := o_hide X36 N36
  refine o_sipush X36h hx 38 255 (hb hby o_d11_35) rfl ?_
  refine o_icmpYes X36h hx 54 (hb hby o_d11_38) (tlt hl19).2.2.1 ?_
  refine o_aload X36h hx 56 (hb hby o_d11_54) rfl rfl ?_
  exact o_retA (z := (.ref bb_31)) (Q := o_Q11n2U Z cs sf GG o1 kc c0 c1 h0 n0) X36h hx hrt rfl rfl (hb hby o_d11_56) hlk eh36 ⟨bb_31, kb_31, rfl, N36h, KC34, sz_bb_31, G31_1⟩ (by decide) (by decide)
def o_Q2n2U (Z : State) (cs : Int32) (sf : Value) (GG : o_G Z cs sf) (o1 : Addr) (o2 : Addr) (kc : ClassId) (c0 : Int32) (c1 : Int32) (h0 : Heap) (n0 : Nat) (v : Option Value) (h : Heap) (L : List Loc) : Prop := ∃ bb : Addr, ∃ kb : ClassId, v = none ∧ Fr n0 L ∧ Keep h0 h [o1] ∧ Exa Z h o1 "java/lang/String" ∧ h0.size ≤ bb ∧ Fld Z h o1 "java/lang/String" "value" "[B" (.ref bb) ∧ Fld Z h o1 "java/lang/String" "coder" "B" (.int 1) ∧ Arv Z h bb kb .byte 4 [(.int (o_lo c0)), (.int (o_hi c0)), (.int (o_lo c1)), (.int (o_hi c1))] (.int 0)
set_option maxRecDepth 65536 in
set_option maxHeartbeats 40000000 in
theorem o_rm2n2U (l : Launch) (Z : State) (a0 : Array Value) (hw : o_Hw Z a0) (ws : List Jvm.Cond) (cs : Int32) (sf : Value) (GG : o_G Z cs sf) (o1 : Addr) (o2 : Addr) (kc : ClassId) (c0 : Int32) (c1 : Int32) (h0 : Heap) (n0 : Nat) (Z0 : n0 ≤ h0.size) (pE1 : Exa Z h0 o1 "java/lang/String") (pF2 : Fld Z h0 o1 "java/lang/String" "value" "[B" .null) (pF3 : Fld Z h0 o1 "java/lang/String" "coder" "B" (.int 0)) (pG4 : n0 ≤ o1) (O0 : Old Z n0 h0) (pV6 : Arv Z h0 o2 kc .char 2 [(.int c0), (.int c1)] (.int 0)) (hC0 : o_C c0) (hC1 : o_C c1) (hU : (255 : Int32) < c0 ∨ (255 : Int32) < c1) :
  o_Met l y28 jdk_42_method_149_code 6 none ws r34 #[(.ref o1), (.ref o2), (.int 0), (.int 2), .null] Z h0 (o_Q2n2U Z cs sf GG o1 o2 kc c0 c1 h0 n0) := by
 refine MetFree.of_bodySF (plainFor_of_name o_pn3) hisR ?_
 intro p e s m args below meth c s₁ Bd hml0 hP hK
 obtain ⟨rfl, hZ, hh⟩ := hP
 obtain ⟨hx, hby, hlk, hrt⟩ := o_bd Bd
 have hml : c.maxLocals = 6 := hml0
 have hown : s.vm.findClass "java/lang/String" = some m.cls := findClass_of_methodNamed Bd.named
 have hnm := (name_of_methodNamed Bd.named Bd.method).1
 have X0 : Stand p l e r34 s m #[(.ref o1), (.ref o2), (.int 0), (.int 2), .null] below meth c s₁ [] 0 0 := Stand.of_body Bd
 have e0 := o_e0 Bd hh
 have N0 := Fr.nil n0
 have KC0 := Keep.refl h0 [o1]
 refine o_in (g' := mkF m 0 #[(sR o1), (sR o2), (sI 0), (sI 2), .val .null, .unset] []) (by simp [entryFrame, mkF, argsToLocals, Value.category]) ?_
 refine o_aloadN X0 hx 1 (hb hby o_d2_0) rfl rfl ?_
 obtain ⟨T1, X1, e1, st1⟩ := initO X0 hx hZ hown (W hw 11 rfl) (W hw 12 rfl) (W hw 13 rfl) e0 (g := (mkF m 1 #[(sR o1), (sR o2), (sI 0), (sI 2), .val .null, .unset] [(.ref o1)])) rfl (by rw [hml]; rfl) rfl (hb hby o_d2_1) (by decide) (W := 0) (o_wl rfl) (by decide)
 refine o_st (G' := T1.setTop (mkF m 4 #[(sR o1), (sR o2), (sI 0), (sI 2), .val .null, .unset] [])) st1 ?_
 obtain ⟨_, X1h, N1h⟩ := o_hide X1 N0
 refine o_iloadN X1h hx 5 (hb hby o_d2_4) rfl ?_
 refine o_ifYes X1h hx 27 (hb hby o_d2_5) (feq (by decide : ¬ ((2 : Int32) = (0 : Int32)))).2 ?_
 obtain ⟨T2, X2, e2, st2⟩ := getS2 X1h hx hZ hown (host := "") (Or.inl (W hw 36 rfl)) Via.refl e1 (GG.1.ext O0.2) (g := (mkF m 27 #[(sR o1), (sR o2), (sI 0), (sI 2), .val .null, .unset] [])) rfl (hb hby o_d2_27)
 refine o_st (G' := T2.setTop (mkF m 30 #[(sR o1), (sR o2), (sI 0), (sI 2), .val .null, .unset] [(.int cs)])) st2 ?_
 obtain ⟨_, X2h, N2h⟩ := o_hide X2 N1h
 refine o_ifNo X2h hx 33 (hb hby o_d2_30) (feq (GG.2.1 : ¬ (cs = (0 : Int32)))).1 ?_
 refine o_aloadN X2h hx 34 (hb hby o_d2_33) rfl rfl ?_
 refine o_iloadN X2h hx 35 (hb hby o_d2_34) rfl ?_
 refine o_iloadN X2h hx 36 (hb hby o_d2_35) rfl ?_
 obtain ⟨_, _, ⟨T3, Lx3, kc3, nc3⟩, -, X3, ⟨Lc3, hQ3, lq3, yq3, zq3⟩, st3⟩ := Jvm.LawKit.callS X2h hx (y := y27) hown (mvT hZ (W hw 56 rfl)) (mvT hZ (W hw 57 rfl)) (mvT hZ (W hw 58 rfl)) (mvT hZ (W hw 59 rfl)) (by decide) (backOf (W := 0) (o_rm11n2U l Z a0 hw [] cs sf GG o2 kc c0 c1 h0 n0 Z0 pV6 O0 (hC0 : o_C c0) (hC1 : o_C c1) (hU : (255 : Int32) < c0 ∨ (255 : Int32) < c1)) hZ (W hw 59 rfl) (W hw 58 rfl) (by decide) (by decide)) (g := (mkF m 36 #[(sR o1), (sR o2), (sI 0), (sI 2), .val .null, .unset] [(.int 2), (.int 0), (.ref o2)])) rfl (by rw [hml]; rfl) (argsL := [(.ref o2), (.int 0), (.int 2)]) (rest := []) (lenOf o_pd17 rfl) rfl (o_wl rfl) (hb hby o_d2_36) (fun _ _ => ⟨rfl, e2, (by decide : 0 + 2 ≤ _), (by decide : 0 + 6 ≤ _)⟩)
 dsimp only [Pt.U, Pt.locs, Pt.cells, Pt.slots] at X3 lq3 yq3 zq3 st3 hQ3
 subst lq3 yq3 zq3
 obtain ⟨bb_3, kb_3, rfl, Nq3, Kp3, G3_0, G3_1⟩ := hQ3
 have N3 := Fr.app N2h Nq3
 have ne4 : o1 ≠ bb_3 := Nat.ne_of_lt (Nat.lt_of_lt_of_le pE1.lt G3_0)
 have sz_bb_3 : h0.size ≤ bb_3 := Nat.le_trans KC0.1 G3_0
 have KC7 := KC0.trans Kp3 all0
 have Z8 := Nat.le_trans Z0 Kp3.1
 refine o_st (G' := T3.setTop (mkF m 39 #[(sR o1), (sR o2), (sI 0), (sI 2), .val .null, .unset] [(.ref bb_3)])) st3 ?_
 obtain ⟨_, X3h, N3h⟩ := o_hide X3 N3
 refine o_astore X3h hx 41 #[(sR o1), (sR o2), (sI 0), (sI 2), .val .null, (sR bb_3)] (hb hby o_d2_39) rfl rfl ?_
 refine o_aloadN X3h hx 42 (hb hby o_d2_41) rfl rfl ?_
 refine o_aload X3h hx 44 (hb hby o_d2_42) rfl rfl ?_
 refine o_iloadN X3h hx 45 (hb hby o_d2_44) rfl ?_
 obtain ⟨_, _, ⟨T9, Lx9, kc9, nc9⟩, -, X9, ⟨Lc9, hQ9, lq9, yq9, zq9⟩, st9⟩ := Jvm.LawKit.callS X3h hx (y := y22) hown (mvT hZ (W hw 63 rfl)) (mvT hZ (W hw 64 rfl)) (mvT hZ (W hw 58 rfl)) (mvT hZ (W hw 65 rfl)) (by decide) (backOf (W := 1) (o_rm13n2U l Z a0 hw [] bb_3 kb_3 [(.int (o_lo c0)), (.int (o_hi c0)), (.int (o_lo c1)), (.int (o_hi c1))] T3.heap n0 Z8 G3_1) hZ (W hw 65 rfl) (W hw 58 rfl) (by decide) (by decide)) (g := (mkF m 45 #[(sR o1), (sR o2), (sI 0), (sI 2), .val .null, (sR bb_3)] [(.int 2), (.ref bb_3), (.ref o1)])) rfl (by rw [hml]; rfl) (argsL := [(.ref bb_3), (.int 2)]) (rest := [(.ref o1)]) (lenOf o_pd18 rfl) rfl (o_wl rfl) (hb hby o_d2_45) (fun _ _ => ⟨rfl, rfl, (by decide : 2 + 0 ≤ _), (by decide : 6 + 0 ≤ _)⟩)
 dsimp only [Pt.U, Pt.locs, Pt.cells, Pt.slots] at X9 lq9 yq9 zq9 st9 hQ9
 subst lq9 yq9 zq9
 obtain ⟨rfl, Nq9, eh9⟩ := hQ9
 have N9 := Fr.app N3h Nq9
 refine o_st (G' := T9.setTop (mkF m 48 #[(sR o1), (sR o2), (sI 0), (sI 2), .val .null, (sR bb_3)] [(.int 1), (.ref o1)])) st9 ?_
 obtain ⟨_, X9h, N9h⟩ := o_hide X9 N9
 have f10 := (pF3.keep Kp3 nin0)
 have f11 := (pE1.keep Kp3)
 obtain ⟨T12, h12, X12, e12, W12, st12⟩ := putFN X9h hx hZ hown (W hw 21 rfl) Via.refl eh9 f10 f11 (Or.inr ⟨(W hw 17 rfl), rfl, hnm⟩) (W hw 2 rfl) (ty := .byte) (v' := (.int 1)) (by decide) rfl rfl (g := (mkF m 48 #[(sR o1), (sR o2), (sI 0), (sI 2), .val .null, (sR bb_3)] [(.int 1), (.ref o1)])) rfl rfl (hb hby o_d2_48)
 have Fw12 := f10.same W12
 have N12 := Fr.snoc X12 N9h pG4
 have KC14 := KC7.wr W12 (Or.inl (List.mem_of_getElem? (i := 0) rfl))
 refine o_st (G' := T12.setTop (mkF m 51 #[(sR o1), (sR o2), (sI 0), (sI 2), .val .null, (sR bb_3)] [])) st12 ?_
 obtain ⟨_, X12h, N12h⟩ := o_hide X12 N12
 refine o_aloadN X12h hx 52 (hb hby o_d2_51) rfl rfl ?_
 refine o_aload X12h hx 54 (hb hby o_d2_52) rfl rfl ?_
 have f16 := ((pF2.keep Kp3 nin0).other W12 (Or.inr (slot_ne (Or.inr (W hw 16 rfl)) (Or.inr (W hw 17 rfl)) (by decide) (t := (.array .byte)) (t' := .byte) (by decide) (by decide))))
 have f17 := (f11.wr W12)
 obtain ⟨T18, h18, X18, e18, W18, st18⟩ := putF X12h hx hZ hown (host := "") (Or.inl (W hw 20 rfl)) Via.refl e12 f16 f17 (Or.inr ⟨(W hw 16 rfl), rfl, hnm⟩) (W hw 2 rfl) (v := (.ref bb_3)) (ty := (.array .byte)) (by decide) rfl rfl (g := (mkF m 54 #[(sR o1), (sR o2), (sI 0), (sI 2), .val .null, (sR bb_3)] [(.ref bb_3), (.ref o1)])) rfl rfl (hb hby o_d2_54)
 have Fw18 := f16.same W18
 have N18 := Fr.snoc X18 N12h pG4
 have KC20 := KC14.wr W18 (Or.inl (List.mem_of_getElem? (i := 0) rfl))
 refine o_st (G' := T18.setTop (mkF m 57 #[(sR o1), (sR o2), (sI 0), (sI 2), .val .null, (sR bb_3)] [])) st18 ?_
 obtain ⟨_, X18h, N18h⟩ := o_hide X18 N18
 have f22 := (f17.wr W18)
 have f23 := (Fw12.other W18 (Or.inr (slot_ne (Or.inr (W hw 17 rfl)) (Or.inr (W hw 16 rfl)) (by decide) (t := .byte) (t' := (.array .byte)) (by decide) (by decide))))
 have f24 := ((G3_1.other W12 (Ne.symm ne4)).other W18 (Ne.symm ne4))
 exact o_retV (Q := o_Q2n2U Z cs sf GG o1 o2 kc c0 c1 h0 n0) X18h hx hrt (hb hby o_d2_57) hlk e18 ⟨bb_3, kb_3, rfl, N18h, KC20, f22, sz_bb_3, Fw18, f23, f24⟩ (by decide) (by decide)
def o_Q1n2U (Z : State) (cs : Int32) (sf : Value) (GG : o_G Z cs sf) (o1 : Addr) (o2 : Addr) (kc : ClassId) (c0 : Int32) (c1 : Int32) (h0 : Heap) (n0 : Nat) (v : Option Value) (h : Heap) (L : List Loc) : Prop := ∃ bb : Addr, ∃ kb : ClassId, v = none ∧ Fr n0 L ∧ Keep h0 h [o1] ∧ Exa Z h o1 "java/lang/String" ∧ h0.size ≤ bb ∧ Fld Z h o1 "java/lang/String" "value" "[B" (.ref bb) ∧ Fld Z h o1 "java/lang/String" "coder" "B" (.int 1) ∧ Arv Z h bb kb .byte 4 [(.int (o_lo c0)), (.int (o_hi c0)), (.int (o_lo c1)), (.int (o_hi c1))] (.int 0)
set_option maxRecDepth 65536 in
set_option maxHeartbeats 40000000 in
theorem o_rm1n2U (l : Launch) (Z : State) (a0 : Array Value) (hw : o_Hw Z a0) (ws : List Jvm.Cond) (cs : Int32) (sf : Value) (GG : o_G Z cs sf) (o1 : Addr) (o2 : Addr) (kc : ClassId) (c0 : Int32) (c1 : Int32) (h0 : Heap) (n0 : Nat) (Z0 : n0 ≤ h0.size) (pE1 : Exa Z h0 o1 "java/lang/String") (pF2 : Fld Z h0 o1 "java/lang/String" "value" "[B" .null) (pF3 : Fld Z h0 o1 "java/lang/String" "coder" "B" (.int 0)) (pG4 : n0 ≤ o1) (O0 : Old Z n0 h0) (pV6 : Arv Z h0 o2 kc .char 2 [(.int c0), (.int c1)] (.int 0)) (hC0 : o_C c0) (hC1 : o_C c1) (hU : (255 : Int32) < c0 ∨ (255 : Int32) < c1) :
  o_Met l y29 jdk_42_method_3_code 2 none ws r35 #[(.ref o1), (.ref o2)] Z h0 (o_Q1n2U Z cs sf GG o1 o2 kc c0 c1 h0 n0) := by
 refine MetFree.of_bodySF (plainFor_of_name o_pn3) hisR ?_
 intro p e s m args below meth c s₁ Bd hml0 hP hK
 obtain ⟨rfl, hZ, hh⟩ := hP
 obtain ⟨hx, hby, hlk, hrt⟩ := o_bd Bd
 have hml : c.maxLocals = 2 := hml0
 have hown : s.vm.findClass "java/lang/String" = some m.cls := findClass_of_methodNamed Bd.named
 have X0 : Stand p l e r35 s m #[(.ref o1), (.ref o2)] below meth c s₁ [] 0 0 := Stand.of_body Bd
 have e0 := o_e0 Bd hh
 have N0 := Fr.nil n0
 have KC0 := Keep.refl h0 [o1]
 refine o_in (g' := mkF m 0 #[(sR o1), (sR o2)] []) (by simp [entryFrame, mkF, argsToLocals, Value.category]) ?_
 refine o_aloadN X0 hx 1 (hb hby o_d1_0) rfl rfl ?_
 refine o_aloadN X0 hx 2 (hb hby o_d1_1) rfl rfl ?_
 refine o_iconst X0 hx 3 0 (hb hby o_d1_2) rfl ?_
 refine o_aloadN X0 hx 4 (hb hby o_d1_3) rfl rfl ?_
 obtain ⟨cl1, Ar1, qv1, S1, M1, H1, G1⟩ := id pV6
 have ln1 := len_of S1 M1
 refine o_st (G' := s₁.setTop (mkF m 5 #[(sR o1), (sR o2)] [(.int 2), (.int 0), (.ref o2), (.ref o1)])) (fun t k => X0.arraylength hx (by rw [e0]; exact Ar1.1) (State.isArrayOf_alike hZ.alike Ar1.2.1) (g := (mkF m 4 #[(sR o1), (sR o2)] [(.ref o2), (.int 0), (.ref o2), (.ref o1)])) rfl rfl (hb hby o_d1_4) _ (by rw [ln1]; exact k)) ?_
 refine o_aconstNull X0 hx 6 (hb hby o_d1_5) ?_
 obtain ⟨_, _, ⟨T2, Lx2, kc2, nc2⟩, -, X2, ⟨Lc2, hQ2, lq2, yq2, zq2⟩, st2⟩ := X0.specialBack hx (y := y28) rfl hown (mvT hZ (W hw 7 rfl)) (mvT hZ (W hw 8 rfl)) (mvT hZ (W hw 10 rfl)) (by decide) (backOf (W := 0) (o_rm2n2U l Z a0 hw [] cs sf GG o1 o2 kc c0 c1 h0 n0 Z0 pE1 pF2 pF3 pG4 O0 pV6 (hC0 : o_C c0) (hC1 : o_C c1) (hU : (255 : Int32) < c0 ∨ (255 : Int32) < c1)) hZ (W hw 10 rfl) (W hw 3 rfl) (by decide) (by decide)) (g := (mkF m 6 #[(sR o1), (sR o2)] [.null, (.int 2), (.int 0), (.ref o2), (.ref o1)])) rfl (by rw [hml]; rfl) (Steps.refl _) (a := o1) (argsL := [(.ref o2), (.int 0), (.int 2), .null]) (rest := []) (lenOf o_pd19 rfl) rfl (o_wl rfl) (hb hby o_d1_6) (fun _ _ => ⟨rfl, e0, (by decide : 0 + 2 ≤ _), (by decide : 0 + 6 ≤ _)⟩)
 dsimp only [Pt.U, Pt.locs, Pt.cells, Pt.slots] at X2 lq2 yq2 zq2 st2 hQ2
 subst lq2 yq2 zq2
 obtain ⟨bb_2, kb_2, rfl, Nq2, Kp2, G2_0, G2_1, G2_2, G2_3, G2_4⟩ := hQ2
 have N2 := Fr.app N0 Nq2
 have sz_bb_2 : h0.size ≤ bb_2 := Nat.le_trans KC0.1 G2_1
 have KC6 := KC0.trans Kp2 (allS (Or.inl (List.mem_of_getElem? (i := 0) rfl)) all0)
 refine o_st (G' := T2.setTop (mkF m 9 #[(sR o1), (sR o2)] [])) (fun t k => st2.trans k) ?_
 obtain ⟨_, X2h, N2h⟩ := o_hide X2 N2
 exact o_retV (Q := o_Q1n2U Z cs sf GG o1 o2 kc c0 c1 h0 n0) X2h hx hrt (hb hby o_d1_9) hlk rfl ⟨bb_2, kb_2, rfl, N2h, KC6, G2_0, sz_bb_2, G2_2, G2_3, G2_4⟩ (by decide) (by decide)
def o_Q4n2U (Z : State) (cs : Int32) (sf : Value) (GG : o_G Z cs sf) (o1 : Addr) (bb : Addr) (kb : ClassId) (c0 : Int32) (c1 : Int32) (h0 : Heap) (n0 : Nat) (v : Option Value) (h : Heap) (L : List Loc) : Prop := ∃ so : Addr, ∃ b2 : Addr, ∃ k2 : ClassId, v = some (.ref so) ∧ Fr n0 L ∧ Keep h0 h [] ∧ h0.size ≤ so ∧ h0.size ≤ b2 ∧ Exa Z h so "java/lang/String" ∧ Fld Z h so "java/lang/String" "value" "[B" (.ref b2) ∧ Fld Z h so "java/lang/String" "coder" "B" (.int 1) ∧ Arv Z h b2 k2 .byte 4 [(.int (o_lo (o_lc c0))), (.int (o_hi (o_lc c0))), (.int (o_lo (o_lc c1))), (.int (o_hi (o_lc c1)))] (.int 0)
set_option maxRecDepth 65536 in
set_option maxHeartbeats 40000000 in
theorem o_rm4n2U (l : Launch) (Z : State) (a0 : Array Value) (hw : o_Hw Z a0) (ws : List Jvm.Cond) (cs : Int32) (sf : Value) (GG : o_G Z cs sf) (o1 : Addr) (bb : Addr) (kb : ClassId) (c0 : Int32) (c1 : Int32) (h0 : Heap) (n0 : Nat) (Z0 : n0 ≤ h0.size) (pE1 : Exa Z h0 o1 "java/lang/String") (pF2 : Fld Z h0 o1 "java/lang/String" "value" "[B" (.ref bb)) (pF3 : Fld Z h0 o1 "java/lang/String" "coder" "B" (.int 1)) (pV4 : Arv Z h0 bb kb .byte 4 [(.int (o_lo c0)), (.int (o_hi c0)), (.int (o_lo c1)), (.int (o_hi c1))] (.int 0)) (O0 : Old Z n0 h0) (hC0 : o_C c0) (hC1 : o_C c1) (hU : (255 : Int32) < c0 ∨ (255 : Int32) < c1) :
  o_Met l y30 prog_1_method_4_code 3 (some (.object "java/lang/String")) ws r36 #[(.ref o1)] Z h0 (o_Q4n2U Z cs sf GG o1 bb kb c0 c1 h0 n0) := by
 refine MetFree.of_bodySF (plainFor_of_name o_pn0) hisR ?_
 intro p e s m args below meth c s₁ Bd hml0 hP hK
 obtain ⟨rfl, hZ, hh⟩ := hP
 obtain ⟨hx, hby, hlk, hrt⟩ := o_bd Bd
 have hml : c.maxLocals = 3 := hml0
 have hown : s.vm.findClass "com/example/orbweaver/orbweaver/AsciiText" = some m.cls := findClass_of_methodNamed Bd.named
 have X0 : Stand p l e r36 s m #[(.ref o1)] below meth c s₁ [] 0 0 := Stand.of_body Bd
 have e0 := o_e0 Bd hh
 have N0 := Fr.nil n0
 have KC0 := Keep.refl h0 []
 refine o_in (g' := mkF m 0 #[(sR o1), .unset, .unset] []) (by simp [entryFrame, mkF, argsToLocals, Value.category]) ?_
 refine o_aloadN X0 hx 1 (hb hby o_d4_0) rfl rfl ?_
 obtain ⟨cq1, kq1, q1a, q1b, q1c⟩ := isOf hZ e0 pE1
 obtain ⟨_, _, ⟨T1, Lx1, kc1, nc1⟩, -, X1, ⟨Lc1, hQ1, lq1, yq1, zq1⟩, st1⟩ := X0.virtualBack hx (y := y21) (z := y21) hown (mvT hZ (W hw 26 rfl)) (mvT hZ (W hw 27 rfl)) (notFace_of_selects (args := #[]) (mvT hZ (W hw 29 rfl))) (mvT hZ (W hw 29 rfl)) (mvT hZ (W hw 28 rfl)) (by decide) (backOf (W := 0) (o_rm5n2U l Z a0 hw [] cs sf GG o1 bb kb c0 c1 h0 n0 Z0 pE1 pF2 pF3 pV4 O0 (hC0 : o_C c0) (hC1 : o_C c1)) hZ (W hw 30 rfl) (W hw 3 rfl) (by decide) (by decide)) q1a q1c (g := (mkF m 1 #[(sR o1), .unset, .unset] [(.ref o1)])) rfl (by rw [hml]; rfl) (Steps.refl _) (argsL := []) (rest := []) (lenOf o_pd20 rfl) rfl (o_wl rfl) (hb hby o_d4_1) (fun _ _ => ⟨rfl, e0, (by decide : 0 + 1 ≤ _), (by decide : 0 + 2 ≤ _)⟩)
 dsimp only [Pt.U, Pt.locs, Pt.cells, Pt.slots] at X1 lq1 yq1 zq1 st1 hQ1
 subst lq1 yq1 zq1
 obtain ⟨ca_1, kc_1, rfl, Nq1, Kp1, G1_0, G1_1⟩ := hQ1
 have N1 := Fr.app N0 Nq1
 have gt_ca_1 : n0 ≤ ca_1 := Nat.le_trans Z0 G1_0
 have sz_ca_1 : h0.size ≤ ca_1 := Nat.le_trans KC0.1 G1_0
 have O4 := O0.keep Kp1 all0
 have KC5 := KC0.trans Kp1 all0
 have Z6 := Nat.le_trans Z0 Kp1.1
 refine o_st (G' := T1.setTop (mkF m 4 #[(sR o1), .unset, .unset] [(.ref ca_1)])) (fun t k => st1.trans k) ?_
 obtain ⟨_, X1h, N1h⟩ := o_hide X1 N1
 refine o_astoreN X1h hx 5 #[(sR o1), (sR ca_1), .unset] (hb hby o_d4_4) rfl rfl ?_
 refine o_iconst X1h hx 6 0 (hb hby o_d4_5) rfl ?_
 refine o_istoreN X1h hx 7 #[(sR o1), (sR ca_1), (sI 0)] (hb hby o_d4_6) rfl ?_
 refine o_iloadN X1h hx 8 (hb hby o_d4_7) rfl ?_
 refine o_aloadN X1h hx 9 (hb hby o_d4_8) rfl rfl ?_
 obtain ⟨cl7, Ar7, qv7, S7, M7, H7, G7⟩ := id G1_1
 have ln7 := len_of S7 M7
 refine o_st (G' := T1.setTop (mkF m 10 #[(sR o1), (sR ca_1), (sI 0)] [(.int 2), (.int 0)])) (fun t k => X1h.arraylength hx Ar7.1 (State.isArrayOf_alike hZ.alike Ar7.2.1) (g := (mkF m 9 #[(sR o1), (sR ca_1), (sI 0)] [(.ref ca_1), (.int 0)])) rfl rfl (hb hby o_d4_9) _ (by rw [ln7]; exact k)) ?_
 refine o_icmpNo X1h hx 13 (hb hby o_d4_10) (tlt (by decide : (0 : Int32) < (2 : Int32))).2.1 ?_
 refine o_aloadN X1h hx 14 (hb hby o_d4_13) rfl rfl ?_
 refine o_iloadN X1h hx 15 (hb hby o_d4_14) rfl ?_
 refine o_aloadN X1h hx 16 (hb hby o_d4_15) rfl rfl ?_
 refine o_iloadN X1h hx 17 (hb hby o_d4_16) rfl ?_
 obtain ⟨cl8, Ar8, qv8, S8, M8, H8, G8⟩ := id G1_1
 have hin8 := inb_of (j := (0 : Int32)) S8 ⟨by decide, by decide⟩
 refine o_st (G' := T1.setTop (mkF m 18 #[(sR o1), (sR ca_1), (sI 0)] [(.int c0), (.int 0), (.ref ca_1)])) (fun t k => X1h.caload hx (j := (0 : Int32)) (v := (.int c0)) Ar8.1 (State.isArrayOf_alike hZ.alike Ar8.2.1) Ar8.2.2 hin8 (H8.at hin8 rfl) (g := (mkF m 17 #[(sR o1), (sR ca_1), (sI 0)] [(.int 0), (.ref ca_1), (.int 0), (.ref ca_1)])) rfl rfl (hb hby o_d4_17) _ k) ?_
 obtain ⟨_, _, ⟨T9, Lx9, kc9, nc9⟩, -, X9, ⟨Lc9, hQ9, lq9, yq9, zq9⟩, st9⟩ := Jvm.LawKit.callS X1h hx (y := y0) hown (mvT hZ (W hw 66 rfl)) (mvT hZ (W hw 67 rfl)) (mvT hZ (W hw 24 rfl)) (mvT hZ (W hw 68 rfl)) (by decide) (backOf (W := 2) (o_rm14 l Z a0 hw [] c0 T1.heap n0 Z6 ) hZ (W hw 68 rfl) (W hw 24 rfl) (by decide) (by decide)) (g := (mkF m 18 #[(sR o1), (sR ca_1), (sI 0)] [(.int c0), (.int 0), (.ref ca_1)])) rfl (by rw [hml]; rfl) (argsL := [(.int c0)]) (rest := [(.int 0), (.ref ca_1)]) (lenOf o_pd4 rfl) rfl (o_wl rfl) (hb hby o_d4_18) (fun _ _ => ⟨rfl, rfl, (by decide : 1 + 0 ≤ _), (by decide : 2 + 0 ≤ _)⟩)
 dsimp only [Pt.U, Pt.locs, Pt.cells, Pt.slots] at X9 lq9 yq9 zq9 st9 hQ9
 subst lq9 yq9 zq9
 obtain ⟨rfl, Nq9, eh9⟩ := hQ9
 have N9 := Fr.app N1h Nq9
 refine o_st (G' := T9.setTop (mkF m 21 #[(sR o1), (sR ca_1), (sI 0)] [(.int (o_lc c0)), (.int 0), (.ref ca_1)])) st9 ?_
 obtain ⟨_, X9h, N9h⟩ := o_hide X9 N9
 refine o_i2c X9h hx 22 (hb hby o_d4_21) ?_
 obtain ⟨cl10, Ar10, qv10, S10, M10, H10, G10⟩ := id G1_1
 have hin10 := inb_of (j := (0 : Int32)) S10 ⟨by decide, by decide⟩
 obtain ⟨T10, h10, X10, e10, W10, st10⟩ := stC X9h hx hZ eh9 Ar10 (j := (0 : Int32)) hin10 (g := (mkF m 22 #[(sR o1), (sR ca_1), (sI 0)] [(.int ((o_lc c0).toUInt32.toUInt16.toUInt32.toInt32)), (.int 0), (.ref ca_1)])) rfl rfl (hb hby o_d4_22)
 have V10 : Arv Z h10 ca_1 kc_1 .char 2 [(.int (nar .char ((o_lc c0).toUInt32.toUInt16.toUInt32.toInt32))), (.int c1)] (.int 0) := Arv.set Ar10 qv10 S10 M10 H10 G10 (fits_nar_char _) W10 0 rfl (Nat.le_of_ble_eq_true rfl)
 have N10 := Fr.snoc X10 N9h gt_ca_1
 have O11 := O4.wr W10 gt_ca_1
 have KC12 := KC5.wr W10 (Or.inr sz_ca_1)
 have Z13 := Nat.le_trans Z6 (Nat.le_of_eq W10.size.symm)
 refine o_st (G' := T10.setTop (mkF m 23 #[(sR o1), (sR ca_1), (sI 0)] [])) st10 ?_
 obtain ⟨_, X10h, N10h⟩ := o_hide X10 N10
 refine o_iinc X10h hx 26 (1 : Int32) #[(sR o1), (sR ca_1), (sI 1)] (hb hby o_d4_23) rfl rfl rfl ?_
 refine o_goto X10h hx 7 (hb hby o_d4_26) ?_
 refine o_iloadN X10h hx 8 (hb hby o_d4_7) rfl ?_
 refine o_aloadN X10h hx 9 (hb hby o_d4_8) rfl rfl ?_
 obtain ⟨cl14, Ar14, qv14, S14, M14, H14, G14⟩ := id V10
 have ln14 := len_of S14 M14
 refine o_st (G' := T10.setTop (mkF m 10 #[(sR o1), (sR ca_1), (sI 1)] [(.int 2), (.int 1)])) (fun t k => X10h.arraylength hx (by rw [e10]; exact Ar14.1) (State.isArrayOf_alike hZ.alike Ar14.2.1) (g := (mkF m 9 #[(sR o1), (sR ca_1), (sI 1)] [(.ref ca_1), (.int 1)])) rfl rfl (hb hby o_d4_9) _ (by rw [ln14]; exact k)) ?_
 refine o_icmpNo X10h hx 13 (hb hby o_d4_10) (tlt (by decide : (1 : Int32) < (2 : Int32))).2.1 ?_
 refine o_aloadN X10h hx 14 (hb hby o_d4_13) rfl rfl ?_
 refine o_iloadN X10h hx 15 (hb hby o_d4_14) rfl ?_
 refine o_aloadN X10h hx 16 (hb hby o_d4_15) rfl rfl ?_
 refine o_iloadN X10h hx 17 (hb hby o_d4_16) rfl ?_
 obtain ⟨cl15, Ar15, qv15, S15, M15, H15, G15⟩ := id V10
 have hin15 := inb_of (j := (1 : Int32)) S15 ⟨by decide, by decide⟩
 refine o_st (G' := T10.setTop (mkF m 18 #[(sR o1), (sR ca_1), (sI 1)] [(.int c1), (.int 1), (.ref ca_1)])) (fun t k => X10h.caload hx (j := (1 : Int32)) (v := (.int c1)) (by rw [e10]; exact Ar15.1) (State.isArrayOf_alike hZ.alike Ar15.2.1) Ar15.2.2 hin15 (H15.at hin15 rfl) (g := (mkF m 17 #[(sR o1), (sR ca_1), (sI 1)] [(.int 1), (.ref ca_1), (.int 1), (.ref ca_1)])) rfl rfl (hb hby o_d4_17) _ k) ?_
 obtain ⟨_, _, ⟨T16, Lx16, kc16, nc16⟩, -, X16, ⟨Lc16, hQ16, lq16, yq16, zq16⟩, st16⟩ := Jvm.LawKit.callS X10h hx (y := y0) hown (mvT hZ (W hw 66 rfl)) (mvT hZ (W hw 67 rfl)) (mvT hZ (W hw 24 rfl)) (mvT hZ (W hw 68 rfl)) (by decide) (backOf (W := 2) (o_rm14 l Z a0 hw [] c1 h10 n0 Z13 ) hZ (W hw 68 rfl) (W hw 24 rfl) (by decide) (by decide)) (g := (mkF m 18 #[(sR o1), (sR ca_1), (sI 1)] [(.int c1), (.int 1), (.ref ca_1)])) rfl (by rw [hml]; rfl) (argsL := [(.int c1)]) (rest := [(.int 1), (.ref ca_1)]) (lenOf o_pd4 rfl) rfl (o_wl rfl) (hb hby o_d4_18) (fun _ _ => ⟨rfl, e10, (by decide : 1 + 0 ≤ _), (by decide : 2 + 0 ≤ _)⟩)
 dsimp only [Pt.U, Pt.locs, Pt.cells, Pt.slots] at X16 lq16 yq16 zq16 st16 hQ16
 subst lq16 yq16 zq16
 obtain ⟨rfl, Nq16, eh16⟩ := hQ16
 have N16 := Fr.app N10h Nq16
 refine o_st (G' := T16.setTop (mkF m 21 #[(sR o1), (sR ca_1), (sI 1)] [(.int (o_lc c1)), (.int 1), (.ref ca_1)])) st16 ?_
 obtain ⟨_, X16h, N16h⟩ := o_hide X16 N16
 refine o_i2c X16h hx 22 (hb hby o_d4_21) ?_
 obtain ⟨cl17, Ar17, qv17, S17, M17, H17, G17⟩ := id V10
 have hin17 := inb_of (j := (1 : Int32)) S17 ⟨by decide, by decide⟩
 obtain ⟨T17, h17, X17, e17, W17, st17⟩ := stC X16h hx hZ eh16 Ar17 (j := (1 : Int32)) hin17 (g := (mkF m 22 #[(sR o1), (sR ca_1), (sI 1)] [(.int ((o_lc c1).toUInt32.toUInt16.toUInt32.toInt32)), (.int 1), (.ref ca_1)])) rfl rfl (hb hby o_d4_22)
 have V17 : Arv Z h17 ca_1 kc_1 .char 2 [(.int (nar .char ((o_lc c0).toUInt32.toUInt16.toUInt32.toInt32))), (.int (nar .char ((o_lc c1).toUInt32.toUInt16.toUInt32.toInt32)))] (.int 0) := Arv.set Ar17 qv17 S17 M17 H17 G17 (fits_nar_char _) W17 1 rfl (Nat.le_of_ble_eq_true rfl)
 have N17 := Fr.snoc X17 N16h gt_ca_1
 have O18 := O11.wr W17 gt_ca_1
 have KC19 := KC12.wr W17 (Or.inr sz_ca_1)
 have Z20 := Nat.le_trans Z13 (Nat.le_of_eq W17.size.symm)
 refine o_st (G' := T17.setTop (mkF m 23 #[(sR o1), (sR ca_1), (sI 1)] [])) st17 ?_
 obtain ⟨_, X17h, N17h⟩ := o_hide X17 N17
 refine o_iinc X17h hx 26 (1 : Int32) #[(sR o1), (sR ca_1), (sI 2)] (hb hby o_d4_23) rfl rfl rfl ?_
 refine o_goto X17h hx 7 (hb hby o_d4_26) ?_
 refine o_iloadN X17h hx 8 (hb hby o_d4_7) rfl ?_
 refine o_aloadN X17h hx 9 (hb hby o_d4_8) rfl rfl ?_
 obtain ⟨cl21, Ar21, qv21, S21, M21, H21, G21⟩ := id V17
 have ln21 := len_of S21 M21
 refine o_st (G' := T17.setTop (mkF m 10 #[(sR o1), (sR ca_1), (sI 2)] [(.int 2), (.int 2)])) (fun t k => X17h.arraylength hx (by rw [e17]; exact Ar21.1) (State.isArrayOf_alike hZ.alike Ar21.2.1) (g := (mkF m 9 #[(sR o1), (sR ca_1), (sI 2)] [(.ref ca_1), (.int 2)])) rfl rfl (hb hby o_d4_9) _ (by rw [ln21]; exact k)) ?_
 refine o_icmpYes X17h hx 29 (hb hby o_d4_10) (flt (by decide : ¬ ((2 : Int32) < (2 : Int32)))).2.1 ?_
 have V22 := V17
 rw [o_lcn hC0, o_lcn hC1] at V22
 obtain ⟨T23, h23, X23, e23, E23, A23, D23, -, st23⟩ := newO X17h hx hZ hown (W hw 44 rfl) (W hw 2 rfl) (W hw 3 rfl) e17 (g := (mkF m 29 #[(sR o1), (sR ca_1), (sI 2)] [])) rfl (hb hby o_d4_29) (by decide) (by decide)
 obtain ⟨b23, g23⟩ : ∃ z, z = h17.size := ⟨_, rfl⟩
 rw [← g23] at A23 D23 st23
 have gt_b23 : n0 ≤ b23 := Nat.le_trans Z20 (Nat.le_of_eq g23.symm)
 have sz_b23 : h0.size ≤ b23 := Nat.le_trans KC19.1 (Nat.le_of_eq g23.symm)
 have O29 := O18.ext E23
 have KC30 := KC19.ext E23
 have Z31 := Nat.le_trans Z20 E23.1
 have F23_value : Fld Z h23 b23 "java/lang/String" "value" "[B" .null := D23 (Or.inr (W hw 16 rfl)) (ty := (.array .byte)) (by decide)
 have F23_coder : Fld Z h23 b23 "java/lang/String" "coder" "B" (.int 0) := D23 (Or.inr (W hw 17 rfl)) (ty := .byte) (by decide)
 refine o_st (G' := T23.setTop (mkF m 32 #[(sR o1), (sR ca_1), (sI 2)] [(.ref b23)])) st23 ?_
 obtain ⟨_, X23h, N23h⟩ := o_hide X23 N17h
 refine o_dup X23h hx 33 (hb hby o_d4_32) rfl ?_
 refine o_aloadN X23h hx 34 (hb hby o_d4_33) rfl rfl ?_
 have f32 := (V22.ext E23)
 obtain ⟨_, _, ⟨T33, Lx33, kc33, nc33⟩, -, X33, ⟨Lc33, hQ33, lq33, yq33, zq33⟩, st33⟩ := X23h.specialBack hx (y := y29) rfl hown (mvT hZ (W hw 45 rfl)) (mvT hZ (W hw 5 rfl)) (mvT hZ (W hw 6 rfl)) (by decide) (backOf (W := 1) (o_rm1n2U l Z a0 hw [] cs sf GG b23 ca_1 kc_1 (o_lc c0) (o_lc c1) h23 n0 Z31 A23 F23_value F23_coder gt_b23 O29 f32 (o_lcC hC0 : o_C (o_lc c0)) (o_lcC hC1 : o_C (o_lc c1)) (hU.imp o_lcU o_lcU : (255 : Int32) < (o_lc c0) ∨ (255 : Int32) < (o_lc c1))) hZ (W hw 6 rfl) (W hw 3 rfl) (by decide) (by decide)) (g := (mkF m 34 #[(sR o1), (sR ca_1), (sI 2)] [(.ref ca_1), (.ref b23), (.ref b23)])) rfl (by rw [hml]; rfl) (Steps.refl _) (a := b23) (argsL := [(.ref ca_1)]) (rest := [(.ref b23)]) (lenOf o_pd21 rfl) rfl (o_wl rfl) (hb hby o_d4_34) (fun _ _ => ⟨rfl, e23, (by decide : 2 + 2 ≤ _), (by decide : 6 + 6 ≤ _)⟩)
 dsimp only [Pt.U, Pt.locs, Pt.cells, Pt.slots] at X33 lq33 yq33 zq33 st33 hQ33
 subst lq33 yq33 zq33
 obtain ⟨bb_33, kb_33, rfl, Nq33, Kp33, G33_0, G33_1, G33_2, G33_3, G33_4⟩ := hQ33
 have N33 := Fr.app N23h Nq33
 have sz_bb_33 : h0.size ≤ bb_33 := Nat.le_trans KC30.1 G33_1
 have KC41 := KC30.trans Kp33 (allS (Or.inr sz_b23) all0)
 refine o_st (G' := T33.setTop (mkF m 37 #[(sR o1), (sR ca_1), (sI 2)] [(.ref b23)])) (fun t k => st33.trans k) ?_
 obtain ⟨_, X33h, N33h⟩ := o_hide X33 N33
 exact o_retA (z := (.ref b23)) (Q := o_Q4n2U Z cs sf GG o1 bb kb c0 c1 h0 n0) X33h hx hrt rfl rfl (hb hby o_d4_37) hlk rfl ⟨b23, bb_33, kb_33, rfl, N33h, KC41, sz_b23, sz_bb_33, G33_0, G33_2, G33_3, G33_4⟩ (by decide) (by decide)
def o_Q28n3 (Z : State) (o1 : Addr) (kb : ClassId) (vs : List Value) (h0 : Heap) (n0 : Nat) (v : Option Value) (h : Heap) (L : List Loc) : Prop := v = some (.int 3) ∧ Fr n0 L ∧ h = h0
set_option maxRecDepth 65536 in
set_option maxHeartbeats 40000000 in
theorem o_rm28n3 (l : Launch) (Z : State) (a0 : Array Value) (hw : o_Hw Z a0) (ws : List Jvm.Cond) (o1 : Addr) (kb : ClassId) (vs : List Value) (h0 : Heap) (n0 : Nat) (Z0 : n0 ≤ h0.size) (pV1 : Arv Z h0 o1 kb .byte 6 vs (.int 0)) :
  o_Met l y6 jdk_52_method_6_code 1 (some .int) ws r0 #[(.ref o1)] Z h0 (o_Q28n3 Z o1 kb vs h0 n0) := by
 refine MetFree.of_bodySF (plainFor_of_name o_pn4) hisR ?_
 intro p e s m args below meth c s₁ Bd hml0 hP hK
 obtain ⟨rfl, hZ, hh⟩ := hP
 obtain ⟨hx, hby, hlk, hrt⟩ := o_bd Bd
 have X0 : Stand p l e r0 s m #[(.ref o1)] below meth c s₁ [] 0 0 := Stand.of_body Bd
 have e0 := o_e0 Bd hh
 have N0 := Fr.nil n0
 refine o_in (g' := mkF m 0 #[(sR o1)] []) (by simp [entryFrame, mkF, argsToLocals, Value.category]) ?_
 refine o_aloadN X0 hx 1 (hb hby o_d28_0) rfl rfl ?_
 obtain ⟨cl1, Ar1, qv1, S1, M1, H1, G1⟩ := id pV1
 have ln1 := len_of S1 M1
 refine o_st (G' := s₁.setTop (mkF m 2 #[(sR o1)] [(.int 6)])) (fun t k => X0.arraylength hx (by rw [e0]; exact Ar1.1) (State.isArrayOf_alike hZ.alike Ar1.2.1) (g := (mkF m 1 #[(sR o1)] [(.ref o1)])) rfl rfl (hb hby o_d28_1) _ (by rw [ln1]; exact k)) ?_
 refine o_iconst X0 hx 3 1 (hb hby o_d28_2) rfl ?_
 refine o_ishr X0 hx 4 (hb hby o_d28_3) ?_
 rw [show ((6 : Int32) >>> ((1 : Int32) &&& 31)) = (3 : Int32) from by decide]
 exact o_retI (z := (3 : Int32)) (Q := o_Q28n3 Z o1 kb vs h0 n0) X0 hx hrt (hb hby o_d28_4) hlk e0 ⟨rfl, N0, rfl⟩ (by decide) (by decide)
theorem o_ef30n3 (m : MethodId) (sf : Value) (hsf : sf.isRef = true) : entryFrame m #[(.int 0), (.int 3), (.int 3), sf] 4 = mkF m 0 #[(sI 0), (sI 3), (sI 3), .val sf] [] := by
  cases sf <;> first | (simp [Value.isRef] at hsf; done) | (simp [entryFrame, mkF, argsToLocals, Value.category]; done) | rfl
def o_Q30n3 (Z : State) (cs : Int32) (sf : Value) (GG : o_G Z cs sf)  (h0 : Heap) (n0 : Nat) (v : Option Value) (h : Heap) (L : List Loc) : Prop := v = some (.int 0) ∧ Fr n0 L ∧ h = h0
set_option maxRecDepth 65536 in
set_option maxHeartbeats 40000000 in
theorem o_rm30n3 (l : Launch) (Z : State) (a0 : Array Value) (hw : o_Hw Z a0) (ws : List Jvm.Cond) (cs : Int32) (sf : Value) (GG : o_G Z cs sf)  (h0 : Heap) (n0 : Nat) (Z0 : n0 ≤ h0.size)  :
  o_Met l y7 jdk_41_method_13_code 4 (some .int) ws r0 #[(.int 0), (.int 3), (.int 3), sf] Z h0 (o_Q30n3 Z cs sf GG  h0 n0) := by
 refine MetFree.of_bodySF (plainFor_of_name o_pn2) hisR ?_
 intro p e s m args below meth c s₁ Bd hml0 hP hK
 obtain ⟨rfl, hZ, hh⟩ := hP
 obtain ⟨hx, hby, hlk, hrt⟩ := o_bd Bd
 have X0 : Stand p l e r0 s m #[(.int 0), (.int 3), (.int 3), sf] below meth c s₁ [] 0 0 := Stand.of_body Bd
 have e0 := o_e0 Bd hh
 have N0 := Fr.nil n0
 refine o_in (o_ef30n3 m sf GG.2.2.2.1) ?_
 refine o_iloadN X0 hx 1 (hb hby o_d30_0) rfl ?_
 refine o_iloadN X0 hx 2 (hb hby o_d30_1) rfl ?_
 refine o_ior X0 hx 3 (hb hby o_d30_2) ?_
 show o_Gs p e below _ (s₁.setTop (mkF m 3 #[(sI 0), (sI 3), (sI 3), .val sf] [(.int 3)]))
 refine o_iloadN X0 hx 4 (hb hby o_d30_3) rfl ?_
 refine o_ior X0 hx 5 (hb hby o_d30_4) ?_
 show o_Gs p e below _ (s₁.setTop (mkF m 5 #[(sI 0), (sI 3), (sI 3), .val sf] [(.int 3)]))
 refine o_ifNo X0 hx 8 (hb hby o_d30_5) (flt (by decide : ¬ ((3 : Int32) < (0 : Int32)))).1 ?_
 refine o_iloadN X0 hx 9 (hb hby o_d30_8) rfl ?_
 refine o_iloadN X0 hx 10 (hb hby o_d30_9) rfl ?_
 refine o_iloadN X0 hx 11 (hb hby o_d30_10) rfl ?_
 refine o_isub X0 hx 12 (hb hby o_d30_11) ?_
 show o_Gs p e below _ (s₁.setTop (mkF m 12 #[(sI 0), (sI 3), (sI 3), .val sf] [(.int 3), (.int 3)]))
 refine o_icmpYes X0 hx 23 (hb hby o_d30_12) (flt (by decide : ¬ ((3 : Int32) < (3 : Int32)))).2.2.2 ?_
 refine o_iloadN X0 hx 24 (hb hby o_d30_23) rfl ?_
 exact o_retI (z := (0 : Int32)) (Q := o_Q30n3 Z cs sf GG  h0 n0) X0 hx hrt (hb hby o_d30_24) hlk e0 ⟨rfl, N0, rfl⟩ (by decide) (by decide)
def o_Q29n3 (Z : State) (cs : Int32) (sf : Value) (GG : o_G Z cs sf)  (h0 : Heap) (n0 : Nat) (v : Option Value) (h : Heap) (L : List Loc) : Prop := v = some (.int 0) ∧ Fr n0 L ∧ h = h0
set_option maxRecDepth 65536 in
set_option maxHeartbeats 40000000 in
theorem o_rm29n3 (l : Launch) (Z : State) (a0 : Array Value) (hw : o_Hw Z a0) (ws : List Jvm.Cond) (cs : Int32) (sf : Value) (GG : o_G Z cs sf)  (h0 : Heap) (n0 : Nat) (Z0 : n0 ≤ h0.size) (O0 : Old Z n0 h0) :
  o_Met l y8 jdk_42_method_157_code 3 (some .int) ws r2 #[(.int 0), (.int 3), (.int 3)] Z h0 (o_Q29n3 Z cs sf GG  h0 n0) := by
 refine MetFree.of_bodySF (plainFor_of_name o_pn3) hisR ?_
 intro p e s m args below meth c s₁ Bd hml0 hP hK
 obtain ⟨rfl, hZ, hh⟩ := hP
 obtain ⟨hx, hby, hlk, hrt⟩ := o_bd Bd
 have hml : c.maxLocals = 3 := hml0
 have hown : s.vm.findClass "java/lang/String" = some m.cls := findClass_of_methodNamed Bd.named
 have X0 : Stand p l e r2 s m #[(.int 0), (.int 3), (.int 3)] below meth c s₁ [] 0 0 := Stand.of_body Bd
 have e0 := o_e0 Bd hh
 have N0 := Fr.nil n0
 refine o_in (g' := mkF m 0 #[(sI 0), (sI 3), (sI 3)] []) (by simp [entryFrame, mkF, argsToLocals, Value.category]) ?_
 refine o_iloadN X0 hx 1 (hb hby o_d29_0) rfl ?_
 refine o_iloadN X0 hx 2 (hb hby o_d29_1) rfl ?_
 refine o_iloadN X0 hx 3 (hb hby o_d29_2) rfl ?_
 obtain ⟨T1, X1, e1, st1⟩ := getS2 X0 hx hZ hown (host := "") (Or.inl (W hw 80 rfl)) Via.refl e0 (GG.2.2.1.ext O0.2) (g := (mkF m 3 #[(sI 0), (sI 3), (sI 3)] [(.int 3), (.int 3), (.int 0)])) rfl (hb hby o_d29_3)
 refine o_st (G' := T1.setTop (mkF m 6 #[(sI 0), (sI 3), (sI 3)] [sf, (.int 3), (.int 3), (.int 0)])) st1 ?_
 obtain ⟨_, X1h, N1h⟩ := o_hide X1 N0
 obtain ⟨_, _, ⟨T2, Lx2, kc2, nc2⟩, -, X2, ⟨Lc2, hQ2, lq2, yq2, zq2⟩, st2⟩ := Jvm.LawKit.callS X1h hx (y := y7) hown (mvT hZ (W hw 123 rfl)) (mvT hZ (W hw 124 rfl)) (mvT hZ (W hw 81 rfl)) (mvT hZ (W hw 125 rfl)) (by decide) (backOf (W := 0) (o_rm30n3 l Z a0 hw [] cs sf GG  h0 n0 Z0 ) hZ (W hw 125 rfl) (W hw 81 rfl) (by decide) (by decide)) (g := (mkF m 6 #[(sI 0), (sI 3), (sI 3)] [sf, (.int 3), (.int 3), (.int 0)])) rfl (by rw [hml]; rfl) (argsL := [(.int 0), (.int 3), (.int 3), sf]) (rest := []) (lenOf o_pd1 rfl) rfl (o_wl rfl) (hb hby o_d29_6) (fun _ _ => ⟨rfl, e1, (by decide : 0 + 0 ≤ _), (by decide : 0 + 0 ≤ _)⟩)
 dsimp only [Pt.U, Pt.locs, Pt.cells, Pt.slots] at X2 lq2 yq2 zq2 st2 hQ2
 subst lq2 yq2 zq2
 obtain ⟨rfl, Nq2, eh2⟩ := hQ2
 have N2 := Fr.app N1h Nq2
 refine o_st (G' := T2.setTop (mkF m 9 #[(sI 0), (sI 3), (sI 3)] [(.int 0)])) st2 ?_
 obtain ⟨_, X2h, N2h⟩ := o_hide X2 N2
 exact o_retI (z := (0 : Int32)) (Q := o_Q29n3 Z cs sf GG  h0 n0) X2h hx hrt (hb hby o_d29_9) hlk eh2 ⟨rfl, N2h, rfl⟩ (by decide) (by decide)
def o_Q27n3 (Z : State) (cs : Int32) (sf : Value) (GG : o_G Z cs sf) (o1 : Addr) (kb : ClassId) (vs : List Value) (h0 : Heap) (n0 : Nat) (v : Option Value) (h : Heap) (L : List Loc) : Prop := v = none ∧ Fr n0 L ∧ h = h0
set_option maxRecDepth 65536 in
set_option maxHeartbeats 40000000 in
theorem o_rm27n3 (l : Launch) (Z : State) (a0 : Array Value) (hw : o_Hw Z a0) (ws : List Jvm.Cond) (cs : Int32) (sf : Value) (GG : o_G Z cs sf) (o1 : Addr) (kb : ClassId) (vs : List Value) (h0 : Heap) (n0 : Nat) (Z0 : n0 ≤ h0.size) (pV1 : Arv Z h0 o1 kb .byte 6 vs (.int 0)) (O0 : Old Z n0 h0) :
  o_Met l y9 jdk_52_method_94_code 3 none ws r3 #[(.int 0), (.int 3), (.ref o1)] Z h0 (o_Q27n3 Z cs sf GG o1 kb vs h0 n0) := by
 refine MetFree.of_bodySF (plainFor_of_name o_pn4) hisR ?_
 intro p e s m args below meth c s₁ Bd hml0 hP hK
 obtain ⟨rfl, hZ, hh⟩ := hP
 obtain ⟨hx, hby, hlk, hrt⟩ := o_bd Bd
 have hml : c.maxLocals = 3 := hml0
 have hown : s.vm.findClass "java/lang/StringUTF16" = some m.cls := findClass_of_methodNamed Bd.named
 have X0 : Stand p l e r3 s m #[(.int 0), (.int 3), (.ref o1)] below meth c s₁ [] 0 0 := Stand.of_body Bd
 have e0 := o_e0 Bd hh
 have N0 := Fr.nil n0
 refine o_in (g' := mkF m 0 #[(sI 0), (sI 3), (sR o1)] []) (by simp [entryFrame, mkF, argsToLocals, Value.category]) ?_
 refine o_iloadN X0 hx 1 (hb hby o_d27_0) rfl ?_
 refine o_iloadN X0 hx 2 (hb hby o_d27_1) rfl ?_
 refine o_aloadN X0 hx 3 (hb hby o_d27_2) rfl rfl ?_
 obtain ⟨_, _, ⟨T1, Lx1, kc1, nc1⟩, -, X1, ⟨Lc1, hQ1, lq1, yq1, zq1⟩, st1⟩ := Jvm.LawKit.callS X0 hx (y := y6) hown (mvT hZ (W hw 117 rfl)) (mvT hZ (W hw 118 rfl)) (mvT hZ (W hw 58 rfl)) (mvT hZ (W hw 119 rfl)) (by decide) (backOf (W := 2) (o_rm28n3 l Z a0 hw [] o1 kb vs h0 n0 Z0 pV1) hZ (W hw 119 rfl) (W hw 58 rfl) (by decide) (by decide)) (g := (mkF m 3 #[(sI 0), (sI 3), (sR o1)] [(.ref o1), (.int 3), (.int 0)])) rfl (by rw [hml]; rfl) (argsL := [(.ref o1)]) (rest := [(.int 3), (.int 0)]) (lenOf o_pd2 rfl) rfl (o_wl rfl) (hb hby o_d27_3) (fun _ _ => ⟨rfl, e0, (by decide : 0 + 0 ≤ _), (by decide : 0 + 0 ≤ _)⟩)
 dsimp only [Pt.U, Pt.locs, Pt.cells, Pt.slots] at X1 lq1 yq1 zq1 st1 hQ1
 subst lq1 yq1 zq1
 obtain ⟨rfl, Nq1, eh1⟩ := hQ1
 have N1 := Fr.app N0 Nq1
 refine o_st (G' := T1.setTop (mkF m 6 #[(sI 0), (sI 3), (sR o1)] [(.int 3), (.int 3), (.int 0)])) st1 ?_
 obtain ⟨_, X1h, N1h⟩ := o_hide X1 N1
 obtain ⟨_, _, ⟨T2, Lx2, kc2, nc2⟩, -, X2, ⟨Lc2, hQ2, lq2, yq2, zq2⟩, st2⟩ := Jvm.LawKit.callS X1h hx (y := y8) hown (mvT hZ (W hw 120 rfl)) (mvT hZ (W hw 121 rfl)) (mvT hZ (W hw 3 rfl)) (mvT hZ (W hw 122 rfl)) (by decide) (backOf (W := 0) (o_rm29n3 l Z a0 hw [] cs sf GG  h0 n0 Z0 O0) hZ (W hw 122 rfl) (W hw 3 rfl) (by decide) (by decide)) (g := (mkF m 6 #[(sI 0), (sI 3), (sR o1)] [(.int 3), (.int 3), (.int 0)])) rfl (by rw [hml]; rfl) (argsL := [(.int 0), (.int 3), (.int 3)]) (rest := []) (lenOf o_pd3 rfl) rfl (o_wl rfl) (hb hby o_d27_6) (fun _ _ => ⟨rfl, eh1, (by decide : 0 + 0 ≤ _), (by decide : 0 + 0 ≤ _)⟩)
 dsimp only [Pt.U, Pt.locs, Pt.cells, Pt.slots] at X2 lq2 yq2 zq2 st2 hQ2
 subst lq2 yq2 zq2
 obtain ⟨rfl, Nq2, eh2⟩ := hQ2
 have N2 := Fr.app N1h Nq2
 refine o_st (G' := T2.setTop (mkF m 9 #[(sI 0), (sI 3), (sR o1)] [(.int 0)])) st2 ?_
 obtain ⟨_, X2h, N2h⟩ := o_hide X2 N2
 refine o_pop X2h hx 10 (hb hby o_d27_9) rfl ?_
 exact o_retV (Q := o_Q27n3 Z cs sf GG o1 kb vs h0 n0) X2h hx hrt (hb hby o_d27_10) hlk eh2 ⟨rfl, N2h, rfl⟩ (by decide) (by decide)
def o_Q22n3 (Z : State)  (h0 : Heap) (n0 : Nat) (v : Option Value) (h : Heap) (L : List Loc) : Prop := v = some (.int 6) ∧ Fr n0 L ∧ h = h0
set_option maxRecDepth 65536 in
set_option maxHeartbeats 40000000 in
theorem o_rm22n3 (l : Launch) (Z : State) (a0 : Array Value) (hw : o_Hw Z a0) (ws : List Jvm.Cond)  (h0 : Heap) (n0 : Nat) (Z0 : n0 ≤ h0.size)  :
  o_Met l y10 jdk_52_method_3_code 1 (some .int) ws r0 #[(.int 3)] Z h0 (o_Q22n3 Z  h0 n0) := by
 refine MetFree.of_bodySF (plainFor_of_name o_pn4) hisR ?_
 intro p e s m args below meth c s₁ Bd hml0 hP hK
 obtain ⟨rfl, hZ, hh⟩ := hP
 obtain ⟨hx, hby, hlk, hrt⟩ := o_bd Bd
 have hown : s.vm.findClass "java/lang/StringUTF16" = some m.cls := findClass_of_methodNamed Bd.named
 have X0 : Stand p l e r0 s m #[(.int 3)] below meth c s₁ [] 0 0 := Stand.of_body Bd
 have e0 := o_e0 Bd hh
 have N0 := Fr.nil n0
 refine o_in (g' := mkF m 0 #[(sI 3)] []) (by simp [entryFrame, mkF, argsToLocals, Value.category]) ?_
 refine o_iloadN X0 hx 1 (hb hby o_d22_0) rfl ?_
 refine o_ifYes X0 hx 12 (hb hby o_d22_1) (flt (by decide : ¬ ((3 : Int32) < (0 : Int32)))).2.1 ?_
 refine o_iloadN X0 hx 13 (hb hby o_d22_12) rfl ?_
 refine o_ldcI X0 hx 15 hown (mvT hZ (W hw 98 rfl)) (hb hby o_d22_13) ?_
 refine o_icmpYes X0 hx 55 (hb hby o_d22_15) (tlt (by decide : (3 : Int32) < (1073741823 : Int32))).1 ?_
 refine o_iloadN X0 hx 56 (hb hby o_d22_55) rfl ?_
 refine o_iconst X0 hx 57 1 (hb hby o_d22_56) rfl ?_
 refine o_ishl X0 hx 58 (hb hby o_d22_57) ?_
 rw [show ((3 : Int32) <<< ((1 : Int32) &&& 31)) = (6 : Int32) from by decide]
 exact o_retI (z := (6 : Int32)) (Q := o_Q22n3 Z  h0 n0) X0 hx hrt (hb hby o_d22_58) hlk e0 ⟨rfl, N0, rfl⟩ (by decide) (by decide)
def o_Q21n3 (Z : State)  (h0 : Heap) (n0 : Nat) (v : Option Value) (h : Heap) (L : List Loc) : Prop := ∃ bb : Addr, ∃ kb : ClassId, v = some (.ref bb) ∧ Fr n0 L ∧ Keep h0 h [] ∧ h0.size ≤ bb ∧ Arv Z h bb kb .byte 6 [(.int 0), (.int 0), (.int 0), (.int 0), (.int 0), (.int 0)] (.int 0)
set_option maxRecDepth 65536 in
set_option maxHeartbeats 40000000 in
theorem o_rm21n3 (l : Launch) (Z : State) (a0 : Array Value) (hw : o_Hw Z a0) (ws : List Jvm.Cond)  (h0 : Heap) (n0 : Nat) (Z0 : n0 ≤ h0.size)  :
  o_Met l y11 jdk_52_method_2_code 1 (some (.array .byte)) ws r37 #[(.int 3)] Z h0 (o_Q21n3 Z  h0 n0) := by
 refine MetFree.of_bodySF (plainFor_of_name o_pn4) hisR ?_
 intro p e s m args below meth c s₁ Bd hml0 hP hK
 obtain ⟨rfl, hZ, hh⟩ := hP
 obtain ⟨hx, hby, hlk, hrt⟩ := o_bd Bd
 have hml : c.maxLocals = 1 := hml0
 have hown : s.vm.findClass "java/lang/StringUTF16" = some m.cls := findClass_of_methodNamed Bd.named
 have X0 : Stand p l e r37 s m #[(.int 3)] below meth c s₁ [] 0 0 := Stand.of_body Bd
 have e0 := o_e0 Bd hh
 have N0 := Fr.nil n0
 have KC0 := Keep.refl h0 []
 refine o_in (g' := mkF m 0 #[(sI 3)] []) (by simp [entryFrame, mkF, argsToLocals, Value.category]) ?_
 refine o_iloadN X0 hx 1 (hb hby o_d21_0) rfl ?_
 obtain ⟨_, _, ⟨T1, Lx1, kc1, nc1⟩, -, X1, ⟨Lc1, hQ1, lq1, yq1, zq1⟩, st1⟩ := Jvm.LawKit.callS X0 hx (y := y10) hown (mvT hZ (W hw 95 rfl)) (mvT hZ (W hw 96 rfl)) (mvT hZ (W hw 58 rfl)) (mvT hZ (W hw 97 rfl)) (by decide) (backOf (W := 0) (o_rm22n3 l Z a0 hw []  h0 n0 Z0 ) hZ (W hw 97 rfl) (W hw 58 rfl) (by decide) (by decide)) (g := (mkF m 1 #[(sI 3)] [(.int 3)])) rfl (by rw [hml]; rfl) (argsL := [(.int 3)]) (rest := []) (lenOf o_pd4 rfl) rfl (o_wl rfl) (hb hby o_d21_1) (fun _ _ => ⟨rfl, e0, (by decide : 0 + 0 ≤ _), (by decide : 0 + 0 ≤ _)⟩)
 dsimp only [Pt.U, Pt.locs, Pt.cells, Pt.slots] at X1 lq1 yq1 zq1 st1 hQ1
 subst lq1 yq1 zq1
 obtain ⟨rfl, Nq1, eh1⟩ := hQ1
 have N1 := Fr.app N0 Nq1
 refine o_st (G' := T1.setTop (mkF m 4 #[(sI 3)] [(.int 6)])) st1 ?_
 obtain ⟨_, X1h, N1h⟩ := o_hide X1 N1
 obtain ⟨T2, h2, k2, X2, e2, E2, A2, st2⟩ := newP X1h hx hZ (W hw 15 rfl) eh1 (g := (mkF m 4 #[(sI 3)] [(.int 6)])) rfl (hb hby o_d21_4) rfl (by decide) (cap := 6) (by decide) (by decide) (by decide) (by decide)
 obtain ⟨b2, g2⟩ : ∃ z, z = h0.size := ⟨_, rfl⟩
 rw [← g2] at A2 st2
 have sz_b2 : h0.size ≤ b2 := Nat.le_trans KC0.1 (Nat.le_of_eq g2.symm)
 have V2 : Arv Z h2 b2 k2 .byte 6 [(.int 0), (.int 0), (.int 0), (.int 0), (.int 0), (.int 0)] (.int 0) := (Arv.new A2 (by decide)).pad (pad_rep [] (.int 0) 6)
 have KC3 := KC0.ext E2
 refine o_st (G' := T2.setTop (mkF m 6 #[(sI 3)] [(.ref b2)])) st2 ?_
 obtain ⟨_, X2h, N2h⟩ := o_hide X2 N1h
 exact o_retA (z := (.ref b2)) (Q := o_Q21n3 Z  h0 n0) X2h hx hrt rfl rfl (hb hby o_d21_6) hlk e2 ⟨b2, k2, rfl, N2h, KC3, sz_b2, V2⟩ (by decide) (by decide)
def o_Q23n3i0 (Z : State) (cs : Int32) (sf : Value) (GG : o_G Z cs sf) (o1 : Addr) (v2 : Int32) (kb : ClassId) (yy0 : Int32) (yy1 : Int32) (yy2 : Int32) (yy3 : Int32) (yy4 : Int32) (yy5 : Int32) (h0 : Heap) (n0 : Nat) (v : Option Value) (h : Heap) (L : List Loc) : Prop := v = none ∧ Fr n0 L ∧ Keep h0 h [o1] ∧ Arv Z h o1 kb .byte 6 [(.int (o_lo v2)), (.int (o_hi v2)), (.int yy2), (.int yy3), (.int yy4), (.int yy5)] (.int 0)
set_option maxRecDepth 65536 in
set_option maxHeartbeats 40000000 in
theorem o_rm23n3i0 (l : Launch) (Z : State) (a0 : Array Value) (hw : o_Hw Z a0) (ws : List Jvm.Cond) (cs : Int32) (sf : Value) (GG : o_G Z cs sf) (o1 : Addr) (v2 : Int32) (kb : ClassId) (yy0 : Int32) (yy1 : Int32) (yy2 : Int32) (yy3 : Int32) (yy4 : Int32) (yy5 : Int32) (h0 : Heap) (n0 : Nat) (Z0 : n0 ≤ h0.size) (pV1 : Arv Z h0 o1 kb .byte 6 [(.int yy0), (.int yy1), (.int yy2), (.int yy3), (.int yy4), (.int yy5)] (.int 0)) (pG2 : n0 ≤ o1) (O0 : Old Z n0 h0) :
  o_Met l y12 jdk_52_method_4_code 3 none ws r0 #[(.ref o1), (.int 0), (.int v2)] Z h0 (o_Q23n3i0 Z cs sf GG o1 v2 kb yy0 yy1 yy2 yy3 yy4 yy5 h0 n0) := by
 refine MetFree.of_bodySF (plainFor_of_name o_pn4) hisR ?_
 intro p e s m args below meth c s₁ Bd hml0 hP hK
 obtain ⟨rfl, hZ, hh⟩ := hP
 obtain ⟨hx, hby, hlk, hrt⟩ := o_bd Bd
 have hown : s.vm.findClass "java/lang/StringUTF16" = some m.cls := findClass_of_methodNamed Bd.named
 have X0 : Stand p l e r0 s m #[(.ref o1), (.int 0), (.int v2)] below meth c s₁ [] 0 0 := Stand.of_body Bd
 have e0 := o_e0 Bd hh
 have N0 := Fr.nil n0
 have KC0 := Keep.refl h0 [o1]
 refine o_in (g' := mkF m 0 #[(sR o1), (sI 0), (sI v2)] []) (by simp [entryFrame, mkF, argsToLocals, Value.category]) ?_
 obtain ⟨T1, X1, e1, st1⟩ := getS2 X0 hx hZ hown (host := "") (Or.inl (W hw 102 rfl)) Via.refl e0 (GG.2.2.2.2.1.ext O0.2) (g := (mkF m 0 #[(sR o1), (sI 0), (sI v2)] [])) rfl (hb hby o_d23_0)
 refine o_st (G' := T1.setTop (mkF m 3 #[(sR o1), (sI 0), (sI v2)] [(.int 1)])) st1 ?_
 obtain ⟨_, X1h, N1h⟩ := o_hide X1 N0
 refine o_ifYes X1h hx 28 (hb hby o_d23_3) (feq (by decide : ¬ ((1 : Int32) = (0 : Int32)))).2 ?_
 refine o_iloadN X1h hx 29 (hb hby o_d23_28) rfl ?_
 refine o_iconst X1h hx 30 1 (hb hby o_d23_29) rfl ?_
 refine o_ishl X1h hx 31 (hb hby o_d23_30) ?_
 rw [show ((0 : Int32) <<< ((1 : Int32) &&& 31)) = (0 : Int32) from by decide]
 refine o_istoreN X1h hx 32 #[(sR o1), (sI 0), (sI v2)] (hb hby o_d23_31) rfl ?_
 refine o_aloadN X1h hx 33 (hb hby o_d23_32) rfl rfl ?_
 refine o_iloadN X1h hx 34 (hb hby o_d23_33) rfl ?_
 refine o_iinc X1h hx 37 (1 : Int32) #[(sR o1), (sI 1), (sI v2)] (hb hby o_d23_34) rfl rfl rfl ?_
 refine o_iloadN X1h hx 38 (hb hby o_d23_37) rfl ?_
 obtain ⟨T2, X2, e2, st2⟩ := getS2 X1h hx hZ hown (host := "") (Or.inl (W hw 103 rfl)) Via.refl e1 (GG.2.2.2.2.2.1.ext O0.2) (g := (mkF m 38 #[(sR o1), (sI 1), (sI v2)] [(.int v2), (.int 0), (.ref o1)])) rfl (hb hby o_d23_38)
 refine o_st (G' := T2.setTop (mkF m 41 #[(sR o1), (sI 1), (sI v2)] [(.int 0), (.int v2), (.int 0), (.ref o1)])) st2 ?_
 obtain ⟨_, X2h, N2h⟩ := o_hide X2 N1h
 refine o_ishr X2h hx 42 (hb hby o_d23_41) ?_
 refine o_i2b X2h hx 43 (hb hby o_d23_42) ?_
 obtain ⟨cl3, Ar3, qv3, S3, M3, H3, G3⟩ := id pV1
 have hin3 := inb_of (j := (0 : Int32)) S3 ⟨by decide, by decide⟩
 obtain ⟨T3, h3, X3, e3, W3, st3⟩ := stB X2h hx hZ e2 Ar3 (j := (0 : Int32)) hin3 (g := (mkF m 43 #[(sR o1), (sI 1), (sI v2)] [(.int ((v2 >>> ((0 : Int32) &&& 31)).toInt8.toInt32)), (.int 0), (.ref o1)])) rfl rfl (hb hby o_d23_43)
 have V3 : Arv Z h3 o1 kb .byte 6 [(.int (nar .byte ((v2 >>> ((0 : Int32) &&& 31)).toInt8.toInt32))), (.int yy1), (.int yy2), (.int yy3), (.int yy4), (.int yy5)] (.int 0) := Arv.set Ar3 qv3 S3 M3 H3 G3 (fits_nar_byte _) W3 0 rfl (Nat.le_of_ble_eq_true rfl)
 have N3 := Fr.snoc X3 N2h pG2
 have O4 := O0.wr W3 pG2
 have KC5 := KC0.wr W3 (Or.inl (List.mem_of_getElem? (i := 0) rfl))
 refine o_st (G' := T3.setTop (mkF m 44 #[(sR o1), (sI 1), (sI v2)] [])) st3 ?_
 obtain ⟨_, X3h, N3h⟩ := o_hide X3 N3
 refine o_aloadN X3h hx 45 (hb hby o_d23_44) rfl rfl ?_
 refine o_iloadN X3h hx 46 (hb hby o_d23_45) rfl ?_
 refine o_iloadN X3h hx 47 (hb hby o_d23_46) rfl ?_
 obtain ⟨T7, X7, e7, st7⟩ := getS2 X3h hx hZ hown (host := "") (Or.inl (W hw 104 rfl)) Via.refl e3 (GG.2.2.2.2.2.2.ext O4.2) (g := (mkF m 47 #[(sR o1), (sI 1), (sI v2)] [(.int v2), (.int 1), (.ref o1)])) rfl (hb hby o_d23_47)
 refine o_st (G' := T7.setTop (mkF m 50 #[(sR o1), (sI 1), (sI v2)] [(.int 8), (.int v2), (.int 1), (.ref o1)])) st7 ?_
 obtain ⟨_, X7h, N7h⟩ := o_hide X7 N3h
 refine o_ishr X7h hx 51 (hb hby o_d23_50) ?_
 refine o_i2b X7h hx 52 (hb hby o_d23_51) ?_
 obtain ⟨cl8, Ar8, qv8, S8, M8, H8, G8⟩ := id V3
 have hin8 := inb_of (j := (1 : Int32)) S8 ⟨by decide, by decide⟩
 obtain ⟨T8, h8, X8, e8, W8, st8⟩ := stB X7h hx hZ e7 Ar8 (j := (1 : Int32)) hin8 (g := (mkF m 52 #[(sR o1), (sI 1), (sI v2)] [(.int ((v2 >>> ((8 : Int32) &&& 31)).toInt8.toInt32)), (.int 1), (.ref o1)])) rfl rfl (hb hby o_d23_52)
 have V8 : Arv Z h8 o1 kb .byte 6 [(.int (nar .byte ((v2 >>> ((0 : Int32) &&& 31)).toInt8.toInt32))), (.int (nar .byte ((v2 >>> ((8 : Int32) &&& 31)).toInt8.toInt32))), (.int yy2), (.int yy3), (.int yy4), (.int yy5)] (.int 0) := Arv.set Ar8 qv8 S8 M8 H8 G8 (fits_nar_byte _) W8 1 rfl (Nat.le_of_ble_eq_true rfl)
 have N8 := Fr.snoc X8 N7h pG2
 have KC10 := KC5.wr W8 (Or.inl (List.mem_of_getElem? (i := 0) rfl))
 refine o_st (G' := T8.setTop (mkF m 53 #[(sR o1), (sI 1), (sI v2)] [])) st8 ?_
 obtain ⟨_, X8h, N8h⟩ := o_hide X8 N8
 exact o_retV (Q := o_Q23n3i0 Z cs sf GG o1 v2 kb yy0 yy1 yy2 yy3 yy4 yy5 h0 n0) X8h hx hrt (hb hby o_d23_53) hlk e8 ⟨rfl, N8h, KC10, V8⟩ (by decide) (by decide)
def o_Q24n3i0 (Z : State) (cs : Int32) (sf : Value) (GG : o_G Z cs sf) (o1 : Addr) (kb : ClassId) (c0 : Int32) (c1 : Int32) (c2 : Int32) (h0 : Heap) (n0 : Nat) (v : Option Value) (h : Heap) (L : List Loc) : Prop := v = some (.int c0) ∧ Fr n0 L ∧ h = h0
set_option maxRecDepth 65536 in
set_option maxHeartbeats 40000000 in
theorem o_rm24n3i0 (l : Launch) (Z : State) (a0 : Array Value) (hw : o_Hw Z a0) (ws : List Jvm.Cond) (cs : Int32) (sf : Value) (GG : o_G Z cs sf) (o1 : Addr) (kb : ClassId) (c0 : Int32) (c1 : Int32) (c2 : Int32) (h0 : Heap) (n0 : Nat) (Z0 : n0 ≤ h0.size) (pV1 : Arv Z h0 o1 kb .byte 6 [(.int (o_lo c0)), (.int (o_hi c0)), (.int (o_lo c1)), (.int (o_hi c1)), (.int (o_lo c2)), (.int (o_hi c2))] (.int 0)) (O0 : Old Z n0 h0) (hC : o_C c0) :
  o_Met l y13 jdk_52_method_5_code 2 (some .char) ws r0 #[(.ref o1), (.int 0)] Z h0 (o_Q24n3i0 Z cs sf GG o1 kb c0 c1 c2 h0 n0) := by
 refine MetFree.of_bodySF (plainFor_of_name o_pn4) hisR ?_
 intro p e s m args below meth c s₁ Bd hml0 hP hK
 obtain ⟨rfl, hZ, hh⟩ := hP
 obtain ⟨hx, hby, hlk, hrt⟩ := o_bd Bd
 have hown : s.vm.findClass "java/lang/StringUTF16" = some m.cls := findClass_of_methodNamed Bd.named
 have X0 : Stand p l e r0 s m #[(.ref o1), (.int 0)] below meth c s₁ [] 0 0 := Stand.of_body Bd
 have e0 := o_e0 Bd hh
 have N0 := Fr.nil n0
 refine o_in (g' := mkF m 0 #[(sR o1), (sI 0)] []) (by simp [entryFrame, mkF, argsToLocals, Value.category]) ?_
 obtain ⟨T1, X1, e1, st1⟩ := getS2 X0 hx hZ hown (host := "") (Or.inl (W hw 102 rfl)) Via.refl e0 (GG.2.2.2.2.1.ext O0.2) (g := (mkF m 0 #[(sR o1), (sI 0)] [])) rfl (hb hby o_d24_0)
 refine o_st (G' := T1.setTop (mkF m 3 #[(sR o1), (sI 0)] [(.int 1)])) st1 ?_
 obtain ⟨_, X1h, N1h⟩ := o_hide X1 N0
 refine o_ifYes X1h hx 28 (hb hby o_d24_3) (feq (by decide : ¬ ((1 : Int32) = (0 : Int32)))).2 ?_
 refine o_iloadN X1h hx 29 (hb hby o_d24_28) rfl ?_
 refine o_iconst X1h hx 30 1 (hb hby o_d24_29) rfl ?_
 refine o_ishl X1h hx 31 (hb hby o_d24_30) ?_
 rw [show ((0 : Int32) <<< ((1 : Int32) &&& 31)) = (0 : Int32) from by decide]
 refine o_istoreN X1h hx 32 #[(sR o1), (sI 0)] (hb hby o_d24_31) rfl ?_
 refine o_aloadN X1h hx 33 (hb hby o_d24_32) rfl rfl ?_
 refine o_iloadN X1h hx 34 (hb hby o_d24_33) rfl ?_
 refine o_iinc X1h hx 37 (1 : Int32) #[(sR o1), (sI 1)] (hb hby o_d24_34) rfl rfl rfl ?_
 obtain ⟨cl2, Ar2, qv2, S2, M2, H2, G2⟩ := id pV1
 have hin2 := inb_of (j := (0 : Int32)) S2 ⟨by decide, by decide⟩
 refine o_st (G' := T1.setTop (mkF m 38 #[(sR o1), (sI 1)] [(.int (o_lo c0))])) (fun t k => X1h.baloadBytes hx (j := (0 : Int32)) (v := (.int (o_lo c0))) (by rw [e1]; exact Ar2.1) (State.isArrayOf_alike hZ.alike Ar2.2.1) Ar2.2.2 hin2 (H2.at hin2 rfl) (g := (mkF m 37 #[(sR o1), (sI 1)] [(.int 0), (.ref o1)])) rfl rfl (hb hby o_d24_37) _ k) ?_
 refine o_sipush X1h hx 41 255 (hb hby o_d24_38) rfl ?_
 refine o_iand X1h hx 42 (hb hby o_d24_41) ?_
 obtain ⟨T3, X3, e3, st3⟩ := getS2 X1h hx hZ hown (host := "") (Or.inl (W hw 103 rfl)) Via.refl e1 (GG.2.2.2.2.2.1.ext O0.2) (g := (mkF m 42 #[(sR o1), (sI 1)] [(.int ((o_lo c0) &&& (255 : Int32)))])) rfl (hb hby o_d24_42)
 refine o_st (G' := T3.setTop (mkF m 45 #[(sR o1), (sI 1)] [(.int 0), (.int ((o_lo c0) &&& (255 : Int32)))])) st3 ?_
 obtain ⟨_, X3h, N3h⟩ := o_hide X3 N1h
 refine o_ishl X3h hx 46 (hb hby o_d24_45) ?_
 refine o_aloadN X3h hx 47 (hb hby o_d24_46) rfl rfl ?_
 refine o_iloadN X3h hx 48 (hb hby o_d24_47) rfl ?_
 obtain ⟨cl4, Ar4, qv4, S4, M4, H4, G4⟩ := id pV1
 have hin4 := inb_of (j := (1 : Int32)) S4 ⟨by decide, by decide⟩
 refine o_st (G' := T3.setTop (mkF m 49 #[(sR o1), (sI 1)] [(.int (o_hi c0)), (.int (((o_lo c0) &&& (255 : Int32)) <<< ((0 : Int32) &&& 31)))])) (fun t k => X3h.baloadBytes hx (j := (1 : Int32)) (v := (.int (o_hi c0))) (by rw [e3]; exact Ar4.1) (State.isArrayOf_alike hZ.alike Ar4.2.1) Ar4.2.2 hin4 (H4.at hin4 rfl) (g := (mkF m 48 #[(sR o1), (sI 1)] [(.int 1), (.ref o1), (.int (((o_lo c0) &&& (255 : Int32)) <<< ((0 : Int32) &&& 31)))])) rfl rfl (hb hby o_d24_48) _ k) ?_
 refine o_sipush X3h hx 52 255 (hb hby o_d24_49) rfl ?_
 refine o_iand X3h hx 53 (hb hby o_d24_52) ?_
 obtain ⟨T5, X5, e5, st5⟩ := getS2 X3h hx hZ hown (host := "") (Or.inl (W hw 104 rfl)) Via.refl e3 (GG.2.2.2.2.2.2.ext O0.2) (g := (mkF m 53 #[(sR o1), (sI 1)] [(.int ((o_hi c0) &&& (255 : Int32))), (.int (((o_lo c0) &&& (255 : Int32)) <<< ((0 : Int32) &&& 31)))])) rfl (hb hby o_d24_53)
 refine o_st (G' := T5.setTop (mkF m 56 #[(sR o1), (sI 1)] [(.int 8), (.int ((o_hi c0) &&& (255 : Int32))), (.int (((o_lo c0) &&& (255 : Int32)) <<< ((0 : Int32) &&& 31)))])) st5 ?_
 obtain ⟨_, X5h, N5h⟩ := o_hide X5 N3h
 refine o_ishl X5h hx 57 (hb hby o_d24_56) ?_
 refine o_ior X5h hx 58 (hb hby o_d24_57) ?_
 refine o_i2c X5h hx 59 (hb hby o_d24_58) ?_
 exact o_retN (t := .char) (z := (((((o_lo c0) &&& (255 : Int32)) <<< ((0 : Int32) &&& 31)) ||| (((o_hi c0) &&& (255 : Int32)) <<< ((8 : Int32) &&& 31))).toUInt32.toUInt16.toUInt32.toInt32)) (Q := o_Q24n3i0 Z cs sf GG o1 kb c0 c1 c2 h0 n0) X5h hx hrt (by simp) (hb hby o_d24_59) hlk e5 ⟨(o_leafI (o_gc hC)), N5h, rfl⟩ (by decide) (by decide)
def o_Q32n3 (Z : State) (cs : Int32) (sf : Value) (GG : o_G Z cs sf) (v1 : Int32) (o1 : Addr) (kb : ClassId) (vs : List Value) (h0 : Heap) (n0 : Nat) (v : Option Value) (h : Heap) (L : List Loc) : Prop := v = none ∧ Fr n0 L ∧ h = h0
set_option maxRecDepth 65536 in
set_option maxHeartbeats 40000000 in
theorem o_rm32n3 (l : Launch) (Z : State) (a0 : Array Value) (hw : o_Hw Z a0) (ws : List Jvm.Cond) (cs : Int32) (sf : Value) (GG : o_G Z cs sf) (v1 : Int32) (o1 : Addr) (kb : ClassId) (vs : List Value) (h0 : Heap) (n0 : Nat) (Z0 : n0 ≤ h0.size) (pV1 : Arv Z h0 o1 kb .byte 6 vs (.int 0)) (O0 : Old Z n0 h0) (h1 : ¬ v1 < 0) (h2 : v1 < (3 : Int32)) :
  o_Met l y14 jdk_52_method_91_code 2 none ws r5 #[(.int v1), (.ref o1)] Z h0 (o_Q32n3 Z cs sf GG v1 o1 kb vs h0 n0) := by
 refine MetFree.of_bodySF (plainFor_of_name o_pn4) hisR ?_
 intro p e s m args below meth c s₁ Bd hml0 hP hK
 obtain ⟨rfl, hZ, hh⟩ := hP
 obtain ⟨hx, hby, hlk, hrt⟩ := o_bd Bd
 have hml : c.maxLocals = 2 := hml0
 have hown : s.vm.findClass "java/lang/StringUTF16" = some m.cls := findClass_of_methodNamed Bd.named
 have X0 : Stand p l e r5 s m #[(.int v1), (.ref o1)] below meth c s₁ [] 0 0 := Stand.of_body Bd
 have e0 := o_e0 Bd hh
 have N0 := Fr.nil n0
 refine o_in (g' := mkF m 0 #[(sI v1), (sR o1)] []) (by simp [entryFrame, mkF, argsToLocals, Value.category]) ?_
 refine o_iloadN X0 hx 1 (hb hby o_d32_0) rfl ?_
 refine o_aloadN X0 hx 2 (hb hby o_d32_1) rfl rfl ?_
 obtain ⟨_, _, ⟨T1, Lx1, kc1, nc1⟩, -, X1, ⟨Lc1, hQ1, lq1, yq1, zq1⟩, st1⟩ := Jvm.LawKit.callS X0 hx (y := y6) hown (mvT hZ (W hw 117 rfl)) (mvT hZ (W hw 118 rfl)) (mvT hZ (W hw 58 rfl)) (mvT hZ (W hw 119 rfl)) (by decide) (backOf (W := 1) (o_rm28n3 l Z a0 hw [] o1 kb vs h0 n0 Z0 pV1) hZ (W hw 119 rfl) (W hw 58 rfl) (by decide) (by decide)) (g := (mkF m 2 #[(sI v1), (sR o1)] [(.ref o1), (.int v1)])) rfl (by rw [hml]; rfl) (argsL := [(.ref o1)]) (rest := [(.int v1)]) (lenOf o_pd2 rfl) rfl (o_wl rfl) (hb hby o_d32_2) (fun _ _ => ⟨rfl, e0, (by decide : 0 + 0 ≤ _), (by decide : 0 + 0 ≤ _)⟩)
 dsimp only [Pt.U, Pt.locs, Pt.cells, Pt.slots] at X1 lq1 yq1 zq1 st1 hQ1
 subst lq1 yq1 zq1
 obtain ⟨rfl, Nq1, eh1⟩ := hQ1
 have N1 := Fr.app N0 Nq1
 refine o_st (G' := T1.setTop (mkF m 5 #[(sI v1), (sR o1)] [(.int 3), (.int v1)])) st1 ?_
 obtain ⟨_, X1h, N1h⟩ := o_hide X1 N1
 obtain ⟨_, _, ⟨T2, Lx2, kc2, nc2⟩, -, X2, ⟨Lc2, hQ2, lq2, yq2, zq2⟩, st2⟩ := Jvm.LawKit.callS X1h hx (y := y3) hown (mvT hZ (W hw 132 rfl)) (mvT hZ (W hw 78 rfl)) (mvT hZ (W hw 3 rfl)) (mvT hZ (W hw 79 rfl)) (by decide) (backOf (W := 0) (o_rm17 l Z a0 hw [] cs sf GG v1 (3 : Int32) h0 n0 Z0 (h1 : ¬ v1 < 0) (h2 : v1 < (3 : Int32)) O0) hZ (W hw 79 rfl) (W hw 3 rfl) (by decide) (by decide)) (g := (mkF m 5 #[(sI v1), (sR o1)] [(.int 3), (.int v1)])) rfl (by rw [hml]; rfl) (argsL := [(.int v1), (.int 3)]) (rest := []) (lenOf o_pd5 rfl) rfl (o_wl rfl) (hb hby o_d32_5) (fun _ _ => ⟨rfl, eh1, (by decide : 0 + 0 ≤ _), (by decide : 0 + 0 ≤ _)⟩)
 dsimp only [Pt.U, Pt.locs, Pt.cells, Pt.slots] at X2 lq2 yq2 zq2 st2 hQ2
 subst lq2 yq2 zq2
 obtain ⟨rfl, Nq2, eh2⟩ := hQ2
 have N2 := Fr.app N1h Nq2
 refine o_st (G' := T2.setTop (mkF m 8 #[(sI v1), (sR o1)] [])) st2 ?_
 obtain ⟨_, X2h, N2h⟩ := o_hide X2 N2
 exact o_retV (Q := o_Q32n3 Z cs sf GG v1 o1 kb vs h0 n0) X2h hx hrt (hb hby o_d32_8) hlk eh2 ⟨rfl, N2h, rfl⟩ (by decide) (by decide)
def o_Q31n3i0 (Z : State) (cs : Int32) (sf : Value) (GG : o_G Z cs sf) (o1 : Addr) (kb : ClassId) (c0 : Int32) (c1 : Int32) (c2 : Int32) (h0 : Heap) (n0 : Nat) (v : Option Value) (h : Heap) (L : List Loc) : Prop := v = some (.int c0) ∧ Fr n0 L ∧ h = h0
set_option maxRecDepth 65536 in
set_option maxHeartbeats 40000000 in
theorem o_rm31n3i0 (l : Launch) (Z : State) (a0 : Array Value) (hw : o_Hw Z a0) (ws : List Jvm.Cond) (cs : Int32) (sf : Value) (GG : o_G Z cs sf) (o1 : Addr) (kb : ClassId) (c0 : Int32) (c1 : Int32) (c2 : Int32) (h0 : Heap) (n0 : Nat) (Z0 : n0 ≤ h0.size) (pV1 : Arv Z h0 o1 kb .byte 6 [(.int (o_lo c0)), (.int (o_hi c0)), (.int (o_lo c1)), (.int (o_hi c1)), (.int (o_lo c2)), (.int (o_hi c2))] (.int 0)) (O0 : Old Z n0 h0) (hC : o_C c0) :
  o_Met l y15 jdk_52_method_83_code 2 (some .char) ws r6 #[(.ref o1), (.int 0)] Z h0 (o_Q31n3i0 Z cs sf GG o1 kb c0 c1 c2 h0 n0) := by
 refine MetFree.of_bodySF (plainFor_of_name o_pn4) hisR ?_
 intro p e s m args below meth c s₁ Bd hml0 hP hK
 obtain ⟨rfl, hZ, hh⟩ := hP
 obtain ⟨hx, hby, hlk, hrt⟩ := o_bd Bd
 have hml : c.maxLocals = 2 := hml0
 have hown : s.vm.findClass "java/lang/StringUTF16" = some m.cls := findClass_of_methodNamed Bd.named
 have X0 : Stand p l e r6 s m #[(.ref o1), (.int 0)] below meth c s₁ [] 0 0 := Stand.of_body Bd
 have e0 := o_e0 Bd hh
 have N0 := Fr.nil n0
 refine o_in (g' := mkF m 0 #[(sR o1), (sI 0)] []) (by simp [entryFrame, mkF, argsToLocals, Value.category]) ?_
 refine o_iloadN X0 hx 1 (hb hby o_d31_0) rfl ?_
 refine o_aloadN X0 hx 2 (hb hby o_d31_1) rfl rfl ?_
 obtain ⟨_, _, ⟨T1, Lx1, kc1, nc1⟩, -, X1, ⟨Lc1, hQ1, lq1, yq1, zq1⟩, st1⟩ := Jvm.LawKit.callS X0 hx (y := y14) hown (mvT hZ (W hw 129 rfl)) (mvT hZ (W hw 130 rfl)) (mvT hZ (W hw 58 rfl)) (mvT hZ (W hw 131 rfl)) (by decide) (backOf (W := 0) (o_rm32n3 l Z a0 hw [] cs sf GG (0 : Int32) o1 kb [(.int (o_lo c0)), (.int (o_hi c0)), (.int (o_lo c1)), (.int (o_hi c1)), (.int (o_lo c2)), (.int (o_hi c2))] h0 n0 Z0 pV1 O0 (by decide : ¬ (0 : Int32) < 0) (by decide : (0 : Int32) < (3 : Int32))) hZ (W hw 131 rfl) (W hw 58 rfl) (by decide) (by decide)) (g := (mkF m 2 #[(sR o1), (sI 0)] [(.ref o1), (.int 0)])) rfl (by rw [hml]; rfl) (argsL := [(.int 0), (.ref o1)]) (rest := []) (lenOf o_pd6 rfl) rfl (o_wl rfl) (hb hby o_d31_2) (fun _ _ => ⟨rfl, e0, (by decide : 0 + 0 ≤ _), (by decide : 0 + 0 ≤ _)⟩)
 dsimp only [Pt.U, Pt.locs, Pt.cells, Pt.slots] at X1 lq1 yq1 zq1 st1 hQ1
 subst lq1 yq1 zq1
 obtain ⟨rfl, Nq1, eh1⟩ := hQ1
 have N1 := Fr.app N0 Nq1
 refine o_st (G' := T1.setTop (mkF m 5 #[(sR o1), (sI 0)] [])) st1 ?_
 obtain ⟨_, X1h, N1h⟩ := o_hide X1 N1
 refine o_aloadN X1h hx 6 (hb hby o_d31_5) rfl rfl ?_
 refine o_iloadN X1h hx 7 (hb hby o_d31_6) rfl ?_
 obtain ⟨_, _, ⟨T2, Lx2, kc2, nc2⟩, -, X2, ⟨Lc2, hQ2, lq2, yq2, zq2⟩, st2⟩ := Jvm.LawKit.callS X1h hx (y := y13) hown (mvT hZ (W hw 105 rfl)) (mvT hZ (W hw 106 rfl)) (mvT hZ (W hw 58 rfl)) (mvT hZ (W hw 107 rfl)) (by decide) (backOf (W := 0) (o_rm24n3i0 l Z a0 hw [] cs sf GG o1 kb c0 c1 c2 h0 n0 Z0 pV1 O0 (hC : o_C c0)) hZ (W hw 107 rfl) (W hw 58 rfl) (by decide) (by decide)) (g := (mkF m 7 #[(sR o1), (sI 0)] [(.int 0), (.ref o1)])) rfl (by rw [hml]; rfl) (argsL := [(.ref o1), (.int 0)]) (rest := []) (lenOf o_pd7 rfl) rfl (o_wl rfl) (hb hby o_d31_7) (fun _ _ => ⟨rfl, eh1, (by decide : 0 + 0 ≤ _), (by decide : 0 + 0 ≤ _)⟩)
 dsimp only [Pt.U, Pt.locs, Pt.cells, Pt.slots] at X2 lq2 yq2 zq2 st2 hQ2
 subst lq2 yq2 zq2
 obtain ⟨rfl, Nq2, eh2⟩ := hQ2
 have N2 := Fr.app N1h Nq2
 refine o_st (G' := T2.setTop (mkF m 10 #[(sR o1), (sI 0)] [(.int c0)])) st2 ?_
 obtain ⟨_, X2h, N2h⟩ := o_hide X2 N2
 exact o_retN (t := .char) (z := c0) (Q := o_Q31n3i0 Z cs sf GG o1 kb c0 c1 c2 h0 n0) X2h hx hrt (by simp) (hb hby o_d31_10) hlk eh2 ⟨(o_leafI (o_narC hC)), N2h, rfl⟩ (by decide) (by decide)
def o_Q16n3i0 (Z : State) (cs : Int32) (sf : Value) (GG : o_G Z cs sf) (o1 : Addr) (kb : ClassId) (c0 : Int32) (c1 : Int32) (c2 : Int32) (h0 : Heap) (n0 : Nat) (v : Option Value) (h : Heap) (L : List Loc) : Prop := v = some (.int c0) ∧ Fr n0 L ∧ h = h0
set_option maxRecDepth 65536 in
set_option maxHeartbeats 40000000 in
theorem o_rm16n3i0 (l : Launch) (Z : State) (a0 : Array Value) (hw : o_Hw Z a0) (ws : List Jvm.Cond) (cs : Int32) (sf : Value) (GG : o_G Z cs sf) (o1 : Addr) (kb : ClassId) (c0 : Int32) (c1 : Int32) (c2 : Int32) (h0 : Heap) (n0 : Nat) (Z0 : n0 ≤ h0.size) (pV1 : Arv Z h0 o1 kb .byte 3 [(.int (nar .byte c0.toInt8.toInt32)), (.int (nar .byte c1.toInt8.toInt32)), (.int (nar .byte c2.toInt8.toInt32))] (.int 0)) (O0 : Old Z n0 h0) (hC : o_C c0) (hL : ¬ (255 : Int32) < c0) :
  o_Met l y16 jdk_43_method_2_code 2 (some .char) ws r5 #[(.ref o1), (.int 0)] Z h0 (o_Q16n3i0 Z cs sf GG o1 kb c0 c1 c2 h0 n0) := by
 refine MetFree.of_bodySF (plainFor_of_name o_pn5) hisR ?_
 intro p e s m args below meth c s₁ Bd hml0 hP hK
 obtain ⟨rfl, hZ, hh⟩ := hP
 obtain ⟨hx, hby, hlk, hrt⟩ := o_bd Bd
 have hml : c.maxLocals = 2 := hml0
 have hown : s.vm.findClass "java/lang/StringLatin1" = some m.cls := findClass_of_methodNamed Bd.named
 have X0 : Stand p l e r5 s m #[(.ref o1), (.int 0)] below meth c s₁ [] 0 0 := Stand.of_body Bd
 have e0 := o_e0 Bd hh
 have N0 := Fr.nil n0
 refine o_in (g' := mkF m 0 #[(sR o1), (sI 0)] []) (by simp [entryFrame, mkF, argsToLocals, Value.category]) ?_
 refine o_iloadN X0 hx 1 (hb hby o_d16_0) rfl ?_
 refine o_aloadN X0 hx 2 (hb hby o_d16_1) rfl rfl ?_
 obtain ⟨cl1, Ar1, qv1, S1, M1, H1, G1⟩ := id pV1
 have ln1 := len_of S1 M1
 refine o_st (G' := s₁.setTop (mkF m 3 #[(sR o1), (sI 0)] [(.int 3), (.int 0)])) (fun t k => X0.arraylength hx (by rw [e0]; exact Ar1.1) (State.isArrayOf_alike hZ.alike Ar1.2.1) (g := (mkF m 2 #[(sR o1), (sI 0)] [(.ref o1), (.int 0)])) rfl rfl (hb hby o_d16_2) _ (by rw [ln1]; exact k)) ?_
 obtain ⟨_, _, ⟨T2, Lx2, kc2, nc2⟩, -, X2, ⟨Lc2, hQ2, lq2, yq2, zq2⟩, st2⟩ := Jvm.LawKit.callS X0 hx (y := y3) hown (mvT hZ (W hw 77 rfl)) (mvT hZ (W hw 78 rfl)) (mvT hZ (W hw 3 rfl)) (mvT hZ (W hw 79 rfl)) (by decide) (backOf (W := 0) (o_rm17 l Z a0 hw [] cs sf GG (0 : Int32) (3 : Int32) h0 n0 Z0 (by decide : ¬ (0 : Int32) < 0) (by decide : (0 : Int32) < (3 : Int32)) O0) hZ (W hw 79 rfl) (W hw 3 rfl) (by decide) (by decide)) (g := (mkF m 3 #[(sR o1), (sI 0)] [(.int 3), (.int 0)])) rfl (by rw [hml]; rfl) (argsL := [(.int 0), (.int 3)]) (rest := []) (lenOf o_pd5 rfl) rfl (o_wl rfl) (hb hby o_d16_3) (fun _ _ => ⟨rfl, e0, (by decide : 0 + 0 ≤ _), (by decide : 0 + 0 ≤ _)⟩)
 dsimp only [Pt.U, Pt.locs, Pt.cells, Pt.slots] at X2 lq2 yq2 zq2 st2 hQ2
 subst lq2 yq2 zq2
 obtain ⟨rfl, Nq2, eh2⟩ := hQ2
 have N2 := Fr.app N0 Nq2
 refine o_st (G' := T2.setTop (mkF m 6 #[(sR o1), (sI 0)] [])) st2 ?_
 obtain ⟨_, X2h, N2h⟩ := o_hide X2 N2
 refine o_aloadN X2h hx 7 (hb hby o_d16_6) rfl rfl ?_
 refine o_iloadN X2h hx 8 (hb hby o_d16_7) rfl ?_
 obtain ⟨cl3, Ar3, qv3, S3, M3, H3, G3⟩ := id pV1
 have hin3 := inb_of (j := (0 : Int32)) S3 ⟨by decide, by decide⟩
 refine o_st (G' := T2.setTop (mkF m 9 #[(sR o1), (sI 0)] [(.int (nar .byte c0.toInt8.toInt32))])) (fun t k => X2h.baloadBytes hx (j := (0 : Int32)) (v := (.int (nar .byte c0.toInt8.toInt32))) (by rw [eh2]; exact Ar3.1) (State.isArrayOf_alike hZ.alike Ar3.2.1) Ar3.2.2 hin3 (H3.at hin3 rfl) (g := (mkF m 8 #[(sR o1), (sI 0)] [(.int 0), (.ref o1)])) rfl rfl (hb hby o_d16_8) _ k) ?_
 refine o_sipush X2h hx 12 255 (hb hby o_d16_9) rfl ?_
 refine o_iand X2h hx 13 (hb hby o_d16_12) ?_
 refine o_i2c X2h hx 14 (hb hby o_d16_13) ?_
 exact o_retN (t := .char) (z := (((nar .byte c0.toInt8.toInt32) &&& (255 : Int32)).toUInt32.toUInt16.toUInt32.toInt32)) (Q := o_Q16n3i0 Z cs sf GG o1 kb c0 c1 c2 h0 n0) X2h hx hrt (by simp) (hb hby o_d16_14) hlk eh2 ⟨(o_leafI (o_lat hC hL)), N2h, rfl⟩ (by decide) (by decide)
def o_Q23n3i1 (Z : State) (cs : Int32) (sf : Value) (GG : o_G Z cs sf) (o1 : Addr) (v2 : Int32) (kb : ClassId) (yy0 : Int32) (yy1 : Int32) (yy2 : Int32) (yy3 : Int32) (yy4 : Int32) (yy5 : Int32) (h0 : Heap) (n0 : Nat) (v : Option Value) (h : Heap) (L : List Loc) : Prop := v = none ∧ Fr n0 L ∧ Keep h0 h [o1] ∧ Arv Z h o1 kb .byte 6 [(.int yy0), (.int yy1), (.int (o_lo v2)), (.int (o_hi v2)), (.int yy4), (.int yy5)] (.int 0)
set_option maxRecDepth 65536 in
set_option maxHeartbeats 40000000 in
theorem o_rm23n3i1 (l : Launch) (Z : State) (a0 : Array Value) (hw : o_Hw Z a0) (ws : List Jvm.Cond) (cs : Int32) (sf : Value) (GG : o_G Z cs sf) (o1 : Addr) (v2 : Int32) (kb : ClassId) (yy0 : Int32) (yy1 : Int32) (yy2 : Int32) (yy3 : Int32) (yy4 : Int32) (yy5 : Int32) (h0 : Heap) (n0 : Nat) (Z0 : n0 ≤ h0.size) (pV1 : Arv Z h0 o1 kb .byte 6 [(.int yy0), (.int yy1), (.int yy2), (.int yy3), (.int yy4), (.int yy5)] (.int 0)) (pG2 : n0 ≤ o1) (O0 : Old Z n0 h0) :
  o_Met l y12 jdk_52_method_4_code 3 none ws r0 #[(.ref o1), (.int 1), (.int v2)] Z h0 (o_Q23n3i1 Z cs sf GG o1 v2 kb yy0 yy1 yy2 yy3 yy4 yy5 h0 n0) := by
 refine MetFree.of_bodySF (plainFor_of_name o_pn4) hisR ?_
 intro p e s m args below meth c s₁ Bd hml0 hP hK
 obtain ⟨rfl, hZ, hh⟩ := hP
 obtain ⟨hx, hby, hlk, hrt⟩ := o_bd Bd
 have hown : s.vm.findClass "java/lang/StringUTF16" = some m.cls := findClass_of_methodNamed Bd.named
 have X0 : Stand p l e r0 s m #[(.ref o1), (.int 1), (.int v2)] below meth c s₁ [] 0 0 := Stand.of_body Bd
 have e0 := o_e0 Bd hh
 have N0 := Fr.nil n0
 have KC0 := Keep.refl h0 [o1]
 refine o_in (g' := mkF m 0 #[(sR o1), (sI 1), (sI v2)] []) (by simp [entryFrame, mkF, argsToLocals, Value.category]) ?_
 obtain ⟨T1, X1, e1, st1⟩ := getS2 X0 hx hZ hown (host := "") (Or.inl (W hw 102 rfl)) Via.refl e0 (GG.2.2.2.2.1.ext O0.2) (g := (mkF m 0 #[(sR o1), (sI 1), (sI v2)] [])) rfl (hb hby o_d23_0)
 refine o_st (G' := T1.setTop (mkF m 3 #[(sR o1), (sI 1), (sI v2)] [(.int 1)])) st1 ?_
 obtain ⟨_, X1h, N1h⟩ := o_hide X1 N0
 refine o_ifYes X1h hx 28 (hb hby o_d23_3) (feq (by decide : ¬ ((1 : Int32) = (0 : Int32)))).2 ?_
 refine o_iloadN X1h hx 29 (hb hby o_d23_28) rfl ?_
 refine o_iconst X1h hx 30 1 (hb hby o_d23_29) rfl ?_
 refine o_ishl X1h hx 31 (hb hby o_d23_30) ?_
 rw [show ((1 : Int32) <<< ((1 : Int32) &&& 31)) = (2 : Int32) from by decide]
 refine o_istoreN X1h hx 32 #[(sR o1), (sI 2), (sI v2)] (hb hby o_d23_31) rfl ?_
 refine o_aloadN X1h hx 33 (hb hby o_d23_32) rfl rfl ?_
 refine o_iloadN X1h hx 34 (hb hby o_d23_33) rfl ?_
 refine o_iinc X1h hx 37 (1 : Int32) #[(sR o1), (sI 3), (sI v2)] (hb hby o_d23_34) rfl rfl rfl ?_
 refine o_iloadN X1h hx 38 (hb hby o_d23_37) rfl ?_
 obtain ⟨T2, X2, e2, st2⟩ := getS2 X1h hx hZ hown (host := "") (Or.inl (W hw 103 rfl)) Via.refl e1 (GG.2.2.2.2.2.1.ext O0.2) (g := (mkF m 38 #[(sR o1), (sI 3), (sI v2)] [(.int v2), (.int 2), (.ref o1)])) rfl (hb hby o_d23_38)
 refine o_st (G' := T2.setTop (mkF m 41 #[(sR o1), (sI 3), (sI v2)] [(.int 0), (.int v2), (.int 2), (.ref o1)])) st2 ?_
 obtain ⟨_, X2h, N2h⟩ := o_hide X2 N1h
 refine o_ishr X2h hx 42 (hb hby o_d23_41) ?_
 refine o_i2b X2h hx 43 (hb hby o_d23_42) ?_
 obtain ⟨cl3, Ar3, qv3, S3, M3, H3, G3⟩ := id pV1
 have hin3 := inb_of (j := (2 : Int32)) S3 ⟨by decide, by decide⟩
 obtain ⟨T3, h3, X3, e3, W3, st3⟩ := stB X2h hx hZ e2 Ar3 (j := (2 : Int32)) hin3 (g := (mkF m 43 #[(sR o1), (sI 3), (sI v2)] [(.int ((v2 >>> ((0 : Int32) &&& 31)).toInt8.toInt32)), (.int 2), (.ref o1)])) rfl rfl (hb hby o_d23_43)
 have V3 : Arv Z h3 o1 kb .byte 6 [(.int yy0), (.int yy1), (.int (nar .byte ((v2 >>> ((0 : Int32) &&& 31)).toInt8.toInt32))), (.int yy3), (.int yy4), (.int yy5)] (.int 0) := Arv.set Ar3 qv3 S3 M3 H3 G3 (fits_nar_byte _) W3 2 rfl (Nat.le_of_ble_eq_true rfl)
 have N3 := Fr.snoc X3 N2h pG2
 have O4 := O0.wr W3 pG2
 have KC5 := KC0.wr W3 (Or.inl (List.mem_of_getElem? (i := 0) rfl))
 refine o_st (G' := T3.setTop (mkF m 44 #[(sR o1), (sI 3), (sI v2)] [])) st3 ?_
 obtain ⟨_, X3h, N3h⟩ := o_hide X3 N3
 refine o_aloadN X3h hx 45 (hb hby o_d23_44) rfl rfl ?_
 refine o_iloadN X3h hx 46 (hb hby o_d23_45) rfl ?_
 refine o_iloadN X3h hx 47 (hb hby o_d23_46) rfl ?_
 obtain ⟨T7, X7, e7, st7⟩ := getS2 X3h hx hZ hown (host := "") (Or.inl (W hw 104 rfl)) Via.refl e3 (GG.2.2.2.2.2.2.ext O4.2) (g := (mkF m 47 #[(sR o1), (sI 3), (sI v2)] [(.int v2), (.int 3), (.ref o1)])) rfl (hb hby o_d23_47)
 refine o_st (G' := T7.setTop (mkF m 50 #[(sR o1), (sI 3), (sI v2)] [(.int 8), (.int v2), (.int 3), (.ref o1)])) st7 ?_
 obtain ⟨_, X7h, N7h⟩ := o_hide X7 N3h
 refine o_ishr X7h hx 51 (hb hby o_d23_50) ?_
 refine o_i2b X7h hx 52 (hb hby o_d23_51) ?_
 obtain ⟨cl8, Ar8, qv8, S8, M8, H8, G8⟩ := id V3
 have hin8 := inb_of (j := (3 : Int32)) S8 ⟨by decide, by decide⟩
 obtain ⟨T8, h8, X8, e8, W8, st8⟩ := stB X7h hx hZ e7 Ar8 (j := (3 : Int32)) hin8 (g := (mkF m 52 #[(sR o1), (sI 3), (sI v2)] [(.int ((v2 >>> ((8 : Int32) &&& 31)).toInt8.toInt32)), (.int 3), (.ref o1)])) rfl rfl (hb hby o_d23_52)
 have V8 : Arv Z h8 o1 kb .byte 6 [(.int yy0), (.int yy1), (.int (nar .byte ((v2 >>> ((0 : Int32) &&& 31)).toInt8.toInt32))), (.int (nar .byte ((v2 >>> ((8 : Int32) &&& 31)).toInt8.toInt32))), (.int yy4), (.int yy5)] (.int 0) := Arv.set Ar8 qv8 S8 M8 H8 G8 (fits_nar_byte _) W8 3 rfl (Nat.le_of_ble_eq_true rfl)
 have N8 := Fr.snoc X8 N7h pG2
 have KC10 := KC5.wr W8 (Or.inl (List.mem_of_getElem? (i := 0) rfl))
 refine o_st (G' := T8.setTop (mkF m 53 #[(sR o1), (sI 3), (sI v2)] [])) st8 ?_
 obtain ⟨_, X8h, N8h⟩ := o_hide X8 N8
 exact o_retV (Q := o_Q23n3i1 Z cs sf GG o1 v2 kb yy0 yy1 yy2 yy3 yy4 yy5 h0 n0) X8h hx hrt (hb hby o_d23_53) hlk e8 ⟨rfl, N8h, KC10, V8⟩ (by decide) (by decide)
def o_Q24n3i1 (Z : State) (cs : Int32) (sf : Value) (GG : o_G Z cs sf) (o1 : Addr) (kb : ClassId) (c0 : Int32) (c1 : Int32) (c2 : Int32) (h0 : Heap) (n0 : Nat) (v : Option Value) (h : Heap) (L : List Loc) : Prop := v = some (.int c1) ∧ Fr n0 L ∧ h = h0
set_option maxRecDepth 65536 in
set_option maxHeartbeats 40000000 in
theorem o_rm24n3i1 (l : Launch) (Z : State) (a0 : Array Value) (hw : o_Hw Z a0) (ws : List Jvm.Cond) (cs : Int32) (sf : Value) (GG : o_G Z cs sf) (o1 : Addr) (kb : ClassId) (c0 : Int32) (c1 : Int32) (c2 : Int32) (h0 : Heap) (n0 : Nat) (Z0 : n0 ≤ h0.size) (pV1 : Arv Z h0 o1 kb .byte 6 [(.int (o_lo c0)), (.int (o_hi c0)), (.int (o_lo c1)), (.int (o_hi c1)), (.int (o_lo c2)), (.int (o_hi c2))] (.int 0)) (O0 : Old Z n0 h0) (hC : o_C c1) :
  o_Met l y13 jdk_52_method_5_code 2 (some .char) ws r0 #[(.ref o1), (.int 1)] Z h0 (o_Q24n3i1 Z cs sf GG o1 kb c0 c1 c2 h0 n0) := by
 refine MetFree.of_bodySF (plainFor_of_name o_pn4) hisR ?_
 intro p e s m args below meth c s₁ Bd hml0 hP hK
 obtain ⟨rfl, hZ, hh⟩ := hP
 obtain ⟨hx, hby, hlk, hrt⟩ := o_bd Bd
 have hown : s.vm.findClass "java/lang/StringUTF16" = some m.cls := findClass_of_methodNamed Bd.named
 have X0 : Stand p l e r0 s m #[(.ref o1), (.int 1)] below meth c s₁ [] 0 0 := Stand.of_body Bd
 have e0 := o_e0 Bd hh
 have N0 := Fr.nil n0
 refine o_in (g' := mkF m 0 #[(sR o1), (sI 1)] []) (by simp [entryFrame, mkF, argsToLocals, Value.category]) ?_
 obtain ⟨T1, X1, e1, st1⟩ := getS2 X0 hx hZ hown (host := "") (Or.inl (W hw 102 rfl)) Via.refl e0 (GG.2.2.2.2.1.ext O0.2) (g := (mkF m 0 #[(sR o1), (sI 1)] [])) rfl (hb hby o_d24_0)
 refine o_st (G' := T1.setTop (mkF m 3 #[(sR o1), (sI 1)] [(.int 1)])) st1 ?_
 obtain ⟨_, X1h, N1h⟩ := o_hide X1 N0
 refine o_ifYes X1h hx 28 (hb hby o_d24_3) (feq (by decide : ¬ ((1 : Int32) = (0 : Int32)))).2 ?_
 refine o_iloadN X1h hx 29 (hb hby o_d24_28) rfl ?_
 refine o_iconst X1h hx 30 1 (hb hby o_d24_29) rfl ?_
 refine o_ishl X1h hx 31 (hb hby o_d24_30) ?_
 rw [show ((1 : Int32) <<< ((1 : Int32) &&& 31)) = (2 : Int32) from by decide]
 refine o_istoreN X1h hx 32 #[(sR o1), (sI 2)] (hb hby o_d24_31) rfl ?_
 refine o_aloadN X1h hx 33 (hb hby o_d24_32) rfl rfl ?_
 refine o_iloadN X1h hx 34 (hb hby o_d24_33) rfl ?_
 refine o_iinc X1h hx 37 (1 : Int32) #[(sR o1), (sI 3)] (hb hby o_d24_34) rfl rfl rfl ?_
 obtain ⟨cl2, Ar2, qv2, S2, M2, H2, G2⟩ := id pV1
 have hin2 := inb_of (j := (2 : Int32)) S2 ⟨by decide, by decide⟩
 refine o_st (G' := T1.setTop (mkF m 38 #[(sR o1), (sI 3)] [(.int (o_lo c1))])) (fun t k => X1h.baloadBytes hx (j := (2 : Int32)) (v := (.int (o_lo c1))) (by rw [e1]; exact Ar2.1) (State.isArrayOf_alike hZ.alike Ar2.2.1) Ar2.2.2 hin2 (H2.at hin2 rfl) (g := (mkF m 37 #[(sR o1), (sI 3)] [(.int 2), (.ref o1)])) rfl rfl (hb hby o_d24_37) _ k) ?_
 refine o_sipush X1h hx 41 255 (hb hby o_d24_38) rfl ?_
 refine o_iand X1h hx 42 (hb hby o_d24_41) ?_
 obtain ⟨T3, X3, e3, st3⟩ := getS2 X1h hx hZ hown (host := "") (Or.inl (W hw 103 rfl)) Via.refl e1 (GG.2.2.2.2.2.1.ext O0.2) (g := (mkF m 42 #[(sR o1), (sI 3)] [(.int ((o_lo c1) &&& (255 : Int32)))])) rfl (hb hby o_d24_42)
 refine o_st (G' := T3.setTop (mkF m 45 #[(sR o1), (sI 3)] [(.int 0), (.int ((o_lo c1) &&& (255 : Int32)))])) st3 ?_
 obtain ⟨_, X3h, N3h⟩ := o_hide X3 N1h
 refine o_ishl X3h hx 46 (hb hby o_d24_45) ?_
 refine o_aloadN X3h hx 47 (hb hby o_d24_46) rfl rfl ?_
 refine o_iloadN X3h hx 48 (hb hby o_d24_47) rfl ?_
 obtain ⟨cl4, Ar4, qv4, S4, M4, H4, G4⟩ := id pV1
 have hin4 := inb_of (j := (3 : Int32)) S4 ⟨by decide, by decide⟩
 refine o_st (G' := T3.setTop (mkF m 49 #[(sR o1), (sI 3)] [(.int (o_hi c1)), (.int (((o_lo c1) &&& (255 : Int32)) <<< ((0 : Int32) &&& 31)))])) (fun t k => X3h.baloadBytes hx (j := (3 : Int32)) (v := (.int (o_hi c1))) (by rw [e3]; exact Ar4.1) (State.isArrayOf_alike hZ.alike Ar4.2.1) Ar4.2.2 hin4 (H4.at hin4 rfl) (g := (mkF m 48 #[(sR o1), (sI 3)] [(.int 3), (.ref o1), (.int (((o_lo c1) &&& (255 : Int32)) <<< ((0 : Int32) &&& 31)))])) rfl rfl (hb hby o_d24_48) _ k) ?_
 refine o_sipush X3h hx 52 255 (hb hby o_d24_49) rfl ?_
 refine o_iand X3h hx 53 (hb hby o_d24_52) ?_
 obtain ⟨T5, X5, e5, st5⟩ := getS2 X3h hx hZ hown (host := "") (Or.inl (W hw 104 rfl)) Via.refl e3 (GG.2.2.2.2.2.2.ext O0.2) (g := (mkF m 53 #[(sR o1), (sI 3)] [(.int ((o_hi c1) &&& (255 : Int32))), (.int (((o_lo c1) &&& (255 : Int32)) <<< ((0 : Int32) &&& 31)))])) rfl (hb hby o_d24_53)
 refine o_st (G' := T5.setTop (mkF m 56 #[(sR o1), (sI 3)] [(.int 8), (.int ((o_hi c1) &&& (255 : Int32))), (.int (((o_lo c1) &&& (255 : Int32)) <<< ((0 : Int32) &&& 31)))])) st5 ?_
 obtain ⟨_, X5h, N5h⟩ := o_hide X5 N3h
 refine o_ishl X5h hx 57 (hb hby o_d24_56) ?_
 refine o_ior X5h hx 58 (hb hby o_d24_57) ?_
 refine o_i2c X5h hx 59 (hb hby o_d24_58) ?_
 exact o_retN (t := .char) (z := (((((o_lo c1) &&& (255 : Int32)) <<< ((0 : Int32) &&& 31)) ||| (((o_hi c1) &&& (255 : Int32)) <<< ((8 : Int32) &&& 31))).toUInt32.toUInt16.toUInt32.toInt32)) (Q := o_Q24n3i1 Z cs sf GG o1 kb c0 c1 c2 h0 n0) X5h hx hrt (by simp) (hb hby o_d24_59) hlk e5 ⟨(o_leafI (o_gc hC)), N5h, rfl⟩ (by decide) (by decide)
def o_Q31n3i1 (Z : State) (cs : Int32) (sf : Value) (GG : o_G Z cs sf) (o1 : Addr) (kb : ClassId) (c0 : Int32) (c1 : Int32) (c2 : Int32) (h0 : Heap) (n0 : Nat) (v : Option Value) (h : Heap) (L : List Loc) : Prop := v = some (.int c1) ∧ Fr n0 L ∧ h = h0
set_option maxRecDepth 65536 in
set_option maxHeartbeats 40000000 in
theorem o_rm31n3i1 (l : Launch) (Z : State) (a0 : Array Value) (hw : o_Hw Z a0) (ws : List Jvm.Cond) (cs : Int32) (sf : Value) (GG : o_G Z cs sf) (o1 : Addr) (kb : ClassId) (c0 : Int32) (c1 : Int32) (c2 : Int32) (h0 : Heap) (n0 : Nat) (Z0 : n0 ≤ h0.size) (pV1 : Arv Z h0 o1 kb .byte 6 [(.int (o_lo c0)), (.int (o_hi c0)), (.int (o_lo c1)), (.int (o_hi c1)), (.int (o_lo c2)), (.int (o_hi c2))] (.int 0)) (O0 : Old Z n0 h0) (hC : o_C c1) :
  o_Met l y15 jdk_52_method_83_code 2 (some .char) ws r6 #[(.ref o1), (.int 1)] Z h0 (o_Q31n3i1 Z cs sf GG o1 kb c0 c1 c2 h0 n0) := by
 refine MetFree.of_bodySF (plainFor_of_name o_pn4) hisR ?_
 intro p e s m args below meth c s₁ Bd hml0 hP hK
 obtain ⟨rfl, hZ, hh⟩ := hP
 obtain ⟨hx, hby, hlk, hrt⟩ := o_bd Bd
 have hml : c.maxLocals = 2 := hml0
 have hown : s.vm.findClass "java/lang/StringUTF16" = some m.cls := findClass_of_methodNamed Bd.named
 have X0 : Stand p l e r6 s m #[(.ref o1), (.int 1)] below meth c s₁ [] 0 0 := Stand.of_body Bd
 have e0 := o_e0 Bd hh
 have N0 := Fr.nil n0
 refine o_in (g' := mkF m 0 #[(sR o1), (sI 1)] []) (by simp [entryFrame, mkF, argsToLocals, Value.category]) ?_
 refine o_iloadN X0 hx 1 (hb hby o_d31_0) rfl ?_
 refine o_aloadN X0 hx 2 (hb hby o_d31_1) rfl rfl ?_
 obtain ⟨_, _, ⟨T1, Lx1, kc1, nc1⟩, -, X1, ⟨Lc1, hQ1, lq1, yq1, zq1⟩, st1⟩ := Jvm.LawKit.callS X0 hx (y := y14) hown (mvT hZ (W hw 129 rfl)) (mvT hZ (W hw 130 rfl)) (mvT hZ (W hw 58 rfl)) (mvT hZ (W hw 131 rfl)) (by decide) (backOf (W := 0) (o_rm32n3 l Z a0 hw [] cs sf GG (1 : Int32) o1 kb [(.int (o_lo c0)), (.int (o_hi c0)), (.int (o_lo c1)), (.int (o_hi c1)), (.int (o_lo c2)), (.int (o_hi c2))] h0 n0 Z0 pV1 O0 (by decide : ¬ (1 : Int32) < 0) (by decide : (1 : Int32) < (3 : Int32))) hZ (W hw 131 rfl) (W hw 58 rfl) (by decide) (by decide)) (g := (mkF m 2 #[(sR o1), (sI 1)] [(.ref o1), (.int 1)])) rfl (by rw [hml]; rfl) (argsL := [(.int 1), (.ref o1)]) (rest := []) (lenOf o_pd6 rfl) rfl (o_wl rfl) (hb hby o_d31_2) (fun _ _ => ⟨rfl, e0, (by decide : 0 + 0 ≤ _), (by decide : 0 + 0 ≤ _)⟩)
 dsimp only [Pt.U, Pt.locs, Pt.cells, Pt.slots] at X1 lq1 yq1 zq1 st1 hQ1
 subst lq1 yq1 zq1
 obtain ⟨rfl, Nq1, eh1⟩ := hQ1
 have N1 := Fr.app N0 Nq1
 refine o_st (G' := T1.setTop (mkF m 5 #[(sR o1), (sI 1)] [])) st1 ?_
 obtain ⟨_, X1h, N1h⟩ := o_hide X1 N1
 refine o_aloadN X1h hx 6 (hb hby o_d31_5) rfl rfl ?_
 refine o_iloadN X1h hx 7 (hb hby o_d31_6) rfl ?_
 obtain ⟨_, _, ⟨T2, Lx2, kc2, nc2⟩, -, X2, ⟨Lc2, hQ2, lq2, yq2, zq2⟩, st2⟩ := Jvm.LawKit.callS X1h hx (y := y13) hown (mvT hZ (W hw 105 rfl)) (mvT hZ (W hw 106 rfl)) (mvT hZ (W hw 58 rfl)) (mvT hZ (W hw 107 rfl)) (by decide) (backOf (W := 0) (o_rm24n3i1 l Z a0 hw [] cs sf GG o1 kb c0 c1 c2 h0 n0 Z0 pV1 O0 (hC : o_C c1)) hZ (W hw 107 rfl) (W hw 58 rfl) (by decide) (by decide)) (g := (mkF m 7 #[(sR o1), (sI 1)] [(.int 1), (.ref o1)])) rfl (by rw [hml]; rfl) (argsL := [(.ref o1), (.int 1)]) (rest := []) (lenOf o_pd7 rfl) rfl (o_wl rfl) (hb hby o_d31_7) (fun _ _ => ⟨rfl, eh1, (by decide : 0 + 0 ≤ _), (by decide : 0 + 0 ≤ _)⟩)
 dsimp only [Pt.U, Pt.locs, Pt.cells, Pt.slots] at X2 lq2 yq2 zq2 st2 hQ2
 subst lq2 yq2 zq2
 obtain ⟨rfl, Nq2, eh2⟩ := hQ2
 have N2 := Fr.app N1h Nq2
 refine o_st (G' := T2.setTop (mkF m 10 #[(sR o1), (sI 1)] [(.int c1)])) st2 ?_
 obtain ⟨_, X2h, N2h⟩ := o_hide X2 N2
 exact o_retN (t := .char) (z := c1) (Q := o_Q31n3i1 Z cs sf GG o1 kb c0 c1 c2 h0 n0) X2h hx hrt (by simp) (hb hby o_d31_10) hlk eh2 ⟨(o_leafI (o_narC hC)), N2h, rfl⟩ (by decide) (by decide)
def o_Q16n3i1 (Z : State) (cs : Int32) (sf : Value) (GG : o_G Z cs sf) (o1 : Addr) (kb : ClassId) (c0 : Int32) (c1 : Int32) (c2 : Int32) (h0 : Heap) (n0 : Nat) (v : Option Value) (h : Heap) (L : List Loc) : Prop := v = some (.int c1) ∧ Fr n0 L ∧ h = h0
set_option maxRecDepth 65536 in
set_option maxHeartbeats 40000000 in
theorem o_rm16n3i1 (l : Launch) (Z : State) (a0 : Array Value) (hw : o_Hw Z a0) (ws : List Jvm.Cond) (cs : Int32) (sf : Value) (GG : o_G Z cs sf) (o1 : Addr) (kb : ClassId) (c0 : Int32) (c1 : Int32) (c2 : Int32) (h0 : Heap) (n0 : Nat) (Z0 : n0 ≤ h0.size) (pV1 : Arv Z h0 o1 kb .byte 3 [(.int (nar .byte c0.toInt8.toInt32)), (.int (nar .byte c1.toInt8.toInt32)), (.int (nar .byte c2.toInt8.toInt32))] (.int 0)) (O0 : Old Z n0 h0) (hC : o_C c1) (hL : ¬ (255 : Int32) < c1) :
  o_Met l y16 jdk_43_method_2_code 2 (some .char) ws r5 #[(.ref o1), (.int 1)] Z h0 (o_Q16n3i1 Z cs sf GG o1 kb c0 c1 c2 h0 n0) := by
 refine MetFree.of_bodySF (plainFor_of_name o_pn5) hisR ?_
 intro p e s m args below meth c s₁ Bd hml0 hP hK
 obtain ⟨rfl, hZ, hh⟩ := hP
 obtain ⟨hx, hby, hlk, hrt⟩ := o_bd Bd
 have hml : c.maxLocals = 2 := hml0
 have hown : s.vm.findClass "java/lang/StringLatin1" = some m.cls := findClass_of_methodNamed Bd.named
 have X0 : Stand p l e r5 s m #[(.ref o1), (.int 1)] below meth c s₁ [] 0 0 := Stand.of_body Bd
 have e0 := o_e0 Bd hh
 have N0 := Fr.nil n0
 refine o_in (g' := mkF m 0 #[(sR o1), (sI 1)] []) (by simp [entryFrame, mkF, argsToLocals, Value.category]) ?_
 refine o_iloadN X0 hx 1 (hb hby o_d16_0) rfl ?_
 refine o_aloadN X0 hx 2 (hb hby o_d16_1) rfl rfl ?_
 obtain ⟨cl1, Ar1, qv1, S1, M1, H1, G1⟩ := id pV1
 have ln1 := len_of S1 M1
 refine o_st (G' := s₁.setTop (mkF m 3 #[(sR o1), (sI 1)] [(.int 3), (.int 1)])) (fun t k => X0.arraylength hx (by rw [e0]; exact Ar1.1) (State.isArrayOf_alike hZ.alike Ar1.2.1) (g := (mkF m 2 #[(sR o1), (sI 1)] [(.ref o1), (.int 1)])) rfl rfl (hb hby o_d16_2) _ (by rw [ln1]; exact k)) ?_
 obtain ⟨_, _, ⟨T2, Lx2, kc2, nc2⟩, -, X2, ⟨Lc2, hQ2, lq2, yq2, zq2⟩, st2⟩ := Jvm.LawKit.callS X0 hx (y := y3) hown (mvT hZ (W hw 77 rfl)) (mvT hZ (W hw 78 rfl)) (mvT hZ (W hw 3 rfl)) (mvT hZ (W hw 79 rfl)) (by decide) (backOf (W := 0) (o_rm17 l Z a0 hw [] cs sf GG (1 : Int32) (3 : Int32) h0 n0 Z0 (by decide : ¬ (1 : Int32) < 0) (by decide : (1 : Int32) < (3 : Int32)) O0) hZ (W hw 79 rfl) (W hw 3 rfl) (by decide) (by decide)) (g := (mkF m 3 #[(sR o1), (sI 1)] [(.int 3), (.int 1)])) rfl (by rw [hml]; rfl) (argsL := [(.int 1), (.int 3)]) (rest := []) (lenOf o_pd5 rfl) rfl (o_wl rfl) (hb hby o_d16_3) (fun _ _ => ⟨rfl, e0, (by decide : 0 + 0 ≤ _), (by decide : 0 + 0 ≤ _)⟩)
 dsimp only [Pt.U, Pt.locs, Pt.cells, Pt.slots] at X2 lq2 yq2 zq2 st2 hQ2
 subst lq2 yq2 zq2
 obtain ⟨rfl, Nq2, eh2⟩ := hQ2
 have N2 := Fr.app N0 Nq2
 refine o_st (G' := T2.setTop (mkF m 6 #[(sR o1), (sI 1)] [])) st2 ?_
 obtain ⟨_, X2h, N2h⟩ := o_hide X2 N2
 refine o_aloadN X2h hx 7 (hb hby o_d16_6) rfl rfl ?_
 refine o_iloadN X2h hx 8 (hb hby o_d16_7) rfl ?_
 obtain ⟨cl3, Ar3, qv3, S3, M3, H3, G3⟩ := id pV1
 have hin3 := inb_of (j := (1 : Int32)) S3 ⟨by decide, by decide⟩
 refine o_st (G' := T2.setTop (mkF m 9 #[(sR o1), (sI 1)] [(.int (nar .byte c1.toInt8.toInt32))])) (fun t k => X2h.baloadBytes hx (j := (1 : Int32)) (v := (.int (nar .byte c1.toInt8.toInt32))) (by rw [eh2]; exact Ar3.1) (State.isArrayOf_alike hZ.alike Ar3.2.1) Ar3.2.2 hin3 (H3.at hin3 rfl) (g := (mkF m 8 #[(sR o1), (sI 1)] [(.int 1), (.ref o1)])) rfl rfl (hb hby o_d16_8) _ k) ?_
 refine o_sipush X2h hx 12 255 (hb hby o_d16_9) rfl ?_
 refine o_iand X2h hx 13 (hb hby o_d16_12) ?_
 refine o_i2c X2h hx 14 (hb hby o_d16_13) ?_
 exact o_retN (t := .char) (z := (((nar .byte c1.toInt8.toInt32) &&& (255 : Int32)).toUInt32.toUInt16.toUInt32.toInt32)) (Q := o_Q16n3i1 Z cs sf GG o1 kb c0 c1 c2 h0 n0) X2h hx hrt (by simp) (hb hby o_d16_14) hlk eh2 ⟨(o_leafI (o_lat hC hL)), N2h, rfl⟩ (by decide) (by decide)
def o_Q23n3i2 (Z : State) (cs : Int32) (sf : Value) (GG : o_G Z cs sf) (o1 : Addr) (v2 : Int32) (kb : ClassId) (yy0 : Int32) (yy1 : Int32) (yy2 : Int32) (yy3 : Int32) (yy4 : Int32) (yy5 : Int32) (h0 : Heap) (n0 : Nat) (v : Option Value) (h : Heap) (L : List Loc) : Prop := v = none ∧ Fr n0 L ∧ Keep h0 h [o1] ∧ Arv Z h o1 kb .byte 6 [(.int yy0), (.int yy1), (.int yy2), (.int yy3), (.int (o_lo v2)), (.int (o_hi v2))] (.int 0)
set_option maxRecDepth 65536 in
set_option maxHeartbeats 40000000 in
theorem o_rm23n3i2 (l : Launch) (Z : State) (a0 : Array Value) (hw : o_Hw Z a0) (ws : List Jvm.Cond) (cs : Int32) (sf : Value) (GG : o_G Z cs sf) (o1 : Addr) (v2 : Int32) (kb : ClassId) (yy0 : Int32) (yy1 : Int32) (yy2 : Int32) (yy3 : Int32) (yy4 : Int32) (yy5 : Int32) (h0 : Heap) (n0 : Nat) (Z0 : n0 ≤ h0.size) (pV1 : Arv Z h0 o1 kb .byte 6 [(.int yy0), (.int yy1), (.int yy2), (.int yy3), (.int yy4), (.int yy5)] (.int 0)) (pG2 : n0 ≤ o1) (O0 : Old Z n0 h0) :
  o_Met l y12 jdk_52_method_4_code 3 none ws r0 #[(.ref o1), (.int 2), (.int v2)] Z h0 (o_Q23n3i2 Z cs sf GG o1 v2 kb yy0 yy1 yy2 yy3 yy4 yy5 h0 n0) := by
 refine MetFree.of_bodySF (plainFor_of_name o_pn4) hisR ?_
 intro p e s m args below meth c s₁ Bd hml0 hP hK
 obtain ⟨rfl, hZ, hh⟩ := hP
 obtain ⟨hx, hby, hlk, hrt⟩ := o_bd Bd
 have hown : s.vm.findClass "java/lang/StringUTF16" = some m.cls := findClass_of_methodNamed Bd.named
 have X0 : Stand p l e r0 s m #[(.ref o1), (.int 2), (.int v2)] below meth c s₁ [] 0 0 := Stand.of_body Bd
 have e0 := o_e0 Bd hh
 have N0 := Fr.nil n0
 have KC0 := Keep.refl h0 [o1]
 refine o_in (g' := mkF m 0 #[(sR o1), (sI 2), (sI v2)] []) (by simp [entryFrame, mkF, argsToLocals, Value.category]) ?_
 obtain ⟨T1, X1, e1, st1⟩ := getS2 X0 hx hZ hown (host := "") (Or.inl (W hw 102 rfl)) Via.refl e0 (GG.2.2.2.2.1.ext O0.2) (g := (mkF m 0 #[(sR o1), (sI 2), (sI v2)] [])) rfl (hb hby o_d23_0)
 refine o_st (G' := T1.setTop (mkF m 3 #[(sR o1), (sI 2), (sI v2)] [(.int 1)])) st1 ?_
 obtain ⟨_, X1h, N1h⟩ := o_hide X1 N0
 refine o_ifYes X1h hx 28 (hb hby o_d23_3) (feq (by decide : ¬ ((1 : Int32) = (0 : Int32)))).2 ?_
 refine o_iloadN X1h hx 29 (hb hby o_d23_28) rfl ?_
 refine o_iconst X1h hx 30 1 (hb hby o_d23_29) rfl ?_
 refine o_ishl X1h hx 31 (hb hby o_d23_30) ?_
 rw [show ((2 : Int32) <<< ((1 : Int32) &&& 31)) = (4 : Int32) from by decide]
 refine o_istoreN X1h hx 32 #[(sR o1), (sI 4), (sI v2)] (hb hby o_d23_31) rfl ?_
 refine o_aloadN X1h hx 33 (hb hby o_d23_32) rfl rfl ?_
 refine o_iloadN X1h hx 34 (hb hby o_d23_33) rfl ?_
 refine o_iinc X1h hx 37 (1 : Int32) #[(sR o1), (sI 5), (sI v2)] (hb hby o_d23_34) rfl rfl rfl ?_
 refine o_iloadN X1h hx 38 (hb hby o_d23_37) rfl ?_
 obtain ⟨T2, X2, e2, st2⟩ := getS2 X1h hx hZ hown (host := "") (Or.inl (W hw 103 rfl)) Via.refl e1 (GG.2.2.2.2.2.1.ext O0.2) (g := (mkF m 38 #[(sR o1), (sI 5), (sI v2)] [(.int v2), (.int 4), (.ref o1)])) rfl (hb hby o_d23_38)
 refine o_st (G' := T2.setTop (mkF m 41 #[(sR o1), (sI 5), (sI v2)] [(.int 0), (.int v2), (.int 4), (.ref o1)])) st2 ?_
 obtain ⟨_, X2h, N2h⟩ := o_hide X2 N1h
 refine o_ishr X2h hx 42 (hb hby o_d23_41) ?_
 refine o_i2b X2h hx 43 (hb hby o_d23_42) ?_
 obtain ⟨cl3, Ar3, qv3, S3, M3, H3, G3⟩ := id pV1
 have hin3 := inb_of (j := (4 : Int32)) S3 ⟨by decide, by decide⟩
 obtain ⟨T3, h3, X3, e3, W3, st3⟩ := stB X2h hx hZ e2 Ar3 (j := (4 : Int32)) hin3 (g := (mkF m 43 #[(sR o1), (sI 5), (sI v2)] [(.int ((v2 >>> ((0 : Int32) &&& 31)).toInt8.toInt32)), (.int 4), (.ref o1)])) rfl rfl (hb hby o_d23_43)
 have V3 : Arv Z h3 o1 kb .byte 6 [(.int yy0), (.int yy1), (.int yy2), (.int yy3), (.int (nar .byte ((v2 >>> ((0 : Int32) &&& 31)).toInt8.toInt32))), (.int yy5)] (.int 0) := Arv.set Ar3 qv3 S3 M3 H3 G3 (fits_nar_byte _) W3 4 rfl (Nat.le_of_ble_eq_true rfl)
 have N3 := Fr.snoc X3 N2h pG2
 have O4 := O0.wr W3 pG2
 have KC5 := KC0.wr W3 (Or.inl (List.mem_of_getElem? (i := 0) rfl))
 refine o_st (G' := T3.setTop (mkF m 44 #[(sR o1), (sI 5), (sI v2)] [])) st3 ?_
 obtain ⟨_, X3h, N3h⟩ := o_hide X3 N3
 refine o_aloadN X3h hx 45 (hb hby o_d23_44) rfl rfl ?_
 refine o_iloadN X3h hx 46 (hb hby o_d23_45) rfl ?_
 refine o_iloadN X3h hx 47 (hb hby o_d23_46) rfl ?_
 obtain ⟨T7, X7, e7, st7⟩ := getS2 X3h hx hZ hown (host := "") (Or.inl (W hw 104 rfl)) Via.refl e3 (GG.2.2.2.2.2.2.ext O4.2) (g := (mkF m 47 #[(sR o1), (sI 5), (sI v2)] [(.int v2), (.int 5), (.ref o1)])) rfl (hb hby o_d23_47)
 refine o_st (G' := T7.setTop (mkF m 50 #[(sR o1), (sI 5), (sI v2)] [(.int 8), (.int v2), (.int 5), (.ref o1)])) st7 ?_
 obtain ⟨_, X7h, N7h⟩ := o_hide X7 N3h
 refine o_ishr X7h hx 51 (hb hby o_d23_50) ?_
 refine o_i2b X7h hx 52 (hb hby o_d23_51) ?_
 obtain ⟨cl8, Ar8, qv8, S8, M8, H8, G8⟩ := id V3
 have hin8 := inb_of (j := (5 : Int32)) S8 ⟨by decide, by decide⟩
 obtain ⟨T8, h8, X8, e8, W8, st8⟩ := stB X7h hx hZ e7 Ar8 (j := (5 : Int32)) hin8 (g := (mkF m 52 #[(sR o1), (sI 5), (sI v2)] [(.int ((v2 >>> ((8 : Int32) &&& 31)).toInt8.toInt32)), (.int 5), (.ref o1)])) rfl rfl (hb hby o_d23_52)
 have V8 : Arv Z h8 o1 kb .byte 6 [(.int yy0), (.int yy1), (.int yy2), (.int yy3), (.int (nar .byte ((v2 >>> ((0 : Int32) &&& 31)).toInt8.toInt32))), (.int (nar .byte ((v2 >>> ((8 : Int32) &&& 31)).toInt8.toInt32)))] (.int 0) := Arv.set Ar8 qv8 S8 M8 H8 G8 (fits_nar_byte _) W8 5 rfl (Nat.le_of_ble_eq_true rfl)
 have N8 := Fr.snoc X8 N7h pG2
 have KC10 := KC5.wr W8 (Or.inl (List.mem_of_getElem? (i := 0) rfl))
 refine o_st (G' := T8.setTop (mkF m 53 #[(sR o1), (sI 5), (sI v2)] [])) st8 ?_
 obtain ⟨_, X8h, N8h⟩ := o_hide X8 N8
 exact o_retV (Q := o_Q23n3i2 Z cs sf GG o1 v2 kb yy0 yy1 yy2 yy3 yy4 yy5 h0 n0) X8h hx hrt (hb hby o_d23_53) hlk e8 ⟨rfl, N8h, KC10, V8⟩ (by decide) (by decide)
def o_Q24n3i2 (Z : State) (cs : Int32) (sf : Value) (GG : o_G Z cs sf) (o1 : Addr) (kb : ClassId) (c0 : Int32) (c1 : Int32) (c2 : Int32) (h0 : Heap) (n0 : Nat) (v : Option Value) (h : Heap) (L : List Loc) : Prop := v = some (.int c2) ∧ Fr n0 L ∧ h = h0
set_option maxRecDepth 65536 in
set_option maxHeartbeats 40000000 in
theorem o_rm24n3i2 (l : Launch) (Z : State) (a0 : Array Value) (hw : o_Hw Z a0) (ws : List Jvm.Cond) (cs : Int32) (sf : Value) (GG : o_G Z cs sf) (o1 : Addr) (kb : ClassId) (c0 : Int32) (c1 : Int32) (c2 : Int32) (h0 : Heap) (n0 : Nat) (Z0 : n0 ≤ h0.size) (pV1 : Arv Z h0 o1 kb .byte 6 [(.int (o_lo c0)), (.int (o_hi c0)), (.int (o_lo c1)), (.int (o_hi c1)), (.int (o_lo c2)), (.int (o_hi c2))] (.int 0)) (O0 : Old Z n0 h0) (hC : o_C c2) :
  o_Met l y13 jdk_52_method_5_code 2 (some .char) ws r0 #[(.ref o1), (.int 2)] Z h0 (o_Q24n3i2 Z cs sf GG o1 kb c0 c1 c2 h0 n0) := by
 refine MetFree.of_bodySF (plainFor_of_name o_pn4) hisR ?_
 intro p e s m args below meth c s₁ Bd hml0 hP hK
 obtain ⟨rfl, hZ, hh⟩ := hP
 obtain ⟨hx, hby, hlk, hrt⟩ := o_bd Bd
 have hown : s.vm.findClass "java/lang/StringUTF16" = some m.cls := findClass_of_methodNamed Bd.named
 have X0 : Stand p l e r0 s m #[(.ref o1), (.int 2)] below meth c s₁ [] 0 0 := Stand.of_body Bd
 have e0 := o_e0 Bd hh
 have N0 := Fr.nil n0
 refine o_in (g' := mkF m 0 #[(sR o1), (sI 2)] []) (by simp [entryFrame, mkF, argsToLocals, Value.category]) ?_
 obtain ⟨T1, X1, e1, st1⟩ := getS2 X0 hx hZ hown (host := "") (Or.inl (W hw 102 rfl)) Via.refl e0 (GG.2.2.2.2.1.ext O0.2) (g := (mkF m 0 #[(sR o1), (sI 2)] [])) rfl (hb hby o_d24_0)
 refine o_st (G' := T1.setTop (mkF m 3 #[(sR o1), (sI 2)] [(.int 1)])) st1 ?_
 obtain ⟨_, X1h, N1h⟩ := o_hide X1 N0
 refine o_ifYes X1h hx 28 (hb hby o_d24_3) (feq (by decide : ¬ ((1 : Int32) = (0 : Int32)))).2 ?_
 refine o_iloadN X1h hx 29 (hb hby o_d24_28) rfl ?_
 refine o_iconst X1h hx 30 1 (hb hby o_d24_29) rfl ?_
 refine o_ishl X1h hx 31 (hb hby o_d24_30) ?_
 rw [show ((2 : Int32) <<< ((1 : Int32) &&& 31)) = (4 : Int32) from by decide]
 refine o_istoreN X1h hx 32 #[(sR o1), (sI 4)] (hb hby o_d24_31) rfl ?_
 refine o_aloadN X1h hx 33 (hb hby o_d24_32) rfl rfl ?_
 refine o_iloadN X1h hx 34 (hb hby o_d24_33) rfl ?_
 refine o_iinc X1h hx 37 (1 : Int32) #[(sR o1), (sI 5)] (hb hby o_d24_34) rfl rfl rfl ?_
 obtain ⟨cl2, Ar2, qv2, S2, M2, H2, G2⟩ := id pV1
 have hin2 := inb_of (j := (4 : Int32)) S2 ⟨by decide, by decide⟩
 refine o_st (G' := T1.setTop (mkF m 38 #[(sR o1), (sI 5)] [(.int (o_lo c2))])) (fun t k => X1h.baloadBytes hx (j := (4 : Int32)) (v := (.int (o_lo c2))) (by rw [e1]; exact Ar2.1) (State.isArrayOf_alike hZ.alike Ar2.2.1) Ar2.2.2 hin2 (H2.at hin2 rfl) (g := (mkF m 37 #[(sR o1), (sI 5)] [(.int 4), (.ref o1)])) rfl rfl (hb hby o_d24_37) _ k) ?_
 refine o_sipush X1h hx 41 255 (hb hby o_d24_38) rfl ?_
 refine o_iand X1h hx 42 (hb hby o_d24_41) ?_
 obtain ⟨T3, X3, e3, st3⟩ := getS2 X1h hx hZ hown (host := "") (Or.inl (W hw 103 rfl)) Via.refl e1 (GG.2.2.2.2.2.1.ext O0.2) (g := (mkF m 42 #[(sR o1), (sI 5)] [(.int ((o_lo c2) &&& (255 : Int32)))])) rfl (hb hby o_d24_42)
 refine o_st (G' := T3.setTop (mkF m 45 #[(sR o1), (sI 5)] [(.int 0), (.int ((o_lo c2) &&& (255 : Int32)))])) st3 ?_
 obtain ⟨_, X3h, N3h⟩ := o_hide X3 N1h
 refine o_ishl X3h hx 46 (hb hby o_d24_45) ?_
 refine o_aloadN X3h hx 47 (hb hby o_d24_46) rfl rfl ?_
 refine o_iloadN X3h hx 48 (hb hby o_d24_47) rfl ?_
 obtain ⟨cl4, Ar4, qv4, S4, M4, H4, G4⟩ := id pV1
 have hin4 := inb_of (j := (5 : Int32)) S4 ⟨by decide, by decide⟩
 refine o_st (G' := T3.setTop (mkF m 49 #[(sR o1), (sI 5)] [(.int (o_hi c2)), (.int (((o_lo c2) &&& (255 : Int32)) <<< ((0 : Int32) &&& 31)))])) (fun t k => X3h.baloadBytes hx (j := (5 : Int32)) (v := (.int (o_hi c2))) (by rw [e3]; exact Ar4.1) (State.isArrayOf_alike hZ.alike Ar4.2.1) Ar4.2.2 hin4 (H4.at hin4 rfl) (g := (mkF m 48 #[(sR o1), (sI 5)] [(.int 5), (.ref o1), (.int (((o_lo c2) &&& (255 : Int32)) <<< ((0 : Int32) &&& 31)))])) rfl rfl (hb hby o_d24_48) _ k) ?_
 refine o_sipush X3h hx 52 255 (hb hby o_d24_49) rfl ?_
 refine o_iand X3h hx 53 (hb hby o_d24_52) ?_
 obtain ⟨T5, X5, e5, st5⟩ := getS2 X3h hx hZ hown (host := "") (Or.inl (W hw 104 rfl)) Via.refl e3 (GG.2.2.2.2.2.2.ext O0.2) (g := (mkF m 53 #[(sR o1), (sI 5)] [(.int ((o_hi c2) &&& (255 : Int32))), (.int (((o_lo c2) &&& (255 : Int32)) <<< ((0 : Int32) &&& 31)))])) rfl (hb hby o_d24_53)
 refine o_st (G' := T5.setTop (mkF m 56 #[(sR o1), (sI 5)] [(.int 8), (.int ((o_hi c2) &&& (255 : Int32))), (.int (((o_lo c2) &&& (255 : Int32)) <<< ((0 : Int32) &&& 31)))])) st5 ?_
 obtain ⟨_, X5h, N5h⟩ := o_hide X5 N3h
 refine o_ishl X5h hx 57 (hb hby o_d24_56) ?_
 refine o_ior X5h hx 58 (hb hby o_d24_57) ?_
 refine o_i2c X5h hx 59 (hb hby o_d24_58) ?_
 exact o_retN (t := .char) (z := (((((o_lo c2) &&& (255 : Int32)) <<< ((0 : Int32) &&& 31)) ||| (((o_hi c2) &&& (255 : Int32)) <<< ((8 : Int32) &&& 31))).toUInt32.toUInt16.toUInt32.toInt32)) (Q := o_Q24n3i2 Z cs sf GG o1 kb c0 c1 c2 h0 n0) X5h hx hrt (by simp) (hb hby o_d24_59) hlk e5 ⟨(o_leafI (o_gc hC)), N5h, rfl⟩ (by decide) (by decide)
def o_Q31n3i2 (Z : State) (cs : Int32) (sf : Value) (GG : o_G Z cs sf) (o1 : Addr) (kb : ClassId) (c0 : Int32) (c1 : Int32) (c2 : Int32) (h0 : Heap) (n0 : Nat) (v : Option Value) (h : Heap) (L : List Loc) : Prop := v = some (.int c2) ∧ Fr n0 L ∧ h = h0
set_option maxRecDepth 65536 in
set_option maxHeartbeats 40000000 in
theorem o_rm31n3i2 (l : Launch) (Z : State) (a0 : Array Value) (hw : o_Hw Z a0) (ws : List Jvm.Cond) (cs : Int32) (sf : Value) (GG : o_G Z cs sf) (o1 : Addr) (kb : ClassId) (c0 : Int32) (c1 : Int32) (c2 : Int32) (h0 : Heap) (n0 : Nat) (Z0 : n0 ≤ h0.size) (pV1 : Arv Z h0 o1 kb .byte 6 [(.int (o_lo c0)), (.int (o_hi c0)), (.int (o_lo c1)), (.int (o_hi c1)), (.int (o_lo c2)), (.int (o_hi c2))] (.int 0)) (O0 : Old Z n0 h0) (hC : o_C c2) :
  o_Met l y15 jdk_52_method_83_code 2 (some .char) ws r6 #[(.ref o1), (.int 2)] Z h0 (o_Q31n3i2 Z cs sf GG o1 kb c0 c1 c2 h0 n0) := by
 refine MetFree.of_bodySF (plainFor_of_name o_pn4) hisR ?_
 intro p e s m args below meth c s₁ Bd hml0 hP hK
 obtain ⟨rfl, hZ, hh⟩ := hP
 obtain ⟨hx, hby, hlk, hrt⟩ := o_bd Bd
 have hml : c.maxLocals = 2 := hml0
 have hown : s.vm.findClass "java/lang/StringUTF16" = some m.cls := findClass_of_methodNamed Bd.named
 have X0 : Stand p l e r6 s m #[(.ref o1), (.int 2)] below meth c s₁ [] 0 0 := Stand.of_body Bd
 have e0 := o_e0 Bd hh
 have N0 := Fr.nil n0
 refine o_in (g' := mkF m 0 #[(sR o1), (sI 2)] []) (by simp [entryFrame, mkF, argsToLocals, Value.category]) ?_
 refine o_iloadN X0 hx 1 (hb hby o_d31_0) rfl ?_
 refine o_aloadN X0 hx 2 (hb hby o_d31_1) rfl rfl ?_
 obtain ⟨_, _, ⟨T1, Lx1, kc1, nc1⟩, -, X1, ⟨Lc1, hQ1, lq1, yq1, zq1⟩, st1⟩ := Jvm.LawKit.callS X0 hx (y := y14) hown (mvT hZ (W hw 129 rfl)) (mvT hZ (W hw 130 rfl)) (mvT hZ (W hw 58 rfl)) (mvT hZ (W hw 131 rfl)) (by decide) (backOf (W := 0) (o_rm32n3 l Z a0 hw [] cs sf GG (2 : Int32) o1 kb [(.int (o_lo c0)), (.int (o_hi c0)), (.int (o_lo c1)), (.int (o_hi c1)), (.int (o_lo c2)), (.int (o_hi c2))] h0 n0 Z0 pV1 O0 (by decide : ¬ (2 : Int32) < 0) (by decide : (2 : Int32) < (3 : Int32))) hZ (W hw 131 rfl) (W hw 58 rfl) (by decide) (by decide)) (g := (mkF m 2 #[(sR o1), (sI 2)] [(.ref o1), (.int 2)])) rfl (by rw [hml]; rfl) (argsL := [(.int 2), (.ref o1)]) (rest := []) (lenOf o_pd6 rfl) rfl (o_wl rfl) (hb hby o_d31_2) (fun _ _ => ⟨rfl, e0, (by decide : 0 + 0 ≤ _), (by decide : 0 + 0 ≤ _)⟩)
 dsimp only [Pt.U, Pt.locs, Pt.cells, Pt.slots] at X1 lq1 yq1 zq1 st1 hQ1
 subst lq1 yq1 zq1
 obtain ⟨rfl, Nq1, eh1⟩ := hQ1
 have N1 := Fr.app N0 Nq1
 refine o_st (G' := T1.setTop (mkF m 5 #[(sR o1), (sI 2)] [])) st1 ?_
 obtain ⟨_, X1h, N1h⟩ := o_hide X1 N1
 refine o_aloadN X1h hx 6 (hb hby o_d31_5) rfl rfl ?_
 refine o_iloadN X1h hx 7 (hb hby o_d31_6) rfl ?_
 obtain ⟨_, _, ⟨T2, Lx2, kc2, nc2⟩, -, X2, ⟨Lc2, hQ2, lq2, yq2, zq2⟩, st2⟩ := Jvm.LawKit.callS X1h hx (y := y13) hown (mvT hZ (W hw 105 rfl)) (mvT hZ (W hw 106 rfl)) (mvT hZ (W hw 58 rfl)) (mvT hZ (W hw 107 rfl)) (by decide) (backOf (W := 0) (o_rm24n3i2 l Z a0 hw [] cs sf GG o1 kb c0 c1 c2 h0 n0 Z0 pV1 O0 (hC : o_C c2)) hZ (W hw 107 rfl) (W hw 58 rfl) (by decide) (by decide)) (g := (mkF m 7 #[(sR o1), (sI 2)] [(.int 2), (.ref o1)])) rfl (by rw [hml]; rfl) (argsL := [(.ref o1), (.int 2)]) (rest := []) (lenOf o_pd7 rfl) rfl (o_wl rfl) (hb hby o_d31_7) (fun _ _ => ⟨rfl, eh1, (by decide : 0 + 0 ≤ _), (by decide : 0 + 0 ≤ _)⟩)
 dsimp only [Pt.U, Pt.locs, Pt.cells, Pt.slots] at X2 lq2 yq2 zq2 st2 hQ2
 subst lq2 yq2 zq2
 obtain ⟨rfl, Nq2, eh2⟩ := hQ2
 have N2 := Fr.app N1h Nq2
 refine o_st (G' := T2.setTop (mkF m 10 #[(sR o1), (sI 2)] [(.int c2)])) st2 ?_
 obtain ⟨_, X2h, N2h⟩ := o_hide X2 N2
 exact o_retN (t := .char) (z := c2) (Q := o_Q31n3i2 Z cs sf GG o1 kb c0 c1 c2 h0 n0) X2h hx hrt (by simp) (hb hby o_d31_10) hlk eh2 ⟨(o_leafI (o_narC hC)), N2h, rfl⟩ (by decide) (by decide)
def o_Q16n3i2 (Z : State) (cs : Int32) (sf : Value) (GG : o_G Z cs sf) (o1 : Addr) (kb : ClassId) (c0 : Int32) (c1 : Int32) (c2 : Int32) (h0 : Heap) (n0 : Nat) (v : Option Value) (h : Heap) (L : List Loc) : Prop := v = some (.int c2) ∧ Fr n0 L ∧ h = h0
set_option maxRecDepth 65536 in
set_option maxHeartbeats 40000000 in
theorem o_rm16n3i2 (l : Launch) (Z : State) (a0 : Array Value) (hw : o_Hw Z a0) (ws : List Jvm.Cond) (cs : Int32) (sf : Value) (GG : o_G Z cs sf) (o1 : Addr) (kb : ClassId) (c0 : Int32) (c1 : Int32) (c2 : Int32) (h0 : Heap) (n0 : Nat) (Z0 : n0 ≤ h0.size) (pV1 : Arv Z h0 o1 kb .byte 3 [(.int (nar .byte c0.toInt8.toInt32)), (.int (nar .byte c1.toInt8.toInt32)), (.int (nar .byte c2.toInt8.toInt32))] (.int 0)) (O0 : Old Z n0 h0) (hC : o_C c2) (hL : ¬ (255 : Int32) < c2) :
  o_Met l y16 jdk_43_method_2_code 2 (some .char) ws r5 #[(.ref o1), (.int 2)] Z h0 (o_Q16n3i2 Z cs sf GG o1 kb c0 c1 c2 h0 n0) := by
 refine MetFree.of_bodySF (plainFor_of_name o_pn5) hisR ?_
 intro p e s m args below meth c s₁ Bd hml0 hP hK
 obtain ⟨rfl, hZ, hh⟩ := hP
 obtain ⟨hx, hby, hlk, hrt⟩ := o_bd Bd
 have hml : c.maxLocals = 2 := hml0
 have hown : s.vm.findClass "java/lang/StringLatin1" = some m.cls := findClass_of_methodNamed Bd.named
 have X0 : Stand p l e r5 s m #[(.ref o1), (.int 2)] below meth c s₁ [] 0 0 := Stand.of_body Bd
 have e0 := o_e0 Bd hh
 have N0 := Fr.nil n0
 refine o_in (g' := mkF m 0 #[(sR o1), (sI 2)] []) (by simp [entryFrame, mkF, argsToLocals, Value.category]) ?_
 refine o_iloadN X0 hx 1 (hb hby o_d16_0) rfl ?_
 refine o_aloadN X0 hx 2 (hb hby o_d16_1) rfl rfl ?_
 obtain ⟨cl1, Ar1, qv1, S1, M1, H1, G1⟩ := id pV1
 have ln1 := len_of S1 M1
 refine o_st (G' := s₁.setTop (mkF m 3 #[(sR o1), (sI 2)] [(.int 3), (.int 2)])) (fun t k => X0.arraylength hx (by rw [e0]; exact Ar1.1) (State.isArrayOf_alike hZ.alike Ar1.2.1) (g := (mkF m 2 #[(sR o1), (sI 2)] [(.ref o1), (.int 2)])) rfl rfl (hb hby o_d16_2) _ (by rw [ln1]; exact k)) ?_
 obtain ⟨_, _, ⟨T2, Lx2, kc2, nc2⟩, -, X2, ⟨Lc2, hQ2, lq2, yq2, zq2⟩, st2⟩ := Jvm.LawKit.callS X0 hx (y := y3) hown (mvT hZ (W hw 77 rfl)) (mvT hZ (W hw 78 rfl)) (mvT hZ (W hw 3 rfl)) (mvT hZ (W hw 79 rfl)) (by decide) (backOf (W := 0) (o_rm17 l Z a0 hw [] cs sf GG (2 : Int32) (3 : Int32) h0 n0 Z0 (by decide : ¬ (2 : Int32) < 0) (by decide : (2 : Int32) < (3 : Int32)) O0) hZ (W hw 79 rfl) (W hw 3 rfl) (by decide) (by decide)) (g := (mkF m 3 #[(sR o1), (sI 2)] [(.int 3), (.int 2)])) rfl (by rw [hml]; rfl) (argsL := [(.int 2), (.int 3)]) (rest := []) (lenOf o_pd5 rfl) rfl (o_wl rfl) (hb hby o_d16_3) (fun _ _ => ⟨rfl, e0, (by decide : 0 + 0 ≤ _), (by decide : 0 + 0 ≤ _)⟩)
 dsimp only [Pt.U, Pt.locs, Pt.cells, Pt.slots] at X2 lq2 yq2 zq2 st2 hQ2
 subst lq2 yq2 zq2
 obtain ⟨rfl, Nq2, eh2⟩ := hQ2
 have N2 := Fr.app N0 Nq2
 refine o_st (G' := T2.setTop (mkF m 6 #[(sR o1), (sI 2)] [])) st2 ?_
 obtain ⟨_, X2h, N2h⟩ := o_hide X2 N2
 refine o_aloadN X2h hx 7 (hb hby o_d16_6) rfl rfl ?_
 refine o_iloadN X2h hx 8 (hb hby o_d16_7) rfl ?_
 obtain ⟨cl3, Ar3, qv3, S3, M3, H3, G3⟩ := id pV1
 have hin3 := inb_of (j := (2 : Int32)) S3 ⟨by decide, by decide⟩
 refine o_st (G' := T2.setTop (mkF m 9 #[(sR o1), (sI 2)] [(.int (nar .byte c2.toInt8.toInt32))])) (fun t k => X2h.baloadBytes hx (j := (2 : Int32)) (v := (.int (nar .byte c2.toInt8.toInt32))) (by rw [eh2]; exact Ar3.1) (State.isArrayOf_alike hZ.alike Ar3.2.1) Ar3.2.2 hin3 (H3.at hin3 rfl) (g := (mkF m 8 #[(sR o1), (sI 2)] [(.int 2), (.ref o1)])) rfl rfl (hb hby o_d16_8) _ k) ?_
 refine o_sipush X2h hx 12 255 (hb hby o_d16_9) rfl ?_
 refine o_iand X2h hx 13 (hb hby o_d16_12) ?_
 refine o_i2c X2h hx 14 (hb hby o_d16_13) ?_
 exact o_retN (t := .char) (z := (((nar .byte c2.toInt8.toInt32) &&& (255 : Int32)).toUInt32.toUInt16.toUInt32.toInt32)) (Q := o_Q16n3i2 Z cs sf GG o1 kb c0 c1 c2 h0 n0) X2h hx hrt (by simp) (hb hby o_d16_14) hlk eh2 ⟨(o_leafI (o_lat hC hL)), N2h, rfl⟩ (by decide) (by decide)
def o_Q20n3 (Z : State) (cs : Int32) (sf : Value) (GG : o_G Z cs sf) (o1 : Addr) (kc : ClassId) (c0 : Int32) (c1 : Int32) (c2 : Int32) (h0 : Heap) (n0 : Nat) (v : Option Value) (h : Heap) (L : List Loc) : Prop := ∃ bb : Addr, ∃ kb : ClassId, v = some (.ref bb) ∧ Fr n0 L ∧ Keep h0 h [] ∧ h0.size ≤ bb ∧ Arv Z h bb kb .byte 6 [(.int (o_lo c0)), (.int (o_hi c0)), (.int (o_lo c1)), (.int (o_hi c1)), (.int (o_lo c2)), (.int (o_hi c2))] (.int 0)
set_option maxRecDepth 65536 in
set_option maxHeartbeats 40000000 in
theorem o_rm20n3 (l : Launch) (Z : State) (a0 : Array Value) (hw : o_Hw Z a0) (ws : List Jvm.Cond) (cs : Int32) (sf : Value) (GG : o_G Z cs sf) (o1 : Addr) (kc : ClassId) (c0 : Int32) (c1 : Int32) (c2 : Int32) (h0 : Heap) (n0 : Nat) (Z0 : n0 ≤ h0.size) (pV1 : Arv Z h0 o1 kc .char 3 [(.int c0), (.int c1), (.int c2)] (.int 0)) (O0 : Old Z n0 h0) :
  o_Met l y17 jdk_52_method_14_code 5 (some (.array .byte)) ws r38 #[(.ref o1), (.int 0), (.int 3)] Z h0 (o_Q20n3 Z cs sf GG o1 kc c0 c1 c2 h0 n0) := by
 refine MetFree.of_bodySF (plainFor_of_name o_pn4) hisR ?_
 intro p e s m args below meth c s₁ Bd hml0 hP hK
 obtain ⟨rfl, hZ, hh⟩ := hP
 obtain ⟨hx, hby, hlk, hrt⟩ := o_bd Bd
 have hml : c.maxLocals = 5 := hml0
 have hown : s.vm.findClass "java/lang/StringUTF16" = some m.cls := findClass_of_methodNamed Bd.named
 have X0 : Stand p l e r38 s m #[(.ref o1), (.int 0), (.int 3)] below meth c s₁ [] 0 0 := Stand.of_body Bd
 have e0 := o_e0 Bd hh
 have N0 := Fr.nil n0
 have KC0 := Keep.refl h0 []
 refine o_in (g' := mkF m 0 #[(sR o1), (sI 0), (sI 3), .unset, .unset] []) (by simp [entryFrame, mkF, argsToLocals, Value.category]) ?_
 refine o_iloadN X0 hx 1 (hb hby o_d20_0) rfl ?_
 obtain ⟨_, _, ⟨T1, Lx1, kc1, nc1⟩, -, X1, ⟨Lc1, hQ1, lq1, yq1, zq1⟩, st1⟩ := Jvm.LawKit.callS X0 hx (y := y11) hown (mvT hZ (W hw 92 rfl)) (mvT hZ (W hw 93 rfl)) (mvT hZ (W hw 58 rfl)) (mvT hZ (W hw 94 rfl)) (by decide) (backOf (W := 0) (o_rm21n3 l Z a0 hw []  h0 n0 Z0 ) hZ (W hw 94 rfl) (W hw 58 rfl) (by decide) (by decide)) (g := (mkF m 1 #[(sR o1), (sI 0), (sI 3), .unset, .unset] [(.int 3)])) rfl (by rw [hml]; rfl) (argsL := [(.int 3)]) (rest := []) (lenOf o_pd8 rfl) rfl (o_wl rfl) (hb hby o_d20_1) (fun _ _ => ⟨rfl, e0, (by decide : 0 + 1 ≤ _), (by decide : 0 + 6 ≤ _)⟩)
 dsimp only [Pt.U, Pt.locs, Pt.cells, Pt.slots] at X1 lq1 yq1 zq1 st1 hQ1
 subst lq1 yq1 zq1
 obtain ⟨bb_1, kb_1, rfl, Nq1, Kp1, G1_0, G1_1⟩ := hQ1
 have N1 := Fr.app N0 Nq1
 have ne2 : o1 ≠ bb_1 := Nat.ne_of_lt (Nat.lt_of_lt_of_le pV1.lt G1_0)
 have gt_bb_1 : n0 ≤ bb_1 := Nat.le_trans Z0 G1_0
 have sz_bb_1 : h0.size ≤ bb_1 := Nat.le_trans KC0.1 G1_0
 have O3 := O0.keep Kp1 all0
 have KC4 := KC0.trans Kp1 all0
 have Z5 := Nat.le_trans Z0 Kp1.1
 refine o_st (G' := T1.setTop (mkF m 4 #[(sR o1), (sI 0), (sI 3), .unset, .unset] [(.ref bb_1)])) st1 ?_
 obtain ⟨_, X1h, N1h⟩ := o_hide X1 N1
 refine o_astoreN X1h hx 5 #[(sR o1), (sI 0), (sI 3), (sR bb_1), .unset] (hb hby o_d20_4) rfl rfl ?_
 refine o_iconst X1h hx 6 0 (hb hby o_d20_5) rfl ?_
 refine o_istore X1h hx 8 #[(sR o1), (sI 0), (sI 3), (sR bb_1), (sI 0)] (hb hby o_d20_6) rfl ?_
 refine o_iload X1h hx 10 (hb hby o_d20_8) rfl ?_
 refine o_iloadN X1h hx 11 (hb hby o_d20_10) rfl ?_
 refine o_icmpNo X1h hx 14 (hb hby o_d20_11) (tlt (by decide : (0 : Int32) < (3 : Int32))).2.1 ?_
 refine o_aloadN X1h hx 15 (hb hby o_d20_14) rfl rfl ?_
 refine o_iload X1h hx 17 (hb hby o_d20_15) rfl ?_
 refine o_aloadN X1h hx 18 (hb hby o_d20_17) rfl rfl ?_
 refine o_iloadN X1h hx 19 (hb hby o_d20_18) rfl ?_
 have f6 := (pV1.keep Kp1 nin0)
 obtain ⟨cl7, Ar7, qv7, S7, M7, H7, G7⟩ := id f6
 have hin7 := inb_of (j := (0 : Int32)) S7 ⟨by decide, by decide⟩
 refine o_st (G' := T1.setTop (mkF m 20 #[(sR o1), (sI 0), (sI 3), (sR bb_1), (sI 0)] [(.int c0), (.int 0), (.ref bb_1)])) (fun t k => X1h.caload hx (j := (0 : Int32)) (v := (.int c0)) Ar7.1 (State.isArrayOf_alike hZ.alike Ar7.2.1) Ar7.2.2 hin7 (H7.at hin7 rfl) (g := (mkF m 19 #[(sR o1), (sI 0), (sI 3), (sR bb_1), (sI 0)] [(.int 0), (.ref o1), (.int 0), (.ref bb_1)])) rfl rfl (hb hby o_d20_19) _ k) ?_
 obtain ⟨_, _, ⟨T8, Lx8, kc8, nc8⟩, -, X8, ⟨Lc8, hQ8, lq8, yq8, zq8⟩, st8⟩ := Jvm.LawKit.callS X1h hx (y := y12) hown (mvT hZ (W hw 99 rfl)) (mvT hZ (W hw 100 rfl)) (mvT hZ (W hw 58 rfl)) (mvT hZ (W hw 101 rfl)) (by decide) (backOf (W := 0) (o_rm23n3i0 l Z a0 hw [] cs sf GG bb_1 c0 kb_1 (0 : Int32) (0 : Int32) (0 : Int32) (0 : Int32) (0 : Int32) (0 : Int32) T1.heap n0 Z5 G1_1 gt_bb_1 O3) hZ (W hw 101 rfl) (W hw 58 rfl) (by decide) (by decide)) (g := (mkF m 20 #[(sR o1), (sI 0), (sI 3), (sR bb_1), (sI 0)] [(.int c0), (.int 0), (.ref bb_1)])) rfl (by rw [hml]; rfl) (argsL := [(.ref bb_1), (.int 0), (.int c0)]) (rest := []) (lenOf o_pd9 rfl) rfl (o_wl rfl) (hb hby o_d20_20) (fun _ _ => ⟨rfl, rfl, (by decide : 1 + 0 ≤ _), (by decide : 6 + 0 ≤ _)⟩)
 dsimp only [Pt.U, Pt.locs, Pt.cells, Pt.slots] at X8 lq8 yq8 zq8 st8 hQ8
 subst lq8 yq8 zq8
 obtain ⟨rfl, Nq8, Kp8, G8_0⟩ := hQ8
 have N8 := Fr.app N1h Nq8
 have O9 := O3.keep Kp8 (allS gt_bb_1 all0)
 have KC10 := KC4.trans Kp8 (allS (Or.inr sz_bb_1) all0)
 have Z11 := Nat.le_trans Z5 Kp8.1
 refine o_st (G' := T8.setTop (mkF m 23 #[(sR o1), (sI 0), (sI 3), (sR bb_1), (sI 0)] [])) st8 ?_
 obtain ⟨_, X8h, N8h⟩ := o_hide X8 N8
 refine o_iinc X8h hx 26 (1 : Int32) #[(sR o1), (sI 1), (sI 3), (sR bb_1), (sI 0)] (hb hby o_d20_23) rfl rfl rfl ?_
 refine o_iinc X8h hx 29 (1 : Int32) #[(sR o1), (sI 1), (sI 3), (sR bb_1), (sI 1)] (hb hby o_d20_26) rfl rfl rfl ?_
 refine o_goto X8h hx 8 (hb hby o_d20_29) ?_
 refine o_iload X8h hx 10 (hb hby o_d20_8) rfl ?_
 refine o_iloadN X8h hx 11 (hb hby o_d20_10) rfl ?_
 refine o_icmpNo X8h hx 14 (hb hby o_d20_11) (tlt (by decide : (1 : Int32) < (3 : Int32))).2.1 ?_
 refine o_aloadN X8h hx 15 (hb hby o_d20_14) rfl rfl ?_
 refine o_iload X8h hx 17 (hb hby o_d20_15) rfl ?_
 refine o_aloadN X8h hx 18 (hb hby o_d20_17) rfl rfl ?_
 refine o_iloadN X8h hx 19 (hb hby o_d20_18) rfl ?_
 have f12 := (f6.keep Kp8 (ninS ne2 nin0))
 obtain ⟨cl13, Ar13, qv13, S13, M13, H13, G13⟩ := id f12
 have hin13 := inb_of (j := (1 : Int32)) S13 ⟨by decide, by decide⟩
 refine o_st (G' := T8.setTop (mkF m 20 #[(sR o1), (sI 1), (sI 3), (sR bb_1), (sI 1)] [(.int c1), (.int 1), (.ref bb_1)])) (fun t k => X8h.caload hx (j := (1 : Int32)) (v := (.int c1)) Ar13.1 (State.isArrayOf_alike hZ.alike Ar13.2.1) Ar13.2.2 hin13 (H13.at hin13 rfl) (g := (mkF m 19 #[(sR o1), (sI 1), (sI 3), (sR bb_1), (sI 1)] [(.int 1), (.ref o1), (.int 1), (.ref bb_1)])) rfl rfl (hb hby o_d20_19) _ k) ?_
 obtain ⟨_, _, ⟨T14, Lx14, kc14, nc14⟩, -, X14, ⟨Lc14, hQ14, lq14, yq14, zq14⟩, st14⟩ := Jvm.LawKit.callS X8h hx (y := y12) hown (mvT hZ (W hw 99 rfl)) (mvT hZ (W hw 100 rfl)) (mvT hZ (W hw 58 rfl)) (mvT hZ (W hw 101 rfl)) (by decide) (backOf (W := 0) (o_rm23n3i1 l Z a0 hw [] cs sf GG bb_1 c1 kb_1 (o_lo c0) (o_hi c0) (0 : Int32) (0 : Int32) (0 : Int32) (0 : Int32) T8.heap n0 Z11 G8_0 gt_bb_1 O9) hZ (W hw 101 rfl) (W hw 58 rfl) (by decide) (by decide)) (g := (mkF m 20 #[(sR o1), (sI 1), (sI 3), (sR bb_1), (sI 1)] [(.int c1), (.int 1), (.ref bb_1)])) rfl (by rw [hml]; rfl) (argsL := [(.ref bb_1), (.int 1), (.int c1)]) (rest := []) (lenOf o_pd9 rfl) rfl (o_wl rfl) (hb hby o_d20_20) (fun _ _ => ⟨rfl, rfl, (by decide : 1 + 0 ≤ _), (by decide : 6 + 0 ≤ _)⟩)
 dsimp only [Pt.U, Pt.locs, Pt.cells, Pt.slots] at X14 lq14 yq14 zq14 st14 hQ14
 subst lq14 yq14 zq14
 obtain ⟨rfl, Nq14, Kp14, G14_0⟩ := hQ14
 have N14 := Fr.app N8h Nq14
 have O15 := O9.keep Kp14 (allS gt_bb_1 all0)
 have KC16 := KC10.trans Kp14 (allS (Or.inr sz_bb_1) all0)
 have Z17 := Nat.le_trans Z11 Kp14.1
 refine o_st (G' := T14.setTop (mkF m 23 #[(sR o1), (sI 1), (sI 3), (sR bb_1), (sI 1)] [])) st14 ?_
 obtain ⟨_, X14h, N14h⟩ := o_hide X14 N14
 refine o_iinc X14h hx 26 (1 : Int32) #[(sR o1), (sI 2), (sI 3), (sR bb_1), (sI 1)] (hb hby o_d20_23) rfl rfl rfl ?_
 refine o_iinc X14h hx 29 (1 : Int32) #[(sR o1), (sI 2), (sI 3), (sR bb_1), (sI 2)] (hb hby o_d20_26) rfl rfl rfl ?_
 refine o_goto X14h hx 8 (hb hby o_d20_29) ?_
 refine o_iload X14h hx 10 (hb hby o_d20_8) rfl ?_
 refine o_iloadN X14h hx 11 (hb hby o_d20_10) rfl ?_
 refine o_icmpNo X14h hx 14 (hb hby o_d20_11) (tlt (by decide : (2 : Int32) < (3 : Int32))).2.1 ?_
 refine o_aloadN X14h hx 15 (hb hby o_d20_14) rfl rfl ?_
 refine o_iload X14h hx 17 (hb hby o_d20_15) rfl ?_
 refine o_aloadN X14h hx 18 (hb hby o_d20_17) rfl rfl ?_
 refine o_iloadN X14h hx 19 (hb hby o_d20_18) rfl ?_
 have f18 := (f12.keep Kp14 (ninS ne2 nin0))
 obtain ⟨cl19, Ar19, qv19, S19, M19, H19, G19⟩ := id f18
 have hin19 := inb_of (j := (2 : Int32)) S19 ⟨by decide, by decide⟩
 refine o_st (G' := T14.setTop (mkF m 20 #[(sR o1), (sI 2), (sI 3), (sR bb_1), (sI 2)] [(.int c2), (.int 2), (.ref bb_1)])) (fun t k => X14h.caload hx (j := (2 : Int32)) (v := (.int c2)) Ar19.1 (State.isArrayOf_alike hZ.alike Ar19.2.1) Ar19.2.2 hin19 (H19.at hin19 rfl) (g := (mkF m 19 #[(sR o1), (sI 2), (sI 3), (sR bb_1), (sI 2)] [(.int 2), (.ref o1), (.int 2), (.ref bb_1)])) rfl rfl (hb hby o_d20_19) _ k) ?_
 obtain ⟨_, _, ⟨T20, Lx20, kc20, nc20⟩, -, X20, ⟨Lc20, hQ20, lq20, yq20, zq20⟩, st20⟩ := Jvm.LawKit.callS X14h hx (y := y12) hown (mvT hZ (W hw 99 rfl)) (mvT hZ (W hw 100 rfl)) (mvT hZ (W hw 58 rfl)) (mvT hZ (W hw 101 rfl)) (by decide) (backOf (W := 0) (o_rm23n3i2 l Z a0 hw [] cs sf GG bb_1 c2 kb_1 (o_lo c0) (o_hi c0) (o_lo c1) (o_hi c1) (0 : Int32) (0 : Int32) T14.heap n0 Z17 G14_0 gt_bb_1 O15) hZ (W hw 101 rfl) (W hw 58 rfl) (by decide) (by decide)) (g := (mkF m 20 #[(sR o1), (sI 2), (sI 3), (sR bb_1), (sI 2)] [(.int c2), (.int 2), (.ref bb_1)])) rfl (by rw [hml]; rfl) (argsL := [(.ref bb_1), (.int 2), (.int c2)]) (rest := []) (lenOf o_pd9 rfl) rfl (o_wl rfl) (hb hby o_d20_20) (fun _ _ => ⟨rfl, rfl, (by decide : 1 + 0 ≤ _), (by decide : 6 + 0 ≤ _)⟩)
 dsimp only [Pt.U, Pt.locs, Pt.cells, Pt.slots] at X20 lq20 yq20 zq20 st20 hQ20
 subst lq20 yq20 zq20
 obtain ⟨rfl, Nq20, Kp20, G20_0⟩ := hQ20
 have N20 := Fr.app N14h Nq20
 have KC22 := KC16.trans Kp20 (allS (Or.inr sz_bb_1) all0)
 refine o_st (G' := T20.setTop (mkF m 23 #[(sR o1), (sI 2), (sI 3), (sR bb_1), (sI 2)] [])) st20 ?_
 obtain ⟨_, X20h, N20h⟩ := o_hide X20 N20
 refine o_iinc X20h hx 26 (1 : Int32) #[(sR o1), (sI 3), (sI 3), (sR bb_1), (sI 2)] (hb hby o_d20_23) rfl rfl rfl ?_
 refine o_iinc X20h hx 29 (1 : Int32) #[(sR o1), (sI 3), (sI 3), (sR bb_1), (sI 3)] (hb hby o_d20_26) rfl rfl rfl ?_
 refine o_goto X20h hx 8 (hb hby o_d20_29) ?_
 refine o_iload X20h hx 10 (hb hby o_d20_8) rfl ?_
 refine o_iloadN X20h hx 11 (hb hby o_d20_10) rfl ?_
 refine o_icmpYes X20h hx 32 (hb hby o_d20_11) (flt (by decide : ¬ ((3 : Int32) < (3 : Int32)))).2.1 ?_
 refine o_aloadN X20h hx 33 (hb hby o_d20_32) rfl rfl ?_
 exact o_retA (z := (.ref bb_1)) (Q := o_Q20n3 Z cs sf GG o1 kc c0 c1 c2 h0 n0) X20h hx hrt rfl rfl (hb hby o_d20_33) hlk rfl ⟨bb_1, kb_1, rfl, N20h, KC22, sz_bb_1, G20_0⟩ (by decide) (by decide)
def o_Q26n3 (Z : State) (cs : Int32) (sf : Value) (GG : o_G Z cs sf) (o1 : Addr) (o2 : Addr) (kb : ClassId) (kc : ClassId) (c0 : Int32) (c1 : Int32) (c2 : Int32) (h0 : Heap) (n0 : Nat) (v : Option Value) (h : Heap) (L : List Loc) : Prop := v = none ∧ Fr n0 L ∧ Keep h0 h [o2] ∧ Arv Z h o2 kc .char 3 [(.int c0), (.int c1), (.int c2)] (.int 0)
set_option maxRecDepth 65536 in
set_option maxHeartbeats 40000000 in
theorem o_rm26n3 (l : Launch) (Z : State) (a0 : Array Value) (hw : o_Hw Z a0) (ws : List Jvm.Cond) (cs : Int32) (sf : Value) (GG : o_G Z cs sf) (o1 : Addr) (o2 : Addr) (kb : ClassId) (kc : ClassId) (c0 : Int32) (c1 : Int32) (c2 : Int32) (h0 : Heap) (n0 : Nat) (Z0 : n0 ≤ h0.size) (pV1 : Arv Z h0 o1 kb .byte 6 [(.int (o_lo c0)), (.int (o_hi c0)), (.int (o_lo c1)), (.int (o_hi c1)), (.int (o_lo c2)), (.int (o_hi c2))] (.int 0)) (pV2 : Arv Z h0 o2 kc .char 3 [(.int 0), (.int 0), (.int 0)] (.int 0)) (pG3 : n0 ≤ o2) (O0 : Old Z n0 h0) (pN5 : o1 ≠ o2) (hC0 : o_C c0) (hC1 : o_C c1) (hC2 : o_C c2) :
  o_Met l y18 jdk_52_method_26_code 6 none ws r8 #[(.ref o1), (.int 0), (.int 3), (.ref o2), (.int 0)] Z h0 (o_Q26n3 Z cs sf GG o1 o2 kb kc c0 c1 c2 h0 n0) := by
 refine MetFree.of_bodySF (plainFor_of_name o_pn4) hisR ?_
 intro p e s m args below meth c s₁ Bd hml0 hP hK
 obtain ⟨rfl, hZ, hh⟩ := hP
 obtain ⟨hx, hby, hlk, hrt⟩ := o_bd Bd
 have hml : c.maxLocals = 6 := hml0
 have hown : s.vm.findClass "java/lang/StringUTF16" = some m.cls := findClass_of_methodNamed Bd.named
 have X0 : Stand p l e r8 s m #[(.ref o1), (.int 0), (.int 3), (.ref o2), (.int 0)] below meth c s₁ [] 0 0 := Stand.of_body Bd
 have e0 := o_e0 Bd hh
 have N0 := Fr.nil n0
 have KC0 := Keep.refl h0 [o2]
 refine o_in (g' := mkF m 0 #[(sR o1), (sI 0), (sI 3), (sR o2), (sI 0), .unset] []) (by simp [entryFrame, mkF, argsToLocals, Value.category]) ?_
 refine o_iloadN X0 hx 1 (hb hby o_d26_0) rfl ?_
 refine o_iloadN X0 hx 2 (hb hby o_d26_1) rfl ?_
 refine o_icmpNo X0 hx 5 (hb hby o_d26_2) (tlt (by decide : (0 : Int32) < (3 : Int32))).2.1 ?_
 refine o_iloadN X0 hx 6 (hb hby o_d26_5) rfl ?_
 refine o_iloadN X0 hx 7 (hb hby o_d26_6) rfl ?_
 refine o_iloadN X0 hx 8 (hb hby o_d26_7) rfl ?_
 refine o_isub X0 hx 9 (hb hby o_d26_8) ?_
 show o_Gs p e below _ (s₁.setTop (mkF m 9 #[(sR o1), (sI 0), (sI 3), (sR o2), (sI 0), .unset] [(.int 3), (.int 0)]))
 refine o_aloadN X0 hx 10 (hb hby o_d26_9) rfl rfl ?_
 obtain ⟨_, _, ⟨T1, Lx1, kc1, nc1⟩, -, X1, ⟨Lc1, hQ1, lq1, yq1, zq1⟩, st1⟩ := Jvm.LawKit.callS X0 hx (y := y9) hown (mvT hZ (W hw 114 rfl)) (mvT hZ (W hw 115 rfl)) (mvT hZ (W hw 58 rfl)) (mvT hZ (W hw 116 rfl)) (by decide) (backOf (W := 0) (o_rm27n3 l Z a0 hw [] cs sf GG o1 kb [(.int (o_lo c0)), (.int (o_hi c0)), (.int (o_lo c1)), (.int (o_hi c1)), (.int (o_lo c2)), (.int (o_hi c2))] h0 n0 Z0 pV1 O0) hZ (W hw 116 rfl) (W hw 58 rfl) (by decide) (by decide)) (g := (mkF m 10 #[(sR o1), (sI 0), (sI 3), (sR o2), (sI 0), .unset] [(.ref o1), (.int 3), (.int 0)])) rfl (by rw [hml]; rfl) (argsL := [(.int 0), (.int 3), (.ref o1)]) (rest := []) (lenOf o_pd10 rfl) rfl (o_wl rfl) (hb hby o_d26_10) (fun _ _ => ⟨rfl, e0, (by decide : 0 + 0 ≤ _), (by decide : 0 + 0 ≤ _)⟩)
 dsimp only [Pt.U, Pt.locs, Pt.cells, Pt.slots] at X1 lq1 yq1 zq1 st1 hQ1
 subst lq1 yq1 zq1
 obtain ⟨rfl, Nq1, eh1⟩ := hQ1
 have N1 := Fr.app N0 Nq1
 refine o_st (G' := T1.setTop (mkF m 13 #[(sR o1), (sI 0), (sI 3), (sR o2), (sI 0), .unset] [])) st1 ?_
 obtain ⟨_, X1h, N1h⟩ := o_hide X1 N1
 refine o_iloadN X1h hx 14 (hb hby o_d26_13) rfl ?_
 refine o_istore X1h hx 16 #[(sR o1), (sI 0), (sI 3), (sR o2), (sI 0), (sI 0)] (hb hby o_d26_14) rfl ?_
 refine o_iload X1h hx 18 (hb hby o_d26_16) rfl ?_
 refine o_iloadN X1h hx 19 (hb hby o_d26_18) rfl ?_
 refine o_icmpNo X1h hx 22 (hb hby o_d26_19) (tlt (by decide : (0 : Int32) < (3 : Int32))).2.1 ?_
 refine o_aloadN X1h hx 23 (hb hby o_d26_22) rfl rfl ?_
 refine o_iload X1h hx 25 (hb hby o_d26_23) rfl ?_
 refine o_iinc X1h hx 28 (1 : Int32) #[(sR o1), (sI 0), (sI 3), (sR o2), (sI 1), (sI 0)] (hb hby o_d26_25) rfl rfl rfl ?_
 refine o_aloadN X1h hx 29 (hb hby o_d26_28) rfl rfl ?_
 refine o_iload X1h hx 31 (hb hby o_d26_29) rfl ?_
 obtain ⟨_, _, ⟨T2, Lx2, kc2, nc2⟩, -, X2, ⟨Lc2, hQ2, lq2, yq2, zq2⟩, st2⟩ := Jvm.LawKit.callS X1h hx (y := y13) hown (mvT hZ (W hw 105 rfl)) (mvT hZ (W hw 106 rfl)) (mvT hZ (W hw 58 rfl)) (mvT hZ (W hw 107 rfl)) (by decide) (backOf (W := 2) (o_rm24n3i0 l Z a0 hw [] cs sf GG o1 kb c0 c1 c2 h0 n0 Z0 pV1 O0 (hC0 : o_C c0)) hZ (W hw 107 rfl) (W hw 58 rfl) (by decide) (by decide)) (g := (mkF m 31 #[(sR o1), (sI 0), (sI 3), (sR o2), (sI 1), (sI 0)] [(.int 0), (.ref o1), (.int 0), (.ref o2)])) rfl (by rw [hml]; rfl) (argsL := [(.ref o1), (.int 0)]) (rest := [(.int 0), (.ref o2)]) (lenOf o_pd7 rfl) rfl (o_wl rfl) (hb hby o_d26_31) (fun _ _ => ⟨rfl, eh1, (by decide : 0 + 0 ≤ _), (by decide : 0 + 0 ≤ _)⟩)
 dsimp only [Pt.U, Pt.locs, Pt.cells, Pt.slots] at X2 lq2 yq2 zq2 st2 hQ2
 subst lq2 yq2 zq2
 obtain ⟨rfl, Nq2, eh2⟩ := hQ2
 have N2 := Fr.app N1h Nq2
 refine o_st (G' := T2.setTop (mkF m 34 #[(sR o1), (sI 0), (sI 3), (sR o2), (sI 1), (sI 0)] [(.int c0), (.int 0), (.ref o2)])) st2 ?_
 obtain ⟨_, X2h, N2h⟩ := o_hide X2 N2
 obtain ⟨cl3, Ar3, qv3, S3, M3, H3, G3⟩ := id pV2
 have hin3 := inb_of (j := (0 : Int32)) S3 ⟨by decide, by decide⟩
 obtain ⟨T3, h3, X3, e3, W3, st3⟩ := stC X2h hx hZ eh2 Ar3 (j := (0 : Int32)) hin3 (g := (mkF m 34 #[(sR o1), (sI 0), (sI 3), (sR o2), (sI 1), (sI 0)] [(.int c0), (.int 0), (.ref o2)])) rfl rfl (hb hby o_d26_34)
 have V3 : Arv Z h3 o2 kc .char 3 [(.int (nar .char c0)), (.int 0), (.int 0)] (.int 0) := Arv.set Ar3 qv3 S3 M3 H3 G3 (fits_nar_char _) W3 0 rfl (Nat.le_of_ble_eq_true rfl)
 have N3 := Fr.snoc X3 N2h pG3
 have O4 := O0.wr W3 pG3
 have KC5 := KC0.wr W3 (Or.inl (List.mem_of_getElem? (i := 0) rfl))
 have Z6 := Nat.le_trans Z0 (Nat.le_of_eq W3.size.symm)
 refine o_st (G' := T3.setTop (mkF m 35 #[(sR o1), (sI 0), (sI 3), (sR o2), (sI 1), (sI 0)] [])) st3 ?_
 obtain ⟨_, X3h, N3h⟩ := o_hide X3 N3
 refine o_iinc X3h hx 38 (1 : Int32) #[(sR o1), (sI 0), (sI 3), (sR o2), (sI 1), (sI 1)] (hb hby o_d26_35) rfl rfl rfl ?_
 refine o_goto X3h hx 16 (hb hby o_d26_38) ?_
 refine o_iload X3h hx 18 (hb hby o_d26_16) rfl ?_
 refine o_iloadN X3h hx 19 (hb hby o_d26_18) rfl ?_
 refine o_icmpNo X3h hx 22 (hb hby o_d26_19) (tlt (by decide : (1 : Int32) < (3 : Int32))).2.1 ?_
 refine o_aloadN X3h hx 23 (hb hby o_d26_22) rfl rfl ?_
 refine o_iload X3h hx 25 (hb hby o_d26_23) rfl ?_
 refine o_iinc X3h hx 28 (1 : Int32) #[(sR o1), (sI 0), (sI 3), (sR o2), (sI 2), (sI 1)] (hb hby o_d26_25) rfl rfl rfl ?_
 refine o_aloadN X3h hx 29 (hb hby o_d26_28) rfl rfl ?_
 refine o_iload X3h hx 31 (hb hby o_d26_29) rfl ?_
 have f7 := (pV1.other W3 pN5)
 obtain ⟨_, _, ⟨T8, Lx8, kc8, nc8⟩, -, X8, ⟨Lc8, hQ8, lq8, yq8, zq8⟩, st8⟩ := Jvm.LawKit.callS X3h hx (y := y13) hown (mvT hZ (W hw 105 rfl)) (mvT hZ (W hw 106 rfl)) (mvT hZ (W hw 58 rfl)) (mvT hZ (W hw 107 rfl)) (by decide) (backOf (W := 2) (o_rm24n3i1 l Z a0 hw [] cs sf GG o1 kb c0 c1 c2 h3 n0 Z6 f7 O4 (hC1 : o_C c1)) hZ (W hw 107 rfl) (W hw 58 rfl) (by decide) (by decide)) (g := (mkF m 31 #[(sR o1), (sI 0), (sI 3), (sR o2), (sI 2), (sI 1)] [(.int 1), (.ref o1), (.int 1), (.ref o2)])) rfl (by rw [hml]; rfl) (argsL := [(.ref o1), (.int 1)]) (rest := [(.int 1), (.ref o2)]) (lenOf o_pd7 rfl) rfl (o_wl rfl) (hb hby o_d26_31) (fun _ _ => ⟨rfl, e3, (by decide : 0 + 0 ≤ _), (by decide : 0 + 0 ≤ _)⟩)
 dsimp only [Pt.U, Pt.locs, Pt.cells, Pt.slots] at X8 lq8 yq8 zq8 st8 hQ8
 subst lq8 yq8 zq8
 obtain ⟨rfl, Nq8, eh8⟩ := hQ8
 have N8 := Fr.app N3h Nq8
 refine o_st (G' := T8.setTop (mkF m 34 #[(sR o1), (sI 0), (sI 3), (sR o2), (sI 2), (sI 1)] [(.int c1), (.int 1), (.ref o2)])) st8 ?_
 obtain ⟨_, X8h, N8h⟩ := o_hide X8 N8
 obtain ⟨cl9, Ar9, qv9, S9, M9, H9, G9⟩ := id V3
 have hin9 := inb_of (j := (1 : Int32)) S9 ⟨by decide, by decide⟩
 obtain ⟨T9, h9, X9, e9, W9, st9⟩ := stC X8h hx hZ eh8 Ar9 (j := (1 : Int32)) hin9 (g := (mkF m 34 #[(sR o1), (sI 0), (sI 3), (sR o2), (sI 2), (sI 1)] [(.int c1), (.int 1), (.ref o2)])) rfl rfl (hb hby o_d26_34)
 have V9 : Arv Z h9 o2 kc .char 3 [(.int (nar .char c0)), (.int (nar .char c1)), (.int 0)] (.int 0) := Arv.set Ar9 qv9 S9 M9 H9 G9 (fits_nar_char _) W9 1 rfl (Nat.le_of_ble_eq_true rfl)
 have N9 := Fr.snoc X9 N8h pG3
 have O10 := O4.wr W9 pG3
 have KC11 := KC5.wr W9 (Or.inl (List.mem_of_getElem? (i := 0) rfl))
 have Z12 := Nat.le_trans Z6 (Nat.le_of_eq W9.size.symm)
 refine o_st (G' := T9.setTop (mkF m 35 #[(sR o1), (sI 0), (sI 3), (sR o2), (sI 2), (sI 1)] [])) st9 ?_
 obtain ⟨_, X9h, N9h⟩ := o_hide X9 N9
 refine o_iinc X9h hx 38 (1 : Int32) #[(sR o1), (sI 0), (sI 3), (sR o2), (sI 2), (sI 2)] (hb hby o_d26_35) rfl rfl rfl ?_
 refine o_goto X9h hx 16 (hb hby o_d26_38) ?_
 refine o_iload X9h hx 18 (hb hby o_d26_16) rfl ?_
 refine o_iloadN X9h hx 19 (hb hby o_d26_18) rfl ?_
 refine o_icmpNo X9h hx 22 (hb hby o_d26_19) (tlt (by decide : (2 : Int32) < (3 : Int32))).2.1 ?_
 refine o_aloadN X9h hx 23 (hb hby o_d26_22) rfl rfl ?_
 refine o_iload X9h hx 25 (hb hby o_d26_23) rfl ?_
 refine o_iinc X9h hx 28 (1 : Int32) #[(sR o1), (sI 0), (sI 3), (sR o2), (sI 3), (sI 2)] (hb hby o_d26_25) rfl rfl rfl ?_
 refine o_aloadN X9h hx 29 (hb hby o_d26_28) rfl rfl ?_
 refine o_iload X9h hx 31 (hb hby o_d26_29) rfl ?_
 have f13 := (f7.other W9 pN5)
 obtain ⟨_, _, ⟨T14, Lx14, kc14, nc14⟩, -, X14, ⟨Lc14, hQ14, lq14, yq14, zq14⟩, st14⟩ := Jvm.LawKit.callS X9h hx (y := y13) hown (mvT hZ (W hw 105 rfl)) (mvT hZ (W hw 106 rfl)) (mvT hZ (W hw 58 rfl)) (mvT hZ (W hw 107 rfl)) (by decide) (backOf (W := 2) (o_rm24n3i2 l Z a0 hw [] cs sf GG o1 kb c0 c1 c2 h9 n0 Z12 f13 O10 (hC2 : o_C c2)) hZ (W hw 107 rfl) (W hw 58 rfl) (by decide) (by decide)) (g := (mkF m 31 #[(sR o1), (sI 0), (sI 3), (sR o2), (sI 3), (sI 2)] [(.int 2), (.ref o1), (.int 2), (.ref o2)])) rfl (by rw [hml]; rfl) (argsL := [(.ref o1), (.int 2)]) (rest := [(.int 2), (.ref o2)]) (lenOf o_pd7 rfl) rfl (o_wl rfl) (hb hby o_d26_31) (fun _ _ => ⟨rfl, e9, (by decide : 0 + 0 ≤ _), (by decide : 0 + 0 ≤ _)⟩)
 dsimp only [Pt.U, Pt.locs, Pt.cells, Pt.slots] at X14 lq14 yq14 zq14 st14 hQ14
 subst lq14 yq14 zq14
 obtain ⟨rfl, Nq14, eh14⟩ := hQ14
 have N14 := Fr.app N9h Nq14
 refine o_st (G' := T14.setTop (mkF m 34 #[(sR o1), (sI 0), (sI 3), (sR o2), (sI 3), (sI 2)] [(.int c2), (.int 2), (.ref o2)])) st14 ?_
 obtain ⟨_, X14h, N14h⟩ := o_hide X14 N14
 obtain ⟨cl15, Ar15, qv15, S15, M15, H15, G15⟩ := id V9
 have hin15 := inb_of (j := (2 : Int32)) S15 ⟨by decide, by decide⟩
 obtain ⟨T15, h15, X15, e15, W15, st15⟩ := stC X14h hx hZ eh14 Ar15 (j := (2 : Int32)) hin15 (g := (mkF m 34 #[(sR o1), (sI 0), (sI 3), (sR o2), (sI 3), (sI 2)] [(.int c2), (.int 2), (.ref o2)])) rfl rfl (hb hby o_d26_34)
 have V15 : Arv Z h15 o2 kc .char 3 [(.int (nar .char c0)), (.int (nar .char c1)), (.int (nar .char c2))] (.int 0) := Arv.set Ar15 qv15 S15 M15 H15 G15 (fits_nar_char _) W15 2 rfl (Nat.le_of_ble_eq_true rfl)
 have N15 := Fr.snoc X15 N14h pG3
 have KC17 := KC11.wr W15 (Or.inl (List.mem_of_getElem? (i := 0) rfl))
 refine o_st (G' := T15.setTop (mkF m 35 #[(sR o1), (sI 0), (sI 3), (sR o2), (sI 3), (sI 2)] [])) st15 ?_
 obtain ⟨_, X15h, N15h⟩ := o_hide X15 N15
 refine o_iinc X15h hx 38 (1 : Int32) #[(sR o1), (sI 0), (sI 3), (sR o2), (sI 3), (sI 3)] (hb hby o_d26_35) rfl rfl rfl ?_
 refine o_goto X15h hx 16 (hb hby o_d26_38) ?_
 refine o_iload X15h hx 18 (hb hby o_d26_16) rfl ?_
 refine o_iloadN X15h hx 19 (hb hby o_d26_18) rfl ?_
 refine o_icmpYes X15h hx 41 (hb hby o_d26_19) (flt (by decide : ¬ ((3 : Int32) < (3 : Int32)))).2.1 ?_
 exact o_retV (Q := o_Q26n3 Z cs sf GG o1 o2 kb kc c0 c1 c2 h0 n0) X15h hx hrt (hb hby o_d26_41) hlk e15 ⟨rfl, N15h, KC17, (by have q := V15; rw [o_narC hC0, o_narC hC1, o_narC hC2] at q; exact q)⟩ (by decide) (by decide)
def o_Q8n3 (Z : State) (o1 : Addr) (o2 : Addr) (kb : ClassId) (kc : ClassId) (c0 : Int32) (c1 : Int32) (c2 : Int32) (h0 : Heap) (n0 : Nat) (v : Option Value) (h : Heap) (L : List Loc) : Prop := v = none ∧ Fr n0 L ∧ Keep h0 h [o2] ∧ Arv Z h o2 kc .char 3 [(.int c0), (.int c1), (.int c2)] (.int 0)
set_option maxRecDepth 65536 in
set_option maxHeartbeats 40000000 in
theorem o_rm8n3 (l : Launch) (Z : State) (a0 : Array Value) (hw : o_Hw Z a0) (ws : List Jvm.Cond) (o1 : Addr) (o2 : Addr) (kb : ClassId) (kc : ClassId) (c0 : Int32) (c1 : Int32) (c2 : Int32) (h0 : Heap) (n0 : Nat) (Z0 : n0 ≤ h0.size) (pV1 : Arv Z h0 o1 kb .byte 3 [(.int (nar .byte c0.toInt8.toInt32)), (.int (nar .byte c1.toInt8.toInt32)), (.int (nar .byte c2.toInt8.toInt32))] (.int 0)) (pV2 : Arv Z h0 o2 kc .char 3 [(.int 0), (.int 0), (.int 0)] (.int 0)) (pG3 : n0 ≤ o2) (pN4 : o1 ≠ o2) (hC0 : o_C c0) (hC1 : o_C c1) (hC2 : o_C c2) (hL0 : ¬ (255 : Int32) < c0) (hL1 : ¬ (255 : Int32) < c1) (hL2 : ¬ (255 : Int32) < c2) :
  o_Met l y19 jdk_43_method_49_code 6 none ws r0 #[(.ref o1), (.int 0), (.ref o2), (.int 0), (.int 3)] Z h0 (o_Q8n3 Z o1 o2 kb kc c0 c1 c2 h0 n0) := by
 refine MetFree.of_bodySF (plainFor_of_name o_pn5) hisR ?_
 intro p e s m args below meth c s₁ Bd hml0 hP hK
 obtain ⟨rfl, hZ, hh⟩ := hP
 obtain ⟨hx, hby, hlk, hrt⟩ := o_bd Bd
 have X0 : Stand p l e r0 s m #[(.ref o1), (.int 0), (.ref o2), (.int 0), (.int 3)] below meth c s₁ [] 0 0 := Stand.of_body Bd
 have e0 := o_e0 Bd hh
 have N0 := Fr.nil n0
 have KC0 := Keep.refl h0 [o2]
 refine o_in (g' := mkF m 0 #[(sR o1), (sI 0), (sR o2), (sI 0), (sI 3), .unset] []) (by simp [entryFrame, mkF, argsToLocals, Value.category]) ?_
 refine o_iconst X0 hx 1 0 (hb hby o_d8_0) rfl ?_
 refine o_istore X0 hx 3 #[(sR o1), (sI 0), (sR o2), (sI 0), (sI 3), (sI 0)] (hb hby o_d8_1) rfl ?_
 refine o_iload X0 hx 5 (hb hby o_d8_3) rfl ?_
 refine o_iload X0 hx 7 (hb hby o_d8_5) rfl ?_
 refine o_icmpNo X0 hx 10 (hb hby o_d8_7) (tlt (by decide : (0 : Int32) < (3 : Int32))).2.1 ?_
 refine o_aloadN X0 hx 11 (hb hby o_d8_10) rfl rfl ?_
 refine o_iloadN X0 hx 12 (hb hby o_d8_11) rfl ?_
 refine o_iinc X0 hx 15 (1 : Int32) #[(sR o1), (sI 0), (sR o2), (sI 1), (sI 3), (sI 0)] (hb hby o_d8_12) rfl rfl rfl ?_
 refine o_aloadN X0 hx 16 (hb hby o_d8_15) rfl rfl ?_
 refine o_iloadN X0 hx 17 (hb hby o_d8_16) rfl ?_
 refine o_iinc X0 hx 20 (1 : Int32) #[(sR o1), (sI 1), (sR o2), (sI 1), (sI 3), (sI 0)] (hb hby o_d8_17) rfl rfl rfl ?_
 obtain ⟨cl1, Ar1, qv1, S1, M1, H1, G1⟩ := id pV1
 have hin1 := inb_of (j := (0 : Int32)) S1 ⟨by decide, by decide⟩
 refine o_st (G' := s₁.setTop (mkF m 21 #[(sR o1), (sI 1), (sR o2), (sI 1), (sI 3), (sI 0)] [(.int (nar .byte c0.toInt8.toInt32)), (.int 0), (.ref o2)])) (fun t k => X0.baloadBytes hx (j := (0 : Int32)) (v := (.int (nar .byte c0.toInt8.toInt32))) (by rw [e0]; exact Ar1.1) (State.isArrayOf_alike hZ.alike Ar1.2.1) Ar1.2.2 hin1 (H1.at hin1 rfl) (g := (mkF m 20 #[(sR o1), (sI 1), (sR o2), (sI 1), (sI 3), (sI 0)] [(.int 0), (.ref o1), (.int 0), (.ref o2)])) rfl rfl (hb hby o_d8_20) _ k) ?_
 refine o_sipush X0 hx 24 255 (hb hby o_d8_21) rfl ?_
 refine o_iand X0 hx 25 (hb hby o_d8_24) ?_
 refine o_i2c X0 hx 26 (hb hby o_d8_25) ?_
 obtain ⟨cl2, Ar2, qv2, S2, M2, H2, G2⟩ := id pV2
 have hin2 := inb_of (j := (0 : Int32)) S2 ⟨by decide, by decide⟩
 obtain ⟨T2, h2, X2, e2, W2, st2⟩ := stC X0 hx hZ e0 Ar2 (j := (0 : Int32)) hin2 (g := (mkF m 26 #[(sR o1), (sI 1), (sR o2), (sI 1), (sI 3), (sI 0)] [(.int (((nar .byte c0.toInt8.toInt32) &&& (255 : Int32)).toUInt32.toUInt16.toUInt32.toInt32)), (.int 0), (.ref o2)])) rfl rfl (hb hby o_d8_26)
 have V2 : Arv Z h2 o2 kc .char 3 [(.int (nar .char (((nar .byte c0.toInt8.toInt32) &&& (255 : Int32)).toUInt32.toUInt16.toUInt32.toInt32))), (.int 0), (.int 0)] (.int 0) := Arv.set Ar2 qv2 S2 M2 H2 G2 (fits_nar_char _) W2 0 rfl (Nat.le_of_ble_eq_true rfl)
 have N2 := Fr.snoc X2 N0 pG3
 have KC3 := KC0.wr W2 (Or.inl (List.mem_of_getElem? (i := 0) rfl))
 refine o_st (G' := T2.setTop (mkF m 27 #[(sR o1), (sI 1), (sR o2), (sI 1), (sI 3), (sI 0)] [])) st2 ?_
 obtain ⟨_, X2h, N2h⟩ := o_hide X2 N2
 refine o_iinc X2h hx 30 (1 : Int32) #[(sR o1), (sI 1), (sR o2), (sI 1), (sI 3), (sI 1)] (hb hby o_d8_27) rfl rfl rfl ?_
 refine o_goto X2h hx 3 (hb hby o_d8_30) ?_
 refine o_iload X2h hx 5 (hb hby o_d8_3) rfl ?_
 refine o_iload X2h hx 7 (hb hby o_d8_5) rfl ?_
 refine o_icmpNo X2h hx 10 (hb hby o_d8_7) (tlt (by decide : (1 : Int32) < (3 : Int32))).2.1 ?_
 refine o_aloadN X2h hx 11 (hb hby o_d8_10) rfl rfl ?_
 refine o_iloadN X2h hx 12 (hb hby o_d8_11) rfl ?_
 refine o_iinc X2h hx 15 (1 : Int32) #[(sR o1), (sI 1), (sR o2), (sI 2), (sI 3), (sI 1)] (hb hby o_d8_12) rfl rfl rfl ?_
 refine o_aloadN X2h hx 16 (hb hby o_d8_15) rfl rfl ?_
 refine o_iloadN X2h hx 17 (hb hby o_d8_16) rfl ?_
 refine o_iinc X2h hx 20 (1 : Int32) #[(sR o1), (sI 2), (sR o2), (sI 2), (sI 3), (sI 1)] (hb hby o_d8_17) rfl rfl rfl ?_
 have f5 := (pV1.other W2 pN4)
 obtain ⟨cl6, Ar6, qv6, S6, M6, H6, G6⟩ := id f5
 have hin6 := inb_of (j := (1 : Int32)) S6 ⟨by decide, by decide⟩
 refine o_st (G' := T2.setTop (mkF m 21 #[(sR o1), (sI 2), (sR o2), (sI 2), (sI 3), (sI 1)] [(.int (nar .byte c1.toInt8.toInt32)), (.int 1), (.ref o2)])) (fun t k => X2h.baloadBytes hx (j := (1 : Int32)) (v := (.int (nar .byte c1.toInt8.toInt32))) (by rw [e2]; exact Ar6.1) (State.isArrayOf_alike hZ.alike Ar6.2.1) Ar6.2.2 hin6 (H6.at hin6 rfl) (g := (mkF m 20 #[(sR o1), (sI 2), (sR o2), (sI 2), (sI 3), (sI 1)] [(.int 1), (.ref o1), (.int 1), (.ref o2)])) rfl rfl (hb hby o_d8_20) _ k) ?_
 refine o_sipush X2h hx 24 255 (hb hby o_d8_21) rfl ?_
 refine o_iand X2h hx 25 (hb hby o_d8_24) ?_
 refine o_i2c X2h hx 26 (hb hby o_d8_25) ?_
 obtain ⟨cl7, Ar7, qv7, S7, M7, H7, G7⟩ := id V2
 have hin7 := inb_of (j := (1 : Int32)) S7 ⟨by decide, by decide⟩
 obtain ⟨T7, h7, X7, e7, W7, st7⟩ := stC X2h hx hZ e2 Ar7 (j := (1 : Int32)) hin7 (g := (mkF m 26 #[(sR o1), (sI 2), (sR o2), (sI 2), (sI 3), (sI 1)] [(.int (((nar .byte c1.toInt8.toInt32) &&& (255 : Int32)).toUInt32.toUInt16.toUInt32.toInt32)), (.int 1), (.ref o2)])) rfl rfl (hb hby o_d8_26)
 have V7 : Arv Z h7 o2 kc .char 3 [(.int (nar .char (((nar .byte c0.toInt8.toInt32) &&& (255 : Int32)).toUInt32.toUInt16.toUInt32.toInt32))), (.int (nar .char (((nar .byte c1.toInt8.toInt32) &&& (255 : Int32)).toUInt32.toUInt16.toUInt32.toInt32))), (.int 0)] (.int 0) := Arv.set Ar7 qv7 S7 M7 H7 G7 (fits_nar_char _) W7 1 rfl (Nat.le_of_ble_eq_true rfl)
 have N7 := Fr.snoc X7 N2h pG3
 have KC8 := KC3.wr W7 (Or.inl (List.mem_of_getElem? (i := 0) rfl))
 refine o_st (G' := T7.setTop (mkF m 27 #[(sR o1), (sI 2), (sR o2), (sI 2), (sI 3), (sI 1)] [])) st7 ?_
 obtain ⟨_, X7h, N7h⟩ := o_hide X7 N7
 refine o_iinc X7h hx 30 (1 : Int32) #[(sR o1), (sI 2), (sR o2), (sI 2), (sI 3), (sI 2)] (hb hby o_d8_27) rfl rfl rfl ?_
 refine o_goto X7h hx 3 (hb hby o_d8_30) ?_
 refine o_iload X7h hx 5 (hb hby o_d8_3) rfl ?_
 refine o_iload X7h hx 7 (hb hby o_d8_5) rfl ?_
 refine o_icmpNo X7h hx 10 (hb hby o_d8_7) (tlt (by decide : (2 : Int32) < (3 : Int32))).2.1 ?_
 refine o_aloadN X7h hx 11 (hb hby o_d8_10) rfl rfl ?_
 refine o_iloadN X7h hx 12 (hb hby o_d8_11) rfl ?_
 refine o_iinc X7h hx 15 (1 : Int32) #[(sR o1), (sI 2), (sR o2), (sI 3), (sI 3), (sI 2)] (hb hby o_d8_12) rfl rfl rfl ?_
 refine o_aloadN X7h hx 16 (hb hby o_d8_15) rfl rfl ?_
 refine o_iloadN X7h hx 17 (hb hby o_d8_16) rfl ?_
 refine o_iinc X7h hx 20 (1 : Int32) #[(sR o1), (sI 3), (sR o2), (sI 3), (sI 3), (sI 2)] (hb hby o_d8_17) rfl rfl rfl ?_
 have f10 := (f5.other W7 pN4)
 obtain ⟨cl11, Ar11, qv11, S11, M11, H11, G11⟩ := id f10
 have hin11 := inb_of (j := (2 : Int32)) S11 ⟨by decide, by decide⟩
 refine o_st (G' := T7.setTop (mkF m 21 #[(sR o1), (sI 3), (sR o2), (sI 3), (sI 3), (sI 2)] [(.int (nar .byte c2.toInt8.toInt32)), (.int 2), (.ref o2)])) (fun t k => X7h.baloadBytes hx (j := (2 : Int32)) (v := (.int (nar .byte c2.toInt8.toInt32))) (by rw [e7]; exact Ar11.1) (State.isArrayOf_alike hZ.alike Ar11.2.1) Ar11.2.2 hin11 (H11.at hin11 rfl) (g := (mkF m 20 #[(sR o1), (sI 3), (sR o2), (sI 3), (sI 3), (sI 2)] [(.int 2), (.ref o1), (.int 2), (.ref o2)])) rfl rfl (hb hby o_d8_20) _ k) ?_
 refine o_sipush X7h hx 24 255 (hb hby o_d8_21) rfl ?_
 refine o_iand X7h hx 25 (hb hby o_d8_24) ?_
 refine o_i2c X7h hx 26 (hb hby o_d8_25) ?_
 obtain ⟨cl12, Ar12, qv12, S12, M12, H12, G12⟩ := id V7
 have hin12 := inb_of (j := (2 : Int32)) S12 ⟨by decide, by decide⟩
 obtain ⟨T12, h12, X12, e12, W12, st12⟩ := stC X7h hx hZ e7 Ar12 (j := (2 : Int32)) hin12 (g := (mkF m 26 #[(sR o1), (sI 3), (sR o2), (sI 3), (sI 3), (sI 2)] [(.int (((nar .byte c2.toInt8.toInt32) &&& (255 : Int32)).toUInt32.toUInt16.toUInt32.toInt32)), (.int 2), (.ref o2)])) rfl rfl (hb hby o_d8_26)
 have V12 : Arv Z h12 o2 kc .char 3 [(.int (nar .char (((nar .byte c0.toInt8.toInt32) &&& (255 : Int32)).toUInt32.toUInt16.toUInt32.toInt32))), (.int (nar .char (((nar .byte c1.toInt8.toInt32) &&& (255 : Int32)).toUInt32.toUInt16.toUInt32.toInt32))), (.int (nar .char (((nar .byte c2.toInt8.toInt32) &&& (255 : Int32)).toUInt32.toUInt16.toUInt32.toInt32)))] (.int 0) := Arv.set Ar12 qv12 S12 M12 H12 G12 (fits_nar_char _) W12 2 rfl (Nat.le_of_ble_eq_true rfl)
 have N12 := Fr.snoc X12 N7h pG3
 have KC13 := KC8.wr W12 (Or.inl (List.mem_of_getElem? (i := 0) rfl))
 refine o_st (G' := T12.setTop (mkF m 27 #[(sR o1), (sI 3), (sR o2), (sI 3), (sI 3), (sI 2)] [])) st12 ?_
 obtain ⟨_, X12h, N12h⟩ := o_hide X12 N12
 refine o_iinc X12h hx 30 (1 : Int32) #[(sR o1), (sI 3), (sR o2), (sI 3), (sI 3), (sI 3)] (hb hby o_d8_27) rfl rfl rfl ?_
 refine o_goto X12h hx 3 (hb hby o_d8_30) ?_
 refine o_iload X12h hx 5 (hb hby o_d8_3) rfl ?_
 refine o_iload X12h hx 7 (hb hby o_d8_5) rfl ?_
 refine o_icmpYes X12h hx 33 (hb hby o_d8_7) (flt (by decide : ¬ ((3 : Int32) < (3 : Int32)))).2.1 ?_
 exact o_retV (Q := o_Q8n3 Z o1 o2 kb kc c0 c1 c2 h0 n0) X12h hx hrt (hb hby o_d8_33) hlk e12 ⟨rfl, N12h, KC13, (by have q := V12; rw [o_lat hC0 hL0, o_lat hC1 hL1, o_lat hC2 hL2] at q; exact q)⟩ (by decide) (by decide)
def o_Q7n3 (Z : State) (cs : Int32) (sf : Value) (GG : o_G Z cs sf) (o1 : Addr) (kb : ClassId) (c0 : Int32) (c1 : Int32) (c2 : Int32) (h0 : Heap) (n0 : Nat) (v : Option Value) (h : Heap) (L : List Loc) : Prop := ∃ ca : Addr, ∃ kc : ClassId, v = some (.ref ca) ∧ Fr n0 L ∧ Keep h0 h [] ∧ h0.size ≤ ca ∧ Arv Z h ca kc .char 3 [(.int c0), (.int c1), (.int c2)] (.int 0)
set_option maxRecDepth 65536 in
set_option maxHeartbeats 40000000 in
theorem o_rm7n3 (l : Launch) (Z : State) (a0 : Array Value) (hw : o_Hw Z a0) (ws : List Jvm.Cond) (cs : Int32) (sf : Value) (GG : o_G Z cs sf) (o1 : Addr) (kb : ClassId) (c0 : Int32) (c1 : Int32) (c2 : Int32) (h0 : Heap) (n0 : Nat) (Z0 : n0 ≤ h0.size) (pV1 : Arv Z h0 o1 kb .byte 3 [(.int (nar .byte c0.toInt8.toInt32)), (.int (nar .byte c1.toInt8.toInt32)), (.int (nar .byte c2.toInt8.toInt32))] (.int 0)) (O0 : Old Z n0 h0) (hC0 : o_C c0) (hC1 : o_C c1) (hC2 : o_C c2) (hL0 : ¬ (255 : Int32) < c0) (hL1 : ¬ (255 : Int32) < c1) (hL2 : ¬ (255 : Int32) < c2) :
  o_Met l y20 jdk_43_method_9_code 2 (some (.array .char)) ws r39 #[(.ref o1)] Z h0 (o_Q7n3 Z cs sf GG o1 kb c0 c1 c2 h0 n0) := by
 refine MetFree.of_bodySF (plainFor_of_name o_pn5) hisR ?_
 intro p e s m args below meth c s₁ Bd hml0 hP hK
 obtain ⟨rfl, hZ, hh⟩ := hP
 obtain ⟨hx, hby, hlk, hrt⟩ := o_bd Bd
 have hml : c.maxLocals = 2 := hml0
 have hown : s.vm.findClass "java/lang/StringLatin1" = some m.cls := findClass_of_methodNamed Bd.named
 have X0 : Stand p l e r39 s m #[(.ref o1)] below meth c s₁ [] 0 0 := Stand.of_body Bd
 have e0 := o_e0 Bd hh
 have N0 := Fr.nil n0
 have KC0 := Keep.refl h0 []
 refine o_in (g' := mkF m 0 #[(sR o1), .unset] []) (by simp [entryFrame, mkF, argsToLocals, Value.category]) ?_
 refine o_aloadN X0 hx 1 (hb hby o_d7_0) rfl rfl ?_
 obtain ⟨cl1, Ar1, qv1, S1, M1, H1, G1⟩ := id pV1
 have ln1 := len_of S1 M1
 refine o_st (G' := s₁.setTop (mkF m 2 #[(sR o1), .unset] [(.int 3)])) (fun t k => X0.arraylength hx (by rw [e0]; exact Ar1.1) (State.isArrayOf_alike hZ.alike Ar1.2.1) (g := (mkF m 1 #[(sR o1), .unset] [(.ref o1)])) rfl rfl (hb hby o_d7_1) _ (by rw [ln1]; exact k)) ?_
 obtain ⟨T2, h2, k2, X2, e2, E2, A2, st2⟩ := newP X0 hx hZ (W hw 0 rfl) e0 (g := (mkF m 2 #[(sR o1), .unset] [(.int 3)])) rfl (hb hby o_d7_2) rfl (by decide) (cap := 3) (by decide) (by decide) (by decide) (by decide)
 obtain ⟨b2, g2⟩ : ∃ z, z = h0.size := ⟨_, rfl⟩
 rw [← g2] at A2 st2
 have ne3 : o1 ≠ b2 := Nat.ne_of_lt (Nat.lt_of_lt_of_le pV1.lt (Nat.le_of_eq g2.symm))
 have gt_b2 : n0 ≤ b2 := Nat.le_trans Z0 (Nat.le_of_eq g2.symm)
 have sz_b2 : h0.size ≤ b2 := Nat.le_trans KC0.1 (Nat.le_of_eq g2.symm)
 have V2 : Arv Z h2 b2 k2 .char 3 [(.int 0), (.int 0), (.int 0)] (.int 0) := (Arv.new A2 (by decide)).pad (pad_rep [] (.int 0) 3)
 have KC5 := KC0.ext E2
 have Z6 := Nat.le_trans Z0 E2.1
 refine o_st (G' := T2.setTop (mkF m 4 #[(sR o1), .unset] [(.ref b2)])) st2 ?_
 obtain ⟨_, X2h, N2h⟩ := o_hide X2 N0
 refine o_astoreN X2h hx 5 #[(sR o1), (sR b2)] (hb hby o_d7_4) rfl rfl ?_
 refine o_aloadN X2h hx 6 (hb hby o_d7_5) rfl rfl ?_
 refine o_iconst X2h hx 7 0 (hb hby o_d7_6) rfl ?_
 refine o_aloadN X2h hx 8 (hb hby o_d7_7) rfl rfl ?_
 refine o_iconst X2h hx 9 0 (hb hby o_d7_8) rfl ?_
 refine o_aloadN X2h hx 10 (hb hby o_d7_9) rfl rfl ?_
 have f7 := (pV1.ext E2)
 obtain ⟨cl8, Ar8, qv8, S8, M8, H8, G8⟩ := id f7
 have ln8 := len_of S8 M8
 refine o_st (G' := T2.setTop (mkF m 11 #[(sR o1), (sR b2)] [(.int 3), (.int 0), (.ref b2), (.int 0), (.ref o1)])) (fun t k => X2h.arraylength hx (by rw [e2]; exact Ar8.1) (State.isArrayOf_alike hZ.alike Ar8.2.1) (g := (mkF m 10 #[(sR o1), (sR b2)] [(.ref o1), (.int 0), (.ref b2), (.int 0), (.ref o1)])) rfl rfl (hb hby o_d7_10) _ (by rw [ln8]; exact k)) ?_
 obtain ⟨_, _, ⟨T9, Lx9, kc9, nc9⟩, -, X9, ⟨Lc9, hQ9, lq9, yq9, zq9⟩, st9⟩ := Jvm.LawKit.callS X2h hx (y := y19) hown (mvT hZ (W hw 41 rfl)) (mvT hZ (W hw 42 rfl)) (mvT hZ (W hw 39 rfl)) (mvT hZ (W hw 43 rfl)) (by decide) (backOf (W := 0) (o_rm8n3 l Z a0 hw [] o1 b2 kb k2 c0 c1 c2 h2 n0 Z6 f7 V2 gt_b2 ne3 (hC0 : o_C c0) (hC1 : o_C c1) (hC2 : o_C c2) (hL0 : ¬ (255 : Int32) < c0) (hL1 : ¬ (255 : Int32) < c1) (hL2 : ¬ (255 : Int32) < c2)) hZ (W hw 43 rfl) (W hw 39 rfl) (by decide) (by decide)) (g := (mkF m 11 #[(sR o1), (sR b2)] [(.int 3), (.int 0), (.ref b2), (.int 0), (.ref o1)])) rfl (by rw [hml]; rfl) (argsL := [(.ref o1), (.int 0), (.ref b2), (.int 0), (.int 3)]) (rest := []) (lenOf o_pd11 rfl) rfl (o_wl rfl) (hb hby o_d7_11) (fun _ _ => ⟨rfl, e2, (by decide : 1 + 0 ≤ _), (by decide : 3 + 0 ≤ _)⟩)
 dsimp only [Pt.U, Pt.locs, Pt.cells, Pt.slots] at X9 lq9 yq9 zq9 st9 hQ9
 subst lq9 yq9 zq9
 obtain ⟨rfl, Nq9, Kp9, G9_0⟩ := hQ9
 have N9 := Fr.app N2h Nq9
 have KC11 := KC5.trans Kp9 (allS (Or.inr sz_b2) all0)
 refine o_st (G' := T9.setTop (mkF m 14 #[(sR o1), (sR b2)] [])) st9 ?_
 obtain ⟨_, X9h, N9h⟩ := o_hide X9 N9
 refine o_aloadN X9h hx 15 (hb hby o_d7_14) rfl rfl ?_
 exact o_retA (z := (.ref b2)) (Q := o_Q7n3 Z cs sf GG o1 kb c0 c1 c2 h0 n0) X9h hx hrt rfl rfl (hb hby o_d7_15) hlk rfl ⟨b2, k2, rfl, N9h, KC11, sz_b2, G9_0⟩ (by decide) (by decide)
def o_Q5n3L (Z : State) (cs : Int32) (sf : Value) (GG : o_G Z cs sf) (o1 : Addr) (bb : Addr) (kb : ClassId) (c0 : Int32) (c1 : Int32) (c2 : Int32) (h0 : Heap) (n0 : Nat) (v : Option Value) (h : Heap) (L : List Loc) : Prop := ∃ ca : Addr, ∃ kc : ClassId, v = some (.ref ca) ∧ Fr n0 L ∧ Keep h0 h [] ∧ h0.size ≤ ca ∧ Arv Z h ca kc .char 3 [(.int c0), (.int c1), (.int c2)] (.int 0)
set_option maxRecDepth 65536 in
set_option maxHeartbeats 40000000 in
theorem o_rm5n3L (l : Launch) (Z : State) (a0 : Array Value) (hw : o_Hw Z a0) (ws : List Jvm.Cond) (cs : Int32) (sf : Value) (GG : o_G Z cs sf) (o1 : Addr) (bb : Addr) (kb : ClassId) (c0 : Int32) (c1 : Int32) (c2 : Int32) (h0 : Heap) (n0 : Nat) (Z0 : n0 ≤ h0.size) (pE1 : Exa Z h0 o1 "java/lang/String") (pF2 : Fld Z h0 o1 "java/lang/String" "value" "[B" (.ref bb)) (pF3 : Fld Z h0 o1 "java/lang/String" "coder" "B" (.int 0)) (pV4 : Arv Z h0 bb kb .byte 3 [(.int (nar .byte c0.toInt8.toInt32)), (.int (nar .byte c1.toInt8.toInt32)), (.int (nar .byte c2.toInt8.toInt32))] (.int 0)) (O0 : Old Z n0 h0) (hC0 : o_C c0) (hC1 : o_C c1) (hC2 : o_C c2) (hL0 : ¬ (255 : Int32) < c0) (hL1 : ¬ (255 : Int32) < c1) (hL2 : ¬ (255 : Int32) < c2) :
  o_Met l y21 jdk_42_method_129_code 1 (some (.array .char)) ws r40 #[(.ref o1)] Z h0 (o_Q5n3L Z cs sf GG o1 bb kb c0 c1 c2 h0 n0) := by
 refine MetFree.of_bodySF (plainFor_of_name o_pn3) hisR ?_
 intro p e s m args below meth c s₁ Bd hml0 hP hK
 obtain ⟨rfl, hZ, hh⟩ := hP
 obtain ⟨hx, hby, hlk, hrt⟩ := o_bd Bd
 have hml : c.maxLocals = 1 := hml0
 have hown : s.vm.findClass "java/lang/String" = some m.cls := findClass_of_methodNamed Bd.named
 have X0 : Stand p l e r40 s m #[(.ref o1)] below meth c s₁ [] 0 0 := Stand.of_body Bd
 have e0 := o_e0 Bd hh
 have N0 := Fr.nil n0
 have KC0 := Keep.refl h0 []
 refine o_in (g' := mkF m 0 #[(sR o1)] []) (by simp [entryFrame, mkF, argsToLocals, Value.category]) ?_
 refine o_aloadN X0 hx 1 (hb hby o_d5_0) rfl rfl ?_
 obtain ⟨cq1, kq1, q1a, q1b, q1c⟩ := isOf hZ e0 pE1
 obtain ⟨_, _, ⟨T1, Lx1, kc1, nc1⟩, -, X1, ⟨Lc1, hQ1, lq1, yq1, zq1⟩, st1⟩ := X0.virtualBack hx (y := y5) (z := y5) hown (mvT hZ (W hw 31 rfl)) (mvT hZ (W hw 32 rfl)) (notFace_of_selects (args := #[]) (mvT hZ (W hw 34 rfl))) (mvT hZ (W hw 34 rfl)) (mvT hZ (W hw 33 rfl)) (by decide) (backOf (W := 0) (o_rm6L l Z a0 hw [] cs sf GG o1 h0 n0 Z0 pF3 O0) hZ (W hw 35 rfl) (W hw 3 rfl) (by decide) (by decide)) q1a q1c (g := (mkF m 1 #[(sR o1)] [(.ref o1)])) rfl (by rw [hml]; rfl) (Steps.refl _) (argsL := []) (rest := []) (lenOf o_pd12 rfl) rfl (o_wl rfl) (hb hby o_d5_1) (fun _ _ => ⟨rfl, e0, (by decide : 0 + 0 ≤ _), (by decide : 0 + 0 ≤ _)⟩)
 dsimp only [Pt.U, Pt.locs, Pt.cells, Pt.slots] at X1 lq1 yq1 zq1 st1 hQ1
 subst lq1 yq1 zq1
 obtain ⟨rfl, Nq1, eh1⟩ := hQ1
 have N1 := Fr.app N0 Nq1
 refine o_st (G' := T1.setTop (mkF m 4 #[(sR o1)] [(.int 1)])) (fun t k => st1.trans k) ?_
 obtain ⟨_, X1h, N1h⟩ := o_hide X1 N1
 refine o_ifNo X1h hx 7 (hb hby o_d5_4) (feq (by decide : ¬ ((1 : Int32) = (0 : Int32)))).1 ?_
 refine o_aloadN X1h hx 8 (hb hby o_d5_7) rfl rfl ?_
 obtain ⟨T2, X2, e2, st2⟩ := getF X1h hx hZ hown (host := "") (Or.inl (W hw 20 rfl)) Via.refl eh1 pF2 (g := (mkF m 8 #[(sR o1)] [(.ref o1)])) rfl rfl (hb hby o_d5_8)
 refine o_st (G' := T2.setTop (mkF m 11 #[(sR o1)] [(.ref bb)])) st2 ?_
 obtain ⟨_, X2h, N2h⟩ := o_hide X2 N1h
 obtain ⟨_, _, ⟨T3, Lx3, kc3, nc3⟩, -, X3, ⟨Lc3, hQ3, lq3, yq3, zq3⟩, st3⟩ := Jvm.LawKit.callS X2h hx (y := y20) hown (mvT hZ (W hw 37 rfl)) (mvT hZ (W hw 38 rfl)) (mvT hZ (W hw 39 rfl)) (mvT hZ (W hw 40 rfl)) (by decide) (backOf (W := 0) (o_rm7n3 l Z a0 hw [] cs sf GG bb kb c0 c1 c2 h0 n0 Z0 pV4 O0 (hC0 : o_C c0) (hC1 : o_C c1) (hC2 : o_C c2) (hL0 : ¬ (255 : Int32) < c0) (hL1 : ¬ (255 : Int32) < c1) (hL2 : ¬ (255 : Int32) < c2)) hZ (W hw 40 rfl) (W hw 39 rfl) (by decide) (by decide)) (g := (mkF m 11 #[(sR o1)] [(.ref bb)])) rfl (by rw [hml]; rfl) (argsL := [(.ref bb)]) (rest := []) (lenOf o_pd13 rfl) rfl (o_wl rfl) (hb hby o_d5_11) (fun _ _ => ⟨rfl, e2, (by decide : 0 + 1 ≤ _), (by decide : 0 + 3 ≤ _)⟩)
 dsimp only [Pt.U, Pt.locs, Pt.cells, Pt.slots] at X3 lq3 yq3 zq3 st3 hQ3
 subst lq3 yq3 zq3
 obtain ⟨ca_3, kc_3, rfl, Nq3, Kp3, G3_0, G3_1⟩ := hQ3
 have N3 := Fr.app N2h Nq3
 have sz_ca_3 : h0.size ≤ ca_3 := Nat.le_trans KC0.1 G3_0
 have KC7 := KC0.trans Kp3 all0
 refine o_st (G' := T3.setTop (mkF m 14 #[(sR o1)] [(.ref ca_3)])) st3 ?_
 obtain ⟨_, X3h, N3h⟩ := o_hide X3 N3
 refine o_goto X3h hx 24 (hb hby o_d5_14) ?_
 exact o_retA (z := (.ref ca_3)) (Q := o_Q5n3L Z cs sf GG o1 bb kb c0 c1 c2 h0 n0) X3h hx hrt rfl rfl (hb hby o_d5_24) hlk rfl ⟨ca_3, kc_3, rfl, N3h, KC7, sz_ca_3, G3_1⟩ (by decide) (by decide)
def o_Q13n3L (Z : State) (o1 : Addr) (kb : ClassId) (vs : List Value) (h0 : Heap) (n0 : Nat) (v : Option Value) (h : Heap) (L : List Loc) : Prop := v = some (.int 0) ∧ Fr n0 L ∧ h = h0
set_option maxRecDepth 65536 in
set_option maxHeartbeats 40000000 in
theorem o_rm13n3L (l : Launch) (Z : State) (a0 : Array Value) (hw : o_Hw Z a0) (ws : List Jvm.Cond) (o1 : Addr) (kb : ClassId) (vs : List Value) (h0 : Heap) (n0 : Nat) (Z0 : n0 ≤ h0.size) (pV1 : Arv Z h0 o1 kb .byte 3 vs (.int 0)) :
  o_Met l y22 jdk_52_method_15_code 2 (some .byte) ws r0 #[(.ref o1), (.int 3)] Z h0 (o_Q13n3L Z o1 kb vs h0 n0) := by
 refine MetFree.of_bodySF (plainFor_of_name o_pn4) hisR ?_
 intro p e s m args below meth c s₁ Bd hml0 hP hK
 obtain ⟨rfl, hZ, hh⟩ := hP
 obtain ⟨hx, hby, hlk, hrt⟩ := o_bd Bd
 have X0 : Stand p l e r0 s m #[(.ref o1), (.int 3)] below meth c s₁ [] 0 0 := Stand.of_body Bd
 have e0 := o_e0 Bd hh
 have N0 := Fr.nil n0
 refine o_in (g' := mkF m 0 #[(sR o1), (sI 3)] []) (by simp [entryFrame, mkF, argsToLocals, Value.category]) ?_
 refine o_iloadN X0 hx 1 (hb hby o_d13_0) rfl ?_
 refine o_aloadN X0 hx 2 (hb hby o_d13_1) rfl rfl ?_
 obtain ⟨cl1, Ar1, qv1, S1, M1, H1, G1⟩ := id pV1
 have ln1 := len_of S1 M1
 refine o_st (G' := s₁.setTop (mkF m 3 #[(sR o1), (sI 3)] [(.int 3), (.int 3)])) (fun t k => X0.arraylength hx (by rw [e0]; exact Ar1.1) (State.isArrayOf_alike hZ.alike Ar1.2.1) (g := (mkF m 2 #[(sR o1), (sI 3)] [(.ref o1), (.int 3)])) rfl rfl (hb hby o_d13_2) _ (by rw [ln1]; exact k)) ?_
 refine o_isub X0 hx 4 (hb hby o_d13_3) ?_
 show o_Gs p e below _ (s₁.setTop (mkF m 4 #[(sR o1), (sI 3)] [(.int 0)]))
 refine o_bipush X0 hx 6 31 (hb hby o_d13_4) rfl ?_
 refine o_iushr X0 hx 7 (hb hby o_d13_6) ?_
 rw [show (((0 : Int32).toUInt32 >>> ((31 : Int32) &&& 31).toUInt32).toInt32) = (0 : Int32) from by decide]
 refine o_i2b X0 hx 8 (hb hby o_d13_7) ?_
 rw [show ((0 : Int32).toInt8.toInt32) = (0 : Int32) from by decide]
 exact o_retN (t := .byte) (z := (0 : Int32)) (Q := o_Q13n3L Z o1 kb vs h0 n0) X0 hx hrt (by simp) (hb hby o_d13_8) hlk e0 ⟨rfl, N0, rfl⟩ (by decide) (by decide)
def o_Q9n3L (Z : State) (cs : Int32) (sf : Value) (GG : o_G Z cs sf) (o1 : Addr) (bb : Addr) (kb : ClassId) (c0 : Int32) (c1 : Int32) (c2 : Int32) (h0 : Heap) (n0 : Nat) (v : Option Value) (h : Heap) (L : List Loc) : Prop := v = some (.int 3) ∧ Fr n0 L ∧ h = h0
set_option maxRecDepth 65536 in
set_option maxHeartbeats 40000000 in
theorem o_rm9n3L (l : Launch) (Z : State) (a0 : Array Value) (hw : o_Hw Z a0) (ws : List Jvm.Cond) (cs : Int32) (sf : Value) (GG : o_G Z cs sf) (o1 : Addr) (bb : Addr) (kb : ClassId) (c0 : Int32) (c1 : Int32) (c2 : Int32) (h0 : Heap) (n0 : Nat) (Z0 : n0 ≤ h0.size) (pE1 : Exa Z h0 o1 "java/lang/String") (pF2 : Fld Z h0 o1 "java/lang/String" "value" "[B" (.ref bb)) (pF3 : Fld Z h0 o1 "java/lang/String" "coder" "B" (.int 0)) (pV4 : Arv Z h0 bb kb .byte 3 [(.int (nar .byte c0.toInt8.toInt32)), (.int (nar .byte c1.toInt8.toInt32)), (.int (nar .byte c2.toInt8.toInt32))] (.int 0)) (O0 : Old Z n0 h0) :
  o_Met l y23 jdk_42_method_54_code 1 (some .int) ws r11 #[(.ref o1)] Z h0 (o_Q9n3L Z cs sf GG o1 bb kb c0 c1 c2 h0 n0) := by
 refine MetFree.of_bodySF (plainFor_of_name o_pn3) hisR ?_
 intro p e s m args below meth c s₁ Bd hml0 hP hK
 obtain ⟨rfl, hZ, hh⟩ := hP
 obtain ⟨hx, hby, hlk, hrt⟩ := o_bd Bd
 have hml : c.maxLocals = 1 := hml0
 have hown : s.vm.findClass "java/lang/String" = some m.cls := findClass_of_methodNamed Bd.named
 have X0 : Stand p l e r11 s m #[(.ref o1)] below meth c s₁ [] 0 0 := Stand.of_body Bd
 have e0 := o_e0 Bd hh
 have N0 := Fr.nil n0
 refine o_in (g' := mkF m 0 #[(sR o1)] []) (by simp [entryFrame, mkF, argsToLocals, Value.category]) ?_
 refine o_aloadN X0 hx 1 (hb hby o_d9_0) rfl rfl ?_
 obtain ⟨T1, X1, e1, st1⟩ := getF X0 hx hZ hown (host := "") (Or.inl (W hw 20 rfl)) Via.refl e0 pF2 (g := (mkF m 1 #[(sR o1)] [(.ref o1)])) rfl rfl (hb hby o_d9_1)
 refine o_st (G' := T1.setTop (mkF m 4 #[(sR o1)] [(.ref bb)])) st1 ?_
 obtain ⟨_, X1h, N1h⟩ := o_hide X1 N0
 obtain ⟨cl2, Ar2, qv2, S2, M2, H2, G2⟩ := id pV4
 have ln2 := len_of S2 M2
 refine o_st (G' := T1.setTop (mkF m 5 #[(sR o1)] [(.int 3)])) (fun t k => X1h.arraylength hx (by rw [e1]; exact Ar2.1) (State.isArrayOf_alike hZ.alike Ar2.2.1) (g := (mkF m 4 #[(sR o1)] [(.ref bb)])) rfl rfl (hb hby o_d9_4) _ (by rw [ln2]; exact k)) ?_
 refine o_aloadN X1h hx 6 (hb hby o_d9_5) rfl rfl ?_
 obtain ⟨cq3, kq3, q3a, q3b, q3c⟩ := isOf hZ e1 pE1
 obtain ⟨_, _, ⟨T3, Lx3, kc3, nc3⟩, -, X3, ⟨Lc3, hQ3, lq3, yq3, zq3⟩, st3⟩ := X1h.virtualBack hx (y := y4) (z := y4) hown (mvT hZ (W hw 51 rfl)) (mvT hZ (W hw 52 rfl)) (notFace_of_selects (args := #[]) (mvT hZ (W hw 54 rfl))) (mvT hZ (W hw 54 rfl)) (mvT hZ (W hw 53 rfl)) (by decide) (backOf (W := 1) (o_rm10L l Z a0 hw [] cs sf GG o1 h0 n0 Z0 pF3 O0) hZ (W hw 55 rfl) (W hw 3 rfl) (by decide) (by decide)) q3a q3c (g := (mkF m 6 #[(sR o1)] [(.ref o1), (.int 3)])) rfl (by rw [hml]; rfl) (Steps.refl _) (argsL := []) (rest := [(.int 3)]) (lenOf o_pd14 rfl) rfl (o_wl rfl) (hb hby o_d9_6) (fun _ _ => ⟨rfl, e1, (by decide : 0 + 0 ≤ _), (by decide : 0 + 0 ≤ _)⟩)
 dsimp only [Pt.U, Pt.locs, Pt.cells, Pt.slots] at X3 lq3 yq3 zq3 st3 hQ3
 subst lq3 yq3 zq3
 obtain ⟨rfl, Nq3, eh3⟩ := hQ3
 have N3 := Fr.app N1h Nq3
 refine o_st (G' := T3.setTop (mkF m 9 #[(sR o1)] [(.int 0), (.int 3)])) (fun t k => st3.trans k) ?_
 obtain ⟨_, X3h, N3h⟩ := o_hide X3 N3
 refine o_ishr X3h hx 10 (hb hby o_d9_9) ?_
 rw [show ((3 : Int32) >>> ((0 : Int32) &&& 31)) = (3 : Int32) from by decide]
 exact o_retI (z := (3 : Int32)) (Q := o_Q9n3L Z cs sf GG o1 bb kb c0 c1 c2 h0 n0) X3h hx hrt (hb hby o_d9_10) hlk eh3 ⟨rfl, N3h, rfl⟩ (by decide) (by decide)
def o_Q15n3i0L (Z : State) (cs : Int32) (sf : Value) (GG : o_G Z cs sf) (o1 : Addr) (bb : Addr) (kb : ClassId) (c0 : Int32) (c1 : Int32) (c2 : Int32) (h0 : Heap) (n0 : Nat) (v : Option Value) (h : Heap) (L : List Loc) : Prop := v = some (.int c0) ∧ Fr n0 L ∧ h = h0
set_option maxRecDepth 65536 in
set_option maxHeartbeats 40000000 in
theorem o_rm15n3i0L (l : Launch) (Z : State) (a0 : Array Value) (hw : o_Hw Z a0) (ws : List Jvm.Cond) (cs : Int32) (sf : Value) (GG : o_G Z cs sf) (o1 : Addr) (bb : Addr) (kb : ClassId) (c0 : Int32) (c1 : Int32) (c2 : Int32) (h0 : Heap) (n0 : Nat) (Z0 : n0 ≤ h0.size) (pE1 : Exa Z h0 o1 "java/lang/String") (pF2 : Fld Z h0 o1 "java/lang/String" "value" "[B" (.ref bb)) (pF3 : Fld Z h0 o1 "java/lang/String" "coder" "B" (.int 0)) (pV4 : Arv Z h0 bb kb .byte 3 [(.int (nar .byte c0.toInt8.toInt32)), (.int (nar .byte c1.toInt8.toInt32)), (.int (nar .byte c2.toInt8.toInt32))] (.int 0)) (O0 : Old Z n0 h0) (hC : o_C c0) (hL : ¬ (255 : Int32) < c0) :
  o_Met l y24 jdk_42_method_56_code 2 (some .char) ws r6 #[(.ref o1), (.int 0)] Z h0 (o_Q15n3i0L Z cs sf GG o1 bb kb c0 c1 c2 h0 n0) := by
 refine MetFree.of_bodySF (plainFor_of_name o_pn3) hisR ?_
 intro p e s m args below meth c s₁ Bd hml0 hP hK
 obtain ⟨rfl, hZ, hh⟩ := hP
 obtain ⟨hx, hby, hlk, hrt⟩ := o_bd Bd
 have hml : c.maxLocals = 2 := hml0
 have hown : s.vm.findClass "java/lang/String" = some m.cls := findClass_of_methodNamed Bd.named
 have X0 : Stand p l e r6 s m #[(.ref o1), (.int 0)] below meth c s₁ [] 0 0 := Stand.of_body Bd
 have e0 := o_e0 Bd hh
 have N0 := Fr.nil n0
 refine o_in (g' := mkF m 0 #[(sR o1), (sI 0)] []) (by simp [entryFrame, mkF, argsToLocals, Value.category]) ?_
 refine o_aloadN X0 hx 1 (hb hby o_d15_0) rfl rfl ?_
 obtain ⟨cq1, kq1, q1a, q1b, q1c⟩ := isOf hZ e0 pE1
 obtain ⟨_, _, ⟨T1, Lx1, kc1, nc1⟩, -, X1, ⟨Lc1, hQ1, lq1, yq1, zq1⟩, st1⟩ := X0.virtualBack hx (y := y5) (z := y5) hown (mvT hZ (W hw 31 rfl)) (mvT hZ (W hw 32 rfl)) (notFace_of_selects (args := #[]) (mvT hZ (W hw 34 rfl))) (mvT hZ (W hw 34 rfl)) (mvT hZ (W hw 33 rfl)) (by decide) (backOf (W := 0) (o_rm6L l Z a0 hw [] cs sf GG o1 h0 n0 Z0 pF3 O0) hZ (W hw 35 rfl) (W hw 3 rfl) (by decide) (by decide)) q1a q1c (g := (mkF m 1 #[(sR o1), (sI 0)] [(.ref o1)])) rfl (by rw [hml]; rfl) (Steps.refl _) (argsL := []) (rest := []) (lenOf o_pd12 rfl) rfl (o_wl rfl) (hb hby o_d15_1) (fun _ _ => ⟨rfl, e0, (by decide : 0 + 0 ≤ _), (by decide : 0 + 0 ≤ _)⟩)
 dsimp only [Pt.U, Pt.locs, Pt.cells, Pt.slots] at X1 lq1 yq1 zq1 st1 hQ1
 subst lq1 yq1 zq1
 obtain ⟨rfl, Nq1, eh1⟩ := hQ1
 have N1 := Fr.app N0 Nq1
 refine o_st (G' := T1.setTop (mkF m 4 #[(sR o1), (sI 0)] [(.int 1)])) (fun t k => st1.trans k) ?_
 obtain ⟨_, X1h, N1h⟩ := o_hide X1 N1
 refine o_ifNo X1h hx 7 (hb hby o_d15_4) (feq (by decide : ¬ ((1 : Int32) = (0 : Int32)))).1 ?_
 refine o_aloadN X1h hx 8 (hb hby o_d15_7) rfl rfl ?_
 obtain ⟨T2, X2, e2, st2⟩ := getF X1h hx hZ hown (host := "") (Or.inl (W hw 20 rfl)) Via.refl eh1 pF2 (g := (mkF m 8 #[(sR o1), (sI 0)] [(.ref o1)])) rfl rfl (hb hby o_d15_8)
 refine o_st (G' := T2.setTop (mkF m 11 #[(sR o1), (sI 0)] [(.ref bb)])) st2 ?_
 obtain ⟨_, X2h, N2h⟩ := o_hide X2 N1h
 refine o_iloadN X2h hx 12 (hb hby o_d15_11) rfl ?_
 obtain ⟨_, _, ⟨T3, Lx3, kc3, nc3⟩, -, X3, ⟨Lc3, hQ3, lq3, yq3, zq3⟩, st3⟩ := Jvm.LawKit.callS X2h hx (y := y16) hown (mvT hZ (W hw 74 rfl)) (mvT hZ (W hw 75 rfl)) (mvT hZ (W hw 39 rfl)) (mvT hZ (W hw 76 rfl)) (by decide) (backOf (W := 0) (o_rm16n3i0 l Z a0 hw [] cs sf GG bb kb c0 c1 c2 h0 n0 Z0 pV4 O0 (hC : o_C c0) (hL : ¬ (255 : Int32) < c0)) hZ (W hw 76 rfl) (W hw 39 rfl) (by decide) (by decide)) (g := (mkF m 12 #[(sR o1), (sI 0)] [(.int 0), (.ref bb)])) rfl (by rw [hml]; rfl) (argsL := [(.ref bb), (.int 0)]) (rest := []) (lenOf o_pd7 rfl) rfl (o_wl rfl) (hb hby o_d15_12) (fun _ _ => ⟨rfl, e2, (by decide : 0 + 0 ≤ _), (by decide : 0 + 0 ≤ _)⟩)
 dsimp only [Pt.U, Pt.locs, Pt.cells, Pt.slots] at X3 lq3 yq3 zq3 st3 hQ3
 subst lq3 yq3 zq3
 obtain ⟨rfl, Nq3, eh3⟩ := hQ3
 have N3 := Fr.app N2h Nq3
 refine o_st (G' := T3.setTop (mkF m 15 #[(sR o1), (sI 0)] [(.int c0)])) st3 ?_
 obtain ⟨_, X3h, N3h⟩ := o_hide X3 N3
 exact o_retN (t := .char) (z := c0) (Q := o_Q15n3i0L Z cs sf GG o1 bb kb c0 c1 c2 h0 n0) X3h hx hrt (by simp) (hb hby o_d15_15) hlk eh3 ⟨(o_leafI (o_narC hC)), N3h, rfl⟩ (by decide) (by decide)
def o_Q15n3i1L (Z : State) (cs : Int32) (sf : Value) (GG : o_G Z cs sf) (o1 : Addr) (bb : Addr) (kb : ClassId) (c0 : Int32) (c1 : Int32) (c2 : Int32) (h0 : Heap) (n0 : Nat) (v : Option Value) (h : Heap) (L : List Loc) : Prop := v = some (.int c1) ∧ Fr n0 L ∧ h = h0
set_option maxRecDepth 65536 in
set_option maxHeartbeats 40000000 in
theorem o_rm15n3i1L (l : Launch) (Z : State) (a0 : Array Value) (hw : o_Hw Z a0) (ws : List Jvm.Cond) (cs : Int32) (sf : Value) (GG : o_G Z cs sf) (o1 : Addr) (bb : Addr) (kb : ClassId) (c0 : Int32) (c1 : Int32) (c2 : Int32) (h0 : Heap) (n0 : Nat) (Z0 : n0 ≤ h0.size) (pE1 : Exa Z h0 o1 "java/lang/String") (pF2 : Fld Z h0 o1 "java/lang/String" "value" "[B" (.ref bb)) (pF3 : Fld Z h0 o1 "java/lang/String" "coder" "B" (.int 0)) (pV4 : Arv Z h0 bb kb .byte 3 [(.int (nar .byte c0.toInt8.toInt32)), (.int (nar .byte c1.toInt8.toInt32)), (.int (nar .byte c2.toInt8.toInt32))] (.int 0)) (O0 : Old Z n0 h0) (hC : o_C c1) (hL : ¬ (255 : Int32) < c1) :
  o_Met l y24 jdk_42_method_56_code 2 (some .char) ws r6 #[(.ref o1), (.int 1)] Z h0 (o_Q15n3i1L Z cs sf GG o1 bb kb c0 c1 c2 h0 n0) := by
 refine MetFree.of_bodySF (plainFor_of_name o_pn3) hisR ?_
 intro p e s m args below meth c s₁ Bd hml0 hP hK
 obtain ⟨rfl, hZ, hh⟩ := hP
 obtain ⟨hx, hby, hlk, hrt⟩ := o_bd Bd
 have hml : c.maxLocals = 2 := hml0
 have hown : s.vm.findClass "java/lang/String" = some m.cls := findClass_of_methodNamed Bd.named
 have X0 : Stand p l e r6 s m #[(.ref o1), (.int 1)] below meth c s₁ [] 0 0 := Stand.of_body Bd
 have e0 := o_e0 Bd hh
 have N0 := Fr.nil n0
 refine o_in (g' := mkF m 0 #[(sR o1), (sI 1)] []) (by simp [entryFrame, mkF, argsToLocals, Value.category]) ?_
 refine o_aloadN X0 hx 1 (hb hby o_d15_0) rfl rfl ?_
 obtain ⟨cq1, kq1, q1a, q1b, q1c⟩ := isOf hZ e0 pE1
 obtain ⟨_, _, ⟨T1, Lx1, kc1, nc1⟩, -, X1, ⟨Lc1, hQ1, lq1, yq1, zq1⟩, st1⟩ := X0.virtualBack hx (y := y5) (z := y5) hown (mvT hZ (W hw 31 rfl)) (mvT hZ (W hw 32 rfl)) (notFace_of_selects (args := #[]) (mvT hZ (W hw 34 rfl))) (mvT hZ (W hw 34 rfl)) (mvT hZ (W hw 33 rfl)) (by decide) (backOf (W := 0) (o_rm6L l Z a0 hw [] cs sf GG o1 h0 n0 Z0 pF3 O0) hZ (W hw 35 rfl) (W hw 3 rfl) (by decide) (by decide)) q1a q1c (g := (mkF m 1 #[(sR o1), (sI 1)] [(.ref o1)])) rfl (by rw [hml]; rfl) (Steps.refl _) (argsL := []) (rest := []) (lenOf o_pd12 rfl) rfl (o_wl rfl) (hb hby o_d15_1) (fun _ _ => ⟨rfl, e0, (by decide : 0 + 0 ≤ _), (by decide : 0 + 0 ≤ _)⟩)
 dsimp only [Pt.U, Pt.locs, Pt.cells, Pt.slots] at X1 lq1 yq1 zq1 st1 hQ1
 subst lq1 yq1 zq1
 obtain ⟨rfl, Nq1, eh1⟩ := hQ1
 have N1 := Fr.app N0 Nq1
 refine o_st (G' := T1.setTop (mkF m 4 #[(sR o1), (sI 1)] [(.int 1)])) (fun t k => st1.trans k) ?_
 obtain ⟨_, X1h, N1h⟩ := o_hide X1 N1
 refine o_ifNo X1h hx 7 (hb hby o_d15_4) (feq (by decide : ¬ ((1 : Int32) = (0 : Int32)))).1 ?_
 refine o_aloadN X1h hx 8 (hb hby o_d15_7) rfl rfl ?_
 obtain ⟨T2, X2, e2, st2⟩ := getF X1h hx hZ hown (host := "") (Or.inl (W hw 20 rfl)) Via.refl eh1 pF2 (g := (mkF m 8 #[(sR o1), (sI 1)] [(.ref o1)])) rfl rfl (hb hby o_d15_8)
 refine o_st (G' := T2.setTop (mkF m 11 #[(sR o1), (sI 1)] [(.ref bb)])) st2 ?_
 obtain ⟨_, X2h, N2h⟩ := o_hide X2 N1h
 refine o_iloadN X2h hx 12 (hb hby o_d15_11) rfl ?_
 obtain ⟨_, _, ⟨T3, Lx3, kc3, nc3⟩, -, X3, ⟨Lc3, hQ3, lq3, yq3, zq3⟩, st3⟩ := Jvm.LawKit.callS X2h hx (y := y16) hown (mvT hZ (W hw 74 rfl)) (mvT hZ (W hw 75 rfl)) (mvT hZ (W hw 39 rfl)) (mvT hZ (W hw 76 rfl)) (by decide) (backOf (W := 0) (o_rm16n3i1 l Z a0 hw [] cs sf GG bb kb c0 c1 c2 h0 n0 Z0 pV4 O0 (hC : o_C c1) (hL : ¬ (255 : Int32) < c1)) hZ (W hw 76 rfl) (W hw 39 rfl) (by decide) (by decide)) (g := (mkF m 12 #[(sR o1), (sI 1)] [(.int 1), (.ref bb)])) rfl (by rw [hml]; rfl) (argsL := [(.ref bb), (.int 1)]) (rest := []) (lenOf o_pd7 rfl) rfl (o_wl rfl) (hb hby o_d15_12) (fun _ _ => ⟨rfl, e2, (by decide : 0 + 0 ≤ _), (by decide : 0 + 0 ≤ _)⟩)
 dsimp only [Pt.U, Pt.locs, Pt.cells, Pt.slots] at X3 lq3 yq3 zq3 st3 hQ3
 subst lq3 yq3 zq3
 obtain ⟨rfl, Nq3, eh3⟩ := hQ3
 have N3 := Fr.app N2h Nq3
 refine o_st (G' := T3.setTop (mkF m 15 #[(sR o1), (sI 1)] [(.int c1)])) st3 ?_
 obtain ⟨_, X3h, N3h⟩ := o_hide X3 N3
 exact o_retN (t := .char) (z := c1) (Q := o_Q15n3i1L Z cs sf GG o1 bb kb c0 c1 c2 h0 n0) X3h hx hrt (by simp) (hb hby o_d15_15) hlk eh3 ⟨(o_leafI (o_narC hC)), N3h, rfl⟩ (by decide) (by decide)
def o_Q15n3i2L (Z : State) (cs : Int32) (sf : Value) (GG : o_G Z cs sf) (o1 : Addr) (bb : Addr) (kb : ClassId) (c0 : Int32) (c1 : Int32) (c2 : Int32) (h0 : Heap) (n0 : Nat) (v : Option Value) (h : Heap) (L : List Loc) : Prop := v = some (.int c2) ∧ Fr n0 L ∧ h = h0
set_option maxRecDepth 65536 in
set_option maxHeartbeats 40000000 in
theorem o_rm15n3i2L (l : Launch) (Z : State) (a0 : Array Value) (hw : o_Hw Z a0) (ws : List Jvm.Cond) (cs : Int32) (sf : Value) (GG : o_G Z cs sf) (o1 : Addr) (bb : Addr) (kb : ClassId) (c0 : Int32) (c1 : Int32) (c2 : Int32) (h0 : Heap) (n0 : Nat) (Z0 : n0 ≤ h0.size) (pE1 : Exa Z h0 o1 "java/lang/String") (pF2 : Fld Z h0 o1 "java/lang/String" "value" "[B" (.ref bb)) (pF3 : Fld Z h0 o1 "java/lang/String" "coder" "B" (.int 0)) (pV4 : Arv Z h0 bb kb .byte 3 [(.int (nar .byte c0.toInt8.toInt32)), (.int (nar .byte c1.toInt8.toInt32)), (.int (nar .byte c2.toInt8.toInt32))] (.int 0)) (O0 : Old Z n0 h0) (hC : o_C c2) (hL : ¬ (255 : Int32) < c2) :
  o_Met l y24 jdk_42_method_56_code 2 (some .char) ws r6 #[(.ref o1), (.int 2)] Z h0 (o_Q15n3i2L Z cs sf GG o1 bb kb c0 c1 c2 h0 n0) := by
 refine MetFree.of_bodySF (plainFor_of_name o_pn3) hisR ?_
 intro p e s m args below meth c s₁ Bd hml0 hP hK
 obtain ⟨rfl, hZ, hh⟩ := hP
 obtain ⟨hx, hby, hlk, hrt⟩ := o_bd Bd
 have hml : c.maxLocals = 2 := hml0
 have hown : s.vm.findClass "java/lang/String" = some m.cls := findClass_of_methodNamed Bd.named
 have X0 : Stand p l e r6 s m #[(.ref o1), (.int 2)] below meth c s₁ [] 0 0 := Stand.of_body Bd
 have e0 := o_e0 Bd hh
 have N0 := Fr.nil n0
 refine o_in (g' := mkF m 0 #[(sR o1), (sI 2)] []) (by simp [entryFrame, mkF, argsToLocals, Value.category]) ?_
 refine o_aloadN X0 hx 1 (hb hby o_d15_0) rfl rfl ?_
 obtain ⟨cq1, kq1, q1a, q1b, q1c⟩ := isOf hZ e0 pE1
 obtain ⟨_, _, ⟨T1, Lx1, kc1, nc1⟩, -, X1, ⟨Lc1, hQ1, lq1, yq1, zq1⟩, st1⟩ := X0.virtualBack hx (y := y5) (z := y5) hown (mvT hZ (W hw 31 rfl)) (mvT hZ (W hw 32 rfl)) (notFace_of_selects (args := #[]) (mvT hZ (W hw 34 rfl))) (mvT hZ (W hw 34 rfl)) (mvT hZ (W hw 33 rfl)) (by decide) (backOf (W := 0) (o_rm6L l Z a0 hw [] cs sf GG o1 h0 n0 Z0 pF3 O0) hZ (W hw 35 rfl) (W hw 3 rfl) (by decide) (by decide)) q1a q1c (g := (mkF m 1 #[(sR o1), (sI 2)] [(.ref o1)])) rfl (by rw [hml]; rfl) (Steps.refl _) (argsL := []) (rest := []) (lenOf o_pd12 rfl) rfl (o_wl rfl) (hb hby o_d15_1) (fun _ _ => ⟨rfl, e0, (by decide : 0 + 0 ≤ _), (by decide : 0 + 0 ≤ _)⟩)
 dsimp only [Pt.U, Pt.locs, Pt.cells, Pt.slots] at X1 lq1 yq1 zq1 st1 hQ1
 subst lq1 yq1 zq1
 obtain ⟨rfl, Nq1, eh1⟩ := hQ1
 have N1 := Fr.app N0 Nq1
 refine o_st (G' := T1.setTop (mkF m 4 #[(sR o1), (sI 2)] [(.int 1)])) (fun t k => st1.trans k) ?_
 obtain ⟨_, X1h, N1h⟩ := o_hide X1 N1
 refine o_ifNo X1h hx 7 (hb hby o_d15_4) (feq (by decide : ¬ ((1 : Int32) = (0 : Int32)))).1 ?_
 refine o_aloadN X1h hx 8 (hb hby o_d15_7) rfl rfl ?_
 obtain ⟨T2, X2, e2, st2⟩ := getF X1h hx hZ hown (host := "") (Or.inl (W hw 20 rfl)) Via.refl eh1 pF2 (g := (mkF m 8 #[(sR o1), (sI 2)] [(.ref o1)])) rfl rfl (hb hby o_d15_8)
 refine o_st (G' := T2.setTop (mkF m 11 #[(sR o1), (sI 2)] [(.ref bb)])) st2 ?_
 obtain ⟨_, X2h, N2h⟩ := o_hide X2 N1h
 refine o_iloadN X2h hx 12 (hb hby o_d15_11) rfl ?_
 obtain ⟨_, _, ⟨T3, Lx3, kc3, nc3⟩, -, X3, ⟨Lc3, hQ3, lq3, yq3, zq3⟩, st3⟩ := Jvm.LawKit.callS X2h hx (y := y16) hown (mvT hZ (W hw 74 rfl)) (mvT hZ (W hw 75 rfl)) (mvT hZ (W hw 39 rfl)) (mvT hZ (W hw 76 rfl)) (by decide) (backOf (W := 0) (o_rm16n3i2 l Z a0 hw [] cs sf GG bb kb c0 c1 c2 h0 n0 Z0 pV4 O0 (hC : o_C c2) (hL : ¬ (255 : Int32) < c2)) hZ (W hw 76 rfl) (W hw 39 rfl) (by decide) (by decide)) (g := (mkF m 12 #[(sR o1), (sI 2)] [(.int 2), (.ref bb)])) rfl (by rw [hml]; rfl) (argsL := [(.ref bb), (.int 2)]) (rest := []) (lenOf o_pd7 rfl) rfl (o_wl rfl) (hb hby o_d15_12) (fun _ _ => ⟨rfl, e2, (by decide : 0 + 0 ≤ _), (by decide : 0 + 0 ≤ _)⟩)
 dsimp only [Pt.U, Pt.locs, Pt.cells, Pt.slots] at X3 lq3 yq3 zq3 st3 hQ3
 subst lq3 yq3 zq3
 obtain ⟨rfl, Nq3, eh3⟩ := hQ3
 have N3 := Fr.app N2h Nq3
 refine o_st (G' := T3.setTop (mkF m 15 #[(sR o1), (sI 2)] [(.int c2)])) st3 ?_
 obtain ⟨_, X3h, N3h⟩ := o_hide X3 N3
 exact o_retN (t := .char) (z := c2) (Q := o_Q15n3i2L Z cs sf GG o1 bb kb c0 c1 c2 h0 n0) X3h hx hrt (by simp) (hb hby o_d15_15) hlk eh3 ⟨(o_leafI (o_narC hC)), N3h, rfl⟩ (by decide) (by decide)
def o_Q25n3 (Z : State) (cs : Int32) (sf : Value) (GG : o_G Z cs sf) (o1 : Addr) (kb : ClassId) (c0 : Int32) (c1 : Int32) (c2 : Int32) (h0 : Heap) (n0 : Nat) (v : Option Value) (h : Heap) (L : List Loc) : Prop := ∃ ca : Addr, ∃ kc : ClassId, v = some (.ref ca) ∧ Fr n0 L ∧ Keep h0 h [] ∧ h0.size ≤ ca ∧ Arv Z h ca kc .char 3 [(.int c0), (.int c1), (.int c2)] (.int 0)
set_option maxRecDepth 65536 in
set_option maxHeartbeats 40000000 in
theorem o_rm25n3 (l : Launch) (Z : State) (a0 : Array Value) (hw : o_Hw Z a0) (ws : List Jvm.Cond) (cs : Int32) (sf : Value) (GG : o_G Z cs sf) (o1 : Addr) (kb : ClassId) (c0 : Int32) (c1 : Int32) (c2 : Int32) (h0 : Heap) (n0 : Nat) (Z0 : n0 ≤ h0.size) (pV1 : Arv Z h0 o1 kb .byte 6 [(.int (o_lo c0)), (.int (o_hi c0)), (.int (o_lo c1)), (.int (o_hi c1)), (.int (o_lo c2)), (.int (o_hi c2))] (.int 0)) (O0 : Old Z n0 h0) (hC0 : o_C c0) (hC1 : o_C c1) (hC2 : o_C c2) :
  o_Met l y25 jdk_52_method_13_code 2 (some (.array .char)) ws r41 #[(.ref o1)] Z h0 (o_Q25n3 Z cs sf GG o1 kb c0 c1 c2 h0 n0) := by
 refine MetFree.of_bodySF (plainFor_of_name o_pn4) hisR ?_
 intro p e s m args below meth c s₁ Bd hml0 hP hK
 obtain ⟨rfl, hZ, hh⟩ := hP
 obtain ⟨hx, hby, hlk, hrt⟩ := o_bd Bd
 have hml : c.maxLocals = 2 := hml0
 have hown : s.vm.findClass "java/lang/StringUTF16" = some m.cls := findClass_of_methodNamed Bd.named
 have X0 : Stand p l e r41 s m #[(.ref o1)] below meth c s₁ [] 0 0 := Stand.of_body Bd
 have e0 := o_e0 Bd hh
 have N0 := Fr.nil n0
 have KC0 := Keep.refl h0 []
 refine o_in (g' := mkF m 0 #[(sR o1), .unset] []) (by simp [entryFrame, mkF, argsToLocals, Value.category]) ?_
 refine o_aloadN X0 hx 1 (hb hby o_d25_0) rfl rfl ?_
 obtain ⟨cl1, Ar1, qv1, S1, M1, H1, G1⟩ := id pV1
 have ln1 := len_of S1 M1
 refine o_st (G' := s₁.setTop (mkF m 2 #[(sR o1), .unset] [(.int 6)])) (fun t k => X0.arraylength hx (by rw [e0]; exact Ar1.1) (State.isArrayOf_alike hZ.alike Ar1.2.1) (g := (mkF m 1 #[(sR o1), .unset] [(.ref o1)])) rfl rfl (hb hby o_d25_1) _ (by rw [ln1]; exact k)) ?_
 refine o_iconst X0 hx 3 1 (hb hby o_d25_2) rfl ?_
 refine o_ishr X0 hx 4 (hb hby o_d25_3) ?_
 rw [show ((6 : Int32) >>> ((1 : Int32) &&& 31)) = (3 : Int32) from by decide]
 obtain ⟨T2, h2, k2, X2, e2, E2, A2, st2⟩ := newP X0 hx hZ (W hw 0 rfl) e0 (g := (mkF m 4 #[(sR o1), .unset] [(.int 3)])) rfl (hb hby o_d25_4) rfl (by decide) (cap := 3) (by decide) (by decide) (by decide) (by decide)
 obtain ⟨b2, g2⟩ : ∃ z, z = h0.size := ⟨_, rfl⟩
 rw [← g2] at A2 st2
 have ne3 : o1 ≠ b2 := Nat.ne_of_lt (Nat.lt_of_lt_of_le pV1.lt (Nat.le_of_eq g2.symm))
 have gt_b2 : n0 ≤ b2 := Nat.le_trans Z0 (Nat.le_of_eq g2.symm)
 have sz_b2 : h0.size ≤ b2 := Nat.le_trans KC0.1 (Nat.le_of_eq g2.symm)
 have V2 : Arv Z h2 b2 k2 .char 3 [(.int 0), (.int 0), (.int 0)] (.int 0) := (Arv.new A2 (by decide)).pad (pad_rep [] (.int 0) 3)
 have O4 := O0.ext E2
 have KC5 := KC0.ext E2
 have Z6 := Nat.le_trans Z0 E2.1
 refine o_st (G' := T2.setTop (mkF m 6 #[(sR o1), .unset] [(.ref b2)])) st2 ?_
 obtain ⟨_, X2h, N2h⟩ := o_hide X2 N0
 refine o_astoreN X2h hx 7 #[(sR o1), (sR b2)] (hb hby o_d25_6) rfl rfl ?_
 refine o_aloadN X2h hx 8 (hb hby o_d25_7) rfl rfl ?_
 refine o_iconst X2h hx 9 0 (hb hby o_d25_8) rfl ?_
 refine o_aloadN X2h hx 10 (hb hby o_d25_9) rfl rfl ?_
 obtain ⟨cl7, Ar7, qv7, S7, M7, H7, G7⟩ := id V2
 have ln7 := len_of S7 M7
 refine o_st (G' := T2.setTop (mkF m 11 #[(sR o1), (sR b2)] [(.int 3), (.int 0), (.ref o1)])) (fun t k => X2h.arraylength hx (by rw [e2]; exact Ar7.1) (State.isArrayOf_alike hZ.alike Ar7.2.1) (g := (mkF m 10 #[(sR o1), (sR b2)] [(.ref b2), (.int 0), (.ref o1)])) rfl rfl (hb hby o_d25_10) _ (by rw [ln7]; exact k)) ?_
 refine o_aloadN X2h hx 12 (hb hby o_d25_11) rfl rfl ?_
 refine o_iconst X2h hx 13 0 (hb hby o_d25_12) rfl ?_
 have f8 := (pV1.ext E2)
 obtain ⟨_, _, ⟨T9, Lx9, kc9, nc9⟩, -, X9, ⟨Lc9, hQ9, lq9, yq9, zq9⟩, st9⟩ := Jvm.LawKit.callS X2h hx (y := y18) hown (mvT hZ (W hw 111 rfl)) (mvT hZ (W hw 112 rfl)) (mvT hZ (W hw 58 rfl)) (mvT hZ (W hw 113 rfl)) (by decide) (backOf (W := 0) (o_rm26n3 l Z a0 hw [] cs sf GG o1 b2 kb k2 c0 c1 c2 h2 n0 Z6 f8 V2 gt_b2 O4 ne3 (hC0 : o_C c0) (hC1 : o_C c1) (hC2 : o_C c2)) hZ (W hw 113 rfl) (W hw 58 rfl) (by decide) (by decide)) (g := (mkF m 13 #[(sR o1), (sR b2)] [(.int 0), (.ref b2), (.int 3), (.int 0), (.ref o1)])) rfl (by rw [hml]; rfl) (argsL := [(.ref o1), (.int 0), (.int 3), (.ref b2), (.int 0)]) (rest := []) (lenOf o_pd15 rfl) rfl (o_wl rfl) (hb hby o_d25_13) (fun _ _ => ⟨rfl, e2, (by decide : 1 + 0 ≤ _), (by decide : 3 + 0 ≤ _)⟩)
 dsimp only [Pt.U, Pt.locs, Pt.cells, Pt.slots] at X9 lq9 yq9 zq9 st9 hQ9
 subst lq9 yq9 zq9
 obtain ⟨rfl, Nq9, Kp9, G9_0⟩ := hQ9
 have N9 := Fr.app N2h Nq9
 have KC11 := KC5.trans Kp9 (allS (Or.inr sz_b2) all0)
 refine o_st (G' := T9.setTop (mkF m 16 #[(sR o1), (sR b2)] [])) st9 ?_
 obtain ⟨_, X9h, N9h⟩ := o_hide X9 N9
 refine o_aloadN X9h hx 17 (hb hby o_d25_16) rfl rfl ?_
 exact o_retA (z := (.ref b2)) (Q := o_Q25n3 Z cs sf GG o1 kb c0 c1 c2 h0 n0) X9h hx hrt rfl rfl (hb hby o_d25_17) hlk rfl ⟨b2, k2, rfl, N9h, KC11, sz_b2, G9_0⟩ (by decide) (by decide)
def o_Q5n3U (Z : State) (cs : Int32) (sf : Value) (GG : o_G Z cs sf) (o1 : Addr) (bb : Addr) (kb : ClassId) (c0 : Int32) (c1 : Int32) (c2 : Int32) (h0 : Heap) (n0 : Nat) (v : Option Value) (h : Heap) (L : List Loc) : Prop := ∃ ca : Addr, ∃ kc : ClassId, v = some (.ref ca) ∧ Fr n0 L ∧ Keep h0 h [] ∧ h0.size ≤ ca ∧ Arv Z h ca kc .char 3 [(.int c0), (.int c1), (.int c2)] (.int 0)
set_option maxRecDepth 65536 in
set_option maxHeartbeats 40000000 in
theorem o_rm5n3U (l : Launch) (Z : State) (a0 : Array Value) (hw : o_Hw Z a0) (ws : List Jvm.Cond) (cs : Int32) (sf : Value) (GG : o_G Z cs sf) (o1 : Addr) (bb : Addr) (kb : ClassId) (c0 : Int32) (c1 : Int32) (c2 : Int32) (h0 : Heap) (n0 : Nat) (Z0 : n0 ≤ h0.size) (pE1 : Exa Z h0 o1 "java/lang/String") (pF2 : Fld Z h0 o1 "java/lang/String" "value" "[B" (.ref bb)) (pF3 : Fld Z h0 o1 "java/lang/String" "coder" "B" (.int 1)) (pV4 : Arv Z h0 bb kb .byte 6 [(.int (o_lo c0)), (.int (o_hi c0)), (.int (o_lo c1)), (.int (o_hi c1)), (.int (o_lo c2)), (.int (o_hi c2))] (.int 0)) (O0 : Old Z n0 h0) (hC0 : o_C c0) (hC1 : o_C c1) (hC2 : o_C c2) :
  o_Met l y21 jdk_42_method_129_code 1 (some (.array .char)) ws r42 #[(.ref o1)] Z h0 (o_Q5n3U Z cs sf GG o1 bb kb c0 c1 c2 h0 n0) := by
 refine MetFree.of_bodySF (plainFor_of_name o_pn3) hisR ?_
 intro p e s m args below meth c s₁ Bd hml0 hP hK
 obtain ⟨rfl, hZ, hh⟩ := hP
 obtain ⟨hx, hby, hlk, hrt⟩ := o_bd Bd
 have hml : c.maxLocals = 1 := hml0
 have hown : s.vm.findClass "java/lang/String" = some m.cls := findClass_of_methodNamed Bd.named
 have X0 : Stand p l e r42 s m #[(.ref o1)] below meth c s₁ [] 0 0 := Stand.of_body Bd
 have e0 := o_e0 Bd hh
 have N0 := Fr.nil n0
 have KC0 := Keep.refl h0 []
 refine o_in (g' := mkF m 0 #[(sR o1)] []) (by simp [entryFrame, mkF, argsToLocals, Value.category]) ?_
 refine o_aloadN X0 hx 1 (hb hby o_d5_0) rfl rfl ?_
 obtain ⟨cq1, kq1, q1a, q1b, q1c⟩ := isOf hZ e0 pE1
 obtain ⟨_, _, ⟨T1, Lx1, kc1, nc1⟩, -, X1, ⟨Lc1, hQ1, lq1, yq1, zq1⟩, st1⟩ := X0.virtualBack hx (y := y5) (z := y5) hown (mvT hZ (W hw 31 rfl)) (mvT hZ (W hw 32 rfl)) (notFace_of_selects (args := #[]) (mvT hZ (W hw 34 rfl))) (mvT hZ (W hw 34 rfl)) (mvT hZ (W hw 33 rfl)) (by decide) (backOf (W := 0) (o_rm6U l Z a0 hw [] cs sf GG o1 h0 n0 Z0 pF3 O0) hZ (W hw 35 rfl) (W hw 3 rfl) (by decide) (by decide)) q1a q1c (g := (mkF m 1 #[(sR o1)] [(.ref o1)])) rfl (by rw [hml]; rfl) (Steps.refl _) (argsL := []) (rest := []) (lenOf o_pd12 rfl) rfl (o_wl rfl) (hb hby o_d5_1) (fun _ _ => ⟨rfl, e0, (by decide : 0 + 0 ≤ _), (by decide : 0 + 0 ≤ _)⟩)
 dsimp only [Pt.U, Pt.locs, Pt.cells, Pt.slots] at X1 lq1 yq1 zq1 st1 hQ1
 subst lq1 yq1 zq1
 obtain ⟨rfl, Nq1, eh1⟩ := hQ1
 have N1 := Fr.app N0 Nq1
 refine o_st (G' := T1.setTop (mkF m 4 #[(sR o1)] [(.int 0)])) (fun t k => st1.trans k) ?_
 obtain ⟨_, X1h, N1h⟩ := o_hide X1 N1
 refine o_ifYes X1h hx 17 (hb hby o_d5_4) (teq (rfl : (0 : Int32) = (0 : Int32))).1 ?_
 refine o_aloadN X1h hx 18 (hb hby o_d5_17) rfl rfl ?_
 obtain ⟨T2, X2, e2, st2⟩ := getF X1h hx hZ hown (host := "") (Or.inl (W hw 20 rfl)) Via.refl eh1 pF2 (g := (mkF m 18 #[(sR o1)] [(.ref o1)])) rfl rfl (hb hby o_d5_18)
 refine o_st (G' := T2.setTop (mkF m 21 #[(sR o1)] [(.ref bb)])) st2 ?_
 obtain ⟨_, X2h, N2h⟩ := o_hide X2 N1h
 obtain ⟨_, _, ⟨T3, Lx3, kc3, nc3⟩, -, X3, ⟨Lc3, hQ3, lq3, yq3, zq3⟩, st3⟩ := Jvm.LawKit.callS X2h hx (y := y25) hown (mvT hZ (W hw 108 rfl)) (mvT hZ (W hw 109 rfl)) (mvT hZ (W hw 58 rfl)) (mvT hZ (W hw 110 rfl)) (by decide) (backOf (W := 0) (o_rm25n3 l Z a0 hw [] cs sf GG bb kb c0 c1 c2 h0 n0 Z0 pV4 O0 (hC0 : o_C c0) (hC1 : o_C c1) (hC2 : o_C c2)) hZ (W hw 110 rfl) (W hw 58 rfl) (by decide) (by decide)) (g := (mkF m 21 #[(sR o1)] [(.ref bb)])) rfl (by rw [hml]; rfl) (argsL := [(.ref bb)]) (rest := []) (lenOf o_pd13 rfl) rfl (o_wl rfl) (hb hby o_d5_21) (fun _ _ => ⟨rfl, e2, (by decide : 0 + 1 ≤ _), (by decide : 0 + 3 ≤ _)⟩)
 dsimp only [Pt.U, Pt.locs, Pt.cells, Pt.slots] at X3 lq3 yq3 zq3 st3 hQ3
 subst lq3 yq3 zq3
 obtain ⟨ca_3, kc_3, rfl, Nq3, Kp3, G3_0, G3_1⟩ := hQ3
 have N3 := Fr.app N2h Nq3
 have sz_ca_3 : h0.size ≤ ca_3 := Nat.le_trans KC0.1 G3_0
 have KC7 := KC0.trans Kp3 all0
 refine o_st (G' := T3.setTop (mkF m 24 #[(sR o1)] [(.ref ca_3)])) st3 ?_
 obtain ⟨_, X3h, N3h⟩ := o_hide X3 N3
 exact o_retA (z := (.ref ca_3)) (Q := o_Q5n3U Z cs sf GG o1 bb kb c0 c1 c2 h0 n0) X3h hx hrt rfl rfl (hb hby o_d5_24) hlk rfl ⟨ca_3, kc_3, rfl, N3h, KC7, sz_ca_3, G3_1⟩ (by decide) (by decide)
def o_Q13n3U (Z : State) (o1 : Addr) (kb : ClassId) (vs : List Value) (h0 : Heap) (n0 : Nat) (v : Option Value) (h : Heap) (L : List Loc) : Prop := v = some (.int 1) ∧ Fr n0 L ∧ h = h0
set_option maxRecDepth 65536 in
set_option maxHeartbeats 40000000 in
theorem o_rm13n3U (l : Launch) (Z : State) (a0 : Array Value) (hw : o_Hw Z a0) (ws : List Jvm.Cond) (o1 : Addr) (kb : ClassId) (vs : List Value) (h0 : Heap) (n0 : Nat) (Z0 : n0 ≤ h0.size) (pV1 : Arv Z h0 o1 kb .byte 6 vs (.int 0)) :
  o_Met l y22 jdk_52_method_15_code 2 (some .byte) ws r0 #[(.ref o1), (.int 3)] Z h0 (o_Q13n3U Z o1 kb vs h0 n0) := by
 refine MetFree.of_bodySF (plainFor_of_name o_pn4) hisR ?_
 intro p e s m args below meth c s₁ Bd hml0 hP hK
 obtain ⟨rfl, hZ, hh⟩ := hP
 obtain ⟨hx, hby, hlk, hrt⟩ := o_bd Bd
 have X0 : Stand p l e r0 s m #[(.ref o1), (.int 3)] below meth c s₁ [] 0 0 := Stand.of_body Bd
 have e0 := o_e0 Bd hh
 have N0 := Fr.nil n0
 refine o_in (g' := mkF m 0 #[(sR o1), (sI 3)] []) (by simp [entryFrame, mkF, argsToLocals, Value.category]) ?_
 refine o_iloadN X0 hx 1 (hb hby o_d13_0) rfl ?_
 refine o_aloadN X0 hx 2 (hb hby o_d13_1) rfl rfl ?_
 obtain ⟨cl1, Ar1, qv1, S1, M1, H1, G1⟩ := id pV1
 have ln1 := len_of S1 M1
 refine o_st (G' := s₁.setTop (mkF m 3 #[(sR o1), (sI 3)] [(.int 6), (.int 3)])) (fun t k => X0.arraylength hx (by rw [e0]; exact Ar1.1) (State.isArrayOf_alike hZ.alike Ar1.2.1) (g := (mkF m 2 #[(sR o1), (sI 3)] [(.ref o1), (.int 3)])) rfl rfl (hb hby o_d13_2) _ (by rw [ln1]; exact k)) ?_
 refine o_isub X0 hx 4 (hb hby o_d13_3) ?_
 show o_Gs p e below _ (s₁.setTop (mkF m 4 #[(sR o1), (sI 3)] [(.int (-3 : Int32))]))
 refine o_bipush X0 hx 6 31 (hb hby o_d13_4) rfl ?_
 refine o_iushr X0 hx 7 (hb hby o_d13_6) ?_
 rw [show (((-3 : Int32).toUInt32 >>> ((31 : Int32) &&& 31).toUInt32).toInt32) = (1 : Int32) from by decide]
 refine o_i2b X0 hx 8 (hb hby o_d13_7) ?_
 rw [show ((1 : Int32).toInt8.toInt32) = (1 : Int32) from by decide]
 exact o_retN (t := .byte) (z := (1 : Int32)) (Q := o_Q13n3U Z o1 kb vs h0 n0) X0 hx hrt (by simp) (hb hby o_d13_8) hlk e0 ⟨rfl, N0, rfl⟩ (by decide) (by decide)
def o_Q9n3U (Z : State) (cs : Int32) (sf : Value) (GG : o_G Z cs sf) (o1 : Addr) (bb : Addr) (kb : ClassId) (c0 : Int32) (c1 : Int32) (c2 : Int32) (h0 : Heap) (n0 : Nat) (v : Option Value) (h : Heap) (L : List Loc) : Prop := v = some (.int 3) ∧ Fr n0 L ∧ h = h0
set_option maxRecDepth 65536 in
set_option maxHeartbeats 40000000 in
theorem o_rm9n3U (l : Launch) (Z : State) (a0 : Array Value) (hw : o_Hw Z a0) (ws : List Jvm.Cond) (cs : Int32) (sf : Value) (GG : o_G Z cs sf) (o1 : Addr) (bb : Addr) (kb : ClassId) (c0 : Int32) (c1 : Int32) (c2 : Int32) (h0 : Heap) (n0 : Nat) (Z0 : n0 ≤ h0.size) (pE1 : Exa Z h0 o1 "java/lang/String") (pF2 : Fld Z h0 o1 "java/lang/String" "value" "[B" (.ref bb)) (pF3 : Fld Z h0 o1 "java/lang/String" "coder" "B" (.int 1)) (pV4 : Arv Z h0 bb kb .byte 6 [(.int (o_lo c0)), (.int (o_hi c0)), (.int (o_lo c1)), (.int (o_hi c1)), (.int (o_lo c2)), (.int (o_hi c2))] (.int 0)) (O0 : Old Z n0 h0) :
  o_Met l y23 jdk_42_method_54_code 1 (some .int) ws r11 #[(.ref o1)] Z h0 (o_Q9n3U Z cs sf GG o1 bb kb c0 c1 c2 h0 n0) := by
 refine MetFree.of_bodySF (plainFor_of_name o_pn3) hisR ?_
 intro p e s m args below meth c s₁ Bd hml0 hP hK
 obtain ⟨rfl, hZ, hh⟩ := hP
 obtain ⟨hx, hby, hlk, hrt⟩ := o_bd Bd
 have hml : c.maxLocals = 1 := hml0
 have hown : s.vm.findClass "java/lang/String" = some m.cls := findClass_of_methodNamed Bd.named
 have X0 : Stand p l e r11 s m #[(.ref o1)] below meth c s₁ [] 0 0 := Stand.of_body Bd
 have e0 := o_e0 Bd hh
 have N0 := Fr.nil n0
 refine o_in (g' := mkF m 0 #[(sR o1)] []) (by simp [entryFrame, mkF, argsToLocals, Value.category]) ?_
 refine o_aloadN X0 hx 1 (hb hby o_d9_0) rfl rfl ?_
 obtain ⟨T1, X1, e1, st1⟩ := getF X0 hx hZ hown (host := "") (Or.inl (W hw 20 rfl)) Via.refl e0 pF2 (g := (mkF m 1 #[(sR o1)] [(.ref o1)])) rfl rfl (hb hby o_d9_1)
 refine o_st (G' := T1.setTop (mkF m 4 #[(sR o1)] [(.ref bb)])) st1 ?_
 obtain ⟨_, X1h, N1h⟩ := o_hide X1 N0
 obtain ⟨cl2, Ar2, qv2, S2, M2, H2, G2⟩ := id pV4
 have ln2 := len_of S2 M2
 refine o_st (G' := T1.setTop (mkF m 5 #[(sR o1)] [(.int 6)])) (fun t k => X1h.arraylength hx (by rw [e1]; exact Ar2.1) (State.isArrayOf_alike hZ.alike Ar2.2.1) (g := (mkF m 4 #[(sR o1)] [(.ref bb)])) rfl rfl (hb hby o_d9_4) _ (by rw [ln2]; exact k)) ?_
 refine o_aloadN X1h hx 6 (hb hby o_d9_5) rfl rfl ?_
 obtain ⟨cq3, kq3, q3a, q3b, q3c⟩ := isOf hZ e1 pE1
 obtain ⟨_, _, ⟨T3, Lx3, kc3, nc3⟩, -, X3, ⟨Lc3, hQ3, lq3, yq3, zq3⟩, st3⟩ := X1h.virtualBack hx (y := y4) (z := y4) hown (mvT hZ (W hw 51 rfl)) (mvT hZ (W hw 52 rfl)) (notFace_of_selects (args := #[]) (mvT hZ (W hw 54 rfl))) (mvT hZ (W hw 54 rfl)) (mvT hZ (W hw 53 rfl)) (by decide) (backOf (W := 1) (o_rm10U l Z a0 hw [] cs sf GG o1 h0 n0 Z0 pF3 O0) hZ (W hw 55 rfl) (W hw 3 rfl) (by decide) (by decide)) q3a q3c (g := (mkF m 6 #[(sR o1)] [(.ref o1), (.int 6)])) rfl (by rw [hml]; rfl) (Steps.refl _) (argsL := []) (rest := [(.int 6)]) (lenOf o_pd14 rfl) rfl (o_wl rfl) (hb hby o_d9_6) (fun _ _ => ⟨rfl, e1, (by decide : 0 + 0 ≤ _), (by decide : 0 + 0 ≤ _)⟩)
 dsimp only [Pt.U, Pt.locs, Pt.cells, Pt.slots] at X3 lq3 yq3 zq3 st3 hQ3
 subst lq3 yq3 zq3
 obtain ⟨rfl, Nq3, eh3⟩ := hQ3
 have N3 := Fr.app N1h Nq3
 refine o_st (G' := T3.setTop (mkF m 9 #[(sR o1)] [(.int 1), (.int 6)])) (fun t k => st3.trans k) ?_
 obtain ⟨_, X3h, N3h⟩ := o_hide X3 N3
 refine o_ishr X3h hx 10 (hb hby o_d9_9) ?_
 rw [show ((6 : Int32) >>> ((1 : Int32) &&& 31)) = (3 : Int32) from by decide]
 exact o_retI (z := (3 : Int32)) (Q := o_Q9n3U Z cs sf GG o1 bb kb c0 c1 c2 h0 n0) X3h hx hrt (hb hby o_d9_10) hlk eh3 ⟨rfl, N3h, rfl⟩ (by decide) (by decide)
def o_Q15n3i0U (Z : State) (cs : Int32) (sf : Value) (GG : o_G Z cs sf) (o1 : Addr) (bb : Addr) (kb : ClassId) (c0 : Int32) (c1 : Int32) (c2 : Int32) (h0 : Heap) (n0 : Nat) (v : Option Value) (h : Heap) (L : List Loc) : Prop := v = some (.int c0) ∧ Fr n0 L ∧ h = h0
set_option maxRecDepth 65536 in
set_option maxHeartbeats 40000000 in
theorem o_rm15n3i0U (l : Launch) (Z : State) (a0 : Array Value) (hw : o_Hw Z a0) (ws : List Jvm.Cond) (cs : Int32) (sf : Value) (GG : o_G Z cs sf) (o1 : Addr) (bb : Addr) (kb : ClassId) (c0 : Int32) (c1 : Int32) (c2 : Int32) (h0 : Heap) (n0 : Nat) (Z0 : n0 ≤ h0.size) (pE1 : Exa Z h0 o1 "java/lang/String") (pF2 : Fld Z h0 o1 "java/lang/String" "value" "[B" (.ref bb)) (pF3 : Fld Z h0 o1 "java/lang/String" "coder" "B" (.int 1)) (pV4 : Arv Z h0 bb kb .byte 6 [(.int (o_lo c0)), (.int (o_hi c0)), (.int (o_lo c1)), (.int (o_hi c1)), (.int (o_lo c2)), (.int (o_hi c2))] (.int 0)) (O0 : Old Z n0 h0) (hC : o_C c0) :
  o_Met l y24 jdk_42_method_56_code 2 (some .char) ws r14 #[(.ref o1), (.int 0)] Z h0 (o_Q15n3i0U Z cs sf GG o1 bb kb c0 c1 c2 h0 n0) := by
 refine MetFree.of_bodySF (plainFor_of_name o_pn3) hisR ?_
 intro p e s m args below meth c s₁ Bd hml0 hP hK
 obtain ⟨rfl, hZ, hh⟩ := hP
 obtain ⟨hx, hby, hlk, hrt⟩ := o_bd Bd
 have hml : c.maxLocals = 2 := hml0
 have hown : s.vm.findClass "java/lang/String" = some m.cls := findClass_of_methodNamed Bd.named
 have X0 : Stand p l e r14 s m #[(.ref o1), (.int 0)] below meth c s₁ [] 0 0 := Stand.of_body Bd
 have e0 := o_e0 Bd hh
 have N0 := Fr.nil n0
 refine o_in (g' := mkF m 0 #[(sR o1), (sI 0)] []) (by simp [entryFrame, mkF, argsToLocals, Value.category]) ?_
 refine o_aloadN X0 hx 1 (hb hby o_d15_0) rfl rfl ?_
 obtain ⟨cq1, kq1, q1a, q1b, q1c⟩ := isOf hZ e0 pE1
 obtain ⟨_, _, ⟨T1, Lx1, kc1, nc1⟩, -, X1, ⟨Lc1, hQ1, lq1, yq1, zq1⟩, st1⟩ := X0.virtualBack hx (y := y5) (z := y5) hown (mvT hZ (W hw 31 rfl)) (mvT hZ (W hw 32 rfl)) (notFace_of_selects (args := #[]) (mvT hZ (W hw 34 rfl))) (mvT hZ (W hw 34 rfl)) (mvT hZ (W hw 33 rfl)) (by decide) (backOf (W := 0) (o_rm6U l Z a0 hw [] cs sf GG o1 h0 n0 Z0 pF3 O0) hZ (W hw 35 rfl) (W hw 3 rfl) (by decide) (by decide)) q1a q1c (g := (mkF m 1 #[(sR o1), (sI 0)] [(.ref o1)])) rfl (by rw [hml]; rfl) (Steps.refl _) (argsL := []) (rest := []) (lenOf o_pd12 rfl) rfl (o_wl rfl) (hb hby o_d15_1) (fun _ _ => ⟨rfl, e0, (by decide : 0 + 0 ≤ _), (by decide : 0 + 0 ≤ _)⟩)
 dsimp only [Pt.U, Pt.locs, Pt.cells, Pt.slots] at X1 lq1 yq1 zq1 st1 hQ1
 subst lq1 yq1 zq1
 obtain ⟨rfl, Nq1, eh1⟩ := hQ1
 have N1 := Fr.app N0 Nq1
 refine o_st (G' := T1.setTop (mkF m 4 #[(sR o1), (sI 0)] [(.int 0)])) (fun t k => st1.trans k) ?_
 obtain ⟨_, X1h, N1h⟩ := o_hide X1 N1
 refine o_ifYes X1h hx 16 (hb hby o_d15_4) (teq (rfl : (0 : Int32) = (0 : Int32))).1 ?_
 refine o_aloadN X1h hx 17 (hb hby o_d15_16) rfl rfl ?_
 obtain ⟨T2, X2, e2, st2⟩ := getF X1h hx hZ hown (host := "") (Or.inl (W hw 20 rfl)) Via.refl eh1 pF2 (g := (mkF m 17 #[(sR o1), (sI 0)] [(.ref o1)])) rfl rfl (hb hby o_d15_17)
 refine o_st (G' := T2.setTop (mkF m 20 #[(sR o1), (sI 0)] [(.ref bb)])) st2 ?_
 obtain ⟨_, X2h, N2h⟩ := o_hide X2 N1h
 refine o_iloadN X2h hx 21 (hb hby o_d15_20) rfl ?_
 obtain ⟨_, _, ⟨T3, Lx3, kc3, nc3⟩, -, X3, ⟨Lc3, hQ3, lq3, yq3, zq3⟩, st3⟩ := Jvm.LawKit.callS X2h hx (y := y15) hown (mvT hZ (W hw 126 rfl)) (mvT hZ (W hw 127 rfl)) (mvT hZ (W hw 58 rfl)) (mvT hZ (W hw 128 rfl)) (by decide) (backOf (W := 0) (o_rm31n3i0 l Z a0 hw [] cs sf GG bb kb c0 c1 c2 h0 n0 Z0 pV4 O0 (hC : o_C c0)) hZ (W hw 128 rfl) (W hw 58 rfl) (by decide) (by decide)) (g := (mkF m 21 #[(sR o1), (sI 0)] [(.int 0), (.ref bb)])) rfl (by rw [hml]; rfl) (argsL := [(.ref bb), (.int 0)]) (rest := []) (lenOf o_pd7 rfl) rfl (o_wl rfl) (hb hby o_d15_21) (fun _ _ => ⟨rfl, e2, (by decide : 0 + 0 ≤ _), (by decide : 0 + 0 ≤ _)⟩)
 dsimp only [Pt.U, Pt.locs, Pt.cells, Pt.slots] at X3 lq3 yq3 zq3 st3 hQ3
 subst lq3 yq3 zq3
 obtain ⟨rfl, Nq3, eh3⟩ := hQ3
 have N3 := Fr.app N2h Nq3
 refine o_st (G' := T3.setTop (mkF m 24 #[(sR o1), (sI 0)] [(.int c0)])) st3 ?_
 obtain ⟨_, X3h, N3h⟩ := o_hide X3 N3
 exact o_retN (t := .char) (z := c0) (Q := o_Q15n3i0U Z cs sf GG o1 bb kb c0 c1 c2 h0 n0) X3h hx hrt (by simp) (hb hby o_d15_24) hlk eh3 ⟨(o_leafI (o_narC hC)), N3h, rfl⟩ (by decide) (by decide)
def o_Q15n3i1U (Z : State) (cs : Int32) (sf : Value) (GG : o_G Z cs sf) (o1 : Addr) (bb : Addr) (kb : ClassId) (c0 : Int32) (c1 : Int32) (c2 : Int32) (h0 : Heap) (n0 : Nat) (v : Option Value) (h : Heap) (L : List Loc) : Prop := v = some (.int c1) ∧ Fr n0 L ∧ h = h0
set_option maxRecDepth 65536 in
set_option maxHeartbeats 40000000 in
theorem o_rm15n3i1U (l : Launch) (Z : State) (a0 : Array Value) (hw : o_Hw Z a0) (ws : List Jvm.Cond) (cs : Int32) (sf : Value) (GG : o_G Z cs sf) (o1 : Addr) (bb : Addr) (kb : ClassId) (c0 : Int32) (c1 : Int32) (c2 : Int32) (h0 : Heap) (n0 : Nat) (Z0 : n0 ≤ h0.size) (pE1 : Exa Z h0 o1 "java/lang/String") (pF2 : Fld Z h0 o1 "java/lang/String" "value" "[B" (.ref bb)) (pF3 : Fld Z h0 o1 "java/lang/String" "coder" "B" (.int 1)) (pV4 : Arv Z h0 bb kb .byte 6 [(.int (o_lo c0)), (.int (o_hi c0)), (.int (o_lo c1)), (.int (o_hi c1)), (.int (o_lo c2)), (.int (o_hi c2))] (.int 0)) (O0 : Old Z n0 h0) (hC : o_C c1) :
  o_Met l y24 jdk_42_method_56_code 2 (some .char) ws r14 #[(.ref o1), (.int 1)] Z h0 (o_Q15n3i1U Z cs sf GG o1 bb kb c0 c1 c2 h0 n0) := by
 refine MetFree.of_bodySF (plainFor_of_name o_pn3) hisR ?_
 intro p e s m args below meth c s₁ Bd hml0 hP hK
 obtain ⟨rfl, hZ, hh⟩ := hP
 obtain ⟨hx, hby, hlk, hrt⟩ := o_bd Bd
 have hml : c.maxLocals = 2 := hml0
 have hown : s.vm.findClass "java/lang/String" = some m.cls := findClass_of_methodNamed Bd.named
 have X0 : Stand p l e r14 s m #[(.ref o1), (.int 1)] below meth c s₁ [] 0 0 := Stand.of_body Bd
 have e0 := o_e0 Bd hh
 have N0 := Fr.nil n0
 refine o_in (g' := mkF m 0 #[(sR o1), (sI 1)] []) (by simp [entryFrame, mkF, argsToLocals, Value.category]) ?_
 refine o_aloadN X0 hx 1 (hb hby o_d15_0) rfl rfl ?_
 obtain ⟨cq1, kq1, q1a, q1b, q1c⟩ := isOf hZ e0 pE1
 obtain ⟨_, _, ⟨T1, Lx1, kc1, nc1⟩, -, X1, ⟨Lc1, hQ1, lq1, yq1, zq1⟩, st1⟩ := X0.virtualBack hx (y := y5) (z := y5) hown (mvT hZ (W hw 31 rfl)) (mvT hZ (W hw 32 rfl)) (notFace_of_selects (args := #[]) (mvT hZ (W hw 34 rfl))) (mvT hZ (W hw 34 rfl)) (mvT hZ (W hw 33 rfl)) (by decide) (backOf (W := 0) (o_rm6U l Z a0 hw [] cs sf GG o1 h0 n0 Z0 pF3 O0) hZ (W hw 35 rfl) (W hw 3 rfl) (by decide) (by decide)) q1a q1c (g := (mkF m 1 #[(sR o1), (sI 1)] [(.ref o1)])) rfl (by rw [hml]; rfl) (Steps.refl _) (argsL := []) (rest := []) (lenOf o_pd12 rfl) rfl (o_wl rfl) (hb hby o_d15_1) (fun _ _ => ⟨rfl, e0, (by decide : 0 + 0 ≤ _), (by decide : 0 + 0 ≤ _)⟩)
 dsimp only [Pt.U, Pt.locs, Pt.cells, Pt.slots] at X1 lq1 yq1 zq1 st1 hQ1
 subst lq1 yq1 zq1
 obtain ⟨rfl, Nq1, eh1⟩ := hQ1
 have N1 := Fr.app N0 Nq1
 refine o_st (G' := T1.setTop (mkF m 4 #[(sR o1), (sI 1)] [(.int 0)])) (fun t k => st1.trans k) ?_
 obtain ⟨_, X1h, N1h⟩ := o_hide X1 N1
 refine o_ifYes X1h hx 16 (hb hby o_d15_4) (teq (rfl : (0 : Int32) = (0 : Int32))).1 ?_
 refine o_aloadN X1h hx 17 (hb hby o_d15_16) rfl rfl ?_
 obtain ⟨T2, X2, e2, st2⟩ := getF X1h hx hZ hown (host := "") (Or.inl (W hw 20 rfl)) Via.refl eh1 pF2 (g := (mkF m 17 #[(sR o1), (sI 1)] [(.ref o1)])) rfl rfl (hb hby o_d15_17)
 refine o_st (G' := T2.setTop (mkF m 20 #[(sR o1), (sI 1)] [(.ref bb)])) st2 ?_
 obtain ⟨_, X2h, N2h⟩ := o_hide X2 N1h
 refine o_iloadN X2h hx 21 (hb hby o_d15_20) rfl ?_
 obtain ⟨_, _, ⟨T3, Lx3, kc3, nc3⟩, -, X3, ⟨Lc3, hQ3, lq3, yq3, zq3⟩, st3⟩ := Jvm.LawKit.callS X2h hx (y := y15) hown (mvT hZ (W hw 126 rfl)) (mvT hZ (W hw 127 rfl)) (mvT hZ (W hw 58 rfl)) (mvT hZ (W hw 128 rfl)) (by decide) (backOf (W := 0) (o_rm31n3i1 l Z a0 hw [] cs sf GG bb kb c0 c1 c2 h0 n0 Z0 pV4 O0 (hC : o_C c1)) hZ (W hw 128 rfl) (W hw 58 rfl) (by decide) (by decide)) (g := (mkF m 21 #[(sR o1), (sI 1)] [(.int 1), (.ref bb)])) rfl (by rw [hml]; rfl) (argsL := [(.ref bb), (.int 1)]) (rest := []) (lenOf o_pd7 rfl) rfl (o_wl rfl) (hb hby o_d15_21) (fun _ _ => ⟨rfl, e2, (by decide : 0 + 0 ≤ _), (by decide : 0 + 0 ≤ _)⟩)
 dsimp only [Pt.U, Pt.locs, Pt.cells, Pt.slots] at X3 lq3 yq3 zq3 st3 hQ3
 subst lq3 yq3 zq3
 obtain ⟨rfl, Nq3, eh3⟩ := hQ3
 have N3 := Fr.app N2h Nq3
 refine o_st (G' := T3.setTop (mkF m 24 #[(sR o1), (sI 1)] [(.int c1)])) st3 ?_
 obtain ⟨_, X3h, N3h⟩ := o_hide X3 N3
 exact o_retN (t := .char) (z := c1) (Q := o_Q15n3i1U Z cs sf GG o1 bb kb c0 c1 c2 h0 n0) X3h hx hrt (by simp) (hb hby o_d15_24) hlk eh3 ⟨(o_leafI (o_narC hC)), N3h, rfl⟩ (by decide) (by decide)
def o_Q15n3i2U (Z : State) (cs : Int32) (sf : Value) (GG : o_G Z cs sf) (o1 : Addr) (bb : Addr) (kb : ClassId) (c0 : Int32) (c1 : Int32) (c2 : Int32) (h0 : Heap) (n0 : Nat) (v : Option Value) (h : Heap) (L : List Loc) : Prop := v = some (.int c2) ∧ Fr n0 L ∧ h = h0
set_option maxRecDepth 65536 in
set_option maxHeartbeats 40000000 in
theorem o_rm15n3i2U (l : Launch) (Z : State) (a0 : Array Value) (hw : o_Hw Z a0) (ws : List Jvm.Cond) (cs : Int32) (sf : Value) (GG : o_G Z cs sf) (o1 : Addr) (bb : Addr) (kb : ClassId) (c0 : Int32) (c1 : Int32) (c2 : Int32) (h0 : Heap) (n0 : Nat) (Z0 : n0 ≤ h0.size) (pE1 : Exa Z h0 o1 "java/lang/String") (pF2 : Fld Z h0 o1 "java/lang/String" "value" "[B" (.ref bb)) (pF3 : Fld Z h0 o1 "java/lang/String" "coder" "B" (.int 1)) (pV4 : Arv Z h0 bb kb .byte 6 [(.int (o_lo c0)), (.int (o_hi c0)), (.int (o_lo c1)), (.int (o_hi c1)), (.int (o_lo c2)), (.int (o_hi c2))] (.int 0)) (O0 : Old Z n0 h0) (hC : o_C c2) :
  o_Met l y24 jdk_42_method_56_code 2 (some .char) ws r14 #[(.ref o1), (.int 2)] Z h0 (o_Q15n3i2U Z cs sf GG o1 bb kb c0 c1 c2 h0 n0) := by
 refine MetFree.of_bodySF (plainFor_of_name o_pn3) hisR ?_
 intro p e s m args below meth c s₁ Bd hml0 hP hK
 obtain ⟨rfl, hZ, hh⟩ := hP
 obtain ⟨hx, hby, hlk, hrt⟩ := o_bd Bd
 have hml : c.maxLocals = 2 := hml0
 have hown : s.vm.findClass "java/lang/String" = some m.cls := findClass_of_methodNamed Bd.named
 have X0 : Stand p l e r14 s m #[(.ref o1), (.int 2)] below meth c s₁ [] 0 0 := Stand.of_body Bd
 have e0 := o_e0 Bd hh
 have N0 := Fr.nil n0
 refine o_in (g' := mkF m 0 #[(sR o1), (sI 2)] []) (by simp [entryFrame, mkF, argsToLocals, Value.category]) ?_
 refine o_aloadN X0 hx 1 (hb hby o_d15_0) rfl rfl ?_
 obtain ⟨cq1, kq1, q1a, q1b, q1c⟩ := isOf hZ e0 pE1
 obtain ⟨_, _, ⟨T1, Lx1, kc1, nc1⟩, -, X1, ⟨Lc1, hQ1, lq1, yq1, zq1⟩, st1⟩ := X0.virtualBack hx (y := y5) (z := y5) hown (mvT hZ (W hw 31 rfl)) (mvT hZ (W hw 32 rfl)) (notFace_of_selects (args := #[]) (mvT hZ (W hw 34 rfl))) (mvT hZ (W hw 34 rfl)) (mvT hZ (W hw 33 rfl)) (by decide) (backOf (W := 0) (o_rm6U l Z a0 hw [] cs sf GG o1 h0 n0 Z0 pF3 O0) hZ (W hw 35 rfl) (W hw 3 rfl) (by decide) (by decide)) q1a q1c (g := (mkF m 1 #[(sR o1), (sI 2)] [(.ref o1)])) rfl (by rw [hml]; rfl) (Steps.refl _) (argsL := []) (rest := []) (lenOf o_pd12 rfl) rfl (o_wl rfl) (hb hby o_d15_1) (fun _ _ => ⟨rfl, e0, (by decide : 0 + 0 ≤ _), (by decide : 0 + 0 ≤ _)⟩)
 dsimp only [Pt.U, Pt.locs, Pt.cells, Pt.slots] at X1 lq1 yq1 zq1 st1 hQ1
 subst lq1 yq1 zq1
 obtain ⟨rfl, Nq1, eh1⟩ := hQ1
 have N1 := Fr.app N0 Nq1
 refine o_st (G' := T1.setTop (mkF m 4 #[(sR o1), (sI 2)] [(.int 0)])) (fun t k => st1.trans k) ?_
 obtain ⟨_, X1h, N1h⟩ := o_hide X1 N1
 refine o_ifYes X1h hx 16 (hb hby o_d15_4) (teq (rfl : (0 : Int32) = (0 : Int32))).1 ?_
 refine o_aloadN X1h hx 17 (hb hby o_d15_16) rfl rfl ?_
 obtain ⟨T2, X2, e2, st2⟩ := getF X1h hx hZ hown (host := "") (Or.inl (W hw 20 rfl)) Via.refl eh1 pF2 (g := (mkF m 17 #[(sR o1), (sI 2)] [(.ref o1)])) rfl rfl (hb hby o_d15_17)
 refine o_st (G' := T2.setTop (mkF m 20 #[(sR o1), (sI 2)] [(.ref bb)])) st2 ?_
 obtain ⟨_, X2h, N2h⟩ := o_hide X2 N1h
 refine o_iloadN X2h hx 21 (hb hby o_d15_20) rfl ?_
 obtain ⟨_, _, ⟨T3, Lx3, kc3, nc3⟩, -, X3, ⟨Lc3, hQ3, lq3, yq3, zq3⟩, st3⟩ := Jvm.LawKit.callS X2h hx (y := y15) hown (mvT hZ (W hw 126 rfl)) (mvT hZ (W hw 127 rfl)) (mvT hZ (W hw 58 rfl)) (mvT hZ (W hw 128 rfl)) (by decide) (backOf (W := 0) (o_rm31n3i2 l Z a0 hw [] cs sf GG bb kb c0 c1 c2 h0 n0 Z0 pV4 O0 (hC : o_C c2)) hZ (W hw 128 rfl) (W hw 58 rfl) (by decide) (by decide)) (g := (mkF m 21 #[(sR o1), (sI 2)] [(.int 2), (.ref bb)])) rfl (by rw [hml]; rfl) (argsL := [(.ref bb), (.int 2)]) (rest := []) (lenOf o_pd7 rfl) rfl (o_wl rfl) (hb hby o_d15_21) (fun _ _ => ⟨rfl, e2, (by decide : 0 + 0 ≤ _), (by decide : 0 + 0 ≤ _)⟩)
 dsimp only [Pt.U, Pt.locs, Pt.cells, Pt.slots] at X3 lq3 yq3 zq3 st3 hQ3
 subst lq3 yq3 zq3
 obtain ⟨rfl, Nq3, eh3⟩ := hQ3
 have N3 := Fr.app N2h Nq3
 refine o_st (G' := T3.setTop (mkF m 24 #[(sR o1), (sI 2)] [(.int c2)])) st3 ?_
 obtain ⟨_, X3h, N3h⟩ := o_hide X3 N3
 exact o_retN (t := .char) (z := c2) (Q := o_Q15n3i2U Z cs sf GG o1 bb kb c0 c1 c2 h0 n0) X3h hx hrt (by simp) (hb hby o_d15_24) hlk eh3 ⟨(o_leafI (o_narC hC)), N3h, rfl⟩ (by decide) (by decide)
def o_Q12n3L (Z : State) (o1 : Addr) (o2 : Addr) (kb : ClassId) (kc : ClassId) (c0 : Int32) (c1 : Int32) (c2 : Int32) (h0 : Heap) (n0 : Nat) (v : Option Value) (h : Heap) (L : List Loc) : Prop := v = some (.int 3) ∧ Fr n0 L ∧ Keep h0 h [o2] ∧ Arv Z h o2 kb .byte 3 [(.int (nar .byte c0.toInt8.toInt32)), (.int (nar .byte c1.toInt8.toInt32)), (.int (nar .byte c2.toInt8.toInt32))] (.int 0)
set_option maxRecDepth 65536 in
set_option maxHeartbeats 40000000 in
theorem o_rm12n3L (l : Launch) (Z : State) (a0 : Array Value) (hw : o_Hw Z a0) (ws : List Jvm.Cond) (o1 : Addr) (o2 : Addr) (kb : ClassId) (kc : ClassId) (c0 : Int32) (c1 : Int32) (c2 : Int32) (h0 : Heap) (n0 : Nat) (Z0 : n0 ≤ h0.size) (pV1 : Arv Z h0 o1 kc .char 3 [(.int c0), (.int c1), (.int c2)] (.int 0)) (pV2 : Arv Z h0 o2 kb .byte 3 [(.int 0), (.int 0), (.int 0)] (.int 0)) (pG3 : n0 ≤ o2) (pN4 : o1 ≠ o2) (hL0 : ¬ (255 : Int32) < c0) (hL1 : ¬ (255 : Int32) < c1) (hL2 : ¬ (255 : Int32) < c2) :
  o_Met l y26 jdk_52_method_21_code 7 (some .int) ws r0 #[(.ref o1), (.int 0), (.ref o2), (.int 0), (.int 3)] Z h0 (o_Q12n3L Z o1 o2 kb kc c0 c1 c2 h0 n0) := by
 refine MetFree.of_bodySF (plainFor_of_name o_pn4) hisR ?_
 intro p e s m args below meth c s₁ Bd hml0 hP hK
 obtain ⟨rfl, hZ, hh⟩ := hP
 obtain ⟨hx, hby, hlk, hrt⟩ := o_bd Bd
 have X0 : Stand p l e r0 s m #[(.ref o1), (.int 0), (.ref o2), (.int 0), (.int 3)] below meth c s₁ [] 0 0 := Stand.of_body Bd
 have e0 := o_e0 Bd hh
 have N0 := Fr.nil n0
 have KC0 := Keep.refl h0 [o2]
 refine o_in (g' := mkF m 0 #[(sR o1), (sI 0), (sR o2), (sI 0), (sI 3), .unset, .unset] []) (by simp [entryFrame, mkF, argsToLocals, Value.category]) ?_
 refine o_iconst X0 hx 1 0 (hb hby o_d12_0) rfl ?_
 refine o_istore X0 hx 3 #[(sR o1), (sI 0), (sR o2), (sI 0), (sI 3), (sI 0), .unset] (hb hby o_d12_1) rfl ?_
 refine o_iload X0 hx 5 (hb hby o_d12_3) rfl ?_
 refine o_iload X0 hx 7 (hb hby o_d12_5) rfl ?_
 refine o_icmpNo X0 hx 10 (hb hby o_d12_7) (tlt (by decide : (0 : Int32) < (3 : Int32))).2.1 ?_
 refine o_aloadN X0 hx 11 (hb hby o_d12_10) rfl rfl ?_
 refine o_iloadN X0 hx 12 (hb hby o_d12_11) rfl ?_
 obtain ⟨cl1, Ar1, qv1, S1, M1, H1, G1⟩ := id pV1
 have hin1 := inb_of (j := (0 : Int32)) S1 ⟨by decide, by decide⟩
 refine o_st (G' := s₁.setTop (mkF m 13 #[(sR o1), (sI 0), (sR o2), (sI 0), (sI 3), (sI 0), .unset] [(.int c0)])) (fun t k => X0.caload hx (j := (0 : Int32)) (v := (.int c0)) (by rw [e0]; exact Ar1.1) (State.isArrayOf_alike hZ.alike Ar1.2.1) Ar1.2.2 hin1 (H1.at hin1 rfl) (g := (mkF m 12 #[(sR o1), (sI 0), (sR o2), (sI 0), (sI 3), (sI 0), .unset] [(.int 0), (.ref o1)])) rfl rfl (hb hby o_d12_12) _ k) ?_
 refine o_istore X0 hx 15 #[(sR o1), (sI 0), (sR o2), (sI 0), (sI 3), (sI 0), (sI c0)] (hb hby o_d12_13) rfl ?_
 refine o_iload X0 hx 17 (hb hby o_d12_15) rfl ?_
 refine o_sipush X0 hx 20 255 (hb hby o_d12_17) rfl ?_
 refine o_icmpYes X0 hx 26 (hb hby o_d12_20) (flt hL0).2.2.2 ?_
 refine o_aloadN X0 hx 27 (hb hby o_d12_26) rfl rfl ?_
 refine o_iloadN X0 hx 28 (hb hby o_d12_27) rfl ?_
 refine o_iload X0 hx 30 (hb hby o_d12_28) rfl ?_
 refine o_i2b X0 hx 31 (hb hby o_d12_30) ?_
 obtain ⟨cl2, Ar2, qv2, S2, M2, H2, G2⟩ := id pV2
 have hin2 := inb_of (j := (0 : Int32)) S2 ⟨by decide, by decide⟩
 obtain ⟨T2, h2, X2, e2, W2, st2⟩ := stB X0 hx hZ e0 Ar2 (j := (0 : Int32)) hin2 (g := (mkF m 31 #[(sR o1), (sI 0), (sR o2), (sI 0), (sI 3), (sI 0), (sI c0)] [(.int (c0.toInt8.toInt32)), (.int 0), (.ref o2)])) rfl rfl (hb hby o_d12_31)
 have V2 : Arv Z h2 o2 kb .byte 3 [(.int (nar .byte (c0.toInt8.toInt32))), (.int 0), (.int 0)] (.int 0) := Arv.set Ar2 qv2 S2 M2 H2 G2 (fits_nar_byte _) W2 0 rfl (Nat.le_of_ble_eq_true rfl)
 have N2 := Fr.snoc X2 N0 pG3
 have KC3 := KC0.wr W2 (Or.inl (List.mem_of_getElem? (i := 0) rfl))
 refine o_st (G' := T2.setTop (mkF m 32 #[(sR o1), (sI 0), (sR o2), (sI 0), (sI 3), (sI 0), (sI c0)] [])) st2 ?_
 obtain ⟨_, X2h, N2h⟩ := o_hide X2 N2
 refine o_iinc X2h hx 35 (1 : Int32) #[(sR o1), (sI 1), (sR o2), (sI 0), (sI 3), (sI 0), (sI c0)] (hb hby o_d12_32) rfl rfl rfl ?_
 refine o_iinc X2h hx 38 (1 : Int32) #[(sR o1), (sI 1), (sR o2), (sI 1), (sI 3), (sI 0), (sI c0)] (hb hby o_d12_35) rfl rfl rfl ?_
 refine o_iinc X2h hx 41 (1 : Int32) #[(sR o1), (sI 1), (sR o2), (sI 1), (sI 3), (sI 1), (sI c0)] (hb hby o_d12_38) rfl rfl rfl ?_
 refine o_goto X2h hx 3 (hb hby o_d12_41) ?_
 refine o_iload X2h hx 5 (hb hby o_d12_3) rfl ?_
 refine o_iload X2h hx 7 (hb hby o_d12_5) rfl ?_
 refine o_icmpNo X2h hx 10 (hb hby o_d12_7) (tlt (by decide : (1 : Int32) < (3 : Int32))).2.1 ?_
 refine o_aloadN X2h hx 11 (hb hby o_d12_10) rfl rfl ?_
 refine o_iloadN X2h hx 12 (hb hby o_d12_11) rfl ?_
 have f5 := (pV1.other W2 pN4)
 obtain ⟨cl6, Ar6, qv6, S6, M6, H6, G6⟩ := id f5
 have hin6 := inb_of (j := (1 : Int32)) S6 ⟨by decide, by decide⟩
 refine o_st (G' := T2.setTop (mkF m 13 #[(sR o1), (sI 1), (sR o2), (sI 1), (sI 3), (sI 1), (sI c0)] [(.int c1)])) (fun t k => X2h.caload hx (j := (1 : Int32)) (v := (.int c1)) (by rw [e2]; exact Ar6.1) (State.isArrayOf_alike hZ.alike Ar6.2.1) Ar6.2.2 hin6 (H6.at hin6 rfl) (g := (mkF m 12 #[(sR o1), (sI 1), (sR o2), (sI 1), (sI 3), (sI 1), (sI c0)] [(.int 1), (.ref o1)])) rfl rfl (hb hby o_d12_12) _ k) ?_
 refine o_istore X2h hx 15 #[(sR o1), (sI 1), (sR o2), (sI 1), (sI 3), (sI 1), (sI c1)] (hb hby o_d12_13) rfl ?_
 refine o_iload X2h hx 17 (hb hby o_d12_15) rfl ?_
 refine o_sipush X2h hx 20 255 (hb hby o_d12_17) rfl ?_
 refine o_icmpYes X2h hx 26 (hb hby o_d12_20) (flt hL1).2.2.2 ?_
 refine o_aloadN X2h hx 27 (hb hby o_d12_26) rfl rfl ?_
 refine o_iloadN X2h hx 28 (hb hby o_d12_27) rfl ?_
 refine o_iload X2h hx 30 (hb hby o_d12_28) rfl ?_
 refine o_i2b X2h hx 31 (hb hby o_d12_30) ?_
 obtain ⟨cl7, Ar7, qv7, S7, M7, H7, G7⟩ := id V2
 have hin7 := inb_of (j := (1 : Int32)) S7 ⟨by decide, by decide⟩
 obtain ⟨T7, h7, X7, e7, W7, st7⟩ := stB X2h hx hZ e2 Ar7 (j := (1 : Int32)) hin7 (g := (mkF m 31 #[(sR o1), (sI 1), (sR o2), (sI 1), (sI 3), (sI 1), (sI c1)] [(.int (c1.toInt8.toInt32)), (.int 1), (.ref o2)])) rfl rfl (hb hby o_d12_31)
 have V7 : Arv Z h7 o2 kb .byte 3 [(.int (nar .byte (c0.toInt8.toInt32))), (.int (nar .byte (c1.toInt8.toInt32))), (.int 0)] (.int 0) := Arv.set Ar7 qv7 S7 M7 H7 G7 (fits_nar_byte _) W7 1 rfl (Nat.le_of_ble_eq_true rfl)
 have N7 := Fr.snoc X7 N2h pG3
 have KC8 := KC3.wr W7 (Or.inl (List.mem_of_getElem? (i := 0) rfl))
 refine o_st (G' := T7.setTop (mkF m 32 #[(sR o1), (sI 1), (sR o2), (sI 1), (sI 3), (sI 1), (sI c1)] [])) st7 ?_
 obtain ⟨_, X7h, N7h⟩ := o_hide X7 N7
 refine o_iinc X7h hx 35 (1 : Int32) #[(sR o1), (sI 2), (sR o2), (sI 1), (sI 3), (sI 1), (sI c1)] (hb hby o_d12_32) rfl rfl rfl ?_
 refine o_iinc X7h hx 38 (1 : Int32) #[(sR o1), (sI 2), (sR o2), (sI 2), (sI 3), (sI 1), (sI c1)] (hb hby o_d12_35) rfl rfl rfl ?_
 refine o_iinc X7h hx 41 (1 : Int32) #[(sR o1), (sI 2), (sR o2), (sI 2), (sI 3), (sI 2), (sI c1)] (hb hby o_d12_38) rfl rfl rfl ?_
 refine o_goto X7h hx 3 (hb hby o_d12_41) ?_
 refine o_iload X7h hx 5 (hb hby o_d12_3) rfl ?_
 refine o_iload X7h hx 7 (hb hby o_d12_5) rfl ?_
 refine o_icmpNo X7h hx 10 (hb hby o_d12_7) (tlt (by decide : (2 : Int32) < (3 : Int32))).2.1 ?_
 refine o_aloadN X7h hx 11 (hb hby o_d12_10) rfl rfl ?_
 refine o_iloadN X7h hx 12 (hb hby o_d12_11) rfl ?_
 have f10 := (f5.other W7 pN4)
 obtain ⟨cl11, Ar11, qv11, S11, M11, H11, G11⟩ := id f10
 have hin11 := inb_of (j := (2 : Int32)) S11 ⟨by decide, by decide⟩
 refine o_st (G' := T7.setTop (mkF m 13 #[(sR o1), (sI 2), (sR o2), (sI 2), (sI 3), (sI 2), (sI c1)] [(.int c2)])) (fun t k => X7h.caload hx (j := (2 : Int32)) (v := (.int c2)) (by rw [e7]; exact Ar11.1) (State.isArrayOf_alike hZ.alike Ar11.2.1) Ar11.2.2 hin11 (H11.at hin11 rfl) (g := (mkF m 12 #[(sR o1), (sI 2), (sR o2), (sI 2), (sI 3), (sI 2), (sI c1)] [(.int 2), (.ref o1)])) rfl rfl (hb hby o_d12_12) _ k) ?_
 refine o_istore X7h hx 15 #[(sR o1), (sI 2), (sR o2), (sI 2), (sI 3), (sI 2), (sI c2)] (hb hby o_d12_13) rfl ?_
 refine o_iload X7h hx 17 (hb hby o_d12_15) rfl ?_
 refine o_sipush X7h hx 20 255 (hb hby o_d12_17) rfl ?_
 refine o_icmpYes X7h hx 26 (hb hby o_d12_20) (flt hL2).2.2.2 ?_
 refine o_aloadN X7h hx 27 (hb hby o_d12_26) rfl rfl ?_
 refine o_iloadN X7h hx 28 (hb hby o_d12_27) rfl ?_
 refine o_iload X7h hx 30 (hb hby o_d12_28) rfl ?_
 refine o_i2b X7h hx 31 (hb hby o_d12_30) ?_
 obtain ⟨cl12, Ar12, qv12, S12, M12, H12, G12⟩ := id V7
 have hin12 := inb_of (j := (2 : Int32)) S12 ⟨by decide, by decide⟩
 obtain ⟨T12, h12, X12, e12, W12, st12⟩ := stB X7h hx hZ e7 Ar12 (j := (2 : Int32)) hin12 (g := (mkF m 31 #[(sR o1), (sI 2), (sR o2), (sI 2), (sI 3), (sI 2), (sI c2)] [(.int (c2.toInt8.toInt32)), (.int 2), (.ref o2)])) rfl rfl (hb hby o_d12_31)
 have V12 : Arv Z h12 o2 kb .byte 3 [(.int (nar .byte (c0.toInt8.toInt32))), (.int (nar .byte (c1.toInt8.toInt32))), (.int (nar .byte (c2.toInt8.toInt32)))] (.int 0) := Arv.set Ar12 qv12 S12 M12 H12 G12 (fits_nar_byte _) W12 2 rfl (Nat.le_of_ble_eq_true rfl)
 have N12 := Fr.snoc X12 N7h pG3
 have KC13 := KC8.wr W12 (Or.inl (List.mem_of_getElem? (i := 0) rfl))
 refine o_st (G' := T12.setTop (mkF m 32 #[(sR o1), (sI 2), (sR o2), (sI 2), (sI 3), (sI 2), (sI c2)] [])) st12 ?_
 obtain ⟨_, X12h, N12h⟩ := o_hide X12 N12
 refine o_iinc X12h hx 35 (1 : Int32) #[(sR o1), (sI 3), (sR o2), (sI 2), (sI 3), (sI 2), (sI c2)] (hb hby o_d12_32) rfl rfl rfl ?_
 refine o_iinc X12h hx 38 (1 : Int32) #[(sR o1), (sI 3), (sR o2), (sI 3), (sI 3), (sI 2), (sI c2)] (hb hby o_d12_35) rfl rfl rfl ?_
 refine o_iinc X12h hx 41 (1 : Int32) #[(sR o1), (sI 3), (sR o2), (sI 3), (sI 3), (sI 3), (sI c2)] (hb hby o_d12_38) rfl rfl rfl ?_
 refine o_goto X12h hx 3 (hb hby o_d12_41) ?_
 refine o_iload X12h hx 5 (hb hby o_d12_3) rfl ?_
 refine o_iload X12h hx 7 (hb hby o_d12_5) rfl ?_
 refine o_icmpYes X12h hx 44 (hb hby o_d12_7) (flt (by decide : ¬ ((3 : Int32) < (3 : Int32)))).2.1 ?_
 refine o_iload X12h hx 46 (hb hby o_d12_44) rfl ?_
 exact o_retI (z := (3 : Int32)) (Q := o_Q12n3L Z o1 o2 kb kc c0 c1 c2 h0 n0) X12h hx hrt (hb hby o_d12_46) hlk e12 ⟨rfl, N12h, KC13, V12⟩ (by decide) (by decide)
def o_Q12n3k0 (Z : State) (o1 : Addr) (o2 : Addr) (kb : ClassId) (kc : ClassId) (c0 : Int32) (c1 : Int32) (c2 : Int32) (h0 : Heap) (n0 : Nat) (v : Option Value) (h : Heap) (L : List Loc) : Prop := v = some (.int 0) ∧ Fr n0 L ∧ Keep h0 h [o2]
set_option maxRecDepth 65536 in
set_option maxHeartbeats 40000000 in
theorem o_rm12n3k0 (l : Launch) (Z : State) (a0 : Array Value) (hw : o_Hw Z a0) (ws : List Jvm.Cond) (o1 : Addr) (o2 : Addr) (kb : ClassId) (kc : ClassId) (c0 : Int32) (c1 : Int32) (c2 : Int32) (h0 : Heap) (n0 : Nat) (Z0 : n0 ≤ h0.size) (pV1 : Arv Z h0 o1 kc .char 3 [(.int c0), (.int c1), (.int c2)] (.int 0)) (pV2 : Arv Z h0 o2 kb .byte 3 [(.int 0), (.int 0), (.int 0)] (.int 0)) (pG3 : n0 ≤ o2) (pN4 : o1 ≠ o2) (hU : (255 : Int32) < c0) :
  o_Met l y26 jdk_52_method_21_code 7 (some .int) ws r0 #[(.ref o1), (.int 0), (.ref o2), (.int 0), (.int 3)] Z h0 (o_Q12n3k0 Z o1 o2 kb kc c0 c1 c2 h0 n0) := by
 refine MetFree.of_bodySF (plainFor_of_name o_pn4) hisR ?_
 intro p e s m args below meth c s₁ Bd hml0 hP hK
 obtain ⟨rfl, hZ, hh⟩ := hP
 obtain ⟨hx, hby, hlk, hrt⟩ := o_bd Bd
 have X0 : Stand p l e r0 s m #[(.ref o1), (.int 0), (.ref o2), (.int 0), (.int 3)] below meth c s₁ [] 0 0 := Stand.of_body Bd
 have e0 := o_e0 Bd hh
 have N0 := Fr.nil n0
 have KC0 := Keep.refl h0 [o2]
 refine o_in (g' := mkF m 0 #[(sR o1), (sI 0), (sR o2), (sI 0), (sI 3), .unset, .unset] []) (by simp [entryFrame, mkF, argsToLocals, Value.category]) ?_
 refine o_iconst X0 hx 1 0 (hb hby o_d12_0) rfl ?_
 refine o_istore X0 hx 3 #[(sR o1), (sI 0), (sR o2), (sI 0), (sI 3), (sI 0), .unset] (hb hby o_d12_1) rfl ?_
 refine o_iload X0 hx 5 (hb hby o_d12_3) rfl ?_
 refine o_iload X0 hx 7 (hb hby o_d12_5) rfl ?_
 refine o_icmpNo X0 hx 10 (hb hby o_d12_7) (tlt (by decide : (0 : Int32) < (3 : Int32))).2.1 ?_
 refine o_aloadN X0 hx 11 (hb hby o_d12_10) rfl rfl ?_
 refine o_iloadN X0 hx 12 (hb hby o_d12_11) rfl ?_
 obtain ⟨cl1, Ar1, qv1, S1, M1, H1, G1⟩ := id pV1
 have hin1 := inb_of (j := (0 : Int32)) S1 ⟨by decide, by decide⟩
 refine o_st (G' := s₁.setTop (mkF m 13 #[(sR o1), (sI 0), (sR o2), (sI 0), (sI 3), (sI 0), .unset] [(.int c0)])) (fun t k => X0.caload hx (j := (0 : Int32)) (v := (.int c0)) (by rw [e0]; exact Ar1.1) (State.isArrayOf_alike hZ.alike Ar1.2.1) Ar1.2.2 hin1 (H1.at hin1 rfl) (g := (mkF m 12 #[(sR o1), (sI 0), (sR o2), (sI 0), (sI 3), (sI 0), .unset] [(.int 0), (.ref o1)])) rfl rfl (hb hby o_d12_12) _ k) ?_
 refine o_istore X0 hx 15 #[(sR o1), (sI 0), (sR o2), (sI 0), (sI 3), (sI 0), (sI c0)] (hb hby o_d12_13) rfl ?_
 refine o_iload X0 hx 17 (hb hby o_d12_15) rfl ?_
 refine o_sipush X0 hx 20 255 (hb hby o_d12_17) rfl ?_
 refine o_icmpNo X0 hx 23 (hb hby o_d12_20) (tlt hU).2.2.2 ?_
 refine o_iload X0 hx 25 (hb hby o_d12_23) rfl ?_
 exact o_retI (z := (0 : Int32)) (Q := o_Q12n3k0 Z o1 o2 kb kc c0 c1 c2 h0 n0) X0 hx hrt (hb hby o_d12_25) hlk e0 ⟨rfl, N0, KC0⟩ (by decide) (by decide)
def o_Q12n3k1 (Z : State) (o1 : Addr) (o2 : Addr) (kb : ClassId) (kc : ClassId) (c0 : Int32) (c1 : Int32) (c2 : Int32) (h0 : Heap) (n0 : Nat) (v : Option Value) (h : Heap) (L : List Loc) : Prop := v = some (.int 1) ∧ Fr n0 L ∧ Keep h0 h [o2]
set_option maxRecDepth 65536 in
set_option maxHeartbeats 40000000 in
theorem o_rm12n3k1 (l : Launch) (Z : State) (a0 : Array Value) (hw : o_Hw Z a0) (ws : List Jvm.Cond) (o1 : Addr) (o2 : Addr) (kb : ClassId) (kc : ClassId) (c0 : Int32) (c1 : Int32) (c2 : Int32) (h0 : Heap) (n0 : Nat) (Z0 : n0 ≤ h0.size) (pV1 : Arv Z h0 o1 kc .char 3 [(.int c0), (.int c1), (.int c2)] (.int 0)) (pV2 : Arv Z h0 o2 kb .byte 3 [(.int 0), (.int 0), (.int 0)] (.int 0)) (pG3 : n0 ≤ o2) (pN4 : o1 ≠ o2) (hL0 : ¬ (255 : Int32) < c0) (hU : (255 : Int32) < c1) :
  o_Met l y26 jdk_52_method_21_code 7 (some .int) ws r0 #[(.ref o1), (.int 0), (.ref o2), (.int 0), (.int 3)] Z h0 (o_Q12n3k1 Z o1 o2 kb kc c0 c1 c2 h0 n0) := by
 refine MetFree.of_bodySF (plainFor_of_name o_pn4) hisR ?_
 intro p e s m args below meth c s₁ Bd hml0 hP hK
 obtain ⟨rfl, hZ, hh⟩ := hP
 obtain ⟨hx, hby, hlk, hrt⟩ := o_bd Bd
 have X0 : Stand p l e r0 s m #[(.ref o1), (.int 0), (.ref o2), (.int 0), (.int 3)] below meth c s₁ [] 0 0 := Stand.of_body Bd
 have e0 := o_e0 Bd hh
 have N0 := Fr.nil n0
 have KC0 := Keep.refl h0 [o2]
 refine o_in (g' := mkF m 0 #[(sR o1), (sI 0), (sR o2), (sI 0), (sI 3), .unset, .unset] []) (by simp [entryFrame, mkF, argsToLocals, Value.category]) ?_
 refine o_iconst X0 hx 1 0 (hb hby o_d12_0) rfl ?_
 refine o_istore X0 hx 3 #[(sR o1), (sI 0), (sR o2), (sI 0), (sI 3), (sI 0), .unset] (hb hby o_d12_1) rfl ?_
 refine o_iload X0 hx 5 (hb hby o_d12_3) rfl ?_
 refine o_iload X0 hx 7 (hb hby o_d12_5) rfl ?_
 refine o_icmpNo X0 hx 10 (hb hby o_d12_7) (tlt (by decide : (0 : Int32) < (3 : Int32))).2.1 ?_
 refine o_aloadN X0 hx 11 (hb hby o_d12_10) rfl rfl ?_
 refine o_iloadN X0 hx 12 (hb hby o_d12_11) rfl ?_
 obtain ⟨cl1, Ar1, qv1, S1, M1, H1, G1⟩ := id pV1
 have hin1 := inb_of (j := (0 : Int32)) S1 ⟨by decide, by decide⟩
 refine o_st (G' := s₁.setTop (mkF m 13 #[(sR o1), (sI 0), (sR o2), (sI 0), (sI 3), (sI 0), .unset] [(.int c0)])) (fun t k => X0.caload hx (j := (0 : Int32)) (v := (.int c0)) (by rw [e0]; exact Ar1.1) (State.isArrayOf_alike hZ.alike Ar1.2.1) Ar1.2.2 hin1 (H1.at hin1 rfl) (g := (mkF m 12 #[(sR o1), (sI 0), (sR o2), (sI 0), (sI 3), (sI 0), .unset] [(.int 0), (.ref o1)])) rfl rfl (hb hby o_d12_12) _ k) ?_
 refine o_istore X0 hx 15 #[(sR o1), (sI 0), (sR o2), (sI 0), (sI 3), (sI 0), (sI c0)] (hb hby o_d12_13) rfl ?_
 refine o_iload X0 hx 17 (hb hby o_d12_15) rfl ?_
 refine o_sipush X0 hx 20 255 (hb hby o_d12_17) rfl ?_
 refine o_icmpYes X0 hx 26 (hb hby o_d12_20) (flt hL0).2.2.2 ?_
 refine o_aloadN X0 hx 27 (hb hby o_d12_26) rfl rfl ?_
 refine o_iloadN X0 hx 28 (hb hby o_d12_27) rfl ?_
 refine o_iload X0 hx 30 (hb hby o_d12_28) rfl ?_
 refine o_i2b X0 hx 31 (hb hby o_d12_30) ?_
 obtain ⟨cl2, Ar2, qv2, S2, M2, H2, G2⟩ := id pV2
 have hin2 := inb_of (j := (0 : Int32)) S2 ⟨by decide, by decide⟩
 obtain ⟨T2, h2, X2, e2, W2, st2⟩ := stB X0 hx hZ e0 Ar2 (j := (0 : Int32)) hin2 (g := (mkF m 31 #[(sR o1), (sI 0), (sR o2), (sI 0), (sI 3), (sI 0), (sI c0)] [(.int (c0.toInt8.toInt32)), (.int 0), (.ref o2)])) rfl rfl (hb hby o_d12_31)
 have N2 := Fr.snoc X2 N0 pG3
 have KC3 := KC0.wr W2 (Or.inl (List.mem_of_getElem? (i := 0) rfl))
 refine o_st (G' := T2.setTop (mkF m 32 #[(sR o1), (sI 0), (sR o2), (sI 0), (sI 3), (sI 0), (sI c0)] [])) st2 ?_
 obtain ⟨_, X2h, N2h⟩ := o_hide X2 N2
 refine o_iinc X2h hx 35 (1 : Int32) #[(sR o1), (sI 1), (sR o2), (sI 0), (sI 3), (sI 0), (sI c0)] (hb hby o_d12_32) rfl rfl rfl ?_
 refine o_iinc X2h hx 38 (1 : Int32) #[(sR o1), (sI 1), (sR o2), (sI 1), (sI 3), (sI 0), (sI c0)] (hb hby o_d12_35) rfl rfl rfl ?_
 refine o_iinc X2h hx 41 (1 : Int32) #[(sR o1), (sI 1), (sR o2), (sI 1), (sI 3), (sI 1), (sI c0)] (hb hby o_d12_38) rfl rfl rfl ?_
 refine o_goto X2h hx 3 (hb hby o_d12_41) ?_
 refine o_iload X2h hx 5 (hb hby o_d12_3) rfl ?_
 refine o_iload X2h hx 7 (hb hby o_d12_5) rfl ?_
 refine o_icmpNo X2h hx 10 (hb hby o_d12_7) (tlt (by decide : (1 : Int32) < (3 : Int32))).2.1 ?_
 refine o_aloadN X2h hx 11 (hb hby o_d12_10) rfl rfl ?_
 refine o_iloadN X2h hx 12 (hb hby o_d12_11) rfl ?_
 have f5 := (pV1.other W2 pN4)
 obtain ⟨cl6, Ar6, qv6, S6, M6, H6, G6⟩ := id f5
 have hin6 := inb_of (j := (1 : Int32)) S6 ⟨by decide, by decide⟩
 refine o_st (G' := T2.setTop (mkF m 13 #[(sR o1), (sI 1), (sR o2), (sI 1), (sI 3), (sI 1), (sI c0)] [(.int c1)])) (fun t k => X2h.caload hx (j := (1 : Int32)) (v := (.int c1)) (by rw [e2]; exact Ar6.1) (State.isArrayOf_alike hZ.alike Ar6.2.1) Ar6.2.2 hin6 (H6.at hin6 rfl) (g := (mkF m 12 #[(sR o1), (sI 1), (sR o2), (sI 1), (sI 3), (sI 1), (sI c0)] [(.int 1), (.ref o1)])) rfl rfl (hb hby o_d12_12) _ k) ?_
 refine o_istore X2h hx 15 #[(sR o1), (sI 1), (sR o2), (sI 1), (sI 3), (sI 1), (sI c1)] (hb hby o_d12_13) rfl ?_
 refine o_iload X2h hx 17 (hb hby o_d12_15) rfl ?_
 refine o_sipush X2h hx 20 255 (hb hby o_d12_17) rfl ?_
 refine o_icmpNo X2h hx 23 (hb hby o_d12_20) (tlt hU).2.2.2 ?_
 refine o_iload X2h hx 25 (hb hby o_d12_23) rfl ?_
 exact o_retI (z := (1 : Int32)) (Q := o_Q12n3k1 Z o1 o2 kb kc c0 c1 c2 h0 n0) X2h hx hrt (hb hby o_d12_25) hlk e2 ⟨rfl, N2h, KC3⟩ (by decide) (by decide)
def o_Q12n3k2 (Z : State) (o1 : Addr) (o2 : Addr) (kb : ClassId) (kc : ClassId) (c0 : Int32) (c1 : Int32) (c2 : Int32) (h0 : Heap) (n0 : Nat) (v : Option Value) (h : Heap) (L : List Loc) : Prop := v = some (.int 2) ∧ Fr n0 L ∧ Keep h0 h [o2]
set_option maxRecDepth 65536 in
set_option maxHeartbeats 40000000 in
theorem o_rm12n3k2 (l : Launch) (Z : State) (a0 : Array Value) (hw : o_Hw Z a0) (ws : List Jvm.Cond) (o1 : Addr) (o2 : Addr) (kb : ClassId) (kc : ClassId) (c0 : Int32) (c1 : Int32) (c2 : Int32) (h0 : Heap) (n0 : Nat) (Z0 : n0 ≤ h0.size) (pV1 : Arv Z h0 o1 kc .char 3 [(.int c0), (.int c1), (.int c2)] (.int 0)) (pV2 : Arv Z h0 o2 kb .byte 3 [(.int 0), (.int 0), (.int 0)] (.int 0)) (pG3 : n0 ≤ o2) (pN4 : o1 ≠ o2) (hL0 : ¬ (255 : Int32) < c0) (hL1 : ¬ (255 : Int32) < c1) (hU : (255 : Int32) < c2) :
  o_Met l y26 jdk_52_method_21_code 7 (some .int) ws r0 #[(.ref o1), (.int 0), (.ref o2), (.int 0), (.int 3)] Z h0 (o_Q12n3k2 Z o1 o2 kb kc c0 c1 c2 h0 n0) := by
 refine MetFree.of_bodySF (plainFor_of_name o_pn4) hisR ?_
 intro p e s m args below meth c s₁ Bd hml0 hP hK
 obtain ⟨rfl, hZ, hh⟩ := hP
 obtain ⟨hx, hby, hlk, hrt⟩ := o_bd Bd
 have X0 : Stand p l e r0 s m #[(.ref o1), (.int 0), (.ref o2), (.int 0), (.int 3)] below meth c s₁ [] 0 0 := Stand.of_body Bd
 have e0 := o_e0 Bd hh
 have N0 := Fr.nil n0
 have KC0 := Keep.refl h0 [o2]
 refine o_in (g' := mkF m 0 #[(sR o1), (sI 0), (sR o2), (sI 0), (sI 3), .unset, .unset] []) (by simp [entryFrame, mkF, argsToLocals, Value.category]) ?_
 refine o_iconst X0 hx 1 0 (hb hby o_d12_0) rfl ?_
 refine o_istore X0 hx 3 #[(sR o1), (sI 0), (sR o2), (sI 0), (sI 3), (sI 0), .unset] (hb hby o_d12_1) rfl ?_
 refine o_iload X0 hx 5 (hb hby o_d12_3) rfl ?_
 refine o_iload X0 hx 7 (hb hby o_d12_5) rfl ?_
 refine o_icmpNo X0 hx 10 (hb hby o_d12_7) (tlt (by decide : (0 : Int32) < (3 : Int32))).2.1 ?_
 refine o_aloadN X0 hx 11 (hb hby o_d12_10) rfl rfl ?_
 refine o_iloadN X0 hx 12 (hb hby o_d12_11) rfl ?_
 obtain ⟨cl1, Ar1, qv1, S1, M1, H1, G1⟩ := id pV1
 have hin1 := inb_of (j := (0 : Int32)) S1 ⟨by decide, by decide⟩
 refine o_st (G' := s₁.setTop (mkF m 13 #[(sR o1), (sI 0), (sR o2), (sI 0), (sI 3), (sI 0), .unset] [(.int c0)])) (fun t k => X0.caload hx (j := (0 : Int32)) (v := (.int c0)) (by rw [e0]; exact Ar1.1) (State.isArrayOf_alike hZ.alike Ar1.2.1) Ar1.2.2 hin1 (H1.at hin1 rfl) (g := (mkF m 12 #[(sR o1), (sI 0), (sR o2), (sI 0), (sI 3), (sI 0), .unset] [(.int 0), (.ref o1)])) rfl rfl (hb hby o_d12_12) _ k) ?_
 refine o_istore X0 hx 15 #[(sR o1), (sI 0), (sR o2), (sI 0), (sI 3), (sI 0), (sI c0)] (hb hby o_d12_13) rfl ?_
 refine o_iload X0 hx 17 (hb hby o_d12_15) rfl ?_
 refine o_sipush X0 hx 20 255 (hb hby o_d12_17) rfl ?_
 refine o_icmpYes X0 hx 26 (hb hby o_d12_20) (flt hL0).2.2.2 ?_
 refine o_aloadN X0 hx 27 (hb hby o_d12_26) rfl rfl ?_
 refine o_iloadN X0 hx 28 (hb hby o_d12_27) rfl ?_
 refine o_iload X0 hx 30 (hb hby o_d12_28) rfl ?_
 refine o_i2b X0 hx 31 (hb hby o_d12_30) ?_
 obtain ⟨cl2, Ar2, qv2, S2, M2, H2, G2⟩ := id pV2
 have hin2 := inb_of (j := (0 : Int32)) S2 ⟨by decide, by decide⟩
 obtain ⟨T2, h2, X2, e2, W2, st2⟩ := stB X0 hx hZ e0 Ar2 (j := (0 : Int32)) hin2 (g := (mkF m 31 #[(sR o1), (sI 0), (sR o2), (sI 0), (sI 3), (sI 0), (sI c0)] [(.int (c0.toInt8.toInt32)), (.int 0), (.ref o2)])) rfl rfl (hb hby o_d12_31)
 have V2 : Arv Z h2 o2 kb .byte 3 [(.int (nar .byte (c0.toInt8.toInt32))), (.int 0), (.int 0)] (.int 0) := Arv.set Ar2 qv2 S2 M2 H2 G2 (fits_nar_byte _) W2 0 rfl (Nat.le_of_ble_eq_true rfl)
 have N2 := Fr.snoc X2 N0 pG3
 have KC3 := KC0.wr W2 (Or.inl (List.mem_of_getElem? (i := 0) rfl))
 refine o_st (G' := T2.setTop (mkF m 32 #[(sR o1), (sI 0), (sR o2), (sI 0), (sI 3), (sI 0), (sI c0)] [])) st2 ?_
 obtain ⟨_, X2h, N2h⟩ := o_hide X2 N2
 refine o_iinc X2h hx 35 (1 : Int32) #[(sR o1), (sI 1), (sR o2), (sI 0), (sI 3), (sI 0), (sI c0)] (hb hby o_d12_32) rfl rfl rfl ?_
 refine o_iinc X2h hx 38 (1 : Int32) #[(sR o1), (sI 1), (sR o2), (sI 1), (sI 3), (sI 0), (sI c0)] (hb hby o_d12_35) rfl rfl rfl ?_
 refine o_iinc X2h hx 41 (1 : Int32) #[(sR o1), (sI 1), (sR o2), (sI 1), (sI 3), (sI 1), (sI c0)] (hb hby o_d12_38) rfl rfl rfl ?_
 refine o_goto X2h hx 3 (hb hby o_d12_41) ?_
 refine o_iload X2h hx 5 (hb hby o_d12_3) rfl ?_
 refine o_iload X2h hx 7 (hb hby o_d12_5) rfl ?_
 refine o_icmpNo X2h hx 10 (hb hby o_d12_7) (tlt (by decide : (1 : Int32) < (3 : Int32))).2.1 ?_
 refine o_aloadN X2h hx 11 (hb hby o_d12_10) rfl rfl ?_
 refine o_iloadN X2h hx 12 (hb hby o_d12_11) rfl ?_
 have f5 := (pV1.other W2 pN4)
 obtain ⟨cl6, Ar6, qv6, S6, M6, H6, G6⟩ := id f5
 have hin6 := inb_of (j := (1 : Int32)) S6 ⟨by decide, by decide⟩
 refine o_st (G' := T2.setTop (mkF m 13 #[(sR o1), (sI 1), (sR o2), (sI 1), (sI 3), (sI 1), (sI c0)] [(.int c1)])) (fun t k => X2h.caload hx (j := (1 : Int32)) (v := (.int c1)) (by rw [e2]; exact Ar6.1) (State.isArrayOf_alike hZ.alike Ar6.2.1) Ar6.2.2 hin6 (H6.at hin6 rfl) (g := (mkF m 12 #[(sR o1), (sI 1), (sR o2), (sI 1), (sI 3), (sI 1), (sI c0)] [(.int 1), (.ref o1)])) rfl rfl (hb hby o_d12_12) _ k) ?_
 refine o_istore X2h hx 15 #[(sR o1), (sI 1), (sR o2), (sI 1), (sI 3), (sI 1), (sI c1)] (hb hby o_d12_13) rfl ?_
 refine o_iload X2h hx 17 (hb hby o_d12_15) rfl ?_
 refine o_sipush X2h hx 20 255 (hb hby o_d12_17) rfl ?_
 refine o_icmpYes X2h hx 26 (hb hby o_d12_20) (flt hL1).2.2.2 ?_
 refine o_aloadN X2h hx 27 (hb hby o_d12_26) rfl rfl ?_
 refine o_iloadN X2h hx 28 (hb hby o_d12_27) rfl ?_
 refine o_iload X2h hx 30 (hb hby o_d12_28) rfl ?_
 refine o_i2b X2h hx 31 (hb hby o_d12_30) ?_
 obtain ⟨cl7, Ar7, qv7, S7, M7, H7, G7⟩ := id V2
 have hin7 := inb_of (j := (1 : Int32)) S7 ⟨by decide, by decide⟩
 obtain ⟨T7, h7, X7, e7, W7, st7⟩ := stB X2h hx hZ e2 Ar7 (j := (1 : Int32)) hin7 (g := (mkF m 31 #[(sR o1), (sI 1), (sR o2), (sI 1), (sI 3), (sI 1), (sI c1)] [(.int (c1.toInt8.toInt32)), (.int 1), (.ref o2)])) rfl rfl (hb hby o_d12_31)
 have N7 := Fr.snoc X7 N2h pG3
 have KC8 := KC3.wr W7 (Or.inl (List.mem_of_getElem? (i := 0) rfl))
 refine o_st (G' := T7.setTop (mkF m 32 #[(sR o1), (sI 1), (sR o2), (sI 1), (sI 3), (sI 1), (sI c1)] [])) st7 ?_
 obtain ⟨_, X7h, N7h⟩ := o_hide X7 N7
 refine o_iinc X7h hx 35 (1 : Int32) #[(sR o1), (sI 2), (sR o2), (sI 1), (sI 3), (sI 1), (sI c1)] (hb hby o_d12_32) rfl rfl rfl ?_
 refine o_iinc X7h hx 38 (1 : Int32) #[(sR o1), (sI 2), (sR o2), (sI 2), (sI 3), (sI 1), (sI c1)] (hb hby o_d12_35) rfl rfl rfl ?_
 refine o_iinc X7h hx 41 (1 : Int32) #[(sR o1), (sI 2), (sR o2), (sI 2), (sI 3), (sI 2), (sI c1)] (hb hby o_d12_38) rfl rfl rfl ?_
 refine o_goto X7h hx 3 (hb hby o_d12_41) ?_
 refine o_iload X7h hx 5 (hb hby o_d12_3) rfl ?_
 refine o_iload X7h hx 7 (hb hby o_d12_5) rfl ?_
 refine o_icmpNo X7h hx 10 (hb hby o_d12_7) (tlt (by decide : (2 : Int32) < (3 : Int32))).2.1 ?_
 refine o_aloadN X7h hx 11 (hb hby o_d12_10) rfl rfl ?_
 refine o_iloadN X7h hx 12 (hb hby o_d12_11) rfl ?_
 have f10 := (f5.other W7 pN4)
 obtain ⟨cl11, Ar11, qv11, S11, M11, H11, G11⟩ := id f10
 have hin11 := inb_of (j := (2 : Int32)) S11 ⟨by decide, by decide⟩
 refine o_st (G' := T7.setTop (mkF m 13 #[(sR o1), (sI 2), (sR o2), (sI 2), (sI 3), (sI 2), (sI c1)] [(.int c2)])) (fun t k => X7h.caload hx (j := (2 : Int32)) (v := (.int c2)) (by rw [e7]; exact Ar11.1) (State.isArrayOf_alike hZ.alike Ar11.2.1) Ar11.2.2 hin11 (H11.at hin11 rfl) (g := (mkF m 12 #[(sR o1), (sI 2), (sR o2), (sI 2), (sI 3), (sI 2), (sI c1)] [(.int 2), (.ref o1)])) rfl rfl (hb hby o_d12_12) _ k) ?_
 refine o_istore X7h hx 15 #[(sR o1), (sI 2), (sR o2), (sI 2), (sI 3), (sI 2), (sI c2)] (hb hby o_d12_13) rfl ?_
 refine o_iload X7h hx 17 (hb hby o_d12_15) rfl ?_
 refine o_sipush X7h hx 20 255 (hb hby o_d12_17) rfl ?_
 refine o_icmpNo X7h hx 23 (hb hby o_d12_20) (tlt hU).2.2.2 ?_
 refine o_iload X7h hx 25 (hb hby o_d12_23) rfl ?_
 exact o_retI (z := (2 : Int32)) (Q := o_Q12n3k2 Z o1 o2 kb kc c0 c1 c2 h0 n0) X7h hx hrt (hb hby o_d12_25) hlk e7 ⟨rfl, N7h, KC8⟩ (by decide) (by decide)
def o_Q11n3L (Z : State) (cs : Int32) (sf : Value) (GG : o_G Z cs sf) (o1 : Addr) (kc : ClassId) (c0 : Int32) (c1 : Int32) (c2 : Int32) (h0 : Heap) (n0 : Nat) (v : Option Value) (h : Heap) (L : List Loc) : Prop := ∃ bb : Addr, ∃ kb : ClassId, v = some (.ref bb) ∧ Fr n0 L ∧ Keep h0 h [] ∧ h0.size ≤ bb ∧ Arv Z h bb kb .byte 3 [(.int (nar .byte c0.toInt8.toInt32)), (.int (nar .byte c1.toInt8.toInt32)), (.int (nar .byte c2.toInt8.toInt32))] (.int 0)
set_option maxRecDepth 65536 in
set_option maxHeartbeats 40000000 in
theorem o_rm11n3L (l : Launch) (Z : State) (a0 : Array Value) (hw : o_Hw Z a0) (ws : List Jvm.Cond) (cs : Int32) (sf : Value) (GG : o_G Z cs sf) (o1 : Addr) (kc : ClassId) (c0 : Int32) (c1 : Int32) (c2 : Int32) (h0 : Heap) (n0 : Nat) (Z0 : n0 ≤ h0.size) (pV1 : Arv Z h0 o1 kc .char 3 [(.int c0), (.int c1), (.int c2)] (.int 0)) (O0 : Old Z n0 h0) (hC0 : o_C c0) (hC1 : o_C c1) (hC2 : o_C c2) (hL0 : ¬ (255 : Int32) < c0) (hL1 : ¬ (255 : Int32) < c1) (hL2 : ¬ (255 : Int32) < c2) :
  o_Met l y27 jdk_52_method_16_code 6 (some (.array .byte)) ws r43 #[(.ref o1), (.int 0), (.int 3)] Z h0 (o_Q11n3L Z cs sf GG o1 kc c0 c1 c2 h0 n0) := by
 refine MetFree.of_bodySF (plainFor_of_name o_pn4) hisR ?_
 intro p e s m args below meth c s₁ Bd hml0 hP hK
 obtain ⟨rfl, hZ, hh⟩ := hP
 obtain ⟨hx, hby, hlk, hrt⟩ := o_bd Bd
 have hml : c.maxLocals = 6 := hml0
 have hown : s.vm.findClass "java/lang/StringUTF16" = some m.cls := findClass_of_methodNamed Bd.named
 have X0 : Stand p l e r43 s m #[(.ref o1), (.int 0), (.int 3)] below meth c s₁ [] 0 0 := Stand.of_body Bd
 have e0 := o_e0 Bd hh
 have N0 := Fr.nil n0
 have KC0 := Keep.refl h0 []
 refine o_in (g' := mkF m 0 #[(sR o1), (sI 0), (sI 3), .unset, .unset, .unset] []) (by simp [entryFrame, mkF, argsToLocals, Value.category]) ?_
 refine o_iloadN X0 hx 1 (hb hby o_d11_0) rfl ?_
 obtain ⟨T1, h1, k1, X1, e1, E1, A1, st1⟩ := newP X0 hx hZ (W hw 15 rfl) e0 (g := (mkF m 1 #[(sR o1), (sI 0), (sI 3), .unset, .unset, .unset] [(.int 3)])) rfl (hb hby o_d11_1) rfl (by decide) (cap := 3) (by decide) (by decide) (by decide) (by decide)
 obtain ⟨b1, g1⟩ : ∃ z, z = h0.size := ⟨_, rfl⟩
 rw [← g1] at A1 st1
 have ne2 : o1 ≠ b1 := Nat.ne_of_lt (Nat.lt_of_lt_of_le pV1.lt (Nat.le_of_eq g1.symm))
 have gt_b1 : n0 ≤ b1 := Nat.le_trans Z0 (Nat.le_of_eq g1.symm)
 have sz_b1 : h0.size ≤ b1 := Nat.le_trans KC0.1 (Nat.le_of_eq g1.symm)
 have V1 : Arv Z h1 b1 k1 .byte 3 [(.int 0), (.int 0), (.int 0)] (.int 0) := (Arv.new A1 (by decide)).pad (pad_rep [] (.int 0) 3)
 have KC4 := KC0.ext E1
 have Z5 := Nat.le_trans Z0 E1.1
 refine o_st (G' := T1.setTop (mkF m 3 #[(sR o1), (sI 0), (sI 3), .unset, .unset, .unset] [(.ref b1)])) st1 ?_
 obtain ⟨_, X1h, N1h⟩ := o_hide X1 N0
 refine o_astoreN X1h hx 4 #[(sR o1), (sI 0), (sI 3), (sR b1), .unset, .unset] (hb hby o_d11_3) rfl rfl ?_
 refine o_aloadN X1h hx 5 (hb hby o_d11_4) rfl rfl ?_
 refine o_iloadN X1h hx 6 (hb hby o_d11_5) rfl ?_
 refine o_aloadN X1h hx 7 (hb hby o_d11_6) rfl rfl ?_
 refine o_iconst X1h hx 8 0 (hb hby o_d11_7) rfl ?_
 refine o_iloadN X1h hx 9 (hb hby o_d11_8) rfl ?_
 have f6 := (pV1.ext E1)
 obtain ⟨_, _, ⟨T7, Lx7, kc7, nc7⟩, -, X7, ⟨Lc7, hQ7, lq7, yq7, zq7⟩, st7⟩ := Jvm.LawKit.callS X1h hx (y := y26) hown (mvT hZ (W hw 60 rfl)) (mvT hZ (W hw 61 rfl)) (mvT hZ (W hw 58 rfl)) (mvT hZ (W hw 62 rfl)) (by decide) (backOf (W := 0) (o_rm12n3L l Z a0 hw [] o1 b1 k1 kc c0 c1 c2 h1 n0 Z5 f6 V1 gt_b1 ne2 (hL0 : ¬ (255 : Int32) < c0) (hL1 : ¬ (255 : Int32) < c1) (hL2 : ¬ (255 : Int32) < c2)) hZ (W hw 62 rfl) (W hw 58 rfl) (by decide) (by decide)) (g := (mkF m 9 #[(sR o1), (sI 0), (sI 3), (sR b1), .unset, .unset] [(.int 3), (.int 0), (.ref b1), (.int 0), (.ref o1)])) rfl (by rw [hml]; rfl) (argsL := [(.ref o1), (.int 0), (.ref b1), (.int 0), (.int 3)]) (rest := []) (lenOf o_pd16 rfl) rfl (o_wl rfl) (hb hby o_d11_9) (fun _ _ => ⟨rfl, e1, (by decide : 1 + 0 ≤ _), (by decide : 3 + 0 ≤ _)⟩)
 dsimp only [Pt.U, Pt.locs, Pt.cells, Pt.slots] at X7 lq7 yq7 zq7 st7 hQ7
 subst lq7 yq7 zq7
 obtain ⟨rfl, Nq7, Kp7, G7_0⟩ := hQ7
 have N7 := Fr.app N1h Nq7
 have KC9 := KC4.trans Kp7 (allS (Or.inr sz_b1) all0)
 refine o_st (G' := T7.setTop (mkF m 12 #[(sR o1), (sI 0), (sI 3), (sR b1), .unset, .unset] [(.int 3)])) st7 ?_
 obtain ⟨_, X7h, N7h⟩ := o_hide X7 N7
 refine o_istore X7h hx 14 #[(sR o1), (sI 0), (sI 3), (sR b1), (sI 3), .unset] (hb hby o_d11_12) rfl ?_
 refine o_iload X7h hx 16 (hb hby o_d11_14) rfl ?_
 refine o_iloadN X7h hx 17 (hb hby o_d11_16) rfl ?_
 refine o_icmpYes X7h hx 57 (hb hby o_d11_17) (teq (rfl : (3 : Int32) = (3 : Int32))).1 ?_
 refine o_aloadN X7h hx 58 (hb hby o_d11_57) rfl rfl ?_
 exact o_retA (z := (.ref b1)) (Q := o_Q11n3L Z cs sf GG o1 kc c0 c1 c2 h0 n0) X7h hx hrt rfl rfl (hb hby o_d11_58) hlk rfl ⟨b1, k1, rfl, N7h, KC9, sz_b1, G7_0⟩ (by decide) (by decide)
def o_Q2n3L (Z : State) (cs : Int32) (sf : Value) (GG : o_G Z cs sf) (o1 : Addr) (o2 : Addr) (kc : ClassId) (c0 : Int32) (c1 : Int32) (c2 : Int32) (h0 : Heap) (n0 : Nat) (v : Option Value) (h : Heap) (L : List Loc) : Prop := ∃ bb : Addr, ∃ kb : ClassId, v = none ∧ Fr n0 L ∧ Keep h0 h [o1] ∧ Exa Z h o1 "java/lang/String" ∧ h0.size ≤ bb ∧ Fld Z h o1 "java/lang/String" "value" "[B" (.ref bb) ∧ Fld Z h o1 "java/lang/String" "coder" "B" (.int 0) ∧ Arv Z h bb kb .byte 3 [(.int (nar .byte c0.toInt8.toInt32)), (.int (nar .byte c1.toInt8.toInt32)), (.int (nar .byte c2.toInt8.toInt32))] (.int 0)
set_option maxRecDepth 65536 in
set_option maxHeartbeats 40000000 in
theorem o_rm2n3L (l : Launch) (Z : State) (a0 : Array Value) (hw : o_Hw Z a0) (ws : List Jvm.Cond) (cs : Int32) (sf : Value) (GG : o_G Z cs sf) (o1 : Addr) (o2 : Addr) (kc : ClassId) (c0 : Int32) (c1 : Int32) (c2 : Int32) (h0 : Heap) (n0 : Nat) (Z0 : n0 ≤ h0.size) (pE1 : Exa Z h0 o1 "java/lang/String") (pF2 : Fld Z h0 o1 "java/lang/String" "value" "[B" .null) (pF3 : Fld Z h0 o1 "java/lang/String" "coder" "B" (.int 0)) (pG4 : n0 ≤ o1) (O0 : Old Z n0 h0) (pV6 : Arv Z h0 o2 kc .char 3 [(.int c0), (.int c1), (.int c2)] (.int 0)) (hC0 : o_C c0) (hC1 : o_C c1) (hC2 : o_C c2) (hL0 : ¬ (255 : Int32) < c0) (hL1 : ¬ (255 : Int32) < c1) (hL2 : ¬ (255 : Int32) < c2) :
  o_Met l y28 jdk_42_method_149_code 6 none ws r44 #[(.ref o1), (.ref o2), (.int 0), (.int 3), .null] Z h0 (o_Q2n3L Z cs sf GG o1 o2 kc c0 c1 c2 h0 n0) := by
 refine MetFree.of_bodySF (plainFor_of_name o_pn3) hisR ?_
 intro p e s m args below meth c s₁ Bd hml0 hP hK
 obtain ⟨rfl, hZ, hh⟩ := hP
 obtain ⟨hx, hby, hlk, hrt⟩ := o_bd Bd
 have hml : c.maxLocals = 6 := hml0
 have hown : s.vm.findClass "java/lang/String" = some m.cls := findClass_of_methodNamed Bd.named
 have hnm := (name_of_methodNamed Bd.named Bd.method).1
 have X0 : Stand p l e r44 s m #[(.ref o1), (.ref o2), (.int 0), (.int 3), .null] below meth c s₁ [] 0 0 := Stand.of_body Bd
 have e0 := o_e0 Bd hh
 have N0 := Fr.nil n0
 have KC0 := Keep.refl h0 [o1]
 refine o_in (g' := mkF m 0 #[(sR o1), (sR o2), (sI 0), (sI 3), .val .null, .unset] []) (by simp [entryFrame, mkF, argsToLocals, Value.category]) ?_
 refine o_aloadN X0 hx 1 (hb hby o_d2_0) rfl rfl ?_
 obtain ⟨T1, X1, e1, st1⟩ := initO X0 hx hZ hown (W hw 11 rfl) (W hw 12 rfl) (W hw 13 rfl) e0 (g := (mkF m 1 #[(sR o1), (sR o2), (sI 0), (sI 3), .val .null, .unset] [(.ref o1)])) rfl (by rw [hml]; rfl) rfl (hb hby o_d2_1) (by decide) (W := 0) (o_wl rfl) (by decide)
 refine o_st (G' := T1.setTop (mkF m 4 #[(sR o1), (sR o2), (sI 0), (sI 3), .val .null, .unset] [])) st1 ?_
 obtain ⟨_, X1h, N1h⟩ := o_hide X1 N0
 refine o_iloadN X1h hx 5 (hb hby o_d2_4) rfl ?_
 refine o_ifYes X1h hx 27 (hb hby o_d2_5) (feq (by decide : ¬ ((3 : Int32) = (0 : Int32)))).2 ?_
 obtain ⟨T2, X2, e2, st2⟩ := getS2 X1h hx hZ hown (host := "") (Or.inl (W hw 36 rfl)) Via.refl e1 (GG.1.ext O0.2) (g := (mkF m 27 #[(sR o1), (sR o2), (sI 0), (sI 3), .val .null, .unset] [])) rfl (hb hby o_d2_27)
 refine o_st (G' := T2.setTop (mkF m 30 #[(sR o1), (sR o2), (sI 0), (sI 3), .val .null, .unset] [(.int cs)])) st2 ?_
 obtain ⟨_, X2h, N2h⟩ := o_hide X2 N1h
 refine o_ifNo X2h hx 33 (hb hby o_d2_30) (feq (GG.2.1 : ¬ (cs = (0 : Int32)))).1 ?_
 refine o_aloadN X2h hx 34 (hb hby o_d2_33) rfl rfl ?_
 refine o_iloadN X2h hx 35 (hb hby o_d2_34) rfl ?_
 refine o_iloadN X2h hx 36 (hb hby o_d2_35) rfl ?_
 obtain ⟨_, _, ⟨T3, Lx3, kc3, nc3⟩, -, X3, ⟨Lc3, hQ3, lq3, yq3, zq3⟩, st3⟩ := Jvm.LawKit.callS X2h hx (y := y27) hown (mvT hZ (W hw 56 rfl)) (mvT hZ (W hw 57 rfl)) (mvT hZ (W hw 58 rfl)) (mvT hZ (W hw 59 rfl)) (by decide) (backOf (W := 0) (o_rm11n3L l Z a0 hw [] cs sf GG o2 kc c0 c1 c2 h0 n0 Z0 pV6 O0 (hC0 : o_C c0) (hC1 : o_C c1) (hC2 : o_C c2) (hL0 : ¬ (255 : Int32) < c0) (hL1 : ¬ (255 : Int32) < c1) (hL2 : ¬ (255 : Int32) < c2)) hZ (W hw 59 rfl) (W hw 58 rfl) (by decide) (by decide)) (g := (mkF m 36 #[(sR o1), (sR o2), (sI 0), (sI 3), .val .null, .unset] [(.int 3), (.int 0), (.ref o2)])) rfl (by rw [hml]; rfl) (argsL := [(.ref o2), (.int 0), (.int 3)]) (rest := []) (lenOf o_pd17 rfl) rfl (o_wl rfl) (hb hby o_d2_36) (fun _ _ => ⟨rfl, e2, (by decide : 0 + 1 ≤ _), (by decide : 0 + 3 ≤ _)⟩)
 dsimp only [Pt.U, Pt.locs, Pt.cells, Pt.slots] at X3 lq3 yq3 zq3 st3 hQ3
 subst lq3 yq3 zq3
 obtain ⟨bb_3, kb_3, rfl, Nq3, Kp3, G3_0, G3_1⟩ := hQ3
 have N3 := Fr.app N2h Nq3
 have ne4 : o1 ≠ bb_3 := Nat.ne_of_lt (Nat.lt_of_lt_of_le pE1.lt G3_0)
 have sz_bb_3 : h0.size ≤ bb_3 := Nat.le_trans KC0.1 G3_0
 have KC7 := KC0.trans Kp3 all0
 have Z8 := Nat.le_trans Z0 Kp3.1
 refine o_st (G' := T3.setTop (mkF m 39 #[(sR o1), (sR o2), (sI 0), (sI 3), .val .null, .unset] [(.ref bb_3)])) st3 ?_
 obtain ⟨_, X3h, N3h⟩ := o_hide X3 N3
 refine o_astore X3h hx 41 #[(sR o1), (sR o2), (sI 0), (sI 3), .val .null, (sR bb_3)] (hb hby o_d2_39) rfl rfl ?_
 refine o_aloadN X3h hx 42 (hb hby o_d2_41) rfl rfl ?_
 refine o_aload X3h hx 44 (hb hby o_d2_42) rfl rfl ?_
 refine o_iloadN X3h hx 45 (hb hby o_d2_44) rfl ?_
 obtain ⟨_, _, ⟨T9, Lx9, kc9, nc9⟩, -, X9, ⟨Lc9, hQ9, lq9, yq9, zq9⟩, st9⟩ := Jvm.LawKit.callS X3h hx (y := y22) hown (mvT hZ (W hw 63 rfl)) (mvT hZ (W hw 64 rfl)) (mvT hZ (W hw 58 rfl)) (mvT hZ (W hw 65 rfl)) (by decide) (backOf (W := 1) (o_rm13n3L l Z a0 hw [] bb_3 kb_3 [(.int (nar .byte c0.toInt8.toInt32)), (.int (nar .byte c1.toInt8.toInt32)), (.int (nar .byte c2.toInt8.toInt32))] T3.heap n0 Z8 G3_1) hZ (W hw 65 rfl) (W hw 58 rfl) (by decide) (by decide)) (g := (mkF m 45 #[(sR o1), (sR o2), (sI 0), (sI 3), .val .null, (sR bb_3)] [(.int 3), (.ref bb_3), (.ref o1)])) rfl (by rw [hml]; rfl) (argsL := [(.ref bb_3), (.int 3)]) (rest := [(.ref o1)]) (lenOf o_pd18 rfl) rfl (o_wl rfl) (hb hby o_d2_45) (fun _ _ => ⟨rfl, rfl, (by decide : 1 + 0 ≤ _), (by decide : 3 + 0 ≤ _)⟩)
 dsimp only [Pt.U, Pt.locs, Pt.cells, Pt.slots] at X9 lq9 yq9 zq9 st9 hQ9
 subst lq9 yq9 zq9
 obtain ⟨rfl, Nq9, eh9⟩ := hQ9
 have N9 := Fr.app N3h Nq9
 refine o_st (G' := T9.setTop (mkF m 48 #[(sR o1), (sR o2), (sI 0), (sI 3), .val .null, (sR bb_3)] [(.int 0), (.ref o1)])) st9 ?_
 obtain ⟨_, X9h, N9h⟩ := o_hide X9 N9
 have f10 := (pF3.keep Kp3 nin0)
 have f11 := (pE1.keep Kp3)
 obtain ⟨T12, h12, X12, e12, W12, st12⟩ := putFN X9h hx hZ hown (W hw 21 rfl) Via.refl eh9 f10 f11 (Or.inr ⟨(W hw 17 rfl), rfl, hnm⟩) (W hw 2 rfl) (ty := .byte) (v' := (.int 0)) (by decide) rfl rfl (g := (mkF m 48 #[(sR o1), (sR o2), (sI 0), (sI 3), .val .null, (sR bb_3)] [(.int 0), (.ref o1)])) rfl rfl (hb hby o_d2_48)
 have Fw12 := f10.same W12
 have N12 := Fr.snoc X12 N9h pG4
 have KC14 := KC7.wr W12 (Or.inl (List.mem_of_getElem? (i := 0) rfl))
 refine o_st (G' := T12.setTop (mkF m 51 #[(sR o1), (sR o2), (sI 0), (sI 3), .val .null, (sR bb_3)] [])) st12 ?_
 obtain ⟨_, X12h, N12h⟩ := o_hide X12 N12
 refine o_aloadN X12h hx 52 (hb hby o_d2_51) rfl rfl ?_
 refine o_aload X12h hx 54 (hb hby o_d2_52) rfl rfl ?_
 have f16 := ((pF2.keep Kp3 nin0).other W12 (Or.inr (slot_ne (Or.inr (W hw 16 rfl)) (Or.inr (W hw 17 rfl)) (by decide) (t := (.array .byte)) (t' := .byte) (by decide) (by decide))))
 have f17 := (f11.wr W12)
 obtain ⟨T18, h18, X18, e18, W18, st18⟩ := putF X12h hx hZ hown (host := "") (Or.inl (W hw 20 rfl)) Via.refl e12 f16 f17 (Or.inr ⟨(W hw 16 rfl), rfl, hnm⟩) (W hw 2 rfl) (v := (.ref bb_3)) (ty := (.array .byte)) (by decide) rfl rfl (g := (mkF m 54 #[(sR o1), (sR o2), (sI 0), (sI 3), .val .null, (sR bb_3)] [(.ref bb_3), (.ref o1)])) rfl rfl (hb hby o_d2_54)
 have Fw18 := f16.same W18
 have N18 := Fr.snoc X18 N12h pG4
 have KC20 := KC14.wr W18 (Or.inl (List.mem_of_getElem? (i := 0) rfl))
 refine o_st (G' := T18.setTop (mkF m 57 #[(sR o1), (sR o2), (sI 0), (sI 3), .val .null, (sR bb_3)] [])) st18 ?_
 obtain ⟨_, X18h, N18h⟩ := o_hide X18 N18
 have f22 := (f17.wr W18)
 have f23 := (Fw12.other W18 (Or.inr (slot_ne (Or.inr (W hw 17 rfl)) (Or.inr (W hw 16 rfl)) (by decide) (t := .byte) (t' := (.array .byte)) (by decide) (by decide))))
 have f24 := ((G3_1.other W12 (Ne.symm ne4)).other W18 (Ne.symm ne4))
 exact o_retV (Q := o_Q2n3L Z cs sf GG o1 o2 kc c0 c1 c2 h0 n0) X18h hx hrt (hb hby o_d2_57) hlk e18 ⟨bb_3, kb_3, rfl, N18h, KC20, f22, sz_bb_3, Fw18, f23, f24⟩ (by decide) (by decide)
def o_Q1n3L (Z : State) (cs : Int32) (sf : Value) (GG : o_G Z cs sf) (o1 : Addr) (o2 : Addr) (kc : ClassId) (c0 : Int32) (c1 : Int32) (c2 : Int32) (h0 : Heap) (n0 : Nat) (v : Option Value) (h : Heap) (L : List Loc) : Prop := ∃ bb : Addr, ∃ kb : ClassId, v = none ∧ Fr n0 L ∧ Keep h0 h [o1] ∧ Exa Z h o1 "java/lang/String" ∧ h0.size ≤ bb ∧ Fld Z h o1 "java/lang/String" "value" "[B" (.ref bb) ∧ Fld Z h o1 "java/lang/String" "coder" "B" (.int 0) ∧ Arv Z h bb kb .byte 3 [(.int (nar .byte c0.toInt8.toInt32)), (.int (nar .byte c1.toInt8.toInt32)), (.int (nar .byte c2.toInt8.toInt32))] (.int 0)
set_option maxRecDepth 65536 in
set_option maxHeartbeats 40000000 in
theorem o_rm1n3L (l : Launch) (Z : State) (a0 : Array Value) (hw : o_Hw Z a0) (ws : List Jvm.Cond) (cs : Int32) (sf : Value) (GG : o_G Z cs sf) (o1 : Addr) (o2 : Addr) (kc : ClassId) (c0 : Int32) (c1 : Int32) (c2 : Int32) (h0 : Heap) (n0 : Nat) (Z0 : n0 ≤ h0.size) (pE1 : Exa Z h0 o1 "java/lang/String") (pF2 : Fld Z h0 o1 "java/lang/String" "value" "[B" .null) (pF3 : Fld Z h0 o1 "java/lang/String" "coder" "B" (.int 0)) (pG4 : n0 ≤ o1) (O0 : Old Z n0 h0) (pV6 : Arv Z h0 o2 kc .char 3 [(.int c0), (.int c1), (.int c2)] (.int 0)) (hC0 : o_C c0) (hC1 : o_C c1) (hC2 : o_C c2) (hL0 : ¬ (255 : Int32) < c0) (hL1 : ¬ (255 : Int32) < c1) (hL2 : ¬ (255 : Int32) < c2) :
  o_Met l y29 jdk_42_method_3_code 2 none ws r45 #[(.ref o1), (.ref o2)] Z h0 (o_Q1n3L Z cs sf GG o1 o2 kc c0 c1 c2 h0 n0) := by
 refine MetFree.of_bodySF (plainFor_of_name o_pn3) hisR ?_
 intro p e s m args below meth c s₁ Bd hml0 hP hK
 obtain ⟨rfl, hZ, hh⟩ := hP
 obtain ⟨hx, hby, hlk, hrt⟩ := o_bd Bd
 have hml : c.maxLocals = 2 := hml0
 have hown : s.vm.findClass "java/lang/String" = some m.cls := findClass_of_methodNamed Bd.named
 have X0 : Stand p l e r45 s m #[(.ref o1), (.ref o2)] below meth c s₁ [] 0 0 := Stand.of_body Bd
 have e0 := o_e0 Bd hh
 have N0 := Fr.nil n0
 have KC0 := Keep.refl h0 [o1]
 refine o_in (g' := mkF m 0 #[(sR o1), (sR o2)] []) (by simp [entryFrame, mkF, argsToLocals, Value.category]) ?_
 refine o_aloadN X0 hx 1 (hb hby o_d1_0) rfl rfl ?_
 refine o_aloadN X0 hx 2 (hb hby o_d1_1) rfl rfl ?_
 refine o_iconst X0 hx 3 0 (hb hby o_d1_2) rfl ?_
 refine o_aloadN X0 hx 4 (hb hby o_d1_3) rfl rfl ?_
 obtain ⟨cl1, Ar1, qv1, S1, M1, H1, G1⟩ := id pV6
 have ln1 := len_of S1 M1
 refine o_st (G' := s₁.setTop (mkF m 5 #[(sR o1), (sR o2)] [(.int 3), (.int 0), (.ref o2), (.ref o1)])) (fun t k => X0.arraylength hx (by rw [e0]; exact Ar1.1) (State.isArrayOf_alike hZ.alike Ar1.2.1) (g := (mkF m 4 #[(sR o1), (sR o2)] [(.ref o2), (.int 0), (.ref o2), (.ref o1)])) rfl rfl (hb hby o_d1_4) _ (by rw [ln1]; exact k)) ?_
 refine o_aconstNull X0 hx 6 (hb hby o_d1_5) ?_
 obtain ⟨_, _, ⟨T2, Lx2, kc2, nc2⟩, -, X2, ⟨Lc2, hQ2, lq2, yq2, zq2⟩, st2⟩ := X0.specialBack hx (y := y28) rfl hown (mvT hZ (W hw 7 rfl)) (mvT hZ (W hw 8 rfl)) (mvT hZ (W hw 10 rfl)) (by decide) (backOf (W := 0) (o_rm2n3L l Z a0 hw [] cs sf GG o1 o2 kc c0 c1 c2 h0 n0 Z0 pE1 pF2 pF3 pG4 O0 pV6 (hC0 : o_C c0) (hC1 : o_C c1) (hC2 : o_C c2) (hL0 : ¬ (255 : Int32) < c0) (hL1 : ¬ (255 : Int32) < c1) (hL2 : ¬ (255 : Int32) < c2)) hZ (W hw 10 rfl) (W hw 3 rfl) (by decide) (by decide)) (g := (mkF m 6 #[(sR o1), (sR o2)] [.null, (.int 3), (.int 0), (.ref o2), (.ref o1)])) rfl (by rw [hml]; rfl) (Steps.refl _) (a := o1) (argsL := [(.ref o2), (.int 0), (.int 3), .null]) (rest := []) (lenOf o_pd19 rfl) rfl (o_wl rfl) (hb hby o_d1_6) (fun _ _ => ⟨rfl, e0, (by decide : 0 + 1 ≤ _), (by decide : 0 + 3 ≤ _)⟩)
 dsimp only [Pt.U, Pt.locs, Pt.cells, Pt.slots] at X2 lq2 yq2 zq2 st2 hQ2
 subst lq2 yq2 zq2
 obtain ⟨bb_2, kb_2, rfl, Nq2, Kp2, G2_0, G2_1, G2_2, G2_3, G2_4⟩ := hQ2
 have N2 := Fr.app N0 Nq2
 have sz_bb_2 : h0.size ≤ bb_2 := Nat.le_trans KC0.1 G2_1
 have KC6 := KC0.trans Kp2 (allS (Or.inl (List.mem_of_getElem? (i := 0) rfl)) all0)
 refine o_st (G' := T2.setTop (mkF m 9 #[(sR o1), (sR o2)] [])) (fun t k => st2.trans k) ?_
 obtain ⟨_, X2h, N2h⟩ := o_hide X2 N2
 exact o_retV (Q := o_Q1n3L Z cs sf GG o1 o2 kc c0 c1 c2 h0 n0) X2h hx hrt (hb hby o_d1_9) hlk rfl ⟨bb_2, kb_2, rfl, N2h, KC6, G2_0, sz_bb_2, G2_2, G2_3, G2_4⟩ (by decide) (by decide)
def o_Q4n3L (Z : State) (cs : Int32) (sf : Value) (GG : o_G Z cs sf) (o1 : Addr) (bb : Addr) (kb : ClassId) (c0 : Int32) (c1 : Int32) (c2 : Int32) (h0 : Heap) (n0 : Nat) (v : Option Value) (h : Heap) (L : List Loc) : Prop := ∃ so : Addr, ∃ b2 : Addr, ∃ k2 : ClassId, v = some (.ref so) ∧ Fr n0 L ∧ Keep h0 h [] ∧ h0.size ≤ so ∧ h0.size ≤ b2 ∧ Exa Z h so "java/lang/String" ∧ Fld Z h so "java/lang/String" "value" "[B" (.ref b2) ∧ Fld Z h so "java/lang/String" "coder" "B" (.int 0) ∧ Arv Z h b2 k2 .byte 3 [(.int (nar .byte (o_lc c0).toInt8.toInt32)), (.int (nar .byte (o_lc c1).toInt8.toInt32)), (.int (nar .byte (o_lc c2).toInt8.toInt32))] (.int 0)
set_option maxRecDepth 65536 in
set_option maxHeartbeats 40000000 in
theorem o_rm4n3L (l : Launch) (Z : State) (a0 : Array Value) (hw : o_Hw Z a0) (ws : List Jvm.Cond) (cs : Int32) (sf : Value) (GG : o_G Z cs sf) (o1 : Addr) (bb : Addr) (kb : ClassId) (c0 : Int32) (c1 : Int32) (c2 : Int32) (h0 : Heap) (n0 : Nat) (Z0 : n0 ≤ h0.size) (pE1 : Exa Z h0 o1 "java/lang/String") (pF2 : Fld Z h0 o1 "java/lang/String" "value" "[B" (.ref bb)) (pF3 : Fld Z h0 o1 "java/lang/String" "coder" "B" (.int 0)) (pV4 : Arv Z h0 bb kb .byte 3 [(.int (nar .byte c0.toInt8.toInt32)), (.int (nar .byte c1.toInt8.toInt32)), (.int (nar .byte c2.toInt8.toInt32))] (.int 0)) (O0 : Old Z n0 h0) (hC0 : o_C c0) (hC1 : o_C c1) (hC2 : o_C c2) (hL0 : ¬ (255 : Int32) < c0) (hL1 : ¬ (255 : Int32) < c1) (hL2 : ¬ (255 : Int32) < c2) :
  o_Met l y30 prog_1_method_4_code 3 (some (.object "java/lang/String")) ws r46 #[(.ref o1)] Z h0 (o_Q4n3L Z cs sf GG o1 bb kb c0 c1 c2 h0 n0) := by
 refine MetFree.of_bodySF (plainFor_of_name o_pn0) hisR ?_
 intro p e s m args below meth c s₁ Bd hml0 hP hK
 obtain ⟨rfl, hZ, hh⟩ := hP
 obtain ⟨hx, hby, hlk, hrt⟩ := o_bd Bd
 have hml : c.maxLocals = 3 := hml0
 have hown : s.vm.findClass "com/example/orbweaver/orbweaver/AsciiText" = some m.cls := findClass_of_methodNamed Bd.named
 have X0 : Stand p l e r46 s m #[(.ref o1)] below meth c s₁ [] 0 0 := Stand.of_body Bd
 have e0 := o_e0 Bd hh
 have N0 := Fr.nil n0
 have KC0 := Keep.refl h0 []
 refine o_in (g' := mkF m 0 #[(sR o1), .unset, .unset] []) (by simp [entryFrame, mkF, argsToLocals, Value.category]) ?_
 refine o_aloadN X0 hx 1 (hb hby o_d4_0) rfl rfl ?_
 obtain ⟨cq1, kq1, q1a, q1b, q1c⟩ := isOf hZ e0 pE1
 obtain ⟨_, _, ⟨T1, Lx1, kc1, nc1⟩, -, X1, ⟨Lc1, hQ1, lq1, yq1, zq1⟩, st1⟩ := X0.virtualBack hx (y := y21) (z := y21) hown (mvT hZ (W hw 26 rfl)) (mvT hZ (W hw 27 rfl)) (notFace_of_selects (args := #[]) (mvT hZ (W hw 29 rfl))) (mvT hZ (W hw 29 rfl)) (mvT hZ (W hw 28 rfl)) (by decide) (backOf (W := 0) (o_rm5n3L l Z a0 hw [] cs sf GG o1 bb kb c0 c1 c2 h0 n0 Z0 pE1 pF2 pF3 pV4 O0 (hC0 : o_C c0) (hC1 : o_C c1) (hC2 : o_C c2) (hL0 : ¬ (255 : Int32) < c0) (hL1 : ¬ (255 : Int32) < c1) (hL2 : ¬ (255 : Int32) < c2)) hZ (W hw 30 rfl) (W hw 3 rfl) (by decide) (by decide)) q1a q1c (g := (mkF m 1 #[(sR o1), .unset, .unset] [(.ref o1)])) rfl (by rw [hml]; rfl) (Steps.refl _) (argsL := []) (rest := []) (lenOf o_pd20 rfl) rfl (o_wl rfl) (hb hby o_d4_1) (fun _ _ => ⟨rfl, e0, (by decide : 0 + 1 ≤ _), (by decide : 0 + 3 ≤ _)⟩)
 dsimp only [Pt.U, Pt.locs, Pt.cells, Pt.slots] at X1 lq1 yq1 zq1 st1 hQ1
 subst lq1 yq1 zq1
 obtain ⟨ca_1, kc_1, rfl, Nq1, Kp1, G1_0, G1_1⟩ := hQ1
 have N1 := Fr.app N0 Nq1
 have gt_ca_1 : n0 ≤ ca_1 := Nat.le_trans Z0 G1_0
 have sz_ca_1 : h0.size ≤ ca_1 := Nat.le_trans KC0.1 G1_0
 have O4 := O0.keep Kp1 all0
 have KC5 := KC0.trans Kp1 all0
 have Z6 := Nat.le_trans Z0 Kp1.1
 refine o_st (G' := T1.setTop (mkF m 4 #[(sR o1), .unset, .unset] [(.ref ca_1)])) (fun t k => st1.trans k) ?_
 obtain ⟨_, X1h, N1h⟩ := o_hide X1 N1
 refine o_astoreN X1h hx 5 #[(sR o1), (sR ca_1), .unset] (hb hby o_d4_4) rfl rfl ?_
 refine o_iconst X1h hx 6 0 (hb hby o_d4_5) rfl ?_
 refine o_istoreN X1h hx 7 #[(sR o1), (sR ca_1), (sI 0)] (hb hby o_d4_6) rfl ?_
 refine o_iloadN X1h hx 8 (hb hby o_d4_7) rfl ?_
 refine o_aloadN X1h hx 9 (hb hby o_d4_8) rfl rfl ?_
 obtain ⟨cl7, Ar7, qv7, S7, M7, H7, G7⟩ := id G1_1
 have ln7 := len_of S7 M7
 refine o_st (G' := T1.setTop (mkF m 10 #[(sR o1), (sR ca_1), (sI 0)] [(.int 3), (.int 0)])) (fun t k => X1h.arraylength hx Ar7.1 (State.isArrayOf_alike hZ.alike Ar7.2.1) (g := (mkF m 9 #[(sR o1), (sR ca_1), (sI 0)] [(.ref ca_1), (.int 0)])) rfl rfl (hb hby o_d4_9) _ (by rw [ln7]; exact k)) ?_
 refine o_icmpNo X1h hx 13 (hb hby o_d4_10) (tlt (by decide : (0 : Int32) < (3 : Int32))).2.1 ?_
 refine o_aloadN X1h hx 14 (hb hby o_d4_13) rfl rfl ?_
 refine o_iloadN X1h hx 15 (hb hby o_d4_14) rfl ?_
 refine o_aloadN X1h hx 16 (hb hby o_d4_15) rfl rfl ?_
 refine o_iloadN X1h hx 17 (hb hby o_d4_16) rfl ?_
 obtain ⟨cl8, Ar8, qv8, S8, M8, H8, G8⟩ := id G1_1
 have hin8 := inb_of (j := (0 : Int32)) S8 ⟨by decide, by decide⟩
 refine o_st (G' := T1.setTop (mkF m 18 #[(sR o1), (sR ca_1), (sI 0)] [(.int c0), (.int 0), (.ref ca_1)])) (fun t k => X1h.caload hx (j := (0 : Int32)) (v := (.int c0)) Ar8.1 (State.isArrayOf_alike hZ.alike Ar8.2.1) Ar8.2.2 hin8 (H8.at hin8 rfl) (g := (mkF m 17 #[(sR o1), (sR ca_1), (sI 0)] [(.int 0), (.ref ca_1), (.int 0), (.ref ca_1)])) rfl rfl (hb hby o_d4_17) _ k) ?_
 obtain ⟨_, _, ⟨T9, Lx9, kc9, nc9⟩, -, X9, ⟨Lc9, hQ9, lq9, yq9, zq9⟩, st9⟩ := Jvm.LawKit.callS X1h hx (y := y0) hown (mvT hZ (W hw 66 rfl)) (mvT hZ (W hw 67 rfl)) (mvT hZ (W hw 24 rfl)) (mvT hZ (W hw 68 rfl)) (by decide) (backOf (W := 2) (o_rm14 l Z a0 hw [] c0 T1.heap n0 Z6 ) hZ (W hw 68 rfl) (W hw 24 rfl) (by decide) (by decide)) (g := (mkF m 18 #[(sR o1), (sR ca_1), (sI 0)] [(.int c0), (.int 0), (.ref ca_1)])) rfl (by rw [hml]; rfl) (argsL := [(.int c0)]) (rest := [(.int 0), (.ref ca_1)]) (lenOf o_pd4 rfl) rfl (o_wl rfl) (hb hby o_d4_18) (fun _ _ => ⟨rfl, rfl, (by decide : 1 + 0 ≤ _), (by decide : 3 + 0 ≤ _)⟩)
 dsimp only [Pt.U, Pt.locs, Pt.cells, Pt.slots] at X9 lq9 yq9 zq9 st9 hQ9
 subst lq9 yq9 zq9
 obtain ⟨rfl, Nq9, eh9⟩ := hQ9
 have N9 := Fr.app N1h Nq9
 refine o_st (G' := T9.setTop (mkF m 21 #[(sR o1), (sR ca_1), (sI 0)] [(.int (o_lc c0)), (.int 0), (.ref ca_1)])) st9 ?_
 obtain ⟨_, X9h, N9h⟩ := o_hide X9 N9
 refine o_i2c X9h hx 22 (hb hby o_d4_21) ?_
 obtain ⟨cl10, Ar10, qv10, S10, M10, H10, G10⟩ := id G1_1
 have hin10 := inb_of (j := (0 : Int32)) S10 ⟨by decide, by decide⟩
 obtain ⟨T10, h10, X10, e10, W10, st10⟩ := stC X9h hx hZ eh9 Ar10 (j := (0 : Int32)) hin10 (g := (mkF m 22 #[(sR o1), (sR ca_1), (sI 0)] [(.int ((o_lc c0).toUInt32.toUInt16.toUInt32.toInt32)), (.int 0), (.ref ca_1)])) rfl rfl (hb hby o_d4_22)
 have V10 : Arv Z h10 ca_1 kc_1 .char 3 [(.int (nar .char ((o_lc c0).toUInt32.toUInt16.toUInt32.toInt32))), (.int c1), (.int c2)] (.int 0) := Arv.set Ar10 qv10 S10 M10 H10 G10 (fits_nar_char _) W10 0 rfl (Nat.le_of_ble_eq_true rfl)
 have N10 := Fr.snoc X10 N9h gt_ca_1
 have O11 := O4.wr W10 gt_ca_1
 have KC12 := KC5.wr W10 (Or.inr sz_ca_1)
 have Z13 := Nat.le_trans Z6 (Nat.le_of_eq W10.size.symm)
 refine o_st (G' := T10.setTop (mkF m 23 #[(sR o1), (sR ca_1), (sI 0)] [])) st10 ?_
 obtain ⟨_, X10h, N10h⟩ := o_hide X10 N10
 refine o_iinc X10h hx 26 (1 : Int32) #[(sR o1), (sR ca_1), (sI 1)] (hb hby o_d4_23) rfl rfl rfl ?_
 refine o_goto X10h hx 7 (hb hby o_d4_26) ?_
 refine o_iloadN X10h hx 8 (hb hby o_d4_7) rfl ?_
 refine o_aloadN X10h hx 9 (hb hby o_d4_8) rfl rfl ?_
 obtain ⟨cl14, Ar14, qv14, S14, M14, H14, G14⟩ := id V10
 have ln14 := len_of S14 M14
 refine o_st (G' := T10.setTop (mkF m 10 #[(sR o1), (sR ca_1), (sI 1)] [(.int 3), (.int 1)])) (fun t k => X10h.arraylength hx (by rw [e10]; exact Ar14.1) (State.isArrayOf_alike hZ.alike Ar14.2.1) (g := (mkF m 9 #[(sR o1), (sR ca_1), (sI 1)] [(.ref ca_1), (.int 1)])) rfl rfl (hb hby o_d4_9) _ (by rw [ln14]; exact k)) ?_
 refine o_icmpNo X10h hx 13 (hb hby o_d4_10) (tlt (by decide : (1 : Int32) < (3 : Int32))).2.1 ?_
 refine o_aloadN X10h hx 14 (hb hby o_d4_13) rfl rfl ?_
 refine o_iloadN X10h hx 15 (hb hby o_d4_14) rfl ?_
 refine o_aloadN X10h hx 16 (hb hby o_d4_15) rfl rfl ?_
 refine o_iloadN X10h hx 17 (hb hby o_d4_16) rfl ?_
 obtain ⟨cl15, Ar15, qv15, S15, M15, H15, G15⟩ := id V10
 have hin15 := inb_of (j := (1 : Int32)) S15 ⟨by decide, by decide⟩
 refine o_st (G' := T10.setTop (mkF m 18 #[(sR o1), (sR ca_1), (sI 1)] [(.int c1), (.int 1), (.ref ca_1)])) (fun t k => X10h.caload hx (j := (1 : Int32)) (v := (.int c1)) (by rw [e10]; exact Ar15.1) (State.isArrayOf_alike hZ.alike Ar15.2.1) Ar15.2.2 hin15 (H15.at hin15 rfl) (g := (mkF m 17 #[(sR o1), (sR ca_1), (sI 1)] [(.int 1), (.ref ca_1), (.int 1), (.ref ca_1)])) rfl rfl (hb hby o_d4_17) _ k) ?_
 obtain ⟨_, _, ⟨T16, Lx16, kc16, nc16⟩, -, X16, ⟨Lc16, hQ16, lq16, yq16, zq16⟩, st16⟩ := Jvm.LawKit.callS X10h hx (y := y0) hown (mvT hZ (W hw 66 rfl)) (mvT hZ (W hw 67 rfl)) (mvT hZ (W hw 24 rfl)) (mvT hZ (W hw 68 rfl)) (by decide) (backOf (W := 2) (o_rm14 l Z a0 hw [] c1 h10 n0 Z13 ) hZ (W hw 68 rfl) (W hw 24 rfl) (by decide) (by decide)) (g := (mkF m 18 #[(sR o1), (sR ca_1), (sI 1)] [(.int c1), (.int 1), (.ref ca_1)])) rfl (by rw [hml]; rfl) (argsL := [(.int c1)]) (rest := [(.int 1), (.ref ca_1)]) (lenOf o_pd4 rfl) rfl (o_wl rfl) (hb hby o_d4_18) (fun _ _ => ⟨rfl, e10, (by decide : 1 + 0 ≤ _), (by decide : 3 + 0 ≤ _)⟩)
 dsimp only [Pt.U, Pt.locs, Pt.cells, Pt.slots] at X16 lq16 yq16 zq16 st16 hQ16
 subst lq16 yq16 zq16
 obtain ⟨rfl, Nq16, eh16⟩ := hQ16
 have N16 := Fr.app N10h Nq16
 refine o_st (G' := T16.setTop (mkF m 21 #[(sR o1), (sR ca_1), (sI 1)] [(.int (o_lc c1)), (.int 1), (.ref ca_1)])) st16 ?_
 obtain ⟨_, X16h, N16h⟩ := o_hide X16 N16
 refine o_i2c X16h hx 22 (hb hby o_d4_21) ?_
 obtain ⟨cl17, Ar17, qv17, S17, M17, H17, G17⟩ := id V10
 have hin17 := inb_of (j := (1 : Int32)) S17 ⟨by decide, by decide⟩
 obtain ⟨T17, h17, X17, e17, W17, st17⟩ := stC X16h hx hZ eh16 Ar17 (j := (1 : Int32)) hin17 (g := (mkF m 22 #[(sR o1), (sR ca_1), (sI 1)] [(.int ((o_lc c1).toUInt32.toUInt16.toUInt32.toInt32)), (.int 1), (.ref ca_1)])) rfl rfl (hb hby o_d4_22)
 have V17 : Arv Z h17 ca_1 kc_1 .char 3 [(.int (nar .char ((o_lc c0).toUInt32.toUInt16.toUInt32.toInt32))), (.int (nar .char ((o_lc c1).toUInt32.toUInt16.toUInt32.toInt32))), (.int c2)] (.int 0) := Arv.set Ar17 qv17 S17 M17 H17 G17 (fits_nar_char _) W17 1 rfl (Nat.le_of_ble_eq_true rfl)
 have N17 := Fr.snoc X17 N16h gt_ca_1
 have O18 := O11.wr W17 gt_ca_1
 have KC19 := KC12.wr W17 (Or.inr sz_ca_1)
 have Z20 := Nat.le_trans Z13 (Nat.le_of_eq W17.size.symm)
 refine o_st (G' := T17.setTop (mkF m 23 #[(sR o1), (sR ca_1), (sI 1)] [])) st17 ?_
 obtain ⟨_, X17h, N17h⟩ := o_hide X17 N17
 refine o_iinc X17h hx 26 (1 : Int32) #[(sR o1), (sR ca_1), (sI 2)] (hb hby o_d4_23) rfl rfl rfl ?_
 refine o_goto X17h hx 7 (hb hby o_d4_26) ?_
 refine o_iloadN X17h hx 8 (hb hby o_d4_7) rfl ?_
 refine o_aloadN X17h hx 9 (hb hby o_d4_8) rfl rfl ?_
 obtain ⟨cl21, Ar21, qv21, S21, M21, H21, G21⟩ := id V17
 have ln21 := len_of S21 M21
 refine o_st (G' := T17.setTop (mkF m 10 #[(sR o1), (sR ca_1), (sI 2)] [(.int 3), (.int 2)])) (fun t k => X17h.arraylength hx (by rw [e17]; exact Ar21.1) (State.isArrayOf_alike hZ.alike Ar21.2.1) (g := (mkF m 9 #[(sR o1), (sR ca_1), (sI 2)] [(.ref ca_1), (.int 2)])) rfl rfl (hb hby o_d4_9) _ (by rw [ln21]; exact k)) ?_
 refine o_icmpNo X17h hx 13 (hb hby o_d4_10) (tlt (by decide : (2 : Int32) < (3 : Int32))).2.1 ?_
 refine o_aloadN X17h hx 14 (hb hby o_d4_13) rfl rfl ?_
 refine o_iloadN X17h hx 15 (hb hby o_d4_14) rfl ?_
 refine o_aloadN X17h hx 16 (hb hby o_d4_15) rfl rfl ?_
 refine o_iloadN X17h hx 17 (hb hby o_d4_16) rfl ?_
 obtain ⟨cl22, Ar22, qv22, S22, M22, H22, G22⟩ := id V17
 have hin22 := inb_of (j := (2 : Int32)) S22 ⟨by decide, by decide⟩
 refine o_st (G' := T17.setTop (mkF m 18 #[(sR o1), (sR ca_1), (sI 2)] [(.int c2), (.int 2), (.ref ca_1)])) (fun t k => X17h.caload hx (j := (2 : Int32)) (v := (.int c2)) (by rw [e17]; exact Ar22.1) (State.isArrayOf_alike hZ.alike Ar22.2.1) Ar22.2.2 hin22 (H22.at hin22 rfl) (g := (mkF m 17 #[(sR o1), (sR ca_1), (sI 2)] [(.int 2), (.ref ca_1), (.int 2), (.ref ca_1)])) rfl rfl (hb hby o_d4_17) _ k) ?_
 obtain ⟨_, _, ⟨T23, Lx23, kc23, nc23⟩, -, X23, ⟨Lc23, hQ23, lq23, yq23, zq23⟩, st23⟩ := Jvm.LawKit.callS X17h hx (y := y0) hown (mvT hZ (W hw 66 rfl)) (mvT hZ (W hw 67 rfl)) (mvT hZ (W hw 24 rfl)) (mvT hZ (W hw 68 rfl)) (by decide) (backOf (W := 2) (o_rm14 l Z a0 hw [] c2 h17 n0 Z20 ) hZ (W hw 68 rfl) (W hw 24 rfl) (by decide) (by decide)) (g := (mkF m 18 #[(sR o1), (sR ca_1), (sI 2)] [(.int c2), (.int 2), (.ref ca_1)])) rfl (by rw [hml]; rfl) (argsL := [(.int c2)]) (rest := [(.int 2), (.ref ca_1)]) (lenOf o_pd4 rfl) rfl (o_wl rfl) (hb hby o_d4_18) (fun _ _ => ⟨rfl, e17, (by decide : 1 + 0 ≤ _), (by decide : 3 + 0 ≤ _)⟩)
 dsimp only [Pt.U, Pt.locs, Pt.cells, Pt.slots] at X23 lq23 yq23 zq23 st23 hQ23
 subst lq23 yq23 zq23
 obtain ⟨rfl, Nq23, eh23⟩ := hQ23
 have N23 := Fr.app N17h Nq23
 refine o_st (G' := T23.setTop (mkF m 21 #[(sR o1), (sR ca_1), (sI 2)] [(.int (o_lc c2)), (.int 2), (.ref ca_1)])) st23 ?_
 obtain ⟨_, X23h, N23h⟩ := o_hide X23 N23
 refine o_i2c X23h hx 22 (hb hby o_d4_21) ?_
 obtain ⟨cl24, Ar24, qv24, S24, M24, H24, G24⟩ := id V17
 have hin24 := inb_of (j := (2 : Int32)) S24 ⟨by decide, by decide⟩
 obtain ⟨T24, h24, X24, e24, W24, st24⟩ := stC X23h hx hZ eh23 Ar24 (j := (2 : Int32)) hin24 (g := (mkF m 22 #[(sR o1), (sR ca_1), (sI 2)] [(.int ((o_lc c2).toUInt32.toUInt16.toUInt32.toInt32)), (.int 2), (.ref ca_1)])) rfl rfl (hb hby o_d4_22)
 have V24 : Arv Z h24 ca_1 kc_1 .char 3 [(.int (nar .char ((o_lc c0).toUInt32.toUInt16.toUInt32.toInt32))), (.int (nar .char ((o_lc c1).toUInt32.toUInt16.toUInt32.toInt32))), (.int (nar .char ((o_lc c2).toUInt32.toUInt16.toUInt32.toInt32)))] (.int 0) := Arv.set Ar24 qv24 S24 M24 H24 G24 (fits_nar_char _) W24 2 rfl (Nat.le_of_ble_eq_true rfl)
 have N24 := Fr.snoc X24 N23h gt_ca_1
 have O25 := O18.wr W24 gt_ca_1
 have KC26 := KC19.wr W24 (Or.inr sz_ca_1)
 have Z27 := Nat.le_trans Z20 (Nat.le_of_eq W24.size.symm)
 refine o_st (G' := T24.setTop (mkF m 23 #[(sR o1), (sR ca_1), (sI 2)] [])) st24 ?_
 obtain ⟨_, X24h, N24h⟩ := o_hide X24 N24
 refine o_iinc X24h hx 26 (1 : Int32) #[(sR o1), (sR ca_1), (sI 3)] (hb hby o_d4_23) rfl rfl rfl ?_
 refine o_goto X24h hx 7 (hb hby o_d4_26) ?_
 refine o_iloadN X24h hx 8 (hb hby o_d4_7) rfl ?_
 refine o_aloadN X24h hx 9 (hb hby o_d4_8) rfl rfl ?_
 obtain ⟨cl28, Ar28, qv28, S28, M28, H28, G28⟩ := id V24
 have ln28 := len_of S28 M28
 refine o_st (G' := T24.setTop (mkF m 10 #[(sR o1), (sR ca_1), (sI 3)] [(.int 3), (.int 3)])) (fun t k => X24h.arraylength hx (by rw [e24]; exact Ar28.1) (State.isArrayOf_alike hZ.alike Ar28.2.1) (g := (mkF m 9 #[(sR o1), (sR ca_1), (sI 3)] [(.ref ca_1), (.int 3)])) rfl rfl (hb hby o_d4_9) _ (by rw [ln28]; exact k)) ?_
 refine o_icmpYes X24h hx 29 (hb hby o_d4_10) (flt (by decide : ¬ ((3 : Int32) < (3 : Int32)))).2.1 ?_
 have V29 := V24
 rw [o_lcn hC0, o_lcn hC1, o_lcn hC2] at V29
 obtain ⟨T30, h30, X30, e30, E30, A30, D30, -, st30⟩ := newO X24h hx hZ hown (W hw 44 rfl) (W hw 2 rfl) (W hw 3 rfl) e24 (g := (mkF m 29 #[(sR o1), (sR ca_1), (sI 3)] [])) rfl (hb hby o_d4_29) (by decide) (by decide)
 obtain ⟨b30, g30⟩ : ∃ z, z = h24.size := ⟨_, rfl⟩
 rw [← g30] at A30 D30 st30
 have gt_b30 : n0 ≤ b30 := Nat.le_trans Z27 (Nat.le_of_eq g30.symm)
 have sz_b30 : h0.size ≤ b30 := Nat.le_trans KC26.1 (Nat.le_of_eq g30.symm)
 have O36 := O25.ext E30
 have KC37 := KC26.ext E30
 have Z38 := Nat.le_trans Z27 E30.1
 have F30_value : Fld Z h30 b30 "java/lang/String" "value" "[B" .null := D30 (Or.inr (W hw 16 rfl)) (ty := (.array .byte)) (by decide)
 have F30_coder : Fld Z h30 b30 "java/lang/String" "coder" "B" (.int 0) := D30 (Or.inr (W hw 17 rfl)) (ty := .byte) (by decide)
 refine o_st (G' := T30.setTop (mkF m 32 #[(sR o1), (sR ca_1), (sI 3)] [(.ref b30)])) st30 ?_
 obtain ⟨_, X30h, N30h⟩ := o_hide X30 N24h
 refine o_dup X30h hx 33 (hb hby o_d4_32) rfl ?_
 refine o_aloadN X30h hx 34 (hb hby o_d4_33) rfl rfl ?_
 have f39 := (V29.ext E30)
 obtain ⟨_, _, ⟨T40, Lx40, kc40, nc40⟩, -, X40, ⟨Lc40, hQ40, lq40, yq40, zq40⟩, st40⟩ := X30h.specialBack hx (y := y29) rfl hown (mvT hZ (W hw 45 rfl)) (mvT hZ (W hw 5 rfl)) (mvT hZ (W hw 6 rfl)) (by decide) (backOf (W := 1) (o_rm1n3L l Z a0 hw [] cs sf GG b30 ca_1 kc_1 (o_lc c0) (o_lc c1) (o_lc c2) h30 n0 Z38 A30 F30_value F30_coder gt_b30 O36 f39 (o_lcC hC0 : o_C (o_lc c0)) (o_lcC hC1 : o_C (o_lc c1)) (o_lcC hC2 : o_C (o_lc c2)) (o_lcL hC0 hL0 : ¬ (255 : Int32) < (o_lc c0)) (o_lcL hC1 hL1 : ¬ (255 : Int32) < (o_lc c1)) (o_lcL hC2 hL2 : ¬ (255 : Int32) < (o_lc c2))) hZ (W hw 6 rfl) (W hw 3 rfl) (by decide) (by decide)) (g := (mkF m 34 #[(sR o1), (sR ca_1), (sI 3)] [(.ref ca_1), (.ref b30), (.ref b30)])) rfl (by rw [hml]; rfl) (Steps.refl _) (a := b30) (argsL := [(.ref ca_1)]) (rest := [(.ref b30)]) (lenOf o_pd21 rfl) rfl (o_wl rfl) (hb hby o_d4_34) (fun _ _ => ⟨rfl, e30, (by decide : 2 + 1 ≤ _), (by decide : 7 + 3 ≤ _)⟩)
 dsimp only [Pt.U, Pt.locs, Pt.cells, Pt.slots] at X40 lq40 yq40 zq40 st40 hQ40
 subst lq40 yq40 zq40
 obtain ⟨bb_40, kb_40, rfl, Nq40, Kp40, G40_0, G40_1, G40_2, G40_3, G40_4⟩ := hQ40
 have N40 := Fr.app N30h Nq40
 have sz_bb_40 : h0.size ≤ bb_40 := Nat.le_trans KC37.1 G40_1
 have KC48 := KC37.trans Kp40 (allS (Or.inr sz_b30) all0)
 refine o_st (G' := T40.setTop (mkF m 37 #[(sR o1), (sR ca_1), (sI 3)] [(.ref b30)])) (fun t k => st40.trans k) ?_
 obtain ⟨_, X40h, N40h⟩ := o_hide X40 N40
 exact o_retA (z := (.ref b30)) (Q := o_Q4n3L Z cs sf GG o1 bb kb c0 c1 c2 h0 n0) X40h hx hrt rfl rfl (hb hby o_d4_37) hlk rfl ⟨b30, bb_40, kb_40, rfl, N40h, KC48, sz_b30, sz_bb_40, G40_0, G40_2, G40_3, G40_4⟩ (by decide) (by decide)
def o_Q11n3U (Z : State) (cs : Int32) (sf : Value) (GG : o_G Z cs sf) (o1 : Addr) (kc : ClassId) (c0 : Int32) (c1 : Int32) (c2 : Int32) (h0 : Heap) (n0 : Nat) (v : Option Value) (h : Heap) (L : List Loc) : Prop := ∃ bb : Addr, ∃ kb : ClassId, v = some (.ref bb) ∧ Fr n0 L ∧ Keep h0 h [] ∧ h0.size ≤ bb ∧ Arv Z h bb kb .byte 6 [(.int (o_lo c0)), (.int (o_hi c0)), (.int (o_lo c1)), (.int (o_hi c1)), (.int (o_lo c2)), (.int (o_hi c2))] (.int 0)
set_option maxRecDepth 65536 in
set_option maxHeartbeats 40000000 in
theorem o_rm11n3U (l : Launch) (Z : State) (a0 : Array Value) (hw : o_Hw Z a0) (ws : List Jvm.Cond) (cs : Int32) (sf : Value) (GG : o_G Z cs sf) (o1 : Addr) (kc : ClassId) (c0 : Int32) (c1 : Int32) (c2 : Int32) (h0 : Heap) (n0 : Nat) (Z0 : n0 ≤ h0.size) (pV1 : Arv Z h0 o1 kc .char 3 [(.int c0), (.int c1), (.int c2)] (.int 0)) (O0 : Old Z n0 h0) (hC0 : o_C c0) (hC1 : o_C c1) (hC2 : o_C c2) (hU : (255 : Int32) < c0 ∨ (255 : Int32) < c1 ∨ (255 : Int32) < c2) :
  o_Met l y27 jdk_52_method_16_code 6 (some (.array .byte)) ws r47 #[(.ref o1), (.int 0), (.int 3)] Z h0 (o_Q11n3U Z cs sf GG o1 kc c0 c1 c2 h0 n0) := by
 refine MetFree.of_bodySF (plainFor_of_name o_pn4) hisR ?_
 intro p e s m args below meth c s₁ Bd hml0 hP hK
 obtain ⟨rfl, hZ, hh⟩ := hP
 obtain ⟨hx, hby, hlk, hrt⟩ := o_bd Bd
 have hml : c.maxLocals = 6 := hml0
 have hown : s.vm.findClass "java/lang/StringUTF16" = some m.cls := findClass_of_methodNamed Bd.named
 have X0 : Stand p l e r47 s m #[(.ref o1), (.int 0), (.int 3)] below meth c s₁ [] 0 0 := Stand.of_body Bd
 have e0 := o_e0 Bd hh
 have N0 := Fr.nil n0
 have KC0 := Keep.refl h0 []
 refine o_in (g' := mkF m 0 #[(sR o1), (sI 0), (sI 3), .unset, .unset, .unset] []) (by simp [entryFrame, mkF, argsToLocals, Value.category]) ?_
 by_cases hc0_1 : (255 : Int32) < c0
 ·refine o_iloadN X0 hx 1 (hb hby o_d11_0) rfl ?_
  obtain ⟨T2, h2, k2, X2, e2, E2, A2, st2⟩ := newP X0 hx hZ (W hw 15 rfl) e0 (g := (mkF m 1 #[(sR o1), (sI 0), (sI 3), .unset, .unset, .unset] [(.int 3)])) rfl (hb hby o_d11_1) rfl (by decide) (cap := 3) (by decide) (by decide) (by decide) (by decide)
  obtain ⟨b2, g2⟩ : ∃ z, z = h0.size := ⟨_, rfl⟩
  rw [← g2] at A2 st2
  have ne3 : o1 ≠ b2 := Nat.ne_of_lt (Nat.lt_of_lt_of_le pV1.lt (Nat.le_of_eq g2.symm))
  have gt_b2 : n0 ≤ b2 := Nat.le_trans Z0 (Nat.le_of_eq g2.symm)
  have sz_b2 : h0.size ≤ b2 := Nat.le_trans KC0.1 (Nat.le_of_eq g2.symm)
  have V2 : Arv Z h2 b2 k2 .byte 3 [(.int 0), (.int 0), (.int 0)] (.int 0) := (Arv.new A2 (by decide)).pad (pad_rep [] (.int 0) 3)
  have O4 := O0.ext E2
  have KC5 := KC0.ext E2
  have Z6 := Nat.le_trans Z0 E2.1
  refine o_st (G' := T2.setTop (mkF m 3 #[(sR o1), (sI 0), (sI 3), .unset, .unset, .unset] [(.ref b2)])) st2 ?_
  obtain ⟨_, X2h, N2h⟩ := o_hide X2 N0
  refine o_astoreN X2h hx 4 #[(sR o1), (sI 0), (sI 3), (sR b2), .unset, .unset] (hb hby o_d11_3) rfl rfl ?_
  refine o_aloadN X2h hx 5 (hb hby o_d11_4) rfl rfl ?_
  refine o_iloadN X2h hx 6 (hb hby o_d11_5) rfl ?_
  refine o_aloadN X2h hx 7 (hb hby o_d11_6) rfl rfl ?_
  refine o_iconst X2h hx 8 0 (hb hby o_d11_7) rfl ?_
  refine o_iloadN X2h hx 9 (hb hby o_d11_8) rfl ?_
  have f7 := (pV1.ext E2)
  obtain ⟨_, _, ⟨T8, Lx8, kc8, nc8⟩, -, X8, ⟨Lc8, hQ8, lq8, yq8, zq8⟩, st8⟩ := Jvm.LawKit.callS X2h hx (y := y26) hown (mvT hZ (W hw 60 rfl)) (mvT hZ (W hw 61 rfl)) (mvT hZ (W hw 58 rfl)) (mvT hZ (W hw 62 rfl)) (by decide) (backOf (W := 0) (o_rm12n3k0 l Z a0 hw [] o1 b2 k2 kc c0 c1 c2 h2 n0 Z6 f7 V2 gt_b2 ne3 (hc0_1 : (255 : Int32) < c0)) hZ (W hw 62 rfl) (W hw 58 rfl) (by decide) (by decide)) (g := (mkF m 9 #[(sR o1), (sI 0), (sI 3), (sR b2), .unset, .unset] [(.int 3), (.int 0), (.ref b2), (.int 0), (.ref o1)])) rfl (by rw [hml]; rfl) (argsL := [(.ref o1), (.int 0), (.ref b2), (.int 0), (.int 3)]) (rest := []) (lenOf o_pd16 rfl) rfl (o_wl rfl) (hb hby o_d11_9) (fun _ _ => ⟨rfl, e2, (by decide : 1 + 0 ≤ _), (by decide : 3 + 0 ≤ _)⟩)
  dsimp only [Pt.U, Pt.locs, Pt.cells, Pt.slots] at X8 lq8 yq8 zq8 st8 hQ8
  subst lq8 yq8 zq8
  obtain ⟨rfl, Nq8, Kp8⟩ := hQ8
  have N8 := Fr.app N2h Nq8
  have O9 := O4.keep Kp8 (allS gt_b2 all0)
  have KC10 := KC5.trans Kp8 (allS (Or.inr sz_b2) all0)
  have Z11 := Nat.le_trans Z6 Kp8.1
  refine o_st (G' := T8.setTop (mkF m 12 #[(sR o1), (sI 0), (sI 3), (sR b2), .unset, .unset] [(.int 0)])) st8 ?_
  obtain ⟨_, X8h, N8h⟩ := o_hide X8 N8
  refine o_istore X8h hx 14 #[(sR o1), (sI 0), (sI 3), (sR b2), (sI 0), .unset] (hb hby o_d11_12) rfl ?_
  refine o_iload X8h hx 16 (hb hby o_d11_14) rfl ?_
  refine o_iloadN X8h hx 17 (hb hby o_d11_16) rfl ?_
  refine o_icmpNo X8h hx 20 (hb hby o_d11_17) (feq (by decide : ¬ ((0 : Int32) = (3 : Int32)))).1 ?_
  refine o_aloadN X8h hx 21 (hb hby o_d11_20) rfl rfl ?_
  refine o_iloadN X8h hx 22 (hb hby o_d11_21) rfl ?_
  refine o_iloadN X8h hx 23 (hb hby o_d11_22) rfl ?_
  have f12 := (f7.keep Kp8 (ninS ne3 nin0))
  obtain ⟨_, _, ⟨T13, Lx13, kc13, nc13⟩, -, X13, ⟨Lc13, hQ13, lq13, yq13, zq13⟩, st13⟩ := Jvm.LawKit.callS X8h hx (y := y17) hown (mvT hZ (W hw 89 rfl)) (mvT hZ (W hw 90 rfl)) (mvT hZ (W hw 58 rfl)) (mvT hZ (W hw 91 rfl)) (by decide) (backOf (W := 0) (o_rm20n3 l Z a0 hw [] cs sf GG o1 kc c0 c1 c2 T8.heap n0 Z11 f12 O9) hZ (W hw 91 rfl) (W hw 58 rfl) (by decide) (by decide)) (g := (mkF m 23 #[(sR o1), (sI 0), (sI 3), (sR b2), (sI 0), .unset] [(.int 3), (.int 0), (.ref o1)])) rfl (by rw [hml]; rfl) (argsL := [(.ref o1), (.int 0), (.int 3)]) (rest := []) (lenOf o_pd17 rfl) rfl (o_wl rfl) (hb hby o_d11_23) (fun _ _ => ⟨rfl, rfl, (by decide : 1 + 1 ≤ _), (by decide : 3 + 6 ≤ _)⟩)
  dsimp only [Pt.U, Pt.locs, Pt.cells, Pt.slots] at X13 lq13 yq13 zq13 st13 hQ13
  subst lq13 yq13 zq13
  obtain ⟨bb_13, kb_13, rfl, Nq13, Kp13, G13_0, G13_1⟩ := hQ13
  have N13 := Fr.app N8h Nq13
  have sz_bb_13 : h0.size ≤ bb_13 := Nat.le_trans KC10.1 G13_0
  have O15 := O9.keep Kp13 all0
  have KC16 := KC10.trans Kp13 all0
  have Z17 := Nat.le_trans Z11 Kp13.1
  refine o_st (G' := T13.setTop (mkF m 26 #[(sR o1), (sI 0), (sI 3), (sR b2), (sI 0), .unset] [(.ref bb_13)])) st13 ?_
  obtain ⟨_, X13h, N13h⟩ := o_hide X13 N13
  refine o_astore X13h hx 28 #[(sR o1), (sI 0), (sI 3), (sR b2), (sI 0), (sR bb_13)] (hb hby o_d11_26) rfl rfl ?_
  refine o_aload X13h hx 30 (hb hby o_d11_28) rfl rfl ?_
  refine o_iload X13h hx 32 (hb hby o_d11_30) rfl ?_
  obtain ⟨_, _, ⟨T18, Lx18, kc18, nc18⟩, -, X18, ⟨Lc18, hQ18, lq18, yq18, zq18⟩, st18⟩ := Jvm.LawKit.callS X13h hx (y := y13) hown (mvT hZ (W hw 105 rfl)) (mvT hZ (W hw 106 rfl)) (mvT hZ (W hw 58 rfl)) (mvT hZ (W hw 107 rfl)) (by decide) (backOf (W := 0) (o_rm24n3i0 l Z a0 hw [] cs sf GG bb_13 kb_13 c0 c1 c2 T13.heap n0 Z17 G13_1 O15 (hC0 : o_C c0)) hZ (W hw 107 rfl) (W hw 58 rfl) (by decide) (by decide)) (g := (mkF m 32 #[(sR o1), (sI 0), (sI 3), (sR b2), (sI 0), (sR bb_13)] [(.int 0), (.ref bb_13)])) rfl (by rw [hml]; rfl) (argsL := [(.ref bb_13), (.int 0)]) (rest := []) (lenOf o_pd7 rfl) rfl (o_wl rfl) (hb hby o_d11_32) (fun _ _ => ⟨rfl, rfl, (by decide : 2 + 0 ≤ _), (by decide : 9 + 0 ≤ _)⟩)
  dsimp only [Pt.U, Pt.locs, Pt.cells, Pt.slots] at X18 lq18 yq18 zq18 st18 hQ18
  subst lq18 yq18 zq18
  obtain ⟨rfl, Nq18, eh18⟩ := hQ18
  have N18 := Fr.app N13h Nq18
  refine o_st (G' := T18.setTop (mkF m 35 #[(sR o1), (sI 0), (sI 3), (sR b2), (sI 0), (sR bb_13)] [(.int c0)])) st18 ?_
  obtain ⟨_, X18h, N18h⟩ := o_hide X18 N18
  refine o_sipush X18h hx 38 255 (hb hby o_d11_35) rfl ?_
  refine o_icmpYes X18h hx 54 (hb hby o_d11_38) (tlt hc0_1).2.2.1 ?_
  refine o_aload X18h hx 56 (hb hby o_d11_54) rfl rfl ?_
  exact o_retA (z := (.ref bb_13)) (Q := o_Q11n3U Z cs sf GG o1 kc c0 c1 c2 h0 n0) X18h hx hrt rfl rfl (hb hby o_d11_56) hlk eh18 ⟨bb_13, kb_13, rfl, N18h, KC16, sz_bb_13, G13_1⟩ (by decide) (by decide)
 ·by_cases hc0_19 : (255 : Int32) < c1
  ·refine o_iloadN X0 hx 1 (hb hby o_d11_0) rfl ?_
   obtain ⟨T20, h20, k20, X20, e20, E20, A20, st20⟩ := newP X0 hx hZ (W hw 15 rfl) e0 (g := (mkF m 1 #[(sR o1), (sI 0), (sI 3), .unset, .unset, .unset] [(.int 3)])) rfl (hb hby o_d11_1) rfl (by decide) (cap := 3) (by decide) (by decide) (by decide) (by decide)
   obtain ⟨b20, g20⟩ : ∃ z, z = h0.size := ⟨_, rfl⟩
   rw [← g20] at A20 st20
   have ne21 : o1 ≠ b20 := Nat.ne_of_lt (Nat.lt_of_lt_of_le pV1.lt (Nat.le_of_eq g20.symm))
   have gt_b20 : n0 ≤ b20 := Nat.le_trans Z0 (Nat.le_of_eq g20.symm)
   have sz_b20 : h0.size ≤ b20 := Nat.le_trans KC0.1 (Nat.le_of_eq g20.symm)
   have V20 : Arv Z h20 b20 k20 .byte 3 [(.int 0), (.int 0), (.int 0)] (.int 0) := (Arv.new A20 (by decide)).pad (pad_rep [] (.int 0) 3)
   have O22 := O0.ext E20
   have KC23 := KC0.ext E20
   have Z24 := Nat.le_trans Z0 E20.1
   refine o_st (G' := T20.setTop (mkF m 3 #[(sR o1), (sI 0), (sI 3), .unset, .unset, .unset] [(.ref b20)])) st20 ?_
   obtain ⟨_, X20h, N20h⟩ := o_hide X20 N0
   refine o_astoreN X20h hx 4 #[(sR o1), (sI 0), (sI 3), (sR b20), .unset, .unset] (hb hby o_d11_3) rfl rfl ?_
   refine o_aloadN X20h hx 5 (hb hby o_d11_4) rfl rfl ?_
   refine o_iloadN X20h hx 6 (hb hby o_d11_5) rfl ?_
   refine o_aloadN X20h hx 7 (hb hby o_d11_6) rfl rfl ?_
   refine o_iconst X20h hx 8 0 (hb hby o_d11_7) rfl ?_
   refine o_iloadN X20h hx 9 (hb hby o_d11_8) rfl ?_
   have f25 := (pV1.ext E20)
   obtain ⟨_, _, ⟨T26, Lx26, kc26, nc26⟩, -, X26, ⟨Lc26, hQ26, lq26, yq26, zq26⟩, st26⟩ := Jvm.LawKit.callS X20h hx (y := y26) hown (mvT hZ (W hw 60 rfl)) (mvT hZ (W hw 61 rfl)) (mvT hZ (W hw 58 rfl)) (mvT hZ (W hw 62 rfl)) (by decide) (backOf (W := 0) (o_rm12n3k1 l Z a0 hw [] o1 b20 k20 kc c0 c1 c2 h20 n0 Z24 f25 V20 gt_b20 ne21 (hc0_1 : ¬ (255 : Int32) < c0) (hc0_19 : (255 : Int32) < c1)) hZ (W hw 62 rfl) (W hw 58 rfl) (by decide) (by decide)) (g := (mkF m 9 #[(sR o1), (sI 0), (sI 3), (sR b20), .unset, .unset] [(.int 3), (.int 0), (.ref b20), (.int 0), (.ref o1)])) rfl (by rw [hml]; rfl) (argsL := [(.ref o1), (.int 0), (.ref b20), (.int 0), (.int 3)]) (rest := []) (lenOf o_pd16 rfl) rfl (o_wl rfl) (hb hby o_d11_9) (fun _ _ => ⟨rfl, e20, (by decide : 1 + 0 ≤ _), (by decide : 3 + 0 ≤ _)⟩)
   dsimp only [Pt.U, Pt.locs, Pt.cells, Pt.slots] at X26 lq26 yq26 zq26 st26 hQ26
   subst lq26 yq26 zq26
   obtain ⟨rfl, Nq26, Kp26⟩ := hQ26
   have N26 := Fr.app N20h Nq26
   have O27 := O22.keep Kp26 (allS gt_b20 all0)
   have KC28 := KC23.trans Kp26 (allS (Or.inr sz_b20) all0)
   have Z29 := Nat.le_trans Z24 Kp26.1
   refine o_st (G' := T26.setTop (mkF m 12 #[(sR o1), (sI 0), (sI 3), (sR b20), .unset, .unset] [(.int 1)])) st26 ?_
   obtain ⟨_, X26h, N26h⟩ := o_hide X26 N26
   refine o_istore X26h hx 14 #[(sR o1), (sI 0), (sI 3), (sR b20), (sI 1), .unset] (hb hby o_d11_12) rfl ?_
   refine o_iload X26h hx 16 (hb hby o_d11_14) rfl ?_
   refine o_iloadN X26h hx 17 (hb hby o_d11_16) rfl ?_
   refine o_icmpNo X26h hx 20 (hb hby o_d11_17) (feq (by decide : ¬ ((1 : Int32) = (3 : Int32)))).1 ?_
   refine o_aloadN X26h hx 21 (hb hby o_d11_20) rfl rfl ?_
   refine o_iloadN X26h hx 22 (hb hby o_d11_21) rfl ?_
   refine o_iloadN X26h hx 23 (hb hby o_d11_22) rfl ?_
   have f30 := (f25.keep Kp26 (ninS ne21 nin0))
   obtain ⟨_, _, ⟨T31, Lx31, kc31, nc31⟩, -, X31, ⟨Lc31, hQ31, lq31, yq31, zq31⟩, st31⟩ := Jvm.LawKit.callS X26h hx (y := y17) hown (mvT hZ (W hw 89 rfl)) (mvT hZ (W hw 90 rfl)) (mvT hZ (W hw 58 rfl)) (mvT hZ (W hw 91 rfl)) (by decide) (backOf (W := 0) (o_rm20n3 l Z a0 hw [] cs sf GG o1 kc c0 c1 c2 T26.heap n0 Z29 f30 O27) hZ (W hw 91 rfl) (W hw 58 rfl) (by decide) (by decide)) (g := (mkF m 23 #[(sR o1), (sI 0), (sI 3), (sR b20), (sI 1), .unset] [(.int 3), (.int 0), (.ref o1)])) rfl (by rw [hml]; rfl) (argsL := [(.ref o1), (.int 0), (.int 3)]) (rest := []) (lenOf o_pd17 rfl) rfl (o_wl rfl) (hb hby o_d11_23) (fun _ _ => ⟨rfl, rfl, (by decide : 1 + 1 ≤ _), (by decide : 3 + 6 ≤ _)⟩)
   dsimp only [Pt.U, Pt.locs, Pt.cells, Pt.slots] at X31 lq31 yq31 zq31 st31 hQ31
   subst lq31 yq31 zq31
   obtain ⟨bb_31, kb_31, rfl, Nq31, Kp31, G31_0, G31_1⟩ := hQ31
   have N31 := Fr.app N26h Nq31
   have sz_bb_31 : h0.size ≤ bb_31 := Nat.le_trans KC28.1 G31_0
   have O33 := O27.keep Kp31 all0
   have KC34 := KC28.trans Kp31 all0
   have Z35 := Nat.le_trans Z29 Kp31.1
   refine o_st (G' := T31.setTop (mkF m 26 #[(sR o1), (sI 0), (sI 3), (sR b20), (sI 1), .unset] [(.ref bb_31)])) st31 ?_
   obtain ⟨_, X31h, N31h⟩ := o_hide X31 N31
   refine o_astore X31h hx 28 #[(sR o1), (sI 0), (sI 3), (sR b20), (sI 1), (sR bb_31)] (hb hby o_d11_26) rfl rfl ?_
   refine o_aload X31h hx 30 (hb hby o_d11_28) rfl rfl ?_
   refine o_iload X31h hx 32 (hb hby o_d11_30) rfl ?_
   obtain ⟨_, _, ⟨T36, Lx36, kc36, nc36⟩, -, X36, ⟨Lc36, hQ36, lq36, yq36, zq36⟩, st36⟩ := Jvm.LawKit.callS X31h hx (y := y13) hown (mvT hZ (W hw 105 rfl)) (mvT hZ (W hw 106 rfl)) (mvT hZ (W hw 58 rfl)) (mvT hZ (W hw 107 rfl)) (by decide) (backOf (W := 0) (o_rm24n3i1 l Z a0 hw [] cs sf GG bb_31 kb_31 c0 c1 c2 T31.heap n0 Z35 G31_1 O33 (hC1 : o_C c1)) hZ (W hw 107 rfl) (W hw 58 rfl) (by decide) (by decide)) (g := (mkF m 32 #[(sR o1), (sI 0), (sI 3), (sR b20), (sI 1), (sR bb_31)] [(.int 1), (.ref bb_31)])) rfl (by rw [hml]; rfl) (argsL := [(.ref bb_31), (.int 1)]) (rest := []) (lenOf o_pd7 rfl) rfl (o_wl rfl) (hb hby o_d11_32) (fun _ _ => ⟨rfl, rfl, (by decide : 2 + 0 ≤ _), (by decide : 9 + 0 ≤ _)⟩)
   dsimp only [Pt.U, Pt.locs, Pt.cells, Pt.slots] at X36 lq36 yq36 zq36 st36 hQ36
   subst lq36 yq36 zq36
   obtain ⟨rfl, Nq36, eh36⟩ := hQ36
   have N36 := Fr.app N31h Nq36
   refine o_st (G' := T36.setTop (mkF m 35 #[(sR o1), (sI 0), (sI 3), (sR b20), (sI 1), (sR bb_31)] [(.int c1)])) st36 ?_
   obtain ⟨_, X36h, N36h⟩ := o_hide X36 N36
   refine o_sipush X36h hx 38 255 (hb hby o_d11_35) rfl ?_
   refine o_icmpYes X36h hx 54 (hb hby o_d11_38) (tlt hc0_19).2.2.1 ?_
   refine o_aload X36h hx 56 (hb hby o_d11_54) rfl rfl ?_
   exact o_retA (z := (.ref bb_31)) (Q := o_Q11n3U Z cs sf GG o1 kc c0 c1 c2 h0 n0) X36h hx hrt rfl rfl (hb hby o_d11_56) hlk eh36 ⟨bb_31, kb_31, rfl, N36h, KC34, sz_bb_31, G31_1⟩ (by decide) (by decide)
  ·have hl37 : (255 : Int32) < c2 := (hU.resolve_left hc0_1).resolve_left hc0_19
   refine o_iloadN X0 hx 1 (hb hby o_d11_0) rfl ?_
   obtain ⟨T38, h38, k38, X38, e38, E38, A38, st38⟩ := newP X0 hx hZ (W hw 15 rfl) e0 (g := (mkF m 1 #[(sR o1), (sI 0), (sI 3), .unset, .unset, .unset] [(.int 3)])) rfl (hb hby o_d11_1) rfl (by decide) (cap := 3) (by decide) (by decide) (by decide) (by decide)
   obtain ⟨b38, g38⟩ : ∃ z, z = h0.size := ⟨_, rfl⟩
   rw [← g38] at A38 st38
   have ne39 : o1 ≠ b38 := Nat.ne_of_lt (Nat.lt_of_lt_of_le pV1.lt (Nat.le_of_eq g38.symm))
   have gt_b38 : n0 ≤ b38 := Nat.le_trans Z0 (Nat.le_of_eq g38.symm)
   have sz_b38 : h0.size ≤ b38 := Nat.le_trans KC0.1 (Nat.le_of_eq g38.symm)
   have V38 : Arv Z h38 b38 k38 .byte 3 [(.int 0), (.int 0), (.int 0)] (.int 0) := (Arv.new A38 (by decide)).pad (pad_rep [] (.int 0) 3)
   have O40 := O0.ext E38
   have KC41 := KC0.ext E38
   have Z42 := Nat.le_trans Z0 E38.1
   refine o_st (G' := T38.setTop (mkF m 3 #[(sR o1), (sI 0), (sI 3), .unset, .unset, .unset] [(.ref b38)])) st38 ?_
   obtain ⟨_, X38h, N38h⟩ := o_hide X38 N0
   refine o_astoreN X38h hx 4 #[(sR o1), (sI 0), (sI 3), (sR b38), .unset, .unset] (hb hby o_d11_3) rfl rfl ?_
   refine o_aloadN X38h hx 5 (hb hby o_d11_4) rfl rfl ?_
   refine o_iloadN X38h hx 6 (hb hby o_d11_5) rfl ?_
   refine o_aloadN X38h hx 7 (hb hby o_d11_6) rfl rfl ?_
   refine o_iconst X38h hx 8 0 (hb hby o_d11_7) rfl ?_
   refine o_iloadN X38h hx 9 (hb hby o_d11_8) rfl ?_
   have f43 := (pV1.ext E38)
   obtain ⟨_, _, ⟨T44, Lx44, kc44, nc44⟩, -, X44, ⟨Lc44, hQ44, lq44, yq44, zq44⟩, st44⟩ := Jvm.LawKit.callS X38h hx (y := y26) hown (mvT hZ (W hw 60 rfl)) (mvT hZ (W hw 61 rfl)) (mvT hZ (W hw 58 rfl)) (mvT hZ (W hw 62 rfl)) (by decide) (backOf (W := 0) (o_rm12n3k2 l Z a0 hw [] o1 b38 k38 kc c0 c1 c2 h38 n0 Z42 f43 V38 gt_b38 ne39 (hc0_1 : ¬ (255 : Int32) < c0) (hc0_19 : ¬ (255 : Int32) < c1) (hl37 : (255 : Int32) < c2)) hZ (W hw 62 rfl) (W hw 58 rfl) (by decide) (by decide)) (g := (mkF m 9 #[(sR o1), (sI 0), (sI 3), (sR b38), .unset, .unset] [(.int 3), (.int 0), (.ref b38), (.int 0), (.ref o1)])) rfl (by rw [hml]; rfl) (argsL := [(.ref o1), (.int 0), (.ref b38), (.int 0), (.int 3)]) (rest := []) (lenOf o_pd16 rfl) rfl (o_wl rfl) (hb hby o_d11_9) (fun _ _ => ⟨rfl, e38, (by decide : 1 + 0 ≤ _), (by decide : 3 + 0 ≤ _)⟩)
   dsimp only [Pt.U, Pt.locs, Pt.cells, Pt.slots] at X44 lq44 yq44 zq44 st44 hQ44
   subst lq44 yq44 zq44
   obtain ⟨rfl, Nq44, Kp44⟩ := hQ44
   have N44 := Fr.app N38h Nq44
   have O45 := O40.keep Kp44 (allS gt_b38 all0)
   have KC46 := KC41.trans Kp44 (allS (Or.inr sz_b38) all0)
   have Z47 := Nat.le_trans Z42 Kp44.1
   refine o_st (G' := T44.setTop (mkF m 12 #[(sR o1), (sI 0), (sI 3), (sR b38), .unset, .unset] [(.int 2)])) st44 ?_
   obtain ⟨_, X44h, N44h⟩ := o_hide X44 N44
   refine o_istore X44h hx 14 #[(sR o1), (sI 0), (sI 3), (sR b38), (sI 2), .unset] (hb hby o_d11_12) rfl ?_
   refine o_iload X44h hx 16 (hb hby o_d11_14) rfl ?_
   refine o_iloadN X44h hx 17 (hb hby o_d11_16) rfl ?_
   refine o_icmpNo X44h hx 20 (hb hby o_d11_17) (feq (by decide : ¬ ((2 : Int32) = (3 : Int32)))).1 ?_
   refine o_aloadN X44h hx 21 (hb hby o_d11_20) rfl rfl ?_
   refine o_iloadN X44h hx 22 (hb hby o_d11_21) rfl ?_
   refine o_iloadN X44h hx 23 (hb hby o_d11_22) rfl ?_
   have f48 := (f43.keep Kp44 (ninS ne39 nin0))
   obtain ⟨_, _, ⟨T49, Lx49, kc49, nc49⟩, -, X49, ⟨Lc49, hQ49, lq49, yq49, zq49⟩, st49⟩ := Jvm.LawKit.callS X44h hx (y := y17) hown (mvT hZ (W hw 89 rfl)) (mvT hZ (W hw 90 rfl)) (mvT hZ (W hw 58 rfl)) (mvT hZ (W hw 91 rfl)) (by decide) (backOf (W := 0) (o_rm20n3 l Z a0 hw [] cs sf GG o1 kc c0 c1 c2 T44.heap n0 Z47 f48 O45) hZ (W hw 91 rfl) (W hw 58 rfl) (by decide) (by decide)) (g := (mkF m 23 #[(sR o1), (sI 0), (sI 3), (sR b38), (sI 2), .unset] [(.int 3), (.int 0), (.ref o1)])) rfl (by rw [hml]; rfl) (argsL := [(.ref o1), (.int 0), (.int 3)]) (rest := []) (lenOf o_pd17 rfl) rfl (o_wl rfl) (hb hby o_d11_23) (fun _ _ => ⟨rfl, rfl, (by decide : 1 + 1 ≤ _), (by decide : 3 + 6 ≤ _)⟩)
   dsimp only [Pt.U, Pt.locs, Pt.cells, Pt.slots] at X49 lq49 yq49 zq49 st49 hQ49
   subst lq49 yq49 zq49
   obtain ⟨bb_49, kb_49, rfl, Nq49, Kp49, G49_0, G49_1⟩ := hQ49
   have N49 := Fr.app N44h Nq49
   have sz_bb_49 : h0.size ≤ bb_49 := Nat.le_trans KC46.1 G49_0
   have O51 := O45.keep Kp49 all0
   have KC52 := KC46.trans Kp49 all0
   have Z53 := Nat.le_trans Z47 Kp49.1
   refine o_st (G' := T49.setTop (mkF m 26 #[(sR o1), (sI 0), (sI 3), (sR b38), (sI 2), .unset] [(.ref bb_49)])) st49 ?_
   obtain ⟨_, X49h, N49h⟩ := o_hide X49 N49
   refine o_astore X49h hx 28 #[(sR o1), (sI 0), (sI 3), (sR b38), (sI 2), (sR bb_49)] (hb hby o_d11_26) rfl rfl ?_
   refine o_aload X49h hx 30 (hb hby o_d11_28) rfl rfl ?_
   refine o_iload X49h hx 32 (hb hby o_d11_30) rfl ?_
   obtain ⟨_, _, ⟨T54, Lx54, kc54, nc54⟩, -, X54, ⟨Lc54, hQ54, lq54, yq54, zq54⟩, st54⟩ := Jvm.LawKit.callS X49h hx (y := y13) hown (mvT hZ (W hw 105 rfl)) (mvT hZ (W hw 106 rfl)) (mvT hZ (W hw 58 rfl)) (mvT hZ (W hw 107 rfl)) (by decide) (backOf (W := 0) (o_rm24n3i2 l Z a0 hw [] cs sf GG bb_49 kb_49 c0 c1 c2 T49.heap n0 Z53 G49_1 O51 (hC2 : o_C c2)) hZ (W hw 107 rfl) (W hw 58 rfl) (by decide) (by decide)) (g := (mkF m 32 #[(sR o1), (sI 0), (sI 3), (sR b38), (sI 2), (sR bb_49)] [(.int 2), (.ref bb_49)])) rfl (by rw [hml]; rfl) (argsL := [(.ref bb_49), (.int 2)]) (rest := []) (lenOf o_pd7 rfl) rfl (o_wl rfl) (hb hby o_d11_32) (fun _ _ => ⟨rfl, rfl, (by decide : 2 + 0 ≤ _), (by decide : 9 + 0 ≤ _)⟩)
   dsimp only [Pt.U, Pt.locs, Pt.cells, Pt.slots] at X54 lq54 yq54 zq54 st54 hQ54
   subst lq54 yq54 zq54
   obtain ⟨rfl, Nq54, eh54⟩ := hQ54
   have N54 := Fr.app N49h Nq54
   refine o_st (G' := T54.setTop (mkF m 35 #[(sR o1), (sI 0), (sI 3), (sR b38), (sI 2), (sR bb_49)] [(.int c2)])) st54 ?_
   obtain ⟨_, X54h, N54h⟩ := o_hide X54 N54
   refine o_sipush X54h hx 38 255 (hb hby o_d11_35) rfl ?_
   refine o_icmpYes X54h hx 54 (hb hby o_d11_38) (tlt hl37).2.2.1 ?_
   refine o_aload X54h hx 56 (hb hby o_d11_54) rfl rfl ?_
   exact o_retA (z := (.ref bb_49)) (Q := o_Q11n3U Z cs sf GG o1 kc c0 c1 c2 h0 n0) X54h hx hrt rfl rfl (hb hby o_d11_56) hlk eh54 ⟨bb_49, kb_49, rfl, N54h, KC52, sz_bb_49, G49_1⟩ (by decide) (by decide)
def o_Q2n3U (Z : State) (cs : Int32) (sf : Value) (GG : o_G Z cs sf) (o1 : Addr) (o2 : Addr) (kc : ClassId) (c0 : Int32) (c1 : Int32) (c2 : Int32) (h0 : Heap) (n0 : Nat) (v : Option Value) (h : Heap) (L : List Loc) : Prop := ∃ bb : Addr, ∃ kb : ClassId, v = none ∧ Fr n0 L ∧ Keep h0 h [o1] ∧ Exa Z h o1 "java/lang/String" ∧ h0.size ≤ bb ∧ Fld Z h o1 "java/lang/String" "value" "[B" (.ref bb) ∧ Fld Z h o1 "java/lang/String" "coder" "B" (.int 1) ∧ Arv Z h bb kb .byte 6 [(.int (o_lo c0)), (.int (o_hi c0)), (.int (o_lo c1)), (.int (o_hi c1)), (.int (o_lo c2)), (.int (o_hi c2))] (.int 0)
set_option maxRecDepth 65536 in
set_option maxHeartbeats 40000000 in
theorem o_rm2n3U (l : Launch) (Z : State) (a0 : Array Value) (hw : o_Hw Z a0) (ws : List Jvm.Cond) (cs : Int32) (sf : Value) (GG : o_G Z cs sf) (o1 : Addr) (o2 : Addr) (kc : ClassId) (c0 : Int32) (c1 : Int32) (c2 : Int32) (h0 : Heap) (n0 : Nat) (Z0 : n0 ≤ h0.size) (pE1 : Exa Z h0 o1 "java/lang/String") (pF2 : Fld Z h0 o1 "java/lang/String" "value" "[B" .null) (pF3 : Fld Z h0 o1 "java/lang/String" "coder" "B" (.int 0)) (pG4 : n0 ≤ o1) (O0 : Old Z n0 h0) (pV6 : Arv Z h0 o2 kc .char 3 [(.int c0), (.int c1), (.int c2)] (.int 0)) (hC0 : o_C c0) (hC1 : o_C c1) (hC2 : o_C c2) (hU : (255 : Int32) < c0 ∨ (255 : Int32) < c1 ∨ (255 : Int32) < c2) :
  o_Met l y28 jdk_42_method_149_code 6 none ws r48 #[(.ref o1), (.ref o2), (.int 0), (.int 3), .null] Z h0 (o_Q2n3U Z cs sf GG o1 o2 kc c0 c1 c2 h0 n0) := by
 refine MetFree.of_bodySF (plainFor_of_name o_pn3) hisR ?_
 intro p e s m args below meth c s₁ Bd hml0 hP hK
 obtain ⟨rfl, hZ, hh⟩ := hP
 obtain ⟨hx, hby, hlk, hrt⟩ := o_bd Bd
 have hml : c.maxLocals = 6 := hml0
 have hown : s.vm.findClass "java/lang/String" = some m.cls := findClass_of_methodNamed Bd.named
 have hnm := (name_of_methodNamed Bd.named Bd.method).1
 have X0 : Stand p l e r48 s m #[(.ref o1), (.ref o2), (.int 0), (.int 3), .null] below meth c s₁ [] 0 0 := Stand.of_body Bd
 have e0 := o_e0 Bd hh
 have N0 := Fr.nil n0
 have KC0 := Keep.refl h0 [o1]
 refine o_in (g' := mkF m 0 #[(sR o1), (sR o2), (sI 0), (sI 3), .val .null, .unset] []) (by simp [entryFrame, mkF, argsToLocals, Value.category]) ?_
 refine o_aloadN X0 hx 1 (hb hby o_d2_0) rfl rfl ?_
 obtain ⟨T1, X1, e1, st1⟩ := initO X0 hx hZ hown (W hw 11 rfl) (W hw 12 rfl) (W hw 13 rfl) e0 (g := (mkF m 1 #[(sR o1), (sR o2), (sI 0), (sI 3), .val .null, .unset] [(.ref o1)])) rfl (by rw [hml]; rfl) rfl (hb hby o_d2_1) (by decide) (W := 0) (o_wl rfl) (by decide)
 refine o_st (G' := T1.setTop (mkF m 4 #[(sR o1), (sR o2), (sI 0), (sI 3), .val .null, .unset] [])) st1 ?_
 obtain ⟨_, X1h, N1h⟩ := o_hide X1 N0
 refine o_iloadN X1h hx 5 (hb hby o_d2_4) rfl ?_
 refine o_ifYes X1h hx 27 (hb hby o_d2_5) (feq (by decide : ¬ ((3 : Int32) = (0 : Int32)))).2 ?_
 obtain ⟨T2, X2, e2, st2⟩ := getS2 X1h hx hZ hown (host := "") (Or.inl (W hw 36 rfl)) Via.refl e1 (GG.1.ext O0.2) (g := (mkF m 27 #[(sR o1), (sR o2), (sI 0), (sI 3), .val .null, .unset] [])) rfl (hb hby o_d2_27)
 refine o_st (G' := T2.setTop (mkF m 30 #[(sR o1), (sR o2), (sI 0), (sI 3), .val .null, .unset] [(.int cs)])) st2 ?_
 obtain ⟨_, X2h, N2h⟩ := o_hide X2 N1h
 refine o_ifNo X2h hx 33 (hb hby o_d2_30) (feq (GG.2.1 : ¬ (cs = (0 : Int32)))).1 ?_
 refine o_aloadN X2h hx 34 (hb hby o_d2_33) rfl rfl ?_
 refine o_iloadN X2h hx 35 (hb hby o_d2_34) rfl ?_
 refine o_iloadN X2h hx 36 (hb hby o_d2_35) rfl ?_
 obtain ⟨_, _, ⟨T3, Lx3, kc3, nc3⟩, -, X3, ⟨Lc3, hQ3, lq3, yq3, zq3⟩, st3⟩ := Jvm.LawKit.callS X2h hx (y := y27) hown (mvT hZ (W hw 56 rfl)) (mvT hZ (W hw 57 rfl)) (mvT hZ (W hw 58 rfl)) (mvT hZ (W hw 59 rfl)) (by decide) (backOf (W := 0) (o_rm11n3U l Z a0 hw [] cs sf GG o2 kc c0 c1 c2 h0 n0 Z0 pV6 O0 (hC0 : o_C c0) (hC1 : o_C c1) (hC2 : o_C c2) (hU : (255 : Int32) < c0 ∨ (255 : Int32) < c1 ∨ (255 : Int32) < c2)) hZ (W hw 59 rfl) (W hw 58 rfl) (by decide) (by decide)) (g := (mkF m 36 #[(sR o1), (sR o2), (sI 0), (sI 3), .val .null, .unset] [(.int 3), (.int 0), (.ref o2)])) rfl (by rw [hml]; rfl) (argsL := [(.ref o2), (.int 0), (.int 3)]) (rest := []) (lenOf o_pd17 rfl) rfl (o_wl rfl) (hb hby o_d2_36) (fun _ _ => ⟨rfl, e2, (by decide : 0 + 2 ≤ _), (by decide : 0 + 9 ≤ _)⟩)
 dsimp only [Pt.U, Pt.locs, Pt.cells, Pt.slots] at X3 lq3 yq3 zq3 st3 hQ3
 subst lq3 yq3 zq3
 obtain ⟨bb_3, kb_3, rfl, Nq3, Kp3, G3_0, G3_1⟩ := hQ3
 have N3 := Fr.app N2h Nq3
 have ne4 : o1 ≠ bb_3 := Nat.ne_of_lt (Nat.lt_of_lt_of_le pE1.lt G3_0)
 have sz_bb_3 : h0.size ≤ bb_3 := Nat.le_trans KC0.1 G3_0
 have KC7 := KC0.trans Kp3 all0
 have Z8 := Nat.le_trans Z0 Kp3.1
 refine o_st (G' := T3.setTop (mkF m 39 #[(sR o1), (sR o2), (sI 0), (sI 3), .val .null, .unset] [(.ref bb_3)])) st3 ?_
 obtain ⟨_, X3h, N3h⟩ := o_hide X3 N3
 refine o_astore X3h hx 41 #[(sR o1), (sR o2), (sI 0), (sI 3), .val .null, (sR bb_3)] (hb hby o_d2_39) rfl rfl ?_
 refine o_aloadN X3h hx 42 (hb hby o_d2_41) rfl rfl ?_
 refine o_aload X3h hx 44 (hb hby o_d2_42) rfl rfl ?_
 refine o_iloadN X3h hx 45 (hb hby o_d2_44) rfl ?_
 obtain ⟨_, _, ⟨T9, Lx9, kc9, nc9⟩, -, X9, ⟨Lc9, hQ9, lq9, yq9, zq9⟩, st9⟩ := Jvm.LawKit.callS X3h hx (y := y22) hown (mvT hZ (W hw 63 rfl)) (mvT hZ (W hw 64 rfl)) (mvT hZ (W hw 58 rfl)) (mvT hZ (W hw 65 rfl)) (by decide) (backOf (W := 1) (o_rm13n3U l Z a0 hw [] bb_3 kb_3 [(.int (o_lo c0)), (.int (o_hi c0)), (.int (o_lo c1)), (.int (o_hi c1)), (.int (o_lo c2)), (.int (o_hi c2))] T3.heap n0 Z8 G3_1) hZ (W hw 65 rfl) (W hw 58 rfl) (by decide) (by decide)) (g := (mkF m 45 #[(sR o1), (sR o2), (sI 0), (sI 3), .val .null, (sR bb_3)] [(.int 3), (.ref bb_3), (.ref o1)])) rfl (by rw [hml]; rfl) (argsL := [(.ref bb_3), (.int 3)]) (rest := [(.ref o1)]) (lenOf o_pd18 rfl) rfl (o_wl rfl) (hb hby o_d2_45) (fun _ _ => ⟨rfl, rfl, (by decide : 2 + 0 ≤ _), (by decide : 9 + 0 ≤ _)⟩)
 dsimp only [Pt.U, Pt.locs, Pt.cells, Pt.slots] at X9 lq9 yq9 zq9 st9 hQ9
 subst lq9 yq9 zq9
 obtain ⟨rfl, Nq9, eh9⟩ := hQ9
 have N9 := Fr.app N3h Nq9
 refine o_st (G' := T9.setTop (mkF m 48 #[(sR o1), (sR o2), (sI 0), (sI 3), .val .null, (sR bb_3)] [(.int 1), (.ref o1)])) st9 ?_
 obtain ⟨_, X9h, N9h⟩ := o_hide X9 N9
 have f10 := (pF3.keep Kp3 nin0)
 have f11 := (pE1.keep Kp3)
 obtain ⟨T12, h12, X12, e12, W12, st12⟩ := putFN X9h hx hZ hown (W hw 21 rfl) Via.refl eh9 f10 f11 (Or.inr ⟨(W hw 17 rfl), rfl, hnm⟩) (W hw 2 rfl) (ty := .byte) (v' := (.int 1)) (by decide) rfl rfl (g := (mkF m 48 #[(sR o1), (sR o2), (sI 0), (sI 3), .val .null, (sR bb_3)] [(.int 1), (.ref o1)])) rfl rfl (hb hby o_d2_48)
 have Fw12 := f10.same W12
 have N12 := Fr.snoc X12 N9h pG4
 have KC14 := KC7.wr W12 (Or.inl (List.mem_of_getElem? (i := 0) rfl))
 refine o_st (G' := T12.setTop (mkF m 51 #[(sR o1), (sR o2), (sI 0), (sI 3), .val .null, (sR bb_3)] [])) st12 ?_
 obtain ⟨_, X12h, N12h⟩ := o_hide X12 N12
 refine o_aloadN X12h hx 52 (hb hby o_d2_51) rfl rfl ?_
 refine o_aload X12h hx 54 (hb hby o_d2_52) rfl rfl ?_
 have f16 := ((pF2.keep Kp3 nin0).other W12 (Or.inr (slot_ne (Or.inr (W hw 16 rfl)) (Or.inr (W hw 17 rfl)) (by decide) (t := (.array .byte)) (t' := .byte) (by decide) (by decide))))
 have f17 := (f11.wr W12)
 obtain ⟨T18, h18, X18, e18, W18, st18⟩ := putF X12h hx hZ hown (host := "") (Or.inl (W hw 20 rfl)) Via.refl e12 f16 f17 (Or.inr ⟨(W hw 16 rfl), rfl, hnm⟩) (W hw 2 rfl) (v := (.ref bb_3)) (ty := (.array .byte)) (by decide) rfl rfl (g := (mkF m 54 #[(sR o1), (sR o2), (sI 0), (sI 3), .val .null, (sR bb_3)] [(.ref bb_3), (.ref o1)])) rfl rfl (hb hby o_d2_54)
 have Fw18 := f16.same W18
 have N18 := Fr.snoc X18 N12h pG4
 have KC20 := KC14.wr W18 (Or.inl (List.mem_of_getElem? (i := 0) rfl))
 refine o_st (G' := T18.setTop (mkF m 57 #[(sR o1), (sR o2), (sI 0), (sI 3), .val .null, (sR bb_3)] [])) st18 ?_
 obtain ⟨_, X18h, N18h⟩ := o_hide X18 N18
 have f22 := (f17.wr W18)
 have f23 := (Fw12.other W18 (Or.inr (slot_ne (Or.inr (W hw 17 rfl)) (Or.inr (W hw 16 rfl)) (by decide) (t := .byte) (t' := (.array .byte)) (by decide) (by decide))))
 have f24 := ((G3_1.other W12 (Ne.symm ne4)).other W18 (Ne.symm ne4))
 exact o_retV (Q := o_Q2n3U Z cs sf GG o1 o2 kc c0 c1 c2 h0 n0) X18h hx hrt (hb hby o_d2_57) hlk e18 ⟨bb_3, kb_3, rfl, N18h, KC20, f22, sz_bb_3, Fw18, f23, f24⟩ (by decide) (by decide)
def o_Q1n3U (Z : State) (cs : Int32) (sf : Value) (GG : o_G Z cs sf) (o1 : Addr) (o2 : Addr) (kc : ClassId) (c0 : Int32) (c1 : Int32) (c2 : Int32) (h0 : Heap) (n0 : Nat) (v : Option Value) (h : Heap) (L : List Loc) : Prop := ∃ bb : Addr, ∃ kb : ClassId, v = none ∧ Fr n0 L ∧ Keep h0 h [o1] ∧ Exa Z h o1 "java/lang/String" ∧ h0.size ≤ bb ∧ Fld Z h o1 "java/lang/String" "value" "[B" (.ref bb) ∧ Fld Z h o1 "java/lang/String" "coder" "B" (.int 1) ∧ Arv Z h bb kb .byte 6 [(.int (o_lo c0)), (.int (o_hi c0)), (.int (o_lo c1)), (.int (o_hi c1)), (.int (o_lo c2)), (.int (o_hi c2))] (.int 0)
set_option maxRecDepth 65536 in
set_option maxHeartbeats 40000000 in
theorem o_rm1n3U (l : Launch) (Z : State) (a0 : Array Value) (hw : o_Hw Z a0) (ws : List Jvm.Cond) (cs : Int32) (sf : Value) (GG : o_G Z cs sf) (o1 : Addr) (o2 : Addr) (kc : ClassId) (c0 : Int32) (c1 : Int32) (c2 : Int32) (h0 : Heap) (n0 : Nat) (Z0 : n0 ≤ h0.size) (pE1 : Exa Z h0 o1 "java/lang/String") (pF2 : Fld Z h0 o1 "java/lang/String" "value" "[B" .null) (pF3 : Fld Z h0 o1 "java/lang/String" "coder" "B" (.int 0)) (pG4 : n0 ≤ o1) (O0 : Old Z n0 h0) (pV6 : Arv Z h0 o2 kc .char 3 [(.int c0), (.int c1), (.int c2)] (.int 0)) (hC0 : o_C c0) (hC1 : o_C c1) (hC2 : o_C c2) (hU : (255 : Int32) < c0 ∨ (255 : Int32) < c1 ∨ (255 : Int32) < c2) :
  o_Met l y29 jdk_42_method_3_code 2 none ws r49 #[(.ref o1), (.ref o2)] Z h0 (o_Q1n3U Z cs sf GG o1 o2 kc c0 c1 c2 h0 n0) := by
 refine MetFree.of_bodySF (plainFor_of_name o_pn3) hisR ?_
 intro p e s m args below meth c s₁ Bd hml0 hP hK
 obtain ⟨rfl, hZ, hh⟩ := hP
 obtain ⟨hx, hby, hlk, hrt⟩ := o_bd Bd
 have hml : c.maxLocals = 2 := hml0
 have hown : s.vm.findClass "java/lang/String" = some m.cls := findClass_of_methodNamed Bd.named
 have X0 : Stand p l e r49 s m #[(.ref o1), (.ref o2)] below meth c s₁ [] 0 0 := Stand.of_body Bd
 have e0 := o_e0 Bd hh
 have N0 := Fr.nil n0
 have KC0 := Keep.refl h0 [o1]
 refine o_in (g' := mkF m 0 #[(sR o1), (sR o2)] []) (by simp [entryFrame, mkF, argsToLocals, Value.category]) ?_
 refine o_aloadN X0 hx 1 (hb hby o_d1_0) rfl rfl ?_
 refine o_aloadN X0 hx 2 (hb hby o_d1_1) rfl rfl ?_
 refine o_iconst X0 hx 3 0 (hb hby o_d1_2) rfl ?_
 refine o_aloadN X0 hx 4 (hb hby o_d1_3) rfl rfl ?_
 obtain ⟨cl1, Ar1, qv1, S1, M1, H1, G1⟩ := id pV6
 have ln1 := len_of S1 M1
 refine o_st (G' := s₁.setTop (mkF m 5 #[(sR o1), (sR o2)] [(.int 3), (.int 0), (.ref o2), (.ref o1)])) (fun t k => X0.arraylength hx (by rw [e0]; exact Ar1.1) (State.isArrayOf_alike hZ.alike Ar1.2.1) (g := (mkF m 4 #[(sR o1), (sR o2)] [(.ref o2), (.int 0), (.ref o2), (.ref o1)])) rfl rfl (hb hby o_d1_4) _ (by rw [ln1]; exact k)) ?_
 refine o_aconstNull X0 hx 6 (hb hby o_d1_5) ?_
 obtain ⟨_, _, ⟨T2, Lx2, kc2, nc2⟩, -, X2, ⟨Lc2, hQ2, lq2, yq2, zq2⟩, st2⟩ := X0.specialBack hx (y := y28) rfl hown (mvT hZ (W hw 7 rfl)) (mvT hZ (W hw 8 rfl)) (mvT hZ (W hw 10 rfl)) (by decide) (backOf (W := 0) (o_rm2n3U l Z a0 hw [] cs sf GG o1 o2 kc c0 c1 c2 h0 n0 Z0 pE1 pF2 pF3 pG4 O0 pV6 (hC0 : o_C c0) (hC1 : o_C c1) (hC2 : o_C c2) (hU : (255 : Int32) < c0 ∨ (255 : Int32) < c1 ∨ (255 : Int32) < c2)) hZ (W hw 10 rfl) (W hw 3 rfl) (by decide) (by decide)) (g := (mkF m 6 #[(sR o1), (sR o2)] [.null, (.int 3), (.int 0), (.ref o2), (.ref o1)])) rfl (by rw [hml]; rfl) (Steps.refl _) (a := o1) (argsL := [(.ref o2), (.int 0), (.int 3), .null]) (rest := []) (lenOf o_pd19 rfl) rfl (o_wl rfl) (hb hby o_d1_6) (fun _ _ => ⟨rfl, e0, (by decide : 0 + 2 ≤ _), (by decide : 0 + 9 ≤ _)⟩)
 dsimp only [Pt.U, Pt.locs, Pt.cells, Pt.slots] at X2 lq2 yq2 zq2 st2 hQ2
 subst lq2 yq2 zq2
 obtain ⟨bb_2, kb_2, rfl, Nq2, Kp2, G2_0, G2_1, G2_2, G2_3, G2_4⟩ := hQ2
 have N2 := Fr.app N0 Nq2
 have sz_bb_2 : h0.size ≤ bb_2 := Nat.le_trans KC0.1 G2_1
 have KC6 := KC0.trans Kp2 (allS (Or.inl (List.mem_of_getElem? (i := 0) rfl)) all0)
 refine o_st (G' := T2.setTop (mkF m 9 #[(sR o1), (sR o2)] [])) (fun t k => st2.trans k) ?_
 obtain ⟨_, X2h, N2h⟩ := o_hide X2 N2
 exact o_retV (Q := o_Q1n3U Z cs sf GG o1 o2 kc c0 c1 c2 h0 n0) X2h hx hrt (hb hby o_d1_9) hlk rfl ⟨bb_2, kb_2, rfl, N2h, KC6, G2_0, sz_bb_2, G2_2, G2_3, G2_4⟩ (by decide) (by decide)
def o_Q4n3U (Z : State) (cs : Int32) (sf : Value) (GG : o_G Z cs sf) (o1 : Addr) (bb : Addr) (kb : ClassId) (c0 : Int32) (c1 : Int32) (c2 : Int32) (h0 : Heap) (n0 : Nat) (v : Option Value) (h : Heap) (L : List Loc) : Prop := ∃ so : Addr, ∃ b2 : Addr, ∃ k2 : ClassId, v = some (.ref so) ∧ Fr n0 L ∧ Keep h0 h [] ∧ h0.size ≤ so ∧ h0.size ≤ b2 ∧ Exa Z h so "java/lang/String" ∧ Fld Z h so "java/lang/String" "value" "[B" (.ref b2) ∧ Fld Z h so "java/lang/String" "coder" "B" (.int 1) ∧ Arv Z h b2 k2 .byte 6 [(.int (o_lo (o_lc c0))), (.int (o_hi (o_lc c0))), (.int (o_lo (o_lc c1))), (.int (o_hi (o_lc c1))), (.int (o_lo (o_lc c2))), (.int (o_hi (o_lc c2)))] (.int 0)
set_option maxRecDepth 65536 in
set_option maxHeartbeats 40000000 in
theorem o_rm4n3U (l : Launch) (Z : State) (a0 : Array Value) (hw : o_Hw Z a0) (ws : List Jvm.Cond) (cs : Int32) (sf : Value) (GG : o_G Z cs sf) (o1 : Addr) (bb : Addr) (kb : ClassId) (c0 : Int32) (c1 : Int32) (c2 : Int32) (h0 : Heap) (n0 : Nat) (Z0 : n0 ≤ h0.size) (pE1 : Exa Z h0 o1 "java/lang/String") (pF2 : Fld Z h0 o1 "java/lang/String" "value" "[B" (.ref bb)) (pF3 : Fld Z h0 o1 "java/lang/String" "coder" "B" (.int 1)) (pV4 : Arv Z h0 bb kb .byte 6 [(.int (o_lo c0)), (.int (o_hi c0)), (.int (o_lo c1)), (.int (o_hi c1)), (.int (o_lo c2)), (.int (o_hi c2))] (.int 0)) (O0 : Old Z n0 h0) (hC0 : o_C c0) (hC1 : o_C c1) (hC2 : o_C c2) (hU : (255 : Int32) < c0 ∨ (255 : Int32) < c1 ∨ (255 : Int32) < c2) :
  o_Met l y30 prog_1_method_4_code 3 (some (.object "java/lang/String")) ws r50 #[(.ref o1)] Z h0 (o_Q4n3U Z cs sf GG o1 bb kb c0 c1 c2 h0 n0) := by
 refine MetFree.of_bodySF (plainFor_of_name o_pn0) hisR ?_
 intro p e s m args below meth c s₁ Bd hml0 hP hK
 obtain ⟨rfl, hZ, hh⟩ := hP
 obtain ⟨hx, hby, hlk, hrt⟩ := o_bd Bd
 have hml : c.maxLocals = 3 := hml0
 have hown : s.vm.findClass "com/example/orbweaver/orbweaver/AsciiText" = some m.cls := findClass_of_methodNamed Bd.named
 have X0 : Stand p l e r50 s m #[(.ref o1)] below meth c s₁ [] 0 0 := Stand.of_body Bd
 have e0 := o_e0 Bd hh
 have N0 := Fr.nil n0
 have KC0 := Keep.refl h0 []
 refine o_in (g' := mkF m 0 #[(sR o1), .unset, .unset] []) (by simp [entryFrame, mkF, argsToLocals, Value.category]) ?_
 refine o_aloadN X0 hx 1 (hb hby o_d4_0) rfl rfl ?_
 obtain ⟨cq1, kq1, q1a, q1b, q1c⟩ := isOf hZ e0 pE1
 obtain ⟨_, _, ⟨T1, Lx1, kc1, nc1⟩, -, X1, ⟨Lc1, hQ1, lq1, yq1, zq1⟩, st1⟩ := X0.virtualBack hx (y := y21) (z := y21) hown (mvT hZ (W hw 26 rfl)) (mvT hZ (W hw 27 rfl)) (notFace_of_selects (args := #[]) (mvT hZ (W hw 29 rfl))) (mvT hZ (W hw 29 rfl)) (mvT hZ (W hw 28 rfl)) (by decide) (backOf (W := 0) (o_rm5n3U l Z a0 hw [] cs sf GG o1 bb kb c0 c1 c2 h0 n0 Z0 pE1 pF2 pF3 pV4 O0 (hC0 : o_C c0) (hC1 : o_C c1) (hC2 : o_C c2)) hZ (W hw 30 rfl) (W hw 3 rfl) (by decide) (by decide)) q1a q1c (g := (mkF m 1 #[(sR o1), .unset, .unset] [(.ref o1)])) rfl (by rw [hml]; rfl) (Steps.refl _) (argsL := []) (rest := []) (lenOf o_pd20 rfl) rfl (o_wl rfl) (hb hby o_d4_1) (fun _ _ => ⟨rfl, e0, (by decide : 0 + 1 ≤ _), (by decide : 0 + 3 ≤ _)⟩)
 dsimp only [Pt.U, Pt.locs, Pt.cells, Pt.slots] at X1 lq1 yq1 zq1 st1 hQ1
 subst lq1 yq1 zq1
 obtain ⟨ca_1, kc_1, rfl, Nq1, Kp1, G1_0, G1_1⟩ := hQ1
 have N1 := Fr.app N0 Nq1
 have gt_ca_1 : n0 ≤ ca_1 := Nat.le_trans Z0 G1_0
 have sz_ca_1 : h0.size ≤ ca_1 := Nat.le_trans KC0.1 G1_0
 have O4 := O0.keep Kp1 all0
 have KC5 := KC0.trans Kp1 all0
 have Z6 := Nat.le_trans Z0 Kp1.1
 refine o_st (G' := T1.setTop (mkF m 4 #[(sR o1), .unset, .unset] [(.ref ca_1)])) (fun t k => st1.trans k) ?_
 obtain ⟨_, X1h, N1h⟩ := o_hide X1 N1
 refine o_astoreN X1h hx 5 #[(sR o1), (sR ca_1), .unset] (hb hby o_d4_4) rfl rfl ?_
 refine o_iconst X1h hx 6 0 (hb hby o_d4_5) rfl ?_
 refine o_istoreN X1h hx 7 #[(sR o1), (sR ca_1), (sI 0)] (hb hby o_d4_6) rfl ?_
 refine o_iloadN X1h hx 8 (hb hby o_d4_7) rfl ?_
 refine o_aloadN X1h hx 9 (hb hby o_d4_8) rfl rfl ?_
 obtain ⟨cl7, Ar7, qv7, S7, M7, H7, G7⟩ := id G1_1
 have ln7 := len_of S7 M7
 refine o_st (G' := T1.setTop (mkF m 10 #[(sR o1), (sR ca_1), (sI 0)] [(.int 3), (.int 0)])) (fun t k => X1h.arraylength hx Ar7.1 (State.isArrayOf_alike hZ.alike Ar7.2.1) (g := (mkF m 9 #[(sR o1), (sR ca_1), (sI 0)] [(.ref ca_1), (.int 0)])) rfl rfl (hb hby o_d4_9) _ (by rw [ln7]; exact k)) ?_
 refine o_icmpNo X1h hx 13 (hb hby o_d4_10) (tlt (by decide : (0 : Int32) < (3 : Int32))).2.1 ?_
 refine o_aloadN X1h hx 14 (hb hby o_d4_13) rfl rfl ?_
 refine o_iloadN X1h hx 15 (hb hby o_d4_14) rfl ?_
 refine o_aloadN X1h hx 16 (hb hby o_d4_15) rfl rfl ?_
 refine o_iloadN X1h hx 17 (hb hby o_d4_16) rfl ?_
 obtain ⟨cl8, Ar8, qv8, S8, M8, H8, G8⟩ := id G1_1
 have hin8 := inb_of (j := (0 : Int32)) S8 ⟨by decide, by decide⟩
 refine o_st (G' := T1.setTop (mkF m 18 #[(sR o1), (sR ca_1), (sI 0)] [(.int c0), (.int 0), (.ref ca_1)])) (fun t k => X1h.caload hx (j := (0 : Int32)) (v := (.int c0)) Ar8.1 (State.isArrayOf_alike hZ.alike Ar8.2.1) Ar8.2.2 hin8 (H8.at hin8 rfl) (g := (mkF m 17 #[(sR o1), (sR ca_1), (sI 0)] [(.int 0), (.ref ca_1), (.int 0), (.ref ca_1)])) rfl rfl (hb hby o_d4_17) _ k) ?_
 obtain ⟨_, _, ⟨T9, Lx9, kc9, nc9⟩, -, X9, ⟨Lc9, hQ9, lq9, yq9, zq9⟩, st9⟩ := Jvm.LawKit.callS X1h hx (y := y0) hown (mvT hZ (W hw 66 rfl)) (mvT hZ (W hw 67 rfl)) (mvT hZ (W hw 24 rfl)) (mvT hZ (W hw 68 rfl)) (by decide) (backOf (W := 2) (o_rm14 l Z a0 hw [] c0 T1.heap n0 Z6 ) hZ (W hw 68 rfl) (W hw 24 rfl) (by decide) (by decide)) (g := (mkF m 18 #[(sR o1), (sR ca_1), (sI 0)] [(.int c0), (.int 0), (.ref ca_1)])) rfl (by rw [hml]; rfl) (argsL := [(.int c0)]) (rest := [(.int 0), (.ref ca_1)]) (lenOf o_pd4 rfl) rfl (o_wl rfl) (hb hby o_d4_18) (fun _ _ => ⟨rfl, rfl, (by decide : 1 + 0 ≤ _), (by decide : 3 + 0 ≤ _)⟩)
 dsimp only [Pt.U, Pt.locs, Pt.cells, Pt.slots] at X9 lq9 yq9 zq9 st9 hQ9
 subst lq9 yq9 zq9
 obtain ⟨rfl, Nq9, eh9⟩ := hQ9
 have N9 := Fr.app N1h Nq9
 refine o_st (G' := T9.setTop (mkF m 21 #[(sR o1), (sR ca_1), (sI 0)] [(.int (o_lc c0)), (.int 0), (.ref ca_1)])) st9 ?_
 obtain ⟨_, X9h, N9h⟩ := o_hide X9 N9
 refine o_i2c X9h hx 22 (hb hby o_d4_21) ?_
 obtain ⟨cl10, Ar10, qv10, S10, M10, H10, G10⟩ := id G1_1
 have hin10 := inb_of (j := (0 : Int32)) S10 ⟨by decide, by decide⟩
 obtain ⟨T10, h10, X10, e10, W10, st10⟩ := stC X9h hx hZ eh9 Ar10 (j := (0 : Int32)) hin10 (g := (mkF m 22 #[(sR o1), (sR ca_1), (sI 0)] [(.int ((o_lc c0).toUInt32.toUInt16.toUInt32.toInt32)), (.int 0), (.ref ca_1)])) rfl rfl (hb hby o_d4_22)
 have V10 : Arv Z h10 ca_1 kc_1 .char 3 [(.int (nar .char ((o_lc c0).toUInt32.toUInt16.toUInt32.toInt32))), (.int c1), (.int c2)] (.int 0) := Arv.set Ar10 qv10 S10 M10 H10 G10 (fits_nar_char _) W10 0 rfl (Nat.le_of_ble_eq_true rfl)
 have N10 := Fr.snoc X10 N9h gt_ca_1
 have O11 := O4.wr W10 gt_ca_1
 have KC12 := KC5.wr W10 (Or.inr sz_ca_1)
 have Z13 := Nat.le_trans Z6 (Nat.le_of_eq W10.size.symm)
 refine o_st (G' := T10.setTop (mkF m 23 #[(sR o1), (sR ca_1), (sI 0)] [])) st10 ?_
 obtain ⟨_, X10h, N10h⟩ := o_hide X10 N10
 refine o_iinc X10h hx 26 (1 : Int32) #[(sR o1), (sR ca_1), (sI 1)] (hb hby o_d4_23) rfl rfl rfl ?_
 refine o_goto X10h hx 7 (hb hby o_d4_26) ?_
 refine o_iloadN X10h hx 8 (hb hby o_d4_7) rfl ?_
 refine o_aloadN X10h hx 9 (hb hby o_d4_8) rfl rfl ?_
 obtain ⟨cl14, Ar14, qv14, S14, M14, H14, G14⟩ := id V10
 have ln14 := len_of S14 M14
 refine o_st (G' := T10.setTop (mkF m 10 #[(sR o1), (sR ca_1), (sI 1)] [(.int 3), (.int 1)])) (fun t k => X10h.arraylength hx (by rw [e10]; exact Ar14.1) (State.isArrayOf_alike hZ.alike Ar14.2.1) (g := (mkF m 9 #[(sR o1), (sR ca_1), (sI 1)] [(.ref ca_1), (.int 1)])) rfl rfl (hb hby o_d4_9) _ (by rw [ln14]; exact k)) ?_
 refine o_icmpNo X10h hx 13 (hb hby o_d4_10) (tlt (by decide : (1 : Int32) < (3 : Int32))).2.1 ?_
 refine o_aloadN X10h hx 14 (hb hby o_d4_13) rfl rfl ?_
 refine o_iloadN X10h hx 15 (hb hby o_d4_14) rfl ?_
 refine o_aloadN X10h hx 16 (hb hby o_d4_15) rfl rfl ?_
 refine o_iloadN X10h hx 17 (hb hby o_d4_16) rfl ?_
 obtain ⟨cl15, Ar15, qv15, S15, M15, H15, G15⟩ := id V10
 have hin15 := inb_of (j := (1 : Int32)) S15 ⟨by decide, by decide⟩
 refine o_st (G' := T10.setTop (mkF m 18 #[(sR o1), (sR ca_1), (sI 1)] [(.int c1), (.int 1), (.ref ca_1)])) (fun t k => X10h.caload hx (j := (1 : Int32)) (v := (.int c1)) (by rw [e10]; exact Ar15.1) (State.isArrayOf_alike hZ.alike Ar15.2.1) Ar15.2.2 hin15 (H15.at hin15 rfl) (g := (mkF m 17 #[(sR o1), (sR ca_1), (sI 1)] [(.int 1), (.ref ca_1), (.int 1), (.ref ca_1)])) rfl rfl (hb hby o_d4_17) _ k) ?_
 obtain ⟨_, _, ⟨T16, Lx16, kc16, nc16⟩, -, X16, ⟨Lc16, hQ16, lq16, yq16, zq16⟩, st16⟩ := Jvm.LawKit.callS X10h hx (y := y0) hown (mvT hZ (W hw 66 rfl)) (mvT hZ (W hw 67 rfl)) (mvT hZ (W hw 24 rfl)) (mvT hZ (W hw 68 rfl)) (by decide) (backOf (W := 2) (o_rm14 l Z a0 hw [] c1 h10 n0 Z13 ) hZ (W hw 68 rfl) (W hw 24 rfl) (by decide) (by decide)) (g := (mkF m 18 #[(sR o1), (sR ca_1), (sI 1)] [(.int c1), (.int 1), (.ref ca_1)])) rfl (by rw [hml]; rfl) (argsL := [(.int c1)]) (rest := [(.int 1), (.ref ca_1)]) (lenOf o_pd4 rfl) rfl (o_wl rfl) (hb hby o_d4_18) (fun _ _ => ⟨rfl, e10, (by decide : 1 + 0 ≤ _), (by decide : 3 + 0 ≤ _)⟩)
 dsimp only [Pt.U, Pt.locs, Pt.cells, Pt.slots] at X16 lq16 yq16 zq16 st16 hQ16
 subst lq16 yq16 zq16
 obtain ⟨rfl, Nq16, eh16⟩ := hQ16
 have N16 := Fr.app N10h Nq16
 refine o_st (G' := T16.setTop (mkF m 21 #[(sR o1), (sR ca_1), (sI 1)] [(.int (o_lc c1)), (.int 1), (.ref ca_1)])) st16 ?_
 obtain ⟨_, X16h, N16h⟩ := o_hide X16 N16
 refine o_i2c X16h hx 22 (hb hby o_d4_21) ?_
 obtain ⟨cl17, Ar17, qv17, S17, M17, H17, G17⟩ := id V10
 have hin17 := inb_of (j := (1 : Int32)) S17 ⟨by decide, by decide⟩
 obtain ⟨T17, h17, X17, e17, W17, st17⟩ := stC X16h hx hZ eh16 Ar17 (j := (1 : Int32)) hin17 (g := (mkF m 22 #[(sR o1), (sR ca_1), (sI 1)] [(.int ((o_lc c1).toUInt32.toUInt16.toUInt32.toInt32)), (.int 1), (.ref ca_1)])) rfl rfl (hb hby o_d4_22)
 have V17 : Arv Z h17 ca_1 kc_1 .char 3 [(.int (nar .char ((o_lc c0).toUInt32.toUInt16.toUInt32.toInt32))), (.int (nar .char ((o_lc c1).toUInt32.toUInt16.toUInt32.toInt32))), (.int c2)] (.int 0) := Arv.set Ar17 qv17 S17 M17 H17 G17 (fits_nar_char _) W17 1 rfl (Nat.le_of_ble_eq_true rfl)
 have N17 := Fr.snoc X17 N16h gt_ca_1
 have O18 := O11.wr W17 gt_ca_1
 have KC19 := KC12.wr W17 (Or.inr sz_ca_1)
 have Z20 := Nat.le_trans Z13 (Nat.le_of_eq W17.size.symm)
 refine o_st (G' := T17.setTop (mkF m 23 #[(sR o1), (sR ca_1), (sI 1)] [])) st17 ?_
 obtain ⟨_, X17h, N17h⟩ := o_hide X17 N17
 refine o_iinc X17h hx 26 (1 : Int32) #[(sR o1), (sR ca_1), (sI 2)] (hb hby o_d4_23) rfl rfl rfl ?_
 refine o_goto X17h hx 7 (hb hby o_d4_26) ?_
 refine o_iloadN X17h hx 8 (hb hby o_d4_7) rfl ?_
 refine o_aloadN X17h hx 9 (hb hby o_d4_8) rfl rfl ?_
 obtain ⟨cl21, Ar21, qv21, S21, M21, H21, G21⟩ := id V17
 have ln21 := len_of S21 M21
 refine o_st (G' := T17.setTop (mkF m 10 #[(sR o1), (sR ca_1), (sI 2)] [(.int 3), (.int 2)])) (fun t k => X17h.arraylength hx (by rw [e17]; exact Ar21.1) (State.isArrayOf_alike hZ.alike Ar21.2.1) (g := (mkF m 9 #[(sR o1), (sR ca_1), (sI 2)] [(.ref ca_1), (.int 2)])) rfl rfl (hb hby o_d4_9) _ (by rw [ln21]; exact k)) ?_
 refine o_icmpNo X17h hx 13 (hb hby o_d4_10) (tlt (by decide : (2 : Int32) < (3 : Int32))).2.1 ?_
 refine o_aloadN X17h hx 14 (hb hby o_d4_13) rfl rfl ?_
 refine o_iloadN X17h hx 15 (hb hby o_d4_14) rfl ?_
 refine o_aloadN X17h hx 16 (hb hby o_d4_15) rfl rfl ?_
 refine o_iloadN X17h hx 17 (hb hby o_d4_16) rfl ?_
 obtain ⟨cl22, Ar22, qv22, S22, M22, H22, G22⟩ := id V17
 have hin22 := inb_of (j := (2 : Int32)) S22 ⟨by decide, by decide⟩
 refine o_st (G' := T17.setTop (mkF m 18 #[(sR o1), (sR ca_1), (sI 2)] [(.int c2), (.int 2), (.ref ca_1)])) (fun t k => X17h.caload hx (j := (2 : Int32)) (v := (.int c2)) (by rw [e17]; exact Ar22.1) (State.isArrayOf_alike hZ.alike Ar22.2.1) Ar22.2.2 hin22 (H22.at hin22 rfl) (g := (mkF m 17 #[(sR o1), (sR ca_1), (sI 2)] [(.int 2), (.ref ca_1), (.int 2), (.ref ca_1)])) rfl rfl (hb hby o_d4_17) _ k) ?_
 obtain ⟨_, _, ⟨T23, Lx23, kc23, nc23⟩, -, X23, ⟨Lc23, hQ23, lq23, yq23, zq23⟩, st23⟩ := Jvm.LawKit.callS X17h hx (y := y0) hown (mvT hZ (W hw 66 rfl)) (mvT hZ (W hw 67 rfl)) (mvT hZ (W hw 24 rfl)) (mvT hZ (W hw 68 rfl)) (by decide) (backOf (W := 2) (o_rm14 l Z a0 hw [] c2 h17 n0 Z20 ) hZ (W hw 68 rfl) (W hw 24 rfl) (by decide) (by decide)) (g := (mkF m 18 #[(sR o1), (sR ca_1), (sI 2)] [(.int c2), (.int 2), (.ref ca_1)])) rfl (by rw [hml]; rfl) (argsL := [(.int c2)]) (rest := [(.int 2), (.ref ca_1)]) (lenOf o_pd4 rfl) rfl (o_wl rfl) (hb hby o_d4_18) (fun _ _ => ⟨rfl, e17, (by decide : 1 + 0 ≤ _), (by decide : 3 + 0 ≤ _)⟩)
 dsimp only [Pt.U, Pt.locs, Pt.cells, Pt.slots] at X23 lq23 yq23 zq23 st23 hQ23
 subst lq23 yq23 zq23
 obtain ⟨rfl, Nq23, eh23⟩ := hQ23
 have N23 := Fr.app N17h Nq23
 refine o_st (G' := T23.setTop (mkF m 21 #[(sR o1), (sR ca_1), (sI 2)] [(.int (o_lc c2)), (.int 2), (.ref ca_1)])) st23 ?_
 obtain ⟨_, X23h, N23h⟩ := o_hide X23 N23
 refine o_i2c X23h hx 22 (hb hby o_d4_21) ?_
 obtain ⟨cl24, Ar24, qv24, S24, M24, H24, G24⟩ := id V17
 have hin24 := inb_of (j := (2 : Int32)) S24 ⟨by decide, by decide⟩
 obtain ⟨T24, h24, X24, e24, W24, st24⟩ := stC X23h hx hZ eh23 Ar24 (j := (2 : Int32)) hin24 (g := (mkF m 22 #[(sR o1), (sR ca_1), (sI 2)] [(.int ((o_lc c2).toUInt32.toUInt16.toUInt32.toInt32)), (.int 2), (.ref ca_1)])) rfl rfl (hb hby o_d4_22)
 have V24 : Arv Z h24 ca_1 kc_1 .char 3 [(.int (nar .char ((o_lc c0).toUInt32.toUInt16.toUInt32.toInt32))), (.int (nar .char ((o_lc c1).toUInt32.toUInt16.toUInt32.toInt32))), (.int (nar .char ((o_lc c2).toUInt32.toUInt16.toUInt32.toInt32)))] (.int 0) := Arv.set Ar24 qv24 S24 M24 H24 G24 (fits_nar_char _) W24 2 rfl (Nat.le_of_ble_eq_true rfl)
 have N24 := Fr.snoc X24 N23h gt_ca_1
 have O25 := O18.wr W24 gt_ca_1
 have KC26 := KC19.wr W24 (Or.inr sz_ca_1)
 have Z27 := Nat.le_trans Z20 (Nat.le_of_eq W24.size.symm)
 refine o_st (G' := T24.setTop (mkF m 23 #[(sR o1), (sR ca_1), (sI 2)] [])) st24 ?_
 obtain ⟨_, X24h, N24h⟩ := o_hide X24 N24
 refine o_iinc X24h hx 26 (1 : Int32) #[(sR o1), (sR ca_1), (sI 3)] (hb hby o_d4_23) rfl rfl rfl ?_
 refine o_goto X24h hx 7 (hb hby o_d4_26) ?_
 refine o_iloadN X24h hx 8 (hb hby o_d4_7) rfl ?_
 refine o_aloadN X24h hx 9 (hb hby o_d4_8) rfl rfl ?_
 obtain ⟨cl28, Ar28, qv28, S28, M28, H28, G28⟩ := id V24
 have ln28 := len_of S28 M28
 refine o_st (G' := T24.setTop (mkF m 10 #[(sR o1), (sR ca_1), (sI 3)] [(.int 3), (.int 3)])) (fun t k => X24h.arraylength hx (by rw [e24]; exact Ar28.1) (State.isArrayOf_alike hZ.alike Ar28.2.1) (g := (mkF m 9 #[(sR o1), (sR ca_1), (sI 3)] [(.ref ca_1), (.int 3)])) rfl rfl (hb hby o_d4_9) _ (by rw [ln28]; exact k)) ?_
 refine o_icmpYes X24h hx 29 (hb hby o_d4_10) (flt (by decide : ¬ ((3 : Int32) < (3 : Int32)))).2.1 ?_
 have V29 := V24
 rw [o_lcn hC0, o_lcn hC1, o_lcn hC2] at V29
 obtain ⟨T30, h30, X30, e30, E30, A30, D30, -, st30⟩ := newO X24h hx hZ hown (W hw 44 rfl) (W hw 2 rfl) (W hw 3 rfl) e24 (g := (mkF m 29 #[(sR o1), (sR ca_1), (sI 3)] [])) rfl (hb hby o_d4_29) (by decide) (by decide)
 obtain ⟨b30, g30⟩ : ∃ z, z = h24.size := ⟨_, rfl⟩
 rw [← g30] at A30 D30 st30
 have gt_b30 : n0 ≤ b30 := Nat.le_trans Z27 (Nat.le_of_eq g30.symm)
 have sz_b30 : h0.size ≤ b30 := Nat.le_trans KC26.1 (Nat.le_of_eq g30.symm)
 have O36 := O25.ext E30
 have KC37 := KC26.ext E30
 have Z38 := Nat.le_trans Z27 E30.1
 have F30_value : Fld Z h30 b30 "java/lang/String" "value" "[B" .null := D30 (Or.inr (W hw 16 rfl)) (ty := (.array .byte)) (by decide)
 have F30_coder : Fld Z h30 b30 "java/lang/String" "coder" "B" (.int 0) := D30 (Or.inr (W hw 17 rfl)) (ty := .byte) (by decide)
 refine o_st (G' := T30.setTop (mkF m 32 #[(sR o1), (sR ca_1), (sI 3)] [(.ref b30)])) st30 ?_
 obtain ⟨_, X30h, N30h⟩ := o_hide X30 N24h
 refine o_dup X30h hx 33 (hb hby o_d4_32) rfl ?_
 refine o_aloadN X30h hx 34 (hb hby o_d4_33) rfl rfl ?_
 have f39 := (V29.ext E30)
 obtain ⟨_, _, ⟨T40, Lx40, kc40, nc40⟩, -, X40, ⟨Lc40, hQ40, lq40, yq40, zq40⟩, st40⟩ := X30h.specialBack hx (y := y29) rfl hown (mvT hZ (W hw 45 rfl)) (mvT hZ (W hw 5 rfl)) (mvT hZ (W hw 6 rfl)) (by decide) (backOf (W := 1) (o_rm1n3U l Z a0 hw [] cs sf GG b30 ca_1 kc_1 (o_lc c0) (o_lc c1) (o_lc c2) h30 n0 Z38 A30 F30_value F30_coder gt_b30 O36 f39 (o_lcC hC0 : o_C (o_lc c0)) (o_lcC hC1 : o_C (o_lc c1)) (o_lcC hC2 : o_C (o_lc c2)) (hU.imp o_lcU (Or.imp o_lcU o_lcU) : (255 : Int32) < (o_lc c0) ∨ (255 : Int32) < (o_lc c1) ∨ (255 : Int32) < (o_lc c2))) hZ (W hw 6 rfl) (W hw 3 rfl) (by decide) (by decide)) (g := (mkF m 34 #[(sR o1), (sR ca_1), (sI 3)] [(.ref ca_1), (.ref b30), (.ref b30)])) rfl (by rw [hml]; rfl) (Steps.refl _) (a := b30) (argsL := [(.ref ca_1)]) (rest := [(.ref b30)]) (lenOf o_pd21 rfl) rfl (o_wl rfl) (hb hby o_d4_34) (fun _ _ => ⟨rfl, e30, (by decide : 2 + 2 ≤ _), (by decide : 7 + 9 ≤ _)⟩)
 dsimp only [Pt.U, Pt.locs, Pt.cells, Pt.slots] at X40 lq40 yq40 zq40 st40 hQ40
 subst lq40 yq40 zq40
 obtain ⟨bb_40, kb_40, rfl, Nq40, Kp40, G40_0, G40_1, G40_2, G40_3, G40_4⟩ := hQ40
 have N40 := Fr.app N30h Nq40
 have sz_bb_40 : h0.size ≤ bb_40 := Nat.le_trans KC37.1 G40_1
 have KC48 := KC37.trans Kp40 (allS (Or.inr sz_b30) all0)
 refine o_st (G' := T40.setTop (mkF m 37 #[(sR o1), (sR ca_1), (sI 3)] [(.ref b30)])) (fun t k => st40.trans k) ?_
 obtain ⟨_, X40h, N40h⟩ := o_hide X40 N40
 exact o_retA (z := (.ref b30)) (Q := o_Q4n3U Z cs sf GG o1 bb kb c0 c1 c2 h0 n0) X40h hx hrt rfl rfl (hb hby o_d4_37) hlk rfl ⟨b30, bb_40, kb_40, rfl, N40h, KC48, sz_b30, sz_bb_40, G40_0, G40_2, G40_3, G40_4⟩ (by decide) (by decide)
/-! String constants whose text is read: what the walk keeps of them -/
def o_EL : List (String × Nat) := [("java/lang/String", 7)]
theorem o_ELm : (("java/lang/String", 7) : String × Nat) ∈ o_EL := List.mem_singleton.mpr rfl
theorem o_EW {Z : State} {a0 : Array Value} (hw : o_Hw Z a0) : EW Z a0 o_EL := EW.cons (text := "") (W hw 14 rfl) (fun c h => nomatch h) EW.nil
section OwnSH
variable {p : Program} {l : Launch} {e : Env} {R : Room} {s : State} {m : MethodId} {args : Array Value} {below : List Frame} {meth : Method} {c : Code} {T : State} {locs : List Loc} {cells slots : Nat} {Z : State} {a0 : Array Value} {EL : List (String × Nat)} {h h0 : Heap} {vm0 : Vm}
theorem o_backSH {y : MethodName} {bytes : ByteArray} {maxL : Nat} {ret : Option FieldType} {rm : Room} {len W : Nat} {as' : Array Value} {Q : Option Value → Heap → List Loc → Prop} {x : Addr}
    (hM : MetFree l y (head1 [Jvm.Cond.code y bytes maxL ret] rm) (fun a U => a = as' ∧ Z.Warmed39 U.vm ∧ U.heap = h ∧ CHv Z EL U.vm h ∧ Safe Z EL U.vm h x) (fun _ _ _ _ _ => True) (fun _ U o U' => ∃ v L, o = .returned v ∧ Q v U'.heap L ∧ CHr Z EL U.vm U.heap U'.vm U'.heap ∧ ReturnedEndW U o U' L rm.cells rm.slots))
    (hZ : Z.Warmed39 vm0) (wc : (Jvm.Cond.code y bytes maxL ret).before a0 Z = true) (wz : (Jvm.Cond.initialized y.cls).before a0 Z = true) (hf : rm.frames + 1 ≤ R.frames) (hl : W + (maxL + 11) + rm.locals ≤ R.locals) (hEL : EW Z a0 EL) (H : CHv Z EL vm0 h) (S : Safe Z EL vm0 h x) (hxs : x < h.size) :
    BackS l R p e below (s.setVm vm0) args y len W (fun A a => a = as' ∧ A.U.heap = h ∧ A.cells + rm.cells ≤ R.cells ∧ A.slots + rm.slots ≤ R.slots)
      (fun A _ v B => ∃ L, Q v B.U.heap L ∧ B.locs = A.locs ++ L ∧ B.cells = A.cells + rm.cells ∧ B.slots = A.slots + rm.slots ∧ CHr Z EL vm0 h B.U.vm B.U.heap) :=
  BackS.of_freeW (bytes := bytes) (maxL := maxL) (ret := ret) (E := fun _ first o t L k n => k = rm.cells ∧ n = rm.slots ∧ (∃ v, o = .returned v ∧ Q v t.heap L) ∧ CHr Z EL first.vm first.heap t.vm t.heap) hM hf hl
    (fun m meth c A a Y hp => have hU : Z.Warmed39 A.U.vm := wtrans (s := s.setVm vm0) hZ Y.warmed
      ⟨by show (Jvm.Cond.and _ .tt).before a A.U = true; rw [Cond.before_and, mv hU wc]; rfl, mv hU wc, mv hU wz, hp.2.2.1, hp.2.2.2⟩)
    (fun m meth c A a g mk Y hp => ⟨hp.1, wtrans (s := s.setVm vm0) hZ Y.warmed, hp.2.1, (CHv.at Y hZ hEL H).1, (CHv.at Y hZ hEL H).safe hxs S⟩) (fun _ _ _ _ _ _ _ _ _ => trivial)
    (fun _ _ _ _ ⟨v, L, h1, h2, h3, h4⟩ => ⟨L, _, _, h4, rfl, rfl, ⟨v, h1, h2⟩, h3⟩)
    (fun m meth c A a g mk v t L k n Y hp _ _ ⟨e1, e2, ⟨v', e3, e4⟩, e5⟩ => by
      cases e3; subst e1 e2
      refine ⟨L, e4, rfl, rfl, rfl, (CHv.at Y hZ hEL H).trans ?_⟩
      rw [← hp.2.1]; exact e5)
theorem o_retVH {k0 : Nat} (X : Stand p l e R (s.setVm vm0) m args below meth c T locs cells slots) (hS : s.Since vm0 k0) (hk : k0 ≤ h.size) (hx : p.tables.exec = Jvm.exec) {pc : Nat} {Ls : Array Slot} (hret : meth.sig.returnType = none) (hd : decode c.code pc = .ok (.return_, 1)) (hlk : meth.locks = false)
    {Q : Option Value → Heap → List Loc → Prop} (eT : T.heap = h) (hQ : Q none h locs) {cc ss : Nat} (hc : cells ≤ cc) (hs : slots ≤ ss) (CR : CHr Z EL s.vm h0 vm0 h) (hZ : Z.Warmed39 vm0) (hEL : EW Z a0 EL) (hh : s.heap = h0) :
    o_Gs p e below (fun o t => ∃ v L, o = .returned v ∧ Q v t.heap L ∧ CHr Z EL s.vm s.heap t.vm t.heap ∧ ReturnedEndW s o t L cc ss) (T.setTop (mkF m pc Ls [])) := by
  have A := CHv.at X hZ hEL CR.1
  subst eT hh
  obtain ⟨fs, hr, hrun, hended, h1, h2, h3, h4⟩ := X.leaveW hS hk (v := none) (fun _ => rfl) hlk
  exact ⟨_, _, X.returnOut hx hret hd hr, hrun, hended, _, _, rfl, hQ, CR.trans A, h1, h2, h3, h4.mono hc hs⟩
theorem o_retAH {k0 : Nat} (X : Stand p l e R (s.setVm vm0) m args below meth c T locs cells slots) (hS : s.Since vm0 k0) (hk : k0 ≤ h.size) (hx : p.tables.exec = Jvm.exec) {pc : Nat} {Ls : Array Slot} {z : Value} {t : FieldType} {rest : List Value} (hret : meth.sig.returnType = some t) (ht : t.isReference = true) (hz : z.isRef = true) (hd : decode c.code pc = .ok (.areturn, 1)) (hlk : meth.locks = false)
    {Q : Option Value → Heap → List Loc → Prop} (eT : T.heap = h) (hQ : Q (some z) h locs) {cc ss : Nat} (hc : cells ≤ cc) (hs : slots ≤ ss) (CR : CHr Z EL s.vm h0 vm0 h) (hZ : Z.Warmed39 vm0) (hEL : EW Z a0 EL) (hh : s.heap = h0) :
    o_Gs p e below (fun o t => ∃ v L, o = .returned v ∧ Q v t.heap L ∧ CHr Z EL s.vm s.heap t.vm t.heap ∧ ReturnedEndW s o t L cc ss) (T.setTop (mkF m pc Ls (z :: rest))) := by
  have A := CHv.at X hZ hEL CR.1
  subst eT hh
  obtain ⟨fs, hr, hrun, hended, h1, h2, h3, h4⟩ := X.leaveW hS hk (v := some z) (fun h => by rw [hret] at h; cases h) hlk
  exact ⟨_, _, retOut X hx hret (by cases t <;> first | rfl | (cases z <;> first | rfl | (simp [Value.isRef] at hz) | (simp [FieldType.isReference] at ht))) (Or.inr (Or.inr (Or.inr (Or.inr ⟨rfl, ht, hz⟩)))) hd hr, hrun, hended, _, _, rfl, hQ, CR.trans A, h1, h2, h3, h4.mono hc hs⟩
end OwnSH

theorem o_d2_8 : decode jdk_42_method_149_code 8 = .ok (.aload_n 0, 1) := by decide +kernel
theorem o_d2_9 : decode jdk_42_method_149_code 9 = .ok (.ldc 7, 2) := by decide +kernel
theorem o_d2_11 : decode jdk_42_method_149_code 11 = .ok (.getfield 9, 3) := by decide +kernel
theorem o_d2_14 : decode jdk_42_method_149_code 14 = .ok (.putfield 9, 3) := by decide +kernel
theorem o_d2_17 : decode jdk_42_method_149_code 17 = .ok (.aload_n 0, 1) := by decide +kernel
theorem o_d2_18 : decode jdk_42_method_149_code 18 = .ok (.ldc 7, 2) := by decide +kernel
theorem o_d2_20 : decode jdk_42_method_149_code 20 = .ok (.getfield 15, 3) := by decide +kernel
theorem o_d2_23 : decode jdk_42_method_149_code 23 = .ok (.putfield 15, 3) := by decide +kernel
theorem o_d2_26 : decode jdk_42_method_149_code 26 = .ok (.return_, 1) := by decide +kernel
def o_Q2z (Z : State) (cs : Int32) (sf : Value) (GG : o_G Z cs sf) (o1 : Addr) (o2 : Addr) (h0 : Heap) (n0 : Nat) (v : Option Value) (h : Heap) (L : List Loc) : Prop := ∃ bb : Addr, ∃ kb : ClassId, v = none ∧ Fr n0 L ∧ Keep h0 h [o1] ∧ Exa Z h o1 "java/lang/String" ∧ Fld Z h o1 "java/lang/String" "value" "[B" (.ref bb) ∧ Fld Z h o1 "java/lang/String" "coder" "B" (.int 0) ∧ Arv Z h bb kb .byte 0 [] (.int 0)
set_option maxRecDepth 65536 in
set_option maxHeartbeats 40000000 in
theorem o_rm2z (l : Launch) (Z : State) (a0 : Array Value) (hw : o_Hw Z a0) (ws : List Jvm.Cond) (cs : Int32) (sf : Value) (GG : o_G Z cs sf) (o1 : Addr) (o2 : Addr) (h0 : Heap) (n0 : Nat) (Z0 : n0 ≤ h0.size) (pE1 : Exa Z h0 o1 "java/lang/String") (pF2 : Fld Z h0 o1 "java/lang/String" "value" "[B" .null) (pF3 : Fld Z h0 o1 "java/lang/String" "coder" "B" (.int 0)) (pG4 : n0 ≤ o1) (O0 : Old Z n0 h0) :
  MetFree l y28 (head1 (Jvm.Cond.code y28 jdk_42_method_149_code 6 none :: ws) r51) (fun a U => a = #[(.ref o1), (.ref o2), (.int 0), (.int 0), .null] ∧ Z.Warmed39 U.vm ∧ U.heap = h0 ∧ CHv Z o_EL U.vm h0 ∧ Safe Z o_EL U.vm h0 o1) (fun _ _ _ _ _ => True) (fun _ U o U' => ∃ v L, o = .returned v ∧ o_Q2z Z cs sf GG o1 o2 h0 n0 v U'.heap L ∧ CHr Z o_EL U.vm U.heap U'.vm U'.heap ∧ ReturnedEndW U o U' L r51.cells r51.slots) := by
 refine MetFree.of_bodySF (plainFor_of_name o_pn3) hisR ?_
 intro p e s m args below meth c s₁ Bd hml0 hP hK
 obtain ⟨rfl, hZ, hh, hCH, hSF_o1⟩ := hP
 obtain ⟨hx, hby, hlk, hrt⟩ := o_bd Bd
 have hml : c.maxLocals = 6 := hml0
 have hown : s.vm.findClass "java/lang/String" = some m.cls := findClass_of_methodNamed Bd.named
 have hnm := (name_of_methodNamed Bd.named Bd.method).1
 have X0 : Stand p l e r51 s m #[(.ref o1), (.ref o2), (.int 0), (.int 0), .null] below meth c s₁ [] 0 0 := Stand.of_body Bd
 have e0 := o_e0 Bd hh
 have N0 := Fr.nil n0
 have KC0 := Keep.refl h0 [o1]
 refine o_in (g' := mkF m 0 #[(sR o1), (sR o2), (sI 0), (sI 0), .val .null, .unset] []) (by simp [entryFrame, mkF, argsToLocals, Value.category]) ?_
 have hS0 : s.Since s.vm 0 := (State.WarmedH.refl s).since 0
 have X0q := (show Stand p l e r51 (s.setVm s.vm) m #[(.ref o1), (.ref o2), (.int 0), (.int 0), .null] below meth c s₁ _ _ _ from X0)
 have CR0 := CHr.refl hCH
 refine o_aloadN X0q hx 1 (hb hby o_d2_0) rfl rfl ?_
 obtain ⟨T1, X1, e1, st1⟩ := initO X0q hx hZ hown (W hw 11 rfl) (W hw 12 rfl) (W hw 13 rfl) e0 (g := (mkF m 1 #[(sR o1), (sR o2), (sI 0), (sI 0), .val .null, .unset] [(.ref o1)])) rfl (by rw [hml]; rfl) rfl (hb hby o_d2_1) (by decide) (W := 0) (o_wl rfl) (by decide)
 refine o_st (G' := T1.setTop (mkF m 4 #[(sR o1), (sR o2), (sI 0), (sI 0), .val .null, .unset] [])) st1 ?_
 obtain ⟨_, X1h, N1h⟩ := o_hide X1 N0
 refine o_iloadN X1h hx 5 (hb hby o_d2_4) rfl ?_
 refine o_ifNo X1h hx 8 (hb hby o_d2_5) (teq (rfl : (0 : Int32) = (0 : Int32))).2 ?_
 refine o_aloadN X1h hx 9 (hb hby o_d2_8) rfl rfl ?_
 obtain ⟨lit2, T2, h2, kS2, lb2, lk2, X2, e2, E2, hS2, Ks2, hZ2, hown2, AE2, AC2, AV2, AA2, -, -, CX2, LI2, NS2, st2⟩ := ldcCH X1h hx hZ hown (W hw 14 rfl) (o_strs hw) e1 hS0 (Nat.zero_le _) (o_EW hw) o_ELm CR0.1 (vs := []) (z := 0) ⟨by decide, rfl⟩ (by decide) rfl (g := (mkF m 9 #[(sR o1), (sR o2), (sI 0), (sI 0), .val .null, .unset] [(.ref o1)])) rfl (hb hby o_d2_9) (n := 0) (by decide) (by decide) (by decide) (by decide)
 have Sf3 := CX2.safe pE1.lt hSF_o1
 have ne4 := (NS2 o1 Sf3).1
 have ne5 := (NS2 o1 Sf3).2
 have CR6 := CR0.trans CX2
 have hZ := hZ2
 have hown := hown2
 have KC8 := KC0.ext E2
 refine o_st (G' := T2.setTop (mkF m 11 #[(sR o1), (sR o2), (sI 0), (sI 0), .val .null, .unset] [(.ref lit2), (.ref o1)])) st2 ?_
 obtain ⟨_, X2h, N2h⟩ := o_hide X2 N1h
 obtain ⟨T10, X10, e10, st10⟩ := getF X2h hx hZ hown (host := "") (Or.inl (W hw 20 rfl)) Via.refl e2 AV2 (g := (mkF m 11 #[(sR o1), (sR o2), (sI 0), (sI 0), .val .null, .unset] [(.ref lit2), (.ref o1)])) rfl rfl (hb hby o_d2_11)
 refine o_st (G' := T10.setTop (mkF m 14 #[(sR o1), (sR o2), (sI 0), (sI 0), .val .null, .unset] [(.ref lb2), (.ref o1)])) st10 ?_
 obtain ⟨_, X10h, N10h⟩ := o_hide X10 N2h
 have f11 := (pF2.ext E2)
 have f12 := (pE1.ext E2)
 obtain ⟨T13, h13, X13, e13, W13, st13⟩ := putF X10h hx hZ hown (host := "") (Or.inl (W hw 20 rfl)) Via.refl e10 f11 f12 (Or.inr ⟨(W hw 16 rfl), rfl, hnm⟩) (W hw 2 rfl) (v := (.ref lb2)) (ty := (.array .byte)) (by decide) rfl rfl (g := (mkF m 14 #[(sR o1), (sR o2), (sI 0), (sI 0), .val .null, .unset] [(.ref lb2), (.ref o1)])) rfl rfl (hb hby o_d2_14)
 have Fw13 := f11.same W13
 have N13 := Fr.snoc X13 N10h pG4
 have KC15 := KC8.wr W13 (Or.inl (List.mem_of_getElem? (i := 0) rfl))
 have Sf16 := Safe.wr W13 Sf3 CR6.1 Sf3
 have CR17 := CR6.trans (CHr.wr W13 Sf3 CR6.1)
 have Ks18 := Nat.le_trans Ks2 (Nat.le_of_eq W13.size.symm)
 refine o_st (G' := T13.setTop (mkF m 17 #[(sR o1), (sR o2), (sI 0), (sI 0), .val .null, .unset] [])) st13 ?_
 obtain ⟨_, X13h, N13h⟩ := o_hide X13 N13
 refine o_aloadN X13h hx 18 (hb hby o_d2_17) rfl rfl ?_
 refine o_st (G' := T13.setTop (mkF m 20 #[(sR o1), (sR o2), (sI 0), (sI 0), .val .null, .unset] [(.ref lit2), (.ref o1)])) (ldcAgain X13h hx hZ hown (W hw 14 rfl) LI2 (g := (mkF m 18 #[(sR o1), (sR o2), (sI 0), (sI 0), .val .null, .unset] [(.ref o1)])) rfl (hb hby o_d2_18)) ?_
 have f20 := (AC2.other W13 (Or.inl (Ne.symm ne4)))
 obtain ⟨T21, X21, e21, st21⟩ := getF X13h hx hZ hown (host := "") (Or.inl (W hw 21 rfl)) Via.refl e13 f20 (g := (mkF m 20 #[(sR o1), (sR o2), (sI 0), (sI 0), .val .null, .unset] [(.ref lit2), (.ref o1)])) rfl rfl (hb hby o_d2_20)
 refine o_st (G' := T21.setTop (mkF m 23 #[(sR o1), (sR o2), (sI 0), (sI 0), .val .null, .unset] [(.int 0), (.ref o1)])) st21 ?_
 obtain ⟨_, X21h, N21h⟩ := o_hide X21 N13h
 have f22 := ((pF3.ext E2).other W13 (Or.inr (slot_ne (Or.inr (W hw 17 rfl)) (Or.inr (W hw 16 rfl)) (by decide) (t := .byte) (t' := (.array .byte)) (by decide) (by decide))))
 have f23 := (f12.wr W13)
 obtain ⟨T24, h24, X24, e24, W24, st24⟩ := putFN X21h hx hZ hown (W hw 21 rfl) Via.refl e21 f22 f23 (Or.inr ⟨(W hw 17 rfl), rfl, hnm⟩) (W hw 2 rfl) (ty := .byte) (v' := (.int 0)) (by decide) rfl rfl (g := (mkF m 23 #[(sR o1), (sR o2), (sI 0), (sI 0), .val .null, .unset] [(.int 0), (.ref o1)])) rfl rfl (hb hby o_d2_23)
 have Fw24 := f22.same W24
 have N24 := Fr.snoc X24 N21h pG4
 have KC26 := KC15.wr W24 (Or.inl (List.mem_of_getElem? (i := 0) rfl))
 have CR28 := CR17.trans (CHr.wr W24 Sf16 CR17.1)
 have Ks29 := Nat.le_trans Ks18 (Nat.le_of_eq W24.size.symm)
 refine o_st (G' := T24.setTop (mkF m 26 #[(sR o1), (sR o2), (sI 0), (sI 0), .val .null, .unset] [])) st24 ?_
 obtain ⟨_, X24h, N24h⟩ := o_hide X24 N24
 have f31 := (f23.wr W24)
 have f32 := (Fw13.other W24 (Or.inr (slot_ne (Or.inr (W hw 16 rfl)) (Or.inr (W hw 17 rfl)) (by decide) (t := (.array .byte)) (t' := .byte) (by decide) (by decide))))
 have f33 := ((AA2.other W13 (Ne.symm ne5)).other W24 (Ne.symm ne5))
 exact o_retVH (Q := o_Q2z Z cs sf GG o1 o2 h0 n0) X24h hS2 Ks29 hx hrt (hb hby o_d2_26) hlk e24 ⟨lb2, lk2, rfl, N24h, KC26, f31, f32, Fw24, f33⟩ (by decide) (by decide) CR28 hZ (o_EW hw) hh
def o_Q1z (Z : State) (cs : Int32) (sf : Value) (GG : o_G Z cs sf) (o1 : Addr) (o2 : Addr) (kc : ClassId) (h0 : Heap) (n0 : Nat) (v : Option Value) (h : Heap) (L : List Loc) : Prop := ∃ bb : Addr, ∃ kb : ClassId, v = none ∧ Fr n0 L ∧ Keep h0 h [o1] ∧ Exa Z h o1 "java/lang/String" ∧ Fld Z h o1 "java/lang/String" "value" "[B" (.ref bb) ∧ Fld Z h o1 "java/lang/String" "coder" "B" (.int 0) ∧ Arv Z h bb kb .byte 0 [] (.int 0)
set_option maxRecDepth 65536 in
set_option maxHeartbeats 40000000 in
theorem o_rm1z (l : Launch) (Z : State) (a0 : Array Value) (hw : o_Hw Z a0) (ws : List Jvm.Cond) (cs : Int32) (sf : Value) (GG : o_G Z cs sf) (o1 : Addr) (o2 : Addr) (kc : ClassId) (h0 : Heap) (n0 : Nat) (Z0 : n0 ≤ h0.size) (pE1 : Exa Z h0 o1 "java/lang/String") (pF2 : Fld Z h0 o1 "java/lang/String" "value" "[B" .null) (pF3 : Fld Z h0 o1 "java/lang/String" "coder" "B" (.int 0)) (pG4 : n0 ≤ o1) (O0 : Old Z n0 h0) (pV6 : Arv Z h0 o2 kc .char 0 [] (.int 0)) :
  MetFree l y29 (head1 (Jvm.Cond.code y29 jdk_42_method_3_code 2 none :: ws) r52) (fun a U => a = #[(.ref o1), (.ref o2)] ∧ Z.Warmed39 U.vm ∧ U.heap = h0 ∧ CHv Z o_EL U.vm h0 ∧ Safe Z o_EL U.vm h0 o1) (fun _ _ _ _ _ => True) (fun _ U o U' => ∃ v L, o = .returned v ∧ o_Q1z Z cs sf GG o1 o2 kc h0 n0 v U'.heap L ∧ CHr Z o_EL U.vm U.heap U'.vm U'.heap ∧ ReturnedEndW U o U' L r52.cells r52.slots) := by
 refine MetFree.of_bodySF (plainFor_of_name o_pn3) hisR ?_
 intro p e s m args below meth c s₁ Bd hml0 hP hK
 obtain ⟨rfl, hZ, hh, hCH, hSF_o1⟩ := hP
 obtain ⟨hx, hby, hlk, hrt⟩ := o_bd Bd
 have hml : c.maxLocals = 2 := hml0
 have hown : s.vm.findClass "java/lang/String" = some m.cls := findClass_of_methodNamed Bd.named
 have X0 : Stand p l e r52 s m #[(.ref o1), (.ref o2)] below meth c s₁ [] 0 0 := Stand.of_body Bd
 have e0 := o_e0 Bd hh
 have N0 := Fr.nil n0
 have KC0 := Keep.refl h0 [o1]
 refine o_in (g' := mkF m 0 #[(sR o1), (sR o2)] []) (by simp [entryFrame, mkF, argsToLocals, Value.category]) ?_
 have hS0 : s.Since s.vm 0 := (State.WarmedH.refl s).since 0
 have X0q := (show Stand p l e r52 (s.setVm s.vm) m #[(.ref o1), (.ref o2)] below meth c s₁ _ _ _ from X0)
 have CR0 := CHr.refl hCH
 refine o_aloadN X0q hx 1 (hb hby o_d1_0) rfl rfl ?_
 refine o_aloadN X0q hx 2 (hb hby o_d1_1) rfl rfl ?_
 refine o_iconst X0q hx 3 0 (hb hby o_d1_2) rfl ?_
 refine o_aloadN X0q hx 4 (hb hby o_d1_3) rfl rfl ?_
 obtain ⟨cl1, Ar1, qv1, S1, M1, H1, G1⟩ := id pV6
 have ln1 := len_of S1 M1
 refine o_st (G' := s₁.setTop (mkF m 5 #[(sR o1), (sR o2)] [(.int 0), (.int 0), (.ref o2), (.ref o1)])) (fun t k => X0q.arraylength hx (by rw [e0]; exact Ar1.1) (State.isArrayOf_alike hZ.alike Ar1.2.1) (g := (mkF m 4 #[(sR o1), (sR o2)] [(.ref o2), (.int 0), (.ref o2), (.ref o1)])) rfl rfl (hb hby o_d1_4) _ (by rw [ln1]; exact k)) ?_
 refine o_aconstNull X0q hx 6 (hb hby o_d1_5) ?_
 obtain ⟨_, _, ⟨T2, Lx2, kc2, nc2⟩, -, X2, hSx2, hgr2, ⟨Lc2, hQ2, lq2, yq2, zq2, CX2⟩, st2⟩ := X0q.specialBackS hx (y := y28) rfl hown (mvT hZ (W hw 7 rfl)) (mvT hZ (W hw 8 rfl)) (mvT hZ (W hw 10 rfl)) (by decide) (o_backSH (W := 0) (o_rm2z l Z a0 hw [] cs sf GG o1 o2 h0 n0 Z0 pE1 pF2 pF3 pG4 O0) hZ (W hw 10 rfl) (W hw 3 rfl) (by decide) (by decide) (o_EW hw) CR0.1 hSF_o1 pE1.lt) (g := (mkF m 6 #[(sR o1), (sR o2)] [.null, (.int 0), (.int 0), (.ref o2), (.ref o1)])) rfl (by rw [hml]; rfl) (Steps.refl _) (a := o1) (argsL := [(.ref o2), (.int 0), (.int 0), .null]) (rest := []) (lenOf o_pd19 rfl) rfl (o_wl rfl) (hb hby o_d1_6) (fun _ _ => ⟨rfl, e0, (by decide : 0 + 2 ≤ _), (by decide : 0 + 4 ≤ _)⟩)
 dsimp only [Pt.U, Pt.locs, Pt.cells, Pt.slots] at X2 lq2 yq2 zq2 st2 hQ2 hSx2 hgr2 CX2
 subst lq2 yq2 zq2
 have hS2 := o_wf hS0 ((Nat.zero_le _)) hSx2 (by rw [e0] at hgr2; exact hgr2)
 have hown := o_wo hSx2 hown
 have hZ := o_wz hZ hSx2
 have CR2 := CR0.trans CX2
 obtain ⟨bb_2, kb_2, rfl, Nq2, Kp2, G2_0, G2_1, G2_2, G2_3⟩ := hQ2
 have N2 := Fr.app N0 Nq2
 have KC4 := KC0.trans Kp2 (allS (Or.inl (List.mem_of_getElem? (i := 0) rfl)) all0)
 have X2w := (show Stand p l e r52 (s.setVm T2.vm) m #[(.ref o1), (.ref o2)] below meth c T2 _ _ _ from X2)
 refine o_st (G' := T2.setTop (mkF m 9 #[(sR o1), (sR o2)] [])) (fun t k => st2.trans k) ?_
 obtain ⟨_, X2wh, N2wh⟩ := o_hide X2w N2
 exact o_retVH (Q := o_Q1z Z cs sf GG o1 o2 kc h0 n0) X2wh hS2 (Nat.le_refl _) hx hrt (hb hby o_d1_9) hlk rfl ⟨bb_2, kb_2, rfl, N2wh, KC4, G2_0, G2_1, G2_2, G2_3⟩ (by decide) (by decide) CR2 hZ (o_EW hw) hh
def o_Q8z (Z : State) (o1 : Addr) (o2 : Addr) (h0 : Heap) (n0 : Nat) (v : Option Value) (h : Heap) (L : List Loc) : Prop := v = none ∧ Fr n0 L ∧ h = h0
set_option maxRecDepth 65536 in
set_option maxHeartbeats 40000000 in
theorem o_rm8z (l : Launch) (Z : State) (a0 : Array Value) (hw : o_Hw Z a0) (ws : List Jvm.Cond) (o1 : Addr) (o2 : Addr) (h0 : Heap) (n0 : Nat) (Z0 : n0 ≤ h0.size)  :
  o_Met l y19 jdk_43_method_49_code 6 none ws r0 #[(.ref o1), (.int 0), (.ref o2), (.int 0), (.int 0)] Z h0 (o_Q8z Z o1 o2 h0 n0) := by
 refine MetFree.of_bodySF (plainFor_of_name o_pn5) hisR ?_
 intro p e s m args below meth c s₁ Bd hml0 hP hK
 obtain ⟨rfl, hZ, hh⟩ := hP
 obtain ⟨hx, hby, hlk, hrt⟩ := o_bd Bd
 have X0 : Stand p l e r0 s m #[(.ref o1), (.int 0), (.ref o2), (.int 0), (.int 0)] below meth c s₁ [] 0 0 := Stand.of_body Bd
 have e0 := o_e0 Bd hh
 have N0 := Fr.nil n0
 refine o_in (g' := mkF m 0 #[(sR o1), (sI 0), (sR o2), (sI 0), (sI 0), .unset] []) (by simp [entryFrame, mkF, argsToLocals, Value.category]) ?_
 refine o_iconst X0 hx 1 0 (hb hby o_d8_0) rfl ?_
 refine o_istore X0 hx 3 #[(sR o1), (sI 0), (sR o2), (sI 0), (sI 0), (sI 0)] (hb hby o_d8_1) rfl ?_
 refine o_iload X0 hx 5 (hb hby o_d8_3) rfl ?_
 refine o_iload X0 hx 7 (hb hby o_d8_5) rfl ?_
 refine o_icmpYes X0 hx 33 (hb hby o_d8_7) (flt (by decide : ¬ ((0 : Int32) < (0 : Int32)))).2.1 ?_
 exact o_retV (Q := o_Q8z Z o1 o2 h0 n0) X0 hx hrt (hb hby o_d8_33) hlk e0 ⟨rfl, N0, rfl⟩ (by decide) (by decide)
def o_Q7z (Z : State) (o1 : Addr) (kb : ClassId) (h0 : Heap) (n0 : Nat) (v : Option Value) (h : Heap) (L : List Loc) : Prop := ∃ ca : Addr, ∃ kc : ClassId, v = some (.ref ca) ∧ Fr n0 L ∧ Keep h0 h [] ∧ h0.size ≤ ca ∧ Arv Z h ca kc .char 0 [] (.int 0)
set_option maxRecDepth 65536 in
set_option maxHeartbeats 40000000 in
theorem o_rm7z (l : Launch) (Z : State) (a0 : Array Value) (hw : o_Hw Z a0) (ws : List Jvm.Cond) (o1 : Addr) (kb : ClassId) (h0 : Heap) (n0 : Nat) (Z0 : n0 ≤ h0.size) (pV1 : Arv Z h0 o1 kb .byte 0 [] (.int 0)) :
  o_Met l y20 jdk_43_method_9_code 2 (some (.array .char)) ws r53 #[(.ref o1)] Z h0 (o_Q7z Z o1 kb h0 n0) := by
 refine MetFree.of_bodySF (plainFor_of_name o_pn5) hisR ?_
 intro p e s m args below meth c s₁ Bd hml0 hP hK
 obtain ⟨rfl, hZ, hh⟩ := hP
 obtain ⟨hx, hby, hlk, hrt⟩ := o_bd Bd
 have hml : c.maxLocals = 2 := hml0
 have hown : s.vm.findClass "java/lang/StringLatin1" = some m.cls := findClass_of_methodNamed Bd.named
 have X0 : Stand p l e r53 s m #[(.ref o1)] below meth c s₁ [] 0 0 := Stand.of_body Bd
 have e0 := o_e0 Bd hh
 have N0 := Fr.nil n0
 have KC0 := Keep.refl h0 []
 refine o_in (g' := mkF m 0 #[(sR o1), .unset] []) (by simp [entryFrame, mkF, argsToLocals, Value.category]) ?_
 refine o_aloadN X0 hx 1 (hb hby o_d7_0) rfl rfl ?_
 obtain ⟨cl1, Ar1, qv1, S1, M1, H1, G1⟩ := id pV1
 have ln1 := len_of S1 M1
 refine o_st (G' := s₁.setTop (mkF m 2 #[(sR o1), .unset] [(.int 0)])) (fun t k => X0.arraylength hx (by rw [e0]; exact Ar1.1) (State.isArrayOf_alike hZ.alike Ar1.2.1) (g := (mkF m 1 #[(sR o1), .unset] [(.ref o1)])) rfl rfl (hb hby o_d7_1) _ (by rw [ln1]; exact k)) ?_
 obtain ⟨T2, h2, k2, X2, e2, E2, A2, st2⟩ := newP X0 hx hZ (W hw 0 rfl) e0 (g := (mkF m 2 #[(sR o1), .unset] [(.int 0)])) rfl (hb hby o_d7_2) rfl (by decide) (cap := 0) (by decide) (by decide) (by decide) (by decide)
 obtain ⟨b2, g2⟩ : ∃ z, z = h0.size := ⟨_, rfl⟩
 rw [← g2] at A2 st2
 have sz_b2 : h0.size ≤ b2 := Nat.le_trans KC0.1 (Nat.le_of_eq g2.symm)
 have V2 : Arv Z h2 b2 k2 .char 0 [] (.int 0) := (Arv.new A2 (by decide)).pad (pad_rep [] (.int 0) 0)
 have KC4 := KC0.ext E2
 have Z5 := Nat.le_trans Z0 E2.1
 refine o_st (G' := T2.setTop (mkF m 4 #[(sR o1), .unset] [(.ref b2)])) st2 ?_
 obtain ⟨_, X2h, N2h⟩ := o_hide X2 N0
 refine o_astoreN X2h hx 5 #[(sR o1), (sR b2)] (hb hby o_d7_4) rfl rfl ?_
 refine o_aloadN X2h hx 6 (hb hby o_d7_5) rfl rfl ?_
 refine o_iconst X2h hx 7 0 (hb hby o_d7_6) rfl ?_
 refine o_aloadN X2h hx 8 (hb hby o_d7_7) rfl rfl ?_
 refine o_iconst X2h hx 9 0 (hb hby o_d7_8) rfl ?_
 refine o_aloadN X2h hx 10 (hb hby o_d7_9) rfl rfl ?_
 have f6 := (pV1.ext E2)
 obtain ⟨cl7, Ar7, qv7, S7, M7, H7, G7⟩ := id f6
 have ln7 := len_of S7 M7
 refine o_st (G' := T2.setTop (mkF m 11 #[(sR o1), (sR b2)] [(.int 0), (.int 0), (.ref b2), (.int 0), (.ref o1)])) (fun t k => X2h.arraylength hx (by rw [e2]; exact Ar7.1) (State.isArrayOf_alike hZ.alike Ar7.2.1) (g := (mkF m 10 #[(sR o1), (sR b2)] [(.ref o1), (.int 0), (.ref b2), (.int 0), (.ref o1)])) rfl rfl (hb hby o_d7_10) _ (by rw [ln7]; exact k)) ?_
 obtain ⟨_, _, ⟨T8, Lx8, kc8, nc8⟩, -, X8, ⟨Lc8, hQ8, lq8, yq8, zq8⟩, st8⟩ := Jvm.LawKit.callS X2h hx (y := y19) hown (mvT hZ (W hw 41 rfl)) (mvT hZ (W hw 42 rfl)) (mvT hZ (W hw 39 rfl)) (mvT hZ (W hw 43 rfl)) (by decide) (backOf (W := 0) (o_rm8z l Z a0 hw [] o1 b2 h2 n0 Z5 ) hZ (W hw 43 rfl) (W hw 39 rfl) (by decide) (by decide)) (g := (mkF m 11 #[(sR o1), (sR b2)] [(.int 0), (.int 0), (.ref b2), (.int 0), (.ref o1)])) rfl (by rw [hml]; rfl) (argsL := [(.ref o1), (.int 0), (.ref b2), (.int 0), (.int 0)]) (rest := []) (lenOf o_pd11 rfl) rfl (o_wl rfl) (hb hby o_d7_11) (fun _ _ => ⟨rfl, e2, (by decide : 1 + 0 ≤ _), (by decide : 0 + 0 ≤ _)⟩)
 dsimp only [Pt.U, Pt.locs, Pt.cells, Pt.slots] at X8 lq8 yq8 zq8 st8 hQ8
 subst lq8 yq8 zq8
 obtain ⟨rfl, Nq8, eh8⟩ := hQ8
 have N8 := Fr.app N2h Nq8
 refine o_st (G' := T8.setTop (mkF m 14 #[(sR o1), (sR b2)] [])) st8 ?_
 obtain ⟨_, X8h, N8h⟩ := o_hide X8 N8
 refine o_aloadN X8h hx 15 (hb hby o_d7_14) rfl rfl ?_
 exact o_retA (z := (.ref b2)) (Q := o_Q7z Z o1 kb h0 n0) X8h hx hrt rfl rfl (hb hby o_d7_15) hlk eh8 ⟨b2, k2, rfl, N8h, KC4, sz_b2, V2⟩ (by decide) (by decide)
def o_Q5z (Z : State) (cs : Int32) (sf : Value) (GG : o_G Z cs sf) (o1 : Addr) (bb : Addr) (kb : ClassId) (h0 : Heap) (n0 : Nat) (v : Option Value) (h : Heap) (L : List Loc) : Prop := ∃ ca : Addr, ∃ kc : ClassId, v = some (.ref ca) ∧ Fr n0 L ∧ Keep h0 h [] ∧ h0.size ≤ ca ∧ Arv Z h ca kc .char 0 [] (.int 0)
set_option maxRecDepth 65536 in
set_option maxHeartbeats 40000000 in
theorem o_rm5z (l : Launch) (Z : State) (a0 : Array Value) (hw : o_Hw Z a0) (ws : List Jvm.Cond) (cs : Int32) (sf : Value) (GG : o_G Z cs sf) (o1 : Addr) (bb : Addr) (kb : ClassId) (h0 : Heap) (n0 : Nat) (Z0 : n0 ≤ h0.size) (pE1 : Exa Z h0 o1 "java/lang/String") (pF2 : Fld Z h0 o1 "java/lang/String" "value" "[B" (.ref bb)) (pF3 : Fld Z h0 o1 "java/lang/String" "coder" "B" (.int 0)) (pV4 : Arv Z h0 bb kb .byte 0 [] (.int 0)) (O0 : Old Z n0 h0) :
  o_Met l y21 jdk_42_method_129_code 1 (some (.array .char)) ws r54 #[(.ref o1)] Z h0 (o_Q5z Z cs sf GG o1 bb kb h0 n0) := by
 refine MetFree.of_bodySF (plainFor_of_name o_pn3) hisR ?_
 intro p e s m args below meth c s₁ Bd hml0 hP hK
 obtain ⟨rfl, hZ, hh⟩ := hP
 obtain ⟨hx, hby, hlk, hrt⟩ := o_bd Bd
 have hml : c.maxLocals = 1 := hml0
 have hown : s.vm.findClass "java/lang/String" = some m.cls := findClass_of_methodNamed Bd.named
 have X0 : Stand p l e r54 s m #[(.ref o1)] below meth c s₁ [] 0 0 := Stand.of_body Bd
 have e0 := o_e0 Bd hh
 have N0 := Fr.nil n0
 have KC0 := Keep.refl h0 []
 refine o_in (g' := mkF m 0 #[(sR o1)] []) (by simp [entryFrame, mkF, argsToLocals, Value.category]) ?_
 refine o_aloadN X0 hx 1 (hb hby o_d5_0) rfl rfl ?_
 obtain ⟨cq1, kq1, q1a, q1b, q1c⟩ := isOf hZ e0 pE1
 obtain ⟨_, _, ⟨T1, Lx1, kc1, nc1⟩, -, X1, ⟨Lc1, hQ1, lq1, yq1, zq1⟩, st1⟩ := X0.virtualBack hx (y := y5) (z := y5) hown (mvT hZ (W hw 31 rfl)) (mvT hZ (W hw 32 rfl)) (notFace_of_selects (args := #[]) (mvT hZ (W hw 34 rfl))) (mvT hZ (W hw 34 rfl)) (mvT hZ (W hw 33 rfl)) (by decide) (backOf (W := 0) (o_rm6L l Z a0 hw [] cs sf GG o1 h0 n0 Z0 pF3 O0) hZ (W hw 35 rfl) (W hw 3 rfl) (by decide) (by decide)) q1a q1c (g := (mkF m 1 #[(sR o1)] [(.ref o1)])) rfl (by rw [hml]; rfl) (Steps.refl _) (argsL := []) (rest := []) (lenOf o_pd12 rfl) rfl (o_wl rfl) (hb hby o_d5_1) (fun _ _ => ⟨rfl, e0, (by decide : 0 + 0 ≤ _), (by decide : 0 + 0 ≤ _)⟩)
 dsimp only [Pt.U, Pt.locs, Pt.cells, Pt.slots] at X1 lq1 yq1 zq1 st1 hQ1
 subst lq1 yq1 zq1
 obtain ⟨rfl, Nq1, eh1⟩ := hQ1
 have N1 := Fr.app N0 Nq1
 refine o_st (G' := T1.setTop (mkF m 4 #[(sR o1)] [(.int 1)])) (fun t k => st1.trans k) ?_
 obtain ⟨_, X1h, N1h⟩ := o_hide X1 N1
 refine o_ifNo X1h hx 7 (hb hby o_d5_4) (feq (by decide : ¬ ((1 : Int32) = (0 : Int32)))).1 ?_
 refine o_aloadN X1h hx 8 (hb hby o_d5_7) rfl rfl ?_
 obtain ⟨T2, X2, e2, st2⟩ := getF X1h hx hZ hown (host := "") (Or.inl (W hw 20 rfl)) Via.refl eh1 pF2 (g := (mkF m 8 #[(sR o1)] [(.ref o1)])) rfl rfl (hb hby o_d5_8)
 refine o_st (G' := T2.setTop (mkF m 11 #[(sR o1)] [(.ref bb)])) st2 ?_
 obtain ⟨_, X2h, N2h⟩ := o_hide X2 N1h
 obtain ⟨_, _, ⟨T3, Lx3, kc3, nc3⟩, -, X3, ⟨Lc3, hQ3, lq3, yq3, zq3⟩, st3⟩ := Jvm.LawKit.callS X2h hx (y := y20) hown (mvT hZ (W hw 37 rfl)) (mvT hZ (W hw 38 rfl)) (mvT hZ (W hw 39 rfl)) (mvT hZ (W hw 40 rfl)) (by decide) (backOf (W := 0) (o_rm7z l Z a0 hw [] bb kb h0 n0 Z0 pV4) hZ (W hw 40 rfl) (W hw 39 rfl) (by decide) (by decide)) (g := (mkF m 11 #[(sR o1)] [(.ref bb)])) rfl (by rw [hml]; rfl) (argsL := [(.ref bb)]) (rest := []) (lenOf o_pd13 rfl) rfl (o_wl rfl) (hb hby o_d5_11) (fun _ _ => ⟨rfl, e2, (by decide : 0 + 1 ≤ _), (by decide : 0 + 0 ≤ _)⟩)
 dsimp only [Pt.U, Pt.locs, Pt.cells, Pt.slots] at X3 lq3 yq3 zq3 st3 hQ3
 subst lq3 yq3 zq3
 obtain ⟨ca_3, kc_3, rfl, Nq3, Kp3, G3_0, G3_1⟩ := hQ3
 have N3 := Fr.app N2h Nq3
 have sz_ca_3 : h0.size ≤ ca_3 := Nat.le_trans KC0.1 G3_0
 have KC7 := KC0.trans Kp3 all0
 refine o_st (G' := T3.setTop (mkF m 14 #[(sR o1)] [(.ref ca_3)])) st3 ?_
 obtain ⟨_, X3h, N3h⟩ := o_hide X3 N3
 refine o_goto X3h hx 24 (hb hby o_d5_14) ?_
 exact o_retA (z := (.ref ca_3)) (Q := o_Q5z Z cs sf GG o1 bb kb h0 n0) X3h hx hrt rfl rfl (hb hby o_d5_24) hlk rfl ⟨ca_3, kc_3, rfl, N3h, KC7, sz_ca_3, G3_1⟩ (by decide) (by decide)
def o_Q9z (Z : State) (cs : Int32) (sf : Value) (GG : o_G Z cs sf) (o1 : Addr) (bb : Addr) (kb : ClassId) (h0 : Heap) (n0 : Nat) (v : Option Value) (h : Heap) (L : List Loc) : Prop := v = some (.int 0) ∧ Fr n0 L ∧ h = h0
set_option maxRecDepth 65536 in
set_option maxHeartbeats 40000000 in
theorem o_rm9z (l : Launch) (Z : State) (a0 : Array Value) (hw : o_Hw Z a0) (ws : List Jvm.Cond) (cs : Int32) (sf : Value) (GG : o_G Z cs sf) (o1 : Addr) (bb : Addr) (kb : ClassId) (h0 : Heap) (n0 : Nat) (Z0 : n0 ≤ h0.size) (pE1 : Exa Z h0 o1 "java/lang/String") (pF2 : Fld Z h0 o1 "java/lang/String" "value" "[B" (.ref bb)) (pF3 : Fld Z h0 o1 "java/lang/String" "coder" "B" (.int 0)) (pV4 : Arv Z h0 bb kb .byte 0 [] (.int 0)) (O0 : Old Z n0 h0) :
  o_Met l y23 jdk_42_method_54_code 1 (some .int) ws r11 #[(.ref o1)] Z h0 (o_Q9z Z cs sf GG o1 bb kb h0 n0) := by
 refine MetFree.of_bodySF (plainFor_of_name o_pn3) hisR ?_
 intro p e s m args below meth c s₁ Bd hml0 hP hK
 obtain ⟨rfl, hZ, hh⟩ := hP
 obtain ⟨hx, hby, hlk, hrt⟩ := o_bd Bd
 have hml : c.maxLocals = 1 := hml0
 have hown : s.vm.findClass "java/lang/String" = some m.cls := findClass_of_methodNamed Bd.named
 have X0 : Stand p l e r11 s m #[(.ref o1)] below meth c s₁ [] 0 0 := Stand.of_body Bd
 have e0 := o_e0 Bd hh
 have N0 := Fr.nil n0
 refine o_in (g' := mkF m 0 #[(sR o1)] []) (by simp [entryFrame, mkF, argsToLocals, Value.category]) ?_
 refine o_aloadN X0 hx 1 (hb hby o_d9_0) rfl rfl ?_
 obtain ⟨T1, X1, e1, st1⟩ := getF X0 hx hZ hown (host := "") (Or.inl (W hw 20 rfl)) Via.refl e0 pF2 (g := (mkF m 1 #[(sR o1)] [(.ref o1)])) rfl rfl (hb hby o_d9_1)
 refine o_st (G' := T1.setTop (mkF m 4 #[(sR o1)] [(.ref bb)])) st1 ?_
 obtain ⟨_, X1h, N1h⟩ := o_hide X1 N0
 obtain ⟨cl2, Ar2, qv2, S2, M2, H2, G2⟩ := id pV4
 have ln2 := len_of S2 M2
 refine o_st (G' := T1.setTop (mkF m 5 #[(sR o1)] [(.int 0)])) (fun t k => X1h.arraylength hx (by rw [e1]; exact Ar2.1) (State.isArrayOf_alike hZ.alike Ar2.2.1) (g := (mkF m 4 #[(sR o1)] [(.ref bb)])) rfl rfl (hb hby o_d9_4) _ (by rw [ln2]; exact k)) ?_
 refine o_aloadN X1h hx 6 (hb hby o_d9_5) rfl rfl ?_
 obtain ⟨cq3, kq3, q3a, q3b, q3c⟩ := isOf hZ e1 pE1
 obtain ⟨_, _, ⟨T3, Lx3, kc3, nc3⟩, -, X3, ⟨Lc3, hQ3, lq3, yq3, zq3⟩, st3⟩ := X1h.virtualBack hx (y := y4) (z := y4) hown (mvT hZ (W hw 51 rfl)) (mvT hZ (W hw 52 rfl)) (notFace_of_selects (args := #[]) (mvT hZ (W hw 54 rfl))) (mvT hZ (W hw 54 rfl)) (mvT hZ (W hw 53 rfl)) (by decide) (backOf (W := 1) (o_rm10L l Z a0 hw [] cs sf GG o1 h0 n0 Z0 pF3 O0) hZ (W hw 55 rfl) (W hw 3 rfl) (by decide) (by decide)) q3a q3c (g := (mkF m 6 #[(sR o1)] [(.ref o1), (.int 0)])) rfl (by rw [hml]; rfl) (Steps.refl _) (argsL := []) (rest := [(.int 0)]) (lenOf o_pd14 rfl) rfl (o_wl rfl) (hb hby o_d9_6) (fun _ _ => ⟨rfl, e1, (by decide : 0 + 0 ≤ _), (by decide : 0 + 0 ≤ _)⟩)
 dsimp only [Pt.U, Pt.locs, Pt.cells, Pt.slots] at X3 lq3 yq3 zq3 st3 hQ3
 subst lq3 yq3 zq3
 obtain ⟨rfl, Nq3, eh3⟩ := hQ3
 have N3 := Fr.app N1h Nq3
 refine o_st (G' := T3.setTop (mkF m 9 #[(sR o1)] [(.int 0), (.int 0)])) (fun t k => st3.trans k) ?_
 obtain ⟨_, X3h, N3h⟩ := o_hide X3 N3
 refine o_ishr X3h hx 10 (hb hby o_d9_9) ?_
 rw [show ((0 : Int32) >>> ((0 : Int32) &&& 31)) = (0 : Int32) from by decide]
 exact o_retI (z := (0 : Int32)) (Q := o_Q9z Z cs sf GG o1 bb kb h0 n0) X3h hx hrt (hb hby o_d9_10) hlk eh3 ⟨rfl, N3h, rfl⟩ (by decide) (by decide)
def o_Q4z (Z : State) (cs : Int32) (sf : Value) (GG : o_G Z cs sf) (o1 : Addr) (bb : Addr) (kb : ClassId) (h0 : Heap) (n0 : Nat) (v : Option Value) (h : Heap) (L : List Loc) : Prop := ∃ so : Addr, ∃ b2 : Addr, ∃ k2 : ClassId, v = some (.ref so) ∧ Fr n0 L ∧ Keep h0 h [] ∧ h0.size ≤ so ∧ Exa Z h so "java/lang/String" ∧ Fld Z h so "java/lang/String" "value" "[B" (.ref b2) ∧ Fld Z h so "java/lang/String" "coder" "B" (.int 0) ∧ Arv Z h b2 k2 .byte 0 [] (.int 0)
set_option maxRecDepth 65536 in
set_option maxHeartbeats 40000000 in
theorem o_rm4z (l : Launch) (Z : State) (a0 : Array Value) (hw : o_Hw Z a0) (ws : List Jvm.Cond) (cs : Int32) (sf : Value) (GG : o_G Z cs sf) (o1 : Addr) (bb : Addr) (kb : ClassId) (h0 : Heap) (n0 : Nat) (Z0 : n0 ≤ h0.size) (pE1 : Exa Z h0 o1 "java/lang/String") (pF2 : Fld Z h0 o1 "java/lang/String" "value" "[B" (.ref bb)) (pF3 : Fld Z h0 o1 "java/lang/String" "coder" "B" (.int 0)) (pV4 : Arv Z h0 bb kb .byte 0 [] (.int 0)) (O0 : Old Z n0 h0) :
  MetFree l y30 (head1 (Jvm.Cond.code y30 prog_1_method_4_code 3 (some (.object "java/lang/String")) :: ws) r55) (fun a U => a = #[(.ref o1)] ∧ Z.Warmed39 U.vm ∧ U.heap = h0 ∧ CHv Z o_EL U.vm h0) (fun _ _ _ _ _ => True) (fun _ U o U' => ∃ v L, o = .returned v ∧ o_Q4z Z cs sf GG o1 bb kb h0 n0 v U'.heap L ∧ CHr Z o_EL U.vm U.heap U'.vm U'.heap ∧ ReturnedEndW U o U' L r55.cells r55.slots) := by
 refine MetFree.of_bodySF (plainFor_of_name o_pn0) hisR ?_
 intro p e s m args below meth c s₁ Bd hml0 hP hK
 obtain ⟨rfl, hZ, hh, hCH⟩ := hP
 obtain ⟨hx, hby, hlk, hrt⟩ := o_bd Bd
 have hml : c.maxLocals = 3 := hml0
 have hown : s.vm.findClass "com/example/orbweaver/orbweaver/AsciiText" = some m.cls := findClass_of_methodNamed Bd.named
 have X0 : Stand p l e r55 s m #[(.ref o1)] below meth c s₁ [] 0 0 := Stand.of_body Bd
 have e0 := o_e0 Bd hh
 have N0 := Fr.nil n0
 have KC0 := Keep.refl h0 []
 refine o_in (g' := mkF m 0 #[(sR o1), .unset, .unset] []) (by simp [entryFrame, mkF, argsToLocals, Value.category]) ?_
 have hS0 : s.Since s.vm 0 := (State.WarmedH.refl s).since 0
 have X0q := (show Stand p l e r55 (s.setVm s.vm) m #[(.ref o1)] below meth c s₁ _ _ _ from X0)
 have CR0 := CHr.refl hCH
 refine o_aloadN X0q hx 1 (hb hby o_d4_0) rfl rfl ?_
 obtain ⟨cq1, kq1, q1a, q1b, q1c⟩ := isOf hZ e0 pE1
 obtain ⟨_, _, ⟨T1, Lx1, kc1, nc1⟩, -, X1, ⟨Lc1, hQ1, lq1, yq1, zq1⟩, st1⟩ := X0q.virtualBack hx (y := y21) (z := y21) hown (mvT hZ (W hw 26 rfl)) (mvT hZ (W hw 27 rfl)) (notFace_of_selects (args := #[]) (mvT hZ (W hw 29 rfl))) (mvT hZ (W hw 29 rfl)) (mvT hZ (W hw 28 rfl)) (by decide) (backOf (W := 0) (o_rm5z l Z a0 hw [] cs sf GG o1 bb kb h0 n0 Z0 pE1 pF2 pF3 pV4 O0) hZ (W hw 30 rfl) (W hw 3 rfl) (by decide) (by decide)) q1a q1c (g := (mkF m 1 #[(sR o1), .unset, .unset] [(.ref o1)])) rfl (by rw [hml]; rfl) (Steps.refl _) (argsL := []) (rest := []) (lenOf o_pd20 rfl) rfl (o_wl rfl) (hb hby o_d4_1) (fun _ _ => ⟨rfl, e0, (by decide : 0 + 1 ≤ _), (by decide : 0 + 0 ≤ _)⟩)
 dsimp only [Pt.U, Pt.locs, Pt.cells, Pt.slots] at X1 lq1 yq1 zq1 st1 hQ1
 subst lq1 yq1 zq1
 obtain ⟨ca_1, kc_1, rfl, Nq1, Kp1, G1_0, G1_1⟩ := hQ1
 have N1 := Fr.app N0 Nq1
 have O4 := O0.keep Kp1 all0
 have KC5 := KC0.trans Kp1 all0
 have CR6 := CR0.trans (CHr.keep Kp1 sf0 CR0.1)
 have Ks7 := Nat.le_trans (Nat.zero_le _) Kp1.1
 have Z8 := Nat.le_trans Z0 Kp1.1
 refine o_st (G' := T1.setTop (mkF m 4 #[(sR o1), .unset, .unset] [(.ref ca_1)])) (fun t k => st1.trans k) ?_
 obtain ⟨_, X1h, N1h⟩ := o_hide X1 N1
 refine o_astoreN X1h hx 5 #[(sR o1), (sR ca_1), .unset] (hb hby o_d4_4) rfl rfl ?_
 refine o_iconst X1h hx 6 0 (hb hby o_d4_5) rfl ?_
 refine o_istoreN X1h hx 7 #[(sR o1), (sR ca_1), (sI 0)] (hb hby o_d4_6) rfl ?_
 refine o_iloadN X1h hx 8 (hb hby o_d4_7) rfl ?_
 refine o_aloadN X1h hx 9 (hb hby o_d4_8) rfl rfl ?_
 obtain ⟨cl9, Ar9, qv9, S9, M9, H9, G9⟩ := id G1_1
 have ln9 := len_of S9 M9
 refine o_st (G' := T1.setTop (mkF m 10 #[(sR o1), (sR ca_1), (sI 0)] [(.int 0), (.int 0)])) (fun t k => X1h.arraylength hx Ar9.1 (State.isArrayOf_alike hZ.alike Ar9.2.1) (g := (mkF m 9 #[(sR o1), (sR ca_1), (sI 0)] [(.ref ca_1), (.int 0)])) rfl rfl (hb hby o_d4_9) _ (by rw [ln9]; exact k)) ?_
 refine o_icmpYes X1h hx 29 (hb hby o_d4_10) (flt (by decide : ¬ ((0 : Int32) < (0 : Int32)))).2.1 ?_
 obtain ⟨T10, h10, X10, e10, E10, A10, D10, -, st10⟩ := newO X1h hx hZ hown (W hw 44 rfl) (W hw 2 rfl) (W hw 3 rfl) rfl (g := (mkF m 29 #[(sR o1), (sR ca_1), (sI 0)] [])) rfl (hb hby o_d4_29) (by decide) (by decide)
 obtain ⟨b10, g10⟩ : ∃ z, z = T1.heap.size := ⟨_, rfl⟩
 rw [← g10] at A10 D10 st10
 have gt_b10 : n0 ≤ b10 := Nat.le_trans Z8 (Nat.le_of_eq g10.symm)
 have sz_b10 : h0.size ≤ b10 := Nat.le_trans KC5.1 (Nat.le_of_eq g10.symm)
 have Sf16 : Safe Z o_EL _ T1.heap b10 := Safe.new (vm := s.vm) (Z := Z) (EL := o_EL) (Nat.le_of_eq g10.symm)
 have O17 := O4.ext E10
 have KC18 := KC5.ext E10
 have Sf19 := Safe.ext E10 CR6.1 Sf16
 have CR20 := CR6.trans (CHr.ext E10 CR6.1)
 have Ks21 := Nat.le_trans Ks7 E10.1
 have Z22 := Nat.le_trans Z8 E10.1
 have F10_value : Fld Z h10 b10 "java/lang/String" "value" "[B" .null := D10 (Or.inr (W hw 16 rfl)) (ty := (.array .byte)) (by decide)
 have F10_coder : Fld Z h10 b10 "java/lang/String" "coder" "B" (.int 0) := D10 (Or.inr (W hw 17 rfl)) (ty := .byte) (by decide)
 refine o_st (G' := T10.setTop (mkF m 32 #[(sR o1), (sR ca_1), (sI 0)] [(.ref b10)])) st10 ?_
 obtain ⟨_, X10h, N10h⟩ := o_hide X10 N1h
 refine o_dup X10h hx 33 (hb hby o_d4_32) rfl ?_
 refine o_aloadN X10h hx 34 (hb hby o_d4_33) rfl rfl ?_
 have f23 := (G1_1.ext E10)
 obtain ⟨_, _, ⟨T24, Lx24, kc24, nc24⟩, -, X24, hSx24, hgr24, ⟨Lc24, hQ24, lq24, yq24, zq24, CX24⟩, st24⟩ := X10h.specialBackS hx (y := y29) rfl hown (mvT hZ (W hw 45 rfl)) (mvT hZ (W hw 5 rfl)) (mvT hZ (W hw 6 rfl)) (by decide) (o_backSH (W := 1) (o_rm1z l Z a0 hw [] cs sf GG b10 ca_1 kc_1 h10 n0 Z22 A10 F10_value F10_coder gt_b10 O17 f23) hZ (W hw 6 rfl) (W hw 3 rfl) (by decide) (by decide) (o_EW hw) CR20.1 Sf19 A10.lt) (g := (mkF m 34 #[(sR o1), (sR ca_1), (sI 0)] [(.ref ca_1), (.ref b10), (.ref b10)])) rfl (by rw [hml]; rfl) (Steps.refl _) (a := b10) (argsL := [(.ref ca_1)]) (rest := [(.ref b10)]) (lenOf o_pd21 rfl) rfl (o_wl rfl) (hb hby o_d4_34) (fun _ _ => ⟨rfl, e10, (by decide : 2 + 2 ≤ _), (by decide : 4 + 4 ≤ _)⟩)
 dsimp only [Pt.U, Pt.locs, Pt.cells, Pt.slots] at X24 lq24 yq24 zq24 st24 hQ24 hSx24 hgr24 CX24
 subst lq24 yq24 zq24
 have hS24 := o_wf hS0 (Ks21) hSx24 (by rw [e10] at hgr24; exact hgr24)
 have hown := o_wo hSx24 hown
 have hZ := o_wz hZ hSx24
 have CR24 := CR20.trans CX24
 obtain ⟨bb_24, kb_24, rfl, Nq24, Kp24, G24_0, G24_1, G24_2, G24_3⟩ := hQ24
 have N24 := Fr.app N10h Nq24
 have KC26 := KC18.trans Kp24 (allS (Or.inr sz_b10) all0)
 have X24w := (show Stand p l e r55 (s.setVm T24.vm) m #[(.ref o1)] below meth c T24 _ _ _ from X24)
 refine o_st (G' := T24.setTop (mkF m 37 #[(sR o1), (sR ca_1), (sI 0)] [(.ref b10)])) (fun t k => st24.trans k) ?_
 obtain ⟨_, X24wh, N24wh⟩ := o_hide X24w N24
 exact o_retAH (z := (.ref b10)) (Q := o_Q4z Z cs sf GG o1 bb kb h0 n0) X24wh hS24 (Nat.le_refl _) hx hrt rfl rfl (hb hby o_d4_37) hlk rfl ⟨b10, bb_24, kb_24, rfl, N24wh, KC26, sz_b10, G24_0, G24_1, G24_2, G24_3⟩ (by decide) (by decide) CR24 hZ (o_EW hw) hh
theorem o_pd22 : parseMethodDescriptor "(Ljava/lang/String;)Ljava/lang/String;" = some ⟨[(.object "java/lang/String")], some (.object "java/lang/String")⟩ := by decide +kernel
theorem o_pd23 : parseMethodDescriptor "()I" = some ⟨[], some .int⟩ := by decide +kernel
theorem o_pd24 : parseMethodDescriptor "(I)C" = some ⟨[.int], some .char⟩ := by decide +kernel
theorem o_pd25 : parseMethodDescriptor "(C)C" = some ⟨[.char], some .char⟩ := by decide +kernel
theorem o_ef0 (m : MethodId) (v0 : Int32) (v1 : Int32) (v2 : Int32) (v3 : Int32) : entryFrame m #[(.int v0), (.int v1), (.int v2), (.int v3)] maxLocals = mkF m 0 #[(sI v0), (sI v1), (sI v2), (sI v3), .unset, .unset, .unset, .unset, .unset, .unset] [] := by first | (simp [entryFrame, mkF, argsToLocals, Value.category, maxLocals]; done) | rfl
def o_Q0 (Z : State) (cs : Int32) (sf : Value) (GG : o_G Z cs sf) (v0 : Int32) (v1 : Int32) (v2 : Int32) (v3 : Int32) (h0 : Heap) (n0 : Nat) (v : Option Value) (h : Heap) (L : List Loc) : Prop := v = some (.int 1) ∧ Fr n0 L
set_option maxRecDepth 65536 in
set_option maxHeartbeats 40000000 in
theorem o_rm0 (l : Launch) (Z : State) (a0 : Array Value) (hw : o_Hw Z a0) (ws : List Jvm.Cond) (cs : Int32) (sf : Value) (GG : o_G Z cs sf) (v0 : Int32) (v1 : Int32) (v2 : Int32) (v3 : Int32) (h0 : Heap) (n0 : Nat) (Z0 : n0 ≤ h0.size) (O0 : Old Z n0 h0) :
  MetFree l x (head1 (Jvm.Cond.code x code maxLocals ret :: ws) room_1) (fun a U => a = #[(.int v0), (.int v1), (.int v2), (.int v3)] ∧ Z.Warmed39 U.vm ∧ U.heap = h0 ∧ CHv Z o_EL U.vm h0) (fun _ _ _ _ _ => True) (fun _ U o U' => ∃ v L, o = .returned v ∧ o_Q0 Z cs sf GG v0 v1 v2 v3 h0 n0 v U'.heap L ∧ ReturnedEndW U o U' L room_1.cells room_1.slots) := by
 refine MetFree.of_bodySF (plainFor_of_name o_pn1) hisR ?_
 intro p e s m args below meth c s₁ Bd hml0 hP hK
 obtain ⟨rfl, hZ, hh, hCH⟩ := hP
 obtain ⟨hx, hby, hlk, hrt⟩ := o_bd Bd
 have hml : c.maxLocals = 10 := hml0
 have hown : s.vm.findClass "com/example/orbweaver/orbweaver/AsciiTextLowerCasePinLaw" = some m.cls := findClass_of_methodNamed Bd.named
 have X0 : Stand p l e room_1 s m #[(.int v0), (.int v1), (.int v2), (.int v3)] below meth c s₁ [] 0 0 := Stand.of_body Bd
 have e0 := o_e0 Bd hh
 have N0 := Fr.nil n0
 refine o_in (o_ef0 m v0 v1 v2 v3) ?_
 have hS0 : s.Since s.vm 0 := (State.WarmedH.refl s).since 0
 have X0q := (show Stand p l e room_1 (s.setVm s.vm) m #[(.int v0), (.int v1), (.int v2), (.int v3)] below meth c s₁ _ _ _ from X0)
 have CR0 := CHr.refl hCH
 refine o_iloadN X0q hx 1 (hb hby at_0) rfl ?_
 refine o_iconst X0q hx 2 3 (hb hby at_1) rfl ?_
 refine o_iand X0q hx 3 (hb hby at_2) ?_
 rcases o_len v0 with hk1 | hk2 | hk3 | hk4
 ·rw [hk1]
  refine o_istore X0q hx 5 #[(sI v0), (sI v1), (sI v2), (sI v3), (sI 0), .unset, .unset, .unset, .unset, .unset] (hb hby at_3) rfl ?_
  refine o_iloadN X0q hx 6 (hb hby at_5) rfl ?_
  refine o_i2c X0q hx 7 (hb hby at_6) ?_
  have hC0 := o_i2cC v1
  generalize (v1.toUInt32.toUInt16.toUInt32.toInt32) = c0 at hC0 ⊢
  refine o_istore X0q hx 9 #[(sI v0), (sI v1), (sI v2), (sI v3), (sI 0), (sI c0), .unset, .unset, .unset, .unset] (hb hby at_7) rfl ?_
  refine o_iloadN X0q hx 10 (hb hby at_9) rfl ?_
  refine o_i2c X0q hx 11 (hb hby at_10) ?_
  have hC1 := o_i2cC v2
  generalize (v2.toUInt32.toUInt16.toUInt32.toInt32) = c1 at hC1 ⊢
  refine o_istore X0q hx 13 #[(sI v0), (sI v1), (sI v2), (sI v3), (sI 0), (sI c0), (sI c1), .unset, .unset, .unset] (hb hby at_11) rfl ?_
  refine o_iloadN X0q hx 14 (hb hby at_13) rfl ?_
  refine o_i2c X0q hx 15 (hb hby at_14) ?_
  have hC2 := o_i2cC v3
  generalize (v3.toUInt32.toUInt16.toUInt32.toInt32) = c2 at hC2 ⊢
  refine o_istore X0q hx 17 #[(sI v0), (sI v1), (sI v2), (sI v3), (sI 0), (sI c0), (sI c1), (sI c2), .unset, .unset] (hb hby at_15) rfl ?_
  refine o_iload X0q hx 19 (hb hby at_17) rfl ?_
  refine o_ifNo X0q hx 22 (hb hby at_19) (teq (rfl : (0 : Int32) = (0 : Int32))).2 ?_
  refine o_iconst X0q hx 23 0 (hb hby at_22) rfl ?_
  obtain ⟨T5, h5, k5, X5, e5, E5, A5, st5⟩ := newP X0q hx hZ (W hw 0 rfl) e0 (g := (mkF m 23 #[(sI v0), (sI v1), (sI v2), (sI v3), (sI 0), (sI c0), (sI c1), (sI c2), .unset, .unset] [(.int 0)])) rfl (hb hby at_23) rfl (by decide) (cap := 0) (by decide) (by decide) (by decide) (by decide)
  obtain ⟨b5, g5⟩ : ∃ z, z = h0.size := ⟨_, rfl⟩
  rw [← g5] at A5 st5
  have V5 : Arv Z h5 b5 k5 .char 0 [] (.int 0) := (Arv.new A5 (by decide)).pad (pad_rep [] (.int 0) 0)
  have O7 := O0.ext E5
  have CR9 := CR0.trans (CHr.ext E5 CR0.1)
  have Ks10 := Nat.le_trans (Nat.zero_le _) E5.1
  have Z11 := Nat.le_trans Z0 E5.1
  refine o_st (G' := T5.setTop (mkF m 25 #[(sI v0), (sI v1), (sI v2), (sI v3), (sI 0), (sI c0), (sI c1), (sI c2), .unset, .unset] [(.ref b5)])) st5 ?_
  obtain ⟨_, X5h, N5h⟩ := o_hide X5 N0
  refine o_astore X5h hx 27 #[(sI v0), (sI v1), (sI v2), (sI v3), (sI 0), (sI c0), (sI c1), (sI c2), (sR b5), .unset] (hb hby at_25) rfl rfl ?_
  refine o_goto X5h hx 93 (hb hby at_27) ?_
  obtain ⟨T12, h12, X12, e12, E12, A12, D12, -, st12⟩ := newO X5h hx hZ hown (W hw 1 rfl) (W hw 2 rfl) (W hw 3 rfl) e5 (g := (mkF m 93 #[(sI v0), (sI v1), (sI v2), (sI v3), (sI 0), (sI c0), (sI c1), (sI c2), (sR b5), .unset] [])) rfl (hb hby at_93) (by decide) (by decide)
  obtain ⟨b12, g12⟩ : ∃ z, z = h5.size := ⟨_, rfl⟩
  rw [← g12] at A12 D12 st12
  have gt_b12 : n0 ≤ b12 := Nat.le_trans Z11 (Nat.le_of_eq g12.symm)
  have Sf14 : Safe Z o_EL _ h5 b12 := Safe.new (vm := s.vm) (Z := Z) (EL := o_EL) (Nat.le_of_eq g12.symm)
  have O15 := O7.ext E12
  have Sf17 := Safe.ext E12 CR9.1 Sf14
  have CR18 := CR9.trans (CHr.ext E12 CR9.1)
  have Ks19 := Nat.le_trans Ks10 E12.1
  have Z20 := Nat.le_trans Z11 E12.1
  have F12_value : Fld Z h12 b12 "java/lang/String" "value" "[B" .null := D12 (Or.inr (W hw 16 rfl)) (ty := (.array .byte)) (by decide)
  have F12_coder : Fld Z h12 b12 "java/lang/String" "coder" "B" (.int 0) := D12 (Or.inr (W hw 17 rfl)) (ty := .byte) (by decide)
  refine o_st (G' := T12.setTop (mkF m 96 #[(sI v0), (sI v1), (sI v2), (sI v3), (sI 0), (sI c0), (sI c1), (sI c2), (sR b5), .unset] [(.ref b12)])) st12 ?_
  obtain ⟨_, X12h, N12h⟩ := o_hide X12 N5h
  refine o_dup X12h hx 97 (hb hby at_96) rfl ?_
  refine o_aload X12h hx 99 (hb hby at_97) rfl rfl ?_
  have f21 := (V5.ext E12)
  obtain ⟨_, _, ⟨T22, Lx22, kc22, nc22⟩, -, X22, hSx22, hgr22, ⟨Lc22, hQ22, lq22, yq22, zq22, CX22⟩, st22⟩ := X12h.specialBackS hx (y := y29) rfl hown (mvT hZ (W hw 4 rfl)) (mvT hZ (W hw 5 rfl)) (mvT hZ (W hw 6 rfl)) (by decide) (o_backSH (W := 1) (o_rm1z l Z a0 hw [] cs sf GG b12 b5 k5 h12 n0 Z20 A12 F12_value F12_coder gt_b12 O15 f21) hZ (W hw 6 rfl) (W hw 3 rfl) (by decide) (by decide) (o_EW hw) CR18.1 Sf17 A12.lt) (g := (mkF m 99 #[(sI v0), (sI v1), (sI v2), (sI v3), (sI 0), (sI c0), (sI c1), (sI c2), (sR b5), .unset] [(.ref b5), (.ref b12), (.ref b12)])) rfl (by rw [hml]; rfl) (Steps.refl _) (a := b12) (argsL := [(.ref b5)]) (rest := [(.ref b12)]) (lenOf o_pd21 rfl) rfl (o_wl rfl) (hb hby at_99) (fun _ _ => ⟨rfl, e12, (by decide : 2 + 2 ≤ _), (by decide : 4 + 4 ≤ _)⟩)
  dsimp only [Pt.U, Pt.locs, Pt.cells, Pt.slots] at X22 lq22 yq22 zq22 st22 hQ22 hSx22 hgr22 CX22
  subst lq22 yq22 zq22
  have hS22 := o_wf hS0 (Ks19) hSx22 (by rw [e12] at hgr22; exact hgr22)
  have hown := o_wo hSx22 hown
  have hZ := o_wz hZ hSx22
  have CR22 := CR18.trans CX22
  obtain ⟨bb_22, kb_22, rfl, Nq22, Kp22, G22_0, G22_1, G22_2, G22_3⟩ := hQ22
  have N22 := Fr.app N12h Nq22
  have O23 := O15.keep Kp22 (allS gt_b12 all0)
  have Z24 := Nat.le_trans Z20 Kp22.1
  have X22w := (show Stand p l e room_1 (s.setVm T22.vm) m #[(.int v0), (.int v1), (.int v2), (.int v3)] below meth c T22 _ _ _ from X22)
  refine o_st (G' := T22.setTop (mkF m 102 #[(sI v0), (sI v1), (sI v2), (sI v3), (sI 0), (sI c0), (sI c1), (sI c2), (sR b5), .unset] [(.ref b12)])) (fun t k => st22.trans k) ?_
  obtain ⟨_, X22wh, N22wh⟩ := o_hide X22w N22
  obtain ⟨_, _, ⟨T25, Lx25, kc25, nc25⟩, -, X25, hSx25, hgr25, ⟨Lc25, hQ25, lq25, yq25, zq25, CX25⟩, st25⟩ := callSS X22wh hx (y := y30) hown (mvT hZ (W hw 22 rfl)) (mvT hZ (W hw 23 rfl)) (mvT hZ (W hw 24 rfl)) (mvT hZ (W hw 25 rfl)) (by decide) (backOfSH (W := 0) (o_rm4z l Z a0 hw [] cs sf GG b12 bb_22 kb_22 T22.heap n0 Z24 G22_0 G22_1 G22_2 G22_3 O23) hZ (W hw 25 rfl) (W hw 24 rfl) (by decide) (by decide) (o_EW hw) CR22.1) (g := (mkF m 102 #[(sI v0), (sI v1), (sI v2), (sI v3), (sI 0), (sI c0), (sI c1), (sI c2), (sR b5), .unset] [(.ref b12)])) rfl (by rw [hml]; rfl) (argsL := [(.ref b12)]) (rest := []) (lenOf o_pd22 rfl) rfl (o_wl rfl) (hb hby at_102) (fun _ _ => ⟨rfl, rfl, (by decide : 4 + 4 ≤ _), (by decide : 8 + 8 ≤ _)⟩)
  dsimp only [Pt.U, Pt.locs, Pt.cells, Pt.slots] at X25 lq25 yq25 zq25 st25 hQ25 hSx25 hgr25 CX25
  subst lq25 yq25 zq25
  have hS25 := o_wf hS22 ((Nat.le_refl _)) hSx25 hgr25
  have hown := o_wo hSx25 hown
  have hZ := o_wz hZ hSx25
  obtain ⟨so_25, b2_25, k2_25, rfl, Nq25, Kp25, G25_0, G25_1, G25_2, G25_3, G25_4⟩ := hQ25
  have N25 := Fr.app N22wh Nq25
  have O29 := O23.keep Kp25 all0
  have Z30 := Nat.le_trans Z24 Kp25.1
  have X25w := (show Stand p l e room_1 (s.setVm T25.vm) m #[(.int v0), (.int v1), (.int v2), (.int v3)] below meth c T25 _ _ _ from X25)
  refine o_st (G' := T25.setTop (mkF m 105 #[(sI v0), (sI v1), (sI v2), (sI v3), (sI 0), (sI c0), (sI c1), (sI c2), (sR b5), .unset] [(.ref so_25)])) (fun t k => st25.trans k) ?_
  obtain ⟨_, X25wh, N25wh⟩ := o_hide X25w N25
  refine o_astore X25wh hx 107 #[(sI v0), (sI v1), (sI v2), (sI v3), (sI 0), (sI c0), (sI c1), (sI c2), (sR b5), (sR so_25)] (hb hby at_105) rfl rfl ?_
  refine o_aload X25wh hx 109 (hb hby at_107) rfl rfl ?_
  obtain ⟨cq31, kq31, q31a, q31b, q31c⟩ := isOf hZ rfl G25_1
  obtain ⟨_, _, ⟨T31, Lx31, kc31, nc31⟩, -, X31, ⟨Lc31, hQ31, lq31, yq31, zq31⟩, st31⟩ := X25wh.virtualBack hx (y := y23) (z := y23) hown (mvT hZ (W hw 46 rfl)) (mvT hZ (W hw 47 rfl)) (notFace_of_selects (args := #[]) (mvT hZ (W hw 49 rfl))) (mvT hZ (W hw 49 rfl)) (mvT hZ (W hw 48 rfl)) (by decide) (backOf (W := 0) (o_rm9z l Z a0 hw [] cs sf GG so_25 b2_25 k2_25 T25.heap n0 Z30 G25_1 G25_2 G25_3 G25_4 O29) hZ (W hw 50 rfl) (W hw 3 rfl) (by decide) (by decide)) q31a q31c (g := (mkF m 109 #[(sI v0), (sI v1), (sI v2), (sI v3), (sI 0), (sI c0), (sI c1), (sI c2), (sR b5), (sR so_25)] [(.ref so_25)])) rfl (by rw [hml]; rfl) (Steps.refl _) (argsL := []) (rest := []) (lenOf o_pd23 rfl) rfl (o_wl rfl) (hb hby at_109) (fun _ _ => ⟨rfl, rfl, (by decide : 8 + 0 ≤ _), (by decide : 16 + 0 ≤ _)⟩)
  dsimp only [Pt.U, Pt.locs, Pt.cells, Pt.slots] at X31 lq31 yq31 zq31 st31 hQ31
  subst lq31 yq31 zq31
  obtain ⟨rfl, Nq31, eh31⟩ := hQ31
  have N31 := Fr.app N25wh Nq31
  refine o_st (G' := T31.setTop (mkF m 112 #[(sI v0), (sI v1), (sI v2), (sI v3), (sI 0), (sI c0), (sI c1), (sI c2), (sR b5), (sR so_25)] [(.int 0)])) (fun t k => st31.trans k) ?_
  obtain ⟨_, X31h, N31h⟩ := o_hide X31 N31
  refine o_iload X31h hx 114 (hb hby at_112) rfl ?_
  refine o_icmpYes X31h hx 119 (hb hby at_114) (teq (rfl : (0 : Int32) = (0 : Int32))).1 ?_
  refine o_iload X31h hx 121 (hb hby at_119) rfl ?_
  refine o_iconst X31h hx 122 1 (hb hby at_121) rfl ?_
  refine o_icmpYes X31h hx 141 (hb hby at_122) (tlt (by decide : (0 : Int32) < (1 : Int32))).1 ?_
  refine o_iload X31h hx 143 (hb hby at_141) rfl ?_
  refine o_iconst X31h hx 144 2 (hb hby at_143) rfl ?_
  refine o_icmpYes X31h hx 163 (hb hby at_144) (tlt (by decide : (0 : Int32) < (2 : Int32))).1 ?_
  refine o_iload X31h hx 165 (hb hby at_163) rfl ?_
  refine o_iconst X31h hx 166 3 (hb hby at_165) rfl ?_
  refine o_icmpYes X31h hx 185 (hb hby at_166) (tlt (by decide : (0 : Int32) < (3 : Int32))).1 ?_
  refine o_iconst X31h hx 186 1 (hb hby at_185) rfl ?_
  exact o_retNW (t := .boolean) (Q := o_Q0 Z cs sf GG v0 v1 v2 v3 h0 n0) X31h hS25 (Nat.le_refl _) hx hrt (by simp) (hb hby at_186) hlk eh31 ⟨rfl, N31h⟩ (by decide) (by decide)
 ·rw [hk2]
  refine o_istore X0q hx 5 #[(sI v0), (sI v1), (sI v2), (sI v3), (sI 1), .unset, .unset, .unset, .unset, .unset] (hb hby at_3) rfl ?_
  refine o_iloadN X0q hx 6 (hb hby at_5) rfl ?_
  refine o_i2c X0q hx 7 (hb hby at_6) ?_
  have hC0 := o_i2cC v1
  generalize (v1.toUInt32.toUInt16.toUInt32.toInt32) = c0 at hC0 ⊢
  refine o_istore X0q hx 9 #[(sI v0), (sI v1), (sI v2), (sI v3), (sI 1), (sI c0), .unset, .unset, .unset, .unset] (hb hby at_7) rfl ?_
  refine o_iloadN X0q hx 10 (hb hby at_9) rfl ?_
  refine o_i2c X0q hx 11 (hb hby at_10) ?_
  have hC1 := o_i2cC v2
  generalize (v2.toUInt32.toUInt16.toUInt32.toInt32) = c1 at hC1 ⊢
  refine o_istore X0q hx 13 #[(sI v0), (sI v1), (sI v2), (sI v3), (sI 1), (sI c0), (sI c1), .unset, .unset, .unset] (hb hby at_11) rfl ?_
  refine o_iloadN X0q hx 14 (hb hby at_13) rfl ?_
  refine o_i2c X0q hx 15 (hb hby at_14) ?_
  have hC2 := o_i2cC v3
  generalize (v3.toUInt32.toUInt16.toUInt32.toInt32) = c2 at hC2 ⊢
  refine o_istore X0q hx 17 #[(sI v0), (sI v1), (sI v2), (sI v3), (sI 1), (sI c0), (sI c1), (sI c2), .unset, .unset] (hb hby at_15) rfl ?_
  refine o_iload X0q hx 19 (hb hby at_17) rfl ?_
  refine o_ifYes X0q hx 30 (hb hby at_19) (feq (by decide : ¬ ((1 : Int32) = (0 : Int32)))).2 ?_
  refine o_iload X0q hx 32 (hb hby at_30) rfl ?_
  refine o_iconst X0q hx 33 1 (hb hby at_32) rfl ?_
  refine o_icmpNo X0q hx 36 (hb hby at_33) (teq (rfl : (1 : Int32) = (1 : Int32))).2 ?_
  refine o_iconst X0q hx 37 1 (hb hby at_36) rfl ?_
  obtain ⟨T32, h32, k32, X32, e32, E32, A32, st32⟩ := newP X0q hx hZ (W hw 0 rfl) e0 (g := (mkF m 37 #[(sI v0), (sI v1), (sI v2), (sI v3), (sI 1), (sI c0), (sI c1), (sI c2), .unset, .unset] [(.int 1)])) rfl (hb hby at_37) rfl (by decide) (cap := 1) (by decide) (by decide) (by decide) (by decide)
  obtain ⟨b32, g32⟩ : ∃ z, z = h0.size := ⟨_, rfl⟩
  rw [← g32] at A32 st32
  have gt_b32 : n0 ≤ b32 := Nat.le_trans Z0 (Nat.le_of_eq g32.symm)
  have V32 : Arv Z h32 b32 k32 .char 1 [(.int 0)] (.int 0) := (Arv.new A32 (by decide)).pad (pad_rep [] (.int 0) 1)
  have O34 := O0.ext E32
  have Ks37 := Nat.le_trans (Nat.zero_le _) E32.1
  have Z38 := Nat.le_trans Z0 E32.1
  refine o_st (G' := T32.setTop (mkF m 39 #[(sI v0), (sI v1), (sI v2), (sI v3), (sI 1), (sI c0), (sI c1), (sI c2), .unset, .unset] [(.ref b32)])) st32 ?_
  obtain ⟨_, X32h, N32h⟩ := o_hide X32 N0
  refine o_dup X32h hx 40 (hb hby at_39) rfl ?_
  refine o_iconst X32h hx 41 0 (hb hby at_40) rfl ?_
  refine o_iload X32h hx 43 (hb hby at_41) rfl ?_
  obtain ⟨cl39, Ar39, qv39, S39, M39, H39, G39⟩ := id V32
  have hin39 := inb_of (j := (0 : Int32)) S39 ⟨by decide, by decide⟩
  obtain ⟨T39, h39, X39, e39, W39, st39⟩ := stC X32h hx hZ e32 Ar39 (j := (0 : Int32)) hin39 (g := (mkF m 43 #[(sI v0), (sI v1), (sI v2), (sI v3), (sI 1), (sI c0), (sI c1), (sI c2), .unset, .unset] [(.int c0), (.int 0), (.ref b32), (.ref b32)])) rfl rfl (hb hby at_43)
  have V39 : Arv Z h39 b32 k32 .char 1 [(.int (nar .char c0))] (.int 0) := Arv.set Ar39 qv39 S39 M39 H39 G39 (fits_nar_char _) W39 0 rfl (Nat.le_of_ble_eq_true rfl)
  have N39 := Fr.snoc X39 N32h gt_b32
  have O40 := O34.wr W39 gt_b32
  have Ks43 := Nat.le_trans Ks37 (Nat.le_of_eq W39.size.symm)
  have Z44 := Nat.le_trans Z38 (Nat.le_of_eq W39.size.symm)
  refine o_st (G' := T39.setTop (mkF m 44 #[(sI v0), (sI v1), (sI v2), (sI v3), (sI 1), (sI c0), (sI c1), (sI c2), .unset, .unset] [(.ref b32)])) st39 ?_
  obtain ⟨_, X39h, N39h⟩ := o_hide X39 N39
  refine o_astore X39h hx 46 #[(sI v0), (sI v1), (sI v2), (sI v3), (sI 1), (sI c0), (sI c1), (sI c2), (sR b32), .unset] (hb hby at_44) rfl rfl ?_
  refine o_goto X39h hx 93 (hb hby at_46) ?_
  have V45 := V39
  rw [o_narC hC0] at V45
  by_cases hc93_46 : (255 : Int32) < c0
  ·obtain ⟨T47, h47, X47, e47, E47, A47, D47, -, st47⟩ := newO X39h hx hZ hown (W hw 1 rfl) (W hw 2 rfl) (W hw 3 rfl) e39 (g := (mkF m 93 #[(sI v0), (sI v1), (sI v2), (sI v3), (sI 1), (sI c0), (sI c1), (sI c2), (sR b32), .unset] [])) rfl (hb hby at_93) (by decide) (by decide)
   obtain ⟨b47, g47⟩ : ∃ z, z = h39.size := ⟨_, rfl⟩
   rw [← g47] at A47 D47 st47
   have gt_b47 : n0 ≤ b47 := Nat.le_trans Z44 (Nat.le_of_eq g47.symm)
   have O49 := O40.ext E47
   have Ks50 := Nat.le_trans Ks43 E47.1
   have Z51 := Nat.le_trans Z44 E47.1
   have F47_value : Fld Z h47 b47 "java/lang/String" "value" "[B" .null := D47 (Or.inr (W hw 16 rfl)) (ty := (.array .byte)) (by decide)
   have F47_coder : Fld Z h47 b47 "java/lang/String" "coder" "B" (.int 0) := D47 (Or.inr (W hw 17 rfl)) (ty := .byte) (by decide)
   refine o_st (G' := T47.setTop (mkF m 96 #[(sI v0), (sI v1), (sI v2), (sI v3), (sI 1), (sI c0), (sI c1), (sI c2), (sR b32), .unset] [(.ref b47)])) st47 ?_
   obtain ⟨_, X47h, N47h⟩ := o_hide X47 N39h
   refine o_dup X47h hx 97 (hb hby at_96) rfl ?_
   refine o_aload X47h hx 99 (hb hby at_97) rfl rfl ?_
   have f52 := (V45.ext E47)
   obtain ⟨_, _, ⟨T53, Lx53, kc53, nc53⟩, -, X53, ⟨Lc53, hQ53, lq53, yq53, zq53⟩, st53⟩ := X47h.specialBack hx (y := y29) rfl hown (mvT hZ (W hw 4 rfl)) (mvT hZ (W hw 5 rfl)) (mvT hZ (W hw 6 rfl)) (by decide) (backOf (W := 1) (o_rm1n1U l Z a0 hw [] cs sf GG b47 b32 k32 c0 h47 n0 Z51 A47 F47_value F47_coder gt_b47 O49 f52 (hC0 : o_C c0) (hc93_46 : (255 : Int32) < c0)) hZ (W hw 6 rfl) (W hw 3 rfl) (by decide) (by decide)) (g := (mkF m 99 #[(sI v0), (sI v1), (sI v2), (sI v3), (sI 1), (sI c0), (sI c1), (sI c2), (sR b32), .unset] [(.ref b32), (.ref b47), (.ref b47)])) rfl (by rw [hml]; rfl) (Steps.refl _) (a := b47) (argsL := [(.ref b32)]) (rest := [(.ref b47)]) (lenOf o_pd21 rfl) rfl (o_wl rfl) (hb hby at_99) (fun _ _ => ⟨rfl, e47, (by decide : 2 + 2 ≤ _), (by decide : 5 + 3 ≤ _)⟩)
   dsimp only [Pt.U, Pt.locs, Pt.cells, Pt.slots] at X53 lq53 yq53 zq53 st53 hQ53
   subst lq53 yq53 zq53
   obtain ⟨bb_53, kb_53, rfl, Nq53, Kp53, G53_0, G53_1, G53_2, G53_3, G53_4⟩ := hQ53
   have N53 := Fr.app N47h Nq53
   have O56 := O49.keep Kp53 (allS gt_b47 all0)
   have Ks57 := Nat.le_trans Ks50 Kp53.1
   have Z58 := Nat.le_trans Z51 Kp53.1
   refine o_st (G' := T53.setTop (mkF m 102 #[(sI v0), (sI v1), (sI v2), (sI v3), (sI 1), (sI c0), (sI c1), (sI c2), (sR b32), .unset] [(.ref b47)])) (fun t k => st53.trans k) ?_
   obtain ⟨_, X53h, N53h⟩ := o_hide X53 N53
   obtain ⟨_, _, ⟨T59, Lx59, kc59, nc59⟩, -, X59, ⟨Lc59, hQ59, lq59, yq59, zq59⟩, st59⟩ := Jvm.LawKit.callS X53h hx (y := y30) hown (mvT hZ (W hw 22 rfl)) (mvT hZ (W hw 23 rfl)) (mvT hZ (W hw 24 rfl)) (mvT hZ (W hw 25 rfl)) (by decide) (backOf (W := 0) (o_rm4n1U l Z a0 hw [] cs sf GG b47 bb_53 kb_53 c0 T53.heap n0 Z58 G53_0 G53_2 G53_3 G53_4 O56 (hC0 : o_C c0) (hc93_46 : (255 : Int32) < c0)) hZ (W hw 25 rfl) (W hw 24 rfl) (by decide) (by decide)) (g := (mkF m 102 #[(sI v0), (sI v1), (sI v2), (sI v3), (sI 1), (sI c0), (sI c1), (sI c2), (sR b32), .unset] [(.ref b47)])) rfl (by rw [hml]; rfl) (argsL := [(.ref b47)]) (rest := []) (lenOf o_pd22 rfl) rfl (o_wl rfl) (hb hby at_102) (fun _ _ => ⟨rfl, rfl, (by decide : 4 + 4 ≤ _), (by decide : 8 + 8 ≤ _)⟩)
   dsimp only [Pt.U, Pt.locs, Pt.cells, Pt.slots] at X59 lq59 yq59 zq59 st59 hQ59
   subst lq59 yq59 zq59
   obtain ⟨so_59, b2_59, k2_59, rfl, Nq59, Kp59, G59_0, G59_1, G59_2, G59_3, G59_4, G59_5⟩ := hQ59
   have N59 := Fr.app N53h Nq59
   have O67 := O56.keep Kp59 all0
   have Ks68 := Nat.le_trans Ks57 Kp59.1
   have Z69 := Nat.le_trans Z58 Kp59.1
   refine o_st (G' := T59.setTop (mkF m 105 #[(sI v0), (sI v1), (sI v2), (sI v3), (sI 1), (sI c0), (sI c1), (sI c2), (sR b32), .unset] [(.ref so_59)])) st59 ?_
   obtain ⟨_, X59h, N59h⟩ := o_hide X59 N59
   refine o_astore X59h hx 107 #[(sI v0), (sI v1), (sI v2), (sI v3), (sI 1), (sI c0), (sI c1), (sI c2), (sR b32), (sR so_59)] (hb hby at_105) rfl rfl ?_
   refine o_aload X59h hx 109 (hb hby at_107) rfl rfl ?_
   obtain ⟨cq70, kq70, q70a, q70b, q70c⟩ := isOf hZ rfl G59_2
   obtain ⟨_, _, ⟨T70, Lx70, kc70, nc70⟩, -, X70, ⟨Lc70, hQ70, lq70, yq70, zq70⟩, st70⟩ := X59h.virtualBack hx (y := y23) (z := y23) hown (mvT hZ (W hw 46 rfl)) (mvT hZ (W hw 47 rfl)) (notFace_of_selects (args := #[]) (mvT hZ (W hw 49 rfl))) (mvT hZ (W hw 49 rfl)) (mvT hZ (W hw 48 rfl)) (by decide) (backOf (W := 0) (o_rm9n1U l Z a0 hw [] cs sf GG so_59 b2_59 k2_59 (o_lc c0) T59.heap n0 Z69 G59_2 G59_3 G59_4 G59_5 O67) hZ (W hw 50 rfl) (W hw 3 rfl) (by decide) (by decide)) q70a q70c (g := (mkF m 109 #[(sI v0), (sI v1), (sI v2), (sI v3), (sI 1), (sI c0), (sI c1), (sI c2), (sR b32), (sR so_59)] [(.ref so_59)])) rfl (by rw [hml]; rfl) (Steps.refl _) (argsL := []) (rest := []) (lenOf o_pd23 rfl) rfl (o_wl rfl) (hb hby at_109) (fun _ _ => ⟨rfl, rfl, (by decide : 8 + 0 ≤ _), (by decide : 16 + 0 ≤ _)⟩)
   dsimp only [Pt.U, Pt.locs, Pt.cells, Pt.slots] at X70 lq70 yq70 zq70 st70 hQ70
   subst lq70 yq70 zq70
   obtain ⟨rfl, Nq70, eh70⟩ := hQ70
   have N70 := Fr.app N59h Nq70
   refine o_st (G' := T70.setTop (mkF m 112 #[(sI v0), (sI v1), (sI v2), (sI v3), (sI 1), (sI c0), (sI c1), (sI c2), (sR b32), (sR so_59)] [(.int 1)])) (fun t k => st70.trans k) ?_
   obtain ⟨_, X70h, N70h⟩ := o_hide X70 N70
   refine o_iload X70h hx 114 (hb hby at_112) rfl ?_
   refine o_icmpYes X70h hx 119 (hb hby at_114) (teq (rfl : (1 : Int32) = (1 : Int32))).1 ?_
   refine o_iload X70h hx 121 (hb hby at_119) rfl ?_
   refine o_iconst X70h hx 122 1 (hb hby at_121) rfl ?_
   refine o_icmpNo X70h hx 125 (hb hby at_122) (flt (by decide : ¬ ((1 : Int32) < (1 : Int32)))).1 ?_
   refine o_aload X70h hx 127 (hb hby at_125) rfl rfl ?_
   refine o_iconst X70h hx 128 0 (hb hby at_127) rfl ?_
   obtain ⟨cq71, kq71, q71a, q71b, q71c⟩ := isOf hZ eh70 G59_2
   obtain ⟨_, _, ⟨T71, Lx71, kc71, nc71⟩, -, X71, ⟨Lc71, hQ71, lq71, yq71, zq71⟩, st71⟩ := X70h.virtualBack hx (y := y24) (z := y24) hown (mvT hZ (W hw 69 rfl)) (mvT hZ (W hw 70 rfl)) (notFace_of_selects (args := #[]) (mvT hZ (W hw 72 rfl))) (mvT hZ (W hw 72 rfl)) (mvT hZ (W hw 71 rfl)) (by decide) (backOf (W := 0) (o_rm15n1i0U l Z a0 hw [] cs sf GG so_59 b2_59 k2_59 (o_lc c0) T59.heap n0 Z69 G59_2 G59_3 G59_4 G59_5 O67 (o_lcC hC0 : o_C (o_lc c0))) hZ (W hw 73 rfl) (W hw 3 rfl) (by decide) (by decide)) q71a q71c (g := (mkF m 128 #[(sI v0), (sI v1), (sI v2), (sI v3), (sI 1), (sI c0), (sI c1), (sI c2), (sR b32), (sR so_59)] [(.int 0), (.ref so_59)])) rfl (by rw [hml]; rfl) (Steps.refl _) (argsL := [(.int 0)]) (rest := []) (lenOf o_pd24 rfl) rfl (o_wl rfl) (hb hby at_128) (fun _ _ => ⟨rfl, eh70, (by decide : 8 + 0 ≤ _), (by decide : 16 + 0 ≤ _)⟩)
   dsimp only [Pt.U, Pt.locs, Pt.cells, Pt.slots] at X71 lq71 yq71 zq71 st71 hQ71
   subst lq71 yq71 zq71
   obtain ⟨rfl, Nq71, eh71⟩ := hQ71
   have N71 := Fr.app N70h Nq71
   refine o_st (G' := T71.setTop (mkF m 131 #[(sI v0), (sI v1), (sI v2), (sI v3), (sI 1), (sI c0), (sI c1), (sI c2), (sR b32), (sR so_59)] [(.int (o_lc c0))])) (fun t k => st71.trans k) ?_
   obtain ⟨_, X71h, N71h⟩ := o_hide X71 N71
   refine o_iload X71h hx 133 (hb hby at_131) rfl ?_
   obtain ⟨_, _, ⟨T72, Lx72, kc72, nc72⟩, -, X72, ⟨Lc72, hQ72, lq72, yq72, zq72⟩, st72⟩ := Jvm.LawKit.callS X71h hx (y := y1) hown (mvT hZ (W hw 85 rfl)) (mvT hZ (W hw 86 rfl)) (mvT hZ (W hw 87 rfl)) (mvT hZ (W hw 88 rfl)) (by decide) (backOf (W := 1) (o_rm19 l Z a0 hw [] c0 T59.heap n0 Z69 (hC0 : o_C c0)) hZ (W hw 88 rfl) (W hw 87 rfl) (by decide) (by decide)) (g := (mkF m 133 #[(sI v0), (sI v1), (sI v2), (sI v3), (sI 1), (sI c0), (sI c1), (sI c2), (sR b32), (sR so_59)] [(.int c0), (.int (o_lc c0))])) rfl (by rw [hml]; rfl) (argsL := [(.int c0)]) (rest := [(.int (o_lc c0))]) (lenOf o_pd25 rfl) rfl (o_wl rfl) (hb hby at_133) (fun _ _ => ⟨rfl, eh71, (by decide : 8 + 0 ≤ _), (by decide : 16 + 0 ≤ _)⟩)
   dsimp only [Pt.U, Pt.locs, Pt.cells, Pt.slots] at X72 lq72 yq72 zq72 st72 hQ72
   subst lq72 yq72 zq72
   obtain ⟨rfl, Nq72, eh72⟩ := hQ72
   have N72 := Fr.app N71h Nq72
   refine o_st (G' := T72.setTop (mkF m 136 #[(sI v0), (sI v1), (sI v2), (sI v3), (sI 1), (sI c0), (sI c1), (sI c2), (sR b32), (sR so_59)] [(.int (o_lc c0)), (.int (o_lc c0))])) st72 ?_
   obtain ⟨_, X72h, N72h⟩ := o_hide X72 N72
   refine o_icmpYes X72h hx 141 (hb hby at_136) (teq (rfl : (o_lc c0) = (o_lc c0))).1 ?_
   refine o_iload X72h hx 143 (hb hby at_141) rfl ?_
   refine o_iconst X72h hx 144 2 (hb hby at_143) rfl ?_
   refine o_icmpYes X72h hx 163 (hb hby at_144) (tlt (by decide : (1 : Int32) < (2 : Int32))).1 ?_
   refine o_iload X72h hx 165 (hb hby at_163) rfl ?_
   refine o_iconst X72h hx 166 3 (hb hby at_165) rfl ?_
   refine o_icmpYes X72h hx 185 (hb hby at_166) (tlt (by decide : (1 : Int32) < (3 : Int32))).1 ?_
   refine o_iconst X72h hx 186 1 (hb hby at_185) rfl ?_
   exact o_retNW (t := .boolean) (Q := o_Q0 Z cs sf GG v0 v1 v2 v3 h0 n0) X72h hS0 Ks68 hx hrt (by simp) (hb hby at_186) hlk eh72 ⟨rfl, N72h⟩ (by decide) (by decide)
  ·obtain ⟨T73, h73, X73, e73, E73, A73, D73, -, st73⟩ := newO X39h hx hZ hown (W hw 1 rfl) (W hw 2 rfl) (W hw 3 rfl) e39 (g := (mkF m 93 #[(sI v0), (sI v1), (sI v2), (sI v3), (sI 1), (sI c0), (sI c1), (sI c2), (sR b32), .unset] [])) rfl (hb hby at_93) (by decide) (by decide)
   obtain ⟨b73, g73⟩ : ∃ z, z = h39.size := ⟨_, rfl⟩
   rw [← g73] at A73 D73 st73
   have gt_b73 : n0 ≤ b73 := Nat.le_trans Z44 (Nat.le_of_eq g73.symm)
   have O75 := O40.ext E73
   have Ks76 := Nat.le_trans Ks43 E73.1
   have Z77 := Nat.le_trans Z44 E73.1
   have F73_value : Fld Z h73 b73 "java/lang/String" "value" "[B" .null := D73 (Or.inr (W hw 16 rfl)) (ty := (.array .byte)) (by decide)
   have F73_coder : Fld Z h73 b73 "java/lang/String" "coder" "B" (.int 0) := D73 (Or.inr (W hw 17 rfl)) (ty := .byte) (by decide)
   refine o_st (G' := T73.setTop (mkF m 96 #[(sI v0), (sI v1), (sI v2), (sI v3), (sI 1), (sI c0), (sI c1), (sI c2), (sR b32), .unset] [(.ref b73)])) st73 ?_
   obtain ⟨_, X73h, N73h⟩ := o_hide X73 N39h
   refine o_dup X73h hx 97 (hb hby at_96) rfl ?_
   refine o_aload X73h hx 99 (hb hby at_97) rfl rfl ?_
   have f78 := (V45.ext E73)
   obtain ⟨_, _, ⟨T79, Lx79, kc79, nc79⟩, -, X79, ⟨Lc79, hQ79, lq79, yq79, zq79⟩, st79⟩ := X73h.specialBack hx (y := y29) rfl hown (mvT hZ (W hw 4 rfl)) (mvT hZ (W hw 5 rfl)) (mvT hZ (W hw 6 rfl)) (by decide) (backOf (W := 1) (o_rm1n1L l Z a0 hw [] cs sf GG b73 b32 k32 c0 h73 n0 Z77 A73 F73_value F73_coder gt_b73 O75 f78 (hC0 : o_C c0) (hc93_46 : ¬ (255 : Int32) < c0)) hZ (W hw 6 rfl) (W hw 3 rfl) (by decide) (by decide)) (g := (mkF m 99 #[(sI v0), (sI v1), (sI v2), (sI v3), (sI 1), (sI c0), (sI c1), (sI c2), (sR b32), .unset] [(.ref b32), (.ref b73), (.ref b73)])) rfl (by rw [hml]; rfl) (Steps.refl _) (a := b73) (argsL := [(.ref b32)]) (rest := [(.ref b73)]) (lenOf o_pd21 rfl) rfl (o_wl rfl) (hb hby at_99) (fun _ _ => ⟨rfl, e73, (by decide : 2 + 1 ≤ _), (by decide : 5 + 1 ≤ _)⟩)
   dsimp only [Pt.U, Pt.locs, Pt.cells, Pt.slots] at X79 lq79 yq79 zq79 st79 hQ79
   subst lq79 yq79 zq79
   obtain ⟨bb_79, kb_79, rfl, Nq79, Kp79, G79_0, G79_1, G79_2, G79_3, G79_4⟩ := hQ79
   have N79 := Fr.app N73h Nq79
   have O82 := O75.keep Kp79 (allS gt_b73 all0)
   have Ks83 := Nat.le_trans Ks76 Kp79.1
   have Z84 := Nat.le_trans Z77 Kp79.1
   refine o_st (G' := T79.setTop (mkF m 102 #[(sI v0), (sI v1), (sI v2), (sI v3), (sI 1), (sI c0), (sI c1), (sI c2), (sR b32), .unset] [(.ref b73)])) (fun t k => st79.trans k) ?_
   obtain ⟨_, X79h, N79h⟩ := o_hide X79 N79
   obtain ⟨_, _, ⟨T85, Lx85, kc85, nc85⟩, -, X85, ⟨Lc85, hQ85, lq85, yq85, zq85⟩, st85⟩ := Jvm.LawKit.callS X79h hx (y := y30) hown (mvT hZ (W hw 22 rfl)) (mvT hZ (W hw 23 rfl)) (mvT hZ (W hw 24 rfl)) (mvT hZ (W hw 25 rfl)) (by decide) (backOf (W := 0) (o_rm4n1L l Z a0 hw [] cs sf GG b73 bb_79 kb_79 c0 T79.heap n0 Z84 G79_0 G79_2 G79_3 G79_4 O82 (hC0 : o_C c0) (hc93_46 : ¬ (255 : Int32) < c0)) hZ (W hw 25 rfl) (W hw 24 rfl) (by decide) (by decide)) (g := (mkF m 102 #[(sI v0), (sI v1), (sI v2), (sI v3), (sI 1), (sI c0), (sI c1), (sI c2), (sR b32), .unset] [(.ref b73)])) rfl (by rw [hml]; rfl) (argsL := [(.ref b73)]) (rest := []) (lenOf o_pd22 rfl) rfl (o_wl rfl) (hb hby at_102) (fun _ _ => ⟨rfl, rfl, (by decide : 3 + 3 ≤ _), (by decide : 6 + 6 ≤ _)⟩)
   dsimp only [Pt.U, Pt.locs, Pt.cells, Pt.slots] at X85 lq85 yq85 zq85 st85 hQ85
   subst lq85 yq85 zq85
   obtain ⟨so_85, b2_85, k2_85, rfl, Nq85, Kp85, G85_0, G85_1, G85_2, G85_3, G85_4, G85_5⟩ := hQ85
   have N85 := Fr.app N79h Nq85
   have O93 := O82.keep Kp85 all0
   have Ks94 := Nat.le_trans Ks83 Kp85.1
   have Z95 := Nat.le_trans Z84 Kp85.1
   refine o_st (G' := T85.setTop (mkF m 105 #[(sI v0), (sI v1), (sI v2), (sI v3), (sI 1), (sI c0), (sI c1), (sI c2), (sR b32), .unset] [(.ref so_85)])) st85 ?_
   obtain ⟨_, X85h, N85h⟩ := o_hide X85 N85
   refine o_astore X85h hx 107 #[(sI v0), (sI v1), (sI v2), (sI v3), (sI 1), (sI c0), (sI c1), (sI c2), (sR b32), (sR so_85)] (hb hby at_105) rfl rfl ?_
   refine o_aload X85h hx 109 (hb hby at_107) rfl rfl ?_
   obtain ⟨cq96, kq96, q96a, q96b, q96c⟩ := isOf hZ rfl G85_2
   obtain ⟨_, _, ⟨T96, Lx96, kc96, nc96⟩, -, X96, ⟨Lc96, hQ96, lq96, yq96, zq96⟩, st96⟩ := X85h.virtualBack hx (y := y23) (z := y23) hown (mvT hZ (W hw 46 rfl)) (mvT hZ (W hw 47 rfl)) (notFace_of_selects (args := #[]) (mvT hZ (W hw 49 rfl))) (mvT hZ (W hw 49 rfl)) (mvT hZ (W hw 48 rfl)) (by decide) (backOf (W := 0) (o_rm9n1L l Z a0 hw [] cs sf GG so_85 b2_85 k2_85 (o_lc c0) T85.heap n0 Z95 G85_2 G85_3 G85_4 G85_5 O93) hZ (W hw 50 rfl) (W hw 3 rfl) (by decide) (by decide)) q96a q96c (g := (mkF m 109 #[(sI v0), (sI v1), (sI v2), (sI v3), (sI 1), (sI c0), (sI c1), (sI c2), (sR b32), (sR so_85)] [(.ref so_85)])) rfl (by rw [hml]; rfl) (Steps.refl _) (argsL := []) (rest := []) (lenOf o_pd23 rfl) rfl (o_wl rfl) (hb hby at_109) (fun _ _ => ⟨rfl, rfl, (by decide : 6 + 0 ≤ _), (by decide : 12 + 0 ≤ _)⟩)
   dsimp only [Pt.U, Pt.locs, Pt.cells, Pt.slots] at X96 lq96 yq96 zq96 st96 hQ96
   subst lq96 yq96 zq96
   obtain ⟨rfl, Nq96, eh96⟩ := hQ96
   have N96 := Fr.app N85h Nq96
   refine o_st (G' := T96.setTop (mkF m 112 #[(sI v0), (sI v1), (sI v2), (sI v3), (sI 1), (sI c0), (sI c1), (sI c2), (sR b32), (sR so_85)] [(.int 1)])) (fun t k => st96.trans k) ?_
   obtain ⟨_, X96h, N96h⟩ := o_hide X96 N96
   refine o_iload X96h hx 114 (hb hby at_112) rfl ?_
   refine o_icmpYes X96h hx 119 (hb hby at_114) (teq (rfl : (1 : Int32) = (1 : Int32))).1 ?_
   refine o_iload X96h hx 121 (hb hby at_119) rfl ?_
   refine o_iconst X96h hx 122 1 (hb hby at_121) rfl ?_
   refine o_icmpNo X96h hx 125 (hb hby at_122) (flt (by decide : ¬ ((1 : Int32) < (1 : Int32)))).1 ?_
   refine o_aload X96h hx 127 (hb hby at_125) rfl rfl ?_
   refine o_iconst X96h hx 128 0 (hb hby at_127) rfl ?_
   obtain ⟨cq97, kq97, q97a, q97b, q97c⟩ := isOf hZ eh96 G85_2
   obtain ⟨_, _, ⟨T97, Lx97, kc97, nc97⟩, -, X97, ⟨Lc97, hQ97, lq97, yq97, zq97⟩, st97⟩ := X96h.virtualBack hx (y := y24) (z := y24) hown (mvT hZ (W hw 69 rfl)) (mvT hZ (W hw 70 rfl)) (notFace_of_selects (args := #[]) (mvT hZ (W hw 72 rfl))) (mvT hZ (W hw 72 rfl)) (mvT hZ (W hw 71 rfl)) (by decide) (backOf (W := 0) (o_rm15n1i0L l Z a0 hw [] cs sf GG so_85 b2_85 k2_85 (o_lc c0) T85.heap n0 Z95 G85_2 G85_3 G85_4 G85_5 O93 (o_lcC hC0 : o_C (o_lc c0)) (o_lcL hC0 hc93_46 : ¬ (255 : Int32) < (o_lc c0))) hZ (W hw 73 rfl) (W hw 3 rfl) (by decide) (by decide)) q97a q97c (g := (mkF m 128 #[(sI v0), (sI v1), (sI v2), (sI v3), (sI 1), (sI c0), (sI c1), (sI c2), (sR b32), (sR so_85)] [(.int 0), (.ref so_85)])) rfl (by rw [hml]; rfl) (Steps.refl _) (argsL := [(.int 0)]) (rest := []) (lenOf o_pd24 rfl) rfl (o_wl rfl) (hb hby at_128) (fun _ _ => ⟨rfl, eh96, (by decide : 6 + 0 ≤ _), (by decide : 12 + 0 ≤ _)⟩)
   dsimp only [Pt.U, Pt.locs, Pt.cells, Pt.slots] at X97 lq97 yq97 zq97 st97 hQ97
   subst lq97 yq97 zq97
   obtain ⟨rfl, Nq97, eh97⟩ := hQ97
   have N97 := Fr.app N96h Nq97
   refine o_st (G' := T97.setTop (mkF m 131 #[(sI v0), (sI v1), (sI v2), (sI v3), (sI 1), (sI c0), (sI c1), (sI c2), (sR b32), (sR so_85)] [(.int (o_lc c0))])) (fun t k => st97.trans k) ?_
   obtain ⟨_, X97h, N97h⟩ := o_hide X97 N97
   refine o_iload X97h hx 133 (hb hby at_131) rfl ?_
   obtain ⟨_, _, ⟨T98, Lx98, kc98, nc98⟩, -, X98, ⟨Lc98, hQ98, lq98, yq98, zq98⟩, st98⟩ := Jvm.LawKit.callS X97h hx (y := y1) hown (mvT hZ (W hw 85 rfl)) (mvT hZ (W hw 86 rfl)) (mvT hZ (W hw 87 rfl)) (mvT hZ (W hw 88 rfl)) (by decide) (backOf (W := 1) (o_rm19 l Z a0 hw [] c0 T85.heap n0 Z95 (hC0 : o_C c0)) hZ (W hw 88 rfl) (W hw 87 rfl) (by decide) (by decide)) (g := (mkF m 133 #[(sI v0), (sI v1), (sI v2), (sI v3), (sI 1), (sI c0), (sI c1), (sI c2), (sR b32), (sR so_85)] [(.int c0), (.int (o_lc c0))])) rfl (by rw [hml]; rfl) (argsL := [(.int c0)]) (rest := [(.int (o_lc c0))]) (lenOf o_pd25 rfl) rfl (o_wl rfl) (hb hby at_133) (fun _ _ => ⟨rfl, eh97, (by decide : 6 + 0 ≤ _), (by decide : 12 + 0 ≤ _)⟩)
   dsimp only [Pt.U, Pt.locs, Pt.cells, Pt.slots] at X98 lq98 yq98 zq98 st98 hQ98
   subst lq98 yq98 zq98
   obtain ⟨rfl, Nq98, eh98⟩ := hQ98
   have N98 := Fr.app N97h Nq98
   refine o_st (G' := T98.setTop (mkF m 136 #[(sI v0), (sI v1), (sI v2), (sI v3), (sI 1), (sI c0), (sI c1), (sI c2), (sR b32), (sR so_85)] [(.int (o_lc c0)), (.int (o_lc c0))])) st98 ?_
   obtain ⟨_, X98h, N98h⟩ := o_hide X98 N98
   refine o_icmpYes X98h hx 141 (hb hby at_136) (teq (rfl : (o_lc c0) = (o_lc c0))).1 ?_
   refine o_iload X98h hx 143 (hb hby at_141) rfl ?_
   refine o_iconst X98h hx 144 2 (hb hby at_143) rfl ?_
   refine o_icmpYes X98h hx 163 (hb hby at_144) (tlt (by decide : (1 : Int32) < (2 : Int32))).1 ?_
   refine o_iload X98h hx 165 (hb hby at_163) rfl ?_
   refine o_iconst X98h hx 166 3 (hb hby at_165) rfl ?_
   refine o_icmpYes X98h hx 185 (hb hby at_166) (tlt (by decide : (1 : Int32) < (3 : Int32))).1 ?_
   refine o_iconst X98h hx 186 1 (hb hby at_185) rfl ?_
   exact o_retNW (t := .boolean) (Q := o_Q0 Z cs sf GG v0 v1 v2 v3 h0 n0) X98h hS0 Ks94 hx hrt (by simp) (hb hby at_186) hlk eh98 ⟨rfl, N98h⟩ (by decide) (by decide)
 ·rw [hk3]
  refine o_istore X0q hx 5 #[(sI v0), (sI v1), (sI v2), (sI v3), (sI 2), .unset, .unset, .unset, .unset, .unset] (hb hby at_3) rfl ?_
  refine o_iloadN X0q hx 6 (hb hby at_5) rfl ?_
  refine o_i2c X0q hx 7 (hb hby at_6) ?_
  have hC0 := o_i2cC v1
  generalize (v1.toUInt32.toUInt16.toUInt32.toInt32) = c0 at hC0 ⊢
  refine o_istore X0q hx 9 #[(sI v0), (sI v1), (sI v2), (sI v3), (sI 2), (sI c0), .unset, .unset, .unset, .unset] (hb hby at_7) rfl ?_
  refine o_iloadN X0q hx 10 (hb hby at_9) rfl ?_
  refine o_i2c X0q hx 11 (hb hby at_10) ?_
  have hC1 := o_i2cC v2
  generalize (v2.toUInt32.toUInt16.toUInt32.toInt32) = c1 at hC1 ⊢
  refine o_istore X0q hx 13 #[(sI v0), (sI v1), (sI v2), (sI v3), (sI 2), (sI c0), (sI c1), .unset, .unset, .unset] (hb hby at_11) rfl ?_
  refine o_iloadN X0q hx 14 (hb hby at_13) rfl ?_
  refine o_i2c X0q hx 15 (hb hby at_14) ?_
  have hC2 := o_i2cC v3
  generalize (v3.toUInt32.toUInt16.toUInt32.toInt32) = c2 at hC2 ⊢
  refine o_istore X0q hx 17 #[(sI v0), (sI v1), (sI v2), (sI v3), (sI 2), (sI c0), (sI c1), (sI c2), .unset, .unset] (hb hby at_15) rfl ?_
  refine o_iload X0q hx 19 (hb hby at_17) rfl ?_
  refine o_ifYes X0q hx 30 (hb hby at_19) (feq (by decide : ¬ ((2 : Int32) = (0 : Int32)))).2 ?_
  refine o_iload X0q hx 32 (hb hby at_30) rfl ?_
  refine o_iconst X0q hx 33 1 (hb hby at_32) rfl ?_
  refine o_icmpYes X0q hx 49 (hb hby at_33) (feq (by decide : ¬ ((2 : Int32) = (1 : Int32)))).2 ?_
  refine o_iload X0q hx 51 (hb hby at_49) rfl ?_
  refine o_iconst X0q hx 52 2 (hb hby at_51) rfl ?_
  refine o_icmpNo X0q hx 55 (hb hby at_52) (teq (rfl : (2 : Int32) = (2 : Int32))).2 ?_
  refine o_iconst X0q hx 56 2 (hb hby at_55) rfl ?_
  obtain ⟨T99, h99, k99, X99, e99, E99, A99, st99⟩ := newP X0q hx hZ (W hw 0 rfl) e0 (g := (mkF m 56 #[(sI v0), (sI v1), (sI v2), (sI v3), (sI 2), (sI c0), (sI c1), (sI c2), .unset, .unset] [(.int 2)])) rfl (hb hby at_56) rfl (by decide) (cap := 2) (by decide) (by decide) (by decide) (by decide)
  obtain ⟨b99, g99⟩ : ∃ z, z = h0.size := ⟨_, rfl⟩
  rw [← g99] at A99 st99
  have gt_b99 : n0 ≤ b99 := Nat.le_trans Z0 (Nat.le_of_eq g99.symm)
  have V99 : Arv Z h99 b99 k99 .char 2 [(.int 0), (.int 0)] (.int 0) := (Arv.new A99 (by decide)).pad (pad_rep [] (.int 0) 2)
  have O101 := O0.ext E99
  have Ks104 := Nat.le_trans (Nat.zero_le _) E99.1
  have Z105 := Nat.le_trans Z0 E99.1
  refine o_st (G' := T99.setTop (mkF m 58 #[(sI v0), (sI v1), (sI v2), (sI v3), (sI 2), (sI c0), (sI c1), (sI c2), .unset, .unset] [(.ref b99)])) st99 ?_
  obtain ⟨_, X99h, N99h⟩ := o_hide X99 N0
  refine o_dup X99h hx 59 (hb hby at_58) rfl ?_
  refine o_iconst X99h hx 60 0 (hb hby at_59) rfl ?_
  refine o_iload X99h hx 62 (hb hby at_60) rfl ?_
  obtain ⟨cl106, Ar106, qv106, S106, M106, H106, G106⟩ := id V99
  have hin106 := inb_of (j := (0 : Int32)) S106 ⟨by decide, by decide⟩
  obtain ⟨T106, h106, X106, e106, W106, st106⟩ := stC X99h hx hZ e99 Ar106 (j := (0 : Int32)) hin106 (g := (mkF m 62 #[(sI v0), (sI v1), (sI v2), (sI v3), (sI 2), (sI c0), (sI c1), (sI c2), .unset, .unset] [(.int c0), (.int 0), (.ref b99), (.ref b99)])) rfl rfl (hb hby at_62)
  have V106 : Arv Z h106 b99 k99 .char 2 [(.int (nar .char c0)), (.int 0)] (.int 0) := Arv.set Ar106 qv106 S106 M106 H106 G106 (fits_nar_char _) W106 0 rfl (Nat.le_of_ble_eq_true rfl)
  have N106 := Fr.snoc X106 N99h gt_b99
  have O107 := O101.wr W106 gt_b99
  have Ks110 := Nat.le_trans Ks104 (Nat.le_of_eq W106.size.symm)
  have Z111 := Nat.le_trans Z105 (Nat.le_of_eq W106.size.symm)
  refine o_st (G' := T106.setTop (mkF m 63 #[(sI v0), (sI v1), (sI v2), (sI v3), (sI 2), (sI c0), (sI c1), (sI c2), .unset, .unset] [(.ref b99)])) st106 ?_
  obtain ⟨_, X106h, N106h⟩ := o_hide X106 N106
  refine o_dup X106h hx 64 (hb hby at_63) rfl ?_
  refine o_iconst X106h hx 65 1 (hb hby at_64) rfl ?_
  refine o_iload X106h hx 67 (hb hby at_65) rfl ?_
  obtain ⟨cl112, Ar112, qv112, S112, M112, H112, G112⟩ := id V106
  have hin112 := inb_of (j := (1 : Int32)) S112 ⟨by decide, by decide⟩
  obtain ⟨T112, h112, X112, e112, W112, st112⟩ := stC X106h hx hZ e106 Ar112 (j := (1 : Int32)) hin112 (g := (mkF m 67 #[(sI v0), (sI v1), (sI v2), (sI v3), (sI 2), (sI c0), (sI c1), (sI c2), .unset, .unset] [(.int c1), (.int 1), (.ref b99), (.ref b99)])) rfl rfl (hb hby at_67)
  have V112 : Arv Z h112 b99 k99 .char 2 [(.int (nar .char c0)), (.int (nar .char c1))] (.int 0) := Arv.set Ar112 qv112 S112 M112 H112 G112 (fits_nar_char _) W112 1 rfl (Nat.le_of_ble_eq_true rfl)
  have N112 := Fr.snoc X112 N106h gt_b99
  have O113 := O107.wr W112 gt_b99
  have Ks116 := Nat.le_trans Ks110 (Nat.le_of_eq W112.size.symm)
  have Z117 := Nat.le_trans Z111 (Nat.le_of_eq W112.size.symm)
  refine o_st (G' := T112.setTop (mkF m 68 #[(sI v0), (sI v1), (sI v2), (sI v3), (sI 2), (sI c0), (sI c1), (sI c2), .unset, .unset] [(.ref b99)])) st112 ?_
  obtain ⟨_, X112h, N112h⟩ := o_hide X112 N112
  refine o_astore X112h hx 70 #[(sI v0), (sI v1), (sI v2), (sI v3), (sI 2), (sI c0), (sI c1), (sI c2), (sR b99), .unset] (hb hby at_68) rfl rfl ?_
  refine o_goto X112h hx 93 (hb hby at_70) ?_
  have V118 := V112
  rw [o_narC hC0, o_narC hC1] at V118
  by_cases hc93_119 : (255 : Int32) < c0 ∨ (255 : Int32) < c1
  ·obtain ⟨T120, h120, X120, e120, E120, A120, D120, -, st120⟩ := newO X112h hx hZ hown (W hw 1 rfl) (W hw 2 rfl) (W hw 3 rfl) e112 (g := (mkF m 93 #[(sI v0), (sI v1), (sI v2), (sI v3), (sI 2), (sI c0), (sI c1), (sI c2), (sR b99), .unset] [])) rfl (hb hby at_93) (by decide) (by decide)
   obtain ⟨b120, g120⟩ : ∃ z, z = h112.size := ⟨_, rfl⟩
   rw [← g120] at A120 D120 st120
   have gt_b120 : n0 ≤ b120 := Nat.le_trans Z117 (Nat.le_of_eq g120.symm)
   have O122 := O113.ext E120
   have Ks123 := Nat.le_trans Ks116 E120.1
   have Z124 := Nat.le_trans Z117 E120.1
   have F120_value : Fld Z h120 b120 "java/lang/String" "value" "[B" .null := D120 (Or.inr (W hw 16 rfl)) (ty := (.array .byte)) (by decide)
   have F120_coder : Fld Z h120 b120 "java/lang/String" "coder" "B" (.int 0) := D120 (Or.inr (W hw 17 rfl)) (ty := .byte) (by decide)
   refine o_st (G' := T120.setTop (mkF m 96 #[(sI v0), (sI v1), (sI v2), (sI v3), (sI 2), (sI c0), (sI c1), (sI c2), (sR b99), .unset] [(.ref b120)])) st120 ?_
   obtain ⟨_, X120h, N120h⟩ := o_hide X120 N112h
   refine o_dup X120h hx 97 (hb hby at_96) rfl ?_
   refine o_aload X120h hx 99 (hb hby at_97) rfl rfl ?_
   have f125 := (V118.ext E120)
   obtain ⟨_, _, ⟨T126, Lx126, kc126, nc126⟩, -, X126, ⟨Lc126, hQ126, lq126, yq126, zq126⟩, st126⟩ := X120h.specialBack hx (y := y29) rfl hown (mvT hZ (W hw 4 rfl)) (mvT hZ (W hw 5 rfl)) (mvT hZ (W hw 6 rfl)) (by decide) (backOf (W := 1) (o_rm1n2U l Z a0 hw [] cs sf GG b120 b99 k99 c0 c1 h120 n0 Z124 A120 F120_value F120_coder gt_b120 O122 f125 (hC0 : o_C c0) (hC1 : o_C c1) (hc93_119 : (255 : Int32) < c0 ∨ (255 : Int32) < c1)) hZ (W hw 6 rfl) (W hw 3 rfl) (by decide) (by decide)) (g := (mkF m 99 #[(sI v0), (sI v1), (sI v2), (sI v3), (sI 2), (sI c0), (sI c1), (sI c2), (sR b99), .unset] [(.ref b99), (.ref b120), (.ref b120)])) rfl (by rw [hml]; rfl) (Steps.refl _) (a := b120) (argsL := [(.ref b99)]) (rest := [(.ref b120)]) (lenOf o_pd21 rfl) rfl (o_wl rfl) (hb hby at_99) (fun _ _ => ⟨rfl, e120, (by decide : 2 + 2 ≤ _), (by decide : 6 + 6 ≤ _)⟩)
   dsimp only [Pt.U, Pt.locs, Pt.cells, Pt.slots] at X126 lq126 yq126 zq126 st126 hQ126
   subst lq126 yq126 zq126
   obtain ⟨bb_126, kb_126, rfl, Nq126, Kp126, G126_0, G126_1, G126_2, G126_3, G126_4⟩ := hQ126
   have N126 := Fr.app N120h Nq126
   have O129 := O122.keep Kp126 (allS gt_b120 all0)
   have Ks130 := Nat.le_trans Ks123 Kp126.1
   have Z131 := Nat.le_trans Z124 Kp126.1
   refine o_st (G' := T126.setTop (mkF m 102 #[(sI v0), (sI v1), (sI v2), (sI v3), (sI 2), (sI c0), (sI c1), (sI c2), (sR b99), .unset] [(.ref b120)])) (fun t k => st126.trans k) ?_
   obtain ⟨_, X126h, N126h⟩ := o_hide X126 N126
   obtain ⟨_, _, ⟨T132, Lx132, kc132, nc132⟩, -, X132, ⟨Lc132, hQ132, lq132, yq132, zq132⟩, st132⟩ := Jvm.LawKit.callS X126h hx (y := y30) hown (mvT hZ (W hw 22 rfl)) (mvT hZ (W hw 23 rfl)) (mvT hZ (W hw 24 rfl)) (mvT hZ (W hw 25 rfl)) (by decide) (backOf (W := 0) (o_rm4n2U l Z a0 hw [] cs sf GG b120 bb_126 kb_126 c0 c1 T126.heap n0 Z131 G126_0 G126_2 G126_3 G126_4 O129 (hC0 : o_C c0) (hC1 : o_C c1) (hc93_119 : (255 : Int32) < c0 ∨ (255 : Int32) < c1)) hZ (W hw 25 rfl) (W hw 24 rfl) (by decide) (by decide)) (g := (mkF m 102 #[(sI v0), (sI v1), (sI v2), (sI v3), (sI 2), (sI c0), (sI c1), (sI c2), (sR b99), .unset] [(.ref b120)])) rfl (by rw [hml]; rfl) (argsL := [(.ref b120)]) (rest := []) (lenOf o_pd22 rfl) rfl (o_wl rfl) (hb hby at_102) (fun _ _ => ⟨rfl, rfl, (by decide : 4 + 4 ≤ _), (by decide : 12 + 12 ≤ _)⟩)
   dsimp only [Pt.U, Pt.locs, Pt.cells, Pt.slots] at X132 lq132 yq132 zq132 st132 hQ132
   subst lq132 yq132 zq132
   obtain ⟨so_132, b2_132, k2_132, rfl, Nq132, Kp132, G132_0, G132_1, G132_2, G132_3, G132_4, G132_5⟩ := hQ132
   have N132 := Fr.app N126h Nq132
   have O140 := O129.keep Kp132 all0
   have Ks141 := Nat.le_trans Ks130 Kp132.1
   have Z142 := Nat.le_trans Z131 Kp132.1
   refine o_st (G' := T132.setTop (mkF m 105 #[(sI v0), (sI v1), (sI v2), (sI v3), (sI 2), (sI c0), (sI c1), (sI c2), (sR b99), .unset] [(.ref so_132)])) st132 ?_
   obtain ⟨_, X132h, N132h⟩ := o_hide X132 N132
   refine o_astore X132h hx 107 #[(sI v0), (sI v1), (sI v2), (sI v3), (sI 2), (sI c0), (sI c1), (sI c2), (sR b99), (sR so_132)] (hb hby at_105) rfl rfl ?_
   refine o_aload X132h hx 109 (hb hby at_107) rfl rfl ?_
   obtain ⟨cq143, kq143, q143a, q143b, q143c⟩ := isOf hZ rfl G132_2
   obtain ⟨_, _, ⟨T143, Lx143, kc143, nc143⟩, -, X143, ⟨Lc143, hQ143, lq143, yq143, zq143⟩, st143⟩ := X132h.virtualBack hx (y := y23) (z := y23) hown (mvT hZ (W hw 46 rfl)) (mvT hZ (W hw 47 rfl)) (notFace_of_selects (args := #[]) (mvT hZ (W hw 49 rfl))) (mvT hZ (W hw 49 rfl)) (mvT hZ (W hw 48 rfl)) (by decide) (backOf (W := 0) (o_rm9n2U l Z a0 hw [] cs sf GG so_132 b2_132 k2_132 (o_lc c0) (o_lc c1) T132.heap n0 Z142 G132_2 G132_3 G132_4 G132_5 O140) hZ (W hw 50 rfl) (W hw 3 rfl) (by decide) (by decide)) q143a q143c (g := (mkF m 109 #[(sI v0), (sI v1), (sI v2), (sI v3), (sI 2), (sI c0), (sI c1), (sI c2), (sR b99), (sR so_132)] [(.ref so_132)])) rfl (by rw [hml]; rfl) (Steps.refl _) (argsL := []) (rest := []) (lenOf o_pd23 rfl) rfl (o_wl rfl) (hb hby at_109) (fun _ _ => ⟨rfl, rfl, (by decide : 8 + 0 ≤ _), (by decide : 24 + 0 ≤ _)⟩)
   dsimp only [Pt.U, Pt.locs, Pt.cells, Pt.slots] at X143 lq143 yq143 zq143 st143 hQ143
   subst lq143 yq143 zq143
   obtain ⟨rfl, Nq143, eh143⟩ := hQ143
   have N143 := Fr.app N132h Nq143
   refine o_st (G' := T143.setTop (mkF m 112 #[(sI v0), (sI v1), (sI v2), (sI v3), (sI 2), (sI c0), (sI c1), (sI c2), (sR b99), (sR so_132)] [(.int 2)])) (fun t k => st143.trans k) ?_
   obtain ⟨_, X143h, N143h⟩ := o_hide X143 N143
   refine o_iload X143h hx 114 (hb hby at_112) rfl ?_
   refine o_icmpYes X143h hx 119 (hb hby at_114) (teq (rfl : (2 : Int32) = (2 : Int32))).1 ?_
   refine o_iload X143h hx 121 (hb hby at_119) rfl ?_
   refine o_iconst X143h hx 122 1 (hb hby at_121) rfl ?_
   refine o_icmpNo X143h hx 125 (hb hby at_122) (flt (by decide : ¬ ((2 : Int32) < (1 : Int32)))).1 ?_
   refine o_aload X143h hx 127 (hb hby at_125) rfl rfl ?_
   refine o_iconst X143h hx 128 0 (hb hby at_127) rfl ?_
   obtain ⟨cq144, kq144, q144a, q144b, q144c⟩ := isOf hZ eh143 G132_2
   obtain ⟨_, _, ⟨T144, Lx144, kc144, nc144⟩, -, X144, ⟨Lc144, hQ144, lq144, yq144, zq144⟩, st144⟩ := X143h.virtualBack hx (y := y24) (z := y24) hown (mvT hZ (W hw 69 rfl)) (mvT hZ (W hw 70 rfl)) (notFace_of_selects (args := #[]) (mvT hZ (W hw 72 rfl))) (mvT hZ (W hw 72 rfl)) (mvT hZ (W hw 71 rfl)) (by decide) (backOf (W := 0) (o_rm15n2i0U l Z a0 hw [] cs sf GG so_132 b2_132 k2_132 (o_lc c0) (o_lc c1) T132.heap n0 Z142 G132_2 G132_3 G132_4 G132_5 O140 (o_lcC hC0 : o_C (o_lc c0))) hZ (W hw 73 rfl) (W hw 3 rfl) (by decide) (by decide)) q144a q144c (g := (mkF m 128 #[(sI v0), (sI v1), (sI v2), (sI v3), (sI 2), (sI c0), (sI c1), (sI c2), (sR b99), (sR so_132)] [(.int 0), (.ref so_132)])) rfl (by rw [hml]; rfl) (Steps.refl _) (argsL := [(.int 0)]) (rest := []) (lenOf o_pd24 rfl) rfl (o_wl rfl) (hb hby at_128) (fun _ _ => ⟨rfl, eh143, (by decide : 8 + 0 ≤ _), (by decide : 24 + 0 ≤ _)⟩)
   dsimp only [Pt.U, Pt.locs, Pt.cells, Pt.slots] at X144 lq144 yq144 zq144 st144 hQ144
   subst lq144 yq144 zq144
   obtain ⟨rfl, Nq144, eh144⟩ := hQ144
   have N144 := Fr.app N143h Nq144
   refine o_st (G' := T144.setTop (mkF m 131 #[(sI v0), (sI v1), (sI v2), (sI v3), (sI 2), (sI c0), (sI c1), (sI c2), (sR b99), (sR so_132)] [(.int (o_lc c0))])) (fun t k => st144.trans k) ?_
   obtain ⟨_, X144h, N144h⟩ := o_hide X144 N144
   refine o_iload X144h hx 133 (hb hby at_131) rfl ?_
   obtain ⟨_, _, ⟨T145, Lx145, kc145, nc145⟩, -, X145, ⟨Lc145, hQ145, lq145, yq145, zq145⟩, st145⟩ := Jvm.LawKit.callS X144h hx (y := y1) hown (mvT hZ (W hw 85 rfl)) (mvT hZ (W hw 86 rfl)) (mvT hZ (W hw 87 rfl)) (mvT hZ (W hw 88 rfl)) (by decide) (backOf (W := 1) (o_rm19 l Z a0 hw [] c0 T132.heap n0 Z142 (hC0 : o_C c0)) hZ (W hw 88 rfl) (W hw 87 rfl) (by decide) (by decide)) (g := (mkF m 133 #[(sI v0), (sI v1), (sI v2), (sI v3), (sI 2), (sI c0), (sI c1), (sI c2), (sR b99), (sR so_132)] [(.int c0), (.int (o_lc c0))])) rfl (by rw [hml]; rfl) (argsL := [(.int c0)]) (rest := [(.int (o_lc c0))]) (lenOf o_pd25 rfl) rfl (o_wl rfl) (hb hby at_133) (fun _ _ => ⟨rfl, eh144, (by decide : 8 + 0 ≤ _), (by decide : 24 + 0 ≤ _)⟩)
   dsimp only [Pt.U, Pt.locs, Pt.cells, Pt.slots] at X145 lq145 yq145 zq145 st145 hQ145
   subst lq145 yq145 zq145
   obtain ⟨rfl, Nq145, eh145⟩ := hQ145
   have N145 := Fr.app N144h Nq145
   refine o_st (G' := T145.setTop (mkF m 136 #[(sI v0), (sI v1), (sI v2), (sI v3), (sI 2), (sI c0), (sI c1), (sI c2), (sR b99), (sR so_132)] [(.int (o_lc c0)), (.int (o_lc c0))])) st145 ?_
   obtain ⟨_, X145h, N145h⟩ := o_hide X145 N145
   refine o_icmpYes X145h hx 141 (hb hby at_136) (teq (rfl : (o_lc c0) = (o_lc c0))).1 ?_
   refine o_iload X145h hx 143 (hb hby at_141) rfl ?_
   refine o_iconst X145h hx 144 2 (hb hby at_143) rfl ?_
   refine o_icmpNo X145h hx 147 (hb hby at_144) (flt (by decide : ¬ ((2 : Int32) < (2 : Int32)))).1 ?_
   refine o_aload X145h hx 149 (hb hby at_147) rfl rfl ?_
   refine o_iconst X145h hx 150 1 (hb hby at_149) rfl ?_
   obtain ⟨cq146, kq146, q146a, q146b, q146c⟩ := isOf hZ eh145 G132_2
   obtain ⟨_, _, ⟨T146, Lx146, kc146, nc146⟩, -, X146, ⟨Lc146, hQ146, lq146, yq146, zq146⟩, st146⟩ := X145h.virtualBack hx (y := y24) (z := y24) hown (mvT hZ (W hw 69 rfl)) (mvT hZ (W hw 70 rfl)) (notFace_of_selects (args := #[]) (mvT hZ (W hw 72 rfl))) (mvT hZ (W hw 72 rfl)) (mvT hZ (W hw 71 rfl)) (by decide) (backOf (W := 0) (o_rm15n2i1U l Z a0 hw [] cs sf GG so_132 b2_132 k2_132 (o_lc c0) (o_lc c1) T132.heap n0 Z142 G132_2 G132_3 G132_4 G132_5 O140 (o_lcC hC1 : o_C (o_lc c1))) hZ (W hw 73 rfl) (W hw 3 rfl) (by decide) (by decide)) q146a q146c (g := (mkF m 150 #[(sI v0), (sI v1), (sI v2), (sI v3), (sI 2), (sI c0), (sI c1), (sI c2), (sR b99), (sR so_132)] [(.int 1), (.ref so_132)])) rfl (by rw [hml]; rfl) (Steps.refl _) (argsL := [(.int 1)]) (rest := []) (lenOf o_pd24 rfl) rfl (o_wl rfl) (hb hby at_150) (fun _ _ => ⟨rfl, eh145, (by decide : 8 + 0 ≤ _), (by decide : 24 + 0 ≤ _)⟩)
   dsimp only [Pt.U, Pt.locs, Pt.cells, Pt.slots] at X146 lq146 yq146 zq146 st146 hQ146
   subst lq146 yq146 zq146
   obtain ⟨rfl, Nq146, eh146⟩ := hQ146
   have N146 := Fr.app N145h Nq146
   refine o_st (G' := T146.setTop (mkF m 153 #[(sI v0), (sI v1), (sI v2), (sI v3), (sI 2), (sI c0), (sI c1), (sI c2), (sR b99), (sR so_132)] [(.int (o_lc c1))])) (fun t k => st146.trans k) ?_
   obtain ⟨_, X146h, N146h⟩ := o_hide X146 N146
   refine o_iload X146h hx 155 (hb hby at_153) rfl ?_
   obtain ⟨_, _, ⟨T147, Lx147, kc147, nc147⟩, -, X147, ⟨Lc147, hQ147, lq147, yq147, zq147⟩, st147⟩ := Jvm.LawKit.callS X146h hx (y := y1) hown (mvT hZ (W hw 85 rfl)) (mvT hZ (W hw 86 rfl)) (mvT hZ (W hw 87 rfl)) (mvT hZ (W hw 88 rfl)) (by decide) (backOf (W := 1) (o_rm19 l Z a0 hw [] c1 T132.heap n0 Z142 (hC1 : o_C c1)) hZ (W hw 88 rfl) (W hw 87 rfl) (by decide) (by decide)) (g := (mkF m 155 #[(sI v0), (sI v1), (sI v2), (sI v3), (sI 2), (sI c0), (sI c1), (sI c2), (sR b99), (sR so_132)] [(.int c1), (.int (o_lc c1))])) rfl (by rw [hml]; rfl) (argsL := [(.int c1)]) (rest := [(.int (o_lc c1))]) (lenOf o_pd25 rfl) rfl (o_wl rfl) (hb hby at_155) (fun _ _ => ⟨rfl, eh146, (by decide : 8 + 0 ≤ _), (by decide : 24 + 0 ≤ _)⟩)
   dsimp only [Pt.U, Pt.locs, Pt.cells, Pt.slots] at X147 lq147 yq147 zq147 st147 hQ147
   subst lq147 yq147 zq147
   obtain ⟨rfl, Nq147, eh147⟩ := hQ147
   have N147 := Fr.app N146h Nq147
   refine o_st (G' := T147.setTop (mkF m 158 #[(sI v0), (sI v1), (sI v2), (sI v3), (sI 2), (sI c0), (sI c1), (sI c2), (sR b99), (sR so_132)] [(.int (o_lc c1)), (.int (o_lc c1))])) st147 ?_
   obtain ⟨_, X147h, N147h⟩ := o_hide X147 N147
   refine o_icmpYes X147h hx 163 (hb hby at_158) (teq (rfl : (o_lc c1) = (o_lc c1))).1 ?_
   refine o_iload X147h hx 165 (hb hby at_163) rfl ?_
   refine o_iconst X147h hx 166 3 (hb hby at_165) rfl ?_
   refine o_icmpYes X147h hx 185 (hb hby at_166) (tlt (by decide : (2 : Int32) < (3 : Int32))).1 ?_
   refine o_iconst X147h hx 186 1 (hb hby at_185) rfl ?_
   exact o_retNW (t := .boolean) (Q := o_Q0 Z cs sf GG v0 v1 v2 v3 h0 n0) X147h hS0 Ks141 hx hrt (by simp) (hb hby at_186) hlk eh147 ⟨rfl, N147h⟩ (by decide) (by decide)
  ·obtain ⟨T148, h148, X148, e148, E148, A148, D148, -, st148⟩ := newO X112h hx hZ hown (W hw 1 rfl) (W hw 2 rfl) (W hw 3 rfl) e112 (g := (mkF m 93 #[(sI v0), (sI v1), (sI v2), (sI v3), (sI 2), (sI c0), (sI c1), (sI c2), (sR b99), .unset] [])) rfl (hb hby at_93) (by decide) (by decide)
   obtain ⟨b148, g148⟩ : ∃ z, z = h112.size := ⟨_, rfl⟩
   rw [← g148] at A148 D148 st148
   have gt_b148 : n0 ≤ b148 := Nat.le_trans Z117 (Nat.le_of_eq g148.symm)
   have O150 := O113.ext E148
   have Ks151 := Nat.le_trans Ks116 E148.1
   have Z152 := Nat.le_trans Z117 E148.1
   have F148_value : Fld Z h148 b148 "java/lang/String" "value" "[B" .null := D148 (Or.inr (W hw 16 rfl)) (ty := (.array .byte)) (by decide)
   have F148_coder : Fld Z h148 b148 "java/lang/String" "coder" "B" (.int 0) := D148 (Or.inr (W hw 17 rfl)) (ty := .byte) (by decide)
   refine o_st (G' := T148.setTop (mkF m 96 #[(sI v0), (sI v1), (sI v2), (sI v3), (sI 2), (sI c0), (sI c1), (sI c2), (sR b99), .unset] [(.ref b148)])) st148 ?_
   obtain ⟨_, X148h, N148h⟩ := o_hide X148 N112h
   refine o_dup X148h hx 97 (hb hby at_96) rfl ?_
   refine o_aload X148h hx 99 (hb hby at_97) rfl rfl ?_
   have f153 := (V118.ext E148)
   obtain ⟨_, _, ⟨T154, Lx154, kc154, nc154⟩, -, X154, ⟨Lc154, hQ154, lq154, yq154, zq154⟩, st154⟩ := X148h.specialBack hx (y := y29) rfl hown (mvT hZ (W hw 4 rfl)) (mvT hZ (W hw 5 rfl)) (mvT hZ (W hw 6 rfl)) (by decide) (backOf (W := 1) (o_rm1n2L l Z a0 hw [] cs sf GG b148 b99 k99 c0 c1 h148 n0 Z152 A148 F148_value F148_coder gt_b148 O150 f153 (hC0 : o_C c0) (hC1 : o_C c1) ((fun q => hc93_119 (Or.inl q)) : ¬ (255 : Int32) < c0) ((fun q => hc93_119 (Or.inr q)) : ¬ (255 : Int32) < c1)) hZ (W hw 6 rfl) (W hw 3 rfl) (by decide) (by decide)) (g := (mkF m 99 #[(sI v0), (sI v1), (sI v2), (sI v3), (sI 2), (sI c0), (sI c1), (sI c2), (sR b99), .unset] [(.ref b99), (.ref b148), (.ref b148)])) rfl (by rw [hml]; rfl) (Steps.refl _) (a := b148) (argsL := [(.ref b99)]) (rest := [(.ref b148)]) (lenOf o_pd21 rfl) rfl (o_wl rfl) (hb hby at_99) (fun _ _ => ⟨rfl, e148, (by decide : 2 + 1 ≤ _), (by decide : 6 + 2 ≤ _)⟩)
   dsimp only [Pt.U, Pt.locs, Pt.cells, Pt.slots] at X154 lq154 yq154 zq154 st154 hQ154
   subst lq154 yq154 zq154
   obtain ⟨bb_154, kb_154, rfl, Nq154, Kp154, G154_0, G154_1, G154_2, G154_3, G154_4⟩ := hQ154
   have N154 := Fr.app N148h Nq154
   have O157 := O150.keep Kp154 (allS gt_b148 all0)
   have Ks158 := Nat.le_trans Ks151 Kp154.1
   have Z159 := Nat.le_trans Z152 Kp154.1
   refine o_st (G' := T154.setTop (mkF m 102 #[(sI v0), (sI v1), (sI v2), (sI v3), (sI 2), (sI c0), (sI c1), (sI c2), (sR b99), .unset] [(.ref b148)])) (fun t k => st154.trans k) ?_
   obtain ⟨_, X154h, N154h⟩ := o_hide X154 N154
   obtain ⟨_, _, ⟨T160, Lx160, kc160, nc160⟩, -, X160, ⟨Lc160, hQ160, lq160, yq160, zq160⟩, st160⟩ := Jvm.LawKit.callS X154h hx (y := y30) hown (mvT hZ (W hw 22 rfl)) (mvT hZ (W hw 23 rfl)) (mvT hZ (W hw 24 rfl)) (mvT hZ (W hw 25 rfl)) (by decide) (backOf (W := 0) (o_rm4n2L l Z a0 hw [] cs sf GG b148 bb_154 kb_154 c0 c1 T154.heap n0 Z159 G154_0 G154_2 G154_3 G154_4 O157 (hC0 : o_C c0) (hC1 : o_C c1) ((fun q => hc93_119 (Or.inl q)) : ¬ (255 : Int32) < c0) ((fun q => hc93_119 (Or.inr q)) : ¬ (255 : Int32) < c1)) hZ (W hw 25 rfl) (W hw 24 rfl) (by decide) (by decide)) (g := (mkF m 102 #[(sI v0), (sI v1), (sI v2), (sI v3), (sI 2), (sI c0), (sI c1), (sI c2), (sR b99), .unset] [(.ref b148)])) rfl (by rw [hml]; rfl) (argsL := [(.ref b148)]) (rest := []) (lenOf o_pd22 rfl) rfl (o_wl rfl) (hb hby at_102) (fun _ _ => ⟨rfl, rfl, (by decide : 3 + 3 ≤ _), (by decide : 8 + 8 ≤ _)⟩)
   dsimp only [Pt.U, Pt.locs, Pt.cells, Pt.slots] at X160 lq160 yq160 zq160 st160 hQ160
   subst lq160 yq160 zq160
   obtain ⟨so_160, b2_160, k2_160, rfl, Nq160, Kp160, G160_0, G160_1, G160_2, G160_3, G160_4, G160_5⟩ := hQ160
   have N160 := Fr.app N154h Nq160
   have O168 := O157.keep Kp160 all0
   have Ks169 := Nat.le_trans Ks158 Kp160.1
   have Z170 := Nat.le_trans Z159 Kp160.1
   refine o_st (G' := T160.setTop (mkF m 105 #[(sI v0), (sI v1), (sI v2), (sI v3), (sI 2), (sI c0), (sI c1), (sI c2), (sR b99), .unset] [(.ref so_160)])) st160 ?_
   obtain ⟨_, X160h, N160h⟩ := o_hide X160 N160
   refine o_astore X160h hx 107 #[(sI v0), (sI v1), (sI v2), (sI v3), (sI 2), (sI c0), (sI c1), (sI c2), (sR b99), (sR so_160)] (hb hby at_105) rfl rfl ?_
   refine o_aload X160h hx 109 (hb hby at_107) rfl rfl ?_
   obtain ⟨cq171, kq171, q171a, q171b, q171c⟩ := isOf hZ rfl G160_2
   obtain ⟨_, _, ⟨T171, Lx171, kc171, nc171⟩, -, X171, ⟨Lc171, hQ171, lq171, yq171, zq171⟩, st171⟩ := X160h.virtualBack hx (y := y23) (z := y23) hown (mvT hZ (W hw 46 rfl)) (mvT hZ (W hw 47 rfl)) (notFace_of_selects (args := #[]) (mvT hZ (W hw 49 rfl))) (mvT hZ (W hw 49 rfl)) (mvT hZ (W hw 48 rfl)) (by decide) (backOf (W := 0) (o_rm9n2L l Z a0 hw [] cs sf GG so_160 b2_160 k2_160 (o_lc c0) (o_lc c1) T160.heap n0 Z170 G160_2 G160_3 G160_4 G160_5 O168) hZ (W hw 50 rfl) (W hw 3 rfl) (by decide) (by decide)) q171a q171c (g := (mkF m 109 #[(sI v0), (sI v1), (sI v2), (sI v3), (sI 2), (sI c0), (sI c1), (sI c2), (sR b99), (sR so_160)] [(.ref so_160)])) rfl (by rw [hml]; rfl) (Steps.refl _) (argsL := []) (rest := []) (lenOf o_pd23 rfl) rfl (o_wl rfl) (hb hby at_109) (fun _ _ => ⟨rfl, rfl, (by decide : 6 + 0 ≤ _), (by decide : 16 + 0 ≤ _)⟩)
   dsimp only [Pt.U, Pt.locs, Pt.cells, Pt.slots] at X171 lq171 yq171 zq171 st171 hQ171
   subst lq171 yq171 zq171
   obtain ⟨rfl, Nq171, eh171⟩ := hQ171
   have N171 := Fr.app N160h Nq171
   refine o_st (G' := T171.setTop (mkF m 112 #[(sI v0), (sI v1), (sI v2), (sI v3), (sI 2), (sI c0), (sI c1), (sI c2), (sR b99), (sR so_160)] [(.int 2)])) (fun t k => st171.trans k) ?_
   obtain ⟨_, X171h, N171h⟩ := o_hide X171 N171
   refine o_iload X171h hx 114 (hb hby at_112) rfl ?_
   refine o_icmpYes X171h hx 119 (hb hby at_114) (teq (rfl : (2 : Int32) = (2 : Int32))).1 ?_
   refine o_iload X171h hx 121 (hb hby at_119) rfl ?_
   refine o_iconst X171h hx 122 1 (hb hby at_121) rfl ?_
   refine o_icmpNo X171h hx 125 (hb hby at_122) (flt (by decide : ¬ ((2 : Int32) < (1 : Int32)))).1 ?_
   refine o_aload X171h hx 127 (hb hby at_125) rfl rfl ?_
   refine o_iconst X171h hx 128 0 (hb hby at_127) rfl ?_
   obtain ⟨cq172, kq172, q172a, q172b, q172c⟩ := isOf hZ eh171 G160_2
   obtain ⟨_, _, ⟨T172, Lx172, kc172, nc172⟩, -, X172, ⟨Lc172, hQ172, lq172, yq172, zq172⟩, st172⟩ := X171h.virtualBack hx (y := y24) (z := y24) hown (mvT hZ (W hw 69 rfl)) (mvT hZ (W hw 70 rfl)) (notFace_of_selects (args := #[]) (mvT hZ (W hw 72 rfl))) (mvT hZ (W hw 72 rfl)) (mvT hZ (W hw 71 rfl)) (by decide) (backOf (W := 0) (o_rm15n2i0L l Z a0 hw [] cs sf GG so_160 b2_160 k2_160 (o_lc c0) (o_lc c1) T160.heap n0 Z170 G160_2 G160_3 G160_4 G160_5 O168 (o_lcC hC0 : o_C (o_lc c0)) (o_lcL hC0 (fun q => hc93_119 (Or.inl q)) : ¬ (255 : Int32) < (o_lc c0))) hZ (W hw 73 rfl) (W hw 3 rfl) (by decide) (by decide)) q172a q172c (g := (mkF m 128 #[(sI v0), (sI v1), (sI v2), (sI v3), (sI 2), (sI c0), (sI c1), (sI c2), (sR b99), (sR so_160)] [(.int 0), (.ref so_160)])) rfl (by rw [hml]; rfl) (Steps.refl _) (argsL := [(.int 0)]) (rest := []) (lenOf o_pd24 rfl) rfl (o_wl rfl) (hb hby at_128) (fun _ _ => ⟨rfl, eh171, (by decide : 6 + 0 ≤ _), (by decide : 16 + 0 ≤ _)⟩)
   dsimp only [Pt.U, Pt.locs, Pt.cells, Pt.slots] at X172 lq172 yq172 zq172 st172 hQ172
   subst lq172 yq172 zq172
   obtain ⟨rfl, Nq172, eh172⟩ := hQ172
   have N172 := Fr.app N171h Nq172
   refine o_st (G' := T172.setTop (mkF m 131 #[(sI v0), (sI v1), (sI v2), (sI v3), (sI 2), (sI c0), (sI c1), (sI c2), (sR b99), (sR so_160)] [(.int (o_lc c0))])) (fun t k => st172.trans k) ?_
   obtain ⟨_, X172h, N172h⟩ := o_hide X172 N172
   refine o_iload X172h hx 133 (hb hby at_131) rfl ?_
   obtain ⟨_, _, ⟨T173, Lx173, kc173, nc173⟩, -, X173, ⟨Lc173, hQ173, lq173, yq173, zq173⟩, st173⟩ := Jvm.LawKit.callS X172h hx (y := y1) hown (mvT hZ (W hw 85 rfl)) (mvT hZ (W hw 86 rfl)) (mvT hZ (W hw 87 rfl)) (mvT hZ (W hw 88 rfl)) (by decide) (backOf (W := 1) (o_rm19 l Z a0 hw [] c0 T160.heap n0 Z170 (hC0 : o_C c0)) hZ (W hw 88 rfl) (W hw 87 rfl) (by decide) (by decide)) (g := (mkF m 133 #[(sI v0), (sI v1), (sI v2), (sI v3), (sI 2), (sI c0), (sI c1), (sI c2), (sR b99), (sR so_160)] [(.int c0), (.int (o_lc c0))])) rfl (by rw [hml]; rfl) (argsL := [(.int c0)]) (rest := [(.int (o_lc c0))]) (lenOf o_pd25 rfl) rfl (o_wl rfl) (hb hby at_133) (fun _ _ => ⟨rfl, eh172, (by decide : 6 + 0 ≤ _), (by decide : 16 + 0 ≤ _)⟩)
   dsimp only [Pt.U, Pt.locs, Pt.cells, Pt.slots] at X173 lq173 yq173 zq173 st173 hQ173
   subst lq173 yq173 zq173
   obtain ⟨rfl, Nq173, eh173⟩ := hQ173
   have N173 := Fr.app N172h Nq173
   refine o_st (G' := T173.setTop (mkF m 136 #[(sI v0), (sI v1), (sI v2), (sI v3), (sI 2), (sI c0), (sI c1), (sI c2), (sR b99), (sR so_160)] [(.int (o_lc c0)), (.int (o_lc c0))])) st173 ?_
   obtain ⟨_, X173h, N173h⟩ := o_hide X173 N173
   refine o_icmpYes X173h hx 141 (hb hby at_136) (teq (rfl : (o_lc c0) = (o_lc c0))).1 ?_
   refine o_iload X173h hx 143 (hb hby at_141) rfl ?_
   refine o_iconst X173h hx 144 2 (hb hby at_143) rfl ?_
   refine o_icmpNo X173h hx 147 (hb hby at_144) (flt (by decide : ¬ ((2 : Int32) < (2 : Int32)))).1 ?_
   refine o_aload X173h hx 149 (hb hby at_147) rfl rfl ?_
   refine o_iconst X173h hx 150 1 (hb hby at_149) rfl ?_
   obtain ⟨cq174, kq174, q174a, q174b, q174c⟩ := isOf hZ eh173 G160_2
   obtain ⟨_, _, ⟨T174, Lx174, kc174, nc174⟩, -, X174, ⟨Lc174, hQ174, lq174, yq174, zq174⟩, st174⟩ := X173h.virtualBack hx (y := y24) (z := y24) hown (mvT hZ (W hw 69 rfl)) (mvT hZ (W hw 70 rfl)) (notFace_of_selects (args := #[]) (mvT hZ (W hw 72 rfl))) (mvT hZ (W hw 72 rfl)) (mvT hZ (W hw 71 rfl)) (by decide) (backOf (W := 0) (o_rm15n2i1L l Z a0 hw [] cs sf GG so_160 b2_160 k2_160 (o_lc c0) (o_lc c1) T160.heap n0 Z170 G160_2 G160_3 G160_4 G160_5 O168 (o_lcC hC1 : o_C (o_lc c1)) (o_lcL hC1 (fun q => hc93_119 (Or.inr q)) : ¬ (255 : Int32) < (o_lc c1))) hZ (W hw 73 rfl) (W hw 3 rfl) (by decide) (by decide)) q174a q174c (g := (mkF m 150 #[(sI v0), (sI v1), (sI v2), (sI v3), (sI 2), (sI c0), (sI c1), (sI c2), (sR b99), (sR so_160)] [(.int 1), (.ref so_160)])) rfl (by rw [hml]; rfl) (Steps.refl _) (argsL := [(.int 1)]) (rest := []) (lenOf o_pd24 rfl) rfl (o_wl rfl) (hb hby at_150) (fun _ _ => ⟨rfl, eh173, (by decide : 6 + 0 ≤ _), (by decide : 16 + 0 ≤ _)⟩)
   dsimp only [Pt.U, Pt.locs, Pt.cells, Pt.slots] at X174 lq174 yq174 zq174 st174 hQ174
   subst lq174 yq174 zq174
   obtain ⟨rfl, Nq174, eh174⟩ := hQ174
   have N174 := Fr.app N173h Nq174
   refine o_st (G' := T174.setTop (mkF m 153 #[(sI v0), (sI v1), (sI v2), (sI v3), (sI 2), (sI c0), (sI c1), (sI c2), (sR b99), (sR so_160)] [(.int (o_lc c1))])) (fun t k => st174.trans k) ?_
   obtain ⟨_, X174h, N174h⟩ := o_hide X174 N174
   refine o_iload X174h hx 155 (hb hby at_153) rfl ?_
   obtain ⟨_, _, ⟨T175, Lx175, kc175, nc175⟩, -, X175, ⟨Lc175, hQ175, lq175, yq175, zq175⟩, st175⟩ := Jvm.LawKit.callS X174h hx (y := y1) hown (mvT hZ (W hw 85 rfl)) (mvT hZ (W hw 86 rfl)) (mvT hZ (W hw 87 rfl)) (mvT hZ (W hw 88 rfl)) (by decide) (backOf (W := 1) (o_rm19 l Z a0 hw [] c1 T160.heap n0 Z170 (hC1 : o_C c1)) hZ (W hw 88 rfl) (W hw 87 rfl) (by decide) (by decide)) (g := (mkF m 155 #[(sI v0), (sI v1), (sI v2), (sI v3), (sI 2), (sI c0), (sI c1), (sI c2), (sR b99), (sR so_160)] [(.int c1), (.int (o_lc c1))])) rfl (by rw [hml]; rfl) (argsL := [(.int c1)]) (rest := [(.int (o_lc c1))]) (lenOf o_pd25 rfl) rfl (o_wl rfl) (hb hby at_155) (fun _ _ => ⟨rfl, eh174, (by decide : 6 + 0 ≤ _), (by decide : 16 + 0 ≤ _)⟩)
   dsimp only [Pt.U, Pt.locs, Pt.cells, Pt.slots] at X175 lq175 yq175 zq175 st175 hQ175
   subst lq175 yq175 zq175
   obtain ⟨rfl, Nq175, eh175⟩ := hQ175
   have N175 := Fr.app N174h Nq175
   refine o_st (G' := T175.setTop (mkF m 158 #[(sI v0), (sI v1), (sI v2), (sI v3), (sI 2), (sI c0), (sI c1), (sI c2), (sR b99), (sR so_160)] [(.int (o_lc c1)), (.int (o_lc c1))])) st175 ?_
   obtain ⟨_, X175h, N175h⟩ := o_hide X175 N175
   refine o_icmpYes X175h hx 163 (hb hby at_158) (teq (rfl : (o_lc c1) = (o_lc c1))).1 ?_
   refine o_iload X175h hx 165 (hb hby at_163) rfl ?_
   refine o_iconst X175h hx 166 3 (hb hby at_165) rfl ?_
   refine o_icmpYes X175h hx 185 (hb hby at_166) (tlt (by decide : (2 : Int32) < (3 : Int32))).1 ?_
   refine o_iconst X175h hx 186 1 (hb hby at_185) rfl ?_
   exact o_retNW (t := .boolean) (Q := o_Q0 Z cs sf GG v0 v1 v2 v3 h0 n0) X175h hS0 Ks169 hx hrt (by simp) (hb hby at_186) hlk eh175 ⟨rfl, N175h⟩ (by decide) (by decide)
 ·rw [hk4]
  refine o_istore X0q hx 5 #[(sI v0), (sI v1), (sI v2), (sI v3), (sI 3), .unset, .unset, .unset, .unset, .unset] (hb hby at_3) rfl ?_
  refine o_iloadN X0q hx 6 (hb hby at_5) rfl ?_
  refine o_i2c X0q hx 7 (hb hby at_6) ?_
  have hC0 := o_i2cC v1
  generalize (v1.toUInt32.toUInt16.toUInt32.toInt32) = c0 at hC0 ⊢
  refine o_istore X0q hx 9 #[(sI v0), (sI v1), (sI v2), (sI v3), (sI 3), (sI c0), .unset, .unset, .unset, .unset] (hb hby at_7) rfl ?_
  refine o_iloadN X0q hx 10 (hb hby at_9) rfl ?_
  refine o_i2c X0q hx 11 (hb hby at_10) ?_
  have hC1 := o_i2cC v2
  generalize (v2.toUInt32.toUInt16.toUInt32.toInt32) = c1 at hC1 ⊢
  refine o_istore X0q hx 13 #[(sI v0), (sI v1), (sI v2), (sI v3), (sI 3), (sI c0), (sI c1), .unset, .unset, .unset] (hb hby at_11) rfl ?_
  refine o_iloadN X0q hx 14 (hb hby at_13) rfl ?_
  refine o_i2c X0q hx 15 (hb hby at_14) ?_
  have hC2 := o_i2cC v3
  generalize (v3.toUInt32.toUInt16.toUInt32.toInt32) = c2 at hC2 ⊢
  refine o_istore X0q hx 17 #[(sI v0), (sI v1), (sI v2), (sI v3), (sI 3), (sI c0), (sI c1), (sI c2), .unset, .unset] (hb hby at_15) rfl ?_
  refine o_iload X0q hx 19 (hb hby at_17) rfl ?_
  refine o_ifYes X0q hx 30 (hb hby at_19) (feq (by decide : ¬ ((3 : Int32) = (0 : Int32)))).2 ?_
  refine o_iload X0q hx 32 (hb hby at_30) rfl ?_
  refine o_iconst X0q hx 33 1 (hb hby at_32) rfl ?_
  refine o_icmpYes X0q hx 49 (hb hby at_33) (feq (by decide : ¬ ((3 : Int32) = (1 : Int32)))).2 ?_
  refine o_iload X0q hx 51 (hb hby at_49) rfl ?_
  refine o_iconst X0q hx 52 2 (hb hby at_51) rfl ?_
  refine o_icmpYes X0q hx 73 (hb hby at_52) (feq (by decide : ¬ ((3 : Int32) = (2 : Int32)))).2 ?_
  refine o_iconst X0q hx 74 3 (hb hby at_73) rfl ?_
  obtain ⟨T176, h176, k176, X176, e176, E176, A176, st176⟩ := newP X0q hx hZ (W hw 0 rfl) e0 (g := (mkF m 74 #[(sI v0), (sI v1), (sI v2), (sI v3), (sI 3), (sI c0), (sI c1), (sI c2), .unset, .unset] [(.int 3)])) rfl (hb hby at_74) rfl (by decide) (cap := 3) (by decide) (by decide) (by decide) (by decide)
  obtain ⟨b176, g176⟩ : ∃ z, z = h0.size := ⟨_, rfl⟩
  rw [← g176] at A176 st176
  have gt_b176 : n0 ≤ b176 := Nat.le_trans Z0 (Nat.le_of_eq g176.symm)
  have V176 : Arv Z h176 b176 k176 .char 3 [(.int 0), (.int 0), (.int 0)] (.int 0) := (Arv.new A176 (by decide)).pad (pad_rep [] (.int 0) 3)
  have O178 := O0.ext E176
  have Ks181 := Nat.le_trans (Nat.zero_le _) E176.1
  have Z182 := Nat.le_trans Z0 E176.1
  refine o_st (G' := T176.setTop (mkF m 76 #[(sI v0), (sI v1), (sI v2), (sI v3), (sI 3), (sI c0), (sI c1), (sI c2), .unset, .unset] [(.ref b176)])) st176 ?_
  obtain ⟨_, X176h, N176h⟩ := o_hide X176 N0
  refine o_dup X176h hx 77 (hb hby at_76) rfl ?_
  refine o_iconst X176h hx 78 0 (hb hby at_77) rfl ?_
  refine o_iload X176h hx 80 (hb hby at_78) rfl ?_
  obtain ⟨cl183, Ar183, qv183, S183, M183, H183, G183⟩ := id V176
  have hin183 := inb_of (j := (0 : Int32)) S183 ⟨by decide, by decide⟩
  obtain ⟨T183, h183, X183, e183, W183, st183⟩ := stC X176h hx hZ e176 Ar183 (j := (0 : Int32)) hin183 (g := (mkF m 80 #[(sI v0), (sI v1), (sI v2), (sI v3), (sI 3), (sI c0), (sI c1), (sI c2), .unset, .unset] [(.int c0), (.int 0), (.ref b176), (.ref b176)])) rfl rfl (hb hby at_80)
  have V183 : Arv Z h183 b176 k176 .char 3 [(.int (nar .char c0)), (.int 0), (.int 0)] (.int 0) := Arv.set Ar183 qv183 S183 M183 H183 G183 (fits_nar_char _) W183 0 rfl (Nat.le_of_ble_eq_true rfl)
  have N183 := Fr.snoc X183 N176h gt_b176
  have O184 := O178.wr W183 gt_b176
  have Ks187 := Nat.le_trans Ks181 (Nat.le_of_eq W183.size.symm)
  have Z188 := Nat.le_trans Z182 (Nat.le_of_eq W183.size.symm)
  refine o_st (G' := T183.setTop (mkF m 81 #[(sI v0), (sI v1), (sI v2), (sI v3), (sI 3), (sI c0), (sI c1), (sI c2), .unset, .unset] [(.ref b176)])) st183 ?_
  obtain ⟨_, X183h, N183h⟩ := o_hide X183 N183
  refine o_dup X183h hx 82 (hb hby at_81) rfl ?_
  refine o_iconst X183h hx 83 1 (hb hby at_82) rfl ?_
  refine o_iload X183h hx 85 (hb hby at_83) rfl ?_
  obtain ⟨cl189, Ar189, qv189, S189, M189, H189, G189⟩ := id V183
  have hin189 := inb_of (j := (1 : Int32)) S189 ⟨by decide, by decide⟩
  obtain ⟨T189, h189, X189, e189, W189, st189⟩ := stC X183h hx hZ e183 Ar189 (j := (1 : Int32)) hin189 (g := (mkF m 85 #[(sI v0), (sI v1), (sI v2), (sI v3), (sI 3), (sI c0), (sI c1), (sI c2), .unset, .unset] [(.int c1), (.int 1), (.ref b176), (.ref b176)])) rfl rfl (hb hby at_85)
  have V189 : Arv Z h189 b176 k176 .char 3 [(.int (nar .char c0)), (.int (nar .char c1)), (.int 0)] (.int 0) := Arv.set Ar189 qv189 S189 M189 H189 G189 (fits_nar_char _) W189 1 rfl (Nat.le_of_ble_eq_true rfl)
  have N189 := Fr.snoc X189 N183h gt_b176
  have O190 := O184.wr W189 gt_b176
  have Ks193 := Nat.le_trans Ks187 (Nat.le_of_eq W189.size.symm)
  have Z194 := Nat.le_trans Z188 (Nat.le_of_eq W189.size.symm)
  refine o_st (G' := T189.setTop (mkF m 86 #[(sI v0), (sI v1), (sI v2), (sI v3), (sI 3), (sI c0), (sI c1), (sI c2), .unset, .unset] [(.ref b176)])) st189 ?_
  obtain ⟨_, X189h, N189h⟩ := o_hide X189 N189
  refine o_dup X189h hx 87 (hb hby at_86) rfl ?_
  refine o_iconst X189h hx 88 2 (hb hby at_87) rfl ?_
  refine o_iload X189h hx 90 (hb hby at_88) rfl ?_
  obtain ⟨cl195, Ar195, qv195, S195, M195, H195, G195⟩ := id V189
  have hin195 := inb_of (j := (2 : Int32)) S195 ⟨by decide, by decide⟩
  obtain ⟨T195, h195, X195, e195, W195, st195⟩ := stC X189h hx hZ e189 Ar195 (j := (2 : Int32)) hin195 (g := (mkF m 90 #[(sI v0), (sI v1), (sI v2), (sI v3), (sI 3), (sI c0), (sI c1), (sI c2), .unset, .unset] [(.int c2), (.int 2), (.ref b176), (.ref b176)])) rfl rfl (hb hby at_90)
  have V195 : Arv Z h195 b176 k176 .char 3 [(.int (nar .char c0)), (.int (nar .char c1)), (.int (nar .char c2))] (.int 0) := Arv.set Ar195 qv195 S195 M195 H195 G195 (fits_nar_char _) W195 2 rfl (Nat.le_of_ble_eq_true rfl)
  have N195 := Fr.snoc X195 N189h gt_b176
  have O196 := O190.wr W195 gt_b176
  have Ks199 := Nat.le_trans Ks193 (Nat.le_of_eq W195.size.symm)
  have Z200 := Nat.le_trans Z194 (Nat.le_of_eq W195.size.symm)
  refine o_st (G' := T195.setTop (mkF m 91 #[(sI v0), (sI v1), (sI v2), (sI v3), (sI 3), (sI c0), (sI c1), (sI c2), .unset, .unset] [(.ref b176)])) st195 ?_
  obtain ⟨_, X195h, N195h⟩ := o_hide X195 N195
  refine o_astore X195h hx 93 #[(sI v0), (sI v1), (sI v2), (sI v3), (sI 3), (sI c0), (sI c1), (sI c2), (sR b176), .unset] (hb hby at_91) rfl rfl ?_
  have V201 := V195
  rw [o_narC hC0, o_narC hC1, o_narC hC2] at V201
  by_cases hc93_202 : (255 : Int32) < c0 ∨ (255 : Int32) < c1 ∨ (255 : Int32) < c2
  ·obtain ⟨T203, h203, X203, e203, E203, A203, D203, -, st203⟩ := newO X195h hx hZ hown (W hw 1 rfl) (W hw 2 rfl) (W hw 3 rfl) e195 (g := (mkF m 93 #[(sI v0), (sI v1), (sI v2), (sI v3), (sI 3), (sI c0), (sI c1), (sI c2), (sR b176), .unset] [])) rfl (hb hby at_93) (by decide) (by decide)
   obtain ⟨b203, g203⟩ : ∃ z, z = h195.size := ⟨_, rfl⟩
   rw [← g203] at A203 D203 st203
   have gt_b203 : n0 ≤ b203 := Nat.le_trans Z200 (Nat.le_of_eq g203.symm)
   have O205 := O196.ext E203
   have Ks206 := Nat.le_trans Ks199 E203.1
   have Z207 := Nat.le_trans Z200 E203.1
   have F203_value : Fld Z h203 b203 "java/lang/String" "value" "[B" .null := D203 (Or.inr (W hw 16 rfl)) (ty := (.array .byte)) (by decide)
   have F203_coder : Fld Z h203 b203 "java/lang/String" "coder" "B" (.int 0) := D203 (Or.inr (W hw 17 rfl)) (ty := .byte) (by decide)
   refine o_st (G' := T203.setTop (mkF m 96 #[(sI v0), (sI v1), (sI v2), (sI v3), (sI 3), (sI c0), (sI c1), (sI c2), (sR b176), .unset] [(.ref b203)])) st203 ?_
   obtain ⟨_, X203h, N203h⟩ := o_hide X203 N195h
   refine o_dup X203h hx 97 (hb hby at_96) rfl ?_
   refine o_aload X203h hx 99 (hb hby at_97) rfl rfl ?_
   have f208 := (V201.ext E203)
   obtain ⟨_, _, ⟨T209, Lx209, kc209, nc209⟩, -, X209, ⟨Lc209, hQ209, lq209, yq209, zq209⟩, st209⟩ := X203h.specialBack hx (y := y29) rfl hown (mvT hZ (W hw 4 rfl)) (mvT hZ (W hw 5 rfl)) (mvT hZ (W hw 6 rfl)) (by decide) (backOf (W := 1) (o_rm1n3U l Z a0 hw [] cs sf GG b203 b176 k176 c0 c1 c2 h203 n0 Z207 A203 F203_value F203_coder gt_b203 O205 f208 (hC0 : o_C c0) (hC1 : o_C c1) (hC2 : o_C c2) (hc93_202 : (255 : Int32) < c0 ∨ (255 : Int32) < c1 ∨ (255 : Int32) < c2)) hZ (W hw 6 rfl) (W hw 3 rfl) (by decide) (by decide)) (g := (mkF m 99 #[(sI v0), (sI v1), (sI v2), (sI v3), (sI 3), (sI c0), (sI c1), (sI c2), (sR b176), .unset] [(.ref b176), (.ref b203), (.ref b203)])) rfl (by rw [hml]; rfl) (Steps.refl _) (a := b203) (argsL := [(.ref b176)]) (rest := [(.ref b203)]) (lenOf o_pd21 rfl) rfl (o_wl rfl) (hb hby at_99) (fun _ _ => ⟨rfl, e203, (by decide : 2 + 2 ≤ _), (by decide : 7 + 9 ≤ _)⟩)
   dsimp only [Pt.U, Pt.locs, Pt.cells, Pt.slots] at X209 lq209 yq209 zq209 st209 hQ209
   subst lq209 yq209 zq209
   obtain ⟨bb_209, kb_209, rfl, Nq209, Kp209, G209_0, G209_1, G209_2, G209_3, G209_4⟩ := hQ209
   have N209 := Fr.app N203h Nq209
   have O212 := O205.keep Kp209 (allS gt_b203 all0)
   have Ks213 := Nat.le_trans Ks206 Kp209.1
   have Z214 := Nat.le_trans Z207 Kp209.1
   refine o_st (G' := T209.setTop (mkF m 102 #[(sI v0), (sI v1), (sI v2), (sI v3), (sI 3), (sI c0), (sI c1), (sI c2), (sR b176), .unset] [(.ref b203)])) (fun t k => st209.trans k) ?_
   obtain ⟨_, X209h, N209h⟩ := o_hide X209 N209
   obtain ⟨_, _, ⟨T215, Lx215, kc215, nc215⟩, -, X215, ⟨Lc215, hQ215, lq215, yq215, zq215⟩, st215⟩ := Jvm.LawKit.callS X209h hx (y := y30) hown (mvT hZ (W hw 22 rfl)) (mvT hZ (W hw 23 rfl)) (mvT hZ (W hw 24 rfl)) (mvT hZ (W hw 25 rfl)) (by decide) (backOf (W := 0) (o_rm4n3U l Z a0 hw [] cs sf GG b203 bb_209 kb_209 c0 c1 c2 T209.heap n0 Z214 G209_0 G209_2 G209_3 G209_4 O212 (hC0 : o_C c0) (hC1 : o_C c1) (hC2 : o_C c2) (hc93_202 : (255 : Int32) < c0 ∨ (255 : Int32) < c1 ∨ (255 : Int32) < c2)) hZ (W hw 25 rfl) (W hw 24 rfl) (by decide) (by decide)) (g := (mkF m 102 #[(sI v0), (sI v1), (sI v2), (sI v3), (sI 3), (sI c0), (sI c1), (sI c2), (sR b176), .unset] [(.ref b203)])) rfl (by rw [hml]; rfl) (argsL := [(.ref b203)]) (rest := []) (lenOf o_pd22 rfl) rfl (o_wl rfl) (hb hby at_102) (fun _ _ => ⟨rfl, rfl, (by decide : 4 + 4 ≤ _), (by decide : 16 + 16 ≤ _)⟩)
   dsimp only [Pt.U, Pt.locs, Pt.cells, Pt.slots] at X215 lq215 yq215 zq215 st215 hQ215
   subst lq215 yq215 zq215
   obtain ⟨so_215, b2_215, k2_215, rfl, Nq215, Kp215, G215_0, G215_1, G215_2, G215_3, G215_4, G215_5⟩ := hQ215
   have N215 := Fr.app N209h Nq215
   have O223 := O212.keep Kp215 all0
   have Ks224 := Nat.le_trans Ks213 Kp215.1
   have Z225 := Nat.le_trans Z214 Kp215.1
   refine o_st (G' := T215.setTop (mkF m 105 #[(sI v0), (sI v1), (sI v2), (sI v3), (sI 3), (sI c0), (sI c1), (sI c2), (sR b176), .unset] [(.ref so_215)])) st215 ?_
   obtain ⟨_, X215h, N215h⟩ := o_hide X215 N215
   refine o_astore X215h hx 107 #[(sI v0), (sI v1), (sI v2), (sI v3), (sI 3), (sI c0), (sI c1), (sI c2), (sR b176), (sR so_215)] (hb hby at_105) rfl rfl ?_
   refine o_aload X215h hx 109 (hb hby at_107) rfl rfl ?_
   obtain ⟨cq226, kq226, q226a, q226b, q226c⟩ := isOf hZ rfl G215_2
   obtain ⟨_, _, ⟨T226, Lx226, kc226, nc226⟩, -, X226, ⟨Lc226, hQ226, lq226, yq226, zq226⟩, st226⟩ := X215h.virtualBack hx (y := y23) (z := y23) hown (mvT hZ (W hw 46 rfl)) (mvT hZ (W hw 47 rfl)) (notFace_of_selects (args := #[]) (mvT hZ (W hw 49 rfl))) (mvT hZ (W hw 49 rfl)) (mvT hZ (W hw 48 rfl)) (by decide) (backOf (W := 0) (o_rm9n3U l Z a0 hw [] cs sf GG so_215 b2_215 k2_215 (o_lc c0) (o_lc c1) (o_lc c2) T215.heap n0 Z225 G215_2 G215_3 G215_4 G215_5 O223) hZ (W hw 50 rfl) (W hw 3 rfl) (by decide) (by decide)) q226a q226c (g := (mkF m 109 #[(sI v0), (sI v1), (sI v2), (sI v3), (sI 3), (sI c0), (sI c1), (sI c2), (sR b176), (sR so_215)] [(.ref so_215)])) rfl (by rw [hml]; rfl) (Steps.refl _) (argsL := []) (rest := []) (lenOf o_pd23 rfl) rfl (o_wl rfl) (hb hby at_109) (fun _ _ => ⟨rfl, rfl, (by decide : 8 + 0 ≤ _), (by decide : 32 + 0 ≤ _)⟩)
   dsimp only [Pt.U, Pt.locs, Pt.cells, Pt.slots] at X226 lq226 yq226 zq226 st226 hQ226
   subst lq226 yq226 zq226
   obtain ⟨rfl, Nq226, eh226⟩ := hQ226
   have N226 := Fr.app N215h Nq226
   refine o_st (G' := T226.setTop (mkF m 112 #[(sI v0), (sI v1), (sI v2), (sI v3), (sI 3), (sI c0), (sI c1), (sI c2), (sR b176), (sR so_215)] [(.int 3)])) (fun t k => st226.trans k) ?_
   obtain ⟨_, X226h, N226h⟩ := o_hide X226 N226
   refine o_iload X226h hx 114 (hb hby at_112) rfl ?_
   refine o_icmpYes X226h hx 119 (hb hby at_114) (teq (rfl : (3 : Int32) = (3 : Int32))).1 ?_
   refine o_iload X226h hx 121 (hb hby at_119) rfl ?_
   refine o_iconst X226h hx 122 1 (hb hby at_121) rfl ?_
   refine o_icmpNo X226h hx 125 (hb hby at_122) (flt (by decide : ¬ ((3 : Int32) < (1 : Int32)))).1 ?_
   refine o_aload X226h hx 127 (hb hby at_125) rfl rfl ?_
   refine o_iconst X226h hx 128 0 (hb hby at_127) rfl ?_
   obtain ⟨cq227, kq227, q227a, q227b, q227c⟩ := isOf hZ eh226 G215_2
   obtain ⟨_, _, ⟨T227, Lx227, kc227, nc227⟩, -, X227, ⟨Lc227, hQ227, lq227, yq227, zq227⟩, st227⟩ := X226h.virtualBack hx (y := y24) (z := y24) hown (mvT hZ (W hw 69 rfl)) (mvT hZ (W hw 70 rfl)) (notFace_of_selects (args := #[]) (mvT hZ (W hw 72 rfl))) (mvT hZ (W hw 72 rfl)) (mvT hZ (W hw 71 rfl)) (by decide) (backOf (W := 0) (o_rm15n3i0U l Z a0 hw [] cs sf GG so_215 b2_215 k2_215 (o_lc c0) (o_lc c1) (o_lc c2) T215.heap n0 Z225 G215_2 G215_3 G215_4 G215_5 O223 (o_lcC hC0 : o_C (o_lc c0))) hZ (W hw 73 rfl) (W hw 3 rfl) (by decide) (by decide)) q227a q227c (g := (mkF m 128 #[(sI v0), (sI v1), (sI v2), (sI v3), (sI 3), (sI c0), (sI c1), (sI c2), (sR b176), (sR so_215)] [(.int 0), (.ref so_215)])) rfl (by rw [hml]; rfl) (Steps.refl _) (argsL := [(.int 0)]) (rest := []) (lenOf o_pd24 rfl) rfl (o_wl rfl) (hb hby at_128) (fun _ _ => ⟨rfl, eh226, (by decide : 8 + 0 ≤ _), (by decide : 32 + 0 ≤ _)⟩)
   dsimp only [Pt.U, Pt.locs, Pt.cells, Pt.slots] at X227 lq227 yq227 zq227 st227 hQ227
   subst lq227 yq227 zq227
   obtain ⟨rfl, Nq227, eh227⟩ := hQ227
   have N227 := Fr.app N226h Nq227
   refine o_st (G' := T227.setTop (mkF m 131 #[(sI v0), (sI v1), (sI v2), (sI v3), (sI 3), (sI c0), (sI c1), (sI c2), (sR b176), (sR so_215)] [(.int (o_lc c0))])) (fun t k => st227.trans k) ?_
   obtain ⟨_, X227h, N227h⟩ := o_hide X227 N227
   refine o_iload X227h hx 133 (hb hby at_131) rfl ?_
   obtain ⟨_, _, ⟨T228, Lx228, kc228, nc228⟩, -, X228, ⟨Lc228, hQ228, lq228, yq228, zq228⟩, st228⟩ := Jvm.LawKit.callS X227h hx (y := y1) hown (mvT hZ (W hw 85 rfl)) (mvT hZ (W hw 86 rfl)) (mvT hZ (W hw 87 rfl)) (mvT hZ (W hw 88 rfl)) (by decide) (backOf (W := 1) (o_rm19 l Z a0 hw [] c0 T215.heap n0 Z225 (hC0 : o_C c0)) hZ (W hw 88 rfl) (W hw 87 rfl) (by decide) (by decide)) (g := (mkF m 133 #[(sI v0), (sI v1), (sI v2), (sI v3), (sI 3), (sI c0), (sI c1), (sI c2), (sR b176), (sR so_215)] [(.int c0), (.int (o_lc c0))])) rfl (by rw [hml]; rfl) (argsL := [(.int c0)]) (rest := [(.int (o_lc c0))]) (lenOf o_pd25 rfl) rfl (o_wl rfl) (hb hby at_133) (fun _ _ => ⟨rfl, eh227, (by decide : 8 + 0 ≤ _), (by decide : 32 + 0 ≤ _)⟩)
   dsimp only [Pt.U, Pt.locs, Pt.cells, Pt.slots] at X228 lq228 yq228 zq228 st228 hQ228
   subst lq228 yq228 zq228
   obtain ⟨rfl, Nq228, eh228⟩ := hQ228
   have N228 := Fr.app N227h Nq228
   refine o_st (G' := T228.setTop (mkF m 136 #[(sI v0), (sI v1), (sI v2), (sI v3), (sI 3), (sI c0), (sI c1), (sI c2), (sR b176), (sR so_215)] [(.int (o_lc c0)), (.int (o_lc c0))])) st228 ?_
   obtain ⟨_, X228h, N228h⟩ := o_hide X228 N228
   refine o_icmpYes X228h hx 141 (hb hby at_136) (teq (rfl : (o_lc c0) = (o_lc c0))).1 ?_
   refine o_iload X228h hx 143 (hb hby at_141) rfl ?_
   refine o_iconst X228h hx 144 2 (hb hby at_143) rfl ?_
   refine o_icmpNo X228h hx 147 (hb hby at_144) (flt (by decide : ¬ ((3 : Int32) < (2 : Int32)))).1 ?_
   refine o_aload X228h hx 149 (hb hby at_147) rfl rfl ?_
   refine o_iconst X228h hx 150 1 (hb hby at_149) rfl ?_
   obtain ⟨cq229, kq229, q229a, q229b, q229c⟩ := isOf hZ eh228 G215_2
   obtain ⟨_, _, ⟨T229, Lx229, kc229, nc229⟩, -, X229, ⟨Lc229, hQ229, lq229, yq229, zq229⟩, st229⟩ := X228h.virtualBack hx (y := y24) (z := y24) hown (mvT hZ (W hw 69 rfl)) (mvT hZ (W hw 70 rfl)) (notFace_of_selects (args := #[]) (mvT hZ (W hw 72 rfl))) (mvT hZ (W hw 72 rfl)) (mvT hZ (W hw 71 rfl)) (by decide) (backOf (W := 0) (o_rm15n3i1U l Z a0 hw [] cs sf GG so_215 b2_215 k2_215 (o_lc c0) (o_lc c1) (o_lc c2) T215.heap n0 Z225 G215_2 G215_3 G215_4 G215_5 O223 (o_lcC hC1 : o_C (o_lc c1))) hZ (W hw 73 rfl) (W hw 3 rfl) (by decide) (by decide)) q229a q229c (g := (mkF m 150 #[(sI v0), (sI v1), (sI v2), (sI v3), (sI 3), (sI c0), (sI c1), (sI c2), (sR b176), (sR so_215)] [(.int 1), (.ref so_215)])) rfl (by rw [hml]; rfl) (Steps.refl _) (argsL := [(.int 1)]) (rest := []) (lenOf o_pd24 rfl) rfl (o_wl rfl) (hb hby at_150) (fun _ _ => ⟨rfl, eh228, (by decide : 8 + 0 ≤ _), (by decide : 32 + 0 ≤ _)⟩)
   dsimp only [Pt.U, Pt.locs, Pt.cells, Pt.slots] at X229 lq229 yq229 zq229 st229 hQ229
   subst lq229 yq229 zq229
   obtain ⟨rfl, Nq229, eh229⟩ := hQ229
   have N229 := Fr.app N228h Nq229
   refine o_st (G' := T229.setTop (mkF m 153 #[(sI v0), (sI v1), (sI v2), (sI v3), (sI 3), (sI c0), (sI c1), (sI c2), (sR b176), (sR so_215)] [(.int (o_lc c1))])) (fun t k => st229.trans k) ?_
   obtain ⟨_, X229h, N229h⟩ := o_hide X229 N229
   refine o_iload X229h hx 155 (hb hby at_153) rfl ?_
   obtain ⟨_, _, ⟨T230, Lx230, kc230, nc230⟩, -, X230, ⟨Lc230, hQ230, lq230, yq230, zq230⟩, st230⟩ := Jvm.LawKit.callS X229h hx (y := y1) hown (mvT hZ (W hw 85 rfl)) (mvT hZ (W hw 86 rfl)) (mvT hZ (W hw 87 rfl)) (mvT hZ (W hw 88 rfl)) (by decide) (backOf (W := 1) (o_rm19 l Z a0 hw [] c1 T215.heap n0 Z225 (hC1 : o_C c1)) hZ (W hw 88 rfl) (W hw 87 rfl) (by decide) (by decide)) (g := (mkF m 155 #[(sI v0), (sI v1), (sI v2), (sI v3), (sI 3), (sI c0), (sI c1), (sI c2), (sR b176), (sR so_215)] [(.int c1), (.int (o_lc c1))])) rfl (by rw [hml]; rfl) (argsL := [(.int c1)]) (rest := [(.int (o_lc c1))]) (lenOf o_pd25 rfl) rfl (o_wl rfl) (hb hby at_155) (fun _ _ => ⟨rfl, eh229, (by decide : 8 + 0 ≤ _), (by decide : 32 + 0 ≤ _)⟩)
   dsimp only [Pt.U, Pt.locs, Pt.cells, Pt.slots] at X230 lq230 yq230 zq230 st230 hQ230
   subst lq230 yq230 zq230
   obtain ⟨rfl, Nq230, eh230⟩ := hQ230
   have N230 := Fr.app N229h Nq230
   refine o_st (G' := T230.setTop (mkF m 158 #[(sI v0), (sI v1), (sI v2), (sI v3), (sI 3), (sI c0), (sI c1), (sI c2), (sR b176), (sR so_215)] [(.int (o_lc c1)), (.int (o_lc c1))])) st230 ?_
   obtain ⟨_, X230h, N230h⟩ := o_hide X230 N230
   refine o_icmpYes X230h hx 163 (hb hby at_158) (teq (rfl : (o_lc c1) = (o_lc c1))).1 ?_
   refine o_iload X230h hx 165 (hb hby at_163) rfl ?_
   refine o_iconst X230h hx 166 3 (hb hby at_165) rfl ?_
   refine o_icmpNo X230h hx 169 (hb hby at_166) (flt (by decide : ¬ ((3 : Int32) < (3 : Int32)))).1 ?_
   refine o_aload X230h hx 171 (hb hby at_169) rfl rfl ?_
   refine o_iconst X230h hx 172 2 (hb hby at_171) rfl ?_
   obtain ⟨cq231, kq231, q231a, q231b, q231c⟩ := isOf hZ eh230 G215_2
   obtain ⟨_, _, ⟨T231, Lx231, kc231, nc231⟩, -, X231, ⟨Lc231, hQ231, lq231, yq231, zq231⟩, st231⟩ := X230h.virtualBack hx (y := y24) (z := y24) hown (mvT hZ (W hw 69 rfl)) (mvT hZ (W hw 70 rfl)) (notFace_of_selects (args := #[]) (mvT hZ (W hw 72 rfl))) (mvT hZ (W hw 72 rfl)) (mvT hZ (W hw 71 rfl)) (by decide) (backOf (W := 0) (o_rm15n3i2U l Z a0 hw [] cs sf GG so_215 b2_215 k2_215 (o_lc c0) (o_lc c1) (o_lc c2) T215.heap n0 Z225 G215_2 G215_3 G215_4 G215_5 O223 (o_lcC hC2 : o_C (o_lc c2))) hZ (W hw 73 rfl) (W hw 3 rfl) (by decide) (by decide)) q231a q231c (g := (mkF m 172 #[(sI v0), (sI v1), (sI v2), (sI v3), (sI 3), (sI c0), (sI c1), (sI c2), (sR b176), (sR so_215)] [(.int 2), (.ref so_215)])) rfl (by rw [hml]; rfl) (Steps.refl _) (argsL := [(.int 2)]) (rest := []) (lenOf o_pd24 rfl) rfl (o_wl rfl) (hb hby at_172) (fun _ _ => ⟨rfl, eh230, (by decide : 8 + 0 ≤ _), (by decide : 32 + 0 ≤ _)⟩)
   dsimp only [Pt.U, Pt.locs, Pt.cells, Pt.slots] at X231 lq231 yq231 zq231 st231 hQ231
   subst lq231 yq231 zq231
   obtain ⟨rfl, Nq231, eh231⟩ := hQ231
   have N231 := Fr.app N230h Nq231
   refine o_st (G' := T231.setTop (mkF m 175 #[(sI v0), (sI v1), (sI v2), (sI v3), (sI 3), (sI c0), (sI c1), (sI c2), (sR b176), (sR so_215)] [(.int (o_lc c2))])) (fun t k => st231.trans k) ?_
   obtain ⟨_, X231h, N231h⟩ := o_hide X231 N231
   refine o_iload X231h hx 177 (hb hby at_175) rfl ?_
   obtain ⟨_, _, ⟨T232, Lx232, kc232, nc232⟩, -, X232, ⟨Lc232, hQ232, lq232, yq232, zq232⟩, st232⟩ := Jvm.LawKit.callS X231h hx (y := y1) hown (mvT hZ (W hw 85 rfl)) (mvT hZ (W hw 86 rfl)) (mvT hZ (W hw 87 rfl)) (mvT hZ (W hw 88 rfl)) (by decide) (backOf (W := 1) (o_rm19 l Z a0 hw [] c2 T215.heap n0 Z225 (hC2 : o_C c2)) hZ (W hw 88 rfl) (W hw 87 rfl) (by decide) (by decide)) (g := (mkF m 177 #[(sI v0), (sI v1), (sI v2), (sI v3), (sI 3), (sI c0), (sI c1), (sI c2), (sR b176), (sR so_215)] [(.int c2), (.int (o_lc c2))])) rfl (by rw [hml]; rfl) (argsL := [(.int c2)]) (rest := [(.int (o_lc c2))]) (lenOf o_pd25 rfl) rfl (o_wl rfl) (hb hby at_177) (fun _ _ => ⟨rfl, eh231, (by decide : 8 + 0 ≤ _), (by decide : 32 + 0 ≤ _)⟩)
   dsimp only [Pt.U, Pt.locs, Pt.cells, Pt.slots] at X232 lq232 yq232 zq232 st232 hQ232
   subst lq232 yq232 zq232
   obtain ⟨rfl, Nq232, eh232⟩ := hQ232
   have N232 := Fr.app N231h Nq232
   refine o_st (G' := T232.setTop (mkF m 180 #[(sI v0), (sI v1), (sI v2), (sI v3), (sI 3), (sI c0), (sI c1), (sI c2), (sR b176), (sR so_215)] [(.int (o_lc c2)), (.int (o_lc c2))])) st232 ?_
   obtain ⟨_, X232h, N232h⟩ := o_hide X232 N232
   refine o_icmpYes X232h hx 185 (hb hby at_180) (teq (rfl : (o_lc c2) = (o_lc c2))).1 ?_
   refine o_iconst X232h hx 186 1 (hb hby at_185) rfl ?_
   exact o_retNW (t := .boolean) (Q := o_Q0 Z cs sf GG v0 v1 v2 v3 h0 n0) X232h hS0 Ks224 hx hrt (by simp) (hb hby at_186) hlk eh232 ⟨rfl, N232h⟩ (by decide) (by decide)
  ·obtain ⟨T233, h233, X233, e233, E233, A233, D233, -, st233⟩ := newO X195h hx hZ hown (W hw 1 rfl) (W hw 2 rfl) (W hw 3 rfl) e195 (g := (mkF m 93 #[(sI v0), (sI v1), (sI v2), (sI v3), (sI 3), (sI c0), (sI c1), (sI c2), (sR b176), .unset] [])) rfl (hb hby at_93) (by decide) (by decide)
   obtain ⟨b233, g233⟩ : ∃ z, z = h195.size := ⟨_, rfl⟩
   rw [← g233] at A233 D233 st233
   have gt_b233 : n0 ≤ b233 := Nat.le_trans Z200 (Nat.le_of_eq g233.symm)
   have O235 := O196.ext E233
   have Ks236 := Nat.le_trans Ks199 E233.1
   have Z237 := Nat.le_trans Z200 E233.1
   have F233_value : Fld Z h233 b233 "java/lang/String" "value" "[B" .null := D233 (Or.inr (W hw 16 rfl)) (ty := (.array .byte)) (by decide)
   have F233_coder : Fld Z h233 b233 "java/lang/String" "coder" "B" (.int 0) := D233 (Or.inr (W hw 17 rfl)) (ty := .byte) (by decide)
   refine o_st (G' := T233.setTop (mkF m 96 #[(sI v0), (sI v1), (sI v2), (sI v3), (sI 3), (sI c0), (sI c1), (sI c2), (sR b176), .unset] [(.ref b233)])) st233 ?_
   obtain ⟨_, X233h, N233h⟩ := o_hide X233 N195h
   refine o_dup X233h hx 97 (hb hby at_96) rfl ?_
   refine o_aload X233h hx 99 (hb hby at_97) rfl rfl ?_
   have f238 := (V201.ext E233)
   obtain ⟨_, _, ⟨T239, Lx239, kc239, nc239⟩, -, X239, ⟨Lc239, hQ239, lq239, yq239, zq239⟩, st239⟩ := X233h.specialBack hx (y := y29) rfl hown (mvT hZ (W hw 4 rfl)) (mvT hZ (W hw 5 rfl)) (mvT hZ (W hw 6 rfl)) (by decide) (backOf (W := 1) (o_rm1n3L l Z a0 hw [] cs sf GG b233 b176 k176 c0 c1 c2 h233 n0 Z237 A233 F233_value F233_coder gt_b233 O235 f238 (hC0 : o_C c0) (hC1 : o_C c1) (hC2 : o_C c2) ((fun q => hc93_202 (Or.inl q)) : ¬ (255 : Int32) < c0) ((fun q => hc93_202 (Or.inr (Or.inl q))) : ¬ (255 : Int32) < c1) ((fun q => hc93_202 (Or.inr (Or.inr q))) : ¬ (255 : Int32) < c2)) hZ (W hw 6 rfl) (W hw 3 rfl) (by decide) (by decide)) (g := (mkF m 99 #[(sI v0), (sI v1), (sI v2), (sI v3), (sI 3), (sI c0), (sI c1), (sI c2), (sR b176), .unset] [(.ref b176), (.ref b233), (.ref b233)])) rfl (by rw [hml]; rfl) (Steps.refl _) (a := b233) (argsL := [(.ref b176)]) (rest := [(.ref b233)]) (lenOf o_pd21 rfl) rfl (o_wl rfl) (hb hby at_99) (fun _ _ => ⟨rfl, e233, (by decide : 2 + 1 ≤ _), (by decide : 7 + 3 ≤ _)⟩)
   dsimp only [Pt.U, Pt.locs, Pt.cells, Pt.slots] at X239 lq239 yq239 zq239 st239 hQ239
   subst lq239 yq239 zq239
   obtain ⟨bb_239, kb_239, rfl, Nq239, Kp239, G239_0, G239_1, G239_2, G239_3, G239_4⟩ := hQ239
   have N239 := Fr.app N233h Nq239
   have O242 := O235.keep Kp239 (allS gt_b233 all0)
   have Ks243 := Nat.le_trans Ks236 Kp239.1
   have Z244 := Nat.le_trans Z237 Kp239.1
   refine o_st (G' := T239.setTop (mkF m 102 #[(sI v0), (sI v1), (sI v2), (sI v3), (sI 3), (sI c0), (sI c1), (sI c2), (sR b176), .unset] [(.ref b233)])) (fun t k => st239.trans k) ?_
   obtain ⟨_, X239h, N239h⟩ := o_hide X239 N239
   obtain ⟨_, _, ⟨T245, Lx245, kc245, nc245⟩, -, X245, ⟨Lc245, hQ245, lq245, yq245, zq245⟩, st245⟩ := Jvm.LawKit.callS X239h hx (y := y30) hown (mvT hZ (W hw 22 rfl)) (mvT hZ (W hw 23 rfl)) (mvT hZ (W hw 24 rfl)) (mvT hZ (W hw 25 rfl)) (by decide) (backOf (W := 0) (o_rm4n3L l Z a0 hw [] cs sf GG b233 bb_239 kb_239 c0 c1 c2 T239.heap n0 Z244 G239_0 G239_2 G239_3 G239_4 O242 (hC0 : o_C c0) (hC1 : o_C c1) (hC2 : o_C c2) ((fun q => hc93_202 (Or.inl q)) : ¬ (255 : Int32) < c0) ((fun q => hc93_202 (Or.inr (Or.inl q))) : ¬ (255 : Int32) < c1) ((fun q => hc93_202 (Or.inr (Or.inr q))) : ¬ (255 : Int32) < c2)) hZ (W hw 25 rfl) (W hw 24 rfl) (by decide) (by decide)) (g := (mkF m 102 #[(sI v0), (sI v1), (sI v2), (sI v3), (sI 3), (sI c0), (sI c1), (sI c2), (sR b176), .unset] [(.ref b233)])) rfl (by rw [hml]; rfl) (argsL := [(.ref b233)]) (rest := []) (lenOf o_pd22 rfl) rfl (o_wl rfl) (hb hby at_102) (fun _ _ => ⟨rfl, rfl, (by decide : 3 + 3 ≤ _), (by decide : 10 + 10 ≤ _)⟩)
   dsimp only [Pt.U, Pt.locs, Pt.cells, Pt.slots] at X245 lq245 yq245 zq245 st245 hQ245
   subst lq245 yq245 zq245
   obtain ⟨so_245, b2_245, k2_245, rfl, Nq245, Kp245, G245_0, G245_1, G245_2, G245_3, G245_4, G245_5⟩ := hQ245
   have N245 := Fr.app N239h Nq245
   have O253 := O242.keep Kp245 all0
   have Ks254 := Nat.le_trans Ks243 Kp245.1
   have Z255 := Nat.le_trans Z244 Kp245.1
   refine o_st (G' := T245.setTop (mkF m 105 #[(sI v0), (sI v1), (sI v2), (sI v3), (sI 3), (sI c0), (sI c1), (sI c2), (sR b176), .unset] [(.ref so_245)])) st245 ?_
   obtain ⟨_, X245h, N245h⟩ := o_hide X245 N245
   refine o_astore X245h hx 107 #[(sI v0), (sI v1), (sI v2), (sI v3), (sI 3), (sI c0), (sI c1), (sI c2), (sR b176), (sR so_245)] (hb hby at_105) rfl rfl ?_
   refine o_aload X245h hx 109 (hb hby at_107) rfl rfl ?_
   obtain ⟨cq256, kq256, q256a, q256b, q256c⟩ := isOf hZ rfl G245_2
   obtain ⟨_, _, ⟨T256, Lx256, kc256, nc256⟩, -, X256, ⟨Lc256, hQ256, lq256, yq256, zq256⟩, st256⟩ := X245h.virtualBack hx (y := y23) (z := y23) hown (mvT hZ (W hw 46 rfl)) (mvT hZ (W hw 47 rfl)) (notFace_of_selects (args := #[]) (mvT hZ (W hw 49 rfl))) (mvT hZ (W hw 49 rfl)) (mvT hZ (W hw 48 rfl)) (by decide) (backOf (W := 0) (o_rm9n3L l Z a0 hw [] cs sf GG so_245 b2_245 k2_245 (o_lc c0) (o_lc c1) (o_lc c2) T245.heap n0 Z255 G245_2 G245_3 G245_4 G245_5 O253) hZ (W hw 50 rfl) (W hw 3 rfl) (by decide) (by decide)) q256a q256c (g := (mkF m 109 #[(sI v0), (sI v1), (sI v2), (sI v3), (sI 3), (sI c0), (sI c1), (sI c2), (sR b176), (sR so_245)] [(.ref so_245)])) rfl (by rw [hml]; rfl) (Steps.refl _) (argsL := []) (rest := []) (lenOf o_pd23 rfl) rfl (o_wl rfl) (hb hby at_109) (fun _ _ => ⟨rfl, rfl, (by decide : 6 + 0 ≤ _), (by decide : 20 + 0 ≤ _)⟩)
   dsimp only [Pt.U, Pt.locs, Pt.cells, Pt.slots] at X256 lq256 yq256 zq256 st256 hQ256
   subst lq256 yq256 zq256
   obtain ⟨rfl, Nq256, eh256⟩ := hQ256
   have N256 := Fr.app N245h Nq256
   refine o_st (G' := T256.setTop (mkF m 112 #[(sI v0), (sI v1), (sI v2), (sI v3), (sI 3), (sI c0), (sI c1), (sI c2), (sR b176), (sR so_245)] [(.int 3)])) (fun t k => st256.trans k) ?_
   obtain ⟨_, X256h, N256h⟩ := o_hide X256 N256
   refine o_iload X256h hx 114 (hb hby at_112) rfl ?_
   refine o_icmpYes X256h hx 119 (hb hby at_114) (teq (rfl : (3 : Int32) = (3 : Int32))).1 ?_
   refine o_iload X256h hx 121 (hb hby at_119) rfl ?_
   refine o_iconst X256h hx 122 1 (hb hby at_121) rfl ?_
   refine o_icmpNo X256h hx 125 (hb hby at_122) (flt (by decide : ¬ ((3 : Int32) < (1 : Int32)))).1 ?_
   refine o_aload X256h hx 127 (hb hby at_125) rfl rfl ?_
   refine o_iconst X256h hx 128 0 (hb hby at_127) rfl ?_
   obtain ⟨cq257, kq257, q257a, q257b, q257c⟩ := isOf hZ eh256 G245_2
   obtain ⟨_, _, ⟨T257, Lx257, kc257, nc257⟩, -, X257, ⟨Lc257, hQ257, lq257, yq257, zq257⟩, st257⟩ := X256h.virtualBack hx (y := y24) (z := y24) hown (mvT hZ (W hw 69 rfl)) (mvT hZ (W hw 70 rfl)) (notFace_of_selects (args := #[]) (mvT hZ (W hw 72 rfl))) (mvT hZ (W hw 72 rfl)) (mvT hZ (W hw 71 rfl)) (by decide) (backOf (W := 0) (o_rm15n3i0L l Z a0 hw [] cs sf GG so_245 b2_245 k2_245 (o_lc c0) (o_lc c1) (o_lc c2) T245.heap n0 Z255 G245_2 G245_3 G245_4 G245_5 O253 (o_lcC hC0 : o_C (o_lc c0)) (o_lcL hC0 (fun q => hc93_202 (Or.inl q)) : ¬ (255 : Int32) < (o_lc c0))) hZ (W hw 73 rfl) (W hw 3 rfl) (by decide) (by decide)) q257a q257c (g := (mkF m 128 #[(sI v0), (sI v1), (sI v2), (sI v3), (sI 3), (sI c0), (sI c1), (sI c2), (sR b176), (sR so_245)] [(.int 0), (.ref so_245)])) rfl (by rw [hml]; rfl) (Steps.refl _) (argsL := [(.int 0)]) (rest := []) (lenOf o_pd24 rfl) rfl (o_wl rfl) (hb hby at_128) (fun _ _ => ⟨rfl, eh256, (by decide : 6 + 0 ≤ _), (by decide : 20 + 0 ≤ _)⟩)
   dsimp only [Pt.U, Pt.locs, Pt.cells, Pt.slots] at X257 lq257 yq257 zq257 st257 hQ257
   subst lq257 yq257 zq257
   obtain ⟨rfl, Nq257, eh257⟩ := hQ257
   have N257 := Fr.app N256h Nq257
   refine o_st (G' := T257.setTop (mkF m 131 #[(sI v0), (sI v1), (sI v2), (sI v3), (sI 3), (sI c0), (sI c1), (sI c2), (sR b176), (sR so_245)] [(.int (o_lc c0))])) (fun t k => st257.trans k) ?_
   obtain ⟨_, X257h, N257h⟩ := o_hide X257 N257
   refine o_iload X257h hx 133 (hb hby at_131) rfl ?_
   obtain ⟨_, _, ⟨T258, Lx258, kc258, nc258⟩, -, X258, ⟨Lc258, hQ258, lq258, yq258, zq258⟩, st258⟩ := Jvm.LawKit.callS X257h hx (y := y1) hown (mvT hZ (W hw 85 rfl)) (mvT hZ (W hw 86 rfl)) (mvT hZ (W hw 87 rfl)) (mvT hZ (W hw 88 rfl)) (by decide) (backOf (W := 1) (o_rm19 l Z a0 hw [] c0 T245.heap n0 Z255 (hC0 : o_C c0)) hZ (W hw 88 rfl) (W hw 87 rfl) (by decide) (by decide)) (g := (mkF m 133 #[(sI v0), (sI v1), (sI v2), (sI v3), (sI 3), (sI c0), (sI c1), (sI c2), (sR b176), (sR so_245)] [(.int c0), (.int (o_lc c0))])) rfl (by rw [hml]; rfl) (argsL := [(.int c0)]) (rest := [(.int (o_lc c0))]) (lenOf o_pd25 rfl) rfl (o_wl rfl) (hb hby at_133) (fun _ _ => ⟨rfl, eh257, (by decide : 6 + 0 ≤ _), (by decide : 20 + 0 ≤ _)⟩)
   dsimp only [Pt.U, Pt.locs, Pt.cells, Pt.slots] at X258 lq258 yq258 zq258 st258 hQ258
   subst lq258 yq258 zq258
   obtain ⟨rfl, Nq258, eh258⟩ := hQ258
   have N258 := Fr.app N257h Nq258
   refine o_st (G' := T258.setTop (mkF m 136 #[(sI v0), (sI v1), (sI v2), (sI v3), (sI 3), (sI c0), (sI c1), (sI c2), (sR b176), (sR so_245)] [(.int (o_lc c0)), (.int (o_lc c0))])) st258 ?_
   obtain ⟨_, X258h, N258h⟩ := o_hide X258 N258
   refine o_icmpYes X258h hx 141 (hb hby at_136) (teq (rfl : (o_lc c0) = (o_lc c0))).1 ?_
   refine o_iload X258h hx 143 (hb hby at_141) rfl ?_
   refine o_iconst X258h hx 144 2 (hb hby at_143) rfl ?_
   refine o_icmpNo X258h hx 147 (hb hby at_144) (flt (by decide : ¬ ((3 : Int32) < (2 : Int32)))).1 ?_
   refine o_aload X258h hx 149 (hb hby at_147) rfl rfl ?_
   refine o_iconst X258h hx 150 1 (hb hby at_149) rfl ?_
   obtain ⟨cq259, kq259, q259a, q259b, q259c⟩ := isOf hZ eh258 G245_2
   obtain ⟨_, _, ⟨T259, Lx259, kc259, nc259⟩, -, X259, ⟨Lc259, hQ259, lq259, yq259, zq259⟩, st259⟩ := X258h.virtualBack hx (y := y24) (z := y24) hown (mvT hZ (W hw 69 rfl)) (mvT hZ (W hw 70 rfl)) (notFace_of_selects (args := #[]) (mvT hZ (W hw 72 rfl))) (mvT hZ (W hw 72 rfl)) (mvT hZ (W hw 71 rfl)) (by decide) (backOf (W := 0) (o_rm15n3i1L l Z a0 hw [] cs sf GG so_245 b2_245 k2_245 (o_lc c0) (o_lc c1) (o_lc c2) T245.heap n0 Z255 G245_2 G245_3 G245_4 G245_5 O253 (o_lcC hC1 : o_C (o_lc c1)) (o_lcL hC1 (fun q => hc93_202 (Or.inr (Or.inl q))) : ¬ (255 : Int32) < (o_lc c1))) hZ (W hw 73 rfl) (W hw 3 rfl) (by decide) (by decide)) q259a q259c (g := (mkF m 150 #[(sI v0), (sI v1), (sI v2), (sI v3), (sI 3), (sI c0), (sI c1), (sI c2), (sR b176), (sR so_245)] [(.int 1), (.ref so_245)])) rfl (by rw [hml]; rfl) (Steps.refl _) (argsL := [(.int 1)]) (rest := []) (lenOf o_pd24 rfl) rfl (o_wl rfl) (hb hby at_150) (fun _ _ => ⟨rfl, eh258, (by decide : 6 + 0 ≤ _), (by decide : 20 + 0 ≤ _)⟩)
   dsimp only [Pt.U, Pt.locs, Pt.cells, Pt.slots] at X259 lq259 yq259 zq259 st259 hQ259
   subst lq259 yq259 zq259
   obtain ⟨rfl, Nq259, eh259⟩ := hQ259
   have N259 := Fr.app N258h Nq259
   refine o_st (G' := T259.setTop (mkF m 153 #[(sI v0), (sI v1), (sI v2), (sI v3), (sI 3), (sI c0), (sI c1), (sI c2), (sR b176), (sR so_245)] [(.int (o_lc c1))])) (fun t k => st259.trans k) ?_
   obtain ⟨_, X259h, N259h⟩ := o_hide X259 N259
   refine o_iload X259h hx 155 (hb hby at_153) rfl ?_
   obtain ⟨_, _, ⟨T260, Lx260, kc260, nc260⟩, -, X260, ⟨Lc260, hQ260, lq260, yq260, zq260⟩, st260⟩ := Jvm.LawKit.callS X259h hx (y := y1) hown (mvT hZ (W hw 85 rfl)) (mvT hZ (W hw 86 rfl)) (mvT hZ (W hw 87 rfl)) (mvT hZ (W hw 88 rfl)) (by decide) (backOf (W := 1) (o_rm19 l Z a0 hw [] c1 T245.heap n0 Z255 (hC1 : o_C c1)) hZ (W hw 88 rfl) (W hw 87 rfl) (by decide) (by decide)) (g := (mkF m 155 #[(sI v0), (sI v1), (sI v2), (sI v3), (sI 3), (sI c0), (sI c1), (sI c2), (sR b176), (sR so_245)] [(.int c1), (.int (o_lc c1))])) rfl (by rw [hml]; rfl) (argsL := [(.int c1)]) (rest := [(.int (o_lc c1))]) (lenOf o_pd25 rfl) rfl (o_wl rfl) (hb hby at_155) (fun _ _ => ⟨rfl, eh259, (by decide : 6 + 0 ≤ _), (by decide : 20 + 0 ≤ _)⟩)
   dsimp only [Pt.U, Pt.locs, Pt.cells, Pt.slots] at X260 lq260 yq260 zq260 st260 hQ260
   subst lq260 yq260 zq260
   obtain ⟨rfl, Nq260, eh260⟩ := hQ260
   have N260 := Fr.app N259h Nq260
   refine o_st (G' := T260.setTop (mkF m 158 #[(sI v0), (sI v1), (sI v2), (sI v3), (sI 3), (sI c0), (sI c1), (sI c2), (sR b176), (sR so_245)] [(.int (o_lc c1)), (.int (o_lc c1))])) st260 ?_
   obtain ⟨_, X260h, N260h⟩ := o_hide X260 N260
   refine o_icmpYes X260h hx 163 (hb hby at_158) (teq (rfl : (o_lc c1) = (o_lc c1))).1 ?_
   refine o_iload X260h hx 165 (hb hby at_163) rfl ?_
   refine o_iconst X260h hx 166 3 (hb hby at_165) rfl ?_
   refine o_icmpNo X260h hx 169 (hb hby at_166) (flt (by decide : ¬ ((3 : Int32) < (3 : Int32)))).1 ?_
   refine o_aload X260h hx 171 (hb hby at_169) rfl rfl ?_
   refine o_iconst X260h hx 172 2 (hb hby at_171) rfl ?_
   obtain ⟨cq261, kq261, q261a, q261b, q261c⟩ := isOf hZ eh260 G245_2
   obtain ⟨_, _, ⟨T261, Lx261, kc261, nc261⟩, -, X261, ⟨Lc261, hQ261, lq261, yq261, zq261⟩, st261⟩ := X260h.virtualBack hx (y := y24) (z := y24) hown (mvT hZ (W hw 69 rfl)) (mvT hZ (W hw 70 rfl)) (notFace_of_selects (args := #[]) (mvT hZ (W hw 72 rfl))) (mvT hZ (W hw 72 rfl)) (mvT hZ (W hw 71 rfl)) (by decide) (backOf (W := 0) (o_rm15n3i2L l Z a0 hw [] cs sf GG so_245 b2_245 k2_245 (o_lc c0) (o_lc c1) (o_lc c2) T245.heap n0 Z255 G245_2 G245_3 G245_4 G245_5 O253 (o_lcC hC2 : o_C (o_lc c2)) (o_lcL hC2 (fun q => hc93_202 (Or.inr (Or.inr q))) : ¬ (255 : Int32) < (o_lc c2))) hZ (W hw 73 rfl) (W hw 3 rfl) (by decide) (by decide)) q261a q261c (g := (mkF m 172 #[(sI v0), (sI v1), (sI v2), (sI v3), (sI 3), (sI c0), (sI c1), (sI c2), (sR b176), (sR so_245)] [(.int 2), (.ref so_245)])) rfl (by rw [hml]; rfl) (Steps.refl _) (argsL := [(.int 2)]) (rest := []) (lenOf o_pd24 rfl) rfl (o_wl rfl) (hb hby at_172) (fun _ _ => ⟨rfl, eh260, (by decide : 6 + 0 ≤ _), (by decide : 20 + 0 ≤ _)⟩)
   dsimp only [Pt.U, Pt.locs, Pt.cells, Pt.slots] at X261 lq261 yq261 zq261 st261 hQ261
   subst lq261 yq261 zq261
   obtain ⟨rfl, Nq261, eh261⟩ := hQ261
   have N261 := Fr.app N260h Nq261
   refine o_st (G' := T261.setTop (mkF m 175 #[(sI v0), (sI v1), (sI v2), (sI v3), (sI 3), (sI c0), (sI c1), (sI c2), (sR b176), (sR so_245)] [(.int (o_lc c2))])) (fun t k => st261.trans k) ?_
   obtain ⟨_, X261h, N261h⟩ := o_hide X261 N261
   refine o_iload X261h hx 177 (hb hby at_175) rfl ?_
   obtain ⟨_, _, ⟨T262, Lx262, kc262, nc262⟩, -, X262, ⟨Lc262, hQ262, lq262, yq262, zq262⟩, st262⟩ := Jvm.LawKit.callS X261h hx (y := y1) hown (mvT hZ (W hw 85 rfl)) (mvT hZ (W hw 86 rfl)) (mvT hZ (W hw 87 rfl)) (mvT hZ (W hw 88 rfl)) (by decide) (backOf (W := 1) (o_rm19 l Z a0 hw [] c2 T245.heap n0 Z255 (hC2 : o_C c2)) hZ (W hw 88 rfl) (W hw 87 rfl) (by decide) (by decide)) (g := (mkF m 177 #[(sI v0), (sI v1), (sI v2), (sI v3), (sI 3), (sI c0), (sI c1), (sI c2), (sR b176), (sR so_245)] [(.int c2), (.int (o_lc c2))])) rfl (by rw [hml]; rfl) (argsL := [(.int c2)]) (rest := [(.int (o_lc c2))]) (lenOf o_pd25 rfl) rfl (o_wl rfl) (hb hby at_177) (fun _ _ => ⟨rfl, eh261, (by decide : 6 + 0 ≤ _), (by decide : 20 + 0 ≤ _)⟩)
   dsimp only [Pt.U, Pt.locs, Pt.cells, Pt.slots] at X262 lq262 yq262 zq262 st262 hQ262
   subst lq262 yq262 zq262
   obtain ⟨rfl, Nq262, eh262⟩ := hQ262
   have N262 := Fr.app N261h Nq262
   refine o_st (G' := T262.setTop (mkF m 180 #[(sI v0), (sI v1), (sI v2), (sI v3), (sI 3), (sI c0), (sI c1), (sI c2), (sR b176), (sR so_245)] [(.int (o_lc c2)), (.int (o_lc c2))])) st262 ?_
   obtain ⟨_, X262h, N262h⟩ := o_hide X262 N262
   refine o_icmpYes X262h hx 185 (hb hby at_180) (teq (rfl : (o_lc c2) = (o_lc c2))).1 ?_
   refine o_iconst X262h hx 186 1 (hb hby at_185) rfl ?_
   exact o_retNW (t := .boolean) (Q := o_Q0 Z cs sf GG v0 v1 v2 v3 h0 n0) X262h hS0 Ks254 hx hrt (by simp) (hb hby at_186) hlk eh262 ⟨rfl, N262h⟩ (by decide) (by decide)
set_option maxRecDepth 65536 in
set_option maxHeartbeats 40000000 in
theorem o_comes {Post : Tables → Env → Array Value → State → Outcome → State → Prop} (hpost : ∀ tb e args s v u, (limb_1_1.after args s (.returned v) u = true ∧ limb_1_2.after args s (.returned v) u = true ∧ True) → ReturnedEndW s (.returned v) u (Jvm.fieldLocs frame_1_writes args s ++ Jvm.arrayLocs frame_1_arrays args s ++ Jvm.staticLocs frame_1_statics s) 32 1216 → Post tb e args s (.returned v) u) :
    ArmFor flags0 classFile x code maxLocals ret World_1 tables_1 room_1 Calls_1 rest_1 Pre_1 Post := by
  intro l hfl _ _ p e ha hc hk s m args below hf hA hF happ hP
  obtain ⟨hcalls, hrest, hpre⟩ := hP
  obtain ⟨-, -, -, hnamed, -, -, -, hat⟩ := (Spec.applies_iff hf).mp happ
  obtain ⟨hg, hn⟩ := and_e (Cond.before_iff.mp (show (Jvm.Cond.and given_1 narrow_1).before args s = true from hpre))
  obtain ⟨g1, g2⟩ := and_e hg
  obtain ⟨g3, g4⟩ := and_e g2
  obtain ⟨g5, g6⟩ := and_e g4
  obtain ⟨g7, g8⟩ := and_e g6
  obtain ⟨w0, w1, w2, w3, rfl⟩ : ∃ w0 w1 w2 w3 : Value, args = #[w0, w1, w2, w3] := by
    have hs : args.size = 4 := by simpa [Cond.value, given_1] using g1
    obtain ⟨L⟩ := args
    match L, hs with
    | [w0, w1, w2, w3], _ => exact ⟨w0, w1, w2, w3, rfl⟩
  have hw := fun d (hd : d ∈ tables_1) => atoms_spec (ws := Jvm.Cond.code x code maxLocals ret :: tables_1) hat d (List.mem_cons_of_mem _ hd)
  have hfit : Fit s := fun {y c} hc i hi => by
    obtain ⟨ha, rfl⟩ := Array.getElem?_eq_some_iff.mp hc
    have q := List.all_eq_true.mp ((Array.all_eq_true_iff_forall_mem.mp hF) _ (Array.getElem_mem ha)) i (List.mem_range.mpr hi)
    simpa [Array.getElem?_eq_getElem hi] using q
  obtain ⟨hsets, hown0⟩ := atoms_of _ (rest_1_c_eq ▸ (show rest_1_c.before _ s = true from hrest))
  obtain ⟨i0, ei0⟩ := is_v g3
  obtain rfl : w0 = (.int i0) := Option.some.inj ei0
  obtain ⟨i1, ei1⟩ := is_v g5
  obtain rfl : w1 = (.int i1) := Option.some.inj ei1
  obtain ⟨i2, ei2⟩ := is_v g7
  obtain rfl : w2 = (.int i2) := Option.some.inj ei2
  obtain ⟨i3, ei3⟩ := is_v g8
  obtain rfl : w3 = (.int i3) := Option.some.inj ei3
  have n5 := not_v (Cond.before_iff.mp (hsets _ (List.mem_of_getElem? (i := 2) rfl)))
  obtain ⟨i11, e10⟩ := is_v (Cond.before_iff.mp (hsets _ (List.mem_of_getElem? (i := 1) rfl)))
  have S12 : Sta s s.heap "java/lang/String" "COMPACT_STRINGS" "Z" (.int i11) := Sta.start e10 (Or.inl (hsets _ (List.mem_of_getElem? (i := 0) rfl)))
  obtain ⟨v13, e14, r15⟩ := isR_v (Cond.before_iff.mp (hsets _ (List.mem_of_getElem? (i := 8) rfl)))
  have S16 : Sta s s.heap "jdk/internal/util/Preconditions" "SIOOBE_FORMATTER" "Ljava/util/function/BiFunction;" v13 := Sta.start e14 (Or.inl (hsets _ (List.mem_of_getElem? (i := 7) rfl)))
  have c17 : ¬ (i11 = (0 : Int32)) := gotF (Cond.eq_ints e10 (Term.int_eval (0))) n5
  have S_ad : Sta s s.heap "java/lang/StringUTF16" "$assertionsDisabled" "Z" (.int 1) := Sta.start (eqv_i (Term.int_eval (1)) (Cond.before_iff.mp (hsets _ (List.mem_of_getElem? (i := 12) rfl)))) (Or.inl (hsets _ (List.mem_of_getElem? (i := 11) rfl)))
  have S_hs : Sta s s.heap "java/lang/StringUTF16" "HI_BYTE_SHIFT" "I" (.int 0) := Sta.start (eqv_i (Term.int_eval (0)) (Cond.before_iff.mp (hsets _ (List.mem_of_getElem? (i := 15) rfl)))) (Or.inl (hsets _ (List.mem_of_getElem? (i := 14) rfl)))
  have S_ls : Sta s s.heap "java/lang/StringUTF16" "LO_BYTE_SHIFT" "I" (.int 8) := Sta.start (eqv_i (Term.int_eval (8)) (Cond.before_iff.mp (hsets _ (List.mem_of_getElem? (i := 18) rfl)))) (Or.inl (hsets _ (List.mem_of_getElem? (i := 17) rfl)))
  obtain ⟨n, o, h1, h2, h3, _, L, rfl, ⟨rfl, N⟩, hq⟩ := o_rm0 l s _ hw tables_1 i11 v13 ⟨S12, c17, S16, r15, S_ad, S_hs, S_ls⟩ i0 i1 i2 i3 s.heap s.heap.size (Nat.le_refl _) (Old.start s) p e ha hc hk s m _ below hf ((Spec.applies_iff_loose hf).mp happ).1 ⟨rfl, State.Warmed39.refl s, rfl, CHv.start (o_EW hw) hcalls.1 (hsets _ (List.mem_of_getElem? (i := 2) rfl)) (W hw 15 rfl) (W hw 2 rfl)⟩ trivial
  refine ⟨n, _, h1, h2, h3, hpost _ _ _ _ _ _ ⟨Cond.after_iff.mpr rfl, Cond.after_iff.mpr (eq_i res_at (Term.int_eval (1)) rfl), trivial⟩ ⟨hq.1, hq.2.1, hq.2.2.1, (hq.2.2.2.sift fun y hy => Or.inr (N y hy)).mono (by decide) (by decide)⟩⟩
theorem main_1_1 : Claimed_1_1 := o_comes fun _ _ _ _ _ _ h hF => ⟨h.1, hF⟩
theorem main_1_2 : Claimed_1_2 := o_comes fun _ _ _ _ _ _ h hF => ⟨h.2.1, hF⟩
end Jvm.Pilot.@@N@@
namespace Jvm.Pilot.@@N@@
open Jvm Jvm.ClassFile Sem Op Lib Jvm.Free Jvm.Stand Jvm.Pilot.@@N@@.Jvm.D
/-! MADE BY PROGRAM (witnessworld.py) out of the Statement's table words and the real class files: 20 classes; the members and pool entries that the words name. The judged class is class 1, her method 1. -/
namespace start1
open Jvm.ClassFile
def u (s : String) : CpInfo := .utf8 (stringToUtf16 s)
/-- a pool by its gaps: so many unusable entries, then the entry; so many at the end -/
def gap : Nat → List CpInfo → List CpInfo
  | 0, r => r
  | n + 1, r => .unusable :: gap n r
def poolList (es : List (Nat × CpInfo)) (last : Nat) : List CpInfo := es.foldr (fun e r => gap e.1 (e.2 :: r)) (gap last [])
def pool (es : List (Nat × CpInfo)) (last : Nat) : Array CpInfo := ⟨poolList es last⟩
def fileOf (pool : Array CpInfo) (this : Nat) (attrs : Array Attribute := #[]) (ms : Array MethodInfo := #[]) (fl : Nat := 33) (sup : Nat := 0) (ifs : Array Nat := #[]) (fds : Array FieldInfo := #[]) : ClassFile where
  minorVersion := 0
  majorVersion := 65
  constantPool := pool
  accessFlags := fl
  thisClass := this
  superClass := sup
  interfaces := ifs
  fields := fds
  methods := ms
  attributes := attrs
def plain (name : String) (sup : Option ClassId) : Class where
  name := name
  kind := .ordinary
  loader := none
  accessFlags := 33
  super := sup
  interfaces := #[]
  cf := none
  fields := #[]
  methods := #[]
  instanceTypes := #[]
  staticTypes := #[]
  resolved := #[]
  callSites := []
  init := .initialized
  statics := none
  mirror := none

def pool0 : Array CpInfo := pool [(5, u "<init>"), (0, u "()V"), (1, .class_ 10), (1, u "java/lang/Object")] 113

def k0c0 : Code := { maxStack := 0, maxLocals := 1, code := object_method_1_code, exceptionTable := #[], attributes := #[] }
def k0m0 : Method := { name := "<init>", desc := "()V", sig := { parameters := [], returnType := none }, accessFlags := 1, code := some k0c0 }
/-- java/lang/Object -/
def k0 : Class := { plain "java/lang/Object" none with
  accessFlags := 33
  interfaces := #[]
  cf := some (fileOf pool0 8 #[] #[{ accessFlags := 1, nameIndex := 5, descriptorIndex := 6, attributes := #[] }] 33 0 #[] #[])
  fields := #[]
  methods := #[k0m0]
  instanceTypes := #[]
  staticTypes := #[]
  resolved := Array.replicate 124 none
  statics := none }

def pool1 : Array CpInfo := pool [(2, .class_ 4), (1, u "java/lang/Object"), (0, u "<init>"), (0, u "()V"), (0, .class_ 8), (0, u "java/lang/String"), (0, .methodref 7 10), (0, .nameAndType 5 11), (0, u "([C)V"), (0, .methodref 13 14), (0, .class_ 15), (0, .nameAndType 16 17), (0, u "com/example/orbweaver/orbweaver/AsciiText"), (0, u "lowerCase"), (0, u "(Ljava/lang/String;)Ljava/lang/String;"), (0, .methodref 7 19), (0, .nameAndType 20 21), (0, u "length"), (0, u "()I"), (0, .methodref 7 23), (0, .nameAndType 24 25), (0, u "charAt"), (0, u "(I)C"), (0, .methodref 27 28), (0, .class_ 29), (0, .nameAndType 30 31), (0, u "com/example/orbweaver/orbweaver/AsciiTextLowerCasePinLaw"), (0, u "expected"), (0, u "(C)C"), (2, u "law"), (0, u "(IIII)Z")] 5

def k1m0 : Method := { name := "<init>", desc := "()V", sig := { parameters := [], returnType := none }, accessFlags := 2, code := none }
def k1c1 : Code := { maxStack := 4, maxLocals := 10, code := code, exceptionTable := #[], attributes := #[] }
def k1m1 : Method := { name := "law", desc := "(IIII)Z", sig := { parameters := [.int, .int, .int, .int], returnType := some .boolean }, accessFlags := 9, code := some k1c1 }
def k1c2 : Code := { maxStack := 2, maxLocals := 1, code := method_3_code, exceptionTable := #[], attributes := #[] }
def k1m2 : Method := { name := "expected", desc := "(C)C", sig := { parameters := [.char], returnType := some .char }, accessFlags := 10, code := some k1c2 }
/-- com/example/orbweaver/orbweaver/AsciiTextLowerCasePinLaw -/
def k1 : Class := { plain "com/example/orbweaver/orbweaver/AsciiTextLowerCasePinLaw" (some 0) with
  accessFlags := 49
  interfaces := #[]
  cf := some (fileOf pool1 27 #[] #[{ accessFlags := 2, nameIndex := 5, descriptorIndex := 6, attributes := #[] }, { accessFlags := 9, nameIndex := 34, descriptorIndex := 35, attributes := #[] }, { accessFlags := 10, nameIndex := 30, descriptorIndex := 31, attributes := #[] }] 49 2 #[] #[])
  fields := #[]
  methods := #[k1m0, k1m1, k1m2]
  instanceTypes := #[]
  staticTypes := #[]
  resolved := Array.replicate 41 none
  statics := none }

def pool2 : Array CpInfo := pool [(1, .class_ 2), (0, u "java/io/Serializable"), (0, .class_ 4), (0, u "java/lang/Object")] 2

/-- java/io/Serializable -/
def k2 : Class := { plain "java/io/Serializable" (some 0) with
  accessFlags := 1537
  interfaces := #[]
  cf := some (fileOf pool2 1 #[] #[] 1537 3 #[] #[])
  fields := #[]
  methods := #[]
  instanceTypes := #[]
  staticTypes := #[]
  resolved := Array.replicate 7 none
  statics := none }

def pool3 : Array CpInfo := pool [(1, .class_ 2), (0, u "java/lang/Comparable"), (0, .class_ 4), (0, u "java/lang/Object")] 7

/-- java/lang/Comparable -/
def k3 : Class := { plain "java/lang/Comparable" (some 0) with
  accessFlags := 1537
  interfaces := #[]
  cf := some (fileOf pool3 1 #[] #[] 1537 3 #[] #[])
  fields := #[]
  methods := #[]
  instanceTypes := #[]
  staticTypes := #[]
  resolved := Array.replicate 12 none
  statics := none }

def pool4 : Array CpInfo := pool [(2, .class_ 4), (1, u "java/lang/CharSequence"), (42, .class_ 48), (0, u "java/lang/CharSequence$1CodePointIterator"), (10, .class_ 60), (0, u "java/lang/CharSequence$1CharIterator"), (5, .class_ 67), (0, u "java/lang/Object")] 63

/-- java/lang/CharSequence -/
def k4 : Class := { plain "java/lang/CharSequence" (some 0) with
  accessFlags := 1537
  interfaces := #[]
  cf := some (fileOf pool4 2 #[.nestMembers #[47, 59]] #[] 1537 66 #[] #[])
  fields := #[]
  methods := #[]
  instanceTypes := #[]
  staticTypes := #[]
  resolved := Array.replicate 131 none
  statics := none }

def pool5 : Array CpInfo := pool [(1, .class_ 2), (0, u "java/lang/constant/Constable"), (0, .class_ 4), (0, u "java/lang/Object")] 6

/-- java/lang/constant/Constable -/
def k5 : Class := { plain "java/lang/constant/Constable" (some 0) with
  accessFlags := 1537
  interfaces := #[]
  cf := some (fileOf pool5 1 #[] #[] 1537 3 #[] #[])
  fields := #[]
  methods := #[]
  instanceTypes := #[]
  staticTypes := #[]
  resolved := Array.replicate 11 none
  statics := none }

def pool6 : Array CpInfo := pool [(1, .class_ 2), (0, u "java/lang/constant/ConstantDesc"), (0, .class_ 4), (0, u "java/lang/Object")] 32

/-- java/lang/constant/ConstantDesc -/
def k6 : Class := { plain "java/lang/constant/ConstantDesc" (some 0) with
  accessFlags := 1537
  interfaces := #[]
  cf := some (fileOf pool6 1 #[] #[] 1537 3 #[] #[])
  fields := #[]
  methods := #[]
  instanceTypes := #[]
  staticTypes := #[]
  resolved := Array.replicate 37 none
  statics := none }

def pool7 : Array CpInfo := pool [(1, .methodref 2 3), (0, .class_ 4), (0, .nameAndType 5 6), (0, u "java/lang/Object"), (0, u "<init>"), (0, u "()V"), (0, .string 8), (0, u ""), (0, .fieldref 10 11), (0, .class_ 12), (0, .nameAndType 13 14), (0, u "java/lang/String"), (0, u "value"), (0, u "[B"), (0, .fieldref 10 16), (0, .nameAndType 17 18), (0, u "coder"), (0, u "B"), (2, u "hash"), (0, u "I"), (2, u "hashIsZero"), (0, u "Z"), (0, .methodref 10 28), (0, .nameAndType 5 29), (0, u "([CIILjava/lang/Void;)V"), (6, u "checkBoundsOffCount"), (0, u "(III)I"), (0, .fieldref 10 39), (0, .nameAndType 40 26), (0, u "COMPACT_STRINGS"), (1, .class_ 44), (1, u "java/lang/StringUTF16"), (0, u "compress"), (1, .methodref 42 48), (0, .nameAndType 49 50), (0, u "coderFromArrayLen"), (0, u "([BI)B"), (56, .class_ 109), (1, u "java/lang/StringLatin1"), (32, u "()Z"), (34, .methodref 42 178), (0, .nameAndType 45 179), (0, u "([CII)[B"), (119, .methodref 107 300), (0, .nameAndType 301 302), (0, u "toChars"), (0, u "([B)[C"), (0, .methodref 42 300), (30, u "()I"), (0, .methodref 10 336), (0, .nameAndType 17 337), (0, u "()B"), (25, u "([BI)C"), (27, u "(II)V"), (35, u "(I)C"), (64, .methodref 10 493), (0, .nameAndType 494 142), (0, u "isLatin1"), (0, .methodref 107 496), (0, .nameAndType 497 363), (0, u "charAt"), (0, .methodref 42 496), (2, u "checkIndex"), (5, u "length"), (67, .class_ 576), (0, u "java/lang/CharSequence"), (22, u "CASE_INSENSITIVE_ORDER"), (0, u "Ljava/util/Comparator;"), (354, u "toCharArray"), (0, u "()[C"), (53, u "([C)V"), (42, .fieldref 1054 1055), (0, .class_ 1056), (0, .nameAndType 1057 1058), (0, u "jdk/internal/util/Preconditions"), (0, u "SIOOBE_FORMATTER"), (0, u "Ljava/util/function/BiFunction;"), (0, .methodref 1054 1060), (0, .nameAndType 501 1061), (0, u "(IILjava/util/function/BiFunction;)I"), (2, u "(IIILjava/util/function/BiFunction;)I"), (0, .methodref 1054 1066), (0, .nameAndType 1067 1064), (0, u "checkFromIndexSize"), (33, u "serialPersistentFields"), (0, u "[Ljava/io/ObjectStreamField;"), (0, .class_ 1104), (0, u "java/lang/String$CaseInsensitiveComparator"), (1, .class_ 1107), (0, u "java/io/Serializable"), (0, .class_ 1109), (0, u "java/lang/Comparable"), (0, .class_ 1111), (0, u "java/lang/constant/Constable"), (0, .class_ 1113), (0, u "java/lang/constant/ConstantDesc"), (2, u "serialVersionUID"), (0, u "J"), (3, u "REPL"), (0, u "C"), (2, u "LATIN1"), (1, u "UTF16")] 323

def k7m0 : Method := { name := "<init>", desc := "()V", sig := { parameters := [], returnType := none }, accessFlags := 1, code := none }
def k7c1 : Code := { maxStack := 5, maxLocals := 2, code := jdk_42_method_3_code, exceptionTable := #[], attributes := #[] }
def k7m1 : Method := { name := "<init>", desc := "([C)V", sig := { parameters := [(.array .char)], returnType := none }, accessFlags := 1, code := some k7c1 }
def k7c2 : Code := { maxStack := 2, maxLocals := 1, code := jdk_42_method_54_code, exceptionTable := #[], attributes := #[] }
def k7m2 : Method := { name := "length", desc := "()I", sig := { parameters := [], returnType := some .int }, accessFlags := 1, code := some k7c2 }
def k7c3 : Code := { maxStack := 2, maxLocals := 2, code := jdk_42_method_56_code, exceptionTable := #[], attributes := #[] }
def k7m3 : Method := { name := "charAt", desc := "(I)C", sig := { parameters := [.int], returnType := some .char }, accessFlags := 1, code := some k7c3 }
def k7c4 : Code := { maxStack := 1, maxLocals := 1, code := jdk_42_method_129_code, exceptionTable := #[], attributes := #[] }
def k7m4 : Method := { name := "toCharArray", desc := "()[C", sig := { parameters := [], returnType := some (.array .char) }, accessFlags := 1, code := some k7c4 }
def k7c5 : Code := { maxStack := 4, maxLocals := 6, code := jdk_42_method_149_code, exceptionTable := #[], attributes := #[] }
def k7m5 : Method := { name := "<init>", desc := "([CIILjava/lang/Void;)V", sig := { parameters := [(.array .char), .int, .int, (.object "java/lang/Void")], returnType := none }, accessFlags := 2, code := some k7c5 }
def k7c6 : Code := { maxStack := 1, maxLocals := 1, code := jdk_42_method_152_code, exceptionTable := #[], attributes := #[] }
def k7m6 : Method := { name := "coder", desc := "()B", sig := { parameters := [], returnType := some .byte }, accessFlags := 0, code := some k7c6 }
def k7c7 : Code := { maxStack := 1, maxLocals := 1, code := jdk_42_method_154_code, exceptionTable := #[], attributes := #[] }
def k7m7 : Method := { name := "isLatin1", desc := "()Z", sig := { parameters := [], returnType := some .boolean }, accessFlags := 0, code := some k7c7 }
def k7c8 : Code := { maxStack := 3, maxLocals := 2, code := jdk_42_method_155_code, exceptionTable := #[], attributes := #[] }
def k7m8 : Method := { name := "checkIndex", desc := "(II)V", sig := { parameters := [.int, .int], returnType := none }, accessFlags := 8, code := some k7c8 }
def k7c9 : Code := { maxStack := 4, maxLocals := 3, code := jdk_42_method_157_code, exceptionTable := #[], attributes := #[] }
def k7m9 : Method := { name := "checkBoundsOffCount", desc := "(III)I", sig := { parameters := [.int, .int, .int], returnType := some .int }, accessFlags := 8, code := some k7c9 }
/-- java/lang/String -/
def k7 : Class := { plain "java/lang/String" (some 0) with
  accessFlags := 49
  interfaces := #[2, 3, 4, 5, 6]
  cf := some (fileOf pool7 10 #[.nestMembers #[1103]] #[{ accessFlags := 1, nameIndex := 5, descriptorIndex := 6, attributes := #[] }, { accessFlags := 1, nameIndex := 5, descriptorIndex := 1010, attributes := #[] }, { accessFlags := 1, nameIndex := 507, descriptorIndex := 334, attributes := #[] }, { accessFlags := 1, nameIndex := 497, descriptorIndex := 427, attributes := #[] }, { accessFlags := 1, nameIndex := 955, descriptorIndex := 956, attributes := #[] }, { accessFlags := 2, nameIndex := 5, descriptorIndex := 29, attributes := #[] }, { accessFlags := 0, nameIndex := 17, descriptorIndex := 337, attributes := #[] }, { accessFlags := 0, nameIndex := 494, descriptorIndex := 142, attributes := #[] }, { accessFlags := 8, nameIndex := 501, descriptorIndex := 391, attributes := #[] }, { accessFlags := 8, nameIndex := 36, descriptorIndex := 37, attributes := #[] }] 49 2 #[1106, 1108, 575, 1110, 1112] #[{ accessFlags := 18, nameIndex := 13, descriptorIndex := 14, attributes := #[] }, { accessFlags := 18, nameIndex := 17, descriptorIndex := 18, attributes := #[] }, { accessFlags := 2, nameIndex := 21, descriptorIndex := 22, attributes := #[] }, { accessFlags := 2, nameIndex := 25, descriptorIndex := 26, attributes := #[] }, { accessFlags := 26, nameIndex := 1116, descriptorIndex := 1117, attributes := #[] }, { accessFlags := 24, nameIndex := 40, descriptorIndex := 26, attributes := #[] }, { accessFlags := 26, nameIndex := 1101, descriptorIndex := 1102, attributes := #[] }, { accessFlags := 26, nameIndex := 1121, descriptorIndex := 1122, attributes := #[] }, { accessFlags := 25, nameIndex := 599, descriptorIndex := 600, attributes := #[] }, { accessFlags := 24, nameIndex := 1125, descriptorIndex := 18, attributes := #[] }, { accessFlags := 24, nameIndex := 1127, descriptorIndex := 18, attributes := #[] }])
  fields := #[{ name := "value", type := (.array .byte), accessFlags := 18, slot := 0, constantValue := 0 }, { name := "coder", type := .byte, accessFlags := 18, slot := 1, constantValue := 0 }, { name := "hash", type := .int, accessFlags := 2, slot := 2, constantValue := 0 }, { name := "hashIsZero", type := .boolean, accessFlags := 2, slot := 3, constantValue := 0 }, { name := "serialVersionUID", type := .long, accessFlags := 26, slot := 0, constantValue := 0 }, { name := "COMPACT_STRINGS", type := .boolean, accessFlags := 24, slot := 1, constantValue := 0 }, { name := "serialPersistentFields", type := (.array (.object "java/io/ObjectStreamField")), accessFlags := 26, slot := 2, constantValue := 0 }, { name := "REPL", type := .char, accessFlags := 26, slot := 3, constantValue := 0 }, { name := "CASE_INSENSITIVE_ORDER", type := (.object "java/util/Comparator"), accessFlags := 25, slot := 4, constantValue := 0 }, { name := "LATIN1", type := .byte, accessFlags := 24, slot := 5, constantValue := 0 }, { name := "UTF16", type := .byte, accessFlags := 24, slot := 6, constantValue := 0 }]
  methods := #[k7m0, k7m1, k7m2, k7m3, k7m4, k7m5, k7m6, k7m7, k7m8, k7m9]
  instanceTypes := #[(.array .byte), .byte, .int, .boolean]
  staticTypes := #[.long, .boolean, (.array (.object "java/io/ObjectStreamField")), .char, (.object "java/util/Comparator"), .byte, .byte]
  resolved := Array.replicate 1451 none
  statics := some 0 }

def pool8 : Array CpInfo := pool [(2, .class_ 4), (1, u "java/lang/Object"), (0, u "<init>"), (0, u "()V"), (1, .class_ 10), (1, u "java/lang/String"), (7, .class_ 20), (1, u "com/example/orbweaver/orbweaver/AsciiText"), (6, .methodref 8 28), (0, .nameAndType 29 30), (0, u "toCharArray"), (0, u "()[C"), (0, .methodref 18 32), (0, .nameAndType 33 34), (0, u "lowerCase"), (0, u "(I)I"), (0, .methodref 8 36), (0, .nameAndType 5 37), (0, u "([C)V"), (4, u "(Ljava/lang/String;)Ljava/lang/String;")] 4

def k8m0 : Method := { name := "<init>", desc := "()V", sig := { parameters := [], returnType := none }, accessFlags := 2, code := none }
def k8c1 : Code := { maxStack := 4, maxLocals := 3, code := prog_1_method_4_code, exceptionTable := #[], attributes := #[] }
def k8m1 : Method := { name := "lowerCase", desc := "(Ljava/lang/String;)Ljava/lang/String;", sig := { parameters := [(.object "java/lang/String")], returnType := some (.object "java/lang/String") }, accessFlags := 8, code := some k8c1 }
def k8c2 : Code := { maxStack := 2, maxLocals := 1, code := prog_1_method_5_code, exceptionTable := #[], attributes := #[] }
def k8m2 : Method := { name := "lowerCase", desc := "(I)I", sig := { parameters := [.int], returnType := some .int }, accessFlags := 8, code := some k8c2 }
/-- com/example/orbweaver/orbweaver/AsciiText -/
def k8 : Class := { plain "com/example/orbweaver/orbweaver/AsciiText" (some 0) with
  accessFlags := 32
  interfaces := #[]
  cf := some (fileOf pool8 18 #[] #[{ accessFlags := 2, nameIndex := 5, descriptorIndex := 6, attributes := #[] }, { accessFlags := 8, nameIndex := 33, descriptorIndex := 42, attributes := #[] }, { accessFlags := 8, nameIndex := 33, descriptorIndex := 34, attributes := #[] }] 32 2 #[] #[])
  fields := #[]
  methods := #[k8m0, k8m1, k8m2]
  instanceTypes := #[]
  staticTypes := #[]
  resolved := Array.replicate 47 none
  statics := none }

def pool9 : Array CpInfo := pool [(1, .class_ 2), (0, u "java/lang/String"), (1, .class_ 6), (1, u "java/lang/Object"), (0, u "<init>"), (0, u "()V"), (0, .methodref 1 10), (0, .nameAndType 11 12), (0, u "checkIndex"), (0, u "(II)V"), (0, .methodref 14 15), (0, .class_ 16), (0, .nameAndType 17 18), (0, u "java/lang/StringLatin1"), (0, u "inflate"), (0, u "([BI[CII)V"), (34, u "([BI)C"), (67, u "$assertionsDisabled"), (0, u "Z"), (69, u "toChars"), (28, .class_ 223), (1, u "java/lang/StringLatin1$LinesSpliterator"), (28, u "charAt"), (15, u "([B)[C"), (121, .class_ 391), (0, u "java/lang/StringLatin1$CharsSpliterator")] 3

def k9m0 : Method := { name := "<init>", desc := "()V", sig := { parameters := [], returnType := none }, accessFlags := 0, code := none }
def k9c1 : Code := { maxStack := 2, maxLocals := 2, code := jdk_43_method_2_code, exceptionTable := #[], attributes := #[] }
def k9m1 : Method := { name := "charAt", desc := "([BI)C", sig := { parameters := [(.array .byte), .int], returnType := some .char }, accessFlags := 9, code := some k9c1 }
def k9c2 : Code := { maxStack := 5, maxLocals := 2, code := jdk_43_method_9_code, exceptionTable := #[], attributes := #[] }
def k9m2 : Method := { name := "toChars", desc := "([B)[C", sig := { parameters := [(.array .byte)], returnType := some (.array .char) }, accessFlags := 9, code := some k9c2 }
def k9c3 : Code := { maxStack := 4, maxLocals := 6, code := jdk_43_method_49_code, exceptionTable := #[], attributes := #[] }
def k9m3 : Method := { name := "inflate", desc := "([BI[CII)V", sig := { parameters := [(.array .byte), .int, (.array .char), .int, .int], returnType := none }, accessFlags := 9, code := some k9c3 }
/-- java/lang/StringLatin1 -/
def k9 : Class := { plain "java/lang/StringLatin1" (some 0) with
  accessFlags := 48
  interfaces := #[]
  cf := some (fileOf pool9 14 #[.nestMembers #[390, 221]] #[{ accessFlags := 0, nameIndex := 7, descriptorIndex := 8, attributes := #[] }, { accessFlags := 9, nameIndex := 252, descriptorIndex := 53, attributes := #[] }, { accessFlags := 9, nameIndex := 192, descriptorIndex := 268, attributes := #[] }, { accessFlags := 9, nameIndex := 17, descriptorIndex := 18, attributes := #[] }] 48 4 #[] #[{ accessFlags := 4120, nameIndex := 121, descriptorIndex := 122, attributes := #[] }])
  fields := #[{ name := "$assertionsDisabled", type := .boolean, accessFlags := 4120, slot := 0, constantValue := 0 }]
  methods := #[k9m0, k9m1, k9m2, k9m3]
  instanceTypes := #[]
  staticTypes := #[.boolean]
  resolved := Array.replicate 395 none
  statics := none }

def pool10 : Array CpInfo := pool [(3, .class_ 4), (0, u "java/lang/String"), (1, .class_ 8), (1, u "java/lang/Object"), (0, u "<init>"), (0, u "()V"), (0, .methodref 12 13), (0, .class_ 14), (0, .nameAndType 15 16), (0, u "java/lang/StringUTF16"), (0, u "newBytesLength"), (0, u "(I)I"), (3, .integer 1073741823), (23, .fieldref 12 45), (0, .nameAndType 46 47), (0, u "$assertionsDisabled"), (0, u "Z"), (0, .methodref 12 49), (0, .nameAndType 50 51), (0, u "length"), (0, u "([B)I"), (7, .fieldref 12 60), (0, .nameAndType 61 62), (0, u "HI_BYTE_SHIFT"), (0, u "I"), (0, .fieldref 12 64), (0, .nameAndType 65 62), (0, u "LO_BYTE_SHIFT"), (1, .methodref 12 68), (0, .nameAndType 69 70), (0, u "checkIndex"), (0, u "(I[B)V"), (0, .methodref 12 72), (0, .nameAndType 73 74), (0, u "getChar"), (0, u "([BI)C"), (24, u "(II[B)V"), (3, .methodref 12 104), (0, .nameAndType 105 106), (0, u "getChars"), (0, u "([BII[CI)V"), (0, .methodref 12 108), (0, .nameAndType 109 110), (0, u "newBytesFor"), (0, u "(I)[B"), (0, .methodref 12 112), (0, .nameAndType 113 114), (0, u "putChar"), (0, u "([BII)V"), (0, .methodref 12 116), (0, .nameAndType 117 118), (0, u "compress"), (0, u "([CI[BII)I"), (0, .methodref 12 120), (0, .nameAndType 121 122), (0, u "toBytes"), (0, u "([CII)[B"), (50, .methodref 12 174), (0, .nameAndType 175 99), (0, u "checkBoundsOffCount"), (85, u "coderFromArrayLen"), (0, u "([BI)B"), (18, u "(III)I"), (60, u "toChars"), (26, .class_ 371), (1, u "java/lang/StringUTF16$LinesSpliterator"), (20, u "charAt"), (21, .methodref 3 415), (0, .nameAndType 69 416), (0, u "(II)V"), (2, .methodref 3 420), (0, .nameAndType 175 281), (9, u "MAX_LENGTH"), (23, u "([B)[C"), (172, .class_ 628), (0, u "java/lang/StringUTF16$CodePointsSpliterator"), (0, .class_ 630), (0, u "java/lang/StringUTF16$CharsSpliterator")] 4

def k10m0 : Method := { name := "<init>", desc := "()V", sig := { parameters := [], returnType := none }, accessFlags := 0, code := none }
def k10c1 : Code := { maxStack := 1, maxLocals := 1, code := jdk_52_method_2_code, exceptionTable := #[], attributes := #[] }
def k10m1 : Method := { name := "newBytesFor", desc := "(I)[B", sig := { parameters := [.int], returnType := some (.array .byte) }, accessFlags := 9, code := some k10c1 }
def k10c2 : Code := { maxStack := 4, maxLocals := 1, code := jdk_52_method_3_code, exceptionTable := #[], attributes := #[] }
def k10m2 : Method := { name := "newBytesLength", desc := "(I)I", sig := { parameters := [.int], returnType := some .int }, accessFlags := 9, code := some k10c2 }
def k10c3 : Code := { maxStack := 4, maxLocals := 3, code := jdk_52_method_4_code, exceptionTable := #[], attributes := #[] }
def k10m3 : Method := { name := "putChar", desc := "([BII)V", sig := { parameters := [(.array .byte), .int, .int], returnType := none }, accessFlags := 8, code := some k10c3 }
def k10c4 : Code := { maxStack := 3, maxLocals := 2, code := jdk_52_method_5_code, exceptionTable := #[], attributes := #[] }
def k10m4 : Method := { name := "getChar", desc := "([BI)C", sig := { parameters := [(.array .byte), .int], returnType := some .char }, accessFlags := 8, code := some k10c4 }
def k10c5 : Code := { maxStack := 2, maxLocals := 1, code := jdk_52_method_6_code, exceptionTable := #[], attributes := #[] }
def k10m5 : Method := { name := "length", desc := "([B)I", sig := { parameters := [(.array .byte)], returnType := some .int }, accessFlags := 9, code := some k10c5 }
def k10c6 : Code := { maxStack := 5, maxLocals := 2, code := jdk_52_method_13_code, exceptionTable := #[], attributes := #[] }
def k10m6 : Method := { name := "toChars", desc := "([B)[C", sig := { parameters := [(.array .byte)], returnType := some (.array .char) }, accessFlags := 9, code := some k10c6 }
def k10c7 : Code := { maxStack := 4, maxLocals := 5, code := jdk_52_method_14_code, exceptionTable := #[], attributes := #[] }
def k10m7 : Method := { name := "toBytes", desc := "([CII)[B", sig := { parameters := [(.array .char), .int, .int], returnType := some (.array .byte) }, accessFlags := 9, code := some k10c7 }
def k10c8 : Code := { maxStack := 2, maxLocals := 2, code := jdk_52_method_15_code, exceptionTable := #[], attributes := #[] }
def k10m8 : Method := { name := "coderFromArrayLen", desc := "([BI)B", sig := { parameters := [(.array .byte), .int], returnType := some .byte }, accessFlags := 8, code := some k10c8 }
def k10c9 : Code := { maxStack := 5, maxLocals := 6, code := jdk_52_method_16_code, exceptionTable := #[], attributes := #[] }
def k10m9 : Method := { name := "compress", desc := "([CII)[B", sig := { parameters := [(.array .char), .int, .int], returnType := some (.array .byte) }, accessFlags := 9, code := some k10c9 }
def k10c10 : Code := { maxStack := 3, maxLocals := 7, code := jdk_52_method_21_code, exceptionTable := #[], attributes := #[] }
def k10m10 : Method := { name := "compress", desc := "([CI[BII)I", sig := { parameters := [(.array .char), .int, (.array .byte), .int, .int], returnType := some .int }, accessFlags := 9, code := some k10c10 }
def k10c11 : Code := { maxStack := 4, maxLocals := 6, code := jdk_52_method_26_code, exceptionTable := #[], attributes := #[] }
def k10m11 : Method := { name := "getChars", desc := "([BII[CI)V", sig := { parameters := [(.array .byte), .int, .int, (.array .char), .int], returnType := none }, accessFlags := 9, code := some k10c11 }
def k10c12 : Code := { maxStack := 2, maxLocals := 2, code := jdk_52_method_83_code, exceptionTable := #[], attributes := #[] }
def k10m12 : Method := { name := "charAt", desc := "([BI)C", sig := { parameters := [(.array .byte), .int], returnType := some .char }, accessFlags := 9, code := some k10c12 }
def k10c13 : Code := { maxStack := 2, maxLocals := 2, code := jdk_52_method_91_code, exceptionTable := #[], attributes := #[] }
def k10m13 : Method := { name := "checkIndex", desc := "(I[B)V", sig := { parameters := [.int, (.array .byte)], returnType := none }, accessFlags := 9, code := some k10c13 }
def k10c14 : Code := { maxStack := 3, maxLocals := 3, code := jdk_52_method_94_code, exceptionTable := #[], attributes := #[] }
def k10m14 : Method := { name := "checkBoundsOffCount", desc := "(II[B)V", sig := { parameters := [.int, .int, (.array .byte)], returnType := none }, accessFlags := 9, code := some k10c14 }
/-- java/lang/StringUTF16 -/
def k10 : Class := { plain "java/lang/StringUTF16" (some 0) with
  accessFlags := 48
  interfaces := #[]
  cf := some (fileOf pool10 12 #[.nestMembers #[627, 629, 369]] #[{ accessFlags := 0, nameIndex := 9, descriptorIndex := 10, attributes := #[] }, { accessFlags := 9, nameIndex := 109, descriptorIndex := 110, attributes := #[] }, { accessFlags := 9, nameIndex := 15, descriptorIndex := 16, attributes := #[] }, { accessFlags := 8, nameIndex := 113, descriptorIndex := 114, attributes := #[] }, { accessFlags := 8, nameIndex := 73, descriptorIndex := 74, attributes := #[] }, { accessFlags := 9, nameIndex := 50, descriptorIndex := 51, attributes := #[] }, { accessFlags := 9, nameIndex := 342, descriptorIndex := 454, attributes := #[] }, { accessFlags := 9, nameIndex := 121, descriptorIndex := 122, attributes := #[] }, { accessFlags := 8, nameIndex := 261, descriptorIndex := 262, attributes := #[] }, { accessFlags := 9, nameIndex := 117, descriptorIndex := 122, attributes := #[] }, { accessFlags := 9, nameIndex := 117, descriptorIndex := 118, attributes := #[] }, { accessFlags := 9, nameIndex := 105, descriptorIndex := 106, attributes := #[] }, { accessFlags := 9, nameIndex := 392, descriptorIndex := 74, attributes := #[] }, { accessFlags := 9, nameIndex := 69, descriptorIndex := 70, attributes := #[] }, { accessFlags := 9, nameIndex := 175, descriptorIndex := 99, attributes := #[] }] 48 6 #[] #[{ accessFlags := 26, nameIndex := 61, descriptorIndex := 62, attributes := #[] }, { accessFlags := 26, nameIndex := 65, descriptorIndex := 62, attributes := #[] }, { accessFlags := 24, nameIndex := 430, descriptorIndex := 62, attributes := #[] }, { accessFlags := 4120, nameIndex := 46, descriptorIndex := 47, attributes := #[] }])
  fields := #[{ name := "HI_BYTE_SHIFT", type := .int, accessFlags := 26, slot := 0, constantValue := 0 }, { name := "LO_BYTE_SHIFT", type := .int, accessFlags := 26, slot := 1, constantValue := 0 }, { name := "MAX_LENGTH", type := .int, accessFlags := 24, slot := 2, constantValue := 0 }, { name := "$assertionsDisabled", type := .boolean, accessFlags := 4120, slot := 3, constantValue := 0 }]
  methods := #[k10m0, k10m1, k10m2, k10m3, k10m4, k10m5, k10m6, k10m7, k10m8, k10m9, k10m10, k10m11, k10m12, k10m13, k10m14]
  instanceTypes := #[]
  staticTypes := #[.int, .int, .int, .boolean]
  resolved := Array.replicate 635 none
  statics := some 1 }

def pool11 : Array CpInfo := pool [(2, .class_ 4), (1, u "java/lang/Object"), (0, u "<init>"), (0, u "()V"), (17, .class_ 26), (1, u "jdk/internal/util/Preconditions"), (6, u "checkIndex"), (15, u "checkFromIndexSize"), (5, .class_ 56), (0, u "jdk/internal/util/Preconditions$4"), (57, .class_ 115), (0, u "jdk/internal/util/Preconditions$1"), (7, u "SIOOBE_FORMATTER"), (0, u "Ljava/util/function/BiFunction;"), (0, .class_ 126), (0, u "jdk/internal/util/Preconditions$2"), (3, u "AIOOBE_FORMATTER"), (0, .class_ 132), (0, u "jdk/internal/util/Preconditions$3"), (3, u "IOOBE_FORMATTER"), (41, u "(IILjava/util/function/BiFunction;)I"), (4, u "(IIILjava/util/function/BiFunction;)I")] 10

def k11m0 : Method := { name := "<init>", desc := "()V", sig := { parameters := [], returnType := none }, accessFlags := 1, code := none }
def k11c1 : Code := { maxStack := 3, maxLocals := 3, code := jdk_41_method_11_code, exceptionTable := #[], attributes := #[] }
def k11m1 : Method := { name := "checkIndex", desc := "(IILjava/util/function/BiFunction;)I", sig := { parameters := [.int, .int, (.object "java/util/function/BiFunction")], returnType := some .int }, accessFlags := 9, code := some k11c1 }
def k11c2 : Code := { maxStack := 4, maxLocals := 4, code := jdk_41_method_13_code, exceptionTable := #[], attributes := #[] }
def k11m2 : Method := { name := "checkFromIndexSize", desc := "(IIILjava/util/function/BiFunction;)I", sig := { parameters := [.int, .int, .int, (.object "java/util/function/BiFunction")], returnType := some .int }, accessFlags := 9, code := some k11c2 }
/-- jdk/internal/util/Preconditions -/
def k11 : Class := { plain "jdk/internal/util/Preconditions" (some 0) with
  accessFlags := 33
  interfaces := #[]
  cf := some (fileOf pool11 24 #[.nestMembers #[55, 131, 125, 114]] #[{ accessFlags := 1, nameIndex := 5, descriptorIndex := 6, attributes := #[] }, { accessFlags := 9, nameIndex := 33, descriptorIndex := 178, attributes := #[] }, { accessFlags := 9, nameIndex := 49, descriptorIndex := 183, attributes := #[] }] 33 2 #[] #[{ accessFlags := 25, nameIndex := 123, descriptorIndex := 124, attributes := #[] }, { accessFlags := 25, nameIndex := 130, descriptorIndex := 124, attributes := #[] }, { accessFlags := 25, nameIndex := 136, descriptorIndex := 124, attributes := #[] }])
  fields := #[{ name := "SIOOBE_FORMATTER", type := (.object "java/util/function/BiFunction"), accessFlags := 25, slot := 0, constantValue := 0 }, { name := "AIOOBE_FORMATTER", type := (.object "java/util/function/BiFunction"), accessFlags := 25, slot := 1, constantValue := 0 }, { name := "IOOBE_FORMATTER", type := (.object "java/util/function/BiFunction"), accessFlags := 25, slot := 2, constantValue := 0 }]
  methods := #[k11m0, k11m1, k11m2]
  instanceTypes := #[]
  staticTypes := #[(.object "java/util/function/BiFunction"), (.object "java/util/function/BiFunction"), (.object "java/util/function/BiFunction")]
  resolved := Array.replicate 194 none
  statics := some 2 }

def pool12 : Array CpInfo := pool [(9, u "<init>"), (6, .class_ 18), (1, u "java/lang/Object"), (0, u "()V"), (1, .class_ 23), (1, u "jdk/internal/util/ArraysSupport"), (0, u "LOG2_ARRAY_LONG_INDEX_SCALE"), (0, u "I"), (2, u "U"), (0, u "Ljdk/internal/misc/Unsafe;"), (8, u "BIG_ENDIAN"), (0, u "Z"), (8, u "LOG2_BYTE_BIT_SIZE"), (4, u "LOG2_ARRAY_INT_INDEX_SCALE"), (54, u "JLA"), (0, u "Ljdk/internal/access/JavaLangAccess;"), (11, u "LOG2_ARRAY_BOOLEAN_INDEX_SCALE"), (9, u "LOG2_ARRAY_BYTE_INDEX_SCALE"), (5, u "LOG2_ARRAY_CHAR_INDEX_SCALE"), (5, u "LOG2_ARRAY_SHORT_INDEX_SCALE"), (18, u "LOG2_ARRAY_FLOAT_INDEX_SCALE"), (24, u "LOG2_ARRAY_DOUBLE_INDEX_SCALE"), (89, u "T_BOOLEAN"), (2, u "T_CHAR"), (1, u "T_FLOAT"), (1, u "T_DOUBLE"), (1, u "T_BYTE"), (1, u "T_SHORT"), (1, u "T_INT"), (1, u "T_LONG"), (1, u "SOFT_MAX_ARRAY_LENGTH")] 83

def k12m0 : Method := { name := "<init>", desc := "()V", sig := { parameters := [], returnType := none }, accessFlags := 2, code := none }
/-- jdk/internal/util/ArraysSupport -/
def k12 : Class := { plain "jdk/internal/util/ArraysSupport" (some 0) with
  accessFlags := 33
  interfaces := #[]
  cf := some (fileOf pool12 21 #[] #[{ accessFlags := 2, nameIndex := 9, descriptorIndex := 19, attributes := #[] }] 33 16 #[] #[{ accessFlags := 24, nameIndex := 28, descriptorIndex := 29, attributes := #[] }, { accessFlags := 26, nameIndex := 38, descriptorIndex := 39, attributes := #[] }, { accessFlags := 25, nameIndex := 121, descriptorIndex := 25, attributes := #[] }, { accessFlags := 25, nameIndex := 131, descriptorIndex := 25, attributes := #[] }, { accessFlags := 25, nameIndex := 137, descriptorIndex := 25, attributes := #[] }, { accessFlags := 25, nameIndex := 143, descriptorIndex := 25, attributes := #[] }, { accessFlags := 25, nameIndex := 53, descriptorIndex := 25, attributes := #[] }, { accessFlags := 25, nameIndex := 24, descriptorIndex := 25, attributes := #[] }, { accessFlags := 25, nameIndex := 162, descriptorIndex := 25, attributes := #[] }, { accessFlags := 25, nameIndex := 187, descriptorIndex := 25, attributes := #[] }, { accessFlags := 26, nameIndex := 48, descriptorIndex := 25, attributes := #[] }, { accessFlags := 25, nameIndex := 277, descriptorIndex := 25, attributes := #[] }, { accessFlags := 25, nameIndex := 280, descriptorIndex := 25, attributes := #[] }, { accessFlags := 25, nameIndex := 282, descriptorIndex := 25, attributes := #[] }, { accessFlags := 25, nameIndex := 284, descriptorIndex := 25, attributes := #[] }, { accessFlags := 25, nameIndex := 286, descriptorIndex := 25, attributes := #[] }, { accessFlags := 25, nameIndex := 288, descriptorIndex := 25, attributes := #[] }, { accessFlags := 25, nameIndex := 290, descriptorIndex := 25, attributes := #[] }, { accessFlags := 25, nameIndex := 292, descriptorIndex := 25, attributes := #[] }, { accessFlags := 26, nameIndex := 108, descriptorIndex := 109, attributes := #[] }, { accessFlags := 25, nameIndex := 294, descriptorIndex := 25, attributes := #[] }])
  fields := #[{ name := "U", type := (.object "jdk/internal/misc/Unsafe"), accessFlags := 24, slot := 0, constantValue := 0 }, { name := "BIG_ENDIAN", type := .boolean, accessFlags := 26, slot := 1, constantValue := 0 }, { name := "LOG2_ARRAY_BOOLEAN_INDEX_SCALE", type := .int, accessFlags := 25, slot := 2, constantValue := 0 }, { name := "LOG2_ARRAY_BYTE_INDEX_SCALE", type := .int, accessFlags := 25, slot := 3, constantValue := 0 }, { name := "LOG2_ARRAY_CHAR_INDEX_SCALE", type := .int, accessFlags := 25, slot := 4, constantValue := 0 }, { name := "LOG2_ARRAY_SHORT_INDEX_SCALE", type := .int, accessFlags := 25, slot := 5, constantValue := 0 }, { name := "LOG2_ARRAY_INT_INDEX_SCALE", type := .int, accessFlags := 25, slot := 6, constantValue := 0 }, { name := "LOG2_ARRAY_LONG_INDEX_SCALE", type := .int, accessFlags := 25, slot := 7, constantValue := 0 }, { name := "LOG2_ARRAY_FLOAT_INDEX_SCALE", type := .int, accessFlags := 25, slot := 8, constantValue := 0 }, { name := "LOG2_ARRAY_DOUBLE_INDEX_SCALE", type := .int, accessFlags := 25, slot := 9, constantValue := 0 }, { name := "LOG2_BYTE_BIT_SIZE", type := .int, accessFlags := 26, slot := 10, constantValue := 0 }, { name := "T_BOOLEAN", type := .int, accessFlags := 25, slot := 11, constantValue := 0 }, { name := "T_CHAR", type := .int, accessFlags := 25, slot := 12, constantValue := 0 }, { name := "T_FLOAT", type := .int, accessFlags := 25, slot := 13, constantValue := 0 }, { name := "T_DOUBLE", type := .int, accessFlags := 25, slot := 14, constantValue := 0 }, { name := "T_BYTE", type := .int, accessFlags := 25, slot := 15, constantValue := 0 }, { name := "T_SHORT", type := .int, accessFlags := 25, slot := 16, constantValue := 0 }, { name := "T_INT", type := .int, accessFlags := 25, slot := 17, constantValue := 0 }, { name := "T_LONG", type := .int, accessFlags := 25, slot := 18, constantValue := 0 }, { name := "JLA", type := (.object "jdk/internal/access/JavaLangAccess"), accessFlags := 26, slot := 19, constantValue := 0 }, { name := "SOFT_MAX_ARRAY_LENGTH", type := .int, accessFlags := 25, slot := 20, constantValue := 0 }]
  methods := #[k12m0]
  instanceTypes := #[]
  staticTypes := #[(.object "jdk/internal/misc/Unsafe"), .boolean, .int, .int, .int, .int, .int, .int, .int, .int, .int, .int, .int, .int, .int, .int, .int, .int, .int, (.object "jdk/internal/access/JavaLangAccess"), .int]
  resolved := Array.replicate 378 none
  statics := none }

def pool13 : Array CpInfo := pool [(1, u "java/lang/Cloneable"), (0, .class_ 1), (0, u "java/lang/Object"), (0, .class_ 3)] 3

/-- java/lang/Cloneable -/
def k13 : Class := { plain "java/lang/Cloneable" (some 0) with
  accessFlags := 1537
  interfaces := #[]
  cf := some (fileOf pool13 2 #[] #[] 1537 4 #[] #[])
  fields := #[]
  methods := #[]
  instanceTypes := #[]
  staticTypes := #[]
  resolved := Array.replicate 8 none
  statics := none }

/-- the primitive byte -/
def k14 : Class := { plain "byte" none with kind := .primitive 'B', accessFlags := 0x411 }
/-- [B -/
def k15 : Class := { plain "[B" (some 0) with kind := .array 14 .byte, interfaces := #[13, 2], accessFlags := 1041 }

/-- the primitive char -/
def k16 : Class := { plain "char" none with kind := .primitive 'C', accessFlags := 0x411 }
/-- [C -/
def k17 : Class := { plain "[C" (some 0) with kind := .array 16 .char, interfaces := #[13, 2], accessFlags := 1041 }

/-- the primitive int -/
def k18 : Class := { plain "int" none with kind := .primitive 'I', accessFlags := 0x411 }
/-- [I -/
def k19 : Class := { plain "[I" (some 0) with kind := .array 18 .int, interfaces := #[13, 2], accessFlags := 1041 }

def heap : Heap := #[{ cls := 7, slots := #[.long 0, .int 1, .null, .int 0, .null, .int 0, .int 0], vm := .statics 7 },
  { cls := 10, slots := #[.int 0, .int 8, .int 0, .int 1], vm := .statics 10 },
  { cls := 11, slots := #[.null, .null, .null], vm := .statics 11 }]
def classes : Array Class := #[k0, k1, k2, k3, k4, k5, k6, k7, k8, k9, k10, k11, k12, k13, k14, k15, k16, k17, k18, k19]
def interned : List (Array UInt16 × Addr) := []
def slotsUsed : Nat := 14
def theMethod : MethodId := ⟨1, 1⟩
def args0 : Array Value := #[.int 3, .int 65, .int 300, .int 2]
def aboutOver (below : List Frame) : State where
  vm := { classes := classes, interned := interned.toArray }
  heap := heap
  slotsUsed := slotsUsed
  threads := #[{ frames := .invoking theMethod args0 :: below }]
def below0 : List Frame := [.native { method := ⟨0, 0⟩, args := #[] }]
def about1 : State := aboutOver below0
def p0 : Program := .bare "" "" ""
def e0 : Env := launch0.env 0 0 0
theorem w_frames : about1.frames = Frame.invoking theMethod args0 :: below0 := rfl
set_option maxRecDepth 65536 in
theorem w_args : argsFit about1.vm theMethod args0 = true := by decide +kernel
set_option maxRecDepth 65536 in
theorem w_heap : heapFits about1 = true := by decide +kernel
set_option maxRecDepth 65536 in
theorem w_runnable : about1.curStatus? = some .runnable := by decide +kernel
set_option maxRecDepth 65536 in
theorem w_alone : about1.alone = true := by decide +kernel
set_option maxRecDepth 65536 in
theorem w_named : about1.methodNamed? x = some theMethod := by decide +kernel
set_option maxRecDepth 65536 in
theorem w_hears : about1.hears theMethod below0 = true := by decide +kernel
set_option maxRecDepth 65536 in
theorem w_ripe : about1.ripe theMethod args0 below0 = true := by decide +kernel
theorem w_running : about1.status = .running := rfl
set_option maxRecDepth 65536 in
theorem w_room : about1.hasRoom e0.platform room_1 = true :=
  launch0.hasRoom_least _ room_1 (by decide +kernel) (by decide +kernel) (by decide +kernel) (by decide +kernel) (by decide +kernel) (by decide +kernel)
theorem allAtoms_all (ts : List Jvm.Cond) (a : Array Jvm.Value) (st : Jvm.State) : (allAtoms ts).before a st = ts.all (fun c => c.before a st) := by
  induction ts with
  | nil => rfl
  | cons c t ih =>
    show (Jvm.Cond.and c (allAtoms t)).before a st = _
    rw [Jvm.Cond.before_and, ih, List.all_cons]
def words1 : List Jvm.Cond := Jvm.Cond.code x code maxLocals ret :: tables_1
/-- a 'code' word, met by the world's own term for the bytes: nothing is compared byte by byte -/
theorem code_word {y : MethodName} {bytes : ByteArray} {mx : Nat} {rt : Option FieldType} {a : Array Value} {s : State} {m : MethodId} {meth : Method} {c : Code} (h1 : s.methodNamed? y = some m) (h2 : s.vm.method? m = some meth) (h3 : meth.code = some c) (h4 : c.code = bytes)
    (h5 : (c.maxLocals == mx && c.exceptionTable.isEmpty && decide (c.maxStack ≤ mostOperands) && decide (meth.sig.returnType = rt) && !meth.locks && decide (parseMethodDescriptor y.desc = some meth.sig)) = true) : (Jvm.Cond.code y bytes mx rt).before a s = true := by
  simp only [Bool.and_eq_true, beq_iff_eq, Bool.not_eq_true', decide_eq_true_eq] at h5
  obtain ⟨⟨⟨⟨⟨g1, g2⟩, g3⟩, g4⟩, g5⟩, g6⟩ := h5
  simp [Cond.before, Cond.holds, Cond.value, h1, h2, h3, h4, g1, g2, g3, g4, g5, g6]
def isCode : Jvm.Cond → Bool
  | .code _ _ _ _ => true
  | _ => false
theorem all_split {L : List Jvm.Cond} {P : Jvm.Cond → Bool} (h1 : L.all (fun c => isCode c || P c) = true) (h2 : ∀ c ∈ L.filter isCode, P c = true) : L.all P = true := by
  refine List.all_eq_true.mpr fun c hc => ?_
  have h := List.all_eq_true.mp h1 c hc
  rcases Bool.eq_false_or_eq_true (isCode c) with hi | hi
  · exact h2 c (List.mem_filter.mpr ⟨hc, hi⟩)
  · simpa [hi] using h
set_option maxRecDepth 65536 in
theorem w_c0 : (Jvm.Cond.code x code maxLocals ret).before args0 about1 = true := code_word (m := ⟨1, 1⟩) (meth := k1m1) (c := k1c1) (by decide +kernel) rfl rfl rfl (by decide +kernel)
set_option maxRecDepth 65536 in
theorem w_c1 : (Jvm.Cond.code ({ cls := "java/lang/String", name := "<init>", desc := "([C)V" } : Jvm.MethodName) jdk_42_method_3_code (2 : Nat) (Option.none : Option Jvm.ClassFile.FieldType)).before args0 about1 = true := code_word (m := ⟨7, 1⟩) (meth := k7m1) (c := k7c1) (by decide +kernel) rfl rfl rfl (by decide +kernel)
set_option maxRecDepth 65536 in
theorem w_c2 : (Jvm.Cond.code ({ cls := "java/lang/String", name := "<init>", desc := "([CIILjava/lang/Void;)V" } : Jvm.MethodName) jdk_42_method_149_code (6 : Nat) (Option.none : Option Jvm.ClassFile.FieldType)).before args0 about1 = true := code_word (m := ⟨7, 5⟩) (meth := k7m5) (c := k7c5) (by decide +kernel) rfl rfl rfl (by decide +kernel)
set_option maxRecDepth 65536 in
theorem w_c3 : (Jvm.Cond.code ({ cls := "java/lang/Object", name := "<init>", desc := "()V" } : Jvm.MethodName) object_method_1_code (1 : Nat) (Option.none : Option Jvm.ClassFile.FieldType)).before args0 about1 = true := code_word (m := ⟨0, 0⟩) (meth := k0m0) (c := k0c0) (by decide +kernel) rfl rfl rfl (by decide +kernel)
set_option maxRecDepth 65536 in
theorem w_c4 : (Jvm.Cond.code ({ cls := "com/example/orbweaver/orbweaver/AsciiText", name := "lowerCase", desc := "(Ljava/lang/String;)Ljava/lang/String;" } : Jvm.MethodName) prog_1_method_4_code (3 : Nat) (Option.some (Jvm.ClassFile.FieldType.object "java/lang/String"))).before args0 about1 = true := code_word (m := ⟨8, 1⟩) (meth := k8m1) (c := k8c1) (by decide +kernel) rfl rfl rfl (by decide +kernel)
set_option maxRecDepth 65536 in
theorem w_c5 : (Jvm.Cond.code ({ cls := "java/lang/String", name := "toCharArray", desc := "()[C" } : Jvm.MethodName) jdk_42_method_129_code (1 : Nat) (Option.some (Jvm.ClassFile.FieldType.array Jvm.ClassFile.FieldType.char))).before args0 about1 = true := code_word (m := ⟨7, 4⟩) (meth := k7m4) (c := k7c4) (by decide +kernel) rfl rfl rfl (by decide +kernel)
set_option maxRecDepth 65536 in
theorem w_c6 : (Jvm.Cond.code ({ cls := "java/lang/String", name := "isLatin1", desc := "()Z" } : Jvm.MethodName) jdk_42_method_154_code (1 : Nat) (Option.some Jvm.ClassFile.FieldType.boolean)).before args0 about1 = true := code_word (m := ⟨7, 7⟩) (meth := k7m7) (c := k7c7) (by decide +kernel) rfl rfl rfl (by decide +kernel)
set_option maxRecDepth 65536 in
theorem w_c7 : (Jvm.Cond.code ({ cls := "java/lang/StringLatin1", name := "toChars", desc := "([B)[C" } : Jvm.MethodName) jdk_43_method_9_code (2 : Nat) (Option.some (Jvm.ClassFile.FieldType.array Jvm.ClassFile.FieldType.char))).before args0 about1 = true := code_word (m := ⟨9, 2⟩) (meth := k9m2) (c := k9c2) (by decide +kernel) rfl rfl rfl (by decide +kernel)
set_option maxRecDepth 65536 in
theorem w_c8 : (Jvm.Cond.code ({ cls := "java/lang/StringLatin1", name := "inflate", desc := "([BI[CII)V" } : Jvm.MethodName) jdk_43_method_49_code (6 : Nat) (Option.none : Option Jvm.ClassFile.FieldType)).before args0 about1 = true := code_word (m := ⟨9, 3⟩) (meth := k9m3) (c := k9c3) (by decide +kernel) rfl rfl rfl (by decide +kernel)
set_option maxRecDepth 65536 in
theorem w_c9 : (Jvm.Cond.code ({ cls := "java/lang/String", name := "length", desc := "()I" } : Jvm.MethodName) jdk_42_method_54_code (1 : Nat) (Option.some Jvm.ClassFile.FieldType.int)).before args0 about1 = true := code_word (m := ⟨7, 2⟩) (meth := k7m2) (c := k7c2) (by decide +kernel) rfl rfl rfl (by decide +kernel)
set_option maxRecDepth 65536 in
theorem w_c10 : (Jvm.Cond.code ({ cls := "java/lang/String", name := "coder", desc := "()B" } : Jvm.MethodName) jdk_42_method_152_code (1 : Nat) (Option.some Jvm.ClassFile.FieldType.byte)).before args0 about1 = true := code_word (m := ⟨7, 6⟩) (meth := k7m6) (c := k7c6) (by decide +kernel) rfl rfl rfl (by decide +kernel)
set_option maxRecDepth 65536 in
theorem w_c11 : (Jvm.Cond.code ({ cls := "java/lang/StringUTF16", name := "compress", desc := "([CII)[B" } : Jvm.MethodName) jdk_52_method_16_code (6 : Nat) (Option.some (Jvm.ClassFile.FieldType.array Jvm.ClassFile.FieldType.byte))).before args0 about1 = true := code_word (m := ⟨10, 9⟩) (meth := k10m9) (c := k10c9) (by decide +kernel) rfl rfl rfl (by decide +kernel)
set_option maxRecDepth 65536 in
theorem w_c12 : (Jvm.Cond.code ({ cls := "java/lang/StringUTF16", name := "compress", desc := "([CI[BII)I" } : Jvm.MethodName) jdk_52_method_21_code (7 : Nat) (Option.some Jvm.ClassFile.FieldType.int)).before args0 about1 = true := code_word (m := ⟨10, 10⟩) (meth := k10m10) (c := k10c10) (by decide +kernel) rfl rfl rfl (by decide +kernel)
set_option maxRecDepth 65536 in
theorem w_c13 : (Jvm.Cond.code ({ cls := "java/lang/StringUTF16", name := "coderFromArrayLen", desc := "([BI)B" } : Jvm.MethodName) jdk_52_method_15_code (2 : Nat) (Option.some Jvm.ClassFile.FieldType.byte)).before args0 about1 = true := code_word (m := ⟨10, 8⟩) (meth := k10m8) (c := k10c8) (by decide +kernel) rfl rfl rfl (by decide +kernel)
set_option maxRecDepth 65536 in
theorem w_c14 : (Jvm.Cond.code ({ cls := "com/example/orbweaver/orbweaver/AsciiText", name := "lowerCase", desc := "(I)I" } : Jvm.MethodName) prog_1_method_5_code (1 : Nat) (Option.some Jvm.ClassFile.FieldType.int)).before args0 about1 = true := code_word (m := ⟨8, 2⟩) (meth := k8m2) (c := k8c2) (by decide +kernel) rfl rfl rfl (by decide +kernel)
set_option maxRecDepth 65536 in
theorem w_c15 : (Jvm.Cond.code ({ cls := "java/lang/String", name := "charAt", desc := "(I)C" } : Jvm.MethodName) jdk_42_method_56_code (2 : Nat) (Option.some Jvm.ClassFile.FieldType.char)).before args0 about1 = true := code_word (m := ⟨7, 3⟩) (meth := k7m3) (c := k7c3) (by decide +kernel) rfl rfl rfl (by decide +kernel)
set_option maxRecDepth 65536 in
theorem w_c16 : (Jvm.Cond.code ({ cls := "java/lang/StringLatin1", name := "charAt", desc := "([BI)C" } : Jvm.MethodName) jdk_43_method_2_code (2 : Nat) (Option.some Jvm.ClassFile.FieldType.char)).before args0 about1 = true := code_word (m := ⟨9, 1⟩) (meth := k9m1) (c := k9c1) (by decide +kernel) rfl rfl rfl (by decide +kernel)
set_option maxRecDepth 65536 in
theorem w_c17 : (Jvm.Cond.code ({ cls := "java/lang/String", name := "checkIndex", desc := "(II)V" } : Jvm.MethodName) jdk_42_method_155_code (2 : Nat) (Option.none : Option Jvm.ClassFile.FieldType)).before args0 about1 = true := code_word (m := ⟨7, 8⟩) (meth := k7m8) (c := k7c8) (by decide +kernel) rfl rfl rfl (by decide +kernel)
set_option maxRecDepth 65536 in
theorem w_c18 : (Jvm.Cond.code ({ cls := "jdk/internal/util/Preconditions", name := "checkIndex", desc := "(IILjava/util/function/BiFunction;)I" } : Jvm.MethodName) jdk_41_method_11_code (3 : Nat) (Option.some Jvm.ClassFile.FieldType.int)).before args0 about1 = true := code_word (m := ⟨11, 1⟩) (meth := k11m1) (c := k11c1) (by decide +kernel) rfl rfl rfl (by decide +kernel)
set_option maxRecDepth 65536 in
theorem w_c19 : (Jvm.Cond.code ({ cls := "com/example/orbweaver/orbweaver/AsciiTextLowerCasePinLaw", name := "expected", desc := "(C)C" } : Jvm.MethodName) method_3_code (1 : Nat) (Option.some Jvm.ClassFile.FieldType.char)).before args0 about1 = true := code_word (m := ⟨1, 2⟩) (meth := k1m2) (c := k1c2) (by decide +kernel) rfl rfl rfl (by decide +kernel)
set_option maxRecDepth 65536 in
theorem w_c20 : (Jvm.Cond.code ({ cls := "java/lang/StringUTF16", name := "toBytes", desc := "([CII)[B" } : Jvm.MethodName) jdk_52_method_14_code (5 : Nat) (Option.some (Jvm.ClassFile.FieldType.array Jvm.ClassFile.FieldType.byte))).before args0 about1 = true := code_word (m := ⟨10, 7⟩) (meth := k10m7) (c := k10c7) (by decide +kernel) rfl rfl rfl (by decide +kernel)
set_option maxRecDepth 65536 in
theorem w_c21 : (Jvm.Cond.code ({ cls := "java/lang/StringUTF16", name := "newBytesFor", desc := "(I)[B" } : Jvm.MethodName) jdk_52_method_2_code (1 : Nat) (Option.some (Jvm.ClassFile.FieldType.array Jvm.ClassFile.FieldType.byte))).before args0 about1 = true := code_word (m := ⟨10, 1⟩) (meth := k10m1) (c := k10c1) (by decide +kernel) rfl rfl rfl (by decide +kernel)
set_option maxRecDepth 65536 in
theorem w_c22 : (Jvm.Cond.code ({ cls := "java/lang/StringUTF16", name := "newBytesLength", desc := "(I)I" } : Jvm.MethodName) jdk_52_method_3_code (1 : Nat) (Option.some Jvm.ClassFile.FieldType.int)).before args0 about1 = true := code_word (m := ⟨10, 2⟩) (meth := k10m2) (c := k10c2) (by decide +kernel) rfl rfl rfl (by decide +kernel)
set_option maxRecDepth 65536 in
theorem w_c23 : (Jvm.Cond.code ({ cls := "java/lang/StringUTF16", name := "putChar", desc := "([BII)V" } : Jvm.MethodName) jdk_52_method_4_code (3 : Nat) (Option.none : Option Jvm.ClassFile.FieldType)).before args0 about1 = true := code_word (m := ⟨10, 3⟩) (meth := k10m3) (c := k10c3) (by decide +kernel) rfl rfl rfl (by decide +kernel)
set_option maxRecDepth 65536 in
theorem w_c24 : (Jvm.Cond.code ({ cls := "java/lang/StringUTF16", name := "getChar", desc := "([BI)C" } : Jvm.MethodName) jdk_52_method_5_code (2 : Nat) (Option.some Jvm.ClassFile.FieldType.char)).before args0 about1 = true := code_word (m := ⟨10, 4⟩) (meth := k10m4) (c := k10c4) (by decide +kernel) rfl rfl rfl (by decide +kernel)
set_option maxRecDepth 65536 in
theorem w_c25 : (Jvm.Cond.code ({ cls := "java/lang/StringUTF16", name := "toChars", desc := "([B)[C" } : Jvm.MethodName) jdk_52_method_13_code (2 : Nat) (Option.some (Jvm.ClassFile.FieldType.array Jvm.ClassFile.FieldType.char))).before args0 about1 = true := code_word (m := ⟨10, 6⟩) (meth := k10m6) (c := k10c6) (by decide +kernel) rfl rfl rfl (by decide +kernel)
set_option maxRecDepth 65536 in
theorem w_c26 : (Jvm.Cond.code ({ cls := "java/lang/StringUTF16", name := "getChars", desc := "([BII[CI)V" } : Jvm.MethodName) jdk_52_method_26_code (6 : Nat) (Option.none : Option Jvm.ClassFile.FieldType)).before args0 about1 = true := code_word (m := ⟨10, 11⟩) (meth := k10m11) (c := k10c11) (by decide +kernel) rfl rfl rfl (by decide +kernel)
set_option maxRecDepth 65536 in
theorem w_c27 : (Jvm.Cond.code ({ cls := "java/lang/StringUTF16", name := "checkBoundsOffCount", desc := "(II[B)V" } : Jvm.MethodName) jdk_52_method_94_code (3 : Nat) (Option.none : Option Jvm.ClassFile.FieldType)).before args0 about1 = true := code_word (m := ⟨10, 14⟩) (meth := k10m14) (c := k10c14) (by decide +kernel) rfl rfl rfl (by decide +kernel)
set_option maxRecDepth 65536 in
theorem w_c28 : (Jvm.Cond.code ({ cls := "java/lang/StringUTF16", name := "length", desc := "([B)I" } : Jvm.MethodName) jdk_52_method_6_code (1 : Nat) (Option.some Jvm.ClassFile.FieldType.int)).before args0 about1 = true := code_word (m := ⟨10, 5⟩) (meth := k10m5) (c := k10c5) (by decide +kernel) rfl rfl rfl (by decide +kernel)
set_option maxRecDepth 65536 in
theorem w_c29 : (Jvm.Cond.code ({ cls := "java/lang/String", name := "checkBoundsOffCount", desc := "(III)I" } : Jvm.MethodName) jdk_42_method_157_code (3 : Nat) (Option.some Jvm.ClassFile.FieldType.int)).before args0 about1 = true := code_word (m := ⟨7, 9⟩) (meth := k7m9) (c := k7c9) (by decide +kernel) rfl rfl rfl (by decide +kernel)
set_option maxRecDepth 65536 in
theorem w_c30 : (Jvm.Cond.code ({ cls := "jdk/internal/util/Preconditions", name := "checkFromIndexSize", desc := "(IIILjava/util/function/BiFunction;)I" } : Jvm.MethodName) jdk_41_method_13_code (4 : Nat) (Option.some Jvm.ClassFile.FieldType.int)).before args0 about1 = true := code_word (m := ⟨11, 2⟩) (meth := k11m2) (c := k11c2) (by decide +kernel) rfl rfl rfl (by decide +kernel)
set_option maxRecDepth 65536 in
theorem w_c31 : (Jvm.Cond.code ({ cls := "java/lang/StringUTF16", name := "charAt", desc := "([BI)C" } : Jvm.MethodName) jdk_52_method_83_code (2 : Nat) (Option.some Jvm.ClassFile.FieldType.char)).before args0 about1 = true := code_word (m := ⟨10, 12⟩) (meth := k10m12) (c := k10c12) (by decide +kernel) rfl rfl rfl (by decide +kernel)
set_option maxRecDepth 65536 in
theorem w_c32 : (Jvm.Cond.code ({ cls := "java/lang/StringUTF16", name := "checkIndex", desc := "(I[B)V" } : Jvm.MethodName) jdk_52_method_91_code (2 : Nat) (Option.none : Option Jvm.ClassFile.FieldType)).before args0 about1 = true := code_word (m := ⟨10, 13⟩) (meth := k10m13) (c := k10c13) (by decide +kernel) rfl rfl rfl (by decide +kernel)
def codes1 : List Jvm.Cond := [Jvm.Cond.code x code maxLocals ret, Jvm.Cond.code ({ cls := "java/lang/String", name := "<init>", desc := "([C)V" } : Jvm.MethodName) jdk_42_method_3_code (2 : Nat) (Option.none : Option Jvm.ClassFile.FieldType), Jvm.Cond.code ({ cls := "java/lang/String", name := "<init>", desc := "([CIILjava/lang/Void;)V" } : Jvm.MethodName) jdk_42_method_149_code (6 : Nat) (Option.none : Option Jvm.ClassFile.FieldType), Jvm.Cond.code ({ cls := "java/lang/Object", name := "<init>", desc := "()V" } : Jvm.MethodName) object_method_1_code (1 : Nat) (Option.none : Option Jvm.ClassFile.FieldType), Jvm.Cond.code ({ cls := "com/example/orbweaver/orbweaver/AsciiText", name := "lowerCase", desc := "(Ljava/lang/String;)Ljava/lang/String;" } : Jvm.MethodName) prog_1_method_4_code (3 : Nat) (Option.some (Jvm.ClassFile.FieldType.object "java/lang/String")), Jvm.Cond.code ({ cls := "java/lang/String", name := "toCharArray", desc := "()[C" } : Jvm.MethodName) jdk_42_method_129_code (1 : Nat) (Option.some (Jvm.ClassFile.FieldType.array Jvm.ClassFile.FieldType.char)), Jvm.Cond.code ({ cls := "java/lang/String", name := "isLatin1", desc := "()Z" } : Jvm.MethodName) jdk_42_method_154_code (1 : Nat) (Option.some Jvm.ClassFile.FieldType.boolean), Jvm.Cond.code ({ cls := "java/lang/StringLatin1", name := "toChars", desc := "([B)[C" } : Jvm.MethodName) jdk_43_method_9_code (2 : Nat) (Option.some (Jvm.ClassFile.FieldType.array Jvm.ClassFile.FieldType.char)), Jvm.Cond.code ({ cls := "java/lang/StringLatin1", name := "inflate", desc := "([BI[CII)V" } : Jvm.MethodName) jdk_43_method_49_code (6 : Nat) (Option.none : Option Jvm.ClassFile.FieldType), Jvm.Cond.code ({ cls := "java/lang/String", name := "length", desc := "()I" } : Jvm.MethodName) jdk_42_method_54_code (1 : Nat) (Option.some Jvm.ClassFile.FieldType.int), Jvm.Cond.code ({ cls := "java/lang/String", name := "coder", desc := "()B" } : Jvm.MethodName) jdk_42_method_152_code (1 : Nat) (Option.some Jvm.ClassFile.FieldType.byte), Jvm.Cond.code ({ cls := "java/lang/StringUTF16", name := "compress", desc := "([CII)[B" } : Jvm.MethodName) jdk_52_method_16_code (6 : Nat) (Option.some (Jvm.ClassFile.FieldType.array Jvm.ClassFile.FieldType.byte)), Jvm.Cond.code ({ cls := "java/lang/StringUTF16", name := "compress", desc := "([CI[BII)I" } : Jvm.MethodName) jdk_52_method_21_code (7 : Nat) (Option.some Jvm.ClassFile.FieldType.int), Jvm.Cond.code ({ cls := "java/lang/StringUTF16", name := "coderFromArrayLen", desc := "([BI)B" } : Jvm.MethodName) jdk_52_method_15_code (2 : Nat) (Option.some Jvm.ClassFile.FieldType.byte), Jvm.Cond.code ({ cls := "com/example/orbweaver/orbweaver/AsciiText", name := "lowerCase", desc := "(I)I" } : Jvm.MethodName) prog_1_method_5_code (1 : Nat) (Option.some Jvm.ClassFile.FieldType.int), Jvm.Cond.code ({ cls := "java/lang/String", name := "charAt", desc := "(I)C" } : Jvm.MethodName) jdk_42_method_56_code (2 : Nat) (Option.some Jvm.ClassFile.FieldType.char), Jvm.Cond.code ({ cls := "java/lang/StringLatin1", name := "charAt", desc := "([BI)C" } : Jvm.MethodName) jdk_43_method_2_code (2 : Nat) (Option.some Jvm.ClassFile.FieldType.char), Jvm.Cond.code ({ cls := "java/lang/String", name := "checkIndex", desc := "(II)V" } : Jvm.MethodName) jdk_42_method_155_code (2 : Nat) (Option.none : Option Jvm.ClassFile.FieldType), Jvm.Cond.code ({ cls := "jdk/internal/util/Preconditions", name := "checkIndex", desc := "(IILjava/util/function/BiFunction;)I" } : Jvm.MethodName) jdk_41_method_11_code (3 : Nat) (Option.some Jvm.ClassFile.FieldType.int), Jvm.Cond.code ({ cls := "com/example/orbweaver/orbweaver/AsciiTextLowerCasePinLaw", name := "expected", desc := "(C)C" } : Jvm.MethodName) method_3_code (1 : Nat) (Option.some Jvm.ClassFile.FieldType.char), Jvm.Cond.code ({ cls := "java/lang/StringUTF16", name := "toBytes", desc := "([CII)[B" } : Jvm.MethodName) jdk_52_method_14_code (5 : Nat) (Option.some (Jvm.ClassFile.FieldType.array Jvm.ClassFile.FieldType.byte)), Jvm.Cond.code ({ cls := "java/lang/StringUTF16", name := "newBytesFor", desc := "(I)[B" } : Jvm.MethodName) jdk_52_method_2_code (1 : Nat) (Option.some (Jvm.ClassFile.FieldType.array Jvm.ClassFile.FieldType.byte)), Jvm.Cond.code ({ cls := "java/lang/StringUTF16", name := "newBytesLength", desc := "(I)I" } : Jvm.MethodName) jdk_52_method_3_code (1 : Nat) (Option.some Jvm.ClassFile.FieldType.int), Jvm.Cond.code ({ cls := "java/lang/StringUTF16", name := "putChar", desc := "([BII)V" } : Jvm.MethodName) jdk_52_method_4_code (3 : Nat) (Option.none : Option Jvm.ClassFile.FieldType), Jvm.Cond.code ({ cls := "java/lang/StringUTF16", name := "getChar", desc := "([BI)C" } : Jvm.MethodName) jdk_52_method_5_code (2 : Nat) (Option.some Jvm.ClassFile.FieldType.char), Jvm.Cond.code ({ cls := "java/lang/StringUTF16", name := "toChars", desc := "([B)[C" } : Jvm.MethodName) jdk_52_method_13_code (2 : Nat) (Option.some (Jvm.ClassFile.FieldType.array Jvm.ClassFile.FieldType.char)), Jvm.Cond.code ({ cls := "java/lang/StringUTF16", name := "getChars", desc := "([BII[CI)V" } : Jvm.MethodName) jdk_52_method_26_code (6 : Nat) (Option.none : Option Jvm.ClassFile.FieldType), Jvm.Cond.code ({ cls := "java/lang/StringUTF16", name := "checkBoundsOffCount", desc := "(II[B)V" } : Jvm.MethodName) jdk_52_method_94_code (3 : Nat) (Option.none : Option Jvm.ClassFile.FieldType), Jvm.Cond.code ({ cls := "java/lang/StringUTF16", name := "length", desc := "([B)I" } : Jvm.MethodName) jdk_52_method_6_code (1 : Nat) (Option.some Jvm.ClassFile.FieldType.int), Jvm.Cond.code ({ cls := "java/lang/String", name := "checkBoundsOffCount", desc := "(III)I" } : Jvm.MethodName) jdk_42_method_157_code (3 : Nat) (Option.some Jvm.ClassFile.FieldType.int), Jvm.Cond.code ({ cls := "jdk/internal/util/Preconditions", name := "checkFromIndexSize", desc := "(IIILjava/util/function/BiFunction;)I" } : Jvm.MethodName) jdk_41_method_13_code (4 : Nat) (Option.some Jvm.ClassFile.FieldType.int), Jvm.Cond.code ({ cls := "java/lang/StringUTF16", name := "charAt", desc := "([BI)C" } : Jvm.MethodName) jdk_52_method_83_code (2 : Nat) (Option.some Jvm.ClassFile.FieldType.char), Jvm.Cond.code ({ cls := "java/lang/StringUTF16", name := "checkIndex", desc := "(I[B)V" } : Jvm.MethodName) jdk_52_method_91_code (2 : Nat) (Option.none : Option Jvm.ClassFile.FieldType)]
set_option maxRecDepth 65536 in
theorem codes_eq : words1.filter isCode = codes1 := rfl
theorem w_codes : ∀ c ∈ words1.filter isCode, c.before args0 about1 = true := by
  rw [codes_eq]
  intro c hc
  simp only [codes1, List.mem_cons, List.not_mem_nil, or_false] at hc
  rcases hc with rfl | rfl | rfl | rfl | rfl | rfl | rfl | rfl | rfl | rfl | rfl | rfl | rfl | rfl | rfl | rfl | rfl | rfl | rfl | rfl | rfl | rfl | rfl | rfl | rfl | rfl | rfl | rfl | rfl | rfl | rfl | rfl | rfl
  · exact w_c0
  · exact w_c1
  · exact w_c2
  · exact w_c3
  · exact w_c4
  · exact w_c5
  · exact w_c6
  · exact w_c7
  · exact w_c8
  · exact w_c9
  · exact w_c10
  · exact w_c11
  · exact w_c12
  · exact w_c13
  · exact w_c14
  · exact w_c15
  · exact w_c16
  · exact w_c17
  · exact w_c18
  · exact w_c19
  · exact w_c20
  · exact w_c21
  · exact w_c22
  · exact w_c23
  · exact w_c24
  · exact w_c25
  · exact w_c26
  · exact w_c27
  · exact w_c28
  · exact w_c29
  · exact w_c30
  · exact w_c31
  · exact w_c32
set_option maxRecDepth 65536 in
theorem w_t1 : (words1.take 24).all (fun c => isCode c || c.before args0 about1) = true := by decide +kernel
set_option maxRecDepth 65536 in
theorem w_t2 : ((words1.drop 24).take 24).all (fun c => isCode c || c.before args0 about1) = true := by decide +kernel
set_option maxRecDepth 65536 in
theorem w_t3 : (((words1.drop 24).drop 24).take 24).all (fun c => isCode c || c.before args0 about1) = true := by decide +kernel
set_option maxRecDepth 65536 in
theorem w_t4 : ((((words1.drop 24).drop 24).drop 24).take 24).all (fun c => isCode c || c.before args0 about1) = true := by decide +kernel
set_option maxRecDepth 65536 in
theorem w_t5 : (((((words1.drop 24).drop 24).drop 24).drop 24).take 24).all (fun c => isCode c || c.before args0 about1) = true := by decide +kernel
set_option maxRecDepth 65536 in
theorem w_t6 : (((((words1.drop 24).drop 24).drop 24).drop 24).drop 24).all (fun c => isCode c || c.before args0 about1) = true := by decide +kernel
theorem w_tables : (allAtoms (Jvm.Cond.code x code maxLocals ret :: tables_1)).before args0 about1 = true := by
  rw [allAtoms_all]
  show words1.all (fun c => c.before args0 about1) = true
  refine all_split ?_ w_codes
  rw [← List.take_append_drop 24 words1, List.all_append, w_t1, ← List.take_append_drop 24 (words1.drop 24), List.all_append, w_t2, ← List.take_append_drop 24 ((words1.drop 24).drop 24), List.all_append, w_t3, ← List.take_append_drop 24 (((words1.drop 24).drop 24).drop 24), List.all_append, w_t4, ← List.take_append_drop 24 ((((words1.drop 24).drop 24).drop 24).drop 24), List.all_append, w_t5, w_t6]
  rfl
set_option maxRecDepth 65536 in
theorem w_rest : rest_1_c.before args0 about1 = true := by decide +kernel
set_option maxRecDepth 65536 in
theorem w_case : (Jvm.Cond.and given_1 narrow_1).before args0 about1 = true := by decide +kernel
set_option maxRecDepth 65536 in
theorem w_consts : constsHeld consts_1 about1 := Jvm.Lit.constsHeldB_iff.mp (by decide +kernel)
theorem w_applies : (headSpec (Jvm.Cond.code x code maxLocals ret :: tables_1) room_1).applies x e0.platform about1 = true :=
  (Spec.applies_iff w_frames).mpr ⟨w_running, w_runnable, w_alone, w_named, w_hears, w_ripe, w_room, w_tables⟩
theorem atStart : AtStart classFile x code maxLocals ret World_1 tables_1 room_1 Calls_1 rest_1 Pre_1 launch0 p0 e0 about1 theMethod args0 below0 :=
  ⟨lists_1, trivial, launch0.admits_env _ _ _, launch0.least_env, fairChoices_fair.cas, fairChoices_fair.clock, w_frames, w_args, w_heap, w_applies, ⟨w_consts, trivial⟩, w_rest, w_case⟩
end start1
theorem witness_1 : WitnessClaimed_1 := ⟨start1.p0, start1.e0, start1.about1, start1.theMethod, start1.args0, start1.below0, start1.atStart⟩
end Jvm.Pilot.@@N@@
