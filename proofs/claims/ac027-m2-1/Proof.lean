import JvmDerived
import JvmDerived.Pilot.@@N@@Statement
import JvmDerived.Pilot.@@N@@Code
set_option linter.unusedVariables false
set_option linter.unusedSimpArgs false
namespace Jvm.Pilot.@@N@@
open Jvm Jvm.ClassFile Sem Op Lib Jvm.Free Jvm.Stand Jvm.LawKit Jvm.RoadKit Bundle Jvm.Pilot.@@N@@.Jvm.D
/-! own_: what is left of a walk, read forwards -/
def own_WP (p : Program) (e : Env) (below : List Frame) (s : State) (Q : Option Value → Heap → List Loc → Prop) (k n : Nat) (a : State) : Prop :=
  ∃ s₂ o, Steps p.tables e below a s₂ ∧ s₂.status = .running ∧ Ended s₂ below o ∧ ∃ v L, o = .returned v ∧ Q v s₂.heap L ∧ FrameEnd s o s₂ L k n
def own_Con (l : Launch) (Z : State) (y : MethodName) (bytes : ByteArray) (maxL : Nat) (ret : Option FieldType) (rm : Room) (as' : Array Value) (h0 : Heap) (Q : Option Value → Heap → List Loc → Prop) : Prop :=
  ∀ ws, MetFree l y (head1 (Jvm.Cond.code y bytes maxL ret :: ws) rm) (fun a U => a = as' ∧ Z.Warmed39 U.vm ∧ U.heap = h0) (fun _ _ _ _ _ => True) (fun _ U o U' => ∃ v L, o = .returned v ∧ Q v U'.heap L ∧ FrameEnd U o U' L rm.cells rm.slots)
theorem own_Con_of {l : Launch} {Z : State} {y : MethodName} {bytes : ByteArray} {maxL : Nat} {ret : Option FieldType} {rm : Room} {as' : Array Value} {h0 : Heap} {Q : Option Value → Heap → List Loc → Prop} (hp : plainFor y = true)
    (hb : ∀ (p : Program) (e : Env) (s : State) (m : MethodId) (below : List Frame) (meth : Method) (c : Code) (s₁ : State), Stand p l e rm s m as' below meth c s₁ [] 0 0 → p.tables.exec = Jvm.exec → c.code = bytes → c.maxLocals = maxL → meth.sig.returnType = ret → meth.locks = false → meth.name = y.name → s.vm.findClass y.cls = some m.cls → Z.Warmed39 s.vm → s₁.heap = h0 →
      own_WP p e below s Q rm.cells rm.slots (s₁.setTop (entryFrame m as' maxL))) : own_Con l Z y bytes maxL ret rm as' h0 Q := by
  intro ws
  refine MetFree.of_bodySF hp hisR ?_
  intro p e s m args below meth c s₁ Bd hml0 hP hK
  obtain ⟨rfl, hZ, hh⟩ := hP
  exact hb p e s m below meth c s₁ (Stand.of_body Bd) Bd.exec Bd.bytes hml0 Bd.returns Bd.notSynchronized (name_of_methodNamed Bd.named Bd.method).1 (findClass_of_methodNamed Bd.named) hZ (by rw [← hh, Bd.state]; rfl)
theorem own_Con_mono {l : Launch} {Z : State} {y : MethodName} {bytes : ByteArray} {maxL : Nat} {ret : Option FieldType} {rm : Room} {as' : Array Value} {h0 : Heap} {Q Q' : Option Value → Heap → List Loc → Prop} (C : own_Con l Z y bytes maxL ret rm as' h0 Q) (hq : ∀ v h L, Q v h L → Q' v h L) : own_Con l Z y bytes maxL ret rm as' h0 Q' := by
  intro ws p e ha hc hk s m args below hf happ hP hK
  obtain ⟨n, o, h1, h2, h3, v, L, h4, h5, h6⟩ := C ws p e ha hc hk s m args below hf happ hP hK
  exact ⟨n, o, h1, h2, h3, v, L, h4, hq _ _ _ h5, h6⟩
theorem own_w {Z : State} {a0 : Array Value} {ts : List Jvm.Cond} {d : Jvm.Cond} (hw : ∀ d ∈ ts, d.before a0 Z = true) (i : Nat) (hi : ts[i]? = some d) : d.before a0 Z = true := hw _ (List.mem_of_getElem? hi)
section OwnWP
variable {p : Program} {l : Launch} {e : Env} {R : Room} {s : State} {m : MethodId} {args : Array Value} {below : List Frame} {meth : Method} {c : Code} {T : State} {locs : List Loc} {cells slots : Nat} {Z : State} {a0 : Array Value} {h : Heap} {Q : Option Value → Heap → List Loc → Prop} {k n : Nat} {a a' : State} {pc pc' : Nat} {ls l' : Array Slot} {rest : List Value}
theorem own_of (hs : ∀ t, Steps p.tables e below a' t → Steps p.tables e below a t) (w : own_WP p e below s Q k n a') : own_WP p e below s Q k n a := by
  obtain ⟨s₂, o, st, r⟩ := w
  exact ⟨s₂, o, hs _ st, r⟩
theorem own_mono {Q' : Option Value → Heap → List Loc → Prop} (hq : ∀ v h L, Q v h L → Q' v h L) (w : own_WP p e below s Q k n a) : own_WP p e below s Q' k n a := by
  obtain ⟨s₂, o, h1, h2, h3, v, L, h4, h5, h6⟩ := w
  exact ⟨s₂, o, h1, h2, h3, v, L, h4, hq _ _ _ h5, h6⟩
theorem own_join {α : Type} (P : α → Prop) (f : α → State) (h1 : (∀ x, P x → own_WP p e below s Q k n (f x)) → own_WP p e below s Q k n a) (h2 : ∀ x, P x → own_WP p e below s Q k n (f x)) : own_WP p e below s Q k n a := h1 h2
theorem own_done (X : Stand p l e R s m args below meth c T locs cells slots) {v : Option Value} (hlk : meth.locks = false) (hv : meth.sig.returnType = none → v = none) (hc : cells ≤ k) (hn : slots ≤ n) (hq : Q v T.heap locs)
    (st : ∀ fs, (∀ (f : JFrame) (acts : List Action), f.method = m → f.locked = none → f.entered = [] → (doReturn e (T.setTop f) acts v).1 = T.setFrames fs) → Steps p.tables e below a (T.setFrames fs)) : own_WP p e below s Q k n a := by
  obtain ⟨fs, hr, hrun, hended, hW, hsame⟩ := X.leave hv hlk
  exact ⟨_, _, st fs hr, hrun, hended, _, _, rfl, hq, ⟨_, rfl⟩, hW, hsame.mono hc hn⟩
theorem own_retI (X : Stand p l e R s m args below meth c T locs cells slots) (hx : p.tables.exec = Jvm.exec) (hlk : meth.locks = false) (hret : meth.sig.returnType = some .int) {z : Int32} (hd : decode c.code pc = .ok (.ireturn, 1)) (hc : cells ≤ k) (hn : slots ≤ n) (hq : Q (some (.int z)) T.heap locs) : own_WP p e below s Q k n (T.setTop (mkF m pc ls (.int z :: rest))) :=
  own_done X hlk (fun q => by rw [hret] at q; cases q) hc hn hq fun fs hr => retOut X hx hret rfl (Or.inl ⟨rfl, Or.inl rfl, z, rfl⟩) hd hr
theorem own_retN (X : Stand p l e R s m args below meth c T locs cells slots) (hx : p.tables.exec = Jvm.exec) (hlk : meth.locks = false) {t : FieldType} (ht : t = .boolean ∨ t = .byte ∨ t = .char ∨ t = .short) (hret : meth.sig.returnType = some t) {z : Int32} (hd : decode c.code pc = .ok (.ireturn, 1)) (hc : cells ≤ k) (hn : slots ≤ n) (hq : Q (some (.int (nar t z))) T.heap locs) : own_WP p e below s Q k n (T.setTop (mkF m pc ls (.int z :: rest))) :=
  own_done X hlk (fun q => by rw [hret] at q; cases q) hc hn hq fun fs hr => retN X hx hret ht hd hr
theorem own_retJ (X : Stand p l e R s m args below meth c T locs cells slots) (hx : p.tables.exec = Jvm.exec) (hlk : meth.locks = false) (hret : meth.sig.returnType = some .long) {z : Int64} (hd : decode c.code pc = .ok (.lreturn, 1)) (hc : cells ≤ k) (hn : slots ≤ n) (hq : Q (some (.long z)) T.heap locs) : own_WP p e below s Q k n (T.setTop (mkF m pc ls (.long z :: rest))) :=
  own_done X hlk (fun q => by rw [hret] at q; cases q) hc hn hq fun fs hr => retOut X hx hret rfl (Or.inr (Or.inl ⟨rfl, rfl, z, rfl⟩)) hd hr
theorem own_retA (X : Stand p l e R s m args below meth c T locs cells slots) (hx : p.tables.exec = Jvm.exec) (hlk : meth.locks = false) {t : FieldType} (ht : t.isReference = true) (hret : meth.sig.returnType = some t) {w : Value} (hw : w.isRef = true) (hnw : narrow t w = w) (hd : decode c.code pc = .ok (.areturn, 1)) (hc : cells ≤ k) (hn : slots ≤ n) (hq : Q (some w) T.heap locs) : own_WP p e below s Q k n (T.setTop (mkF m pc ls (w :: rest))) :=
  own_done X hlk (fun q => by rw [hret] at q; cases q) hc hn hq fun fs hr => retOut X hx hret hnw (Or.inr (Or.inr (Or.inr (Or.inr ⟨rfl, ht, hw⟩)))) hd hr
theorem own_ret0 (X : Stand p l e R s m args below meth c T locs cells slots) (hx : p.tables.exec = Jvm.exec) (hlk : meth.locks = false) (hret : meth.sig.returnType = none) (hd : decode c.code pc = .ok (.return_, 1)) (hc : cells ≤ k) (hn : slots ≤ n) (hq : Q none T.heap locs) : own_WP p e below s Q k n (T.setTop (mkF m pc ls [])) :=
  own_done X hlk (fun _ => rfl) hc hn hq fun fs hr => X.returnOut hx hret hd hr
theorem own_iload (X : Stand p l e R s m args below meth c T locs cells slots) (hx : p.tables.exec = Jvm.exec) {j : Nat} {v : Int32} (hd : decode c.code pc = .ok (.iload j, 2)) (hl : ls[j]? = some (.val (.int v))) (hpc : pc + 2 = pc') (w : own_WP p e below s Q k n (T.setTop (mkF m pc' ls (.int v :: rest)))) : own_WP p e below s Q k n (T.setTop (mkF m pc ls rest)) := by
  subst hpc
  exact own_of (fun t q => XS.iload X.here hx rfl hd hl q) w
theorem own_iloadN (X : Stand p l e R s m args below meth c T locs cells slots) (hx : p.tables.exec = Jvm.exec) {j : Fin 4} {v : Int32} (hd : decode c.code pc = .ok (.iload_n j, 1)) (hl : ls[j.val]? = some (.val (.int v))) (hpc : pc + 1 = pc') (w : own_WP p e below s Q k n (T.setTop (mkF m pc' ls (.int v :: rest)))) : own_WP p e below s Q k n (T.setTop (mkF m pc ls rest)) := by
  subst hpc
  exact own_of (fun t q => XS.iloadN X.here hx rfl hd hl q) w
theorem own_lload (X : Stand p l e R s m args below meth c T locs cells slots) (hx : p.tables.exec = Jvm.exec) {j : Nat} {v : Int64} (hd : decode c.code pc = .ok (.lload j, 2)) (hl : ls[j]? = some (.val (.long v))) (hpc : pc + 2 = pc') (w : own_WP p e below s Q k n (T.setTop (mkF m pc' ls (.long v :: rest)))) : own_WP p e below s Q k n (T.setTop (mkF m pc ls rest)) := by
  subst hpc
  exact own_of (fun t q => XS.lload X.here hx rfl hd hl q) w
theorem own_lloadN (X : Stand p l e R s m args below meth c T locs cells slots) (hx : p.tables.exec = Jvm.exec) {j : Fin 4} {v : Int64} (hd : decode c.code pc = .ok (.lload_n j, 1)) (hl : ls[j.val]? = some (.val (.long v))) (hpc : pc + 1 = pc') (w : own_WP p e below s Q k n (T.setTop (mkF m pc' ls (.long v :: rest)))) : own_WP p e below s Q k n (T.setTop (mkF m pc ls rest)) := by
  subst hpc
  exact own_of (fun t q => XS.lloadN X.here hx rfl hd hl q) w
theorem own_aload (X : Stand p l e R s m args below meth c T locs cells slots) (hx : p.tables.exec = Jvm.exec) {j : Nat} {v : Value} (hd : decode c.code pc = .ok (.aload j, 2)) (hl : ls[j]? = some (.val v)) (hv : v.isRef = true) (hpc : pc + 2 = pc') (w : own_WP p e below s Q k n (T.setTop (mkF m pc' ls (v :: rest)))) : own_WP p e below s Q k n (T.setTop (mkF m pc ls rest)) := by
  subst hpc
  exact own_of (fun t q => XS.aload X.here hx rfl hd hl hv q) w
theorem own_aloadN (X : Stand p l e R s m args below meth c T locs cells slots) (hx : p.tables.exec = Jvm.exec) {j : Fin 4} {v : Value} (hd : decode c.code pc = .ok (.aload_n j, 1)) (hl : ls[j.val]? = some (.val v)) (hv : v.isRef = true) (hpc : pc + 1 = pc') (w : own_WP p e below s Q k n (T.setTop (mkF m pc' ls (v :: rest)))) : own_WP p e below s Q k n (T.setTop (mkF m pc ls rest)) := by
  subst hpc
  exact own_of (fun t q => XS.aloadN X.here hx rfl hd hl hv q) w
theorem own_istore (X : Stand p l e R s m args below meth c T locs cells slots) (hx : p.tables.exec = Jvm.exec) {j : Nat} {v z : Int32} (hd : decode c.code pc = .ok (.istore j, 2)) (hz : z = v) (hl : storeLocals ls j (.int z) = some l') (hpc : pc + 2 = pc') (w : own_WP p e below s Q k n (T.setTop (mkF m pc' l' rest))) : own_WP p e below s Q k n (T.setTop (mkF m pc ls (.int v :: rest))) := by
  subst hpc
  exact own_of (fun t q => XS.istore X.here hx rfl hd rfl (hz ▸ hl) q) w
theorem own_istoreN (X : Stand p l e R s m args below meth c T locs cells slots) (hx : p.tables.exec = Jvm.exec) {j : Fin 4} {v z : Int32} (hd : decode c.code pc = .ok (.istore_n j, 1)) (hz : z = v) (hl : storeLocals ls j.val (.int z) = some l') (hpc : pc + 1 = pc') (w : own_WP p e below s Q k n (T.setTop (mkF m pc' l' rest))) : own_WP p e below s Q k n (T.setTop (mkF m pc ls (.int v :: rest))) := by
  subst hpc
  exact own_of (fun t q => XS.istoreN X.here hx rfl hd rfl (hz ▸ hl) q) w
theorem own_lstore (X : Stand p l e R s m args below meth c T locs cells slots) (hx : p.tables.exec = Jvm.exec) {j : Nat} {v z : Int64} (hd : decode c.code pc = .ok (.lstore j, 2)) (hz : z = v) (hl : storeLocals ls j (.long z) = some l') (hpc : pc + 2 = pc') (w : own_WP p e below s Q k n (T.setTop (mkF m pc' l' rest))) : own_WP p e below s Q k n (T.setTop (mkF m pc ls (.long v :: rest))) := by
  subst hpc
  exact own_of (fun t q => XS.lstore X.here hx rfl hd rfl (hz ▸ hl) q) w
theorem own_lstoreN (X : Stand p l e R s m args below meth c T locs cells slots) (hx : p.tables.exec = Jvm.exec) {j : Fin 4} {v z : Int64} (hd : decode c.code pc = .ok (.lstore_n j, 1)) (hz : z = v) (hl : storeLocals ls j.val (.long z) = some l') (hpc : pc + 1 = pc') (w : own_WP p e below s Q k n (T.setTop (mkF m pc' l' rest))) : own_WP p e below s Q k n (T.setTop (mkF m pc ls (.long v :: rest))) := by
  subst hpc
  exact own_of (fun t q => XS.lstoreN X.here hx rfl hd rfl (hz ▸ hl) q) w
theorem own_astore (X : Stand p l e R s m args below meth c T locs cells slots) (hx : p.tables.exec = Jvm.exec) {j : Nat} {v : Value} (hd : decode c.code pc = .ok (.astore j, 2)) (hv : v.isRef = true) (hl : storeLocals ls j v = some l') (hpc : pc + 2 = pc') (w : own_WP p e below s Q k n (T.setTop (mkF m pc' l' rest))) : own_WP p e below s Q k n (T.setTop (mkF m pc ls (v :: rest))) := by
  subst hpc
  exact own_of (fun t q => XS.astore X.here hx rfl hd rfl hv hl q) w
theorem own_astoreN (X : Stand p l e R s m args below meth c T locs cells slots) (hx : p.tables.exec = Jvm.exec) {j : Fin 4} {v : Value} (hd : decode c.code pc = .ok (.astore_n j, 1)) (hv : v.isRef = true) (hl : storeLocals ls j.val v = some l') (hpc : pc + 1 = pc') (w : own_WP p e below s Q k n (T.setTop (mkF m pc' l' rest))) : own_WP p e below s Q k n (T.setTop (mkF m pc ls (v :: rest))) := by
  subst hpc
  exact own_of (fun t q => XS.astoreN X.here hx rfl hd rfl hv hl q) w
theorem own_iinc (X : Stand p l e R s m args below meth c T locs cells slots) (hx : p.tables.exec = Jvm.exec) {j : Nat} {i : Int} {v z : Int32} (hd : decode c.code pc = .ok (.iinc j i, 3)) (hl0 : ls[j]? = some (.val (.int v))) (hz : z = v + Int32.ofInt i) (hl : storeLocals ls j (.int z) = some l') (hpc : pc + 3 = pc') (w : own_WP p e below s Q k n (T.setTop (mkF m pc' l' rest))) : own_WP p e below s Q k n (T.setTop (mkF m pc ls rest)) := by
  subst hpc
  exact own_of (fun t q => XS.iinc X.here hx rfl hd hl0 (hz ▸ hl) q) w
theorem own_iconst (X : Stand p l e R s m args below meth c T locs cells slots) (hx : p.tables.exec = Jvm.exec) {i : Int} (v : Int32) (hd : decode c.code pc = .ok (.iconst i, 1)) (hv : v = Int32.ofInt i) (hpc : pc + 1 = pc') (w : own_WP p e below s Q k n (T.setTop (mkF m pc' ls (.int v :: rest)))) : own_WP p e below s Q k n (T.setTop (mkF m pc ls rest)) := by
  subst hpc
  exact own_of (fun t q => XS.iconst X.here hx rfl hd (hv ▸ q)) w
theorem own_bipush (X : Stand p l e R s m args below meth c T locs cells slots) (hx : p.tables.exec = Jvm.exec) {i : Int} (v : Int32) (hd : decode c.code pc = .ok (.bipush i, 2)) (hv : v = (Int8.ofInt i).toInt32) (hpc : pc + 2 = pc') (w : own_WP p e below s Q k n (T.setTop (mkF m pc' ls (.int v :: rest)))) : own_WP p e below s Q k n (T.setTop (mkF m pc ls rest)) := by
  subst hpc
  exact own_of (fun t q => XS.bipush X.here hx rfl hd (hv ▸ q)) w
theorem own_sipush (X : Stand p l e R s m args below meth c T locs cells slots) (hx : p.tables.exec = Jvm.exec) {i : Int} (v : Int32) (hd : decode c.code pc = .ok (.sipush i, 3)) (hv : v = (Int16.ofInt i).toInt32) (hpc : pc + 3 = pc') (w : own_WP p e below s Q k n (T.setTop (mkF m pc' ls (.int v :: rest)))) : own_WP p e below s Q k n (T.setTop (mkF m pc ls rest)) := by
  subst hpc
  exact own_of (fun t q => XS.sipush X.here hx rfl hd (hv ▸ q)) w
theorem own_anull (X : Stand p l e R s m args below meth c T locs cells slots) (hx : p.tables.exec = Jvm.exec)  (hd : decode c.code pc = .ok (.aconst_null, 1)) (hpc : pc + 1 = pc') (w : own_WP p e below s Q k n (T.setTop (mkF m pc' ls (.null :: rest)))) : own_WP p e below s Q k n (T.setTop (mkF m pc ls rest)) := by
  subst hpc
  exact own_of (fun t q => XS.aconstNull X.here hx rfl hd q) w
theorem own_lconst0 (X : Stand p l e R s m args below meth c T locs cells slots) (hx : p.tables.exec = Jvm.exec)  (hd : decode c.code pc = .ok (.lconst 0, 1)) (hpc : pc + 1 = pc') (w : own_WP p e below s Q k n (T.setTop (mkF m pc' ls (.long 0 :: rest)))) : own_WP p e below s Q k n (T.setTop (mkF m pc ls rest)) := by
  subst hpc
  exact own_of (fun t q => XS.lconst X.here hx rfl hd q) w
theorem own_lconst1 (X : Stand p l e R s m args below meth c T locs cells slots) (hx : p.tables.exec = Jvm.exec)  (hd : decode c.code pc = .ok (.lconst 1, 1)) (hpc : pc + 1 = pc') (w : own_WP p e below s Q k n (T.setTop (mkF m pc' ls (.long 1 :: rest)))) : own_WP p e below s Q k n (T.setTop (mkF m pc ls rest)) := by
  subst hpc
  exact own_of (fun t q => XS.lconst X.here hx rfl hd q) w
theorem own_ldcInt (X : Stand p l e R s m args below meth c T locs cells slots) (hx : p.tables.exec = Jvm.exec) (hZ : Z.Warmed39 s.vm) {own : String} {idx : Nat} {v : Int32} (hown : s.vm.findClass own = some m.cls) (w1 : (Jvm.Cond.constant own idx v).before a0 Z = true) (hd : decode c.code pc = .ok (.ldc idx, 2)) (hpc : pc + 2 = pc') (w : own_WP p e below s Q k n (T.setTop (mkF m pc' ls (.int v :: rest)))) : own_WP p e below s Q k n (T.setTop (mkF m pc ls rest)) := by
  subst hpc
  exact own_of (fun t q => X.ldcInt hx hown (mvT hZ w1) (g := mkF m pc ls rest) rfl hd _ q) w
theorem own_ldcwInt (X : Stand p l e R s m args below meth c T locs cells slots) (hx : p.tables.exec = Jvm.exec) (hZ : Z.Warmed39 s.vm) {own : String} {idx : Nat} {v : Int32} (hown : s.vm.findClass own = some m.cls) (w1 : (Jvm.Cond.constant own idx v).before a0 Z = true) (hd : decode c.code pc = .ok (.ldc_w idx, 3)) (hpc : pc + 3 = pc') (w : own_WP p e below s Q k n (T.setTop (mkF m pc' ls (.int v :: rest)))) : own_WP p e below s Q k n (T.setTop (mkF m pc ls rest)) := by
  subst hpc
  exact own_of (fun t q => X.ldcwInt hx hown (mvT hZ w1) (g := mkF m pc ls rest) rfl hd _ q) w
theorem own_ldc2Long (X : Stand p l e R s m args below meth c T locs cells slots) (hx : p.tables.exec = Jvm.exec) (hZ : Z.Warmed39 s.vm) {own : String} {idx : Nat} {v : Int64} (hown : s.vm.findClass own = some m.cls) (w1 : (Jvm.Cond.constantLong own idx v).before a0 Z = true) (hd : decode c.code pc = .ok (.ldc2_w idx, 3)) (hpc : pc + 3 = pc') (w : own_WP p e below s Q k n (T.setTop (mkF m pc' ls (.long v :: rest)))) : own_WP p e below s Q k n (T.setTop (mkF m pc ls rest)) := by
  subst hpc
  exact own_of (fun t q => X.ldc2Long hx hown (mvT hZ w1) (g := mkF m pc ls rest) rfl hd _ q) w
theorem own_iadd (X : Stand p l e R s m args below meth c T locs cells slots) (hx : p.tables.exec = Jvm.exec) {x y : Int32} (hd : decode c.code pc = .ok (.iadd, 1)) (hpc : pc + 1 = pc') (w : own_WP p e below s Q k n (T.setTop (mkF m pc' ls (.int (x + y) :: rest)))) : own_WP p e below s Q k n (T.setTop (mkF m pc ls (.int y :: .int x :: rest))) := by
  subst hpc
  exact own_of (fun t q => XS.iadd X.here hx rfl hd rfl q) w
theorem own_ladd (X : Stand p l e R s m args below meth c T locs cells slots) (hx : p.tables.exec = Jvm.exec) {x y : Int64} (hd : decode c.code pc = .ok (.ladd, 1)) (hpc : pc + 1 = pc') (w : own_WP p e below s Q k n (T.setTop (mkF m pc' ls (.long (x + y) :: rest)))) : own_WP p e below s Q k n (T.setTop (mkF m pc ls (.long y :: .long x :: rest))) := by
  subst hpc
  exact own_of (fun t q => XS.ladd X.here hx rfl hd rfl q) w
theorem own_isub (X : Stand p l e R s m args below meth c T locs cells slots) (hx : p.tables.exec = Jvm.exec) {x y : Int32} (hd : decode c.code pc = .ok (.isub, 1)) (hpc : pc + 1 = pc') (w : own_WP p e below s Q k n (T.setTop (mkF m pc' ls (.int (x - y) :: rest)))) : own_WP p e below s Q k n (T.setTop (mkF m pc ls (.int y :: .int x :: rest))) := by
  subst hpc
  exact own_of (fun t q => XS.isub X.here hx rfl hd rfl q) w
theorem own_lsub (X : Stand p l e R s m args below meth c T locs cells slots) (hx : p.tables.exec = Jvm.exec) {x y : Int64} (hd : decode c.code pc = .ok (.lsub, 1)) (hpc : pc + 1 = pc') (w : own_WP p e below s Q k n (T.setTop (mkF m pc' ls (.long (x - y) :: rest)))) : own_WP p e below s Q k n (T.setTop (mkF m pc ls (.long y :: .long x :: rest))) := by
  subst hpc
  exact own_of (fun t q => XS.lsub X.here hx rfl hd rfl q) w
theorem own_imul (X : Stand p l e R s m args below meth c T locs cells slots) (hx : p.tables.exec = Jvm.exec) {x y : Int32} (hd : decode c.code pc = .ok (.imul, 1)) (hpc : pc + 1 = pc') (w : own_WP p e below s Q k n (T.setTop (mkF m pc' ls (.int (x * y) :: rest)))) : own_WP p e below s Q k n (T.setTop (mkF m pc ls (.int y :: .int x :: rest))) := by
  subst hpc
  exact own_of (fun t q => XS.imul X.here hx rfl hd rfl q) w
theorem own_lmul (X : Stand p l e R s m args below meth c T locs cells slots) (hx : p.tables.exec = Jvm.exec) {x y : Int64} (hd : decode c.code pc = .ok (.lmul, 1)) (hpc : pc + 1 = pc') (w : own_WP p e below s Q k n (T.setTop (mkF m pc' ls (.long (x * y) :: rest)))) : own_WP p e below s Q k n (T.setTop (mkF m pc ls (.long y :: .long x :: rest))) := by
  subst hpc
  exact own_of (fun t q => XS.lmul X.here hx rfl hd rfl q) w
theorem own_iand (X : Stand p l e R s m args below meth c T locs cells slots) (hx : p.tables.exec = Jvm.exec) {x y : Int32} (hd : decode c.code pc = .ok (.iand, 1)) (hpc : pc + 1 = pc') (w : own_WP p e below s Q k n (T.setTop (mkF m pc' ls (.int (x &&& y) :: rest)))) : own_WP p e below s Q k n (T.setTop (mkF m pc ls (.int y :: .int x :: rest))) := by
  subst hpc
  exact own_of (fun t q => XS.iand X.here hx rfl hd rfl q) w
theorem own_land (X : Stand p l e R s m args below meth c T locs cells slots) (hx : p.tables.exec = Jvm.exec) {x y : Int64} (hd : decode c.code pc = .ok (.land, 1)) (hpc : pc + 1 = pc') (w : own_WP p e below s Q k n (T.setTop (mkF m pc' ls (.long (x &&& y) :: rest)))) : own_WP p e below s Q k n (T.setTop (mkF m pc ls (.long y :: .long x :: rest))) := by
  subst hpc
  exact own_of (fun t q => XS.land X.here hx rfl hd rfl q) w
theorem own_ior (X : Stand p l e R s m args below meth c T locs cells slots) (hx : p.tables.exec = Jvm.exec) {x y : Int32} (hd : decode c.code pc = .ok (.ior, 1)) (hpc : pc + 1 = pc') (w : own_WP p e below s Q k n (T.setTop (mkF m pc' ls (.int (x ||| y) :: rest)))) : own_WP p e below s Q k n (T.setTop (mkF m pc ls (.int y :: .int x :: rest))) := by
  subst hpc
  exact own_of (fun t q => XS.ior X.here hx rfl hd rfl q) w
theorem own_lor (X : Stand p l e R s m args below meth c T locs cells slots) (hx : p.tables.exec = Jvm.exec) {x y : Int64} (hd : decode c.code pc = .ok (.lor, 1)) (hpc : pc + 1 = pc') (w : own_WP p e below s Q k n (T.setTop (mkF m pc' ls (.long (x ||| y) :: rest)))) : own_WP p e below s Q k n (T.setTop (mkF m pc ls (.long y :: .long x :: rest))) := by
  subst hpc
  exact own_of (fun t q => XS.lor X.here hx rfl hd rfl q) w
theorem own_ixor (X : Stand p l e R s m args below meth c T locs cells slots) (hx : p.tables.exec = Jvm.exec) {x y : Int32} (hd : decode c.code pc = .ok (.ixor, 1)) (hpc : pc + 1 = pc') (w : own_WP p e below s Q k n (T.setTop (mkF m pc' ls (.int (x ^^^ y) :: rest)))) : own_WP p e below s Q k n (T.setTop (mkF m pc ls (.int y :: .int x :: rest))) := by
  subst hpc
  exact own_of (fun t q => XS.ixor X.here hx rfl hd rfl q) w
theorem own_lxor (X : Stand p l e R s m args below meth c T locs cells slots) (hx : p.tables.exec = Jvm.exec) {x y : Int64} (hd : decode c.code pc = .ok (.lxor, 1)) (hpc : pc + 1 = pc') (w : own_WP p e below s Q k n (T.setTop (mkF m pc' ls (.long (x ^^^ y) :: rest)))) : own_WP p e below s Q k n (T.setTop (mkF m pc ls (.long y :: .long x :: rest))) := by
  subst hpc
  exact own_of (fun t q => XS.lxor X.here hx rfl hd rfl q) w
theorem own_ishl (X : Stand p l e R s m args below meth c T locs cells slots) (hx : p.tables.exec = Jvm.exec) {x y : Int32} (hd : decode c.code pc = .ok (.ishl, 1)) (hpc : pc + 1 = pc') (w : own_WP p e below s Q k n (T.setTop (mkF m pc' ls (.int (x <<< (y &&& 31)) :: rest)))) : own_WP p e below s Q k n (T.setTop (mkF m pc ls (.int y :: .int x :: rest))) := by
  subst hpc
  exact own_of (fun t q => XS.ishl X.here hx rfl hd rfl q) w
theorem own_ishr (X : Stand p l e R s m args below meth c T locs cells slots) (hx : p.tables.exec = Jvm.exec) {x y : Int32} (hd : decode c.code pc = .ok (.ishr, 1)) (hpc : pc + 1 = pc') (w : own_WP p e below s Q k n (T.setTop (mkF m pc' ls (.int (x >>> (y &&& 31)) :: rest)))) : own_WP p e below s Q k n (T.setTop (mkF m pc ls (.int y :: .int x :: rest))) := by
  subst hpc
  exact own_of (fun t q => XS.ishr X.here hx rfl hd rfl q) w
theorem own_iushr (X : Stand p l e R s m args below meth c T locs cells slots) (hx : p.tables.exec = Jvm.exec) {x y : Int32} (hd : decode c.code pc = .ok (.iushr, 1)) (hpc : pc + 1 = pc') (w : own_WP p e below s Q k n (T.setTop (mkF m pc' ls (.int ((x.toUInt32 >>> (y &&& 31).toUInt32).toInt32) :: rest)))) : own_WP p e below s Q k n (T.setTop (mkF m pc ls (.int y :: .int x :: rest))) := by
  subst hpc
  exact own_of (fun t q => XS.iushr X.here hx rfl hd rfl q) w
theorem own_lshl (X : Stand p l e R s m args below meth c T locs cells slots) (hx : p.tables.exec = Jvm.exec) {x : Int64} {y : Int32} (hd : decode c.code pc = .ok (.lshl, 1)) (hpc : pc + 1 = pc') (w : own_WP p e below s Q k n (T.setTop (mkF m pc' ls (.long (x <<< (y &&& 0x3f).toInt64) :: rest)))) : own_WP p e below s Q k n (T.setTop (mkF m pc ls (.int y :: .long x :: rest))) := by
  subst hpc
  exact own_of (fun t q => XS.lshl X.here hx rfl hd rfl q) w
theorem own_lshr (X : Stand p l e R s m args below meth c T locs cells slots) (hx : p.tables.exec = Jvm.exec) {x : Int64} {y : Int32} (hd : decode c.code pc = .ok (.lshr, 1)) (hpc : pc + 1 = pc') (w : own_WP p e below s Q k n (T.setTop (mkF m pc' ls (.long (x >>> (y &&& 0x3f).toInt64) :: rest)))) : own_WP p e below s Q k n (T.setTop (mkF m pc ls (.int y :: .long x :: rest))) := by
  subst hpc
  exact own_of (fun t q => XS.lshr X.here hx rfl hd rfl q) w
theorem own_lushr (X : Stand p l e R s m args below meth c T locs cells slots) (hx : p.tables.exec = Jvm.exec) {x : Int64} {y : Int32} (hd : decode c.code pc = .ok (.lushr, 1)) (hpc : pc + 1 = pc') (w : own_WP p e below s Q k n (T.setTop (mkF m pc' ls (.long ((x.toUInt64 >>> (y &&& 0x3f).toInt64.toUInt64).toInt64) :: rest)))) : own_WP p e below s Q k n (T.setTop (mkF m pc ls (.int y :: .long x :: rest))) := by
  subst hpc
  exact own_of (fun t q => XS.lushr X.here hx rfl hd rfl q) w
theorem own_idiv (X : Stand p l e R s m args below meth c T locs cells slots) (hx : p.tables.exec = Jvm.exec) {x y : Int32} (hd : decode c.code pc = .ok (.idiv, 1)) (hy : y ≠ 0) (hpc : pc + 1 = pc') (w : own_WP p e below s Q k n (T.setTop (mkF m pc' ls (.int (x / y) :: rest)))) : own_WP p e below s Q k n (T.setTop (mkF m pc ls (.int y :: .int x :: rest))) := by
  subst hpc
  exact own_of (fun t q => XS.idiv X.here hx rfl hd rfl hy q) w
theorem own_irem (X : Stand p l e R s m args below meth c T locs cells slots) (hx : p.tables.exec = Jvm.exec) {x y : Int32} (hd : decode c.code pc = .ok (.irem, 1)) (hy : y ≠ 0) (hpc : pc + 1 = pc') (w : own_WP p e below s Q k n (T.setTop (mkF m pc' ls (.int (x % y) :: rest)))) : own_WP p e below s Q k n (T.setTop (mkF m pc ls (.int y :: .int x :: rest))) := by
  subst hpc
  exact own_of (fun t q => iremM X hx rfl hd rfl hy q) w
theorem own_ldiv (X : Stand p l e R s m args below meth c T locs cells slots) (hx : p.tables.exec = Jvm.exec) {x y : Int64} (hd : decode c.code pc = .ok (.ldiv, 1)) (hy : y ≠ 0) (hpc : pc + 1 = pc') (w : own_WP p e below s Q k n (T.setTop (mkF m pc' ls (.long (x / y) :: rest)))) : own_WP p e below s Q k n (T.setTop (mkF m pc ls (.long y :: .long x :: rest))) := by
  subst hpc
  exact own_of (fun t q => XS.ldiv X.here hx rfl hd rfl hy q) w
theorem own_lrem (X : Stand p l e R s m args below meth c T locs cells slots) (hx : p.tables.exec = Jvm.exec) {x y : Int64} (hd : decode c.code pc = .ok (.lrem, 1)) (hy : y ≠ 0) (hpc : pc + 1 = pc') (w : own_WP p e below s Q k n (T.setTop (mkF m pc' ls (.long (x % y) :: rest)))) : own_WP p e below s Q k n (T.setTop (mkF m pc ls (.long y :: .long x :: rest))) := by
  subst hpc
  exact own_of (fun t q => XS.lrem X.here hx rfl hd rfl hy ((lrem_mod x y).symm ▸ q)) w
theorem own_ineg (X : Stand p l e R s m args below meth c T locs cells slots) (hx : p.tables.exec = Jvm.exec) {x : Int32} (hd : decode c.code pc = .ok (.ineg, 1)) (hpc : pc + 1 = pc') (w : own_WP p e below s Q k n (T.setTop (mkF m pc' ls (.int (-x) :: rest)))) : own_WP p e below s Q k n (T.setTop (mkF m pc ls (.int x :: rest))) := by
  subst hpc
  exact own_of (fun t q => XS.ineg X.here hx rfl hd rfl q) w
theorem own_lneg (X : Stand p l e R s m args below meth c T locs cells slots) (hx : p.tables.exec = Jvm.exec) {x : Int64} (hd : decode c.code pc = .ok (.lneg, 1)) (hpc : pc + 1 = pc') (w : own_WP p e below s Q k n (T.setTop (mkF m pc' ls (.long (-x) :: rest)))) : own_WP p e below s Q k n (T.setTop (mkF m pc ls (.long x :: rest))) := by
  subst hpc
  exact own_of (fun t q => XS.lneg X.here hx rfl hd rfl q) w
theorem own_i2l (X : Stand p l e R s m args below meth c T locs cells slots) (hx : p.tables.exec = Jvm.exec) {x : Int32} (hd : decode c.code pc = .ok (.i2l, 1)) (hpc : pc + 1 = pc') (w : own_WP p e below s Q k n (T.setTop (mkF m pc' ls (.long (x.toInt64) :: rest)))) : own_WP p e below s Q k n (T.setTop (mkF m pc ls (.int x :: rest))) := by
  subst hpc
  exact own_of (fun t q => XS.i2l X.here hx rfl hd rfl q) w
theorem own_l2i (X : Stand p l e R s m args below meth c T locs cells slots) (hx : p.tables.exec = Jvm.exec) {x : Int64} (hd : decode c.code pc = .ok (.l2i, 1)) (hpc : pc + 1 = pc') (w : own_WP p e below s Q k n (T.setTop (mkF m pc' ls (.int (x.toInt32) :: rest)))) : own_WP p e below s Q k n (T.setTop (mkF m pc ls (.long x :: rest))) := by
  subst hpc
  exact own_of (fun t q => XS.l2i X.here hx rfl hd rfl q) w
theorem own_i2b (X : Stand p l e R s m args below meth c T locs cells slots) (hx : p.tables.exec = Jvm.exec) {x : Int32} (hd : decode c.code pc = .ok (.i2b, 1)) (hpc : pc + 1 = pc') (w : own_WP p e below s Q k n (T.setTop (mkF m pc' ls (.int (x.toInt8.toInt32) :: rest)))) : own_WP p e below s Q k n (T.setTop (mkF m pc ls (.int x :: rest))) := by
  subst hpc
  exact own_of (fun t q => XS.i2b X.here hx rfl hd rfl q) w
theorem own_i2s (X : Stand p l e R s m args below meth c T locs cells slots) (hx : p.tables.exec = Jvm.exec) {x : Int32} (hd : decode c.code pc = .ok (.i2s, 1)) (hpc : pc + 1 = pc') (w : own_WP p e below s Q k n (T.setTop (mkF m pc' ls (.int (x.toInt16.toInt32) :: rest)))) : own_WP p e below s Q k n (T.setTop (mkF m pc ls (.int x :: rest))) := by
  subst hpc
  exact own_of (fun t q => XS.i2s X.here hx rfl hd rfl q) w
theorem own_i2c (X : Stand p l e R s m args below meth c T locs cells slots) (hx : p.tables.exec = Jvm.exec) {x : Int32} (hd : decode c.code pc = .ok (.i2c, 1)) (hpc : pc + 1 = pc') (w : own_WP p e below s Q k n (T.setTop (mkF m pc' ls (.int (x.toUInt32.toUInt16.toUInt32.toInt32) :: rest)))) : own_WP p e below s Q k n (T.setTop (mkF m pc ls (.int x :: rest))) := by
  subst hpc
  exact own_of (fun t q => XS.i2c X.here hx rfl hd rfl q) w
theorem own_lcmp (X : Stand p l e R s m args below meth c T locs cells slots) (hx : p.tables.exec = Jvm.exec) {x y : Int64} (hd : decode c.code pc = .ok (.lcmp, 1)) (hpc : pc + 1 = pc') (w : own_WP p e below s Q k n (T.setTop (mkF m pc' ls (.int (lcmpW x y) :: rest)))) : own_WP p e below s Q k n (T.setTop (mkF m pc ls (.long y :: .long x :: rest))) := by
  subst hpc
  exact own_of (fun t q => XS.lcmp X.here hx rfl hd rfl q) w
theorem own_dup (X : Stand p l e R s m args below meth c T locs cells slots) (hx : p.tables.exec = Jvm.exec) {v : Value} (hd : decode c.code pc = .ok (.dup, 1)) (hv : v.category = 1) (hpc : pc + 1 = pc') (w : own_WP p e below s Q k n (T.setTop (mkF m pc' ls (v :: v :: rest)))) : own_WP p e below s Q k n (T.setTop (mkF m pc ls (v :: rest))) := by
  subst hpc
  exact own_of (fun t q => XS.dup X.here hx rfl hd rfl hv q) w
theorem own_pop (X : Stand p l e R s m args below meth c T locs cells slots) (hx : p.tables.exec = Jvm.exec) {v : Value} (hd : decode c.code pc = .ok (.pop, 1)) (hv : v.category = 1) (hpc : pc + 1 = pc') (w : own_WP p e below s Q k n (T.setTop (mkF m pc' ls rest))) : own_WP p e below s Q k n (T.setTop (mkF m pc ls (v :: rest))) := by
  subst hpc
  exact own_of (fun t q => XS.pop X.here hx rfl hd rfl hv q) w
theorem own_dup2 (X : Stand p l e R s m args below meth c T locs cells slots) (hx : p.tables.exec = Jvm.exec) {v1 v2 : Value} (hd : decode c.code pc = .ok (.dup2, 1)) (h1 : v1.category = 1) (h2 : v2.category = 1) (hpc : pc + 1 = pc') (w : own_WP p e below s Q k n (T.setTop (mkF m pc' ls (v1 :: v2 :: v1 :: v2 :: rest)))) : own_WP p e below s Q k n (T.setTop (mkF m pc ls (v1 :: v2 :: rest))) := by
  subst hpc
  refine own_of (fun t q => ?_) w
  jvm_step X.here [X.here.top, hx, hd, h1, h2]
  exact q
theorem own_goto (X : Stand p l e R s m args below meth c T locs cells slots) (hx : p.tables.exec = Jvm.exec) {o : Int} (hd : decode c.code pc = .ok (.goto o, 3)) (ho : 0 ≤ (pc : Int) + o) (hpc : ((pc : Int) + o).toNat = pc') (w : own_WP p e below s Q k n (T.setTop (mkF m pc' ls rest))) : own_WP p e below s Q k n (T.setTop (mkF m pc ls rest)) :=
  own_of (fun t q => XS.goto X.here hx rfl (pc0 := pc) (pc' := pc') rfl hd ho hpc q) w
theorem own_icmp_lt (X : Stand p l e R s m args below meth c T locs cells slots) (hx : p.tables.exec = Jvm.exec) {x y : Int32} {o : Int} {pf pt : Nat} (hd : decode c.code pc = .ok (.if_icmp .lt o, 3)) (hpf : pc + 3 = pf) (ho : 0 ≤ (pc : Int) + o) (hpt : ((pc : Int) + o).toNat = pt)
    (yes : x < y → own_WP p e below s Q k n (T.setTop (mkF m pt ls rest))) (no : ¬ x < y → own_WP p e below s Q k n (T.setTop (mkF m pf ls rest))) : own_WP p e below s Q k n (T.setTop (mkF m pc ls (.int y :: .int x :: rest))) := by
  subst hpf
  by_cases hq : x < y
  · exact own_of (fun t q => XS.icmpYes X.here hx rfl (pc0 := pc) (pc' := pt) rfl hd rfl ((tlt hq).1) ho hpt q) (yes hq)
  · exact own_of (fun t q => XS.icmpNo X.here hx rfl hd rfl ((flt hq).1) q) (no hq)
theorem own_if_lt (X : Stand p l e R s m args below meth c T locs cells slots) (hx : p.tables.exec = Jvm.exec) {x : Int32} {o : Int} {pf pt : Nat} (hd : decode c.code pc = .ok (.ifCond .lt o, 3)) (hpf : pc + 3 = pf) (ho : 0 ≤ (pc : Int) + o) (hpt : ((pc : Int) + o).toNat = pt)
    (yes : x < 0 → own_WP p e below s Q k n (T.setTop (mkF m pt ls rest))) (no : ¬ x < 0 → own_WP p e below s Q k n (T.setTop (mkF m pf ls rest))) : own_WP p e below s Q k n (T.setTop (mkF m pc ls (.int x :: rest))) := by
  subst hpf
  by_cases hq : x < 0
  · exact own_of (fun t q => XS.ifYes X.here hx rfl (pc0 := pc) (pc' := pt) rfl hd rfl ((if0 _ _).trans (tlt hq).1) ho hpt q) (yes hq)
  · exact own_of (fun t q => XS.ifNo X.here hx rfl hd rfl ((if0 _ _).trans (flt hq).1) q) (no hq)
theorem own_ifl_lt (X : Stand p l e R s m args below meth c T locs cells slots) (hx : p.tables.exec = Jvm.exec) {x y : Int64} {o : Int} {pf pt : Nat} (hd : decode c.code pc = .ok (.ifCond .lt o, 3)) (hpf : pc + 3 = pf) (ho : 0 ≤ (pc : Int) + o) (hpt : ((pc : Int) + o).toNat = pt)
    (yes : x < y → own_WP p e below s Q k n (T.setTop (mkF m pt ls rest))) (no : ¬ x < y → own_WP p e below s Q k n (T.setTop (mkF m pf ls rest))) : own_WP p e below s Q k n (T.setTop (mkF m pc ls (.int (lcmpW x y) :: rest))) := by
  subst hpf
  by_cases hq : x < y
  · exact own_of (fun t q => XS.ifYes X.here hx rfl (pc0 := pc) (pc' := pt) rfl hd rfl ((if0 _ _).trans (tlt ((lw_lt x y).mpr hq)).1) ho hpt q) (yes hq)
  · exact own_of (fun t q => XS.ifNo X.here hx rfl hd rfl ((if0 _ _).trans (flt (fun z => hq ((lw_lt x y).mp z))).1) q) (no hq)
theorem own_icmp_ge (X : Stand p l e R s m args below meth c T locs cells slots) (hx : p.tables.exec = Jvm.exec) {x y : Int32} {o : Int} {pf pt : Nat} (hd : decode c.code pc = .ok (.if_icmp .ge o, 3)) (hpf : pc + 3 = pf) (ho : 0 ≤ (pc : Int) + o) (hpt : ((pc : Int) + o).toNat = pt)
    (yes : ¬ x < y → own_WP p e below s Q k n (T.setTop (mkF m pt ls rest))) (no : x < y → own_WP p e below s Q k n (T.setTop (mkF m pf ls rest))) : own_WP p e below s Q k n (T.setTop (mkF m pc ls (.int y :: .int x :: rest))) := by
  subst hpf
  by_cases hq : ¬ x < y
  · exact own_of (fun t q => XS.icmpYes X.here hx rfl (pc0 := pc) (pc' := pt) rfl hd rfl ((flt hq).2.1) ho hpt q) (yes hq)
  · exact own_of (fun t q => XS.icmpNo X.here hx rfl hd rfl ((tlt (Classical.not_not.mp hq)).2.1) q) (no (Classical.not_not.mp hq))
theorem own_if_ge (X : Stand p l e R s m args below meth c T locs cells slots) (hx : p.tables.exec = Jvm.exec) {x : Int32} {o : Int} {pf pt : Nat} (hd : decode c.code pc = .ok (.ifCond .ge o, 3)) (hpf : pc + 3 = pf) (ho : 0 ≤ (pc : Int) + o) (hpt : ((pc : Int) + o).toNat = pt)
    (yes : ¬ x < 0 → own_WP p e below s Q k n (T.setTop (mkF m pt ls rest))) (no : x < 0 → own_WP p e below s Q k n (T.setTop (mkF m pf ls rest))) : own_WP p e below s Q k n (T.setTop (mkF m pc ls (.int x :: rest))) := by
  subst hpf
  by_cases hq : ¬ x < 0
  · exact own_of (fun t q => XS.ifYes X.here hx rfl (pc0 := pc) (pc' := pt) rfl hd rfl ((if0 _ _).trans (flt hq).2.1) ho hpt q) (yes hq)
  · exact own_of (fun t q => XS.ifNo X.here hx rfl hd rfl ((if0 _ _).trans (tlt (Classical.not_not.mp hq)).2.1) q) (no (Classical.not_not.mp hq))
theorem own_ifl_ge (X : Stand p l e R s m args below meth c T locs cells slots) (hx : p.tables.exec = Jvm.exec) {x y : Int64} {o : Int} {pf pt : Nat} (hd : decode c.code pc = .ok (.ifCond .ge o, 3)) (hpf : pc + 3 = pf) (ho : 0 ≤ (pc : Int) + o) (hpt : ((pc : Int) + o).toNat = pt)
    (yes : ¬ x < y → own_WP p e below s Q k n (T.setTop (mkF m pt ls rest))) (no : x < y → own_WP p e below s Q k n (T.setTop (mkF m pf ls rest))) : own_WP p e below s Q k n (T.setTop (mkF m pc ls (.int (lcmpW x y) :: rest))) := by
  subst hpf
  by_cases hq : ¬ x < y
  · exact own_of (fun t q => XS.ifYes X.here hx rfl (pc0 := pc) (pc' := pt) rfl hd rfl ((if0 _ _).trans (flt (fun z => hq ((lw_lt x y).mp z))).2.1) ho hpt q) (yes hq)
  · exact own_of (fun t q => XS.ifNo X.here hx rfl hd rfl ((if0 _ _).trans (tlt ((lw_lt x y).mpr (Classical.not_not.mp hq))).2.1) q) (no (Classical.not_not.mp hq))
theorem own_icmp_gt (X : Stand p l e R s m args below meth c T locs cells slots) (hx : p.tables.exec = Jvm.exec) {x y : Int32} {o : Int} {pf pt : Nat} (hd : decode c.code pc = .ok (.if_icmp .gt o, 3)) (hpf : pc + 3 = pf) (ho : 0 ≤ (pc : Int) + o) (hpt : ((pc : Int) + o).toNat = pt)
    (yes : y < x → own_WP p e below s Q k n (T.setTop (mkF m pt ls rest))) (no : ¬ y < x → own_WP p e below s Q k n (T.setTop (mkF m pf ls rest))) : own_WP p e below s Q k n (T.setTop (mkF m pc ls (.int y :: .int x :: rest))) := by
  subst hpf
  by_cases hq : y < x
  · exact own_of (fun t q => XS.icmpYes X.here hx rfl (pc0 := pc) (pc' := pt) rfl hd rfl ((tlt hq).2.2.1) ho hpt q) (yes hq)
  · exact own_of (fun t q => XS.icmpNo X.here hx rfl hd rfl ((flt hq).2.2.1) q) (no hq)
theorem own_if_gt (X : Stand p l e R s m args below meth c T locs cells slots) (hx : p.tables.exec = Jvm.exec) {x : Int32} {o : Int} {pf pt : Nat} (hd : decode c.code pc = .ok (.ifCond .gt o, 3)) (hpf : pc + 3 = pf) (ho : 0 ≤ (pc : Int) + o) (hpt : ((pc : Int) + o).toNat = pt)
    (yes : 0 < x → own_WP p e below s Q k n (T.setTop (mkF m pt ls rest))) (no : ¬ 0 < x → own_WP p e below s Q k n (T.setTop (mkF m pf ls rest))) : own_WP p e below s Q k n (T.setTop (mkF m pc ls (.int x :: rest))) := by
  subst hpf
  by_cases hq : 0 < x
  · exact own_of (fun t q => XS.ifYes X.here hx rfl (pc0 := pc) (pc' := pt) rfl hd rfl ((if0 _ _).trans (tlt hq).2.2.1) ho hpt q) (yes hq)
  · exact own_of (fun t q => XS.ifNo X.here hx rfl hd rfl ((if0 _ _).trans (flt hq).2.2.1) q) (no hq)
theorem own_ifl_gt (X : Stand p l e R s m args below meth c T locs cells slots) (hx : p.tables.exec = Jvm.exec) {x y : Int64} {o : Int} {pf pt : Nat} (hd : decode c.code pc = .ok (.ifCond .gt o, 3)) (hpf : pc + 3 = pf) (ho : 0 ≤ (pc : Int) + o) (hpt : ((pc : Int) + o).toNat = pt)
    (yes : y < x → own_WP p e below s Q k n (T.setTop (mkF m pt ls rest))) (no : ¬ y < x → own_WP p e below s Q k n (T.setTop (mkF m pf ls rest))) : own_WP p e below s Q k n (T.setTop (mkF m pc ls (.int (lcmpW x y) :: rest))) := by
  subst hpf
  by_cases hq : y < x
  · exact own_of (fun t q => XS.ifYes X.here hx rfl (pc0 := pc) (pc' := pt) rfl hd rfl ((if0 _ _).trans (tlt ((lw_gt x y).mpr hq)).2.2.1) ho hpt q) (yes hq)
  · exact own_of (fun t q => XS.ifNo X.here hx rfl hd rfl ((if0 _ _).trans (flt (fun z => hq ((lw_gt x y).mp z))).2.2.1) q) (no hq)
theorem own_icmp_le (X : Stand p l e R s m args below meth c T locs cells slots) (hx : p.tables.exec = Jvm.exec) {x y : Int32} {o : Int} {pf pt : Nat} (hd : decode c.code pc = .ok (.if_icmp .le o, 3)) (hpf : pc + 3 = pf) (ho : 0 ≤ (pc : Int) + o) (hpt : ((pc : Int) + o).toNat = pt)
    (yes : ¬ y < x → own_WP p e below s Q k n (T.setTop (mkF m pt ls rest))) (no : y < x → own_WP p e below s Q k n (T.setTop (mkF m pf ls rest))) : own_WP p e below s Q k n (T.setTop (mkF m pc ls (.int y :: .int x :: rest))) := by
  subst hpf
  by_cases hq : ¬ y < x
  · exact own_of (fun t q => XS.icmpYes X.here hx rfl (pc0 := pc) (pc' := pt) rfl hd rfl ((flt hq).2.2.2) ho hpt q) (yes hq)
  · exact own_of (fun t q => XS.icmpNo X.here hx rfl hd rfl ((tlt (Classical.not_not.mp hq)).2.2.2) q) (no (Classical.not_not.mp hq))
theorem own_if_le (X : Stand p l e R s m args below meth c T locs cells slots) (hx : p.tables.exec = Jvm.exec) {x : Int32} {o : Int} {pf pt : Nat} (hd : decode c.code pc = .ok (.ifCond .le o, 3)) (hpf : pc + 3 = pf) (ho : 0 ≤ (pc : Int) + o) (hpt : ((pc : Int) + o).toNat = pt)
    (yes : ¬ 0 < x → own_WP p e below s Q k n (T.setTop (mkF m pt ls rest))) (no : 0 < x → own_WP p e below s Q k n (T.setTop (mkF m pf ls rest))) : own_WP p e below s Q k n (T.setTop (mkF m pc ls (.int x :: rest))) := by
  subst hpf
  by_cases hq : ¬ 0 < x
  · exact own_of (fun t q => XS.ifYes X.here hx rfl (pc0 := pc) (pc' := pt) rfl hd rfl ((if0 _ _).trans (flt hq).2.2.2) ho hpt q) (yes hq)
  · exact own_of (fun t q => XS.ifNo X.here hx rfl hd rfl ((if0 _ _).trans (tlt (Classical.not_not.mp hq)).2.2.2) q) (no (Classical.not_not.mp hq))
theorem own_ifl_le (X : Stand p l e R s m args below meth c T locs cells slots) (hx : p.tables.exec = Jvm.exec) {x y : Int64} {o : Int} {pf pt : Nat} (hd : decode c.code pc = .ok (.ifCond .le o, 3)) (hpf : pc + 3 = pf) (ho : 0 ≤ (pc : Int) + o) (hpt : ((pc : Int) + o).toNat = pt)
    (yes : ¬ y < x → own_WP p e below s Q k n (T.setTop (mkF m pt ls rest))) (no : y < x → own_WP p e below s Q k n (T.setTop (mkF m pf ls rest))) : own_WP p e below s Q k n (T.setTop (mkF m pc ls (.int (lcmpW x y) :: rest))) := by
  subst hpf
  by_cases hq : ¬ y < x
  · exact own_of (fun t q => XS.ifYes X.here hx rfl (pc0 := pc) (pc' := pt) rfl hd rfl ((if0 _ _).trans (flt (fun z => hq ((lw_gt x y).mp z))).2.2.2) ho hpt q) (yes hq)
  · exact own_of (fun t q => XS.ifNo X.here hx rfl hd rfl ((if0 _ _).trans (tlt ((lw_gt x y).mpr (Classical.not_not.mp hq))).2.2.2) q) (no (Classical.not_not.mp hq))
theorem own_icmp_eq (X : Stand p l e R s m args below meth c T locs cells slots) (hx : p.tables.exec = Jvm.exec) {x y : Int32} {o : Int} {pf pt : Nat} (hd : decode c.code pc = .ok (.if_icmp .eq o, 3)) (hpf : pc + 3 = pf) (ho : 0 ≤ (pc : Int) + o) (hpt : ((pc : Int) + o).toNat = pt)
    (yes : x = y → own_WP p e below s Q k n (T.setTop (mkF m pt ls rest))) (no : ¬ x = y → own_WP p e below s Q k n (T.setTop (mkF m pf ls rest))) : own_WP p e below s Q k n (T.setTop (mkF m pc ls (.int y :: .int x :: rest))) := by
  subst hpf
  by_cases hq : x = y
  · exact own_of (fun t q => XS.icmpYes X.here hx rfl (pc0 := pc) (pc' := pt) rfl hd rfl ((teq hq).1) ho hpt q) (yes hq)
  · exact own_of (fun t q => XS.icmpNo X.here hx rfl hd rfl ((feq hq).1) q) (no hq)
theorem own_if_eq (X : Stand p l e R s m args below meth c T locs cells slots) (hx : p.tables.exec = Jvm.exec) {x : Int32} {o : Int} {pf pt : Nat} (hd : decode c.code pc = .ok (.ifCond .eq o, 3)) (hpf : pc + 3 = pf) (ho : 0 ≤ (pc : Int) + o) (hpt : ((pc : Int) + o).toNat = pt)
    (yes : x = 0 → own_WP p e below s Q k n (T.setTop (mkF m pt ls rest))) (no : ¬ x = 0 → own_WP p e below s Q k n (T.setTop (mkF m pf ls rest))) : own_WP p e below s Q k n (T.setTop (mkF m pc ls (.int x :: rest))) := by
  subst hpf
  by_cases hq : x = 0
  · exact own_of (fun t q => XS.ifYes X.here hx rfl (pc0 := pc) (pc' := pt) rfl hd rfl ((if0 _ _).trans (teq hq).1) ho hpt q) (yes hq)
  · exact own_of (fun t q => XS.ifNo X.here hx rfl hd rfl ((if0 _ _).trans (feq hq).1) q) (no hq)
theorem own_ifl_eq (X : Stand p l e R s m args below meth c T locs cells slots) (hx : p.tables.exec = Jvm.exec) {x y : Int64} {o : Int} {pf pt : Nat} (hd : decode c.code pc = .ok (.ifCond .eq o, 3)) (hpf : pc + 3 = pf) (ho : 0 ≤ (pc : Int) + o) (hpt : ((pc : Int) + o).toNat = pt)
    (yes : x = y → own_WP p e below s Q k n (T.setTop (mkF m pt ls rest))) (no : ¬ x = y → own_WP p e below s Q k n (T.setTop (mkF m pf ls rest))) : own_WP p e below s Q k n (T.setTop (mkF m pc ls (.int (lcmpW x y) :: rest))) := by
  subst hpf
  by_cases hq : x = y
  · exact own_of (fun t q => XS.ifYes X.here hx rfl (pc0 := pc) (pc' := pt) rfl hd rfl ((if0 _ _).trans (teq ((lw_eq x y).mpr hq)).1) ho hpt q) (yes hq)
  · exact own_of (fun t q => XS.ifNo X.here hx rfl hd rfl ((if0 _ _).trans (feq (fun z => hq ((lw_eq x y).mp z))).1) q) (no hq)
theorem own_icmp_ne (X : Stand p l e R s m args below meth c T locs cells slots) (hx : p.tables.exec = Jvm.exec) {x y : Int32} {o : Int} {pf pt : Nat} (hd : decode c.code pc = .ok (.if_icmp .ne o, 3)) (hpf : pc + 3 = pf) (ho : 0 ≤ (pc : Int) + o) (hpt : ((pc : Int) + o).toNat = pt)
    (yes : ¬ x = y → own_WP p e below s Q k n (T.setTop (mkF m pt ls rest))) (no : x = y → own_WP p e below s Q k n (T.setTop (mkF m pf ls rest))) : own_WP p e below s Q k n (T.setTop (mkF m pc ls (.int y :: .int x :: rest))) := by
  subst hpf
  by_cases hq : ¬ x = y
  · exact own_of (fun t q => XS.icmpYes X.here hx rfl (pc0 := pc) (pc' := pt) rfl hd rfl ((feq hq).2) ho hpt q) (yes hq)
  · exact own_of (fun t q => XS.icmpNo X.here hx rfl hd rfl ((teq (Classical.not_not.mp hq)).2) q) (no (Classical.not_not.mp hq))
theorem own_if_ne (X : Stand p l e R s m args below meth c T locs cells slots) (hx : p.tables.exec = Jvm.exec) {x : Int32} {o : Int} {pf pt : Nat} (hd : decode c.code pc = .ok (.ifCond .ne o, 3)) (hpf : pc + 3 = pf) (ho : 0 ≤ (pc : Int) + o) (hpt : ((pc : Int) + o).toNat = pt)
    (yes : ¬ x = 0 → own_WP p e below s Q k n (T.setTop (mkF m pt ls rest))) (no : x = 0 → own_WP p e below s Q k n (T.setTop (mkF m pf ls rest))) : own_WP p e below s Q k n (T.setTop (mkF m pc ls (.int x :: rest))) := by
  subst hpf
  by_cases hq : ¬ x = 0
  · exact own_of (fun t q => XS.ifYes X.here hx rfl (pc0 := pc) (pc' := pt) rfl hd rfl ((if0 _ _).trans (feq hq).2) ho hpt q) (yes hq)
  · exact own_of (fun t q => XS.ifNo X.here hx rfl hd rfl ((if0 _ _).trans (teq (Classical.not_not.mp hq)).2) q) (no (Classical.not_not.mp hq))
theorem own_ifl_ne (X : Stand p l e R s m args below meth c T locs cells slots) (hx : p.tables.exec = Jvm.exec) {x y : Int64} {o : Int} {pf pt : Nat} (hd : decode c.code pc = .ok (.ifCond .ne o, 3)) (hpf : pc + 3 = pf) (ho : 0 ≤ (pc : Int) + o) (hpt : ((pc : Int) + o).toNat = pt)
    (yes : ¬ x = y → own_WP p e below s Q k n (T.setTop (mkF m pt ls rest))) (no : x = y → own_WP p e below s Q k n (T.setTop (mkF m pf ls rest))) : own_WP p e below s Q k n (T.setTop (mkF m pc ls (.int (lcmpW x y) :: rest))) := by
  subst hpf
  by_cases hq : ¬ x = y
  · exact own_of (fun t q => XS.ifYes X.here hx rfl (pc0 := pc) (pc' := pt) rfl hd rfl ((if0 _ _).trans (feq (fun z => hq ((lw_eq x y).mp z))).2) ho hpt q) (yes hq)
  · exact own_of (fun t q => XS.ifNo X.here hx rfl hd rfl ((if0 _ _).trans (teq ((lw_eq x y).mpr (Classical.not_not.mp hq))).2) q) (no (Classical.not_not.mp hq))
theorem own_getF (X : Stand p l e R s m args below meth c T locs cells slots) (hx : p.tables.exec = Jvm.exec) (hZ : Z.Warmed39 s.vm) {own R0 O nm d host : String} {idx : Nat} (hown : s.vm.findClass own = some m.cls) (w1 : (Jvm.Cond.fieldLink own idx R0 nm d).before a0 Z = true ∨ (Jvm.Cond.fieldLinkNest own idx R0 nm d host).before a0 Z = true) (via : Via Z R0 O nm d) (eT : T.heap = h) {b : Addr} {v : Value} (F : Fld Z h b O nm d v) (hd : decode c.code pc = .ok (.getfield idx, 3)) (hpc : pc + 3 = pc')
    (w : ∀ T', Stand p l e R s m args below meth c T' locs cells slots → T'.heap = h → own_WP p e below s Q k n (T'.setTop (mkF m pc' ls (v :: rest)))) : own_WP p e below s Q k n (T.setTop (mkF m pc ls (.ref b :: rest))) := by
  subst hpc
  obtain ⟨T', X', e', st⟩ := getF X hx hZ hown w1 via eT F (g := mkF m pc ls (.ref b :: rest)) rfl rfl hd
  exact own_of st (w T' X' e')
theorem own_putF (X : Stand p l e R s m args below meth c T locs cells slots) (hx : p.tables.exec = Jvm.exec) (hZ : Z.Warmed39 s.vm) {own R0 O nm d host C : String} {idx kk : Nat} {ty : FieldType} (hown : s.vm.findClass own = some m.cls) (w1 : (Jvm.Cond.fieldLink own idx R0 nm d).before a0 Z = true ∨ (Jvm.Cond.fieldLinkNest own idx R0 nm d host).before a0 Z = true) (via : Via Z R0 O nm d) (eT : T.heap = h) {b : Addr} {v old : Value} (F : Fld Z h b O nm d old) (E : Exa Z h b C) (L : (Jvm.Cond.lays C O nm d).before a0 Z = true ∨ ((Jvm.Cond.laysFinal C O nm d).before a0 Z = true ∧ own = O ∧ meth.name = "<init>")) (wi : (Jvm.Cond.instantiable C kk).before a0 Z = true) (hty : parseFieldDescriptor d = some ty) (hn : narrow ty v = v) (hf : fits ty v = true) (hd : decode c.code pc = .ok (.putfield idx, 3)) (hpc : pc + 3 = pc')
    (w : ∀ T' h', Stand p l e R s m args below meth c T' (locs ++ [⟨b, Jvm.RoadKit.slotOf Z O nm d⟩]) cells slots → T'.heap = h' → Wr h h' b (Jvm.RoadKit.slotOf Z O nm d) v → own_WP p e below s Q k n (T'.setTop (mkF m pc' ls rest))) : own_WP p e below s Q k n (T.setTop (mkF m pc ls (v :: .ref b :: rest))) := by
  subst hpc
  obtain ⟨T', h', X', e', W', st⟩ := putF X hx hZ hown w1 via eT F E L wi hty hn hf (g := mkF m pc ls (v :: .ref b :: rest)) rfl rfl hd
  exact own_of st (w T' h' X' e' W')
theorem own_new (X : Stand p l e R s m args below meth c T locs cells slots) (hx : p.tables.exec = Jvm.exec) (hZ : Z.Warmed39 s.vm) {own C : String} {idx nn : Nat} (hown : s.vm.findClass own = some m.cls) (w1 : (Jvm.Cond.classLink own idx C).before a0 Z = true) (wi : (Jvm.Cond.instantiable C nn).before a0 Z = true) (wz : (Jvm.Cond.initialized C).before a0 Z = true) (eT : T.heap = h) (hd : decode c.code pc = .ok (.new idx, 3)) (hc : cells + 1 ≤ R.cells) (hl : slots + nn ≤ R.slots) (hpc : pc + 3 = pc')
    (w : ∀ T' h' b, b = h.size → Stand p l e R s m args below meth c T' locs (cells + 1) (slots + nn) → T'.heap = h' → Ext h h' → Exa Z h' b C → (∀ {O nm d : String} {ty : FieldType}, Laid Z a0 C O nm d → parseFieldDescriptor d = some ty → Fld Z h' b O nm d (defaultValue ty)) → own_WP p e below s Q k n (T'.setTop (mkF m pc' ls (.ref b :: rest)))) : own_WP p e below s Q k n (T.setTop (mkF m pc ls rest)) := by
  subst hpc
  obtain ⟨T', h', X', e', E', A', D', -, st⟩ := newO X hx hZ hown w1 wi wz eT (g := mkF m pc ls rest) rfl hd hc hl
  exact own_of st (w T' h' _ rfl X' e' E' A' D')
theorem own_newP (X : Stand p l e R s m args below meth c T locs cells slots) (hx : p.tables.exec = Jvm.exec) (hZ : Z.Warmed39 s.vm) {aty : ArrayType} (w1 : (Jvm.Cond.arrayClass (newarray.typeOf aty)).before a0 Z = true) (eT : T.heap = h) (hd : decode c.code pc = .ok (.newarray aty, 2)) {z : Int32} (hz : ¬ z < 0) {cap : Nat} (hcap : z.toNatClampNeg ≤ cap) (hb : cap * 8 ≤ 536870912) (hc : cells + 1 ≤ R.cells) (hl : slots + cap ≤ R.slots) (hpc : pc + 2 = pc')
    (w : ∀ T' h' cA b, b = h.size → Stand p l e R s m args below meth c T' locs (cells + 1) (slots + cap) → T'.heap = h' → Ext h h' → Arr Z h' b (newA cA (newarray.typeOf aty) z) (newarray.typeOf aty) → own_WP p e below s Q k n (T'.setTop (mkF m pc' ls (.ref b :: rest)))) : own_WP p e below s Q k n (T.setTop (mkF m pc ls (.int z :: rest))) := by
  subst hpc
  obtain ⟨T', h', cA, X', e', E', A', st⟩ := newP X hx hZ w1 eT (g := mkF m pc ls (.int z :: rest)) rfl hd rfl hz hcap hb hc hl
  exact own_of st (w T' h' cA _ rfl X' e' E' A')
theorem own_initO (X : Stand p l e R s m args below meth c T locs cells slots) (hx : p.tables.exec = Jvm.exec) (hZ : Z.Warmed39 s.vm) {own : String} {idx : Nat} (hown : s.vm.findClass own = some m.cls) (w1 : (Jvm.Cond.methodLink own idx Lib.objectInit).before a0 Z = true) (w2 : (Jvm.Cond.instanceMethod Lib.objectInit).before a0 Z = true) (w3 : (Jvm.Cond.code Lib.objectInit ⟨#[0xb1]⟩ 1 none).before a0 Z = true) (eT : T.heap = h) (hsz : ls.size = c.maxLocals) {b : Addr} (hd : decode c.code pc = .ok (.invokespecial idx, 3)) (hf : 1 ≤ R.frames) {W : Nat} (hW : (rest.map fun v => v.category).sum ≤ W) (hl : W + 12 ≤ R.locals) (hpc : pc + 3 = pc')
    (w : ∀ T', Stand p l e R s m args below meth c T' locs cells slots → T'.heap = h → own_WP p e below s Q k n (T'.setTop (mkF m pc' ls rest))) : own_WP p e below s Q k n (T.setTop (mkF m pc ls (.ref b :: rest))) := by
  subst hpc
  obtain ⟨T', X', e', st⟩ := initO X hx hZ hown w1 w2 w3 eT (g := mkF m pc ls (.ref b :: rest)) rfl hsz rfl hd hf (W := W) (by show 2 * 0 + _ ≤ _; omega) hl
  exact own_of st (w T' X' e')
theorem own_callS (X : Stand p l e R s m args below meth c T locs cells slots) (hx : p.tables.exec = Jvm.exec) (hZ : Z.Warmed39 s.vm) {own : String} {idx : Nat} {y : MethodName} {bytes : ByteArray} {maxL : Nat} {ret : Option FieldType} {rm : Room} {as' : Array Value} {Q' : Option Value → Heap → List Loc → Prop} (hown : s.vm.findClass own = some m.cls) (w1 : (Jvm.Cond.methodLink own idx y).before a0 Z = true) (w2 : (Jvm.Cond.static y).before a0 Z = true) (w3 : (Jvm.Cond.initialized y.cls).before a0 Z = true) (w4 : (Jvm.Cond.code y bytes maxL ret).before a0 Z = true) (hy : y.cls ≠ "java/lang/invoke/MethodHandle" ∧ y.cls ≠ "java/lang/invoke/VarHandle")
    (C : own_Con l Z y bytes maxL ret rm as' h Q') (eT : T.heap = h) {ps : List FieldType} {rt : Option FieldType} (hpd : parseMethodDescriptor y.desc = some ⟨ps, rt⟩) (argsL rest : List Value) (ha : argsL.toArray = as') (hal : argsL.length = ps.length) {st : List Value} (hst : st = argsL.reverse ++ rest) {W : Nat} (hW : (rest.map fun v => v.category).sum ≤ W) (hf : rm.frames + 1 ≤ R.frames) (hl : W + (maxL + 11) + rm.locals ≤ R.locals) (hsz : ls.size = c.maxLocals) (hd : decode c.code pc = .ok (.invokestatic idx, 3)) (hc : cells + rm.cells ≤ R.cells) (hs : slots + rm.slots ≤ R.slots) (hpc : pc + 3 = pc')
    (w : ∀ v T' L, Stand p l e R s m args below meth c T' (locs ++ L) (cells + rm.cells) (slots + rm.slots) → Q' v T'.heap L → own_WP p e below s Q k n (T'.setTop (mkF m pc' ls (v.toList ++ rest)))) : own_WP p e below s Q k n (T.setTop (mkF m pc ls st)) := by
  subst hpc hst ha
  obtain ⟨v, vm1, ⟨T', L', k', n'⟩, -, X', ⟨Lc, hQ, l1, y1, z1⟩, stp⟩ := Jvm.LawKit.callS X hx (y := y) hown (mvT hZ w1) (mvT hZ w2) (mvT hZ w3) (mvT hZ w4) hy (backOf (W := W) (C []) hZ w4 w3 hf hl) (g := mkF m pc ls (argsL.reverse ++ rest)) rfl hsz (argsL := argsL) (rest := rest) (lenOf hpd hal) rfl (by show 2 * 0 + _ ≤ _; omega) hd (fun _ _ => ⟨rfl, eT, hc, hs⟩)
  dsimp only [Pt.U, Pt.locs, Pt.cells, Pt.slots] at X' l1 y1 z1 stp hQ
  subst l1 y1 z1
  exact own_of stp (w _ _ _ X' hQ)
theorem own_callN (X : Stand p l e R s m args below meth c T locs cells slots) (hx : p.tables.exec = Jvm.exec) (hZ : Z.Warmed39 s.vm) {own : String} {idx : Nat} {y : MethodName} {bytes : ByteArray} {maxL : Nat} {rm : Room} {as' : Array Value} {Q' : Option Value → Heap → List Loc → Prop} (hy1 : y.name = "<init>") (hown : s.vm.findClass own = some m.cls) (w1 : (Jvm.Cond.methodLink own idx y).before a0 Z = true) (w2 : (Jvm.Cond.instanceMethod y).before a0 Z = true) (w3 : (Jvm.Cond.initialized y.cls).before a0 Z = true) (w4 : (Jvm.Cond.code y bytes maxL none).before a0 Z = true) (hy : y.cls ≠ "java/lang/invoke/MethodHandle" ∧ y.cls ≠ "java/lang/invoke/VarHandle")
    (C : own_Con l Z y bytes maxL none rm as' h Q') (eT : T.heap = h) {ps : List FieldType} {rt : Option FieldType} (hpd : parseMethodDescriptor y.desc = some ⟨ps, rt⟩) (b : Addr) (argsL rest : List Value) (ha : (.ref b :: argsL).toArray = as') (hal : argsL.length = ps.length) {st : List Value} (hst : st = argsL.reverse ++ .ref b :: rest) {W : Nat} (hW : (rest.map fun v => v.category).sum ≤ W) (hf : rm.frames + 1 ≤ R.frames) (hl : W + (maxL + 11) + rm.locals ≤ R.locals) (hsz : ls.size = c.maxLocals) (hd : decode c.code pc = .ok (.invokespecial idx, 3)) (hc : cells + rm.cells ≤ R.cells) (hs : slots + rm.slots ≤ R.slots) (hpc : pc + 3 = pc')
    (w : ∀ v T' L, Stand p l e R s m args below meth c T' (locs ++ L) (cells + rm.cells) (slots + rm.slots) → Q' v T'.heap L → own_WP p e below s Q k n (T'.setTop (mkF m pc' ls (v.toList ++ rest)))) : own_WP p e below s Q k n (T.setTop (mkF m pc ls st)) := by
  subst hpc hst ha
  obtain ⟨v, vm1, ⟨T', L', k', n'⟩, -, X', ⟨Lc, hQ, l1, y1, z1⟩, stp⟩ := X.specialBack hx (y := y) hy1 hown (mvT hZ w1) (mvT hZ w2) (mvT hZ w4) hy (backOf (W := W) (C []) hZ w4 w3 hf hl) (g := mkF m pc ls (argsL.reverse ++ .ref b :: rest)) rfl hsz (Steps.refl _) (a := b) (argsL := argsL) (rest := rest) (lenOf hpd hal) rfl (by show 2 * 0 + _ ≤ _; omega) hd (fun _ _ => ⟨rfl, eT, hc, hs⟩)
  dsimp only [Pt.U, Pt.locs, Pt.cells, Pt.slots] at X' l1 y1 z1 stp hQ
  subst l1 y1 z1
  exact own_of (fun t q => stp.trans q) (w _ _ _ X' hQ)
theorem own_callV (X : Stand p l e R s m args below meth c T locs cells slots) (hx : p.tables.exec = Jvm.exec) (hZ : Z.Warmed39 s.vm) {own D : String} {idx : Nat} {y z : MethodName} {bytes : ByteArray} {maxL : Nat} {ret : Option FieldType} {rm : Room} {as' : Array Value} {Q' : Option Value → Heap → List Loc → Prop} (hown : s.vm.findClass own = some m.cls) (w1 : (Jvm.Cond.methodLink own idx y).before a0 Z = true) (wd : (Jvm.Cond.declares y).before a0 Z = true) (hnf : NotFace s y) (ws : (Jvm.Cond.selects D y z).before a0 Z = true) (w2 : (Jvm.Cond.instanceMethod z).before a0 Z = true) (w3 : (Jvm.Cond.initialized z.cls).before a0 Z = true) (w4 : (Jvm.Cond.code z bytes maxL ret).before a0 Z = true) (hy : y.cls ≠ "java/lang/invoke/MethodHandle" ∧ y.cls ≠ "java/lang/invoke/VarHandle") {b : Addr} (E : Exa Z h b D)
    (C : own_Con l Z z bytes maxL ret rm as' h Q') (eT : T.heap = h) {ps : List FieldType} {rt : Option FieldType} (hpd : parseMethodDescriptor y.desc = some ⟨ps, rt⟩) (argsL rest : List Value) (ha : (.ref b :: argsL).toArray = as') (hal : argsL.length = ps.length) {st : List Value} (hst : st = argsL.reverse ++ .ref b :: rest) {W : Nat} (hW : (rest.map fun v => v.category).sum ≤ W) (hf : rm.frames + 1 ≤ R.frames) (hl : W + (maxL + 11) + rm.locals ≤ R.locals) (hsz : ls.size = c.maxLocals) (hd : decode c.code pc = .ok (.invokevirtual idx, 3)) (hc : cells + rm.cells ≤ R.cells) (hs : slots + rm.slots ≤ R.slots) (hpc : pc + 3 = pc')
    (w : ∀ v T' L, Stand p l e R s m args below meth c T' (locs ++ L) (cells + rm.cells) (slots + rm.slots) → Q' v T'.heap L → own_WP p e below s Q k n (T'.setTop (mkF m pc' ls (v.toList ++ rest)))) : own_WP p e below s Q k n (T.setTop (mkF m pc ls st)) := by
  subst hpc hst ha
  obtain ⟨cq, kq, qa, qb, qc⟩ := isOf (T := T) hZ eT E
  obtain ⟨v, vm1, ⟨T', L', k', n'⟩, -, X', ⟨Lc, hQ, l1, y1, z1⟩, stp⟩ := X.virtualBack hx (y := y) (z := z) hown (mvT hZ w1) (mvT hZ wd) hnf (mvT hZ ws) (mvT hZ w2) hy (backOf (W := W) (C []) hZ w4 w3 hf hl) qa qc (g := mkF m pc ls (argsL.reverse ++ .ref b :: rest)) rfl hsz (Steps.refl _) (argsL := argsL) (rest := rest) (lenOf hpd hal) rfl (by show 2 * 0 + _ ≤ _; omega) hd (fun _ _ => ⟨rfl, eT, hc, hs⟩)
  dsimp only [Pt.U, Pt.locs, Pt.cells, Pt.slots] at X' l1 y1 z1 stp hQ
  subst l1 y1 z1
  exact own_of (fun t q => stp.trans q) (w _ _ _ X' hQ)

theorem own_laload (X : Stand p l e R s m args below meth c T locs cells slots) (hx : p.tables.exec = Jvm.exec) (hZ : Z.Warmed39 s.vm) (eT : T.heap = h) {b : Addr} {kk : ClassId} {z j : Int32} {vs : List Value} {dv v : Value} (F : Arv Z h b kk .long z vs dv) (hj : ¬ j < 0 ∧ j < z) (hv : vs.getD j.toNatClampNeg dv = v) (hd : decode c.code pc = .ok (.laload, 1)) (hpc : pc + 1 = pc') (w : own_WP p e below s Q k n (T.setTop (mkF m pc' ls (v :: rest)))) : own_WP p e below s Q k n (T.setTop (mkF m pc ls (.int j :: .ref b :: rest))) := by
  subst hpc
  obtain ⟨cl, A, q1, S, q3, H, G⟩ := F
  exact own_of (fun t q => X.laload hx (j := j) (v := v) (by rw [eT]; exact A.1) (State.isArrayOf_alike hZ.alike A.2.1) A.2.2 (inb_of S hj) (H.at (inb_of S hj) hv) (g := mkF m pc ls (.int j :: .ref b :: rest)) rfl rfl hd _ q) w
theorem own_baload (X : Stand p l e R s m args below meth c T locs cells slots) (hx : p.tables.exec = Jvm.exec) (hZ : Z.Warmed39 s.vm) (eT : T.heap = h) {b : Addr} {kk : ClassId} {z j : Int32} {vs : List Value} {dv v : Value} (F : Arv Z h b kk .byte z vs dv) (hj : ¬ j < 0 ∧ j < z) (hv : vs.getD j.toNatClampNeg dv = v) (hd : decode c.code pc = .ok (.baload, 1)) (hpc : pc + 1 = pc') (w : own_WP p e below s Q k n (T.setTop (mkF m pc' ls (v :: rest)))) : own_WP p e below s Q k n (T.setTop (mkF m pc ls (.int j :: .ref b :: rest))) := by
  subst hpc
  obtain ⟨cl, A, q1, S, q3, H, G⟩ := F
  exact own_of (fun t q => X.baloadBytes hx (j := j) (v := v) (by rw [eT]; exact A.1) (State.isArrayOf_alike hZ.alike A.2.1) A.2.2 (inb_of S hj) (H.at (inb_of S hj) hv) (g := mkF m pc ls (.int j :: .ref b :: rest)) rfl rfl hd _ q) w
theorem own_iaload (X : Stand p l e R s m args below meth c T locs cells slots) (hx : p.tables.exec = Jvm.exec) (hZ : Z.Warmed39 s.vm) (eT : T.heap = h) {b : Addr} {kk : ClassId} {z j : Int32} {vs : List Value} {dv v : Value} (F : Arv Z h b kk .int z vs dv) (hj : ¬ j < 0 ∧ j < z) (hv : vs.getD j.toNatClampNeg dv = v) (hd : decode c.code pc = .ok (.iaload, 1)) (hpc : pc + 1 = pc') (w : own_WP p e below s Q k n (T.setTop (mkF m pc' ls (v :: rest)))) : own_WP p e below s Q k n (T.setTop (mkF m pc ls (.int j :: .ref b :: rest))) := by
  subst hpc
  obtain ⟨cl, A, q1, S, q3, H, G⟩ := F
  exact own_of (fun t q => X.iaload hx (j := j) (v := v) (by rw [eT]; exact A.1) (State.isArrayOf_alike hZ.alike A.2.1) A.2.2 (inb_of S hj) (H.at (inb_of S hj) hv) (g := mkF m pc ls (.int j :: .ref b :: rest)) rfl rfl hd _ q) w
theorem own_caload (X : Stand p l e R s m args below meth c T locs cells slots) (hx : p.tables.exec = Jvm.exec) (hZ : Z.Warmed39 s.vm) (eT : T.heap = h) {b : Addr} {kk : ClassId} {z j : Int32} {vs : List Value} {dv v : Value} (F : Arv Z h b kk .char z vs dv) (hj : ¬ j < 0 ∧ j < z) (hv : vs.getD j.toNatClampNeg dv = v) (hd : decode c.code pc = .ok (.caload, 1)) (hpc : pc + 1 = pc') (w : own_WP p e below s Q k n (T.setTop (mkF m pc' ls (v :: rest)))) : own_WP p e below s Q k n (T.setTop (mkF m pc ls (.int j :: .ref b :: rest))) := by
  subst hpc
  obtain ⟨cl, A, q1, S, q3, H, G⟩ := F
  exact own_of (fun t q => X.caload hx (j := j) (v := v) (by rw [eT]; exact A.1) (State.isArrayOf_alike hZ.alike A.2.1) A.2.2 (inb_of S hj) (H.at (inb_of S hj) hv) (g := mkF m pc ls (.int j :: .ref b :: rest)) rfl rfl hd _ q) w
theorem own_lastore (X : Stand p l e R s m args below meth c T locs cells slots) (hx : p.tables.exec = Jvm.exec) (hZ : Z.Warmed39 s.vm) (eT : T.heap = h) {b : Addr} {kk : ClassId} {z j : Int32} {vs : List Value} {dv : Value} {x : Int64} (F : Arv Z h b kk .long z vs dv) (hj : ¬ j < 0 ∧ j < z) (i : Nat) (hi : j.toNatClampNeg = i) (hlen : i < vs.length) (hd : decode c.code pc = .ok (.lastore, 1)) (hpc : pc + 1 = pc') (w : ∀ T' h', Stand p l e R s m args below meth c T' (locs ++ [⟨b, j.toNatClampNeg⟩]) cells slots → T'.heap = h' → Wr h h' b j.toNatClampNeg (.long x) → Arv Z h' b kk .long z (vs.set i (.long x)) dv → own_WP p e below s Q k n (T'.setTop (mkF m pc' ls rest))) : own_WP p e below s Q k n (T.setTop (mkF m pc ls (.long x :: .int j :: .ref b :: rest))) := by
  subst hpc
  obtain ⟨cl, A, q1, S, q3, H, G⟩ := F
  obtain ⟨T', h', X', e', W', st⟩ := stJ X hx hZ eT A (j := j) (inb_of S hj) (g := mkF m pc ls (.long x :: .int j :: .ref b :: rest)) rfl rfl hd
  exact own_of st (w T' h' X' e' W' (Arv.set A q1 S q3 H G rfl W' i hi hlen))
theorem own_bastore (X : Stand p l e R s m args below meth c T locs cells slots) (hx : p.tables.exec = Jvm.exec) (hZ : Z.Warmed39 s.vm) (eT : T.heap = h) {b : Addr} {kk : ClassId} {z j : Int32} {vs : List Value} {dv : Value} {x : Int32} (F : Arv Z h b kk .byte z vs dv) (hj : ¬ j < 0 ∧ j < z) (i : Nat) (hi : j.toNatClampNeg = i) (hlen : i < vs.length) (hd : decode c.code pc = .ok (.bastore, 1)) (hpc : pc + 1 = pc') (w : ∀ T' h', Stand p l e R s m args below meth c T' (locs ++ [⟨b, j.toNatClampNeg⟩]) cells slots → T'.heap = h' → Wr h h' b j.toNatClampNeg (.int (nar .byte x)) → Arv Z h' b kk .byte z (vs.set i (.int (nar .byte x))) dv → own_WP p e below s Q k n (T'.setTop (mkF m pc' ls rest))) : own_WP p e below s Q k n (T.setTop (mkF m pc ls (.int x :: .int j :: .ref b :: rest))) := by
  subst hpc
  obtain ⟨cl, A, q1, S, q3, H, G⟩ := F
  obtain ⟨T', h', X', e', W', st⟩ := stB X hx hZ eT A (j := j) (inb_of S hj) (g := mkF m pc ls (.int x :: .int j :: .ref b :: rest)) rfl rfl hd
  exact own_of st (w T' h' X' e' W' (Arv.set A q1 S q3 H G (fits_nar_byte x) W' i hi hlen))
theorem own_iastore (X : Stand p l e R s m args below meth c T locs cells slots) (hx : p.tables.exec = Jvm.exec) (hZ : Z.Warmed39 s.vm) (eT : T.heap = h) {b : Addr} {kk : ClassId} {z j : Int32} {vs : List Value} {dv : Value} {x : Int32} (F : Arv Z h b kk .int z vs dv) (hj : ¬ j < 0 ∧ j < z) (i : Nat) (hi : j.toNatClampNeg = i) (hlen : i < vs.length) (hd : decode c.code pc = .ok (.iastore, 1)) (hpc : pc + 1 = pc') (w : ∀ T' h', Stand p l e R s m args below meth c T' (locs ++ [⟨b, j.toNatClampNeg⟩]) cells slots → T'.heap = h' → Wr h h' b j.toNatClampNeg (.int x) → Arv Z h' b kk .int z (vs.set i (.int x)) dv → own_WP p e below s Q k n (T'.setTop (mkF m pc' ls rest))) : own_WP p e below s Q k n (T.setTop (mkF m pc ls (.int x :: .int j :: .ref b :: rest))) := by
  subst hpc
  obtain ⟨cl, A, q1, S, q3, H, G⟩ := F
  obtain ⟨T', h', X', e', W', st⟩ := stI X hx hZ eT A (j := j) (inb_of S hj) (g := mkF m pc ls (.int x :: .int j :: .ref b :: rest)) rfl rfl hd
  exact own_of st (w T' h' X' e' W' (Arv.set A q1 S q3 H G rfl W' i hi hlen))
theorem own_arrlen (X : Stand p l e R s m args below meth c T locs cells slots) (hx : p.tables.exec = Jvm.exec) (hZ : Z.Warmed39 s.vm) (eT : T.heap = h) {b : Addr} {kk : ClassId} {z : Int32} {vs : List Value} {dv : Value} {ty : FieldType} (F : Arv Z h b kk ty z vs dv) (hd : decode c.code pc = .ok (.arraylength, 1)) (hpc : pc + 1 = pc') (w : own_WP p e below s Q k n (T.setTop (mkF m pc' ls (.int z :: rest)))) : own_WP p e below s Q k n (T.setTop (mkF m pc ls (.ref b :: rest))) := by
  subst hpc
  obtain ⟨cl, A, q1, S, q3, H, G⟩ := F
  refine own_of (fun t q => X.arraylength hx (by rw [eT]; exact A.1) (State.isArrayOf_alike hZ.alike A.2.1) (g := mkF m pc ls (.ref b :: rest)) rfl rfl hd _ ?_) w
  rw [len_of S q3]
  exact q
end OwnWP

section OwnObj
variable {p : Program} {l : Launch} {e : Env} {R : Room} {s : State} {m : MethodId} {args : Array Value} {below : List Frame} {meth : Method} {c : Code} {T : State} {locs : List Loc} {cells slots : Nat} {Z : State} {a0 : Array Value} {h : Heap} {Q : Option Value → Heap → List Loc → Prop} {k n : Nat} {pc pc' : Nat} {ls l' : Array Slot} {rest : List Value}
theorem own_getFR (X : Stand p l e R s m args below meth c T locs cells slots) (hx : p.tables.exec = Jvm.exec) (hZ : Z.Warmed39 s.vm) {own O nm d : String} {idx : Nat} (hown : s.vm.findClass own = some m.cls) (w1 : (Jvm.Cond.fieldRef own idx O nm d).before a0 Z = true) (eT : T.heap = h) {b : Addr} {v : Value} (F : Fld Z h b O nm d v) (hd : decode c.code pc = .ok (.getfield idx, 3)) (hpc : pc + 3 = pc')
    (w : own_WP p e below s Q k n (T.setTop (mkF m pc' ls (v :: rest)))) : own_WP p e below s Q k n (T.setTop (mkF m pc ls (.ref b :: rest))) := by
  subst hpc
  have hZT : Z.Warmed39 T.vm := wtrans hZ X.warmed
  have hownT : T.vm.findClass own = some m.cls := by rw [X.warmed.alike.findClass]; exact hown
  have wT := Cond.fieldRef_warmed39 hZT w1
  obtain ⟨cf', k', i', f', hi', hready⟩ := Cond.fieldRef_spec (s := Z.setVm T.vm) hownT wT
  obtain ⟨cell, cf, kc, i, f, h1, h2, h3, h4, -, -, h7⟩ := F
  obtain ⟨k2, hi, -⟩ := State.fieldFound?_setVm (s := Z) hZT.alike h2
  cases hi'.symm.trans hi
  refine own_of (fun t q => ?_) w
  have hcell : T.heap[b]? = some cell := by rw [eT]; exact h1
  jvm_step X.here [hx, hd, getfield.wp_ready (e := e) (s := T) (f := mkF m pc ls (.ref b :: rest)) X.here.top hready h3 rfl hcell h4 h7]
  exact q
theorem own_putFN (X : Stand p l e R s m args below meth c T locs cells slots) (hx : p.tables.exec = Jvm.exec) (hZ : Z.Warmed39 s.vm) {own R0 O nm d C : String} {idx kk : Nat} {ty : FieldType} (hown : s.vm.findClass own = some m.cls) (w1 : (Jvm.Cond.fieldLink own idx R0 nm d).before a0 Z = true) (via : Via Z R0 O nm d) (eT : T.heap = h) {b : Addr} {v v' old : Value} (F : Fld Z h b O nm d old) (E : Exa Z h b C) (L : (Jvm.Cond.lays C O nm d).before a0 Z = true ∨ ((Jvm.Cond.laysFinal C O nm d).before a0 Z = true ∧ own = O ∧ meth.name = "<init>")) (wi : (Jvm.Cond.instantiable C kk).before a0 Z = true) (hty : parseFieldDescriptor d = some ty) (hn : narrow ty v = v') (hf : fits ty v' = true) (hd : decode c.code pc = .ok (.putfield idx, 3)) (hpc : pc + 3 = pc')
    (w : ∀ T' h', Stand p l e R s m args below meth c T' (locs ++ [⟨b, Jvm.RoadKit.slotOf Z O nm d⟩]) cells slots → T'.heap = h' → Wr h h' b (Jvm.RoadKit.slotOf Z O nm d) v' → own_WP p e below s Q k n (T'.setTop (mkF m pc' ls rest))) : own_WP p e below s Q k n (T.setTop (mkF m pc ls (v :: .ref b :: rest))) := by
  subst hpc
  obtain ⟨T', h', X', e', W', st⟩ := putFN X hx hZ hown w1 via eT F E L wi hty hn hf (g := mkF m pc ls (v :: .ref b :: rest)) rfl rfl hd
  exact own_of st (w T' h' X' e' W')
theorem own_newR (X : Stand p l e R s m args below meth c T locs cells slots) (hx : p.tables.exec = Jvm.exec) (hZ : Z.Warmed39 s.vm) {own C : String} {idx : Nat} (hown : s.vm.findClass own = some m.cls) (w1 : (Jvm.Cond.classLink own idx C).before a0 Z = true) (w2 : (Jvm.Cond.arrayOver (.object C)).before a0 Z = true) (eT : T.heap = h) (hd : decode c.code pc = .ok (.anewarray idx, 3)) {z : Int32} (hz : ¬ z < 0) {cap : Nat} (hcap : z.toNatClampNeg ≤ cap) (hb : cap * 8 ≤ 536870912) (hc : cells + 1 ≤ R.cells) (hl : slots + cap ≤ R.slots) (hpc : pc + 3 = pc')
    (w : ∀ T' h' cA b, b = h.size → Stand p l e R s m args below meth c T' locs (cells + 1) (slots + cap) → T'.heap = h' → Ext h h' → Arr Z h' b (newA cA (.object C) z) (.object C) → Ovr Z cA C → own_WP p e below s Q k n (T'.setTop (mkF m pc' ls (.ref b :: rest)))) : own_WP p e below s Q k n (T.setTop (mkF m pc ls (.int z :: rest))) := by
  subst hpc
  obtain ⟨T', h', cA, X', e', E', A', O', st⟩ := newR X hx hZ hown w1 w2 eT (g := mkF m pc ls (.int z :: rest)) rfl hd rfl hz hcap hb hc hl
  exact own_of st (w T' h' cA _ rfl X' e' E' A' O')
theorem own_aaloadV (X : Stand p l e R s m args below meth c T locs cells slots) (hx : p.tables.exec = Jvm.exec) (hZ : Z.Warmed39 s.vm) (eT : T.heap = h) {b : Addr} {kk : ClassId} {z j : Int32} {vs : List Value} {dv v : Value} {ty : FieldType} (F : Arv Z h b kk ty z vs dv) (hty : ty.isReference = true) (hj : ¬ j < 0 ∧ j < z) (hv : vs.getD j.toNatClampNeg dv = v) (hd : decode c.code pc = .ok (.aaload, 1)) (hpc : pc + 1 = pc')
    (w : own_WP p e below s Q k n (T.setTop (mkF m pc' ls (v :: rest)))) : own_WP p e below s Q k n (T.setTop (mkF m pc ls (.int j :: .ref b :: rest))) := by
  subst hpc
  obtain ⟨cl, A, q1, S, q3, H, G⟩ := F
  exact own_of (fun t q => X.aaload hx (j := j) (v := v) (by rw [eT]; exact A.1) (State.isArrayOf_alike hZ.alike A.2.1) hty A.2.2 (inb_of S hj) (H.at (inb_of S hj) hv) (g := mkF m pc ls (.int j :: .ref b :: rest)) rfl rfl hd _ q) w
theorem own_aastore (X : Stand p l e R s m args below meth c T locs cells slots) (hx : p.tables.exec = Jvm.exec) (hZ : Z.Warmed39 s.vm) (eT : T.heap = h) {b : Addr} {kk : ClassId} {z j : Int32} {vs : List Value} {dv : Value} {C : String} {y : Addr} (F : Arv Z h b kk (.object C) z vs dv) (O : Ovr Z kk C) (I : Ins Z h y C true) (hj : ¬ j < 0 ∧ j < z) (i : Nat) (hi : j.toNatClampNeg = i) (hlen : i < vs.length) (hd : decode c.code pc = .ok (.aastore, 1)) (hpc : pc + 1 = pc')
    (w : ∀ T' h', Stand p l e R s m args below meth c T' (locs ++ [⟨b, j.toNatClampNeg⟩]) cells slots → T'.heap = h' → Wr h h' b j.toNatClampNeg (.ref y) → Arv Z h' b kk (.object C) z (vs.set i (.ref y)) dv → own_WP p e below s Q k n (T'.setTop (mkF m pc' ls rest))) : own_WP p e below s Q k n (T.setTop (mkF m pc ls (.ref y :: .int j :: .ref b :: rest))) := by
  subst hpc
  obtain ⟨cl, A, q1, S, q3, H, G⟩ := F
  obtain ⟨T', h', X', e', W', st⟩ := stR X hx hZ eT A (j := j) (inb_of S hj) rfl (Sto.ofV A q1 O I) (g := mkF m pc ls (.ref y :: .int j :: .ref b :: rest)) rfl rfl hd
  exact own_of st (w T' h' X' e' W' (Arv.set A q1 S q3 H G rfl W' i hi hlen))
theorem own_dupx1 (X : Stand p l e R s m args below meth c T locs cells slots) (hx : p.tables.exec = Jvm.exec) {x y : Value} (hd : decode c.code pc = .ok (.dup_x1, 1)) (h1 : x.category = 1) (h2 : y.category = 1) (hpc : pc + 1 = pc') (w : own_WP p e below s Q k n (T.setTop (mkF m pc' ls (x :: y :: x :: rest)))) : own_WP p e below s Q k n (T.setTop (mkF m pc ls (x :: y :: rest))) := by
  subst hpc
  exact own_of (fun t q => XS.dupX1 X.here hx rfl hd rfl h1 h2 q) w
end OwnObj

def own_sel (a q : Int32) (k prev : Int32) : Int32 := if a = q then k else prev
theorem own_i (a b : Int32) : a = b ↔ a.toInt = b.toInt := Int32.toInt_inj.symm
theorem own_l (a b : Int32) : a < b ↔ a.toInt < b.toInt := Int32.lt_iff_toInt_lt
theorem own_len5 (x v : Int32) (h : v = (x &&& (2147483647 : Int32)) % 5) : v = 0 ∨ v = 1 ∨ v = 2 ∨ v = 3 ∨ v = 4 := by
  have a := c_and x 2147483647 (by decide)
  have b := (c_irem (x &&& 2147483647) 5 5 (by decide)).1 a.1
  rw [← h] at b
  have e : v.toInt = 0 ∨ v.toInt = 1 ∨ v.toInt = 2 ∨ v.toInt = 3 ∨ v.toInt = 4 := by omega
  rcases e with e | e | e | e | e
  · exact Or.inl (Int32.toInt_inj.mp e)
  · exact Or.inr (Or.inl (Int32.toInt_inj.mp e))
  · exact Or.inr (Or.inr (Or.inl (Int32.toInt_inj.mp e)))
  · exact Or.inr (Or.inr (Or.inr (Or.inl (Int32.toInt_inj.mp e))))
  · exact Or.inr (Or.inr (Or.inr (Or.inr (Int32.toInt_inj.mp e))))
theorem own_up (l g v : Int32) (k : Int) (hk : l.toInt ≤ k) (hk2 : k ≤ 2147483631) (h : v = l + (g &&& (15 : Int32)) + 1) : l.toInt < v.toInt ∧ v.toInt ≤ k + 16 := by
  have a := c_and g 15 (by decide)
  rw [show (15 : Int32).toInt = 15 from by decide] at a
  have b := c_iadd l (g &&& 15)
  have b2 := rng32 (l + (g &&& 15))
  have b3 := rng32 l
  have c := c_iadd (l + (g &&& 15)) 1
  have c2 := rng32 (l + (g &&& 15) + 1)
  rw [show (1 : Int32).toInt = 1 from by decide] at c
  rw [h]
  have d : (l + (g &&& 15)).toInt = l.toInt + (g &&& 15).toInt := by omega
  omega
theorem own_min48 (x : Int32) : (if (2147483599 : Int32) < x then (2147483599 : Int32) else x).toInt ≤ 2147483599 := by
  split
  · decide
  · rename_i h; rw [own_l, show (2147483599 : Int32).toInt = 2147483599 from by decide] at h; omega

theorem d1_0 : decode jdk_29_method_69_code 0 = .ok (.iload_n 0, 1) := by decide +kernel
theorem d1_1 : decode jdk_29_method_69_code 1 = .ok (.iload_n 1, 1) := by decide +kernel
theorem d1_2 : decode jdk_29_method_69_code 2 = .ok (.if_icmp .gt 7, 3) := by decide +kernel
theorem d1_5 : decode jdk_29_method_69_code 5 = .ok (.iload_n 0, 1) := by decide +kernel
theorem d1_6 : decode jdk_29_method_69_code 6 = .ok (.goto 4, 3) := by decide +kernel
theorem d1_9 : decode jdk_29_method_69_code 9 = .ok (.iload_n 1, 1) := by decide +kernel
theorem d1_10 : decode jdk_29_method_69_code 10 = .ok (.ireturn, 1) := by decide +kernel
theorem pn_1 : plainFor (⟨"java/lang/Math", "min", "(II)I"⟩ : MethodName) = true := Jvm.Free.JP.mathPlain rfl (by decide +kernel)
theorem ef_conM (m : MethodId) (c1 : Int32) (c2 : Int32) : entryFrame m #[(.int c1), (.int c2)] 2 = mkF m 0 #[.val (.int c1), .val (.int c2)] [] := by first | (simp [entryFrame, mkF, argsToLocals, Value.category]; done) | rfl
set_option maxRecDepth 65536 in
set_option maxHeartbeats 4000000 in
theorem conM (l : Launch) (Z : State) (a0 : Array Value) (hw : ∀ d ∈ tables_1, d.before a0 Z = true) (c1 : Int32) (c2 : Int32) (h0 : Heap) :
    own_Con l Z (⟨"java/lang/Math", "min", "(II)I"⟩ : MethodName) jdk_29_method_69_code 2 (some .int) ({ frames := 0, cells := 0, slots := 0, locals := 0 } : Room) #[(.int c1), (.int c2)] h0 (fun v h L => ∃ z : Int32, v = some (.int z) ∧ (z = if c2 < c1 then c2 else c1) ∧ L = [] ∧ h = h0) := by
  refine own_Con_of pn_1 ?_
  intro p e s m below meth c s₁ X0 hx hby hml hret hlk hnm hown hZ e0
  have hown : s.vm.findClass "java/lang/Math" = some m.cls := hown
  have hml : c.maxLocals = 2 := hml
  show own_WP _ _ _ _ _ _ _ (s₁.setTop (entryFrame m #[(.int c1), (.int c2)] 2))
  rw [ef_conM m c1 c2]
  refine own_iloadN (pc' := 1) X0 hx (hb hby d1_0) rfl rfl ?_
  refine own_iloadN (pc' := 2) X0 hx (hb hby d1_1) rfl rfl ?_
  refine own_icmp_gt (pt := 9) (pf := 5) X0 hx (hb hby d1_2) rfl (by decide) rfl (fun hc2 => ?_) (fun hc2 => ?_)
  · skip
    refine own_iloadN (pc' := 10) X0 hx (hb hby d1_9) rfl rfl ?_
    refine own_retI X0 hx hlk hret (hb hby d1_10) (by decide) (by decide) ?_
    exact ⟨c2, rfl, by simp [hc2], rfl, e0⟩
  · skip
    refine own_iloadN (pc' := 6) X0 hx (hb hby d1_5) rfl rfl ?_
    refine own_goto (pc' := 10) X0 hx (hb hby d1_6) (by decide) rfl ?_
    refine own_retI X0 hx hlk hret (hb hby d1_10) (by decide) (by decide) ?_
    exact ⟨c1, rfl, by simp [hc2], rfl, e0⟩
theorem d2_0 : decode prog_38_method_1_code 0 = .ok (.aload_n 0, 1) := by decide +kernel
theorem d2_1 : decode prog_38_method_1_code 1 = .ok (.invokespecial 1, 3) := by decide +kernel
theorem d2_4 : decode prog_38_method_1_code 4 = .ok (.aload_n 0, 1) := by decide +kernel
theorem d2_5 : decode prog_38_method_1_code 5 = .ok (.bipush 16, 2) := by decide +kernel
theorem d2_7 : decode prog_38_method_1_code 7 = .ok (.anewarray 7, 3) := by decide +kernel
theorem d2_10 : decode prog_38_method_1_code 10 = .ok (.putfield 9, 3) := by decide +kernel
theorem d2_13 : decode prog_38_method_1_code 13 = .ok (.aload_n 0, 1) := by decide +kernel
theorem d2_14 : decode prog_38_method_1_code 14 = .ok (.iconst 1, 1) := by decide +kernel
theorem d2_15 : decode prog_38_method_1_code 15 = .ok (.putfield 15, 3) := by decide +kernel
theorem d2_18 : decode prog_38_method_1_code 18 = .ok (.return_, 1) := by decide +kernel
theorem pn_2 : plainFor (⟨"com/example/kent_ridge/kentridge/query/OpenEntries", "<init>", "()V"⟩ : MethodName) = true := plainFor_of_name (by first | (simp [plainName, overriddenIn]; done) | decide +kernel)
theorem ef_conI (m : MethodId) (a1 : Addr) : entryFrame m #[(.ref a1)] 1 = mkF m 0 #[.val (.ref a1)] [] := by first | (simp [entryFrame, mkF, argsToLocals, Value.category]; done) | rfl
set_option maxRecDepth 65536 in
set_option maxHeartbeats 4000000 in
theorem conI (l : Launch) (Z : State) (a0 : Array Value) (hw : ∀ d ∈ tables_1, d.before a0 Z = true) (a1 : Addr) (h0 : Heap) (n0 : Nat) (Z0 : n0 ≤ h0.size) (E1 : Exa Z h0 a1 "com/example/kent_ridge/kentridge/query/OpenEntries") (F1 : Fld Z h0 a1 "com/example/kent_ridge/kentridge/query/OpenEntries" "values" "[Lcom/example/kent_ridge/kentridge/query/OpenEntries$Open;" .null) (F2 : Fld Z h0 a1 "com/example/kent_ridge/kentridge/query/OpenEntries" "sorted" "Z" (.int (0 : Int32))) (F3 : Fld Z h0 a1 "com/example/kent_ridge/kentridge/query/OpenEntries" "size" "I" (.int (0 : Int32))) (g_a1 : n0 ≤ a1) :
    own_Con l Z (⟨"com/example/kent_ridge/kentridge/query/OpenEntries", "<init>", "()V"⟩ : MethodName) prog_38_method_1_code 1 none ({ frames := 1, cells := 1, slots := 16, locals := 12 } : Room) #[(.ref a1)] h0 (fun v h L => ∃ (b : Addr) (kk : ClassId), v = none ∧ Fr n0 L ∧ Keep h0 h [a1] ∧ Exa Z h a1 "com/example/kent_ridge/kentridge/query/OpenEntries" ∧ Fld Z h a1 "com/example/kent_ridge/kentridge/query/OpenEntries" "values" "[Lcom/example/kent_ridge/kentridge/query/OpenEntries$Open;" (.ref b) ∧ Fld Z h a1 "com/example/kent_ridge/kentridge/query/OpenEntries" "sorted" "Z" (.int (1 : Int32)) ∧ Fld Z h a1 "com/example/kent_ridge/kentridge/query/OpenEntries" "size" "I" (.int (0 : Int32)) ∧ Arv Z h b kk (.object "com/example/kent_ridge/kentridge/query/OpenEntries$Open") 16 [.null, .null, .null, .null] .null ∧ Ovr Z kk "com/example/kent_ridge/kentridge/query/OpenEntries$Open" ∧ n0 ≤ b ∧ h0.size ≤ b) := by
  refine own_Con_of pn_2 ?_
  intro p e s m below meth c s₁ X0 hx hby hml hret hlk hnm hown hZ e0
  have hown : s.vm.findClass "com/example/kent_ridge/kentridge/query/OpenEntries" = some m.cls := hown
  have hml : c.maxLocals = 1 := hml
  have N0 := Fr.nil n0
  show own_WP _ _ _ _ _ _ _ (s₁.setTop (entryFrame m #[(.ref a1)] 1))
  rw [ef_conI m a1]
  refine own_aloadN (pc' := 1) X0 hx (hb hby d2_0) rfl rfl rfl ?_
  refine own_initO (pc' := 4) (W := 0) X0 hx hZ hown (own_w hw 12 rfl) (own_w hw 13 rfl) (own_w hw 14 rfl) e0 (by rw [hml]; rfl) (hb hby d2_1) (by decide) (Nat.le_of_eq rfl) (by decide) rfl ?_
  intro T1 X1 e1
  refine own_aloadN (pc' := 5) X1 hx (hb hby d2_4) rfl rfl rfl ?_
  refine own_bipush (pc' := 7) X1 hx (16 : Int32) (hb hby d2_5) rfl rfl ?_
  refine own_newR (pc' := 10) (cap := 16) X1 hx hZ hown (own_w hw 15 rfl) (own_w hw 16 rfl) e1 (hb hby d2_7) (by decide) (by decide) (by decide) (by decide) (by decide) rfl ?_
  intro T2 h2 k2 b2 g2 X2 e2 E2 A2 O2
  have ne_a1_b2 : a1 ≠ b2 := Nat.ne_of_lt (Nat.lt_of_lt_of_le E1.lt (Nat.le_of_eq g2.symm))
  have ne_b2_a1 := ne_a1_b2.symm
  have g_b2 : n0 ≤ b2 := Nat.le_trans Z0 (Nat.le_of_eq g2.symm)
  have sz_b2 : h0.size ≤ b2 := Nat.le_trans (Keep.refl h0 [a1]).1 (Nat.le_of_eq g2.symm)
  have z2 : n0 ≤ h2.size := Nat.le_trans Z0 E2.1
  have K2 : Keep h0 h2 [a1] := (Keep.refl h0 [a1]).ext E2
  have V2 : Arv Z h2 b2 k2 (.object "com/example/kent_ridge/kentridge/query/OpenEntries$Open") (16 : Int32) [.null, .null, .null, .null] .null := (Arv.new A2 (by decide)).pad (pad_rep [] .null 4)
  have f3 := (F1.ext E2)
  have f4 := (E1.ext E2)
  refine own_putF (pc' := 13) X2 hx hZ hown (host := "") (Or.inl (own_w hw 17 rfl)) Via.refl e2 f3 f4 (Or.inl (own_w hw 18 rfl)) (own_w hw 7 rfl) (ty := (.array (.object "com/example/kent_ridge/kentridge/query/OpenEntries$Open"))) (by decide +kernel) rfl rfl (hb hby d2_10) rfl ?_
  intro T5 h5 X5 e5 W5
  have z5 : n0 ≤ h5.size := Nat.le_trans z2 (Keep.of_wr W5).1
  have Fw5 := f3.same W5
  have N5 := Fr.snoc X5 N0 g_a1
  have K5 : Keep h0 h5 [a1] := K2.wr W5 (Or.inl (List.mem_of_getElem? (i := 0) rfl))
  refine own_aloadN (pc' := 14) X5 hx (hb hby d2_13) rfl rfl rfl ?_
  refine own_iconst (pc' := 15) X5 hx (1 : Int32) (hb hby d2_14) rfl rfl ?_
  have f6 := ((F2.ext E2).other W5 (Or.inr (slot_ne (Or.inl (own_w hw 20 rfl)) (Or.inl (own_w hw 18 rfl)) (by decide) (t := .boolean) (t' := (.array (.object "com/example/kent_ridge/kentridge/query/OpenEntries$Open"))) (by decide +kernel) (by decide +kernel))))
  have f7 := (f4.wr W5)
  refine own_putFN (pc' := 18) (v' := (.int (1 : Int32))) X5 hx hZ hown (own_w hw 19 rfl) Via.refl e5 f6 f7 (Or.inl (own_w hw 20 rfl)) (own_w hw 7 rfl) (ty := .boolean) (by decide) rfl rfl (hb hby d2_15) rfl ?_
  intro T8 h8 X8 e8 W8
  have z8 : n0 ≤ h8.size := Nat.le_trans z5 (Keep.of_wr W8).1
  have Fw8 := f6.same W8
  have N8 := Fr.snoc X8 N5 g_a1
  have K8 : Keep h0 h8 [a1] := K5.wr W8 (Or.inl (List.mem_of_getElem? (i := 0) rfl))
  have f9 := (f7.wr W8)
  have f10 := (Fw5.other W8 (Or.inr (slot_ne (Or.inl (own_w hw 18 rfl)) (Or.inl (own_w hw 20 rfl)) (by decide) (t := (.array (.object "com/example/kent_ridge/kentridge/query/OpenEntries$Open"))) (t' := .boolean) (by decide +kernel) (by decide +kernel))))
  have f11 := (((F3.ext E2).other W5 (Or.inr (slot_ne (Or.inl (own_w hw 55 rfl)) (Or.inl (own_w hw 18 rfl)) (by decide) (t := .int) (t' := (.array (.object "com/example/kent_ridge/kentridge/query/OpenEntries$Open"))) (by decide +kernel) (by decide +kernel)))).other W8 (Or.inr (slot_ne (Or.inl (own_w hw 55 rfl)) (Or.inl (own_w hw 20 rfl)) (by decide) (t := .int) (t' := .boolean) (by decide +kernel) (by decide +kernel))))
  have f12 := ((V2.other W5 ne_b2_a1).other W8 ne_b2_a1)
  refine own_ret0 X8 hx hlk hret (hb hby d2_18) (by decide) (by decide) ?_
  rw [e8]
  exact ⟨b2, k2, rfl, N8, K8, f9, f10, Fw8, f11, f12, O2, g_b2, sz_b2⟩
theorem d4_0 : decode prog_40_method_1_code 0 = .ok (.aload_n 0, 1) := by decide +kernel
theorem d4_1 : decode prog_40_method_1_code 1 = .ok (.invokespecial 1, 3) := by decide +kernel
theorem d4_4 : decode prog_40_method_1_code 4 = .ok (.aload_n 0, 1) := by decide +kernel
theorem d4_5 : decode prog_40_method_1_code 5 = .ok (.iload_n 1, 1) := by decide +kernel
theorem d4_6 : decode prog_40_method_1_code 6 = .ok (.putfield 7, 3) := by decide +kernel
theorem d4_9 : decode prog_40_method_1_code 9 = .ok (.aload_n 0, 1) := by decide +kernel
theorem d4_10 : decode prog_40_method_1_code 10 = .ok (.lload_n 2, 1) := by decide +kernel
theorem d4_11 : decode prog_40_method_1_code 11 = .ok (.putfield 13, 3) := by decide +kernel
theorem d4_14 : decode prog_40_method_1_code 14 = .ok (.aload_n 0, 1) := by decide +kernel
theorem d4_15 : decode prog_40_method_1_code 15 = .ok (.lload 4, 2) := by decide +kernel
theorem d4_17 : decode prog_40_method_1_code 17 = .ok (.putfield 17, 3) := by decide +kernel
theorem d4_20 : decode prog_40_method_1_code 20 = .ok (.aload_n 0, 1) := by decide +kernel
theorem d4_21 : decode prog_40_method_1_code 21 = .ok (.iload 6, 2) := by decide +kernel
theorem d4_23 : decode prog_40_method_1_code 23 = .ok (.putfield 20, 3) := by decide +kernel
theorem d4_26 : decode prog_40_method_1_code 26 = .ok (.aload_n 0, 1) := by decide +kernel
theorem d4_27 : decode prog_40_method_1_code 27 = .ok (.iload 7, 2) := by decide +kernel
theorem d4_29 : decode prog_40_method_1_code 29 = .ok (.putfield 23, 3) := by decide +kernel
theorem d4_32 : decode prog_40_method_1_code 32 = .ok (.aload_n 0, 1) := by decide +kernel
theorem d4_33 : decode prog_40_method_1_code 33 = .ok (.iload 8, 2) := by decide +kernel
theorem d4_35 : decode prog_40_method_1_code 35 = .ok (.newarray .boolean, 2) := by decide +kernel
theorem d4_37 : decode prog_40_method_1_code 37 = .ok (.putfield 26, 3) := by decide +kernel
theorem d4_40 : decode prog_40_method_1_code 40 = .ok (.aload_n 0, 1) := by decide +kernel
theorem d4_41 : decode prog_40_method_1_code 41 = .ok (.iload 9, 2) := by decide +kernel
theorem d4_43 : decode prog_40_method_1_code 43 = .ok (.putfield 30, 3) := by decide +kernel
theorem d4_46 : decode prog_40_method_1_code 46 = .ok (.return_, 1) := by decide +kernel
theorem pn_4 : plainFor (⟨"com/example/kent_ridge/kentridge/query/OpenEntries$Open", "<init>", "(IJJIIIZ)V"⟩ : MethodName) = true := plainFor_of_name (by first | (simp [plainName, overriddenIn]; done) | decide +kernel)
theorem ef_conO (m : MethodId) (a1 : Addr) (c1 : Int32) (c2 : Int64) (c3 : Int64) (c4 : Int32) : entryFrame m #[(.ref a1), (.int c1), (.long c2), (.long c3), (.int c4), (.int (0 : Int32)), (.int (0 : Int32)), (.int (1 : Int32))] 10 = mkF m 0 #[.val (.ref a1), .val (.int c1), .val (.long c2), .second, .val (.long c3), .second, .val (.int c4), .val (.int (0 : Int32)), .val (.int (0 : Int32)), .val (.int (1 : Int32))] [] := by first | (simp [entryFrame, mkF, argsToLocals, Value.category]; done) | rfl
set_option maxRecDepth 65536 in
set_option maxHeartbeats 4000000 in
theorem conO (l : Launch) (Z : State) (a0 : Array Value) (hw : ∀ d ∈ tables_1, d.before a0 Z = true) (a1 : Addr) (c1 : Int32) (c2 : Int64) (c3 : Int64) (c4 : Int32) (h0 : Heap) (n0 : Nat) (Z0 : n0 ≤ h0.size) (E1 : Exa Z h0 a1 "com/example/kent_ridge/kentridge/query/OpenEntries$Open") (F_element : Fld Z h0 a1 "com/example/kent_ridge/kentridge/query/OpenEntries$Open" "element" "I" (.int (0 : Int32))) (F_start : Fld Z h0 a1 "com/example/kent_ridge/kentridge/query/OpenEntries$Open" "start" "J" (.long (0 : Int64))) (F_end : Fld Z h0 a1 "com/example/kent_ridge/kentridge/query/OpenEntries$Open" "end" "J" (.long (0 : Int64))) (F_level : Fld Z h0 a1 "com/example/kent_ridge/kentridge/query/OpenEntries$Open" "level" "I" (.int (0 : Int32))) (F_step : Fld Z h0 a1 "com/example/kent_ridge/kentridge/query/OpenEntries$Open" "step" "I" (.int (0 : Int32))) (F_found : Fld Z h0 a1 "com/example/kent_ridge/kentridge/query/OpenEntries$Open" "found" "[Z" .null) (F_hangs : Fld Z h0 a1 "com/example/kent_ridge/kentridge/query/OpenEntries$Open" "hangs" "Z" (.int (0 : Int32))) (g_a1 : n0 ≤ a1) :
    own_Con l Z (⟨"com/example/kent_ridge/kentridge/query/OpenEntries$Open", "<init>", "(IJJIIIZ)V"⟩ : MethodName) prog_40_method_1_code 10 none ({ frames := 1, cells := 1, slots := 0, locals := 12 } : Room) #[(.ref a1), (.int c1), (.long c2), (.long c3), (.int c4), (.int (0 : Int32)), (.int (0 : Int32)), (.int (1 : Int32))] h0 (fun v h L => v = none ∧ Fr n0 L ∧ Keep h0 h [a1] ∧ Exa Z h a1 "com/example/kent_ridge/kentridge/query/OpenEntries$Open" ∧ Fld Z h a1 "com/example/kent_ridge/kentridge/query/OpenEntries$Open" "element" "I" (.int c1) ∧ Fld Z h a1 "com/example/kent_ridge/kentridge/query/OpenEntries$Open" "level" "I" (.int c4)) := by
  refine own_Con_of pn_4 ?_
  intro p e s m below meth c s₁ X0 hx hby hml hret hlk hnm hown hZ e0
  have hown : s.vm.findClass "com/example/kent_ridge/kentridge/query/OpenEntries$Open" = some m.cls := hown
  have hml : c.maxLocals = 10 := hml
  have N0 := Fr.nil n0
  show own_WP _ _ _ _ _ _ _ (s₁.setTop (entryFrame m #[(.ref a1), (.int c1), (.long c2), (.long c3), (.int c4), (.int (0 : Int32)), (.int (0 : Int32)), (.int (1 : Int32))] 10))
  rw [ef_conO m a1 c1 c2 c3 c4]
  refine own_aloadN (pc' := 1) X0 hx (hb hby d4_0) rfl rfl rfl ?_
  refine own_initO (pc' := 4) (W := 0) X0 hx hZ hown (own_w hw 28 rfl) (own_w hw 13 rfl) (own_w hw 14 rfl) e0 (by rw [hml]; rfl) (hb hby d4_1) (by decide) (Nat.le_of_eq rfl) (by decide) rfl ?_
  intro T1 X1 e1
  refine own_aloadN (pc' := 5) X1 hx (hb hby d4_4) rfl rfl rfl ?_
  refine own_iloadN (pc' := 6) X1 hx (hb hby d4_5) rfl rfl ?_
  refine own_putF (pc' := 9) X1 hx hZ hown (host := "") (Or.inl (own_w hw 29 rfl)) Via.refl e1 F_element E1 (Or.inr ⟨(own_w hw 30 rfl), rfl, hnm⟩) (own_w hw 22 rfl) (ty := .int) (by decide) rfl rfl (hb hby d4_6) rfl ?_
  intro T2 h2 X2 e2 W2
  have z2 : n0 ≤ h2.size := Nat.le_trans Z0 (Keep.of_wr W2).1
  have Fw2 := F_element.same W2
  have N2 := Fr.snoc X2 N0 g_a1
  have K2 : Keep h0 h2 [a1] := (Keep.refl h0 [a1]).wr W2 (Or.inl (List.mem_of_getElem? (i := 0) rfl))
  refine own_aloadN (pc' := 10) X2 hx (hb hby d4_9) rfl rfl rfl ?_
  refine own_lloadN (pc' := 11) X2 hx (hb hby d4_10) rfl rfl ?_
  have f3 := (F_start.other W2 (Or.inr (slot_ne (Or.inr (own_w hw 32 rfl)) (Or.inr (own_w hw 30 rfl)) (by decide) (t := .long) (t' := .int) (by decide +kernel) (by decide +kernel))))
  have f4 := (E1.wr W2)
  refine own_putF (pc' := 14) X2 hx hZ hown (host := "") (Or.inl (own_w hw 31 rfl)) Via.refl e2 f3 f4 (Or.inr ⟨(own_w hw 32 rfl), rfl, hnm⟩) (own_w hw 22 rfl) (ty := .long) (by decide) rfl rfl (hb hby d4_11) rfl ?_
  intro T5 h5 X5 e5 W5
  have z5 : n0 ≤ h5.size := Nat.le_trans z2 (Keep.of_wr W5).1
  have Fw5 := f3.same W5
  have N5 := Fr.snoc X5 N2 g_a1
  have K5 : Keep h0 h5 [a1] := K2.wr W5 (Or.inl (List.mem_of_getElem? (i := 0) rfl))
  refine own_aloadN (pc' := 15) X5 hx (hb hby d4_14) rfl rfl rfl ?_
  refine own_lload (pc' := 17) X5 hx (hb hby d4_15) rfl rfl ?_
  have f6 := ((F_end.other W2 (Or.inr (slot_ne (Or.inr (own_w hw 34 rfl)) (Or.inr (own_w hw 30 rfl)) (by decide) (t := .long) (t' := .int) (by decide +kernel) (by decide +kernel)))).other W5 (Or.inr (slot_ne (Or.inr (own_w hw 34 rfl)) (Or.inr (own_w hw 32 rfl)) (by decide) (t := .long) (t' := .long) (by decide +kernel) (by decide +kernel))))
  have f7 := (f4.wr W5)
  refine own_putF (pc' := 20) X5 hx hZ hown (host := "") (Or.inl (own_w hw 33 rfl)) Via.refl e5 f6 f7 (Or.inr ⟨(own_w hw 34 rfl), rfl, hnm⟩) (own_w hw 22 rfl) (ty := .long) (by decide) rfl rfl (hb hby d4_17) rfl ?_
  intro T8 h8 X8 e8 W8
  have z8 : n0 ≤ h8.size := Nat.le_trans z5 (Keep.of_wr W8).1
  have Fw8 := f6.same W8
  have N8 := Fr.snoc X8 N5 g_a1
  have K8 : Keep h0 h8 [a1] := K5.wr W8 (Or.inl (List.mem_of_getElem? (i := 0) rfl))
  refine own_aloadN (pc' := 21) X8 hx (hb hby d4_20) rfl rfl rfl ?_
  refine own_iload (pc' := 23) X8 hx (hb hby d4_21) rfl rfl ?_
  have f9 := (((F_level.other W2 (Or.inr (slot_ne (Or.inr (own_w hw 36 rfl)) (Or.inr (own_w hw 30 rfl)) (by decide) (t := .int) (t' := .int) (by decide +kernel) (by decide +kernel)))).other W5 (Or.inr (slot_ne (Or.inr (own_w hw 36 rfl)) (Or.inr (own_w hw 32 rfl)) (by decide) (t := .int) (t' := .long) (by decide +kernel) (by decide +kernel)))).other W8 (Or.inr (slot_ne (Or.inr (own_w hw 36 rfl)) (Or.inr (own_w hw 34 rfl)) (by decide) (t := .int) (t' := .long) (by decide +kernel) (by decide +kernel))))
  have f10 := (f7.wr W8)
  refine own_putF (pc' := 26) X8 hx hZ hown (host := "") (Or.inl (own_w hw 35 rfl)) Via.refl e8 f9 f10 (Or.inr ⟨(own_w hw 36 rfl), rfl, hnm⟩) (own_w hw 22 rfl) (ty := .int) (by decide) rfl rfl (hb hby d4_23) rfl ?_
  intro T11 h11 X11 e11 W11
  have z11 : n0 ≤ h11.size := Nat.le_trans z8 (Keep.of_wr W11).1
  have Fw11 := f9.same W11
  have N11 := Fr.snoc X11 N8 g_a1
  have K11 : Keep h0 h11 [a1] := K8.wr W11 (Or.inl (List.mem_of_getElem? (i := 0) rfl))
  refine own_aloadN (pc' := 27) X11 hx (hb hby d4_26) rfl rfl rfl ?_
  refine own_iload (pc' := 29) X11 hx (hb hby d4_27) rfl rfl ?_
  have f12 := ((((F_step.other W2 (Or.inr (slot_ne (Or.inr (own_w hw 38 rfl)) (Or.inr (own_w hw 30 rfl)) (by decide) (t := .int) (t' := .int) (by decide +kernel) (by decide +kernel)))).other W5 (Or.inr (slot_ne (Or.inr (own_w hw 38 rfl)) (Or.inr (own_w hw 32 rfl)) (by decide) (t := .int) (t' := .long) (by decide +kernel) (by decide +kernel)))).other W8 (Or.inr (slot_ne (Or.inr (own_w hw 38 rfl)) (Or.inr (own_w hw 34 rfl)) (by decide) (t := .int) (t' := .long) (by decide +kernel) (by decide +kernel)))).other W11 (Or.inr (slot_ne (Or.inr (own_w hw 38 rfl)) (Or.inr (own_w hw 36 rfl)) (by decide) (t := .int) (t' := .int) (by decide +kernel) (by decide +kernel))))
  have f13 := (f10.wr W11)
  refine own_putF (pc' := 32) X11 hx hZ hown (host := "") (Or.inl (own_w hw 37 rfl)) Via.refl e11 f12 f13 (Or.inr ⟨(own_w hw 38 rfl), rfl, hnm⟩) (own_w hw 22 rfl) (ty := .int) (by decide) rfl rfl (hb hby d4_29) rfl ?_
  intro T14 h14 X14 e14 W14
  have z14 : n0 ≤ h14.size := Nat.le_trans z11 (Keep.of_wr W14).1
  have Fw14 := f12.same W14
  have N14 := Fr.snoc X14 N11 g_a1
  have K14 : Keep h0 h14 [a1] := K11.wr W14 (Or.inl (List.mem_of_getElem? (i := 0) rfl))
  refine own_aloadN (pc' := 33) X14 hx (hb hby d4_32) rfl rfl rfl ?_
  refine own_iload (pc' := 35) X14 hx (hb hby d4_33) rfl rfl ?_
  refine own_newP (pc' := 37) (cap := 0) X14 hx hZ (own_w hw 39 rfl) e14 (hb hby d4_35) (by decide) (by decide) (by decide) (by decide) (by decide) rfl ?_
  intro T15 h15 k15 b15 g15 X15 e15 E15 A15
  have f16 := (f13.wr W14)
  have ne_a1_b15 : a1 ≠ b15 := Nat.ne_of_lt (Nat.lt_of_lt_of_le f16.lt (Nat.le_of_eq g15.symm))
  have ne_b15_a1 := ne_a1_b15.symm
  have g_b15 : n0 ≤ b15 := Nat.le_trans z14 (Nat.le_of_eq g15.symm)
  have sz_b15 : h0.size ≤ b15 := Nat.le_trans K14.1 (Nat.le_of_eq g15.symm)
  have z15 : n0 ≤ h15.size := Nat.le_trans z14 E15.1
  have K15 : Keep h0 h15 [a1] := K14.ext E15
  have V15 : Arv Z h15 b15 k15 .boolean (0 : Int32) [] (.int (0 : Int32)) := (Arv.new A15 (by decide)).pad (pad_rep [] (.int (0 : Int32)) 0)
  have f17 := ((((((F_found.other W2 (Or.inr (slot_ne (Or.inr (own_w hw 41 rfl)) (Or.inr (own_w hw 30 rfl)) (by decide) (t := (.array .boolean)) (t' := .int) (by decide +kernel) (by decide +kernel)))).other W5 (Or.inr (slot_ne (Or.inr (own_w hw 41 rfl)) (Or.inr (own_w hw 32 rfl)) (by decide) (t := (.array .boolean)) (t' := .long) (by decide +kernel) (by decide +kernel)))).other W8 (Or.inr (slot_ne (Or.inr (own_w hw 41 rfl)) (Or.inr (own_w hw 34 rfl)) (by decide) (t := (.array .boolean)) (t' := .long) (by decide +kernel) (by decide +kernel)))).other W11 (Or.inr (slot_ne (Or.inr (own_w hw 41 rfl)) (Or.inr (own_w hw 36 rfl)) (by decide) (t := (.array .boolean)) (t' := .int) (by decide +kernel) (by decide +kernel)))).other W14 (Or.inr (slot_ne (Or.inr (own_w hw 41 rfl)) (Or.inr (own_w hw 38 rfl)) (by decide) (t := (.array .boolean)) (t' := .int) (by decide +kernel) (by decide +kernel)))).ext E15)
  have f18 := (f16.ext E15)
  refine own_putF (pc' := 40) X15 hx hZ hown (host := "") (Or.inl (own_w hw 40 rfl)) Via.refl e15 f17 f18 (Or.inr ⟨(own_w hw 41 rfl), rfl, hnm⟩) (own_w hw 22 rfl) (ty := (.array .boolean)) (by decide +kernel) rfl rfl (hb hby d4_37) rfl ?_
  intro T19 h19 X19 e19 W19
  have z19 : n0 ≤ h19.size := Nat.le_trans z15 (Keep.of_wr W19).1
  have Fw19 := f17.same W19
  have N19 := Fr.snoc X19 N14 g_a1
  have K19 : Keep h0 h19 [a1] := K15.wr W19 (Or.inl (List.mem_of_getElem? (i := 0) rfl))
  refine own_aloadN (pc' := 41) X19 hx (hb hby d4_40) rfl rfl rfl ?_
  refine own_iload (pc' := 43) X19 hx (hb hby d4_41) rfl rfl ?_
  have f20 := (((((((F_hangs.other W2 (Or.inr (slot_ne (Or.inr (own_w hw 43 rfl)) (Or.inr (own_w hw 30 rfl)) (by decide) (t := .boolean) (t' := .int) (by decide +kernel) (by decide +kernel)))).other W5 (Or.inr (slot_ne (Or.inr (own_w hw 43 rfl)) (Or.inr (own_w hw 32 rfl)) (by decide) (t := .boolean) (t' := .long) (by decide +kernel) (by decide +kernel)))).other W8 (Or.inr (slot_ne (Or.inr (own_w hw 43 rfl)) (Or.inr (own_w hw 34 rfl)) (by decide) (t := .boolean) (t' := .long) (by decide +kernel) (by decide +kernel)))).other W11 (Or.inr (slot_ne (Or.inr (own_w hw 43 rfl)) (Or.inr (own_w hw 36 rfl)) (by decide) (t := .boolean) (t' := .int) (by decide +kernel) (by decide +kernel)))).other W14 (Or.inr (slot_ne (Or.inr (own_w hw 43 rfl)) (Or.inr (own_w hw 38 rfl)) (by decide) (t := .boolean) (t' := .int) (by decide +kernel) (by decide +kernel)))).ext E15).other W19 (Or.inr (slot_ne (Or.inr (own_w hw 43 rfl)) (Or.inr (own_w hw 41 rfl)) (by decide) (t := .boolean) (t' := (.array .boolean)) (by decide +kernel) (by decide +kernel))))
  have f21 := (f18.wr W19)
  refine own_putFN (pc' := 46) (v' := (.int (1 : Int32))) X19 hx hZ hown (own_w hw 42 rfl) Via.refl e19 f20 f21 (Or.inr ⟨(own_w hw 43 rfl), rfl, hnm⟩) (own_w hw 22 rfl) (ty := .boolean) (by decide) rfl rfl (hb hby d4_43) rfl ?_
  intro T22 h22 X22 e22 W22
  have z22 : n0 ≤ h22.size := Nat.le_trans z19 (Keep.of_wr W22).1
  have Fw22 := f20.same W22
  have N22 := Fr.snoc X22 N19 g_a1
  have K22 : Keep h0 h22 [a1] := K19.wr W22 (Or.inl (List.mem_of_getElem? (i := 0) rfl))
  have f23 := (f21.wr W22)
  have f24 := (((((((Fw2.other W5 (Or.inr (slot_ne (Or.inr (own_w hw 30 rfl)) (Or.inr (own_w hw 32 rfl)) (by decide) (t := .int) (t' := .long) (by decide +kernel) (by decide +kernel)))).other W8 (Or.inr (slot_ne (Or.inr (own_w hw 30 rfl)) (Or.inr (own_w hw 34 rfl)) (by decide) (t := .int) (t' := .long) (by decide +kernel) (by decide +kernel)))).other W11 (Or.inr (slot_ne (Or.inr (own_w hw 30 rfl)) (Or.inr (own_w hw 36 rfl)) (by decide) (t := .int) (t' := .int) (by decide +kernel) (by decide +kernel)))).other W14 (Or.inr (slot_ne (Or.inr (own_w hw 30 rfl)) (Or.inr (own_w hw 38 rfl)) (by decide) (t := .int) (t' := .int) (by decide +kernel) (by decide +kernel)))).ext E15).other W19 (Or.inr (slot_ne (Or.inr (own_w hw 30 rfl)) (Or.inr (own_w hw 41 rfl)) (by decide) (t := .int) (t' := (.array .boolean)) (by decide +kernel) (by decide +kernel)))).other W22 (Or.inr (slot_ne (Or.inr (own_w hw 30 rfl)) (Or.inr (own_w hw 43 rfl)) (by decide) (t := .int) (t' := .boolean) (by decide +kernel) (by decide +kernel))))
  have f25 := ((((Fw11.other W14 (Or.inr (slot_ne (Or.inr (own_w hw 36 rfl)) (Or.inr (own_w hw 38 rfl)) (by decide) (t := .int) (t' := .int) (by decide +kernel) (by decide +kernel)))).ext E15).other W19 (Or.inr (slot_ne (Or.inr (own_w hw 36 rfl)) (Or.inr (own_w hw 41 rfl)) (by decide) (t := .int) (t' := (.array .boolean)) (by decide +kernel) (by decide +kernel)))).other W22 (Or.inr (slot_ne (Or.inr (own_w hw 36 rfl)) (Or.inr (own_w hw 43 rfl)) (by decide) (t := .int) (t' := .boolean) (by decide +kernel) (by decide +kernel))))
  refine own_ret0 X22 hx hlk hret (hb hby d4_46) (by decide) (by decide) ?_
  rw [e22]
  exact ⟨rfl, N22, K22, f23, f24, f25⟩
theorem d6_0 : decode prog_38_method_2_code 0 = .ok (.aload_n 0, 1) := by decide +kernel
theorem d6_1 : decode prog_38_method_2_code 1 = .ok (.getfield 19, 3) := by decide +kernel
theorem d6_4 : decode prog_38_method_2_code 4 = .ok (.aload_n 0, 1) := by decide +kernel
theorem d6_5 : decode prog_38_method_2_code 5 = .ok (.getfield 9, 3) := by decide +kernel
theorem d6_8 : decode prog_38_method_2_code 8 = .ok (.arraylength, 1) := by decide +kernel
theorem d6_9 : decode prog_38_method_2_code 9 = .ok (.if_icmp .ne 23, 3) := by decide +kernel
theorem d6_12 : decode prog_38_method_2_code 12 = .ok (.aload_n 0, 1) := by decide +kernel
theorem d6_13 : decode prog_38_method_2_code 13 = .ok (.aload_n 0, 1) := by decide +kernel
theorem d6_14 : decode prog_38_method_2_code 14 = .ok (.getfield 9, 3) := by decide +kernel
theorem d6_17 : decode prog_38_method_2_code 17 = .ok (.aload_n 0, 1) := by decide +kernel
theorem d6_18 : decode prog_38_method_2_code 18 = .ok (.getfield 19, 3) := by decide +kernel
theorem d6_21 : decode prog_38_method_2_code 21 = .ok (.iconst 2, 1) := by decide +kernel
theorem d6_22 : decode prog_38_method_2_code 22 = .ok (.imul, 1) := by decide +kernel
theorem d6_23 : decode prog_38_method_2_code 23 = .ok (.invokestatic 23, 3) := by decide +kernel
theorem d6_26 : decode prog_38_method_2_code 26 = .ok (.checkcast 29, 3) := by decide +kernel
theorem d6_29 : decode prog_38_method_2_code 29 = .ok (.putfield 9, 3) := by decide +kernel
theorem d6_32 : decode prog_38_method_2_code 32 = .ok (.aload_n 0, 1) := by decide +kernel
theorem d6_33 : decode prog_38_method_2_code 33 = .ok (.dup, 1) := by decide +kernel
theorem d6_34 : decode prog_38_method_2_code 34 = .ok (.getfield 15, 3) := by decide +kernel
theorem d6_37 : decode prog_38_method_2_code 37 = .ok (.aload_n 0, 1) := by decide +kernel
theorem d6_38 : decode prog_38_method_2_code 38 = .ok (.getfield 19, 3) := by decide +kernel
theorem d6_41 : decode prog_38_method_2_code 41 = .ok (.ifCond .eq 24, 3) := by decide +kernel
theorem d6_44 : decode prog_38_method_2_code 44 = .ok (.aload_n 0, 1) := by decide +kernel
theorem d6_45 : decode prog_38_method_2_code 45 = .ok (.getfield 9, 3) := by decide +kernel
theorem d6_48 : decode prog_38_method_2_code 48 = .ok (.aload_n 0, 1) := by decide +kernel
theorem d6_49 : decode prog_38_method_2_code 49 = .ok (.getfield 19, 3) := by decide +kernel
theorem d6_52 : decode prog_38_method_2_code 52 = .ok (.iconst 1, 1) := by decide +kernel
theorem d6_53 : decode prog_38_method_2_code 53 = .ok (.isub, 1) := by decide +kernel
theorem d6_54 : decode prog_38_method_2_code 54 = .ok (.aaload, 1) := by decide +kernel
theorem d6_55 : decode prog_38_method_2_code 55 = .ok (.getfield 30, 3) := by decide +kernel
theorem d6_58 : decode prog_38_method_2_code 58 = .ok (.aload_n 1, 1) := by decide +kernel
theorem d6_59 : decode prog_38_method_2_code 59 = .ok (.getfield 30, 3) := by decide +kernel
theorem d6_62 : decode prog_38_method_2_code 62 = .ok (.if_icmp .ge 7, 3) := by decide +kernel
theorem d6_65 : decode prog_38_method_2_code 65 = .ok (.iconst 1, 1) := by decide +kernel
theorem d6_66 : decode prog_38_method_2_code 66 = .ok (.goto 4, 3) := by decide +kernel
theorem d6_69 : decode prog_38_method_2_code 69 = .ok (.iconst 0, 1) := by decide +kernel
theorem d6_70 : decode prog_38_method_2_code 70 = .ok (.iand, 1) := by decide +kernel
theorem d6_71 : decode prog_38_method_2_code 71 = .ok (.putfield 15, 3) := by decide +kernel
theorem d6_74 : decode prog_38_method_2_code 74 = .ok (.aload_n 0, 1) := by decide +kernel
theorem d6_75 : decode prog_38_method_2_code 75 = .ok (.getfield 9, 3) := by decide +kernel
theorem d6_78 : decode prog_38_method_2_code 78 = .ok (.aload_n 0, 1) := by decide +kernel
theorem d6_79 : decode prog_38_method_2_code 79 = .ok (.dup, 1) := by decide +kernel
theorem d6_80 : decode prog_38_method_2_code 80 = .ok (.getfield 19, 3) := by decide +kernel
theorem d6_83 : decode prog_38_method_2_code 83 = .ok (.dup_x1, 1) := by decide +kernel
theorem d6_84 : decode prog_38_method_2_code 84 = .ok (.iconst 1, 1) := by decide +kernel
theorem d6_85 : decode prog_38_method_2_code 85 = .ok (.iadd, 1) := by decide +kernel
theorem d6_86 : decode prog_38_method_2_code 86 = .ok (.putfield 19, 3) := by decide +kernel
theorem d6_89 : decode prog_38_method_2_code 89 = .ok (.aload_n 1, 1) := by decide +kernel
theorem d6_90 : decode prog_38_method_2_code 90 = .ok (.aastore, 1) := by decide +kernel
theorem d6_91 : decode prog_38_method_2_code 91 = .ok (.return_, 1) := by decide +kernel
theorem pn_6 : plainFor (⟨"com/example/kent_ridge/kentridge/query/OpenEntries", "add", "(Lcom/example/kent_ridge/kentridge/query/OpenEntries$Open;)V"⟩ : MethodName) = true := plainFor_of_name (by first | (simp [plainName, overriddenIn]; done) | decide +kernel)
theorem ef_conA0 (m : MethodId) (a1 : Addr) (a2 : Addr) : entryFrame m #[(.ref a1), (.ref a2)] 2 = mkF m 0 #[.val (.ref a1), .val (.ref a2)] [] := by first | (simp [entryFrame, mkF, argsToLocals, Value.category]; done) | rfl
set_option maxRecDepth 65536 in
set_option maxHeartbeats 4000000 in
theorem conA0 (l : Launch) (Z : State) (a0 : Array Value) (hw : ∀ d ∈ tables_1, d.before a0 Z = true) (a1 : Addr) (a2 : Addr) (h0 : Heap) (n0 : Nat) (Z0 : n0 ≤ h0.size) (b : Addr) (kk : ClassId) (sv ey : Int32) (E1 : Exa Z h0 a1 "com/example/kent_ridge/kentridge/query/OpenEntries") (F1 : Fld Z h0 a1 "com/example/kent_ridge/kentridge/query/OpenEntries" "values" "[Lcom/example/kent_ridge/kentridge/query/OpenEntries$Open;" (.ref b)) (F2 : Fld Z h0 a1 "com/example/kent_ridge/kentridge/query/OpenEntries" "sorted" "Z" (.int sv)) (F3 : Fld Z h0 a1 "com/example/kent_ridge/kentridge/query/OpenEntries" "size" "I" (.int (0 : Int32))) (V1 : Arv Z h0 b kk (.object "com/example/kent_ridge/kentridge/query/OpenEntries$Open") 16 [.null, .null, .null, .null] .null) (O1 : Ovr Z kk "com/example/kent_ridge/kentridge/query/OpenEntries$Open") (E2 : Exa Z h0 a2 "com/example/kent_ridge/kentridge/query/OpenEntries$Open") (G2 : Fld Z h0 a2 "com/example/kent_ridge/kentridge/query/OpenEntries$Open" "element" "I" (.int ey)) (ne_a1_b : a1 ≠ b) (ne_b_a1 : b ≠ a1) (g_a1 : n0 ≤ a1) (g_b : n0 ≤ b) :
    own_Con l Z (⟨"com/example/kent_ridge/kentridge/query/OpenEntries", "add", "(Lcom/example/kent_ridge/kentridge/query/OpenEntries$Open;)V"⟩ : MethodName) prog_38_method_2_code 2 none ({ frames := 0, cells := 0, slots := 0, locals := 0 } : Room) #[(.ref a1), (.ref a2)] h0 (fun v h L => ∃ sv2 : Int32, v = none ∧ Fr n0 L ∧ Keep h0 h [a1, b] ∧ Exa Z h a1 "com/example/kent_ridge/kentridge/query/OpenEntries" ∧ Fld Z h a1 "com/example/kent_ridge/kentridge/query/OpenEntries" "values" "[Lcom/example/kent_ridge/kentridge/query/OpenEntries$Open;" (.ref b) ∧ Fld Z h a1 "com/example/kent_ridge/kentridge/query/OpenEntries" "sorted" "Z" (.int sv2) ∧ Fld Z h a1 "com/example/kent_ridge/kentridge/query/OpenEntries" "size" "I" (.int (1 : Int32)) ∧ Arv Z h b kk (.object "com/example/kent_ridge/kentridge/query/OpenEntries$Open") 16 [(.ref a2), .null, .null, .null] .null) := by
  refine own_Con_of pn_6 ?_
  intro p e s m below meth c s₁ X0 hx hby hml hret hlk hnm hown hZ e0
  have hown : s.vm.findClass "com/example/kent_ridge/kentridge/query/OpenEntries" = some m.cls := hown
  have hml : c.maxLocals = 2 := hml
  have N0 := Fr.nil n0
  show own_WP _ _ _ _ _ _ _ (s₁.setTop (entryFrame m #[(.ref a1), (.ref a2)] 2))
  rw [ef_conA0 m a1 a2]
  refine own_aloadN (pc' := 1) X0 hx (hb hby d6_0) rfl rfl rfl ?_
  refine own_getF (pc' := 4) X0 hx hZ hown (host := "") (Or.inl (own_w hw 54 rfl)) Via.refl e0 F3 (hb hby d6_1) rfl ?_
  intro T1 X1 e1
  refine own_aloadN (pc' := 5) X1 hx (hb hby d6_4) rfl rfl rfl ?_
  refine own_getF (pc' := 8) X1 hx hZ hown (host := "") (Or.inl (own_w hw 17 rfl)) Via.refl e1 F1 (hb hby d6_5) rfl ?_
  intro T2 X2 e2
  refine own_arrlen (pc' := 9) X2 hx hZ e2 V1 (hb hby d6_8) rfl ?_
  refine own_icmp_ne (pt := 32) (pf := 12) X2 hx (hb hby d6_9) rfl (by decide) rfl (fun hc9 => ?_) (fun hc9 => absurd hc9 (by decide))
  refine own_aloadN (pc' := 33) X2 hx (hb hby d6_32) rfl rfl rfl ?_
  refine own_dup (pc' := 34) X2 hx (hb hby d6_33) rfl rfl ?_
  refine own_getF (pc' := 37) X2 hx hZ hown (host := "") (Or.inl (own_w hw 19 rfl)) Via.refl e2 F2 (hb hby d6_34) rfl ?_
  intro T3 X3 e3
  refine own_aloadN (pc' := 38) X3 hx (hb hby d6_37) rfl rfl rfl ?_
  refine own_getF (pc' := 41) X3 hx hZ hown (host := "") (Or.inl (own_w hw 54 rfl)) Via.refl e3 F3 (hb hby d6_38) rfl ?_
  intro T4 X4 e4
  refine own_if_eq (pt := 65) (pf := 44) X4 hx (hb hby d6_41) rfl (by decide) rfl (fun hc41 => ?_) (fun hc41 => absurd (by decide) hc41)
  refine own_iconst (pc' := 66) X4 hx (1 : Int32) (hb hby d6_65) rfl rfl ?_
  refine own_goto (pc' := 70) X4 hx (hb hby d6_66) (by decide) rfl ?_
  refine own_iand (pc' := 71) X4 hx (hb hby d6_70) rfl ?_
  obtain ⟨v6, hv6⟩ : ∃ z : Int32, z = (sv &&& (1 : Int32)) := ⟨_, rfl⟩
  rw [← hv6]
  refine own_putFN (pc' := 74) (v' := (.int (nar .boolean v6))) X4 hx hZ hown (own_w hw 19 rfl) Via.refl e4 F2 E1 (Or.inl (own_w hw 20 rfl)) (own_w hw 7 rfl) (ty := .boolean) (by decide) rfl (fits_nar_bool _) (hb hby d6_71) rfl ?_
  intro T5 h5 X5 e5 W5
  have z5 : n0 ≤ h5.size := Nat.le_trans Z0 (Keep.of_wr W5).1
  have Fw5 := F2.same W5
  have N5 := Fr.snoc X5 N0 g_a1
  have K5 : Keep h0 h5 [a1, b] := (Keep.refl h0 [a1, b]).wr W5 (Or.inl (List.mem_of_getElem? (i := 0) rfl))
  refine own_aloadN (pc' := 75) X5 hx (hb hby d6_74) rfl rfl rfl ?_
  have f7 := (F1.other W5 (Or.inr (slot_ne (Or.inl (own_w hw 18 rfl)) (Or.inl (own_w hw 20 rfl)) (by decide) (t := (.array (.object "com/example/kent_ridge/kentridge/query/OpenEntries$Open"))) (t' := .boolean) (by decide +kernel) (by decide +kernel))))
  refine own_getF (pc' := 78) X5 hx hZ hown (host := "") (Or.inl (own_w hw 17 rfl)) Via.refl e5 f7 (hb hby d6_75) rfl ?_
  intro T8 X8 e8
  refine own_aloadN (pc' := 79) X8 hx (hb hby d6_78) rfl rfl rfl ?_
  refine own_dup (pc' := 80) X8 hx (hb hby d6_79) rfl rfl ?_
  have f9 := (F3.other W5 (Or.inr (slot_ne (Or.inl (own_w hw 55 rfl)) (Or.inl (own_w hw 20 rfl)) (by decide) (t := .int) (t' := .boolean) (by decide +kernel) (by decide +kernel))))
  refine own_getF (pc' := 83) X8 hx hZ hown (host := "") (Or.inl (own_w hw 54 rfl)) Via.refl e8 f9 (hb hby d6_80) rfl ?_
  intro T10 X10 e10
  refine own_dupx1 (pc' := 84) X10 hx (hb hby d6_83) rfl rfl rfl ?_
  refine own_iconst (pc' := 85) X10 hx (1 : Int32) (hb hby d6_84) rfl rfl ?_
  refine own_iadd (pc' := 86) X10 hx (hb hby d6_85) rfl ?_
  show own_WP _ _ _ _ _ _ _ (T10.setTop (mkF m 86 #[.val (.ref a1), .val (.ref a2)] [(.int (1 : Int32)), (.ref a1), (.int (0 : Int32)), (.ref b)]))
  have f11 := (E1.wr W5)
  refine own_putF (pc' := 89) X10 hx hZ hown (host := "") (Or.inl (own_w hw 54 rfl)) Via.refl e10 f9 f11 (Or.inl (own_w hw 55 rfl)) (own_w hw 7 rfl) (ty := .int) (by decide) rfl rfl (hb hby d6_86) rfl ?_
  intro T12 h12 X12 e12 W12
  have z12 : n0 ≤ h12.size := Nat.le_trans z5 (Keep.of_wr W12).1
  have Fw12 := f9.same W12
  have N12 := Fr.snoc X12 N5 g_a1
  have K12 : Keep h0 h12 [a1, b] := K5.wr W12 (Or.inl (List.mem_of_getElem? (i := 0) rfl))
  refine own_aloadN (pc' := 90) X12 hx (hb hby d6_89) rfl rfl rfl ?_
  have f13 := ((V1.other W5 ne_b_a1).other W12 ne_b_a1)
  have f15 := ((E2.wr W5).wr W12)
  refine own_aastore (pc' := 91) X12 hx hZ e12 f13 O1 (Ins.self f15) ⟨by decide, by decide⟩ 0 rfl (Nat.le_of_ble_eq_true rfl) (hb hby d6_90) rfl ?_
  intro T14 h14 X14 e14 W14 V14
  have z14 : n0 ≤ h14.size := Nat.le_trans z12 (Keep.of_wr W14).1
  have V14 : Arv Z h14 b kk (.object "com/example/kent_ridge/kentridge/query/OpenEntries$Open") (16 : Int32) [(.ref a2), .null, .null, .null] .null := V14
  have N14 := Fr.snoc X14 N12 g_b
  have K14 : Keep h0 h14 [a1, b] := K12.wr W14 (Or.inl (List.mem_of_getElem? (i := 1) rfl))
  have f16 := ((f11.wr W12).wr W14)
  have f17 := ((f7.other W12 (Or.inr (slot_ne (Or.inl (own_w hw 18 rfl)) (Or.inl (own_w hw 55 rfl)) (by decide) (t := (.array (.object "com/example/kent_ridge/kentridge/query/OpenEntries$Open"))) (t' := .int) (by decide +kernel) (by decide +kernel)))).other W14 (Or.inl ne_a1_b))
  have f18 := ((Fw5.other W12 (Or.inr (slot_ne (Or.inl (own_w hw 20 rfl)) (Or.inl (own_w hw 55 rfl)) (by decide) (t := .boolean) (t' := .int) (by decide +kernel) (by decide +kernel)))).other W14 (Or.inl ne_a1_b))
  have f19 := (Fw12.other W14 (Or.inl ne_a1_b))
  refine own_ret0 X14 hx hlk hret (hb hby d6_91) (by decide) (by decide) ?_
  rw [e14]
  exact ⟨_, rfl, N14, K14, f16, f17, f18, f19, V14⟩
theorem ef_conA1 (m : MethodId) (a1 : Addr) (a2 : Addr) : entryFrame m #[(.ref a1), (.ref a2)] 2 = mkF m 0 #[.val (.ref a1), .val (.ref a2)] [] := by first | (simp [entryFrame, mkF, argsToLocals, Value.category]; done) | rfl
set_option maxRecDepth 65536 in
set_option maxHeartbeats 4000000 in
theorem conA1 (l : Launch) (Z : State) (a0 : Array Value) (hw : ∀ d ∈ tables_1, d.before a0 Z = true) (a1 : Addr) (a2 : Addr) (h0 : Heap) (n0 : Nat) (Z0 : n0 ≤ h0.size) (b : Addr) (kk : ClassId) (sv ey : Int32) (x0 : Addr) (ex : Int32) (E1 : Exa Z h0 a1 "com/example/kent_ridge/kentridge/query/OpenEntries") (F1 : Fld Z h0 a1 "com/example/kent_ridge/kentridge/query/OpenEntries" "values" "[Lcom/example/kent_ridge/kentridge/query/OpenEntries$Open;" (.ref b)) (F2 : Fld Z h0 a1 "com/example/kent_ridge/kentridge/query/OpenEntries" "sorted" "Z" (.int sv)) (F3 : Fld Z h0 a1 "com/example/kent_ridge/kentridge/query/OpenEntries" "size" "I" (.int (1 : Int32))) (V1 : Arv Z h0 b kk (.object "com/example/kent_ridge/kentridge/query/OpenEntries$Open") 16 [(.ref x0), .null, .null, .null] .null) (O1 : Ovr Z kk "com/example/kent_ridge/kentridge/query/OpenEntries$Open") (E2 : Exa Z h0 a2 "com/example/kent_ridge/kentridge/query/OpenEntries$Open") (G2 : Fld Z h0 a2 "com/example/kent_ridge/kentridge/query/OpenEntries$Open" "element" "I" (.int ey)) (Gp : Fld Z h0 x0 "com/example/kent_ridge/kentridge/query/OpenEntries$Open" "element" "I" (.int ex)) (ne_a1_b : a1 ≠ b) (ne_b_a1 : b ≠ a1) (g_a1 : n0 ≤ a1) (g_b : n0 ≤ b) :
    own_Con l Z (⟨"com/example/kent_ridge/kentridge/query/OpenEntries", "add", "(Lcom/example/kent_ridge/kentridge/query/OpenEntries$Open;)V"⟩ : MethodName) prog_38_method_2_code 2 none ({ frames := 0, cells := 0, slots := 0, locals := 0 } : Room) #[(.ref a1), (.ref a2)] h0 (fun v h L => ∃ sv2 : Int32, v = none ∧ Fr n0 L ∧ Keep h0 h [a1, b] ∧ Exa Z h a1 "com/example/kent_ridge/kentridge/query/OpenEntries" ∧ Fld Z h a1 "com/example/kent_ridge/kentridge/query/OpenEntries" "values" "[Lcom/example/kent_ridge/kentridge/query/OpenEntries$Open;" (.ref b) ∧ Fld Z h a1 "com/example/kent_ridge/kentridge/query/OpenEntries" "sorted" "Z" (.int sv2) ∧ Fld Z h a1 "com/example/kent_ridge/kentridge/query/OpenEntries" "size" "I" (.int (2 : Int32)) ∧ Arv Z h b kk (.object "com/example/kent_ridge/kentridge/query/OpenEntries$Open") 16 [(.ref x0), (.ref a2), .null, .null] .null) := by
  refine own_Con_of pn_6 ?_
  intro p e s m below meth c s₁ X0 hx hby hml hret hlk hnm hown hZ e0
  have hown : s.vm.findClass "com/example/kent_ridge/kentridge/query/OpenEntries" = some m.cls := hown
  have hml : c.maxLocals = 2 := hml
  have N0 := Fr.nil n0
  show own_WP _ _ _ _ _ _ _ (s₁.setTop (entryFrame m #[(.ref a1), (.ref a2)] 2))
  rw [ef_conA1 m a1 a2]
  refine own_aloadN (pc' := 1) X0 hx (hb hby d6_0) rfl rfl rfl ?_
  refine own_getF (pc' := 4) X0 hx hZ hown (host := "") (Or.inl (own_w hw 54 rfl)) Via.refl e0 F3 (hb hby d6_1) rfl ?_
  intro T1 X1 e1
  refine own_aloadN (pc' := 5) X1 hx (hb hby d6_4) rfl rfl rfl ?_
  refine own_getF (pc' := 8) X1 hx hZ hown (host := "") (Or.inl (own_w hw 17 rfl)) Via.refl e1 F1 (hb hby d6_5) rfl ?_
  intro T2 X2 e2
  refine own_arrlen (pc' := 9) X2 hx hZ e2 V1 (hb hby d6_8) rfl ?_
  refine own_icmp_ne (pt := 32) (pf := 12) X2 hx (hb hby d6_9) rfl (by decide) rfl (fun hc9 => ?_) (fun hc9 => absurd hc9 (by decide))
  refine own_aloadN (pc' := 33) X2 hx (hb hby d6_32) rfl rfl rfl ?_
  refine own_dup (pc' := 34) X2 hx (hb hby d6_33) rfl rfl ?_
  refine own_getF (pc' := 37) X2 hx hZ hown (host := "") (Or.inl (own_w hw 19 rfl)) Via.refl e2 F2 (hb hby d6_34) rfl ?_
  intro T3 X3 e3
  refine own_aloadN (pc' := 38) X3 hx (hb hby d6_37) rfl rfl rfl ?_
  refine own_getF (pc' := 41) X3 hx hZ hown (host := "") (Or.inl (own_w hw 54 rfl)) Via.refl e3 F3 (hb hby d6_38) rfl ?_
  intro T4 X4 e4
  refine own_if_eq (pt := 65) (pf := 44) X4 hx (hb hby d6_41) rfl (by decide) rfl (fun hc41 => absurd hc41 (by decide)) (fun hc41 => ?_)
  refine own_aloadN (pc' := 45) X4 hx (hb hby d6_44) rfl rfl rfl ?_
  refine own_getF (pc' := 48) X4 hx hZ hown (host := "") (Or.inl (own_w hw 17 rfl)) Via.refl e4 F1 (hb hby d6_45) rfl ?_
  intro T5 X5 e5
  refine own_aloadN (pc' := 49) X5 hx (hb hby d6_48) rfl rfl rfl ?_
  refine own_getF (pc' := 52) X5 hx hZ hown (host := "") (Or.inl (own_w hw 54 rfl)) Via.refl e5 F3 (hb hby d6_49) rfl ?_
  intro T6 X6 e6
  refine own_iconst (pc' := 53) X6 hx (1 : Int32) (hb hby d6_52) rfl rfl ?_
  refine own_isub (pc' := 54) X6 hx (hb hby d6_53) rfl ?_
  show own_WP _ _ _ _ _ _ _ (T6.setTop (mkF m 54 #[.val (.ref a1), .val (.ref a2)] [(.int (0 : Int32)), (.ref b), (.int sv), (.ref a1)]))
  refine own_aaloadV (pc' := 55) (v := (.ref x0)) X6 hx hZ e6 V1 rfl ⟨by decide, by decide⟩ rfl (hb hby d6_54) rfl ?_
  refine own_getFR (pc' := 58) X6 hx hZ hown (own_w hw 62 rfl) e6 Gp (hb hby d6_55) rfl ?_
  refine own_aloadN (pc' := 59) X6 hx (hb hby d6_58) rfl rfl rfl ?_
  refine own_getFR (pc' := 62) X6 hx hZ hown (own_w hw 62 rfl) e6 G2 (hb hby d6_59) rfl ?_
  refine own_join (fun jb : Int32 => True) (fun jb => T6.setTop (mkF m 70 #[.val (.ref a1), .val (.ref a2)] [(.int jb), (.int sv), (.ref a1)])) (fun J70 => ?_) (fun jb hjb => ?_)
  · skip
    refine own_icmp_ge (pt := 69) (pf := 65) X6 hx (hb hby d6_62) rfl (by decide) rfl (fun hc62 => ?_) (fun hc62 => ?_)
    · skip
      refine own_iconst (pc' := 70) X6 hx (0 : Int32) (hb hby d6_69) rfl rfl ?_
      exact J70 (0 : Int32) (trivial)
    · skip
      refine own_iconst (pc' := 66) X6 hx (1 : Int32) (hb hby d6_65) rfl rfl ?_
      refine own_goto (pc' := 70) X6 hx (hb hby d6_66) (by decide) rfl ?_
      exact J70 (1 : Int32) (trivial)
  · skip
    show own_WP _ _ _ _ _ _ _ (T6.setTop (mkF m 70 #[.val (.ref a1), .val (.ref a2)] [(.int jb), (.int sv), (.ref a1)]))
    refine own_iand (pc' := 71) X6 hx (hb hby d6_70) rfl ?_
    obtain ⟨v8, hv8⟩ : ∃ z : Int32, z = (sv &&& jb) := ⟨_, rfl⟩
    rw [← hv8]
    refine own_putFN (pc' := 74) (v' := (.int (nar .boolean v8))) X6 hx hZ hown (own_w hw 19 rfl) Via.refl e6 F2 E1 (Or.inl (own_w hw 20 rfl)) (own_w hw 7 rfl) (ty := .boolean) (by decide) rfl (fits_nar_bool _) (hb hby d6_71) rfl ?_
    intro T7 h7 X7 e7 W7
    have z7 : n0 ≤ h7.size := Nat.le_trans Z0 (Keep.of_wr W7).1
    have Fw7 := F2.same W7
    have N7 := Fr.snoc X7 N0 g_a1
    have K7 : Keep h0 h7 [a1, b] := (Keep.refl h0 [a1, b]).wr W7 (Or.inl (List.mem_of_getElem? (i := 0) rfl))
    refine own_aloadN (pc' := 75) X7 hx (hb hby d6_74) rfl rfl rfl ?_
    have f9 := (F1.other W7 (Or.inr (slot_ne (Or.inl (own_w hw 18 rfl)) (Or.inl (own_w hw 20 rfl)) (by decide) (t := (.array (.object "com/example/kent_ridge/kentridge/query/OpenEntries$Open"))) (t' := .boolean) (by decide +kernel) (by decide +kernel))))
    refine own_getF (pc' := 78) X7 hx hZ hown (host := "") (Or.inl (own_w hw 17 rfl)) Via.refl e7 f9 (hb hby d6_75) rfl ?_
    intro T10 X10 e10
    refine own_aloadN (pc' := 79) X10 hx (hb hby d6_78) rfl rfl rfl ?_
    refine own_dup (pc' := 80) X10 hx (hb hby d6_79) rfl rfl ?_
    have f11 := (F3.other W7 (Or.inr (slot_ne (Or.inl (own_w hw 55 rfl)) (Or.inl (own_w hw 20 rfl)) (by decide) (t := .int) (t' := .boolean) (by decide +kernel) (by decide +kernel))))
    refine own_getF (pc' := 83) X10 hx hZ hown (host := "") (Or.inl (own_w hw 54 rfl)) Via.refl e10 f11 (hb hby d6_80) rfl ?_
    intro T12 X12 e12
    refine own_dupx1 (pc' := 84) X12 hx (hb hby d6_83) rfl rfl rfl ?_
    refine own_iconst (pc' := 85) X12 hx (1 : Int32) (hb hby d6_84) rfl rfl ?_
    refine own_iadd (pc' := 86) X12 hx (hb hby d6_85) rfl ?_
    show own_WP _ _ _ _ _ _ _ (T12.setTop (mkF m 86 #[.val (.ref a1), .val (.ref a2)] [(.int (2 : Int32)), (.ref a1), (.int (1 : Int32)), (.ref b)]))
    have f13 := (E1.wr W7)
    refine own_putF (pc' := 89) X12 hx hZ hown (host := "") (Or.inl (own_w hw 54 rfl)) Via.refl e12 f11 f13 (Or.inl (own_w hw 55 rfl)) (own_w hw 7 rfl) (ty := .int) (by decide) rfl rfl (hb hby d6_86) rfl ?_
    intro T14 h14 X14 e14 W14
    have z14 : n0 ≤ h14.size := Nat.le_trans z7 (Keep.of_wr W14).1
    have Fw14 := f11.same W14
    have N14 := Fr.snoc X14 N7 g_a1
    have K14 : Keep h0 h14 [a1, b] := K7.wr W14 (Or.inl (List.mem_of_getElem? (i := 0) rfl))
    refine own_aloadN (pc' := 90) X14 hx (hb hby d6_89) rfl rfl rfl ?_
    have f15 := ((V1.other W7 ne_b_a1).other W14 ne_b_a1)
    have f17 := ((E2.wr W7).wr W14)
    refine own_aastore (pc' := 91) X14 hx hZ e14 f15 O1 (Ins.self f17) ⟨by decide, by decide⟩ 1 rfl (Nat.le_of_ble_eq_true rfl) (hb hby d6_90) rfl ?_
    intro T16 h16 X16 e16 W16 V16
    have z16 : n0 ≤ h16.size := Nat.le_trans z14 (Keep.of_wr W16).1
    have V16 : Arv Z h16 b kk (.object "com/example/kent_ridge/kentridge/query/OpenEntries$Open") (16 : Int32) [(.ref x0), (.ref a2), .null, .null] .null := V16
    have N16 := Fr.snoc X16 N14 g_b
    have K16 : Keep h0 h16 [a1, b] := K14.wr W16 (Or.inl (List.mem_of_getElem? (i := 1) rfl))
    have f18 := ((f13.wr W14).wr W16)
    have f19 := ((f9.other W14 (Or.inr (slot_ne (Or.inl (own_w hw 18 rfl)) (Or.inl (own_w hw 55 rfl)) (by decide) (t := (.array (.object "com/example/kent_ridge/kentridge/query/OpenEntries$Open"))) (t' := .int) (by decide +kernel) (by decide +kernel)))).other W16 (Or.inl ne_a1_b))
    have f20 := ((Fw7.other W14 (Or.inr (slot_ne (Or.inl (own_w hw 20 rfl)) (Or.inl (own_w hw 55 rfl)) (by decide) (t := .boolean) (t' := .int) (by decide +kernel) (by decide +kernel)))).other W16 (Or.inl ne_a1_b))
    have f21 := (Fw14.other W16 (Or.inl ne_a1_b))
    refine own_ret0 X16 hx hlk hret (hb hby d6_91) (by decide) (by decide) ?_
    rw [e16]
    exact ⟨_, rfl, N16, K16, f18, f19, f20, f21, V16⟩
theorem ef_conA2 (m : MethodId) (a1 : Addr) (a2 : Addr) : entryFrame m #[(.ref a1), (.ref a2)] 2 = mkF m 0 #[.val (.ref a1), .val (.ref a2)] [] := by first | (simp [entryFrame, mkF, argsToLocals, Value.category]; done) | rfl
set_option maxRecDepth 65536 in
set_option maxHeartbeats 4000000 in
theorem conA2 (l : Launch) (Z : State) (a0 : Array Value) (hw : ∀ d ∈ tables_1, d.before a0 Z = true) (a1 : Addr) (a2 : Addr) (h0 : Heap) (n0 : Nat) (Z0 : n0 ≤ h0.size) (b : Addr) (kk : ClassId) (sv ey : Int32) (x0 x1 : Addr) (ex : Int32) (E1 : Exa Z h0 a1 "com/example/kent_ridge/kentridge/query/OpenEntries") (F1 : Fld Z h0 a1 "com/example/kent_ridge/kentridge/query/OpenEntries" "values" "[Lcom/example/kent_ridge/kentridge/query/OpenEntries$Open;" (.ref b)) (F2 : Fld Z h0 a1 "com/example/kent_ridge/kentridge/query/OpenEntries" "sorted" "Z" (.int sv)) (F3 : Fld Z h0 a1 "com/example/kent_ridge/kentridge/query/OpenEntries" "size" "I" (.int (2 : Int32))) (V1 : Arv Z h0 b kk (.object "com/example/kent_ridge/kentridge/query/OpenEntries$Open") 16 [(.ref x0), (.ref x1), .null, .null] .null) (O1 : Ovr Z kk "com/example/kent_ridge/kentridge/query/OpenEntries$Open") (E2 : Exa Z h0 a2 "com/example/kent_ridge/kentridge/query/OpenEntries$Open") (G2 : Fld Z h0 a2 "com/example/kent_ridge/kentridge/query/OpenEntries$Open" "element" "I" (.int ey)) (Gp : Fld Z h0 x1 "com/example/kent_ridge/kentridge/query/OpenEntries$Open" "element" "I" (.int ex)) (ne_a1_b : a1 ≠ b) (ne_b_a1 : b ≠ a1) (g_a1 : n0 ≤ a1) (g_b : n0 ≤ b) :
    own_Con l Z (⟨"com/example/kent_ridge/kentridge/query/OpenEntries", "add", "(Lcom/example/kent_ridge/kentridge/query/OpenEntries$Open;)V"⟩ : MethodName) prog_38_method_2_code 2 none ({ frames := 0, cells := 0, slots := 0, locals := 0 } : Room) #[(.ref a1), (.ref a2)] h0 (fun v h L => ∃ sv2 : Int32, v = none ∧ Fr n0 L ∧ Keep h0 h [a1, b] ∧ Exa Z h a1 "com/example/kent_ridge/kentridge/query/OpenEntries" ∧ Fld Z h a1 "com/example/kent_ridge/kentridge/query/OpenEntries" "values" "[Lcom/example/kent_ridge/kentridge/query/OpenEntries$Open;" (.ref b) ∧ Fld Z h a1 "com/example/kent_ridge/kentridge/query/OpenEntries" "sorted" "Z" (.int sv2) ∧ Fld Z h a1 "com/example/kent_ridge/kentridge/query/OpenEntries" "size" "I" (.int (3 : Int32)) ∧ Arv Z h b kk (.object "com/example/kent_ridge/kentridge/query/OpenEntries$Open") 16 [(.ref x0), (.ref x1), (.ref a2), .null] .null) := by
  refine own_Con_of pn_6 ?_
  intro p e s m below meth c s₁ X0 hx hby hml hret hlk hnm hown hZ e0
  have hown : s.vm.findClass "com/example/kent_ridge/kentridge/query/OpenEntries" = some m.cls := hown
  have hml : c.maxLocals = 2 := hml
  have N0 := Fr.nil n0
  show own_WP _ _ _ _ _ _ _ (s₁.setTop (entryFrame m #[(.ref a1), (.ref a2)] 2))
  rw [ef_conA2 m a1 a2]
  refine own_aloadN (pc' := 1) X0 hx (hb hby d6_0) rfl rfl rfl ?_
  refine own_getF (pc' := 4) X0 hx hZ hown (host := "") (Or.inl (own_w hw 54 rfl)) Via.refl e0 F3 (hb hby d6_1) rfl ?_
  intro T1 X1 e1
  refine own_aloadN (pc' := 5) X1 hx (hb hby d6_4) rfl rfl rfl ?_
  refine own_getF (pc' := 8) X1 hx hZ hown (host := "") (Or.inl (own_w hw 17 rfl)) Via.refl e1 F1 (hb hby d6_5) rfl ?_
  intro T2 X2 e2
  refine own_arrlen (pc' := 9) X2 hx hZ e2 V1 (hb hby d6_8) rfl ?_
  refine own_icmp_ne (pt := 32) (pf := 12) X2 hx (hb hby d6_9) rfl (by decide) rfl (fun hc9 => ?_) (fun hc9 => absurd hc9 (by decide))
  refine own_aloadN (pc' := 33) X2 hx (hb hby d6_32) rfl rfl rfl ?_
  refine own_dup (pc' := 34) X2 hx (hb hby d6_33) rfl rfl ?_
  refine own_getF (pc' := 37) X2 hx hZ hown (host := "") (Or.inl (own_w hw 19 rfl)) Via.refl e2 F2 (hb hby d6_34) rfl ?_
  intro T3 X3 e3
  refine own_aloadN (pc' := 38) X3 hx (hb hby d6_37) rfl rfl rfl ?_
  refine own_getF (pc' := 41) X3 hx hZ hown (host := "") (Or.inl (own_w hw 54 rfl)) Via.refl e3 F3 (hb hby d6_38) rfl ?_
  intro T4 X4 e4
  refine own_if_eq (pt := 65) (pf := 44) X4 hx (hb hby d6_41) rfl (by decide) rfl (fun hc41 => absurd hc41 (by decide)) (fun hc41 => ?_)
  refine own_aloadN (pc' := 45) X4 hx (hb hby d6_44) rfl rfl rfl ?_
  refine own_getF (pc' := 48) X4 hx hZ hown (host := "") (Or.inl (own_w hw 17 rfl)) Via.refl e4 F1 (hb hby d6_45) rfl ?_
  intro T5 X5 e5
  refine own_aloadN (pc' := 49) X5 hx (hb hby d6_48) rfl rfl rfl ?_
  refine own_getF (pc' := 52) X5 hx hZ hown (host := "") (Or.inl (own_w hw 54 rfl)) Via.refl e5 F3 (hb hby d6_49) rfl ?_
  intro T6 X6 e6
  refine own_iconst (pc' := 53) X6 hx (1 : Int32) (hb hby d6_52) rfl rfl ?_
  refine own_isub (pc' := 54) X6 hx (hb hby d6_53) rfl ?_
  show own_WP _ _ _ _ _ _ _ (T6.setTop (mkF m 54 #[.val (.ref a1), .val (.ref a2)] [(.int (1 : Int32)), (.ref b), (.int sv), (.ref a1)]))
  refine own_aaloadV (pc' := 55) (v := (.ref x1)) X6 hx hZ e6 V1 rfl ⟨by decide, by decide⟩ rfl (hb hby d6_54) rfl ?_
  refine own_getFR (pc' := 58) X6 hx hZ hown (own_w hw 62 rfl) e6 Gp (hb hby d6_55) rfl ?_
  refine own_aloadN (pc' := 59) X6 hx (hb hby d6_58) rfl rfl rfl ?_
  refine own_getFR (pc' := 62) X6 hx hZ hown (own_w hw 62 rfl) e6 G2 (hb hby d6_59) rfl ?_
  refine own_join (fun jb : Int32 => True) (fun jb => T6.setTop (mkF m 70 #[.val (.ref a1), .val (.ref a2)] [(.int jb), (.int sv), (.ref a1)])) (fun J70 => ?_) (fun jb hjb => ?_)
  · skip
    refine own_icmp_ge (pt := 69) (pf := 65) X6 hx (hb hby d6_62) rfl (by decide) rfl (fun hc62 => ?_) (fun hc62 => ?_)
    · skip
      refine own_iconst (pc' := 70) X6 hx (0 : Int32) (hb hby d6_69) rfl rfl ?_
      exact J70 (0 : Int32) (trivial)
    · skip
      refine own_iconst (pc' := 66) X6 hx (1 : Int32) (hb hby d6_65) rfl rfl ?_
      refine own_goto (pc' := 70) X6 hx (hb hby d6_66) (by decide) rfl ?_
      exact J70 (1 : Int32) (trivial)
  · skip
    show own_WP _ _ _ _ _ _ _ (T6.setTop (mkF m 70 #[.val (.ref a1), .val (.ref a2)] [(.int jb), (.int sv), (.ref a1)]))
    refine own_iand (pc' := 71) X6 hx (hb hby d6_70) rfl ?_
    obtain ⟨v8, hv8⟩ : ∃ z : Int32, z = (sv &&& jb) := ⟨_, rfl⟩
    rw [← hv8]
    refine own_putFN (pc' := 74) (v' := (.int (nar .boolean v8))) X6 hx hZ hown (own_w hw 19 rfl) Via.refl e6 F2 E1 (Or.inl (own_w hw 20 rfl)) (own_w hw 7 rfl) (ty := .boolean) (by decide) rfl (fits_nar_bool _) (hb hby d6_71) rfl ?_
    intro T7 h7 X7 e7 W7
    have z7 : n0 ≤ h7.size := Nat.le_trans Z0 (Keep.of_wr W7).1
    have Fw7 := F2.same W7
    have N7 := Fr.snoc X7 N0 g_a1
    have K7 : Keep h0 h7 [a1, b] := (Keep.refl h0 [a1, b]).wr W7 (Or.inl (List.mem_of_getElem? (i := 0) rfl))
    refine own_aloadN (pc' := 75) X7 hx (hb hby d6_74) rfl rfl rfl ?_
    have f9 := (F1.other W7 (Or.inr (slot_ne (Or.inl (own_w hw 18 rfl)) (Or.inl (own_w hw 20 rfl)) (by decide) (t := (.array (.object "com/example/kent_ridge/kentridge/query/OpenEntries$Open"))) (t' := .boolean) (by decide +kernel) (by decide +kernel))))
    refine own_getF (pc' := 78) X7 hx hZ hown (host := "") (Or.inl (own_w hw 17 rfl)) Via.refl e7 f9 (hb hby d6_75) rfl ?_
    intro T10 X10 e10
    refine own_aloadN (pc' := 79) X10 hx (hb hby d6_78) rfl rfl rfl ?_
    refine own_dup (pc' := 80) X10 hx (hb hby d6_79) rfl rfl ?_
    have f11 := (F3.other W7 (Or.inr (slot_ne (Or.inl (own_w hw 55 rfl)) (Or.inl (own_w hw 20 rfl)) (by decide) (t := .int) (t' := .boolean) (by decide +kernel) (by decide +kernel))))
    refine own_getF (pc' := 83) X10 hx hZ hown (host := "") (Or.inl (own_w hw 54 rfl)) Via.refl e10 f11 (hb hby d6_80) rfl ?_
    intro T12 X12 e12
    refine own_dupx1 (pc' := 84) X12 hx (hb hby d6_83) rfl rfl rfl ?_
    refine own_iconst (pc' := 85) X12 hx (1 : Int32) (hb hby d6_84) rfl rfl ?_
    refine own_iadd (pc' := 86) X12 hx (hb hby d6_85) rfl ?_
    show own_WP _ _ _ _ _ _ _ (T12.setTop (mkF m 86 #[.val (.ref a1), .val (.ref a2)] [(.int (3 : Int32)), (.ref a1), (.int (2 : Int32)), (.ref b)]))
    have f13 := (E1.wr W7)
    refine own_putF (pc' := 89) X12 hx hZ hown (host := "") (Or.inl (own_w hw 54 rfl)) Via.refl e12 f11 f13 (Or.inl (own_w hw 55 rfl)) (own_w hw 7 rfl) (ty := .int) (by decide) rfl rfl (hb hby d6_86) rfl ?_
    intro T14 h14 X14 e14 W14
    have z14 : n0 ≤ h14.size := Nat.le_trans z7 (Keep.of_wr W14).1
    have Fw14 := f11.same W14
    have N14 := Fr.snoc X14 N7 g_a1
    have K14 : Keep h0 h14 [a1, b] := K7.wr W14 (Or.inl (List.mem_of_getElem? (i := 0) rfl))
    refine own_aloadN (pc' := 90) X14 hx (hb hby d6_89) rfl rfl rfl ?_
    have f15 := ((V1.other W7 ne_b_a1).other W14 ne_b_a1)
    have f17 := ((E2.wr W7).wr W14)
    refine own_aastore (pc' := 91) X14 hx hZ e14 f15 O1 (Ins.self f17) ⟨by decide, by decide⟩ 2 rfl (Nat.le_of_ble_eq_true rfl) (hb hby d6_90) rfl ?_
    intro T16 h16 X16 e16 W16 V16
    have z16 : n0 ≤ h16.size := Nat.le_trans z14 (Keep.of_wr W16).1
    have V16 : Arv Z h16 b kk (.object "com/example/kent_ridge/kentridge/query/OpenEntries$Open") (16 : Int32) [(.ref x0), (.ref x1), (.ref a2), .null] .null := V16
    have N16 := Fr.snoc X16 N14 g_b
    have K16 : Keep h0 h16 [a1, b] := K14.wr W16 (Or.inl (List.mem_of_getElem? (i := 1) rfl))
    have f18 := ((f13.wr W14).wr W16)
    have f19 := ((f9.other W14 (Or.inr (slot_ne (Or.inl (own_w hw 18 rfl)) (Or.inl (own_w hw 55 rfl)) (by decide) (t := (.array (.object "com/example/kent_ridge/kentridge/query/OpenEntries$Open"))) (t' := .int) (by decide +kernel) (by decide +kernel)))).other W16 (Or.inl ne_a1_b))
    have f20 := ((Fw7.other W14 (Or.inr (slot_ne (Or.inl (own_w hw 20 rfl)) (Or.inl (own_w hw 55 rfl)) (by decide) (t := .boolean) (t' := .int) (by decide +kernel) (by decide +kernel)))).other W16 (Or.inl ne_a1_b))
    have f21 := (Fw14.other W16 (Or.inl ne_a1_b))
    refine own_ret0 X16 hx hlk hret (hb hby d6_91) (by decide) (by decide) ?_
    rw [e16]
    exact ⟨_, rfl, N16, K16, f18, f19, f20, f21, V16⟩
theorem ef_conA3 (m : MethodId) (a1 : Addr) (a2 : Addr) : entryFrame m #[(.ref a1), (.ref a2)] 2 = mkF m 0 #[.val (.ref a1), .val (.ref a2)] [] := by first | (simp [entryFrame, mkF, argsToLocals, Value.category]; done) | rfl
set_option maxRecDepth 65536 in
set_option maxHeartbeats 4000000 in
theorem conA3 (l : Launch) (Z : State) (a0 : Array Value) (hw : ∀ d ∈ tables_1, d.before a0 Z = true) (a1 : Addr) (a2 : Addr) (h0 : Heap) (n0 : Nat) (Z0 : n0 ≤ h0.size) (b : Addr) (kk : ClassId) (sv ey : Int32) (x0 x1 x2 : Addr) (ex : Int32) (E1 : Exa Z h0 a1 "com/example/kent_ridge/kentridge/query/OpenEntries") (F1 : Fld Z h0 a1 "com/example/kent_ridge/kentridge/query/OpenEntries" "values" "[Lcom/example/kent_ridge/kentridge/query/OpenEntries$Open;" (.ref b)) (F2 : Fld Z h0 a1 "com/example/kent_ridge/kentridge/query/OpenEntries" "sorted" "Z" (.int sv)) (F3 : Fld Z h0 a1 "com/example/kent_ridge/kentridge/query/OpenEntries" "size" "I" (.int (3 : Int32))) (V1 : Arv Z h0 b kk (.object "com/example/kent_ridge/kentridge/query/OpenEntries$Open") 16 [(.ref x0), (.ref x1), (.ref x2), .null] .null) (O1 : Ovr Z kk "com/example/kent_ridge/kentridge/query/OpenEntries$Open") (E2 : Exa Z h0 a2 "com/example/kent_ridge/kentridge/query/OpenEntries$Open") (G2 : Fld Z h0 a2 "com/example/kent_ridge/kentridge/query/OpenEntries$Open" "element" "I" (.int ey)) (Gp : Fld Z h0 x2 "com/example/kent_ridge/kentridge/query/OpenEntries$Open" "element" "I" (.int ex)) (ne_a1_b : a1 ≠ b) (ne_b_a1 : b ≠ a1) (g_a1 : n0 ≤ a1) (g_b : n0 ≤ b) :
    own_Con l Z (⟨"com/example/kent_ridge/kentridge/query/OpenEntries", "add", "(Lcom/example/kent_ridge/kentridge/query/OpenEntries$Open;)V"⟩ : MethodName) prog_38_method_2_code 2 none ({ frames := 0, cells := 0, slots := 0, locals := 0 } : Room) #[(.ref a1), (.ref a2)] h0 (fun v h L => ∃ sv2 : Int32, v = none ∧ Fr n0 L ∧ Keep h0 h [a1, b] ∧ Exa Z h a1 "com/example/kent_ridge/kentridge/query/OpenEntries" ∧ Fld Z h a1 "com/example/kent_ridge/kentridge/query/OpenEntries" "values" "[Lcom/example/kent_ridge/kentridge/query/OpenEntries$Open;" (.ref b) ∧ Fld Z h a1 "com/example/kent_ridge/kentridge/query/OpenEntries" "sorted" "Z" (.int sv2) ∧ Fld Z h a1 "com/example/kent_ridge/kentridge/query/OpenEntries" "size" "I" (.int (4 : Int32)) ∧ Arv Z h b kk (.object "com/example/kent_ridge/kentridge/query/OpenEntries$Open") 16 [(.ref x0), (.ref x1), (.ref x2), (.ref a2)] .null) := by
  refine own_Con_of pn_6 ?_
  intro p e s m below meth c s₁ X0 hx hby hml hret hlk hnm hown hZ e0
  have hown : s.vm.findClass "com/example/kent_ridge/kentridge/query/OpenEntries" = some m.cls := hown
  have hml : c.maxLocals = 2 := hml
  have N0 := Fr.nil n0
  show own_WP _ _ _ _ _ _ _ (s₁.setTop (entryFrame m #[(.ref a1), (.ref a2)] 2))
  rw [ef_conA3 m a1 a2]
  refine own_aloadN (pc' := 1) X0 hx (hb hby d6_0) rfl rfl rfl ?_
  refine own_getF (pc' := 4) X0 hx hZ hown (host := "") (Or.inl (own_w hw 54 rfl)) Via.refl e0 F3 (hb hby d6_1) rfl ?_
  intro T1 X1 e1
  refine own_aloadN (pc' := 5) X1 hx (hb hby d6_4) rfl rfl rfl ?_
  refine own_getF (pc' := 8) X1 hx hZ hown (host := "") (Or.inl (own_w hw 17 rfl)) Via.refl e1 F1 (hb hby d6_5) rfl ?_
  intro T2 X2 e2
  refine own_arrlen (pc' := 9) X2 hx hZ e2 V1 (hb hby d6_8) rfl ?_
  refine own_icmp_ne (pt := 32) (pf := 12) X2 hx (hb hby d6_9) rfl (by decide) rfl (fun hc9 => ?_) (fun hc9 => absurd hc9 (by decide))
  refine own_aloadN (pc' := 33) X2 hx (hb hby d6_32) rfl rfl rfl ?_
  refine own_dup (pc' := 34) X2 hx (hb hby d6_33) rfl rfl ?_
  refine own_getF (pc' := 37) X2 hx hZ hown (host := "") (Or.inl (own_w hw 19 rfl)) Via.refl e2 F2 (hb hby d6_34) rfl ?_
  intro T3 X3 e3
  refine own_aloadN (pc' := 38) X3 hx (hb hby d6_37) rfl rfl rfl ?_
  refine own_getF (pc' := 41) X3 hx hZ hown (host := "") (Or.inl (own_w hw 54 rfl)) Via.refl e3 F3 (hb hby d6_38) rfl ?_
  intro T4 X4 e4
  refine own_if_eq (pt := 65) (pf := 44) X4 hx (hb hby d6_41) rfl (by decide) rfl (fun hc41 => absurd hc41 (by decide)) (fun hc41 => ?_)
  refine own_aloadN (pc' := 45) X4 hx (hb hby d6_44) rfl rfl rfl ?_
  refine own_getF (pc' := 48) X4 hx hZ hown (host := "") (Or.inl (own_w hw 17 rfl)) Via.refl e4 F1 (hb hby d6_45) rfl ?_
  intro T5 X5 e5
  refine own_aloadN (pc' := 49) X5 hx (hb hby d6_48) rfl rfl rfl ?_
  refine own_getF (pc' := 52) X5 hx hZ hown (host := "") (Or.inl (own_w hw 54 rfl)) Via.refl e5 F3 (hb hby d6_49) rfl ?_
  intro T6 X6 e6
  refine own_iconst (pc' := 53) X6 hx (1 : Int32) (hb hby d6_52) rfl rfl ?_
  refine own_isub (pc' := 54) X6 hx (hb hby d6_53) rfl ?_
  show own_WP _ _ _ _ _ _ _ (T6.setTop (mkF m 54 #[.val (.ref a1), .val (.ref a2)] [(.int (2 : Int32)), (.ref b), (.int sv), (.ref a1)]))
  refine own_aaloadV (pc' := 55) (v := (.ref x2)) X6 hx hZ e6 V1 rfl ⟨by decide, by decide⟩ rfl (hb hby d6_54) rfl ?_
  refine own_getFR (pc' := 58) X6 hx hZ hown (own_w hw 62 rfl) e6 Gp (hb hby d6_55) rfl ?_
  refine own_aloadN (pc' := 59) X6 hx (hb hby d6_58) rfl rfl rfl ?_
  refine own_getFR (pc' := 62) X6 hx hZ hown (own_w hw 62 rfl) e6 G2 (hb hby d6_59) rfl ?_
  refine own_join (fun jb : Int32 => True) (fun jb => T6.setTop (mkF m 70 #[.val (.ref a1), .val (.ref a2)] [(.int jb), (.int sv), (.ref a1)])) (fun J70 => ?_) (fun jb hjb => ?_)
  · skip
    refine own_icmp_ge (pt := 69) (pf := 65) X6 hx (hb hby d6_62) rfl (by decide) rfl (fun hc62 => ?_) (fun hc62 => ?_)
    · skip
      refine own_iconst (pc' := 70) X6 hx (0 : Int32) (hb hby d6_69) rfl rfl ?_
      exact J70 (0 : Int32) (trivial)
    · skip
      refine own_iconst (pc' := 66) X6 hx (1 : Int32) (hb hby d6_65) rfl rfl ?_
      refine own_goto (pc' := 70) X6 hx (hb hby d6_66) (by decide) rfl ?_
      exact J70 (1 : Int32) (trivial)
  · skip
    show own_WP _ _ _ _ _ _ _ (T6.setTop (mkF m 70 #[.val (.ref a1), .val (.ref a2)] [(.int jb), (.int sv), (.ref a1)]))
    refine own_iand (pc' := 71) X6 hx (hb hby d6_70) rfl ?_
    obtain ⟨v8, hv8⟩ : ∃ z : Int32, z = (sv &&& jb) := ⟨_, rfl⟩
    rw [← hv8]
    refine own_putFN (pc' := 74) (v' := (.int (nar .boolean v8))) X6 hx hZ hown (own_w hw 19 rfl) Via.refl e6 F2 E1 (Or.inl (own_w hw 20 rfl)) (own_w hw 7 rfl) (ty := .boolean) (by decide) rfl (fits_nar_bool _) (hb hby d6_71) rfl ?_
    intro T7 h7 X7 e7 W7
    have z7 : n0 ≤ h7.size := Nat.le_trans Z0 (Keep.of_wr W7).1
    have Fw7 := F2.same W7
    have N7 := Fr.snoc X7 N0 g_a1
    have K7 : Keep h0 h7 [a1, b] := (Keep.refl h0 [a1, b]).wr W7 (Or.inl (List.mem_of_getElem? (i := 0) rfl))
    refine own_aloadN (pc' := 75) X7 hx (hb hby d6_74) rfl rfl rfl ?_
    have f9 := (F1.other W7 (Or.inr (slot_ne (Or.inl (own_w hw 18 rfl)) (Or.inl (own_w hw 20 rfl)) (by decide) (t := (.array (.object "com/example/kent_ridge/kentridge/query/OpenEntries$Open"))) (t' := .boolean) (by decide +kernel) (by decide +kernel))))
    refine own_getF (pc' := 78) X7 hx hZ hown (host := "") (Or.inl (own_w hw 17 rfl)) Via.refl e7 f9 (hb hby d6_75) rfl ?_
    intro T10 X10 e10
    refine own_aloadN (pc' := 79) X10 hx (hb hby d6_78) rfl rfl rfl ?_
    refine own_dup (pc' := 80) X10 hx (hb hby d6_79) rfl rfl ?_
    have f11 := (F3.other W7 (Or.inr (slot_ne (Or.inl (own_w hw 55 rfl)) (Or.inl (own_w hw 20 rfl)) (by decide) (t := .int) (t' := .boolean) (by decide +kernel) (by decide +kernel))))
    refine own_getF (pc' := 83) X10 hx hZ hown (host := "") (Or.inl (own_w hw 54 rfl)) Via.refl e10 f11 (hb hby d6_80) rfl ?_
    intro T12 X12 e12
    refine own_dupx1 (pc' := 84) X12 hx (hb hby d6_83) rfl rfl rfl ?_
    refine own_iconst (pc' := 85) X12 hx (1 : Int32) (hb hby d6_84) rfl rfl ?_
    refine own_iadd (pc' := 86) X12 hx (hb hby d6_85) rfl ?_
    show own_WP _ _ _ _ _ _ _ (T12.setTop (mkF m 86 #[.val (.ref a1), .val (.ref a2)] [(.int (4 : Int32)), (.ref a1), (.int (3 : Int32)), (.ref b)]))
    have f13 := (E1.wr W7)
    refine own_putF (pc' := 89) X12 hx hZ hown (host := "") (Or.inl (own_w hw 54 rfl)) Via.refl e12 f11 f13 (Or.inl (own_w hw 55 rfl)) (own_w hw 7 rfl) (ty := .int) (by decide) rfl rfl (hb hby d6_86) rfl ?_
    intro T14 h14 X14 e14 W14
    have z14 : n0 ≤ h14.size := Nat.le_trans z7 (Keep.of_wr W14).1
    have Fw14 := f11.same W14
    have N14 := Fr.snoc X14 N7 g_a1
    have K14 : Keep h0 h14 [a1, b] := K7.wr W14 (Or.inl (List.mem_of_getElem? (i := 0) rfl))
    refine own_aloadN (pc' := 90) X14 hx (hb hby d6_89) rfl rfl rfl ?_
    have f15 := ((V1.other W7 ne_b_a1).other W14 ne_b_a1)
    have f17 := ((E2.wr W7).wr W14)
    refine own_aastore (pc' := 91) X14 hx hZ e14 f15 O1 (Ins.self f17) ⟨by decide, by decide⟩ 3 rfl (Nat.le_of_ble_eq_true rfl) (hb hby d6_90) rfl ?_
    intro T16 h16 X16 e16 W16 V16
    have z16 : n0 ≤ h16.size := Nat.le_trans z14 (Keep.of_wr W16).1
    have V16 : Arv Z h16 b kk (.object "com/example/kent_ridge/kentridge/query/OpenEntries$Open") (16 : Int32) [(.ref x0), (.ref x1), (.ref x2), (.ref a2)] .null := V16
    have N16 := Fr.snoc X16 N14 g_b
    have K16 : Keep h0 h16 [a1, b] := K14.wr W16 (Or.inl (List.mem_of_getElem? (i := 1) rfl))
    have f18 := ((f13.wr W14).wr W16)
    have f19 := ((f9.other W14 (Or.inr (slot_ne (Or.inl (own_w hw 18 rfl)) (Or.inl (own_w hw 55 rfl)) (by decide) (t := (.array (.object "com/example/kent_ridge/kentridge/query/OpenEntries$Open"))) (t' := .int) (by decide +kernel) (by decide +kernel)))).other W16 (Or.inl ne_a1_b))
    have f20 := ((Fw7.other W14 (Or.inr (slot_ne (Or.inl (own_w hw 20 rfl)) (Or.inl (own_w hw 55 rfl)) (by decide) (t := .boolean) (t' := .int) (by decide +kernel) (by decide +kernel)))).other W16 (Or.inl ne_a1_b))
    have f21 := (Fw14.other W16 (Or.inl ne_a1_b))
    refine own_ret0 X16 hx hlk hret (hb hby d6_91) (by decide) (by decide) ?_
    rw [e16]
    exact ⟨_, rfl, N16, K16, f18, f19, f20, f21, V16⟩
theorem d5_0 : decode prog_38_method_11_code 0 = .ok (.iconst 0, 1) := by decide +kernel
theorem d5_1 : decode prog_38_method_11_code 1 = .ok (.istore_n 2, 1) := by decide +kernel
theorem d5_2 : decode prog_38_method_11_code 2 = .ok (.aload_n 0, 1) := by decide +kernel
theorem d5_3 : decode prog_38_method_11_code 3 = .ok (.getfield 19, 3) := by decide +kernel
theorem d5_6 : decode prog_38_method_11_code 6 = .ok (.iconst 1, 1) := by decide +kernel
theorem d5_7 : decode prog_38_method_11_code 7 = .ok (.isub, 1) := by decide +kernel
theorem d5_8 : decode prog_38_method_11_code 8 = .ok (.istore_n 3, 1) := by decide +kernel
theorem d5_9 : decode prog_38_method_11_code 9 = .ok (.iload_n 2, 1) := by decide +kernel
theorem d5_10 : decode prog_38_method_11_code 10 = .ok (.iload_n 3, 1) := by decide +kernel
theorem d5_11 : decode prog_38_method_11_code 11 = .ok (.if_icmp .gt 53, 3) := by decide +kernel
theorem d5_14 : decode prog_38_method_11_code 14 = .ok (.iload_n 2, 1) := by decide +kernel
theorem d5_15 : decode prog_38_method_11_code 15 = .ok (.iload_n 3, 1) := by decide +kernel
theorem d5_16 : decode prog_38_method_11_code 16 = .ok (.iadd, 1) := by decide +kernel
theorem d5_17 : decode prog_38_method_11_code 17 = .ok (.iconst 1, 1) := by decide +kernel
theorem d5_18 : decode prog_38_method_11_code 18 = .ok (.iushr, 1) := by decide +kernel
theorem d5_19 : decode prog_38_method_11_code 19 = .ok (.istore 4, 2) := by decide +kernel
theorem d5_21 : decode prog_38_method_11_code 21 = .ok (.aload_n 0, 1) := by decide +kernel
theorem d5_22 : decode prog_38_method_11_code 22 = .ok (.getfield 9, 3) := by decide +kernel
theorem d5_25 : decode prog_38_method_11_code 25 = .ok (.iload 4, 2) := by decide +kernel
theorem d5_27 : decode prog_38_method_11_code 27 = .ok (.aaload, 1) := by decide +kernel
theorem d5_28 : decode prog_38_method_11_code 28 = .ok (.getfield 42, 3) := by decide +kernel
theorem d5_31 : decode prog_38_method_11_code 31 = .ok (.istore 5, 2) := by decide +kernel
theorem d5_33 : decode prog_38_method_11_code 33 = .ok (.iload 5, 2) := by decide +kernel
theorem d5_35 : decode prog_38_method_11_code 35 = .ok (.iload_n 1, 1) := by decide +kernel
theorem d5_36 : decode prog_38_method_11_code 36 = .ok (.if_icmp .ne 6, 3) := by decide +kernel
theorem d5_39 : decode prog_38_method_11_code 39 = .ok (.iload 4, 2) := by decide +kernel
theorem d5_41 : decode prog_38_method_11_code 41 = .ok (.ireturn, 1) := by decide +kernel
theorem d5_42 : decode prog_38_method_11_code 42 = .ok (.iload 5, 2) := by decide +kernel
theorem d5_44 : decode prog_38_method_11_code 44 = .ok (.iload_n 1, 1) := by decide +kernel
theorem d5_45 : decode prog_38_method_11_code 45 = .ok (.if_icmp .ge 11, 3) := by decide +kernel
theorem d5_48 : decode prog_38_method_11_code 48 = .ok (.iload 4, 2) := by decide +kernel
theorem d5_50 : decode prog_38_method_11_code 50 = .ok (.iconst 1, 1) := by decide +kernel
theorem d5_51 : decode prog_38_method_11_code 51 = .ok (.iadd, 1) := by decide +kernel
theorem d5_52 : decode prog_38_method_11_code 52 = .ok (.istore_n 2, 1) := by decide +kernel
theorem d5_53 : decode prog_38_method_11_code 53 = .ok (.goto 8, 3) := by decide +kernel
theorem d5_56 : decode prog_38_method_11_code 56 = .ok (.iload 4, 2) := by decide +kernel
theorem d5_58 : decode prog_38_method_11_code 58 = .ok (.iconst 1, 1) := by decide +kernel
theorem d5_59 : decode prog_38_method_11_code 59 = .ok (.isub, 1) := by decide +kernel
theorem d5_60 : decode prog_38_method_11_code 60 = .ok (.istore_n 3, 1) := by decide +kernel
theorem d5_61 : decode prog_38_method_11_code 61 = .ok (.goto (-52), 3) := by decide +kernel
theorem d5_64 : decode prog_38_method_11_code 64 = .ok (.iconst (-1), 1) := by decide +kernel
theorem d5_65 : decode prog_38_method_11_code 65 = .ok (.ireturn, 1) := by decide +kernel
theorem pn_5 : plainFor (⟨"com/example/kent_ridge/kentridge/query/OpenEntries", "atLevel", "(I)I"⟩ : MethodName) = true := plainFor_of_name (by first | (simp [plainName, overriddenIn]; done) | decide +kernel)
theorem ef_conT0 (m : MethodId) (a1 : Addr) (c1 : Int32) : entryFrame m #[(.ref a1), (.int c1)] 6 = mkF m 0 #[.val (.ref a1), .val (.int c1), .unset, .unset, .unset, .unset] [] := by first | (simp [entryFrame, mkF, argsToLocals, Value.category]; done) | rfl
set_option maxRecDepth 65536 in
set_option maxHeartbeats 4000000 in
theorem conT0 (l : Launch) (Z : State) (a0 : Array Value) (hw : ∀ d ∈ tables_1, d.before a0 Z = true) (a1 : Addr) (c1 : Int32) (h0 : Heap) (b : Addr) (kk : ClassId) (F1 : Fld Z h0 a1 "com/example/kent_ridge/kentridge/query/OpenEntries" "values" "[Lcom/example/kent_ridge/kentridge/query/OpenEntries$Open;" (.ref b)) (F3 : Fld Z h0 a1 "com/example/kent_ridge/kentridge/query/OpenEntries" "size" "I" (.int (0 : Int32))) (V1 : Arv Z h0 b kk (.object "com/example/kent_ridge/kentridge/query/OpenEntries$Open") 16 [.null, .null, .null, .null] .null) :
    own_Con l Z (⟨"com/example/kent_ridge/kentridge/query/OpenEntries", "atLevel", "(I)I"⟩ : MethodName) prog_38_method_11_code 6 (some .int) ({ frames := 0, cells := 0, slots := 0, locals := 0 } : Room) #[(.ref a1), (.int c1)] h0 (fun v h L => ∃ z : Int32, v = some (.int z) ∧ (z = -1) ∧ L = [] ∧ h = h0) := by
  refine own_Con_of pn_5 ?_
  intro p e s m below meth c s₁ X0 hx hby hml hret hlk hnm hown hZ e0
  have hown : s.vm.findClass "com/example/kent_ridge/kentridge/query/OpenEntries" = some m.cls := hown
  have hml : c.maxLocals = 6 := hml
  show own_WP _ _ _ _ _ _ _ (s₁.setTop (entryFrame m #[(.ref a1), (.int c1)] 6))
  rw [ef_conT0 m a1 c1]
  refine own_iconst (pc' := 1) X0 hx (0 : Int32) (hb hby d5_0) rfl rfl ?_
  refine own_istoreN (pc' := 2) (l' := #[.val (.ref a1), .val (.int c1), .val (.int (0 : Int32)), .unset, .unset, .unset]) X0 hx (hb hby d5_1) rfl rfl rfl ?_
  refine own_aloadN (pc' := 3) X0 hx (hb hby d5_2) rfl rfl rfl ?_
  refine own_getF (pc' := 6) X0 hx hZ hown (host := "") (Or.inl (own_w hw 54 rfl)) Via.refl e0 F3 (hb hby d5_3) rfl ?_
  intro T1 X1 e1
  refine own_iconst (pc' := 7) X1 hx (1 : Int32) (hb hby d5_6) rfl rfl ?_
  refine own_isub (pc' := 8) X1 hx (hb hby d5_7) rfl ?_
  show own_WP _ _ _ _ _ _ _ (T1.setTop (mkF m 8 #[.val (.ref a1), .val (.int c1), .val (.int (0 : Int32)), .unset, .unset, .unset] [(.int (-1 : Int32))]))
  refine own_istoreN (pc' := 9) (l' := #[.val (.ref a1), .val (.int c1), .val (.int (0 : Int32)), .val (.int (-1 : Int32)), .unset, .unset]) X1 hx (hb hby d5_8) rfl rfl rfl ?_
  refine own_iloadN (pc' := 10) X1 hx (hb hby d5_9) rfl rfl ?_
  refine own_iloadN (pc' := 11) X1 hx (hb hby d5_10) rfl rfl ?_
  refine own_icmp_gt (pt := 64) (pf := 14) X1 hx (hb hby d5_11) rfl (by decide) rfl (fun hc11 => ?_) (fun hc11 => absurd (by decide) hc11)
  refine own_iconst (pc' := 65) X1 hx (-1 : Int32) (hb hby d5_64) rfl rfl ?_
  refine own_retI X1 hx hlk hret (hb hby d5_65) (by decide) (by decide) ?_
  refine ⟨(-1 : Int32), rfl, ?_, rfl, e1⟩
  rfl
theorem ef_conT1 (m : MethodId) (a1 : Addr) (c1 : Int32) : entryFrame m #[(.ref a1), (.int c1)] 6 = mkF m 0 #[.val (.ref a1), .val (.int c1), .unset, .unset, .unset, .unset] [] := by first | (simp [entryFrame, mkF, argsToLocals, Value.category]; done) | rfl
set_option maxRecDepth 65536 in
set_option maxHeartbeats 4000000 in
theorem conT1 (l : Launch) (Z : State) (a0 : Array Value) (hw : ∀ d ∈ tables_1, d.before a0 Z = true) (a1 : Addr) (c1 : Int32) (h0 : Heap) (b : Addr) (kk : ClassId) (x0 : Addr) (l0 : Int32) (F1 : Fld Z h0 a1 "com/example/kent_ridge/kentridge/query/OpenEntries" "values" "[Lcom/example/kent_ridge/kentridge/query/OpenEntries$Open;" (.ref b)) (F3 : Fld Z h0 a1 "com/example/kent_ridge/kentridge/query/OpenEntries" "size" "I" (.int (1 : Int32))) (V1 : Arv Z h0 b kk (.object "com/example/kent_ridge/kentridge/query/OpenEntries$Open") 16 [(.ref x0), .null, .null, .null] .null) (G0 : Fld Z h0 x0 "com/example/kent_ridge/kentridge/query/OpenEntries$Open" "level" "I" (.int l0)) :
    own_Con l Z (⟨"com/example/kent_ridge/kentridge/query/OpenEntries", "atLevel", "(I)I"⟩ : MethodName) prog_38_method_11_code 6 (some .int) ({ frames := 0, cells := 0, slots := 0, locals := 0 } : Room) #[(.ref a1), (.int c1)] h0 (fun v h L => ∃ z : Int32, v = some (.int z) ∧ (z = own_sel l0 c1 0 (-1)) ∧ L = [] ∧ h = h0) := by
  refine own_Con_of pn_5 ?_
  intro p e s m below meth c s₁ X0 hx hby hml hret hlk hnm hown hZ e0
  have hown : s.vm.findClass "com/example/kent_ridge/kentridge/query/OpenEntries" = some m.cls := hown
  have hml : c.maxLocals = 6 := hml
  show own_WP _ _ _ _ _ _ _ (s₁.setTop (entryFrame m #[(.ref a1), (.int c1)] 6))
  rw [ef_conT1 m a1 c1]
  refine own_iconst (pc' := 1) X0 hx (0 : Int32) (hb hby d5_0) rfl rfl ?_
  refine own_istoreN (pc' := 2) (l' := #[.val (.ref a1), .val (.int c1), .val (.int (0 : Int32)), .unset, .unset, .unset]) X0 hx (hb hby d5_1) rfl rfl rfl ?_
  refine own_aloadN (pc' := 3) X0 hx (hb hby d5_2) rfl rfl rfl ?_
  refine own_getF (pc' := 6) X0 hx hZ hown (host := "") (Or.inl (own_w hw 54 rfl)) Via.refl e0 F3 (hb hby d5_3) rfl ?_
  intro T1 X1 e1
  refine own_iconst (pc' := 7) X1 hx (1 : Int32) (hb hby d5_6) rfl rfl ?_
  refine own_isub (pc' := 8) X1 hx (hb hby d5_7) rfl ?_
  show own_WP _ _ _ _ _ _ _ (T1.setTop (mkF m 8 #[.val (.ref a1), .val (.int c1), .val (.int (0 : Int32)), .unset, .unset, .unset] [(.int (0 : Int32))]))
  refine own_istoreN (pc' := 9) (l' := #[.val (.ref a1), .val (.int c1), .val (.int (0 : Int32)), .val (.int (0 : Int32)), .unset, .unset]) X1 hx (hb hby d5_8) rfl rfl rfl ?_
  refine own_iloadN (pc' := 10) X1 hx (hb hby d5_9) rfl rfl ?_
  refine own_iloadN (pc' := 11) X1 hx (hb hby d5_10) rfl rfl ?_
  refine own_icmp_gt (pt := 64) (pf := 14) X1 hx (hb hby d5_11) rfl (by decide) rfl (fun hc11 => absurd hc11 (by decide)) (fun hc11 => ?_)
  refine own_iloadN (pc' := 15) X1 hx (hb hby d5_14) rfl rfl ?_
  refine own_iloadN (pc' := 16) X1 hx (hb hby d5_15) rfl rfl ?_
  refine own_iadd (pc' := 17) X1 hx (hb hby d5_16) rfl ?_
  show own_WP _ _ _ _ _ _ _ (T1.setTop (mkF m 17 #[.val (.ref a1), .val (.int c1), .val (.int (0 : Int32)), .val (.int (0 : Int32)), .unset, .unset] [(.int (0 : Int32))]))
  refine own_iconst (pc' := 18) X1 hx (1 : Int32) (hb hby d5_17) rfl rfl ?_
  refine own_iushr (pc' := 19) X1 hx (hb hby d5_18) rfl ?_
  show own_WP _ _ _ _ _ _ _ (T1.setTop (mkF m 19 #[.val (.ref a1), .val (.int c1), .val (.int (0 : Int32)), .val (.int (0 : Int32)), .unset, .unset] [(.int (0 : Int32))]))
  refine own_istore (pc' := 21) (l' := #[.val (.ref a1), .val (.int c1), .val (.int (0 : Int32)), .val (.int (0 : Int32)), .val (.int (0 : Int32)), .unset]) X1 hx (hb hby d5_19) rfl rfl rfl ?_
  refine own_aloadN (pc' := 22) X1 hx (hb hby d5_21) rfl rfl rfl ?_
  refine own_getF (pc' := 25) X1 hx hZ hown (host := "") (Or.inl (own_w hw 17 rfl)) Via.refl e1 F1 (hb hby d5_22) rfl ?_
  intro T2 X2 e2
  refine own_iload (pc' := 27) X2 hx (hb hby d5_25) rfl rfl ?_
  refine own_aaloadV (pc' := 28) (v := (.ref x0)) X2 hx hZ e2 V1 rfl ⟨by decide, by decide⟩ rfl (hb hby d5_27) rfl ?_
  refine own_getFR (pc' := 31) X2 hx hZ hown (own_w hw 63 rfl) e2 G0 (hb hby d5_28) rfl ?_
  refine own_istore (pc' := 33) (l' := #[.val (.ref a1), .val (.int c1), .val (.int (0 : Int32)), .val (.int (0 : Int32)), .val (.int (0 : Int32)), .val (.int l0)]) X2 hx (hb hby d5_31) rfl rfl rfl ?_
  refine own_iload (pc' := 35) X2 hx (hb hby d5_33) rfl rfl ?_
  refine own_iloadN (pc' := 36) X2 hx (hb hby d5_35) rfl rfl ?_
  refine own_icmp_ne (pt := 42) (pf := 39) X2 hx (hb hby d5_36) rfl (by decide) rfl (fun hc36 => ?_) (fun hc36 => ?_)
  · skip
    refine own_iload (pc' := 44) X2 hx (hb hby d5_42) rfl rfl ?_
    refine own_iloadN (pc' := 45) X2 hx (hb hby d5_44) rfl rfl ?_
    refine own_icmp_ge (pt := 56) (pf := 48) X2 hx (hb hby d5_45) rfl (by decide) rfl (fun hc45 => ?_) (fun hc45 => ?_)
    · skip
      refine own_iload (pc' := 58) X2 hx (hb hby d5_56) rfl rfl ?_
      refine own_iconst (pc' := 59) X2 hx (1 : Int32) (hb hby d5_58) rfl rfl ?_
      refine own_isub (pc' := 60) X2 hx (hb hby d5_59) rfl ?_
      show own_WP _ _ _ _ _ _ _ (T2.setTop (mkF m 60 #[.val (.ref a1), .val (.int c1), .val (.int (0 : Int32)), .val (.int (0 : Int32)), .val (.int (0 : Int32)), .val (.int l0)] [(.int (-1 : Int32))]))
      refine own_istoreN (pc' := 61) (l' := #[.val (.ref a1), .val (.int c1), .val (.int (0 : Int32)), .val (.int (-1 : Int32)), .val (.int (0 : Int32)), .val (.int l0)]) X2 hx (hb hby d5_60) rfl rfl rfl ?_
      refine own_goto (pc' := 9) X2 hx (hb hby d5_61) (by decide) rfl ?_
      refine own_iloadN (pc' := 10) X2 hx (hb hby d5_9) rfl rfl ?_
      refine own_iloadN (pc' := 11) X2 hx (hb hby d5_10) rfl rfl ?_
      refine own_icmp_gt (pt := 64) (pf := 14) X2 hx (hb hby d5_11) rfl (by decide) rfl (fun hc11_1 => ?_) (fun hc11_1 => absurd (by decide) hc11_1)
      refine own_iconst (pc' := 65) X2 hx (-1 : Int32) (hb hby d5_64) rfl rfl ?_
      refine own_retI X2 hx hlk hret (hb hby d5_65) (by decide) (by decide) ?_
      refine ⟨(-1 : Int32), rfl, ?_, rfl, e2⟩
      simp only [own_sel, own_i, own_l] at hc36 hc45 ⊢
      repeat' split
      all_goals first | rfl | (exfalso; omega)
    · skip
      refine own_iload (pc' := 50) X2 hx (hb hby d5_48) rfl rfl ?_
      refine own_iconst (pc' := 51) X2 hx (1 : Int32) (hb hby d5_50) rfl rfl ?_
      refine own_iadd (pc' := 52) X2 hx (hb hby d5_51) rfl ?_
      show own_WP _ _ _ _ _ _ _ (T2.setTop (mkF m 52 #[.val (.ref a1), .val (.int c1), .val (.int (0 : Int32)), .val (.int (0 : Int32)), .val (.int (0 : Int32)), .val (.int l0)] [(.int (1 : Int32))]))
      refine own_istoreN (pc' := 53) (l' := #[.val (.ref a1), .val (.int c1), .val (.int (1 : Int32)), .val (.int (0 : Int32)), .val (.int (0 : Int32)), .val (.int l0)]) X2 hx (hb hby d5_52) rfl rfl rfl ?_
      refine own_goto (pc' := 61) X2 hx (hb hby d5_53) (by decide) rfl ?_
      refine own_goto (pc' := 9) X2 hx (hb hby d5_61) (by decide) rfl ?_
      refine own_iloadN (pc' := 10) X2 hx (hb hby d5_9) rfl rfl ?_
      refine own_iloadN (pc' := 11) X2 hx (hb hby d5_10) rfl rfl ?_
      refine own_icmp_gt (pt := 64) (pf := 14) X2 hx (hb hby d5_11) rfl (by decide) rfl (fun hc11_1 => ?_) (fun hc11_1 => absurd (by decide) hc11_1)
      refine own_iconst (pc' := 65) X2 hx (-1 : Int32) (hb hby d5_64) rfl rfl ?_
      refine own_retI X2 hx hlk hret (hb hby d5_65) (by decide) (by decide) ?_
      refine ⟨(-1 : Int32), rfl, ?_, rfl, e2⟩
      simp only [own_sel, own_i, own_l] at hc36 hc45 ⊢
      repeat' split
      all_goals first | rfl | (exfalso; omega)
  · skip
    refine own_iload (pc' := 41) X2 hx (hb hby d5_39) rfl rfl ?_
    refine own_retI X2 hx hlk hret (hb hby d5_41) (by decide) (by decide) ?_
    refine ⟨(0 : Int32), rfl, ?_, rfl, e2⟩
    simp only [own_sel, own_i, own_l] at hc36 ⊢
    repeat' split
    all_goals first | rfl | (exfalso; omega)
theorem ef_conT2 (m : MethodId) (a1 : Addr) (c1 : Int32) : entryFrame m #[(.ref a1), (.int c1)] 6 = mkF m 0 #[.val (.ref a1), .val (.int c1), .unset, .unset, .unset, .unset] [] := by first | (simp [entryFrame, mkF, argsToLocals, Value.category]; done) | rfl
set_option maxRecDepth 65536 in
set_option maxHeartbeats 4000000 in
theorem conT2 (l : Launch) (Z : State) (a0 : Array Value) (hw : ∀ d ∈ tables_1, d.before a0 Z = true) (a1 : Addr) (c1 : Int32) (h0 : Heap) (b : Addr) (kk : ClassId) (x0 x1 : Addr) (l0 l1 : Int32) (F1 : Fld Z h0 a1 "com/example/kent_ridge/kentridge/query/OpenEntries" "values" "[Lcom/example/kent_ridge/kentridge/query/OpenEntries$Open;" (.ref b)) (F3 : Fld Z h0 a1 "com/example/kent_ridge/kentridge/query/OpenEntries" "size" "I" (.int (2 : Int32))) (V1 : Arv Z h0 b kk (.object "com/example/kent_ridge/kentridge/query/OpenEntries$Open") 16 [(.ref x0), (.ref x1), .null, .null] .null) (G0 : Fld Z h0 x0 "com/example/kent_ridge/kentridge/query/OpenEntries$Open" "level" "I" (.int l0)) (G1 : Fld Z h0 x1 "com/example/kent_ridge/kentridge/query/OpenEntries$Open" "level" "I" (.int l1)) (h01 : l0 < l1) :
    own_Con l Z (⟨"com/example/kent_ridge/kentridge/query/OpenEntries", "atLevel", "(I)I"⟩ : MethodName) prog_38_method_11_code 6 (some .int) ({ frames := 0, cells := 0, slots := 0, locals := 0 } : Room) #[(.ref a1), (.int c1)] h0 (fun v h L => ∃ z : Int32, v = some (.int z) ∧ (z = own_sel l1 c1 1 (own_sel l0 c1 0 (-1))) ∧ L = [] ∧ h = h0) := by
  refine own_Con_of pn_5 ?_
  intro p e s m below meth c s₁ X0 hx hby hml hret hlk hnm hown hZ e0
  have hown : s.vm.findClass "com/example/kent_ridge/kentridge/query/OpenEntries" = some m.cls := hown
  have hml : c.maxLocals = 6 := hml
  show own_WP _ _ _ _ _ _ _ (s₁.setTop (entryFrame m #[(.ref a1), (.int c1)] 6))
  rw [ef_conT2 m a1 c1]
  refine own_iconst (pc' := 1) X0 hx (0 : Int32) (hb hby d5_0) rfl rfl ?_
  refine own_istoreN (pc' := 2) (l' := #[.val (.ref a1), .val (.int c1), .val (.int (0 : Int32)), .unset, .unset, .unset]) X0 hx (hb hby d5_1) rfl rfl rfl ?_
  refine own_aloadN (pc' := 3) X0 hx (hb hby d5_2) rfl rfl rfl ?_
  refine own_getF (pc' := 6) X0 hx hZ hown (host := "") (Or.inl (own_w hw 54 rfl)) Via.refl e0 F3 (hb hby d5_3) rfl ?_
  intro T1 X1 e1
  refine own_iconst (pc' := 7) X1 hx (1 : Int32) (hb hby d5_6) rfl rfl ?_
  refine own_isub (pc' := 8) X1 hx (hb hby d5_7) rfl ?_
  show own_WP _ _ _ _ _ _ _ (T1.setTop (mkF m 8 #[.val (.ref a1), .val (.int c1), .val (.int (0 : Int32)), .unset, .unset, .unset] [(.int (1 : Int32))]))
  refine own_istoreN (pc' := 9) (l' := #[.val (.ref a1), .val (.int c1), .val (.int (0 : Int32)), .val (.int (1 : Int32)), .unset, .unset]) X1 hx (hb hby d5_8) rfl rfl rfl ?_
  refine own_iloadN (pc' := 10) X1 hx (hb hby d5_9) rfl rfl ?_
  refine own_iloadN (pc' := 11) X1 hx (hb hby d5_10) rfl rfl ?_
  refine own_icmp_gt (pt := 64) (pf := 14) X1 hx (hb hby d5_11) rfl (by decide) rfl (fun hc11 => absurd hc11 (by decide)) (fun hc11 => ?_)
  refine own_iloadN (pc' := 15) X1 hx (hb hby d5_14) rfl rfl ?_
  refine own_iloadN (pc' := 16) X1 hx (hb hby d5_15) rfl rfl ?_
  refine own_iadd (pc' := 17) X1 hx (hb hby d5_16) rfl ?_
  show own_WP _ _ _ _ _ _ _ (T1.setTop (mkF m 17 #[.val (.ref a1), .val (.int c1), .val (.int (0 : Int32)), .val (.int (1 : Int32)), .unset, .unset] [(.int (1 : Int32))]))
  refine own_iconst (pc' := 18) X1 hx (1 : Int32) (hb hby d5_17) rfl rfl ?_
  refine own_iushr (pc' := 19) X1 hx (hb hby d5_18) rfl ?_
  show own_WP _ _ _ _ _ _ _ (T1.setTop (mkF m 19 #[.val (.ref a1), .val (.int c1), .val (.int (0 : Int32)), .val (.int (1 : Int32)), .unset, .unset] [(.int (0 : Int32))]))
  refine own_istore (pc' := 21) (l' := #[.val (.ref a1), .val (.int c1), .val (.int (0 : Int32)), .val (.int (1 : Int32)), .val (.int (0 : Int32)), .unset]) X1 hx (hb hby d5_19) rfl rfl rfl ?_
  refine own_aloadN (pc' := 22) X1 hx (hb hby d5_21) rfl rfl rfl ?_
  refine own_getF (pc' := 25) X1 hx hZ hown (host := "") (Or.inl (own_w hw 17 rfl)) Via.refl e1 F1 (hb hby d5_22) rfl ?_
  intro T2 X2 e2
  refine own_iload (pc' := 27) X2 hx (hb hby d5_25) rfl rfl ?_
  refine own_aaloadV (pc' := 28) (v := (.ref x0)) X2 hx hZ e2 V1 rfl ⟨by decide, by decide⟩ rfl (hb hby d5_27) rfl ?_
  refine own_getFR (pc' := 31) X2 hx hZ hown (own_w hw 63 rfl) e2 G0 (hb hby d5_28) rfl ?_
  refine own_istore (pc' := 33) (l' := #[.val (.ref a1), .val (.int c1), .val (.int (0 : Int32)), .val (.int (1 : Int32)), .val (.int (0 : Int32)), .val (.int l0)]) X2 hx (hb hby d5_31) rfl rfl rfl ?_
  refine own_iload (pc' := 35) X2 hx (hb hby d5_33) rfl rfl ?_
  refine own_iloadN (pc' := 36) X2 hx (hb hby d5_35) rfl rfl ?_
  refine own_icmp_ne (pt := 42) (pf := 39) X2 hx (hb hby d5_36) rfl (by decide) rfl (fun hc36 => ?_) (fun hc36 => ?_)
  · skip
    refine own_iload (pc' := 44) X2 hx (hb hby d5_42) rfl rfl ?_
    refine own_iloadN (pc' := 45) X2 hx (hb hby d5_44) rfl rfl ?_
    refine own_icmp_ge (pt := 56) (pf := 48) X2 hx (hb hby d5_45) rfl (by decide) rfl (fun hc45 => ?_) (fun hc45 => ?_)
    · skip
      refine own_iload (pc' := 58) X2 hx (hb hby d5_56) rfl rfl ?_
      refine own_iconst (pc' := 59) X2 hx (1 : Int32) (hb hby d5_58) rfl rfl ?_
      refine own_isub (pc' := 60) X2 hx (hb hby d5_59) rfl ?_
      show own_WP _ _ _ _ _ _ _ (T2.setTop (mkF m 60 #[.val (.ref a1), .val (.int c1), .val (.int (0 : Int32)), .val (.int (1 : Int32)), .val (.int (0 : Int32)), .val (.int l0)] [(.int (-1 : Int32))]))
      refine own_istoreN (pc' := 61) (l' := #[.val (.ref a1), .val (.int c1), .val (.int (0 : Int32)), .val (.int (-1 : Int32)), .val (.int (0 : Int32)), .val (.int l0)]) X2 hx (hb hby d5_60) rfl rfl rfl ?_
      refine own_goto (pc' := 9) X2 hx (hb hby d5_61) (by decide) rfl ?_
      refine own_iloadN (pc' := 10) X2 hx (hb hby d5_9) rfl rfl ?_
      refine own_iloadN (pc' := 11) X2 hx (hb hby d5_10) rfl rfl ?_
      refine own_icmp_gt (pt := 64) (pf := 14) X2 hx (hb hby d5_11) rfl (by decide) rfl (fun hc11_1 => ?_) (fun hc11_1 => absurd (by decide) hc11_1)
      refine own_iconst (pc' := 65) X2 hx (-1 : Int32) (hb hby d5_64) rfl rfl ?_
      refine own_retI X2 hx hlk hret (hb hby d5_65) (by decide) (by decide) ?_
      refine ⟨(-1 : Int32), rfl, ?_, rfl, e2⟩
      simp only [own_sel, own_i, own_l] at hc36 hc45 h01 ⊢
      repeat' split
      all_goals first | rfl | (exfalso; omega)
    · skip
      refine own_iload (pc' := 50) X2 hx (hb hby d5_48) rfl rfl ?_
      refine own_iconst (pc' := 51) X2 hx (1 : Int32) (hb hby d5_50) rfl rfl ?_
      refine own_iadd (pc' := 52) X2 hx (hb hby d5_51) rfl ?_
      show own_WP _ _ _ _ _ _ _ (T2.setTop (mkF m 52 #[.val (.ref a1), .val (.int c1), .val (.int (0 : Int32)), .val (.int (1 : Int32)), .val (.int (0 : Int32)), .val (.int l0)] [(.int (1 : Int32))]))
      refine own_istoreN (pc' := 53) (l' := #[.val (.ref a1), .val (.int c1), .val (.int (1 : Int32)), .val (.int (1 : Int32)), .val (.int (0 : Int32)), .val (.int l0)]) X2 hx (hb hby d5_52) rfl rfl rfl ?_
      refine own_goto (pc' := 61) X2 hx (hb hby d5_53) (by decide) rfl ?_
      refine own_goto (pc' := 9) X2 hx (hb hby d5_61) (by decide) rfl ?_
      refine own_iloadN (pc' := 10) X2 hx (hb hby d5_9) rfl rfl ?_
      refine own_iloadN (pc' := 11) X2 hx (hb hby d5_10) rfl rfl ?_
      refine own_icmp_gt (pt := 64) (pf := 14) X2 hx (hb hby d5_11) rfl (by decide) rfl (fun hc11_1 => absurd hc11_1 (by decide)) (fun hc11_1 => ?_)
      refine own_iloadN (pc' := 15) X2 hx (hb hby d5_14) rfl rfl ?_
      refine own_iloadN (pc' := 16) X2 hx (hb hby d5_15) rfl rfl ?_
      refine own_iadd (pc' := 17) X2 hx (hb hby d5_16) rfl ?_
      show own_WP _ _ _ _ _ _ _ (T2.setTop (mkF m 17 #[.val (.ref a1), .val (.int c1), .val (.int (1 : Int32)), .val (.int (1 : Int32)), .val (.int (0 : Int32)), .val (.int l0)] [(.int (2 : Int32))]))
      refine own_iconst (pc' := 18) X2 hx (1 : Int32) (hb hby d5_17) rfl rfl ?_
      refine own_iushr (pc' := 19) X2 hx (hb hby d5_18) rfl ?_
      show own_WP _ _ _ _ _ _ _ (T2.setTop (mkF m 19 #[.val (.ref a1), .val (.int c1), .val (.int (1 : Int32)), .val (.int (1 : Int32)), .val (.int (0 : Int32)), .val (.int l0)] [(.int (1 : Int32))]))
      refine own_istore (pc' := 21) (l' := #[.val (.ref a1), .val (.int c1), .val (.int (1 : Int32)), .val (.int (1 : Int32)), .val (.int (1 : Int32)), .val (.int l0)]) X2 hx (hb hby d5_19) rfl rfl rfl ?_
      refine own_aloadN (pc' := 22) X2 hx (hb hby d5_21) rfl rfl rfl ?_
      refine own_getF (pc' := 25) X2 hx hZ hown (host := "") (Or.inl (own_w hw 17 rfl)) Via.refl e2 F1 (hb hby d5_22) rfl ?_
      intro T3 X3 e3
      refine own_iload (pc' := 27) X3 hx (hb hby d5_25) rfl rfl ?_
      refine own_aaloadV (pc' := 28) (v := (.ref x1)) X3 hx hZ e3 V1 rfl ⟨by decide, by decide⟩ rfl (hb hby d5_27) rfl ?_
      refine own_getFR (pc' := 31) X3 hx hZ hown (own_w hw 63 rfl) e3 G1 (hb hby d5_28) rfl ?_
      refine own_istore (pc' := 33) (l' := #[.val (.ref a1), .val (.int c1), .val (.int (1 : Int32)), .val (.int (1 : Int32)), .val (.int (1 : Int32)), .val (.int l1)]) X3 hx (hb hby d5_31) rfl rfl rfl ?_
      refine own_iload (pc' := 35) X3 hx (hb hby d5_33) rfl rfl ?_
      refine own_iloadN (pc' := 36) X3 hx (hb hby d5_35) rfl rfl ?_
      refine own_icmp_ne (pt := 42) (pf := 39) X3 hx (hb hby d5_36) rfl (by decide) rfl (fun hc36_1 => ?_) (fun hc36_1 => ?_)
      · skip
        refine own_iload (pc' := 44) X3 hx (hb hby d5_42) rfl rfl ?_
        refine own_iloadN (pc' := 45) X3 hx (hb hby d5_44) rfl rfl ?_
        refine own_icmp_ge (pt := 56) (pf := 48) X3 hx (hb hby d5_45) rfl (by decide) rfl (fun hc45_1 => ?_) (fun hc45_1 => ?_)
        · skip
          refine own_iload (pc' := 58) X3 hx (hb hby d5_56) rfl rfl ?_
          refine own_iconst (pc' := 59) X3 hx (1 : Int32) (hb hby d5_58) rfl rfl ?_
          refine own_isub (pc' := 60) X3 hx (hb hby d5_59) rfl ?_
          show own_WP _ _ _ _ _ _ _ (T3.setTop (mkF m 60 #[.val (.ref a1), .val (.int c1), .val (.int (1 : Int32)), .val (.int (1 : Int32)), .val (.int (1 : Int32)), .val (.int l1)] [(.int (0 : Int32))]))
          refine own_istoreN (pc' := 61) (l' := #[.val (.ref a1), .val (.int c1), .val (.int (1 : Int32)), .val (.int (0 : Int32)), .val (.int (1 : Int32)), .val (.int l1)]) X3 hx (hb hby d5_60) rfl rfl rfl ?_
          refine own_goto (pc' := 9) X3 hx (hb hby d5_61) (by decide) rfl ?_
          refine own_iloadN (pc' := 10) X3 hx (hb hby d5_9) rfl rfl ?_
          refine own_iloadN (pc' := 11) X3 hx (hb hby d5_10) rfl rfl ?_
          refine own_icmp_gt (pt := 64) (pf := 14) X3 hx (hb hby d5_11) rfl (by decide) rfl (fun hc11_2 => ?_) (fun hc11_2 => absurd (by decide) hc11_2)
          refine own_iconst (pc' := 65) X3 hx (-1 : Int32) (hb hby d5_64) rfl rfl ?_
          refine own_retI X3 hx hlk hret (hb hby d5_65) (by decide) (by decide) ?_
          refine ⟨(-1 : Int32), rfl, ?_, rfl, e3⟩
          simp only [own_sel, own_i, own_l] at hc36 hc45 hc36_1 hc45_1 h01 ⊢
          repeat' split
          all_goals first | rfl | (exfalso; omega)
        · skip
          refine own_iload (pc' := 50) X3 hx (hb hby d5_48) rfl rfl ?_
          refine own_iconst (pc' := 51) X3 hx (1 : Int32) (hb hby d5_50) rfl rfl ?_
          refine own_iadd (pc' := 52) X3 hx (hb hby d5_51) rfl ?_
          show own_WP _ _ _ _ _ _ _ (T3.setTop (mkF m 52 #[.val (.ref a1), .val (.int c1), .val (.int (1 : Int32)), .val (.int (1 : Int32)), .val (.int (1 : Int32)), .val (.int l1)] [(.int (2 : Int32))]))
          refine own_istoreN (pc' := 53) (l' := #[.val (.ref a1), .val (.int c1), .val (.int (2 : Int32)), .val (.int (1 : Int32)), .val (.int (1 : Int32)), .val (.int l1)]) X3 hx (hb hby d5_52) rfl rfl rfl ?_
          refine own_goto (pc' := 61) X3 hx (hb hby d5_53) (by decide) rfl ?_
          refine own_goto (pc' := 9) X3 hx (hb hby d5_61) (by decide) rfl ?_
          refine own_iloadN (pc' := 10) X3 hx (hb hby d5_9) rfl rfl ?_
          refine own_iloadN (pc' := 11) X3 hx (hb hby d5_10) rfl rfl ?_
          refine own_icmp_gt (pt := 64) (pf := 14) X3 hx (hb hby d5_11) rfl (by decide) rfl (fun hc11_2 => ?_) (fun hc11_2 => absurd (by decide) hc11_2)
          refine own_iconst (pc' := 65) X3 hx (-1 : Int32) (hb hby d5_64) rfl rfl ?_
          refine own_retI X3 hx hlk hret (hb hby d5_65) (by decide) (by decide) ?_
          refine ⟨(-1 : Int32), rfl, ?_, rfl, e3⟩
          simp only [own_sel, own_i, own_l] at hc36 hc45 hc36_1 hc45_1 h01 ⊢
          repeat' split
          all_goals first | rfl | (exfalso; omega)
      · skip
        refine own_iload (pc' := 41) X3 hx (hb hby d5_39) rfl rfl ?_
        refine own_retI X3 hx hlk hret (hb hby d5_41) (by decide) (by decide) ?_
        refine ⟨(1 : Int32), rfl, ?_, rfl, e3⟩
        simp only [own_sel, own_i, own_l] at hc36 hc45 hc36_1 h01 ⊢
        repeat' split
        all_goals first | rfl | (exfalso; omega)
  · skip
    refine own_iload (pc' := 41) X2 hx (hb hby d5_39) rfl rfl ?_
    refine own_retI X2 hx hlk hret (hb hby d5_41) (by decide) (by decide) ?_
    refine ⟨(0 : Int32), rfl, ?_, rfl, e2⟩
    simp only [own_sel, own_i, own_l] at hc36 h01 ⊢
    repeat' split
    all_goals first | rfl | (exfalso; omega)
theorem ef_conT3 (m : MethodId) (a1 : Addr) (c1 : Int32) : entryFrame m #[(.ref a1), (.int c1)] 6 = mkF m 0 #[.val (.ref a1), .val (.int c1), .unset, .unset, .unset, .unset] [] := by first | (simp [entryFrame, mkF, argsToLocals, Value.category]; done) | rfl
set_option maxRecDepth 65536 in
set_option maxHeartbeats 4000000 in
theorem conT3 (l : Launch) (Z : State) (a0 : Array Value) (hw : ∀ d ∈ tables_1, d.before a0 Z = true) (a1 : Addr) (c1 : Int32) (h0 : Heap) (b : Addr) (kk : ClassId) (x0 x1 x2 : Addr) (l0 l1 l2 : Int32) (F1 : Fld Z h0 a1 "com/example/kent_ridge/kentridge/query/OpenEntries" "values" "[Lcom/example/kent_ridge/kentridge/query/OpenEntries$Open;" (.ref b)) (F3 : Fld Z h0 a1 "com/example/kent_ridge/kentridge/query/OpenEntries" "size" "I" (.int (3 : Int32))) (V1 : Arv Z h0 b kk (.object "com/example/kent_ridge/kentridge/query/OpenEntries$Open") 16 [(.ref x0), (.ref x1), (.ref x2), .null] .null) (G0 : Fld Z h0 x0 "com/example/kent_ridge/kentridge/query/OpenEntries$Open" "level" "I" (.int l0)) (G1 : Fld Z h0 x1 "com/example/kent_ridge/kentridge/query/OpenEntries$Open" "level" "I" (.int l1)) (G2 : Fld Z h0 x2 "com/example/kent_ridge/kentridge/query/OpenEntries$Open" "level" "I" (.int l2)) (h01 : l0 < l1) (h12 : l1 < l2) :
    own_Con l Z (⟨"com/example/kent_ridge/kentridge/query/OpenEntries", "atLevel", "(I)I"⟩ : MethodName) prog_38_method_11_code 6 (some .int) ({ frames := 0, cells := 0, slots := 0, locals := 0 } : Room) #[(.ref a1), (.int c1)] h0 (fun v h L => ∃ z : Int32, v = some (.int z) ∧ (z = own_sel l2 c1 2 (own_sel l1 c1 1 (own_sel l0 c1 0 (-1)))) ∧ L = [] ∧ h = h0) := by
  refine own_Con_of pn_5 ?_
  intro p e s m below meth c s₁ X0 hx hby hml hret hlk hnm hown hZ e0
  have hown : s.vm.findClass "com/example/kent_ridge/kentridge/query/OpenEntries" = some m.cls := hown
  have hml : c.maxLocals = 6 := hml
  show own_WP _ _ _ _ _ _ _ (s₁.setTop (entryFrame m #[(.ref a1), (.int c1)] 6))
  rw [ef_conT3 m a1 c1]
  refine own_iconst (pc' := 1) X0 hx (0 : Int32) (hb hby d5_0) rfl rfl ?_
  refine own_istoreN (pc' := 2) (l' := #[.val (.ref a1), .val (.int c1), .val (.int (0 : Int32)), .unset, .unset, .unset]) X0 hx (hb hby d5_1) rfl rfl rfl ?_
  refine own_aloadN (pc' := 3) X0 hx (hb hby d5_2) rfl rfl rfl ?_
  refine own_getF (pc' := 6) X0 hx hZ hown (host := "") (Or.inl (own_w hw 54 rfl)) Via.refl e0 F3 (hb hby d5_3) rfl ?_
  intro T1 X1 e1
  refine own_iconst (pc' := 7) X1 hx (1 : Int32) (hb hby d5_6) rfl rfl ?_
  refine own_isub (pc' := 8) X1 hx (hb hby d5_7) rfl ?_
  show own_WP _ _ _ _ _ _ _ (T1.setTop (mkF m 8 #[.val (.ref a1), .val (.int c1), .val (.int (0 : Int32)), .unset, .unset, .unset] [(.int (2 : Int32))]))
  refine own_istoreN (pc' := 9) (l' := #[.val (.ref a1), .val (.int c1), .val (.int (0 : Int32)), .val (.int (2 : Int32)), .unset, .unset]) X1 hx (hb hby d5_8) rfl rfl rfl ?_
  refine own_iloadN (pc' := 10) X1 hx (hb hby d5_9) rfl rfl ?_
  refine own_iloadN (pc' := 11) X1 hx (hb hby d5_10) rfl rfl ?_
  refine own_icmp_gt (pt := 64) (pf := 14) X1 hx (hb hby d5_11) rfl (by decide) rfl (fun hc11 => absurd hc11 (by decide)) (fun hc11 => ?_)
  refine own_iloadN (pc' := 15) X1 hx (hb hby d5_14) rfl rfl ?_
  refine own_iloadN (pc' := 16) X1 hx (hb hby d5_15) rfl rfl ?_
  refine own_iadd (pc' := 17) X1 hx (hb hby d5_16) rfl ?_
  show own_WP _ _ _ _ _ _ _ (T1.setTop (mkF m 17 #[.val (.ref a1), .val (.int c1), .val (.int (0 : Int32)), .val (.int (2 : Int32)), .unset, .unset] [(.int (2 : Int32))]))
  refine own_iconst (pc' := 18) X1 hx (1 : Int32) (hb hby d5_17) rfl rfl ?_
  refine own_iushr (pc' := 19) X1 hx (hb hby d5_18) rfl ?_
  show own_WP _ _ _ _ _ _ _ (T1.setTop (mkF m 19 #[.val (.ref a1), .val (.int c1), .val (.int (0 : Int32)), .val (.int (2 : Int32)), .unset, .unset] [(.int (1 : Int32))]))
  refine own_istore (pc' := 21) (l' := #[.val (.ref a1), .val (.int c1), .val (.int (0 : Int32)), .val (.int (2 : Int32)), .val (.int (1 : Int32)), .unset]) X1 hx (hb hby d5_19) rfl rfl rfl ?_
  refine own_aloadN (pc' := 22) X1 hx (hb hby d5_21) rfl rfl rfl ?_
  refine own_getF (pc' := 25) X1 hx hZ hown (host := "") (Or.inl (own_w hw 17 rfl)) Via.refl e1 F1 (hb hby d5_22) rfl ?_
  intro T2 X2 e2
  refine own_iload (pc' := 27) X2 hx (hb hby d5_25) rfl rfl ?_
  refine own_aaloadV (pc' := 28) (v := (.ref x1)) X2 hx hZ e2 V1 rfl ⟨by decide, by decide⟩ rfl (hb hby d5_27) rfl ?_
  refine own_getFR (pc' := 31) X2 hx hZ hown (own_w hw 63 rfl) e2 G1 (hb hby d5_28) rfl ?_
  refine own_istore (pc' := 33) (l' := #[.val (.ref a1), .val (.int c1), .val (.int (0 : Int32)), .val (.int (2 : Int32)), .val (.int (1 : Int32)), .val (.int l1)]) X2 hx (hb hby d5_31) rfl rfl rfl ?_
  refine own_iload (pc' := 35) X2 hx (hb hby d5_33) rfl rfl ?_
  refine own_iloadN (pc' := 36) X2 hx (hb hby d5_35) rfl rfl ?_
  refine own_icmp_ne (pt := 42) (pf := 39) X2 hx (hb hby d5_36) rfl (by decide) rfl (fun hc36 => ?_) (fun hc36 => ?_)
  · skip
    refine own_iload (pc' := 44) X2 hx (hb hby d5_42) rfl rfl ?_
    refine own_iloadN (pc' := 45) X2 hx (hb hby d5_44) rfl rfl ?_
    refine own_icmp_ge (pt := 56) (pf := 48) X2 hx (hb hby d5_45) rfl (by decide) rfl (fun hc45 => ?_) (fun hc45 => ?_)
    · skip
      refine own_iload (pc' := 58) X2 hx (hb hby d5_56) rfl rfl ?_
      refine own_iconst (pc' := 59) X2 hx (1 : Int32) (hb hby d5_58) rfl rfl ?_
      refine own_isub (pc' := 60) X2 hx (hb hby d5_59) rfl ?_
      show own_WP _ _ _ _ _ _ _ (T2.setTop (mkF m 60 #[.val (.ref a1), .val (.int c1), .val (.int (0 : Int32)), .val (.int (2 : Int32)), .val (.int (1 : Int32)), .val (.int l1)] [(.int (0 : Int32))]))
      refine own_istoreN (pc' := 61) (l' := #[.val (.ref a1), .val (.int c1), .val (.int (0 : Int32)), .val (.int (0 : Int32)), .val (.int (1 : Int32)), .val (.int l1)]) X2 hx (hb hby d5_60) rfl rfl rfl ?_
      refine own_goto (pc' := 9) X2 hx (hb hby d5_61) (by decide) rfl ?_
      refine own_iloadN (pc' := 10) X2 hx (hb hby d5_9) rfl rfl ?_
      refine own_iloadN (pc' := 11) X2 hx (hb hby d5_10) rfl rfl ?_
      refine own_icmp_gt (pt := 64) (pf := 14) X2 hx (hb hby d5_11) rfl (by decide) rfl (fun hc11_1 => absurd hc11_1 (by decide)) (fun hc11_1 => ?_)
      refine own_iloadN (pc' := 15) X2 hx (hb hby d5_14) rfl rfl ?_
      refine own_iloadN (pc' := 16) X2 hx (hb hby d5_15) rfl rfl ?_
      refine own_iadd (pc' := 17) X2 hx (hb hby d5_16) rfl ?_
      show own_WP _ _ _ _ _ _ _ (T2.setTop (mkF m 17 #[.val (.ref a1), .val (.int c1), .val (.int (0 : Int32)), .val (.int (0 : Int32)), .val (.int (1 : Int32)), .val (.int l1)] [(.int (0 : Int32))]))
      refine own_iconst (pc' := 18) X2 hx (1 : Int32) (hb hby d5_17) rfl rfl ?_
      refine own_iushr (pc' := 19) X2 hx (hb hby d5_18) rfl ?_
      show own_WP _ _ _ _ _ _ _ (T2.setTop (mkF m 19 #[.val (.ref a1), .val (.int c1), .val (.int (0 : Int32)), .val (.int (0 : Int32)), .val (.int (1 : Int32)), .val (.int l1)] [(.int (0 : Int32))]))
      refine own_istore (pc' := 21) (l' := #[.val (.ref a1), .val (.int c1), .val (.int (0 : Int32)), .val (.int (0 : Int32)), .val (.int (0 : Int32)), .val (.int l1)]) X2 hx (hb hby d5_19) rfl rfl rfl ?_
      refine own_aloadN (pc' := 22) X2 hx (hb hby d5_21) rfl rfl rfl ?_
      refine own_getF (pc' := 25) X2 hx hZ hown (host := "") (Or.inl (own_w hw 17 rfl)) Via.refl e2 F1 (hb hby d5_22) rfl ?_
      intro T3 X3 e3
      refine own_iload (pc' := 27) X3 hx (hb hby d5_25) rfl rfl ?_
      refine own_aaloadV (pc' := 28) (v := (.ref x0)) X3 hx hZ e3 V1 rfl ⟨by decide, by decide⟩ rfl (hb hby d5_27) rfl ?_
      refine own_getFR (pc' := 31) X3 hx hZ hown (own_w hw 63 rfl) e3 G0 (hb hby d5_28) rfl ?_
      refine own_istore (pc' := 33) (l' := #[.val (.ref a1), .val (.int c1), .val (.int (0 : Int32)), .val (.int (0 : Int32)), .val (.int (0 : Int32)), .val (.int l0)]) X3 hx (hb hby d5_31) rfl rfl rfl ?_
      refine own_iload (pc' := 35) X3 hx (hb hby d5_33) rfl rfl ?_
      refine own_iloadN (pc' := 36) X3 hx (hb hby d5_35) rfl rfl ?_
      refine own_icmp_ne (pt := 42) (pf := 39) X3 hx (hb hby d5_36) rfl (by decide) rfl (fun hc36_1 => ?_) (fun hc36_1 => ?_)
      · skip
        refine own_iload (pc' := 44) X3 hx (hb hby d5_42) rfl rfl ?_
        refine own_iloadN (pc' := 45) X3 hx (hb hby d5_44) rfl rfl ?_
        refine own_icmp_ge (pt := 56) (pf := 48) X3 hx (hb hby d5_45) rfl (by decide) rfl (fun hc45_1 => ?_) (fun hc45_1 => ?_)
        · skip
          refine own_iload (pc' := 58) X3 hx (hb hby d5_56) rfl rfl ?_
          refine own_iconst (pc' := 59) X3 hx (1 : Int32) (hb hby d5_58) rfl rfl ?_
          refine own_isub (pc' := 60) X3 hx (hb hby d5_59) rfl ?_
          show own_WP _ _ _ _ _ _ _ (T3.setTop (mkF m 60 #[.val (.ref a1), .val (.int c1), .val (.int (0 : Int32)), .val (.int (0 : Int32)), .val (.int (0 : Int32)), .val (.int l0)] [(.int (-1 : Int32))]))
          refine own_istoreN (pc' := 61) (l' := #[.val (.ref a1), .val (.int c1), .val (.int (0 : Int32)), .val (.int (-1 : Int32)), .val (.int (0 : Int32)), .val (.int l0)]) X3 hx (hb hby d5_60) rfl rfl rfl ?_
          refine own_goto (pc' := 9) X3 hx (hb hby d5_61) (by decide) rfl ?_
          refine own_iloadN (pc' := 10) X3 hx (hb hby d5_9) rfl rfl ?_
          refine own_iloadN (pc' := 11) X3 hx (hb hby d5_10) rfl rfl ?_
          refine own_icmp_gt (pt := 64) (pf := 14) X3 hx (hb hby d5_11) rfl (by decide) rfl (fun hc11_2 => ?_) (fun hc11_2 => absurd (by decide) hc11_2)
          refine own_iconst (pc' := 65) X3 hx (-1 : Int32) (hb hby d5_64) rfl rfl ?_
          refine own_retI X3 hx hlk hret (hb hby d5_65) (by decide) (by decide) ?_
          refine ⟨(-1 : Int32), rfl, ?_, rfl, e3⟩
          simp only [own_sel, own_i, own_l] at hc36 hc45 hc36_1 hc45_1 h01 h12 ⊢
          repeat' split
          all_goals first | rfl | (exfalso; omega)
        · skip
          refine own_iload (pc' := 50) X3 hx (hb hby d5_48) rfl rfl ?_
          refine own_iconst (pc' := 51) X3 hx (1 : Int32) (hb hby d5_50) rfl rfl ?_
          refine own_iadd (pc' := 52) X3 hx (hb hby d5_51) rfl ?_
          show own_WP _ _ _ _ _ _ _ (T3.setTop (mkF m 52 #[.val (.ref a1), .val (.int c1), .val (.int (0 : Int32)), .val (.int (0 : Int32)), .val (.int (0 : Int32)), .val (.int l0)] [(.int (1 : Int32))]))
          refine own_istoreN (pc' := 53) (l' := #[.val (.ref a1), .val (.int c1), .val (.int (1 : Int32)), .val (.int (0 : Int32)), .val (.int (0 : Int32)), .val (.int l0)]) X3 hx (hb hby d5_52) rfl rfl rfl ?_
          refine own_goto (pc' := 61) X3 hx (hb hby d5_53) (by decide) rfl ?_
          refine own_goto (pc' := 9) X3 hx (hb hby d5_61) (by decide) rfl ?_
          refine own_iloadN (pc' := 10) X3 hx (hb hby d5_9) rfl rfl ?_
          refine own_iloadN (pc' := 11) X3 hx (hb hby d5_10) rfl rfl ?_
          refine own_icmp_gt (pt := 64) (pf := 14) X3 hx (hb hby d5_11) rfl (by decide) rfl (fun hc11_2 => ?_) (fun hc11_2 => absurd (by decide) hc11_2)
          refine own_iconst (pc' := 65) X3 hx (-1 : Int32) (hb hby d5_64) rfl rfl ?_
          refine own_retI X3 hx hlk hret (hb hby d5_65) (by decide) (by decide) ?_
          refine ⟨(-1 : Int32), rfl, ?_, rfl, e3⟩
          simp only [own_sel, own_i, own_l] at hc36 hc45 hc36_1 hc45_1 h01 h12 ⊢
          repeat' split
          all_goals first | rfl | (exfalso; omega)
      · skip
        refine own_iload (pc' := 41) X3 hx (hb hby d5_39) rfl rfl ?_
        refine own_retI X3 hx hlk hret (hb hby d5_41) (by decide) (by decide) ?_
        refine ⟨(0 : Int32), rfl, ?_, rfl, e3⟩
        simp only [own_sel, own_i, own_l] at hc36 hc45 hc36_1 h01 h12 ⊢
        repeat' split
        all_goals first | rfl | (exfalso; omega)
    · skip
      refine own_iload (pc' := 50) X2 hx (hb hby d5_48) rfl rfl ?_
      refine own_iconst (pc' := 51) X2 hx (1 : Int32) (hb hby d5_50) rfl rfl ?_
      refine own_iadd (pc' := 52) X2 hx (hb hby d5_51) rfl ?_
      show own_WP _ _ _ _ _ _ _ (T2.setTop (mkF m 52 #[.val (.ref a1), .val (.int c1), .val (.int (0 : Int32)), .val (.int (2 : Int32)), .val (.int (1 : Int32)), .val (.int l1)] [(.int (2 : Int32))]))
      refine own_istoreN (pc' := 53) (l' := #[.val (.ref a1), .val (.int c1), .val (.int (2 : Int32)), .val (.int (2 : Int32)), .val (.int (1 : Int32)), .val (.int l1)]) X2 hx (hb hby d5_52) rfl rfl rfl ?_
      refine own_goto (pc' := 61) X2 hx (hb hby d5_53) (by decide) rfl ?_
      refine own_goto (pc' := 9) X2 hx (hb hby d5_61) (by decide) rfl ?_
      refine own_iloadN (pc' := 10) X2 hx (hb hby d5_9) rfl rfl ?_
      refine own_iloadN (pc' := 11) X2 hx (hb hby d5_10) rfl rfl ?_
      refine own_icmp_gt (pt := 64) (pf := 14) X2 hx (hb hby d5_11) rfl (by decide) rfl (fun hc11_1 => absurd hc11_1 (by decide)) (fun hc11_1 => ?_)
      refine own_iloadN (pc' := 15) X2 hx (hb hby d5_14) rfl rfl ?_
      refine own_iloadN (pc' := 16) X2 hx (hb hby d5_15) rfl rfl ?_
      refine own_iadd (pc' := 17) X2 hx (hb hby d5_16) rfl ?_
      show own_WP _ _ _ _ _ _ _ (T2.setTop (mkF m 17 #[.val (.ref a1), .val (.int c1), .val (.int (2 : Int32)), .val (.int (2 : Int32)), .val (.int (1 : Int32)), .val (.int l1)] [(.int (4 : Int32))]))
      refine own_iconst (pc' := 18) X2 hx (1 : Int32) (hb hby d5_17) rfl rfl ?_
      refine own_iushr (pc' := 19) X2 hx (hb hby d5_18) rfl ?_
      show own_WP _ _ _ _ _ _ _ (T2.setTop (mkF m 19 #[.val (.ref a1), .val (.int c1), .val (.int (2 : Int32)), .val (.int (2 : Int32)), .val (.int (1 : Int32)), .val (.int l1)] [(.int (2 : Int32))]))
      refine own_istore (pc' := 21) (l' := #[.val (.ref a1), .val (.int c1), .val (.int (2 : Int32)), .val (.int (2 : Int32)), .val (.int (2 : Int32)), .val (.int l1)]) X2 hx (hb hby d5_19) rfl rfl rfl ?_
      refine own_aloadN (pc' := 22) X2 hx (hb hby d5_21) rfl rfl rfl ?_
      refine own_getF (pc' := 25) X2 hx hZ hown (host := "") (Or.inl (own_w hw 17 rfl)) Via.refl e2 F1 (hb hby d5_22) rfl ?_
      intro T4 X4 e4
      refine own_iload (pc' := 27) X4 hx (hb hby d5_25) rfl rfl ?_
      refine own_aaloadV (pc' := 28) (v := (.ref x2)) X4 hx hZ e4 V1 rfl ⟨by decide, by decide⟩ rfl (hb hby d5_27) rfl ?_
      refine own_getFR (pc' := 31) X4 hx hZ hown (own_w hw 63 rfl) e4 G2 (hb hby d5_28) rfl ?_
      refine own_istore (pc' := 33) (l' := #[.val (.ref a1), .val (.int c1), .val (.int (2 : Int32)), .val (.int (2 : Int32)), .val (.int (2 : Int32)), .val (.int l2)]) X4 hx (hb hby d5_31) rfl rfl rfl ?_
      refine own_iload (pc' := 35) X4 hx (hb hby d5_33) rfl rfl ?_
      refine own_iloadN (pc' := 36) X4 hx (hb hby d5_35) rfl rfl ?_
      refine own_icmp_ne (pt := 42) (pf := 39) X4 hx (hb hby d5_36) rfl (by decide) rfl (fun hc36_1 => ?_) (fun hc36_1 => ?_)
      · skip
        refine own_iload (pc' := 44) X4 hx (hb hby d5_42) rfl rfl ?_
        refine own_iloadN (pc' := 45) X4 hx (hb hby d5_44) rfl rfl ?_
        refine own_icmp_ge (pt := 56) (pf := 48) X4 hx (hb hby d5_45) rfl (by decide) rfl (fun hc45_1 => ?_) (fun hc45_1 => ?_)
        · skip
          refine own_iload (pc' := 58) X4 hx (hb hby d5_56) rfl rfl ?_
          refine own_iconst (pc' := 59) X4 hx (1 : Int32) (hb hby d5_58) rfl rfl ?_
          refine own_isub (pc' := 60) X4 hx (hb hby d5_59) rfl ?_
          show own_WP _ _ _ _ _ _ _ (T4.setTop (mkF m 60 #[.val (.ref a1), .val (.int c1), .val (.int (2 : Int32)), .val (.int (2 : Int32)), .val (.int (2 : Int32)), .val (.int l2)] [(.int (1 : Int32))]))
          refine own_istoreN (pc' := 61) (l' := #[.val (.ref a1), .val (.int c1), .val (.int (2 : Int32)), .val (.int (1 : Int32)), .val (.int (2 : Int32)), .val (.int l2)]) X4 hx (hb hby d5_60) rfl rfl rfl ?_
          refine own_goto (pc' := 9) X4 hx (hb hby d5_61) (by decide) rfl ?_
          refine own_iloadN (pc' := 10) X4 hx (hb hby d5_9) rfl rfl ?_
          refine own_iloadN (pc' := 11) X4 hx (hb hby d5_10) rfl rfl ?_
          refine own_icmp_gt (pt := 64) (pf := 14) X4 hx (hb hby d5_11) rfl (by decide) rfl (fun hc11_2 => ?_) (fun hc11_2 => absurd (by decide) hc11_2)
          refine own_iconst (pc' := 65) X4 hx (-1 : Int32) (hb hby d5_64) rfl rfl ?_
          refine own_retI X4 hx hlk hret (hb hby d5_65) (by decide) (by decide) ?_
          refine ⟨(-1 : Int32), rfl, ?_, rfl, e4⟩
          simp only [own_sel, own_i, own_l] at hc36 hc45 hc36_1 hc45_1 h01 h12 ⊢
          repeat' split
          all_goals first | rfl | (exfalso; omega)
        · skip
          refine own_iload (pc' := 50) X4 hx (hb hby d5_48) rfl rfl ?_
          refine own_iconst (pc' := 51) X4 hx (1 : Int32) (hb hby d5_50) rfl rfl ?_
          refine own_iadd (pc' := 52) X4 hx (hb hby d5_51) rfl ?_
          show own_WP _ _ _ _ _ _ _ (T4.setTop (mkF m 52 #[.val (.ref a1), .val (.int c1), .val (.int (2 : Int32)), .val (.int (2 : Int32)), .val (.int (2 : Int32)), .val (.int l2)] [(.int (3 : Int32))]))
          refine own_istoreN (pc' := 53) (l' := #[.val (.ref a1), .val (.int c1), .val (.int (3 : Int32)), .val (.int (2 : Int32)), .val (.int (2 : Int32)), .val (.int l2)]) X4 hx (hb hby d5_52) rfl rfl rfl ?_
          refine own_goto (pc' := 61) X4 hx (hb hby d5_53) (by decide) rfl ?_
          refine own_goto (pc' := 9) X4 hx (hb hby d5_61) (by decide) rfl ?_
          refine own_iloadN (pc' := 10) X4 hx (hb hby d5_9) rfl rfl ?_
          refine own_iloadN (pc' := 11) X4 hx (hb hby d5_10) rfl rfl ?_
          refine own_icmp_gt (pt := 64) (pf := 14) X4 hx (hb hby d5_11) rfl (by decide) rfl (fun hc11_2 => ?_) (fun hc11_2 => absurd (by decide) hc11_2)
          refine own_iconst (pc' := 65) X4 hx (-1 : Int32) (hb hby d5_64) rfl rfl ?_
          refine own_retI X4 hx hlk hret (hb hby d5_65) (by decide) (by decide) ?_
          refine ⟨(-1 : Int32), rfl, ?_, rfl, e4⟩
          simp only [own_sel, own_i, own_l] at hc36 hc45 hc36_1 hc45_1 h01 h12 ⊢
          repeat' split
          all_goals first | rfl | (exfalso; omega)
      · skip
        refine own_iload (pc' := 41) X4 hx (hb hby d5_39) rfl rfl ?_
        refine own_retI X4 hx hlk hret (hb hby d5_41) (by decide) (by decide) ?_
        refine ⟨(2 : Int32), rfl, ?_, rfl, e4⟩
        simp only [own_sel, own_i, own_l] at hc36 hc45 hc36_1 h01 h12 ⊢
        repeat' split
        all_goals first | rfl | (exfalso; omega)
  · skip
    refine own_iload (pc' := 41) X2 hx (hb hby d5_39) rfl rfl ?_
    refine own_retI X2 hx hlk hret (hb hby d5_41) (by decide) (by decide) ?_
    refine ⟨(1 : Int32), rfl, ?_, rfl, e2⟩
    simp only [own_sel, own_i, own_l] at hc36 h01 h12 ⊢
    repeat' split
    all_goals first | rfl | (exfalso; omega)
theorem ef_conT4 (m : MethodId) (a1 : Addr) (c1 : Int32) : entryFrame m #[(.ref a1), (.int c1)] 6 = mkF m 0 #[.val (.ref a1), .val (.int c1), .unset, .unset, .unset, .unset] [] := by first | (simp [entryFrame, mkF, argsToLocals, Value.category]; done) | rfl
set_option maxRecDepth 65536 in
set_option maxHeartbeats 4000000 in
theorem conT4 (l : Launch) (Z : State) (a0 : Array Value) (hw : ∀ d ∈ tables_1, d.before a0 Z = true) (a1 : Addr) (c1 : Int32) (h0 : Heap) (b : Addr) (kk : ClassId) (x0 x1 x2 x3 : Addr) (l0 l1 l2 l3 : Int32) (F1 : Fld Z h0 a1 "com/example/kent_ridge/kentridge/query/OpenEntries" "values" "[Lcom/example/kent_ridge/kentridge/query/OpenEntries$Open;" (.ref b)) (F3 : Fld Z h0 a1 "com/example/kent_ridge/kentridge/query/OpenEntries" "size" "I" (.int (4 : Int32))) (V1 : Arv Z h0 b kk (.object "com/example/kent_ridge/kentridge/query/OpenEntries$Open") 16 [(.ref x0), (.ref x1), (.ref x2), (.ref x3)] .null) (G0 : Fld Z h0 x0 "com/example/kent_ridge/kentridge/query/OpenEntries$Open" "level" "I" (.int l0)) (G1 : Fld Z h0 x1 "com/example/kent_ridge/kentridge/query/OpenEntries$Open" "level" "I" (.int l1)) (G2 : Fld Z h0 x2 "com/example/kent_ridge/kentridge/query/OpenEntries$Open" "level" "I" (.int l2)) (G3 : Fld Z h0 x3 "com/example/kent_ridge/kentridge/query/OpenEntries$Open" "level" "I" (.int l3)) (h01 : l0 < l1) (h12 : l1 < l2) (h23 : l2 < l3) :
    own_Con l Z (⟨"com/example/kent_ridge/kentridge/query/OpenEntries", "atLevel", "(I)I"⟩ : MethodName) prog_38_method_11_code 6 (some .int) ({ frames := 0, cells := 0, slots := 0, locals := 0 } : Room) #[(.ref a1), (.int c1)] h0 (fun v h L => ∃ z : Int32, v = some (.int z) ∧ (z = own_sel l3 c1 3 (own_sel l2 c1 2 (own_sel l1 c1 1 (own_sel l0 c1 0 (-1))))) ∧ L = [] ∧ h = h0) := by
  refine own_Con_of pn_5 ?_
  intro p e s m below meth c s₁ X0 hx hby hml hret hlk hnm hown hZ e0
  have hown : s.vm.findClass "com/example/kent_ridge/kentridge/query/OpenEntries" = some m.cls := hown
  have hml : c.maxLocals = 6 := hml
  show own_WP _ _ _ _ _ _ _ (s₁.setTop (entryFrame m #[(.ref a1), (.int c1)] 6))
  rw [ef_conT4 m a1 c1]
  refine own_iconst (pc' := 1) X0 hx (0 : Int32) (hb hby d5_0) rfl rfl ?_
  refine own_istoreN (pc' := 2) (l' := #[.val (.ref a1), .val (.int c1), .val (.int (0 : Int32)), .unset, .unset, .unset]) X0 hx (hb hby d5_1) rfl rfl rfl ?_
  refine own_aloadN (pc' := 3) X0 hx (hb hby d5_2) rfl rfl rfl ?_
  refine own_getF (pc' := 6) X0 hx hZ hown (host := "") (Or.inl (own_w hw 54 rfl)) Via.refl e0 F3 (hb hby d5_3) rfl ?_
  intro T1 X1 e1
  refine own_iconst (pc' := 7) X1 hx (1 : Int32) (hb hby d5_6) rfl rfl ?_
  refine own_isub (pc' := 8) X1 hx (hb hby d5_7) rfl ?_
  show own_WP _ _ _ _ _ _ _ (T1.setTop (mkF m 8 #[.val (.ref a1), .val (.int c1), .val (.int (0 : Int32)), .unset, .unset, .unset] [(.int (3 : Int32))]))
  refine own_istoreN (pc' := 9) (l' := #[.val (.ref a1), .val (.int c1), .val (.int (0 : Int32)), .val (.int (3 : Int32)), .unset, .unset]) X1 hx (hb hby d5_8) rfl rfl rfl ?_
  refine own_iloadN (pc' := 10) X1 hx (hb hby d5_9) rfl rfl ?_
  refine own_iloadN (pc' := 11) X1 hx (hb hby d5_10) rfl rfl ?_
  refine own_icmp_gt (pt := 64) (pf := 14) X1 hx (hb hby d5_11) rfl (by decide) rfl (fun hc11 => absurd hc11 (by decide)) (fun hc11 => ?_)
  refine own_iloadN (pc' := 15) X1 hx (hb hby d5_14) rfl rfl ?_
  refine own_iloadN (pc' := 16) X1 hx (hb hby d5_15) rfl rfl ?_
  refine own_iadd (pc' := 17) X1 hx (hb hby d5_16) rfl ?_
  show own_WP _ _ _ _ _ _ _ (T1.setTop (mkF m 17 #[.val (.ref a1), .val (.int c1), .val (.int (0 : Int32)), .val (.int (3 : Int32)), .unset, .unset] [(.int (3 : Int32))]))
  refine own_iconst (pc' := 18) X1 hx (1 : Int32) (hb hby d5_17) rfl rfl ?_
  refine own_iushr (pc' := 19) X1 hx (hb hby d5_18) rfl ?_
  show own_WP _ _ _ _ _ _ _ (T1.setTop (mkF m 19 #[.val (.ref a1), .val (.int c1), .val (.int (0 : Int32)), .val (.int (3 : Int32)), .unset, .unset] [(.int (1 : Int32))]))
  refine own_istore (pc' := 21) (l' := #[.val (.ref a1), .val (.int c1), .val (.int (0 : Int32)), .val (.int (3 : Int32)), .val (.int (1 : Int32)), .unset]) X1 hx (hb hby d5_19) rfl rfl rfl ?_
  refine own_aloadN (pc' := 22) X1 hx (hb hby d5_21) rfl rfl rfl ?_
  refine own_getF (pc' := 25) X1 hx hZ hown (host := "") (Or.inl (own_w hw 17 rfl)) Via.refl e1 F1 (hb hby d5_22) rfl ?_
  intro T2 X2 e2
  refine own_iload (pc' := 27) X2 hx (hb hby d5_25) rfl rfl ?_
  refine own_aaloadV (pc' := 28) (v := (.ref x1)) X2 hx hZ e2 V1 rfl ⟨by decide, by decide⟩ rfl (hb hby d5_27) rfl ?_
  refine own_getFR (pc' := 31) X2 hx hZ hown (own_w hw 63 rfl) e2 G1 (hb hby d5_28) rfl ?_
  refine own_istore (pc' := 33) (l' := #[.val (.ref a1), .val (.int c1), .val (.int (0 : Int32)), .val (.int (3 : Int32)), .val (.int (1 : Int32)), .val (.int l1)]) X2 hx (hb hby d5_31) rfl rfl rfl ?_
  refine own_iload (pc' := 35) X2 hx (hb hby d5_33) rfl rfl ?_
  refine own_iloadN (pc' := 36) X2 hx (hb hby d5_35) rfl rfl ?_
  refine own_icmp_ne (pt := 42) (pf := 39) X2 hx (hb hby d5_36) rfl (by decide) rfl (fun hc36 => ?_) (fun hc36 => ?_)
  · skip
    refine own_iload (pc' := 44) X2 hx (hb hby d5_42) rfl rfl ?_
    refine own_iloadN (pc' := 45) X2 hx (hb hby d5_44) rfl rfl ?_
    refine own_icmp_ge (pt := 56) (pf := 48) X2 hx (hb hby d5_45) rfl (by decide) rfl (fun hc45 => ?_) (fun hc45 => ?_)
    · skip
      refine own_iload (pc' := 58) X2 hx (hb hby d5_56) rfl rfl ?_
      refine own_iconst (pc' := 59) X2 hx (1 : Int32) (hb hby d5_58) rfl rfl ?_
      refine own_isub (pc' := 60) X2 hx (hb hby d5_59) rfl ?_
      show own_WP _ _ _ _ _ _ _ (T2.setTop (mkF m 60 #[.val (.ref a1), .val (.int c1), .val (.int (0 : Int32)), .val (.int (3 : Int32)), .val (.int (1 : Int32)), .val (.int l1)] [(.int (0 : Int32))]))
      refine own_istoreN (pc' := 61) (l' := #[.val (.ref a1), .val (.int c1), .val (.int (0 : Int32)), .val (.int (0 : Int32)), .val (.int (1 : Int32)), .val (.int l1)]) X2 hx (hb hby d5_60) rfl rfl rfl ?_
      refine own_goto (pc' := 9) X2 hx (hb hby d5_61) (by decide) rfl ?_
      refine own_iloadN (pc' := 10) X2 hx (hb hby d5_9) rfl rfl ?_
      refine own_iloadN (pc' := 11) X2 hx (hb hby d5_10) rfl rfl ?_
      refine own_icmp_gt (pt := 64) (pf := 14) X2 hx (hb hby d5_11) rfl (by decide) rfl (fun hc11_1 => absurd hc11_1 (by decide)) (fun hc11_1 => ?_)
      refine own_iloadN (pc' := 15) X2 hx (hb hby d5_14) rfl rfl ?_
      refine own_iloadN (pc' := 16) X2 hx (hb hby d5_15) rfl rfl ?_
      refine own_iadd (pc' := 17) X2 hx (hb hby d5_16) rfl ?_
      show own_WP _ _ _ _ _ _ _ (T2.setTop (mkF m 17 #[.val (.ref a1), .val (.int c1), .val (.int (0 : Int32)), .val (.int (0 : Int32)), .val (.int (1 : Int32)), .val (.int l1)] [(.int (0 : Int32))]))
      refine own_iconst (pc' := 18) X2 hx (1 : Int32) (hb hby d5_17) rfl rfl ?_
      refine own_iushr (pc' := 19) X2 hx (hb hby d5_18) rfl ?_
      show own_WP _ _ _ _ _ _ _ (T2.setTop (mkF m 19 #[.val (.ref a1), .val (.int c1), .val (.int (0 : Int32)), .val (.int (0 : Int32)), .val (.int (1 : Int32)), .val (.int l1)] [(.int (0 : Int32))]))
      refine own_istore (pc' := 21) (l' := #[.val (.ref a1), .val (.int c1), .val (.int (0 : Int32)), .val (.int (0 : Int32)), .val (.int (0 : Int32)), .val (.int l1)]) X2 hx (hb hby d5_19) rfl rfl rfl ?_
      refine own_aloadN (pc' := 22) X2 hx (hb hby d5_21) rfl rfl rfl ?_
      refine own_getF (pc' := 25) X2 hx hZ hown (host := "") (Or.inl (own_w hw 17 rfl)) Via.refl e2 F1 (hb hby d5_22) rfl ?_
      intro T3 X3 e3
      refine own_iload (pc' := 27) X3 hx (hb hby d5_25) rfl rfl ?_
      refine own_aaloadV (pc' := 28) (v := (.ref x0)) X3 hx hZ e3 V1 rfl ⟨by decide, by decide⟩ rfl (hb hby d5_27) rfl ?_
      refine own_getFR (pc' := 31) X3 hx hZ hown (own_w hw 63 rfl) e3 G0 (hb hby d5_28) rfl ?_
      refine own_istore (pc' := 33) (l' := #[.val (.ref a1), .val (.int c1), .val (.int (0 : Int32)), .val (.int (0 : Int32)), .val (.int (0 : Int32)), .val (.int l0)]) X3 hx (hb hby d5_31) rfl rfl rfl ?_
      refine own_iload (pc' := 35) X3 hx (hb hby d5_33) rfl rfl ?_
      refine own_iloadN (pc' := 36) X3 hx (hb hby d5_35) rfl rfl ?_
      refine own_icmp_ne (pt := 42) (pf := 39) X3 hx (hb hby d5_36) rfl (by decide) rfl (fun hc36_1 => ?_) (fun hc36_1 => ?_)
      · skip
        refine own_iload (pc' := 44) X3 hx (hb hby d5_42) rfl rfl ?_
        refine own_iloadN (pc' := 45) X3 hx (hb hby d5_44) rfl rfl ?_
        refine own_icmp_ge (pt := 56) (pf := 48) X3 hx (hb hby d5_45) rfl (by decide) rfl (fun hc45_1 => ?_) (fun hc45_1 => ?_)
        · skip
          refine own_iload (pc' := 58) X3 hx (hb hby d5_56) rfl rfl ?_
          refine own_iconst (pc' := 59) X3 hx (1 : Int32) (hb hby d5_58) rfl rfl ?_
          refine own_isub (pc' := 60) X3 hx (hb hby d5_59) rfl ?_
          show own_WP _ _ _ _ _ _ _ (T3.setTop (mkF m 60 #[.val (.ref a1), .val (.int c1), .val (.int (0 : Int32)), .val (.int (0 : Int32)), .val (.int (0 : Int32)), .val (.int l0)] [(.int (-1 : Int32))]))
          refine own_istoreN (pc' := 61) (l' := #[.val (.ref a1), .val (.int c1), .val (.int (0 : Int32)), .val (.int (-1 : Int32)), .val (.int (0 : Int32)), .val (.int l0)]) X3 hx (hb hby d5_60) rfl rfl rfl ?_
          refine own_goto (pc' := 9) X3 hx (hb hby d5_61) (by decide) rfl ?_
          refine own_iloadN (pc' := 10) X3 hx (hb hby d5_9) rfl rfl ?_
          refine own_iloadN (pc' := 11) X3 hx (hb hby d5_10) rfl rfl ?_
          refine own_icmp_gt (pt := 64) (pf := 14) X3 hx (hb hby d5_11) rfl (by decide) rfl (fun hc11_2 => ?_) (fun hc11_2 => absurd (by decide) hc11_2)
          refine own_iconst (pc' := 65) X3 hx (-1 : Int32) (hb hby d5_64) rfl rfl ?_
          refine own_retI X3 hx hlk hret (hb hby d5_65) (by decide) (by decide) ?_
          refine ⟨(-1 : Int32), rfl, ?_, rfl, e3⟩
          simp only [own_sel, own_i, own_l] at hc36 hc45 hc36_1 hc45_1 h01 h12 h23 ⊢
          repeat' split
          all_goals first | rfl | (exfalso; omega)
        · skip
          refine own_iload (pc' := 50) X3 hx (hb hby d5_48) rfl rfl ?_
          refine own_iconst (pc' := 51) X3 hx (1 : Int32) (hb hby d5_50) rfl rfl ?_
          refine own_iadd (pc' := 52) X3 hx (hb hby d5_51) rfl ?_
          show own_WP _ _ _ _ _ _ _ (T3.setTop (mkF m 52 #[.val (.ref a1), .val (.int c1), .val (.int (0 : Int32)), .val (.int (0 : Int32)), .val (.int (0 : Int32)), .val (.int l0)] [(.int (1 : Int32))]))
          refine own_istoreN (pc' := 53) (l' := #[.val (.ref a1), .val (.int c1), .val (.int (1 : Int32)), .val (.int (0 : Int32)), .val (.int (0 : Int32)), .val (.int l0)]) X3 hx (hb hby d5_52) rfl rfl rfl ?_
          refine own_goto (pc' := 61) X3 hx (hb hby d5_53) (by decide) rfl ?_
          refine own_goto (pc' := 9) X3 hx (hb hby d5_61) (by decide) rfl ?_
          refine own_iloadN (pc' := 10) X3 hx (hb hby d5_9) rfl rfl ?_
          refine own_iloadN (pc' := 11) X3 hx (hb hby d5_10) rfl rfl ?_
          refine own_icmp_gt (pt := 64) (pf := 14) X3 hx (hb hby d5_11) rfl (by decide) rfl (fun hc11_2 => ?_) (fun hc11_2 => absurd (by decide) hc11_2)
          refine own_iconst (pc' := 65) X3 hx (-1 : Int32) (hb hby d5_64) rfl rfl ?_
          refine own_retI X3 hx hlk hret (hb hby d5_65) (by decide) (by decide) ?_
          refine ⟨(-1 : Int32), rfl, ?_, rfl, e3⟩
          simp only [own_sel, own_i, own_l] at hc36 hc45 hc36_1 hc45_1 h01 h12 h23 ⊢
          repeat' split
          all_goals first | rfl | (exfalso; omega)
      · skip
        refine own_iload (pc' := 41) X3 hx (hb hby d5_39) rfl rfl ?_
        refine own_retI X3 hx hlk hret (hb hby d5_41) (by decide) (by decide) ?_
        refine ⟨(0 : Int32), rfl, ?_, rfl, e3⟩
        simp only [own_sel, own_i, own_l] at hc36 hc45 hc36_1 h01 h12 h23 ⊢
        repeat' split
        all_goals first | rfl | (exfalso; omega)
    · skip
      refine own_iload (pc' := 50) X2 hx (hb hby d5_48) rfl rfl ?_
      refine own_iconst (pc' := 51) X2 hx (1 : Int32) (hb hby d5_50) rfl rfl ?_
      refine own_iadd (pc' := 52) X2 hx (hb hby d5_51) rfl ?_
      show own_WP _ _ _ _ _ _ _ (T2.setTop (mkF m 52 #[.val (.ref a1), .val (.int c1), .val (.int (0 : Int32)), .val (.int (3 : Int32)), .val (.int (1 : Int32)), .val (.int l1)] [(.int (2 : Int32))]))
      refine own_istoreN (pc' := 53) (l' := #[.val (.ref a1), .val (.int c1), .val (.int (2 : Int32)), .val (.int (3 : Int32)), .val (.int (1 : Int32)), .val (.int l1)]) X2 hx (hb hby d5_52) rfl rfl rfl ?_
      refine own_goto (pc' := 61) X2 hx (hb hby d5_53) (by decide) rfl ?_
      refine own_goto (pc' := 9) X2 hx (hb hby d5_61) (by decide) rfl ?_
      refine own_iloadN (pc' := 10) X2 hx (hb hby d5_9) rfl rfl ?_
      refine own_iloadN (pc' := 11) X2 hx (hb hby d5_10) rfl rfl ?_
      refine own_icmp_gt (pt := 64) (pf := 14) X2 hx (hb hby d5_11) rfl (by decide) rfl (fun hc11_1 => absurd hc11_1 (by decide)) (fun hc11_1 => ?_)
      refine own_iloadN (pc' := 15) X2 hx (hb hby d5_14) rfl rfl ?_
      refine own_iloadN (pc' := 16) X2 hx (hb hby d5_15) rfl rfl ?_
      refine own_iadd (pc' := 17) X2 hx (hb hby d5_16) rfl ?_
      show own_WP _ _ _ _ _ _ _ (T2.setTop (mkF m 17 #[.val (.ref a1), .val (.int c1), .val (.int (2 : Int32)), .val (.int (3 : Int32)), .val (.int (1 : Int32)), .val (.int l1)] [(.int (5 : Int32))]))
      refine own_iconst (pc' := 18) X2 hx (1 : Int32) (hb hby d5_17) rfl rfl ?_
      refine own_iushr (pc' := 19) X2 hx (hb hby d5_18) rfl ?_
      show own_WP _ _ _ _ _ _ _ (T2.setTop (mkF m 19 #[.val (.ref a1), .val (.int c1), .val (.int (2 : Int32)), .val (.int (3 : Int32)), .val (.int (1 : Int32)), .val (.int l1)] [(.int (2 : Int32))]))
      refine own_istore (pc' := 21) (l' := #[.val (.ref a1), .val (.int c1), .val (.int (2 : Int32)), .val (.int (3 : Int32)), .val (.int (2 : Int32)), .val (.int l1)]) X2 hx (hb hby d5_19) rfl rfl rfl ?_
      refine own_aloadN (pc' := 22) X2 hx (hb hby d5_21) rfl rfl rfl ?_
      refine own_getF (pc' := 25) X2 hx hZ hown (host := "") (Or.inl (own_w hw 17 rfl)) Via.refl e2 F1 (hb hby d5_22) rfl ?_
      intro T4 X4 e4
      refine own_iload (pc' := 27) X4 hx (hb hby d5_25) rfl rfl ?_
      refine own_aaloadV (pc' := 28) (v := (.ref x2)) X4 hx hZ e4 V1 rfl ⟨by decide, by decide⟩ rfl (hb hby d5_27) rfl ?_
      refine own_getFR (pc' := 31) X4 hx hZ hown (own_w hw 63 rfl) e4 G2 (hb hby d5_28) rfl ?_
      refine own_istore (pc' := 33) (l' := #[.val (.ref a1), .val (.int c1), .val (.int (2 : Int32)), .val (.int (3 : Int32)), .val (.int (2 : Int32)), .val (.int l2)]) X4 hx (hb hby d5_31) rfl rfl rfl ?_
      refine own_iload (pc' := 35) X4 hx (hb hby d5_33) rfl rfl ?_
      refine own_iloadN (pc' := 36) X4 hx (hb hby d5_35) rfl rfl ?_
      refine own_icmp_ne (pt := 42) (pf := 39) X4 hx (hb hby d5_36) rfl (by decide) rfl (fun hc36_1 => ?_) (fun hc36_1 => ?_)
      · skip
        refine own_iload (pc' := 44) X4 hx (hb hby d5_42) rfl rfl ?_
        refine own_iloadN (pc' := 45) X4 hx (hb hby d5_44) rfl rfl ?_
        refine own_icmp_ge (pt := 56) (pf := 48) X4 hx (hb hby d5_45) rfl (by decide) rfl (fun hc45_1 => ?_) (fun hc45_1 => ?_)
        · skip
          refine own_iload (pc' := 58) X4 hx (hb hby d5_56) rfl rfl ?_
          refine own_iconst (pc' := 59) X4 hx (1 : Int32) (hb hby d5_58) rfl rfl ?_
          refine own_isub (pc' := 60) X4 hx (hb hby d5_59) rfl ?_
          show own_WP _ _ _ _ _ _ _ (T4.setTop (mkF m 60 #[.val (.ref a1), .val (.int c1), .val (.int (2 : Int32)), .val (.int (3 : Int32)), .val (.int (2 : Int32)), .val (.int l2)] [(.int (1 : Int32))]))
          refine own_istoreN (pc' := 61) (l' := #[.val (.ref a1), .val (.int c1), .val (.int (2 : Int32)), .val (.int (1 : Int32)), .val (.int (2 : Int32)), .val (.int l2)]) X4 hx (hb hby d5_60) rfl rfl rfl ?_
          refine own_goto (pc' := 9) X4 hx (hb hby d5_61) (by decide) rfl ?_
          refine own_iloadN (pc' := 10) X4 hx (hb hby d5_9) rfl rfl ?_
          refine own_iloadN (pc' := 11) X4 hx (hb hby d5_10) rfl rfl ?_
          refine own_icmp_gt (pt := 64) (pf := 14) X4 hx (hb hby d5_11) rfl (by decide) rfl (fun hc11_2 => ?_) (fun hc11_2 => absurd (by decide) hc11_2)
          refine own_iconst (pc' := 65) X4 hx (-1 : Int32) (hb hby d5_64) rfl rfl ?_
          refine own_retI X4 hx hlk hret (hb hby d5_65) (by decide) (by decide) ?_
          refine ⟨(-1 : Int32), rfl, ?_, rfl, e4⟩
          simp only [own_sel, own_i, own_l] at hc36 hc45 hc36_1 hc45_1 h01 h12 h23 ⊢
          repeat' split
          all_goals first | rfl | (exfalso; omega)
        · skip
          refine own_iload (pc' := 50) X4 hx (hb hby d5_48) rfl rfl ?_
          refine own_iconst (pc' := 51) X4 hx (1 : Int32) (hb hby d5_50) rfl rfl ?_
          refine own_iadd (pc' := 52) X4 hx (hb hby d5_51) rfl ?_
          show own_WP _ _ _ _ _ _ _ (T4.setTop (mkF m 52 #[.val (.ref a1), .val (.int c1), .val (.int (2 : Int32)), .val (.int (3 : Int32)), .val (.int (2 : Int32)), .val (.int l2)] [(.int (3 : Int32))]))
          refine own_istoreN (pc' := 53) (l' := #[.val (.ref a1), .val (.int c1), .val (.int (3 : Int32)), .val (.int (3 : Int32)), .val (.int (2 : Int32)), .val (.int l2)]) X4 hx (hb hby d5_52) rfl rfl rfl ?_
          refine own_goto (pc' := 61) X4 hx (hb hby d5_53) (by decide) rfl ?_
          refine own_goto (pc' := 9) X4 hx (hb hby d5_61) (by decide) rfl ?_
          refine own_iloadN (pc' := 10) X4 hx (hb hby d5_9) rfl rfl ?_
          refine own_iloadN (pc' := 11) X4 hx (hb hby d5_10) rfl rfl ?_
          refine own_icmp_gt (pt := 64) (pf := 14) X4 hx (hb hby d5_11) rfl (by decide) rfl (fun hc11_2 => absurd hc11_2 (by decide)) (fun hc11_2 => ?_)
          refine own_iloadN (pc' := 15) X4 hx (hb hby d5_14) rfl rfl ?_
          refine own_iloadN (pc' := 16) X4 hx (hb hby d5_15) rfl rfl ?_
          refine own_iadd (pc' := 17) X4 hx (hb hby d5_16) rfl ?_
          show own_WP _ _ _ _ _ _ _ (T4.setTop (mkF m 17 #[.val (.ref a1), .val (.int c1), .val (.int (3 : Int32)), .val (.int (3 : Int32)), .val (.int (2 : Int32)), .val (.int l2)] [(.int (6 : Int32))]))
          refine own_iconst (pc' := 18) X4 hx (1 : Int32) (hb hby d5_17) rfl rfl ?_
          refine own_iushr (pc' := 19) X4 hx (hb hby d5_18) rfl ?_
          show own_WP _ _ _ _ _ _ _ (T4.setTop (mkF m 19 #[.val (.ref a1), .val (.int c1), .val (.int (3 : Int32)), .val (.int (3 : Int32)), .val (.int (2 : Int32)), .val (.int l2)] [(.int (3 : Int32))]))
          refine own_istore (pc' := 21) (l' := #[.val (.ref a1), .val (.int c1), .val (.int (3 : Int32)), .val (.int (3 : Int32)), .val (.int (3 : Int32)), .val (.int l2)]) X4 hx (hb hby d5_19) rfl rfl rfl ?_
          refine own_aloadN (pc' := 22) X4 hx (hb hby d5_21) rfl rfl rfl ?_
          refine own_getF (pc' := 25) X4 hx hZ hown (host := "") (Or.inl (own_w hw 17 rfl)) Via.refl e4 F1 (hb hby d5_22) rfl ?_
          intro T5 X5 e5
          refine own_iload (pc' := 27) X5 hx (hb hby d5_25) rfl rfl ?_
          refine own_aaloadV (pc' := 28) (v := (.ref x3)) X5 hx hZ e5 V1 rfl ⟨by decide, by decide⟩ rfl (hb hby d5_27) rfl ?_
          refine own_getFR (pc' := 31) X5 hx hZ hown (own_w hw 63 rfl) e5 G3 (hb hby d5_28) rfl ?_
          refine own_istore (pc' := 33) (l' := #[.val (.ref a1), .val (.int c1), .val (.int (3 : Int32)), .val (.int (3 : Int32)), .val (.int (3 : Int32)), .val (.int l3)]) X5 hx (hb hby d5_31) rfl rfl rfl ?_
          refine own_iload (pc' := 35) X5 hx (hb hby d5_33) rfl rfl ?_
          refine own_iloadN (pc' := 36) X5 hx (hb hby d5_35) rfl rfl ?_
          refine own_icmp_ne (pt := 42) (pf := 39) X5 hx (hb hby d5_36) rfl (by decide) rfl (fun hc36_2 => ?_) (fun hc36_2 => ?_)
          · skip
            refine own_iload (pc' := 44) X5 hx (hb hby d5_42) rfl rfl ?_
            refine own_iloadN (pc' := 45) X5 hx (hb hby d5_44) rfl rfl ?_
            refine own_icmp_ge (pt := 56) (pf := 48) X5 hx (hb hby d5_45) rfl (by decide) rfl (fun hc45_2 => ?_) (fun hc45_2 => ?_)
            · skip
              refine own_iload (pc' := 58) X5 hx (hb hby d5_56) rfl rfl ?_
              refine own_iconst (pc' := 59) X5 hx (1 : Int32) (hb hby d5_58) rfl rfl ?_
              refine own_isub (pc' := 60) X5 hx (hb hby d5_59) rfl ?_
              show own_WP _ _ _ _ _ _ _ (T5.setTop (mkF m 60 #[.val (.ref a1), .val (.int c1), .val (.int (3 : Int32)), .val (.int (3 : Int32)), .val (.int (3 : Int32)), .val (.int l3)] [(.int (2 : Int32))]))
              refine own_istoreN (pc' := 61) (l' := #[.val (.ref a1), .val (.int c1), .val (.int (3 : Int32)), .val (.int (2 : Int32)), .val (.int (3 : Int32)), .val (.int l3)]) X5 hx (hb hby d5_60) rfl rfl rfl ?_
              refine own_goto (pc' := 9) X5 hx (hb hby d5_61) (by decide) rfl ?_
              refine own_iloadN (pc' := 10) X5 hx (hb hby d5_9) rfl rfl ?_
              refine own_iloadN (pc' := 11) X5 hx (hb hby d5_10) rfl rfl ?_
              refine own_icmp_gt (pt := 64) (pf := 14) X5 hx (hb hby d5_11) rfl (by decide) rfl (fun hc11_3 => ?_) (fun hc11_3 => absurd (by decide) hc11_3)
              refine own_iconst (pc' := 65) X5 hx (-1 : Int32) (hb hby d5_64) rfl rfl ?_
              refine own_retI X5 hx hlk hret (hb hby d5_65) (by decide) (by decide) ?_
              refine ⟨(-1 : Int32), rfl, ?_, rfl, e5⟩
              simp only [own_sel, own_i, own_l] at hc36 hc45 hc36_1 hc45_1 hc36_2 hc45_2 h01 h12 h23 ⊢
              repeat' split
              all_goals first | rfl | (exfalso; omega)
            · skip
              refine own_iload (pc' := 50) X5 hx (hb hby d5_48) rfl rfl ?_
              refine own_iconst (pc' := 51) X5 hx (1 : Int32) (hb hby d5_50) rfl rfl ?_
              refine own_iadd (pc' := 52) X5 hx (hb hby d5_51) rfl ?_
              show own_WP _ _ _ _ _ _ _ (T5.setTop (mkF m 52 #[.val (.ref a1), .val (.int c1), .val (.int (3 : Int32)), .val (.int (3 : Int32)), .val (.int (3 : Int32)), .val (.int l3)] [(.int (4 : Int32))]))
              refine own_istoreN (pc' := 53) (l' := #[.val (.ref a1), .val (.int c1), .val (.int (4 : Int32)), .val (.int (3 : Int32)), .val (.int (3 : Int32)), .val (.int l3)]) X5 hx (hb hby d5_52) rfl rfl rfl ?_
              refine own_goto (pc' := 61) X5 hx (hb hby d5_53) (by decide) rfl ?_
              refine own_goto (pc' := 9) X5 hx (hb hby d5_61) (by decide) rfl ?_
              refine own_iloadN (pc' := 10) X5 hx (hb hby d5_9) rfl rfl ?_
              refine own_iloadN (pc' := 11) X5 hx (hb hby d5_10) rfl rfl ?_
              refine own_icmp_gt (pt := 64) (pf := 14) X5 hx (hb hby d5_11) rfl (by decide) rfl (fun hc11_3 => ?_) (fun hc11_3 => absurd (by decide) hc11_3)
              refine own_iconst (pc' := 65) X5 hx (-1 : Int32) (hb hby d5_64) rfl rfl ?_
              refine own_retI X5 hx hlk hret (hb hby d5_65) (by decide) (by decide) ?_
              refine ⟨(-1 : Int32), rfl, ?_, rfl, e5⟩
              simp only [own_sel, own_i, own_l] at hc36 hc45 hc36_1 hc45_1 hc36_2 hc45_2 h01 h12 h23 ⊢
              repeat' split
              all_goals first | rfl | (exfalso; omega)
          · skip
            refine own_iload (pc' := 41) X5 hx (hb hby d5_39) rfl rfl ?_
            refine own_retI X5 hx hlk hret (hb hby d5_41) (by decide) (by decide) ?_
            refine ⟨(3 : Int32), rfl, ?_, rfl, e5⟩
            simp only [own_sel, own_i, own_l] at hc36 hc45 hc36_1 hc45_1 hc36_2 h01 h12 h23 ⊢
            repeat' split
            all_goals first | rfl | (exfalso; omega)
      · skip
        refine own_iload (pc' := 41) X4 hx (hb hby d5_39) rfl rfl ?_
        refine own_retI X4 hx hlk hret (hb hby d5_41) (by decide) (by decide) ?_
        refine ⟨(2 : Int32), rfl, ?_, rfl, e4⟩
        simp only [own_sel, own_i, own_l] at hc36 hc45 hc36_1 h01 h12 h23 ⊢
        repeat' split
        all_goals first | rfl | (exfalso; omega)
  · skip
    refine own_iload (pc' := 41) X2 hx (hb hby d5_39) rfl rfl ?_
    refine own_retI X2 hx hlk hret (hb hby d5_41) (by decide) (by decide) ?_
    refine ⟨(1 : Int32), rfl, ?_, rfl, e2⟩
    simp only [own_sel, own_i, own_l] at hc36 h01 h12 h23 ⊢
    repeat' split
    all_goals first | rfl | (exfalso; omega)
theorem pn_0 : plainFor x = true := plainFor_of_name (by first | (simp [plainName, overriddenIn]; done) | decide +kernel)
theorem ef_con0 (m : MethodId) (p0 : Int32) (p1 : Int32) (p2 : Int32) (p3 : Int32) (p4 : Int32) : entryFrame m #[(.int p0), (.int p1), (.int p2), (.int p3), (.int p4)] 20 = mkF m 0 #[.val (.int p0), .val (.int p1), .val (.int p2), .val (.int p3), .val (.int p4), .unset, .unset, .unset, .unset, .unset, .unset, .unset, .unset, .unset, .unset, .unset, .unset, .unset, .unset, .unset] [] := by first | (simp [entryFrame, mkF, argsToLocals, Value.category]; done) | rfl
theorem pd0 : parseMethodDescriptor "(II)I" = some ⟨[.int, .int], some .int⟩ := by decide +kernel
theorem pd1 : parseMethodDescriptor "()V" = some ⟨[], none⟩ := by decide +kernel
theorem pd2 : parseMethodDescriptor "(IJJIIIZ)V" = some ⟨[.int, .long, .long, .int, .int, .int, .boolean], none⟩ := by decide +kernel
theorem pd3 : parseMethodDescriptor "(I)I" = some ⟨[.int], some .int⟩ := by decide +kernel
theorem pd4 : parseMethodDescriptor "(Lcom/example/kent_ridge/kentridge/query/OpenEntries$Open;)V" = some ⟨[(.object "com/example/kent_ridge/kentridge/query/OpenEntries$Open")], none⟩ := by decide +kernel
set_option maxRecDepth 65536 in
set_option maxHeartbeats 4000000 in
theorem con0 (l : Launch) (Z : State) (a0 : Array Value) (hw : ∀ d ∈ tables_1, d.before a0 Z = true) (p0 : Int32) (p1 : Int32) (p2 : Int32) (p3 : Int32) (p4 : Int32) (h0 : Heap) (n0 : Nat) (Z0 : n0 ≤ h0.size) :
    own_Con l Z x code maxLocals ret room_1 #[(.int p0), (.int p1), (.int p2), (.int p3), (.int p4)] h0 (fun v h L => v = some (.int 1) ∧ Fr n0 L) := by
  refine own_Con_of pn_0 ?_
  intro p e s m below meth c s₁ X0 hx hby hml hret hlk hnm hown hZ e0
  have hown : s.vm.findClass "com/example/kent_ridge/kentridge/query/OpenEntriesAtLevelPinLaw" = some m.cls := hown
  have hml : c.maxLocals = 20 := hml
  have hret : meth.sig.returnType = (some .boolean) := hret
  have N0 := Fr.nil n0
  show own_WP _ _ _ _ _ _ _ (s₁.setTop (entryFrame m #[(.int p0), (.int p1), (.int p2), (.int p3), (.int p4)] 20))
  rw [ef_con0 m p0 p1 p2 p3 p4]
  refine own_iloadN (pc' := 1) X0 hx (hb hby at_0) rfl rfl ?_
  refine own_ldcInt (pc' := 3) X0 hx hZ hown (own_w hw 0 rfl) (hb hby at_1) rfl ?_
  refine own_iand (pc' := 4) X0 hx (hb hby at_3) rfl ?_
  refine own_iconst (pc' := 5) X0 hx (5 : Int32) (hb hby at_4) rfl rfl ?_
  refine own_irem (pc' := 6) X0 hx (hb hby at_5) (by decide) rfl ?_
  obtain ⟨v1, hv1⟩ : ∃ z : Int32, z = ((p0 &&& (2147483647 : Int32)) % (5 : Int32)) := ⟨_, rfl⟩
  refine own_istore (pc' := 8) (l' := #[.val (.int p0), .val (.int p1), .val (.int p2), .val (.int p3), .val (.int p4), .val (.int v1), .unset, .unset, .unset, .unset, .unset, .unset, .unset, .unset, .unset, .unset, .unset, .unset, .unset, .unset]) X0 hx (hb hby at_6) hv1 rfl rfl ?_
  refine own_iloadN (pc' := 9) X0 hx (hb hby at_8) rfl rfl ?_
  refine own_ldcInt (pc' := 11) X0 hx hZ hown (own_w hw 1 rfl) (hb hby at_9) rfl ?_
  refine own_callS (pc' := 14) (W := 0) (y := (⟨"java/lang/Math", "min", "(II)I"⟩ : MethodName)) X0 hx hZ hown (own_w hw 2 rfl) (own_w hw 3 rfl) (own_w hw 4 rfl) (own_w hw 5 rfl) (by decide) (conM l Z a0 hw p1 (2147483599 : Int32) _ ) e0 pd0 [(.int p1), (.int (2147483599 : Int32))] [] rfl rfl rfl (Nat.le_of_eq rfl) (by decide) (by decide) (by rw [hml]; rfl) (hb hby at_11) (by decide) (by decide) rfl ?_
  intro v2 T2 L2 X2 q2
  obtain ⟨r2, rfl, hr2, rfl, e2⟩ := q2
  have N2 := Fr.app N0 (Fr.nil n0)
  show own_WP _ _ _ _ _ _ _ (T2.setTop (mkF m 14 #[.val (.int p0), .val (.int p1), .val (.int p2), .val (.int p3), .val (.int p4), .val (.int v1), .unset, .unset, .unset, .unset, .unset, .unset, .unset, .unset, .unset, .unset, .unset, .unset, .unset, .unset] [(.int r2)]))
  refine own_istore (pc' := 16) (l' := #[.val (.int p0), .val (.int p1), .val (.int p2), .val (.int p3), .val (.int p4), .val (.int v1), .val (.int r2), .unset, .unset, .unset, .unset, .unset, .unset, .unset, .unset, .unset, .unset, .unset, .unset, .unset]) X2 hx (hb hby at_14) rfl rfl rfl ?_
  refine own_iload (pc' := 18) X2 hx (hb hby at_16) rfl rfl ?_
  refine own_iloadN (pc' := 19) X2 hx (hb hby at_18) rfl rfl ?_
  refine own_bipush (pc' := 21) X2 hx (15 : Int32) (hb hby at_19) rfl rfl ?_
  refine own_iand (pc' := 22) X2 hx (hb hby at_21) rfl ?_
  refine own_iadd (pc' := 23) X2 hx (hb hby at_22) rfl ?_
  refine own_iconst (pc' := 24) X2 hx (1 : Int32) (hb hby at_23) rfl rfl ?_
  refine own_iadd (pc' := 25) X2 hx (hb hby at_24) rfl ?_
  obtain ⟨v3, hv3⟩ : ∃ z : Int32, z = ((r2 + (p2 &&& (15 : Int32))) + (1 : Int32)) := ⟨_, rfl⟩
  refine own_istore (pc' := 27) (l' := #[.val (.int p0), .val (.int p1), .val (.int p2), .val (.int p3), .val (.int p4), .val (.int v1), .val (.int r2), .val (.int v3), .unset, .unset, .unset, .unset, .unset, .unset, .unset, .unset, .unset, .unset, .unset, .unset]) X2 hx (hb hby at_25) hv3 rfl rfl ?_
  refine own_iload (pc' := 29) X2 hx (hb hby at_27) rfl rfl ?_
  refine own_iloadN (pc' := 30) X2 hx (hb hby at_29) rfl rfl ?_
  refine own_iconst (pc' := 31) X2 hx (4 : Int32) (hb hby at_30) rfl rfl ?_
  refine own_iushr (pc' := 32) X2 hx (hb hby at_31) rfl ?_
  refine own_bipush (pc' := 34) X2 hx (15 : Int32) (hb hby at_32) rfl rfl ?_
  refine own_iand (pc' := 35) X2 hx (hb hby at_34) rfl ?_
  refine own_iadd (pc' := 36) X2 hx (hb hby at_35) rfl ?_
  refine own_iconst (pc' := 37) X2 hx (1 : Int32) (hb hby at_36) rfl rfl ?_
  refine own_iadd (pc' := 38) X2 hx (hb hby at_37) rfl ?_
  obtain ⟨v4, hv4⟩ : ∃ z : Int32, z = ((v3 + (((p2.toUInt32 >>> ((4 : Int32) &&& 31).toUInt32).toInt32) &&& (15 : Int32))) + (1 : Int32)) := ⟨_, rfl⟩
  refine own_istore (pc' := 40) (l' := #[.val (.int p0), .val (.int p1), .val (.int p2), .val (.int p3), .val (.int p4), .val (.int v1), .val (.int r2), .val (.int v3), .val (.int v4), .unset, .unset, .unset, .unset, .unset, .unset, .unset, .unset, .unset, .unset, .unset]) X2 hx (hb hby at_38) hv4 rfl rfl ?_
  refine own_iload (pc' := 42) X2 hx (hb hby at_40) rfl rfl ?_
  refine own_iloadN (pc' := 43) X2 hx (hb hby at_42) rfl rfl ?_
  refine own_bipush (pc' := 45) X2 hx (8 : Int32) (hb hby at_43) rfl rfl ?_
  refine own_iushr (pc' := 46) X2 hx (hb hby at_45) rfl ?_
  refine own_bipush (pc' := 48) X2 hx (15 : Int32) (hb hby at_46) rfl rfl ?_
  refine own_iand (pc' := 49) X2 hx (hb hby at_48) rfl ?_
  refine own_iadd (pc' := 50) X2 hx (hb hby at_49) rfl ?_
  refine own_iconst (pc' := 51) X2 hx (1 : Int32) (hb hby at_50) rfl rfl ?_
  refine own_iadd (pc' := 52) X2 hx (hb hby at_51) rfl ?_
  obtain ⟨v5, hv5⟩ : ∃ z : Int32, z = ((v4 + (((p2.toUInt32 >>> ((8 : Int32) &&& 31).toUInt32).toInt32) &&& (15 : Int32))) + (1 : Int32)) := ⟨_, rfl⟩
  refine own_istore (pc' := 54) (l' := #[.val (.int p0), .val (.int p1), .val (.int p2), .val (.int p3), .val (.int p4), .val (.int v1), .val (.int r2), .val (.int v3), .val (.int v4), .val (.int v5), .unset, .unset, .unset, .unset, .unset, .unset, .unset, .unset, .unset, .unset]) X2 hx (hb hby at_52) hv5 rfl rfl ?_
  have q0 : r2.toInt ≤ 2147483599 := by rw [hr2]; exact own_min48 _
  have q1 := own_up _ _ _ 2147483599 q0 (by decide) hv3
  have hlt0 : r2 < v3 := (own_l _ _).mpr q1.1
  have q2 := own_up _ _ _ 2147483615 q1.2 (by decide) hv4
  have hlt1 : v3 < v4 := (own_l _ _).mpr q2.1
  have q3 := own_up _ _ _ 2147483631 q2.2 (by decide) hv5
  have hlt2 : v4 < v5 := (own_l _ _).mpr q3.1
  refine own_iloadN (pc' := 55) X2 hx (hb hby at_54) rfl rfl ?_
  refine own_ldcInt (pc' := 57) X2 hx hZ hown (own_w hw 0 rfl) (hb hby at_55) rfl ?_
  refine own_iand (pc' := 58) X2 hx (hb hby at_57) rfl ?_
  refine own_iconst (pc' := 59) X2 hx (4 : Int32) (hb hby at_58) rfl rfl ?_
  refine own_irem (pc' := 60) X2 hx (hb hby at_59) (by decide) rfl ?_
  obtain ⟨v6, hv6⟩ : ∃ z : Int32, z = ((p3 &&& (2147483647 : Int32)) % (4 : Int32)) := ⟨_, rfl⟩
  refine own_istore (pc' := 62) (l' := #[.val (.int p0), .val (.int p1), .val (.int p2), .val (.int p3), .val (.int p4), .val (.int v1), .val (.int r2), .val (.int v3), .val (.int v4), .val (.int v5), .val (.int v6), .unset, .unset, .unset, .unset, .unset, .unset, .unset, .unset, .unset]) X2 hx (hb hby at_60) hv6 rfl rfl ?_
  refine own_iload (pc' := 64) X2 hx (hb hby at_62) rfl rfl ?_
  refine own_join (fun jm : Int32 => True) (fun jm => T2.setTop (mkF m 96 #[.val (.int p0), .val (.int p1), .val (.int p2), .val (.int p3), .val (.int p4), .val (.int v1), .val (.int r2), .val (.int v3), .val (.int v4), .val (.int v5), .val (.int v6), .unset, .unset, .unset, .unset, .unset, .unset, .unset, .unset, .unset] [(.int jm)])) (fun J96 => ?_) (fun jm hjm => ?_)
  · skip
    refine own_if_ne (pt := 72) (pf := 67) X2 hx (hb hby at_64) rfl (by decide) rfl (fun hc64 => ?_) (fun hc64 => ?_)
    · skip
      refine own_iload (pc' := 74) X2 hx (hb hby at_72) rfl rfl ?_
      refine own_iconst (pc' := 75) X2 hx (1 : Int32) (hb hby at_74) rfl rfl ?_
      refine own_icmp_ne (pt := 83) (pf := 78) X2 hx (hb hby at_75) rfl (by decide) rfl (fun hc75 => ?_) (fun hc75 => ?_)
      · skip
        refine own_iload (pc' := 85) X2 hx (hb hby at_83) rfl rfl ?_
        refine own_iconst (pc' := 86) X2 hx (2 : Int32) (hb hby at_85) rfl rfl ?_
        refine own_icmp_ne (pt := 94) (pf := 89) X2 hx (hb hby at_86) rfl (by decide) rfl (fun hc86 => ?_) (fun hc86 => ?_)
        · skip
          refine own_iload (pc' := 96) X2 hx (hb hby at_94) rfl rfl ?_
          exact J96 v5 (trivial)
        · skip
          refine own_iload (pc' := 91) X2 hx (hb hby at_89) rfl rfl ?_
          refine own_goto (pc' := 96) X2 hx (hb hby at_91) (by decide) rfl ?_
          exact J96 v4 (trivial)
      · skip
        refine own_iload (pc' := 80) X2 hx (hb hby at_78) rfl rfl ?_
        refine own_goto (pc' := 96) X2 hx (hb hby at_80) (by decide) rfl ?_
        exact J96 v3 (trivial)
    · skip
      refine own_iload (pc' := 69) X2 hx (hb hby at_67) rfl rfl ?_
      refine own_goto (pc' := 96) X2 hx (hb hby at_69) (by decide) rfl ?_
      exact J96 r2 (trivial)
  · skip
    show own_WP _ _ _ _ _ _ _ (T2.setTop (mkF m 96 #[.val (.int p0), .val (.int p1), .val (.int p2), .val (.int p3), .val (.int p4), .val (.int v1), .val (.int r2), .val (.int v3), .val (.int v4), .val (.int v5), .val (.int v6), .unset, .unset, .unset, .unset, .unset, .unset, .unset, .unset, .unset] [(.int jm)]))
    refine own_istore (pc' := 98) (l' := #[.val (.int p0), .val (.int p1), .val (.int p2), .val (.int p3), .val (.int p4), .val (.int v1), .val (.int r2), .val (.int v3), .val (.int v4), .val (.int v5), .val (.int v6), .val (.int jm), .unset, .unset, .unset, .unset, .unset, .unset, .unset, .unset]) X2 hx (hb hby at_96) rfl rfl rfl ?_
    refine own_iload (pc' := 100) X2 hx (hb hby at_98) rfl rfl ?_
    refine own_iconst (pc' := 101) X2 hx (3 : Int32) (hb hby at_100) rfl rfl ?_
    refine own_iand (pc' := 102) X2 hx (hb hby at_101) rfl ?_
    obtain ⟨v7, hv7⟩ : ∃ z : Int32, z = (p4 &&& (3 : Int32)) := ⟨_, rfl⟩
    refine own_istore (pc' := 104) (l' := #[.val (.int p0), .val (.int p1), .val (.int p2), .val (.int p3), .val (.int p4), .val (.int v1), .val (.int r2), .val (.int v3), .val (.int v4), .val (.int v5), .val (.int v6), .val (.int jm), .val (.int v7), .unset, .unset, .unset, .unset, .unset, .unset, .unset]) X2 hx (hb hby at_102) hv7 rfl rfl ?_
    refine own_iload (pc' := 106) X2 hx (hb hby at_104) rfl rfl ?_
    refine own_join (fun jq : Int32 => True) (fun jq => T2.setTop (mkF m 141 #[.val (.int p0), .val (.int p1), .val (.int p2), .val (.int p3), .val (.int p4), .val (.int v1), .val (.int r2), .val (.int v3), .val (.int v4), .val (.int v5), .val (.int v6), .val (.int jm), .val (.int v7), .unset, .unset, .unset, .unset, .unset, .unset, .unset] [(.int jq)])) (fun J141 => ?_) (fun jq hjq => ?_)
    · skip
      refine own_if_ne (pt := 113) (pf := 109) X2 hx (hb hby at_106) rfl (by decide) rfl (fun hc106 => ?_) (fun hc106 => ?_)
      · skip
        refine own_iload (pc' := 115) X2 hx (hb hby at_113) rfl rfl ?_
        refine own_iconst (pc' := 116) X2 hx (1 : Int32) (hb hby at_115) rfl rfl ?_
        refine own_icmp_ne (pt := 124) (pf := 119) X2 hx (hb hby at_116) rfl (by decide) rfl (fun hc116 => ?_) (fun hc116 => ?_)
        · skip
          refine own_iload (pc' := 126) X2 hx (hb hby at_124) rfl rfl ?_
          refine own_iconst (pc' := 127) X2 hx (2 : Int32) (hb hby at_126) rfl rfl ?_
          refine own_icmp_ne (pt := 137) (pf := 130) X2 hx (hb hby at_127) rfl (by decide) rfl (fun hc127 => ?_) (fun hc127 => ?_)
          · skip
            refine own_iload (pc' := 139) X2 hx (hb hby at_137) rfl rfl ?_
            refine own_iconst (pc' := 140) X2 hx (1 : Int32) (hb hby at_139) rfl rfl ?_
            refine own_isub (pc' := 141) X2 hx (hb hby at_140) rfl ?_
            exact J141 (jm - (1 : Int32)) (trivial)
          · skip
            refine own_iload (pc' := 132) X2 hx (hb hby at_130) rfl rfl ?_
            refine own_iconst (pc' := 133) X2 hx (1 : Int32) (hb hby at_132) rfl rfl ?_
            refine own_iadd (pc' := 134) X2 hx (hb hby at_133) rfl ?_
            refine own_goto (pc' := 141) X2 hx (hb hby at_134) (by decide) rfl ?_
            exact J141 (jm + (1 : Int32)) (trivial)
        · skip
          refine own_iload (pc' := 121) X2 hx (hb hby at_119) rfl rfl ?_
          refine own_goto (pc' := 141) X2 hx (hb hby at_121) (by decide) rfl ?_
          exact J141 jm (trivial)
      · skip
        refine own_iloadN (pc' := 110) X2 hx (hb hby at_109) rfl rfl ?_
        refine own_goto (pc' := 141) X2 hx (hb hby at_110) (by decide) rfl ?_
        exact J141 p3 (trivial)
    · skip
      show own_WP _ _ _ _ _ _ _ (T2.setTop (mkF m 141 #[.val (.int p0), .val (.int p1), .val (.int p2), .val (.int p3), .val (.int p4), .val (.int v1), .val (.int r2), .val (.int v3), .val (.int v4), .val (.int v5), .val (.int v6), .val (.int jm), .val (.int v7), .unset, .unset, .unset, .unset, .unset, .unset, .unset] [(.int jq)]))
      refine own_istore (pc' := 143) (l' := #[.val (.int p0), .val (.int p1), .val (.int p2), .val (.int p3), .val (.int p4), .val (.int v1), .val (.int r2), .val (.int v3), .val (.int v4), .val (.int v5), .val (.int v6), .val (.int jm), .val (.int v7), .val (.int jq), .unset, .unset, .unset, .unset, .unset, .unset]) X2 hx (hb hby at_141) rfl rfl rfl ?_
      refine own_new (pc' := 146) X2 hx hZ hown (own_w hw 6 rfl) (own_w hw 7 rfl) (own_w hw 8 rfl) e2 (hb hby at_143) (by decide) (by decide) rfl ?_
      intro T8 h8 b8 g8 X8 e8 E8 A8 D8
      have g_b8 : n0 ≤ b8 := Nat.le_trans Z0 (Nat.le_of_eq g8.symm)
      have z8 : n0 ≤ h8.size := Nat.le_trans Z0 E8.1
      have F8_values : Fld Z h8 b8 "com/example/kent_ridge/kentridge/query/OpenEntries" "values" "[Lcom/example/kent_ridge/kentridge/query/OpenEntries$Open;" .null := D8 (Or.inl (own_w hw 18 rfl)) (ty := (.array (.object "com/example/kent_ridge/kentridge/query/OpenEntries$Open"))) (by decide +kernel)
      have F8_sorted : Fld Z h8 b8 "com/example/kent_ridge/kentridge/query/OpenEntries" "sorted" "Z" (.int (0 : Int32)) := D8 (Or.inl (own_w hw 20 rfl)) (ty := .boolean) (by decide)
      have F8_size : Fld Z h8 b8 "com/example/kent_ridge/kentridge/query/OpenEntries" "size" "I" (.int (0 : Int32)) := D8 (Or.inl (own_w hw 55 rfl)) (ty := .int) (by decide)
      refine own_dup (pc' := 147) X8 hx (hb hby at_146) rfl rfl ?_
      refine own_callN (pc' := 150) (W := 1) (y := (⟨"com/example/kent_ridge/kentridge/query/OpenEntries", "<init>", "()V"⟩ : MethodName)) X8 hx hZ rfl hown (own_w hw 9 rfl) (own_w hw 10 rfl) (own_w hw 8 rfl) (own_w hw 11 rfl) (by decide) (conI l Z a0 hw b8 _ n0 z8 A8 F8_values F8_sorted F8_size g_b8) e8 pd1 b8 [] [(.ref b8)] rfl rfl rfl (Nat.le_of_eq rfl) (by decide) (by decide) (by rw [hml]; rfl) (hb hby at_147) (by decide) (by decide) rfl ?_
      intro v9 T9 L9 X9 q9
      obtain ⟨c9, k9, rfl, M9, K9, E9q, F9a, F9b, F9c, V9, O9, g_c9, s9⟩ := q9
      have ne_b8_c9 : b8 ≠ c9 := Nat.ne_of_lt (Nat.lt_of_lt_of_le A8.lt s9)
      have ne_c9_b8 := ne_b8_c9.symm
      obtain ⟨h9, e9⟩ : ∃ z, z = T9.heap := ⟨_, rfl⟩
      rw [← e9] at K9 E9q F9a F9b F9c V9
      have e9 := e9.symm
      have z9 : n0 ≤ h9.size := Nat.le_trans z8 K9.1
      have N9 := Fr.app N2 M9
      show own_WP _ _ _ _ _ _ _ (T9.setTop (mkF m 150 #[.val (.int p0), .val (.int p1), .val (.int p2), .val (.int p3), .val (.int p4), .val (.int v1), .val (.int r2), .val (.int v3), .val (.int v4), .val (.int v5), .val (.int v6), .val (.int jm), .val (.int v7), .val (.int jq), .unset, .unset, .unset, .unset, .unset, .unset] [(.ref b8)]))
      refine own_astore (pc' := 152) (l' := #[.val (.int p0), .val (.int p1), .val (.int p2), .val (.int p3), .val (.int p4), .val (.int v1), .val (.int r2), .val (.int v3), .val (.int v4), .val (.int v5), .val (.int v6), .val (.int jm), .val (.int v7), .val (.int jq), .val (.ref b8), .unset, .unset, .unset, .unset, .unset]) X9 hx (hb hby at_150) rfl rfl rfl ?_
      refine own_new (pc' := 155) X9 hx hZ hown (own_w hw 21 rfl) (own_w hw 22 rfl) (own_w hw 23 rfl) e9 (hb hby at_152) (by decide) (by decide) rfl ?_
      intro T10 h10 b10 g10 X10 e10 E10 A10 D10
      have ne_b8_b10 : b8 ≠ b10 := Nat.ne_of_lt (Nat.lt_of_lt_of_le E9q.lt (Nat.le_of_eq g10.symm))
      have ne_b10_b8 := ne_b8_b10.symm
      have ne_c9_b10 : c9 ≠ b10 := Nat.ne_of_lt (Nat.lt_of_lt_of_le V9.lt (Nat.le_of_eq g10.symm))
      have ne_b10_c9 := ne_c9_b10.symm
      have g_b10 : n0 ≤ b10 := Nat.le_trans z9 (Nat.le_of_eq g10.symm)
      have z10 : n0 ≤ h10.size := Nat.le_trans z9 E10.1
      have F10_element : Fld Z h10 b10 "com/example/kent_ridge/kentridge/query/OpenEntries$Open" "element" "I" (.int (0 : Int32)) := D10 (Or.inr (own_w hw 30 rfl)) (ty := .int) (by decide)
      have F10_start : Fld Z h10 b10 "com/example/kent_ridge/kentridge/query/OpenEntries$Open" "start" "J" (.long (0 : Int64)) := D10 (Or.inr (own_w hw 32 rfl)) (ty := .long) (by decide)
      have F10_end : Fld Z h10 b10 "com/example/kent_ridge/kentridge/query/OpenEntries$Open" "end" "J" (.long (0 : Int64)) := D10 (Or.inr (own_w hw 34 rfl)) (ty := .long) (by decide)
      have F10_level : Fld Z h10 b10 "com/example/kent_ridge/kentridge/query/OpenEntries$Open" "level" "I" (.int (0 : Int32)) := D10 (Or.inr (own_w hw 36 rfl)) (ty := .int) (by decide)
      have F10_step : Fld Z h10 b10 "com/example/kent_ridge/kentridge/query/OpenEntries$Open" "step" "I" (.int (0 : Int32)) := D10 (Or.inr (own_w hw 38 rfl)) (ty := .int) (by decide)
      have F10_found : Fld Z h10 b10 "com/example/kent_ridge/kentridge/query/OpenEntries$Open" "found" "[Z" .null := D10 (Or.inr (own_w hw 41 rfl)) (ty := (.array .boolean)) (by decide +kernel)
      have F10_hangs : Fld Z h10 b10 "com/example/kent_ridge/kentridge/query/OpenEntries$Open" "hangs" "Z" (.int (0 : Int32)) := D10 (Or.inr (own_w hw 43 rfl)) (ty := .boolean) (by decide)
      refine own_dup (pc' := 156) X10 hx (hb hby at_155) rfl rfl ?_
      refine own_iconst (pc' := 157) X10 hx (0 : Int32) (hb hby at_156) rfl rfl ?_
      refine own_lconst0 (pc' := 158) X10 hx (hb hby at_157) rfl ?_
      refine own_ldc2Long (pc' := 161) X10 hx hZ hown (own_w hw 24 rfl) (hb hby at_158) rfl ?_
      refine own_iload (pc' := 163) X10 hx (hb hby at_161) rfl rfl ?_
      refine own_iconst (pc' := 164) X10 hx (0 : Int32) (hb hby at_163) rfl rfl ?_
      refine own_iconst (pc' := 165) X10 hx (0 : Int32) (hb hby at_164) rfl rfl ?_
      refine own_iconst (pc' := 166) X10 hx (1 : Int32) (hb hby at_165) rfl rfl ?_
      refine own_callN (pc' := 169) (W := 1) (y := (⟨"com/example/kent_ridge/kentridge/query/OpenEntries$Open", "<init>", "(IJJIIIZ)V"⟩ : MethodName)) X10 hx hZ rfl hown (own_w hw 25 rfl) (own_w hw 26 rfl) (own_w hw 23 rfl) (own_w hw 27 rfl) (by decide) (conO l Z a0 hw b10 (0 : Int32) (0 : Int64) (100 : Int64) r2 _ n0 z10 A10 F10_element F10_start F10_end F10_level F10_step F10_found F10_hangs g_b10) e10 pd2 b10 [(.int (0 : Int32)), (.long (0 : Int64)), (.long (100 : Int64)), (.int r2), (.int (0 : Int32)), (.int (0 : Int32)), (.int (1 : Int32))] [(.ref b10)] rfl rfl rfl (Nat.le_of_eq rfl) (by decide) (by decide) (by rw [hml]; rfl) (hb hby at_166) (by decide) (by decide) rfl ?_
      intro v11 T11 L11 X11 q11
      obtain ⟨rfl, M11, K11, E11q, F11a, F11b⟩ := q11
      obtain ⟨h11, e11⟩ : ∃ z, z = T11.heap := ⟨_, rfl⟩
      rw [← e11] at K11 E11q F11a F11b
      have e11 := e11.symm
      have z11 : n0 ≤ h11.size := Nat.le_trans z10 K11.1
      have N11 := Fr.app N9 M11
      show own_WP _ _ _ _ _ _ _ (T11.setTop (mkF m 169 #[.val (.int p0), .val (.int p1), .val (.int p2), .val (.int p3), .val (.int p4), .val (.int v1), .val (.int r2), .val (.int v3), .val (.int v4), .val (.int v5), .val (.int v6), .val (.int jm), .val (.int v7), .val (.int jq), .val (.ref b8), .unset, .unset, .unset, .unset, .unset] [(.ref b10)]))
      refine own_astore (pc' := 171) (l' := #[.val (.int p0), .val (.int p1), .val (.int p2), .val (.int p3), .val (.int p4), .val (.int v1), .val (.int r2), .val (.int v3), .val (.int v4), .val (.int v5), .val (.int v6), .val (.int jm), .val (.int v7), .val (.int jq), .val (.ref b8), .val (.ref b10), .unset, .unset, .unset, .unset]) X11 hx (hb hby at_169) rfl rfl rfl ?_
      refine own_new (pc' := 174) X11 hx hZ hown (own_w hw 21 rfl) (own_w hw 22 rfl) (own_w hw 23 rfl) e11 (hb hby at_171) (by decide) (by decide) rfl ?_
      intro T12 h12 b12 g12 X12 e12 E12 A12 D12
      have ne_b10_b12 : b10 ≠ b12 := Nat.ne_of_lt (Nat.lt_of_lt_of_le E11q.lt (Nat.le_of_eq g12.symm))
      have ne_b12_b10 := ne_b10_b12.symm
      have f13 := ((E9q.ext E10).keep K11)
      have ne_b8_b12 : b8 ≠ b12 := Nat.ne_of_lt (Nat.lt_of_lt_of_le f13.lt (Nat.le_of_eq g12.symm))
      have ne_b12_b8 := ne_b8_b12.symm
      have f14 := ((V9.ext E10).keep K11 (ninS ne_c9_b10 nin0))
      have ne_c9_b12 : c9 ≠ b12 := Nat.ne_of_lt (Nat.lt_of_lt_of_le f14.lt (Nat.le_of_eq g12.symm))
      have ne_b12_c9 := ne_c9_b12.symm
      have g_b12 : n0 ≤ b12 := Nat.le_trans z11 (Nat.le_of_eq g12.symm)
      have z12 : n0 ≤ h12.size := Nat.le_trans z11 E12.1
      have F12_element : Fld Z h12 b12 "com/example/kent_ridge/kentridge/query/OpenEntries$Open" "element" "I" (.int (0 : Int32)) := D12 (Or.inr (own_w hw 30 rfl)) (ty := .int) (by decide)
      have F12_start : Fld Z h12 b12 "com/example/kent_ridge/kentridge/query/OpenEntries$Open" "start" "J" (.long (0 : Int64)) := D12 (Or.inr (own_w hw 32 rfl)) (ty := .long) (by decide)
      have F12_end : Fld Z h12 b12 "com/example/kent_ridge/kentridge/query/OpenEntries$Open" "end" "J" (.long (0 : Int64)) := D12 (Or.inr (own_w hw 34 rfl)) (ty := .long) (by decide)
      have F12_level : Fld Z h12 b12 "com/example/kent_ridge/kentridge/query/OpenEntries$Open" "level" "I" (.int (0 : Int32)) := D12 (Or.inr (own_w hw 36 rfl)) (ty := .int) (by decide)
      have F12_step : Fld Z h12 b12 "com/example/kent_ridge/kentridge/query/OpenEntries$Open" "step" "I" (.int (0 : Int32)) := D12 (Or.inr (own_w hw 38 rfl)) (ty := .int) (by decide)
      have F12_found : Fld Z h12 b12 "com/example/kent_ridge/kentridge/query/OpenEntries$Open" "found" "[Z" .null := D12 (Or.inr (own_w hw 41 rfl)) (ty := (.array .boolean)) (by decide +kernel)
      have F12_hangs : Fld Z h12 b12 "com/example/kent_ridge/kentridge/query/OpenEntries$Open" "hangs" "Z" (.int (0 : Int32)) := D12 (Or.inr (own_w hw 43 rfl)) (ty := .boolean) (by decide)
      refine own_dup (pc' := 175) X12 hx (hb hby at_174) rfl rfl ?_
      refine own_iconst (pc' := 176) X12 hx (1 : Int32) (hb hby at_175) rfl rfl ?_
      refine own_lconst1 (pc' := 177) X12 hx (hb hby at_176) rfl ?_
      refine own_ldc2Long (pc' := 180) X12 hx hZ hown (own_w hw 44 rfl) (hb hby at_177) rfl ?_
      refine own_iload (pc' := 182) X12 hx (hb hby at_180) rfl rfl ?_
      refine own_iconst (pc' := 183) X12 hx (0 : Int32) (hb hby at_182) rfl rfl ?_
      refine own_iconst (pc' := 184) X12 hx (0 : Int32) (hb hby at_183) rfl rfl ?_
      refine own_iconst (pc' := 185) X12 hx (1 : Int32) (hb hby at_184) rfl rfl ?_
      refine own_callN (pc' := 188) (W := 1) (y := (⟨"com/example/kent_ridge/kentridge/query/OpenEntries$Open", "<init>", "(IJJIIIZ)V"⟩ : MethodName)) X12 hx hZ rfl hown (own_w hw 25 rfl) (own_w hw 26 rfl) (own_w hw 23 rfl) (own_w hw 27 rfl) (by decide) (conO l Z a0 hw b12 (1 : Int32) (1 : Int64) (99 : Int64) v3 _ n0 z12 A12 F12_element F12_start F12_end F12_level F12_step F12_found F12_hangs g_b12) e12 pd2 b12 [(.int (1 : Int32)), (.long (1 : Int64)), (.long (99 : Int64)), (.int v3), (.int (0 : Int32)), (.int (0 : Int32)), (.int (1 : Int32))] [(.ref b12)] rfl rfl rfl (Nat.le_of_eq rfl) (by decide) (by decide) (by rw [hml]; rfl) (hb hby at_185) (by decide) (by decide) rfl ?_
      intro v15 T15 L15 X15 q15
      obtain ⟨rfl, M15, K15, E15q, F15a, F15b⟩ := q15
      obtain ⟨h15, e15⟩ : ∃ z, z = T15.heap := ⟨_, rfl⟩
      rw [← e15] at K15 E15q F15a F15b
      have e15 := e15.symm
      have z15 : n0 ≤ h15.size := Nat.le_trans z12 K15.1
      have N15 := Fr.app N11 M15
      show own_WP _ _ _ _ _ _ _ (T15.setTop (mkF m 188 #[.val (.int p0), .val (.int p1), .val (.int p2), .val (.int p3), .val (.int p4), .val (.int v1), .val (.int r2), .val (.int v3), .val (.int v4), .val (.int v5), .val (.int v6), .val (.int jm), .val (.int v7), .val (.int jq), .val (.ref b8), .val (.ref b10), .unset, .unset, .unset, .unset] [(.ref b12)]))
      refine own_astore (pc' := 190) (l' := #[.val (.int p0), .val (.int p1), .val (.int p2), .val (.int p3), .val (.int p4), .val (.int v1), .val (.int r2), .val (.int v3), .val (.int v4), .val (.int v5), .val (.int v6), .val (.int jm), .val (.int v7), .val (.int jq), .val (.ref b8), .val (.ref b10), .val (.ref b12), .unset, .unset, .unset]) X15 hx (hb hby at_188) rfl rfl rfl ?_
      refine own_new (pc' := 193) X15 hx hZ hown (own_w hw 21 rfl) (own_w hw 22 rfl) (own_w hw 23 rfl) e15 (hb hby at_190) (by decide) (by decide) rfl ?_
      intro T16 h16 b16 g16 X16 e16 E16 A16 D16
      have f17 := ((E11q.ext E12).keep K15)
      have ne_b10_b16 : b10 ≠ b16 := Nat.ne_of_lt (Nat.lt_of_lt_of_le f17.lt (Nat.le_of_eq g16.symm))
      have ne_b16_b10 := ne_b10_b16.symm
      have ne_b12_b16 : b12 ≠ b16 := Nat.ne_of_lt (Nat.lt_of_lt_of_le E15q.lt (Nat.le_of_eq g16.symm))
      have ne_b16_b12 := ne_b12_b16.symm
      have f18 := ((f13.ext E12).keep K15)
      have ne_b8_b16 : b8 ≠ b16 := Nat.ne_of_lt (Nat.lt_of_lt_of_le f18.lt (Nat.le_of_eq g16.symm))
      have ne_b16_b8 := ne_b8_b16.symm
      have f19 := ((f14.ext E12).keep K15 (ninS ne_c9_b12 nin0))
      have ne_c9_b16 : c9 ≠ b16 := Nat.ne_of_lt (Nat.lt_of_lt_of_le f19.lt (Nat.le_of_eq g16.symm))
      have ne_b16_c9 := ne_c9_b16.symm
      have g_b16 : n0 ≤ b16 := Nat.le_trans z15 (Nat.le_of_eq g16.symm)
      have z16 : n0 ≤ h16.size := Nat.le_trans z15 E16.1
      have F16_element : Fld Z h16 b16 "com/example/kent_ridge/kentridge/query/OpenEntries$Open" "element" "I" (.int (0 : Int32)) := D16 (Or.inr (own_w hw 30 rfl)) (ty := .int) (by decide)
      have F16_start : Fld Z h16 b16 "com/example/kent_ridge/kentridge/query/OpenEntries$Open" "start" "J" (.long (0 : Int64)) := D16 (Or.inr (own_w hw 32 rfl)) (ty := .long) (by decide)
      have F16_end : Fld Z h16 b16 "com/example/kent_ridge/kentridge/query/OpenEntries$Open" "end" "J" (.long (0 : Int64)) := D16 (Or.inr (own_w hw 34 rfl)) (ty := .long) (by decide)
      have F16_level : Fld Z h16 b16 "com/example/kent_ridge/kentridge/query/OpenEntries$Open" "level" "I" (.int (0 : Int32)) := D16 (Or.inr (own_w hw 36 rfl)) (ty := .int) (by decide)
      have F16_step : Fld Z h16 b16 "com/example/kent_ridge/kentridge/query/OpenEntries$Open" "step" "I" (.int (0 : Int32)) := D16 (Or.inr (own_w hw 38 rfl)) (ty := .int) (by decide)
      have F16_found : Fld Z h16 b16 "com/example/kent_ridge/kentridge/query/OpenEntries$Open" "found" "[Z" .null := D16 (Or.inr (own_w hw 41 rfl)) (ty := (.array .boolean)) (by decide +kernel)
      have F16_hangs : Fld Z h16 b16 "com/example/kent_ridge/kentridge/query/OpenEntries$Open" "hangs" "Z" (.int (0 : Int32)) := D16 (Or.inr (own_w hw 43 rfl)) (ty := .boolean) (by decide)
      refine own_dup (pc' := 194) X16 hx (hb hby at_193) rfl rfl ?_
      refine own_iconst (pc' := 195) X16 hx (2 : Int32) (hb hby at_194) rfl rfl ?_
      refine own_ldc2Long (pc' := 198) X16 hx hZ hown (own_w hw 45 rfl) (hb hby at_195) rfl ?_
      refine own_ldc2Long (pc' := 201) X16 hx hZ hown (own_w hw 46 rfl) (hb hby at_198) rfl ?_
      refine own_iload (pc' := 203) X16 hx (hb hby at_201) rfl rfl ?_
      refine own_iconst (pc' := 204) X16 hx (0 : Int32) (hb hby at_203) rfl rfl ?_
      refine own_iconst (pc' := 205) X16 hx (0 : Int32) (hb hby at_204) rfl rfl ?_
      refine own_iconst (pc' := 206) X16 hx (1 : Int32) (hb hby at_205) rfl rfl ?_
      refine own_callN (pc' := 209) (W := 1) (y := (⟨"com/example/kent_ridge/kentridge/query/OpenEntries$Open", "<init>", "(IJJIIIZ)V"⟩ : MethodName)) X16 hx hZ rfl hown (own_w hw 25 rfl) (own_w hw 26 rfl) (own_w hw 23 rfl) (own_w hw 27 rfl) (by decide) (conO l Z a0 hw b16 (2 : Int32) (2 : Int64) (98 : Int64) v4 _ n0 z16 A16 F16_element F16_start F16_end F16_level F16_step F16_found F16_hangs g_b16) e16 pd2 b16 [(.int (2 : Int32)), (.long (2 : Int64)), (.long (98 : Int64)), (.int v4), (.int (0 : Int32)), (.int (0 : Int32)), (.int (1 : Int32))] [(.ref b16)] rfl rfl rfl (Nat.le_of_eq rfl) (by decide) (by decide) (by rw [hml]; rfl) (hb hby at_206) (by decide) (by decide) rfl ?_
      intro v20 T20 L20 X20 q20
      obtain ⟨rfl, M20, K20, E20q, F20a, F20b⟩ := q20
      obtain ⟨h20, e20⟩ : ∃ z, z = T20.heap := ⟨_, rfl⟩
      rw [← e20] at K20 E20q F20a F20b
      have e20 := e20.symm
      have z20 : n0 ≤ h20.size := Nat.le_trans z16 K20.1
      have N20 := Fr.app N15 M20
      show own_WP _ _ _ _ _ _ _ (T20.setTop (mkF m 209 #[.val (.int p0), .val (.int p1), .val (.int p2), .val (.int p3), .val (.int p4), .val (.int v1), .val (.int r2), .val (.int v3), .val (.int v4), .val (.int v5), .val (.int v6), .val (.int jm), .val (.int v7), .val (.int jq), .val (.ref b8), .val (.ref b10), .val (.ref b12), .unset, .unset, .unset] [(.ref b16)]))
      refine own_astore (pc' := 211) (l' := #[.val (.int p0), .val (.int p1), .val (.int p2), .val (.int p3), .val (.int p4), .val (.int v1), .val (.int r2), .val (.int v3), .val (.int v4), .val (.int v5), .val (.int v6), .val (.int jm), .val (.int v7), .val (.int jq), .val (.ref b8), .val (.ref b10), .val (.ref b12), .val (.ref b16), .unset, .unset]) X20 hx (hb hby at_209) rfl rfl rfl ?_
      refine own_new (pc' := 214) X20 hx hZ hown (own_w hw 21 rfl) (own_w hw 22 rfl) (own_w hw 23 rfl) e20 (hb hby at_211) (by decide) (by decide) rfl ?_
      intro T21 h21 b21 g21 X21 e21 E21 A21 D21
      have f22 := ((f17.ext E16).keep K20)
      have ne_b10_b21 : b10 ≠ b21 := Nat.ne_of_lt (Nat.lt_of_lt_of_le f22.lt (Nat.le_of_eq g21.symm))
      have ne_b21_b10 := ne_b10_b21.symm
      have f23 := ((E15q.ext E16).keep K20)
      have ne_b12_b21 : b12 ≠ b21 := Nat.ne_of_lt (Nat.lt_of_lt_of_le f23.lt (Nat.le_of_eq g21.symm))
      have ne_b21_b12 := ne_b12_b21.symm
      have ne_b16_b21 : b16 ≠ b21 := Nat.ne_of_lt (Nat.lt_of_lt_of_le E20q.lt (Nat.le_of_eq g21.symm))
      have ne_b21_b16 := ne_b16_b21.symm
      have f24 := ((f18.ext E16).keep K20)
      have ne_b8_b21 : b8 ≠ b21 := Nat.ne_of_lt (Nat.lt_of_lt_of_le f24.lt (Nat.le_of_eq g21.symm))
      have ne_b21_b8 := ne_b8_b21.symm
      have f25 := ((f19.ext E16).keep K20 (ninS ne_c9_b16 nin0))
      have ne_c9_b21 : c9 ≠ b21 := Nat.ne_of_lt (Nat.lt_of_lt_of_le f25.lt (Nat.le_of_eq g21.symm))
      have ne_b21_c9 := ne_c9_b21.symm
      have g_b21 : n0 ≤ b21 := Nat.le_trans z20 (Nat.le_of_eq g21.symm)
      have z21 : n0 ≤ h21.size := Nat.le_trans z20 E21.1
      have F21_element : Fld Z h21 b21 "com/example/kent_ridge/kentridge/query/OpenEntries$Open" "element" "I" (.int (0 : Int32)) := D21 (Or.inr (own_w hw 30 rfl)) (ty := .int) (by decide)
      have F21_start : Fld Z h21 b21 "com/example/kent_ridge/kentridge/query/OpenEntries$Open" "start" "J" (.long (0 : Int64)) := D21 (Or.inr (own_w hw 32 rfl)) (ty := .long) (by decide)
      have F21_end : Fld Z h21 b21 "com/example/kent_ridge/kentridge/query/OpenEntries$Open" "end" "J" (.long (0 : Int64)) := D21 (Or.inr (own_w hw 34 rfl)) (ty := .long) (by decide)
      have F21_level : Fld Z h21 b21 "com/example/kent_ridge/kentridge/query/OpenEntries$Open" "level" "I" (.int (0 : Int32)) := D21 (Or.inr (own_w hw 36 rfl)) (ty := .int) (by decide)
      have F21_step : Fld Z h21 b21 "com/example/kent_ridge/kentridge/query/OpenEntries$Open" "step" "I" (.int (0 : Int32)) := D21 (Or.inr (own_w hw 38 rfl)) (ty := .int) (by decide)
      have F21_found : Fld Z h21 b21 "com/example/kent_ridge/kentridge/query/OpenEntries$Open" "found" "[Z" .null := D21 (Or.inr (own_w hw 41 rfl)) (ty := (.array .boolean)) (by decide +kernel)
      have F21_hangs : Fld Z h21 b21 "com/example/kent_ridge/kentridge/query/OpenEntries$Open" "hangs" "Z" (.int (0 : Int32)) := D21 (Or.inr (own_w hw 43 rfl)) (ty := .boolean) (by decide)
      refine own_dup (pc' := 215) X21 hx (hb hby at_214) rfl rfl ?_
      refine own_iconst (pc' := 216) X21 hx (3 : Int32) (hb hby at_215) rfl rfl ?_
      refine own_ldc2Long (pc' := 219) X21 hx hZ hown (own_w hw 47 rfl) (hb hby at_216) rfl ?_
      refine own_ldc2Long (pc' := 222) X21 hx hZ hown (own_w hw 48 rfl) (hb hby at_219) rfl ?_
      refine own_iload (pc' := 224) X21 hx (hb hby at_222) rfl rfl ?_
      refine own_iconst (pc' := 225) X21 hx (0 : Int32) (hb hby at_224) rfl rfl ?_
      refine own_iconst (pc' := 226) X21 hx (0 : Int32) (hb hby at_225) rfl rfl ?_
      refine own_iconst (pc' := 227) X21 hx (1 : Int32) (hb hby at_226) rfl rfl ?_
      refine own_callN (pc' := 230) (W := 1) (y := (⟨"com/example/kent_ridge/kentridge/query/OpenEntries$Open", "<init>", "(IJJIIIZ)V"⟩ : MethodName)) X21 hx hZ rfl hown (own_w hw 25 rfl) (own_w hw 26 rfl) (own_w hw 23 rfl) (own_w hw 27 rfl) (by decide) (conO l Z a0 hw b21 (3 : Int32) (3 : Int64) (97 : Int64) v5 _ n0 z21 A21 F21_element F21_start F21_end F21_level F21_step F21_found F21_hangs g_b21) e21 pd2 b21 [(.int (3 : Int32)), (.long (3 : Int64)), (.long (97 : Int64)), (.int v5), (.int (0 : Int32)), (.int (0 : Int32)), (.int (1 : Int32))] [(.ref b21)] rfl rfl rfl (Nat.le_of_eq rfl) (by decide) (by decide) (by rw [hml]; rfl) (hb hby at_227) (by decide) (by decide) rfl ?_
      intro v26 T26 L26 X26 q26
      obtain ⟨rfl, M26, K26, E26q, F26a, F26b⟩ := q26
      obtain ⟨h26, e26⟩ : ∃ z, z = T26.heap := ⟨_, rfl⟩
      rw [← e26] at K26 E26q F26a F26b
      have e26 := e26.symm
      have z26 : n0 ≤ h26.size := Nat.le_trans z21 K26.1
      have N26 := Fr.app N20 M26
      show own_WP _ _ _ _ _ _ _ (T26.setTop (mkF m 230 #[.val (.int p0), .val (.int p1), .val (.int p2), .val (.int p3), .val (.int p4), .val (.int v1), .val (.int r2), .val (.int v3), .val (.int v4), .val (.int v5), .val (.int v6), .val (.int jm), .val (.int v7), .val (.int jq), .val (.ref b8), .val (.ref b10), .val (.ref b12), .val (.ref b16), .unset, .unset] [(.ref b21)]))
      refine own_astore (pc' := 232) (l' := #[.val (.int p0), .val (.int p1), .val (.int p2), .val (.int p3), .val (.int p4), .val (.int v1), .val (.int r2), .val (.int v3), .val (.int v4), .val (.int v5), .val (.int v6), .val (.int jm), .val (.int v7), .val (.int jq), .val (.ref b8), .val (.ref b10), .val (.ref b12), .val (.ref b16), .val (.ref b21), .unset]) X26 hx (hb hby at_230) rfl rfl rfl ?_
      rcases own_len5 _ _ hv1 with hid | hid | hid | hid | hid
      · subst hid
        show own_WP _ _ _ _ _ _ _ (T26.setTop (mkF m 232 #[.val (.int p0), .val (.int p1), .val (.int p2), .val (.int p3), .val (.int p4), .val (.int (0 : Int32)), .val (.int r2), .val (.int v3), .val (.int v4), .val (.int v5), .val (.int v6), .val (.int jm), .val (.int v7), .val (.int jq), .val (.ref b8), .val (.ref b10), .val (.ref b12), .val (.ref b16), .val (.ref b21), .unset] []))
        refine own_iload (pc' := 234) X26 hx (hb hby at_232) rfl rfl ?_
        refine own_if_le (pt := 244) (pf := 237) X26 hx (hb hby at_234) rfl (by decide) rfl (fun hc234 => ?_) (fun hc234 => absurd hc234 (by decide))
        refine own_iload (pc' := 246) X26 hx (hb hby at_244) rfl rfl ?_
        refine own_iconst (pc' := 247) X26 hx (1 : Int32) (hb hby at_246) rfl rfl ?_
        refine own_icmp_le (pt := 257) (pf := 250) X26 hx (hb hby at_247) rfl (by decide) rfl (fun hc247 => ?_) (fun hc247 => absurd hc247 (by decide))
        refine own_iload (pc' := 259) X26 hx (hb hby at_257) rfl rfl ?_
        refine own_iconst (pc' := 260) X26 hx (2 : Int32) (hb hby at_259) rfl rfl ?_
        refine own_icmp_le (pt := 270) (pf := 263) X26 hx (hb hby at_260) rfl (by decide) rfl (fun hc260 => ?_) (fun hc260 => absurd hc260 (by decide))
        refine own_iload (pc' := 272) X26 hx (hb hby at_270) rfl rfl ?_
        refine own_iconst (pc' := 273) X26 hx (3 : Int32) (hb hby at_272) rfl rfl ?_
        refine own_icmp_le (pt := 283) (pf := 276) X26 hx (hb hby at_273) rfl (by decide) rfl (fun hc273 => ?_) (fun hc273 => absurd hc273 (by decide))
        refine own_iconst (pc' := 284) X26 hx (-1 : Int32) (hb hby at_283) rfl rfl ?_
        refine own_istore (pc' := 286) (l' := #[.val (.int p0), .val (.int p1), .val (.int p2), .val (.int p3), .val (.int p4), .val (.int (0 : Int32)), .val (.int r2), .val (.int v3), .val (.int v4), .val (.int v5), .val (.int v6), .val (.int jm), .val (.int v7), .val (.int jq), .val (.ref b8), .val (.ref b10), .val (.ref b12), .val (.ref b16), .val (.ref b21), .val (.int (-1 : Int32))]) X26 hx (hb hby at_284) rfl rfl rfl ?_
        refine own_iload (pc' := 288) X26 hx (hb hby at_286) rfl rfl ?_
        refine own_if_le (pt := 301) (pf := 291) X26 hx (hb hby at_288) rfl (by decide) rfl (fun hc288 => ?_) (fun hc288 => absurd hc288 (by decide))
        refine own_iload (pc' := 303) X26 hx (hb hby at_301) rfl rfl ?_
        refine own_iconst (pc' := 304) X26 hx (1 : Int32) (hb hby at_303) rfl rfl ?_
        refine own_icmp_le (pt := 317) (pf := 307) X26 hx (hb hby at_304) rfl (by decide) rfl (fun hc304 => ?_) (fun hc304 => absurd hc304 (by decide))
        refine own_iload (pc' := 319) X26 hx (hb hby at_317) rfl rfl ?_
        refine own_iconst (pc' := 320) X26 hx (2 : Int32) (hb hby at_319) rfl rfl ?_
        refine own_icmp_le (pt := 333) (pf := 323) X26 hx (hb hby at_320) rfl (by decide) rfl (fun hc320 => ?_) (fun hc320 => absurd hc320 (by decide))
        refine own_iload (pc' := 335) X26 hx (hb hby at_333) rfl rfl ?_
        refine own_iconst (pc' := 336) X26 hx (3 : Int32) (hb hby at_335) rfl rfl ?_
        refine own_icmp_le (pt := 349) (pf := 339) X26 hx (hb hby at_336) rfl (by decide) rfl (fun hc336 => ?_) (fun hc336 => absurd hc336 (by decide))
        refine own_aload (pc' := 351) X26 hx (hb hby at_349) rfl rfl rfl ?_
        refine own_iload (pc' := 353) X26 hx (hb hby at_351) rfl rfl ?_
        have f28 := ((((((((F9a.ext E10).keep K11 (ninS ne_b8_b10 nin0)).ext E12).keep K15 (ninS ne_b8_b12 nin0)).ext E16).keep K20 (ninS ne_b8_b16 nin0)).ext E21).keep K26 (ninS ne_b8_b21 nin0))
        have f29 := ((((((((F9c.ext E10).keep K11 (ninS ne_b8_b10 nin0)).ext E12).keep K15 (ninS ne_b8_b12 nin0)).ext E16).keep K20 (ninS ne_b8_b16 nin0)).ext E21).keep K26 (ninS ne_b8_b21 nin0))
        have f30 := ((f25.ext E21).keep K26 (ninS ne_c9_b21 nin0))
        have f31 := ((f24.ext E21).keep K26)
        refine own_callV (pc' := 356) (W := 0) (y := (⟨"com/example/kent_ridge/kentridge/query/OpenEntries", "atLevel", "(I)I"⟩ : MethodName)) (z := (⟨"com/example/kent_ridge/kentridge/query/OpenEntries", "atLevel", "(I)I"⟩ : MethodName)) X26 hx hZ hown (own_w hw 49 rfl) (own_w hw 50 rfl) (notFace_of_selects (args := #[]) (mvT hZ (own_w hw 52 rfl))) (own_w hw 52 rfl) (own_w hw 51 rfl) (own_w hw 8 rfl) (own_w hw 53 rfl) (by decide) f31 (conT0 l Z a0 hw b8 jq _ c9 k9   f28 f29 f30  ) e26 pd3 [(.int jq)] [] rfl rfl rfl (Nat.le_of_eq rfl) (by decide) (by decide) (by rw [hml]; rfl) (hb hby at_353) (by decide) (by decide) rfl ?_
        intro v27 T27 L27 X27 q27
        obtain ⟨r27, rfl, hr27, rfl, e27⟩ := q27
        have N27 := Fr.app N26 (Fr.nil n0)
        show own_WP _ _ _ _ _ _ _ (T27.setTop (mkF m 356 #[.val (.int p0), .val (.int p1), .val (.int p2), .val (.int p3), .val (.int p4), .val (.int (0 : Int32)), .val (.int r2), .val (.int v3), .val (.int v4), .val (.int v5), .val (.int v6), .val (.int jm), .val (.int v7), .val (.int jq), .val (.ref b8), .val (.ref b10), .val (.ref b12), .val (.ref b16), .val (.ref b21), .val (.int (-1 : Int32))] [(.int r27)]))
        refine own_iload (pc' := 358) X27 hx (hb hby at_356) rfl rfl ?_
        refine own_icmp_ne (pt := 365) (pf := 361) X27 hx (hb hby at_358) rfl (by decide) rfl (fun hc358 => absurd (by rw [hr27]) hc358) (fun hc358 => ?_)
        refine own_iconst (pc' := 362) X27 hx (1 : Int32) (hb hby at_361) rfl rfl ?_
        refine own_goto (pc' := 366) X27 hx (hb hby at_362) (by decide) rfl ?_
        refine own_retN X27 hx hlk (t := .boolean) (by decide) hret (hb hby at_366) (by decide) (by decide) ?_
        exact ⟨rfl, N27⟩
      · subst hid
        show own_WP _ _ _ _ _ _ _ (T26.setTop (mkF m 232 #[.val (.int p0), .val (.int p1), .val (.int p2), .val (.int p3), .val (.int p4), .val (.int (1 : Int32)), .val (.int r2), .val (.int v3), .val (.int v4), .val (.int v5), .val (.int v6), .val (.int jm), .val (.int v7), .val (.int jq), .val (.ref b8), .val (.ref b10), .val (.ref b12), .val (.ref b16), .val (.ref b21), .unset] []))
        refine own_iload (pc' := 234) X26 hx (hb hby at_232) rfl rfl ?_
        refine own_if_le (pt := 244) (pf := 237) X26 hx (hb hby at_234) rfl (by decide) rfl (fun hc234 => absurd (by decide) hc234) (fun hc234 => ?_)
        refine own_aload (pc' := 239) X26 hx (hb hby at_237) rfl rfl rfl ?_
        refine own_aload (pc' := 241) X26 hx (hb hby at_239) rfl rfl rfl ?_
        have f33 := ((f24.ext E21).keep K26)
        have f34 := ((((((((F9a.ext E10).keep K11 (ninS ne_b8_b10 nin0)).ext E12).keep K15 (ninS ne_b8_b12 nin0)).ext E16).keep K20 (ninS ne_b8_b16 nin0)).ext E21).keep K26 (ninS ne_b8_b21 nin0))
        have f35 := ((((((((F9b.ext E10).keep K11 (ninS ne_b8_b10 nin0)).ext E12).keep K15 (ninS ne_b8_b12 nin0)).ext E16).keep K20 (ninS ne_b8_b16 nin0)).ext E21).keep K26 (ninS ne_b8_b21 nin0))
        have f36 := ((((((((F9c.ext E10).keep K11 (ninS ne_b8_b10 nin0)).ext E12).keep K15 (ninS ne_b8_b12 nin0)).ext E16).keep K20 (ninS ne_b8_b16 nin0)).ext E21).keep K26 (ninS ne_b8_b21 nin0))
        have f37 := ((f25.ext E21).keep K26 (ninS ne_c9_b21 nin0))
        have f38 := ((f22.ext E21).keep K26)
        have f39 := ((((((F11a.ext E12).keep K15 (ninS ne_b10_b12 nin0)).ext E16).keep K20 (ninS ne_b10_b16 nin0)).ext E21).keep K26 (ninS ne_b10_b21 nin0))
        refine own_callV (pc' := 244) (W := 0) (y := (⟨"com/example/kent_ridge/kentridge/query/OpenEntries", "add", "(Lcom/example/kent_ridge/kentridge/query/OpenEntries$Open;)V"⟩ : MethodName)) (z := (⟨"com/example/kent_ridge/kentridge/query/OpenEntries", "add", "(Lcom/example/kent_ridge/kentridge/query/OpenEntries$Open;)V"⟩ : MethodName)) X26 hx hZ hown (own_w hw 56 rfl) (own_w hw 57 rfl) (notFace_of_selects (args := #[]) (mvT hZ (own_w hw 59 rfl))) (own_w hw 59 rfl) (own_w hw 58 rfl) (own_w hw 8 rfl) (own_w hw 60 rfl) (by decide) f33 (conA0 l Z a0 hw b8 b10 _ n0 z26 c9 k9 (1 : Int32) (0 : Int32) f33 f34 f35 f36 f37 O9 f38 f39 ne_b8_c9 ne_c9_b8 g_b8 g_c9) e26 pd4 [(.ref b10)] [] rfl rfl rfl (Nat.le_of_eq rfl) (by decide) (by decide) (by rw [hml]; rfl) (hb hby at_241) (by decide) (by decide) rfl ?_
        intro v32 T32 L32 X32 q32
        obtain ⟨sv32, rfl, M32, K32, E32q, F32a, F32b, F32c, V32⟩ := q32
        obtain ⟨h32, e32⟩ : ∃ z, z = T32.heap := ⟨_, rfl⟩
        rw [← e32] at K32 E32q F32a F32b F32c V32
        have e32 := e32.symm
        have z32 : n0 ≤ h32.size := Nat.le_trans z26 K32.1
        have N32 := Fr.app N26 M32
        show own_WP _ _ _ _ _ _ _ (T32.setTop (mkF m 244 #[.val (.int p0), .val (.int p1), .val (.int p2), .val (.int p3), .val (.int p4), .val (.int (1 : Int32)), .val (.int r2), .val (.int v3), .val (.int v4), .val (.int v5), .val (.int v6), .val (.int jm), .val (.int v7), .val (.int jq), .val (.ref b8), .val (.ref b10), .val (.ref b12), .val (.ref b16), .val (.ref b21), .unset] []))
        refine own_iload (pc' := 246) X32 hx (hb hby at_244) rfl rfl ?_
        refine own_iconst (pc' := 247) X32 hx (1 : Int32) (hb hby at_246) rfl rfl ?_
        refine own_icmp_le (pt := 257) (pf := 250) X32 hx (hb hby at_247) rfl (by decide) rfl (fun hc247 => ?_) (fun hc247 => absurd hc247 (by decide))
        refine own_iload (pc' := 259) X32 hx (hb hby at_257) rfl rfl ?_
        refine own_iconst (pc' := 260) X32 hx (2 : Int32) (hb hby at_259) rfl rfl ?_
        refine own_icmp_le (pt := 270) (pf := 263) X32 hx (hb hby at_260) rfl (by decide) rfl (fun hc260 => ?_) (fun hc260 => absurd hc260 (by decide))
        refine own_iload (pc' := 272) X32 hx (hb hby at_270) rfl rfl ?_
        refine own_iconst (pc' := 273) X32 hx (3 : Int32) (hb hby at_272) rfl rfl ?_
        refine own_icmp_le (pt := 283) (pf := 276) X32 hx (hb hby at_273) rfl (by decide) rfl (fun hc273 => ?_) (fun hc273 => absurd hc273 (by decide))
        refine own_iconst (pc' := 284) X32 hx (-1 : Int32) (hb hby at_283) rfl rfl ?_
        refine own_istore (pc' := 286) (l' := #[.val (.int p0), .val (.int p1), .val (.int p2), .val (.int p3), .val (.int p4), .val (.int (1 : Int32)), .val (.int r2), .val (.int v3), .val (.int v4), .val (.int v5), .val (.int v6), .val (.int jm), .val (.int v7), .val (.int jq), .val (.ref b8), .val (.ref b10), .val (.ref b12), .val (.ref b16), .val (.ref b21), .val (.int (-1 : Int32))]) X32 hx (hb hby at_284) rfl rfl rfl ?_
        refine own_iload (pc' := 288) X32 hx (hb hby at_286) rfl rfl ?_
        refine own_if_le (pt := 301) (pf := 291) X32 hx (hb hby at_288) rfl (by decide) rfl (fun hc288 => absurd (by decide) hc288) (fun hc288 => ?_)
        refine own_iload (pc' := 293) X32 hx (hb hby at_291) rfl rfl ?_
        refine own_iload (pc' := 295) X32 hx (hb hby at_293) rfl rfl ?_
        refine own_join (fun jx0 : Int32 => jx0 = own_sel r2 jq 0 (-1 : Int32)) (fun jx0 => T32.setTop (mkF m 301 #[.val (.int p0), .val (.int p1), .val (.int p2), .val (.int p3), .val (.int p4), .val (.int (1 : Int32)), .val (.int r2), .val (.int v3), .val (.int v4), .val (.int v5), .val (.int v6), .val (.int jm), .val (.int v7), .val (.int jq), .val (.ref b8), .val (.ref b10), .val (.ref b12), .val (.ref b16), .val (.ref b21), .val (.int jx0)] [])) (fun J301 => ?_) (fun jx0 hjx0 => ?_)
        · skip
          refine own_icmp_ne (pt := 301) (pf := 298) X32 hx (hb hby at_295) rfl (by decide) rfl (fun hc295 => ?_) (fun hc295 => ?_)
          · skip
            exact J301 (-1 : Int32) ((if_neg hc295).symm)
          · skip
            refine own_iconst (pc' := 299) X32 hx (0 : Int32) (hb hby at_298) rfl rfl ?_
            refine own_istore (pc' := 301) (l' := #[.val (.int p0), .val (.int p1), .val (.int p2), .val (.int p3), .val (.int p4), .val (.int (1 : Int32)), .val (.int r2), .val (.int v3), .val (.int v4), .val (.int v5), .val (.int v6), .val (.int jm), .val (.int v7), .val (.int jq), .val (.ref b8), .val (.ref b10), .val (.ref b12), .val (.ref b16), .val (.ref b21), .val (.int (0 : Int32))]) X32 hx (hb hby at_299) rfl rfl rfl ?_
            exact J301 (0 : Int32) ((if_pos hc295).symm)
        · skip
          show own_WP _ _ _ _ _ _ _ (T32.setTop (mkF m 301 #[.val (.int p0), .val (.int p1), .val (.int p2), .val (.int p3), .val (.int p4), .val (.int (1 : Int32)), .val (.int r2), .val (.int v3), .val (.int v4), .val (.int v5), .val (.int v6), .val (.int jm), .val (.int v7), .val (.int jq), .val (.ref b8), .val (.ref b10), .val (.ref b12), .val (.ref b16), .val (.ref b21), .val (.int jx0)] []))
          refine own_iload (pc' := 303) X32 hx (hb hby at_301) rfl rfl ?_
          refine own_iconst (pc' := 304) X32 hx (1 : Int32) (hb hby at_303) rfl rfl ?_
          refine own_icmp_le (pt := 317) (pf := 307) X32 hx (hb hby at_304) rfl (by decide) rfl (fun hc304 => ?_) (fun hc304 => absurd hc304 (by decide))
          refine own_iload (pc' := 319) X32 hx (hb hby at_317) rfl rfl ?_
          refine own_iconst (pc' := 320) X32 hx (2 : Int32) (hb hby at_319) rfl rfl ?_
          refine own_icmp_le (pt := 333) (pf := 323) X32 hx (hb hby at_320) rfl (by decide) rfl (fun hc320 => ?_) (fun hc320 => absurd hc320 (by decide))
          refine own_iload (pc' := 335) X32 hx (hb hby at_333) rfl rfl ?_
          refine own_iconst (pc' := 336) X32 hx (3 : Int32) (hb hby at_335) rfl rfl ?_
          refine own_icmp_le (pt := 349) (pf := 339) X32 hx (hb hby at_336) rfl (by decide) rfl (fun hc336 => ?_) (fun hc336 => absurd hc336 (by decide))
          refine own_aload (pc' := 351) X32 hx (hb hby at_349) rfl rfl rfl ?_
          refine own_iload (pc' := 353) X32 hx (hb hby at_351) rfl rfl ?_
          have f41 := (((((((F11b.ext E12).keep K15 (ninS ne_b10_b12 nin0)).ext E16).keep K20 (ninS ne_b10_b16 nin0)).ext E21).keep K26 (ninS ne_b10_b21 nin0)).keep K32 (ninS ne_b10_b8 (ninS ne_b10_c9 nin0)))
          refine own_callV (pc' := 356) (W := 0) (y := (⟨"com/example/kent_ridge/kentridge/query/OpenEntries", "atLevel", "(I)I"⟩ : MethodName)) (z := (⟨"com/example/kent_ridge/kentridge/query/OpenEntries", "atLevel", "(I)I"⟩ : MethodName)) X32 hx hZ hown (own_w hw 49 rfl) (own_w hw 50 rfl) (notFace_of_selects (args := #[]) (mvT hZ (own_w hw 52 rfl))) (own_w hw 52 rfl) (own_w hw 51 rfl) (own_w hw 8 rfl) (own_w hw 53 rfl) (by decide) E32q (conT1 l Z a0 hw b8 jq _ c9 k9 b10 r2 F32a F32c V32 f41 ) e32 pd3 [(.int jq)] [] rfl rfl rfl (Nat.le_of_eq rfl) (by decide) (by decide) (by rw [hml]; rfl) (hb hby at_353) (by decide) (by decide) rfl ?_
          intro v40 T40 L40 X40 q40
          obtain ⟨r40, rfl, hr40, rfl, e40⟩ := q40
          have N40 := Fr.app N32 (Fr.nil n0)
          show own_WP _ _ _ _ _ _ _ (T40.setTop (mkF m 356 #[.val (.int p0), .val (.int p1), .val (.int p2), .val (.int p3), .val (.int p4), .val (.int (1 : Int32)), .val (.int r2), .val (.int v3), .val (.int v4), .val (.int v5), .val (.int v6), .val (.int jm), .val (.int v7), .val (.int jq), .val (.ref b8), .val (.ref b10), .val (.ref b12), .val (.ref b16), .val (.ref b21), .val (.int jx0)] [(.int r40)]))
          refine own_iload (pc' := 358) X40 hx (hb hby at_356) rfl rfl ?_
          refine own_icmp_ne (pt := 365) (pf := 361) X40 hx (hb hby at_358) rfl (by decide) rfl (fun hc358 => absurd (by rw [hr40, hjx0]) hc358) (fun hc358 => ?_)
          refine own_iconst (pc' := 362) X40 hx (1 : Int32) (hb hby at_361) rfl rfl ?_
          refine own_goto (pc' := 366) X40 hx (hb hby at_362) (by decide) rfl ?_
          refine own_retN X40 hx hlk (t := .boolean) (by decide) hret (hb hby at_366) (by decide) (by decide) ?_
          exact ⟨rfl, N40⟩
      · subst hid
        show own_WP _ _ _ _ _ _ _ (T26.setTop (mkF m 232 #[.val (.int p0), .val (.int p1), .val (.int p2), .val (.int p3), .val (.int p4), .val (.int (2 : Int32)), .val (.int r2), .val (.int v3), .val (.int v4), .val (.int v5), .val (.int v6), .val (.int jm), .val (.int v7), .val (.int jq), .val (.ref b8), .val (.ref b10), .val (.ref b12), .val (.ref b16), .val (.ref b21), .unset] []))
        refine own_iload (pc' := 234) X26 hx (hb hby at_232) rfl rfl ?_
        refine own_if_le (pt := 244) (pf := 237) X26 hx (hb hby at_234) rfl (by decide) rfl (fun hc234 => absurd (by decide) hc234) (fun hc234 => ?_)
        refine own_aload (pc' := 239) X26 hx (hb hby at_237) rfl rfl rfl ?_
        refine own_aload (pc' := 241) X26 hx (hb hby at_239) rfl rfl rfl ?_
        have f43 := ((f24.ext E21).keep K26)
        have f44 := ((((((((F9a.ext E10).keep K11 (ninS ne_b8_b10 nin0)).ext E12).keep K15 (ninS ne_b8_b12 nin0)).ext E16).keep K20 (ninS ne_b8_b16 nin0)).ext E21).keep K26 (ninS ne_b8_b21 nin0))
        have f45 := ((((((((F9b.ext E10).keep K11 (ninS ne_b8_b10 nin0)).ext E12).keep K15 (ninS ne_b8_b12 nin0)).ext E16).keep K20 (ninS ne_b8_b16 nin0)).ext E21).keep K26 (ninS ne_b8_b21 nin0))
        have f46 := ((((((((F9c.ext E10).keep K11 (ninS ne_b8_b10 nin0)).ext E12).keep K15 (ninS ne_b8_b12 nin0)).ext E16).keep K20 (ninS ne_b8_b16 nin0)).ext E21).keep K26 (ninS ne_b8_b21 nin0))
        have f47 := ((f25.ext E21).keep K26 (ninS ne_c9_b21 nin0))
        have f48 := ((f22.ext E21).keep K26)
        have f49 := ((((((F11a.ext E12).keep K15 (ninS ne_b10_b12 nin0)).ext E16).keep K20 (ninS ne_b10_b16 nin0)).ext E21).keep K26 (ninS ne_b10_b21 nin0))
        refine own_callV (pc' := 244) (W := 0) (y := (⟨"com/example/kent_ridge/kentridge/query/OpenEntries", "add", "(Lcom/example/kent_ridge/kentridge/query/OpenEntries$Open;)V"⟩ : MethodName)) (z := (⟨"com/example/kent_ridge/kentridge/query/OpenEntries", "add", "(Lcom/example/kent_ridge/kentridge/query/OpenEntries$Open;)V"⟩ : MethodName)) X26 hx hZ hown (own_w hw 56 rfl) (own_w hw 57 rfl) (notFace_of_selects (args := #[]) (mvT hZ (own_w hw 59 rfl))) (own_w hw 59 rfl) (own_w hw 58 rfl) (own_w hw 8 rfl) (own_w hw 60 rfl) (by decide) f43 (conA0 l Z a0 hw b8 b10 _ n0 z26 c9 k9 (1 : Int32) (0 : Int32) f43 f44 f45 f46 f47 O9 f48 f49 ne_b8_c9 ne_c9_b8 g_b8 g_c9) e26 pd4 [(.ref b10)] [] rfl rfl rfl (Nat.le_of_eq rfl) (by decide) (by decide) (by rw [hml]; rfl) (hb hby at_241) (by decide) (by decide) rfl ?_
        intro v42 T42 L42 X42 q42
        obtain ⟨sv42, rfl, M42, K42, E42q, F42a, F42b, F42c, V42⟩ := q42
        obtain ⟨h42, e42⟩ : ∃ z, z = T42.heap := ⟨_, rfl⟩
        rw [← e42] at K42 E42q F42a F42b F42c V42
        have e42 := e42.symm
        have z42 : n0 ≤ h42.size := Nat.le_trans z26 K42.1
        have N42 := Fr.app N26 M42
        show own_WP _ _ _ _ _ _ _ (T42.setTop (mkF m 244 #[.val (.int p0), .val (.int p1), .val (.int p2), .val (.int p3), .val (.int p4), .val (.int (2 : Int32)), .val (.int r2), .val (.int v3), .val (.int v4), .val (.int v5), .val (.int v6), .val (.int jm), .val (.int v7), .val (.int jq), .val (.ref b8), .val (.ref b10), .val (.ref b12), .val (.ref b16), .val (.ref b21), .unset] []))
        refine own_iload (pc' := 246) X42 hx (hb hby at_244) rfl rfl ?_
        refine own_iconst (pc' := 247) X42 hx (1 : Int32) (hb hby at_246) rfl rfl ?_
        refine own_icmp_le (pt := 257) (pf := 250) X42 hx (hb hby at_247) rfl (by decide) rfl (fun hc247 => absurd (by decide) hc247) (fun hc247 => ?_)
        refine own_aload (pc' := 252) X42 hx (hb hby at_250) rfl rfl rfl ?_
        refine own_aload (pc' := 254) X42 hx (hb hby at_252) rfl rfl rfl ?_
        have f51 := (((f23.ext E21).keep K26).keep K42)
        have f52 := (((((F15a.ext E16).keep K20 (ninS ne_b12_b16 nin0)).ext E21).keep K26 (ninS ne_b12_b21 nin0)).keep K42 (ninS ne_b12_b8 (ninS ne_b12_c9 nin0)))
        have f53 := (f49.keep K42 (ninS ne_b10_b8 (ninS ne_b10_c9 nin0)))
        refine own_callV (pc' := 257) (W := 0) (y := (⟨"com/example/kent_ridge/kentridge/query/OpenEntries", "add", "(Lcom/example/kent_ridge/kentridge/query/OpenEntries$Open;)V"⟩ : MethodName)) (z := (⟨"com/example/kent_ridge/kentridge/query/OpenEntries", "add", "(Lcom/example/kent_ridge/kentridge/query/OpenEntries$Open;)V"⟩ : MethodName)) X42 hx hZ hown (own_w hw 56 rfl) (own_w hw 57 rfl) (notFace_of_selects (args := #[]) (mvT hZ (own_w hw 59 rfl))) (own_w hw 59 rfl) (own_w hw 58 rfl) (own_w hw 8 rfl) (own_w hw 60 rfl) (by decide) E42q (conA1 l Z a0 hw b8 b12 _ n0 z42 c9 k9 sv42 (1 : Int32) b10 (0 : Int32) E42q F42a F42b F42c V42 O9 f51 f52 f53 ne_b8_c9 ne_c9_b8 g_b8 g_c9) e42 pd4 [(.ref b12)] [] rfl rfl rfl (Nat.le_of_eq rfl) (by decide) (by decide) (by rw [hml]; rfl) (hb hby at_254) (by decide) (by decide) rfl ?_
        intro v50 T50 L50 X50 q50
        obtain ⟨sv50, rfl, M50, K50, E50q, F50a, F50b, F50c, V50⟩ := q50
        obtain ⟨h50, e50⟩ : ∃ z, z = T50.heap := ⟨_, rfl⟩
        rw [← e50] at K50 E50q F50a F50b F50c V50
        have e50 := e50.symm
        have z50 : n0 ≤ h50.size := Nat.le_trans z42 K50.1
        have N50 := Fr.app N42 M50
        show own_WP _ _ _ _ _ _ _ (T50.setTop (mkF m 257 #[.val (.int p0), .val (.int p1), .val (.int p2), .val (.int p3), .val (.int p4), .val (.int (2 : Int32)), .val (.int r2), .val (.int v3), .val (.int v4), .val (.int v5), .val (.int v6), .val (.int jm), .val (.int v7), .val (.int jq), .val (.ref b8), .val (.ref b10), .val (.ref b12), .val (.ref b16), .val (.ref b21), .unset] []))
        refine own_iload (pc' := 259) X50 hx (hb hby at_257) rfl rfl ?_
        refine own_iconst (pc' := 260) X50 hx (2 : Int32) (hb hby at_259) rfl rfl ?_
        refine own_icmp_le (pt := 270) (pf := 263) X50 hx (hb hby at_260) rfl (by decide) rfl (fun hc260 => ?_) (fun hc260 => absurd hc260 (by decide))
        refine own_iload (pc' := 272) X50 hx (hb hby at_270) rfl rfl ?_
        refine own_iconst (pc' := 273) X50 hx (3 : Int32) (hb hby at_272) rfl rfl ?_
        refine own_icmp_le (pt := 283) (pf := 276) X50 hx (hb hby at_273) rfl (by decide) rfl (fun hc273 => ?_) (fun hc273 => absurd hc273 (by decide))
        refine own_iconst (pc' := 284) X50 hx (-1 : Int32) (hb hby at_283) rfl rfl ?_
        refine own_istore (pc' := 286) (l' := #[.val (.int p0), .val (.int p1), .val (.int p2), .val (.int p3), .val (.int p4), .val (.int (2 : Int32)), .val (.int r2), .val (.int v3), .val (.int v4), .val (.int v5), .val (.int v6), .val (.int jm), .val (.int v7), .val (.int jq), .val (.ref b8), .val (.ref b10), .val (.ref b12), .val (.ref b16), .val (.ref b21), .val (.int (-1 : Int32))]) X50 hx (hb hby at_284) rfl rfl rfl ?_
        refine own_iload (pc' := 288) X50 hx (hb hby at_286) rfl rfl ?_
        refine own_if_le (pt := 301) (pf := 291) X50 hx (hb hby at_288) rfl (by decide) rfl (fun hc288 => absurd (by decide) hc288) (fun hc288 => ?_)
        refine own_iload (pc' := 293) X50 hx (hb hby at_291) rfl rfl ?_
        refine own_iload (pc' := 295) X50 hx (hb hby at_293) rfl rfl ?_
        refine own_join (fun jx0 : Int32 => jx0 = own_sel r2 jq 0 (-1 : Int32)) (fun jx0 => T50.setTop (mkF m 301 #[.val (.int p0), .val (.int p1), .val (.int p2), .val (.int p3), .val (.int p4), .val (.int (2 : Int32)), .val (.int r2), .val (.int v3), .val (.int v4), .val (.int v5), .val (.int v6), .val (.int jm), .val (.int v7), .val (.int jq), .val (.ref b8), .val (.ref b10), .val (.ref b12), .val (.ref b16), .val (.ref b21), .val (.int jx0)] [])) (fun J301 => ?_) (fun jx0 hjx0 => ?_)
        · skip
          refine own_icmp_ne (pt := 301) (pf := 298) X50 hx (hb hby at_295) rfl (by decide) rfl (fun hc295 => ?_) (fun hc295 => ?_)
          · skip
            exact J301 (-1 : Int32) ((if_neg hc295).symm)
          · skip
            refine own_iconst (pc' := 299) X50 hx (0 : Int32) (hb hby at_298) rfl rfl ?_
            refine own_istore (pc' := 301) (l' := #[.val (.int p0), .val (.int p1), .val (.int p2), .val (.int p3), .val (.int p4), .val (.int (2 : Int32)), .val (.int r2), .val (.int v3), .val (.int v4), .val (.int v5), .val (.int v6), .val (.int jm), .val (.int v7), .val (.int jq), .val (.ref b8), .val (.ref b10), .val (.ref b12), .val (.ref b16), .val (.ref b21), .val (.int (0 : Int32))]) X50 hx (hb hby at_299) rfl rfl rfl ?_
            exact J301 (0 : Int32) ((if_pos hc295).symm)
        · skip
          show own_WP _ _ _ _ _ _ _ (T50.setTop (mkF m 301 #[.val (.int p0), .val (.int p1), .val (.int p2), .val (.int p3), .val (.int p4), .val (.int (2 : Int32)), .val (.int r2), .val (.int v3), .val (.int v4), .val (.int v5), .val (.int v6), .val (.int jm), .val (.int v7), .val (.int jq), .val (.ref b8), .val (.ref b10), .val (.ref b12), .val (.ref b16), .val (.ref b21), .val (.int jx0)] []))
          refine own_iload (pc' := 303) X50 hx (hb hby at_301) rfl rfl ?_
          refine own_iconst (pc' := 304) X50 hx (1 : Int32) (hb hby at_303) rfl rfl ?_
          refine own_icmp_le (pt := 317) (pf := 307) X50 hx (hb hby at_304) rfl (by decide) rfl (fun hc304 => absurd (by decide) hc304) (fun hc304 => ?_)
          refine own_iload (pc' := 309) X50 hx (hb hby at_307) rfl rfl ?_
          refine own_iload (pc' := 311) X50 hx (hb hby at_309) rfl rfl ?_
          refine own_join (fun jx1 : Int32 => jx1 = own_sel v3 jq 1 jx0) (fun jx1 => T50.setTop (mkF m 317 #[.val (.int p0), .val (.int p1), .val (.int p2), .val (.int p3), .val (.int p4), .val (.int (2 : Int32)), .val (.int r2), .val (.int v3), .val (.int v4), .val (.int v5), .val (.int v6), .val (.int jm), .val (.int v7), .val (.int jq), .val (.ref b8), .val (.ref b10), .val (.ref b12), .val (.ref b16), .val (.ref b21), .val (.int jx1)] [])) (fun J317 => ?_) (fun jx1 hjx1 => ?_)
          · skip
            refine own_icmp_ne (pt := 317) (pf := 314) X50 hx (hb hby at_311) rfl (by decide) rfl (fun hc311 => ?_) (fun hc311 => ?_)
            · skip
              exact J317 jx0 ((if_neg hc311).symm)
            · skip
              refine own_iconst (pc' := 315) X50 hx (1 : Int32) (hb hby at_314) rfl rfl ?_
              refine own_istore (pc' := 317) (l' := #[.val (.int p0), .val (.int p1), .val (.int p2), .val (.int p3), .val (.int p4), .val (.int (2 : Int32)), .val (.int r2), .val (.int v3), .val (.int v4), .val (.int v5), .val (.int v6), .val (.int jm), .val (.int v7), .val (.int jq), .val (.ref b8), .val (.ref b10), .val (.ref b12), .val (.ref b16), .val (.ref b21), .val (.int (1 : Int32))]) X50 hx (hb hby at_315) rfl rfl rfl ?_
              exact J317 (1 : Int32) ((if_pos hc311).symm)
          · skip
            show own_WP _ _ _ _ _ _ _ (T50.setTop (mkF m 317 #[.val (.int p0), .val (.int p1), .val (.int p2), .val (.int p3), .val (.int p4), .val (.int (2 : Int32)), .val (.int r2), .val (.int v3), .val (.int v4), .val (.int v5), .val (.int v6), .val (.int jm), .val (.int v7), .val (.int jq), .val (.ref b8), .val (.ref b10), .val (.ref b12), .val (.ref b16), .val (.ref b21), .val (.int jx1)] []))
            refine own_iload (pc' := 319) X50 hx (hb hby at_317) rfl rfl ?_
            refine own_iconst (pc' := 320) X50 hx (2 : Int32) (hb hby at_319) rfl rfl ?_
            refine own_icmp_le (pt := 333) (pf := 323) X50 hx (hb hby at_320) rfl (by decide) rfl (fun hc320 => ?_) (fun hc320 => absurd hc320 (by decide))
            refine own_iload (pc' := 335) X50 hx (hb hby at_333) rfl rfl ?_
            refine own_iconst (pc' := 336) X50 hx (3 : Int32) (hb hby at_335) rfl rfl ?_
            refine own_icmp_le (pt := 349) (pf := 339) X50 hx (hb hby at_336) rfl (by decide) rfl (fun hc336 => ?_) (fun hc336 => absurd hc336 (by decide))
            refine own_aload (pc' := 351) X50 hx (hb hby at_349) rfl rfl rfl ?_
            refine own_iload (pc' := 353) X50 hx (hb hby at_351) rfl rfl ?_
            have f55 := ((((((((F11b.ext E12).keep K15 (ninS ne_b10_b12 nin0)).ext E16).keep K20 (ninS ne_b10_b16 nin0)).ext E21).keep K26 (ninS ne_b10_b21 nin0)).keep K42 (ninS ne_b10_b8 (ninS ne_b10_c9 nin0))).keep K50 (ninS ne_b10_b8 (ninS ne_b10_c9 nin0)))
            have f56 := ((((((F15b.ext E16).keep K20 (ninS ne_b12_b16 nin0)).ext E21).keep K26 (ninS ne_b12_b21 nin0)).keep K42 (ninS ne_b12_b8 (ninS ne_b12_c9 nin0))).keep K50 (ninS ne_b12_b8 (ninS ne_b12_c9 nin0)))
            refine own_callV (pc' := 356) (W := 0) (y := (⟨"com/example/kent_ridge/kentridge/query/OpenEntries", "atLevel", "(I)I"⟩ : MethodName)) (z := (⟨"com/example/kent_ridge/kentridge/query/OpenEntries", "atLevel", "(I)I"⟩ : MethodName)) X50 hx hZ hown (own_w hw 49 rfl) (own_w hw 50 rfl) (notFace_of_selects (args := #[]) (mvT hZ (own_w hw 52 rfl))) (own_w hw 52 rfl) (own_w hw 51 rfl) (own_w hw 8 rfl) (own_w hw 53 rfl) (by decide) E50q (conT2 l Z a0 hw b8 jq _ c9 k9 b10 b12 r2 v3 F50a F50c V50 f55 f56 hlt0) e50 pd3 [(.int jq)] [] rfl rfl rfl (Nat.le_of_eq rfl) (by decide) (by decide) (by rw [hml]; rfl) (hb hby at_353) (by decide) (by decide) rfl ?_
            intro v54 T54 L54 X54 q54
            obtain ⟨r54, rfl, hr54, rfl, e54⟩ := q54
            have N54 := Fr.app N50 (Fr.nil n0)
            show own_WP _ _ _ _ _ _ _ (T54.setTop (mkF m 356 #[.val (.int p0), .val (.int p1), .val (.int p2), .val (.int p3), .val (.int p4), .val (.int (2 : Int32)), .val (.int r2), .val (.int v3), .val (.int v4), .val (.int v5), .val (.int v6), .val (.int jm), .val (.int v7), .val (.int jq), .val (.ref b8), .val (.ref b10), .val (.ref b12), .val (.ref b16), .val (.ref b21), .val (.int jx1)] [(.int r54)]))
            refine own_iload (pc' := 358) X54 hx (hb hby at_356) rfl rfl ?_
            refine own_icmp_ne (pt := 365) (pf := 361) X54 hx (hb hby at_358) rfl (by decide) rfl (fun hc358 => absurd (by rw [hr54, hjx1, hjx0]) hc358) (fun hc358 => ?_)
            refine own_iconst (pc' := 362) X54 hx (1 : Int32) (hb hby at_361) rfl rfl ?_
            refine own_goto (pc' := 366) X54 hx (hb hby at_362) (by decide) rfl ?_
            refine own_retN X54 hx hlk (t := .boolean) (by decide) hret (hb hby at_366) (by decide) (by decide) ?_
            exact ⟨rfl, N54⟩
      · subst hid
        show own_WP _ _ _ _ _ _ _ (T26.setTop (mkF m 232 #[.val (.int p0), .val (.int p1), .val (.int p2), .val (.int p3), .val (.int p4), .val (.int (3 : Int32)), .val (.int r2), .val (.int v3), .val (.int v4), .val (.int v5), .val (.int v6), .val (.int jm), .val (.int v7), .val (.int jq), .val (.ref b8), .val (.ref b10), .val (.ref b12), .val (.ref b16), .val (.ref b21), .unset] []))
        refine own_iload (pc' := 234) X26 hx (hb hby at_232) rfl rfl ?_
        refine own_if_le (pt := 244) (pf := 237) X26 hx (hb hby at_234) rfl (by decide) rfl (fun hc234 => absurd (by decide) hc234) (fun hc234 => ?_)
        refine own_aload (pc' := 239) X26 hx (hb hby at_237) rfl rfl rfl ?_
        refine own_aload (pc' := 241) X26 hx (hb hby at_239) rfl rfl rfl ?_
        have f58 := ((f24.ext E21).keep K26)
        have f59 := ((((((((F9a.ext E10).keep K11 (ninS ne_b8_b10 nin0)).ext E12).keep K15 (ninS ne_b8_b12 nin0)).ext E16).keep K20 (ninS ne_b8_b16 nin0)).ext E21).keep K26 (ninS ne_b8_b21 nin0))
        have f60 := ((((((((F9b.ext E10).keep K11 (ninS ne_b8_b10 nin0)).ext E12).keep K15 (ninS ne_b8_b12 nin0)).ext E16).keep K20 (ninS ne_b8_b16 nin0)).ext E21).keep K26 (ninS ne_b8_b21 nin0))
        have f61 := ((((((((F9c.ext E10).keep K11 (ninS ne_b8_b10 nin0)).ext E12).keep K15 (ninS ne_b8_b12 nin0)).ext E16).keep K20 (ninS ne_b8_b16 nin0)).ext E21).keep K26 (ninS ne_b8_b21 nin0))
        have f62 := ((f25.ext E21).keep K26 (ninS ne_c9_b21 nin0))
        have f63 := ((f22.ext E21).keep K26)
        have f64 := ((((((F11a.ext E12).keep K15 (ninS ne_b10_b12 nin0)).ext E16).keep K20 (ninS ne_b10_b16 nin0)).ext E21).keep K26 (ninS ne_b10_b21 nin0))
        refine own_callV (pc' := 244) (W := 0) (y := (⟨"com/example/kent_ridge/kentridge/query/OpenEntries", "add", "(Lcom/example/kent_ridge/kentridge/query/OpenEntries$Open;)V"⟩ : MethodName)) (z := (⟨"com/example/kent_ridge/kentridge/query/OpenEntries", "add", "(Lcom/example/kent_ridge/kentridge/query/OpenEntries$Open;)V"⟩ : MethodName)) X26 hx hZ hown (own_w hw 56 rfl) (own_w hw 57 rfl) (notFace_of_selects (args := #[]) (mvT hZ (own_w hw 59 rfl))) (own_w hw 59 rfl) (own_w hw 58 rfl) (own_w hw 8 rfl) (own_w hw 60 rfl) (by decide) f58 (conA0 l Z a0 hw b8 b10 _ n0 z26 c9 k9 (1 : Int32) (0 : Int32) f58 f59 f60 f61 f62 O9 f63 f64 ne_b8_c9 ne_c9_b8 g_b8 g_c9) e26 pd4 [(.ref b10)] [] rfl rfl rfl (Nat.le_of_eq rfl) (by decide) (by decide) (by rw [hml]; rfl) (hb hby at_241) (by decide) (by decide) rfl ?_
        intro v57 T57 L57 X57 q57
        obtain ⟨sv57, rfl, M57, K57, E57q, F57a, F57b, F57c, V57⟩ := q57
        obtain ⟨h57, e57⟩ : ∃ z, z = T57.heap := ⟨_, rfl⟩
        rw [← e57] at K57 E57q F57a F57b F57c V57
        have e57 := e57.symm
        have z57 : n0 ≤ h57.size := Nat.le_trans z26 K57.1
        have N57 := Fr.app N26 M57
        show own_WP _ _ _ _ _ _ _ (T57.setTop (mkF m 244 #[.val (.int p0), .val (.int p1), .val (.int p2), .val (.int p3), .val (.int p4), .val (.int (3 : Int32)), .val (.int r2), .val (.int v3), .val (.int v4), .val (.int v5), .val (.int v6), .val (.int jm), .val (.int v7), .val (.int jq), .val (.ref b8), .val (.ref b10), .val (.ref b12), .val (.ref b16), .val (.ref b21), .unset] []))
        refine own_iload (pc' := 246) X57 hx (hb hby at_244) rfl rfl ?_
        refine own_iconst (pc' := 247) X57 hx (1 : Int32) (hb hby at_246) rfl rfl ?_
        refine own_icmp_le (pt := 257) (pf := 250) X57 hx (hb hby at_247) rfl (by decide) rfl (fun hc247 => absurd (by decide) hc247) (fun hc247 => ?_)
        refine own_aload (pc' := 252) X57 hx (hb hby at_250) rfl rfl rfl ?_
        refine own_aload (pc' := 254) X57 hx (hb hby at_252) rfl rfl rfl ?_
        have f66 := (((f23.ext E21).keep K26).keep K57)
        have f67 := (((((F15a.ext E16).keep K20 (ninS ne_b12_b16 nin0)).ext E21).keep K26 (ninS ne_b12_b21 nin0)).keep K57 (ninS ne_b12_b8 (ninS ne_b12_c9 nin0)))
        have f68 := (f64.keep K57 (ninS ne_b10_b8 (ninS ne_b10_c9 nin0)))
        refine own_callV (pc' := 257) (W := 0) (y := (⟨"com/example/kent_ridge/kentridge/query/OpenEntries", "add", "(Lcom/example/kent_ridge/kentridge/query/OpenEntries$Open;)V"⟩ : MethodName)) (z := (⟨"com/example/kent_ridge/kentridge/query/OpenEntries", "add", "(Lcom/example/kent_ridge/kentridge/query/OpenEntries$Open;)V"⟩ : MethodName)) X57 hx hZ hown (own_w hw 56 rfl) (own_w hw 57 rfl) (notFace_of_selects (args := #[]) (mvT hZ (own_w hw 59 rfl))) (own_w hw 59 rfl) (own_w hw 58 rfl) (own_w hw 8 rfl) (own_w hw 60 rfl) (by decide) E57q (conA1 l Z a0 hw b8 b12 _ n0 z57 c9 k9 sv57 (1 : Int32) b10 (0 : Int32) E57q F57a F57b F57c V57 O9 f66 f67 f68 ne_b8_c9 ne_c9_b8 g_b8 g_c9) e57 pd4 [(.ref b12)] [] rfl rfl rfl (Nat.le_of_eq rfl) (by decide) (by decide) (by rw [hml]; rfl) (hb hby at_254) (by decide) (by decide) rfl ?_
        intro v65 T65 L65 X65 q65
        obtain ⟨sv65, rfl, M65, K65, E65q, F65a, F65b, F65c, V65⟩ := q65
        obtain ⟨h65, e65⟩ : ∃ z, z = T65.heap := ⟨_, rfl⟩
        rw [← e65] at K65 E65q F65a F65b F65c V65
        have e65 := e65.symm
        have z65 : n0 ≤ h65.size := Nat.le_trans z57 K65.1
        have N65 := Fr.app N57 M65
        show own_WP _ _ _ _ _ _ _ (T65.setTop (mkF m 257 #[.val (.int p0), .val (.int p1), .val (.int p2), .val (.int p3), .val (.int p4), .val (.int (3 : Int32)), .val (.int r2), .val (.int v3), .val (.int v4), .val (.int v5), .val (.int v6), .val (.int jm), .val (.int v7), .val (.int jq), .val (.ref b8), .val (.ref b10), .val (.ref b12), .val (.ref b16), .val (.ref b21), .unset] []))
        refine own_iload (pc' := 259) X65 hx (hb hby at_257) rfl rfl ?_
        refine own_iconst (pc' := 260) X65 hx (2 : Int32) (hb hby at_259) rfl rfl ?_
        refine own_icmp_le (pt := 270) (pf := 263) X65 hx (hb hby at_260) rfl (by decide) rfl (fun hc260 => absurd (by decide) hc260) (fun hc260 => ?_)
        refine own_aload (pc' := 265) X65 hx (hb hby at_263) rfl rfl rfl ?_
        refine own_aload (pc' := 267) X65 hx (hb hby at_265) rfl rfl rfl ?_
        have f70 := ((((E20q.ext E21).keep K26).keep K57).keep K65)
        have f71 := ((((F20a.ext E21).keep K26 (ninS ne_b16_b21 nin0)).keep K57 (ninS ne_b16_b8 (ninS ne_b16_c9 nin0))).keep K65 (ninS ne_b16_b8 (ninS ne_b16_c9 nin0)))
        have f72 := (f67.keep K65 (ninS ne_b12_b8 (ninS ne_b12_c9 nin0)))
        refine own_callV (pc' := 270) (W := 0) (y := (⟨"com/example/kent_ridge/kentridge/query/OpenEntries", "add", "(Lcom/example/kent_ridge/kentridge/query/OpenEntries$Open;)V"⟩ : MethodName)) (z := (⟨"com/example/kent_ridge/kentridge/query/OpenEntries", "add", "(Lcom/example/kent_ridge/kentridge/query/OpenEntries$Open;)V"⟩ : MethodName)) X65 hx hZ hown (own_w hw 56 rfl) (own_w hw 57 rfl) (notFace_of_selects (args := #[]) (mvT hZ (own_w hw 59 rfl))) (own_w hw 59 rfl) (own_w hw 58 rfl) (own_w hw 8 rfl) (own_w hw 60 rfl) (by decide) E65q (conA2 l Z a0 hw b8 b16 _ n0 z65 c9 k9 sv65 (2 : Int32) b10 b12 (1 : Int32) E65q F65a F65b F65c V65 O9 f70 f71 f72 ne_b8_c9 ne_c9_b8 g_b8 g_c9) e65 pd4 [(.ref b16)] [] rfl rfl rfl (Nat.le_of_eq rfl) (by decide) (by decide) (by rw [hml]; rfl) (hb hby at_267) (by decide) (by decide) rfl ?_
        intro v69 T69 L69 X69 q69
        obtain ⟨sv69, rfl, M69, K69, E69q, F69a, F69b, F69c, V69⟩ := q69
        obtain ⟨h69, e69⟩ : ∃ z, z = T69.heap := ⟨_, rfl⟩
        rw [← e69] at K69 E69q F69a F69b F69c V69
        have e69 := e69.symm
        have z69 : n0 ≤ h69.size := Nat.le_trans z65 K69.1
        have N69 := Fr.app N65 M69
        show own_WP _ _ _ _ _ _ _ (T69.setTop (mkF m 270 #[.val (.int p0), .val (.int p1), .val (.int p2), .val (.int p3), .val (.int p4), .val (.int (3 : Int32)), .val (.int r2), .val (.int v3), .val (.int v4), .val (.int v5), .val (.int v6), .val (.int jm), .val (.int v7), .val (.int jq), .val (.ref b8), .val (.ref b10), .val (.ref b12), .val (.ref b16), .val (.ref b21), .unset] []))
        refine own_iload (pc' := 272) X69 hx (hb hby at_270) rfl rfl ?_
        refine own_iconst (pc' := 273) X69 hx (3 : Int32) (hb hby at_272) rfl rfl ?_
        refine own_icmp_le (pt := 283) (pf := 276) X69 hx (hb hby at_273) rfl (by decide) rfl (fun hc273 => ?_) (fun hc273 => absurd hc273 (by decide))
        refine own_iconst (pc' := 284) X69 hx (-1 : Int32) (hb hby at_283) rfl rfl ?_
        refine own_istore (pc' := 286) (l' := #[.val (.int p0), .val (.int p1), .val (.int p2), .val (.int p3), .val (.int p4), .val (.int (3 : Int32)), .val (.int r2), .val (.int v3), .val (.int v4), .val (.int v5), .val (.int v6), .val (.int jm), .val (.int v7), .val (.int jq), .val (.ref b8), .val (.ref b10), .val (.ref b12), .val (.ref b16), .val (.ref b21), .val (.int (-1 : Int32))]) X69 hx (hb hby at_284) rfl rfl rfl ?_
        refine own_iload (pc' := 288) X69 hx (hb hby at_286) rfl rfl ?_
        refine own_if_le (pt := 301) (pf := 291) X69 hx (hb hby at_288) rfl (by decide) rfl (fun hc288 => absurd (by decide) hc288) (fun hc288 => ?_)
        refine own_iload (pc' := 293) X69 hx (hb hby at_291) rfl rfl ?_
        refine own_iload (pc' := 295) X69 hx (hb hby at_293) rfl rfl ?_
        refine own_join (fun jx0 : Int32 => jx0 = own_sel r2 jq 0 (-1 : Int32)) (fun jx0 => T69.setTop (mkF m 301 #[.val (.int p0), .val (.int p1), .val (.int p2), .val (.int p3), .val (.int p4), .val (.int (3 : Int32)), .val (.int r2), .val (.int v3), .val (.int v4), .val (.int v5), .val (.int v6), .val (.int jm), .val (.int v7), .val (.int jq), .val (.ref b8), .val (.ref b10), .val (.ref b12), .val (.ref b16), .val (.ref b21), .val (.int jx0)] [])) (fun J301 => ?_) (fun jx0 hjx0 => ?_)
        · skip
          refine own_icmp_ne (pt := 301) (pf := 298) X69 hx (hb hby at_295) rfl (by decide) rfl (fun hc295 => ?_) (fun hc295 => ?_)
          · skip
            exact J301 (-1 : Int32) ((if_neg hc295).symm)
          · skip
            refine own_iconst (pc' := 299) X69 hx (0 : Int32) (hb hby at_298) rfl rfl ?_
            refine own_istore (pc' := 301) (l' := #[.val (.int p0), .val (.int p1), .val (.int p2), .val (.int p3), .val (.int p4), .val (.int (3 : Int32)), .val (.int r2), .val (.int v3), .val (.int v4), .val (.int v5), .val (.int v6), .val (.int jm), .val (.int v7), .val (.int jq), .val (.ref b8), .val (.ref b10), .val (.ref b12), .val (.ref b16), .val (.ref b21), .val (.int (0 : Int32))]) X69 hx (hb hby at_299) rfl rfl rfl ?_
            exact J301 (0 : Int32) ((if_pos hc295).symm)
        · skip
          show own_WP _ _ _ _ _ _ _ (T69.setTop (mkF m 301 #[.val (.int p0), .val (.int p1), .val (.int p2), .val (.int p3), .val (.int p4), .val (.int (3 : Int32)), .val (.int r2), .val (.int v3), .val (.int v4), .val (.int v5), .val (.int v6), .val (.int jm), .val (.int v7), .val (.int jq), .val (.ref b8), .val (.ref b10), .val (.ref b12), .val (.ref b16), .val (.ref b21), .val (.int jx0)] []))
          refine own_iload (pc' := 303) X69 hx (hb hby at_301) rfl rfl ?_
          refine own_iconst (pc' := 304) X69 hx (1 : Int32) (hb hby at_303) rfl rfl ?_
          refine own_icmp_le (pt := 317) (pf := 307) X69 hx (hb hby at_304) rfl (by decide) rfl (fun hc304 => absurd (by decide) hc304) (fun hc304 => ?_)
          refine own_iload (pc' := 309) X69 hx (hb hby at_307) rfl rfl ?_
          refine own_iload (pc' := 311) X69 hx (hb hby at_309) rfl rfl ?_
          refine own_join (fun jx1 : Int32 => jx1 = own_sel v3 jq 1 jx0) (fun jx1 => T69.setTop (mkF m 317 #[.val (.int p0), .val (.int p1), .val (.int p2), .val (.int p3), .val (.int p4), .val (.int (3 : Int32)), .val (.int r2), .val (.int v3), .val (.int v4), .val (.int v5), .val (.int v6), .val (.int jm), .val (.int v7), .val (.int jq), .val (.ref b8), .val (.ref b10), .val (.ref b12), .val (.ref b16), .val (.ref b21), .val (.int jx1)] [])) (fun J317 => ?_) (fun jx1 hjx1 => ?_)
          · skip
            refine own_icmp_ne (pt := 317) (pf := 314) X69 hx (hb hby at_311) rfl (by decide) rfl (fun hc311 => ?_) (fun hc311 => ?_)
            · skip
              exact J317 jx0 ((if_neg hc311).symm)
            · skip
              refine own_iconst (pc' := 315) X69 hx (1 : Int32) (hb hby at_314) rfl rfl ?_
              refine own_istore (pc' := 317) (l' := #[.val (.int p0), .val (.int p1), .val (.int p2), .val (.int p3), .val (.int p4), .val (.int (3 : Int32)), .val (.int r2), .val (.int v3), .val (.int v4), .val (.int v5), .val (.int v6), .val (.int jm), .val (.int v7), .val (.int jq), .val (.ref b8), .val (.ref b10), .val (.ref b12), .val (.ref b16), .val (.ref b21), .val (.int (1 : Int32))]) X69 hx (hb hby at_315) rfl rfl rfl ?_
              exact J317 (1 : Int32) ((if_pos hc311).symm)
          · skip
            show own_WP _ _ _ _ _ _ _ (T69.setTop (mkF m 317 #[.val (.int p0), .val (.int p1), .val (.int p2), .val (.int p3), .val (.int p4), .val (.int (3 : Int32)), .val (.int r2), .val (.int v3), .val (.int v4), .val (.int v5), .val (.int v6), .val (.int jm), .val (.int v7), .val (.int jq), .val (.ref b8), .val (.ref b10), .val (.ref b12), .val (.ref b16), .val (.ref b21), .val (.int jx1)] []))
            refine own_iload (pc' := 319) X69 hx (hb hby at_317) rfl rfl ?_
            refine own_iconst (pc' := 320) X69 hx (2 : Int32) (hb hby at_319) rfl rfl ?_
            refine own_icmp_le (pt := 333) (pf := 323) X69 hx (hb hby at_320) rfl (by decide) rfl (fun hc320 => absurd (by decide) hc320) (fun hc320 => ?_)
            refine own_iload (pc' := 325) X69 hx (hb hby at_323) rfl rfl ?_
            refine own_iload (pc' := 327) X69 hx (hb hby at_325) rfl rfl ?_
            refine own_join (fun jx2 : Int32 => jx2 = own_sel v4 jq 2 jx1) (fun jx2 => T69.setTop (mkF m 333 #[.val (.int p0), .val (.int p1), .val (.int p2), .val (.int p3), .val (.int p4), .val (.int (3 : Int32)), .val (.int r2), .val (.int v3), .val (.int v4), .val (.int v5), .val (.int v6), .val (.int jm), .val (.int v7), .val (.int jq), .val (.ref b8), .val (.ref b10), .val (.ref b12), .val (.ref b16), .val (.ref b21), .val (.int jx2)] [])) (fun J333 => ?_) (fun jx2 hjx2 => ?_)
            · skip
              refine own_icmp_ne (pt := 333) (pf := 330) X69 hx (hb hby at_327) rfl (by decide) rfl (fun hc327 => ?_) (fun hc327 => ?_)
              · skip
                exact J333 jx1 ((if_neg hc327).symm)
              · skip
                refine own_iconst (pc' := 331) X69 hx (2 : Int32) (hb hby at_330) rfl rfl ?_
                refine own_istore (pc' := 333) (l' := #[.val (.int p0), .val (.int p1), .val (.int p2), .val (.int p3), .val (.int p4), .val (.int (3 : Int32)), .val (.int r2), .val (.int v3), .val (.int v4), .val (.int v5), .val (.int v6), .val (.int jm), .val (.int v7), .val (.int jq), .val (.ref b8), .val (.ref b10), .val (.ref b12), .val (.ref b16), .val (.ref b21), .val (.int (2 : Int32))]) X69 hx (hb hby at_331) rfl rfl rfl ?_
                exact J333 (2 : Int32) ((if_pos hc327).symm)
            · skip
              show own_WP _ _ _ _ _ _ _ (T69.setTop (mkF m 333 #[.val (.int p0), .val (.int p1), .val (.int p2), .val (.int p3), .val (.int p4), .val (.int (3 : Int32)), .val (.int r2), .val (.int v3), .val (.int v4), .val (.int v5), .val (.int v6), .val (.int jm), .val (.int v7), .val (.int jq), .val (.ref b8), .val (.ref b10), .val (.ref b12), .val (.ref b16), .val (.ref b21), .val (.int jx2)] []))
              refine own_iload (pc' := 335) X69 hx (hb hby at_333) rfl rfl ?_
              refine own_iconst (pc' := 336) X69 hx (3 : Int32) (hb hby at_335) rfl rfl ?_
              refine own_icmp_le (pt := 349) (pf := 339) X69 hx (hb hby at_336) rfl (by decide) rfl (fun hc336 => ?_) (fun hc336 => absurd hc336 (by decide))
              refine own_aload (pc' := 351) X69 hx (hb hby at_349) rfl rfl rfl ?_
              refine own_iload (pc' := 353) X69 hx (hb hby at_351) rfl rfl ?_
              have f74 := (((((((((F11b.ext E12).keep K15 (ninS ne_b10_b12 nin0)).ext E16).keep K20 (ninS ne_b10_b16 nin0)).ext E21).keep K26 (ninS ne_b10_b21 nin0)).keep K57 (ninS ne_b10_b8 (ninS ne_b10_c9 nin0))).keep K65 (ninS ne_b10_b8 (ninS ne_b10_c9 nin0))).keep K69 (ninS ne_b10_b8 (ninS ne_b10_c9 nin0)))
              have f75 := (((((((F15b.ext E16).keep K20 (ninS ne_b12_b16 nin0)).ext E21).keep K26 (ninS ne_b12_b21 nin0)).keep K57 (ninS ne_b12_b8 (ninS ne_b12_c9 nin0))).keep K65 (ninS ne_b12_b8 (ninS ne_b12_c9 nin0))).keep K69 (ninS ne_b12_b8 (ninS ne_b12_c9 nin0)))
              have f76 := (((((F20b.ext E21).keep K26 (ninS ne_b16_b21 nin0)).keep K57 (ninS ne_b16_b8 (ninS ne_b16_c9 nin0))).keep K65 (ninS ne_b16_b8 (ninS ne_b16_c9 nin0))).keep K69 (ninS ne_b16_b8 (ninS ne_b16_c9 nin0)))
              refine own_callV (pc' := 356) (W := 0) (y := (⟨"com/example/kent_ridge/kentridge/query/OpenEntries", "atLevel", "(I)I"⟩ : MethodName)) (z := (⟨"com/example/kent_ridge/kentridge/query/OpenEntries", "atLevel", "(I)I"⟩ : MethodName)) X69 hx hZ hown (own_w hw 49 rfl) (own_w hw 50 rfl) (notFace_of_selects (args := #[]) (mvT hZ (own_w hw 52 rfl))) (own_w hw 52 rfl) (own_w hw 51 rfl) (own_w hw 8 rfl) (own_w hw 53 rfl) (by decide) E69q (conT3 l Z a0 hw b8 jq _ c9 k9 b10 b12 b16 r2 v3 v4 F69a F69c V69 f74 f75 f76 hlt0 hlt1) e69 pd3 [(.int jq)] [] rfl rfl rfl (Nat.le_of_eq rfl) (by decide) (by decide) (by rw [hml]; rfl) (hb hby at_353) (by decide) (by decide) rfl ?_
              intro v73 T73 L73 X73 q73
              obtain ⟨r73, rfl, hr73, rfl, e73⟩ := q73
              have N73 := Fr.app N69 (Fr.nil n0)
              show own_WP _ _ _ _ _ _ _ (T73.setTop (mkF m 356 #[.val (.int p0), .val (.int p1), .val (.int p2), .val (.int p3), .val (.int p4), .val (.int (3 : Int32)), .val (.int r2), .val (.int v3), .val (.int v4), .val (.int v5), .val (.int v6), .val (.int jm), .val (.int v7), .val (.int jq), .val (.ref b8), .val (.ref b10), .val (.ref b12), .val (.ref b16), .val (.ref b21), .val (.int jx2)] [(.int r73)]))
              refine own_iload (pc' := 358) X73 hx (hb hby at_356) rfl rfl ?_
              refine own_icmp_ne (pt := 365) (pf := 361) X73 hx (hb hby at_358) rfl (by decide) rfl (fun hc358 => absurd (by rw [hr73, hjx2, hjx1, hjx0]) hc358) (fun hc358 => ?_)
              refine own_iconst (pc' := 362) X73 hx (1 : Int32) (hb hby at_361) rfl rfl ?_
              refine own_goto (pc' := 366) X73 hx (hb hby at_362) (by decide) rfl ?_
              refine own_retN X73 hx hlk (t := .boolean) (by decide) hret (hb hby at_366) (by decide) (by decide) ?_
              exact ⟨rfl, N73⟩
      · subst hid
        show own_WP _ _ _ _ _ _ _ (T26.setTop (mkF m 232 #[.val (.int p0), .val (.int p1), .val (.int p2), .val (.int p3), .val (.int p4), .val (.int (4 : Int32)), .val (.int r2), .val (.int v3), .val (.int v4), .val (.int v5), .val (.int v6), .val (.int jm), .val (.int v7), .val (.int jq), .val (.ref b8), .val (.ref b10), .val (.ref b12), .val (.ref b16), .val (.ref b21), .unset] []))
        refine own_iload (pc' := 234) X26 hx (hb hby at_232) rfl rfl ?_
        refine own_if_le (pt := 244) (pf := 237) X26 hx (hb hby at_234) rfl (by decide) rfl (fun hc234 => absurd (by decide) hc234) (fun hc234 => ?_)
        refine own_aload (pc' := 239) X26 hx (hb hby at_237) rfl rfl rfl ?_
        refine own_aload (pc' := 241) X26 hx (hb hby at_239) rfl rfl rfl ?_
        have f78 := ((f24.ext E21).keep K26)
        have f79 := ((((((((F9a.ext E10).keep K11 (ninS ne_b8_b10 nin0)).ext E12).keep K15 (ninS ne_b8_b12 nin0)).ext E16).keep K20 (ninS ne_b8_b16 nin0)).ext E21).keep K26 (ninS ne_b8_b21 nin0))
        have f80 := ((((((((F9b.ext E10).keep K11 (ninS ne_b8_b10 nin0)).ext E12).keep K15 (ninS ne_b8_b12 nin0)).ext E16).keep K20 (ninS ne_b8_b16 nin0)).ext E21).keep K26 (ninS ne_b8_b21 nin0))
        have f81 := ((((((((F9c.ext E10).keep K11 (ninS ne_b8_b10 nin0)).ext E12).keep K15 (ninS ne_b8_b12 nin0)).ext E16).keep K20 (ninS ne_b8_b16 nin0)).ext E21).keep K26 (ninS ne_b8_b21 nin0))
        have f82 := ((f25.ext E21).keep K26 (ninS ne_c9_b21 nin0))
        have f83 := ((f22.ext E21).keep K26)
        have f84 := ((((((F11a.ext E12).keep K15 (ninS ne_b10_b12 nin0)).ext E16).keep K20 (ninS ne_b10_b16 nin0)).ext E21).keep K26 (ninS ne_b10_b21 nin0))
        refine own_callV (pc' := 244) (W := 0) (y := (⟨"com/example/kent_ridge/kentridge/query/OpenEntries", "add", "(Lcom/example/kent_ridge/kentridge/query/OpenEntries$Open;)V"⟩ : MethodName)) (z := (⟨"com/example/kent_ridge/kentridge/query/OpenEntries", "add", "(Lcom/example/kent_ridge/kentridge/query/OpenEntries$Open;)V"⟩ : MethodName)) X26 hx hZ hown (own_w hw 56 rfl) (own_w hw 57 rfl) (notFace_of_selects (args := #[]) (mvT hZ (own_w hw 59 rfl))) (own_w hw 59 rfl) (own_w hw 58 rfl) (own_w hw 8 rfl) (own_w hw 60 rfl) (by decide) f78 (conA0 l Z a0 hw b8 b10 _ n0 z26 c9 k9 (1 : Int32) (0 : Int32) f78 f79 f80 f81 f82 O9 f83 f84 ne_b8_c9 ne_c9_b8 g_b8 g_c9) e26 pd4 [(.ref b10)] [] rfl rfl rfl (Nat.le_of_eq rfl) (by decide) (by decide) (by rw [hml]; rfl) (hb hby at_241) (by decide) (by decide) rfl ?_
        intro v77 T77 L77 X77 q77
        obtain ⟨sv77, rfl, M77, K77, E77q, F77a, F77b, F77c, V77⟩ := q77
        obtain ⟨h77, e77⟩ : ∃ z, z = T77.heap := ⟨_, rfl⟩
        rw [← e77] at K77 E77q F77a F77b F77c V77
        have e77 := e77.symm
        have z77 : n0 ≤ h77.size := Nat.le_trans z26 K77.1
        have N77 := Fr.app N26 M77
        show own_WP _ _ _ _ _ _ _ (T77.setTop (mkF m 244 #[.val (.int p0), .val (.int p1), .val (.int p2), .val (.int p3), .val (.int p4), .val (.int (4 : Int32)), .val (.int r2), .val (.int v3), .val (.int v4), .val (.int v5), .val (.int v6), .val (.int jm), .val (.int v7), .val (.int jq), .val (.ref b8), .val (.ref b10), .val (.ref b12), .val (.ref b16), .val (.ref b21), .unset] []))
        refine own_iload (pc' := 246) X77 hx (hb hby at_244) rfl rfl ?_
        refine own_iconst (pc' := 247) X77 hx (1 : Int32) (hb hby at_246) rfl rfl ?_
        refine own_icmp_le (pt := 257) (pf := 250) X77 hx (hb hby at_247) rfl (by decide) rfl (fun hc247 => absurd (by decide) hc247) (fun hc247 => ?_)
        refine own_aload (pc' := 252) X77 hx (hb hby at_250) rfl rfl rfl ?_
        refine own_aload (pc' := 254) X77 hx (hb hby at_252) rfl rfl rfl ?_
        have f86 := (((f23.ext E21).keep K26).keep K77)
        have f87 := (((((F15a.ext E16).keep K20 (ninS ne_b12_b16 nin0)).ext E21).keep K26 (ninS ne_b12_b21 nin0)).keep K77 (ninS ne_b12_b8 (ninS ne_b12_c9 nin0)))
        have f88 := (f84.keep K77 (ninS ne_b10_b8 (ninS ne_b10_c9 nin0)))
        refine own_callV (pc' := 257) (W := 0) (y := (⟨"com/example/kent_ridge/kentridge/query/OpenEntries", "add", "(Lcom/example/kent_ridge/kentridge/query/OpenEntries$Open;)V"⟩ : MethodName)) (z := (⟨"com/example/kent_ridge/kentridge/query/OpenEntries", "add", "(Lcom/example/kent_ridge/kentridge/query/OpenEntries$Open;)V"⟩ : MethodName)) X77 hx hZ hown (own_w hw 56 rfl) (own_w hw 57 rfl) (notFace_of_selects (args := #[]) (mvT hZ (own_w hw 59 rfl))) (own_w hw 59 rfl) (own_w hw 58 rfl) (own_w hw 8 rfl) (own_w hw 60 rfl) (by decide) E77q (conA1 l Z a0 hw b8 b12 _ n0 z77 c9 k9 sv77 (1 : Int32) b10 (0 : Int32) E77q F77a F77b F77c V77 O9 f86 f87 f88 ne_b8_c9 ne_c9_b8 g_b8 g_c9) e77 pd4 [(.ref b12)] [] rfl rfl rfl (Nat.le_of_eq rfl) (by decide) (by decide) (by rw [hml]; rfl) (hb hby at_254) (by decide) (by decide) rfl ?_
        intro v85 T85 L85 X85 q85
        obtain ⟨sv85, rfl, M85, K85, E85q, F85a, F85b, F85c, V85⟩ := q85
        obtain ⟨h85, e85⟩ : ∃ z, z = T85.heap := ⟨_, rfl⟩
        rw [← e85] at K85 E85q F85a F85b F85c V85
        have e85 := e85.symm
        have z85 : n0 ≤ h85.size := Nat.le_trans z77 K85.1
        have N85 := Fr.app N77 M85
        show own_WP _ _ _ _ _ _ _ (T85.setTop (mkF m 257 #[.val (.int p0), .val (.int p1), .val (.int p2), .val (.int p3), .val (.int p4), .val (.int (4 : Int32)), .val (.int r2), .val (.int v3), .val (.int v4), .val (.int v5), .val (.int v6), .val (.int jm), .val (.int v7), .val (.int jq), .val (.ref b8), .val (.ref b10), .val (.ref b12), .val (.ref b16), .val (.ref b21), .unset] []))
        refine own_iload (pc' := 259) X85 hx (hb hby at_257) rfl rfl ?_
        refine own_iconst (pc' := 260) X85 hx (2 : Int32) (hb hby at_259) rfl rfl ?_
        refine own_icmp_le (pt := 270) (pf := 263) X85 hx (hb hby at_260) rfl (by decide) rfl (fun hc260 => absurd (by decide) hc260) (fun hc260 => ?_)
        refine own_aload (pc' := 265) X85 hx (hb hby at_263) rfl rfl rfl ?_
        refine own_aload (pc' := 267) X85 hx (hb hby at_265) rfl rfl rfl ?_
        have f90 := ((((E20q.ext E21).keep K26).keep K77).keep K85)
        have f91 := ((((F20a.ext E21).keep K26 (ninS ne_b16_b21 nin0)).keep K77 (ninS ne_b16_b8 (ninS ne_b16_c9 nin0))).keep K85 (ninS ne_b16_b8 (ninS ne_b16_c9 nin0)))
        have f92 := (f87.keep K85 (ninS ne_b12_b8 (ninS ne_b12_c9 nin0)))
        refine own_callV (pc' := 270) (W := 0) (y := (⟨"com/example/kent_ridge/kentridge/query/OpenEntries", "add", "(Lcom/example/kent_ridge/kentridge/query/OpenEntries$Open;)V"⟩ : MethodName)) (z := (⟨"com/example/kent_ridge/kentridge/query/OpenEntries", "add", "(Lcom/example/kent_ridge/kentridge/query/OpenEntries$Open;)V"⟩ : MethodName)) X85 hx hZ hown (own_w hw 56 rfl) (own_w hw 57 rfl) (notFace_of_selects (args := #[]) (mvT hZ (own_w hw 59 rfl))) (own_w hw 59 rfl) (own_w hw 58 rfl) (own_w hw 8 rfl) (own_w hw 60 rfl) (by decide) E85q (conA2 l Z a0 hw b8 b16 _ n0 z85 c9 k9 sv85 (2 : Int32) b10 b12 (1 : Int32) E85q F85a F85b F85c V85 O9 f90 f91 f92 ne_b8_c9 ne_c9_b8 g_b8 g_c9) e85 pd4 [(.ref b16)] [] rfl rfl rfl (Nat.le_of_eq rfl) (by decide) (by decide) (by rw [hml]; rfl) (hb hby at_267) (by decide) (by decide) rfl ?_
        intro v89 T89 L89 X89 q89
        obtain ⟨sv89, rfl, M89, K89, E89q, F89a, F89b, F89c, V89⟩ := q89
        obtain ⟨h89, e89⟩ : ∃ z, z = T89.heap := ⟨_, rfl⟩
        rw [← e89] at K89 E89q F89a F89b F89c V89
        have e89 := e89.symm
        have z89 : n0 ≤ h89.size := Nat.le_trans z85 K89.1
        have N89 := Fr.app N85 M89
        show own_WP _ _ _ _ _ _ _ (T89.setTop (mkF m 270 #[.val (.int p0), .val (.int p1), .val (.int p2), .val (.int p3), .val (.int p4), .val (.int (4 : Int32)), .val (.int r2), .val (.int v3), .val (.int v4), .val (.int v5), .val (.int v6), .val (.int jm), .val (.int v7), .val (.int jq), .val (.ref b8), .val (.ref b10), .val (.ref b12), .val (.ref b16), .val (.ref b21), .unset] []))
        refine own_iload (pc' := 272) X89 hx (hb hby at_270) rfl rfl ?_
        refine own_iconst (pc' := 273) X89 hx (3 : Int32) (hb hby at_272) rfl rfl ?_
        refine own_icmp_le (pt := 283) (pf := 276) X89 hx (hb hby at_273) rfl (by decide) rfl (fun hc273 => absurd (by decide) hc273) (fun hc273 => ?_)
        refine own_aload (pc' := 278) X89 hx (hb hby at_276) rfl rfl rfl ?_
        refine own_aload (pc' := 280) X89 hx (hb hby at_278) rfl rfl rfl ?_
        have f94 := (((E26q.keep K77).keep K85).keep K89)
        have f95 := (((F26a.keep K77 (ninS ne_b21_b8 (ninS ne_b21_c9 nin0))).keep K85 (ninS ne_b21_b8 (ninS ne_b21_c9 nin0))).keep K89 (ninS ne_b21_b8 (ninS ne_b21_c9 nin0)))
        have f96 := (f91.keep K89 (ninS ne_b16_b8 (ninS ne_b16_c9 nin0)))
        refine own_callV (pc' := 283) (W := 0) (y := (⟨"com/example/kent_ridge/kentridge/query/OpenEntries", "add", "(Lcom/example/kent_ridge/kentridge/query/OpenEntries$Open;)V"⟩ : MethodName)) (z := (⟨"com/example/kent_ridge/kentridge/query/OpenEntries", "add", "(Lcom/example/kent_ridge/kentridge/query/OpenEntries$Open;)V"⟩ : MethodName)) X89 hx hZ hown (own_w hw 56 rfl) (own_w hw 57 rfl) (notFace_of_selects (args := #[]) (mvT hZ (own_w hw 59 rfl))) (own_w hw 59 rfl) (own_w hw 58 rfl) (own_w hw 8 rfl) (own_w hw 60 rfl) (by decide) E89q (conA3 l Z a0 hw b8 b21 _ n0 z89 c9 k9 sv89 (3 : Int32) b10 b12 b16 (2 : Int32) E89q F89a F89b F89c V89 O9 f94 f95 f96 ne_b8_c9 ne_c9_b8 g_b8 g_c9) e89 pd4 [(.ref b21)] [] rfl rfl rfl (Nat.le_of_eq rfl) (by decide) (by decide) (by rw [hml]; rfl) (hb hby at_280) (by decide) (by decide) rfl ?_
        intro v93 T93 L93 X93 q93
        obtain ⟨sv93, rfl, M93, K93, E93q, F93a, F93b, F93c, V93⟩ := q93
        obtain ⟨h93, e93⟩ : ∃ z, z = T93.heap := ⟨_, rfl⟩
        rw [← e93] at K93 E93q F93a F93b F93c V93
        have e93 := e93.symm
        have z93 : n0 ≤ h93.size := Nat.le_trans z89 K93.1
        have N93 := Fr.app N89 M93
        show own_WP _ _ _ _ _ _ _ (T93.setTop (mkF m 283 #[.val (.int p0), .val (.int p1), .val (.int p2), .val (.int p3), .val (.int p4), .val (.int (4 : Int32)), .val (.int r2), .val (.int v3), .val (.int v4), .val (.int v5), .val (.int v6), .val (.int jm), .val (.int v7), .val (.int jq), .val (.ref b8), .val (.ref b10), .val (.ref b12), .val (.ref b16), .val (.ref b21), .unset] []))
        refine own_iconst (pc' := 284) X93 hx (-1 : Int32) (hb hby at_283) rfl rfl ?_
        refine own_istore (pc' := 286) (l' := #[.val (.int p0), .val (.int p1), .val (.int p2), .val (.int p3), .val (.int p4), .val (.int (4 : Int32)), .val (.int r2), .val (.int v3), .val (.int v4), .val (.int v5), .val (.int v6), .val (.int jm), .val (.int v7), .val (.int jq), .val (.ref b8), .val (.ref b10), .val (.ref b12), .val (.ref b16), .val (.ref b21), .val (.int (-1 : Int32))]) X93 hx (hb hby at_284) rfl rfl rfl ?_
        refine own_iload (pc' := 288) X93 hx (hb hby at_286) rfl rfl ?_
        refine own_if_le (pt := 301) (pf := 291) X93 hx (hb hby at_288) rfl (by decide) rfl (fun hc288 => absurd (by decide) hc288) (fun hc288 => ?_)
        refine own_iload (pc' := 293) X93 hx (hb hby at_291) rfl rfl ?_
        refine own_iload (pc' := 295) X93 hx (hb hby at_293) rfl rfl ?_
        refine own_join (fun jx0 : Int32 => jx0 = own_sel r2 jq 0 (-1 : Int32)) (fun jx0 => T93.setTop (mkF m 301 #[.val (.int p0), .val (.int p1), .val (.int p2), .val (.int p3), .val (.int p4), .val (.int (4 : Int32)), .val (.int r2), .val (.int v3), .val (.int v4), .val (.int v5), .val (.int v6), .val (.int jm), .val (.int v7), .val (.int jq), .val (.ref b8), .val (.ref b10), .val (.ref b12), .val (.ref b16), .val (.ref b21), .val (.int jx0)] [])) (fun J301 => ?_) (fun jx0 hjx0 => ?_)
        · skip
          refine own_icmp_ne (pt := 301) (pf := 298) X93 hx (hb hby at_295) rfl (by decide) rfl (fun hc295 => ?_) (fun hc295 => ?_)
          · skip
            exact J301 (-1 : Int32) ((if_neg hc295).symm)
          · skip
            refine own_iconst (pc' := 299) X93 hx (0 : Int32) (hb hby at_298) rfl rfl ?_
            refine own_istore (pc' := 301) (l' := #[.val (.int p0), .val (.int p1), .val (.int p2), .val (.int p3), .val (.int p4), .val (.int (4 : Int32)), .val (.int r2), .val (.int v3), .val (.int v4), .val (.int v5), .val (.int v6), .val (.int jm), .val (.int v7), .val (.int jq), .val (.ref b8), .val (.ref b10), .val (.ref b12), .val (.ref b16), .val (.ref b21), .val (.int (0 : Int32))]) X93 hx (hb hby at_299) rfl rfl rfl ?_
            exact J301 (0 : Int32) ((if_pos hc295).symm)
        · skip
          show own_WP _ _ _ _ _ _ _ (T93.setTop (mkF m 301 #[.val (.int p0), .val (.int p1), .val (.int p2), .val (.int p3), .val (.int p4), .val (.int (4 : Int32)), .val (.int r2), .val (.int v3), .val (.int v4), .val (.int v5), .val (.int v6), .val (.int jm), .val (.int v7), .val (.int jq), .val (.ref b8), .val (.ref b10), .val (.ref b12), .val (.ref b16), .val (.ref b21), .val (.int jx0)] []))
          refine own_iload (pc' := 303) X93 hx (hb hby at_301) rfl rfl ?_
          refine own_iconst (pc' := 304) X93 hx (1 : Int32) (hb hby at_303) rfl rfl ?_
          refine own_icmp_le (pt := 317) (pf := 307) X93 hx (hb hby at_304) rfl (by decide) rfl (fun hc304 => absurd (by decide) hc304) (fun hc304 => ?_)
          refine own_iload (pc' := 309) X93 hx (hb hby at_307) rfl rfl ?_
          refine own_iload (pc' := 311) X93 hx (hb hby at_309) rfl rfl ?_
          refine own_join (fun jx1 : Int32 => jx1 = own_sel v3 jq 1 jx0) (fun jx1 => T93.setTop (mkF m 317 #[.val (.int p0), .val (.int p1), .val (.int p2), .val (.int p3), .val (.int p4), .val (.int (4 : Int32)), .val (.int r2), .val (.int v3), .val (.int v4), .val (.int v5), .val (.int v6), .val (.int jm), .val (.int v7), .val (.int jq), .val (.ref b8), .val (.ref b10), .val (.ref b12), .val (.ref b16), .val (.ref b21), .val (.int jx1)] [])) (fun J317 => ?_) (fun jx1 hjx1 => ?_)
          · skip
            refine own_icmp_ne (pt := 317) (pf := 314) X93 hx (hb hby at_311) rfl (by decide) rfl (fun hc311 => ?_) (fun hc311 => ?_)
            · skip
              exact J317 jx0 ((if_neg hc311).symm)
            · skip
              refine own_iconst (pc' := 315) X93 hx (1 : Int32) (hb hby at_314) rfl rfl ?_
              refine own_istore (pc' := 317) (l' := #[.val (.int p0), .val (.int p1), .val (.int p2), .val (.int p3), .val (.int p4), .val (.int (4 : Int32)), .val (.int r2), .val (.int v3), .val (.int v4), .val (.int v5), .val (.int v6), .val (.int jm), .val (.int v7), .val (.int jq), .val (.ref b8), .val (.ref b10), .val (.ref b12), .val (.ref b16), .val (.ref b21), .val (.int (1 : Int32))]) X93 hx (hb hby at_315) rfl rfl rfl ?_
              exact J317 (1 : Int32) ((if_pos hc311).symm)
          · skip
            show own_WP _ _ _ _ _ _ _ (T93.setTop (mkF m 317 #[.val (.int p0), .val (.int p1), .val (.int p2), .val (.int p3), .val (.int p4), .val (.int (4 : Int32)), .val (.int r2), .val (.int v3), .val (.int v4), .val (.int v5), .val (.int v6), .val (.int jm), .val (.int v7), .val (.int jq), .val (.ref b8), .val (.ref b10), .val (.ref b12), .val (.ref b16), .val (.ref b21), .val (.int jx1)] []))
            refine own_iload (pc' := 319) X93 hx (hb hby at_317) rfl rfl ?_
            refine own_iconst (pc' := 320) X93 hx (2 : Int32) (hb hby at_319) rfl rfl ?_
            refine own_icmp_le (pt := 333) (pf := 323) X93 hx (hb hby at_320) rfl (by decide) rfl (fun hc320 => absurd (by decide) hc320) (fun hc320 => ?_)
            refine own_iload (pc' := 325) X93 hx (hb hby at_323) rfl rfl ?_
            refine own_iload (pc' := 327) X93 hx (hb hby at_325) rfl rfl ?_
            refine own_join (fun jx2 : Int32 => jx2 = own_sel v4 jq 2 jx1) (fun jx2 => T93.setTop (mkF m 333 #[.val (.int p0), .val (.int p1), .val (.int p2), .val (.int p3), .val (.int p4), .val (.int (4 : Int32)), .val (.int r2), .val (.int v3), .val (.int v4), .val (.int v5), .val (.int v6), .val (.int jm), .val (.int v7), .val (.int jq), .val (.ref b8), .val (.ref b10), .val (.ref b12), .val (.ref b16), .val (.ref b21), .val (.int jx2)] [])) (fun J333 => ?_) (fun jx2 hjx2 => ?_)
            · skip
              refine own_icmp_ne (pt := 333) (pf := 330) X93 hx (hb hby at_327) rfl (by decide) rfl (fun hc327 => ?_) (fun hc327 => ?_)
              · skip
                exact J333 jx1 ((if_neg hc327).symm)
              · skip
                refine own_iconst (pc' := 331) X93 hx (2 : Int32) (hb hby at_330) rfl rfl ?_
                refine own_istore (pc' := 333) (l' := #[.val (.int p0), .val (.int p1), .val (.int p2), .val (.int p3), .val (.int p4), .val (.int (4 : Int32)), .val (.int r2), .val (.int v3), .val (.int v4), .val (.int v5), .val (.int v6), .val (.int jm), .val (.int v7), .val (.int jq), .val (.ref b8), .val (.ref b10), .val (.ref b12), .val (.ref b16), .val (.ref b21), .val (.int (2 : Int32))]) X93 hx (hb hby at_331) rfl rfl rfl ?_
                exact J333 (2 : Int32) ((if_pos hc327).symm)
            · skip
              show own_WP _ _ _ _ _ _ _ (T93.setTop (mkF m 333 #[.val (.int p0), .val (.int p1), .val (.int p2), .val (.int p3), .val (.int p4), .val (.int (4 : Int32)), .val (.int r2), .val (.int v3), .val (.int v4), .val (.int v5), .val (.int v6), .val (.int jm), .val (.int v7), .val (.int jq), .val (.ref b8), .val (.ref b10), .val (.ref b12), .val (.ref b16), .val (.ref b21), .val (.int jx2)] []))
              refine own_iload (pc' := 335) X93 hx (hb hby at_333) rfl rfl ?_
              refine own_iconst (pc' := 336) X93 hx (3 : Int32) (hb hby at_335) rfl rfl ?_
              refine own_icmp_le (pt := 349) (pf := 339) X93 hx (hb hby at_336) rfl (by decide) rfl (fun hc336 => absurd (by decide) hc336) (fun hc336 => ?_)
              refine own_iload (pc' := 341) X93 hx (hb hby at_339) rfl rfl ?_
              refine own_iload (pc' := 343) X93 hx (hb hby at_341) rfl rfl ?_
              refine own_join (fun jx3 : Int32 => jx3 = own_sel v5 jq 3 jx2) (fun jx3 => T93.setTop (mkF m 349 #[.val (.int p0), .val (.int p1), .val (.int p2), .val (.int p3), .val (.int p4), .val (.int (4 : Int32)), .val (.int r2), .val (.int v3), .val (.int v4), .val (.int v5), .val (.int v6), .val (.int jm), .val (.int v7), .val (.int jq), .val (.ref b8), .val (.ref b10), .val (.ref b12), .val (.ref b16), .val (.ref b21), .val (.int jx3)] [])) (fun J349 => ?_) (fun jx3 hjx3 => ?_)
              · skip
                refine own_icmp_ne (pt := 349) (pf := 346) X93 hx (hb hby at_343) rfl (by decide) rfl (fun hc343 => ?_) (fun hc343 => ?_)
                · skip
                  exact J349 jx2 ((if_neg hc343).symm)
                · skip
                  refine own_iconst (pc' := 347) X93 hx (3 : Int32) (hb hby at_346) rfl rfl ?_
                  refine own_istore (pc' := 349) (l' := #[.val (.int p0), .val (.int p1), .val (.int p2), .val (.int p3), .val (.int p4), .val (.int (4 : Int32)), .val (.int r2), .val (.int v3), .val (.int v4), .val (.int v5), .val (.int v6), .val (.int jm), .val (.int v7), .val (.int jq), .val (.ref b8), .val (.ref b10), .val (.ref b12), .val (.ref b16), .val (.ref b21), .val (.int (3 : Int32))]) X93 hx (hb hby at_347) rfl rfl rfl ?_
                  exact J349 (3 : Int32) ((if_pos hc343).symm)
              · skip
                show own_WP _ _ _ _ _ _ _ (T93.setTop (mkF m 349 #[.val (.int p0), .val (.int p1), .val (.int p2), .val (.int p3), .val (.int p4), .val (.int (4 : Int32)), .val (.int r2), .val (.int v3), .val (.int v4), .val (.int v5), .val (.int v6), .val (.int jm), .val (.int v7), .val (.int jq), .val (.ref b8), .val (.ref b10), .val (.ref b12), .val (.ref b16), .val (.ref b21), .val (.int jx3)] []))
                refine own_aload (pc' := 351) X93 hx (hb hby at_349) rfl rfl rfl ?_
                refine own_iload (pc' := 353) X93 hx (hb hby at_351) rfl rfl ?_
                have f98 := ((((((((((F11b.ext E12).keep K15 (ninS ne_b10_b12 nin0)).ext E16).keep K20 (ninS ne_b10_b16 nin0)).ext E21).keep K26 (ninS ne_b10_b21 nin0)).keep K77 (ninS ne_b10_b8 (ninS ne_b10_c9 nin0))).keep K85 (ninS ne_b10_b8 (ninS ne_b10_c9 nin0))).keep K89 (ninS ne_b10_b8 (ninS ne_b10_c9 nin0))).keep K93 (ninS ne_b10_b8 (ninS ne_b10_c9 nin0)))
                have f99 := ((((((((F15b.ext E16).keep K20 (ninS ne_b12_b16 nin0)).ext E21).keep K26 (ninS ne_b12_b21 nin0)).keep K77 (ninS ne_b12_b8 (ninS ne_b12_c9 nin0))).keep K85 (ninS ne_b12_b8 (ninS ne_b12_c9 nin0))).keep K89 (ninS ne_b12_b8 (ninS ne_b12_c9 nin0))).keep K93 (ninS ne_b12_b8 (ninS ne_b12_c9 nin0)))
                have f100 := ((((((F20b.ext E21).keep K26 (ninS ne_b16_b21 nin0)).keep K77 (ninS ne_b16_b8 (ninS ne_b16_c9 nin0))).keep K85 (ninS ne_b16_b8 (ninS ne_b16_c9 nin0))).keep K89 (ninS ne_b16_b8 (ninS ne_b16_c9 nin0))).keep K93 (ninS ne_b16_b8 (ninS ne_b16_c9 nin0)))
                have f101 := ((((F26b.keep K77 (ninS ne_b21_b8 (ninS ne_b21_c9 nin0))).keep K85 (ninS ne_b21_b8 (ninS ne_b21_c9 nin0))).keep K89 (ninS ne_b21_b8 (ninS ne_b21_c9 nin0))).keep K93 (ninS ne_b21_b8 (ninS ne_b21_c9 nin0)))
                refine own_callV (pc' := 356) (W := 0) (y := (⟨"com/example/kent_ridge/kentridge/query/OpenEntries", "atLevel", "(I)I"⟩ : MethodName)) (z := (⟨"com/example/kent_ridge/kentridge/query/OpenEntries", "atLevel", "(I)I"⟩ : MethodName)) X93 hx hZ hown (own_w hw 49 rfl) (own_w hw 50 rfl) (notFace_of_selects (args := #[]) (mvT hZ (own_w hw 52 rfl))) (own_w hw 52 rfl) (own_w hw 51 rfl) (own_w hw 8 rfl) (own_w hw 53 rfl) (by decide) E93q (conT4 l Z a0 hw b8 jq _ c9 k9 b10 b12 b16 b21 r2 v3 v4 v5 F93a F93c V93 f98 f99 f100 f101 hlt0 hlt1 hlt2) e93 pd3 [(.int jq)] [] rfl rfl rfl (Nat.le_of_eq rfl) (by decide) (by decide) (by rw [hml]; rfl) (hb hby at_353) (by decide) (by decide) rfl ?_
                intro v97 T97 L97 X97 q97
                obtain ⟨r97, rfl, hr97, rfl, e97⟩ := q97
                have N97 := Fr.app N93 (Fr.nil n0)
                show own_WP _ _ _ _ _ _ _ (T97.setTop (mkF m 356 #[.val (.int p0), .val (.int p1), .val (.int p2), .val (.int p3), .val (.int p4), .val (.int (4 : Int32)), .val (.int r2), .val (.int v3), .val (.int v4), .val (.int v5), .val (.int v6), .val (.int jm), .val (.int v7), .val (.int jq), .val (.ref b8), .val (.ref b10), .val (.ref b12), .val (.ref b16), .val (.ref b21), .val (.int jx3)] [(.int r97)]))
                refine own_iload (pc' := 358) X97 hx (hb hby at_356) rfl rfl ?_
                refine own_icmp_ne (pt := 365) (pf := 361) X97 hx (hb hby at_358) rfl (by decide) rfl (fun hc358 => absurd (by rw [hr97, hjx3, hjx2, hjx1, hjx0]) hc358) (fun hc358 => ?_)
                refine own_iconst (pc' := 362) X97 hx (1 : Int32) (hb hby at_361) rfl rfl ?_
                refine own_goto (pc' := 366) X97 hx (hb hby at_362) (by decide) rfl ?_
                refine own_retN X97 hx hlk (t := .boolean) (by decide) hret (hb hby at_366) (by decide) (by decide) ?_
                exact ⟨rfl, N97⟩
set_option maxRecDepth 65536 in
set_option maxHeartbeats 4000000 in
theorem comes_1 {Post : Tables → Env → Array Value → Jvm.State → Outcome → Jvm.State → Prop} (hpost : ∀ tb e args s v u, (limb_1_1.after args s (.returned v) u = true ∧ limb_1_2.after args s (.returned v) u = true ∧ True) → FrameEnd s (.returned v) u (Jvm.fieldLocs frame_1_writes args s ++ Jvm.arrayLocs frame_1_arrays args s ++ Jvm.staticLocs frame_1_statics s) 32 192 → Post tb e args s (.returned v) u) :
    ArmFor flags0 classFile x code maxLocals ret World_1 tables_1 room_1 Calls_1 rest_1 Pre_1 Post := by
  intro l hfl _ _ p e ha hc hk s m args below hf hA hF happ hP
  obtain ⟨hcalls, hrest, hpre⟩ := hP
  obtain ⟨-, -, -, hnamed, -, -, -, hat⟩ := (Spec.applies_iff hf).mp happ
  obtain ⟨hg, hn⟩ := and_e (Cond.before_iff.mp (show (Jvm.Cond.and given_1 narrow_1).before args s = true from hpre))
  obtain ⟨u1, u2⟩ := and_e hg
  obtain ⟨u3, u4⟩ := and_e u2
  obtain ⟨u5, u6⟩ := and_e u4
  obtain ⟨u7, u8⟩ := and_e u6
  obtain ⟨u9, u10⟩ := and_e u8
  obtain ⟨w0, w1, w2, w3, w4, rfl⟩ : ∃ w0 w1 w2 w3 w4 : Value, args = #[w0, w1, w2, w3, w4] := by
    have hs : args.size = 5 := by simpa [Cond.value, given_1] using u1
    obtain ⟨L⟩ := args
    match L, hs with
    | [w0, w1, w2, w3, w4], _ => exact ⟨w0, w1, w2, w3, w4, rfl⟩
  have hw := fun d (hd : d ∈ tables_1) => atoms_spec (ws := Jvm.Cond.code x code maxLocals ret :: tables_1) hat d (List.mem_cons_of_mem _ hd)
  obtain ⟨i0, ei0⟩ := is_v u3
  obtain rfl : w0 = (.int i0) := Option.some.inj ei0
  obtain ⟨i1, ei1⟩ := is_v u5
  obtain rfl : w1 = (.int i1) := Option.some.inj ei1
  obtain ⟨i2, ei2⟩ := is_v u7
  obtain rfl : w2 = (.int i2) := Option.some.inj ei2
  obtain ⟨i3, ei3⟩ := is_v u9
  obtain rfl : w3 = (.int i3) := Option.some.inj ei3
  obtain ⟨i4, ei4⟩ := is_v u10
  obtain rfl : w4 = (.int i4) := Option.some.inj ei4
  obtain ⟨n, o, h1, h2, h3, _, L, rfl, ⟨rfl, N⟩, hq⟩ := con0 l s _ hw i0 i1 i2 i3 i4 s.heap s.heap.size (Nat.le_refl _)  tables_1 p e ha hc hk s m _ below hf ((Spec.applies_iff_loose hf).mp happ).1 ⟨rfl, State.Warmed39.refl s, rfl⟩ trivial
  refine ⟨n, _, h1, h2, h3, hpost _ _ _ _ _ _ ⟨Cond.after_iff.mpr rfl, Cond.after_iff.mpr (eq_i res_at (Term.int_eval (1)) rfl), trivial⟩ ⟨hq.1, hq.2.1, (hq.2.2.sift fun y hy => Or.inr (N y hy)).mono (by decide) (by decide)⟩⟩
theorem main_1_1 : Claimed_1_1 := comes_1 fun _ _ _ _ _ _ h hF => ⟨h.1, hF⟩
theorem main_1_2 : Claimed_1_2 := comes_1 fun _ _ _ _ _ _ h hF => ⟨h.2.1, hF⟩
end Jvm.Pilot.@@N@@
namespace Jvm.Pilot.@@N@@
open Jvm Jvm.ClassFile Sem Op Lib Jvm.Free Jvm.Stand Jvm.Pilot.@@N@@.Jvm.D
/-! MADE BY PROGRAM (witnessworld.py) out of the Statement's table words and the real class files: 14 classes; the members and pool entries that the words name. The judged class is class 1, her method 1. -/
namespace start1
open Jvm.ClassFile
def u (s : String) : CpInfo := .utf8 (stringToUtf16 s)
/-- a pool by its gaps: so many unusable entries, then the entry; so many at the end -/
def gap : Nat → List CpInfo → List CpInfo
  | 0, r => r
  | n + 1, r => .unusable :: gap n r
def poolList (es : List (Nat × CpInfo)) (last : Nat) : List CpInfo := es.foldr (fun e r => gap e.1 (e.2 :: r)) (gap last [])
def pool (es : List (Nat × CpInfo)) (last : Nat) : Array CpInfo := ⟨poolList es last⟩
def fileOf (pool : Array CpInfo) (this : Nat) (attrs : Array Attribute := #[]) (ms : Array MethodInfo := #[]) (fl : Nat := 33) (sup : Nat := 0) (ifs : Array Nat := #[]) (fds : Array FieldInfo := #[]) : ClassFile where
  minorVersion := 0
  majorVersion := 65
  constantPool := pool
  accessFlags := fl
  thisClass := this
  superClass := sup
  interfaces := ifs
  fields := fds
  methods := ms
  attributes := attrs
def plain (name : String) (sup : Option ClassId) : Class where
  name := name
  kind := .ordinary
  loader := none
  accessFlags := 33
  super := sup
  interfaces := #[]
  cf := none
  fields := #[]
  methods := #[]
  instanceTypes := #[]
  staticTypes := #[]
  resolved := #[]
  callSites := []
  init := .initialized
  statics := none
  mirror := none

def pool0 : Array CpInfo := pool [(5, u "<init>"), (0, u "()V"), (1, .class_ 10), (1, u "java/lang/Object")] 113

def k0c0 : Code := { maxStack := 0, maxLocals := 1, code := object_method_1_code, exceptionTable := #[], attributes := #[] }
def k0m0 : Method := { name := "<init>", desc := "()V", sig := { parameters := [], returnType := none }, accessFlags := 1, code := some k0c0 }
/-- java/lang/Object -/
def k0 : Class := { plain "java/lang/Object" none with
  accessFlags := 33
  interfaces := #[]
  cf := some (fileOf pool0 8 #[] #[{ accessFlags := 1, nameIndex := 5, descriptorIndex := 6, attributes := #[] }] 33 0 #[] #[])
  fields := #[]
  methods := #[k0m0]
  instanceTypes := #[]
  staticTypes := #[]
  resolved := Array.replicate 124 none
  statics := none }

def pool1 : Array CpInfo := pool [(2, .class_ 4), (0, .nameAndType 5 6), (0, u "java/lang/Object"), (0, u "<init>"), (0, u "()V"), (0, .integer 2147483647), (2, .integer 2147483599), (0, .methodref 12 13), (0, .class_ 14), (0, .nameAndType 15 16), (0, u "java/lang/Math"), (0, u "min"), (0, u "(II)I"), (0, .class_ 18), (0, u "com/example/kent_ridge/kentridge/query/OpenEntries"), (0, .methodref 17 3), (0, .class_ 21), (0, u "com/example/kent_ridge/kentridge/query/OpenEntries$Open"), (0, .long 100), (1, .methodref 20 25), (0, .nameAndType 5 26), (0, u "(IJJIIIZ)V"), (0, .long 99), (1, .long 2), (1, .long 98), (1, .long 3), (1, .long 97), (1, .methodref 17 38), (0, .nameAndType 39 40), (0, u "add"), (0, u "(Lcom/example/kent_ridge/kentridge/query/OpenEntries$Open;)V"), (0, .methodref 17 42), (0, .nameAndType 43 44), (0, u "atLevel"), (0, u "(I)I"), (0, .class_ 46), (0, u "com/example/kent_ridge/kentridge/query/OpenEntriesAtLevelPinLaw"), (2, u "law"), (0, u "(IIIII)Z")] 5

def k1m0 : Method := { name := "<init>", desc := "()V", sig := { parameters := [], returnType := none }, accessFlags := 1, code := none }
def k1c1 : Code := { maxStack := 11, maxLocals := 20, code := code, exceptionTable := #[], attributes := #[] }
def k1m1 : Method := { name := "law", desc := "(IIIII)Z", sig := { parameters := [.int, .int, .int, .int, .int], returnType := some .boolean }, accessFlags := 9, code := some k1c1 }
/-- com/example/kent_ridge/kentridge/query/OpenEntriesAtLevelPinLaw -/
def k1 : Class := { plain "com/example/kent_ridge/kentridge/query/OpenEntriesAtLevelPinLaw" (some 0) with
  accessFlags := 49
  interfaces := #[]
  cf := some (fileOf pool1 45 #[] #[{ accessFlags := 1, nameIndex := 5, descriptorIndex := 6, attributes := #[] }, { accessFlags := 9, nameIndex := 49, descriptorIndex := 50, attributes := #[] }] 49 2 #[] #[])
  fields := #[]
  methods := #[k1m0, k1m1]
  instanceTypes := #[]
  staticTypes := #[]
  resolved := Array.replicate 56 none
  statics := none }

def pool2 : Array CpInfo := pool [(1, .class_ 2), (0, u "java/lang/Math"), (1, .class_ 6), (1, u "java/lang/Object"), (0, u "<init>"), (0, u "()V"), (89, .class_ 100), (1, u "java/lang/Math$RandomNumberGeneratorHolder"), (71, u "negativeZeroFloatBits"), (0, u "J"), (2, u "negativeZeroDoubleBits"), (24, u "min"), (43, u "$assertionsDisabled"), (0, u "Z"), (88, u "(II)I"), (2, u "twoToTheDoubleScaleDown"), (0, u "D"), (4, u "twoToTheDoubleScaleUp"), (9, u "E"), (3, u "PI"), (2, u "TAU"), (2, u "DEGREES_TO_RADIANS"), (0, u "RADIANS_TO_DEGREES")] 94

def k2m0 : Method := { name := "<init>", desc := "()V", sig := { parameters := [], returnType := none }, accessFlags := 2, code := none }
def k2c1 : Code := { maxStack := 2, maxLocals := 2, code := jdk_29_method_69_code, exceptionTable := #[], attributes := #[] }
def k2m1 : Method := { name := "min", desc := "(II)I", sig := { parameters := [.int, .int], returnType := some .int }, accessFlags := 9, code := some k2c1 }
/-- java/lang/Math -/
def k2 : Class := { plain "java/lang/Math" (some 0) with
  accessFlags := 49
  interfaces := #[]
  cf := some (fileOf pool2 1 #[.nestMembers #[98]] #[{ accessFlags := 2, nameIndex := 7, descriptorIndex := 8, attributes := #[] }, { accessFlags := 9, nameIndex := 201, descriptorIndex := 335, attributes := #[] }] 49 4 #[] #[{ accessFlags := 25, nameIndex := 354, descriptorIndex := 339, attributes := #[] }, { accessFlags := 25, nameIndex := 358, descriptorIndex := 339, attributes := #[] }, { accessFlags := 25, nameIndex := 361, descriptorIndex := 339, attributes := #[] }, { accessFlags := 26, nameIndex := 364, descriptorIndex := 339, attributes := #[] }, { accessFlags := 26, nameIndex := 365, descriptorIndex := 339, attributes := #[] }, { accessFlags := 26, nameIndex := 172, descriptorIndex := 173, attributes := #[] }, { accessFlags := 26, nameIndex := 176, descriptorIndex := 173, attributes := #[] }, { accessFlags := 8, nameIndex := 344, descriptorIndex := 339, attributes := #[] }, { accessFlags := 8, nameIndex := 338, descriptorIndex := 339, attributes := #[] }, { accessFlags := 4120, nameIndex := 245, descriptorIndex := 246, attributes := #[] }])
  fields := #[{ name := "E", type := .double, accessFlags := 25, slot := 0, constantValue := 0 }, { name := "PI", type := .double, accessFlags := 25, slot := 1, constantValue := 0 }, { name := "TAU", type := .double, accessFlags := 25, slot := 2, constantValue := 0 }, { name := "DEGREES_TO_RADIANS", type := .double, accessFlags := 26, slot := 3, constantValue := 0 }, { name := "RADIANS_TO_DEGREES", type := .double, accessFlags := 26, slot := 4, constantValue := 0 }, { name := "negativeZeroFloatBits", type := .long, accessFlags := 26, slot := 5, constantValue := 0 }, { name := "negativeZeroDoubleBits", type := .long, accessFlags := 26, slot := 6, constantValue := 0 }, { name := "twoToTheDoubleScaleUp", type := .double, accessFlags := 8, slot := 7, constantValue := 0 }, { name := "twoToTheDoubleScaleDown", type := .double, accessFlags := 8, slot := 8, constantValue := 0 }, { name := "$assertionsDisabled", type := .boolean, accessFlags := 4120, slot := 9, constantValue := 0 }]
  methods := #[k2m0, k2m1]
  instanceTypes := #[]
  staticTypes := #[.double, .double, .double, .double, .double, .long, .long, .double, .double, .boolean]
  resolved := Array.replicate 460 none
  statics := none }

def pool3 : Array CpInfo := pool [(1, .methodref 2 3), (0, .class_ 4), (0, .nameAndType 5 6), (0, u "java/lang/Object"), (0, u "<init>"), (0, u "()V"), (0, .class_ 8), (0, u "com/example/kent_ridge/kentridge/query/OpenEntries$Open"), (0, .fieldref 10 11), (0, .class_ 12), (0, .nameAndType 13 14), (0, u "com/example/kent_ridge/kentridge/query/OpenEntries"), (0, u "values"), (0, u "[Lcom/example/kent_ridge/kentridge/query/OpenEntries$Open;"), (0, .fieldref 10 16), (0, .nameAndType 17 18), (0, u "sorted"), (0, u "Z"), (0, .fieldref 10 20), (0, .nameAndType 21 22), (0, u "size"), (0, u "I"), (7, .fieldref 7 31), (0, .nameAndType 32 22), (0, u "element"), (7, u "add"), (0, u "(Lcom/example/kent_ridge/kentridge/query/OpenEntries$Open;)V"), (0, .fieldref 7 43), (0, .nameAndType 44 22), (0, u "level"), (34, u "atLevel"), (0, u "(I)I"), (9, .class_ 91), (0, u "com/example/kent_ridge/kentridge/query/OpenEntries$Enclosing")] 3

def k3c0 : Code := { maxStack := 2, maxLocals := 1, code := prog_38_method_1_code, exceptionTable := #[], attributes := #[] }
def k3m0 : Method := { name := "<init>", desc := "()V", sig := { parameters := [], returnType := none }, accessFlags := 0, code := some k3c0 }
def k3c1 : Code := { maxStack := 5, maxLocals := 2, code := prog_38_method_2_code, exceptionTable := #[], attributes := #[] }
def k3m1 : Method := { name := "add", desc := "(Lcom/example/kent_ridge/kentridge/query/OpenEntries$Open;)V", sig := { parameters := [(.object "com/example/kent_ridge/kentridge/query/OpenEntries$Open")], returnType := none }, accessFlags := 0, code := some k3c1 }
def k3c2 : Code := { maxStack := 2, maxLocals := 6, code := prog_38_method_11_code, exceptionTable := #[], attributes := #[] }
def k3m2 : Method := { name := "atLevel", desc := "(I)I", sig := { parameters := [.int], returnType := some .int }, accessFlags := 0, code := some k3c2 }
/-- com/example/kent_ridge/kentridge/query/OpenEntries -/
def k3 : Class := { plain "com/example/kent_ridge/kentridge/query/OpenEntries" (some 0) with
  accessFlags := 48
  interfaces := #[]
  cf := some (fileOf pool3 10 #[.nestMembers #[7, 90]] #[{ accessFlags := 0, nameIndex := 5, descriptorIndex := 6, attributes := #[] }, { accessFlags := 0, nameIndex := 40, descriptorIndex := 41, attributes := #[] }, { accessFlags := 0, nameIndex := 79, descriptorIndex := 80, attributes := #[] }] 48 2 #[] #[{ accessFlags := 2, nameIndex := 13, descriptorIndex := 14, attributes := #[] }, { accessFlags := 2, nameIndex := 21, descriptorIndex := 22, attributes := #[] }, { accessFlags := 2, nameIndex := 17, descriptorIndex := 18, attributes := #[] }])
  fields := #[{ name := "values", type := (.array (.object "com/example/kent_ridge/kentridge/query/OpenEntries$Open")), accessFlags := 2, slot := 0, constantValue := 0 }, { name := "size", type := .int, accessFlags := 2, slot := 1, constantValue := 0 }, { name := "sorted", type := .boolean, accessFlags := 2, slot := 2, constantValue := 0 }]
  methods := #[k3m0, k3m1, k3m2]
  instanceTypes := #[(.array (.object "com/example/kent_ridge/kentridge/query/OpenEntries$Open")), .int, .boolean]
  staticTypes := #[]
  resolved := ((Array.replicate 95 none).setIfInBounds 30 (some (.field 4 0))).setIfInBounds 42 (some (.field 4 3))
  statics := none }

def pool4 : Array CpInfo := pool [(1, .methodref 2 3), (0, .class_ 4), (0, .nameAndType 5 6), (0, u "java/lang/Object"), (0, u "<init>"), (0, u "()V"), (0, .fieldref 8 9), (0, .class_ 10), (0, .nameAndType 11 12), (0, u "com/example/kent_ridge/kentridge/query/OpenEntries$Open"), (0, u "element"), (0, u "I"), (0, .fieldref 8 14), (0, .nameAndType 15 16), (0, u "start"), (0, u "J"), (0, .fieldref 8 18), (0, .nameAndType 19 16), (0, u "end"), (0, .fieldref 8 21), (0, .nameAndType 22 12), (0, u "level"), (0, .fieldref 8 24), (0, .nameAndType 25 12), (0, u "step"), (0, .fieldref 8 27), (0, .nameAndType 28 29), (0, u "found"), (0, u "[Z"), (0, .fieldref 8 31), (0, .nameAndType 32 33), (0, u "hangs"), (0, u "Z"), (14, u "(IJJIIIZ)V"), (12, u "met"), (2, u "searched"), (22, .class_ 88), (0, u "com/example/kent_ridge/kentridge/query/OpenEntries")] 2

def k4c0 : Code := { maxStack := 3, maxLocals := 10, code := prog_40_method_1_code, exceptionTable := #[], attributes := #[] }
def k4m0 : Method := { name := "<init>", desc := "(IJJIIIZ)V", sig := { parameters := [.int, .long, .long, .int, .int, .int, .boolean], returnType := none }, accessFlags := 0, code := some k4c0 }
/-- com/example/kent_ridge/kentridge/query/OpenEntries$Open -/
def k4 : Class := { plain "com/example/kent_ridge/kentridge/query/OpenEntries$Open" (some 0) with
  accessFlags := 48
  interfaces := #[]
  cf := some (fileOf pool4 8 #[.nestHost 87] #[{ accessFlags := 0, nameIndex := 5, descriptorIndex := 48, attributes := #[] }] 48 2 #[] #[{ accessFlags := 18, nameIndex := 11, descriptorIndex := 12, attributes := #[] }, { accessFlags := 18, nameIndex := 15, descriptorIndex := 16, attributes := #[] }, { accessFlags := 18, nameIndex := 19, descriptorIndex := 16, attributes := #[] }, { accessFlags := 18, nameIndex := 22, descriptorIndex := 12, attributes := #[] }, { accessFlags := 18, nameIndex := 25, descriptorIndex := 12, attributes := #[] }, { accessFlags := 18, nameIndex := 28, descriptorIndex := 29, attributes := #[] }, { accessFlags := 18, nameIndex := 32, descriptorIndex := 33, attributes := #[] }, { accessFlags := 2, nameIndex := 61, descriptorIndex := 33, attributes := #[] }, { accessFlags := 2, nameIndex := 64, descriptorIndex := 33, attributes := #[] }])
  fields := #[{ name := "element", type := .int, accessFlags := 18, slot := 0, constantValue := 0 }, { name := "start", type := .long, accessFlags := 18, slot := 1, constantValue := 0 }, { name := "end", type := .long, accessFlags := 18, slot := 2, constantValue := 0 }, { name := "level", type := .int, accessFlags := 18, slot := 3, constantValue := 0 }, { name := "step", type := .int, accessFlags := 18, slot := 4, constantValue := 0 }, { name := "found", type := (.array .boolean), accessFlags := 18, slot := 5, constantValue := 0 }, { name := "hangs", type := .boolean, accessFlags := 18, slot := 6, constantValue := 0 }, { name := "met", type := .boolean, accessFlags := 2, slot := 7, constantValue := 0 }, { name := "searched", type := .boolean, accessFlags := 2, slot := 8, constantValue := 0 }]
  methods := #[k4m0]
  instanceTypes := #[.int, .long, .long, .int, .int, (.array .boolean), .boolean, .boolean, .boolean]
  staticTypes := #[]
  resolved := Array.replicate 91 none
  statics := none }

def pool5 : Array CpInfo := pool [(1, u "java/lang/Cloneable"), (0, .class_ 1), (0, u "java/lang/Object"), (0, .class_ 3)] 3

/-- java/lang/Cloneable -/
def k5 : Class := { plain "java/lang/Cloneable" (some 0) with
  accessFlags := 1537
  interfaces := #[]
  cf := some (fileOf pool5 2 #[] #[] 1537 4 #[] #[])
  fields := #[]
  methods := #[]
  instanceTypes := #[]
  staticTypes := #[]
  resolved := Array.replicate 8 none
  statics := none }

def pool6 : Array CpInfo := pool [(1, u "java/io/Serializable"), (0, .class_ 1), (0, u "java/lang/Object"), (0, .class_ 3)] 3

/-- java/io/Serializable -/
def k6 : Class := { plain "java/io/Serializable" (some 0) with
  accessFlags := 1537
  interfaces := #[]
  cf := some (fileOf pool6 2 #[] #[] 1537 4 #[] #[])
  fields := #[]
  methods := #[]
  instanceTypes := #[]
  staticTypes := #[]
  resolved := Array.replicate 8 none
  statics := none }

/-- the primitive boolean -/
def k7 : Class := { plain "boolean" none with kind := .primitive 'Z', accessFlags := 0x411 }
/-- [Z -/
def k8 : Class := { plain "[Z" (some 0) with kind := .array 7 .boolean, interfaces := #[5, 6], accessFlags := 1041 }

/-- the primitive byte -/
def k9 : Class := { plain "byte" none with kind := .primitive 'B', accessFlags := 0x411 }
/-- [B -/
def k10 : Class := { plain "[B" (some 0) with kind := .array 9 .byte, interfaces := #[5, 6], accessFlags := 1041 }

/-- the primitive int -/
def k11 : Class := { plain "int" none with kind := .primitive 'I', accessFlags := 0x411 }
/-- [I -/
def k12 : Class := { plain "[I" (some 0) with kind := .array 11 .int, interfaces := #[5, 6], accessFlags := 1041 }

/-- [Lcom/example/kent_ridge/kentridge/query/OpenEntries$Open; -/
def k13 : Class := { plain "[Lcom/example/kent_ridge/kentridge/query/OpenEntries$Open;" (some 0) with kind := .array 4 (.object "com/example/kent_ridge/kentridge/query/OpenEntries$Open"), interfaces := #[5, 6], accessFlags := 1041 }

def heap : Heap := #[]
def classes : Array Class := #[k0, k1, k2, k3, k4, k5, k6, k7, k8, k9, k10, k11, k12, k13]
def interned : List (Array UInt16 × Addr) := []
def slotsUsed : Nat := 0
def theMethod : MethodId := ⟨1, 1⟩
def args0 : Array Value := #[.int 5, .int 3, .int 4, .int 1, .int 1]
def aboutOver (below : List Frame) : State where
  vm := { classes := classes, interned := interned.toArray }
  heap := heap
  slotsUsed := slotsUsed
  threads := #[{ frames := .invoking theMethod args0 :: below }]
def below0 : List Frame := [.native { method := ⟨0, 0⟩, args := #[] }]
def about1 : State := aboutOver below0
def p0 : Program := .bare "" "" ""
def e0 : Env := launch0.env 0 0 0
theorem w_frames : about1.frames = Frame.invoking theMethod args0 :: below0 := rfl
set_option maxRecDepth 65536 in
theorem w_args : argsFit about1.vm theMethod args0 = true := by decide +kernel
set_option maxRecDepth 65536 in
theorem w_heap : heapFits about1 = true := by decide +kernel
set_option maxRecDepth 65536 in
theorem w_runnable : about1.curStatus? = some .runnable := by decide +kernel
set_option maxRecDepth 65536 in
theorem w_alone : about1.alone = true := by decide +kernel
set_option maxRecDepth 65536 in
theorem w_named : about1.methodNamed? x = some theMethod := by decide +kernel
set_option maxRecDepth 65536 in
theorem w_hears : about1.hears theMethod below0 = true := by decide +kernel
set_option maxRecDepth 65536 in
theorem w_ripe : about1.ripe theMethod args0 below0 = true := by decide +kernel
theorem w_running : about1.status = .running := rfl
set_option maxRecDepth 65536 in
theorem w_room : about1.hasRoom e0.platform room_1 = true :=
  launch0.hasRoom_least _ room_1 (by decide +kernel) (by decide +kernel) (by decide +kernel) (by decide +kernel) (by decide +kernel) (by decide +kernel)
theorem allAtoms_all (ts : List Jvm.Cond) (a : Array Jvm.Value) (st : Jvm.State) : (allAtoms ts).before a st = ts.all (fun c => c.before a st) := by
  induction ts with
  | nil => rfl
  | cons c t ih =>
    show (Jvm.Cond.and c (allAtoms t)).before a st = _
    rw [Jvm.Cond.before_and, ih, List.all_cons]
def words1 : List Jvm.Cond := Jvm.Cond.code x code maxLocals ret :: tables_1
/-- a 'code' word, met by the world's own term for the bytes: nothing is compared byte by byte -/
theorem code_word {y : MethodName} {bytes : ByteArray} {mx : Nat} {rt : Option FieldType} {a : Array Value} {s : State} {m : MethodId} {meth : Method} {c : Code} (h1 : s.methodNamed? y = some m) (h2 : s.vm.method? m = some meth) (h3 : meth.code = some c) (h4 : c.code = bytes)
    (h5 : (c.maxLocals == mx && c.exceptionTable.isEmpty && decide (c.maxStack ≤ mostOperands) && decide (meth.sig.returnType = rt) && !meth.locks && decide (parseMethodDescriptor y.desc = some meth.sig)) = true) : (Jvm.Cond.code y bytes mx rt).before a s = true := by
  simp only [Bool.and_eq_true, beq_iff_eq, Bool.not_eq_true', decide_eq_true_eq] at h5
  obtain ⟨⟨⟨⟨⟨g1, g2⟩, g3⟩, g4⟩, g5⟩, g6⟩ := h5
  simp [Cond.before, Cond.holds, Cond.value, h1, h2, h3, h4, g1, g2, g3, g4, g5, g6]
def isCode : Jvm.Cond → Bool
  | .code _ _ _ _ => true
  | _ => false
theorem all_split {L : List Jvm.Cond} {P : Jvm.Cond → Bool} (h1 : L.all (fun c => isCode c || P c) = true) (h2 : ∀ c ∈ L.filter isCode, P c = true) : L.all P = true := by
  refine List.all_eq_true.mpr fun c hc => ?_
  have h := List.all_eq_true.mp h1 c hc
  rcases Bool.eq_false_or_eq_true (isCode c) with hi | hi
  · exact h2 c (List.mem_filter.mpr ⟨hc, hi⟩)
  · simpa [hi] using h
set_option maxRecDepth 65536 in
theorem w_c0 : (Jvm.Cond.code x code maxLocals ret).before args0 about1 = true := code_word (m := ⟨1, 1⟩) (meth := k1m1) (c := k1c1) (by decide +kernel) rfl rfl rfl (by decide +kernel)
set_option maxRecDepth 65536 in
theorem w_c1 : (Jvm.Cond.code ({ cls := "java/lang/Math", name := "min", desc := "(II)I" } : Jvm.MethodName) jdk_29_method_69_code (2 : Nat) (Option.some Jvm.ClassFile.FieldType.int)).before args0 about1 = true := code_word (m := ⟨2, 1⟩) (meth := k2m1) (c := k2c1) (by decide +kernel) rfl rfl rfl (by decide +kernel)
set_option maxRecDepth 65536 in
theorem w_c2 : (Jvm.Cond.code ({ cls := "com/example/kent_ridge/kentridge/query/OpenEntries", name := "<init>", desc := "()V" } : Jvm.MethodName) prog_38_method_1_code (1 : Nat) (Option.none : Option Jvm.ClassFile.FieldType)).before args0 about1 = true := code_word (m := ⟨3, 0⟩) (meth := k3m0) (c := k3c0) (by decide +kernel) rfl rfl rfl (by decide +kernel)
set_option maxRecDepth 65536 in
theorem w_c3 : (Jvm.Cond.code ({ cls := "java/lang/Object", name := "<init>", desc := "()V" } : Jvm.MethodName) object_method_1_code (1 : Nat) (Option.none : Option Jvm.ClassFile.FieldType)).before args0 about1 = true := code_word (m := ⟨0, 0⟩) (meth := k0m0) (c := k0c0) (by decide +kernel) rfl rfl rfl (by decide +kernel)
set_option maxRecDepth 65536 in
theorem w_c4 : (Jvm.Cond.code ({ cls := "com/example/kent_ridge/kentridge/query/OpenEntries$Open", name := "<init>", desc := "(IJJIIIZ)V" } : Jvm.MethodName) prog_40_method_1_code (10 : Nat) (Option.none : Option Jvm.ClassFile.FieldType)).before args0 about1 = true := code_word (m := ⟨4, 0⟩) (meth := k4m0) (c := k4c0) (by decide +kernel) rfl rfl rfl (by decide +kernel)
set_option maxRecDepth 65536 in
theorem w_c5 : (Jvm.Cond.code ({ cls := "com/example/kent_ridge/kentridge/query/OpenEntries", name := "atLevel", desc := "(I)I" } : Jvm.MethodName) prog_38_method_11_code (6 : Nat) (Option.some Jvm.ClassFile.FieldType.int)).before args0 about1 = true := code_word (m := ⟨3, 2⟩) (meth := k3m2) (c := k3c2) (by decide +kernel) rfl rfl rfl (by decide +kernel)
set_option maxRecDepth 65536 in
theorem w_c6 : (Jvm.Cond.code ({ cls := "com/example/kent_ridge/kentridge/query/OpenEntries", name := "add", desc := "(Lcom/example/kent_ridge/kentridge/query/OpenEntries$Open;)V" } : Jvm.MethodName) prog_38_method_2_code (2 : Nat) (Option.none : Option Jvm.ClassFile.FieldType)).before args0 about1 = true := code_word (m := ⟨3, 1⟩) (meth := k3m1) (c := k3c1) (by decide +kernel) rfl rfl rfl (by decide +kernel)
def codes1 : List Jvm.Cond := [Jvm.Cond.code x code maxLocals ret, Jvm.Cond.code ({ cls := "java/lang/Math", name := "min", desc := "(II)I" } : Jvm.MethodName) jdk_29_method_69_code (2 : Nat) (Option.some Jvm.ClassFile.FieldType.int), Jvm.Cond.code ({ cls := "com/example/kent_ridge/kentridge/query/OpenEntries", name := "<init>", desc := "()V" } : Jvm.MethodName) prog_38_method_1_code (1 : Nat) (Option.none : Option Jvm.ClassFile.FieldType), Jvm.Cond.code ({ cls := "java/lang/Object", name := "<init>", desc := "()V" } : Jvm.MethodName) object_method_1_code (1 : Nat) (Option.none : Option Jvm.ClassFile.FieldType), Jvm.Cond.code ({ cls := "com/example/kent_ridge/kentridge/query/OpenEntries$Open", name := "<init>", desc := "(IJJIIIZ)V" } : Jvm.MethodName) prog_40_method_1_code (10 : Nat) (Option.none : Option Jvm.ClassFile.FieldType), Jvm.Cond.code ({ cls := "com/example/kent_ridge/kentridge/query/OpenEntries", name := "atLevel", desc := "(I)I" } : Jvm.MethodName) prog_38_method_11_code (6 : Nat) (Option.some Jvm.ClassFile.FieldType.int), Jvm.Cond.code ({ cls := "com/example/kent_ridge/kentridge/query/OpenEntries", name := "add", desc := "(Lcom/example/kent_ridge/kentridge/query/OpenEntries$Open;)V" } : Jvm.MethodName) prog_38_method_2_code (2 : Nat) (Option.none : Option Jvm.ClassFile.FieldType)]
set_option maxRecDepth 65536 in
theorem codes_eq : words1.filter isCode = codes1 := rfl
theorem w_codes : ∀ c ∈ words1.filter isCode, c.before args0 about1 = true := by
  rw [codes_eq]
  intro c hc
  simp only [codes1, List.mem_cons, List.not_mem_nil, or_false] at hc
  rcases hc with rfl | rfl | rfl | rfl | rfl | rfl | rfl
  · exact w_c0
  · exact w_c1
  · exact w_c2
  · exact w_c3
  · exact w_c4
  · exact w_c5
  · exact w_c6
set_option maxRecDepth 65536 in
theorem w_t1 : (words1.take 24).all (fun c => isCode c || c.before args0 about1) = true := by decide +kernel
set_option maxRecDepth 65536 in
theorem w_t2 : ((words1.drop 24).take 24).all (fun c => isCode c || c.before args0 about1) = true := by decide +kernel
set_option maxRecDepth 65536 in
theorem w_t3 : ((words1.drop 24).drop 24).all (fun c => isCode c || c.before args0 about1) = true := by decide +kernel
theorem w_tables : (allAtoms (Jvm.Cond.code x code maxLocals ret :: tables_1)).before args0 about1 = true := by
  rw [allAtoms_all]
  show words1.all (fun c => c.before args0 about1) = true
  refine all_split ?_ w_codes
  rw [← List.take_append_drop 24 words1, List.all_append, w_t1, ← List.take_append_drop 24 (words1.drop 24), List.all_append, w_t2, w_t3]
  rfl
set_option maxRecDepth 65536 in
theorem w_case : (Jvm.Cond.and given_1 narrow_1).before args0 about1 = true := by decide +kernel
theorem w_applies : (headSpec (Jvm.Cond.code x code maxLocals ret :: tables_1) room_1).applies x e0.platform about1 = true :=
  (Spec.applies_iff w_frames).mpr ⟨w_running, w_runnable, w_alone, w_named, w_hears, w_ripe, w_room, w_tables⟩
theorem atStart : AtStart classFile x code maxLocals ret World_1 tables_1 room_1 Calls_1 rest_1 Pre_1 launch0 p0 e0 about1 theMethod args0 below0 :=
  ⟨lists_1, trivial, launch0.admits_env _ _ _, launch0.least_env, fairChoices_fair.cas, fairChoices_fair.clock, w_frames, w_args, w_heap, w_applies, trivial, trivial, w_case⟩
end start1
theorem witness_1 : WitnessClaimed_1 := ⟨start1.p0, start1.e0, start1.about1, start1.theMethod, start1.args0, start1.below0, start1.atStart⟩
end Jvm.Pilot.@@N@@
