import JvmDerived
import JvmDerived.Pilot.@@N@@Statement
import JvmDerived.Pilot.@@N@@Code
set_option linter.unusedVariables false
set_option linter.unusedSimpArgs false
namespace Jvm.Pilot.@@N@@
open Jvm Jvm.ClassFile Sem Op Lib Jvm.Free Jvm.Stand Jvm.LawKit Jvm.RoadKit Bundle Jvm.Pilot.@@N@@.Jvm.D
/-! own_: what is left of a walk, read forwards -/
def own_WP (p : Program) (e : Env) (below : List Frame) (s : State) (Q : Option Value → Heap → List Loc → Prop) (k n : Nat) (a : State) : Prop :=
  ∃ s₂ o, Steps p.tables e below a s₂ ∧ s₂.status = .running ∧ Ended s₂ below o ∧ ∃ v L, o = .returned v ∧ Q v s₂.heap L ∧ FrameEnd s o s₂ L k n
def own_Con (l : Launch) (Z : State) (y : MethodName) (bytes : ByteArray) (maxL : Nat) (ret : Option FieldType) (rm : Room) (as' : Array Value) (h0 : Heap) (Q : Option Value → Heap → List Loc → Prop) : Prop :=
  ∀ ws, MetFree l y (head1 (Jvm.Cond.code y bytes maxL ret :: ws) rm) (fun a U => a = as' ∧ Z.Warmed39 U.vm ∧ U.heap = h0) (fun _ _ _ _ _ => True) (fun _ U o U' => ∃ v L, o = .returned v ∧ Q v U'.heap L ∧ FrameEnd U o U' L rm.cells rm.slots)
theorem own_Con_of {l : Launch} {Z : State} {y : MethodName} {bytes : ByteArray} {maxL : Nat} {ret : Option FieldType} {rm : Room} {as' : Array Value} {h0 : Heap} {Q : Option Value → Heap → List Loc → Prop} (hp : plainFor y = true)
    (hb : ∀ (p : Program) (e : Env) (s : State) (m : MethodId) (below : List Frame) (meth : Method) (c : Code) (s₁ : State), Stand p l e rm s m as' below meth c s₁ [] 0 0 → p.tables.exec = Jvm.exec → c.code = bytes → c.maxLocals = maxL → meth.sig.returnType = ret → meth.locks = false → meth.name = y.name → s.vm.findClass y.cls = some m.cls → Z.Warmed39 s.vm → s₁.heap = h0 →
      own_WP p e below s Q rm.cells rm.slots (s₁.setTop (entryFrame m as' maxL))) : own_Con l Z y bytes maxL ret rm as' h0 Q := by
  intro ws
  refine MetFree.of_bodySF hp hisR ?_
  intro p e s m args below meth c s₁ Bd hml0 hP hK
  obtain ⟨rfl, hZ, hh⟩ := hP
  exact hb p e s m below meth c s₁ (Stand.of_body Bd) Bd.exec Bd.bytes hml0 Bd.returns Bd.notSynchronized (name_of_methodNamed Bd.named Bd.method).1 (findClass_of_methodNamed Bd.named) hZ (by rw [← hh, Bd.state]; rfl)
theorem own_Con_mono {l : Launch} {Z : State} {y : MethodName} {bytes : ByteArray} {maxL : Nat} {ret : Option FieldType} {rm : Room} {as' : Array Value} {h0 : Heap} {Q Q' : Option Value → Heap → List Loc → Prop} (C : own_Con l Z y bytes maxL ret rm as' h0 Q) (hq : ∀ v h L, Q v h L → Q' v h L) : own_Con l Z y bytes maxL ret rm as' h0 Q' := by
  intro ws p e ha hc hk s m args below hf happ hP hK
  obtain ⟨n, o, h1, h2, h3, v, L, h4, h5, h6⟩ := C ws p e ha hc hk s m args below hf happ hP hK
  exact ⟨n, o, h1, h2, h3, v, L, h4, hq _ _ _ h5, h6⟩
theorem own_w {Z : State} {a0 : Array Value} {ts : List Jvm.Cond} {d : Jvm.Cond} (hw : ∀ d ∈ ts, d.before a0 Z = true) (i : Nat) (hi : ts[i]? = some d) : d.before a0 Z = true := hw _ (List.mem_of_getElem? hi)
section OwnWP
variable {p : Program} {l : Launch} {e : Env} {R : Room} {s : State} {m : MethodId} {args : Array Value} {below : List Frame} {meth : Method} {c : Code} {T : State} {locs : List Loc} {cells slots : Nat} {Z : State} {a0 : Array Value} {h : Heap} {Q : Option Value → Heap → List Loc → Prop} {k n : Nat} {a a' : State} {pc pc' : Nat} {ls l' : Array Slot} {rest : List Value}
theorem own_of (hs : ∀ t, Steps p.tables e below a' t → Steps p.tables e below a t) (w : own_WP p e below s Q k n a') : own_WP p e below s Q k n a := by
  obtain ⟨s₂, o, st, r⟩ := w
  exact ⟨s₂, o, hs _ st, r⟩
theorem own_mono {Q' : Option Value → Heap → List Loc → Prop} (hq : ∀ v h L, Q v h L → Q' v h L) (w : own_WP p e below s Q k n a) : own_WP p e below s Q' k n a := by
  obtain ⟨s₂, o, h1, h2, h3, v, L, h4, h5, h6⟩ := w
  exact ⟨s₂, o, h1, h2, h3, v, L, h4, hq _ _ _ h5, h6⟩
theorem own_join {α : Type} (P : α → Prop) (f : α → State) (h1 : (∀ x, P x → own_WP p e below s Q k n (f x)) → own_WP p e below s Q k n a) (h2 : ∀ x, P x → own_WP p e below s Q k n (f x)) : own_WP p e below s Q k n a := h1 h2
theorem own_done (X : Stand p l e R s m args below meth c T locs cells slots) {v : Option Value} (hlk : meth.locks = false) (hv : meth.sig.returnType = none → v = none) (hc : cells ≤ k) (hn : slots ≤ n) (hq : Q v T.heap locs)
    (st : ∀ fs, (∀ (f : JFrame) (acts : List Action), f.method = m → f.locked = none → f.entered = [] → (doReturn e (T.setTop f) acts v).1 = T.setFrames fs) → Steps p.tables e below a (T.setFrames fs)) : own_WP p e below s Q k n a := by
  obtain ⟨fs, hr, hrun, hended, hW, hsame⟩ := X.leave hv hlk
  exact ⟨_, _, st fs hr, hrun, hended, _, _, rfl, hq, ⟨_, rfl⟩, hW, hsame.mono hc hn⟩
theorem own_retI (X : Stand p l e R s m args below meth c T locs cells slots) (hx : p.tables.exec = Jvm.exec) (hlk : meth.locks = false) (hret : meth.sig.returnType = some .int) {z : Int32} (hd : decode c.code pc = .ok (.ireturn, 1)) (hc : cells ≤ k) (hn : slots ≤ n) (hq : Q (some (.int z)) T.heap locs) : own_WP p e below s Q k n (T.setTop (mkF m pc ls (.int z :: rest))) :=
  own_done X hlk (fun q => by rw [hret] at q; cases q) hc hn hq fun fs hr => retOut X hx hret rfl (Or.inl ⟨rfl, Or.inl rfl, z, rfl⟩) hd hr
theorem own_retN (X : Stand p l e R s m args below meth c T locs cells slots) (hx : p.tables.exec = Jvm.exec) (hlk : meth.locks = false) {t : FieldType} (ht : t = .boolean ∨ t = .byte ∨ t = .char ∨ t = .short) (hret : meth.sig.returnType = some t) {z : Int32} (hd : decode c.code pc = .ok (.ireturn, 1)) (hc : cells ≤ k) (hn : slots ≤ n) (hq : Q (some (.int (nar t z))) T.heap locs) : own_WP p e below s Q k n (T.setTop (mkF m pc ls (.int z :: rest))) :=
  own_done X hlk (fun q => by rw [hret] at q; cases q) hc hn hq fun fs hr => retN X hx hret ht hd hr
theorem own_retJ (X : Stand p l e R s m args below meth c T locs cells slots) (hx : p.tables.exec = Jvm.exec) (hlk : meth.locks = false) (hret : meth.sig.returnType = some .long) {z : Int64} (hd : decode c.code pc = .ok (.lreturn, 1)) (hc : cells ≤ k) (hn : slots ≤ n) (hq : Q (some (.long z)) T.heap locs) : own_WP p e below s Q k n (T.setTop (mkF m pc ls (.long z :: rest))) :=
  own_done X hlk (fun q => by rw [hret] at q; cases q) hc hn hq fun fs hr => retOut X hx hret rfl (Or.inr (Or.inl ⟨rfl, rfl, z, rfl⟩)) hd hr
theorem own_retA (X : Stand p l e R s m args below meth c T locs cells slots) (hx : p.tables.exec = Jvm.exec) (hlk : meth.locks = false) {t : FieldType} (ht : t.isReference = true) (hret : meth.sig.returnType = some t) {w : Value} (hw : w.isRef = true) (hnw : narrow t w = w) (hd : decode c.code pc = .ok (.areturn, 1)) (hc : cells ≤ k) (hn : slots ≤ n) (hq : Q (some w) T.heap locs) : own_WP p e below s Q k n (T.setTop (mkF m pc ls (w :: rest))) :=
  own_done X hlk (fun q => by rw [hret] at q; cases q) hc hn hq fun fs hr => retOut X hx hret hnw (Or.inr (Or.inr (Or.inr (Or.inr ⟨rfl, ht, hw⟩)))) hd hr
theorem own_ret0 (X : Stand p l e R s m args below meth c T locs cells slots) (hx : p.tables.exec = Jvm.exec) (hlk : meth.locks = false) (hret : meth.sig.returnType = none) (hd : decode c.code pc = .ok (.return_, 1)) (hc : cells ≤ k) (hn : slots ≤ n) (hq : Q none T.heap locs) : own_WP p e below s Q k n (T.setTop (mkF m pc ls [])) :=
  own_done X hlk (fun _ => rfl) hc hn hq fun fs hr => X.returnOut hx hret hd hr
theorem own_iload (X : Stand p l e R s m args below meth c T locs cells slots) (hx : p.tables.exec = Jvm.exec) {j : Nat} {v : Int32} (hd : decode c.code pc = .ok (.iload j, 2)) (hl : ls[j]? = some (.val (.int v))) (hpc : pc + 2 = pc') (w : own_WP p e below s Q k n (T.setTop (mkF m pc' ls (.int v :: rest)))) : own_WP p e below s Q k n (T.setTop (mkF m pc ls rest)) := by
  subst hpc
  exact own_of (fun t q => XS.iload X.here hx rfl hd hl q) w
theorem own_iloadN (X : Stand p l e R s m args below meth c T locs cells slots) (hx : p.tables.exec = Jvm.exec) {j : Fin 4} {v : Int32} (hd : decode c.code pc = .ok (.iload_n j, 1)) (hl : ls[j.val]? = some (.val (.int v))) (hpc : pc + 1 = pc') (w : own_WP p e below s Q k n (T.setTop (mkF m pc' ls (.int v :: rest)))) : own_WP p e below s Q k n (T.setTop (mkF m pc ls rest)) := by
  subst hpc
  exact own_of (fun t q => XS.iloadN X.here hx rfl hd hl q) w
theorem own_lload (X : Stand p l e R s m args below meth c T locs cells slots) (hx : p.tables.exec = Jvm.exec) {j : Nat} {v : Int64} (hd : decode c.code pc = .ok (.lload j, 2)) (hl : ls[j]? = some (.val (.long v))) (hpc : pc + 2 = pc') (w : own_WP p e below s Q k n (T.setTop (mkF m pc' ls (.long v :: rest)))) : own_WP p e below s Q k n (T.setTop (mkF m pc ls rest)) := by
  subst hpc
  exact own_of (fun t q => XS.lload X.here hx rfl hd hl q) w
theorem own_lloadN (X : Stand p l e R s m args below meth c T locs cells slots) (hx : p.tables.exec = Jvm.exec) {j : Fin 4} {v : Int64} (hd : decode c.code pc = .ok (.lload_n j, 1)) (hl : ls[j.val]? = some (.val (.long v))) (hpc : pc + 1 = pc') (w : own_WP p e below s Q k n (T.setTop (mkF m pc' ls (.long v :: rest)))) : own_WP p e below s Q k n (T.setTop (mkF m pc ls rest)) := by
  subst hpc
  exact own_of (fun t q => XS.lloadN X.here hx rfl hd hl q) w
theorem own_aload (X : Stand p l e R s m args below meth c T locs cells slots) (hx : p.tables.exec = Jvm.exec) {j : Nat} {v : Value} (hd : decode c.code pc = .ok (.aload j, 2)) (hl : ls[j]? = some (.val v)) (hv : v.isRef = true) (hpc : pc + 2 = pc') (w : own_WP p e below s Q k n (T.setTop (mkF m pc' ls (v :: rest)))) : own_WP p e below s Q k n (T.setTop (mkF m pc ls rest)) := by
  subst hpc
  exact own_of (fun t q => XS.aload X.here hx rfl hd hl hv q) w
theorem own_aloadN (X : Stand p l e R s m args below meth c T locs cells slots) (hx : p.tables.exec = Jvm.exec) {j : Fin 4} {v : Value} (hd : decode c.code pc = .ok (.aload_n j, 1)) (hl : ls[j.val]? = some (.val v)) (hv : v.isRef = true) (hpc : pc + 1 = pc') (w : own_WP p e below s Q k n (T.setTop (mkF m pc' ls (v :: rest)))) : own_WP p e below s Q k n (T.setTop (mkF m pc ls rest)) := by
  subst hpc
  exact own_of (fun t q => XS.aloadN X.here hx rfl hd hl hv q) w
theorem own_istore (X : Stand p l e R s m args below meth c T locs cells slots) (hx : p.tables.exec = Jvm.exec) {j : Nat} {v z : Int32} (hd : decode c.code pc = .ok (.istore j, 2)) (hz : z = v) (hl : storeLocals ls j (.int z) = some l') (hpc : pc + 2 = pc') (w : own_WP p e below s Q k n (T.setTop (mkF m pc' l' rest))) : own_WP p e below s Q k n (T.setTop (mkF m pc ls (.int v :: rest))) := by
  subst hpc
  exact own_of (fun t q => XS.istore X.here hx rfl hd rfl (hz ▸ hl) q) w
theorem own_istoreN (X : Stand p l e R s m args below meth c T locs cells slots) (hx : p.tables.exec = Jvm.exec) {j : Fin 4} {v z : Int32} (hd : decode c.code pc = .ok (.istore_n j, 1)) (hz : z = v) (hl : storeLocals ls j.val (.int z) = some l') (hpc : pc + 1 = pc') (w : own_WP p e below s Q k n (T.setTop (mkF m pc' l' rest))) : own_WP p e below s Q k n (T.setTop (mkF m pc ls (.int v :: rest))) := by
  subst hpc
  exact own_of (fun t q => XS.istoreN X.here hx rfl hd rfl (hz ▸ hl) q) w
theorem own_lstore (X : Stand p l e R s m args below meth c T locs cells slots) (hx : p.tables.exec = Jvm.exec) {j : Nat} {v z : Int64} (hd : decode c.code pc = .ok (.lstore j, 2)) (hz : z = v) (hl : storeLocals ls j (.long z) = some l') (hpc : pc + 2 = pc') (w : own_WP p e below s Q k n (T.setTop (mkF m pc' l' rest))) : own_WP p e below s Q k n (T.setTop (mkF m pc ls (.long v :: rest))) := by
  subst hpc
  exact own_of (fun t q => XS.lstore X.here hx rfl hd rfl (hz ▸ hl) q) w
theorem own_lstoreN (X : Stand p l e R s m args below meth c T locs cells slots) (hx : p.tables.exec = Jvm.exec) {j : Fin 4} {v z : Int64} (hd : decode c.code pc = .ok (.lstore_n j, 1)) (hz : z = v) (hl : storeLocals ls j.val (.long z) = some l') (hpc : pc + 1 = pc') (w : own_WP p e below s Q k n (T.setTop (mkF m pc' l' rest))) : own_WP p e below s Q k n (T.setTop (mkF m pc ls (.long v :: rest))) := by
  subst hpc
  exact own_of (fun t q => XS.lstoreN X.here hx rfl hd rfl (hz ▸ hl) q) w
theorem own_astore (X : Stand p l e R s m args below meth c T locs cells slots) (hx : p.tables.exec = Jvm.exec) {j : Nat} {v : Value} (hd : decode c.code pc = .ok (.astore j, 2)) (hv : v.isRef = true) (hl : storeLocals ls j v = some l') (hpc : pc + 2 = pc') (w : own_WP p e below s Q k n (T.setTop (mkF m pc' l' rest))) : own_WP p e below s Q k n (T.setTop (mkF m pc ls (v :: rest))) := by
  subst hpc
  exact own_of (fun t q => XS.astore X.here hx rfl hd rfl hv hl q) w
theorem own_astoreN (X : Stand p l e R s m args below meth c T locs cells slots) (hx : p.tables.exec = Jvm.exec) {j : Fin 4} {v : Value} (hd : decode c.code pc = .ok (.astore_n j, 1)) (hv : v.isRef = true) (hl : storeLocals ls j.val v = some l') (hpc : pc + 1 = pc') (w : own_WP p e below s Q k n (T.setTop (mkF m pc' l' rest))) : own_WP p e below s Q k n (T.setTop (mkF m pc ls (v :: rest))) := by
  subst hpc
  exact own_of (fun t q => XS.astoreN X.here hx rfl hd rfl hv hl q) w
theorem own_iinc (X : Stand p l e R s m args below meth c T locs cells slots) (hx : p.tables.exec = Jvm.exec) {j : Nat} {i : Int} {v z : Int32} (hd : decode c.code pc = .ok (.iinc j i, 3)) (hl0 : ls[j]? = some (.val (.int v))) (hz : z = v + Int32.ofInt i) (hl : storeLocals ls j (.int z) = some l') (hpc : pc + 3 = pc') (w : own_WP p e below s Q k n (T.setTop (mkF m pc' l' rest))) : own_WP p e below s Q k n (T.setTop (mkF m pc ls rest)) := by
  subst hpc
  exact own_of (fun t q => XS.iinc X.here hx rfl hd hl0 (hz ▸ hl) q) w
theorem own_iconst (X : Stand p l e R s m args below meth c T locs cells slots) (hx : p.tables.exec = Jvm.exec) {i : Int} (v : Int32) (hd : decode c.code pc = .ok (.iconst i, 1)) (hv : v = Int32.ofInt i) (hpc : pc + 1 = pc') (w : own_WP p e below s Q k n (T.setTop (mkF m pc' ls (.int v :: rest)))) : own_WP p e below s Q k n (T.setTop (mkF m pc ls rest)) := by
  subst hpc
  exact own_of (fun t q => XS.iconst X.here hx rfl hd (hv ▸ q)) w
theorem own_bipush (X : Stand p l e R s m args below meth c T locs cells slots) (hx : p.tables.exec = Jvm.exec) {i : Int} (v : Int32) (hd : decode c.code pc = .ok (.bipush i, 2)) (hv : v = (Int8.ofInt i).toInt32) (hpc : pc + 2 = pc') (w : own_WP p e below s Q k n (T.setTop (mkF m pc' ls (.int v :: rest)))) : own_WP p e below s Q k n (T.setTop (mkF m pc ls rest)) := by
  subst hpc
  exact own_of (fun t q => XS.bipush X.here hx rfl hd (hv ▸ q)) w
theorem own_sipush (X : Stand p l e R s m args below meth c T locs cells slots) (hx : p.tables.exec = Jvm.exec) {i : Int} (v : Int32) (hd : decode c.code pc = .ok (.sipush i, 3)) (hv : v = (Int16.ofInt i).toInt32) (hpc : pc + 3 = pc') (w : own_WP p e below s Q k n (T.setTop (mkF m pc' ls (.int v :: rest)))) : own_WP p e below s Q k n (T.setTop (mkF m pc ls rest)) := by
  subst hpc
  exact own_of (fun t q => XS.sipush X.here hx rfl hd (hv ▸ q)) w
theorem own_anull (X : Stand p l e R s m args below meth c T locs cells slots) (hx : p.tables.exec = Jvm.exec)  (hd : decode c.code pc = .ok (.aconst_null, 1)) (hpc : pc + 1 = pc') (w : own_WP p e below s Q k n (T.setTop (mkF m pc' ls (.null :: rest)))) : own_WP p e below s Q k n (T.setTop (mkF m pc ls rest)) := by
  subst hpc
  exact own_of (fun t q => XS.aconstNull X.here hx rfl hd q) w
theorem own_lconst0 (X : Stand p l e R s m args below meth c T locs cells slots) (hx : p.tables.exec = Jvm.exec)  (hd : decode c.code pc = .ok (.lconst 0, 1)) (hpc : pc + 1 = pc') (w : own_WP p e below s Q k n (T.setTop (mkF m pc' ls (.long 0 :: rest)))) : own_WP p e below s Q k n (T.setTop (mkF m pc ls rest)) := by
  subst hpc
  exact own_of (fun t q => XS.lconst X.here hx rfl hd q) w
theorem own_lconst1 (X : Stand p l e R s m args below meth c T locs cells slots) (hx : p.tables.exec = Jvm.exec)  (hd : decode c.code pc = .ok (.lconst 1, 1)) (hpc : pc + 1 = pc') (w : own_WP p e below s Q k n (T.setTop (mkF m pc' ls (.long 1 :: rest)))) : own_WP p e below s Q k n (T.setTop (mkF m pc ls rest)) := by
  subst hpc
  exact own_of (fun t q => XS.lconst X.here hx rfl hd q) w
theorem own_ldcInt (X : Stand p l e R s m args below meth c T locs cells slots) (hx : p.tables.exec = Jvm.exec) (hZ : Z.Warmed39 s.vm) {own : String} {idx : Nat} {v : Int32} (hown : s.vm.findClass own = some m.cls) (w1 : (Jvm.Cond.constant own idx v).before a0 Z = true) (hd : decode c.code pc = .ok (.ldc idx, 2)) (hpc : pc + 2 = pc') (w : own_WP p e below s Q k n (T.setTop (mkF m pc' ls (.int v :: rest)))) : own_WP p e below s Q k n (T.setTop (mkF m pc ls rest)) := by
  subst hpc
  exact own_of (fun t q => X.ldcInt hx hown (mvT hZ w1) (g := mkF m pc ls rest) rfl hd _ q) w
theorem own_ldcwInt (X : Stand p l e R s m args below meth c T locs cells slots) (hx : p.tables.exec = Jvm.exec) (hZ : Z.Warmed39 s.vm) {own : String} {idx : Nat} {v : Int32} (hown : s.vm.findClass own = some m.cls) (w1 : (Jvm.Cond.constant own idx v).before a0 Z = true) (hd : decode c.code pc = .ok (.ldc_w idx, 3)) (hpc : pc + 3 = pc') (w : own_WP p e below s Q k n (T.setTop (mkF m pc' ls (.int v :: rest)))) : own_WP p e below s Q k n (T.setTop (mkF m pc ls rest)) := by
  subst hpc
  exact own_of (fun t q => X.ldcwInt hx hown (mvT hZ w1) (g := mkF m pc ls rest) rfl hd _ q) w
theorem own_ldc2Long (X : Stand p l e R s m args below meth c T locs cells slots) (hx : p.tables.exec = Jvm.exec) (hZ : Z.Warmed39 s.vm) {own : String} {idx : Nat} {v : Int64} (hown : s.vm.findClass own = some m.cls) (w1 : (Jvm.Cond.constantLong own idx v).before a0 Z = true) (hd : decode c.code pc = .ok (.ldc2_w idx, 3)) (hpc : pc + 3 = pc') (w : own_WP p e below s Q k n (T.setTop (mkF m pc' ls (.long v :: rest)))) : own_WP p e below s Q k n (T.setTop (mkF m pc ls rest)) := by
  subst hpc
  exact own_of (fun t q => X.ldc2Long hx hown (mvT hZ w1) (g := mkF m pc ls rest) rfl hd _ q) w
theorem own_iadd (X : Stand p l e R s m args below meth c T locs cells slots) (hx : p.tables.exec = Jvm.exec) {x y : Int32} (hd : decode c.code pc = .ok (.iadd, 1)) (hpc : pc + 1 = pc') (w : own_WP p e below s Q k n (T.setTop (mkF m pc' ls (.int (x + y) :: rest)))) : own_WP p e below s Q k n (T.setTop (mkF m pc ls (.int y :: .int x :: rest))) := by
  subst hpc
  exact own_of (fun t q => XS.iadd X.here hx rfl hd rfl q) w
theorem own_ladd (X : Stand p l e R s m args below meth c T locs cells slots) (hx : p.tables.exec = Jvm.exec) {x y : Int64} (hd : decode c.code pc = .ok (.ladd, 1)) (hpc : pc + 1 = pc') (w : own_WP p e below s Q k n (T.setTop (mkF m pc' ls (.long (x + y) :: rest)))) : own_WP p e below s Q k n (T.setTop (mkF m pc ls (.long y :: .long x :: rest))) := by
  subst hpc
  exact own_of (fun t q => XS.ladd X.here hx rfl hd rfl q) w
theorem own_isub (X : Stand p l e R s m args below meth c T locs cells slots) (hx : p.tables.exec = Jvm.exec) {x y : Int32} (hd : decode c.code pc = .ok (.isub, 1)) (hpc : pc + 1 = pc') (w : own_WP p e below s Q k n (T.setTop (mkF m pc' ls (.int (x - y) :: rest)))) : own_WP p e below s Q k n (T.setTop (mkF m pc ls (.int y :: .int x :: rest))) := by
  subst hpc
  exact own_of (fun t q => XS.isub X.here hx rfl hd rfl q) w
theorem own_lsub (X : Stand p l e R s m args below meth c T locs cells slots) (hx : p.tables.exec = Jvm.exec) {x y : Int64} (hd : decode c.code pc = .ok (.lsub, 1)) (hpc : pc + 1 = pc') (w : own_WP p e below s Q k n (T.setTop (mkF m pc' ls (.long (x - y) :: rest)))) : own_WP p e below s Q k n (T.setTop (mkF m pc ls (.long y :: .long x :: rest))) := by
  subst hpc
  exact own_of (fun t q => XS.lsub X.here hx rfl hd rfl q) w
theorem own_imul (X : Stand p l e R s m args below meth c T locs cells slots) (hx : p.tables.exec = Jvm.exec) {x y : Int32} (hd : decode c.code pc = .ok (.imul, 1)) (hpc : pc + 1 = pc') (w : own_WP p e below s Q k n (T.setTop (mkF m pc' ls (.int (x * y) :: rest)))) : own_WP p e below s Q k n (T.setTop (mkF m pc ls (.int y :: .int x :: rest))) := by
  subst hpc
  exact own_of (fun t q => XS.imul X.here hx rfl hd rfl q) w
theorem own_lmul (X : Stand p l e R s m args below meth c T locs cells slots) (hx : p.tables.exec = Jvm.exec) {x y : Int64} (hd : decode c.code pc = .ok (.lmul, 1)) (hpc : pc + 1 = pc') (w : own_WP p e below s Q k n (T.setTop (mkF m pc' ls (.long (x * y) :: rest)))) : own_WP p e below s Q k n (T.setTop (mkF m pc ls (.long y :: .long x :: rest))) := by
  subst hpc
  exact own_of (fun t q => XS.lmul X.here hx rfl hd rfl q) w
theorem own_iand (X : Stand p l e R s m args below meth c T locs cells slots) (hx : p.tables.exec = Jvm.exec) {x y : Int32} (hd : decode c.code pc = .ok (.iand, 1)) (hpc : pc + 1 = pc') (w : own_WP p e below s Q k n (T.setTop (mkF m pc' ls (.int (x &&& y) :: rest)))) : own_WP p e below s Q k n (T.setTop (mkF m pc ls (.int y :: .int x :: rest))) := by
  subst hpc
  exact own_of (fun t q => XS.iand X.here hx rfl hd rfl q) w
theorem own_land (X : Stand p l e R s m args below meth c T locs cells slots) (hx : p.tables.exec = Jvm.exec) {x y : Int64} (hd : decode c.code pc = .ok (.land, 1)) (hpc : pc + 1 = pc') (w : own_WP p e below s Q k n (T.setTop (mkF m pc' ls (.long (x &&& y) :: rest)))) : own_WP p e below s Q k n (T.setTop (mkF m pc ls (.long y :: .long x :: rest))) := by
  subst hpc
  exact own_of (fun t q => XS.land X.here hx rfl hd rfl q) w
theorem own_ior (X : Stand p l e R s m args below meth c T locs cells slots) (hx : p.tables.exec = Jvm.exec) {x y : Int32} (hd : decode c.code pc = .ok (.ior, 1)) (hpc : pc + 1 = pc') (w : own_WP p e below s Q k n (T.setTop (mkF m pc' ls (.int (x ||| y) :: rest)))) : own_WP p e below s Q k n (T.setTop (mkF m pc ls (.int y :: .int x :: rest))) := by
  subst hpc
  exact own_of (fun t q => XS.ior X.here hx rfl hd rfl q) w
theorem own_lor (X : Stand p l e R s m args below meth c T locs cells slots) (hx : p.tables.exec = Jvm.exec) {x y : Int64} (hd : decode c.code pc = .ok (.lor, 1)) (hpc : pc + 1 = pc') (w : own_WP p e below s Q k n (T.setTop (mkF m pc' ls (.long (x ||| y) :: rest)))) : own_WP p e below s Q k n (T.setTop (mkF m pc ls (.long y :: .long x :: rest))) := by
  subst hpc
  exact own_of (fun t q => XS.lor X.here hx rfl hd rfl q) w
theorem own_ixor (X : Stand p l e R s m args below meth c T locs cells slots) (hx : p.tables.exec = Jvm.exec) {x y : Int32} (hd : decode c.code pc = .ok (.ixor, 1)) (hpc : pc + 1 = pc') (w : own_WP p e below s Q k n (T.setTop (mkF m pc' ls (.int (x ^^^ y) :: rest)))) : own_WP p e below s Q k n (T.setTop (mkF m pc ls (.int y :: .int x :: rest))) := by
  subst hpc
  exact own_of (fun t q => XS.ixor X.here hx rfl hd rfl q) w
theorem own_lxor (X : Stand p l e R s m args below meth c T locs cells slots) (hx : p.tables.exec = Jvm.exec) {x y : Int64} (hd : decode c.code pc = .ok (.lxor, 1)) (hpc : pc + 1 = pc') (w : own_WP p e below s Q k n (T.setTop (mkF m pc' ls (.long (x ^^^ y) :: rest)))) : own_WP p e below s Q k n (T.setTop (mkF m pc ls (.long y :: .long x :: rest))) := by
  subst hpc
  exact own_of (fun t q => XS.lxor X.here hx rfl hd rfl q) w
theorem own_ishl (X : Stand p l e R s m args below meth c T locs cells slots) (hx : p.tables.exec = Jvm.exec) {x y : Int32} (hd : decode c.code pc = .ok (.ishl, 1)) (hpc : pc + 1 = pc') (w : own_WP p e below s Q k n (T.setTop (mkF m pc' ls (.int (x <<< (y &&& 31)) :: rest)))) : own_WP p e below s Q k n (T.setTop (mkF m pc ls (.int y :: .int x :: rest))) := by
  subst hpc
  exact own_of (fun t q => XS.ishl X.here hx rfl hd rfl q) w
theorem own_ishr (X : Stand p l e R s m args below meth c T locs cells slots) (hx : p.tables.exec = Jvm.exec) {x y : Int32} (hd : decode c.code pc = .ok (.ishr, 1)) (hpc : pc + 1 = pc') (w : own_WP p e below s Q k n (T.setTop (mkF m pc' ls (.int (x >>> (y &&& 31)) :: rest)))) : own_WP p e below s Q k n (T.setTop (mkF m pc ls (.int y :: .int x :: rest))) := by
  subst hpc
  exact own_of (fun t q => XS.ishr X.here hx rfl hd rfl q) w
theorem own_iushr (X : Stand p l e R s m args below meth c T locs cells slots) (hx : p.tables.exec = Jvm.exec) {x y : Int32} (hd : decode c.code pc = .ok (.iushr, 1)) (hpc : pc + 1 = pc') (w : own_WP p e below s Q k n (T.setTop (mkF m pc' ls (.int ((x.toUInt32 >>> (y &&& 31).toUInt32).toInt32) :: rest)))) : own_WP p e below s Q k n (T.setTop (mkF m pc ls (.int y :: .int x :: rest))) := by
  subst hpc
  exact own_of (fun t q => XS.iushr X.here hx rfl hd rfl q) w
theorem own_lshl (X : Stand p l e R s m args below meth c T locs cells slots) (hx : p.tables.exec = Jvm.exec) {x : Int64} {y : Int32} (hd : decode c.code pc = .ok (.lshl, 1)) (hpc : pc + 1 = pc') (w : own_WP p e below s Q k n (T.setTop (mkF m pc' ls (.long (x <<< (y &&& 0x3f).toInt64) :: rest)))) : own_WP p e below s Q k n (T.setTop (mkF m pc ls (.int y :: .long x :: rest))) := by
  subst hpc
  exact own_of (fun t q => XS.lshl X.here hx rfl hd rfl q) w
theorem own_lshr (X : Stand p l e R s m args below meth c T locs cells slots) (hx : p.tables.exec = Jvm.exec) {x : Int64} {y : Int32} (hd : decode c.code pc = .ok (.lshr, 1)) (hpc : pc + 1 = pc') (w : own_WP p e below s Q k n (T.setTop (mkF m pc' ls (.long (x >>> (y &&& 0x3f).toInt64) :: rest)))) : own_WP p e below s Q k n (T.setTop (mkF m pc ls (.int y :: .long x :: rest))) := by
  subst hpc
  exact own_of (fun t q => XS.lshr X.here hx rfl hd rfl q) w
theorem own_lushr (X : Stand p l e R s m args below meth c T locs cells slots) (hx : p.tables.exec = Jvm.exec) {x : Int64} {y : Int32} (hd : decode c.code pc = .ok (.lushr, 1)) (hpc : pc + 1 = pc') (w : own_WP p e below s Q k n (T.setTop (mkF m pc' ls (.long ((x.toUInt64 >>> (y &&& 0x3f).toInt64.toUInt64).toInt64) :: rest)))) : own_WP p e below s Q k n (T.setTop (mkF m pc ls (.int y :: .long x :: rest))) := by
  subst hpc
  exact own_of (fun t q => XS.lushr X.here hx rfl hd rfl q) w
theorem own_idiv (X : Stand p l e R s m args below meth c T locs cells slots) (hx : p.tables.exec = Jvm.exec) {x y : Int32} (hd : decode c.code pc = .ok (.idiv, 1)) (hy : y ≠ 0) (hpc : pc + 1 = pc') (w : own_WP p e below s Q k n (T.setTop (mkF m pc' ls (.int (x / y) :: rest)))) : own_WP p e below s Q k n (T.setTop (mkF m pc ls (.int y :: .int x :: rest))) := by
  subst hpc
  exact own_of (fun t q => XS.idiv X.here hx rfl hd rfl hy q) w
theorem own_irem (X : Stand p l e R s m args below meth c T locs cells slots) (hx : p.tables.exec = Jvm.exec) {x y : Int32} (hd : decode c.code pc = .ok (.irem, 1)) (hy : y ≠ 0) (hpc : pc + 1 = pc') (w : own_WP p e below s Q k n (T.setTop (mkF m pc' ls (.int (x % y) :: rest)))) : own_WP p e below s Q k n (T.setTop (mkF m pc ls (.int y :: .int x :: rest))) := by
  subst hpc
  exact own_of (fun t q => iremM X hx rfl hd rfl hy q) w
theorem own_ldiv (X : Stand p l e R s m args below meth c T locs cells slots) (hx : p.tables.exec = Jvm.exec) {x y : Int64} (hd : decode c.code pc = .ok (.ldiv, 1)) (hy : y ≠ 0) (hpc : pc + 1 = pc') (w : own_WP p e below s Q k n (T.setTop (mkF m pc' ls (.long (x / y) :: rest)))) : own_WP p e below s Q k n (T.setTop (mkF m pc ls (.long y :: .long x :: rest))) := by
  subst hpc
  exact own_of (fun t q => XS.ldiv X.here hx rfl hd rfl hy q) w
theorem own_lrem (X : Stand p l e R s m args below meth c T locs cells slots) (hx : p.tables.exec = Jvm.exec) {x y : Int64} (hd : decode c.code pc = .ok (.lrem, 1)) (hy : y ≠ 0) (hpc : pc + 1 = pc') (w : own_WP p e below s Q k n (T.setTop (mkF m pc' ls (.long (x % y) :: rest)))) : own_WP p e below s Q k n (T.setTop (mkF m pc ls (.long y :: .long x :: rest))) := by
  subst hpc
  exact own_of (fun t q => XS.lrem X.here hx rfl hd rfl hy ((lrem_mod x y).symm ▸ q)) w
theorem own_ineg (X : Stand p l e R s m args below meth c T locs cells slots) (hx : p.tables.exec = Jvm.exec) {x : Int32} (hd : decode c.code pc = .ok (.ineg, 1)) (hpc : pc + 1 = pc') (w : own_WP p e below s Q k n (T.setTop (mkF m pc' ls (.int (-x) :: rest)))) : own_WP p e below s Q k n (T.setTop (mkF m pc ls (.int x :: rest))) := by
  subst hpc
  exact own_of (fun t q => XS.ineg X.here hx rfl hd rfl q) w
theorem own_lneg (X : Stand p l e R s m args below meth c T locs cells slots) (hx : p.tables.exec = Jvm.exec) {x : Int64} (hd : decode c.code pc = .ok (.lneg, 1)) (hpc : pc + 1 = pc') (w : own_WP p e below s Q k n (T.setTop (mkF m pc' ls (.long (-x) :: rest)))) : own_WP p e below s Q k n (T.setTop (mkF m pc ls (.long x :: rest))) := by
  subst hpc
  exact own_of (fun t q => XS.lneg X.here hx rfl hd rfl q) w
theorem own_i2l (X : Stand p l e R s m args below meth c T locs cells slots) (hx : p.tables.exec = Jvm.exec) {x : Int32} (hd : decode c.code pc = .ok (.i2l, 1)) (hpc : pc + 1 = pc') (w : own_WP p e below s Q k n (T.setTop (mkF m pc' ls (.long (x.toInt64) :: rest)))) : own_WP p e below s Q k n (T.setTop (mkF m pc ls (.int x :: rest))) := by
  subst hpc
  exact own_of (fun t q => XS.i2l X.here hx rfl hd rfl q) w
theorem own_l2i (X : Stand p l e R s m args below meth c T locs cells slots) (hx : p.tables.exec = Jvm.exec) {x : Int64} (hd : decode c.code pc = .ok (.l2i, 1)) (hpc : pc + 1 = pc') (w : own_WP p e below s Q k n (T.setTop (mkF m pc' ls (.int (x.toInt32) :: rest)))) : own_WP p e below s Q k n (T.setTop (mkF m pc ls (.long x :: rest))) := by
  subst hpc
  exact own_of (fun t q => XS.l2i X.here hx rfl hd rfl q) w
theorem own_i2b (X : Stand p l e R s m args below meth c T locs cells slots) (hx : p.tables.exec = Jvm.exec) {x : Int32} (hd : decode c.code pc = .ok (.i2b, 1)) (hpc : pc + 1 = pc') (w : own_WP p e below s Q k n (T.setTop (mkF m pc' ls (.int (x.toInt8.toInt32) :: rest)))) : own_WP p e below s Q k n (T.setTop (mkF m pc ls (.int x :: rest))) := by
  subst hpc
  exact own_of (fun t q => XS.i2b X.here hx rfl hd rfl q) w
theorem own_i2s (X : Stand p l e R s m args below meth c T locs cells slots) (hx : p.tables.exec = Jvm.exec) {x : Int32} (hd : decode c.code pc = .ok (.i2s, 1)) (hpc : pc + 1 = pc') (w : own_WP p e below s Q k n (T.setTop (mkF m pc' ls (.int (x.toInt16.toInt32) :: rest)))) : own_WP p e below s Q k n (T.setTop (mkF m pc ls (.int x :: rest))) := by
  subst hpc
  exact own_of (fun t q => XS.i2s X.here hx rfl hd rfl q) w
theorem own_i2c (X : Stand p l e R s m args below meth c T locs cells slots) (hx : p.tables.exec = Jvm.exec) {x : Int32} (hd : decode c.code pc = .ok (.i2c, 1)) (hpc : pc + 1 = pc') (w : own_WP p e below s Q k n (T.setTop (mkF m pc' ls (.int (x.toUInt32.toUInt16.toUInt32.toInt32) :: rest)))) : own_WP p e below s Q k n (T.setTop (mkF m pc ls (.int x :: rest))) := by
  subst hpc
  exact own_of (fun t q => XS.i2c X.here hx rfl hd rfl q) w
theorem own_lcmp (X : Stand p l e R s m args below meth c T locs cells slots) (hx : p.tables.exec = Jvm.exec) {x y : Int64} (hd : decode c.code pc = .ok (.lcmp, 1)) (hpc : pc + 1 = pc') (w : own_WP p e below s Q k n (T.setTop (mkF m pc' ls (.int (lcmpW x y) :: rest)))) : own_WP p e below s Q k n (T.setTop (mkF m pc ls (.long y :: .long x :: rest))) := by
  subst hpc
  exact own_of (fun t q => XS.lcmp X.here hx rfl hd rfl q) w
theorem own_dup (X : Stand p l e R s m args below meth c T locs cells slots) (hx : p.tables.exec = Jvm.exec) {v : Value} (hd : decode c.code pc = .ok (.dup, 1)) (hv : v.category = 1) (hpc : pc + 1 = pc') (w : own_WP p e below s Q k n (T.setTop (mkF m pc' ls (v :: v :: rest)))) : own_WP p e below s Q k n (T.setTop (mkF m pc ls (v :: rest))) := by
  subst hpc
  exact own_of (fun t q => XS.dup X.here hx rfl hd rfl hv q) w
theorem own_pop (X : Stand p l e R s m args below meth c T locs cells slots) (hx : p.tables.exec = Jvm.exec) {v : Value} (hd : decode c.code pc = .ok (.pop, 1)) (hv : v.category = 1) (hpc : pc + 1 = pc') (w : own_WP p e below s Q k n (T.setTop (mkF m pc' ls rest))) : own_WP p e below s Q k n (T.setTop (mkF m pc ls (v :: rest))) := by
  subst hpc
  exact own_of (fun t q => XS.pop X.here hx rfl hd rfl hv q) w
theorem own_dup2 (X : Stand p l e R s m args below meth c T locs cells slots) (hx : p.tables.exec = Jvm.exec) {v1 v2 : Value} (hd : decode c.code pc = .ok (.dup2, 1)) (h1 : v1.category = 1) (h2 : v2.category = 1) (hpc : pc + 1 = pc') (w : own_WP p e below s Q k n (T.setTop (mkF m pc' ls (v1 :: v2 :: v1 :: v2 :: rest)))) : own_WP p e below s Q k n (T.setTop (mkF m pc ls (v1 :: v2 :: rest))) := by
  subst hpc
  refine own_of (fun t q => ?_) w
  jvm_step X.here [X.here.top, hx, hd, h1, h2]
  exact q
theorem own_goto (X : Stand p l e R s m args below meth c T locs cells slots) (hx : p.tables.exec = Jvm.exec) {o : Int} (hd : decode c.code pc = .ok (.goto o, 3)) (ho : 0 ≤ (pc : Int) + o) (hpc : ((pc : Int) + o).toNat = pc') (w : own_WP p e below s Q k n (T.setTop (mkF m pc' ls rest))) : own_WP p e below s Q k n (T.setTop (mkF m pc ls rest)) :=
  own_of (fun t q => XS.goto X.here hx rfl (pc0 := pc) (pc' := pc') rfl hd ho hpc q) w
theorem own_icmp_lt (X : Stand p l e R s m args below meth c T locs cells slots) (hx : p.tables.exec = Jvm.exec) {x y : Int32} {o : Int} {pf pt : Nat} (hd : decode c.code pc = .ok (.if_icmp .lt o, 3)) (hpf : pc + 3 = pf) (ho : 0 ≤ (pc : Int) + o) (hpt : ((pc : Int) + o).toNat = pt)
    (yes : x < y → own_WP p e below s Q k n (T.setTop (mkF m pt ls rest))) (no : ¬ x < y → own_WP p e below s Q k n (T.setTop (mkF m pf ls rest))) : own_WP p e below s Q k n (T.setTop (mkF m pc ls (.int y :: .int x :: rest))) := by
  subst hpf
  by_cases hq : x < y
  · exact own_of (fun t q => XS.icmpYes X.here hx rfl (pc0 := pc) (pc' := pt) rfl hd rfl ((tlt hq).1) ho hpt q) (yes hq)
  · exact own_of (fun t q => XS.icmpNo X.here hx rfl hd rfl ((flt hq).1) q) (no hq)
theorem own_if_lt (X : Stand p l e R s m args below meth c T locs cells slots) (hx : p.tables.exec = Jvm.exec) {x : Int32} {o : Int} {pf pt : Nat} (hd : decode c.code pc = .ok (.ifCond .lt o, 3)) (hpf : pc + 3 = pf) (ho : 0 ≤ (pc : Int) + o) (hpt : ((pc : Int) + o).toNat = pt)
    (yes : x < 0 → own_WP p e below s Q k n (T.setTop (mkF m pt ls rest))) (no : ¬ x < 0 → own_WP p e below s Q k n (T.setTop (mkF m pf ls rest))) : own_WP p e below s Q k n (T.setTop (mkF m pc ls (.int x :: rest))) := by
  subst hpf
  by_cases hq : x < 0
  · exact own_of (fun t q => XS.ifYes X.here hx rfl (pc0 := pc) (pc' := pt) rfl hd rfl ((if0 _ _).trans (tlt hq).1) ho hpt q) (yes hq)
  · exact own_of (fun t q => XS.ifNo X.here hx rfl hd rfl ((if0 _ _).trans (flt hq).1) q) (no hq)
theorem own_ifl_lt (X : Stand p l e R s m args below meth c T locs cells slots) (hx : p.tables.exec = Jvm.exec) {x y : Int64} {o : Int} {pf pt : Nat} (hd : decode c.code pc = .ok (.ifCond .lt o, 3)) (hpf : pc + 3 = pf) (ho : 0 ≤ (pc : Int) + o) (hpt : ((pc : Int) + o).toNat = pt)
    (yes : x < y → own_WP p e below s Q k n (T.setTop (mkF m pt ls rest))) (no : ¬ x < y → own_WP p e below s Q k n (T.setTop (mkF m pf ls rest))) : own_WP p e below s Q k n (T.setTop (mkF m pc ls (.int (lcmpW x y) :: rest))) := by
  subst hpf
  by_cases hq : x < y
  · exact own_of (fun t q => XS.ifYes X.here hx rfl (pc0 := pc) (pc' := pt) rfl hd rfl ((if0 _ _).trans (tlt ((lw_lt x y).mpr hq)).1) ho hpt q) (yes hq)
  · exact own_of (fun t q => XS.ifNo X.here hx rfl hd rfl ((if0 _ _).trans (flt (fun z => hq ((lw_lt x y).mp z))).1) q) (no hq)
theorem own_icmp_ge (X : Stand p l e R s m args below meth c T locs cells slots) (hx : p.tables.exec = Jvm.exec) {x y : Int32} {o : Int} {pf pt : Nat} (hd : decode c.code pc = .ok (.if_icmp .ge o, 3)) (hpf : pc + 3 = pf) (ho : 0 ≤ (pc : Int) + o) (hpt : ((pc : Int) + o).toNat = pt)
    (yes : ¬ x < y → own_WP p e below s Q k n (T.setTop (mkF m pt ls rest))) (no : x < y → own_WP p e below s Q k n (T.setTop (mkF m pf ls rest))) : own_WP p e below s Q k n (T.setTop (mkF m pc ls (.int y :: .int x :: rest))) := by
  subst hpf
  by_cases hq : ¬ x < y
  · exact own_of (fun t q => XS.icmpYes X.here hx rfl (pc0 := pc) (pc' := pt) rfl hd rfl ((flt hq).2.1) ho hpt q) (yes hq)
  · exact own_of (fun t q => XS.icmpNo X.here hx rfl hd rfl ((tlt (Classical.not_not.mp hq)).2.1) q) (no (Classical.not_not.mp hq))
theorem own_if_ge (X : Stand p l e R s m args below meth c T locs cells slots) (hx : p.tables.exec = Jvm.exec) {x : Int32} {o : Int} {pf pt : Nat} (hd : decode c.code pc = .ok (.ifCond .ge o, 3)) (hpf : pc + 3 = pf) (ho : 0 ≤ (pc : Int) + o) (hpt : ((pc : Int) + o).toNat = pt)
    (yes : ¬ x < 0 → own_WP p e below s Q k n (T.setTop (mkF m pt ls rest))) (no : x < 0 → own_WP p e below s Q k n (T.setTop (mkF m pf ls rest))) : own_WP p e below s Q k n (T.setTop (mkF m pc ls (.int x :: rest))) := by
  subst hpf
  by_cases hq : ¬ x < 0
  · exact own_of (fun t q => XS.ifYes X.here hx rfl (pc0 := pc) (pc' := pt) rfl hd rfl ((if0 _ _).trans (flt hq).2.1) ho hpt q) (yes hq)
  · exact own_of (fun t q => XS.ifNo X.here hx rfl hd rfl ((if0 _ _).trans (tlt (Classical.not_not.mp hq)).2.1) q) (no (Classical.not_not.mp hq))
theorem own_ifl_ge (X : Stand p l e R s m args below meth c T locs cells slots) (hx : p.tables.exec = Jvm.exec) {x y : Int64} {o : Int} {pf pt : Nat} (hd : decode c.code pc = .ok (.ifCond .ge o, 3)) (hpf : pc + 3 = pf) (ho : 0 ≤ (pc : Int) + o) (hpt : ((pc : Int) + o).toNat = pt)
    (yes : ¬ x < y → own_WP p e below s Q k n (T.setTop (mkF m pt ls rest))) (no : x < y → own_WP p e below s Q k n (T.setTop (mkF m pf ls rest))) : own_WP p e below s Q k n (T.setTop (mkF m pc ls (.int (lcmpW x y) :: rest))) := by
  subst hpf
  by_cases hq : ¬ x < y
  · exact own_of (fun t q => XS.ifYes X.here hx rfl (pc0 := pc) (pc' := pt) rfl hd rfl ((if0 _ _).trans (flt (fun z => hq ((lw_lt x y).mp z))).2.1) ho hpt q) (yes hq)
  · exact own_of (fun t q => XS.ifNo X.here hx rfl hd rfl ((if0 _ _).trans (tlt ((lw_lt x y).mpr (Classical.not_not.mp hq))).2.1) q) (no (Classical.not_not.mp hq))
theorem own_icmp_gt (X : Stand p l e R s m args below meth c T locs cells slots) (hx : p.tables.exec = Jvm.exec) {x y : Int32} {o : Int} {pf pt : Nat} (hd : decode c.code pc = .ok (.if_icmp .gt o, 3)) (hpf : pc + 3 = pf) (ho : 0 ≤ (pc : Int) + o) (hpt : ((pc : Int) + o).toNat = pt)
    (yes : y < x → own_WP p e below s Q k n (T.setTop (mkF m pt ls rest))) (no : ¬ y < x → own_WP p e below s Q k n (T.setTop (mkF m pf ls rest))) : own_WP p e below s Q k n (T.setTop (mkF m pc ls (.int y :: .int x :: rest))) := by
  subst hpf
  by_cases hq : y < x
  · exact own_of (fun t q => XS.icmpYes X.here hx rfl (pc0 := pc) (pc' := pt) rfl hd rfl ((tlt hq).2.2.1) ho hpt q) (yes hq)
  · exact own_of (fun t q => XS.icmpNo X.here hx rfl hd rfl ((flt hq).2.2.1) q) (no hq)
theorem own_if_gt (X : Stand p l e R s m args below meth c T locs cells slots) (hx : p.tables.exec = Jvm.exec) {x : Int32} {o : Int} {pf pt : Nat} (hd : decode c.code pc = .ok (.ifCond .gt o, 3)) (hpf : pc + 3 = pf) (ho : 0 ≤ (pc : Int) + o) (hpt : ((pc : Int) + o).toNat = pt)
    (yes : 0 < x → own_WP p e below s Q k n (T.setTop (mkF m pt ls rest))) (no : ¬ 0 < x → own_WP p e below s Q k n (T.setTop (mkF m pf ls rest))) : own_WP p e below s Q k n (T.setTop (mkF m pc ls (.int x :: rest))) := by
  subst hpf
  by_cases hq : 0 < x
  · exact own_of (fun t q => XS.ifYes X.here hx rfl (pc0 := pc) (pc' := pt) rfl hd rfl ((if0 _ _).trans (tlt hq).2.2.1) ho hpt q) (yes hq)
  · exact own_of (fun t q => XS.ifNo X.here hx rfl hd rfl ((if0 _ _).trans (flt hq).2.2.1) q) (no hq)
theorem own_ifl_gt (X : Stand p l e R s m args below meth c T locs cells slots) (hx : p.tables.exec = Jvm.exec) {x y : Int64} {o : Int} {pf pt : Nat} (hd : decode c.code pc = .ok (.ifCond .gt o, 3)) (hpf : pc + 3 = pf) (ho : 0 ≤ (pc : Int) + o) (hpt : ((pc : Int) + o).toNat = pt)
    (yes : y < x → own_WP p e below s Q k n (T.setTop (mkF m pt ls rest))) (no : ¬ y < x → own_WP p e below s Q k n (T.setTop (mkF m pf ls rest))) : own_WP p e below s Q k n (T.setTop (mkF m pc ls (.int (lcmpW x y) :: rest))) := by
  subst hpf
  by_cases hq : y < x
  · exact own_of (fun t q => XS.ifYes X.here hx rfl (pc0 := pc) (pc' := pt) rfl hd rfl ((if0 _ _).trans (tlt ((lw_gt x y).mpr hq)).2.2.1) ho hpt q) (yes hq)
  · exact own_of (fun t q => XS.ifNo X.here hx rfl hd rfl ((if0 _ _).trans (flt (fun z => hq ((lw_gt x y).mp z))).2.2.1) q) (no hq)
theorem own_icmp_le (X : Stand p l e R s m args below meth c T locs cells slots) (hx : p.tables.exec = Jvm.exec) {x y : Int32} {o : Int} {pf pt : Nat} (hd : decode c.code pc = .ok (.if_icmp .le o, 3)) (hpf : pc + 3 = pf) (ho : 0 ≤ (pc : Int) + o) (hpt : ((pc : Int) + o).toNat = pt)
    (yes : ¬ y < x → own_WP p e below s Q k n (T.setTop (mkF m pt ls rest))) (no : y < x → own_WP p e below s Q k n (T.setTop (mkF m pf ls rest))) : own_WP p e below s Q k n (T.setTop (mkF m pc ls (.int y :: .int x :: rest))) := by
  subst hpf
  by_cases hq : ¬ y < x
  · exact own_of (fun t q => XS.icmpYes X.here hx rfl (pc0 := pc) (pc' := pt) rfl hd rfl ((flt hq).2.2.2) ho hpt q) (yes hq)
  · exact own_of (fun t q => XS.icmpNo X.here hx rfl hd rfl ((tlt (Classical.not_not.mp hq)).2.2.2) q) (no (Classical.not_not.mp hq))
theorem own_if_le (X : Stand p l e R s m args below meth c T locs cells slots) (hx : p.tables.exec = Jvm.exec) {x : Int32} {o : Int} {pf pt : Nat} (hd : decode c.code pc = .ok (.ifCond .le o, 3)) (hpf : pc + 3 = pf) (ho : 0 ≤ (pc : Int) + o) (hpt : ((pc : Int) + o).toNat = pt)
    (yes : ¬ 0 < x → own_WP p e below s Q k n (T.setTop (mkF m pt ls rest))) (no : 0 < x → own_WP p e below s Q k n (T.setTop (mkF m pf ls rest))) : own_WP p e below s Q k n (T.setTop (mkF m pc ls (.int x :: rest))) := by
  subst hpf
  by_cases hq : ¬ 0 < x
  · exact own_of (fun t q => XS.ifYes X.here hx rfl (pc0 := pc) (pc' := pt) rfl hd rfl ((if0 _ _).trans (flt hq).2.2.2) ho hpt q) (yes hq)
  · exact own_of (fun t q => XS.ifNo X.here hx rfl hd rfl ((if0 _ _).trans (tlt (Classical.not_not.mp hq)).2.2.2) q) (no (Classical.not_not.mp hq))
theorem own_ifl_le (X : Stand p l e R s m args below meth c T locs cells slots) (hx : p.tables.exec = Jvm.exec) {x y : Int64} {o : Int} {pf pt : Nat} (hd : decode c.code pc = .ok (.ifCond .le o, 3)) (hpf : pc + 3 = pf) (ho : 0 ≤ (pc : Int) + o) (hpt : ((pc : Int) + o).toNat = pt)
    (yes : ¬ y < x → own_WP p e below s Q k n (T.setTop (mkF m pt ls rest))) (no : y < x → own_WP p e below s Q k n (T.setTop (mkF m pf ls rest))) : own_WP p e below s Q k n (T.setTop (mkF m pc ls (.int (lcmpW x y) :: rest))) := by
  subst hpf
  by_cases hq : ¬ y < x
  · exact own_of (fun t q => XS.ifYes X.here hx rfl (pc0 := pc) (pc' := pt) rfl hd rfl ((if0 _ _).trans (flt (fun z => hq ((lw_gt x y).mp z))).2.2.2) ho hpt q) (yes hq)
  · exact own_of (fun t q => XS.ifNo X.here hx rfl hd rfl ((if0 _ _).trans (tlt ((lw_gt x y).mpr (Classical.not_not.mp hq))).2.2.2) q) (no (Classical.not_not.mp hq))
theorem own_icmp_eq (X : Stand p l e R s m args below meth c T locs cells slots) (hx : p.tables.exec = Jvm.exec) {x y : Int32} {o : Int} {pf pt : Nat} (hd : decode c.code pc = .ok (.if_icmp .eq o, 3)) (hpf : pc + 3 = pf) (ho : 0 ≤ (pc : Int) + o) (hpt : ((pc : Int) + o).toNat = pt)
    (yes : x = y → own_WP p e below s Q k n (T.setTop (mkF m pt ls rest))) (no : ¬ x = y → own_WP p e below s Q k n (T.setTop (mkF m pf ls rest))) : own_WP p e below s Q k n (T.setTop (mkF m pc ls (.int y :: .int x :: rest))) := by
  subst hpf
  by_cases hq : x = y
  · exact own_of (fun t q => XS.icmpYes X.here hx rfl (pc0 := pc) (pc' := pt) rfl hd rfl ((teq hq).1) ho hpt q) (yes hq)
  · exact own_of (fun t q => XS.icmpNo X.here hx rfl hd rfl ((feq hq).1) q) (no hq)
theorem own_if_eq (X : Stand p l e R s m args below meth c T locs cells slots) (hx : p.tables.exec = Jvm.exec) {x : Int32} {o : Int} {pf pt : Nat} (hd : decode c.code pc = .ok (.ifCond .eq o, 3)) (hpf : pc + 3 = pf) (ho : 0 ≤ (pc : Int) + o) (hpt : ((pc : Int) + o).toNat = pt)
    (yes : x = 0 → own_WP p e below s Q k n (T.setTop (mkF m pt ls rest))) (no : ¬ x = 0 → own_WP p e below s Q k n (T.setTop (mkF m pf ls rest))) : own_WP p e below s Q k n (T.setTop (mkF m pc ls (.int x :: rest))) := by
  subst hpf
  by_cases hq : x = 0
  · exact own_of (fun t q => XS.ifYes X.here hx rfl (pc0 := pc) (pc' := pt) rfl hd rfl ((if0 _ _).trans (teq hq).1) ho hpt q) (yes hq)
  · exact own_of (fun t q => XS.ifNo X.here hx rfl hd rfl ((if0 _ _).trans (feq hq).1) q) (no hq)
theorem own_ifl_eq (X : Stand p l e R s m args below meth c T locs cells slots) (hx : p.tables.exec = Jvm.exec) {x y : Int64} {o : Int} {pf pt : Nat} (hd : decode c.code pc = .ok (.ifCond .eq o, 3)) (hpf : pc + 3 = pf) (ho : 0 ≤ (pc : Int) + o) (hpt : ((pc : Int) + o).toNat = pt)
    (yes : x = y → own_WP p e below s Q k n (T.setTop (mkF m pt ls rest))) (no : ¬ x = y → own_WP p e below s Q k n (T.setTop (mkF m pf ls rest))) : own_WP p e below s Q k n (T.setTop (mkF m pc ls (.int (lcmpW x y) :: rest))) := by
  subst hpf
  by_cases hq : x = y
  · exact own_of (fun t q => XS.ifYes X.here hx rfl (pc0 := pc) (pc' := pt) rfl hd rfl ((if0 _ _).trans (teq ((lw_eq x y).mpr hq)).1) ho hpt q) (yes hq)
  · exact own_of (fun t q => XS.ifNo X.here hx rfl hd rfl ((if0 _ _).trans (feq (fun z => hq ((lw_eq x y).mp z))).1) q) (no hq)
theorem own_icmp_ne (X : Stand p l e R s m args below meth c T locs cells slots) (hx : p.tables.exec = Jvm.exec) {x y : Int32} {o : Int} {pf pt : Nat} (hd : decode c.code pc = .ok (.if_icmp .ne o, 3)) (hpf : pc + 3 = pf) (ho : 0 ≤ (pc : Int) + o) (hpt : ((pc : Int) + o).toNat = pt)
    (yes : ¬ x = y → own_WP p e below s Q k n (T.setTop (mkF m pt ls rest))) (no : x = y → own_WP p e below s Q k n (T.setTop (mkF m pf ls rest))) : own_WP p e below s Q k n (T.setTop (mkF m pc ls (.int y :: .int x :: rest))) := by
  subst hpf
  by_cases hq : ¬ x = y
  · exact own_of (fun t q => XS.icmpYes X.here hx rfl (pc0 := pc) (pc' := pt) rfl hd rfl ((feq hq).2) ho hpt q) (yes hq)
  · exact own_of (fun t q => XS.icmpNo X.here hx rfl hd rfl ((teq (Classical.not_not.mp hq)).2) q) (no (Classical.not_not.mp hq))
theorem own_if_ne (X : Stand p l e R s m args below meth c T locs cells slots) (hx : p.tables.exec = Jvm.exec) {x : Int32} {o : Int} {pf pt : Nat} (hd : decode c.code pc = .ok (.ifCond .ne o, 3)) (hpf : pc + 3 = pf) (ho : 0 ≤ (pc : Int) + o) (hpt : ((pc : Int) + o).toNat = pt)
    (yes : ¬ x = 0 → own_WP p e below s Q k n (T.setTop (mkF m pt ls rest))) (no : x = 0 → own_WP p e below s Q k n (T.setTop (mkF m pf ls rest))) : own_WP p e below s Q k n (T.setTop (mkF m pc ls (.int x :: rest))) := by
  subst hpf
  by_cases hq : ¬ x = 0
  · exact own_of (fun t q => XS.ifYes X.here hx rfl (pc0 := pc) (pc' := pt) rfl hd rfl ((if0 _ _).trans (feq hq).2) ho hpt q) (yes hq)
  · exact own_of (fun t q => XS.ifNo X.here hx rfl hd rfl ((if0 _ _).trans (teq (Classical.not_not.mp hq)).2) q) (no (Classical.not_not.mp hq))
theorem own_ifl_ne (X : Stand p l e R s m args below meth c T locs cells slots) (hx : p.tables.exec = Jvm.exec) {x y : Int64} {o : Int} {pf pt : Nat} (hd : decode c.code pc = .ok (.ifCond .ne o, 3)) (hpf : pc + 3 = pf) (ho : 0 ≤ (pc : Int) + o) (hpt : ((pc : Int) + o).toNat = pt)
    (yes : ¬ x = y → own_WP p e below s Q k n (T.setTop (mkF m pt ls rest))) (no : x = y → own_WP p e below s Q k n (T.setTop (mkF m pf ls rest))) : own_WP p e below s Q k n (T.setTop (mkF m pc ls (.int (lcmpW x y) :: rest))) := by
  subst hpf
  by_cases hq : ¬ x = y
  · exact own_of (fun t q => XS.ifYes X.here hx rfl (pc0 := pc) (pc' := pt) rfl hd rfl ((if0 _ _).trans (feq (fun z => hq ((lw_eq x y).mp z))).2) ho hpt q) (yes hq)
  · exact own_of (fun t q => XS.ifNo X.here hx rfl hd rfl ((if0 _ _).trans (teq ((lw_eq x y).mpr (Classical.not_not.mp hq))).2) q) (no (Classical.not_not.mp hq))
theorem own_getF (X : Stand p l e R s m args below meth c T locs cells slots) (hx : p.tables.exec = Jvm.exec) (hZ : Z.Warmed39 s.vm) {own R0 O nm d host : String} {idx : Nat} (hown : s.vm.findClass own = some m.cls) (w1 : (Jvm.Cond.fieldLink own idx R0 nm d).before a0 Z = true ∨ (Jvm.Cond.fieldLinkNest own idx R0 nm d host).before a0 Z = true) (via : Via Z R0 O nm d) (eT : T.heap = h) {b : Addr} {v : Value} (F : Fld Z h b O nm d v) (hd : decode c.code pc = .ok (.getfield idx, 3)) (hpc : pc + 3 = pc')
    (w : ∀ T', Stand p l e R s m args below meth c T' locs cells slots → T'.heap = h → own_WP p e below s Q k n (T'.setTop (mkF m pc' ls (v :: rest)))) : own_WP p e below s Q k n (T.setTop (mkF m pc ls (.ref b :: rest))) := by
  subst hpc
  obtain ⟨T', X', e', st⟩ := getF X hx hZ hown w1 via eT F (g := mkF m pc ls (.ref b :: rest)) rfl rfl hd
  exact own_of st (w T' X' e')
theorem own_putF (X : Stand p l e R s m args below meth c T locs cells slots) (hx : p.tables.exec = Jvm.exec) (hZ : Z.Warmed39 s.vm) {own R0 O nm d host C : String} {idx kk : Nat} {ty : FieldType} (hown : s.vm.findClass own = some m.cls) (w1 : (Jvm.Cond.fieldLink own idx R0 nm d).before a0 Z = true ∨ (Jvm.Cond.fieldLinkNest own idx R0 nm d host).before a0 Z = true) (via : Via Z R0 O nm d) (eT : T.heap = h) {b : Addr} {v old : Value} (F : Fld Z h b O nm d old) (E : Exa Z h b C) (L : (Jvm.Cond.lays C O nm d).before a0 Z = true ∨ ((Jvm.Cond.laysFinal C O nm d).before a0 Z = true ∧ own = O ∧ meth.name = "<init>")) (wi : (Jvm.Cond.instantiable C kk).before a0 Z = true) (hty : parseFieldDescriptor d = some ty) (hn : narrow ty v = v) (hf : fits ty v = true) (hd : decode c.code pc = .ok (.putfield idx, 3)) (hpc : pc + 3 = pc')
    (w : ∀ T' h', Stand p l e R s m args below meth c T' (locs ++ [⟨b, Jvm.RoadKit.slotOf Z O nm d⟩]) cells slots → T'.heap = h' → Wr h h' b (Jvm.RoadKit.slotOf Z O nm d) v → own_WP p e below s Q k n (T'.setTop (mkF m pc' ls rest))) : own_WP p e below s Q k n (T.setTop (mkF m pc ls (v :: .ref b :: rest))) := by
  subst hpc
  obtain ⟨T', h', X', e', W', st⟩ := putF X hx hZ hown w1 via eT F E L wi hty hn hf (g := mkF m pc ls (v :: .ref b :: rest)) rfl rfl hd
  exact own_of st (w T' h' X' e' W')
theorem own_new (X : Stand p l e R s m args below meth c T locs cells slots) (hx : p.tables.exec = Jvm.exec) (hZ : Z.Warmed39 s.vm) {own C : String} {idx nn : Nat} (hown : s.vm.findClass own = some m.cls) (w1 : (Jvm.Cond.classLink own idx C).before a0 Z = true) (wi : (Jvm.Cond.instantiable C nn).before a0 Z = true) (wz : (Jvm.Cond.initialized C).before a0 Z = true) (eT : T.heap = h) (hd : decode c.code pc = .ok (.new idx, 3)) (hc : cells + 1 ≤ R.cells) (hl : slots + nn ≤ R.slots) (hpc : pc + 3 = pc')
    (w : ∀ T' h' b, b = h.size → Stand p l e R s m args below meth c T' locs (cells + 1) (slots + nn) → T'.heap = h' → Ext h h' → Exa Z h' b C → (∀ {O nm d : String} {ty : FieldType}, Laid Z a0 C O nm d → parseFieldDescriptor d = some ty → Fld Z h' b O nm d (defaultValue ty)) → own_WP p e below s Q k n (T'.setTop (mkF m pc' ls (.ref b :: rest)))) : own_WP p e below s Q k n (T.setTop (mkF m pc ls rest)) := by
  subst hpc
  obtain ⟨T', h', X', e', E', A', D', -, st⟩ := newO X hx hZ hown w1 wi wz eT (g := mkF m pc ls rest) rfl hd hc hl
  exact own_of st (w T' h' _ rfl X' e' E' A' D')
theorem own_newP (X : Stand p l e R s m args below meth c T locs cells slots) (hx : p.tables.exec = Jvm.exec) (hZ : Z.Warmed39 s.vm) {aty : ArrayType} (w1 : (Jvm.Cond.arrayClass (newarray.typeOf aty)).before a0 Z = true) (eT : T.heap = h) (hd : decode c.code pc = .ok (.newarray aty, 2)) {z : Int32} (hz : ¬ z < 0) {cap : Nat} (hcap : z.toNatClampNeg ≤ cap) (hb : cap * 8 ≤ 536870912) (hc : cells + 1 ≤ R.cells) (hl : slots + cap ≤ R.slots) (hpc : pc + 2 = pc')
    (w : ∀ T' h' cA b, b = h.size → Stand p l e R s m args below meth c T' locs (cells + 1) (slots + cap) → T'.heap = h' → Ext h h' → Arr Z h' b (newA cA (newarray.typeOf aty) z) (newarray.typeOf aty) → own_WP p e below s Q k n (T'.setTop (mkF m pc' ls (.ref b :: rest)))) : own_WP p e below s Q k n (T.setTop (mkF m pc ls (.int z :: rest))) := by
  subst hpc
  obtain ⟨T', h', cA, X', e', E', A', st⟩ := newP X hx hZ w1 eT (g := mkF m pc ls (.int z :: rest)) rfl hd rfl hz hcap hb hc hl
  exact own_of st (w T' h' cA _ rfl X' e' E' A')
theorem own_initO (X : Stand p l e R s m args below meth c T locs cells slots) (hx : p.tables.exec = Jvm.exec) (hZ : Z.Warmed39 s.vm) {own : String} {idx : Nat} (hown : s.vm.findClass own = some m.cls) (w1 : (Jvm.Cond.methodLink own idx Lib.objectInit).before a0 Z = true) (w2 : (Jvm.Cond.instanceMethod Lib.objectInit).before a0 Z = true) (w3 : (Jvm.Cond.code Lib.objectInit ⟨#[0xb1]⟩ 1 none).before a0 Z = true) (eT : T.heap = h) (hsz : ls.size = c.maxLocals) {b : Addr} (hd : decode c.code pc = .ok (.invokespecial idx, 3)) (hf : 1 ≤ R.frames) {W : Nat} (hW : (rest.map fun v => v.category).sum ≤ W) (hl : W + 12 ≤ R.locals) (hpc : pc + 3 = pc')
    (w : ∀ T', Stand p l e R s m args below meth c T' locs cells slots → T'.heap = h → own_WP p e below s Q k n (T'.setTop (mkF m pc' ls rest))) : own_WP p e below s Q k n (T.setTop (mkF m pc ls (.ref b :: rest))) := by
  subst hpc
  obtain ⟨T', X', e', st⟩ := initO X hx hZ hown w1 w2 w3 eT (g := mkF m pc ls (.ref b :: rest)) rfl hsz rfl hd hf (W := W) (by show 2 * 0 + _ ≤ _; omega) hl
  exact own_of st (w T' X' e')
theorem own_callS (X : Stand p l e R s m args below meth c T locs cells slots) (hx : p.tables.exec = Jvm.exec) (hZ : Z.Warmed39 s.vm) {own : String} {idx : Nat} {y : MethodName} {bytes : ByteArray} {maxL : Nat} {ret : Option FieldType} {rm : Room} {as' : Array Value} {Q' : Option Value → Heap → List Loc → Prop} (hown : s.vm.findClass own = some m.cls) (w1 : (Jvm.Cond.methodLink own idx y).before a0 Z = true) (w2 : (Jvm.Cond.static y).before a0 Z = true) (w3 : (Jvm.Cond.initialized y.cls).before a0 Z = true) (w4 : (Jvm.Cond.code y bytes maxL ret).before a0 Z = true) (hy : y.cls ≠ "java/lang/invoke/MethodHandle" ∧ y.cls ≠ "java/lang/invoke/VarHandle")
    (C : own_Con l Z y bytes maxL ret rm as' h Q') (eT : T.heap = h) {ps : List FieldType} {rt : Option FieldType} (hpd : parseMethodDescriptor y.desc = some ⟨ps, rt⟩) (argsL rest : List Value) (ha : argsL.toArray = as') (hal : argsL.length = ps.length) {st : List Value} (hst : st = argsL.reverse ++ rest) {W : Nat} (hW : (rest.map fun v => v.category).sum ≤ W) (hf : rm.frames + 1 ≤ R.frames) (hl : W + (maxL + 11) + rm.locals ≤ R.locals) (hsz : ls.size = c.maxLocals) (hd : decode c.code pc = .ok (.invokestatic idx, 3)) (hc : cells + rm.cells ≤ R.cells) (hs : slots + rm.slots ≤ R.slots) (hpc : pc + 3 = pc')
    (w : ∀ v T' L, Stand p l e R s m args below meth c T' (locs ++ L) (cells + rm.cells) (slots + rm.slots) → Q' v T'.heap L → own_WP p e below s Q k n (T'.setTop (mkF m pc' ls (v.toList ++ rest)))) : own_WP p e below s Q k n (T.setTop (mkF m pc ls st)) := by
  subst hpc hst ha
  obtain ⟨v, vm1, ⟨T', L', k', n'⟩, -, X', ⟨Lc, hQ, l1, y1, z1⟩, stp⟩ := Jvm.LawKit.callS X hx (y := y) hown (mvT hZ w1) (mvT hZ w2) (mvT hZ w3) (mvT hZ w4) hy (backOf (W := W) (C []) hZ w4 w3 hf hl) (g := mkF m pc ls (argsL.reverse ++ rest)) rfl hsz (argsL := argsL) (rest := rest) (lenOf hpd hal) rfl (by show 2 * 0 + _ ≤ _; omega) hd (fun _ _ => ⟨rfl, eT, hc, hs⟩)
  dsimp only [Pt.U, Pt.locs, Pt.cells, Pt.slots] at X' l1 y1 z1 stp hQ
  subst l1 y1 z1
  exact own_of stp (w _ _ _ X' hQ)
theorem own_callN (X : Stand p l e R s m args below meth c T locs cells slots) (hx : p.tables.exec = Jvm.exec) (hZ : Z.Warmed39 s.vm) {own : String} {idx : Nat} {y : MethodName} {bytes : ByteArray} {maxL : Nat} {rm : Room} {as' : Array Value} {Q' : Option Value → Heap → List Loc → Prop} (hy1 : y.name = "<init>") (hown : s.vm.findClass own = some m.cls) (w1 : (Jvm.Cond.methodLink own idx y).before a0 Z = true) (w2 : (Jvm.Cond.instanceMethod y).before a0 Z = true) (w3 : (Jvm.Cond.initialized y.cls).before a0 Z = true) (w4 : (Jvm.Cond.code y bytes maxL none).before a0 Z = true) (hy : y.cls ≠ "java/lang/invoke/MethodHandle" ∧ y.cls ≠ "java/lang/invoke/VarHandle")
    (C : own_Con l Z y bytes maxL none rm as' h Q') (eT : T.heap = h) {ps : List FieldType} {rt : Option FieldType} (hpd : parseMethodDescriptor y.desc = some ⟨ps, rt⟩) (b : Addr) (argsL rest : List Value) (ha : (.ref b :: argsL).toArray = as') (hal : argsL.length = ps.length) {st : List Value} (hst : st = argsL.reverse ++ .ref b :: rest) {W : Nat} (hW : (rest.map fun v => v.category).sum ≤ W) (hf : rm.frames + 1 ≤ R.frames) (hl : W + (maxL + 11) + rm.locals ≤ R.locals) (hsz : ls.size = c.maxLocals) (hd : decode c.code pc = .ok (.invokespecial idx, 3)) (hc : cells + rm.cells ≤ R.cells) (hs : slots + rm.slots ≤ R.slots) (hpc : pc + 3 = pc')
    (w : ∀ v T' L, Stand p l e R s m args below meth c T' (locs ++ L) (cells + rm.cells) (slots + rm.slots) → Q' v T'.heap L → own_WP p e below s Q k n (T'.setTop (mkF m pc' ls (v.toList ++ rest)))) : own_WP p e below s Q k n (T.setTop (mkF m pc ls st)) := by
  subst hpc hst ha
  obtain ⟨v, vm1, ⟨T', L', k', n'⟩, -, X', ⟨Lc, hQ, l1, y1, z1⟩, stp⟩ := X.specialBack hx (y := y) hy1 hown (mvT hZ w1) (mvT hZ w2) (mvT hZ w4) hy (backOf (W := W) (C []) hZ w4 w3 hf hl) (g := mkF m pc ls (argsL.reverse ++ .ref b :: rest)) rfl hsz (Steps.refl _) (a := b) (argsL := argsL) (rest := rest) (lenOf hpd hal) rfl (by show 2 * 0 + _ ≤ _; omega) hd (fun _ _ => ⟨rfl, eT, hc, hs⟩)
  dsimp only [Pt.U, Pt.locs, Pt.cells, Pt.slots] at X' l1 y1 z1 stp hQ
  subst l1 y1 z1
  exact own_of (fun t q => stp.trans q) (w _ _ _ X' hQ)
theorem own_callV (X : Stand p l e R s m args below meth c T locs cells slots) (hx : p.tables.exec = Jvm.exec) (hZ : Z.Warmed39 s.vm) {own D : String} {idx : Nat} {y z : MethodName} {bytes : ByteArray} {maxL : Nat} {ret : Option FieldType} {rm : Room} {as' : Array Value} {Q' : Option Value → Heap → List Loc → Prop} (hown : s.vm.findClass own = some m.cls) (w1 : (Jvm.Cond.methodLink own idx y).before a0 Z = true) (wd : (Jvm.Cond.declares y).before a0 Z = true) (hnf : NotFace s y) (ws : (Jvm.Cond.selects D y z).before a0 Z = true) (w2 : (Jvm.Cond.instanceMethod z).before a0 Z = true) (w3 : (Jvm.Cond.initialized z.cls).before a0 Z = true) (w4 : (Jvm.Cond.code z bytes maxL ret).before a0 Z = true) (hy : y.cls ≠ "java/lang/invoke/MethodHandle" ∧ y.cls ≠ "java/lang/invoke/VarHandle") {b : Addr} (E : Exa Z h b D)
    (C : own_Con l Z z bytes maxL ret rm as' h Q') (eT : T.heap = h) {ps : List FieldType} {rt : Option FieldType} (hpd : parseMethodDescriptor y.desc = some ⟨ps, rt⟩) (argsL rest : List Value) (ha : (.ref b :: argsL).toArray = as') (hal : argsL.length = ps.length) {st : List Value} (hst : st = argsL.reverse ++ .ref b :: rest) {W : Nat} (hW : (rest.map fun v => v.category).sum ≤ W) (hf : rm.frames + 1 ≤ R.frames) (hl : W + (maxL + 11) + rm.locals ≤ R.locals) (hsz : ls.size = c.maxLocals) (hd : decode c.code pc = .ok (.invokevirtual idx, 3)) (hc : cells + rm.cells ≤ R.cells) (hs : slots + rm.slots ≤ R.slots) (hpc : pc + 3 = pc')
    (w : ∀ v T' L, Stand p l e R s m args below meth c T' (locs ++ L) (cells + rm.cells) (slots + rm.slots) → Q' v T'.heap L → own_WP p e below s Q k n (T'.setTop (mkF m pc' ls (v.toList ++ rest)))) : own_WP p e below s Q k n (T.setTop (mkF m pc ls st)) := by
  subst hpc hst ha
  obtain ⟨cq, kq, qa, qb, qc⟩ := isOf (T := T) hZ eT E
  obtain ⟨v, vm1, ⟨T', L', k', n'⟩, -, X', ⟨Lc, hQ, l1, y1, z1⟩, stp⟩ := X.virtualBack hx (y := y) (z := z) hown (mvT hZ w1) (mvT hZ wd) hnf (mvT hZ ws) (mvT hZ w2) hy (backOf (W := W) (C []) hZ w4 w3 hf hl) qa qc (g := mkF m pc ls (argsL.reverse ++ .ref b :: rest)) rfl hsz (Steps.refl _) (argsL := argsL) (rest := rest) (lenOf hpd hal) rfl (by show 2 * 0 + _ ≤ _; omega) hd (fun _ _ => ⟨rfl, eT, hc, hs⟩)
  dsimp only [Pt.U, Pt.locs, Pt.cells, Pt.slots] at X' l1 y1 z1 stp hQ
  subst l1 y1 z1
  exact own_of (fun t q => stp.trans q) (w _ _ _ X' hQ)

theorem own_laload (X : Stand p l e R s m args below meth c T locs cells slots) (hx : p.tables.exec = Jvm.exec) (hZ : Z.Warmed39 s.vm) (eT : T.heap = h) {b : Addr} {kk : ClassId} {z j : Int32} {vs : List Value} {dv v : Value} (F : Arv Z h b kk .long z vs dv) (hj : ¬ j < 0 ∧ j < z) (hv : vs.getD j.toNatClampNeg dv = v) (hd : decode c.code pc = .ok (.laload, 1)) (hpc : pc + 1 = pc') (w : own_WP p e below s Q k n (T.setTop (mkF m pc' ls (v :: rest)))) : own_WP p e below s Q k n (T.setTop (mkF m pc ls (.int j :: .ref b :: rest))) := by
  subst hpc
  obtain ⟨cl, A, q1, S, q3, H, G⟩ := F
  exact own_of (fun t q => X.laload hx (j := j) (v := v) (by rw [eT]; exact A.1) (State.isArrayOf_alike hZ.alike A.2.1) A.2.2 (inb_of S hj) (H.at (inb_of S hj) hv) (g := mkF m pc ls (.int j :: .ref b :: rest)) rfl rfl hd _ q) w
theorem own_baload (X : Stand p l e R s m args below meth c T locs cells slots) (hx : p.tables.exec = Jvm.exec) (hZ : Z.Warmed39 s.vm) (eT : T.heap = h) {b : Addr} {kk : ClassId} {z j : Int32} {vs : List Value} {dv v : Value} (F : Arv Z h b kk .byte z vs dv) (hj : ¬ j < 0 ∧ j < z) (hv : vs.getD j.toNatClampNeg dv = v) (hd : decode c.code pc = .ok (.baload, 1)) (hpc : pc + 1 = pc') (w : own_WP p e below s Q k n (T.setTop (mkF m pc' ls (v :: rest)))) : own_WP p e below s Q k n (T.setTop (mkF m pc ls (.int j :: .ref b :: rest))) := by
  subst hpc
  obtain ⟨cl, A, q1, S, q3, H, G⟩ := F
  exact own_of (fun t q => X.baloadBytes hx (j := j) (v := v) (by rw [eT]; exact A.1) (State.isArrayOf_alike hZ.alike A.2.1) A.2.2 (inb_of S hj) (H.at (inb_of S hj) hv) (g := mkF m pc ls (.int j :: .ref b :: rest)) rfl rfl hd _ q) w
theorem own_iaload (X : Stand p l e R s m args below meth c T locs cells slots) (hx : p.tables.exec = Jvm.exec) (hZ : Z.Warmed39 s.vm) (eT : T.heap = h) {b : Addr} {kk : ClassId} {z j : Int32} {vs : List Value} {dv v : Value} (F : Arv Z h b kk .int z vs dv) (hj : ¬ j < 0 ∧ j < z) (hv : vs.getD j.toNatClampNeg dv = v) (hd : decode c.code pc = .ok (.iaload, 1)) (hpc : pc + 1 = pc') (w : own_WP p e below s Q k n (T.setTop (mkF m pc' ls (v :: rest)))) : own_WP p e below s Q k n (T.setTop (mkF m pc ls (.int j :: .ref b :: rest))) := by
  subst hpc
  obtain ⟨cl, A, q1, S, q3, H, G⟩ := F
  exact own_of (fun t q => X.iaload hx (j := j) (v := v) (by rw [eT]; exact A.1) (State.isArrayOf_alike hZ.alike A.2.1) A.2.2 (inb_of S hj) (H.at (inb_of S hj) hv) (g := mkF m pc ls (.int j :: .ref b :: rest)) rfl rfl hd _ q) w
theorem own_caload (X : Stand p l e R s m args below meth c T locs cells slots) (hx : p.tables.exec = Jvm.exec) (hZ : Z.Warmed39 s.vm) (eT : T.heap = h) {b : Addr} {kk : ClassId} {z j : Int32} {vs : List Value} {dv v : Value} (F : Arv Z h b kk .char z vs dv) (hj : ¬ j < 0 ∧ j < z) (hv : vs.getD j.toNatClampNeg dv = v) (hd : decode c.code pc = .ok (.caload, 1)) (hpc : pc + 1 = pc') (w : own_WP p e below s Q k n (T.setTop (mkF m pc' ls (v :: rest)))) : own_WP p e below s Q k n (T.setTop (mkF m pc ls (.int j :: .ref b :: rest))) := by
  subst hpc
  obtain ⟨cl, A, q1, S, q3, H, G⟩ := F
  exact own_of (fun t q => X.caload hx (j := j) (v := v) (by rw [eT]; exact A.1) (State.isArrayOf_alike hZ.alike A.2.1) A.2.2 (inb_of S hj) (H.at (inb_of S hj) hv) (g := mkF m pc ls (.int j :: .ref b :: rest)) rfl rfl hd _ q) w
theorem own_lastore (X : Stand p l e R s m args below meth c T locs cells slots) (hx : p.tables.exec = Jvm.exec) (hZ : Z.Warmed39 s.vm) (eT : T.heap = h) {b : Addr} {kk : ClassId} {z j : Int32} {vs : List Value} {dv : Value} {x : Int64} (F : Arv Z h b kk .long z vs dv) (hj : ¬ j < 0 ∧ j < z) (i : Nat) (hi : j.toNatClampNeg = i) (hlen : i < vs.length) (hd : decode c.code pc = .ok (.lastore, 1)) (hpc : pc + 1 = pc') (w : ∀ T' h', Stand p l e R s m args below meth c T' (locs ++ [⟨b, j.toNatClampNeg⟩]) cells slots → T'.heap = h' → Wr h h' b j.toNatClampNeg (.long x) → Arv Z h' b kk .long z (vs.set i (.long x)) dv → own_WP p e below s Q k n (T'.setTop (mkF m pc' ls rest))) : own_WP p e below s Q k n (T.setTop (mkF m pc ls (.long x :: .int j :: .ref b :: rest))) := by
  subst hpc
  obtain ⟨cl, A, q1, S, q3, H, G⟩ := F
  obtain ⟨T', h', X', e', W', st⟩ := stJ X hx hZ eT A (j := j) (inb_of S hj) (g := mkF m pc ls (.long x :: .int j :: .ref b :: rest)) rfl rfl hd
  exact own_of st (w T' h' X' e' W' (Arv.set A q1 S q3 H G rfl W' i hi hlen))
theorem own_bastore (X : Stand p l e R s m args below meth c T locs cells slots) (hx : p.tables.exec = Jvm.exec) (hZ : Z.Warmed39 s.vm) (eT : T.heap = h) {b : Addr} {kk : ClassId} {z j : Int32} {vs : List Value} {dv : Value} {x : Int32} (F : Arv Z h b kk .byte z vs dv) (hj : ¬ j < 0 ∧ j < z) (i : Nat) (hi : j.toNatClampNeg = i) (hlen : i < vs.length) (hd : decode c.code pc = .ok (.bastore, 1)) (hpc : pc + 1 = pc') (w : ∀ T' h', Stand p l e R s m args below meth c T' (locs ++ [⟨b, j.toNatClampNeg⟩]) cells slots → T'.heap = h' → Wr h h' b j.toNatClampNeg (.int (nar .byte x)) → Arv Z h' b kk .byte z (vs.set i (.int (nar .byte x))) dv → own_WP p e below s Q k n (T'.setTop (mkF m pc' ls rest))) : own_WP p e below s Q k n (T.setTop (mkF m pc ls (.int x :: .int j :: .ref b :: rest))) := by
  subst hpc
  obtain ⟨cl, A, q1, S, q3, H, G⟩ := F
  obtain ⟨T', h', X', e', W', st⟩ := stB X hx hZ eT A (j := j) (inb_of S hj) (g := mkF m pc ls (.int x :: .int j :: .ref b :: rest)) rfl rfl hd
  exact own_of st (w T' h' X' e' W' (Arv.set A q1 S q3 H G (fits_nar_byte x) W' i hi hlen))
theorem own_iastore (X : Stand p l e R s m args below meth c T locs cells slots) (hx : p.tables.exec = Jvm.exec) (hZ : Z.Warmed39 s.vm) (eT : T.heap = h) {b : Addr} {kk : ClassId} {z j : Int32} {vs : List Value} {dv : Value} {x : Int32} (F : Arv Z h b kk .int z vs dv) (hj : ¬ j < 0 ∧ j < z) (i : Nat) (hi : j.toNatClampNeg = i) (hlen : i < vs.length) (hd : decode c.code pc = .ok (.iastore, 1)) (hpc : pc + 1 = pc') (w : ∀ T' h', Stand p l e R s m args below meth c T' (locs ++ [⟨b, j.toNatClampNeg⟩]) cells slots → T'.heap = h' → Wr h h' b j.toNatClampNeg (.int x) → Arv Z h' b kk .int z (vs.set i (.int x)) dv → own_WP p e below s Q k n (T'.setTop (mkF m pc' ls rest))) : own_WP p e below s Q k n (T.setTop (mkF m pc ls (.int x :: .int j :: .ref b :: rest))) := by
  subst hpc
  obtain ⟨cl, A, q1, S, q3, H, G⟩ := F
  obtain ⟨T', h', X', e', W', st⟩ := stI X hx hZ eT A (j := j) (inb_of S hj) (g := mkF m pc ls (.int x :: .int j :: .ref b :: rest)) rfl rfl hd
  exact own_of st (w T' h' X' e' W' (Arv.set A q1 S q3 H G rfl W' i hi hlen))
theorem own_arrlen (X : Stand p l e R s m args below meth c T locs cells slots) (hx : p.tables.exec = Jvm.exec) (hZ : Z.Warmed39 s.vm) (eT : T.heap = h) {b : Addr} {kk : ClassId} {z : Int32} {vs : List Value} {dv : Value} {ty : FieldType} (F : Arv Z h b kk ty z vs dv) (hd : decode c.code pc = .ok (.arraylength, 1)) (hpc : pc + 1 = pc') (w : own_WP p e below s Q k n (T.setTop (mkF m pc' ls (.int z :: rest)))) : own_WP p e below s Q k n (T.setTop (mkF m pc ls (.ref b :: rest))) := by
  subst hpc
  obtain ⟨cl, A, q1, S, q3, H, G⟩ := F
  refine own_of (fun t q => X.arraylength hx (by rw [eT]; exact A.1) (State.isArrayOf_alike hZ.alike A.2.1) (g := mkF m pc ls (.ref b :: rest)) rfl rfl hd _ ?_) w
  rw [len_of S q3]
  exact q
end OwnWP

section OwnEq
variable {p : Program} {l : Launch} {e : Env} {R : Room} {s : State} {m : MethodId} {args : Array Value} {below : List Frame} {meth : Method} {c : Code} {T : State} {locs : List Loc} {cells slots : Nat} {Z : State} {a0 : Array Value} {h : Heap} {Q : Option Value → Heap → List Loc → Prop} {k n : Nat} {pc pc' : Nat} {ls l' : Array Slot} {rest : List Value}
theorem own_instY (X : Stand p l e R s m args below meth c T locs cells slots) (hx : p.tables.exec = Jvm.exec) (hZ : Z.Warmed39 s.vm) {own K : String} {idx : Nat} (hown : s.vm.findClass own = some m.cls) (w1 : (Jvm.Cond.classLink own idx K).before a0 Z = true) (eT : T.heap = h) {b : Addr} (F : Ins Z h b K true) (hd : decode c.code pc = .ok (.instanceof idx, 3)) (hpc : pc + 3 = pc')
    (w : ∀ T', Stand p l e R s m args below meth c T' locs cells slots → T'.heap = h → own_WP p e below s Q k n (T'.setTop (mkF m pc' ls (.int 1 :: rest)))) : own_WP p e below s Q k n (T.setTop (mkF m pc ls (.ref b :: rest))) := by
  subst hpc
  obtain ⟨T', X', e', st⟩ := instY X hx hZ hown w1 eT F (g := mkF m pc ls (.ref b :: rest)) rfl rfl hd
  exact own_of st (w T' X' e')
theorem own_castY (X : Stand p l e R s m args below meth c T locs cells slots) (hx : p.tables.exec = Jvm.exec) (hZ : Z.Warmed39 s.vm) {own K : String} {idx : Nat} (hown : s.vm.findClass own = some m.cls) (w1 : (Jvm.Cond.classLink own idx K).before a0 Z = true) (eT : T.heap = h) {b : Addr} (F : Ins Z h b K true) (hd : decode c.code pc = .ok (.checkcast idx, 3)) (hpc : pc + 3 = pc')
    (w : ∀ T', Stand p l e R s m args below meth c T' locs cells slots → T'.heap = h → own_WP p e below s Q k n (T'.setTop (mkF m pc' ls (.ref b :: rest)))) : own_WP p e below s Q k n (T.setTop (mkF m pc ls (.ref b :: rest))) := by
  subst hpc
  obtain ⟨T', X', e', st⟩ := castY X hx hZ hown w1 eT F (g := mkF m pc ls (.ref b :: rest)) rfl rfl hd
  exact own_of st (w T' X' e')
theorem own_instN (X : Stand p l e R s m args below meth c T locs cells slots) (hx : p.tables.exec = Jvm.exec) (hZ : Z.Warmed39 s.vm) {own K C : String} {idx : Nat} (hown : s.vm.findClass own = some m.cls) (w1 : (Jvm.Cond.classLink own idx K).before a0 Z = true) (eT : T.heap = h) {b : Addr} (E : Exa Z h b C) (F : ∃ c t, Z.vm.findClass C = some c ∧ Z.vm.findClass K = some t ∧ Z.vm.assignable c t = false) (hd : decode c.code pc = .ok (.instanceof idx, 3)) (hpc : pc + 3 = pc')
    (w : ∀ T', Stand p l e R s m args below meth c T' locs cells slots → T'.heap = h → own_WP p e below s Q k n (T'.setTop (mkF m pc' ls (.int 0 :: rest)))) : own_WP p e below s Q k n (T.setTop (mkF m pc ls (.ref b :: rest))) := by
  subst hpc
  obtain ⟨T', X', e', st⟩ := instNo X hx hZ hown w1 eT E F (g := mkF m pc ls (.ref b :: rest)) rfl rfl hd
  exact own_of st (w T' X' e')
theorem own_inst0 (X : Stand p l e R s m args below meth c T locs cells slots) (hx : p.tables.exec = Jvm.exec) {idx : Nat} (hd : decode c.code pc = .ok (.instanceof idx, 3)) (hpc : pc + 3 = pc')
    (w : own_WP p e below s Q k n (T.setTop (mkF m pc' ls (.int 0 :: rest)))) : own_WP p e below s Q k n (T.setTop (mkF m pc ls (.null :: rest))) := by
  subst hpc
  exact own_of (X.instanceofNull hx (g := mkF m pc ls (.null :: rest)) rfl rfl hd) w
theorem own_acmp (X : Stand p l e R s m args below meth c T locs cells slots) (hx : p.tables.exec = Jvm.exec) {cd : ACond} {x y : Value} {o : Int} (h1 : x.isRef = true) (h2 : y.isRef = true) (same : Bool) (hq : decide (x = y) = same) (hd : decode c.code pc = .ok (.if_acmp cd o, 3)) (ho : 0 ≤ (pc : Int) + o) (hpc : pc' = if acV cd same = true then ((pc : Int) + o).toNat else pc + 3)
    (w : own_WP p e below s Q k n (T.setTop (mkF m pc' ls rest))) : own_WP p e below s Q k n (T.setTop (mkF m pc ls (y :: x :: rest))) :=
  own_of (fun t q => Jvm.RoadKit.acmp (g := mkF m pc ls (y :: x :: rest)) X hx rfl h1 h2 (pc0 := pc) (pc' := pc') (same := same) rfl hd rfl hq ho hpc q) w
theorem own_getS (X : Stand p l e R s m args below meth c T locs cells slots) (hx : p.tables.exec = Jvm.exec) (hZ : Z.Warmed39 s.vm) {own R0 O nm d host : String} {idx : Nat} (hown : s.vm.findClass own = some m.cls) (w1 : (Jvm.Cond.fieldLink own idx R0 nm d).before a0 Z = true ∨ (Jvm.Cond.fieldLinkNest own idx R0 nm d host).before a0 Z = true) (via : Via Z R0 O nm d) (eT : T.heap = h) {v : Value} (F : Sta Z h O nm d v) (hd : decode c.code pc = .ok (.getstatic idx, 3)) (hpc : pc + 3 = pc')
    (w : ∀ T', Stand p l e R s m args below meth c T' locs cells slots → T'.heap = h → own_WP p e below s Q k n (T'.setTop (mkF m pc' ls (v :: rest)))) : own_WP p e below s Q k n (T.setTop (mkF m pc ls rest)) := by
  subst hpc
  obtain ⟨T', X', e', st⟩ := getS2 X hx hZ hown w1 via eT F (g := mkF m pc ls rest) rfl hd
  exact own_of st (w T' X' e')
theorem own_aaload (X : Stand p l e R s m args below meth c T locs cells slots) (hx : p.tables.exec = Jvm.exec) (hZ : Z.Warmed39 s.vm) (eT : T.heap = h) {b : Addr} {cl : Cell} {ty : FieldType} {j : Int32} {v : Value} (A : Arr Z h b cl ty) (hty : ty.isReference = true) (hj : ¬ (j < 0 ∨ cl.slots.size ≤ j.toNatClampNeg)) (hv : cl.slots[j.toNatClampNeg]? = some v) (hd : decode c.code pc = .ok (.aaload, 1)) (hpc : pc + 1 = pc')
    (w : own_WP p e below s Q k n (T.setTop (mkF m pc' ls (v :: rest)))) : own_WP p e below s Q k n (T.setTop (mkF m pc ls (.int j :: .ref b :: rest))) := by
  subst hpc
  exact own_of (fun t q => X.aaload hx (j := j) (v := v) (by rw [eT]; exact A.1) (State.isArrayOf_alike hZ.alike A.2.1) hty A.2.2 hj hv (g := mkF m pc ls (.int j :: .ref b :: rest)) rfl rfl hd _ q) w
theorem own_callU (X : Stand p l e R s m args below meth c T locs cells slots) (hx : p.tables.exec = Jvm.exec) (hZ : Z.Warmed39 s.vm) {own D owner : String} {idx : Nat} {y z : MethodName} {bytes : ByteArray} {maxL : Nat} {ret : Option FieldType} {rm : Room} {as' : Array Value} {Q' : Option Value → Heap → List Loc → Prop} (hown : s.vm.findClass own = some m.cls) (w1 : (Jvm.Cond.methodLink own idx y).before a0 Z = true) (wsm : (Jvm.Cond.sameMethod y.cls owner y.name y.desc).before a0 Z = true) (wd : (Jvm.Cond.declares ⟨owner, y.name, y.desc⟩).before a0 Z = true) (ws : (Jvm.Cond.selects D y z).before a0 Z = true) (w2 : (Jvm.Cond.instanceMethod z).before a0 Z = true) (w3 : (Jvm.Cond.initialized z.cls).before a0 Z = true) (w4 : (Jvm.Cond.code z bytes maxL ret).before a0 Z = true) (hy : owner ≠ "java/lang/invoke/MethodHandle" ∧ owner ≠ "java/lang/invoke/VarHandle") {b : Addr} (E : Exa Z h b D)
    (C : own_Con l Z z bytes maxL ret rm as' h Q') (eT : T.heap = h) {ps : List FieldType} {rt : Option FieldType} (hpd : parseMethodDescriptor y.desc = some ⟨ps, rt⟩) (argsL rest : List Value) (ha : (.ref b :: argsL).toArray = as') (hal : argsL.length = ps.length) {st : List Value} (hst : st = argsL.reverse ++ .ref b :: rest) {W : Nat} (hW : (rest.map fun v => v.category).sum ≤ W) (hf : rm.frames + 1 ≤ R.frames) (hl : W + (maxL + 11) + rm.locals ≤ R.locals) (hsz : ls.size = c.maxLocals) (hd : decode c.code pc = .ok (.invokevirtual idx, 3)) (hc : cells + rm.cells ≤ R.cells) (hs : slots + rm.slots ≤ R.slots) (hpc : pc + 3 = pc')
    (w : ∀ v T' L, Stand p l e R s m args below meth c T' (locs ++ L) (cells + rm.cells) (slots + rm.slots) → Q' v T'.heap L → own_WP p e below s Q k n (T'.setTop (mkF m pc' ls (v.toList ++ rest)))) : own_WP p e below s Q k n (T.setTop (mkF m pc ls st)) := by
  subst hpc hst ha
  obtain ⟨cq, kq, qa, qb, qc⟩ := isOf (T := T) hZ eT E
  obtain ⟨v, vm1, ⟨T', L', k', n'⟩, -, X', ⟨Lc, hQ, l1, y1, z1⟩, stp⟩ := X.virtualBackUp hx (x := y) (y := z) (owner := owner) hown (mvT hZ w1) (mvT hZ wsm) (mvT hZ wd) hy (mvT hZ ws) (mvT hZ w2) (backOf (W := W) (C []) hZ w4 w3 hf hl) qa qc (g := mkF m pc ls (argsL.reverse ++ .ref b :: rest)) rfl hsz (Steps.refl _) (argsL := argsL) (rest := rest) (lenOf hpd hal) rfl (by show 2 * 0 + _ ≤ _; omega) hd (fun _ _ => ⟨rfl, eT, hc, hs⟩)
  dsimp only [Pt.U, Pt.locs, Pt.cells, Pt.slots] at X' l1 y1 z1 stp hQ
  subst l1 y1 z1
  exact own_of (fun t q => stp.trans q) (w _ _ _ X' hQ)
theorem own_NSroot {O K : String} {i : Nat} (w : (Jvm.Cond.noSuperclass O).before a0 Z = true) (wk : (Jvm.Cond.instantiable K i).before a0 Z = true) (hn : O ≠ K) : NS Z O K := by
  obtain ⟨c, k, h1, h2, h3, -, -⟩ := Cond.noSuperclass_spec w
  obtain ⟨t, k2, g1, -⟩ := Cond.instantiable_spec wk
  have ne := ids_ne h1 g1 hn
  refine ⟨c, t, h1, g1, fun fuel => ?_⟩
  cases fuel with
  | zero => rfl
  | succ f => simp [Vm.isSubclassAux, ne, h2, h3]
theorem own_NSno {C K : String} {i j : Nat} (w : (Jvm.Cond.instantiable C i).before a0 Z = true) (wk : (Jvm.Cond.instantiable K j).before a0 Z = true) (N : NS Z C K) (hn : C ≠ K) : ∃ c t, Z.vm.findClass C = some c ∧ Z.vm.findClass K = some t ∧ Z.vm.assignable c t = false := by
  obtain ⟨c, t, h0, g0, n3⟩ := N
  obtain ⟨c', k, h1, h2, h3, h4, -⟩ := Cond.instantiable_spec w
  obtain ⟨t', k', g1, g2, g3, g4, -⟩ := Cond.instantiable_spec wk
  cases h0.symm.trans h1
  cases g0.symm.trans g1
  have ne := ids_ne h0 g0 hn
  have i4 : k'.isInterface = false := by
    cases q : k'.isInterface with
    | false => rfl
    | true => rw [q] at g4; cases g4
  refine ⟨c, t, h0, g0, ?_⟩
  show Z.vm.assignableAux (255 + 1) c t = false
  simp [Vm.assignableAux, ne, h2, g2, h3, g3, i4, Vm.isSubclass, n3]
theorem own_ext_refl (h : Heap) : Ext h h := ⟨Nat.le_refl _, fun _ _ q => q⟩
theorem own_ext_trans {h0 h h' : Heap} (E : Ext h0 h) (E' : Ext h h') : Ext h0 h' := ⟨Nat.le_trans E.1 E'.1, fun a c q => E'.2 a c (E.2 a c q)⟩
theorem own_ext_keep {h0 h h' : Heap} {ws : List Addr} (E : Ext h0 h) (K : Keep h h' ws) (q : ∀ x ∈ ws, h0.size ≤ x) : Ext h0 h' :=
  ⟨Nat.le_trans E.1 K.1, fun a c r => K.2.1 a c (E.2 a c r) fun z => absurd (Array.getElem?_eq_some_iff.mp r).1 (Nat.not_lt.mpr (q a z))⟩
def own_b (P : Prop) [Decidable P] : Int32 := if P then 1 else 0
/-- a box's cache, as the sets say it at the start -/
def own_Cache (Z : State) (h : Heap) (C CC AD : String) (ca : Addr) (cl : Cell) : Prop := Sta Z h CC "cache" AD (.ref ca) ∧ Arr Z h ca cl (.object C) ∧ cl.slots.size = 256 ∧ ∀ j, j < 256 → ∃ b, cl.slots[j]? = some (.ref b) ∧ Exa Z h b C
theorem own_Cache_ext {h h' : Heap} {C CC AD : String} {ca : Addr} {cl : Cell} (F : own_Cache Z h C CC AD ca cl) (E : Ext h h') : own_Cache Z h' C CC AD ca cl :=
  ⟨F.1.ext E, F.2.1.ext E, F.2.2.1, fun j hj => by obtain ⟨b, q1, q2⟩ := F.2.2.2 j hj; exact ⟨b, q1, q2.ext E⟩⟩
theorem own_cache {C CC AD : String} {c : Jvm.Cond} (h1 : (Jvm.Cond.initializedFor CC "cache" AD).before args s = true ∨ ((Jvm.Cond.initialized CC).before args s = true ∧ (Jvm.Cond.laysStatic CC "cache" AD).before args s = true)) (h2 : (Jvm.Cond.arrayOf (.static CC "cache" AD) (.object C)).before args s = true) (h3 : (Jvm.Cond.eq (.length (.static CC "cache" AD)) (.int 256)).before args s = true)
    (h4 : (Jvm.Cond.all (.static CC "cache" AD) (.and (.exactly (.elem (.static CC "cache" AD) (.index 0)) C) c)).before args s = true) : ∃ ca cl, own_Cache s s.heap C CC AD ca cl := by
  obtain ⟨ca, ev⟩ := arr_v (Cond.before_iff.mp h2)
  have S := Sta.start ev h1
  obtain ⟨cl, A⟩ := Arr.start ev (Cond.before_iff.mp h2)
  have hat := A.fin (Vm.Alike.refl _)
  obtain ⟨hsz, hsize⟩ := IntBox.length_fwd h3 ev A.1 A.2.1 A.2.2
  have hsz256 : cl.slots.size = 256 := by
    have e := len_toInt hsz
    rw [hsize] at e
    have : ((256 : Int32)).toInt = 256 := by decide
    omega
  have hall := Cond.all_elim (c := .and (.exactly (.elem (.static CC "cache" AD) (.index 0)) C) c) ev hat (by simpa [Cond.before, Cond.holds] using h4)
  refine ⟨ca, cl, S, A, hsz256, fun j hj => ?_⟩
  have hjv := hall j (by rw [hsz256]; exact hj)
  have hx := (and_e hjv).1
  obtain ⟨b, cB, cell, kB, e1, e2, e3, e4, e5, e6, e7⟩ := Cond.exactly_spec (beq_iff_eq.mpr hx : (Cond.exactly (.elem (.static CC "cache" AD) (.index 0)) C).holds args s none s [j] = true)
  obtain ⟨hnn, hback⟩ := IntBox.place_nonneg j hj
  have ev2 : (Term.static CC "cache" AD).eval args s none [j] s = some (.ref ca) := by
    simp only [Term.eval] at ev ⊢
    exact ev
  have ej : (Term.index 0).eval args s none [j] s = some (.int j.toInt32) := by simp [Term.eval]
  have hin := elem_in e1 ev2 ej A.1
  rw [hback] at hin
  subst e6
  exact ⟨b, hin.2, cell, kB, e3, e2, e4, e5, e7⟩
end OwnEq

theorem own_b_swap3 (a b a' b' : Int64) (c c' : Int32) : own_b (a = a' ∧ b = b' ∧ c = c') = own_b (a' = a ∧ b' = b ∧ c' = c) := by
  unfold own_b
  simp only [eq_comm (a := a), eq_comm (a := b), eq_comm (a := c)]
theorem own_mx : (9223372036854775807 : Int64).toInt = 9223372036854775807 := by decide
theorem own_l0 : (0 : Int64).toInt = 0 := by decide
theorem own_st1 (x : Int64) (h : ¬ (x &&& (9223372036854775807 : Int64)) = (9223372036854775807 : Int64)) : ¬ (x &&& (9223372036854775807 : Int64)) < 0 ∧ (x &&& (9223372036854775807 : Int64)) < 9223372036854775807 := by
  have h1 := c_maskL x 9223372036854775807 63 (by decide) (by decide)
  rw [Int64.lt_iff_toInt_lt, Int64.lt_iff_toInt_lt, own_mx, own_l0]
  have h2 : ¬ (x &&& (9223372036854775807 : Int64)).toInt = 9223372036854775807 := fun q => h (Int64.toInt_inj.mp (q.trans own_mx.symm))
  omega
theorem own_nz (c : Int64) (h : c < 9223372036854775807) (h0 : ¬ c < 0) : (9223372036854775807 : Int64) - c ≠ 0 := by
  intro q
  have h1 := c_lsub 9223372036854775807 c
  rw [q, own_mx, own_l0] at h1
  rw [Int64.lt_iff_toInt_lt, own_mx] at h
  rw [Int64.lt_iff_toInt_lt, own_l0] at h0
  omega
theorem own_end (c e : Int64) (h : c < 9223372036854775807) (h0 : ¬ c < 0) : c < c + 1 + (e &&& (9223372036854775807 : Int64)) % ((9223372036854775807 : Int64) - c) := by
  have h1 := c_lsub 9223372036854775807 c
  have h2 := rng64 ((9223372036854775807 : Int64) - c)
  have h3 := c_maskL e 9223372036854775807 63 (by decide) (by decide)
  rw [Int64.lt_iff_toInt_lt, own_mx] at h
  rw [Int64.lt_iff_toInt_lt, own_l0] at h0
  rw [own_mx] at h1
  have h4 : ((9223372036854775807 : Int64) - c).toInt = 9223372036854775807 - c.toInt := by omega
  have h5 : 0 ≤ (e &&& (9223372036854775807 : Int64)).toInt := by omega
  have h6 : ((e &&& (9223372036854775807 : Int64)) % ((9223372036854775807 : Int64) - c)).toInt = (e &&& (9223372036854775807 : Int64)).toInt % (9223372036854775807 - c.toInt) := by
    rw [Int64.toInt_mod, h4]; exact Int.tmod_eq_emod_of_nonneg h5
  have h7 := Int.emod_nonneg (e &&& (9223372036854775807 : Int64)).toInt (show 9223372036854775807 - c.toInt ≠ 0 by omega)
  have h8 := Int.emod_lt_of_pos (e &&& (9223372036854775807 : Int64)).toInt (show 0 < 9223372036854775807 - c.toInt by omega)
  have k1 := c_ladd c 1
  have k2 := rng64 (c + 1)
  have k3 := c_ladd (c + 1) ((e &&& (9223372036854775807 : Int64)) % ((9223372036854775807 : Int64) - c))
  have k4 := rng64 (c + 1 + (e &&& (9223372036854775807 : Int64)) % ((9223372036854775807 : Int64) - c))
  rw [show (1 : Int64).toInt = 1 from by decide] at k1
  rw [Int64.lt_iff_toInt_lt]
  omega
theorem own_imax1 (x : Int32) : ¬ (if (1 : Int32) < x then x else 1) < 1 := by
  split
  · rename_i h; rw [Int32.lt_iff_toInt_lt] at *; omega
  · decide

theorem d1_0 : decode method_2_code 0 = .ok (.lload_n 0, 1) := by decide +kernel
theorem d1_1 : decode method_2_code 1 = .ok (.ldc2_w 9, 3) := by decide +kernel
theorem d1_4 : decode method_2_code 4 = .ok (.land, 1) := by decide +kernel
theorem d1_5 : decode method_2_code 5 = .ok (.lstore_n 2, 1) := by decide +kernel
theorem d1_6 : decode method_2_code 6 = .ok (.lload_n 2, 1) := by decide +kernel
theorem d1_7 : decode method_2_code 7 = .ok (.ldc2_w 9, 3) := by decide +kernel
theorem d1_10 : decode method_2_code 10 = .ok (.lcmp, 1) := by decide +kernel
theorem d1_11 : decode method_2_code 11 = .ok (.ifCond .ne 7, 3) := by decide +kernel
theorem d1_14 : decode method_2_code 14 = .ok (.ldc2_w 11, 3) := by decide +kernel
theorem d1_17 : decode method_2_code 17 = .ok (.lstore_n 2, 1) := by decide +kernel
theorem d1_18 : decode method_2_code 18 = .ok (.lload_n 2, 1) := by decide +kernel
theorem d1_19 : decode method_2_code 19 = .ok (.lreturn, 1) := by decide +kernel
theorem pn_1 : plainFor (⟨"com/example/kent_ridge/kentridge/index/RegionEqualsPinLaw", "startFrom", "(J)J"⟩ : MethodName) = true := plainFor_of_name (by first | (simp [plainName, overriddenIn]; done) | decide +kernel)
theorem ef_conS (m : MethodId) (c1 : Int64) : entryFrame m #[(.long c1)] 4 = mkF m 0 #[.val (.long c1), .second, .unset, .unset] [] := by first | (simp [entryFrame, mkF, argsToLocals, Value.category]; done) | rfl
set_option maxRecDepth 65536 in
set_option maxHeartbeats 4000000 in
theorem conS (l : Launch) (Z : State) (a0 : Array Value) (hw : ∀ d ∈ tables_1, d.before a0 Z = true) (c1 : Int64) (h0 : Heap) :
    own_Con l Z (⟨"com/example/kent_ridge/kentridge/index/RegionEqualsPinLaw", "startFrom", "(J)J"⟩ : MethodName) method_2_code 4 (some .long) ({ frames := 0, cells := 0, slots := 0, locals := 0 } : Room) #[(.long c1)] h0 (fun v h L => ∃ z : Int64, v = some (.long z) ∧ (¬ z < 0 ∧ z < 9223372036854775807) ∧ L = [] ∧ h = h0) := by
  refine own_Con_of pn_1 ?_
  intro p e s m below meth c s₁ X0 hx hby hml hret hlk hnm hown hZ e0
  have hown : s.vm.findClass "com/example/kent_ridge/kentridge/index/RegionEqualsPinLaw" = some m.cls := hown
  have hml : c.maxLocals = 4 := hml
  show own_WP _ _ _ _ _ _ _ (s₁.setTop (entryFrame m #[(.long c1)] 4))
  rw [ef_conS m c1]
  refine own_lloadN (pc' := 1) X0 hx (hb hby d1_0) rfl rfl ?_
  refine own_ldc2Long (pc' := 4) X0 hx hZ hown (own_w hw 4 rfl) (hb hby d1_1) rfl ?_
  refine own_land (pc' := 5) X0 hx (hb hby d1_4) rfl ?_
  obtain ⟨v1, hv1⟩ : ∃ z : Int64, z = (c1 &&& (9223372036854775807 : Int64)) := ⟨_, rfl⟩
  refine own_lstoreN (pc' := 6) (l' := #[.val (.long c1), .second, .val (.long v1), .second]) X0 hx (hb hby d1_5) hv1 rfl rfl ?_
  refine own_lloadN (pc' := 7) X0 hx (hb hby d1_6) rfl rfl ?_
  refine own_ldc2Long (pc' := 10) X0 hx hZ hown (own_w hw 4 rfl) (hb hby d1_7) rfl ?_
  refine own_lcmp (pc' := 11) X0 hx (hb hby d1_10) rfl ?_
  refine own_ifl_ne (pt := 18) (pf := 14) X0 hx (hb hby d1_11) rfl (by decide) rfl (fun hc11 => ?_) (fun hc11 => ?_)
  · skip
    refine own_lloadN (pc' := 19) X0 hx (hb hby d1_18) rfl rfl ?_
    refine own_retJ X0 hx hlk hret (hb hby d1_19) (by decide) (by decide) ?_
    exact ⟨v1, rfl, by subst_vars; exact own_st1 _ hc11, rfl, e0⟩
  · skip
    refine own_ldc2Long (pc' := 17) X0 hx hZ hown (own_w hw 59 rfl) (hb hby d1_14) rfl ?_
    refine own_lstoreN (pc' := 18) (l' := #[.val (.long c1), .second, .val (.long (9223372036854775806 : Int64)), .second]) X0 hx (hb hby d1_17) rfl rfl rfl ?_
    refine own_lloadN (pc' := 19) X0 hx (hb hby d1_18) rfl rfl ?_
    refine own_retJ X0 hx hlk hret (hb hby d1_19) (by decide) (by decide) ?_
    exact ⟨(9223372036854775806 : Int64), rfl, ⟨by decide, by decide⟩, rfl, e0⟩
theorem d2_0 : decode method_3_code 0 = .ok (.lload_n 0, 1) := by decide +kernel
theorem d2_1 : decode method_3_code 1 = .ok (.lconst 1, 1) := by decide +kernel
theorem d2_2 : decode method_3_code 2 = .ok (.ladd, 1) := by decide +kernel
theorem d2_3 : decode method_3_code 3 = .ok (.lload_n 2, 1) := by decide +kernel
theorem d2_4 : decode method_3_code 4 = .ok (.ldc2_w 9, 3) := by decide +kernel
theorem d2_7 : decode method_3_code 7 = .ok (.land, 1) := by decide +kernel
theorem d2_8 : decode method_3_code 8 = .ok (.ldc2_w 9, 3) := by decide +kernel
theorem d2_11 : decode method_3_code 11 = .ok (.lload_n 0, 1) := by decide +kernel
theorem d2_12 : decode method_3_code 12 = .ok (.lsub, 1) := by decide +kernel
theorem d2_13 : decode method_3_code 13 = .ok (.lrem, 1) := by decide +kernel
theorem d2_14 : decode method_3_code 14 = .ok (.ladd, 1) := by decide +kernel
theorem d2_15 : decode method_3_code 15 = .ok (.lreturn, 1) := by decide +kernel
theorem pn_2 : plainFor (⟨"com/example/kent_ridge/kentridge/index/RegionEqualsPinLaw", "endFrom", "(JJ)J"⟩ : MethodName) = true := plainFor_of_name (by first | (simp [plainName, overriddenIn]; done) | decide +kernel)
theorem ef_conN (m : MethodId) (c1 : Int64) (c2 : Int64) : entryFrame m #[(.long c1), (.long c2)] 4 = mkF m 0 #[.val (.long c1), .second, .val (.long c2), .second] [] := by first | (simp [entryFrame, mkF, argsToLocals, Value.category]; done) | rfl
set_option maxRecDepth 65536 in
set_option maxHeartbeats 4000000 in
theorem conN (l : Launch) (Z : State) (a0 : Array Value) (hw : ∀ d ∈ tables_1, d.before a0 Z = true) (c1 : Int64) (c2 : Int64) (h0 : Heap) (h1 : ¬ c1 < 0 ∧ c1 < 9223372036854775807) :
    own_Con l Z (⟨"com/example/kent_ridge/kentridge/index/RegionEqualsPinLaw", "endFrom", "(JJ)J"⟩ : MethodName) method_3_code 4 (some .long) ({ frames := 0, cells := 0, slots := 0, locals := 0 } : Room) #[(.long c1), (.long c2)] h0 (fun v h L => ∃ z : Int64, v = some (.long z) ∧ (c1 < z) ∧ L = [] ∧ h = h0) := by
  refine own_Con_of pn_2 ?_
  intro p e s m below meth c s₁ X0 hx hby hml hret hlk hnm hown hZ e0
  have hown : s.vm.findClass "com/example/kent_ridge/kentridge/index/RegionEqualsPinLaw" = some m.cls := hown
  have hml : c.maxLocals = 4 := hml
  show own_WP _ _ _ _ _ _ _ (s₁.setTop (entryFrame m #[(.long c1), (.long c2)] 4))
  rw [ef_conN m c1 c2]
  refine own_lloadN (pc' := 1) X0 hx (hb hby d2_0) rfl rfl ?_
  refine own_lconst1 (pc' := 2) X0 hx (hb hby d2_1) rfl ?_
  refine own_ladd (pc' := 3) X0 hx (hb hby d2_2) rfl ?_
  refine own_lloadN (pc' := 4) X0 hx (hb hby d2_3) rfl rfl ?_
  refine own_ldc2Long (pc' := 7) X0 hx hZ hown (own_w hw 4 rfl) (hb hby d2_4) rfl ?_
  refine own_land (pc' := 8) X0 hx (hb hby d2_7) rfl ?_
  refine own_ldc2Long (pc' := 11) X0 hx hZ hown (own_w hw 4 rfl) (hb hby d2_8) rfl ?_
  refine own_lloadN (pc' := 12) X0 hx (hb hby d2_11) rfl rfl ?_
  refine own_lsub (pc' := 13) X0 hx (hb hby d2_12) rfl ?_
  refine own_lrem (pc' := 14) X0 hx (hb hby d2_13) (own_nz _ h1.2 h1.1) rfl ?_
  refine own_ladd (pc' := 15) X0 hx (hb hby d2_14) rfl ?_
  refine own_retJ X0 hx hlk hret (hb hby d2_15) (by decide) (by decide) ?_
  exact ⟨((c1 + (1 : Int64)) + ((c2 &&& (9223372036854775807 : Int64)) % ((9223372036854775807 : Int64) - c1))), rfl, own_end _ _ h1.2 h1.1, rfl, e0⟩
theorem d3_0 : decode jdk_29_method_65_code 0 = .ok (.iload_n 0, 1) := by decide +kernel
theorem d3_1 : decode jdk_29_method_65_code 1 = .ok (.iload_n 1, 1) := by decide +kernel
theorem d3_2 : decode jdk_29_method_65_code 2 = .ok (.if_icmp .lt 7, 3) := by decide +kernel
theorem d3_5 : decode jdk_29_method_65_code 5 = .ok (.iload_n 0, 1) := by decide +kernel
theorem d3_6 : decode jdk_29_method_65_code 6 = .ok (.goto 4, 3) := by decide +kernel
theorem d3_9 : decode jdk_29_method_65_code 9 = .ok (.iload_n 1, 1) := by decide +kernel
theorem d3_10 : decode jdk_29_method_65_code 10 = .ok (.ireturn, 1) := by decide +kernel
theorem pn_3 : plainFor (⟨"java/lang/Math", "max", "(II)I"⟩ : MethodName) = true := Jvm.Free.JP.mathPlain rfl (by decide +kernel)
theorem ef_conM (m : MethodId) (c1 : Int32) (c2 : Int32) : entryFrame m #[(.int c1), (.int c2)] 2 = mkF m 0 #[.val (.int c1), .val (.int c2)] [] := by first | (simp [entryFrame, mkF, argsToLocals, Value.category]; done) | rfl
set_option maxRecDepth 65536 in
set_option maxHeartbeats 4000000 in
theorem conM (l : Launch) (Z : State) (a0 : Array Value) (hw : ∀ d ∈ tables_1, d.before a0 Z = true) (c1 : Int32) (c2 : Int32) (h0 : Heap) :
    own_Con l Z (⟨"java/lang/Math", "max", "(II)I"⟩ : MethodName) jdk_29_method_65_code 2 (some .int) ({ frames := 0, cells := 0, slots := 0, locals := 0 } : Room) #[(.int c1), (.int c2)] h0 (fun v h L => ∃ z : Int32, v = some (.int z) ∧ (z = if c1 < c2 then c2 else c1) ∧ L = [] ∧ h = h0) := by
  refine own_Con_of pn_3 ?_
  intro p e s m below meth c s₁ X0 hx hby hml hret hlk hnm hown hZ e0
  have hown : s.vm.findClass "java/lang/Math" = some m.cls := hown
  have hml : c.maxLocals = 2 := hml
  show own_WP _ _ _ _ _ _ _ (s₁.setTop (entryFrame m #[(.int c1), (.int c2)] 2))
  rw [ef_conM m c1 c2]
  refine own_iloadN (pc' := 1) X0 hx (hb hby d3_0) rfl rfl ?_
  refine own_iloadN (pc' := 2) X0 hx (hb hby d3_1) rfl rfl ?_
  refine own_icmp_lt (pt := 9) (pf := 5) X0 hx (hb hby d3_2) rfl (by decide) rfl (fun hc2 => ?_) (fun hc2 => ?_)
  · skip
    refine own_iloadN (pc' := 10) X0 hx (hb hby d3_9) rfl rfl ?_
    refine own_retI X0 hx hlk hret (hb hby d3_10) (by decide) (by decide) ?_
    exact ⟨c2, rfl, by simp [hc2], rfl, e0⟩
  · skip
    refine own_iloadN (pc' := 6) X0 hx (hb hby d3_5) rfl rfl ?_
    refine own_goto (pc' := 10) X0 hx (hb hby d3_6) (by decide) rfl ?_
    refine own_retI X0 hx hlk hret (hb hby d3_10) (by decide) (by decide) ?_
    exact ⟨c1, rfl, by simp [hc2], rfl, e0⟩
theorem d4_0 : decode prog_29_method_1_code 0 = .ok (.aload_n 0, 1) := by decide +kernel
theorem d4_1 : decode prog_29_method_1_code 1 = .ok (.invokespecial 1, 3) := by decide +kernel
theorem d4_4 : decode prog_29_method_1_code 4 = .ok (.lload_n 1, 1) := by decide +kernel
theorem d4_5 : decode prog_29_method_1_code 5 = .ok (.lconst 0, 1) := by decide +kernel
theorem d4_6 : decode prog_29_method_1_code 6 = .ok (.lcmp, 1) := by decide +kernel
theorem d4_7 : decode prog_29_method_1_code 7 = .ok (.ifCond .lt 9, 3) := by decide +kernel
theorem d4_10 : decode prog_29_method_1_code 10 = .ok (.lload_n 3, 1) := by decide +kernel
theorem d4_11 : decode prog_29_method_1_code 11 = .ok (.lload_n 1, 1) := by decide +kernel
theorem d4_12 : decode prog_29_method_1_code 12 = .ok (.lcmp, 1) := by decide +kernel
theorem d4_13 : decode prog_29_method_1_code 13 = .ok (.ifCond .gt 18, 3) := by decide +kernel
theorem d4_16 : decode prog_29_method_1_code 16 = .ok (.new 7, 3) := by decide +kernel
theorem d4_19 : decode prog_29_method_1_code 19 = .ok (.dup, 1) := by decide +kernel
theorem d4_20 : decode prog_29_method_1_code 20 = .ok (.lload_n 1, 1) := by decide +kernel
theorem d4_21 : decode prog_29_method_1_code 21 = .ok (.lload_n 3, 1) := by decide +kernel
theorem d4_27 : decode prog_29_method_1_code 27 = .ok (.invokespecial 13, 3) := by decide +kernel
theorem d4_30 : decode prog_29_method_1_code 30 = .ok (.athrow, 1) := by decide +kernel
theorem d4_31 : decode prog_29_method_1_code 31 = .ok (.iload 5, 2) := by decide +kernel
theorem d4_33 : decode prog_29_method_1_code 33 = .ok (.iconst 1, 1) := by decide +kernel
theorem d4_34 : decode prog_29_method_1_code 34 = .ok (.if_icmp .ge 18, 3) := by decide +kernel
theorem d4_37 : decode prog_29_method_1_code 37 = .ok (.new 7, 3) := by decide +kernel
theorem d4_40 : decode prog_29_method_1_code 40 = .ok (.dup, 1) := by decide +kernel
theorem d4_41 : decode prog_29_method_1_code 41 = .ok (.iload 5, 2) := by decide +kernel
theorem d4_48 : decode prog_29_method_1_code 48 = .ok (.invokespecial 13, 3) := by decide +kernel
theorem d4_51 : decode prog_29_method_1_code 51 = .ok (.athrow, 1) := by decide +kernel
theorem d4_52 : decode prog_29_method_1_code 52 = .ok (.aload_n 0, 1) := by decide +kernel
theorem d4_53 : decode prog_29_method_1_code 53 = .ok (.lload_n 1, 1) := by decide +kernel
theorem d4_54 : decode prog_29_method_1_code 54 = .ok (.putfield 19, 3) := by decide +kernel
theorem d4_57 : decode prog_29_method_1_code 57 = .ok (.aload_n 0, 1) := by decide +kernel
theorem d4_58 : decode prog_29_method_1_code 58 = .ok (.lload_n 3, 1) := by decide +kernel
theorem d4_59 : decode prog_29_method_1_code 59 = .ok (.putfield 25, 3) := by decide +kernel
theorem d4_62 : decode prog_29_method_1_code 62 = .ok (.aload_n 0, 1) := by decide +kernel
theorem d4_63 : decode prog_29_method_1_code 63 = .ok (.iload 5, 2) := by decide +kernel
theorem d4_65 : decode prog_29_method_1_code 65 = .ok (.putfield 28, 3) := by decide +kernel
theorem d4_68 : decode prog_29_method_1_code 68 = .ok (.return_, 1) := by decide +kernel
theorem pn_4 : plainFor (⟨"com/example/kent_ridge/kentridge/index/Region", "<init>", "(JJI)V"⟩ : MethodName) = true := plainFor_of_name (by first | (simp [plainName, overriddenIn]; done) | decide +kernel)
theorem ef_conI (m : MethodId) (a1 : Addr) (w1 : Int64) (w2 : Int64) (w3 : Int32) : entryFrame m #[(.ref a1), (.long w1), (.long w2), (.int w3)] 6 = mkF m 0 #[.val (.ref a1), .val (.long w1), .second, .val (.long w2), .second, .val (.int w3)] [] := by first | (simp [entryFrame, mkF, argsToLocals, Value.category]; done) | rfl
set_option maxRecDepth 65536 in
set_option maxHeartbeats 4000000 in
theorem conI (l : Launch) (Z : State) (a0 : Array Value) (hw : ∀ d ∈ tables_1, d.before a0 Z = true) (a1 : Addr) (w1 : Int64) (w2 : Int64) (w3 : Int32) (h0 : Heap) (n0 : Nat) (Z0 : n0 ≤ h0.size) (E1 : Exa Z h0 a1 "com/example/kent_ridge/kentridge/index/Region") (F0 : Fld Z h0 a1 "com/example/kent_ridge/kentridge/index/Region" "start" "J" (.long (0 : Int64))) (F1 : Fld Z h0 a1 "com/example/kent_ridge/kentridge/index/Region" "end" "J" (.long (0 : Int64))) (F2 : Fld Z h0 a1 "com/example/kent_ridge/kentridge/index/Region" "level" "I" (.int (0 : Int32))) (g_a1 : n0 ≤ a1) (hs : ¬ w1 < (0 : Int64)) (he : w1 < w2) (hl : ¬ w3 < (1 : Int32)) :
    own_Con l Z (⟨"com/example/kent_ridge/kentridge/index/Region", "<init>", "(JJI)V"⟩ : MethodName) prog_29_method_1_code 6 none ({ frames := 1, cells := 0, slots := 0, locals := 12 } : Room) #[(.ref a1), (.long w1), (.long w2), (.int w3)] h0 (fun v h L => v = none ∧ Fr n0 L ∧ Keep h0 h [a1] ∧ Exa Z h a1 "com/example/kent_ridge/kentridge/index/Region" ∧ Fld Z h a1 "com/example/kent_ridge/kentridge/index/Region" "start" "J" (.long w1) ∧ Fld Z h a1 "com/example/kent_ridge/kentridge/index/Region" "end" "J" (.long w2) ∧ Fld Z h a1 "com/example/kent_ridge/kentridge/index/Region" "level" "I" (.int w3)) := by
  refine own_Con_of pn_4 ?_
  intro p e s m below meth c s₁ X0 hx hby hml hret hlk hnm hown hZ e0
  have hown : s.vm.findClass "com/example/kent_ridge/kentridge/index/Region" = some m.cls := hown
  have hml : c.maxLocals = 6 := hml
  have N0 := Fr.nil n0
  show own_WP _ _ _ _ _ _ _ (s₁.setTop (entryFrame m #[(.ref a1), (.long w1), (.long w2), (.int w3)] 6))
  rw [ef_conI m a1 w1 w2 w3]
  refine own_aloadN (pc' := 1) X0 hx (hb hby d4_0) rfl rfl rfl ?_
  refine own_initO (pc' := 4) (W := 0) X0 hx hZ hown (own_w hw 19 rfl) (own_w hw 20 rfl) (own_w hw 21 rfl) e0 (by rw [hml]; rfl) (hb hby d4_1) (by decide) (Nat.le_of_eq rfl) (by decide) rfl ?_
  intro T1 X1 e1
  refine own_lloadN (pc' := 5) X1 hx (hb hby d4_4) rfl rfl ?_
  refine own_lconst0 (pc' := 6) X1 hx (hb hby d4_5) rfl ?_
  refine own_lcmp (pc' := 7) X1 hx (hb hby d4_6) rfl ?_
  refine own_ifl_lt (pt := 16) (pf := 10) X1 hx (hb hby d4_7) rfl (by decide) rfl (fun hc7 => absurd hc7 (hs)) (fun hc7 => ?_)
  refine own_lloadN (pc' := 11) X1 hx (hb hby d4_10) rfl rfl ?_
  refine own_lloadN (pc' := 12) X1 hx (hb hby d4_11) rfl rfl ?_
  refine own_lcmp (pc' := 13) X1 hx (hb hby d4_12) rfl ?_
  refine own_ifl_gt (pt := 31) (pf := 16) X1 hx (hb hby d4_13) rfl (by decide) rfl (fun hc13 => ?_) (fun hc13 => absurd (he) hc13)
  refine own_iload (pc' := 33) X1 hx (hb hby d4_31) rfl rfl ?_
  refine own_iconst (pc' := 34) X1 hx (1 : Int32) (hb hby d4_33) rfl rfl ?_
  refine own_icmp_ge (pt := 52) (pf := 37) X1 hx (hb hby d4_34) rfl (by decide) rfl (fun hc34 => ?_) (fun hc34 => absurd hc34 (hl))
  refine own_aloadN (pc' := 53) X1 hx (hb hby d4_52) rfl rfl rfl ?_
  refine own_lloadN (pc' := 54) X1 hx (hb hby d4_53) rfl rfl ?_
  refine own_putF (pc' := 57) X1 hx hZ hown (host := "") (Or.inl (own_w hw 22 rfl)) Via.refl e1 F0 E1 (Or.inr ⟨(own_w hw 23 rfl), rfl, hnm⟩) (own_w hw 14 rfl) (ty := .long) (by decide) rfl rfl (hb hby d4_54) rfl ?_
  intro T2 h2 X2 e2 W2
  have z2 : n0 ≤ h2.size := Nat.le_trans Z0 (Keep.of_wr W2).1
  have Fw2 := F0.same W2
  have N2 := Fr.snoc X2 N0 g_a1
  have K2 : Keep h0 h2 [a1] := (Keep.refl h0 [a1]).wr W2 (Or.inl (List.mem_of_getElem? (i := 0) rfl))
  refine own_aloadN (pc' := 58) X2 hx (hb hby d4_57) rfl rfl rfl ?_
  refine own_lloadN (pc' := 59) X2 hx (hb hby d4_58) rfl rfl ?_
  have f3 := (F1.other W2 (Or.inr (slot_ne (Or.inr (own_w hw 25 rfl)) (Or.inr (own_w hw 23 rfl)) (by decide) (t := .long) (t' := .long) (by decide +kernel) (by decide +kernel))))
  have f4 := (E1.wr W2)
  refine own_putF (pc' := 62) X2 hx hZ hown (host := "") (Or.inl (own_w hw 24 rfl)) Via.refl e2 f3 f4 (Or.inr ⟨(own_w hw 25 rfl), rfl, hnm⟩) (own_w hw 14 rfl) (ty := .long) (by decide) rfl rfl (hb hby d4_59) rfl ?_
  intro T5 h5 X5 e5 W5
  have z5 : n0 ≤ h5.size := Nat.le_trans z2 (Keep.of_wr W5).1
  have Fw5 := f3.same W5
  have N5 := Fr.snoc X5 N2 g_a1
  have K5 : Keep h0 h5 [a1] := K2.wr W5 (Or.inl (List.mem_of_getElem? (i := 0) rfl))
  refine own_aloadN (pc' := 63) X5 hx (hb hby d4_62) rfl rfl rfl ?_
  refine own_iload (pc' := 65) X5 hx (hb hby d4_63) rfl rfl ?_
  have f6 := ((F2.other W2 (Or.inr (slot_ne (Or.inr (own_w hw 27 rfl)) (Or.inr (own_w hw 23 rfl)) (by decide) (t := .int) (t' := .long) (by decide +kernel) (by decide +kernel)))).other W5 (Or.inr (slot_ne (Or.inr (own_w hw 27 rfl)) (Or.inr (own_w hw 25 rfl)) (by decide) (t := .int) (t' := .long) (by decide +kernel) (by decide +kernel))))
  have f7 := (f4.wr W5)
  refine own_putF (pc' := 68) X5 hx hZ hown (host := "") (Or.inl (own_w hw 26 rfl)) Via.refl e5 f6 f7 (Or.inr ⟨(own_w hw 27 rfl), rfl, hnm⟩) (own_w hw 14 rfl) (ty := .int) (by decide) rfl rfl (hb hby d4_65) rfl ?_
  intro T8 h8 X8 e8 W8
  have z8 : n0 ≤ h8.size := Nat.le_trans z5 (Keep.of_wr W8).1
  have Fw8 := f6.same W8
  have N8 := Fr.snoc X8 N5 g_a1
  have K8 : Keep h0 h8 [a1] := K5.wr W8 (Or.inl (List.mem_of_getElem? (i := 0) rfl))
  have f9 := (f7.wr W8)
  have f10 := ((Fw2.other W5 (Or.inr (slot_ne (Or.inr (own_w hw 23 rfl)) (Or.inr (own_w hw 25 rfl)) (by decide) (t := .long) (t' := .long) (by decide +kernel) (by decide +kernel)))).other W8 (Or.inr (slot_ne (Or.inr (own_w hw 23 rfl)) (Or.inr (own_w hw 27 rfl)) (by decide) (t := .long) (t' := .int) (by decide +kernel) (by decide +kernel))))
  have f11 := (Fw5.other W8 (Or.inr (slot_ne (Or.inr (own_w hw 25 rfl)) (Or.inr (own_w hw 27 rfl)) (by decide) (t := .long) (t' := .int) (by decide +kernel) (by decide +kernel))))
  refine own_ret0 X8 hx hlk hret (hb hby d4_68) (by decide) (by decide) ?_
  rw [e8]
  exact ⟨rfl, N8, K8, f9, f10, f11, Fw8⟩
theorem d6_0 : decode prog_29_method_12_code 0 = .ok (.aload_n 0, 1) := by decide +kernel
theorem d6_1 : decode prog_29_method_12_code 1 = .ok (.aload_n 1, 1) := by decide +kernel
theorem d6_2 : decode prog_29_method_12_code 2 = .ok (.if_acmp .ne 5, 3) := by decide +kernel
theorem d6_5 : decode prog_29_method_12_code 5 = .ok (.iconst 1, 1) := by decide +kernel
theorem d6_6 : decode prog_29_method_12_code 6 = .ok (.ireturn, 1) := by decide +kernel
theorem d6_7 : decode prog_29_method_12_code 7 = .ok (.aload_n 1, 1) := by decide +kernel
theorem d6_8 : decode prog_29_method_12_code 8 = .ok (.instanceof 20, 3) := by decide +kernel
theorem d6_11 : decode prog_29_method_12_code 11 = .ok (.ifCond .ne 5, 3) := by decide +kernel
theorem d6_14 : decode prog_29_method_12_code 14 = .ok (.iconst 0, 1) := by decide +kernel
theorem d6_15 : decode prog_29_method_12_code 15 = .ok (.ireturn, 1) := by decide +kernel
theorem d6_16 : decode prog_29_method_12_code 16 = .ok (.aload_n 1, 1) := by decide +kernel
theorem d6_17 : decode prog_29_method_12_code 17 = .ok (.checkcast 20, 3) := by decide +kernel
theorem d6_20 : decode prog_29_method_12_code 20 = .ok (.astore_n 2, 1) := by decide +kernel
theorem d6_21 : decode prog_29_method_12_code 21 = .ok (.aload_n 0, 1) := by decide +kernel
theorem d6_22 : decode prog_29_method_12_code 22 = .ok (.getfield 19, 3) := by decide +kernel
theorem d6_25 : decode prog_29_method_12_code 25 = .ok (.aload_n 2, 1) := by decide +kernel
theorem d6_26 : decode prog_29_method_12_code 26 = .ok (.getfield 19, 3) := by decide +kernel
theorem d6_29 : decode prog_29_method_12_code 29 = .ok (.lcmp, 1) := by decide +kernel
theorem d6_30 : decode prog_29_method_12_code 30 = .ok (.ifCond .ne 30, 3) := by decide +kernel
theorem d6_33 : decode prog_29_method_12_code 33 = .ok (.aload_n 0, 1) := by decide +kernel
theorem d6_34 : decode prog_29_method_12_code 34 = .ok (.getfield 25, 3) := by decide +kernel
theorem d6_37 : decode prog_29_method_12_code 37 = .ok (.aload_n 2, 1) := by decide +kernel
theorem d6_38 : decode prog_29_method_12_code 38 = .ok (.getfield 25, 3) := by decide +kernel
theorem d6_41 : decode prog_29_method_12_code 41 = .ok (.lcmp, 1) := by decide +kernel
theorem d6_42 : decode prog_29_method_12_code 42 = .ok (.ifCond .ne 18, 3) := by decide +kernel
theorem d6_45 : decode prog_29_method_12_code 45 = .ok (.aload_n 0, 1) := by decide +kernel
theorem d6_46 : decode prog_29_method_12_code 46 = .ok (.getfield 28, 3) := by decide +kernel
theorem d6_49 : decode prog_29_method_12_code 49 = .ok (.aload_n 2, 1) := by decide +kernel
theorem d6_50 : decode prog_29_method_12_code 50 = .ok (.getfield 28, 3) := by decide +kernel
theorem d6_53 : decode prog_29_method_12_code 53 = .ok (.if_icmp .ne 7, 3) := by decide +kernel
theorem d6_56 : decode prog_29_method_12_code 56 = .ok (.iconst 1, 1) := by decide +kernel
theorem d6_57 : decode prog_29_method_12_code 57 = .ok (.goto 4, 3) := by decide +kernel
theorem d6_60 : decode prog_29_method_12_code 60 = .ok (.iconst 0, 1) := by decide +kernel
theorem d6_61 : decode prog_29_method_12_code 61 = .ok (.ireturn, 1) := by decide +kernel
theorem pn_6 : plainFor (⟨"com/example/kent_ridge/kentridge/index/Region", "equals", "(Ljava/lang/Object;)Z"⟩ : MethodName) = true := plainFor_of_name (by first | (simp [plainName, overriddenIn]; done) | decide +kernel)
theorem ef_conE (m : MethodId) (a1 : Addr) (a2 : Addr) : entryFrame m #[(.ref a1), (.ref a2)] 3 = mkF m 0 #[.val (.ref a1), .val (.ref a2), .unset] [] := by first | (simp [entryFrame, mkF, argsToLocals, Value.category]; done) | rfl
set_option maxRecDepth 65536 in
set_option maxHeartbeats 4000000 in
theorem conE (l : Launch) (Z : State) (a0 : Array Value) (hw : ∀ d ∈ tables_1, d.before a0 Z = true) (a1 : Addr) (a2 : Addr) (h0 : Heap) (x0 x1 y0 y1 : Int64) (x2 y2 : Int32) (hne : a1 ≠ a2) (E2 : Exa Z h0 a2 "com/example/kent_ridge/kentridge/index/Region") (F0 : Fld Z h0 a1 "com/example/kent_ridge/kentridge/index/Region" "start" "J" (.long x0)) (F1 : Fld Z h0 a1 "com/example/kent_ridge/kentridge/index/Region" "end" "J" (.long x1)) (F2 : Fld Z h0 a1 "com/example/kent_ridge/kentridge/index/Region" "level" "I" (.int x2)) (G0 : Fld Z h0 a2 "com/example/kent_ridge/kentridge/index/Region" "start" "J" (.long y0)) (G1 : Fld Z h0 a2 "com/example/kent_ridge/kentridge/index/Region" "end" "J" (.long y1)) (G2 : Fld Z h0 a2 "com/example/kent_ridge/kentridge/index/Region" "level" "I" (.int y2)) :
    own_Con l Z (⟨"com/example/kent_ridge/kentridge/index/Region", "equals", "(Ljava/lang/Object;)Z"⟩ : MethodName) prog_29_method_12_code 3 (some .boolean) ({ frames := 0, cells := 0, slots := 0, locals := 0 } : Room) #[(.ref a1), (.ref a2)] h0 (fun v h L => ∃ z : Int32, v = some (.int z) ∧ (z = own_b (x0 = y0 ∧ x1 = y1 ∧ x2 = y2)) ∧ L = [] ∧ h = h0) := by
  refine own_Con_of pn_6 ?_
  intro p e s m below meth c s₁ X0 hx hby hml hret hlk hnm hown hZ e0
  have hown : s.vm.findClass "com/example/kent_ridge/kentridge/index/Region" = some m.cls := hown
  have hml : c.maxLocals = 3 := hml
  show own_WP _ _ _ _ _ _ _ (s₁.setTop (entryFrame m #[(.ref a1), (.ref a2)] 3))
  rw [ef_conE m a1 a2]
  refine own_aloadN (pc' := 1) X0 hx (hb hby d6_0) rfl rfl rfl ?_
  refine own_aloadN (pc' := 2) X0 hx (hb hby d6_1) rfl rfl rfl ?_
  refine own_acmp (pc' := 7) X0 hx rfl rfl false (decide_eq_false fun q => hne (Value.ref.inj q)) (hb hby d6_2) (by decide) (by decide) ?_
  refine own_aloadN (pc' := 8) X0 hx (hb hby d6_7) rfl rfl rfl ?_
  refine own_instY (pc' := 11) X0 hx hZ hown (own_w hw 33 rfl) e0 (Ins.self E2) (hb hby d6_8) rfl ?_
  intro T1 X1 e1
  refine own_if_ne (pt := 16) (pf := 14) X1 hx (hb hby d6_11) rfl (by decide) rfl (fun hc11 => ?_) (fun hc11 => absurd hc11 (by decide))
  refine own_aloadN (pc' := 17) X1 hx (hb hby d6_16) rfl rfl rfl ?_
  refine own_castY (pc' := 20) X1 hx hZ hown (own_w hw 33 rfl) e1 (Ins.self E2) (hb hby d6_17) rfl ?_
  intro T2 X2 e2
  refine own_astoreN (pc' := 21) (l' := #[.val (.ref a1), .val (.ref a2), .val (.ref a2)]) X2 hx (hb hby d6_20) rfl rfl rfl ?_
  refine own_aloadN (pc' := 22) X2 hx (hb hby d6_21) rfl rfl rfl ?_
  refine own_getF (pc' := 25) X2 hx hZ hown (host := "") (Or.inl (own_w hw 22 rfl)) Via.refl e2 F0 (hb hby d6_22) rfl ?_
  intro T3 X3 e3
  refine own_aloadN (pc' := 26) X3 hx (hb hby d6_25) rfl rfl rfl ?_
  refine own_getF (pc' := 29) X3 hx hZ hown (host := "") (Or.inl (own_w hw 22 rfl)) Via.refl e3 G0 (hb hby d6_26) rfl ?_
  intro T4 X4 e4
  refine own_lcmp (pc' := 30) X4 hx (hb hby d6_29) rfl ?_
  refine own_ifl_ne (pt := 60) (pf := 33) X4 hx (hb hby d6_30) rfl (by decide) rfl (fun hc30 => ?_) (fun hc30 => ?_)
  · skip
    refine own_iconst (pc' := 61) X4 hx (0 : Int32) (hb hby d6_60) rfl rfl ?_
    refine own_retN X4 hx hlk (t := .boolean) (by decide) hret (hb hby d6_61) (by decide) (by decide) ?_
    exact ⟨(0 : Int32), rfl, by simp [own_b, hc30], rfl, e4⟩
  · skip
    refine own_aloadN (pc' := 34) X4 hx (hb hby d6_33) rfl rfl rfl ?_
    refine own_getF (pc' := 37) X4 hx hZ hown (host := "") (Or.inl (own_w hw 24 rfl)) Via.refl e4 F1 (hb hby d6_34) rfl ?_
    intro T5 X5 e5
    refine own_aloadN (pc' := 38) X5 hx (hb hby d6_37) rfl rfl rfl ?_
    refine own_getF (pc' := 41) X5 hx hZ hown (host := "") (Or.inl (own_w hw 24 rfl)) Via.refl e5 G1 (hb hby d6_38) rfl ?_
    intro T6 X6 e6
    refine own_lcmp (pc' := 42) X6 hx (hb hby d6_41) rfl ?_
    refine own_ifl_ne (pt := 60) (pf := 45) X6 hx (hb hby d6_42) rfl (by decide) rfl (fun hc42 => ?_) (fun hc42 => ?_)
    · skip
      refine own_iconst (pc' := 61) X6 hx (0 : Int32) (hb hby d6_60) rfl rfl ?_
      refine own_retN X6 hx hlk (t := .boolean) (by decide) hret (hb hby d6_61) (by decide) (by decide) ?_
      exact ⟨(0 : Int32), rfl, by simp [own_b, hc30, hc42], rfl, e6⟩
    · skip
      refine own_aloadN (pc' := 46) X6 hx (hb hby d6_45) rfl rfl rfl ?_
      refine own_getF (pc' := 49) X6 hx hZ hown (host := "") (Or.inl (own_w hw 26 rfl)) Via.refl e6 F2 (hb hby d6_46) rfl ?_
      intro T7 X7 e7
      refine own_aloadN (pc' := 50) X7 hx (hb hby d6_49) rfl rfl rfl ?_
      refine own_getF (pc' := 53) X7 hx hZ hown (host := "") (Or.inl (own_w hw 26 rfl)) Via.refl e7 G2 (hb hby d6_50) rfl ?_
      intro T8 X8 e8
      refine own_icmp_ne (pt := 60) (pf := 56) X8 hx (hb hby d6_53) rfl (by decide) rfl (fun hc53 => ?_) (fun hc53 => ?_)
      · skip
        refine own_iconst (pc' := 61) X8 hx (0 : Int32) (hb hby d6_60) rfl rfl ?_
        refine own_retN X8 hx hlk (t := .boolean) (by decide) hret (hb hby d6_61) (by decide) (by decide) ?_
        exact ⟨(0 : Int32), rfl, by simp [own_b, hc30, hc42, hc53], rfl, e8⟩
      · skip
        refine own_iconst (pc' := 57) X8 hx (1 : Int32) (hb hby d6_56) rfl rfl ?_
        refine own_goto (pc' := 61) X8 hx (hb hby d6_57) (by decide) rfl ?_
        refine own_retN X8 hx hlk (t := .boolean) (by decide) hret (hb hby d6_61) (by decide) (by decide) ?_
        exact ⟨(1 : Int32), rfl, by simp [own_b, hc30, hc42, hc53], rfl, e8⟩
theorem ef_conES (m : MethodId) (a1 : Addr) : entryFrame m #[(.ref a1), (.ref a1)] 3 = mkF m 0 #[.val (.ref a1), .val (.ref a1), .unset] [] := by first | (simp [entryFrame, mkF, argsToLocals, Value.category]; done) | rfl
set_option maxRecDepth 65536 in
set_option maxHeartbeats 4000000 in
theorem conES (l : Launch) (Z : State) (a0 : Array Value) (hw : ∀ d ∈ tables_1, d.before a0 Z = true) (a1 : Addr) (h0 : Heap) :
    own_Con l Z (⟨"com/example/kent_ridge/kentridge/index/Region", "equals", "(Ljava/lang/Object;)Z"⟩ : MethodName) prog_29_method_12_code 3 (some .boolean) ({ frames := 0, cells := 0, slots := 0, locals := 0 } : Room) #[(.ref a1), (.ref a1)] h0 (fun v h L => ∃ z : Int32, v = some (.int z) ∧ (z = 1) ∧ L = [] ∧ h = h0) := by
  refine own_Con_of pn_6 ?_
  intro p e s m below meth c s₁ X0 hx hby hml hret hlk hnm hown hZ e0
  have hown : s.vm.findClass "com/example/kent_ridge/kentridge/index/Region" = some m.cls := hown
  have hml : c.maxLocals = 3 := hml
  show own_WP _ _ _ _ _ _ _ (s₁.setTop (entryFrame m #[(.ref a1), (.ref a1)] 3))
  rw [ef_conES m a1]
  refine own_aloadN (pc' := 1) X0 hx (hb hby d6_0) rfl rfl rfl ?_
  refine own_aloadN (pc' := 2) X0 hx (hb hby d6_1) rfl rfl rfl ?_
  refine own_acmp (pc' := 5) X0 hx rfl rfl true (decide_eq_true rfl) (hb hby d6_2) (by decide) (by decide) ?_
  refine own_iconst (pc' := 6) X0 hx (1 : Int32) (hb hby d6_5) rfl rfl ?_
  refine own_retN X0 hx hlk (t := .boolean) (by decide) hret (hb hby d6_6) (by decide) (by decide) ?_
  exact ⟨(1 : Int32), rfl, rfl, rfl, e0⟩
theorem ef_conE0 (m : MethodId) (a1 : Addr) : entryFrame m #[(.ref a1), .null] 3 = mkF m 0 #[.val (.ref a1), .val .null, .unset] [] := by first | (simp [entryFrame, mkF, argsToLocals, Value.category]; done) | rfl
set_option maxRecDepth 65536 in
set_option maxHeartbeats 4000000 in
theorem conE0 (l : Launch) (Z : State) (a0 : Array Value) (hw : ∀ d ∈ tables_1, d.before a0 Z = true) (a1 : Addr) (h0 : Heap) :
    own_Con l Z (⟨"com/example/kent_ridge/kentridge/index/Region", "equals", "(Ljava/lang/Object;)Z"⟩ : MethodName) prog_29_method_12_code 3 (some .boolean) ({ frames := 0, cells := 0, slots := 0, locals := 0 } : Room) #[(.ref a1), .null] h0 (fun v h L => ∃ z : Int32, v = some (.int z) ∧ (z = 0) ∧ L = [] ∧ h = h0) := by
  refine own_Con_of pn_6 ?_
  intro p e s m below meth c s₁ X0 hx hby hml hret hlk hnm hown hZ e0
  have hown : s.vm.findClass "com/example/kent_ridge/kentridge/index/Region" = some m.cls := hown
  have hml : c.maxLocals = 3 := hml
  show own_WP _ _ _ _ _ _ _ (s₁.setTop (entryFrame m #[(.ref a1), .null] 3))
  rw [ef_conE0 m a1]
  refine own_aloadN (pc' := 1) X0 hx (hb hby d6_0) rfl rfl rfl ?_
  refine own_aloadN (pc' := 2) X0 hx (hb hby d6_1) rfl rfl rfl ?_
  refine own_acmp (pc' := 7) X0 hx rfl rfl false (decide_eq_false nofun) (hb hby d6_2) (by decide) (by decide) ?_
  refine own_aloadN (pc' := 8) X0 hx (hb hby d6_7) rfl rfl rfl ?_
  refine own_inst0 (pc' := 11) X0 hx (hb hby d6_8) rfl ?_
  refine own_if_ne (pt := 16) (pf := 14) X0 hx (hb hby d6_11) rfl (by decide) rfl (fun hc11 => absurd (by decide) hc11) (fun hc11 => ?_)
  refine own_iconst (pc' := 15) X0 hx (0 : Int32) (hb hby d6_14) rfl rfl ?_
  refine own_retN X0 hx hlk (t := .boolean) (by decide) hret (hb hby d6_15) (by decide) (by decide) ?_
  exact ⟨(0 : Int32), rfl, rfl, rfl, e0⟩
theorem ef_conED (m : MethodId) (a1 : Addr) (a2 : Addr) : entryFrame m #[(.ref a1), (.ref a2)] 3 = mkF m 0 #[.val (.ref a1), .val (.ref a2), .unset] [] := by first | (simp [entryFrame, mkF, argsToLocals, Value.category]; done) | rfl
set_option maxRecDepth 65536 in
set_option maxHeartbeats 4000000 in
theorem conED (l : Launch) (Z : State) (a0 : Array Value) (hw : ∀ d ∈ tables_1, d.before a0 Z = true) (a1 : Addr) (a2 : Addr) (h0 : Heap) (hne : a1 ≠ a2) (D : String) (E2 : Exa Z h0 a2 D) (hno : ∃ c t, Z.vm.findClass D = some c ∧ Z.vm.findClass "com/example/kent_ridge/kentridge/index/Region" = some t ∧ Z.vm.assignable c t = false) :
    own_Con l Z (⟨"com/example/kent_ridge/kentridge/index/Region", "equals", "(Ljava/lang/Object;)Z"⟩ : MethodName) prog_29_method_12_code 3 (some .boolean) ({ frames := 0, cells := 0, slots := 0, locals := 0 } : Room) #[(.ref a1), (.ref a2)] h0 (fun v h L => ∃ z : Int32, v = some (.int z) ∧ (z = 0) ∧ L = [] ∧ h = h0) := by
  refine own_Con_of pn_6 ?_
  intro p e s m below meth c s₁ X0 hx hby hml hret hlk hnm hown hZ e0
  have hown : s.vm.findClass "com/example/kent_ridge/kentridge/index/Region" = some m.cls := hown
  have hml : c.maxLocals = 3 := hml
  show own_WP _ _ _ _ _ _ _ (s₁.setTop (entryFrame m #[(.ref a1), (.ref a2)] 3))
  rw [ef_conED m a1 a2]
  refine own_aloadN (pc' := 1) X0 hx (hb hby d6_0) rfl rfl rfl ?_
  refine own_aloadN (pc' := 2) X0 hx (hb hby d6_1) rfl rfl rfl ?_
  refine own_acmp (pc' := 7) X0 hx rfl rfl false (decide_eq_false fun q => hne (Value.ref.inj q)) (hb hby d6_2) (by decide) (by decide) ?_
  refine own_aloadN (pc' := 8) X0 hx (hb hby d6_7) rfl rfl rfl ?_
  refine own_instN (pc' := 11) X0 hx hZ hown (own_w hw 33 rfl) e0 E2 hno (hb hby d6_8) rfl ?_
  intro T1 X1 e1
  refine own_if_ne (pt := 16) (pf := 14) X1 hx (hb hby d6_11) rfl (by decide) rfl (fun hc11 => absurd (by decide) hc11) (fun hc11 => ?_)
  refine own_iconst (pc' := 15) X1 hx (0 : Int32) (hb hby d6_14) rfl rfl ?_
  refine own_retN X1 hx hlk (t := .boolean) (by decide) hret (hb hby d6_15) (by decide) (by decide) ?_
  exact ⟨(0 : Int32), rfl, rfl, rfl, e1⟩
theorem d9_0 : decode jdk_18_method_1_code 0 = .ok (.aload_n 0, 1) := by decide +kernel
theorem d9_1 : decode jdk_18_method_1_code 1 = .ok (.invokespecial 1, 3) := by decide +kernel
theorem d9_4 : decode jdk_18_method_1_code 4 = .ok (.return_, 1) := by decide +kernel
theorem pn_9 : plainFor (⟨"java/lang/Number", "<init>", "()V"⟩ : MethodName) = true := plainFor_of_name (by first | (simp [plainName, overriddenIn]; done) | decide +kernel)
theorem ef_conNum (m : MethodId) (a1 : Addr) : entryFrame m #[(.ref a1)] 1 = mkF m 0 #[.val (.ref a1)] [] := by first | (simp [entryFrame, mkF, argsToLocals, Value.category]; done) | rfl
set_option maxRecDepth 65536 in
set_option maxHeartbeats 4000000 in
theorem conNum (l : Launch) (Z : State) (a0 : Array Value) (hw : ∀ d ∈ tables_1, d.before a0 Z = true) (a1 : Addr) (h0 : Heap) :
    own_Con l Z (⟨"java/lang/Number", "<init>", "()V"⟩ : MethodName) jdk_18_method_1_code 1 none ({ frames := 1, cells := 0, slots := 0, locals := 12 } : Room) #[(.ref a1)] h0 (fun v h L => v = none ∧ L = [] ∧ h = h0) := by
  refine own_Con_of pn_9 ?_
  intro p e s m below meth c s₁ X0 hx hby hml hret hlk hnm hown hZ e0
  have hown : s.vm.findClass "java/lang/Number" = some m.cls := hown
  have hml : c.maxLocals = 1 := hml
  show own_WP _ _ _ _ _ _ _ (s₁.setTop (entryFrame m #[(.ref a1)] 1))
  rw [ef_conNum m a1]
  refine own_aloadN (pc' := 1) X0 hx (hb hby d9_0) rfl rfl rfl ?_
  refine own_initO (pc' := 4) (W := 0) X0 hx hZ hown (own_w hw 53 rfl) (own_w hw 20 rfl) (own_w hw 21 rfl) e0 (by rw [hml]; rfl) (hb hby d9_1) (by decide) (Nat.le_of_eq rfl) (by decide) rfl ?_
  intro T1 X1 e1
  refine own_ret0 X1 hx hlk hret (hb hby d9_4) (by decide) (by decide) ?_
  exact ⟨rfl, rfl, e1⟩
theorem d8_0 : decode jdk_35_method_26_code 0 = .ok (.aload_n 0, 1) := by decide +kernel
theorem d8_1 : decode jdk_35_method_26_code 1 = .ok (.invokespecial 270, 3) := by decide +kernel
theorem d8_4 : decode jdk_35_method_26_code 4 = .ok (.aload_n 0, 1) := by decide +kernel
theorem d8_5 : decode jdk_35_method_26_code 5 = .ok (.lload_n 1, 1) := by decide +kernel
theorem d8_6 : decode jdk_35_method_26_code 6 = .ok (.putfield 273, 3) := by decide +kernel
theorem d8_9 : decode jdk_35_method_26_code 9 = .ok (.return_, 1) := by decide +kernel
theorem pn_8 : plainFor (⟨"java/lang/Long", "<init>", "(J)V"⟩ : MethodName) = true := plainFor_of_name (by first | (simp [plainName, overriddenIn]; done) | decide +kernel)
theorem ef_conLongI (m : MethodId) (a1 : Addr) (w1 : Int64) : entryFrame m #[(.ref a1), (.long w1)] 3 = mkF m 0 #[.val (.ref a1), .val (.long w1), .second] [] := by first | (simp [entryFrame, mkF, argsToLocals, Value.category]; done) | rfl
theorem pd0 : parseMethodDescriptor "()V" = some ⟨[], none⟩ := by decide +kernel
set_option maxRecDepth 65536 in
set_option maxHeartbeats 4000000 in
theorem conLongI (l : Launch) (Z : State) (a0 : Array Value) (hw : ∀ d ∈ tables_1, d.before a0 Z = true) (a1 : Addr) (w1 : Int64) (h0 : Heap) (n0 : Nat) (Z0 : n0 ≤ h0.size) (E1 : Exa Z h0 a1 "java/lang/Long") (F1 : Fld Z h0 a1 "java/lang/Long" "value" "J" (.long (0 : Int64))) (g_a1 : n0 ≤ a1) :
    own_Con l Z (⟨"java/lang/Long", "<init>", "(J)V"⟩ : MethodName) jdk_35_method_26_code 3 none ({ frames := 2, cells := 0, slots := 0, locals := 24 } : Room) #[(.ref a1), (.long w1)] h0 (fun v h L => v = none ∧ Fr n0 L ∧ Keep h0 h [a1] ∧ Exa Z h a1 "java/lang/Long") := by
  refine own_Con_of pn_8 ?_
  intro p e s m below meth c s₁ X0 hx hby hml hret hlk hnm hown hZ e0
  have hown : s.vm.findClass "java/lang/Long" = some m.cls := hown
  have hml : c.maxLocals = 3 := hml
  have N0 := Fr.nil n0
  show own_WP _ _ _ _ _ _ _ (s₁.setTop (entryFrame m #[(.ref a1), (.long w1)] 3))
  rw [ef_conLongI m a1 w1]
  refine own_aloadN (pc' := 1) X0 hx (hb hby d8_0) rfl rfl rfl ?_
  refine own_callN (pc' := 4) (W := 0) (y := (⟨"java/lang/Number", "<init>", "()V"⟩ : MethodName)) X0 hx hZ rfl hown (own_w hw 47 rfl) (own_w hw 48 rfl) (own_w hw 51 rfl) (own_w hw 52 rfl) (by decide) (conNum l Z a0 hw a1 _) e0 pd0 a1 [] [] rfl rfl rfl (Nat.le_of_eq rfl) (by decide) (by decide) (by rw [hml]; rfl) (hb hby d8_1) (by decide) (by decide) rfl ?_
  intro v1 T1 L1 X1 q1
  obtain ⟨rfl, rfl, e1⟩ := q1
  have N1 := Fr.app N0 (Fr.nil n0)
  show own_WP _ _ _ _ _ _ _ (T1.setTop (mkF m 4 #[.val (.ref a1), .val (.long w1), .second] []))
  refine own_aloadN (pc' := 5) X1 hx (hb hby d8_4) rfl rfl rfl ?_
  refine own_lloadN (pc' := 6) X1 hx (hb hby d8_5) rfl rfl ?_
  refine own_putF (pc' := 9) X1 hx hZ hown (host := "") (Or.inl (own_w hw 54 rfl)) Via.refl e1 F1 E1 (Or.inr ⟨(own_w hw 55 rfl), rfl, hnm⟩) (own_w hw 42 rfl) (ty := .long) (by decide) rfl rfl (hb hby d8_6) rfl ?_
  intro T2 h2 X2 e2 W2
  have z2 : n0 ≤ h2.size := Nat.le_trans Z0 (Keep.of_wr W2).1
  have Fw2 := F1.same W2
  have N2 := Fr.snoc X2 N1 g_a1
  have K2 : Keep h0 h2 [a1] := (Keep.refl h0 [a1]).wr W2 (Or.inl (List.mem_of_getElem? (i := 0) rfl))
  have f3 := (E1.wr W2)
  refine own_ret0 X2 hx hlk hret (hb hby d8_9) (by decide) (by decide) ?_
  rw [e2]
  exact ⟨rfl, N2, K2, f3⟩
theorem d7_0 : decode jdk_35_method_24_code 0 = .ok (.sipush 128, 3) := by decide +kernel
theorem d7_3 : decode jdk_35_method_24_code 3 = .ok (.istore_n 2, 1) := by decide +kernel
theorem d7_4 : decode jdk_35_method_24_code 4 = .ok (.lload_n 0, 1) := by decide +kernel
theorem d7_5 : decode jdk_35_method_24_code 5 = .ok (.ldc2_w 230, 3) := by decide +kernel
theorem d7_8 : decode jdk_35_method_24_code 8 = .ok (.lcmp, 1) := by decide +kernel
theorem d7_9 : decode jdk_35_method_24_code 9 = .ok (.ifCond .lt 22, 3) := by decide +kernel
theorem d7_12 : decode jdk_35_method_24_code 12 = .ok (.lload_n 0, 1) := by decide +kernel
theorem d7_13 : decode jdk_35_method_24_code 13 = .ok (.ldc2_w 232, 3) := by decide +kernel
theorem d7_16 : decode jdk_35_method_24_code 16 = .ok (.lcmp, 1) := by decide +kernel
theorem d7_17 : decode jdk_35_method_24_code 17 = .ok (.ifCond .gt 14, 3) := by decide +kernel
theorem d7_20 : decode jdk_35_method_24_code 20 = .ok (.getstatic 234, 3) := by decide +kernel
theorem d7_23 : decode jdk_35_method_24_code 23 = .ok (.lload_n 0, 1) := by decide +kernel
theorem d7_24 : decode jdk_35_method_24_code 24 = .ok (.l2i, 1) := by decide +kernel
theorem d7_25 : decode jdk_35_method_24_code 25 = .ok (.sipush 128, 3) := by decide +kernel
theorem d7_28 : decode jdk_35_method_24_code 28 = .ok (.iadd, 1) := by decide +kernel
theorem d7_29 : decode jdk_35_method_24_code 29 = .ok (.aaload, 1) := by decide +kernel
theorem d7_30 : decode jdk_35_method_24_code 30 = .ok (.areturn, 1) := by decide +kernel
theorem d7_31 : decode jdk_35_method_24_code 31 = .ok (.new 1, 3) := by decide +kernel
theorem d7_34 : decode jdk_35_method_24_code 34 = .ok (.dup, 1) := by decide +kernel
theorem d7_35 : decode jdk_35_method_24_code 35 = .ok (.lload_n 0, 1) := by decide +kernel
theorem d7_36 : decode jdk_35_method_24_code 36 = .ok (.invokespecial 240, 3) := by decide +kernel
theorem d7_39 : decode jdk_35_method_24_code 39 = .ok (.areturn, 1) := by decide +kernel
theorem pn_7 : plainFor (⟨"java/lang/Long", "valueOf", "(J)Ljava/lang/Long;"⟩ : MethodName) = true := plainFor_of_name (by first | (simp [plainName, overriddenIn]; done) | decide +kernel)
theorem ef_conLongV (m : MethodId) (w1 : Int64) : entryFrame m #[(.long w1)] 3 = mkF m 0 #[.val (.long w1), .second, .unset] [] := by first | (simp [entryFrame, mkF, argsToLocals, Value.category]; done) | rfl
theorem pd1 : parseMethodDescriptor "(J)V" = some ⟨[.long], none⟩ := by decide +kernel
set_option maxRecDepth 65536 in
set_option maxHeartbeats 4000000 in
theorem conLongV (l : Launch) (Z : State) (a0 : Array Value) (hw : ∀ d ∈ tables_1, d.before a0 Z = true) (w1 : Int64) (h0 : Heap) (n0 : Nat) (Z0 : n0 ≤ h0.size) (ca : Addr) (cl : Cell) (hca : own_Cache Z h0 "java/lang/Long" "java/lang/Long$LongCache" "[Ljava/lang/Long;" ca cl) :
    own_Con l Z (⟨"java/lang/Long", "valueOf", "(J)Ljava/lang/Long;"⟩ : MethodName) jdk_35_method_24_code 3 (some (.object "java/lang/Long")) ({ frames := 3, cells := 1, slots := 1, locals := 39 } : Room) #[(.long w1)] h0 (fun v h L => ∃ b : Addr, v = some (.ref b) ∧ Fr n0 L ∧ Keep h0 h [] ∧ Exa Z h b "java/lang/Long") := by
  refine own_Con_of pn_7 ?_
  intro p e s m below meth c s₁ X0 hx hby hml hret hlk hnm hown hZ e0
  have hown : s.vm.findClass "java/lang/Long" = some m.cls := hown
  have hml : c.maxLocals = 3 := hml
  have N0 := Fr.nil n0
  show own_WP _ _ _ _ _ _ _ (s₁.setTop (entryFrame m #[(.long w1)] 3))
  rw [ef_conLongV m w1]
  refine own_sipush (pc' := 3) X0 hx (128 : Int32) (hb hby d7_0) rfl rfl ?_
  refine own_istoreN (pc' := 4) (l' := #[.val (.long w1), .second, .val (.int (128 : Int32))]) X0 hx (hb hby d7_3) rfl rfl rfl ?_
  refine own_lloadN (pc' := 5) X0 hx (hb hby d7_4) rfl rfl ?_
  refine own_ldc2Long (pc' := 8) X0 hx hZ hown (own_w hw 39 rfl) (hb hby d7_5) rfl ?_
  refine own_lcmp (pc' := 9) X0 hx (hb hby d7_8) rfl ?_
  refine own_ifl_lt (pt := 31) (pf := 12) X0 hx (hb hby d7_9) rfl (by decide) rfl (fun hc9 => ?_) (fun hc9 => ?_)
  · skip
    refine own_new (pc' := 34) X0 hx hZ hown (own_w hw 41 rfl) (own_w hw 42 rfl) (own_w hw 37 rfl) e0 (hb hby d7_31) (by decide) (by decide) rfl ?_
    intro T1 h1 b1 g1 X1 e1 E1 A1 D1
    have g_b1 : n0 ≤ b1 := Nat.le_trans Z0 (Nat.le_of_eq g1.symm)
    have sz_b1 : h0.size ≤ b1 := Nat.le_trans (Keep.refl h0 []).1 (Nat.le_of_eq g1.symm)
    have z1 : n0 ≤ h1.size := Nat.le_trans Z0 E1.1
    have K1 : Keep h0 h1 [] := (Keep.refl h0 []).ext E1
    have F1_value : Fld Z h1 b1 "java/lang/Long" "value" "J" (.long (0 : Int64)) := D1 (Or.inr (own_w hw 55 rfl)) (ty := .long) (by decide)
    refine own_dup (pc' := 35) X1 hx (hb hby d7_34) rfl rfl ?_
    refine own_lloadN (pc' := 36) X1 hx (hb hby d7_35) rfl rfl ?_
    refine own_callN (pc' := 39) (W := 1) (y := (⟨"java/lang/Long", "<init>", "(J)V"⟩ : MethodName)) X1 hx hZ rfl hown (own_w hw 43 rfl) (own_w hw 44 rfl) (own_w hw 37 rfl) (own_w hw 46 rfl) (by decide) (conLongI l Z a0 hw b1 w1 _ n0 z1 A1 F1_value g_b1) e1 pd1 b1 [(.long w1)] [(.ref b1)] rfl rfl rfl (Nat.le_of_eq rfl) (by decide) (by decide) (by rw [hml]; rfl) (hb hby d7_36) (by decide) (by decide) rfl ?_
    intro v2 T2 L2 X2 q2
    obtain ⟨rfl, M2, K2, E2q⟩ := q2
    obtain ⟨h2, e2⟩ : ∃ z, z = T2.heap := ⟨_, rfl⟩
    rw [← e2] at K2 E2q
    have e2 := e2.symm
    have z2 : n0 ≤ h2.size := Nat.le_trans z1 K2.1
    have N2 := Fr.app N0 M2
    have KK2 : Keep h0 h2 [] := K1.trans K2 (allS (Or.inr sz_b1) all0)
    show own_WP _ _ _ _ _ _ _ (T2.setTop (mkF m 39 #[.val (.long w1), .second, .val (.int (128 : Int32))] [(.ref b1)]))
    refine own_retA X2 hx hlk rfl hret rfl rfl (hb hby d7_39) (by decide) (by decide) ?_
    rw [e2]
    exact ⟨b1, rfl, N2, KK2, E2q⟩
  · skip
    refine own_lloadN (pc' := 13) X0 hx (hb hby d7_12) rfl rfl ?_
    refine own_ldc2Long (pc' := 16) X0 hx hZ hown (own_w hw 40 rfl) (hb hby d7_13) rfl ?_
    refine own_lcmp (pc' := 17) X0 hx (hb hby d7_16) rfl ?_
    refine own_ifl_gt (pt := 31) (pf := 20) X0 hx (hb hby d7_17) rfl (by decide) rfl (fun hc17 => ?_) (fun hc17 => ?_)
    · skip
      refine own_new (pc' := 34) X0 hx hZ hown (own_w hw 41 rfl) (own_w hw 42 rfl) (own_w hw 37 rfl) e0 (hb hby d7_31) (by decide) (by decide) rfl ?_
      intro T3 h3 b3 g3 X3 e3 E3 A3 D3
      have g_b3 : n0 ≤ b3 := Nat.le_trans Z0 (Nat.le_of_eq g3.symm)
      have sz_b3 : h0.size ≤ b3 := Nat.le_trans (Keep.refl h0 []).1 (Nat.le_of_eq g3.symm)
      have z3 : n0 ≤ h3.size := Nat.le_trans Z0 E3.1
      have K3 : Keep h0 h3 [] := (Keep.refl h0 []).ext E3
      have F3_value : Fld Z h3 b3 "java/lang/Long" "value" "J" (.long (0 : Int64)) := D3 (Or.inr (own_w hw 55 rfl)) (ty := .long) (by decide)
      refine own_dup (pc' := 35) X3 hx (hb hby d7_34) rfl rfl ?_
      refine own_lloadN (pc' := 36) X3 hx (hb hby d7_35) rfl rfl ?_
      refine own_callN (pc' := 39) (W := 1) (y := (⟨"java/lang/Long", "<init>", "(J)V"⟩ : MethodName)) X3 hx hZ rfl hown (own_w hw 43 rfl) (own_w hw 44 rfl) (own_w hw 37 rfl) (own_w hw 46 rfl) (by decide) (conLongI l Z a0 hw b3 w1 _ n0 z3 A3 F3_value g_b3) e3 pd1 b3 [(.long w1)] [(.ref b3)] rfl rfl rfl (Nat.le_of_eq rfl) (by decide) (by decide) (by rw [hml]; rfl) (hb hby d7_36) (by decide) (by decide) rfl ?_
      intro v4 T4 L4 X4 q4
      obtain ⟨rfl, M4, K4, E4q⟩ := q4
      obtain ⟨h4, e4⟩ : ∃ z, z = T4.heap := ⟨_, rfl⟩
      rw [← e4] at K4 E4q
      have e4 := e4.symm
      have z4 : n0 ≤ h4.size := Nat.le_trans z3 K4.1
      have N4 := Fr.app N0 M4
      have KK4 : Keep h0 h4 [] := K3.trans K4 (allS (Or.inr sz_b3) all0)
      show own_WP _ _ _ _ _ _ _ (T4.setTop (mkF m 39 #[.val (.long w1), .second, .val (.int (128 : Int32))] [(.ref b3)]))
      refine own_retA X4 hx hlk rfl hret rfl rfl (hb hby d7_39) (by decide) (by decide) ?_
      rw [e4]
      exact ⟨b3, rfl, N4, KK4, E4q⟩
    · skip
      refine own_getS (pc' := 23) (host := "") X0 hx hZ hown (Or.inl (own_w hw 60 rfl)) Via.refl e0 hca.1 (hb hby d7_20) rfl ?_
      intro T5 X5 e5
      refine own_lloadN (pc' := 24) X5 hx (hb hby d7_23) rfl rfl ?_
      refine own_l2i (pc' := 25) X5 hx (hb hby d7_24) rfl ?_
      refine own_sipush (pc' := 28) X5 hx (128 : Int32) (hb hby d7_25) rfl rfl ?_
      refine own_iadd (pc' := 29) X5 hx (hb hby d7_28) rfl ?_
      obtain ⟨bb, qb1, qb2⟩ := hca.2.2.2 _ (Jvm.Free.LongBox.place_okL w1 hc9 hc17).2
      refine own_aaload (pc' := 30) X5 hx hZ e5 hca.2.1 rfl (by rw [hca.2.2.1]; exact (Jvm.Free.LongBox.place_okL w1 hc9 hc17).1) qb1 (hb hby d7_29) rfl ?_
      refine own_retA X5 hx hlk rfl hret rfl rfl (hb hby d7_30) (by decide) (by decide) ?_
      rw [e5]
      exact ⟨bb, rfl, N0, (Keep.refl h0 []), qb2⟩
theorem own_no (Z : State) (a0 : Array Value) (hw : ∀ d ∈ tables_1, d.before a0 Z = true) : ∃ c t, Z.vm.findClass "java/lang/Long" = some c ∧ Z.vm.findClass "com/example/kent_ridge/kentridge/index/Region" = some t ∧ Z.vm.assignable c t = false := by
  have n1 := own_NSroot (own_w hw 58 rfl) (own_w hw 14 rfl) (show "java/lang/Object" ≠ "com/example/kent_ridge/kentridge/index/Region" by decide)
  have n2 := NS.step (own_w hw 57 rfl) n1 (by decide)
  have n3 := NS.step (own_w hw 56 rfl) n2 (by decide)
  exact own_NSno (own_w hw 42 rfl) (own_w hw 14 rfl) n3 (by decide)
theorem pn_0 : plainFor x = true := plainFor_of_name (by first | (simp [plainName, overriddenIn]; done) | decide +kernel)
theorem ef_con0 (m : MethodId) (p0 : Int64) (p1 : Int64) (p2 : Int32) (p3 : Int64) (p4 : Int64) (p5 : Int32) : entryFrame m #[(.long p0), (.long p1), (.int p2), (.long p3), (.long p4), (.int p5)] 24 = mkF m 0 #[.val (.long p0), .second, .val (.long p1), .second, .val (.int p2), .val (.long p3), .second, .val (.long p4), .second, .val (.int p5), .unset, .unset, .unset, .unset, .unset, .unset, .unset, .unset, .unset, .unset, .unset, .unset, .unset, .unset] [] := by first | (simp [entryFrame, mkF, argsToLocals, Value.category]; done) | rfl
theorem pd2 : parseMethodDescriptor "(J)J" = some ⟨[.long], some .long⟩ := by decide +kernel
theorem pd3 : parseMethodDescriptor "(JJ)J" = some ⟨[.long, .long], some .long⟩ := by decide +kernel
theorem pd4 : parseMethodDescriptor "(II)I" = some ⟨[.int, .int], some .int⟩ := by decide +kernel
theorem pd5 : parseMethodDescriptor "(JJI)V" = some ⟨[.long, .long, .int], none⟩ := by decide +kernel
theorem pd6 : parseMethodDescriptor "(Ljava/lang/Object;)Z" = some ⟨[(.object "java/lang/Object")], some .boolean⟩ := by decide +kernel
theorem pd7 : parseMethodDescriptor "(J)Ljava/lang/Long;" = some ⟨[.long], some (.object "java/lang/Long")⟩ := by decide +kernel
set_option maxRecDepth 65536 in
set_option maxHeartbeats 4000000 in
theorem con0 (l : Launch) (Z : State) (a0 : Array Value) (hw : ∀ d ∈ tables_1, d.before a0 Z = true) (p0 : Int64) (p1 : Int64) (p2 : Int32) (p3 : Int64) (p4 : Int64) (p5 : Int32) (h0 : Heap) (n0 : Nat) (Z0 : n0 ≤ h0.size) (caJ : Addr) (clJ : Cell) (hcaJ : own_Cache Z h0 "java/lang/Long" "java/lang/Long$LongCache" "[Ljava/lang/Long;" caJ clJ) (hn0 : h0.size ≤ n0) :
    own_Con l Z x code maxLocals ret room_1 #[(.long p0), (.long p1), (.int p2), (.long p3), (.long p4), (.int p5)] h0 (fun v h L => v = some (.int 1) ∧ Fr n0 L) := by
  refine own_Con_of pn_0 ?_
  intro p e s m below meth c s₁ X0 hx hby hml hret hlk hnm hown hZ e0
  have hown : s.vm.findClass "com/example/kent_ridge/kentridge/index/RegionEqualsPinLaw" = some m.cls := hown
  have hml : c.maxLocals = 24 := hml
  have hret : meth.sig.returnType = (some .boolean) := hret
  have N0 := Fr.nil n0
  show own_WP _ _ _ _ _ _ _ (s₁.setTop (entryFrame m #[(.long p0), (.long p1), (.int p2), (.long p3), (.long p4), (.int p5)] 24))
  rw [ef_con0 m p0 p1 p2 p3 p4 p5]
  refine own_lloadN (pc' := 1) X0 hx (hb hby at_0) rfl rfl ?_
  refine own_callS (pc' := 4) (W := 0) (y := (⟨"com/example/kent_ridge/kentridge/index/RegionEqualsPinLaw", "startFrom", "(J)J"⟩ : MethodName)) X0 hx hZ hown (own_w hw 0 rfl) (own_w hw 1 rfl) (own_w hw 2 rfl) (own_w hw 3 rfl) (by decide) (conS l Z a0 hw p0 _ ) e0 pd2 [(.long p0)] [] rfl rfl rfl (Nat.le_of_eq rfl) (by decide) (by decide) (by rw [hml]; rfl) (hb hby at_1) (by decide) (by decide) rfl ?_
  intro v1 T1 L1 X1 q1
  obtain ⟨r1, rfl, hr1, rfl, e1⟩ := q1
  have N1 := Fr.app N0 (Fr.nil n0)
  show own_WP _ _ _ _ _ _ _ (T1.setTop (mkF m 4 #[.val (.long p0), .second, .val (.long p1), .second, .val (.int p2), .val (.long p3), .second, .val (.long p4), .second, .val (.int p5), .unset, .unset, .unset, .unset, .unset, .unset, .unset, .unset, .unset, .unset, .unset, .unset, .unset, .unset] [(.long r1)]))
  refine own_lstore (pc' := 6) (l' := #[.val (.long p0), .second, .val (.long p1), .second, .val (.int p2), .val (.long p3), .second, .val (.long p4), .second, .val (.int p5), .val (.long r1), .second, .unset, .unset, .unset, .unset, .unset, .unset, .unset, .unset, .unset, .unset, .unset, .unset]) X1 hx (hb hby at_4) rfl rfl rfl ?_
  refine own_lload (pc' := 8) X1 hx (hb hby at_6) rfl rfl ?_
  refine own_lloadN (pc' := 9) X1 hx (hb hby at_8) rfl rfl ?_
  refine own_callS (pc' := 12) (W := 0) (y := (⟨"com/example/kent_ridge/kentridge/index/RegionEqualsPinLaw", "endFrom", "(JJ)J"⟩ : MethodName)) X1 hx hZ hown (own_w hw 5 rfl) (own_w hw 6 rfl) (own_w hw 2 rfl) (own_w hw 7 rfl) (by decide) (conN l Z a0 hw r1 p1 _ hr1) e1 pd3 [(.long r1), (.long p1)] [] rfl rfl rfl (Nat.le_of_eq rfl) (by decide) (by decide) (by rw [hml]; rfl) (hb hby at_9) (by decide) (by decide) rfl ?_
  intro v2 T2 L2 X2 q2
  obtain ⟨r2, rfl, hr2, rfl, e2⟩ := q2
  have N2 := Fr.app N1 (Fr.nil n0)
  show own_WP _ _ _ _ _ _ _ (T2.setTop (mkF m 12 #[.val (.long p0), .second, .val (.long p1), .second, .val (.int p2), .val (.long p3), .second, .val (.long p4), .second, .val (.int p5), .val (.long r1), .second, .unset, .unset, .unset, .unset, .unset, .unset, .unset, .unset, .unset, .unset, .unset, .unset] [(.long r2)]))
  refine own_lstore (pc' := 14) (l' := #[.val (.long p0), .second, .val (.long p1), .second, .val (.int p2), .val (.long p3), .second, .val (.long p4), .second, .val (.int p5), .val (.long r1), .second, .val (.long r2), .second, .unset, .unset, .unset, .unset, .unset, .unset, .unset, .unset, .unset, .unset]) X2 hx (hb hby at_12) rfl rfl rfl ?_
  refine own_iconst (pc' := 15) X2 hx (1 : Int32) (hb hby at_14) rfl rfl ?_
  refine own_iload (pc' := 17) X2 hx (hb hby at_15) rfl rfl ?_
  refine own_ldcInt (pc' := 19) X2 hx hZ hown (own_w hw 8 rfl) (hb hby at_17) rfl ?_
  refine own_iand (pc' := 20) X2 hx (hb hby at_19) rfl ?_
  refine own_callS (pc' := 23) (W := 0) (y := (⟨"java/lang/Math", "max", "(II)I"⟩ : MethodName)) X2 hx hZ hown (own_w hw 9 rfl) (own_w hw 10 rfl) (own_w hw 11 rfl) (own_w hw 12 rfl) (by decide) (conM l Z a0 hw (1 : Int32) (p2 &&& (2147483647 : Int32)) _ ) e2 pd4 [(.int (1 : Int32)), (.int (p2 &&& (2147483647 : Int32)))] [] rfl rfl rfl (Nat.le_of_eq rfl) (by decide) (by decide) (by rw [hml]; rfl) (hb hby at_20) (by decide) (by decide) rfl ?_
  intro v3 T3 L3 X3 q3
  obtain ⟨r3, rfl, hr3, rfl, e3⟩ := q3
  have N3 := Fr.app N2 (Fr.nil n0)
  show own_WP _ _ _ _ _ _ _ (T3.setTop (mkF m 23 #[.val (.long p0), .second, .val (.long p1), .second, .val (.int p2), .val (.long p3), .second, .val (.long p4), .second, .val (.int p5), .val (.long r1), .second, .val (.long r2), .second, .unset, .unset, .unset, .unset, .unset, .unset, .unset, .unset, .unset, .unset] [(.int r3)]))
  refine own_istore (pc' := 25) (l' := #[.val (.long p0), .second, .val (.long p1), .second, .val (.int p2), .val (.long p3), .second, .val (.long p4), .second, .val (.int p5), .val (.long r1), .second, .val (.long r2), .second, .val (.int r3), .unset, .unset, .unset, .unset, .unset, .unset, .unset, .unset, .unset]) X3 hx (hb hby at_23) rfl rfl rfl ?_
  refine own_iload (pc' := 27) X3 hx (hb hby at_25) rfl rfl ?_
  refine own_iconst (pc' := 28) X3 hx (1 : Int32) (hb hby at_27) rfl rfl ?_
  refine own_iand (pc' := 29) X3 hx (hb hby at_28) rfl ?_
  refine own_join (fun x : State × Int64 => Stand p l e room_1 s m #[(.long p0), (.long p1), (.int p2), (.long p3), (.long p4), (.int p5)] below meth c x.1 [] 0 0 ∧ x.1.heap = h0 ∧ (¬ x.2 < 0 ∧ x.2 < 9223372036854775807)) (fun x => x.1.setTop (mkF m 42 #[.val (.long p0), .second, .val (.long p1), .second, .val (.int p2), .val (.long p3), .second, .val (.long p4), .second, .val (.int p5), .val (.long r1), .second, .val (.long r2), .second, .val (.int r3), .unset, .unset, .unset, .unset, .unset, .unset, .unset, .unset, .unset] [(.long x.2)])) (fun J42 => ?_) (fun x hx42 => ?_)
  · skip
    refine own_if_eq (pt := 37) (pf := 32) X3 hx (hb hby at_29) rfl (by decide) rfl (fun hc29 => ?_) (fun hc29 => ?_)
    · skip
      refine own_lload (pc' := 39) X3 hx (hb hby at_37) rfl rfl ?_
      refine own_callS (pc' := 42) (W := 0) (y := (⟨"com/example/kent_ridge/kentridge/index/RegionEqualsPinLaw", "startFrom", "(J)J"⟩ : MethodName)) X3 hx hZ hown (own_w hw 0 rfl) (own_w hw 1 rfl) (own_w hw 2 rfl) (own_w hw 3 rfl) (by decide) (conS l Z a0 hw p3 _ ) e3 pd2 [(.long p3)] [] rfl rfl rfl (Nat.le_of_eq rfl) (by decide) (by decide) (by rw [hml]; rfl) (hb hby at_39) (by decide) (by decide) rfl ?_
      intro v4 T4 L4 X4 q4
      obtain ⟨r4, rfl, hr4, rfl, e4⟩ := q4
      have N4 := Fr.app N3 (Fr.nil n0)
      show own_WP _ _ _ _ _ _ _ (T4.setTop (mkF m 42 #[.val (.long p0), .second, .val (.long p1), .second, .val (.int p2), .val (.long p3), .second, .val (.long p4), .second, .val (.int p5), .val (.long r1), .second, .val (.long r2), .second, .val (.int r3), .unset, .unset, .unset, .unset, .unset, .unset, .unset, .unset, .unset] [(.long r4)]))
      exact J42 ⟨T4, r4⟩ ⟨X4, e4, hr4⟩
    · skip
      refine own_lload (pc' := 34) X3 hx (hb hby at_32) rfl rfl ?_
      refine own_goto (pc' := 42) X3 hx (hb hby at_34) (by decide) rfl ?_
      exact J42 ⟨T3, r1⟩ ⟨X3, e3, hr1⟩
  · obtain ⟨T5, js⟩ := x
    obtain ⟨X5, e5, hjs⟩ := hx42
    have hjs : (¬ js < 0 ∧ js < 9223372036854775807) := hjs
    have e5 : T5.heap = h0 := e5
    have N5 := Fr.nil n0
    show own_WP _ _ _ _ _ _ _ (T5.setTop (mkF m 42 #[.val (.long p0), .second, .val (.long p1), .second, .val (.int p2), .val (.long p3), .second, .val (.long p4), .second, .val (.int p5), .val (.long r1), .second, .val (.long r2), .second, .val (.int r3), .unset, .unset, .unset, .unset, .unset, .unset, .unset, .unset, .unset] [(.long js)]))
    refine own_lstore (pc' := 44) (l' := #[.val (.long p0), .second, .val (.long p1), .second, .val (.int p2), .val (.long p3), .second, .val (.long p4), .second, .val (.int p5), .val (.long r1), .second, .val (.long r2), .second, .val (.int r3), .val (.long js), .second, .unset, .unset, .unset, .unset, .unset, .unset, .unset]) X5 hx (hb hby at_42) rfl rfl rfl ?_
    refine own_iload (pc' := 46) X5 hx (hb hby at_44) rfl rfl ?_
    refine own_iconst (pc' := 47) X5 hx (2 : Int32) (hb hby at_46) rfl rfl ?_
    refine own_iand (pc' := 48) X5 hx (hb hby at_47) rfl ?_
    refine own_join (fun x : State × Int64 => Stand p l e room_1 s m #[(.long p0), (.long p1), (.int p2), (.long p3), (.long p4), (.int p5)] below meth c x.1 [] 0 0 ∧ x.1.heap = h0 ∧ js < x.2) (fun x => x.1.setTop (mkF m 71 #[.val (.long p0), .second, .val (.long p1), .second, .val (.int p2), .val (.long p3), .second, .val (.long p4), .second, .val (.int p5), .val (.long r1), .second, .val (.long r2), .second, .val (.int r3), .val (.long js), .second, .unset, .unset, .unset, .unset, .unset, .unset, .unset] [(.long x.2)])) (fun J71 => ?_) (fun x hx71 => ?_)
    · skip
      refine own_if_eq (pt := 64) (pf := 51) X5 hx (hb hby at_48) rfl (by decide) rfl (fun hc48 => ?_) (fun hc48 => ?_)
      · skip
        refine own_lload (pc' := 66) X5 hx (hb hby at_64) rfl rfl ?_
        refine own_lload (pc' := 68) X5 hx (hb hby at_66) rfl rfl ?_
        refine own_callS (pc' := 71) (W := 0) (y := (⟨"com/example/kent_ridge/kentridge/index/RegionEqualsPinLaw", "endFrom", "(JJ)J"⟩ : MethodName)) X5 hx hZ hown (own_w hw 5 rfl) (own_w hw 6 rfl) (own_w hw 2 rfl) (own_w hw 7 rfl) (by decide) (conN l Z a0 hw js p4 _ hjs) e5 pd3 [(.long js), (.long p4)] [] rfl rfl rfl (Nat.le_of_eq rfl) (by decide) (by decide) (by rw [hml]; rfl) (hb hby at_68) (by decide) (by decide) rfl ?_
        intro v6 T6 L6 X6 q6
        obtain ⟨r6, rfl, hr6, rfl, e6⟩ := q6
        have N6 := Fr.app N5 (Fr.nil n0)
        show own_WP _ _ _ _ _ _ _ (T6.setTop (mkF m 71 #[.val (.long p0), .second, .val (.long p1), .second, .val (.int p2), .val (.long p3), .second, .val (.long p4), .second, .val (.int p5), .val (.long r1), .second, .val (.long r2), .second, .val (.int r3), .val (.long js), .second, .unset, .unset, .unset, .unset, .unset, .unset, .unset] [(.long r6)]))
        exact J71 ⟨T6, r6⟩ ⟨X6, e6, hr6⟩
      · skip
        refine own_lload (pc' := 53) X5 hx (hb hby at_51) rfl rfl ?_
        refine own_lload (pc' := 55) X5 hx (hb hby at_53) rfl rfl ?_
        refine own_lcmp (pc' := 56) X5 hx (hb hby at_55) rfl ?_
        refine own_ifl_le (pt := 64) (pf := 59) X5 hx (hb hby at_56) rfl (by decide) rfl (fun hc56 => ?_) (fun hc56 => ?_)
        · skip
          refine own_lload (pc' := 66) X5 hx (hb hby at_64) rfl rfl ?_
          refine own_lload (pc' := 68) X5 hx (hb hby at_66) rfl rfl ?_
          refine own_callS (pc' := 71) (W := 0) (y := (⟨"com/example/kent_ridge/kentridge/index/RegionEqualsPinLaw", "endFrom", "(JJ)J"⟩ : MethodName)) X5 hx hZ hown (own_w hw 5 rfl) (own_w hw 6 rfl) (own_w hw 2 rfl) (own_w hw 7 rfl) (by decide) (conN l Z a0 hw js p4 _ hjs) e5 pd3 [(.long js), (.long p4)] [] rfl rfl rfl (Nat.le_of_eq rfl) (by decide) (by decide) (by rw [hml]; rfl) (hb hby at_68) (by decide) (by decide) rfl ?_
          intro v7 T7 L7 X7 q7
          obtain ⟨r7, rfl, hr7, rfl, e7⟩ := q7
          have N7 := Fr.app N5 (Fr.nil n0)
          show own_WP _ _ _ _ _ _ _ (T7.setTop (mkF m 71 #[.val (.long p0), .second, .val (.long p1), .second, .val (.int p2), .val (.long p3), .second, .val (.long p4), .second, .val (.int p5), .val (.long r1), .second, .val (.long r2), .second, .val (.int r3), .val (.long js), .second, .unset, .unset, .unset, .unset, .unset, .unset, .unset] [(.long r7)]))
          exact J71 ⟨T7, r7⟩ ⟨X7, e7, hr7⟩
        · skip
          refine own_lload (pc' := 61) X5 hx (hb hby at_59) rfl rfl ?_
          refine own_goto (pc' := 71) X5 hx (hb hby at_61) (by decide) rfl ?_
          exact J71 ⟨T5, r2⟩ ⟨X5, e5, hc56⟩
    · obtain ⟨T8, je⟩ := x
      obtain ⟨X8, e8, hje⟩ := hx71
      have hje : js < je := hje
      have e8 : T8.heap = h0 := e8
      have N8 := Fr.nil n0
      show own_WP _ _ _ _ _ _ _ (T8.setTop (mkF m 71 #[.val (.long p0), .second, .val (.long p1), .second, .val (.int p2), .val (.long p3), .second, .val (.long p4), .second, .val (.int p5), .val (.long r1), .second, .val (.long r2), .second, .val (.int r3), .val (.long js), .second, .unset, .unset, .unset, .unset, .unset, .unset, .unset] [(.long je)]))
      refine own_lstore (pc' := 73) (l' := #[.val (.long p0), .second, .val (.long p1), .second, .val (.int p2), .val (.long p3), .second, .val (.long p4), .second, .val (.int p5), .val (.long r1), .second, .val (.long r2), .second, .val (.int r3), .val (.long js), .second, .val (.long je), .second, .unset, .unset, .unset, .unset, .unset]) X8 hx (hb hby at_71) rfl rfl rfl ?_
      refine own_iload (pc' := 75) X8 hx (hb hby at_73) rfl rfl ?_
      refine own_iconst (pc' := 76) X8 hx (4 : Int32) (hb hby at_75) rfl rfl ?_
      refine own_iand (pc' := 77) X8 hx (hb hby at_76) rfl ?_
      refine own_join (fun x : State × Int32 => Stand p l e room_1 s m #[(.long p0), (.long p1), (.int p2), (.long p3), (.long p4), (.int p5)] below meth c x.1 [] 0 0 ∧ x.1.heap = h0 ∧ ¬ x.2 < (1 : Int32)) (fun x => x.1.setTop (mkF m 93 #[.val (.long p0), .second, .val (.long p1), .second, .val (.int p2), .val (.long p3), .second, .val (.long p4), .second, .val (.int p5), .val (.long r1), .second, .val (.long r2), .second, .val (.int r3), .val (.long js), .second, .val (.long je), .second, .unset, .unset, .unset, .unset, .unset] [(.int x.2)])) (fun J93 => ?_) (fun x hx93 => ?_)
      · skip
        refine own_if_eq (pt := 85) (pf := 80) X8 hx (hb hby at_77) rfl (by decide) rfl (fun hc77 => ?_) (fun hc77 => ?_)
        · skip
          refine own_iconst (pc' := 86) X8 hx (1 : Int32) (hb hby at_85) rfl rfl ?_
          refine own_iload (pc' := 88) X8 hx (hb hby at_86) rfl rfl ?_
          refine own_iconst (pc' := 89) X8 hx (5 : Int32) (hb hby at_88) rfl rfl ?_
          refine own_iushr (pc' := 90) X8 hx (hb hby at_89) rfl ?_
          refine own_callS (pc' := 93) (W := 0) (y := (⟨"java/lang/Math", "max", "(II)I"⟩ : MethodName)) X8 hx hZ hown (own_w hw 9 rfl) (own_w hw 10 rfl) (own_w hw 11 rfl) (own_w hw 12 rfl) (by decide) (conM l Z a0 hw (1 : Int32) ((p5.toUInt32 >>> ((5 : Int32) &&& 31).toUInt32).toInt32) _ ) e8 pd4 [(.int (1 : Int32)), (.int ((p5.toUInt32 >>> ((5 : Int32) &&& 31).toUInt32).toInt32))] [] rfl rfl rfl (Nat.le_of_eq rfl) (by decide) (by decide) (by rw [hml]; rfl) (hb hby at_90) (by decide) (by decide) rfl ?_
          intro v9 T9 L9 X9 q9
          obtain ⟨r9, rfl, hr9, rfl, e9⟩ := q9
          have N9 := Fr.app N8 (Fr.nil n0)
          show own_WP _ _ _ _ _ _ _ (T9.setTop (mkF m 93 #[.val (.long p0), .second, .val (.long p1), .second, .val (.int p2), .val (.long p3), .second, .val (.long p4), .second, .val (.int p5), .val (.long r1), .second, .val (.long r2), .second, .val (.int r3), .val (.long js), .second, .val (.long je), .second, .unset, .unset, .unset, .unset, .unset] [(.int r9)]))
          exact J93 ⟨T9, r9⟩ ⟨X9, e9, (by rw [hr9]; exact own_imax1 _)⟩
        · skip
          refine own_iload (pc' := 82) X8 hx (hb hby at_80) rfl rfl ?_
          refine own_goto (pc' := 93) X8 hx (hb hby at_82) (by decide) rfl ?_
          exact J93 ⟨T8, r3⟩ ⟨X8, e8, (by rw [hr3]; exact own_imax1 _)⟩
      · obtain ⟨T10, jl⟩ := x
        obtain ⟨X10, e10, hjl⟩ := hx93
        have hjl : ¬ jl < (1 : Int32) := hjl
        have e10 : T10.heap = h0 := e10
        have N10 := Fr.nil n0
        show own_WP _ _ _ _ _ _ _ (T10.setTop (mkF m 93 #[.val (.long p0), .second, .val (.long p1), .second, .val (.int p2), .val (.long p3), .second, .val (.long p4), .second, .val (.int p5), .val (.long r1), .second, .val (.long r2), .second, .val (.int r3), .val (.long js), .second, .val (.long je), .second, .unset, .unset, .unset, .unset, .unset] [(.int jl)]))
        refine own_istore (pc' := 95) (l' := #[.val (.long p0), .second, .val (.long p1), .second, .val (.int p2), .val (.long p3), .second, .val (.long p4), .second, .val (.int p5), .val (.long r1), .second, .val (.long r2), .second, .val (.int r3), .val (.long js), .second, .val (.long je), .second, .val (.int jl), .unset, .unset, .unset, .unset]) X10 hx (hb hby at_93) rfl rfl rfl ?_
        refine own_new (pc' := 98) X10 hx hZ hown (own_w hw 13 rfl) (own_w hw 14 rfl) (own_w hw 15 rfl) e10 (hb hby at_95) (by decide) (by decide) rfl ?_
        intro T11 h11 b11 g11 X11 e11 E11 A11 D11
        have g_b11 : n0 ≤ b11 := Nat.le_trans Z0 (Nat.le_of_eq g11.symm)
        have x11 : Ext h0 h11 := own_ext_trans (own_ext_refl h0) E11
        have z11 : n0 ≤ h11.size := Nat.le_trans Z0 E11.1
        have F11_start : Fld Z h11 b11 "com/example/kent_ridge/kentridge/index/Region" "start" "J" (.long (0 : Int64)) := D11 (Or.inr (own_w hw 23 rfl)) (ty := .long) (by decide)
        have F11_end : Fld Z h11 b11 "com/example/kent_ridge/kentridge/index/Region" "end" "J" (.long (0 : Int64)) := D11 (Or.inr (own_w hw 25 rfl)) (ty := .long) (by decide)
        have F11_level : Fld Z h11 b11 "com/example/kent_ridge/kentridge/index/Region" "level" "I" (.int (0 : Int32)) := D11 (Or.inr (own_w hw 27 rfl)) (ty := .int) (by decide)
        refine own_dup (pc' := 99) X11 hx (hb hby at_98) rfl rfl ?_
        refine own_lload (pc' := 101) X11 hx (hb hby at_99) rfl rfl ?_
        refine own_lload (pc' := 103) X11 hx (hb hby at_101) rfl rfl ?_
        refine own_iload (pc' := 105) X11 hx (hb hby at_103) rfl rfl ?_
        refine own_callN (pc' := 108) (W := 1) (y := (⟨"com/example/kent_ridge/kentridge/index/Region", "<init>", "(JJI)V"⟩ : MethodName)) X11 hx hZ rfl hown (own_w hw 16 rfl) (own_w hw 17 rfl) (own_w hw 15 rfl) (own_w hw 18 rfl) (by decide) (conI l Z a0 hw b11 r1 r2 r3 _ n0 z11 A11 F11_start F11_end F11_level g_b11 hr1.1 hr2 (by rw [hr3]; exact own_imax1 _)) e11 pd5 b11 [(.long r1), (.long r2), (.int r3)] [(.ref b11)] rfl rfl rfl (Nat.le_of_eq rfl) (by decide) (by decide) (by rw [hml]; rfl) (hb hby at_105) (by decide) (by decide) rfl ?_
        intro v12 T12 L12 X12 q12
        obtain ⟨rfl, M12, K12, E12q, F12_0, F12_1, F12_2⟩ := q12
        obtain ⟨h12, e12⟩ : ∃ z, z = T12.heap := ⟨_, rfl⟩
        rw [← e12] at K12 E12q F12_0 F12_1 F12_2
        have e12 := e12.symm
        have x12 : Ext h0 h12 := own_ext_keep x11 K12 (allS (Nat.le_trans hn0 g_b11) all0)
        have z12 : n0 ≤ h12.size := Nat.le_trans z11 K12.1
        have N12 := Fr.app N10 M12
        show own_WP _ _ _ _ _ _ _ (T12.setTop (mkF m 108 #[.val (.long p0), .second, .val (.long p1), .second, .val (.int p2), .val (.long p3), .second, .val (.long p4), .second, .val (.int p5), .val (.long r1), .second, .val (.long r2), .second, .val (.int r3), .val (.long js), .second, .val (.long je), .second, .val (.int jl), .unset, .unset, .unset, .unset] [(.ref b11)]))
        refine own_astore (pc' := 110) (l' := #[.val (.long p0), .second, .val (.long p1), .second, .val (.int p2), .val (.long p3), .second, .val (.long p4), .second, .val (.int p5), .val (.long r1), .second, .val (.long r2), .second, .val (.int r3), .val (.long js), .second, .val (.long je), .second, .val (.int jl), .val (.ref b11), .unset, .unset, .unset]) X12 hx (hb hby at_108) rfl rfl rfl ?_
        refine own_new (pc' := 113) X12 hx hZ hown (own_w hw 13 rfl) (own_w hw 14 rfl) (own_w hw 15 rfl) e12 (hb hby at_110) (by decide) (by decide) rfl ?_
        intro T13 h13 b13 g13 X13 e13 E13 A13 D13
        have ne_b11_b13 : b11 ≠ b13 := Nat.ne_of_lt (Nat.lt_of_lt_of_le E12q.lt (Nat.le_of_eq g13.symm))
        have ne_b13_b11 := ne_b11_b13.symm
        have g_b13 : n0 ≤ b13 := Nat.le_trans z12 (Nat.le_of_eq g13.symm)
        have x13 : Ext h0 h13 := own_ext_trans x12 E13
        have z13 : n0 ≤ h13.size := Nat.le_trans z12 E13.1
        have F13_start : Fld Z h13 b13 "com/example/kent_ridge/kentridge/index/Region" "start" "J" (.long (0 : Int64)) := D13 (Or.inr (own_w hw 23 rfl)) (ty := .long) (by decide)
        have F13_end : Fld Z h13 b13 "com/example/kent_ridge/kentridge/index/Region" "end" "J" (.long (0 : Int64)) := D13 (Or.inr (own_w hw 25 rfl)) (ty := .long) (by decide)
        have F13_level : Fld Z h13 b13 "com/example/kent_ridge/kentridge/index/Region" "level" "I" (.int (0 : Int32)) := D13 (Or.inr (own_w hw 27 rfl)) (ty := .int) (by decide)
        refine own_dup (pc' := 114) X13 hx (hb hby at_113) rfl rfl ?_
        refine own_lload (pc' := 116) X13 hx (hb hby at_114) rfl rfl ?_
        refine own_lload (pc' := 118) X13 hx (hb hby at_116) rfl rfl ?_
        refine own_iload (pc' := 120) X13 hx (hb hby at_118) rfl rfl ?_
        refine own_callN (pc' := 123) (W := 1) (y := (⟨"com/example/kent_ridge/kentridge/index/Region", "<init>", "(JJI)V"⟩ : MethodName)) X13 hx hZ rfl hown (own_w hw 16 rfl) (own_w hw 17 rfl) (own_w hw 15 rfl) (own_w hw 18 rfl) (by decide) (conI l Z a0 hw b13 js je jl _ n0 z13 A13 F13_start F13_end F13_level g_b13 hjs.1 hje hjl) e13 pd5 b13 [(.long js), (.long je), (.int jl)] [(.ref b13)] rfl rfl rfl (Nat.le_of_eq rfl) (by decide) (by decide) (by rw [hml]; rfl) (hb hby at_120) (by decide) (by decide) rfl ?_
        intro v14 T14 L14 X14 q14
        obtain ⟨rfl, M14, K14, E14q, F14_0, F14_1, F14_2⟩ := q14
        obtain ⟨h14, e14⟩ : ∃ z, z = T14.heap := ⟨_, rfl⟩
        rw [← e14] at K14 E14q F14_0 F14_1 F14_2
        have e14 := e14.symm
        have x14 : Ext h0 h14 := own_ext_keep x13 K14 (allS (Nat.le_trans hn0 g_b13) all0)
        have z14 : n0 ≤ h14.size := Nat.le_trans z13 K14.1
        have N14 := Fr.app N12 M14
        show own_WP _ _ _ _ _ _ _ (T14.setTop (mkF m 123 #[.val (.long p0), .second, .val (.long p1), .second, .val (.int p2), .val (.long p3), .second, .val (.long p4), .second, .val (.int p5), .val (.long r1), .second, .val (.long r2), .second, .val (.int r3), .val (.long js), .second, .val (.long je), .second, .val (.int jl), .val (.ref b11), .unset, .unset, .unset] [(.ref b13)]))
        refine own_astore (pc' := 125) (l' := #[.val (.long p0), .second, .val (.long p1), .second, .val (.int p2), .val (.long p3), .second, .val (.long p4), .second, .val (.int p5), .val (.long r1), .second, .val (.long r2), .second, .val (.int r3), .val (.long js), .second, .val (.long je), .second, .val (.int jl), .val (.ref b11), .val (.ref b13), .unset, .unset]) X14 hx (hb hby at_123) rfl rfl rfl ?_
        refine own_iload (pc' := 127) X14 hx (hb hby at_125) rfl rfl ?_
        refine own_iconst (pc' := 128) X14 hx (3 : Int32) (hb hby at_127) rfl rfl ?_
        refine own_iushr (pc' := 129) X14 hx (hb hby at_128) rfl ?_
        refine own_iconst (pc' := 130) X14 hx (3 : Int32) (hb hby at_129) rfl rfl ?_
        refine own_iand (pc' := 131) X14 hx (hb hby at_130) rfl ?_
        obtain ⟨v15, hv15⟩ : ∃ z : Int32, z = (((p5.toUInt32 >>> ((3 : Int32) &&& 31).toUInt32).toInt32) &&& (3 : Int32)) := ⟨_, rfl⟩
        refine own_istore (pc' := 133) (l' := #[.val (.long p0), .second, .val (.long p1), .second, .val (.int p2), .val (.long p3), .second, .val (.long p4), .second, .val (.int p5), .val (.long r1), .second, .val (.long r2), .second, .val (.int r3), .val (.long js), .second, .val (.long je), .second, .val (.int jl), .val (.ref b11), .val (.ref b13), .val (.int v15), .unset]) X14 hx (hb hby at_131) hv15 rfl rfl ?_
        refine own_iload (pc' := 135) X14 hx (hb hby at_133) rfl rfl ?_
        refine own_iconst (pc' := 136) X14 hx (1 : Int32) (hb hby at_135) rfl rfl ?_
        refine own_icmp_ne (pt := 147) (pf := 139) X14 hx (hb hby at_136) rfl (by decide) rfl (fun hc136 => ?_) (fun hc136 => ?_)
        · skip
          refine own_iload (pc' := 149) X14 hx (hb hby at_147) rfl rfl ?_
          refine own_iconst (pc' := 150) X14 hx (2 : Int32) (hb hby at_149) rfl rfl ?_
          refine own_icmp_ne (pt := 168) (pf := 153) X14 hx (hb hby at_150) rfl (by decide) rfl (fun hc150 => ?_) (fun hc150 => ?_)
          · skip
            refine own_iload (pc' := 170) X14 hx (hb hby at_168) rfl rfl ?_
            refine own_iconst (pc' := 171) X14 hx (3 : Int32) (hb hby at_170) rfl rfl ?_
            refine own_icmp_ne (pt := 193) (pf := 174) X14 hx (hb hby at_171) rfl (by decide) rfl (fun hc171 => ?_) (fun hc171 => ?_)
            · skip
              refine own_lload (pc' := 195) X14 hx (hb hby at_193) rfl rfl ?_
              refine own_lload (pc' := 197) X14 hx (hb hby at_195) rfl rfl ?_
              refine own_lcmp (pc' := 198) X14 hx (hb hby at_197) rfl ?_
              refine own_join (fun jx : Int32 => jx = own_b (r1 = js ∧ r2 = je ∧ r3 = jl)) (fun jx => T14.setTop (mkF m 221 #[.val (.long p0), .second, .val (.long p1), .second, .val (.int p2), .val (.long p3), .second, .val (.long p4), .second, .val (.int p5), .val (.long r1), .second, .val (.long r2), .second, .val (.int r3), .val (.long js), .second, .val (.long je), .second, .val (.int jl), .val (.ref b11), .val (.ref b13), .val (.int v15), .unset] [(.int jx)])) (fun J221 => ?_) (fun jx hjx => ?_)
              · skip
                refine own_ifl_ne (pt := 220) (pf := 201) X14 hx (hb hby at_198) rfl (by decide) rfl (fun hc198 => ?_) (fun hc198 => ?_)
                · skip
                  refine own_iconst (pc' := 221) X14 hx (0 : Int32) (hb hby at_220) rfl rfl ?_
                  exact J221 (0 : Int32) (by simp [own_b, hc198])
                · skip
                  refine own_lload (pc' := 203) X14 hx (hb hby at_201) rfl rfl ?_
                  refine own_lload (pc' := 205) X14 hx (hb hby at_203) rfl rfl ?_
                  refine own_lcmp (pc' := 206) X14 hx (hb hby at_205) rfl ?_
                  refine own_ifl_ne (pt := 220) (pf := 209) X14 hx (hb hby at_206) rfl (by decide) rfl (fun hc206 => ?_) (fun hc206 => ?_)
                  · skip
                    refine own_iconst (pc' := 221) X14 hx (0 : Int32) (hb hby at_220) rfl rfl ?_
                    exact J221 (0 : Int32) (by simp [own_b, hc198, hc206])
                  · skip
                    refine own_iload (pc' := 211) X14 hx (hb hby at_209) rfl rfl ?_
                    refine own_iload (pc' := 213) X14 hx (hb hby at_211) rfl rfl ?_
                    refine own_icmp_ne (pt := 220) (pf := 216) X14 hx (hb hby at_213) rfl (by decide) rfl (fun hc213 => ?_) (fun hc213 => ?_)
                    · skip
                      refine own_iconst (pc' := 221) X14 hx (0 : Int32) (hb hby at_220) rfl rfl ?_
                      exact J221 (0 : Int32) (by simp [own_b, hc198, hc206, hc213])
                    · skip
                      refine own_iconst (pc' := 217) X14 hx (1 : Int32) (hb hby at_216) rfl rfl ?_
                      refine own_goto (pc' := 221) X14 hx (hb hby at_217) (by decide) rfl ?_
                      exact J221 (1 : Int32) (by simp [own_b, hc198, hc206, hc213])
              · skip
                show own_WP _ _ _ _ _ _ _ (T14.setTop (mkF m 221 #[.val (.long p0), .second, .val (.long p1), .second, .val (.int p2), .val (.long p3), .second, .val (.long p4), .second, .val (.int p5), .val (.long r1), .second, .val (.long r2), .second, .val (.int r3), .val (.long js), .second, .val (.long je), .second, .val (.int jl), .val (.ref b11), .val (.ref b13), .val (.int v15), .unset] [(.int jx)]))
                refine own_istore (pc' := 223) (l' := #[.val (.long p0), .second, .val (.long p1), .second, .val (.int p2), .val (.long p3), .second, .val (.long p4), .second, .val (.int p5), .val (.long r1), .second, .val (.long r2), .second, .val (.int r3), .val (.long js), .second, .val (.long je), .second, .val (.int jl), .val (.ref b11), .val (.ref b13), .val (.int v15), .val (.int jx)]) X14 hx (hb hby at_221) rfl rfl rfl ?_
                refine own_aload (pc' := 225) X14 hx (hb hby at_223) rfl rfl rfl ?_
                refine own_aload (pc' := 227) X14 hx (hb hby at_225) rfl rfl rfl ?_
                have f17 := ((E12q.ext E13).keep K14)
                have f18 := ((F12_0.ext E13).keep K14 (ninS ne_b11_b13 nin0))
                have f19 := ((F12_1.ext E13).keep K14 (ninS ne_b11_b13 nin0))
                have f20 := ((F12_2.ext E13).keep K14 (ninS ne_b11_b13 nin0))
                refine own_callV (pc' := 230) (W := 0) (y := (⟨"com/example/kent_ridge/kentridge/index/Region", "equals", "(Ljava/lang/Object;)Z"⟩ : MethodName)) (z := (⟨"com/example/kent_ridge/kentridge/index/Region", "equals", "(Ljava/lang/Object;)Z"⟩ : MethodName)) X14 hx hZ hown (own_w hw 28 rfl) (own_w hw 29 rfl) (notFace_of_selects (args := #[]) (mvT hZ (own_w hw 31 rfl))) (own_w hw 31 rfl) (own_w hw 30 rfl) (own_w hw 15 rfl) (own_w hw 32 rfl) (by decide) f17 (conE l Z a0 hw b11 b13 _ r1 r2 js je r3 jl ne_b11_b13 E14q f18 f19 f20 F14_0 F14_1 F14_2) e14 pd6 [(.ref b13)] [] rfl rfl rfl (Nat.le_of_eq rfl) (by decide) (by decide) (by rw [hml]; rfl) (hb hby at_227) (by decide) (by decide) rfl ?_
                intro v16 T16 L16 X16 q16
                obtain ⟨r16, rfl, hr16, rfl, e16⟩ := q16
                have N16 := Fr.app N14 (Fr.nil n0)
                show own_WP _ _ _ _ _ _ _ (T16.setTop (mkF m 230 #[.val (.long p0), .second, .val (.long p1), .second, .val (.int p2), .val (.long p3), .second, .val (.long p4), .second, .val (.int p5), .val (.long r1), .second, .val (.long r2), .second, .val (.int r3), .val (.long js), .second, .val (.long je), .second, .val (.int jl), .val (.ref b11), .val (.ref b13), .val (.int v15), .val (.int jx)] [(.int r16)]))
                refine own_iload (pc' := 232) X16 hx (hb hby at_230) rfl rfl ?_
                refine own_icmp_ne (pt := 251) (pf := 235) X16 hx (hb hby at_232) rfl (by decide) rfl (fun hc232 => absurd (by rw [hr16, hjx]) hc232) (fun hc232 => ?_)
                refine own_aload (pc' := 237) X16 hx (hb hby at_235) rfl rfl rfl ?_
                refine own_aload (pc' := 239) X16 hx (hb hby at_237) rfl rfl rfl ?_
                refine own_callV (pc' := 242) (W := 0) (y := (⟨"com/example/kent_ridge/kentridge/index/Region", "equals", "(Ljava/lang/Object;)Z"⟩ : MethodName)) (z := (⟨"com/example/kent_ridge/kentridge/index/Region", "equals", "(Ljava/lang/Object;)Z"⟩ : MethodName)) X16 hx hZ hown (own_w hw 28 rfl) (own_w hw 29 rfl) (notFace_of_selects (args := #[]) (mvT hZ (own_w hw 31 rfl))) (own_w hw 31 rfl) (own_w hw 30 rfl) (own_w hw 15 rfl) (own_w hw 32 rfl) (by decide) E14q (conE l Z a0 hw b13 b11 _ js je r1 r2 jl r3 ne_b13_b11 f17 F14_0 F14_1 F14_2 f18 f19 f20) e16 pd6 [(.ref b11)] [] rfl rfl rfl (Nat.le_of_eq rfl) (by decide) (by decide) (by rw [hml]; rfl) (hb hby at_239) (by decide) (by decide) rfl ?_
                intro v21 T21 L21 X21 q21
                obtain ⟨r21, rfl, hr21, rfl, e21⟩ := q21
                have N21 := Fr.app N16 (Fr.nil n0)
                show own_WP _ _ _ _ _ _ _ (T21.setTop (mkF m 242 #[.val (.long p0), .second, .val (.long p1), .second, .val (.int p2), .val (.long p3), .second, .val (.long p4), .second, .val (.int p5), .val (.long r1), .second, .val (.long r2), .second, .val (.int r3), .val (.long js), .second, .val (.long je), .second, .val (.int jl), .val (.ref b11), .val (.ref b13), .val (.int v15), .val (.int jx)] [(.int r21)]))
                refine own_iload (pc' := 244) X21 hx (hb hby at_242) rfl rfl ?_
                refine own_icmp_ne (pt := 251) (pf := 247) X21 hx (hb hby at_244) rfl (by decide) rfl (fun hc244 => absurd (by rw [hr21, hjx]; exact own_b_swap3 _ _ _ _ _ _) hc244) (fun hc244 => ?_)
                refine own_iconst (pc' := 248) X21 hx (1 : Int32) (hb hby at_247) rfl rfl ?_
                refine own_goto (pc' := 252) X21 hx (hb hby at_248) (by decide) rfl ?_
                refine own_retN X21 hx hlk (t := .boolean) (by decide) hret (hb hby at_252) (by decide) (by decide) ?_
                exact ⟨rfl, N21⟩
            · skip
              refine own_aload (pc' := 176) X14 hx (hb hby at_174) rfl rfl rfl ?_
              refine own_lload (pc' := 178) X14 hx (hb hby at_176) rfl rfl ?_
              refine own_callS (pc' := 181) (W := 1) (y := (⟨"java/lang/Long", "valueOf", "(J)Ljava/lang/Long;"⟩ : MethodName)) X14 hx hZ hown (own_w hw 35 rfl) (own_w hw 36 rfl) (own_w hw 37 rfl) (own_w hw 38 rfl) (by decide) (conLongV l Z a0 hw r1 _ n0 z14 _ _ (own_Cache_ext hcaJ x14)) e14 pd7 [(.long r1)] [(.ref b11)] rfl rfl rfl (Nat.le_of_eq rfl) (by decide) (by decide) (by rw [hml]; rfl) (hb hby at_178) (by decide) (by decide) rfl ?_
              intro v22 T22 L22 X22 q22
              obtain ⟨c22, rfl, M22, K22, E22q⟩ := q22
              obtain ⟨h22, e22⟩ : ∃ z, z = T22.heap := ⟨_, rfl⟩
              rw [← e22] at K22 E22q
              have e22 := e22.symm
              have x22 : Ext h0 h22 := own_ext_keep x14 K22 all0
              have z22 : n0 ≤ h22.size := Nat.le_trans z14 K22.1
              have N22 := Fr.app N14 M22
              show own_WP _ _ _ _ _ _ _ (T22.setTop (mkF m 181 #[.val (.long p0), .second, .val (.long p1), .second, .val (.int p2), .val (.long p3), .second, .val (.long p4), .second, .val (.int p5), .val (.long r1), .second, .val (.long r2), .second, .val (.int r3), .val (.long js), .second, .val (.long je), .second, .val (.int jl), .val (.ref b11), .val (.ref b13), .val (.int v15), .unset] [(.ref c22), (.ref b11)]))
              have f24 := (((E12q.ext E13).keep K14).keep K22)
              refine own_callV (pc' := 184) (W := 0) (y := (⟨"com/example/kent_ridge/kentridge/index/Region", "equals", "(Ljava/lang/Object;)Z"⟩ : MethodName)) (z := (⟨"com/example/kent_ridge/kentridge/index/Region", "equals", "(Ljava/lang/Object;)Z"⟩ : MethodName)) X22 hx hZ hown (own_w hw 28 rfl) (own_w hw 29 rfl) (notFace_of_selects (args := #[]) (mvT hZ (own_w hw 31 rfl))) (own_w hw 31 rfl) (own_w hw 30 rfl) (own_w hw 15 rfl) (own_w hw 32 rfl) (by decide) f24 (conED l Z a0 hw b11 c22 _ (ne_exa f24 E22q (by decide)) "java/lang/Long" E22q (own_no Z a0 hw)) e22 pd6 [(.ref c22)] [] rfl rfl rfl (Nat.le_of_eq rfl) (by decide) (by decide) (by rw [hml]; rfl) (hb hby at_181) (by decide) (by decide) rfl ?_
              intro v23 T23 L23 X23 q23
              obtain ⟨r23, rfl, hr23, rfl, e23⟩ := q23
              have N23 := Fr.app N22 (Fr.nil n0)
              show own_WP _ _ _ _ _ _ _ (T23.setTop (mkF m 184 #[.val (.long p0), .second, .val (.long p1), .second, .val (.int p2), .val (.long p3), .second, .val (.long p4), .second, .val (.int p5), .val (.long r1), .second, .val (.long r2), .second, .val (.int r3), .val (.long js), .second, .val (.long je), .second, .val (.int jl), .val (.ref b11), .val (.ref b13), .val (.int v15), .unset] [(.int r23)]))
              refine own_if_ne (pt := 191) (pf := 187) X23 hx (hb hby at_184) rfl (by decide) rfl (fun hc184 => absurd (hr23) hc184) (fun hc184 => ?_)
              refine own_iconst (pc' := 188) X23 hx (1 : Int32) (hb hby at_187) rfl rfl ?_
              refine own_goto (pc' := 192) X23 hx (hb hby at_188) (by decide) rfl ?_
              refine own_retN X23 hx hlk (t := .boolean) (by decide) hret (hb hby at_192) (by decide) (by decide) ?_
              exact ⟨rfl, N23⟩
          · skip
            refine own_aload (pc' := 155) X14 hx (hb hby at_153) rfl rfl rfl ?_
            refine own_anull (pc' := 156) X14 hx (hb hby at_155) rfl ?_
            have f26 := ((E12q.ext E13).keep K14)
            refine own_callV (pc' := 159) (W := 0) (y := (⟨"com/example/kent_ridge/kentridge/index/Region", "equals", "(Ljava/lang/Object;)Z"⟩ : MethodName)) (z := (⟨"com/example/kent_ridge/kentridge/index/Region", "equals", "(Ljava/lang/Object;)Z"⟩ : MethodName)) X14 hx hZ hown (own_w hw 28 rfl) (own_w hw 29 rfl) (notFace_of_selects (args := #[]) (mvT hZ (own_w hw 31 rfl))) (own_w hw 31 rfl) (own_w hw 30 rfl) (own_w hw 15 rfl) (own_w hw 32 rfl) (by decide) f26 (conE0 l Z a0 hw b11 _ ) e14 pd6 [.null] [] rfl rfl rfl (Nat.le_of_eq rfl) (by decide) (by decide) (by rw [hml]; rfl) (hb hby at_156) (by decide) (by decide) rfl ?_
            intro v25 T25 L25 X25 q25
            obtain ⟨r25, rfl, hr25, rfl, e25⟩ := q25
            have N25 := Fr.app N14 (Fr.nil n0)
            show own_WP _ _ _ _ _ _ _ (T25.setTop (mkF m 159 #[.val (.long p0), .second, .val (.long p1), .second, .val (.int p2), .val (.long p3), .second, .val (.long p4), .second, .val (.int p5), .val (.long r1), .second, .val (.long r2), .second, .val (.int r3), .val (.long js), .second, .val (.long je), .second, .val (.int jl), .val (.ref b11), .val (.ref b13), .val (.int v15), .unset] [(.int r25)]))
            refine own_if_ne (pt := 166) (pf := 162) X25 hx (hb hby at_159) rfl (by decide) rfl (fun hc159 => absurd (hr25) hc159) (fun hc159 => ?_)
            refine own_iconst (pc' := 163) X25 hx (1 : Int32) (hb hby at_162) rfl rfl ?_
            refine own_goto (pc' := 167) X25 hx (hb hby at_163) (by decide) rfl ?_
            refine own_retN X25 hx hlk (t := .boolean) (by decide) hret (hb hby at_167) (by decide) (by decide) ?_
            exact ⟨rfl, N25⟩
        · skip
          refine own_aload (pc' := 141) X14 hx (hb hby at_139) rfl rfl rfl ?_
          refine own_aload (pc' := 143) X14 hx (hb hby at_141) rfl rfl rfl ?_
          have f28 := ((E12q.ext E13).keep K14)
          refine own_callV (pc' := 146) (W := 0) (y := (⟨"com/example/kent_ridge/kentridge/index/Region", "equals", "(Ljava/lang/Object;)Z"⟩ : MethodName)) (z := (⟨"com/example/kent_ridge/kentridge/index/Region", "equals", "(Ljava/lang/Object;)Z"⟩ : MethodName)) X14 hx hZ hown (own_w hw 28 rfl) (own_w hw 29 rfl) (notFace_of_selects (args := #[]) (mvT hZ (own_w hw 31 rfl))) (own_w hw 31 rfl) (own_w hw 30 rfl) (own_w hw 15 rfl) (own_w hw 32 rfl) (by decide) f28 (conES l Z a0 hw b11 _ ) e14 pd6 [(.ref b11)] [] rfl rfl rfl (Nat.le_of_eq rfl) (by decide) (by decide) (by rw [hml]; rfl) (hb hby at_143) (by decide) (by decide) rfl ?_
          intro v27 T27 L27 X27 q27
          obtain ⟨r27, rfl, hr27, rfl, e27⟩ := q27
          have N27 := Fr.app N14 (Fr.nil n0)
          show own_WP _ _ _ _ _ _ _ (T27.setTop (mkF m 146 #[.val (.long p0), .second, .val (.long p1), .second, .val (.int p2), .val (.long p3), .second, .val (.long p4), .second, .val (.int p5), .val (.long r1), .second, .val (.long r2), .second, .val (.int r3), .val (.long js), .second, .val (.long je), .second, .val (.int jl), .val (.ref b11), .val (.ref b13), .val (.int v15), .unset] [(.int r27)]))
          refine own_retN X27 hx hlk (t := .boolean) (by decide) hret (hb hby at_146) (by decide) (by decide) ?_
          exact ⟨by rw [hr27]; rfl, N27⟩
set_option maxRecDepth 65536 in
set_option maxHeartbeats 4000000 in
theorem comes_1 {Post : Tables → Env → Array Value → Jvm.State → Outcome → Jvm.State → Prop} (hpost : ∀ tb e args s v u, (limb_1_1.after args s (.returned v) u = true ∧ limb_1_2.after args s (.returned v) u = true ∧ True) → FrameEnd s (.returned v) u (Jvm.fieldLocs frame_1_writes args s ++ Jvm.arrayLocs frame_1_arrays args s ++ Jvm.staticLocs frame_1_statics s) 16 128 → Post tb e args s (.returned v) u) :
    ArmFor flags0 classFile x code maxLocals ret World_1 tables_1 room_1 Calls_1 rest_1 Pre_1 Post := by
  intro l hfl _ _ p e ha hc hk s m args below hf hA hF happ hP
  obtain ⟨hcalls, hrest, hpre⟩ := hP
  obtain ⟨-, -, -, hnamed, -, -, -, hat⟩ := (Spec.applies_iff hf).mp happ
  obtain ⟨hg, hn⟩ := and_e (Cond.before_iff.mp (show (Jvm.Cond.and given_1 narrow_1).before args s = true from hpre))
  obtain ⟨u1, u2⟩ := and_e hg
  obtain ⟨u3, u4⟩ := and_e u2
  obtain ⟨u5, u6⟩ := and_e u4
  obtain ⟨u7, u8⟩ := and_e u6
  obtain ⟨u9, u10⟩ := and_e u8
  obtain ⟨u11, u12⟩ := and_e u10
  obtain ⟨w0, w1, w2, w3, w4, w5, rfl⟩ : ∃ w0 w1 w2 w3 w4 w5 : Value, args = #[w0, w1, w2, w3, w4, w5] := by
    have hs : args.size = 6 := by simpa [Cond.value, given_1] using u1
    obtain ⟨L⟩ := args
    match L, hs with
    | [w0, w1, w2, w3, w4, w5], _ => exact ⟨w0, w1, w2, w3, w4, w5, rfl⟩
  have hw := fun d (hd : d ∈ tables_1) => atoms_spec (ws := Jvm.Cond.code x code maxLocals ret :: tables_1) hat d (List.mem_cons_of_mem _ hd)
  have hfit : Fit s := fun {y c} hc i hi => by
    obtain ⟨ha, rfl⟩ := Array.getElem?_eq_some_iff.mp hc
    have q := List.all_eq_true.mp ((Array.all_eq_true_iff_forall_mem.mp hF) _ (Array.getElem_mem ha)) i (List.mem_range.mpr hi)
    simpa [Array.getElem?_eq_getElem hi] using q
  obtain ⟨hsets, hown0⟩ := atoms_of _ (rest_1_c_eq ▸ (show rest_1_c.before _ s = true from hrest))
  have hr0 := Cond.before_iff.mp hown0
  obtain ⟨i0, ei0⟩ := isL_v u3
  obtain rfl : w0 = (.long i0) := Option.some.inj ei0
  obtain ⟨i1, ei1⟩ := isL_v u5
  obtain rfl : w1 = (.long i1) := Option.some.inj ei1
  obtain ⟨i2, ei2⟩ := is_v u7
  obtain rfl : w2 = (.int i2) := Option.some.inj ei2
  obtain ⟨i3, ei3⟩ := isL_v u9
  obtain rfl : w3 = (.long i3) := Option.some.inj ei3
  obtain ⟨i4, ei4⟩ := isL_v u11
  obtain rfl : w4 = (.long i4) := Option.some.inj ei4
  obtain ⟨i5, ei5⟩ := is_v u12
  obtain rfl : w5 = (.int i5) := Option.some.inj ei5
  obtain ⟨caJ, clJ, hcaJ⟩ := own_cache (s := s) (Or.inr ⟨(own_w hw 61 rfl), (hsets _ (List.mem_of_getElem? (i := 0) rfl))⟩) (hsets _ (List.mem_of_getElem? (i := 2) rfl)) (hsets _ (List.mem_of_getElem? (i := 4) rfl)) (hsets _ (List.mem_of_getElem? (i := 5) rfl))
  obtain ⟨n, o, h1, h2, h3, _, L, rfl, ⟨rfl, N⟩, hq⟩ := con0 l s _ hw i0 i1 i2 i3 i4 i5 s.heap s.heap.size (Nat.le_refl _) caJ clJ hcaJ (Nat.le_refl _) tables_1 p e ha hc hk s m _ below hf ((Spec.applies_iff_loose hf).mp happ).1 ⟨rfl, State.Warmed39.refl s, rfl⟩ trivial
  refine ⟨n, _, h1, h2, h3, hpost _ _ _ _ _ _ ⟨Cond.after_iff.mpr rfl, Cond.after_iff.mpr (eq_i res_at (Term.int_eval (1)) rfl), trivial⟩ ⟨hq.1, hq.2.1, (hq.2.2.sift fun y hy => Or.inr (N y hy)).mono (by decide) (by decide)⟩⟩
theorem main_1_1 : Claimed_1_1 := comes_1 fun _ _ _ _ _ _ h hF => ⟨h.1, hF⟩
theorem main_1_2 : Claimed_1_2 := comes_1 fun _ _ _ _ _ _ h hF => ⟨h.2.1, hF⟩
end Jvm.Pilot.@@N@@
namespace Jvm.Pilot.@@N@@
open Jvm Jvm.ClassFile Sem Op Lib Jvm.Free Jvm.Stand Jvm.Pilot.@@N@@.Jvm.D
/-! MADE BY PROGRAM (witnessworld.py) out of the Statement's table words and the real class files: 17 classes; the members and pool entries that the words name. The judged class is class 1, her method 3. -/
namespace start1
open Jvm.ClassFile
def u (s : String) : CpInfo := .utf8 (stringToUtf16 s)
/-- a pool by its gaps: so many unusable entries, then the entry; so many at the end -/
def gap : Nat → List CpInfo → List CpInfo
  | 0, r => r
  | n + 1, r => .unusable :: gap n r
def poolList (es : List (Nat × CpInfo)) (last : Nat) : List CpInfo := es.foldr (fun e r => gap e.1 (e.2 :: r)) (gap last [])
def pool (es : List (Nat × CpInfo)) (last : Nat) : Array CpInfo := ⟨poolList es last⟩
def fileOf (pool : Array CpInfo) (this : Nat) (attrs : Array Attribute := #[]) (ms : Array MethodInfo := #[]) (fl : Nat := 33) (sup : Nat := 0) (ifs : Array Nat := #[]) (fds : Array FieldInfo := #[]) : ClassFile where
  minorVersion := 0
  majorVersion := 65
  constantPool := pool
  accessFlags := fl
  thisClass := this
  superClass := sup
  interfaces := ifs
  fields := fds
  methods := ms
  attributes := attrs
def plain (name : String) (sup : Option ClassId) : Class where
  name := name
  kind := .ordinary
  loader := none
  accessFlags := 33
  super := sup
  interfaces := #[]
  cf := none
  fields := #[]
  methods := #[]
  instanceTypes := #[]
  staticTypes := #[]
  resolved := #[]
  callSites := []
  init := .initialized
  statics := none
  mirror := none

def pool0 : Array CpInfo := pool [(5, u "<init>"), (0, u "()V"), (1, .class_ 10), (1, u "java/lang/Object")] 113

def k0c0 : Code := { maxStack := 0, maxLocals := 1, code := object_method_1_code, exceptionTable := #[], attributes := #[] }
def k0m0 : Method := { name := "<init>", desc := "()V", sig := { parameters := [], returnType := none }, accessFlags := 1, code := some k0c0 }
/-- java/lang/Object -/
def k0 : Class := { plain "java/lang/Object" none with
  accessFlags := 33
  interfaces := #[]
  cf := some (fileOf pool0 8 #[] #[{ accessFlags := 1, nameIndex := 5, descriptorIndex := 6, attributes := #[] }] 33 0 #[] #[])
  fields := #[]
  methods := #[k0m0]
  instanceTypes := #[]
  staticTypes := #[]
  resolved := Array.replicate 124 none
  statics := none }

def pool1 : Array CpInfo := pool [(2, .class_ 4), (1, u "java/lang/Object"), (0, u "<init>"), (0, u "()V"), (0, .class_ 8), (0, u "java/lang/Long"), (0, .long 9223372036854775807), (1, .long 9223372036854775806), (1, .methodref 14 15), (0, .class_ 16), (0, .nameAndType 17 18), (0, u "com/example/kent_ridge/kentridge/index/RegionEqualsPinLaw"), (0, u "startFrom"), (0, u "(J)J"), (0, .methodref 14 20), (0, .nameAndType 21 22), (0, u "endFrom"), (0, u "(JJ)J"), (2, .integer 2147483647), (0, .methodref 27 28), (0, .class_ 29), (0, .nameAndType 30 31), (0, u "java/lang/Math"), (0, u "max"), (0, u "(II)I"), (0, .class_ 33), (0, u "com/example/kent_ridge/kentridge/index/Region"), (0, .methodref 32 35), (0, .nameAndType 5 36), (0, u "(JJI)V"), (0, .methodref 32 38), (0, .nameAndType 39 40), (0, u "equals"), (0, u "(Ljava/lang/Object;)Z"), (0, .methodref 7 42), (0, .nameAndType 43 44), (0, u "valueOf"), (0, u "(J)Ljava/lang/Long;"), (3, u "law"), (0, u "(JJIJJI)Z")] 2

def k1m0 : Method := { name := "<init>", desc := "()V", sig := { parameters := [], returnType := none }, accessFlags := 1, code := none }
def k1c1 : Code := { maxStack := 4, maxLocals := 4, code := method_2_code, exceptionTable := #[], attributes := #[] }
def k1m1 : Method := { name := "startFrom", desc := "(J)J", sig := { parameters := [.long], returnType := some .long }, accessFlags := 10, code := some k1c1 }
def k1c2 : Code := { maxStack := 8, maxLocals := 4, code := method_3_code, exceptionTable := #[], attributes := #[] }
def k1m2 : Method := { name := "endFrom", desc := "(JJ)J", sig := { parameters := [.long, .long], returnType := some .long }, accessFlags := 10, code := some k1c2 }
def k1c3 : Code := { maxStack := 7, maxLocals := 24, code := code, exceptionTable := #[], attributes := #[] }
def k1m3 : Method := { name := "law", desc := "(JJIJJI)Z", sig := { parameters := [.long, .long, .int, .long, .long, .int], returnType := some .boolean }, accessFlags := 9, code := some k1c3 }
/-- com/example/kent_ridge/kentridge/index/RegionEqualsPinLaw -/
def k1 : Class := { plain "com/example/kent_ridge/kentridge/index/RegionEqualsPinLaw" (some 0) with
  accessFlags := 49
  interfaces := #[]
  cf := some (fileOf pool1 14 #[] #[{ accessFlags := 1, nameIndex := 5, descriptorIndex := 6, attributes := #[] }, { accessFlags := 10, nameIndex := 17, descriptorIndex := 18, attributes := #[] }, { accessFlags := 10, nameIndex := 21, descriptorIndex := 22, attributes := #[] }, { accessFlags := 9, nameIndex := 48, descriptorIndex := 49, attributes := #[] }] 49 2 #[] #[])
  fields := #[]
  methods := #[k1m0, k1m1, k1m2, k1m3]
  instanceTypes := #[]
  staticTypes := #[]
  resolved := Array.replicate 52 none
  statics := none }

def pool2 : Array CpInfo := pool [(1, .class_ 2), (0, u "java/lang/Math"), (1, .class_ 6), (1, u "java/lang/Object"), (0, u "<init>"), (0, u "()V"), (89, .class_ 100), (1, u "java/lang/Math$RandomNumberGeneratorHolder"), (71, u "negativeZeroFloatBits"), (0, u "J"), (2, u "negativeZeroDoubleBits"), (21, u "max"), (46, u "$assertionsDisabled"), (0, u "Z"), (88, u "(II)I"), (2, u "twoToTheDoubleScaleDown"), (0, u "D"), (4, u "twoToTheDoubleScaleUp"), (9, u "E"), (3, u "PI"), (2, u "TAU"), (2, u "DEGREES_TO_RADIANS"), (0, u "RADIANS_TO_DEGREES")] 94

def k2m0 : Method := { name := "<init>", desc := "()V", sig := { parameters := [], returnType := none }, accessFlags := 2, code := none }
def k2c1 : Code := { maxStack := 2, maxLocals := 2, code := jdk_29_method_65_code, exceptionTable := #[], attributes := #[] }
def k2m1 : Method := { name := "max", desc := "(II)I", sig := { parameters := [.int, .int], returnType := some .int }, accessFlags := 9, code := some k2c1 }
/-- java/lang/Math -/
def k2 : Class := { plain "java/lang/Math" (some 0) with
  accessFlags := 49
  interfaces := #[]
  cf := some (fileOf pool2 1 #[.nestMembers #[98]] #[{ accessFlags := 2, nameIndex := 7, descriptorIndex := 8, attributes := #[] }, { accessFlags := 9, nameIndex := 198, descriptorIndex := 335, attributes := #[] }] 49 4 #[] #[{ accessFlags := 25, nameIndex := 354, descriptorIndex := 339, attributes := #[] }, { accessFlags := 25, nameIndex := 358, descriptorIndex := 339, attributes := #[] }, { accessFlags := 25, nameIndex := 361, descriptorIndex := 339, attributes := #[] }, { accessFlags := 26, nameIndex := 364, descriptorIndex := 339, attributes := #[] }, { accessFlags := 26, nameIndex := 365, descriptorIndex := 339, attributes := #[] }, { accessFlags := 26, nameIndex := 172, descriptorIndex := 173, attributes := #[] }, { accessFlags := 26, nameIndex := 176, descriptorIndex := 173, attributes := #[] }, { accessFlags := 8, nameIndex := 344, descriptorIndex := 339, attributes := #[] }, { accessFlags := 8, nameIndex := 338, descriptorIndex := 339, attributes := #[] }, { accessFlags := 4120, nameIndex := 245, descriptorIndex := 246, attributes := #[] }])
  fields := #[{ name := "E", type := .double, accessFlags := 25, slot := 0, constantValue := 0 }, { name := "PI", type := .double, accessFlags := 25, slot := 1, constantValue := 0 }, { name := "TAU", type := .double, accessFlags := 25, slot := 2, constantValue := 0 }, { name := "DEGREES_TO_RADIANS", type := .double, accessFlags := 26, slot := 3, constantValue := 0 }, { name := "RADIANS_TO_DEGREES", type := .double, accessFlags := 26, slot := 4, constantValue := 0 }, { name := "negativeZeroFloatBits", type := .long, accessFlags := 26, slot := 5, constantValue := 0 }, { name := "negativeZeroDoubleBits", type := .long, accessFlags := 26, slot := 6, constantValue := 0 }, { name := "twoToTheDoubleScaleUp", type := .double, accessFlags := 8, slot := 7, constantValue := 0 }, { name := "twoToTheDoubleScaleDown", type := .double, accessFlags := 8, slot := 8, constantValue := 0 }, { name := "$assertionsDisabled", type := .boolean, accessFlags := 4120, slot := 9, constantValue := 0 }]
  methods := #[k2m0, k2m1]
  instanceTypes := #[]
  staticTypes := #[.double, .double, .double, .double, .double, .long, .long, .double, .double, .boolean]
  resolved := Array.replicate 460 none
  statics := none }

def pool3 : Array CpInfo := pool [(1, .class_ 2), (0, u "java/lang/Comparable"), (0, .class_ 4), (0, u "java/lang/Object")] 7

/-- java/lang/Comparable -/
def k3 : Class := { plain "java/lang/Comparable" (some 0) with
  accessFlags := 1537
  interfaces := #[]
  cf := some (fileOf pool3 1 #[] #[] 1537 3 #[] #[])
  fields := #[]
  methods := #[]
  instanceTypes := #[]
  staticTypes := #[]
  resolved := Array.replicate 12 none
  statics := none }

def pool4 : Array CpInfo := pool [(1, .methodref 2 3), (0, .class_ 4), (0, .nameAndType 5 6), (0, u "java/lang/Object"), (0, u "<init>"), (0, u "()V"), (12, .fieldref 20 21), (0, .class_ 22), (0, .nameAndType 23 24), (0, u "com/example/kent_ridge/kentridge/index/Region"), (0, u "start"), (0, u "J"), (0, .fieldref 20 26), (0, .nameAndType 27 24), (0, u "end"), (0, .fieldref 20 29), (0, .nameAndType 30 31), (0, u "level"), (0, u "I"), (32, .class_ 65), (0, u "java/lang/Comparable"), (0, u "(JJI)V"), (13, u "equals"), (0, u "(Ljava/lang/Object;)Z")] 27

def k4c0 : Code := { maxStack := 6, maxLocals := 6, code := prog_29_method_1_code, exceptionTable := #[], attributes := #[] }
def k4m0 : Method := { name := "<init>", desc := "(JJI)V", sig := { parameters := [.long, .long, .int], returnType := none }, accessFlags := 1, code := some k4c0 }
def k4c1 : Code := { maxStack := 4, maxLocals := 3, code := prog_29_method_12_code, exceptionTable := #[], attributes := #[] }
def k4m1 : Method := { name := "equals", desc := "(Ljava/lang/Object;)Z", sig := { parameters := [(.object "java/lang/Object")], returnType := some .boolean }, accessFlags := 1, code := some k4c1 }
/-- com/example/kent_ridge/kentridge/index/Region -/
def k4 : Class := { plain "com/example/kent_ridge/kentridge/index/Region" (some 0) with
  accessFlags := 49
  interfaces := #[3]
  cf := some (fileOf pool4 20 #[] #[{ accessFlags := 1, nameIndex := 5, descriptorIndex := 66, attributes := #[] }, { accessFlags := 1, nameIndex := 80, descriptorIndex := 81, attributes := #[] }] 49 2 #[64] #[{ accessFlags := 18, nameIndex := 23, descriptorIndex := 24, attributes := #[] }, { accessFlags := 18, nameIndex := 27, descriptorIndex := 24, attributes := #[] }, { accessFlags := 18, nameIndex := 30, descriptorIndex := 31, attributes := #[] }])
  fields := #[{ name := "start", type := .long, accessFlags := 18, slot := 0, constantValue := 0 }, { name := "end", type := .long, accessFlags := 18, slot := 1, constantValue := 0 }, { name := "level", type := .int, accessFlags := 18, slot := 2, constantValue := 0 }]
  methods := #[k4m0, k4m1]
  instanceTypes := #[.long, .long, .int]
  staticTypes := #[]
  resolved := Array.replicate 109 none
  statics := none }

def pool5 : Array CpInfo := pool [(1, .class_ 2), (0, u "java/io/Serializable"), (0, .class_ 4), (0, u "java/lang/Object")] 2

/-- java/io/Serializable -/
def k5 : Class := { plain "java/io/Serializable" (some 0) with
  accessFlags := 1537
  interfaces := #[]
  cf := some (fileOf pool5 1 #[] #[] 1537 3 #[] #[])
  fields := #[]
  methods := #[]
  instanceTypes := #[]
  staticTypes := #[]
  resolved := Array.replicate 7 none
  statics := none }

def pool6 : Array CpInfo := pool [(1, .methodref 2 3), (0, .class_ 4), (0, .nameAndType 5 6), (0, u "java/lang/Object"), (0, u "<init>"), (0, u "()V"), (1, .class_ 10), (1, u "java/lang/Number"), (2, .class_ 14), (0, u "java/io/Serializable"), (0, u "serialVersionUID"), (0, u "J")] 20

def k6c0 : Code := { maxStack := 1, maxLocals := 1, code := jdk_18_method_1_code, exceptionTable := #[], attributes := #[] }
def k6m0 : Method := { name := "<init>", desc := "()V", sig := { parameters := [], returnType := none }, accessFlags := 1, code := some k6c0 }
/-- java/lang/Number -/
def k6 : Class := { plain "java/lang/Number" (some 0) with
  accessFlags := 1057
  interfaces := #[5]
  cf := some (fileOf pool6 8 #[] #[{ accessFlags := 1, nameIndex := 5, descriptorIndex := 6, attributes := #[] }] 1057 2 #[13] #[{ accessFlags := 26, nameIndex := 15, descriptorIndex := 16, attributes := #[] }])
  fields := #[{ name := "serialVersionUID", type := .long, accessFlags := 26, slot := 0, constantValue := 0 }]
  methods := #[k6m0]
  instanceTypes := #[]
  staticTypes := #[.long]
  resolved := Array.replicate 37 none
  statics := none }

def pool7 : Array CpInfo := pool [(1, .class_ 2), (0, u "java/lang/constant/Constable"), (0, .class_ 4), (0, u "java/lang/Object")] 6

/-- java/lang/constant/Constable -/
def k7 : Class := { plain "java/lang/constant/Constable" (some 0) with
  accessFlags := 1537
  interfaces := #[]
  cf := some (fileOf pool7 1 #[] #[] 1537 3 #[] #[])
  fields := #[]
  methods := #[]
  instanceTypes := #[]
  staticTypes := #[]
  resolved := Array.replicate 11 none
  statics := none }

def pool8 : Array CpInfo := pool [(1, .class_ 2), (0, u "java/lang/constant/ConstantDesc"), (0, .class_ 4), (0, u "java/lang/Object")] 32

/-- java/lang/constant/ConstantDesc -/
def k8 : Class := { plain "java/lang/constant/ConstantDesc" (some 0) with
  accessFlags := 1537
  interfaces := #[]
  cf := some (fileOf pool8 1 #[] #[] 1537 3 #[] #[])
  fields := #[]
  methods := #[]
  instanceTypes := #[]
  staticTypes := #[]
  resolved := Array.replicate 37 none
  statics := none }

def pool9 : Array CpInfo := pool [(1, .class_ 2), (0, u "java/lang/Long"), (55, .nameAndType 59 60), (0, u "<init>"), (0, u "()V"), (24, u "valueOf"), (143, u "(J)Ljava/lang/Long;"), (0, .long 18446744073709551488), (1, .long 127), (1, .fieldref 235 236), (0, .class_ 237), (0, .nameAndType 238 239), (0, u "java/lang/Long$LongCache"), (0, u "cache"), (0, u "[Ljava/lang/Long;"), (0, .methodref 1 241), (0, .nameAndType 59 242), (0, u "(J)V"), (27, .methodref 271 58), (0, .class_ 272), (0, u "java/lang/Number"), (0, .fieldref 1 274), (0, .nameAndType 275 276), (0, u "value"), (0, u "J"), (84, u "TYPE"), (0, u "Ljava/lang/Class;"), (0, .class_ 364), (0, u "java/lang/Comparable"), (0, .class_ 366), (0, u "java/lang/constant/Constable"), (0, .class_ 368), (0, u "java/lang/constant/ConstantDesc"), (0, u "MIN_VALUE"), (1, u "MAX_VALUE"), (4, u "SIZE"), (0, u "I"), (1, u "BYTES"), (1, u "serialVersionUID")] 142

def k9c0 : Code := { maxStack := 4, maxLocals := 3, code := jdk_35_method_24_code, exceptionTable := #[], attributes := #[] }
def k9m0 : Method := { name := "valueOf", desc := "(J)Ljava/lang/Long;", sig := { parameters := [.long], returnType := some (.object "java/lang/Long") }, accessFlags := 9, code := some k9c0 }
def k9c1 : Code := { maxStack := 3, maxLocals := 3, code := jdk_35_method_26_code, exceptionTable := #[], attributes := #[] }
def k9m1 : Method := { name := "<init>", desc := "(J)V", sig := { parameters := [.long], returnType := none }, accessFlags := 1, code := some k9c1 }
/-- java/lang/Long -/
def k9 : Class := { plain "java/lang/Long" (some 6) with
  accessFlags := 49
  interfaces := #[3, 7, 8]
  cf := some (fileOf pool9 1 #[.nestMembers #[235]] #[{ accessFlags := 9, nameIndex := 85, descriptorIndex := 229, attributes := #[] }, { accessFlags := 1, nameIndex := 59, descriptorIndex := 242, attributes := #[] }] 49 271 #[363, 365, 367] #[{ accessFlags := 25, nameIndex := 369, descriptorIndex := 276, attributes := #[] }, { accessFlags := 25, nameIndex := 371, descriptorIndex := 276, attributes := #[] }, { accessFlags := 25, nameIndex := 361, descriptorIndex := 362, attributes := #[] }, { accessFlags := 18, nameIndex := 275, descriptorIndex := 276, attributes := #[] }, { accessFlags := 25, nameIndex := 376, descriptorIndex := 377, attributes := #[] }, { accessFlags := 25, nameIndex := 379, descriptorIndex := 377, attributes := #[] }, { accessFlags := 26, nameIndex := 381, descriptorIndex := 276, attributes := #[] }])
  fields := #[{ name := "MIN_VALUE", type := .long, accessFlags := 25, slot := 0, constantValue := 0 }, { name := "MAX_VALUE", type := .long, accessFlags := 25, slot := 1, constantValue := 0 }, { name := "TYPE", type := (.object "java/lang/Class"), accessFlags := 25, slot := 2, constantValue := 0 }, { name := "value", type := .long, accessFlags := 18, slot := 0, constantValue := 0 }, { name := "SIZE", type := .int, accessFlags := 25, slot := 3, constantValue := 0 }, { name := "BYTES", type := .int, accessFlags := 25, slot := 4, constantValue := 0 }, { name := "serialVersionUID", type := .long, accessFlags := 26, slot := 5, constantValue := 0 }]
  methods := #[k9m0, k9m1]
  instanceTypes := #[.long]
  staticTypes := #[.long, .long, (.object "java/lang/Class"), .int, .int, .long]
  resolved := Array.replicate 524 none
  statics := none }

def pool10 : Array CpInfo := pool [(2, .class_ 4), (1, u "java/lang/Object"), (0, u "<init>"), (0, u "()V"), (0, .class_ 8), (0, u "java/lang/Long"), (7, .class_ 18), (1, u "java/lang/Long$LongCache"), (0, u "$assertionsDisabled"), (0, u "Z"), (8, u "archivedCache"), (0, u "[Ljava/lang/Long;"), (7, u "cache")] 24

def k10m0 : Method := { name := "<init>", desc := "()V", sig := { parameters := [], returnType := none }, accessFlags := 2, code := none }
/-- java/lang/Long$LongCache -/
def k10 : Class := { plain "java/lang/Long$LongCache" (some 0) with
  accessFlags := 48
  interfaces := #[]
  cf := some (fileOf pool10 16 #[.nestHost 7] #[{ accessFlags := 2, nameIndex := 5, descriptorIndex := 6, attributes := #[] }] 48 2 #[] #[{ accessFlags := 24, nameIndex := 38, descriptorIndex := 30, attributes := #[] }, { accessFlags := 8, nameIndex := 29, descriptorIndex := 30, attributes := #[] }, { accessFlags := 4120, nameIndex := 19, descriptorIndex := 20, attributes := #[] }])
  fields := #[{ name := "cache", type := (.array (.object "java/lang/Long")), accessFlags := 24, slot := 0, constantValue := 0 }, { name := "archivedCache", type := (.array (.object "java/lang/Long")), accessFlags := 8, slot := 1, constantValue := 0 }, { name := "$assertionsDisabled", type := .boolean, accessFlags := 4120, slot := 2, constantValue := 0 }]
  methods := #[k10m0]
  instanceTypes := #[]
  staticTypes := #[(.array (.object "java/lang/Long")), (.array (.object "java/lang/Long")), .boolean]
  resolved := Array.replicate 63 none
  statics := some 0 }

def pool11 : Array CpInfo := pool [(1, u "java/lang/Cloneable"), (0, .class_ 1), (0, u "java/lang/Object"), (0, .class_ 3)] 3

/-- java/lang/Cloneable -/
def k11 : Class := { plain "java/lang/Cloneable" (some 0) with
  accessFlags := 1537
  interfaces := #[]
  cf := some (fileOf pool11 2 #[] #[] 1537 4 #[] #[])
  fields := #[]
  methods := #[]
  instanceTypes := #[]
  staticTypes := #[]
  resolved := Array.replicate 8 none
  statics := none }

/-- the primitive byte -/
def k12 : Class := { plain "byte" none with kind := .primitive 'B', accessFlags := 0x411 }
/-- [B -/
def k13 : Class := { plain "[B" (some 0) with kind := .array 12 .byte, interfaces := #[11, 5], accessFlags := 1041 }

/-- the primitive int -/
def k14 : Class := { plain "int" none with kind := .primitive 'I', accessFlags := 0x411 }
/-- [I -/
def k15 : Class := { plain "[I" (some 0) with kind := .array 14 .int, interfaces := #[11, 5], accessFlags := 1041 }

/-- [Ljava/lang/Long; -/
def k16 : Class := { plain "[Ljava/lang/Long;" (some 0) with kind := .array 9 (.object "java/lang/Long"), interfaces := #[11, 5], accessFlags := 1041 }

def heap : Heap := #[{ cls := 10, slots := #[.ref 1, .null, .int 0], vm := .statics 10 },
  { cls := 16, slots := #[.ref 2, .ref 3, .ref 4, .ref 5, .ref 6, .ref 7, .ref 8, .ref 9, .ref 10, .ref 11, .ref 12, .ref 13, .ref 14, .ref 15, .ref 16, .ref 17, .ref 18, .ref 19, .ref 20, .ref 21, .ref 22, .ref 23, .ref 24, .ref 25, .ref 26, .ref 27, .ref 28, .ref 29, .ref 30, .ref 31, .ref 32, .ref 33, .ref 34, .ref 35, .ref 36, .ref 37, .ref 38, .ref 39, .ref 40, .ref 41, .ref 42, .ref 43, .ref 44, .ref 45, .ref 46, .ref 47, .ref 48, .ref 49, .ref 50, .ref 51, .ref 52, .ref 53, .ref 54, .ref 55, .ref 56, .ref 57, .ref 58, .ref 59, .ref 60, .ref 61, .ref 62, .ref 63, .ref 64, .ref 65, .ref 66, .ref 67, .ref 68, .ref 69, .ref 70, .ref 71, .ref 72, .ref 73, .ref 74, .ref 75, .ref 76, .ref 77, .ref 78, .ref 79, .ref 80, .ref 81, .ref 82, .ref 83, .ref 84, .ref 85, .ref 86, .ref 87, .ref 88, .ref 89, .ref 90, .ref 91, .ref 92, .ref 93, .ref 94, .ref 95, .ref 96, .ref 97, .ref 98, .ref 99, .ref 100, .ref 101, .ref 102, .ref 103, .ref 104, .ref 105, .ref 106, .ref 107, .ref 108, .ref 109, .ref 110, .ref 111, .ref 112, .ref 113, .ref 114, .ref 115, .ref 116, .ref 117, .ref 118, .ref 119, .ref 120, .ref 121, .ref 122, .ref 123, .ref 124, .ref 125, .ref 126, .ref 127, .ref 128, .ref 129, .ref 130, .ref 131, .ref 132, .ref 133, .ref 134, .ref 135, .ref 136, .ref 137, .ref 138, .ref 139, .ref 140, .ref 141, .ref 142, .ref 143, .ref 144, .ref 145, .ref 146, .ref 147, .ref 148, .ref 149, .ref 150, .ref 151, .ref 152, .ref 153, .ref 154, .ref 155, .ref 156, .ref 157, .ref 158, .ref 159, .ref 160, .ref 161, .ref 162, .ref 163, .ref 164, .ref 165, .ref 166, .ref 167, .ref 168, .ref 169, .ref 170, .ref 171, .ref 172, .ref 173, .ref 174, .ref 175, .ref 176, .ref 177, .ref 178, .ref 179, .ref 180, .ref 181, .ref 182, .ref 183, .ref 184, .ref 185, .ref 186, .ref 187, .ref 188, .ref 189, .ref 190, .ref 191, .ref 192, .ref 193, .ref 194, .ref 195, .ref 196, .ref 197, .ref 198, .ref 199, .ref 200, .ref 201, .ref 202, .ref 203, .ref 204, .ref 205, .ref 206, .ref 207, .ref 208, .ref 209, .ref 210, .ref 211, .ref 212, .ref 213, .ref 214, .ref 215, .ref 216, .ref 217, .ref 218, .ref 219, .ref 220, .ref 221, .ref 222, .ref 223, .ref 224, .ref 225, .ref 226, .ref 227, .ref 228, .ref 229, .ref 230, .ref 231, .ref 232, .ref 233, .ref 234, .ref 235, .ref 236, .ref 237, .ref 238, .ref 239, .ref 240, .ref 241, .ref 242, .ref 243, .ref 244, .ref 245, .ref 246, .ref 247, .ref 248, .ref 249, .ref 250, .ref 251, .ref 252, .ref 253, .ref 254, .ref 255, .ref 256, .ref 257], vm := .none },
  { cls := 9, slots := #[.long (-128)], vm := .none },
  { cls := 9, slots := #[.long (-127)], vm := .none },
  { cls := 9, slots := #[.long (-126)], vm := .none },
  { cls := 9, slots := #[.long (-125)], vm := .none },
  { cls := 9, slots := #[.long (-124)], vm := .none },
  { cls := 9, slots := #[.long (-123)], vm := .none },
  { cls := 9, slots := #[.long (-122)], vm := .none },
  { cls := 9, slots := #[.long (-121)], vm := .none },
  { cls := 9, slots := #[.long (-120)], vm := .none },
  { cls := 9, slots := #[.long (-119)], vm := .none },
  { cls := 9, slots := #[.long (-118)], vm := .none },
  { cls := 9, slots := #[.long (-117)], vm := .none },
  { cls := 9, slots := #[.long (-116)], vm := .none },
  { cls := 9, slots := #[.long (-115)], vm := .none },
  { cls := 9, slots := #[.long (-114)], vm := .none },
  { cls := 9, slots := #[.long (-113)], vm := .none },
  { cls := 9, slots := #[.long (-112)], vm := .none },
  { cls := 9, slots := #[.long (-111)], vm := .none },
  { cls := 9, slots := #[.long (-110)], vm := .none },
  { cls := 9, slots := #[.long (-109)], vm := .none },
  { cls := 9, slots := #[.long (-108)], vm := .none },
  { cls := 9, slots := #[.long (-107)], vm := .none },
  { cls := 9, slots := #[.long (-106)], vm := .none },
  { cls := 9, slots := #[.long (-105)], vm := .none },
  { cls := 9, slots := #[.long (-104)], vm := .none },
  { cls := 9, slots := #[.long (-103)], vm := .none },
  { cls := 9, slots := #[.long (-102)], vm := .none },
  { cls := 9, slots := #[.long (-101)], vm := .none },
  { cls := 9, slots := #[.long (-100)], vm := .none },
  { cls := 9, slots := #[.long (-99)], vm := .none },
  { cls := 9, slots := #[.long (-98)], vm := .none },
  { cls := 9, slots := #[.long (-97)], vm := .none },
  { cls := 9, slots := #[.long (-96)], vm := .none },
  { cls := 9, slots := #[.long (-95)], vm := .none },
  { cls := 9, slots := #[.long (-94)], vm := .none },
  { cls := 9, slots := #[.long (-93)], vm := .none },
  { cls := 9, slots := #[.long (-92)], vm := .none },
  { cls := 9, slots := #[.long (-91)], vm := .none },
  { cls := 9, slots := #[.long (-90)], vm := .none },
  { cls := 9, slots := #[.long (-89)], vm := .none },
  { cls := 9, slots := #[.long (-88)], vm := .none },
  { cls := 9, slots := #[.long (-87)], vm := .none },
  { cls := 9, slots := #[.long (-86)], vm := .none },
  { cls := 9, slots := #[.long (-85)], vm := .none },
  { cls := 9, slots := #[.long (-84)], vm := .none },
  { cls := 9, slots := #[.long (-83)], vm := .none },
  { cls := 9, slots := #[.long (-82)], vm := .none },
  { cls := 9, slots := #[.long (-81)], vm := .none },
  { cls := 9, slots := #[.long (-80)], vm := .none },
  { cls := 9, slots := #[.long (-79)], vm := .none },
  { cls := 9, slots := #[.long (-78)], vm := .none },
  { cls := 9, slots := #[.long (-77)], vm := .none },
  { cls := 9, slots := #[.long (-76)], vm := .none },
  { cls := 9, slots := #[.long (-75)], vm := .none },
  { cls := 9, slots := #[.long (-74)], vm := .none },
  { cls := 9, slots := #[.long (-73)], vm := .none },
  { cls := 9, slots := #[.long (-72)], vm := .none },
  { cls := 9, slots := #[.long (-71)], vm := .none },
  { cls := 9, slots := #[.long (-70)], vm := .none },
  { cls := 9, slots := #[.long (-69)], vm := .none },
  { cls := 9, slots := #[.long (-68)], vm := .none },
  { cls := 9, slots := #[.long (-67)], vm := .none },
  { cls := 9, slots := #[.long (-66)], vm := .none },
  { cls := 9, slots := #[.long (-65)], vm := .none },
  { cls := 9, slots := #[.long (-64)], vm := .none },
  { cls := 9, slots := #[.long (-63)], vm := .none },
  { cls := 9, slots := #[.long (-62)], vm := .none },
  { cls := 9, slots := #[.long (-61)], vm := .none },
  { cls := 9, slots := #[.long (-60)], vm := .none },
  { cls := 9, slots := #[.long (-59)], vm := .none },
  { cls := 9, slots := #[.long (-58)], vm := .none },
  { cls := 9, slots := #[.long (-57)], vm := .none },
  { cls := 9, slots := #[.long (-56)], vm := .none },
  { cls := 9, slots := #[.long (-55)], vm := .none },
  { cls := 9, slots := #[.long (-54)], vm := .none },
  { cls := 9, slots := #[.long (-53)], vm := .none },
  { cls := 9, slots := #[.long (-52)], vm := .none },
  { cls := 9, slots := #[.long (-51)], vm := .none },
  { cls := 9, slots := #[.long (-50)], vm := .none },
  { cls := 9, slots := #[.long (-49)], vm := .none },
  { cls := 9, slots := #[.long (-48)], vm := .none },
  { cls := 9, slots := #[.long (-47)], vm := .none },
  { cls := 9, slots := #[.long (-46)], vm := .none },
  { cls := 9, slots := #[.long (-45)], vm := .none },
  { cls := 9, slots := #[.long (-44)], vm := .none },
  { cls := 9, slots := #[.long (-43)], vm := .none },
  { cls := 9, slots := #[.long (-42)], vm := .none },
  { cls := 9, slots := #[.long (-41)], vm := .none },
  { cls := 9, slots := #[.long (-40)], vm := .none },
  { cls := 9, slots := #[.long (-39)], vm := .none },
  { cls := 9, slots := #[.long (-38)], vm := .none },
  { cls := 9, slots := #[.long (-37)], vm := .none },
  { cls := 9, slots := #[.long (-36)], vm := .none },
  { cls := 9, slots := #[.long (-35)], vm := .none },
  { cls := 9, slots := #[.long (-34)], vm := .none },
  { cls := 9, slots := #[.long (-33)], vm := .none },
  { cls := 9, slots := #[.long (-32)], vm := .none },
  { cls := 9, slots := #[.long (-31)], vm := .none },
  { cls := 9, slots := #[.long (-30)], vm := .none },
  { cls := 9, slots := #[.long (-29)], vm := .none },
  { cls := 9, slots := #[.long (-28)], vm := .none },
  { cls := 9, slots := #[.long (-27)], vm := .none },
  { cls := 9, slots := #[.long (-26)], vm := .none },
  { cls := 9, slots := #[.long (-25)], vm := .none },
  { cls := 9, slots := #[.long (-24)], vm := .none },
  { cls := 9, slots := #[.long (-23)], vm := .none },
  { cls := 9, slots := #[.long (-22)], vm := .none },
  { cls := 9, slots := #[.long (-21)], vm := .none },
  { cls := 9, slots := #[.long (-20)], vm := .none },
  { cls := 9, slots := #[.long (-19)], vm := .none },
  { cls := 9, slots := #[.long (-18)], vm := .none },
  { cls := 9, slots := #[.long (-17)], vm := .none },
  { cls := 9, slots := #[.long (-16)], vm := .none },
  { cls := 9, slots := #[.long (-15)], vm := .none },
  { cls := 9, slots := #[.long (-14)], vm := .none },
  { cls := 9, slots := #[.long (-13)], vm := .none },
  { cls := 9, slots := #[.long (-12)], vm := .none },
  { cls := 9, slots := #[.long (-11)], vm := .none },
  { cls := 9, slots := #[.long (-10)], vm := .none },
  { cls := 9, slots := #[.long (-9)], vm := .none },
  { cls := 9, slots := #[.long (-8)], vm := .none },
  { cls := 9, slots := #[.long (-7)], vm := .none },
  { cls := 9, slots := #[.long (-6)], vm := .none },
  { cls := 9, slots := #[.long (-5)], vm := .none },
  { cls := 9, slots := #[.long (-4)], vm := .none },
  { cls := 9, slots := #[.long (-3)], vm := .none },
  { cls := 9, slots := #[.long (-2)], vm := .none },
  { cls := 9, slots := #[.long (-1)], vm := .none },
  { cls := 9, slots := #[.long (0)], vm := .none },
  { cls := 9, slots := #[.long (1)], vm := .none },
  { cls := 9, slots := #[.long (2)], vm := .none },
  { cls := 9, slots := #[.long (3)], vm := .none },
  { cls := 9, slots := #[.long (4)], vm := .none },
  { cls := 9, slots := #[.long (5)], vm := .none },
  { cls := 9, slots := #[.long (6)], vm := .none },
  { cls := 9, slots := #[.long (7)], vm := .none },
  { cls := 9, slots := #[.long (8)], vm := .none },
  { cls := 9, slots := #[.long (9)], vm := .none },
  { cls := 9, slots := #[.long (10)], vm := .none },
  { cls := 9, slots := #[.long (11)], vm := .none },
  { cls := 9, slots := #[.long (12)], vm := .none },
  { cls := 9, slots := #[.long (13)], vm := .none },
  { cls := 9, slots := #[.long (14)], vm := .none },
  { cls := 9, slots := #[.long (15)], vm := .none },
  { cls := 9, slots := #[.long (16)], vm := .none },
  { cls := 9, slots := #[.long (17)], vm := .none },
  { cls := 9, slots := #[.long (18)], vm := .none },
  { cls := 9, slots := #[.long (19)], vm := .none },
  { cls := 9, slots := #[.long (20)], vm := .none },
  { cls := 9, slots := #[.long (21)], vm := .none },
  { cls := 9, slots := #[.long (22)], vm := .none },
  { cls := 9, slots := #[.long (23)], vm := .none },
  { cls := 9, slots := #[.long (24)], vm := .none },
  { cls := 9, slots := #[.long (25)], vm := .none },
  { cls := 9, slots := #[.long (26)], vm := .none },
  { cls := 9, slots := #[.long (27)], vm := .none },
  { cls := 9, slots := #[.long (28)], vm := .none },
  { cls := 9, slots := #[.long (29)], vm := .none },
  { cls := 9, slots := #[.long (30)], vm := .none },
  { cls := 9, slots := #[.long (31)], vm := .none },
  { cls := 9, slots := #[.long (32)], vm := .none },
  { cls := 9, slots := #[.long (33)], vm := .none },
  { cls := 9, slots := #[.long (34)], vm := .none },
  { cls := 9, slots := #[.long (35)], vm := .none },
  { cls := 9, slots := #[.long (36)], vm := .none },
  { cls := 9, slots := #[.long (37)], vm := .none },
  { cls := 9, slots := #[.long (38)], vm := .none },
  { cls := 9, slots := #[.long (39)], vm := .none },
  { cls := 9, slots := #[.long (40)], vm := .none },
  { cls := 9, slots := #[.long (41)], vm := .none },
  { cls := 9, slots := #[.long (42)], vm := .none },
  { cls := 9, slots := #[.long (43)], vm := .none },
  { cls := 9, slots := #[.long (44)], vm := .none },
  { cls := 9, slots := #[.long (45)], vm := .none },
  { cls := 9, slots := #[.long (46)], vm := .none },
  { cls := 9, slots := #[.long (47)], vm := .none },
  { cls := 9, slots := #[.long (48)], vm := .none },
  { cls := 9, slots := #[.long (49)], vm := .none },
  { cls := 9, slots := #[.long (50)], vm := .none },
  { cls := 9, slots := #[.long (51)], vm := .none },
  { cls := 9, slots := #[.long (52)], vm := .none },
  { cls := 9, slots := #[.long (53)], vm := .none },
  { cls := 9, slots := #[.long (54)], vm := .none },
  { cls := 9, slots := #[.long (55)], vm := .none },
  { cls := 9, slots := #[.long (56)], vm := .none },
  { cls := 9, slots := #[.long (57)], vm := .none },
  { cls := 9, slots := #[.long (58)], vm := .none },
  { cls := 9, slots := #[.long (59)], vm := .none },
  { cls := 9, slots := #[.long (60)], vm := .none },
  { cls := 9, slots := #[.long (61)], vm := .none },
  { cls := 9, slots := #[.long (62)], vm := .none },
  { cls := 9, slots := #[.long (63)], vm := .none },
  { cls := 9, slots := #[.long (64)], vm := .none },
  { cls := 9, slots := #[.long (65)], vm := .none },
  { cls := 9, slots := #[.long (66)], vm := .none },
  { cls := 9, slots := #[.long (67)], vm := .none },
  { cls := 9, slots := #[.long (68)], vm := .none },
  { cls := 9, slots := #[.long (69)], vm := .none },
  { cls := 9, slots := #[.long (70)], vm := .none },
  { cls := 9, slots := #[.long (71)], vm := .none },
  { cls := 9, slots := #[.long (72)], vm := .none },
  { cls := 9, slots := #[.long (73)], vm := .none },
  { cls := 9, slots := #[.long (74)], vm := .none },
  { cls := 9, slots := #[.long (75)], vm := .none },
  { cls := 9, slots := #[.long (76)], vm := .none },
  { cls := 9, slots := #[.long (77)], vm := .none },
  { cls := 9, slots := #[.long (78)], vm := .none },
  { cls := 9, slots := #[.long (79)], vm := .none },
  { cls := 9, slots := #[.long (80)], vm := .none },
  { cls := 9, slots := #[.long (81)], vm := .none },
  { cls := 9, slots := #[.long (82)], vm := .none },
  { cls := 9, slots := #[.long (83)], vm := .none },
  { cls := 9, slots := #[.long (84)], vm := .none },
  { cls := 9, slots := #[.long (85)], vm := .none },
  { cls := 9, slots := #[.long (86)], vm := .none },
  { cls := 9, slots := #[.long (87)], vm := .none },
  { cls := 9, slots := #[.long (88)], vm := .none },
  { cls := 9, slots := #[.long (89)], vm := .none },
  { cls := 9, slots := #[.long (90)], vm := .none },
  { cls := 9, slots := #[.long (91)], vm := .none },
  { cls := 9, slots := #[.long (92)], vm := .none },
  { cls := 9, slots := #[.long (93)], vm := .none },
  { cls := 9, slots := #[.long (94)], vm := .none },
  { cls := 9, slots := #[.long (95)], vm := .none },
  { cls := 9, slots := #[.long (96)], vm := .none },
  { cls := 9, slots := #[.long (97)], vm := .none },
  { cls := 9, slots := #[.long (98)], vm := .none },
  { cls := 9, slots := #[.long (99)], vm := .none },
  { cls := 9, slots := #[.long (100)], vm := .none },
  { cls := 9, slots := #[.long (101)], vm := .none },
  { cls := 9, slots := #[.long (102)], vm := .none },
  { cls := 9, slots := #[.long (103)], vm := .none },
  { cls := 9, slots := #[.long (104)], vm := .none },
  { cls := 9, slots := #[.long (105)], vm := .none },
  { cls := 9, slots := #[.long (106)], vm := .none },
  { cls := 9, slots := #[.long (107)], vm := .none },
  { cls := 9, slots := #[.long (108)], vm := .none },
  { cls := 9, slots := #[.long (109)], vm := .none },
  { cls := 9, slots := #[.long (110)], vm := .none },
  { cls := 9, slots := #[.long (111)], vm := .none },
  { cls := 9, slots := #[.long (112)], vm := .none },
  { cls := 9, slots := #[.long (113)], vm := .none },
  { cls := 9, slots := #[.long (114)], vm := .none },
  { cls := 9, slots := #[.long (115)], vm := .none },
  { cls := 9, slots := #[.long (116)], vm := .none },
  { cls := 9, slots := #[.long (117)], vm := .none },
  { cls := 9, slots := #[.long (118)], vm := .none },
  { cls := 9, slots := #[.long (119)], vm := .none },
  { cls := 9, slots := #[.long (120)], vm := .none },
  { cls := 9, slots := #[.long (121)], vm := .none },
  { cls := 9, slots := #[.long (122)], vm := .none },
  { cls := 9, slots := #[.long (123)], vm := .none },
  { cls := 9, slots := #[.long (124)], vm := .none },
  { cls := 9, slots := #[.long (125)], vm := .none },
  { cls := 9, slots := #[.long (126)], vm := .none },
  { cls := 9, slots := #[.long (127)], vm := .none }]
def classes : Array Class := #[k0, k1, k2, k3, k4, k5, k6, k7, k8, k9, k10, k11, k12, k13, k14, k15, k16]
def interned : List (Array UInt16 × Addr) := []
def slotsUsed : Nat := 515
def theMethod : MethodId := ⟨1, 3⟩
def args0 : Array Value := #[.long 5, .long 3, .int 4, .long 1, .long 1, .int 0]
def aboutOver (below : List Frame) : State where
  vm := { classes := classes, interned := interned.toArray }
  heap := heap
  slotsUsed := slotsUsed
  threads := #[{ frames := .invoking theMethod args0 :: below }]
def below0 : List Frame := [.native { method := ⟨0, 0⟩, args := #[] }]
def about1 : State := aboutOver below0
def p0 : Program := .bare "" "" ""
def e0 : Env := launch0.env 0 0 0
theorem w_frames : about1.frames = Frame.invoking theMethod args0 :: below0 := rfl
set_option maxRecDepth 65536 in
theorem w_args : argsFit about1.vm theMethod args0 = true := by decide +kernel
set_option maxRecDepth 65536 in
theorem w_heap : heapFits about1 = true := by decide +kernel
set_option maxRecDepth 65536 in
theorem w_runnable : about1.curStatus? = some .runnable := by decide +kernel
set_option maxRecDepth 65536 in
theorem w_alone : about1.alone = true := by decide +kernel
set_option maxRecDepth 65536 in
theorem w_named : about1.methodNamed? x = some theMethod := by decide +kernel
set_option maxRecDepth 65536 in
theorem w_hears : about1.hears theMethod below0 = true := by decide +kernel
set_option maxRecDepth 65536 in
theorem w_ripe : about1.ripe theMethod args0 below0 = true := by decide +kernel
theorem w_running : about1.status = .running := rfl
set_option maxRecDepth 65536 in
theorem w_room : about1.hasRoom e0.platform room_1 = true :=
  launch0.hasRoom_least _ room_1 (by decide +kernel) (by decide +kernel) (by decide +kernel) (by decide +kernel) (by decide +kernel) (by decide +kernel)
theorem allAtoms_all (ts : List Jvm.Cond) (a : Array Jvm.Value) (st : Jvm.State) : (allAtoms ts).before a st = ts.all (fun c => c.before a st) := by
  induction ts with
  | nil => rfl
  | cons c t ih =>
    show (Jvm.Cond.and c (allAtoms t)).before a st = _
    rw [Jvm.Cond.before_and, ih, List.all_cons]
def words1 : List Jvm.Cond := Jvm.Cond.code x code maxLocals ret :: tables_1
/-- a 'code' word, met by the world's own term for the bytes: nothing is compared byte by byte -/
theorem code_word {y : MethodName} {bytes : ByteArray} {mx : Nat} {rt : Option FieldType} {a : Array Value} {s : State} {m : MethodId} {meth : Method} {c : Code} (h1 : s.methodNamed? y = some m) (h2 : s.vm.method? m = some meth) (h3 : meth.code = some c) (h4 : c.code = bytes)
    (h5 : (c.maxLocals == mx && c.exceptionTable.isEmpty && decide (c.maxStack ≤ mostOperands) && decide (meth.sig.returnType = rt) && !meth.locks && decide (parseMethodDescriptor y.desc = some meth.sig)) = true) : (Jvm.Cond.code y bytes mx rt).before a s = true := by
  simp only [Bool.and_eq_true, beq_iff_eq, Bool.not_eq_true', decide_eq_true_eq] at h5
  obtain ⟨⟨⟨⟨⟨g1, g2⟩, g3⟩, g4⟩, g5⟩, g6⟩ := h5
  simp [Cond.before, Cond.holds, Cond.value, h1, h2, h3, h4, g1, g2, g3, g4, g5, g6]
def isCode : Jvm.Cond → Bool
  | .code _ _ _ _ => true
  | _ => false
theorem all_split {L : List Jvm.Cond} {P : Jvm.Cond → Bool} (h1 : L.all (fun c => isCode c || P c) = true) (h2 : ∀ c ∈ L.filter isCode, P c = true) : L.all P = true := by
  refine List.all_eq_true.mpr fun c hc => ?_
  have h := List.all_eq_true.mp h1 c hc
  rcases Bool.eq_false_or_eq_true (isCode c) with hi | hi
  · exact h2 c (List.mem_filter.mpr ⟨hc, hi⟩)
  · simpa [hi] using h
set_option maxRecDepth 65536 in
theorem w_c0 : (Jvm.Cond.code x code maxLocals ret).before args0 about1 = true := code_word (m := ⟨1, 3⟩) (meth := k1m3) (c := k1c3) (by decide +kernel) rfl rfl rfl (by decide +kernel)
set_option maxRecDepth 65536 in
theorem w_c1 : (Jvm.Cond.code ({ cls := "com/example/kent_ridge/kentridge/index/RegionEqualsPinLaw", name := "startFrom", desc := "(J)J" } : Jvm.MethodName) method_2_code (4 : Nat) (Option.some Jvm.ClassFile.FieldType.long)).before args0 about1 = true := code_word (m := ⟨1, 1⟩) (meth := k1m1) (c := k1c1) (by decide +kernel) rfl rfl rfl (by decide +kernel)
set_option maxRecDepth 65536 in
theorem w_c2 : (Jvm.Cond.code ({ cls := "com/example/kent_ridge/kentridge/index/RegionEqualsPinLaw", name := "endFrom", desc := "(JJ)J" } : Jvm.MethodName) method_3_code (4 : Nat) (Option.some Jvm.ClassFile.FieldType.long)).before args0 about1 = true := code_word (m := ⟨1, 2⟩) (meth := k1m2) (c := k1c2) (by decide +kernel) rfl rfl rfl (by decide +kernel)
set_option maxRecDepth 65536 in
theorem w_c3 : (Jvm.Cond.code ({ cls := "java/lang/Math", name := "max", desc := "(II)I" } : Jvm.MethodName) jdk_29_method_65_code (2 : Nat) (Option.some Jvm.ClassFile.FieldType.int)).before args0 about1 = true := code_word (m := ⟨2, 1⟩) (meth := k2m1) (c := k2c1) (by decide +kernel) rfl rfl rfl (by decide +kernel)
set_option maxRecDepth 65536 in
theorem w_c4 : (Jvm.Cond.code ({ cls := "com/example/kent_ridge/kentridge/index/Region", name := "<init>", desc := "(JJI)V" } : Jvm.MethodName) prog_29_method_1_code (6 : Nat) (Option.none : Option Jvm.ClassFile.FieldType)).before args0 about1 = true := code_word (m := ⟨4, 0⟩) (meth := k4m0) (c := k4c0) (by decide +kernel) rfl rfl rfl (by decide +kernel)
set_option maxRecDepth 65536 in
theorem w_c5 : (Jvm.Cond.code ({ cls := "java/lang/Object", name := "<init>", desc := "()V" } : Jvm.MethodName) object_method_1_code (1 : Nat) (Option.none : Option Jvm.ClassFile.FieldType)).before args0 about1 = true := code_word (m := ⟨0, 0⟩) (meth := k0m0) (c := k0c0) (by decide +kernel) rfl rfl rfl (by decide +kernel)
set_option maxRecDepth 65536 in
theorem w_c6 : (Jvm.Cond.code ({ cls := "com/example/kent_ridge/kentridge/index/Region", name := "equals", desc := "(Ljava/lang/Object;)Z" } : Jvm.MethodName) prog_29_method_12_code (3 : Nat) (Option.some Jvm.ClassFile.FieldType.boolean)).before args0 about1 = true := code_word (m := ⟨4, 1⟩) (meth := k4m1) (c := k4c1) (by decide +kernel) rfl rfl rfl (by decide +kernel)
set_option maxRecDepth 65536 in
theorem w_c7 : (Jvm.Cond.code ({ cls := "java/lang/Long", name := "valueOf", desc := "(J)Ljava/lang/Long;" } : Jvm.MethodName) jdk_35_method_24_code (3 : Nat) (Option.some (Jvm.ClassFile.FieldType.object "java/lang/Long"))).before args0 about1 = true := code_word (m := ⟨9, 0⟩) (meth := k9m0) (c := k9c0) (by decide +kernel) rfl rfl rfl (by decide +kernel)
set_option maxRecDepth 65536 in
theorem w_c8 : (Jvm.Cond.code ({ cls := "java/lang/Long", name := "<init>", desc := "(J)V" } : Jvm.MethodName) jdk_35_method_26_code (3 : Nat) (Option.none : Option Jvm.ClassFile.FieldType)).before args0 about1 = true := code_word (m := ⟨9, 1⟩) (meth := k9m1) (c := k9c1) (by decide +kernel) rfl rfl rfl (by decide +kernel)
set_option maxRecDepth 65536 in
theorem w_c9 : (Jvm.Cond.code ({ cls := "java/lang/Number", name := "<init>", desc := "()V" } : Jvm.MethodName) jdk_18_method_1_code (1 : Nat) (Option.none : Option Jvm.ClassFile.FieldType)).before args0 about1 = true := code_word (m := ⟨6, 0⟩) (meth := k6m0) (c := k6c0) (by decide +kernel) rfl rfl rfl (by decide +kernel)
def codes1 : List Jvm.Cond := [Jvm.Cond.code x code maxLocals ret, Jvm.Cond.code ({ cls := "com/example/kent_ridge/kentridge/index/RegionEqualsPinLaw", name := "startFrom", desc := "(J)J" } : Jvm.MethodName) method_2_code (4 : Nat) (Option.some Jvm.ClassFile.FieldType.long), Jvm.Cond.code ({ cls := "com/example/kent_ridge/kentridge/index/RegionEqualsPinLaw", name := "endFrom", desc := "(JJ)J" } : Jvm.MethodName) method_3_code (4 : Nat) (Option.some Jvm.ClassFile.FieldType.long), Jvm.Cond.code ({ cls := "java/lang/Math", name := "max", desc := "(II)I" } : Jvm.MethodName) jdk_29_method_65_code (2 : Nat) (Option.some Jvm.ClassFile.FieldType.int), Jvm.Cond.code ({ cls := "com/example/kent_ridge/kentridge/index/Region", name := "<init>", desc := "(JJI)V" } : Jvm.MethodName) prog_29_method_1_code (6 : Nat) (Option.none : Option Jvm.ClassFile.FieldType), Jvm.Cond.code ({ cls := "java/lang/Object", name := "<init>", desc := "()V" } : Jvm.MethodName) object_method_1_code (1 : Nat) (Option.none : Option Jvm.ClassFile.FieldType), Jvm.Cond.code ({ cls := "com/example/kent_ridge/kentridge/index/Region", name := "equals", desc := "(Ljava/lang/Object;)Z" } : Jvm.MethodName) prog_29_method_12_code (3 : Nat) (Option.some Jvm.ClassFile.FieldType.boolean), Jvm.Cond.code ({ cls := "java/lang/Long", name := "valueOf", desc := "(J)Ljava/lang/Long;" } : Jvm.MethodName) jdk_35_method_24_code (3 : Nat) (Option.some (Jvm.ClassFile.FieldType.object "java/lang/Long")), Jvm.Cond.code ({ cls := "java/lang/Long", name := "<init>", desc := "(J)V" } : Jvm.MethodName) jdk_35_method_26_code (3 : Nat) (Option.none : Option Jvm.ClassFile.FieldType), Jvm.Cond.code ({ cls := "java/lang/Number", name := "<init>", desc := "()V" } : Jvm.MethodName) jdk_18_method_1_code (1 : Nat) (Option.none : Option Jvm.ClassFile.FieldType)]
set_option maxRecDepth 65536 in
theorem codes_eq : words1.filter isCode = codes1 := rfl
theorem w_codes : ∀ c ∈ words1.filter isCode, c.before args0 about1 = true := by
  rw [codes_eq]
  intro c hc
  simp only [codes1, List.mem_cons, List.not_mem_nil, or_false] at hc
  rcases hc with rfl | rfl | rfl | rfl | rfl | rfl | rfl | rfl | rfl | rfl
  · exact w_c0
  · exact w_c1
  · exact w_c2
  · exact w_c3
  · exact w_c4
  · exact w_c5
  · exact w_c6
  · exact w_c7
  · exact w_c8
  · exact w_c9
set_option maxRecDepth 65536 in
theorem w_t1 : (words1.take 24).all (fun c => isCode c || c.before args0 about1) = true := by decide +kernel
set_option maxRecDepth 65536 in
theorem w_t2 : ((words1.drop 24).take 24).all (fun c => isCode c || c.before args0 about1) = true := by decide +kernel
set_option maxRecDepth 65536 in
theorem w_t3 : ((words1.drop 24).drop 24).all (fun c => isCode c || c.before args0 about1) = true := by decide +kernel
theorem w_tables : (allAtoms (Jvm.Cond.code x code maxLocals ret :: tables_1)).before args0 about1 = true := by
  rw [allAtoms_all]
  show words1.all (fun c => c.before args0 about1) = true
  refine all_split ?_ w_codes
  rw [← List.take_append_drop 24 words1, List.all_append, w_t1, ← List.take_append_drop 24 (words1.drop 24), List.all_append, w_t2, w_t3]
  rfl
set_option maxRecDepth 65536 in
theorem w_rest : rest_1_c.before args0 about1 = true := by decide +kernel
set_option maxRecDepth 65536 in
theorem w_case : (Jvm.Cond.and given_1 narrow_1).before args0 about1 = true := by decide +kernel
theorem w_applies : (headSpec (Jvm.Cond.code x code maxLocals ret :: tables_1) room_1).applies x e0.platform about1 = true :=
  (Spec.applies_iff w_frames).mpr ⟨w_running, w_runnable, w_alone, w_named, w_hears, w_ripe, w_room, w_tables⟩
theorem atStart : AtStart classFile x code maxLocals ret World_1 tables_1 room_1 Calls_1 rest_1 Pre_1 launch0 p0 e0 about1 theMethod args0 below0 :=
  ⟨lists_1, trivial, launch0.admits_env _ _ _, launch0.least_env, fairChoices_fair.cas, fairChoices_fair.clock, w_frames, w_args, w_heap, w_applies, trivial, w_rest, w_case⟩
end start1
theorem witness_1 : WitnessClaimed_1 := ⟨start1.p0, start1.e0, start1.about1, start1.theMethod, start1.args0, start1.below0, start1.atStart⟩
end Jvm.Pilot.@@N@@
