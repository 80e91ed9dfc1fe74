import JvmDerived
import JvmDerived.Pilot.@@N@@Statement
import JvmDerived.Pilot.@@N@@Code
set_option linter.unusedVariables false
set_option linter.unusedSimpArgs false
namespace Jvm.Pilot.@@N@@
open Jvm Jvm.ClassFile Sem Op Lib Jvm.Free Jvm.Stand Jvm.LawKit Jvm.RoadKit Bundle Jvm.Pilot.@@N@@.Jvm.D
/-! own_: what is left of a walk, read forwards -/
def own_WP (p : Program) (e : Env) (below : List Frame) (s : State) (Q : Option Value → Heap → List Loc → Prop) (k n : Nat) (a : State) : Prop :=
  ∃ s₂ o, Steps p.tables e below a s₂ ∧ s₂.status = .running ∧ Ended s₂ below o ∧ ∃ v L, o = .returned v ∧ Q v s₂.heap L ∧ FrameEnd s o s₂ L k n
def own_Con (l : Launch) (Z : State) (y : MethodName) (bytes : ByteArray) (maxL : Nat) (ret : Option FieldType) (rm : Room) (as' : Array Value) (h0 : Heap) (Q : Option Value → Heap → List Loc → Prop) : Prop :=
  ∀ ws, MetFree l y (head1 (Jvm.Cond.code y bytes maxL ret :: ws) rm) (fun a U => a = as' ∧ Z.Warmed39 U.vm ∧ U.heap = h0) (fun _ _ _ _ _ => True) (fun _ U o U' => ∃ v L, o = .returned v ∧ Q v U'.heap L ∧ FrameEnd U o U' L rm.cells rm.slots)
theorem own_Con_of {l : Launch} {Z : State} {y : MethodName} {bytes : ByteArray} {maxL : Nat} {ret : Option FieldType} {rm : Room} {as' : Array Value} {h0 : Heap} {Q : Option Value → Heap → List Loc → Prop} (hp : plainFor y = true)
    (hb : ∀ (p : Program) (e : Env) (s : State) (m : MethodId) (below : List Frame) (meth : Method) (c : Code) (s₁ : State), Stand p l e rm s m as' below meth c s₁ [] 0 0 → p.tables.exec = Jvm.exec → c.code = bytes → c.maxLocals = maxL → meth.sig.returnType = ret → meth.locks = false → meth.name = y.name → s.vm.findClass y.cls = some m.cls → Z.Warmed39 s.vm → s₁.heap = h0 →
      own_WP p e below s Q rm.cells rm.slots (s₁.setTop (entryFrame m as' maxL))) : own_Con l Z y bytes maxL ret rm as' h0 Q := by
  intro ws
  refine MetFree.of_bodySF hp hisR ?_
  intro p e s m args below meth c s₁ Bd hml0 hP hK
  obtain ⟨rfl, hZ, hh⟩ := hP
  exact hb p e s m below meth c s₁ (Stand.of_body Bd) Bd.exec Bd.bytes hml0 Bd.returns Bd.notSynchronized (name_of_methodNamed Bd.named Bd.method).1 (findClass_of_methodNamed Bd.named) hZ (by rw [← hh, Bd.state]; rfl)
theorem own_Con_mono {l : Launch} {Z : State} {y : MethodName} {bytes : ByteArray} {maxL : Nat} {ret : Option FieldType} {rm : Room} {as' : Array Value} {h0 : Heap} {Q Q' : Option Value → Heap → List Loc → Prop} (C : own_Con l Z y bytes maxL ret rm as' h0 Q) (hq : ∀ v h L, Q v h L → Q' v h L) : own_Con l Z y bytes maxL ret rm as' h0 Q' := by
  intro ws p e ha hc hk s m args below hf happ hP hK
  obtain ⟨n, o, h1, h2, h3, v, L, h4, h5, h6⟩ := C ws p e ha hc hk s m args below hf happ hP hK
  exact ⟨n, o, h1, h2, h3, v, L, h4, hq _ _ _ h5, h6⟩
theorem own_w {Z : State} {a0 : Array Value} {ts : List Jvm.Cond} {d : Jvm.Cond} (hw : ∀ d ∈ ts, d.before a0 Z = true) (i : Nat) (hi : ts[i]? = some d) : d.before a0 Z = true := hw _ (List.mem_of_getElem? hi)
section OwnWP
variable {p : Program} {l : Launch} {e : Env} {R : Room} {s : State} {m : MethodId} {args : Array Value} {below : List Frame} {meth : Method} {c : Code} {T : State} {locs : List Loc} {cells slots : Nat} {Z : State} {a0 : Array Value} {h : Heap} {Q : Option Value → Heap → List Loc → Prop} {k n : Nat} {a a' : State} {pc pc' : Nat} {ls l' : Array Slot} {rest : List Value}
theorem own_of (hs : ∀ t, Steps p.tables e below a' t → Steps p.tables e below a t) (w : own_WP p e below s Q k n a') : own_WP p e below s Q k n a := by
  obtain ⟨s₂, o, st, r⟩ := w
  exact ⟨s₂, o, hs _ st, r⟩
theorem own_mono {Q' : Option Value → Heap → List Loc → Prop} (hq : ∀ v h L, Q v h L → Q' v h L) (w : own_WP p e below s Q k n a) : own_WP p e below s Q' k n a := by
  obtain ⟨s₂, o, h1, h2, h3, v, L, h4, h5, h6⟩ := w
  exact ⟨s₂, o, h1, h2, h3, v, L, h4, hq _ _ _ h5, h6⟩
theorem own_join {α : Type} (P : α → Prop) (f : α → State) (h1 : (∀ x, P x → own_WP p e below s Q k n (f x)) → own_WP p e below s Q k n a) (h2 : ∀ x, P x → own_WP p e below s Q k n (f x)) : own_WP p e below s Q k n a := h1 h2
theorem own_done (X : Stand p l e R s m args below meth c T locs cells slots) {v : Option Value} (hlk : meth.locks = false) (hv : meth.sig.returnType = none → v = none) (hc : cells ≤ k) (hn : slots ≤ n) (hq : Q v T.heap locs)
    (st : ∀ fs, (∀ (f : JFrame) (acts : List Action), f.method = m → f.locked = none → f.entered = [] → (doReturn e (T.setTop f) acts v).1 = T.setFrames fs) → Steps p.tables e below a (T.setFrames fs)) : own_WP p e below s Q k n a := by
  obtain ⟨fs, hr, hrun, hended, hW, hsame⟩ := X.leave hv hlk
  exact ⟨_, _, st fs hr, hrun, hended, _, _, rfl, hq, ⟨_, rfl⟩, hW, hsame.mono hc hn⟩
theorem own_retI (X : Stand p l e R s m args below meth c T locs cells slots) (hx : p.tables.exec = Jvm.exec) (hlk : meth.locks = false) (hret : meth.sig.returnType = some .int) {z : Int32} (hd : decode c.code pc = .ok (.ireturn, 1)) (hc : cells ≤ k) (hn : slots ≤ n) (hq : Q (some (.int z)) T.heap locs) : own_WP p e below s Q k n (T.setTop (mkF m pc ls (.int z :: rest))) :=
  own_done X hlk (fun q => by rw [hret] at q; cases q) hc hn hq fun fs hr => retOut X hx hret rfl (Or.inl ⟨rfl, Or.inl rfl, z, rfl⟩) hd hr
theorem own_retN (X : Stand p l e R s m args below meth c T locs cells slots) (hx : p.tables.exec = Jvm.exec) (hlk : meth.locks = false) {t : FieldType} (ht : t = .boolean ∨ t = .byte ∨ t = .char ∨ t = .short) (hret : meth.sig.returnType = some t) {z : Int32} (hd : decode c.code pc = .ok (.ireturn, 1)) (hc : cells ≤ k) (hn : slots ≤ n) (hq : Q (some (.int (nar t z))) T.heap locs) : own_WP p e below s Q k n (T.setTop (mkF m pc ls (.int z :: rest))) :=
  own_done X hlk (fun q => by rw [hret] at q; cases q) hc hn hq fun fs hr => retN X hx hret ht hd hr
theorem own_retJ (X : Stand p l e R s m args below meth c T locs cells slots) (hx : p.tables.exec = Jvm.exec) (hlk : meth.locks = false) (hret : meth.sig.returnType = some .long) {z : Int64} (hd : decode c.code pc = .ok (.lreturn, 1)) (hc : cells ≤ k) (hn : slots ≤ n) (hq : Q (some (.long z)) T.heap locs) : own_WP p e below s Q k n (T.setTop (mkF m pc ls (.long z :: rest))) :=
  own_done X hlk (fun q => by rw [hret] at q; cases q) hc hn hq fun fs hr => retOut X hx hret rfl (Or.inr (Or.inl ⟨rfl, rfl, z, rfl⟩)) hd hr
theorem own_retA (X : Stand p l e R s m args below meth c T locs cells slots) (hx : p.tables.exec = Jvm.exec) (hlk : meth.locks = false) {t : FieldType} (ht : t.isReference = true) (hret : meth.sig.returnType = some t) {w : Value} (hw : w.isRef = true) (hnw : narrow t w = w) (hd : decode c.code pc = .ok (.areturn, 1)) (hc : cells ≤ k) (hn : slots ≤ n) (hq : Q (some w) T.heap locs) : own_WP p e below s Q k n (T.setTop (mkF m pc ls (w :: rest))) :=
  own_done X hlk (fun q => by rw [hret] at q; cases q) hc hn hq fun fs hr => retOut X hx hret hnw (Or.inr (Or.inr (Or.inr (Or.inr ⟨rfl, ht, hw⟩)))) hd hr
theorem own_ret0 (X : Stand p l e R s m args below meth c T locs cells slots) (hx : p.tables.exec = Jvm.exec) (hlk : meth.locks = false) (hret : meth.sig.returnType = none) (hd : decode c.code pc = .ok (.return_, 1)) (hc : cells ≤ k) (hn : slots ≤ n) (hq : Q none T.heap locs) : own_WP p e below s Q k n (T.setTop (mkF m pc ls [])) :=
  own_done X hlk (fun _ => rfl) hc hn hq fun fs hr => X.returnOut hx hret hd hr
theorem own_iload (X : Stand p l e R s m args below meth c T locs cells slots) (hx : p.tables.exec = Jvm.exec) {j : Nat} {v : Int32} (hd : decode c.code pc = .ok (.iload j, 2)) (hl : ls[j]? = some (.val (.int v))) (hpc : pc + 2 = pc') (w : own_WP p e below s Q k n (T.setTop (mkF m pc' ls (.int v :: rest)))) : own_WP p e below s Q k n (T.setTop (mkF m pc ls rest)) := by
  subst hpc
  exact own_of (fun t q => XS.iload X.here hx rfl hd hl q) w
theorem own_iloadN (X : Stand p l e R s m args below meth c T locs cells slots) (hx : p.tables.exec = Jvm.exec) {j : Fin 4} {v : Int32} (hd : decode c.code pc = .ok (.iload_n j, 1)) (hl : ls[j.val]? = some (.val (.int v))) (hpc : pc + 1 = pc') (w : own_WP p e below s Q k n (T.setTop (mkF m pc' ls (.int v :: rest)))) : own_WP p e below s Q k n (T.setTop (mkF m pc ls rest)) := by
  subst hpc
  exact own_of (fun t q => XS.iloadN X.here hx rfl hd hl q) w
theorem own_lload (X : Stand p l e R s m args below meth c T locs cells slots) (hx : p.tables.exec = Jvm.exec) {j : Nat} {v : Int64} (hd : decode c.code pc = .ok (.lload j, 2)) (hl : ls[j]? = some (.val (.long v))) (hpc : pc + 2 = pc') (w : own_WP p e below s Q k n (T.setTop (mkF m pc' ls (.long v :: rest)))) : own_WP p e below s Q k n (T.setTop (mkF m pc ls rest)) := by
  subst hpc
  exact own_of (fun t q => XS.lload X.here hx rfl hd hl q) w
theorem own_lloadN (X : Stand p l e R s m args below meth c T locs cells slots) (hx : p.tables.exec = Jvm.exec) {j : Fin 4} {v : Int64} (hd : decode c.code pc = .ok (.lload_n j, 1)) (hl : ls[j.val]? = some (.val (.long v))) (hpc : pc + 1 = pc') (w : own_WP p e below s Q k n (T.setTop (mkF m pc' ls (.long v :: rest)))) : own_WP p e below s Q k n (T.setTop (mkF m pc ls rest)) := by
  subst hpc
  exact own_of (fun t q => XS.lloadN X.here hx rfl hd hl q) w
theorem own_aload (X : Stand p l e R s m args below meth c T locs cells slots) (hx : p.tables.exec = Jvm.exec) {j : Nat} {v : Value} (hd : decode c.code pc = .ok (.aload j, 2)) (hl : ls[j]? = some (.val v)) (hv : v.isRef = true) (hpc : pc + 2 = pc') (w : own_WP p e below s Q k n (T.setTop (mkF m pc' ls (v :: rest)))) : own_WP p e below s Q k n (T.setTop (mkF m pc ls rest)) := by
  subst hpc
  exact own_of (fun t q => XS.aload X.here hx rfl hd hl hv q) w
theorem own_aloadN (X : Stand p l e R s m args below meth c T locs cells slots) (hx : p.tables.exec = Jvm.exec) {j : Fin 4} {v : Value} (hd : decode c.code pc = .ok (.aload_n j, 1)) (hl : ls[j.val]? = some (.val v)) (hv : v.isRef = true) (hpc : pc + 1 = pc') (w : own_WP p e below s Q k n (T.setTop (mkF m pc' ls (v :: rest)))) : own_WP p e below s Q k n (T.setTop (mkF m pc ls rest)) := by
  subst hpc
  exact own_of (fun t q => XS.aloadN X.here hx rfl hd hl hv q) w
theorem own_istore (X : Stand p l e R s m args below meth c T locs cells slots) (hx : p.tables.exec = Jvm.exec) {j : Nat} {v z : Int32} (hd : decode c.code pc = .ok (.istore j, 2)) (hz : z = v) (hl : storeLocals ls j (.int z) = some l') (hpc : pc + 2 = pc') (w : own_WP p e below s Q k n (T.setTop (mkF m pc' l' rest))) : own_WP p e below s Q k n (T.setTop (mkF m pc ls (.int v :: rest))) := by
  subst hpc
  exact own_of (fun t q => XS.istore X.here hx rfl hd rfl (hz ▸ hl) q) w
theorem own_istoreN (X : Stand p l e R s m args below meth c T locs cells slots) (hx : p.tables.exec = Jvm.exec) {j : Fin 4} {v z : Int32} (hd : decode c.code pc = .ok (.istore_n j, 1)) (hz : z = v) (hl : storeLocals ls j.val (.int z) = some l') (hpc : pc + 1 = pc') (w : own_WP p e below s Q k n (T.setTop (mkF m pc' l' rest))) : own_WP p e below s Q k n (T.setTop (mkF m pc ls (.int v :: rest))) := by
  subst hpc
  exact own_of (fun t q => XS.istoreN X.here hx rfl hd rfl (hz ▸ hl) q) w
theorem own_lstore (X : Stand p l e R s m args below meth c T locs cells slots) (hx : p.tables.exec = Jvm.exec) {j : Nat} {v z : Int64} (hd : decode c.code pc = .ok (.lstore j, 2)) (hz : z = v) (hl : storeLocals ls j (.long z) = some l') (hpc : pc + 2 = pc') (w : own_WP p e below s Q k n (T.setTop (mkF m pc' l' rest))) : own_WP p e below s Q k n (T.setTop (mkF m pc ls (.long v :: rest))) := by
  subst hpc
  exact own_of (fun t q => XS.lstore X.here hx rfl hd rfl (hz ▸ hl) q) w
theorem own_lstoreN (X : Stand p l e R s m args below meth c T locs cells slots) (hx : p.tables.exec = Jvm.exec) {j : Fin 4} {v z : Int64} (hd : decode c.code pc = .ok (.lstore_n j, 1)) (hz : z = v) (hl : storeLocals ls j.val (.long z) = some l') (hpc : pc + 1 = pc') (w : own_WP p e below s Q k n (T.setTop (mkF m pc' l' rest))) : own_WP p e below s Q k n (T.setTop (mkF m pc ls (.long v :: rest))) := by
  subst hpc
  exact own_of (fun t q => XS.lstoreN X.here hx rfl hd rfl (hz ▸ hl) q) w
theorem own_astore (X : Stand p l e R s m args below meth c T locs cells slots) (hx : p.tables.exec = Jvm.exec) {j : Nat} {v : Value} (hd : decode c.code pc = .ok (.astore j, 2)) (hv : v.isRef = true) (hl : storeLocals ls j v = some l') (hpc : pc + 2 = pc') (w : own_WP p e below s Q k n (T.setTop (mkF m pc' l' rest))) : own_WP p e below s Q k n (T.setTop (mkF m pc ls (v :: rest))) := by
  subst hpc
  exact own_of (fun t q => XS.astore X.here hx rfl hd rfl hv hl q) w
theorem own_astoreN (X : Stand p l e R s m args below meth c T locs cells slots) (hx : p.tables.exec = Jvm.exec) {j : Fin 4} {v : Value} (hd : decode c.code pc = .ok (.astore_n j, 1)) (hv : v.isRef = true) (hl : storeLocals ls j.val v = some l') (hpc : pc + 1 = pc') (w : own_WP p e below s Q k n (T.setTop (mkF m pc' l' rest))) : own_WP p e below s Q k n (T.setTop (mkF m pc ls (v :: rest))) := by
  subst hpc
  exact own_of (fun t q => XS.astoreN X.here hx rfl hd rfl hv hl q) w
theorem own_iinc (X : Stand p l e R s m args below meth c T locs cells slots) (hx : p.tables.exec = Jvm.exec) {j : Nat} {i : Int} {v z : Int32} (hd : decode c.code pc = .ok (.iinc j i, 3)) (hl0 : ls[j]? = some (.val (.int v))) (hz : z = v + Int32.ofInt i) (hl : storeLocals ls j (.int z) = some l') (hpc : pc + 3 = pc') (w : own_WP p e below s Q k n (T.setTop (mkF m pc' l' rest))) : own_WP p e below s Q k n (T.setTop (mkF m pc ls rest)) := by
  subst hpc
  exact own_of (fun t q => XS.iinc X.here hx rfl hd hl0 (hz ▸ hl) q) w
theorem own_iconst (X : Stand p l e R s m args below meth c T locs cells slots) (hx : p.tables.exec = Jvm.exec) {i : Int} (v : Int32) (hd : decode c.code pc = .ok (.iconst i, 1)) (hv : v = Int32.ofInt i) (hpc : pc + 1 = pc') (w : own_WP p e below s Q k n (T.setTop (mkF m pc' ls (.int v :: rest)))) : own_WP p e below s Q k n (T.setTop (mkF m pc ls rest)) := by
  subst hpc
  exact own_of (fun t q => XS.iconst X.here hx rfl hd (hv ▸ q)) w
theorem own_bipush (X : Stand p l e R s m args below meth c T locs cells slots) (hx : p.tables.exec = Jvm.exec) {i : Int} (v : Int32) (hd : decode c.code pc = .ok (.bipush i, 2)) (hv : v = (Int8.ofInt i).toInt32) (hpc : pc + 2 = pc') (w : own_WP p e below s Q k n (T.setTop (mkF m pc' ls (.int v :: rest)))) : own_WP p e below s Q k n (T.setTop (mkF m pc ls rest)) := by
  subst hpc
  exact own_of (fun t q => XS.bipush X.here hx rfl hd (hv ▸ q)) w
theorem own_sipush (X : Stand p l e R s m args below meth c T locs cells slots) (hx : p.tables.exec = Jvm.exec) {i : Int} (v : Int32) (hd : decode c.code pc = .ok (.sipush i, 3)) (hv : v = (Int16.ofInt i).toInt32) (hpc : pc + 3 = pc') (w : own_WP p e below s Q k n (T.setTop (mkF m pc' ls (.int v :: rest)))) : own_WP p e below s Q k n (T.setTop (mkF m pc ls rest)) := by
  subst hpc
  exact own_of (fun t q => XS.sipush X.here hx rfl hd (hv ▸ q)) w
theorem own_anull (X : Stand p l e R s m args below meth c T locs cells slots) (hx : p.tables.exec = Jvm.exec)  (hd : decode c.code pc = .ok (.aconst_null, 1)) (hpc : pc + 1 = pc') (w : own_WP p e below s Q k n (T.setTop (mkF m pc' ls (.null :: rest)))) : own_WP p e below s Q k n (T.setTop (mkF m pc ls rest)) := by
  subst hpc
  exact own_of (fun t q => XS.aconstNull X.here hx rfl hd q) w
theorem own_lconst0 (X : Stand p l e R s m args below meth c T locs cells slots) (hx : p.tables.exec = Jvm.exec)  (hd : decode c.code pc = .ok (.lconst 0, 1)) (hpc : pc + 1 = pc') (w : own_WP p e below s Q k n (T.setTop (mkF m pc' ls (.long 0 :: rest)))) : own_WP p e below s Q k n (T.setTop (mkF m pc ls rest)) := by
  subst hpc
  exact own_of (fun t q => XS.lconst X.here hx rfl hd q) w
theorem own_lconst1 (X : Stand p l e R s m args below meth c T locs cells slots) (hx : p.tables.exec = Jvm.exec)  (hd : decode c.code pc = .ok (.lconst 1, 1)) (hpc : pc + 1 = pc') (w : own_WP p e below s Q k n (T.setTop (mkF m pc' ls (.long 1 :: rest)))) : own_WP p e below s Q k n (T.setTop (mkF m pc ls rest)) := by
  subst hpc
  exact own_of (fun t q => XS.lconst X.here hx rfl hd q) w
theorem own_ldcInt (X : Stand p l e R s m args below meth c T locs cells slots) (hx : p.tables.exec = Jvm.exec) (hZ : Z.Warmed39 s.vm) {own : String} {idx : Nat} {v : Int32} (hown : s.vm.findClass own = some m.cls) (w1 : (Jvm.Cond.constant own idx v).before a0 Z = true) (hd : decode c.code pc = .ok (.ldc idx, 2)) (hpc : pc + 2 = pc') (w : own_WP p e below s Q k n (T.setTop (mkF m pc' ls (.int v :: rest)))) : own_WP p e below s Q k n (T.setTop (mkF m pc ls rest)) := by
  subst hpc
  exact own_of (fun t q => X.ldcInt hx hown (mvT hZ w1) (g := mkF m pc ls rest) rfl hd _ q) w
theorem own_ldcwInt (X : Stand p l e R s m args below meth c T locs cells slots) (hx : p.tables.exec = Jvm.exec) (hZ : Z.Warmed39 s.vm) {own : String} {idx : Nat} {v : Int32} (hown : s.vm.findClass own = some m.cls) (w1 : (Jvm.Cond.constant own idx v).before a0 Z = true) (hd : decode c.code pc = .ok (.ldc_w idx, 3)) (hpc : pc + 3 = pc') (w : own_WP p e below s Q k n (T.setTop (mkF m pc' ls (.int v :: rest)))) : own_WP p e below s Q k n (T.setTop (mkF m pc ls rest)) := by
  subst hpc
  exact own_of (fun t q => X.ldcwInt hx hown (mvT hZ w1) (g := mkF m pc ls rest) rfl hd _ q) w
theorem own_ldc2Long (X : Stand p l e R s m args below meth c T locs cells slots) (hx : p.tables.exec = Jvm.exec) (hZ : Z.Warmed39 s.vm) {own : String} {idx : Nat} {v : Int64} (hown : s.vm.findClass own = some m.cls) (w1 : (Jvm.Cond.constantLong own idx v).before a0 Z = true) (hd : decode c.code pc = .ok (.ldc2_w idx, 3)) (hpc : pc + 3 = pc') (w : own_WP p e below s Q k n (T.setTop (mkF m pc' ls (.long v :: rest)))) : own_WP p e below s Q k n (T.setTop (mkF m pc ls rest)) := by
  subst hpc
  exact own_of (fun t q => X.ldc2Long hx hown (mvT hZ w1) (g := mkF m pc ls rest) rfl hd _ q) w
theorem own_iadd (X : Stand p l e R s m args below meth c T locs cells slots) (hx : p.tables.exec = Jvm.exec) {x y : Int32} (hd : decode c.code pc = .ok (.iadd, 1)) (hpc : pc + 1 = pc') (w : own_WP p e below s Q k n (T.setTop (mkF m pc' ls (.int (x + y) :: rest)))) : own_WP p e below s Q k n (T.setTop (mkF m pc ls (.int y :: .int x :: rest))) := by
  subst hpc
  exact own_of (fun t q => XS.iadd X.here hx rfl hd rfl q) w
theorem own_ladd (X : Stand p l e R s m args below meth c T locs cells slots) (hx : p.tables.exec = Jvm.exec) {x y : Int64} (hd : decode c.code pc = .ok (.ladd, 1)) (hpc : pc + 1 = pc') (w : own_WP p e below s Q k n (T.setTop (mkF m pc' ls (.long (x + y) :: rest)))) : own_WP p e below s Q k n (T.setTop (mkF m pc ls (.long y :: .long x :: rest))) := by
  subst hpc
  exact own_of (fun t q => XS.ladd X.here hx rfl hd rfl q) w
theorem own_isub (X : Stand p l e R s m args below meth c T locs cells slots) (hx : p.tables.exec = Jvm.exec) {x y : Int32} (hd : decode c.code pc = .ok (.isub, 1)) (hpc : pc + 1 = pc') (w : own_WP p e below s Q k n (T.setTop (mkF m pc' ls (.int (x - y) :: rest)))) : own_WP p e below s Q k n (T.setTop (mkF m pc ls (.int y :: .int x :: rest))) := by
  subst hpc
  exact own_of (fun t q => XS.isub X.here hx rfl hd rfl q) w
theorem own_lsub (X : Stand p l e R s m args below meth c T locs cells slots) (hx : p.tables.exec = Jvm.exec) {x y : Int64} (hd : decode c.code pc = .ok (.lsub, 1)) (hpc : pc + 1 = pc') (w : own_WP p e below s Q k n (T.setTop (mkF m pc' ls (.long (x - y) :: rest)))) : own_WP p e below s Q k n (T.setTop (mkF m pc ls (.long y :: .long x :: rest))) := by
  subst hpc
  exact own_of (fun t q => XS.lsub X.here hx rfl hd rfl q) w
theorem own_imul (X : Stand p l e R s m args below meth c T locs cells slots) (hx : p.tables.exec = Jvm.exec) {x y : Int32} (hd : decode c.code pc = .ok (.imul, 1)) (hpc : pc + 1 = pc') (w : own_WP p e below s Q k n (T.setTop (mkF m pc' ls (.int (x * y) :: rest)))) : own_WP p e below s Q k n (T.setTop (mkF m pc ls (.int y :: .int x :: rest))) := by
  subst hpc
  exact own_of (fun t q => XS.imul X.here hx rfl hd rfl q) w
theorem own_lmul (X : Stand p l e R s m args below meth c T locs cells slots) (hx : p.tables.exec = Jvm.exec) {x y : Int64} (hd : decode c.code pc = .ok (.lmul, 1)) (hpc : pc + 1 = pc') (w : own_WP p e below s Q k n (T.setTop (mkF m pc' ls (.long (x * y) :: rest)))) : own_WP p e below s Q k n (T.setTop (mkF m pc ls (.long y :: .long x :: rest))) := by
  subst hpc
  exact own_of (fun t q => XS.lmul X.here hx rfl hd rfl q) w
theorem own_iand (X : Stand p l e R s m args below meth c T locs cells slots) (hx : p.tables.exec = Jvm.exec) {x y : Int32} (hd : decode c.code pc = .ok (.iand, 1)) (hpc : pc + 1 = pc') (w : own_WP p e below s Q k n (T.setTop (mkF m pc' ls (.int (x &&& y) :: rest)))) : own_WP p e below s Q k n (T.setTop (mkF m pc ls (.int y :: .int x :: rest))) := by
  subst hpc
  exact own_of (fun t q => XS.iand X.here hx rfl hd rfl q) w
theorem own_land (X : Stand p l e R s m args below meth c T locs cells slots) (hx : p.tables.exec = Jvm.exec) {x y : Int64} (hd : decode c.code pc = .ok (.land, 1)) (hpc : pc + 1 = pc') (w : own_WP p e below s Q k n (T.setTop (mkF m pc' ls (.long (x &&& y) :: rest)))) : own_WP p e below s Q k n (T.setTop (mkF m pc ls (.long y :: .long x :: rest))) := by
  subst hpc
  exact own_of (fun t q => XS.land X.here hx rfl hd rfl q) w
theorem own_ior (X : Stand p l e R s m args below meth c T locs cells slots) (hx : p.tables.exec = Jvm.exec) {x y : Int32} (hd : decode c.code pc = .ok (.ior, 1)) (hpc : pc + 1 = pc') (w : own_WP p e below s Q k n (T.setTop (mkF m pc' ls (.int (x ||| y) :: rest)))) : own_WP p e below s Q k n (T.setTop (mkF m pc ls (.int y :: .int x :: rest))) := by
  subst hpc
  exact own_of (fun t q => XS.ior X.here hx rfl hd rfl q) w
theorem own_lor (X : Stand p l e R s m args below meth c T locs cells slots) (hx : p.tables.exec = Jvm.exec) {x y : Int64} (hd : decode c.code pc = .ok (.lor, 1)) (hpc : pc + 1 = pc') (w : own_WP p e below s Q k n (T.setTop (mkF m pc' ls (.long (x ||| y) :: rest)))) : own_WP p e below s Q k n (T.setTop (mkF m pc ls (.long y :: .long x :: rest))) := by
  subst hpc
  exact own_of (fun t q => XS.lor X.here hx rfl hd rfl q) w
theorem own_ixor (X : Stand p l e R s m args below meth c T locs cells slots) (hx : p.tables.exec = Jvm.exec) {x y : Int32} (hd : decode c.code pc = .ok (.ixor, 1)) (hpc : pc + 1 = pc') (w : own_WP p e below s Q k n (T.setTop (mkF m pc' ls (.int (x ^^^ y) :: rest)))) : own_WP p e below s Q k n (T.setTop (mkF m pc ls (.int y :: .int x :: rest))) := by
  subst hpc
  exact own_of (fun t q => XS.ixor X.here hx rfl hd rfl q) w
theorem own_lxor (X : Stand p l e R s m args below meth c T locs cells slots) (hx : p.tables.exec = Jvm.exec) {x y : Int64} (hd : decode c.code pc = .ok (.lxor, 1)) (hpc : pc + 1 = pc') (w : own_WP p e below s Q k n (T.setTop (mkF m pc' ls (.long (x ^^^ y) :: rest)))) : own_WP p e below s Q k n (T.setTop (mkF m pc ls (.long y :: .long x :: rest))) := by
  subst hpc
  exact own_of (fun t q => XS.lxor X.here hx rfl hd rfl q) w
theorem own_ishl (X : Stand p l e R s m args below meth c T locs cells slots) (hx : p.tables.exec = Jvm.exec) {x y : Int32} (hd : decode c.code pc = .ok (.ishl, 1)) (hpc : pc + 1 = pc') (w : own_WP p e below s Q k n (T.setTop (mkF m pc' ls (.int (x <<< (y &&& 31)) :: rest)))) : own_WP p e below s Q k n (T.setTop (mkF m pc ls (.int y :: .int x :: rest))) := by
  subst hpc
  exact own_of (fun t q => XS.ishl X.here hx rfl hd rfl q) w
theorem own_ishr (X : Stand p l e R s m args below meth c T locs cells slots) (hx : p.tables.exec = Jvm.exec) {x y : Int32} (hd : decode c.code pc = .ok (.ishr, 1)) (hpc : pc + 1 = pc') (w : own_WP p e below s Q k n (T.setTop (mkF m pc' ls (.int (x >>> (y &&& 31)) :: rest)))) : own_WP p e below s Q k n (T.setTop (mkF m pc ls (.int y :: .int x :: rest))) := by
  subst hpc
  exact own_of (fun t q => XS.ishr X.here hx rfl hd rfl q) w
theorem own_iushr (X : Stand p l e R s m args below meth c T locs cells slots) (hx : p.tables.exec = Jvm.exec) {x y : Int32} (hd : decode c.code pc = .ok (.iushr, 1)) (hpc : pc + 1 = pc') (w : own_WP p e below s Q k n (T.setTop (mkF m pc' ls (.int ((x.toUInt32 >>> (y &&& 31).toUInt32).toInt32) :: rest)))) : own_WP p e below s Q k n (T.setTop (mkF m pc ls (.int y :: .int x :: rest))) := by
  subst hpc
  exact own_of (fun t q => XS.iushr X.here hx rfl hd rfl q) w
theorem own_lshl (X : Stand p l e R s m args below meth c T locs cells slots) (hx : p.tables.exec = Jvm.exec) {x : Int64} {y : Int32} (hd : decode c.code pc = .ok (.lshl, 1)) (hpc : pc + 1 = pc') (w : own_WP p e below s Q k n (T.setTop (mkF m pc' ls (.long (x <<< (y &&& 0x3f).toInt64) :: rest)))) : own_WP p e below s Q k n (T.setTop (mkF m pc ls (.int y :: .long x :: rest))) := by
  subst hpc
  exact own_of (fun t q => XS.lshl X.here hx rfl hd rfl q) w
theorem own_lshr (X : Stand p l e R s m args below meth c T locs cells slots) (hx : p.tables.exec = Jvm.exec) {x : Int64} {y : Int32} (hd : decode c.code pc = .ok (.lshr, 1)) (hpc : pc + 1 = pc') (w : own_WP p e below s Q k n (T.setTop (mkF m pc' ls (.long (x >>> (y &&& 0x3f).toInt64) :: rest)))) : own_WP p e below s Q k n (T.setTop (mkF m pc ls (.int y :: .long x :: rest))) := by
  subst hpc
  exact own_of (fun t q => XS.lshr X.here hx rfl hd rfl q) w
theorem own_lushr (X : Stand p l e R s m args below meth c T locs cells slots) (hx : p.tables.exec = Jvm.exec) {x : Int64} {y : Int32} (hd : decode c.code pc = .ok (.lushr, 1)) (hpc : pc + 1 = pc') (w : own_WP p e below s Q k n (T.setTop (mkF m pc' ls (.long ((x.toUInt64 >>> (y &&& 0x3f).toInt64.toUInt64).toInt64) :: rest)))) : own_WP p e below s Q k n (T.setTop (mkF m pc ls (.int y :: .long x :: rest))) := by
  subst hpc
  exact own_of (fun t q => XS.lushr X.here hx rfl hd rfl q) w
theorem own_idiv (X : Stand p l e R s m args below meth c T locs cells slots) (hx : p.tables.exec = Jvm.exec) {x y : Int32} (hd : decode c.code pc = .ok (.idiv, 1)) (hy : y ≠ 0) (hpc : pc + 1 = pc') (w : own_WP p e below s Q k n (T.setTop (mkF m pc' ls (.int (x / y) :: rest)))) : own_WP p e below s Q k n (T.setTop (mkF m pc ls (.int y :: .int x :: rest))) := by
  subst hpc
  exact own_of (fun t q => XS.idiv X.here hx rfl hd rfl hy q) w
theorem own_irem (X : Stand p l e R s m args below meth c T locs cells slots) (hx : p.tables.exec = Jvm.exec) {x y : Int32} (hd : decode c.code pc = .ok (.irem, 1)) (hy : y ≠ 0) (hpc : pc + 1 = pc') (w : own_WP p e below s Q k n (T.setTop (mkF m pc' ls (.int (x % y) :: rest)))) : own_WP p e below s Q k n (T.setTop (mkF m pc ls (.int y :: .int x :: rest))) := by
  subst hpc
  exact own_of (fun t q => iremM X hx rfl hd rfl hy q) w
theorem own_ldiv (X : Stand p l e R s m args below meth c T locs cells slots) (hx : p.tables.exec = Jvm.exec) {x y : Int64} (hd : decode c.code pc = .ok (.ldiv, 1)) (hy : y ≠ 0) (hpc : pc + 1 = pc') (w : own_WP p e below s Q k n (T.setTop (mkF m pc' ls (.long (x / y) :: rest)))) : own_WP p e below s Q k n (T.setTop (mkF m pc ls (.long y :: .long x :: rest))) := by
  subst hpc
  exact own_of (fun t q => XS.ldiv X.here hx rfl hd rfl hy q) w
theorem own_lrem (X : Stand p l e R s m args below meth c T locs cells slots) (hx : p.tables.exec = Jvm.exec) {x y : Int64} (hd : decode c.code pc = .ok (.lrem, 1)) (hy : y ≠ 0) (hpc : pc + 1 = pc') (w : own_WP p e below s Q k n (T.setTop (mkF m pc' ls (.long (x % y) :: rest)))) : own_WP p e below s Q k n (T.setTop (mkF m pc ls (.long y :: .long x :: rest))) := by
  subst hpc
  exact own_of (fun t q => XS.lrem X.here hx rfl hd rfl hy ((lrem_mod x y).symm ▸ q)) w
theorem own_ineg (X : Stand p l e R s m args below meth c T locs cells slots) (hx : p.tables.exec = Jvm.exec) {x : Int32} (hd : decode c.code pc = .ok (.ineg, 1)) (hpc : pc + 1 = pc') (w : own_WP p e below s Q k n (T.setTop (mkF m pc' ls (.int (-x) :: rest)))) : own_WP p e below s Q k n (T.setTop (mkF m pc ls (.int x :: rest))) := by
  subst hpc
  exact own_of (fun t q => XS.ineg X.here hx rfl hd rfl q) w
theorem own_lneg (X : Stand p l e R s m args below meth c T locs cells slots) (hx : p.tables.exec = Jvm.exec) {x : Int64} (hd : decode c.code pc = .ok (.lneg, 1)) (hpc : pc + 1 = pc') (w : own_WP p e below s Q k n (T.setTop (mkF m pc' ls (.long (-x) :: rest)))) : own_WP p e below s Q k n (T.setTop (mkF m pc ls (.long x :: rest))) := by
  subst hpc
  exact own_of (fun t q => XS.lneg X.here hx rfl hd rfl q) w
theorem own_i2l (X : Stand p l e R s m args below meth c T locs cells slots) (hx : p.tables.exec = Jvm.exec) {x : Int32} (hd : decode c.code pc = .ok (.i2l, 1)) (hpc : pc + 1 = pc') (w : own_WP p e below s Q k n (T.setTop (mkF m pc' ls (.long (x.toInt64) :: rest)))) : own_WP p e below s Q k n (T.setTop (mkF m pc ls (.int x :: rest))) := by
  subst hpc
  exact own_of (fun t q => XS.i2l X.here hx rfl hd rfl q) w
theorem own_l2i (X : Stand p l e R s m args below meth c T locs cells slots) (hx : p.tables.exec = Jvm.exec) {x : Int64} (hd : decode c.code pc = .ok (.l2i, 1)) (hpc : pc + 1 = pc') (w : own_WP p e below s Q k n (T.setTop (mkF m pc' ls (.int (x.toInt32) :: rest)))) : own_WP p e below s Q k n (T.setTop (mkF m pc ls (.long x :: rest))) := by
  subst hpc
  exact own_of (fun t q => XS.l2i X.here hx rfl hd rfl q) w
theorem own_i2b (X : Stand p l e R s m args below meth c T locs cells slots) (hx : p.tables.exec = Jvm.exec) {x : Int32} (hd : decode c.code pc = .ok (.i2b, 1)) (hpc : pc + 1 = pc') (w : own_WP p e below s Q k n (T.setTop (mkF m pc' ls (.int (x.toInt8.toInt32) :: rest)))) : own_WP p e below s Q k n (T.setTop (mkF m pc ls (.int x :: rest))) := by
  subst hpc
  exact own_of (fun t q => XS.i2b X.here hx rfl hd rfl q) w
theorem own_i2s (X : Stand p l e R s m args below meth c T locs cells slots) (hx : p.tables.exec = Jvm.exec) {x : Int32} (hd : decode c.code pc = .ok (.i2s, 1)) (hpc : pc + 1 = pc') (w : own_WP p e below s Q k n (T.setTop (mkF m pc' ls (.int (x.toInt16.toInt32) :: rest)))) : own_WP p e below s Q k n (T.setTop (mkF m pc ls (.int x :: rest))) := by
  subst hpc
  exact own_of (fun t q => XS.i2s X.here hx rfl hd rfl q) w
theorem own_i2c (X : Stand p l e R s m args below meth c T locs cells slots) (hx : p.tables.exec = Jvm.exec) {x : Int32} (hd : decode c.code pc = .ok (.i2c, 1)) (hpc : pc + 1 = pc') (w : own_WP p e below s Q k n (T.setTop (mkF m pc' ls (.int (x.toUInt32.toUInt16.toUInt32.toInt32) :: rest)))) : own_WP p e below s Q k n (T.setTop (mkF m pc ls (.int x :: rest))) := by
  subst hpc
  exact own_of (fun t q => XS.i2c X.here hx rfl hd rfl q) w
theorem own_lcmp (X : Stand p l e R s m args below meth c T locs cells slots) (hx : p.tables.exec = Jvm.exec) {x y : Int64} (hd : decode c.code pc = .ok (.lcmp, 1)) (hpc : pc + 1 = pc') (w : own_WP p e below s Q k n (T.setTop (mkF m pc' ls (.int (lcmpW x y) :: rest)))) : own_WP p e below s Q k n (T.setTop (mkF m pc ls (.long y :: .long x :: rest))) := by
  subst hpc
  exact own_of (fun t q => XS.lcmp X.here hx rfl hd rfl q) w
theorem own_dup (X : Stand p l e R s m args below meth c T locs cells slots) (hx : p.tables.exec = Jvm.exec) {v : Value} (hd : decode c.code pc = .ok (.dup, 1)) (hv : v.category = 1) (hpc : pc + 1 = pc') (w : own_WP p e below s Q k n (T.setTop (mkF m pc' ls (v :: v :: rest)))) : own_WP p e below s Q k n (T.setTop (mkF m pc ls (v :: rest))) := by
  subst hpc
  exact own_of (fun t q => XS.dup X.here hx rfl hd rfl hv q) w
theorem own_pop (X : Stand p l e R s m args below meth c T locs cells slots) (hx : p.tables.exec = Jvm.exec) {v : Value} (hd : decode c.code pc = .ok (.pop, 1)) (hv : v.category = 1) (hpc : pc + 1 = pc') (w : own_WP p e below s Q k n (T.setTop (mkF m pc' ls rest))) : own_WP p e below s Q k n (T.setTop (mkF m pc ls (v :: rest))) := by
  subst hpc
  exact own_of (fun t q => XS.pop X.here hx rfl hd rfl hv q) w
theorem own_dup2 (X : Stand p l e R s m args below meth c T locs cells slots) (hx : p.tables.exec = Jvm.exec) {v1 v2 : Value} (hd : decode c.code pc = .ok (.dup2, 1)) (h1 : v1.category = 1) (h2 : v2.category = 1) (hpc : pc + 1 = pc') (w : own_WP p e below s Q k n (T.setTop (mkF m pc' ls (v1 :: v2 :: v1 :: v2 :: rest)))) : own_WP p e below s Q k n (T.setTop (mkF m pc ls (v1 :: v2 :: rest))) := by
  subst hpc
  refine own_of (fun t q => ?_) w
  jvm_step X.here [X.here.top, hx, hd, h1, h2]
  exact q
theorem own_goto (X : Stand p l e R s m args below meth c T locs cells slots) (hx : p.tables.exec = Jvm.exec) {o : Int} (hd : decode c.code pc = .ok (.goto o, 3)) (ho : 0 ≤ (pc : Int) + o) (hpc : ((pc : Int) + o).toNat = pc') (w : own_WP p e below s Q k n (T.setTop (mkF m pc' ls rest))) : own_WP p e below s Q k n (T.setTop (mkF m pc ls rest)) :=
  own_of (fun t q => XS.goto X.here hx rfl (pc0 := pc) (pc' := pc') rfl hd ho hpc q) w
theorem own_icmp_lt (X : Stand p l e R s m args below meth c T locs cells slots) (hx : p.tables.exec = Jvm.exec) {x y : Int32} {o : Int} {pf pt : Nat} (hd : decode c.code pc = .ok (.if_icmp .lt o, 3)) (hpf : pc + 3 = pf) (ho : 0 ≤ (pc : Int) + o) (hpt : ((pc : Int) + o).toNat = pt)
    (yes : x < y → own_WP p e below s Q k n (T.setTop (mkF m pt ls rest))) (no : ¬ x < y → own_WP p e below s Q k n (T.setTop (mkF m pf ls rest))) : own_WP p e below s Q k n (T.setTop (mkF m pc ls (.int y :: .int x :: rest))) := by
  subst hpf
  by_cases hq : x < y
  · exact own_of (fun t q => XS.icmpYes X.here hx rfl (pc0 := pc) (pc' := pt) rfl hd rfl ((tlt hq).1) ho hpt q) (yes hq)
  · exact own_of (fun t q => XS.icmpNo X.here hx rfl hd rfl ((flt hq).1) q) (no hq)
theorem own_if_lt (X : Stand p l e R s m args below meth c T locs cells slots) (hx : p.tables.exec = Jvm.exec) {x : Int32} {o : Int} {pf pt : Nat} (hd : decode c.code pc = .ok (.ifCond .lt o, 3)) (hpf : pc + 3 = pf) (ho : 0 ≤ (pc : Int) + o) (hpt : ((pc : Int) + o).toNat = pt)
    (yes : x < 0 → own_WP p e below s Q k n (T.setTop (mkF m pt ls rest))) (no : ¬ x < 0 → own_WP p e below s Q k n (T.setTop (mkF m pf ls rest))) : own_WP p e below s Q k n (T.setTop (mkF m pc ls (.int x :: rest))) := by
  subst hpf
  by_cases hq : x < 0
  · exact own_of (fun t q => XS.ifYes X.here hx rfl (pc0 := pc) (pc' := pt) rfl hd rfl ((if0 _ _).trans (tlt hq).1) ho hpt q) (yes hq)
  · exact own_of (fun t q => XS.ifNo X.here hx rfl hd rfl ((if0 _ _).trans (flt hq).1) q) (no hq)
theorem own_ifl_lt (X : Stand p l e R s m args below meth c T locs cells slots) (hx : p.tables.exec = Jvm.exec) {x y : Int64} {o : Int} {pf pt : Nat} (hd : decode c.code pc = .ok (.ifCond .lt o, 3)) (hpf : pc + 3 = pf) (ho : 0 ≤ (pc : Int) + o) (hpt : ((pc : Int) + o).toNat = pt)
    (yes : x < y → own_WP p e below s Q k n (T.setTop (mkF m pt ls rest))) (no : ¬ x < y → own_WP p e below s Q k n (T.setTop (mkF m pf ls rest))) : own_WP p e below s Q k n (T.setTop (mkF m pc ls (.int (lcmpW x y) :: rest))) := by
  subst hpf
  by_cases hq : x < y
  · exact own_of (fun t q => XS.ifYes X.here hx rfl (pc0 := pc) (pc' := pt) rfl hd rfl ((if0 _ _).trans (tlt ((lw_lt x y).mpr hq)).1) ho hpt q) (yes hq)
  · exact own_of (fun t q => XS.ifNo X.here hx rfl hd rfl ((if0 _ _).trans (flt (fun z => hq ((lw_lt x y).mp z))).1) q) (no hq)
theorem own_icmp_ge (X : Stand p l e R s m args below meth c T locs cells slots) (hx : p.tables.exec = Jvm.exec) {x y : Int32} {o : Int} {pf pt : Nat} (hd : decode c.code pc = .ok (.if_icmp .ge o, 3)) (hpf : pc + 3 = pf) (ho : 0 ≤ (pc : Int) + o) (hpt : ((pc : Int) + o).toNat = pt)
    (yes : ¬ x < y → own_WP p e below s Q k n (T.setTop (mkF m pt ls rest))) (no : x < y → own_WP p e below s Q k n (T.setTop (mkF m pf ls rest))) : own_WP p e below s Q k n (T.setTop (mkF m pc ls (.int y :: .int x :: rest))) := by
  subst hpf
  by_cases hq : ¬ x < y
  · exact own_of (fun t q => XS.icmpYes X.here hx rfl (pc0 := pc) (pc' := pt) rfl hd rfl ((flt hq).2.1) ho hpt q) (yes hq)
  · exact own_of (fun t q => XS.icmpNo X.here hx rfl hd rfl ((tlt (Classical.not_not.mp hq)).2.1) q) (no (Classical.not_not.mp hq))
theorem own_if_ge (X : Stand p l e R s m args below meth c T locs cells slots) (hx : p.tables.exec = Jvm.exec) {x : Int32} {o : Int} {pf pt : Nat} (hd : decode c.code pc = .ok (.ifCond .ge o, 3)) (hpf : pc + 3 = pf) (ho : 0 ≤ (pc : Int) + o) (hpt : ((pc : Int) + o).toNat = pt)
    (yes : ¬ x < 0 → own_WP p e below s Q k n (T.setTop (mkF m pt ls rest))) (no : x < 0 → own_WP p e below s Q k n (T.setTop (mkF m pf ls rest))) : own_WP p e below s Q k n (T.setTop (mkF m pc ls (.int x :: rest))) := by
  subst hpf
  by_cases hq : ¬ x < 0
  · exact own_of (fun t q => XS.ifYes X.here hx rfl (pc0 := pc) (pc' := pt) rfl hd rfl ((if0 _ _).trans (flt hq).2.1) ho hpt q) (yes hq)
  · exact own_of (fun t q => XS.ifNo X.here hx rfl hd rfl ((if0 _ _).trans (tlt (Classical.not_not.mp hq)).2.1) q) (no (Classical.not_not.mp hq))
theorem own_ifl_ge (X : Stand p l e R s m args below meth c T locs cells slots) (hx : p.tables.exec = Jvm.exec) {x y : Int64} {o : Int} {pf pt : Nat} (hd : decode c.code pc = .ok (.ifCond .ge o, 3)) (hpf : pc + 3 = pf) (ho : 0 ≤ (pc : Int) + o) (hpt : ((pc : Int) + o).toNat = pt)
    (yes : ¬ x < y → own_WP p e below s Q k n (T.setTop (mkF m pt ls rest))) (no : x < y → own_WP p e below s Q k n (T.setTop (mkF m pf ls rest))) : own_WP p e below s Q k n (T.setTop (mkF m pc ls (.int (lcmpW x y) :: rest))) := by
  subst hpf
  by_cases hq : ¬ x < y
  · exact own_of (fun t q => XS.ifYes X.here hx rfl (pc0 := pc) (pc' := pt) rfl hd rfl ((if0 _ _).trans (flt (fun z => hq ((lw_lt x y).mp z))).2.1) ho hpt q) (yes hq)
  · exact own_of (fun t q => XS.ifNo X.here hx rfl hd rfl ((if0 _ _).trans (tlt ((lw_lt x y).mpr (Classical.not_not.mp hq))).2.1) q) (no (Classical.not_not.mp hq))
theorem own_icmp_gt (X : Stand p l e R s m args below meth c T locs cells slots) (hx : p.tables.exec = Jvm.exec) {x y : Int32} {o : Int} {pf pt : Nat} (hd : decode c.code pc = .ok (.if_icmp .gt o, 3)) (hpf : pc + 3 = pf) (ho : 0 ≤ (pc : Int) + o) (hpt : ((pc : Int) + o).toNat = pt)
    (yes : y < x → own_WP p e below s Q k n (T.setTop (mkF m pt ls rest))) (no : ¬ y < x → own_WP p e below s Q k n (T.setTop (mkF m pf ls rest))) : own_WP p e below s Q k n (T.setTop (mkF m pc ls (.int y :: .int x :: rest))) := by
  subst hpf
  by_cases hq : y < x
  · exact own_of (fun t q => XS.icmpYes X.here hx rfl (pc0 := pc) (pc' := pt) rfl hd rfl ((tlt hq).2.2.1) ho hpt q) (yes hq)
  · exact own_of (fun t q => XS.icmpNo X.here hx rfl hd rfl ((flt hq).2.2.1) q) (no hq)
theorem own_if_gt (X : Stand p l e R s m args below meth c T locs cells slots) (hx : p.tables.exec = Jvm.exec) {x : Int32} {o : Int} {pf pt : Nat} (hd : decode c.code pc = .ok (.ifCond .gt o, 3)) (hpf : pc + 3 = pf) (ho : 0 ≤ (pc : Int) + o) (hpt : ((pc : Int) + o).toNat = pt)
    (yes : 0 < x → own_WP p e below s Q k n (T.setTop (mkF m pt ls rest))) (no : ¬ 0 < x → own_WP p e below s Q k n (T.setTop (mkF m pf ls rest))) : own_WP p e below s Q k n (T.setTop (mkF m pc ls (.int x :: rest))) := by
  subst hpf
  by_cases hq : 0 < x
  · exact own_of (fun t q => XS.ifYes X.here hx rfl (pc0 := pc) (pc' := pt) rfl hd rfl ((if0 _ _).trans (tlt hq).2.2.1) ho hpt q) (yes hq)
  · exact own_of (fun t q => XS.ifNo X.here hx rfl hd rfl ((if0 _ _).trans (flt hq).2.2.1) q) (no hq)
theorem own_ifl_gt (X : Stand p l e R s m args below meth c T locs cells slots) (hx : p.tables.exec = Jvm.exec) {x y : Int64} {o : Int} {pf pt : Nat} (hd : decode c.code pc = .ok (.ifCond .gt o, 3)) (hpf : pc + 3 = pf) (ho : 0 ≤ (pc : Int) + o) (hpt : ((pc : Int) + o).toNat = pt)
    (yes : y < x → own_WP p e below s Q k n (T.setTop (mkF m pt ls rest))) (no : ¬ y < x → own_WP p e below s Q k n (T.setTop (mkF m pf ls rest))) : own_WP p e below s Q k n (T.setTop (mkF m pc ls (.int (lcmpW x y) :: rest))) := by
  subst hpf
  by_cases hq : y < x
  · exact own_of (fun t q => XS.ifYes X.here hx rfl (pc0 := pc) (pc' := pt) rfl hd rfl ((if0 _ _).trans (tlt ((lw_gt x y).mpr hq)).2.2.1) ho hpt q) (yes hq)
  · exact own_of (fun t q => XS.ifNo X.here hx rfl hd rfl ((if0 _ _).trans (flt (fun z => hq ((lw_gt x y).mp z))).2.2.1) q) (no hq)
theorem own_icmp_le (X : Stand p l e R s m args below meth c T locs cells slots) (hx : p.tables.exec = Jvm.exec) {x y : Int32} {o : Int} {pf pt : Nat} (hd : decode c.code pc = .ok (.if_icmp .le o, 3)) (hpf : pc + 3 = pf) (ho : 0 ≤ (pc : Int) + o) (hpt : ((pc : Int) + o).toNat = pt)
    (yes : ¬ y < x → own_WP p e below s Q k n (T.setTop (mkF m pt ls rest))) (no : y < x → own_WP p e below s Q k n (T.setTop (mkF m pf ls rest))) : own_WP p e below s Q k n (T.setTop (mkF m pc ls (.int y :: .int x :: rest))) := by
  subst hpf
  by_cases hq : ¬ y < x
  · exact own_of (fun t q => XS.icmpYes X.here hx rfl (pc0 := pc) (pc' := pt) rfl hd rfl ((flt hq).2.2.2) ho hpt q) (yes hq)
  · exact own_of (fun t q => XS.icmpNo X.here hx rfl hd rfl ((tlt (Classical.not_not.mp hq)).2.2.2) q) (no (Classical.not_not.mp hq))
theorem own_if_le (X : Stand p l e R s m args below meth c T locs cells slots) (hx : p.tables.exec = Jvm.exec) {x : Int32} {o : Int} {pf pt : Nat} (hd : decode c.code pc = .ok (.ifCond .le o, 3)) (hpf : pc + 3 = pf) (ho : 0 ≤ (pc : Int) + o) (hpt : ((pc : Int) + o).toNat = pt)
    (yes : ¬ 0 < x → own_WP p e below s Q k n (T.setTop (mkF m pt ls rest))) (no : 0 < x → own_WP p e below s Q k n (T.setTop (mkF m pf ls rest))) : own_WP p e below s Q k n (T.setTop (mkF m pc ls (.int x :: rest))) := by
  subst hpf
  by_cases hq : ¬ 0 < x
  · exact own_of (fun t q => XS.ifYes X.here hx rfl (pc0 := pc) (pc' := pt) rfl hd rfl ((if0 _ _).trans (flt hq).2.2.2) ho hpt q) (yes hq)
  · exact own_of (fun t q => XS.ifNo X.here hx rfl hd rfl ((if0 _ _).trans (tlt (Classical.not_not.mp hq)).2.2.2) q) (no (Classical.not_not.mp hq))
theorem own_ifl_le (X : Stand p l e R s m args below meth c T locs cells slots) (hx : p.tables.exec = Jvm.exec) {x y : Int64} {o : Int} {pf pt : Nat} (hd : decode c.code pc = .ok (.ifCond .le o, 3)) (hpf : pc + 3 = pf) (ho : 0 ≤ (pc : Int) + o) (hpt : ((pc : Int) + o).toNat = pt)
    (yes : ¬ y < x → own_WP p e below s Q k n (T.setTop (mkF m pt ls rest))) (no : y < x → own_WP p e below s Q k n (T.setTop (mkF m pf ls rest))) : own_WP p e below s Q k n (T.setTop (mkF m pc ls (.int (lcmpW x y) :: rest))) := by
  subst hpf
  by_cases hq : ¬ y < x
  · exact own_of (fun t q => XS.ifYes X.here hx rfl (pc0 := pc) (pc' := pt) rfl hd rfl ((if0 _ _).trans (flt (fun z => hq ((lw_gt x y).mp z))).2.2.2) ho hpt q) (yes hq)
  · exact own_of (fun t q => XS.ifNo X.here hx rfl hd rfl ((if0 _ _).trans (tlt ((lw_gt x y).mpr (Classical.not_not.mp hq))).2.2.2) q) (no (Classical.not_not.mp hq))
theorem own_icmp_eq (X : Stand p l e R s m args below meth c T locs cells slots) (hx : p.tables.exec = Jvm.exec) {x y : Int32} {o : Int} {pf pt : Nat} (hd : decode c.code pc = .ok (.if_icmp .eq o, 3)) (hpf : pc + 3 = pf) (ho : 0 ≤ (pc : Int) + o) (hpt : ((pc : Int) + o).toNat = pt)
    (yes : x = y → own_WP p e below s Q k n (T.setTop (mkF m pt ls rest))) (no : ¬ x = y → own_WP p e below s Q k n (T.setTop (mkF m pf ls rest))) : own_WP p e below s Q k n (T.setTop (mkF m pc ls (.int y :: .int x :: rest))) := by
  subst hpf
  by_cases hq : x = y
  · exact own_of (fun t q => XS.icmpYes X.here hx rfl (pc0 := pc) (pc' := pt) rfl hd rfl ((teq hq).1) ho hpt q) (yes hq)
  · exact own_of (fun t q => XS.icmpNo X.here hx rfl hd rfl ((feq hq).1) q) (no hq)
theorem own_if_eq (X : Stand p l e R s m args below meth c T locs cells slots) (hx : p.tables.exec = Jvm.exec) {x : Int32} {o : Int} {pf pt : Nat} (hd : decode c.code pc = .ok (.ifCond .eq o, 3)) (hpf : pc + 3 = pf) (ho : 0 ≤ (pc : Int) + o) (hpt : ((pc : Int) + o).toNat = pt)
    (yes : x = 0 → own_WP p e below s Q k n (T.setTop (mkF m pt ls rest))) (no : ¬ x = 0 → own_WP p e below s Q k n (T.setTop (mkF m pf ls rest))) : own_WP p e below s Q k n (T.setTop (mkF m pc ls (.int x :: rest))) := by
  subst hpf
  by_cases hq : x = 0
  · exact own_of (fun t q => XS.ifYes X.here hx rfl (pc0 := pc) (pc' := pt) rfl hd rfl ((if0 _ _).trans (teq hq).1) ho hpt q) (yes hq)
  · exact own_of (fun t q => XS.ifNo X.here hx rfl hd rfl ((if0 _ _).trans (feq hq).1) q) (no hq)
theorem own_ifl_eq (X : Stand p l e R s m args below meth c T locs cells slots) (hx : p.tables.exec = Jvm.exec) {x y : Int64} {o : Int} {pf pt : Nat} (hd : decode c.code pc = .ok (.ifCond .eq o, 3)) (hpf : pc + 3 = pf) (ho : 0 ≤ (pc : Int) + o) (hpt : ((pc : Int) + o).toNat = pt)
    (yes : x = y → own_WP p e below s Q k n (T.setTop (mkF m pt ls rest))) (no : ¬ x = y → own_WP p e below s Q k n (T.setTop (mkF m pf ls rest))) : own_WP p e below s Q k n (T.setTop (mkF m pc ls (.int (lcmpW x y) :: rest))) := by
  subst hpf
  by_cases hq : x = y
  · exact own_of (fun t q => XS.ifYes X.here hx rfl (pc0 := pc) (pc' := pt) rfl hd rfl ((if0 _ _).trans (teq ((lw_eq x y).mpr hq)).1) ho hpt q) (yes hq)
  · exact own_of (fun t q => XS.ifNo X.here hx rfl hd rfl ((if0 _ _).trans (feq (fun z => hq ((lw_eq x y).mp z))).1) q) (no hq)
theorem own_icmp_ne (X : Stand p l e R s m args below meth c T locs cells slots) (hx : p.tables.exec = Jvm.exec) {x y : Int32} {o : Int} {pf pt : Nat} (hd : decode c.code pc = .ok (.if_icmp .ne o, 3)) (hpf : pc + 3 = pf) (ho : 0 ≤ (pc : Int) + o) (hpt : ((pc : Int) + o).toNat = pt)
    (yes : ¬ x = y → own_WP p e below s Q k n (T.setTop (mkF m pt ls rest))) (no : x = y → own_WP p e below s Q k n (T.setTop (mkF m pf ls rest))) : own_WP p e below s Q k n (T.setTop (mkF m pc ls (.int y :: .int x :: rest))) := by
  subst hpf
  by_cases hq : ¬ x = y
  · exact own_of (fun t q => XS.icmpYes X.here hx rfl (pc0 := pc) (pc' := pt) rfl hd rfl ((feq hq).2) ho hpt q) (yes hq)
  · exact own_of (fun t q => XS.icmpNo X.here hx rfl hd rfl ((teq (Classical.not_not.mp hq)).2) q) (no (Classical.not_not.mp hq))
theorem own_if_ne (X : Stand p l e R s m args below meth c T locs cells slots) (hx : p.tables.exec = Jvm.exec) {x : Int32} {o : Int} {pf pt : Nat} (hd : decode c.code pc = .ok (.ifCond .ne o, 3)) (hpf : pc + 3 = pf) (ho : 0 ≤ (pc : Int) + o) (hpt : ((pc : Int) + o).toNat = pt)
    (yes : ¬ x = 0 → own_WP p e below s Q k n (T.setTop (mkF m pt ls rest))) (no : x = 0 → own_WP p e below s Q k n (T.setTop (mkF m pf ls rest))) : own_WP p e below s Q k n (T.setTop (mkF m pc ls (.int x :: rest))) := by
  subst hpf
  by_cases hq : ¬ x = 0
  · exact own_of (fun t q => XS.ifYes X.here hx rfl (pc0 := pc) (pc' := pt) rfl hd rfl ((if0 _ _).trans (feq hq).2) ho hpt q) (yes hq)
  · exact own_of (fun t q => XS.ifNo X.here hx rfl hd rfl ((if0 _ _).trans (teq (Classical.not_not.mp hq)).2) q) (no (Classical.not_not.mp hq))
theorem own_ifl_ne (X : Stand p l e R s m args below meth c T locs cells slots) (hx : p.tables.exec = Jvm.exec) {x y : Int64} {o : Int} {pf pt : Nat} (hd : decode c.code pc = .ok (.ifCond .ne o, 3)) (hpf : pc + 3 = pf) (ho : 0 ≤ (pc : Int) + o) (hpt : ((pc : Int) + o).toNat = pt)
    (yes : ¬ x = y → own_WP p e below s Q k n (T.setTop (mkF m pt ls rest))) (no : x = y → own_WP p e below s Q k n (T.setTop (mkF m pf ls rest))) : own_WP p e below s Q k n (T.setTop (mkF m pc ls (.int (lcmpW x y) :: rest))) := by
  subst hpf
  by_cases hq : ¬ x = y
  · exact own_of (fun t q => XS.ifYes X.here hx rfl (pc0 := pc) (pc' := pt) rfl hd rfl ((if0 _ _).trans (feq (fun z => hq ((lw_eq x y).mp z))).2) ho hpt q) (yes hq)
  · exact own_of (fun t q => XS.ifNo X.here hx rfl hd rfl ((if0 _ _).trans (teq ((lw_eq x y).mpr (Classical.not_not.mp hq))).2) q) (no (Classical.not_not.mp hq))
theorem own_getF (X : Stand p l e R s m args below meth c T locs cells slots) (hx : p.tables.exec = Jvm.exec) (hZ : Z.Warmed39 s.vm) {own R0 O nm d host : String} {idx : Nat} (hown : s.vm.findClass own = some m.cls) (w1 : (Jvm.Cond.fieldLink own idx R0 nm d).before a0 Z = true ∨ (Jvm.Cond.fieldLinkNest own idx R0 nm d host).before a0 Z = true) (via : Via Z R0 O nm d) (eT : T.heap = h) {b : Addr} {v : Value} (F : Fld Z h b O nm d v) (hd : decode c.code pc = .ok (.getfield idx, 3)) (hpc : pc + 3 = pc')
    (w : ∀ T', Stand p l e R s m args below meth c T' locs cells slots → T'.heap = h → own_WP p e below s Q k n (T'.setTop (mkF m pc' ls (v :: rest)))) : own_WP p e below s Q k n (T.setTop (mkF m pc ls (.ref b :: rest))) := by
  subst hpc
  obtain ⟨T', X', e', st⟩ := getF X hx hZ hown w1 via eT F (g := mkF m pc ls (.ref b :: rest)) rfl rfl hd
  exact own_of st (w T' X' e')
theorem own_putF (X : Stand p l e R s m args below meth c T locs cells slots) (hx : p.tables.exec = Jvm.exec) (hZ : Z.Warmed39 s.vm) {own R0 O nm d host C : String} {idx kk : Nat} {ty : FieldType} (hown : s.vm.findClass own = some m.cls) (w1 : (Jvm.Cond.fieldLink own idx R0 nm d).before a0 Z = true ∨ (Jvm.Cond.fieldLinkNest own idx R0 nm d host).before a0 Z = true) (via : Via Z R0 O nm d) (eT : T.heap = h) {b : Addr} {v old : Value} (F : Fld Z h b O nm d old) (E : Exa Z h b C) (L : (Jvm.Cond.lays C O nm d).before a0 Z = true ∨ ((Jvm.Cond.laysFinal C O nm d).before a0 Z = true ∧ own = O ∧ meth.name = "<init>")) (wi : (Jvm.Cond.instantiable C kk).before a0 Z = true) (hty : parseFieldDescriptor d = some ty) (hn : narrow ty v = v) (hf : fits ty v = true) (hd : decode c.code pc = .ok (.putfield idx, 3)) (hpc : pc + 3 = pc')
    (w : ∀ T' h', Stand p l e R s m args below meth c T' (locs ++ [⟨b, Jvm.RoadKit.slotOf Z O nm d⟩]) cells slots → T'.heap = h' → Wr h h' b (Jvm.RoadKit.slotOf Z O nm d) v → own_WP p e below s Q k n (T'.setTop (mkF m pc' ls rest))) : own_WP p e below s Q k n (T.setTop (mkF m pc ls (v :: .ref b :: rest))) := by
  subst hpc
  obtain ⟨T', h', X', e', W', st⟩ := putF X hx hZ hown w1 via eT F E L wi hty hn hf (g := mkF m pc ls (v :: .ref b :: rest)) rfl rfl hd
  exact own_of st (w T' h' X' e' W')
theorem own_new (X : Stand p l e R s m args below meth c T locs cells slots) (hx : p.tables.exec = Jvm.exec) (hZ : Z.Warmed39 s.vm) {own C : String} {idx nn : Nat} (hown : s.vm.findClass own = some m.cls) (w1 : (Jvm.Cond.classLink own idx C).before a0 Z = true) (wi : (Jvm.Cond.instantiable C nn).before a0 Z = true) (wz : (Jvm.Cond.initialized C).before a0 Z = true) (eT : T.heap = h) (hd : decode c.code pc = .ok (.new idx, 3)) (hc : cells + 1 ≤ R.cells) (hl : slots + nn ≤ R.slots) (hpc : pc + 3 = pc')
    (w : ∀ T' h' b, b = h.size → Stand p l e R s m args below meth c T' locs (cells + 1) (slots + nn) → T'.heap = h' → Ext h h' → Exa Z h' b C → (∀ {O nm d : String} {ty : FieldType}, Laid Z a0 C O nm d → parseFieldDescriptor d = some ty → Fld Z h' b O nm d (defaultValue ty)) → own_WP p e below s Q k n (T'.setTop (mkF m pc' ls (.ref b :: rest)))) : own_WP p e below s Q k n (T.setTop (mkF m pc ls rest)) := by
  subst hpc
  obtain ⟨T', h', X', e', E', A', D', -, st⟩ := newO X hx hZ hown w1 wi wz eT (g := mkF m pc ls rest) rfl hd hc hl
  exact own_of st (w T' h' _ rfl X' e' E' A' D')
theorem own_newP (X : Stand p l e R s m args below meth c T locs cells slots) (hx : p.tables.exec = Jvm.exec) (hZ : Z.Warmed39 s.vm) {aty : ArrayType} (w1 : (Jvm.Cond.arrayClass (newarray.typeOf aty)).before a0 Z = true) (eT : T.heap = h) (hd : decode c.code pc = .ok (.newarray aty, 2)) {z : Int32} (hz : ¬ z < 0) {cap : Nat} (hcap : z.toNatClampNeg ≤ cap) (hb : cap * 8 ≤ 536870912) (hc : cells + 1 ≤ R.cells) (hl : slots + cap ≤ R.slots) (hpc : pc + 2 = pc')
    (w : ∀ T' h' cA b, b = h.size → Stand p l e R s m args below meth c T' locs (cells + 1) (slots + cap) → T'.heap = h' → Ext h h' → Arr Z h' b (newA cA (newarray.typeOf aty) z) (newarray.typeOf aty) → own_WP p e below s Q k n (T'.setTop (mkF m pc' ls (.ref b :: rest)))) : own_WP p e below s Q k n (T.setTop (mkF m pc ls (.int z :: rest))) := by
  subst hpc
  obtain ⟨T', h', cA, X', e', E', A', st⟩ := newP X hx hZ w1 eT (g := mkF m pc ls (.int z :: rest)) rfl hd rfl hz hcap hb hc hl
  exact own_of st (w T' h' cA _ rfl X' e' E' A')
theorem own_initO (X : Stand p l e R s m args below meth c T locs cells slots) (hx : p.tables.exec = Jvm.exec) (hZ : Z.Warmed39 s.vm) {own : String} {idx : Nat} (hown : s.vm.findClass own = some m.cls) (w1 : (Jvm.Cond.methodLink own idx Lib.objectInit).before a0 Z = true) (w2 : (Jvm.Cond.instanceMethod Lib.objectInit).before a0 Z = true) (w3 : (Jvm.Cond.code Lib.objectInit ⟨#[0xb1]⟩ 1 none).before a0 Z = true) (eT : T.heap = h) (hsz : ls.size = c.maxLocals) {b : Addr} (hd : decode c.code pc = .ok (.invokespecial idx, 3)) (hf : 1 ≤ R.frames) {W : Nat} (hW : (rest.map fun v => v.category).sum ≤ W) (hl : W + 12 ≤ R.locals) (hpc : pc + 3 = pc')
    (w : ∀ T', Stand p l e R s m args below meth c T' locs cells slots → T'.heap = h → own_WP p e below s Q k n (T'.setTop (mkF m pc' ls rest))) : own_WP p e below s Q k n (T.setTop (mkF m pc ls (.ref b :: rest))) := by
  subst hpc
  obtain ⟨T', X', e', st⟩ := initO X hx hZ hown w1 w2 w3 eT (g := mkF m pc ls (.ref b :: rest)) rfl hsz rfl hd hf (W := W) (by show 2 * 0 + _ ≤ _; omega) hl
  exact own_of st (w T' X' e')
theorem own_callS (X : Stand p l e R s m args below meth c T locs cells slots) (hx : p.tables.exec = Jvm.exec) (hZ : Z.Warmed39 s.vm) {own : String} {idx : Nat} {y : MethodName} {bytes : ByteArray} {maxL : Nat} {ret : Option FieldType} {rm : Room} {as' : Array Value} {Q' : Option Value → Heap → List Loc → Prop} (hown : s.vm.findClass own = some m.cls) (w1 : (Jvm.Cond.methodLink own idx y).before a0 Z = true) (w2 : (Jvm.Cond.static y).before a0 Z = true) (w3 : (Jvm.Cond.initialized y.cls).before a0 Z = true) (w4 : (Jvm.Cond.code y bytes maxL ret).before a0 Z = true) (hy : y.cls ≠ "java/lang/invoke/MethodHandle" ∧ y.cls ≠ "java/lang/invoke/VarHandle")
    (C : own_Con l Z y bytes maxL ret rm as' h Q') (eT : T.heap = h) {ps : List FieldType} {rt : Option FieldType} (hpd : parseMethodDescriptor y.desc = some ⟨ps, rt⟩) (argsL rest : List Value) (ha : argsL.toArray = as') (hal : argsL.length = ps.length) {st : List Value} (hst : st = argsL.reverse ++ rest) {W : Nat} (hW : (rest.map fun v => v.category).sum ≤ W) (hf : rm.frames + 1 ≤ R.frames) (hl : W + (maxL + 11) + rm.locals ≤ R.locals) (hsz : ls.size = c.maxLocals) (hd : decode c.code pc = .ok (.invokestatic idx, 3)) (hc : cells + rm.cells ≤ R.cells) (hs : slots + rm.slots ≤ R.slots) (hpc : pc + 3 = pc')
    (w : ∀ v T' L, Stand p l e R s m args below meth c T' (locs ++ L) (cells + rm.cells) (slots + rm.slots) → Q' v T'.heap L → own_WP p e below s Q k n (T'.setTop (mkF m pc' ls (v.toList ++ rest)))) : own_WP p e below s Q k n (T.setTop (mkF m pc ls st)) := by
  subst hpc hst ha
  obtain ⟨v, vm1, ⟨T', L', k', n'⟩, -, X', ⟨Lc, hQ, l1, y1, z1⟩, stp⟩ := Jvm.LawKit.callS X hx (y := y) hown (mvT hZ w1) (mvT hZ w2) (mvT hZ w3) (mvT hZ w4) hy (backOf (W := W) (C []) hZ w4 w3 hf hl) (g := mkF m pc ls (argsL.reverse ++ rest)) rfl hsz (argsL := argsL) (rest := rest) (lenOf hpd hal) rfl (by show 2 * 0 + _ ≤ _; omega) hd (fun _ _ => ⟨rfl, eT, hc, hs⟩)
  dsimp only [Pt.U, Pt.locs, Pt.cells, Pt.slots] at X' l1 y1 z1 stp hQ
  subst l1 y1 z1
  exact own_of stp (w _ _ _ X' hQ)
theorem own_callN (X : Stand p l e R s m args below meth c T locs cells slots) (hx : p.tables.exec = Jvm.exec) (hZ : Z.Warmed39 s.vm) {own : String} {idx : Nat} {y : MethodName} {bytes : ByteArray} {maxL : Nat} {rm : Room} {as' : Array Value} {Q' : Option Value → Heap → List Loc → Prop} (hy1 : y.name = "<init>") (hown : s.vm.findClass own = some m.cls) (w1 : (Jvm.Cond.methodLink own idx y).before a0 Z = true) (w2 : (Jvm.Cond.instanceMethod y).before a0 Z = true) (w3 : (Jvm.Cond.initialized y.cls).before a0 Z = true) (w4 : (Jvm.Cond.code y bytes maxL none).before a0 Z = true) (hy : y.cls ≠ "java/lang/invoke/MethodHandle" ∧ y.cls ≠ "java/lang/invoke/VarHandle")
    (C : own_Con l Z y bytes maxL none rm as' h Q') (eT : T.heap = h) {ps : List FieldType} {rt : Option FieldType} (hpd : parseMethodDescriptor y.desc = some ⟨ps, rt⟩) (b : Addr) (argsL rest : List Value) (ha : (.ref b :: argsL).toArray = as') (hal : argsL.length = ps.length) {st : List Value} (hst : st = argsL.reverse ++ .ref b :: rest) {W : Nat} (hW : (rest.map fun v => v.category).sum ≤ W) (hf : rm.frames + 1 ≤ R.frames) (hl : W + (maxL + 11) + rm.locals ≤ R.locals) (hsz : ls.size = c.maxLocals) (hd : decode c.code pc = .ok (.invokespecial idx, 3)) (hc : cells + rm.cells ≤ R.cells) (hs : slots + rm.slots ≤ R.slots) (hpc : pc + 3 = pc')
    (w : ∀ v T' L, Stand p l e R s m args below meth c T' (locs ++ L) (cells + rm.cells) (slots + rm.slots) → Q' v T'.heap L → own_WP p e below s Q k n (T'.setTop (mkF m pc' ls (v.toList ++ rest)))) : own_WP p e below s Q k n (T.setTop (mkF m pc ls st)) := by
  subst hpc hst ha
  obtain ⟨v, vm1, ⟨T', L', k', n'⟩, -, X', ⟨Lc, hQ, l1, y1, z1⟩, stp⟩ := X.specialBack hx (y := y) hy1 hown (mvT hZ w1) (mvT hZ w2) (mvT hZ w4) hy (backOf (W := W) (C []) hZ w4 w3 hf hl) (g := mkF m pc ls (argsL.reverse ++ .ref b :: rest)) rfl hsz (Steps.refl _) (a := b) (argsL := argsL) (rest := rest) (lenOf hpd hal) rfl (by show 2 * 0 + _ ≤ _; omega) hd (fun _ _ => ⟨rfl, eT, hc, hs⟩)
  dsimp only [Pt.U, Pt.locs, Pt.cells, Pt.slots] at X' l1 y1 z1 stp hQ
  subst l1 y1 z1
  exact own_of (fun t q => stp.trans q) (w _ _ _ X' hQ)
theorem own_callV (X : Stand p l e R s m args below meth c T locs cells slots) (hx : p.tables.exec = Jvm.exec) (hZ : Z.Warmed39 s.vm) {own D : String} {idx : Nat} {y z : MethodName} {bytes : ByteArray} {maxL : Nat} {ret : Option FieldType} {rm : Room} {as' : Array Value} {Q' : Option Value → Heap → List Loc → Prop} (hown : s.vm.findClass own = some m.cls) (w1 : (Jvm.Cond.methodLink own idx y).before a0 Z = true) (wd : (Jvm.Cond.declares y).before a0 Z = true) (hnf : NotFace s y) (ws : (Jvm.Cond.selects D y z).before a0 Z = true) (w2 : (Jvm.Cond.instanceMethod z).before a0 Z = true) (w3 : (Jvm.Cond.initialized z.cls).before a0 Z = true) (w4 : (Jvm.Cond.code z bytes maxL ret).before a0 Z = true) (hy : y.cls ≠ "java/lang/invoke/MethodHandle" ∧ y.cls ≠ "java/lang/invoke/VarHandle") {b : Addr} (E : Exa Z h b D)
    (C : own_Con l Z z bytes maxL ret rm as' h Q') (eT : T.heap = h) {ps : List FieldType} {rt : Option FieldType} (hpd : parseMethodDescriptor y.desc = some ⟨ps, rt⟩) (argsL rest : List Value) (ha : (.ref b :: argsL).toArray = as') (hal : argsL.length = ps.length) {st : List Value} (hst : st = argsL.reverse ++ .ref b :: rest) {W : Nat} (hW : (rest.map fun v => v.category).sum ≤ W) (hf : rm.frames + 1 ≤ R.frames) (hl : W + (maxL + 11) + rm.locals ≤ R.locals) (hsz : ls.size = c.maxLocals) (hd : decode c.code pc = .ok (.invokevirtual idx, 3)) (hc : cells + rm.cells ≤ R.cells) (hs : slots + rm.slots ≤ R.slots) (hpc : pc + 3 = pc')
    (w : ∀ v T' L, Stand p l e R s m args below meth c T' (locs ++ L) (cells + rm.cells) (slots + rm.slots) → Q' v T'.heap L → own_WP p e below s Q k n (T'.setTop (mkF m pc' ls (v.toList ++ rest)))) : own_WP p e below s Q k n (T.setTop (mkF m pc ls st)) := by
  subst hpc hst ha
  obtain ⟨cq, kq, qa, qb, qc⟩ := isOf (T := T) hZ eT E
  obtain ⟨v, vm1, ⟨T', L', k', n'⟩, -, X', ⟨Lc, hQ, l1, y1, z1⟩, stp⟩ := X.virtualBack hx (y := y) (z := z) hown (mvT hZ w1) (mvT hZ wd) hnf (mvT hZ ws) (mvT hZ w2) hy (backOf (W := W) (C []) hZ w4 w3 hf hl) qa qc (g := mkF m pc ls (argsL.reverse ++ .ref b :: rest)) rfl hsz (Steps.refl _) (argsL := argsL) (rest := rest) (lenOf hpd hal) rfl (by show 2 * 0 + _ ≤ _; omega) hd (fun _ _ => ⟨rfl, eT, hc, hs⟩)
  dsimp only [Pt.U, Pt.locs, Pt.cells, Pt.slots] at X' l1 y1 z1 stp hQ
  subst l1 y1 z1
  exact own_of (fun t q => stp.trans q) (w _ _ _ X' hQ)

theorem own_laload (X : Stand p l e R s m args below meth c T locs cells slots) (hx : p.tables.exec = Jvm.exec) (hZ : Z.Warmed39 s.vm) (eT : T.heap = h) {b : Addr} {kk : ClassId} {z j : Int32} {vs : List Value} {dv v : Value} (F : Arv Z h b kk .long z vs dv) (hj : ¬ j < 0 ∧ j < z) (hv : vs.getD j.toNatClampNeg dv = v) (hd : decode c.code pc = .ok (.laload, 1)) (hpc : pc + 1 = pc') (w : own_WP p e below s Q k n (T.setTop (mkF m pc' ls (v :: rest)))) : own_WP p e below s Q k n (T.setTop (mkF m pc ls (.int j :: .ref b :: rest))) := by
  subst hpc
  obtain ⟨cl, A, q1, S, q3, H, G⟩ := F
  exact own_of (fun t q => X.laload hx (j := j) (v := v) (by rw [eT]; exact A.1) (State.isArrayOf_alike hZ.alike A.2.1) A.2.2 (inb_of S hj) (H.at (inb_of S hj) hv) (g := mkF m pc ls (.int j :: .ref b :: rest)) rfl rfl hd _ q) w
theorem own_baload (X : Stand p l e R s m args below meth c T locs cells slots) (hx : p.tables.exec = Jvm.exec) (hZ : Z.Warmed39 s.vm) (eT : T.heap = h) {b : Addr} {kk : ClassId} {z j : Int32} {vs : List Value} {dv v : Value} (F : Arv Z h b kk .byte z vs dv) (hj : ¬ j < 0 ∧ j < z) (hv : vs.getD j.toNatClampNeg dv = v) (hd : decode c.code pc = .ok (.baload, 1)) (hpc : pc + 1 = pc') (w : own_WP p e below s Q k n (T.setTop (mkF m pc' ls (v :: rest)))) : own_WP p e below s Q k n (T.setTop (mkF m pc ls (.int j :: .ref b :: rest))) := by
  subst hpc
  obtain ⟨cl, A, q1, S, q3, H, G⟩ := F
  exact own_of (fun t q => X.baloadBytes hx (j := j) (v := v) (by rw [eT]; exact A.1) (State.isArrayOf_alike hZ.alike A.2.1) A.2.2 (inb_of S hj) (H.at (inb_of S hj) hv) (g := mkF m pc ls (.int j :: .ref b :: rest)) rfl rfl hd _ q) w
theorem own_iaload (X : Stand p l e R s m args below meth c T locs cells slots) (hx : p.tables.exec = Jvm.exec) (hZ : Z.Warmed39 s.vm) (eT : T.heap = h) {b : Addr} {kk : ClassId} {z j : Int32} {vs : List Value} {dv v : Value} (F : Arv Z h b kk .int z vs dv) (hj : ¬ j < 0 ∧ j < z) (hv : vs.getD j.toNatClampNeg dv = v) (hd : decode c.code pc = .ok (.iaload, 1)) (hpc : pc + 1 = pc') (w : own_WP p e below s Q k n (T.setTop (mkF m pc' ls (v :: rest)))) : own_WP p e below s Q k n (T.setTop (mkF m pc ls (.int j :: .ref b :: rest))) := by
  subst hpc
  obtain ⟨cl, A, q1, S, q3, H, G⟩ := F
  exact own_of (fun t q => X.iaload hx (j := j) (v := v) (by rw [eT]; exact A.1) (State.isArrayOf_alike hZ.alike A.2.1) A.2.2 (inb_of S hj) (H.at (inb_of S hj) hv) (g := mkF m pc ls (.int j :: .ref b :: rest)) rfl rfl hd _ q) w
theorem own_caload (X : Stand p l e R s m args below meth c T locs cells slots) (hx : p.tables.exec = Jvm.exec) (hZ : Z.Warmed39 s.vm) (eT : T.heap = h) {b : Addr} {kk : ClassId} {z j : Int32} {vs : List Value} {dv v : Value} (F : Arv Z h b kk .char z vs dv) (hj : ¬ j < 0 ∧ j < z) (hv : vs.getD j.toNatClampNeg dv = v) (hd : decode c.code pc = .ok (.caload, 1)) (hpc : pc + 1 = pc') (w : own_WP p e below s Q k n (T.setTop (mkF m pc' ls (v :: rest)))) : own_WP p e below s Q k n (T.setTop (mkF m pc ls (.int j :: .ref b :: rest))) := by
  subst hpc
  obtain ⟨cl, A, q1, S, q3, H, G⟩ := F
  exact own_of (fun t q => X.caload hx (j := j) (v := v) (by rw [eT]; exact A.1) (State.isArrayOf_alike hZ.alike A.2.1) A.2.2 (inb_of S hj) (H.at (inb_of S hj) hv) (g := mkF m pc ls (.int j :: .ref b :: rest)) rfl rfl hd _ q) w
theorem own_lastore (X : Stand p l e R s m args below meth c T locs cells slots) (hx : p.tables.exec = Jvm.exec) (hZ : Z.Warmed39 s.vm) (eT : T.heap = h) {b : Addr} {kk : ClassId} {z j : Int32} {vs : List Value} {dv : Value} {x : Int64} (F : Arv Z h b kk .long z vs dv) (hj : ¬ j < 0 ∧ j < z) (i : Nat) (hi : j.toNatClampNeg = i) (hlen : i < vs.length) (hd : decode c.code pc = .ok (.lastore, 1)) (hpc : pc + 1 = pc') (w : ∀ T' h', Stand p l e R s m args below meth c T' (locs ++ [⟨b, j.toNatClampNeg⟩]) cells slots → T'.heap = h' → Wr h h' b j.toNatClampNeg (.long x) → Arv Z h' b kk .long z (vs.set i (.long x)) dv → own_WP p e below s Q k n (T'.setTop (mkF m pc' ls rest))) : own_WP p e below s Q k n (T.setTop (mkF m pc ls (.long x :: .int j :: .ref b :: rest))) := by
  subst hpc
  obtain ⟨cl, A, q1, S, q3, H, G⟩ := F
  obtain ⟨T', h', X', e', W', st⟩ := stJ X hx hZ eT A (j := j) (inb_of S hj) (g := mkF m pc ls (.long x :: .int j :: .ref b :: rest)) rfl rfl hd
  exact own_of st (w T' h' X' e' W' (Arv.set A q1 S q3 H G rfl W' i hi hlen))
theorem own_bastore (X : Stand p l e R s m args below meth c T locs cells slots) (hx : p.tables.exec = Jvm.exec) (hZ : Z.Warmed39 s.vm) (eT : T.heap = h) {b : Addr} {kk : ClassId} {z j : Int32} {vs : List Value} {dv : Value} {x : Int32} (F : Arv Z h b kk .byte z vs dv) (hj : ¬ j < 0 ∧ j < z) (i : Nat) (hi : j.toNatClampNeg = i) (hlen : i < vs.length) (hd : decode c.code pc = .ok (.bastore, 1)) (hpc : pc + 1 = pc') (w : ∀ T' h', Stand p l e R s m args below meth c T' (locs ++ [⟨b, j.toNatClampNeg⟩]) cells slots → T'.heap = h' → Wr h h' b j.toNatClampNeg (.int (nar .byte x)) → Arv Z h' b kk .byte z (vs.set i (.int (nar .byte x))) dv → own_WP p e below s Q k n (T'.setTop (mkF m pc' ls rest))) : own_WP p e below s Q k n (T.setTop (mkF m pc ls (.int x :: .int j :: .ref b :: rest))) := by
  subst hpc
  obtain ⟨cl, A, q1, S, q3, H, G⟩ := F
  obtain ⟨T', h', X', e', W', st⟩ := stB X hx hZ eT A (j := j) (inb_of S hj) (g := mkF m pc ls (.int x :: .int j :: .ref b :: rest)) rfl rfl hd
  exact own_of st (w T' h' X' e' W' (Arv.set A q1 S q3 H G (fits_nar_byte x) W' i hi hlen))
theorem own_iastore (X : Stand p l e R s m args below meth c T locs cells slots) (hx : p.tables.exec = Jvm.exec) (hZ : Z.Warmed39 s.vm) (eT : T.heap = h) {b : Addr} {kk : ClassId} {z j : Int32} {vs : List Value} {dv : Value} {x : Int32} (F : Arv Z h b kk .int z vs dv) (hj : ¬ j < 0 ∧ j < z) (i : Nat) (hi : j.toNatClampNeg = i) (hlen : i < vs.length) (hd : decode c.code pc = .ok (.iastore, 1)) (hpc : pc + 1 = pc') (w : ∀ T' h', Stand p l e R s m args below meth c T' (locs ++ [⟨b, j.toNatClampNeg⟩]) cells slots → T'.heap = h' → Wr h h' b j.toNatClampNeg (.int x) → Arv Z h' b kk .int z (vs.set i (.int x)) dv → own_WP p e below s Q k n (T'.setTop (mkF m pc' ls rest))) : own_WP p e below s Q k n (T.setTop (mkF m pc ls (.int x :: .int j :: .ref b :: rest))) := by
  subst hpc
  obtain ⟨cl, A, q1, S, q3, H, G⟩ := F
  obtain ⟨T', h', X', e', W', st⟩ := stI X hx hZ eT A (j := j) (inb_of S hj) (g := mkF m pc ls (.int x :: .int j :: .ref b :: rest)) rfl rfl hd
  exact own_of st (w T' h' X' e' W' (Arv.set A q1 S q3 H G rfl W' i hi hlen))
theorem own_arrlen (X : Stand p l e R s m args below meth c T locs cells slots) (hx : p.tables.exec = Jvm.exec) (hZ : Z.Warmed39 s.vm) (eT : T.heap = h) {b : Addr} {kk : ClassId} {z : Int32} {vs : List Value} {dv : Value} {ty : FieldType} (F : Arv Z h b kk ty z vs dv) (hd : decode c.code pc = .ok (.arraylength, 1)) (hpc : pc + 1 = pc') (w : own_WP p e below s Q k n (T.setTop (mkF m pc' ls (.int z :: rest)))) : own_WP p e below s Q k n (T.setTop (mkF m pc ls (.ref b :: rest))) := by
  subst hpc
  obtain ⟨cl, A, q1, S, q3, H, G⟩ := F
  refine own_of (fun t q => X.arraylength hx (by rw [eT]; exact A.1) (State.isArrayOf_alike hZ.alike A.2.1) (g := mkF m pc ls (.ref b :: rest)) rfl rfl hd _ ?_) w
  rw [len_of S q3]
  exact q
end OwnWP

section OwnEq
variable {p : Program} {l : Launch} {e : Env} {R : Room} {s : State} {m : MethodId} {args : Array Value} {below : List Frame} {meth : Method} {c : Code} {T : State} {locs : List Loc} {cells slots : Nat} {Z : State} {a0 : Array Value} {h : Heap} {Q : Option Value → Heap → List Loc → Prop} {k n : Nat} {pc pc' : Nat} {ls l' : Array Slot} {rest : List Value}
theorem own_instY (X : Stand p l e R s m args below meth c T locs cells slots) (hx : p.tables.exec = Jvm.exec) (hZ : Z.Warmed39 s.vm) {own K : String} {idx : Nat} (hown : s.vm.findClass own = some m.cls) (w1 : (Jvm.Cond.classLink own idx K).before a0 Z = true) (eT : T.heap = h) {b : Addr} (F : Ins Z h b K true) (hd : decode c.code pc = .ok (.instanceof idx, 3)) (hpc : pc + 3 = pc')
    (w : ∀ T', Stand p l e R s m args below meth c T' locs cells slots → T'.heap = h → own_WP p e below s Q k n (T'.setTop (mkF m pc' ls (.int 1 :: rest)))) : own_WP p e below s Q k n (T.setTop (mkF m pc ls (.ref b :: rest))) := by
  subst hpc
  obtain ⟨T', X', e', st⟩ := instY X hx hZ hown w1 eT F (g := mkF m pc ls (.ref b :: rest)) rfl rfl hd
  exact own_of st (w T' X' e')
theorem own_castY (X : Stand p l e R s m args below meth c T locs cells slots) (hx : p.tables.exec = Jvm.exec) (hZ : Z.Warmed39 s.vm) {own K : String} {idx : Nat} (hown : s.vm.findClass own = some m.cls) (w1 : (Jvm.Cond.classLink own idx K).before a0 Z = true) (eT : T.heap = h) {b : Addr} (F : Ins Z h b K true) (hd : decode c.code pc = .ok (.checkcast idx, 3)) (hpc : pc + 3 = pc')
    (w : ∀ T', Stand p l e R s m args below meth c T' locs cells slots → T'.heap = h → own_WP p e below s Q k n (T'.setTop (mkF m pc' ls (.ref b :: rest)))) : own_WP p e below s Q k n (T.setTop (mkF m pc ls (.ref b :: rest))) := by
  subst hpc
  obtain ⟨T', X', e', st⟩ := castY X hx hZ hown w1 eT F (g := mkF m pc ls (.ref b :: rest)) rfl rfl hd
  exact own_of st (w T' X' e')
theorem own_instN (X : Stand p l e R s m args below meth c T locs cells slots) (hx : p.tables.exec = Jvm.exec) (hZ : Z.Warmed39 s.vm) {own K C : String} {idx : Nat} (hown : s.vm.findClass own = some m.cls) (w1 : (Jvm.Cond.classLink own idx K).before a0 Z = true) (eT : T.heap = h) {b : Addr} (E : Exa Z h b C) (F : ∃ c t, Z.vm.findClass C = some c ∧ Z.vm.findClass K = some t ∧ Z.vm.assignable c t = false) (hd : decode c.code pc = .ok (.instanceof idx, 3)) (hpc : pc + 3 = pc')
    (w : ∀ T', Stand p l e R s m args below meth c T' locs cells slots → T'.heap = h → own_WP p e below s Q k n (T'.setTop (mkF m pc' ls (.int 0 :: rest)))) : own_WP p e below s Q k n (T.setTop (mkF m pc ls (.ref b :: rest))) := by
  subst hpc
  obtain ⟨T', X', e', st⟩ := instNo X hx hZ hown w1 eT E F (g := mkF m pc ls (.ref b :: rest)) rfl rfl hd
  exact own_of st (w T' X' e')
theorem own_inst0 (X : Stand p l e R s m args below meth c T locs cells slots) (hx : p.tables.exec = Jvm.exec) {idx : Nat} (hd : decode c.code pc = .ok (.instanceof idx, 3)) (hpc : pc + 3 = pc')
    (w : own_WP p e below s Q k n (T.setTop (mkF m pc' ls (.int 0 :: rest)))) : own_WP p e below s Q k n (T.setTop (mkF m pc ls (.null :: rest))) := by
  subst hpc
  exact own_of (X.instanceofNull hx (g := mkF m pc ls (.null :: rest)) rfl rfl hd) w
theorem own_acmp (X : Stand p l e R s m args below meth c T locs cells slots) (hx : p.tables.exec = Jvm.exec) {cd : ACond} {x y : Value} {o : Int} (h1 : x.isRef = true) (h2 : y.isRef = true) (same : Bool) (hq : decide (x = y) = same) (hd : decode c.code pc = .ok (.if_acmp cd o, 3)) (ho : 0 ≤ (pc : Int) + o) (hpc : pc' = if acV cd same = true then ((pc : Int) + o).toNat else pc + 3)
    (w : own_WP p e below s Q k n (T.setTop (mkF m pc' ls rest))) : own_WP p e below s Q k n (T.setTop (mkF m pc ls (y :: x :: rest))) :=
  own_of (fun t q => Jvm.RoadKit.acmp (g := mkF m pc ls (y :: x :: rest)) X hx rfl h1 h2 (pc0 := pc) (pc' := pc') (same := same) rfl hd rfl hq ho hpc q) w
theorem own_getS (X : Stand p l e R s m args below meth c T locs cells slots) (hx : p.tables.exec = Jvm.exec) (hZ : Z.Warmed39 s.vm) {own R0 O nm d host : String} {idx : Nat} (hown : s.vm.findClass own = some m.cls) (w1 : (Jvm.Cond.fieldLink own idx R0 nm d).before a0 Z = true ∨ (Jvm.Cond.fieldLinkNest own idx R0 nm d host).before a0 Z = true) (via : Via Z R0 O nm d) (eT : T.heap = h) {v : Value} (F : Sta Z h O nm d v) (hd : decode c.code pc = .ok (.getstatic idx, 3)) (hpc : pc + 3 = pc')
    (w : ∀ T', Stand p l e R s m args below meth c T' locs cells slots → T'.heap = h → own_WP p e below s Q k n (T'.setTop (mkF m pc' ls (v :: rest)))) : own_WP p e below s Q k n (T.setTop (mkF m pc ls rest)) := by
  subst hpc
  obtain ⟨T', X', e', st⟩ := getS2 X hx hZ hown w1 via eT F (g := mkF m pc ls rest) rfl hd
  exact own_of st (w T' X' e')
theorem own_aaload (X : Stand p l e R s m args below meth c T locs cells slots) (hx : p.tables.exec = Jvm.exec) (hZ : Z.Warmed39 s.vm) (eT : T.heap = h) {b : Addr} {cl : Cell} {ty : FieldType} {j : Int32} {v : Value} (A : Arr Z h b cl ty) (hty : ty.isReference = true) (hj : ¬ (j < 0 ∨ cl.slots.size ≤ j.toNatClampNeg)) (hv : cl.slots[j.toNatClampNeg]? = some v) (hd : decode c.code pc = .ok (.aaload, 1)) (hpc : pc + 1 = pc')
    (w : own_WP p e below s Q k n (T.setTop (mkF m pc' ls (v :: rest)))) : own_WP p e below s Q k n (T.setTop (mkF m pc ls (.int j :: .ref b :: rest))) := by
  subst hpc
  exact own_of (fun t q => X.aaload hx (j := j) (v := v) (by rw [eT]; exact A.1) (State.isArrayOf_alike hZ.alike A.2.1) hty A.2.2 hj hv (g := mkF m pc ls (.int j :: .ref b :: rest)) rfl rfl hd _ q) w
theorem own_callU (X : Stand p l e R s m args below meth c T locs cells slots) (hx : p.tables.exec = Jvm.exec) (hZ : Z.Warmed39 s.vm) {own D owner : String} {idx : Nat} {y z : MethodName} {bytes : ByteArray} {maxL : Nat} {ret : Option FieldType} {rm : Room} {as' : Array Value} {Q' : Option Value → Heap → List Loc → Prop} (hown : s.vm.findClass own = some m.cls) (w1 : (Jvm.Cond.methodLink own idx y).before a0 Z = true) (wsm : (Jvm.Cond.sameMethod y.cls owner y.name y.desc).before a0 Z = true) (wd : (Jvm.Cond.declares ⟨owner, y.name, y.desc⟩).before a0 Z = true) (ws : (Jvm.Cond.selects D y z).before a0 Z = true) (w2 : (Jvm.Cond.instanceMethod z).before a0 Z = true) (w3 : (Jvm.Cond.initialized z.cls).before a0 Z = true) (w4 : (Jvm.Cond.code z bytes maxL ret).before a0 Z = true) (hy : owner ≠ "java/lang/invoke/MethodHandle" ∧ owner ≠ "java/lang/invoke/VarHandle") {b : Addr} (E : Exa Z h b D)
    (C : own_Con l Z z bytes maxL ret rm as' h Q') (eT : T.heap = h) {ps : List FieldType} {rt : Option FieldType} (hpd : parseMethodDescriptor y.desc = some ⟨ps, rt⟩) (argsL rest : List Value) (ha : (.ref b :: argsL).toArray = as') (hal : argsL.length = ps.length) {st : List Value} (hst : st = argsL.reverse ++ .ref b :: rest) {W : Nat} (hW : (rest.map fun v => v.category).sum ≤ W) (hf : rm.frames + 1 ≤ R.frames) (hl : W + (maxL + 11) + rm.locals ≤ R.locals) (hsz : ls.size = c.maxLocals) (hd : decode c.code pc = .ok (.invokevirtual idx, 3)) (hc : cells + rm.cells ≤ R.cells) (hs : slots + rm.slots ≤ R.slots) (hpc : pc + 3 = pc')
    (w : ∀ v T' L, Stand p l e R s m args below meth c T' (locs ++ L) (cells + rm.cells) (slots + rm.slots) → Q' v T'.heap L → own_WP p e below s Q k n (T'.setTop (mkF m pc' ls (v.toList ++ rest)))) : own_WP p e below s Q k n (T.setTop (mkF m pc ls st)) := by
  subst hpc hst ha
  obtain ⟨cq, kq, qa, qb, qc⟩ := isOf (T := T) hZ eT E
  obtain ⟨v, vm1, ⟨T', L', k', n'⟩, -, X', ⟨Lc, hQ, l1, y1, z1⟩, stp⟩ := X.virtualBackUp hx (x := y) (y := z) (owner := owner) hown (mvT hZ w1) (mvT hZ wsm) (mvT hZ wd) hy (mvT hZ ws) (mvT hZ w2) (backOf (W := W) (C []) hZ w4 w3 hf hl) qa qc (g := mkF m pc ls (argsL.reverse ++ .ref b :: rest)) rfl hsz (Steps.refl _) (argsL := argsL) (rest := rest) (lenOf hpd hal) rfl (by show 2 * 0 + _ ≤ _; omega) hd (fun _ _ => ⟨rfl, eT, hc, hs⟩)
  dsimp only [Pt.U, Pt.locs, Pt.cells, Pt.slots] at X' l1 y1 z1 stp hQ
  subst l1 y1 z1
  exact own_of (fun t q => stp.trans q) (w _ _ _ X' hQ)
theorem own_NSroot {O K : String} {i : Nat} (w : (Jvm.Cond.noSuperclass O).before a0 Z = true) (wk : (Jvm.Cond.instantiable K i).before a0 Z = true) (hn : O ≠ K) : NS Z O K := by
  obtain ⟨c, k, h1, h2, h3, -, -⟩ := Cond.noSuperclass_spec w
  obtain ⟨t, k2, g1, -⟩ := Cond.instantiable_spec wk
  have ne := ids_ne h1 g1 hn
  refine ⟨c, t, h1, g1, fun fuel => ?_⟩
  cases fuel with
  | zero => rfl
  | succ f => simp [Vm.isSubclassAux, ne, h2, h3]
theorem own_NSno {C K : String} {i j : Nat} (w : (Jvm.Cond.instantiable C i).before a0 Z = true) (wk : (Jvm.Cond.instantiable K j).before a0 Z = true) (N : NS Z C K) (hn : C ≠ K) : ∃ c t, Z.vm.findClass C = some c ∧ Z.vm.findClass K = some t ∧ Z.vm.assignable c t = false := by
  obtain ⟨c, t, h0, g0, n3⟩ := N
  obtain ⟨c', k, h1, h2, h3, h4, -⟩ := Cond.instantiable_spec w
  obtain ⟨t', k', g1, g2, g3, g4, -⟩ := Cond.instantiable_spec wk
  cases h0.symm.trans h1
  cases g0.symm.trans g1
  have ne := ids_ne h0 g0 hn
  have i4 : k'.isInterface = false := by
    cases q : k'.isInterface with
    | false => rfl
    | true => rw [q] at g4; cases g4
  refine ⟨c, t, h0, g0, ?_⟩
  show Z.vm.assignableAux (255 + 1) c t = false
  simp [Vm.assignableAux, ne, h2, g2, h3, g3, i4, Vm.isSubclass, n3]
theorem own_ext_refl (h : Heap) : Ext h h := ⟨Nat.le_refl _, fun _ _ q => q⟩
theorem own_ext_trans {h0 h h' : Heap} (E : Ext h0 h) (E' : Ext h h') : Ext h0 h' := ⟨Nat.le_trans E.1 E'.1, fun a c q => E'.2 a c (E.2 a c q)⟩
theorem own_ext_keep {h0 h h' : Heap} {ws : List Addr} (E : Ext h0 h) (K : Keep h h' ws) (q : ∀ x ∈ ws, h0.size ≤ x) : Ext h0 h' :=
  ⟨Nat.le_trans E.1 K.1, fun a c r => K.2.1 a c (E.2 a c r) fun z => absurd (Array.getElem?_eq_some_iff.mp r).1 (Nat.not_lt.mpr (q a z))⟩
def own_b (P : Prop) [Decidable P] : Int32 := if P then 1 else 0
/-- a box's cache, as the sets say it at the start -/
def own_Cache (Z : State) (h : Heap) (C CC AD : String) (ca : Addr) (cl : Cell) : Prop := Sta Z h CC "cache" AD (.ref ca) ∧ Arr Z h ca cl (.object C) ∧ cl.slots.size = 256 ∧ ∀ j, j < 256 → ∃ b, cl.slots[j]? = some (.ref b) ∧ Exa Z h b C
theorem own_Cache_ext {h h' : Heap} {C CC AD : String} {ca : Addr} {cl : Cell} (F : own_Cache Z h C CC AD ca cl) (E : Ext h h') : own_Cache Z h' C CC AD ca cl :=
  ⟨F.1.ext E, F.2.1.ext E, F.2.2.1, fun j hj => by obtain ⟨b, q1, q2⟩ := F.2.2.2 j hj; exact ⟨b, q1, q2.ext E⟩⟩
theorem own_cache {C CC AD : String} {c : Jvm.Cond} (h1 : (Jvm.Cond.initializedFor CC "cache" AD).before args s = true ∨ ((Jvm.Cond.initialized CC).before args s = true ∧ (Jvm.Cond.laysStatic CC "cache" AD).before args s = true)) (h2 : (Jvm.Cond.arrayOf (.static CC "cache" AD) (.object C)).before args s = true) (h3 : (Jvm.Cond.eq (.length (.static CC "cache" AD)) (.int 256)).before args s = true)
    (h4 : (Jvm.Cond.all (.static CC "cache" AD) (.and (.exactly (.elem (.static CC "cache" AD) (.index 0)) C) c)).before args s = true) : ∃ ca cl, own_Cache s s.heap C CC AD ca cl := by
  obtain ⟨ca, ev⟩ := arr_v (Cond.before_iff.mp h2)
  have S := Sta.start ev h1
  obtain ⟨cl, A⟩ := Arr.start ev (Cond.before_iff.mp h2)
  have hat := A.fin (Vm.Alike.refl _)
  obtain ⟨hsz, hsize⟩ := IntBox.length_fwd h3 ev A.1 A.2.1 A.2.2
  have hsz256 : cl.slots.size = 256 := by
    have e := len_toInt hsz
    rw [hsize] at e
    have : ((256 : Int32)).toInt = 256 := by decide
    omega
  have hall := Cond.all_elim (c := .and (.exactly (.elem (.static CC "cache" AD) (.index 0)) C) c) ev hat (by simpa [Cond.before, Cond.holds] using h4)
  refine ⟨ca, cl, S, A, hsz256, fun j hj => ?_⟩
  have hjv := hall j (by rw [hsz256]; exact hj)
  have hx := (and_e hjv).1
  obtain ⟨b, cB, cell, kB, e1, e2, e3, e4, e5, e6, e7⟩ := Cond.exactly_spec (beq_iff_eq.mpr hx : (Cond.exactly (.elem (.static CC "cache" AD) (.index 0)) C).holds args s none s [j] = true)
  obtain ⟨hnn, hback⟩ := IntBox.place_nonneg j hj
  have ev2 : (Term.static CC "cache" AD).eval args s none [j] s = some (.ref ca) := by
    simp only [Term.eval] at ev ⊢
    exact ev
  have ej : (Term.index 0).eval args s none [j] s = some (.int j.toInt32) := by simp [Term.eval]
  have hin := elem_in e1 ev2 ej A.1
  rw [hback] at hin
  subst e6
  exact ⟨b, hin.2, cell, kB, e3, e2, e4, e5, e7⟩
end OwnEq

theorem own_high {args : Array Value} {s : State} {t : Term} {z : Int32} (h : (Jvm.Cond.eq t (.int z)).before args s = true) : t.eval args s none [] s = some (.int z) := by
  have hv := Cond.before_iff.mp h
  obtain ⟨x, y, e1, e2, k1, k2⟩ := cmp_v (Or.inl hv)
  have e3 : y = .int z := by simpa [Term.eval] using e2.symm
  subst e3
  obtain ⟨x', rfl⟩ : ∃ x', x = .int x' := k2
  rw [e1]
  simp only [Cond.value, e1, e2] at hv
  have : x' = z := by simpa using hv
  rw [this]

theorem own_nnL (x : Int64) : ¬ (x &&& (9223372036854775807 : Int64)) < 0 := by
  have h1 := c_maskL x 9223372036854775807 63 (by decide) (by decide)
  rw [Int64.lt_iff_toInt_lt, h1]
  have : (0 : Int64).toInt = 0 := by decide
  omega
theorem own_b_swap (a b : Int64) (x y : Int32) : own_b (a = b ∧ x = y) = own_b (b = a ∧ y = x) := by
  unfold own_b
  simp only [eq_comm (a := a), eq_comm (a := x)]
theorem own_k3 (x v : Int32) (h : v = x &&& 3) (h1 : ¬ v = 0) (h2 : ¬ v = 1) (h3 : ¬ v = 2) : v = 3 := by
  have a := c_and x 3 (by decide)
  rw [← h, show (3 : Int32).toInt = 3 from by decide] at a
  apply Int32.toInt_inj.mp
  have b1 : ¬ v.toInt = 0 := fun q => h1 (Int32.toInt_inj.mp q)
  have b2 : ¬ v.toInt = 1 := fun q => h2 (Int32.toInt_inj.mp q)
  have b3 : ¬ v.toInt = 2 := fun q => h3 (Int32.toInt_inj.mp q)
  show v.toInt = 3
  omega

theorem d1_0 : decode prog_22_method_1_code 0 = .ok (.aload_n 0, 1) := by decide +kernel
theorem d1_1 : decode prog_22_method_1_code 1 = .ok (.invokespecial 1, 3) := by decide +kernel
theorem d1_4 : decode prog_22_method_1_code 4 = .ok (.lload_n 1, 1) := by decide +kernel
theorem d1_5 : decode prog_22_method_1_code 5 = .ok (.lconst 0, 1) := by decide +kernel
theorem d1_6 : decode prog_22_method_1_code 6 = .ok (.lcmp, 1) := by decide +kernel
theorem d1_7 : decode prog_22_method_1_code 7 = .ok (.ifCond .ge 17, 3) := by decide +kernel
theorem d1_10 : decode prog_22_method_1_code 10 = .ok (.new 7, 3) := by decide +kernel
theorem d1_13 : decode prog_22_method_1_code 13 = .ok (.dup, 1) := by decide +kernel
theorem d1_14 : decode prog_22_method_1_code 14 = .ok (.lload_n 1, 1) := by decide +kernel
theorem d1_20 : decode prog_22_method_1_code 20 = .ok (.invokespecial 13, 3) := by decide +kernel
theorem d1_23 : decode prog_22_method_1_code 23 = .ok (.athrow, 1) := by decide +kernel
theorem d1_24 : decode prog_22_method_1_code 24 = .ok (.aload_n 0, 1) := by decide +kernel
theorem d1_25 : decode prog_22_method_1_code 25 = .ok (.lload_n 1, 1) := by decide +kernel
theorem d1_26 : decode prog_22_method_1_code 26 = .ok (.putfield 16, 3) := by decide +kernel
theorem d1_29 : decode prog_22_method_1_code 29 = .ok (.aload_n 0, 1) := by decide +kernel
theorem d1_30 : decode prog_22_method_1_code 30 = .ok (.iload_n 3, 1) := by decide +kernel
theorem d1_31 : decode prog_22_method_1_code 31 = .ok (.putfield 22, 3) := by decide +kernel
theorem d1_34 : decode prog_22_method_1_code 34 = .ok (.return_, 1) := by decide +kernel
theorem pn_1 : plainFor (⟨"com/example/eventual_leader/eventualleader/election/StoredState", "<init>", "(JI)V"⟩ : MethodName) = true := plainFor_of_name (by first | (simp [plainName, overriddenIn]; done) | decide +kernel)
theorem ef_conI (m : MethodId) (a1 : Addr) (w1 : Int64) (w2 : Int32) : entryFrame m #[(.ref a1), (.long w1), (.int w2)] 4 = mkF m 0 #[.val (.ref a1), .val (.long w1), .second, .val (.int w2)] [] := by first | (simp [entryFrame, mkF, argsToLocals, Value.category]; done) | rfl
set_option maxRecDepth 65536 in
set_option maxHeartbeats 4000000 in
theorem conI (l : Launch) (Z : State) (a0 : Array Value) (hw : ∀ d ∈ tables_1, d.before a0 Z = true) (a1 : Addr) (w1 : Int64) (w2 : Int32) (h0 : Heap) (n0 : Nat) (Z0 : n0 ≤ h0.size) (E1 : Exa Z h0 a1 "com/example/eventual_leader/eventualleader/election/StoredState") (F1 : Fld Z h0 a1 "com/example/eventual_leader/eventualleader/election/StoredState" "incarnation" "J" (.long (0 : Int64))) (F2 : Fld Z h0 a1 "com/example/eventual_leader/eventualleader/election/StoredState" "leader" "I" (.int (0 : Int32))) (g_a1 : n0 ≤ a1) (hi : ¬ w1 < (0 : Int64)) :
    own_Con l Z (⟨"com/example/eventual_leader/eventualleader/election/StoredState", "<init>", "(JI)V"⟩ : MethodName) prog_22_method_1_code 4 none ({ frames := 1, cells := 0, slots := 0, locals := 12 } : Room) #[(.ref a1), (.long w1), (.int w2)] h0 (fun v h L => v = none ∧ Fr n0 L ∧ Keep h0 h [a1] ∧ Exa Z h a1 "com/example/eventual_leader/eventualleader/election/StoredState" ∧ Fld Z h a1 "com/example/eventual_leader/eventualleader/election/StoredState" "incarnation" "J" (.long w1) ∧ Fld Z h a1 "com/example/eventual_leader/eventualleader/election/StoredState" "leader" "I" (.int w2)) := by
  refine own_Con_of pn_1 ?_
  intro p e s m below meth c s₁ X0 hx hby hml hret hlk hnm hown hZ e0
  have hown : s.vm.findClass "com/example/eventual_leader/eventualleader/election/StoredState" = some m.cls := hown
  have hml : c.maxLocals = 4 := hml
  have N0 := Fr.nil n0
  show own_WP _ _ _ _ _ _ _ (s₁.setTop (entryFrame m #[(.ref a1), (.long w1), (.int w2)] 4))
  rw [ef_conI m a1 w1 w2]
  refine own_aloadN (pc' := 1) X0 hx (hb hby d1_0) rfl rfl rfl ?_
  refine own_initO (pc' := 4) (W := 0) X0 hx hZ hown (own_w hw 7 rfl) (own_w hw 8 rfl) (own_w hw 9 rfl) e0 (by rw [hml]; rfl) (hb hby d1_1) (by decide) (Nat.le_of_eq rfl) (by decide) rfl ?_
  intro T1 X1 e1
  refine own_lloadN (pc' := 5) X1 hx (hb hby d1_4) rfl rfl ?_
  refine own_lconst0 (pc' := 6) X1 hx (hb hby d1_5) rfl ?_
  refine own_lcmp (pc' := 7) X1 hx (hb hby d1_6) rfl ?_
  refine own_ifl_ge (pt := 24) (pf := 10) X1 hx (hb hby d1_7) rfl (by decide) rfl (fun hc7 => ?_) (fun hc7 => absurd hc7 (hi))
  refine own_aloadN (pc' := 25) X1 hx (hb hby d1_24) rfl rfl rfl ?_
  refine own_lloadN (pc' := 26) X1 hx (hb hby d1_25) rfl rfl ?_
  refine own_putF (pc' := 29) X1 hx hZ hown (host := "") (Or.inl (own_w hw 10 rfl)) Via.refl e1 F1 E1 (Or.inr ⟨(own_w hw 11 rfl), rfl, hnm⟩) (own_w hw 2 rfl) (ty := .long) (by decide) rfl rfl (hb hby d1_26) rfl ?_
  intro T2 h2 X2 e2 W2
  have z2 : n0 ≤ h2.size := Nat.le_trans Z0 (Keep.of_wr W2).1
  have Fw2 := F1.same W2
  have N2 := Fr.snoc X2 N0 g_a1
  have K2 : Keep h0 h2 [a1] := (Keep.refl h0 [a1]).wr W2 (Or.inl (List.mem_of_getElem? (i := 0) rfl))
  refine own_aloadN (pc' := 30) X2 hx (hb hby d1_29) rfl rfl rfl ?_
  refine own_iloadN (pc' := 31) X2 hx (hb hby d1_30) rfl rfl ?_
  have f3 := (F2.other W2 (Or.inr (slot_ne (Or.inr (own_w hw 13 rfl)) (Or.inr (own_w hw 11 rfl)) (by decide) (t := .int) (t' := .long) (by decide +kernel) (by decide +kernel))))
  have f4 := (E1.wr W2)
  refine own_putF (pc' := 34) X2 hx hZ hown (host := "") (Or.inl (own_w hw 12 rfl)) Via.refl e2 f3 f4 (Or.inr ⟨(own_w hw 13 rfl), rfl, hnm⟩) (own_w hw 2 rfl) (ty := .int) (by decide) rfl rfl (hb hby d1_31) rfl ?_
  intro T5 h5 X5 e5 W5
  have z5 : n0 ≤ h5.size := Nat.le_trans z2 (Keep.of_wr W5).1
  have Fw5 := f3.same W5
  have N5 := Fr.snoc X5 N2 g_a1
  have K5 : Keep h0 h5 [a1] := K2.wr W5 (Or.inl (List.mem_of_getElem? (i := 0) rfl))
  have f6 := (f4.wr W5)
  have f7 := (Fw2.other W5 (Or.inr (slot_ne (Or.inr (own_w hw 11 rfl)) (Or.inr (own_w hw 13 rfl)) (by decide) (t := .long) (t' := .int) (by decide +kernel) (by decide +kernel))))
  refine own_ret0 X5 hx hlk hret (hb hby d1_34) (by decide) (by decide) ?_
  rw [e5]
  exact ⟨rfl, N5, K5, f6, f7, Fw5⟩
theorem d3_0 : decode prog_22_method_4_code 0 = .ok (.aload_n 1, 1) := by decide +kernel
theorem d3_1 : decode prog_22_method_4_code 1 = .ok (.instanceof 17, 3) := by decide +kernel
theorem d3_4 : decode prog_22_method_4_code 4 = .ok (.ifCond .eq 35, 3) := by decide +kernel
theorem d3_7 : decode prog_22_method_4_code 7 = .ok (.aload_n 1, 1) := by decide +kernel
theorem d3_8 : decode prog_22_method_4_code 8 = .ok (.checkcast 17, 3) := by decide +kernel
theorem d3_11 : decode prog_22_method_4_code 11 = .ok (.astore_n 2, 1) := by decide +kernel
theorem d3_12 : decode prog_22_method_4_code 12 = .ok (.aload_n 0, 1) := by decide +kernel
theorem d3_13 : decode prog_22_method_4_code 13 = .ok (.getfield 16, 3) := by decide +kernel
theorem d3_16 : decode prog_22_method_4_code 16 = .ok (.aload_n 2, 1) := by decide +kernel
theorem d3_17 : decode prog_22_method_4_code 17 = .ok (.getfield 16, 3) := by decide +kernel
theorem d3_20 : decode prog_22_method_4_code 20 = .ok (.lcmp, 1) := by decide +kernel
theorem d3_21 : decode prog_22_method_4_code 21 = .ok (.ifCond .ne 18, 3) := by decide +kernel
theorem d3_24 : decode prog_22_method_4_code 24 = .ok (.aload_n 0, 1) := by decide +kernel
theorem d3_25 : decode prog_22_method_4_code 25 = .ok (.getfield 22, 3) := by decide +kernel
theorem d3_28 : decode prog_22_method_4_code 28 = .ok (.aload_n 2, 1) := by decide +kernel
theorem d3_29 : decode prog_22_method_4_code 29 = .ok (.getfield 22, 3) := by decide +kernel
theorem d3_32 : decode prog_22_method_4_code 32 = .ok (.if_icmp .ne 7, 3) := by decide +kernel
theorem d3_35 : decode prog_22_method_4_code 35 = .ok (.iconst 1, 1) := by decide +kernel
theorem d3_36 : decode prog_22_method_4_code 36 = .ok (.goto 4, 3) := by decide +kernel
theorem d3_39 : decode prog_22_method_4_code 39 = .ok (.iconst 0, 1) := by decide +kernel
theorem d3_40 : decode prog_22_method_4_code 40 = .ok (.ireturn, 1) := by decide +kernel
theorem pn_3 : plainFor (⟨"com/example/eventual_leader/eventualleader/election/StoredState", "equals", "(Ljava/lang/Object;)Z"⟩ : MethodName) = true := plainFor_of_name (by first | (simp [plainName, overriddenIn]; done) | decide +kernel)
theorem ef_conE (m : MethodId) (a1 : Addr) (a2 : Addr) : entryFrame m #[(.ref a1), (.ref a2)] 3 = mkF m 0 #[.val (.ref a1), .val (.ref a2), .unset] [] := by first | (simp [entryFrame, mkF, argsToLocals, Value.category]; done) | rfl
set_option maxRecDepth 65536 in
set_option maxHeartbeats 4000000 in
theorem conE (l : Launch) (Z : State) (a0 : Array Value) (hw : ∀ d ∈ tables_1, d.before a0 Z = true) (a1 : Addr) (a2 : Addr) (h0 : Heap) (i1 i2 : Int64) (l1 l2 : Int32) (E2 : Exa Z h0 a2 "com/example/eventual_leader/eventualleader/election/StoredState") (F1 : Fld Z h0 a1 "com/example/eventual_leader/eventualleader/election/StoredState" "incarnation" "J" (.long i1)) (F2 : Fld Z h0 a1 "com/example/eventual_leader/eventualleader/election/StoredState" "leader" "I" (.int l1)) (G1 : Fld Z h0 a2 "com/example/eventual_leader/eventualleader/election/StoredState" "incarnation" "J" (.long i2)) (G2 : Fld Z h0 a2 "com/example/eventual_leader/eventualleader/election/StoredState" "leader" "I" (.int l2)) :
    own_Con l Z (⟨"com/example/eventual_leader/eventualleader/election/StoredState", "equals", "(Ljava/lang/Object;)Z"⟩ : MethodName) prog_22_method_4_code 3 (some .boolean) ({ frames := 0, cells := 0, slots := 0, locals := 0 } : Room) #[(.ref a1), (.ref a2)] h0 (fun v h L => ∃ z : Int32, v = some (.int z) ∧ (z = own_b (i1 = i2 ∧ l1 = l2)) ∧ L = [] ∧ h = h0) := by
  refine own_Con_of pn_3 ?_
  intro p e s m below meth c s₁ X0 hx hby hml hret hlk hnm hown hZ e0
  have hown : s.vm.findClass "com/example/eventual_leader/eventualleader/election/StoredState" = some m.cls := hown
  have hml : c.maxLocals = 3 := hml
  show own_WP _ _ _ _ _ _ _ (s₁.setTop (entryFrame m #[(.ref a1), (.ref a2)] 3))
  rw [ef_conE m a1 a2]
  refine own_aloadN (pc' := 1) X0 hx (hb hby d3_0) rfl rfl rfl ?_
  refine own_instY (pc' := 4) X0 hx hZ hown (own_w hw 19 rfl) e0 (Ins.self E2) (hb hby d3_1) rfl ?_
  intro T1 X1 e1
  refine own_if_eq (pt := 39) (pf := 7) X1 hx (hb hby d3_4) rfl (by decide) rfl (fun hc4 => absurd hc4 (by decide)) (fun hc4 => ?_)
  refine own_aloadN (pc' := 8) X1 hx (hb hby d3_7) rfl rfl rfl ?_
  refine own_castY (pc' := 11) X1 hx hZ hown (own_w hw 19 rfl) e1 (Ins.self E2) (hb hby d3_8) rfl ?_
  intro T2 X2 e2
  refine own_astoreN (pc' := 12) (l' := #[.val (.ref a1), .val (.ref a2), .val (.ref a2)]) X2 hx (hb hby d3_11) rfl rfl rfl ?_
  refine own_aloadN (pc' := 13) X2 hx (hb hby d3_12) rfl rfl rfl ?_
  refine own_getF (pc' := 16) X2 hx hZ hown (host := "") (Or.inl (own_w hw 10 rfl)) Via.refl e2 F1 (hb hby d3_13) rfl ?_
  intro T3 X3 e3
  refine own_aloadN (pc' := 17) X3 hx (hb hby d3_16) rfl rfl rfl ?_
  refine own_getF (pc' := 20) X3 hx hZ hown (host := "") (Or.inl (own_w hw 10 rfl)) Via.refl e3 G1 (hb hby d3_17) rfl ?_
  intro T4 X4 e4
  refine own_lcmp (pc' := 21) X4 hx (hb hby d3_20) rfl ?_
  refine own_ifl_ne (pt := 39) (pf := 24) X4 hx (hb hby d3_21) rfl (by decide) rfl (fun hc21 => ?_) (fun hc21 => ?_)
  · skip
    refine own_iconst (pc' := 40) X4 hx (0 : Int32) (hb hby d3_39) rfl rfl ?_
    refine own_retN X4 hx hlk (t := .boolean) (by decide) hret (hb hby d3_40) (by decide) (by decide) ?_
    exact ⟨(0 : Int32), rfl, by simp [own_b, hc4, hc21], rfl, e4⟩
  · skip
    refine own_aloadN (pc' := 25) X4 hx (hb hby d3_24) rfl rfl rfl ?_
    refine own_getF (pc' := 28) X4 hx hZ hown (host := "") (Or.inl (own_w hw 12 rfl)) Via.refl e4 F2 (hb hby d3_25) rfl ?_
    intro T5 X5 e5
    refine own_aloadN (pc' := 29) X5 hx (hb hby d3_28) rfl rfl rfl ?_
    refine own_getF (pc' := 32) X5 hx hZ hown (host := "") (Or.inl (own_w hw 12 rfl)) Via.refl e5 G2 (hb hby d3_29) rfl ?_
    intro T6 X6 e6
    refine own_icmp_ne (pt := 39) (pf := 35) X6 hx (hb hby d3_32) rfl (by decide) rfl (fun hc32 => ?_) (fun hc32 => ?_)
    · skip
      refine own_iconst (pc' := 40) X6 hx (0 : Int32) (hb hby d3_39) rfl rfl ?_
      refine own_retN X6 hx hlk (t := .boolean) (by decide) hret (hb hby d3_40) (by decide) (by decide) ?_
      exact ⟨(0 : Int32), rfl, by simp [own_b, hc4, hc21, hc32], rfl, e6⟩
    · skip
      refine own_iconst (pc' := 36) X6 hx (1 : Int32) (hb hby d3_35) rfl rfl ?_
      refine own_goto (pc' := 40) X6 hx (hb hby d3_36) (by decide) rfl ?_
      refine own_retN X6 hx hlk (t := .boolean) (by decide) hret (hb hby d3_40) (by decide) (by decide) ?_
      exact ⟨(1 : Int32), rfl, by simp [own_b, hc4, hc21, hc32], rfl, e6⟩
theorem ef_conE0 (m : MethodId) (a1 : Addr) : entryFrame m #[(.ref a1), .null] 3 = mkF m 0 #[.val (.ref a1), .val .null, .unset] [] := by first | (simp [entryFrame, mkF, argsToLocals, Value.category]; done) | rfl
set_option maxRecDepth 65536 in
set_option maxHeartbeats 4000000 in
theorem conE0 (l : Launch) (Z : State) (a0 : Array Value) (hw : ∀ d ∈ tables_1, d.before a0 Z = true) (a1 : Addr) (h0 : Heap) :
    own_Con l Z (⟨"com/example/eventual_leader/eventualleader/election/StoredState", "equals", "(Ljava/lang/Object;)Z"⟩ : MethodName) prog_22_method_4_code 3 (some .boolean) ({ frames := 0, cells := 0, slots := 0, locals := 0 } : Room) #[(.ref a1), .null] h0 (fun v h L => ∃ z : Int32, v = some (.int z) ∧ (z = 0) ∧ L = [] ∧ h = h0) := by
  refine own_Con_of pn_3 ?_
  intro p e s m below meth c s₁ X0 hx hby hml hret hlk hnm hown hZ e0
  have hown : s.vm.findClass "com/example/eventual_leader/eventualleader/election/StoredState" = some m.cls := hown
  have hml : c.maxLocals = 3 := hml
  show own_WP _ _ _ _ _ _ _ (s₁.setTop (entryFrame m #[(.ref a1), .null] 3))
  rw [ef_conE0 m a1]
  refine own_aloadN (pc' := 1) X0 hx (hb hby d3_0) rfl rfl rfl ?_
  refine own_inst0 (pc' := 4) X0 hx (hb hby d3_1) rfl ?_
  refine own_if_eq (pt := 39) (pf := 7) X0 hx (hb hby d3_4) rfl (by decide) rfl (fun hc4 => ?_) (fun hc4 => absurd (by decide) hc4)
  refine own_iconst (pc' := 40) X0 hx (0 : Int32) (hb hby d3_39) rfl rfl ?_
  refine own_retN X0 hx hlk (t := .boolean) (by decide) hret (hb hby d3_40) (by decide) (by decide) ?_
  exact ⟨(0 : Int32), rfl, rfl, rfl, e0⟩
theorem ef_conED (m : MethodId) (a1 : Addr) (a2 : Addr) : entryFrame m #[(.ref a1), (.ref a2)] 3 = mkF m 0 #[.val (.ref a1), .val (.ref a2), .unset] [] := by first | (simp [entryFrame, mkF, argsToLocals, Value.category]; done) | rfl
set_option maxRecDepth 65536 in
set_option maxHeartbeats 4000000 in
theorem conED (l : Launch) (Z : State) (a0 : Array Value) (hw : ∀ d ∈ tables_1, d.before a0 Z = true) (a1 : Addr) (a2 : Addr) (h0 : Heap) (D : String) (E2 : Exa Z h0 a2 D) (hno : ∃ c t, Z.vm.findClass D = some c ∧ Z.vm.findClass "com/example/eventual_leader/eventualleader/election/StoredState" = some t ∧ Z.vm.assignable c t = false) :
    own_Con l Z (⟨"com/example/eventual_leader/eventualleader/election/StoredState", "equals", "(Ljava/lang/Object;)Z"⟩ : MethodName) prog_22_method_4_code 3 (some .boolean) ({ frames := 0, cells := 0, slots := 0, locals := 0 } : Room) #[(.ref a1), (.ref a2)] h0 (fun v h L => ∃ z : Int32, v = some (.int z) ∧ (z = 0) ∧ L = [] ∧ h = h0) := by
  refine own_Con_of pn_3 ?_
  intro p e s m below meth c s₁ X0 hx hby hml hret hlk hnm hown hZ e0
  have hown : s.vm.findClass "com/example/eventual_leader/eventualleader/election/StoredState" = some m.cls := hown
  have hml : c.maxLocals = 3 := hml
  show own_WP _ _ _ _ _ _ _ (s₁.setTop (entryFrame m #[(.ref a1), (.ref a2)] 3))
  rw [ef_conED m a1 a2]
  refine own_aloadN (pc' := 1) X0 hx (hb hby d3_0) rfl rfl rfl ?_
  refine own_instN (pc' := 4) X0 hx hZ hown (own_w hw 19 rfl) e0 E2 hno (hb hby d3_1) rfl ?_
  intro T1 X1 e1
  refine own_if_eq (pt := 39) (pf := 7) X1 hx (hb hby d3_4) rfl (by decide) rfl (fun hc4 => ?_) (fun hc4 => absurd (by decide) hc4)
  refine own_iconst (pc' := 40) X1 hx (0 : Int32) (hb hby d3_39) rfl rfl ?_
  refine own_retN X1 hx hlk (t := .boolean) (by decide) hret (hb hby d3_40) (by decide) (by decide) ?_
  exact ⟨(0 : Int32), rfl, rfl, rfl, e1⟩
theorem d6_0 : decode jdk_18_method_1_code 0 = .ok (.aload_n 0, 1) := by decide +kernel
theorem d6_1 : decode jdk_18_method_1_code 1 = .ok (.invokespecial 1, 3) := by decide +kernel
theorem d6_4 : decode jdk_18_method_1_code 4 = .ok (.return_, 1) := by decide +kernel
theorem pn_6 : plainFor (⟨"java/lang/Number", "<init>", "()V"⟩ : MethodName) = true := plainFor_of_name (by first | (simp [plainName, overriddenIn]; done) | decide +kernel)
theorem ef_conNum (m : MethodId) (a1 : Addr) : entryFrame m #[(.ref a1)] 1 = mkF m 0 #[.val (.ref a1)] [] := by first | (simp [entryFrame, mkF, argsToLocals, Value.category]; done) | rfl
set_option maxRecDepth 65536 in
set_option maxHeartbeats 4000000 in
theorem conNum (l : Launch) (Z : State) (a0 : Array Value) (hw : ∀ d ∈ tables_1, d.before a0 Z = true) (a1 : Addr) (h0 : Heap) :
    own_Con l Z (⟨"java/lang/Number", "<init>", "()V"⟩ : MethodName) jdk_18_method_1_code 1 none ({ frames := 1, cells := 0, slots := 0, locals := 12 } : Room) #[(.ref a1)] h0 (fun v h L => v = none ∧ L = [] ∧ h = h0) := by
  refine own_Con_of pn_6 ?_
  intro p e s m below meth c s₁ X0 hx hby hml hret hlk hnm hown hZ e0
  have hown : s.vm.findClass "java/lang/Number" = some m.cls := hown
  have hml : c.maxLocals = 1 := hml
  show own_WP _ _ _ _ _ _ _ (s₁.setTop (entryFrame m #[(.ref a1)] 1))
  rw [ef_conNum m a1]
  refine own_aloadN (pc' := 1) X0 hx (hb hby d6_0) rfl rfl rfl ?_
  refine own_initO (pc' := 4) (W := 0) X0 hx hZ hown (own_w hw 39 rfl) (own_w hw 8 rfl) (own_w hw 9 rfl) e0 (by rw [hml]; rfl) (hb hby d6_1) (by decide) (Nat.le_of_eq rfl) (by decide) rfl ?_
  intro T1 X1 e1
  refine own_ret0 X1 hx hlk hret (hb hby d6_4) (by decide) (by decide) ?_
  exact ⟨rfl, rfl, e1⟩
theorem d5_0 : decode jdk_35_method_26_code 0 = .ok (.aload_n 0, 1) := by decide +kernel
theorem d5_1 : decode jdk_35_method_26_code 1 = .ok (.invokespecial 270, 3) := by decide +kernel
theorem d5_4 : decode jdk_35_method_26_code 4 = .ok (.aload_n 0, 1) := by decide +kernel
theorem d5_5 : decode jdk_35_method_26_code 5 = .ok (.lload_n 1, 1) := by decide +kernel
theorem d5_6 : decode jdk_35_method_26_code 6 = .ok (.putfield 273, 3) := by decide +kernel
theorem d5_9 : decode jdk_35_method_26_code 9 = .ok (.return_, 1) := by decide +kernel
theorem pn_5 : plainFor (⟨"java/lang/Long", "<init>", "(J)V"⟩ : MethodName) = true := plainFor_of_name (by first | (simp [plainName, overriddenIn]; done) | decide +kernel)
theorem ef_conLongI (m : MethodId) (a1 : Addr) (w1 : Int64) : entryFrame m #[(.ref a1), (.long w1)] 3 = mkF m 0 #[.val (.ref a1), .val (.long w1), .second] [] := by first | (simp [entryFrame, mkF, argsToLocals, Value.category]; done) | rfl
theorem pd0 : parseMethodDescriptor "()V" = some ⟨[], none⟩ := by decide +kernel
set_option maxRecDepth 65536 in
set_option maxHeartbeats 4000000 in
theorem conLongI (l : Launch) (Z : State) (a0 : Array Value) (hw : ∀ d ∈ tables_1, d.before a0 Z = true) (a1 : Addr) (w1 : Int64) (h0 : Heap) (n0 : Nat) (Z0 : n0 ≤ h0.size) (E1 : Exa Z h0 a1 "java/lang/Long") (F1 : Fld Z h0 a1 "java/lang/Long" "value" "J" (.long (0 : Int64))) (g_a1 : n0 ≤ a1) :
    own_Con l Z (⟨"java/lang/Long", "<init>", "(J)V"⟩ : MethodName) jdk_35_method_26_code 3 none ({ frames := 2, cells := 0, slots := 0, locals := 24 } : Room) #[(.ref a1), (.long w1)] h0 (fun v h L => v = none ∧ Fr n0 L ∧ Keep h0 h [a1] ∧ Exa Z h a1 "java/lang/Long") := by
  refine own_Con_of pn_5 ?_
  intro p e s m below meth c s₁ X0 hx hby hml hret hlk hnm hown hZ e0
  have hown : s.vm.findClass "java/lang/Long" = some m.cls := hown
  have hml : c.maxLocals = 3 := hml
  have N0 := Fr.nil n0
  show own_WP _ _ _ _ _ _ _ (s₁.setTop (entryFrame m #[(.ref a1), (.long w1)] 3))
  rw [ef_conLongI m a1 w1]
  refine own_aloadN (pc' := 1) X0 hx (hb hby d5_0) rfl rfl rfl ?_
  refine own_callN (pc' := 4) (W := 0) (y := (⟨"java/lang/Number", "<init>", "()V"⟩ : MethodName)) X0 hx hZ rfl hown (own_w hw 33 rfl) (own_w hw 34 rfl) (own_w hw 37 rfl) (own_w hw 38 rfl) (by decide) (conNum l Z a0 hw a1 _) e0 pd0 a1 [] [] rfl rfl rfl (Nat.le_of_eq rfl) (by decide) (by decide) (by rw [hml]; rfl) (hb hby d5_1) (by decide) (by decide) rfl ?_
  intro v1 T1 L1 X1 q1
  obtain ⟨rfl, rfl, e1⟩ := q1
  have N1 := Fr.app N0 (Fr.nil n0)
  show own_WP _ _ _ _ _ _ _ (T1.setTop (mkF m 4 #[.val (.ref a1), .val (.long w1), .second] []))
  refine own_aloadN (pc' := 5) X1 hx (hb hby d5_4) rfl rfl rfl ?_
  refine own_lloadN (pc' := 6) X1 hx (hb hby d5_5) rfl rfl ?_
  refine own_putF (pc' := 9) X1 hx hZ hown (host := "") (Or.inl (own_w hw 40 rfl)) Via.refl e1 F1 E1 (Or.inr ⟨(own_w hw 41 rfl), rfl, hnm⟩) (own_w hw 28 rfl) (ty := .long) (by decide) rfl rfl (hb hby d5_6) rfl ?_
  intro T2 h2 X2 e2 W2
  have z2 : n0 ≤ h2.size := Nat.le_trans Z0 (Keep.of_wr W2).1
  have Fw2 := F1.same W2
  have N2 := Fr.snoc X2 N1 g_a1
  have K2 : Keep h0 h2 [a1] := (Keep.refl h0 [a1]).wr W2 (Or.inl (List.mem_of_getElem? (i := 0) rfl))
  have f3 := (E1.wr W2)
  refine own_ret0 X2 hx hlk hret (hb hby d5_9) (by decide) (by decide) ?_
  rw [e2]
  exact ⟨rfl, N2, K2, f3⟩
theorem d4_0 : decode jdk_35_method_24_code 0 = .ok (.sipush 128, 3) := by decide +kernel
theorem d4_3 : decode jdk_35_method_24_code 3 = .ok (.istore_n 2, 1) := by decide +kernel
theorem d4_4 : decode jdk_35_method_24_code 4 = .ok (.lload_n 0, 1) := by decide +kernel
theorem d4_5 : decode jdk_35_method_24_code 5 = .ok (.ldc2_w 230, 3) := by decide +kernel
theorem d4_8 : decode jdk_35_method_24_code 8 = .ok (.lcmp, 1) := by decide +kernel
theorem d4_9 : decode jdk_35_method_24_code 9 = .ok (.ifCond .lt 22, 3) := by decide +kernel
theorem d4_12 : decode jdk_35_method_24_code 12 = .ok (.lload_n 0, 1) := by decide +kernel
theorem d4_13 : decode jdk_35_method_24_code 13 = .ok (.ldc2_w 232, 3) := by decide +kernel
theorem d4_16 : decode jdk_35_method_24_code 16 = .ok (.lcmp, 1) := by decide +kernel
theorem d4_17 : decode jdk_35_method_24_code 17 = .ok (.ifCond .gt 14, 3) := by decide +kernel
theorem d4_20 : decode jdk_35_method_24_code 20 = .ok (.getstatic 234, 3) := by decide +kernel
theorem d4_23 : decode jdk_35_method_24_code 23 = .ok (.lload_n 0, 1) := by decide +kernel
theorem d4_24 : decode jdk_35_method_24_code 24 = .ok (.l2i, 1) := by decide +kernel
theorem d4_25 : decode jdk_35_method_24_code 25 = .ok (.sipush 128, 3) := by decide +kernel
theorem d4_28 : decode jdk_35_method_24_code 28 = .ok (.iadd, 1) := by decide +kernel
theorem d4_29 : decode jdk_35_method_24_code 29 = .ok (.aaload, 1) := by decide +kernel
theorem d4_30 : decode jdk_35_method_24_code 30 = .ok (.areturn, 1) := by decide +kernel
theorem d4_31 : decode jdk_35_method_24_code 31 = .ok (.new 1, 3) := by decide +kernel
theorem d4_34 : decode jdk_35_method_24_code 34 = .ok (.dup, 1) := by decide +kernel
theorem d4_35 : decode jdk_35_method_24_code 35 = .ok (.lload_n 0, 1) := by decide +kernel
theorem d4_36 : decode jdk_35_method_24_code 36 = .ok (.invokespecial 240, 3) := by decide +kernel
theorem d4_39 : decode jdk_35_method_24_code 39 = .ok (.areturn, 1) := by decide +kernel
theorem pn_4 : plainFor (⟨"java/lang/Long", "valueOf", "(J)Ljava/lang/Long;"⟩ : MethodName) = true := plainFor_of_name (by first | (simp [plainName, overriddenIn]; done) | decide +kernel)
theorem ef_conLongV (m : MethodId) (w1 : Int64) : entryFrame m #[(.long w1)] 3 = mkF m 0 #[.val (.long w1), .second, .unset] [] := by first | (simp [entryFrame, mkF, argsToLocals, Value.category]; done) | rfl
theorem pd1 : parseMethodDescriptor "(J)V" = some ⟨[.long], none⟩ := by decide +kernel
set_option maxRecDepth 65536 in
set_option maxHeartbeats 4000000 in
theorem conLongV (l : Launch) (Z : State) (a0 : Array Value) (hw : ∀ d ∈ tables_1, d.before a0 Z = true) (w1 : Int64) (h0 : Heap) (n0 : Nat) (Z0 : n0 ≤ h0.size) (ca : Addr) (cl : Cell) (hca : own_Cache Z h0 "java/lang/Long" "java/lang/Long$LongCache" "[Ljava/lang/Long;" ca cl) :
    own_Con l Z (⟨"java/lang/Long", "valueOf", "(J)Ljava/lang/Long;"⟩ : MethodName) jdk_35_method_24_code 3 (some (.object "java/lang/Long")) ({ frames := 3, cells := 1, slots := 1, locals := 39 } : Room) #[(.long w1)] h0 (fun v h L => ∃ b : Addr, v = some (.ref b) ∧ Fr n0 L ∧ Keep h0 h [] ∧ Exa Z h b "java/lang/Long") := by
  refine own_Con_of pn_4 ?_
  intro p e s m below meth c s₁ X0 hx hby hml hret hlk hnm hown hZ e0
  have hown : s.vm.findClass "java/lang/Long" = some m.cls := hown
  have hml : c.maxLocals = 3 := hml
  have N0 := Fr.nil n0
  show own_WP _ _ _ _ _ _ _ (s₁.setTop (entryFrame m #[(.long w1)] 3))
  rw [ef_conLongV m w1]
  refine own_sipush (pc' := 3) X0 hx (128 : Int32) (hb hby d4_0) rfl rfl ?_
  refine own_istoreN (pc' := 4) (l' := #[.val (.long w1), .second, .val (.int (128 : Int32))]) X0 hx (hb hby d4_3) rfl rfl rfl ?_
  refine own_lloadN (pc' := 5) X0 hx (hb hby d4_4) rfl rfl ?_
  refine own_ldc2Long (pc' := 8) X0 hx hZ hown (own_w hw 25 rfl) (hb hby d4_5) rfl ?_
  refine own_lcmp (pc' := 9) X0 hx (hb hby d4_8) rfl ?_
  refine own_ifl_lt (pt := 31) (pf := 12) X0 hx (hb hby d4_9) rfl (by decide) rfl (fun hc9 => ?_) (fun hc9 => ?_)
  · skip
    refine own_new (pc' := 34) X0 hx hZ hown (own_w hw 27 rfl) (own_w hw 28 rfl) (own_w hw 23 rfl) e0 (hb hby d4_31) (by decide) (by decide) rfl ?_
    intro T1 h1 b1 g1 X1 e1 E1 A1 D1
    have g_b1 : n0 ≤ b1 := Nat.le_trans Z0 (Nat.le_of_eq g1.symm)
    have sz_b1 : h0.size ≤ b1 := Nat.le_trans (Keep.refl h0 []).1 (Nat.le_of_eq g1.symm)
    have z1 : n0 ≤ h1.size := Nat.le_trans Z0 E1.1
    have K1 : Keep h0 h1 [] := (Keep.refl h0 []).ext E1
    have F1_value : Fld Z h1 b1 "java/lang/Long" "value" "J" (.long (0 : Int64)) := D1 (Or.inr (own_w hw 41 rfl)) (ty := .long) (by decide)
    refine own_dup (pc' := 35) X1 hx (hb hby d4_34) rfl rfl ?_
    refine own_lloadN (pc' := 36) X1 hx (hb hby d4_35) rfl rfl ?_
    refine own_callN (pc' := 39) (W := 1) (y := (⟨"java/lang/Long", "<init>", "(J)V"⟩ : MethodName)) X1 hx hZ rfl hown (own_w hw 29 rfl) (own_w hw 30 rfl) (own_w hw 23 rfl) (own_w hw 32 rfl) (by decide) (conLongI l Z a0 hw b1 w1 _ n0 z1 A1 F1_value g_b1) e1 pd1 b1 [(.long w1)] [(.ref b1)] rfl rfl rfl (Nat.le_of_eq rfl) (by decide) (by decide) (by rw [hml]; rfl) (hb hby d4_36) (by decide) (by decide) rfl ?_
    intro v2 T2 L2 X2 q2
    obtain ⟨rfl, M2, K2, E2q⟩ := q2
    obtain ⟨h2, e2⟩ : ∃ z, z = T2.heap := ⟨_, rfl⟩
    rw [← e2] at K2 E2q
    have e2 := e2.symm
    have z2 : n0 ≤ h2.size := Nat.le_trans z1 K2.1
    have N2 := Fr.app N0 M2
    have KK2 : Keep h0 h2 [] := K1.trans K2 (allS (Or.inr sz_b1) all0)
    show own_WP _ _ _ _ _ _ _ (T2.setTop (mkF m 39 #[.val (.long w1), .second, .val (.int (128 : Int32))] [(.ref b1)]))
    refine own_retA X2 hx hlk rfl hret rfl rfl (hb hby d4_39) (by decide) (by decide) ?_
    rw [e2]
    exact ⟨b1, rfl, N2, KK2, E2q⟩
  · skip
    refine own_lloadN (pc' := 13) X0 hx (hb hby d4_12) rfl rfl ?_
    refine own_ldc2Long (pc' := 16) X0 hx hZ hown (own_w hw 26 rfl) (hb hby d4_13) rfl ?_
    refine own_lcmp (pc' := 17) X0 hx (hb hby d4_16) rfl ?_
    refine own_ifl_gt (pt := 31) (pf := 20) X0 hx (hb hby d4_17) rfl (by decide) rfl (fun hc17 => ?_) (fun hc17 => ?_)
    · skip
      refine own_new (pc' := 34) X0 hx hZ hown (own_w hw 27 rfl) (own_w hw 28 rfl) (own_w hw 23 rfl) e0 (hb hby d4_31) (by decide) (by decide) rfl ?_
      intro T3 h3 b3 g3 X3 e3 E3 A3 D3
      have g_b3 : n0 ≤ b3 := Nat.le_trans Z0 (Nat.le_of_eq g3.symm)
      have sz_b3 : h0.size ≤ b3 := Nat.le_trans (Keep.refl h0 []).1 (Nat.le_of_eq g3.symm)
      have z3 : n0 ≤ h3.size := Nat.le_trans Z0 E3.1
      have K3 : Keep h0 h3 [] := (Keep.refl h0 []).ext E3
      have F3_value : Fld Z h3 b3 "java/lang/Long" "value" "J" (.long (0 : Int64)) := D3 (Or.inr (own_w hw 41 rfl)) (ty := .long) (by decide)
      refine own_dup (pc' := 35) X3 hx (hb hby d4_34) rfl rfl ?_
      refine own_lloadN (pc' := 36) X3 hx (hb hby d4_35) rfl rfl ?_
      refine own_callN (pc' := 39) (W := 1) (y := (⟨"java/lang/Long", "<init>", "(J)V"⟩ : MethodName)) X3 hx hZ rfl hown (own_w hw 29 rfl) (own_w hw 30 rfl) (own_w hw 23 rfl) (own_w hw 32 rfl) (by decide) (conLongI l Z a0 hw b3 w1 _ n0 z3 A3 F3_value g_b3) e3 pd1 b3 [(.long w1)] [(.ref b3)] rfl rfl rfl (Nat.le_of_eq rfl) (by decide) (by decide) (by rw [hml]; rfl) (hb hby d4_36) (by decide) (by decide) rfl ?_
      intro v4 T4 L4 X4 q4
      obtain ⟨rfl, M4, K4, E4q⟩ := q4
      obtain ⟨h4, e4⟩ : ∃ z, z = T4.heap := ⟨_, rfl⟩
      rw [← e4] at K4 E4q
      have e4 := e4.symm
      have z4 : n0 ≤ h4.size := Nat.le_trans z3 K4.1
      have N4 := Fr.app N0 M4
      have KK4 : Keep h0 h4 [] := K3.trans K4 (allS (Or.inr sz_b3) all0)
      show own_WP _ _ _ _ _ _ _ (T4.setTop (mkF m 39 #[.val (.long w1), .second, .val (.int (128 : Int32))] [(.ref b3)]))
      refine own_retA X4 hx hlk rfl hret rfl rfl (hb hby d4_39) (by decide) (by decide) ?_
      rw [e4]
      exact ⟨b3, rfl, N4, KK4, E4q⟩
    · skip
      refine own_getS (pc' := 23) (host := "") X0 hx hZ hown (Or.inl (own_w hw 63 rfl)) Via.refl e0 hca.1 (hb hby d4_20) rfl ?_
      intro T5 X5 e5
      refine own_lloadN (pc' := 24) X5 hx (hb hby d4_23) rfl rfl ?_
      refine own_l2i (pc' := 25) X5 hx (hb hby d4_24) rfl ?_
      refine own_sipush (pc' := 28) X5 hx (128 : Int32) (hb hby d4_25) rfl rfl ?_
      refine own_iadd (pc' := 29) X5 hx (hb hby d4_28) rfl ?_
      obtain ⟨bb, qb1, qb2⟩ := hca.2.2.2 _ (Jvm.Free.LongBox.place_okL w1 hc9 hc17).2
      refine own_aaload (pc' := 30) X5 hx hZ e5 hca.2.1 rfl (by rw [hca.2.2.1]; exact (Jvm.Free.LongBox.place_okL w1 hc9 hc17).1) qb1 (hb hby d4_29) rfl ?_
      refine own_retA X5 hx hlk rfl hret rfl rfl (hb hby d4_30) (by decide) (by decide) ?_
      rw [e5]
      exact ⟨bb, rfl, N0, (Keep.refl h0 []), qb2⟩
theorem d8_0 : decode jdk_33_method_23_code 0 = .ok (.aload_n 0, 1) := by decide +kernel
theorem d8_1 : decode jdk_33_method_23_code 1 = .ok (.invokespecial 202, 3) := by decide +kernel
theorem d8_4 : decode jdk_33_method_23_code 4 = .ok (.aload_n 0, 1) := by decide +kernel
theorem d8_5 : decode jdk_33_method_23_code 5 = .ok (.iload_n 1, 1) := by decide +kernel
theorem d8_6 : decode jdk_33_method_23_code 6 = .ok (.putfield 205, 3) := by decide +kernel
theorem d8_9 : decode jdk_33_method_23_code 9 = .ok (.return_, 1) := by decide +kernel
theorem pn_8 : plainFor (⟨"java/lang/Integer", "<init>", "(I)V"⟩ : MethodName) = true := plainFor_of_name (by first | (simp [plainName, overriddenIn]; done) | decide +kernel)
theorem ef_conIntegerI (m : MethodId) (a1 : Addr) (w1 : Int32) : entryFrame m #[(.ref a1), (.int w1)] 2 = mkF m 0 #[.val (.ref a1), .val (.int w1)] [] := by first | (simp [entryFrame, mkF, argsToLocals, Value.category]; done) | rfl
set_option maxRecDepth 65536 in
set_option maxHeartbeats 4000000 in
theorem conIntegerI (l : Launch) (Z : State) (a0 : Array Value) (hw : ∀ d ∈ tables_1, d.before a0 Z = true) (a1 : Addr) (w1 : Int32) (h0 : Heap) (n0 : Nat) (Z0 : n0 ≤ h0.size) (E1 : Exa Z h0 a1 "java/lang/Integer") (F1 : Fld Z h0 a1 "java/lang/Integer" "value" "I" (.int (0 : Int32))) (g_a1 : n0 ≤ a1) :
    own_Con l Z (⟨"java/lang/Integer", "<init>", "(I)V"⟩ : MethodName) jdk_33_method_23_code 2 none ({ frames := 2, cells := 0, slots := 0, locals := 24 } : Room) #[(.ref a1), (.int w1)] h0 (fun v h L => v = none ∧ Fr n0 L ∧ Keep h0 h [a1] ∧ Exa Z h a1 "java/lang/Integer") := by
  refine own_Con_of pn_8 ?_
  intro p e s m below meth c s₁ X0 hx hby hml hret hlk hnm hown hZ e0
  have hown : s.vm.findClass "java/lang/Integer" = some m.cls := hown
  have hml : c.maxLocals = 2 := hml
  have N0 := Fr.nil n0
  show own_WP _ _ _ _ _ _ _ (s₁.setTop (entryFrame m #[(.ref a1), (.int w1)] 2))
  rw [ef_conIntegerI m a1 w1]
  refine own_aloadN (pc' := 1) X0 hx (hb hby d8_0) rfl rfl rfl ?_
  refine own_callN (pc' := 4) (W := 0) (y := (⟨"java/lang/Number", "<init>", "()V"⟩ : MethodName)) X0 hx hZ rfl hown (own_w hw 57 rfl) (own_w hw 34 rfl) (own_w hw 37 rfl) (own_w hw 38 rfl) (by decide) (conNum l Z a0 hw a1 _) e0 pd0 a1 [] [] rfl rfl rfl (Nat.le_of_eq rfl) (by decide) (by decide) (by rw [hml]; rfl) (hb hby d8_1) (by decide) (by decide) rfl ?_
  intro v1 T1 L1 X1 q1
  obtain ⟨rfl, rfl, e1⟩ := q1
  have N1 := Fr.app N0 (Fr.nil n0)
  show own_WP _ _ _ _ _ _ _ (T1.setTop (mkF m 4 #[.val (.ref a1), .val (.int w1)] []))
  refine own_aloadN (pc' := 5) X1 hx (hb hby d8_4) rfl rfl rfl ?_
  refine own_iloadN (pc' := 6) X1 hx (hb hby d8_5) rfl rfl ?_
  refine own_putF (pc' := 9) X1 hx hZ hown (host := "") (Or.inl (own_w hw 59 rfl)) Via.refl e1 F1 E1 (Or.inr ⟨(own_w hw 60 rfl), rfl, hnm⟩) (own_w hw 52 rfl) (ty := .int) (by decide) rfl rfl (hb hby d8_6) rfl ?_
  intro T2 h2 X2 e2 W2
  have z2 : n0 ≤ h2.size := Nat.le_trans Z0 (Keep.of_wr W2).1
  have Fw2 := F1.same W2
  have N2 := Fr.snoc X2 N1 g_a1
  have K2 : Keep h0 h2 [a1] := (Keep.refl h0 [a1]).wr W2 (Or.inl (List.mem_of_getElem? (i := 0) rfl))
  have f3 := (E1.wr W2)
  refine own_ret0 X2 hx hlk hret (hb hby d8_9) (by decide) (by decide) ?_
  rw [e2]
  exact ⟨rfl, N2, K2, f3⟩
theorem d7_0 : decode jdk_33_method_22_code 0 = .ok (.iload_n 0, 1) := by decide +kernel
theorem d7_1 : decode jdk_33_method_22_code 1 = .ok (.bipush (-128), 2) := by decide +kernel
theorem d7_3 : decode jdk_33_method_22_code 3 = .ok (.if_icmp .lt 20, 3) := by decide +kernel
theorem d7_6 : decode jdk_33_method_22_code 6 = .ok (.iload_n 0, 1) := by decide +kernel
theorem d7_7 : decode jdk_33_method_22_code 7 = .ok (.getstatic 191, 3) := by decide +kernel
theorem d7_10 : decode jdk_33_method_22_code 10 = .ok (.if_icmp .gt 13, 3) := by decide +kernel
theorem d7_13 : decode jdk_33_method_22_code 13 = .ok (.getstatic 195, 3) := by decide +kernel
theorem d7_16 : decode jdk_33_method_22_code 16 = .ok (.iload_n 0, 1) := by decide +kernel
theorem d7_17 : decode jdk_33_method_22_code 17 = .ok (.sipush 128, 3) := by decide +kernel
theorem d7_20 : decode jdk_33_method_22_code 20 = .ok (.iadd, 1) := by decide +kernel
theorem d7_21 : decode jdk_33_method_22_code 21 = .ok (.aaload, 1) := by decide +kernel
theorem d7_22 : decode jdk_33_method_22_code 22 = .ok (.areturn, 1) := by decide +kernel
theorem d7_23 : decode jdk_33_method_22_code 23 = .ok (.new 1, 3) := by decide +kernel
theorem d7_26 : decode jdk_33_method_22_code 26 = .ok (.dup, 1) := by decide +kernel
theorem d7_27 : decode jdk_33_method_22_code 27 = .ok (.iload_n 0, 1) := by decide +kernel
theorem d7_28 : decode jdk_33_method_22_code 28 = .ok (.invokespecial 199, 3) := by decide +kernel
theorem d7_31 : decode jdk_33_method_22_code 31 = .ok (.areturn, 1) := by decide +kernel
theorem pn_7 : plainFor (⟨"java/lang/Integer", "valueOf", "(I)Ljava/lang/Integer;"⟩ : MethodName) = true := plainFor_of_name (by first | (simp [plainName, overriddenIn]; done) | decide +kernel)
theorem ef_conIntegerV (m : MethodId) (w1 : Int32) : entryFrame m #[(.int w1)] 1 = mkF m 0 #[.val (.int w1)] [] := by first | (simp [entryFrame, mkF, argsToLocals, Value.category]; done) | rfl
theorem pd2 : parseMethodDescriptor "(I)V" = some ⟨[.int], none⟩ := by decide +kernel
set_option maxRecDepth 65536 in
set_option maxHeartbeats 4000000 in
theorem conIntegerV (l : Launch) (Z : State) (a0 : Array Value) (hw : ∀ d ∈ tables_1, d.before a0 Z = true) (w1 : Int32) (h0 : Heap) (n0 : Nat) (Z0 : n0 ≤ h0.size) (ca : Addr) (cl : Cell) (hca : own_Cache Z h0 "java/lang/Integer" "java/lang/Integer$IntegerCache" "[Ljava/lang/Integer;" ca cl) (hhi : Sta Z h0 "java/lang/Integer$IntegerCache" "high" "I" (.int 127)) :
    own_Con l Z (⟨"java/lang/Integer", "valueOf", "(I)Ljava/lang/Integer;"⟩ : MethodName) jdk_33_method_22_code 1 (some (.object "java/lang/Integer")) ({ frames := 3, cells := 1, slots := 1, locals := 38 } : Room) #[(.int w1)] h0 (fun v h L => ∃ b : Addr, v = some (.ref b) ∧ Fr n0 L ∧ Keep h0 h [] ∧ Exa Z h b "java/lang/Integer") := by
  refine own_Con_of pn_7 ?_
  intro p e s m below meth c s₁ X0 hx hby hml hret hlk hnm hown hZ e0
  have hown : s.vm.findClass "java/lang/Integer" = some m.cls := hown
  have hml : c.maxLocals = 1 := hml
  have N0 := Fr.nil n0
  show own_WP _ _ _ _ _ _ _ (s₁.setTop (entryFrame m #[(.int w1)] 1))
  rw [ef_conIntegerV m w1]
  refine own_iloadN (pc' := 1) X0 hx (hb hby d7_0) rfl rfl ?_
  refine own_bipush (pc' := 3) X0 hx (-128 : Int32) (hb hby d7_1) rfl rfl ?_
  refine own_icmp_lt (pt := 23) (pf := 6) X0 hx (hb hby d7_3) rfl (by decide) rfl (fun hc3 => ?_) (fun hc3 => ?_)
  · skip
    refine own_new (pc' := 26) X0 hx hZ hown (own_w hw 51 rfl) (own_w hw 52 rfl) (own_w hw 47 rfl) e0 (hb hby d7_23) (by decide) (by decide) rfl ?_
    intro T1 h1 b1 g1 X1 e1 E1 A1 D1
    have g_b1 : n0 ≤ b1 := Nat.le_trans Z0 (Nat.le_of_eq g1.symm)
    have sz_b1 : h0.size ≤ b1 := Nat.le_trans (Keep.refl h0 []).1 (Nat.le_of_eq g1.symm)
    have z1 : n0 ≤ h1.size := Nat.le_trans Z0 E1.1
    have K1 : Keep h0 h1 [] := (Keep.refl h0 []).ext E1
    have F1_value : Fld Z h1 b1 "java/lang/Integer" "value" "I" (.int (0 : Int32)) := D1 (Or.inr (own_w hw 60 rfl)) (ty := .int) (by decide)
    refine own_dup (pc' := 27) X1 hx (hb hby d7_26) rfl rfl ?_
    refine own_iloadN (pc' := 28) X1 hx (hb hby d7_27) rfl rfl ?_
    refine own_callN (pc' := 31) (W := 1) (y := (⟨"java/lang/Integer", "<init>", "(I)V"⟩ : MethodName)) X1 hx hZ rfl hown (own_w hw 53 rfl) (own_w hw 54 rfl) (own_w hw 47 rfl) (own_w hw 56 rfl) (by decide) (conIntegerI l Z a0 hw b1 w1 _ n0 z1 A1 F1_value g_b1) e1 pd2 b1 [(.int w1)] [(.ref b1)] rfl rfl rfl (Nat.le_of_eq rfl) (by decide) (by decide) (by rw [hml]; rfl) (hb hby d7_28) (by decide) (by decide) rfl ?_
    intro v2 T2 L2 X2 q2
    obtain ⟨rfl, M2, K2, E2q⟩ := q2
    obtain ⟨h2, e2⟩ : ∃ z, z = T2.heap := ⟨_, rfl⟩
    rw [← e2] at K2 E2q
    have e2 := e2.symm
    have z2 : n0 ≤ h2.size := Nat.le_trans z1 K2.1
    have N2 := Fr.app N0 M2
    have KK2 : Keep h0 h2 [] := K1.trans K2 (allS (Or.inr sz_b1) all0)
    show own_WP _ _ _ _ _ _ _ (T2.setTop (mkF m 31 #[.val (.int w1)] [(.ref b1)]))
    refine own_retA X2 hx hlk rfl hret rfl rfl (hb hby d7_31) (by decide) (by decide) ?_
    rw [e2]
    exact ⟨b1, rfl, N2, KK2, E2q⟩
  · skip
    refine own_iloadN (pc' := 7) X0 hx (hb hby d7_6) rfl rfl ?_
    refine own_getS (pc' := 10) (host := "") X0 hx hZ hown (Or.inl (own_w hw 49 rfl)) Via.refl e0 hhi (hb hby d7_7) rfl ?_
    intro T3 X3 e3
    refine own_icmp_gt (pt := 23) (pf := 13) X3 hx (hb hby d7_10) rfl (by decide) rfl (fun hc10 => ?_) (fun hc10 => ?_)
    · skip
      refine own_new (pc' := 26) X3 hx hZ hown (own_w hw 51 rfl) (own_w hw 52 rfl) (own_w hw 47 rfl) e3 (hb hby d7_23) (by decide) (by decide) rfl ?_
      intro T4 h4 b4 g4 X4 e4 E4 A4 D4
      have g_b4 : n0 ≤ b4 := Nat.le_trans Z0 (Nat.le_of_eq g4.symm)
      have sz_b4 : h0.size ≤ b4 := Nat.le_trans (Keep.refl h0 []).1 (Nat.le_of_eq g4.symm)
      have z4 : n0 ≤ h4.size := Nat.le_trans Z0 E4.1
      have K4 : Keep h0 h4 [] := (Keep.refl h0 []).ext E4
      have F4_value : Fld Z h4 b4 "java/lang/Integer" "value" "I" (.int (0 : Int32)) := D4 (Or.inr (own_w hw 60 rfl)) (ty := .int) (by decide)
      refine own_dup (pc' := 27) X4 hx (hb hby d7_26) rfl rfl ?_
      refine own_iloadN (pc' := 28) X4 hx (hb hby d7_27) rfl rfl ?_
      refine own_callN (pc' := 31) (W := 1) (y := (⟨"java/lang/Integer", "<init>", "(I)V"⟩ : MethodName)) X4 hx hZ rfl hown (own_w hw 53 rfl) (own_w hw 54 rfl) (own_w hw 47 rfl) (own_w hw 56 rfl) (by decide) (conIntegerI l Z a0 hw b4 w1 _ n0 z4 A4 F4_value g_b4) e4 pd2 b4 [(.int w1)] [(.ref b4)] rfl rfl rfl (Nat.le_of_eq rfl) (by decide) (by decide) (by rw [hml]; rfl) (hb hby d7_28) (by decide) (by decide) rfl ?_
      intro v5 T5 L5 X5 q5
      obtain ⟨rfl, M5, K5, E5q⟩ := q5
      obtain ⟨h5, e5⟩ : ∃ z, z = T5.heap := ⟨_, rfl⟩
      rw [← e5] at K5 E5q
      have e5 := e5.symm
      have z5 : n0 ≤ h5.size := Nat.le_trans z4 K5.1
      have N5 := Fr.app N0 M5
      have KK5 : Keep h0 h5 [] := K4.trans K5 (allS (Or.inr sz_b4) all0)
      show own_WP _ _ _ _ _ _ _ (T5.setTop (mkF m 31 #[.val (.int w1)] [(.ref b4)]))
      refine own_retA X5 hx hlk rfl hret rfl rfl (hb hby d7_31) (by decide) (by decide) ?_
      rw [e5]
      exact ⟨b4, rfl, N5, KK5, E5q⟩
    · skip
      refine own_getS (pc' := 16) (host := "") X3 hx hZ hown (Or.inl (own_w hw 62 rfl)) Via.refl e3 hca.1 (hb hby d7_13) rfl ?_
      intro T6 X6 e6
      refine own_iloadN (pc' := 17) X6 hx (hb hby d7_16) rfl rfl ?_
      refine own_sipush (pc' := 20) X6 hx (128 : Int32) (hb hby d7_17) rfl rfl ?_
      refine own_iadd (pc' := 21) X6 hx (hb hby d7_20) rfl ?_
      obtain ⟨bb, qb1, qb2⟩ := hca.2.2.2 _ (Jvm.Free.IntBox.place_ok w1 hc3 hc10).2
      refine own_aaload (pc' := 22) X6 hx hZ e6 hca.2.1 rfl (by rw [hca.2.2.1]; exact (Jvm.Free.IntBox.place_ok w1 hc3 hc10).1) qb1 (hb hby d7_21) rfl ?_
      refine own_retA X6 hx hlk rfl hret rfl rfl (hb hby d7_22) (by decide) (by decide) ?_
      rw [e6]
      exact ⟨bb, rfl, N0, (Keep.refl h0 []), qb2⟩
theorem own_no (Z : State) (a0 : Array Value) (hw : ∀ d ∈ tables_1, d.before a0 Z = true) : (∃ c t, Z.vm.findClass "java/lang/Long" = some c ∧ Z.vm.findClass "com/example/eventual_leader/eventualleader/election/StoredState" = some t ∧ Z.vm.assignable c t = false) ∧ (∃ c t, Z.vm.findClass "java/lang/Integer" = some c ∧ Z.vm.findClass "com/example/eventual_leader/eventualleader/election/StoredState" = some t ∧ Z.vm.assignable c t = false) := by
  have n1 := own_NSroot (own_w hw 44 rfl) (own_w hw 2 rfl) (show "java/lang/Object" ≠ "com/example/eventual_leader/eventualleader/election/StoredState" by decide)
  have n2 := NS.step (own_w hw 43 rfl) n1 (by decide)
  have n3 := NS.step (own_w hw 42 rfl) n2 (by decide)
  have n4 := NS.step (own_w hw 61 rfl) n2 (by decide)
  exact ⟨own_NSno (own_w hw 28 rfl) (own_w hw 2 rfl) n3 (by decide), own_NSno (own_w hw 52 rfl) (own_w hw 2 rfl) n4 (by decide)⟩
theorem pn_0 : plainFor x = true := plainFor_of_name (by first | (simp [plainName, overriddenIn]; done) | decide +kernel)
theorem ef_con0 (m : MethodId) (p0 : Int64) (p1 : Int32) (p2 : Int64) (p3 : Int32) (p4 : Int32) : entryFrame m #[(.long p0), (.int p1), (.long p2), (.int p3), (.int p4)] 18 = mkF m 0 #[.val (.long p0), .second, .val (.int p1), .val (.long p2), .second, .val (.int p3), .val (.int p4), .unset, .unset, .unset, .unset, .unset, .unset, .unset, .unset, .unset, .unset, .unset] [] := by first | (simp [entryFrame, mkF, argsToLocals, Value.category]; done) | rfl
theorem pd3 : parseMethodDescriptor "(JI)V" = some ⟨[.long, .int], none⟩ := by decide +kernel
theorem pd4 : parseMethodDescriptor "(I)Ljava/lang/Integer;" = some ⟨[.int], some (.object "java/lang/Integer")⟩ := by decide +kernel
theorem pd5 : parseMethodDescriptor "(Ljava/lang/Object;)Z" = some ⟨[(.object "java/lang/Object")], some .boolean⟩ := by decide +kernel
theorem pd6 : parseMethodDescriptor "(J)Ljava/lang/Long;" = some ⟨[.long], some (.object "java/lang/Long")⟩ := by decide +kernel
set_option maxRecDepth 65536 in
set_option maxHeartbeats 4000000 in
theorem con0 (l : Launch) (Z : State) (a0 : Array Value) (hw : ∀ d ∈ tables_1, d.before a0 Z = true) (p0 : Int64) (p1 : Int32) (p2 : Int64) (p3 : Int32) (p4 : Int32) (h0 : Heap) (n0 : Nat) (Z0 : n0 ≤ h0.size) (caJ : Addr) (clJ : Cell) (hcaJ : own_Cache Z h0 "java/lang/Long" "java/lang/Long$LongCache" "[Ljava/lang/Long;" caJ clJ) (caI : Addr) (clI : Cell) (hcaI : own_Cache Z h0 "java/lang/Integer" "java/lang/Integer$IntegerCache" "[Ljava/lang/Integer;" caI clI) (hhi : Sta Z h0 "java/lang/Integer$IntegerCache" "high" "I" (.int 127)) (hn0 : h0.size ≤ n0) :
    own_Con l Z x code maxLocals ret room_1 #[(.long p0), (.int p1), (.long p2), (.int p3), (.int p4)] h0 (fun v h L => v = some (.int 1) ∧ Fr n0 L) := by
  refine own_Con_of pn_0 ?_
  intro p e s m below meth c s₁ X0 hx hby hml hret hlk hnm hown hZ e0
  have hown : s.vm.findClass "com/example/eventual_leader/eventualleader/election/StoredStateEqualsPinLaw" = some m.cls := hown
  have hml : c.maxLocals = 18 := hml
  have hret : meth.sig.returnType = (some .boolean) := hret
  have N0 := Fr.nil n0
  show own_WP _ _ _ _ _ _ _ (s₁.setTop (entryFrame m #[(.long p0), (.int p1), (.long p2), (.int p3), (.int p4)] 18))
  rw [ef_con0 m p0 p1 p2 p3 p4]
  refine own_lloadN (pc' := 1) X0 hx (hb hby at_0) rfl rfl ?_
  refine own_ldc2Long (pc' := 4) X0 hx hZ hown (own_w hw 0 rfl) (hb hby at_1) rfl ?_
  refine own_land (pc' := 5) X0 hx (hb hby at_4) rfl ?_
  obtain ⟨v1, hv1⟩ : ∃ z : Int64, z = (p0 &&& (9223372036854775807 : Int64)) := ⟨_, rfl⟩
  refine own_lstore (pc' := 7) (l' := #[.val (.long p0), .second, .val (.int p1), .val (.long p2), .second, .val (.int p3), .val (.int p4), .val (.long v1), .second, .unset, .unset, .unset, .unset, .unset, .unset, .unset, .unset, .unset]) X0 hx (hb hby at_5) hv1 rfl rfl ?_
  refine own_iload (pc' := 9) X0 hx (hb hby at_7) rfl rfl ?_
  refine own_iconst (pc' := 10) X0 hx (1 : Int32) (hb hby at_9) rfl rfl ?_
  refine own_iand (pc' := 11) X0 hx (hb hby at_10) rfl ?_
  refine own_join (fun jb1 : Int64 => ¬ jb1 < (0 : Int64)) (fun jb1 => s₁.setTop (mkF m 24 #[.val (.long p0), .second, .val (.int p1), .val (.long p2), .second, .val (.int p3), .val (.int p4), .val (.long v1), .second, .unset, .unset, .unset, .unset, .unset, .unset, .unset, .unset, .unset] [(.long jb1)])) (fun J24 => ?_) (fun jb1 hjb1 => ?_)
  · skip
    refine own_if_eq (pt := 19) (pf := 14) X0 hx (hb hby at_11) rfl (by decide) rfl (fun hc11 => ?_) (fun hc11 => ?_)
    · skip
      refine own_lloadN (pc' := 20) X0 hx (hb hby at_19) rfl rfl ?_
      refine own_ldc2Long (pc' := 23) X0 hx hZ hown (own_w hw 0 rfl) (hb hby at_20) rfl ?_
      refine own_land (pc' := 24) X0 hx (hb hby at_23) rfl ?_
      exact J24 (p2 &&& (9223372036854775807 : Int64)) (own_nnL _)
    · skip
      refine own_lload (pc' := 16) X0 hx (hb hby at_14) rfl rfl ?_
      refine own_goto (pc' := 24) X0 hx (hb hby at_16) (by decide) rfl ?_
      exact J24 v1 (by rw [hv1]; exact own_nnL _)
  · skip
    show own_WP _ _ _ _ _ _ _ (s₁.setTop (mkF m 24 #[.val (.long p0), .second, .val (.int p1), .val (.long p2), .second, .val (.int p3), .val (.int p4), .val (.long v1), .second, .unset, .unset, .unset, .unset, .unset, .unset, .unset, .unset, .unset] [(.long jb1)]))
    refine own_lstore (pc' := 26) (l' := #[.val (.long p0), .second, .val (.int p1), .val (.long p2), .second, .val (.int p3), .val (.int p4), .val (.long v1), .second, .val (.long jb1), .second, .unset, .unset, .unset, .unset, .unset, .unset, .unset]) X0 hx (hb hby at_24) rfl rfl rfl ?_
    refine own_iload (pc' := 28) X0 hx (hb hby at_26) rfl rfl ?_
    refine own_iconst (pc' := 29) X0 hx (2 : Int32) (hb hby at_28) rfl rfl ?_
    refine own_iand (pc' := 30) X0 hx (hb hby at_29) rfl ?_
    refine own_join (fun jb2 : Int32 => True) (fun jb2 => s₁.setTop (mkF m 39 #[.val (.long p0), .second, .val (.int p1), .val (.long p2), .second, .val (.int p3), .val (.int p4), .val (.long v1), .second, .val (.long jb1), .second, .unset, .unset, .unset, .unset, .unset, .unset, .unset] [(.int jb2)])) (fun J39 => ?_) (fun jb2 hjb2 => ?_)
    · skip
      refine own_if_eq (pt := 37) (pf := 33) X0 hx (hb hby at_30) rfl (by decide) rfl (fun hc30 => ?_) (fun hc30 => ?_)
      · skip
        refine own_iload (pc' := 39) X0 hx (hb hby at_37) rfl rfl ?_
        exact J39 p3 (trivial)
      · skip
        refine own_iloadN (pc' := 34) X0 hx (hb hby at_33) rfl rfl ?_
        refine own_goto (pc' := 39) X0 hx (hb hby at_34) (by decide) rfl ?_
        exact J39 p1 (trivial)
    · skip
      show own_WP _ _ _ _ _ _ _ (s₁.setTop (mkF m 39 #[.val (.long p0), .second, .val (.int p1), .val (.long p2), .second, .val (.int p3), .val (.int p4), .val (.long v1), .second, .val (.long jb1), .second, .unset, .unset, .unset, .unset, .unset, .unset, .unset] [(.int jb2)]))
      refine own_istore (pc' := 41) (l' := #[.val (.long p0), .second, .val (.int p1), .val (.long p2), .second, .val (.int p3), .val (.int p4), .val (.long v1), .second, .val (.long jb1), .second, .val (.int jb2), .unset, .unset, .unset, .unset, .unset, .unset]) X0 hx (hb hby at_39) rfl rfl rfl ?_
      refine own_new (pc' := 44) X0 hx hZ hown (own_w hw 1 rfl) (own_w hw 2 rfl) (own_w hw 3 rfl) e0 (hb hby at_41) (by decide) (by decide) rfl ?_
      intro T2 h2 b2 g2 X2 e2 E2 A2 D2
      have g_b2 : n0 ≤ b2 := Nat.le_trans Z0 (Nat.le_of_eq g2.symm)
      have x2 : Ext h0 h2 := own_ext_trans (own_ext_refl h0) E2
      have z2 : n0 ≤ h2.size := Nat.le_trans Z0 E2.1
      have F2_incarnation : Fld Z h2 b2 "com/example/eventual_leader/eventualleader/election/StoredState" "incarnation" "J" (.long (0 : Int64)) := D2 (Or.inr (own_w hw 11 rfl)) (ty := .long) (by decide)
      have F2_leader : Fld Z h2 b2 "com/example/eventual_leader/eventualleader/election/StoredState" "leader" "I" (.int (0 : Int32)) := D2 (Or.inr (own_w hw 13 rfl)) (ty := .int) (by decide)
      refine own_dup (pc' := 45) X2 hx (hb hby at_44) rfl rfl ?_
      refine own_lload (pc' := 47) X2 hx (hb hby at_45) rfl rfl ?_
      refine own_iloadN (pc' := 48) X2 hx (hb hby at_47) rfl rfl ?_
      refine own_callN (pc' := 51) (W := 1) (y := (⟨"com/example/eventual_leader/eventualleader/election/StoredState", "<init>", "(JI)V"⟩ : MethodName)) X2 hx hZ rfl hown (own_w hw 4 rfl) (own_w hw 5 rfl) (own_w hw 3 rfl) (own_w hw 6 rfl) (by decide) (conI l Z a0 hw b2 v1 p1 _ n0 z2 A2 F2_incarnation F2_leader g_b2 (by rw [hv1]; exact own_nnL _)) e2 pd3 b2 [(.long v1), (.int p1)] [(.ref b2)] rfl rfl rfl (Nat.le_of_eq rfl) (by decide) (by decide) (by rw [hml]; rfl) (hb hby at_48) (by decide) (by decide) rfl ?_
      intro v3 T3 L3 X3 q3
      obtain ⟨rfl, M3, K3, E3q, F3a, F3b⟩ := q3
      obtain ⟨h3, e3⟩ : ∃ z, z = T3.heap := ⟨_, rfl⟩
      rw [← e3] at K3 E3q F3a F3b
      have e3 := e3.symm
      have x3 : Ext h0 h3 := own_ext_keep x2 K3 (allS (Nat.le_trans hn0 g_b2) all0)
      have z3 : n0 ≤ h3.size := Nat.le_trans z2 K3.1
      have N3 := Fr.app N0 M3
      show own_WP _ _ _ _ _ _ _ (T3.setTop (mkF m 51 #[.val (.long p0), .second, .val (.int p1), .val (.long p2), .second, .val (.int p3), .val (.int p4), .val (.long v1), .second, .val (.long jb1), .second, .val (.int jb2), .unset, .unset, .unset, .unset, .unset, .unset] [(.ref b2)]))
      refine own_astore (pc' := 53) (l' := #[.val (.long p0), .second, .val (.int p1), .val (.long p2), .second, .val (.int p3), .val (.int p4), .val (.long v1), .second, .val (.long jb1), .second, .val (.int jb2), .val (.ref b2), .unset, .unset, .unset, .unset, .unset]) X3 hx (hb hby at_51) rfl rfl rfl ?_
      refine own_new (pc' := 56) X3 hx hZ hown (own_w hw 1 rfl) (own_w hw 2 rfl) (own_w hw 3 rfl) e3 (hb hby at_53) (by decide) (by decide) rfl ?_
      intro T4 h4 b4 g4 X4 e4 E4 A4 D4
      have ne_b2_b4 : b2 ≠ b4 := Nat.ne_of_lt (Nat.lt_of_lt_of_le E3q.lt (Nat.le_of_eq g4.symm))
      have ne_b4_b2 := ne_b2_b4.symm
      have g_b4 : n0 ≤ b4 := Nat.le_trans z3 (Nat.le_of_eq g4.symm)
      have x4 : Ext h0 h4 := own_ext_trans x3 E4
      have z4 : n0 ≤ h4.size := Nat.le_trans z3 E4.1
      have F4_incarnation : Fld Z h4 b4 "com/example/eventual_leader/eventualleader/election/StoredState" "incarnation" "J" (.long (0 : Int64)) := D4 (Or.inr (own_w hw 11 rfl)) (ty := .long) (by decide)
      have F4_leader : Fld Z h4 b4 "com/example/eventual_leader/eventualleader/election/StoredState" "leader" "I" (.int (0 : Int32)) := D4 (Or.inr (own_w hw 13 rfl)) (ty := .int) (by decide)
      refine own_dup (pc' := 57) X4 hx (hb hby at_56) rfl rfl ?_
      refine own_lload (pc' := 59) X4 hx (hb hby at_57) rfl rfl ?_
      refine own_iload (pc' := 61) X4 hx (hb hby at_59) rfl rfl ?_
      refine own_callN (pc' := 64) (W := 1) (y := (⟨"com/example/eventual_leader/eventualleader/election/StoredState", "<init>", "(JI)V"⟩ : MethodName)) X4 hx hZ rfl hown (own_w hw 4 rfl) (own_w hw 5 rfl) (own_w hw 3 rfl) (own_w hw 6 rfl) (by decide) (conI l Z a0 hw b4 jb1 jb2 _ n0 z4 A4 F4_incarnation F4_leader g_b4 hjb1) e4 pd3 b4 [(.long jb1), (.int jb2)] [(.ref b4)] rfl rfl rfl (Nat.le_of_eq rfl) (by decide) (by decide) (by rw [hml]; rfl) (hb hby at_61) (by decide) (by decide) rfl ?_
      intro v5 T5 L5 X5 q5
      obtain ⟨rfl, M5, K5, E5q, F5a, F5b⟩ := q5
      obtain ⟨h5, e5⟩ : ∃ z, z = T5.heap := ⟨_, rfl⟩
      rw [← e5] at K5 E5q F5a F5b
      have e5 := e5.symm
      have x5 : Ext h0 h5 := own_ext_keep x4 K5 (allS (Nat.le_trans hn0 g_b4) all0)
      have z5 : n0 ≤ h5.size := Nat.le_trans z4 K5.1
      have N5 := Fr.app N3 M5
      show own_WP _ _ _ _ _ _ _ (T5.setTop (mkF m 64 #[.val (.long p0), .second, .val (.int p1), .val (.long p2), .second, .val (.int p3), .val (.int p4), .val (.long v1), .second, .val (.long jb1), .second, .val (.int jb2), .val (.ref b2), .unset, .unset, .unset, .unset, .unset] [(.ref b4)]))
      refine own_astore (pc' := 66) (l' := #[.val (.long p0), .second, .val (.int p1), .val (.long p2), .second, .val (.int p3), .val (.int p4), .val (.long v1), .second, .val (.long jb1), .second, .val (.int jb2), .val (.ref b2), .val (.ref b4), .unset, .unset, .unset, .unset]) X5 hx (hb hby at_64) rfl rfl rfl ?_
      refine own_lload (pc' := 68) X5 hx (hb hby at_66) rfl rfl ?_
      refine own_lload (pc' := 70) X5 hx (hb hby at_68) rfl rfl ?_
      refine own_lcmp (pc' := 71) X5 hx (hb hby at_70) rfl ?_
      refine own_join (fun jb3 : Int32 => jb3 = own_b (v1 = jb1 ∧ p1 = jb2)) (fun jb3 => T5.setTop (mkF m 85 #[.val (.long p0), .second, .val (.int p1), .val (.long p2), .second, .val (.int p3), .val (.int p4), .val (.long v1), .second, .val (.long jb1), .second, .val (.int jb2), .val (.ref b2), .val (.ref b4), .unset, .unset, .unset, .unset] [(.int jb3)])) (fun J85 => ?_) (fun jb3 hjb3 => ?_)
      · skip
        refine own_ifl_ne (pt := 84) (pf := 74) X5 hx (hb hby at_71) rfl (by decide) rfl (fun hc71 => ?_) (fun hc71 => ?_)
        · skip
          refine own_iconst (pc' := 85) X5 hx (0 : Int32) (hb hby at_84) rfl rfl ?_
          exact J85 (0 : Int32) (by simp [own_b, hc71])
        · skip
          refine own_iloadN (pc' := 75) X5 hx (hb hby at_74) rfl rfl ?_
          refine own_iload (pc' := 77) X5 hx (hb hby at_75) rfl rfl ?_
          refine own_icmp_ne (pt := 84) (pf := 80) X5 hx (hb hby at_77) rfl (by decide) rfl (fun hc77 => ?_) (fun hc77 => ?_)
          · skip
            refine own_iconst (pc' := 85) X5 hx (0 : Int32) (hb hby at_84) rfl rfl ?_
            exact J85 (0 : Int32) (by simp [own_b, hc71, hc77])
          · skip
            refine own_iconst (pc' := 81) X5 hx (1 : Int32) (hb hby at_80) rfl rfl ?_
            refine own_goto (pc' := 85) X5 hx (hb hby at_81) (by decide) rfl ?_
            exact J85 (1 : Int32) (by simp [own_b, hc71, hc77])
      · skip
        show own_WP _ _ _ _ _ _ _ (T5.setTop (mkF m 85 #[.val (.long p0), .second, .val (.int p1), .val (.long p2), .second, .val (.int p3), .val (.int p4), .val (.long v1), .second, .val (.long jb1), .second, .val (.int jb2), .val (.ref b2), .val (.ref b4), .unset, .unset, .unset, .unset] [(.int jb3)]))
        refine own_istore (pc' := 87) (l' := #[.val (.long p0), .second, .val (.int p1), .val (.long p2), .second, .val (.int p3), .val (.int p4), .val (.long v1), .second, .val (.long jb1), .second, .val (.int jb2), .val (.ref b2), .val (.ref b4), .val (.int jb3), .unset, .unset, .unset]) X5 hx (hb hby at_85) rfl rfl rfl ?_
        refine own_iload (pc' := 89) X5 hx (hb hby at_87) rfl rfl ?_
        refine own_iconst (pc' := 90) X5 hx (2 : Int32) (hb hby at_89) rfl rfl ?_
        refine own_iushr (pc' := 91) X5 hx (hb hby at_90) rfl ?_
        refine own_iconst (pc' := 92) X5 hx (3 : Int32) (hb hby at_91) rfl rfl ?_
        refine own_iand (pc' := 93) X5 hx (hb hby at_92) rfl ?_
        obtain ⟨v6, hv6⟩ : ∃ z : Int32, z = (((p4.toUInt32 >>> ((2 : Int32) &&& 31).toUInt32).toInt32) &&& (3 : Int32)) := ⟨_, rfl⟩
        refine own_istore (pc' := 95) (l' := #[.val (.long p0), .second, .val (.int p1), .val (.long p2), .second, .val (.int p3), .val (.int p4), .val (.long v1), .second, .val (.long jb1), .second, .val (.int jb2), .val (.ref b2), .val (.ref b4), .val (.int jb3), .val (.int v6), .unset, .unset]) X5 hx (hb hby at_93) hv6 rfl rfl ?_
        refine own_iload (pc' := 97) X5 hx (hb hby at_95) rfl rfl ?_
        refine own_if_ne (pt := 107) (pf := 100) X5 hx (hb hby at_97) rfl (by decide) rfl (fun hc97 => ?_) (fun hc97 => ?_)
        · skip
          refine own_iload (pc' := 109) X5 hx (hb hby at_107) rfl rfl ?_
          refine own_iconst (pc' := 110) X5 hx (1 : Int32) (hb hby at_109) rfl rfl ?_
          refine own_icmp_ne (pt := 119) (pf := 113) X5 hx (hb hby at_110) rfl (by decide) rfl (fun hc110 => ?_) (fun hc110 => ?_)
          · skip
            refine own_iload (pc' := 121) X5 hx (hb hby at_119) rfl rfl ?_
            refine own_iconst (pc' := 122) X5 hx (2 : Int32) (hb hby at_121) rfl rfl ?_
            refine own_icmp_ne (pt := 135) (pf := 125) X5 hx (hb hby at_122) rfl (by decide) rfl (fun hc122 => ?_) (fun hc122 => ?_)
            · skip
              refine own_iloadN (pc' := 136) X5 hx (hb hby at_135) rfl rfl ?_
              refine own_callS (pc' := 139) (W := 0) (y := (⟨"java/lang/Integer", "valueOf", "(I)Ljava/lang/Integer;"⟩ : MethodName)) X5 hx hZ hown (own_w hw 45 rfl) (own_w hw 46 rfl) (own_w hw 47 rfl) (own_w hw 48 rfl) (by decide) (conIntegerV l Z a0 hw p1 _ n0 z5 _ _ (own_Cache_ext hcaI x5) (hhi.ext x5)) e5 pd4 [(.int p1)] [] rfl rfl rfl (Nat.le_of_eq rfl) (by decide) (by decide) (by rw [hml]; rfl) (hb hby at_136) (by decide) (by decide) rfl ?_
              intro v7 T7 L7 X7 q7
              obtain ⟨c7, rfl, M7, K7, E7q⟩ := q7
              obtain ⟨h7, e7⟩ : ∃ z, z = T7.heap := ⟨_, rfl⟩
              rw [← e7] at K7 E7q
              have e7 := e7.symm
              have x7 : Ext h0 h7 := own_ext_keep x5 K7 all0
              have z7 : n0 ≤ h7.size := Nat.le_trans z5 K7.1
              have N7 := Fr.app N5 M7
              show own_WP _ _ _ _ _ _ _ (T7.setTop (mkF m 139 #[.val (.long p0), .second, .val (.int p1), .val (.long p2), .second, .val (.int p3), .val (.int p4), .val (.long v1), .second, .val (.long jb1), .second, .val (.int jb2), .val (.ref b2), .val (.ref b4), .val (.int jb3), .val (.int v6), .unset, .unset] [(.ref c7)]))
              refine own_astore (pc' := 141) (l' := #[.val (.long p0), .second, .val (.int p1), .val (.long p2), .second, .val (.int p3), .val (.int p4), .val (.long v1), .second, .val (.long jb1), .second, .val (.int jb2), .val (.ref b2), .val (.ref b4), .val (.int jb3), .val (.int v6), .val (.ref c7), .unset]) X7 hx (hb hby at_139) rfl rfl rfl ?_
              refine own_iload (pc' := 143) X7 hx (hb hby at_141) rfl rfl ?_
              refine own_if_ne (pt := 151) (pf := 146) X7 hx (hb hby at_143) rfl (by decide) rfl (fun hc143 => ?_) (fun hc143 => absurd hc143 (hc97))
              refine own_iconst (pc' := 152) X7 hx (0 : Int32) (hb hby at_151) rfl rfl ?_
              refine own_istore (pc' := 154) (l' := #[.val (.long p0), .second, .val (.int p1), .val (.long p2), .second, .val (.int p3), .val (.int p4), .val (.long v1), .second, .val (.long jb1), .second, .val (.int jb2), .val (.ref b2), .val (.ref b4), .val (.int jb3), .val (.int v6), .val (.ref c7), .val (.int (0 : Int32))]) X7 hx (hb hby at_152) rfl rfl rfl ?_
              refine own_aload (pc' := 156) X7 hx (hb hby at_154) rfl rfl rfl ?_
              refine own_aload (pc' := 158) X7 hx (hb hby at_156) rfl rfl rfl ?_
              have f9 := (((E3q.ext E4).keep K5).keep K7)
              refine own_callV (pc' := 161) (W := 0) (y := (⟨"com/example/eventual_leader/eventualleader/election/StoredState", "equals", "(Ljava/lang/Object;)Z"⟩ : MethodName)) (z := (⟨"com/example/eventual_leader/eventualleader/election/StoredState", "equals", "(Ljava/lang/Object;)Z"⟩ : MethodName)) X7 hx hZ hown (own_w hw 14 rfl) (own_w hw 15 rfl) (notFace_of_selects (args := #[]) (mvT hZ (own_w hw 17 rfl))) (own_w hw 17 rfl) (own_w hw 16 rfl) (own_w hw 3 rfl) (own_w hw 18 rfl) (by decide) f9 (conED l Z a0 hw b2 c7 _ "java/lang/Integer" E7q (own_no Z a0 hw).2) e7 pd5 [(.ref c7)] [] rfl rfl rfl (Nat.le_of_eq rfl) (by decide) (by decide) (by rw [hml]; rfl) (hb hby at_158) (by decide) (by decide) rfl ?_
              intro v8 T8 L8 X8 q8
              obtain ⟨r8, rfl, hr8, rfl, e8⟩ := q8
              have N8 := Fr.app N7 (Fr.nil n0)
              show own_WP _ _ _ _ _ _ _ (T8.setTop (mkF m 161 #[.val (.long p0), .second, .val (.int p1), .val (.long p2), .second, .val (.int p3), .val (.int p4), .val (.long v1), .second, .val (.long jb1), .second, .val (.int jb2), .val (.ref b2), .val (.ref b4), .val (.int jb3), .val (.int v6), .val (.ref c7), .val (.int (0 : Int32))] [(.int r8)]))
              refine own_iload (pc' := 163) X8 hx (hb hby at_161) rfl rfl ?_
              refine own_icmp_ne (pt := 192) (pf := 166) X8 hx (hb hby at_163) rfl (by decide) rfl (fun hc163 => absurd (hr8) hc163) (fun hc163 => ?_)
              refine own_aload (pc' := 168) X8 hx (hb hby at_166) rfl rfl rfl ?_
              refine own_aload (pc' := 170) X8 hx (hb hby at_168) rfl rfl rfl ?_
              have f11 := (F5a.keep K7 nin0)
              have f12 := (F5b.keep K7 nin0)
              have f13 := (((F3a.ext E4).keep K5 (ninS ne_b2_b4 nin0)).keep K7 nin0)
              have f14 := (((F3b.ext E4).keep K5 (ninS ne_b2_b4 nin0)).keep K7 nin0)
              have f15 := (E5q.keep K7)
              refine own_callV (pc' := 173) (W := 0) (y := (⟨"com/example/eventual_leader/eventualleader/election/StoredState", "equals", "(Ljava/lang/Object;)Z"⟩ : MethodName)) (z := (⟨"com/example/eventual_leader/eventualleader/election/StoredState", "equals", "(Ljava/lang/Object;)Z"⟩ : MethodName)) X8 hx hZ hown (own_w hw 14 rfl) (own_w hw 15 rfl) (notFace_of_selects (args := #[]) (mvT hZ (own_w hw 17 rfl))) (own_w hw 17 rfl) (own_w hw 16 rfl) (own_w hw 3 rfl) (own_w hw 18 rfl) (by decide) f15 (conE l Z a0 hw b4 b2 _ jb1 v1 jb2 p1 f9 f11 f12 f13 f14) e8 pd5 [(.ref b2)] [] rfl rfl rfl (Nat.le_of_eq rfl) (by decide) (by decide) (by rw [hml]; rfl) (hb hby at_170) (by decide) (by decide) rfl ?_
              intro v10 T10 L10 X10 q10
              obtain ⟨r10, rfl, hr10, rfl, e10⟩ := q10
              have N10 := Fr.app N8 (Fr.nil n0)
              show own_WP _ _ _ _ _ _ _ (T10.setTop (mkF m 173 #[.val (.long p0), .second, .val (.int p1), .val (.long p2), .second, .val (.int p3), .val (.int p4), .val (.long v1), .second, .val (.long jb1), .second, .val (.int jb2), .val (.ref b2), .val (.ref b4), .val (.int jb3), .val (.int v6), .val (.ref c7), .val (.int (0 : Int32))] [(.int r10)]))
              refine own_iload (pc' := 175) X10 hx (hb hby at_173) rfl rfl ?_
              refine own_icmp_ne (pt := 192) (pf := 178) X10 hx (hb hby at_175) rfl (by decide) rfl (fun hc175 => absurd (by rw [hr10, hjb3]; exact own_b_swap _ _ _ _) hc175) (fun hc175 => ?_)
              refine own_aload (pc' := 180) X10 hx (hb hby at_178) rfl rfl rfl ?_
              refine own_aload (pc' := 182) X10 hx (hb hby at_180) rfl rfl rfl ?_
              refine own_callV (pc' := 185) (W := 0) (y := (⟨"com/example/eventual_leader/eventualleader/election/StoredState", "equals", "(Ljava/lang/Object;)Z"⟩ : MethodName)) (z := (⟨"com/example/eventual_leader/eventualleader/election/StoredState", "equals", "(Ljava/lang/Object;)Z"⟩ : MethodName)) X10 hx hZ hown (own_w hw 14 rfl) (own_w hw 15 rfl) (notFace_of_selects (args := #[]) (mvT hZ (own_w hw 17 rfl))) (own_w hw 17 rfl) (own_w hw 16 rfl) (own_w hw 3 rfl) (own_w hw 18 rfl) (by decide) f9 (conE l Z a0 hw b2 b2 _ v1 v1 p1 p1 f9 f13 f14 f13 f14) e10 pd5 [(.ref b2)] [] rfl rfl rfl (Nat.le_of_eq rfl) (by decide) (by decide) (by rw [hml]; rfl) (hb hby at_182) (by decide) (by decide) rfl ?_
              intro v16 T16 L16 X16 q16
              obtain ⟨r16, rfl, hr16, rfl, e16⟩ := q16
              have N16 := Fr.app N10 (Fr.nil n0)
              show own_WP _ _ _ _ _ _ _ (T16.setTop (mkF m 185 #[.val (.long p0), .second, .val (.int p1), .val (.long p2), .second, .val (.int p3), .val (.int p4), .val (.long v1), .second, .val (.long jb1), .second, .val (.int jb2), .val (.ref b2), .val (.ref b4), .val (.int jb3), .val (.int v6), .val (.ref c7), .val (.int (0 : Int32))] [(.int r16)]))
              refine own_if_eq (pt := 192) (pf := 188) X16 hx (hb hby at_185) rfl (by decide) rfl (fun hc185 => absurd hc185 (by rw [hr16]; simp [own_b])) (fun hc185 => ?_)
              refine own_iconst (pc' := 189) X16 hx (1 : Int32) (hb hby at_188) rfl rfl ?_
              refine own_goto (pc' := 193) X16 hx (hb hby at_189) (by decide) rfl ?_
              refine own_retN X16 hx hlk (t := .boolean) (by decide) hret (hb hby at_193) (by decide) (by decide) ?_
              exact ⟨rfl, N16⟩
            · skip
              refine own_lload (pc' := 127) X5 hx (hb hby at_125) rfl rfl ?_
              refine own_callS (pc' := 130) (W := 0) (y := (⟨"java/lang/Long", "valueOf", "(J)Ljava/lang/Long;"⟩ : MethodName)) X5 hx hZ hown (own_w hw 21 rfl) (own_w hw 22 rfl) (own_w hw 23 rfl) (own_w hw 24 rfl) (by decide) (conLongV l Z a0 hw v1 _ n0 z5 _ _ (own_Cache_ext hcaJ x5)) e5 pd6 [(.long v1)] [] rfl rfl rfl (Nat.le_of_eq rfl) (by decide) (by decide) (by rw [hml]; rfl) (hb hby at_127) (by decide) (by decide) rfl ?_
              intro v17 T17 L17 X17 q17
              obtain ⟨c17, rfl, M17, K17, E17q⟩ := q17
              obtain ⟨h17, e17⟩ : ∃ z, z = T17.heap := ⟨_, rfl⟩
              rw [← e17] at K17 E17q
              have e17 := e17.symm
              have x17 : Ext h0 h17 := own_ext_keep x5 K17 all0
              have z17 : n0 ≤ h17.size := Nat.le_trans z5 K17.1
              have N17 := Fr.app N5 M17
              show own_WP _ _ _ _ _ _ _ (T17.setTop (mkF m 130 #[.val (.long p0), .second, .val (.int p1), .val (.long p2), .second, .val (.int p3), .val (.int p4), .val (.long v1), .second, .val (.long jb1), .second, .val (.int jb2), .val (.ref b2), .val (.ref b4), .val (.int jb3), .val (.int v6), .unset, .unset] [(.ref c17)]))
              refine own_astore (pc' := 132) (l' := #[.val (.long p0), .second, .val (.int p1), .val (.long p2), .second, .val (.int p3), .val (.int p4), .val (.long v1), .second, .val (.long jb1), .second, .val (.int jb2), .val (.ref b2), .val (.ref b4), .val (.int jb3), .val (.int v6), .val (.ref c17), .unset]) X17 hx (hb hby at_130) rfl rfl rfl ?_
              refine own_goto (pc' := 141) X17 hx (hb hby at_132) (by decide) rfl ?_
              refine own_iload (pc' := 143) X17 hx (hb hby at_141) rfl rfl ?_
              refine own_if_ne (pt := 151) (pf := 146) X17 hx (hb hby at_143) rfl (by decide) rfl (fun hc143 => ?_) (fun hc143 => absurd hc143 (hc97))
              refine own_iconst (pc' := 152) X17 hx (0 : Int32) (hb hby at_151) rfl rfl ?_
              refine own_istore (pc' := 154) (l' := #[.val (.long p0), .second, .val (.int p1), .val (.long p2), .second, .val (.int p3), .val (.int p4), .val (.long v1), .second, .val (.long jb1), .second, .val (.int jb2), .val (.ref b2), .val (.ref b4), .val (.int jb3), .val (.int v6), .val (.ref c17), .val (.int (0 : Int32))]) X17 hx (hb hby at_152) rfl rfl rfl ?_
              refine own_aload (pc' := 156) X17 hx (hb hby at_154) rfl rfl rfl ?_
              refine own_aload (pc' := 158) X17 hx (hb hby at_156) rfl rfl rfl ?_
              have f19 := (((E3q.ext E4).keep K5).keep K17)
              refine own_callV (pc' := 161) (W := 0) (y := (⟨"com/example/eventual_leader/eventualleader/election/StoredState", "equals", "(Ljava/lang/Object;)Z"⟩ : MethodName)) (z := (⟨"com/example/eventual_leader/eventualleader/election/StoredState", "equals", "(Ljava/lang/Object;)Z"⟩ : MethodName)) X17 hx hZ hown (own_w hw 14 rfl) (own_w hw 15 rfl) (notFace_of_selects (args := #[]) (mvT hZ (own_w hw 17 rfl))) (own_w hw 17 rfl) (own_w hw 16 rfl) (own_w hw 3 rfl) (own_w hw 18 rfl) (by decide) f19 (conED l Z a0 hw b2 c17 _ "java/lang/Long" E17q (own_no Z a0 hw).1) e17 pd5 [(.ref c17)] [] rfl rfl rfl (Nat.le_of_eq rfl) (by decide) (by decide) (by rw [hml]; rfl) (hb hby at_158) (by decide) (by decide) rfl ?_
              intro v18 T18 L18 X18 q18
              obtain ⟨r18, rfl, hr18, rfl, e18⟩ := q18
              have N18 := Fr.app N17 (Fr.nil n0)
              show own_WP _ _ _ _ _ _ _ (T18.setTop (mkF m 161 #[.val (.long p0), .second, .val (.int p1), .val (.long p2), .second, .val (.int p3), .val (.int p4), .val (.long v1), .second, .val (.long jb1), .second, .val (.int jb2), .val (.ref b2), .val (.ref b4), .val (.int jb3), .val (.int v6), .val (.ref c17), .val (.int (0 : Int32))] [(.int r18)]))
              refine own_iload (pc' := 163) X18 hx (hb hby at_161) rfl rfl ?_
              refine own_icmp_ne (pt := 192) (pf := 166) X18 hx (hb hby at_163) rfl (by decide) rfl (fun hc163 => absurd (hr18) hc163) (fun hc163 => ?_)
              refine own_aload (pc' := 168) X18 hx (hb hby at_166) rfl rfl rfl ?_
              refine own_aload (pc' := 170) X18 hx (hb hby at_168) rfl rfl rfl ?_
              have f21 := (F5a.keep K17 nin0)
              have f22 := (F5b.keep K17 nin0)
              have f23 := (((F3a.ext E4).keep K5 (ninS ne_b2_b4 nin0)).keep K17 nin0)
              have f24 := (((F3b.ext E4).keep K5 (ninS ne_b2_b4 nin0)).keep K17 nin0)
              have f25 := (E5q.keep K17)
              refine own_callV (pc' := 173) (W := 0) (y := (⟨"com/example/eventual_leader/eventualleader/election/StoredState", "equals", "(Ljava/lang/Object;)Z"⟩ : MethodName)) (z := (⟨"com/example/eventual_leader/eventualleader/election/StoredState", "equals", "(Ljava/lang/Object;)Z"⟩ : MethodName)) X18 hx hZ hown (own_w hw 14 rfl) (own_w hw 15 rfl) (notFace_of_selects (args := #[]) (mvT hZ (own_w hw 17 rfl))) (own_w hw 17 rfl) (own_w hw 16 rfl) (own_w hw 3 rfl) (own_w hw 18 rfl) (by decide) f25 (conE l Z a0 hw b4 b2 _ jb1 v1 jb2 p1 f19 f21 f22 f23 f24) e18 pd5 [(.ref b2)] [] rfl rfl rfl (Nat.le_of_eq rfl) (by decide) (by decide) (by rw [hml]; rfl) (hb hby at_170) (by decide) (by decide) rfl ?_
              intro v20 T20 L20 X20 q20
              obtain ⟨r20, rfl, hr20, rfl, e20⟩ := q20
              have N20 := Fr.app N18 (Fr.nil n0)
              show own_WP _ _ _ _ _ _ _ (T20.setTop (mkF m 173 #[.val (.long p0), .second, .val (.int p1), .val (.long p2), .second, .val (.int p3), .val (.int p4), .val (.long v1), .second, .val (.long jb1), .second, .val (.int jb2), .val (.ref b2), .val (.ref b4), .val (.int jb3), .val (.int v6), .val (.ref c17), .val (.int (0 : Int32))] [(.int r20)]))
              refine own_iload (pc' := 175) X20 hx (hb hby at_173) rfl rfl ?_
              refine own_icmp_ne (pt := 192) (pf := 178) X20 hx (hb hby at_175) rfl (by decide) rfl (fun hc175 => absurd (by rw [hr20, hjb3]; exact own_b_swap _ _ _ _) hc175) (fun hc175 => ?_)
              refine own_aload (pc' := 180) X20 hx (hb hby at_178) rfl rfl rfl ?_
              refine own_aload (pc' := 182) X20 hx (hb hby at_180) rfl rfl rfl ?_
              refine own_callV (pc' := 185) (W := 0) (y := (⟨"com/example/eventual_leader/eventualleader/election/StoredState", "equals", "(Ljava/lang/Object;)Z"⟩ : MethodName)) (z := (⟨"com/example/eventual_leader/eventualleader/election/StoredState", "equals", "(Ljava/lang/Object;)Z"⟩ : MethodName)) X20 hx hZ hown (own_w hw 14 rfl) (own_w hw 15 rfl) (notFace_of_selects (args := #[]) (mvT hZ (own_w hw 17 rfl))) (own_w hw 17 rfl) (own_w hw 16 rfl) (own_w hw 3 rfl) (own_w hw 18 rfl) (by decide) f19 (conE l Z a0 hw b2 b2 _ v1 v1 p1 p1 f19 f23 f24 f23 f24) e20 pd5 [(.ref b2)] [] rfl rfl rfl (Nat.le_of_eq rfl) (by decide) (by decide) (by rw [hml]; rfl) (hb hby at_182) (by decide) (by decide) rfl ?_
              intro v26 T26 L26 X26 q26
              obtain ⟨r26, rfl, hr26, rfl, e26⟩ := q26
              have N26 := Fr.app N20 (Fr.nil n0)
              show own_WP _ _ _ _ _ _ _ (T26.setTop (mkF m 185 #[.val (.long p0), .second, .val (.int p1), .val (.long p2), .second, .val (.int p3), .val (.int p4), .val (.long v1), .second, .val (.long jb1), .second, .val (.int jb2), .val (.ref b2), .val (.ref b4), .val (.int jb3), .val (.int v6), .val (.ref c17), .val (.int (0 : Int32))] [(.int r26)]))
              refine own_if_eq (pt := 192) (pf := 188) X26 hx (hb hby at_185) rfl (by decide) rfl (fun hc185 => absurd hc185 (by rw [hr26]; simp [own_b])) (fun hc185 => ?_)
              refine own_iconst (pc' := 189) X26 hx (1 : Int32) (hb hby at_188) rfl rfl ?_
              refine own_goto (pc' := 193) X26 hx (hb hby at_189) (by decide) rfl ?_
              refine own_retN X26 hx hlk (t := .boolean) (by decide) hret (hb hby at_193) (by decide) (by decide) ?_
              exact ⟨rfl, N26⟩
          · skip
            refine own_anull (pc' := 114) X5 hx (hb hby at_113) rfl ?_
            refine own_astore (pc' := 116) (l' := #[.val (.long p0), .second, .val (.int p1), .val (.long p2), .second, .val (.int p3), .val (.int p4), .val (.long v1), .second, .val (.long jb1), .second, .val (.int jb2), .val (.ref b2), .val (.ref b4), .val (.int jb3), .val (.int v6), .val .null, .unset]) X5 hx (hb hby at_114) rfl rfl rfl ?_
            refine own_goto (pc' := 141) X5 hx (hb hby at_116) (by decide) rfl ?_
            refine own_iload (pc' := 143) X5 hx (hb hby at_141) rfl rfl ?_
            refine own_if_ne (pt := 151) (pf := 146) X5 hx (hb hby at_143) rfl (by decide) rfl (fun hc143 => ?_) (fun hc143 => absurd hc143 (hc97))
            refine own_iconst (pc' := 152) X5 hx (0 : Int32) (hb hby at_151) rfl rfl ?_
            refine own_istore (pc' := 154) (l' := #[.val (.long p0), .second, .val (.int p1), .val (.long p2), .second, .val (.int p3), .val (.int p4), .val (.long v1), .second, .val (.long jb1), .second, .val (.int jb2), .val (.ref b2), .val (.ref b4), .val (.int jb3), .val (.int v6), .val .null, .val (.int (0 : Int32))]) X5 hx (hb hby at_152) rfl rfl rfl ?_
            refine own_aload (pc' := 156) X5 hx (hb hby at_154) rfl rfl rfl ?_
            refine own_aload (pc' := 158) X5 hx (hb hby at_156) rfl rfl rfl ?_
            have f28 := ((E3q.ext E4).keep K5)
            refine own_callV (pc' := 161) (W := 0) (y := (⟨"com/example/eventual_leader/eventualleader/election/StoredState", "equals", "(Ljava/lang/Object;)Z"⟩ : MethodName)) (z := (⟨"com/example/eventual_leader/eventualleader/election/StoredState", "equals", "(Ljava/lang/Object;)Z"⟩ : MethodName)) X5 hx hZ hown (own_w hw 14 rfl) (own_w hw 15 rfl) (notFace_of_selects (args := #[]) (mvT hZ (own_w hw 17 rfl))) (own_w hw 17 rfl) (own_w hw 16 rfl) (own_w hw 3 rfl) (own_w hw 18 rfl) (by decide) f28 (conE0 l Z a0 hw b2 _ ) e5 pd5 [.null] [] rfl rfl rfl (Nat.le_of_eq rfl) (by decide) (by decide) (by rw [hml]; rfl) (hb hby at_158) (by decide) (by decide) rfl ?_
            intro v27 T27 L27 X27 q27
            obtain ⟨r27, rfl, hr27, rfl, e27⟩ := q27
            have N27 := Fr.app N5 (Fr.nil n0)
            show own_WP _ _ _ _ _ _ _ (T27.setTop (mkF m 161 #[.val (.long p0), .second, .val (.int p1), .val (.long p2), .second, .val (.int p3), .val (.int p4), .val (.long v1), .second, .val (.long jb1), .second, .val (.int jb2), .val (.ref b2), .val (.ref b4), .val (.int jb3), .val (.int v6), .val .null, .val (.int (0 : Int32))] [(.int r27)]))
            refine own_iload (pc' := 163) X27 hx (hb hby at_161) rfl rfl ?_
            refine own_icmp_ne (pt := 192) (pf := 166) X27 hx (hb hby at_163) rfl (by decide) rfl (fun hc163 => absurd (hr27) hc163) (fun hc163 => ?_)
            refine own_aload (pc' := 168) X27 hx (hb hby at_166) rfl rfl rfl ?_
            refine own_aload (pc' := 170) X27 hx (hb hby at_168) rfl rfl rfl ?_
            have f30 := ((F3a.ext E4).keep K5 (ninS ne_b2_b4 nin0))
            have f31 := ((F3b.ext E4).keep K5 (ninS ne_b2_b4 nin0))
            refine own_callV (pc' := 173) (W := 0) (y := (⟨"com/example/eventual_leader/eventualleader/election/StoredState", "equals", "(Ljava/lang/Object;)Z"⟩ : MethodName)) (z := (⟨"com/example/eventual_leader/eventualleader/election/StoredState", "equals", "(Ljava/lang/Object;)Z"⟩ : MethodName)) X27 hx hZ hown (own_w hw 14 rfl) (own_w hw 15 rfl) (notFace_of_selects (args := #[]) (mvT hZ (own_w hw 17 rfl))) (own_w hw 17 rfl) (own_w hw 16 rfl) (own_w hw 3 rfl) (own_w hw 18 rfl) (by decide) E5q (conE l Z a0 hw b4 b2 _ jb1 v1 jb2 p1 f28 F5a F5b f30 f31) e27 pd5 [(.ref b2)] [] rfl rfl rfl (Nat.le_of_eq rfl) (by decide) (by decide) (by rw [hml]; rfl) (hb hby at_170) (by decide) (by decide) rfl ?_
            intro v29 T29 L29 X29 q29
            obtain ⟨r29, rfl, hr29, rfl, e29⟩ := q29
            have N29 := Fr.app N27 (Fr.nil n0)
            show own_WP _ _ _ _ _ _ _ (T29.setTop (mkF m 173 #[.val (.long p0), .second, .val (.int p1), .val (.long p2), .second, .val (.int p3), .val (.int p4), .val (.long v1), .second, .val (.long jb1), .second, .val (.int jb2), .val (.ref b2), .val (.ref b4), .val (.int jb3), .val (.int v6), .val .null, .val (.int (0 : Int32))] [(.int r29)]))
            refine own_iload (pc' := 175) X29 hx (hb hby at_173) rfl rfl ?_
            refine own_icmp_ne (pt := 192) (pf := 178) X29 hx (hb hby at_175) rfl (by decide) rfl (fun hc175 => absurd (by rw [hr29, hjb3]; exact own_b_swap _ _ _ _) hc175) (fun hc175 => ?_)
            refine own_aload (pc' := 180) X29 hx (hb hby at_178) rfl rfl rfl ?_
            refine own_aload (pc' := 182) X29 hx (hb hby at_180) rfl rfl rfl ?_
            refine own_callV (pc' := 185) (W := 0) (y := (⟨"com/example/eventual_leader/eventualleader/election/StoredState", "equals", "(Ljava/lang/Object;)Z"⟩ : MethodName)) (z := (⟨"com/example/eventual_leader/eventualleader/election/StoredState", "equals", "(Ljava/lang/Object;)Z"⟩ : MethodName)) X29 hx hZ hown (own_w hw 14 rfl) (own_w hw 15 rfl) (notFace_of_selects (args := #[]) (mvT hZ (own_w hw 17 rfl))) (own_w hw 17 rfl) (own_w hw 16 rfl) (own_w hw 3 rfl) (own_w hw 18 rfl) (by decide) f28 (conE l Z a0 hw b2 b2 _ v1 v1 p1 p1 f28 f30 f31 f30 f31) e29 pd5 [(.ref b2)] [] rfl rfl rfl (Nat.le_of_eq rfl) (by decide) (by decide) (by rw [hml]; rfl) (hb hby at_182) (by decide) (by decide) rfl ?_
            intro v32 T32 L32 X32 q32
            obtain ⟨r32, rfl, hr32, rfl, e32⟩ := q32
            have N32 := Fr.app N29 (Fr.nil n0)
            show own_WP _ _ _ _ _ _ _ (T32.setTop (mkF m 185 #[.val (.long p0), .second, .val (.int p1), .val (.long p2), .second, .val (.int p3), .val (.int p4), .val (.long v1), .second, .val (.long jb1), .second, .val (.int jb2), .val (.ref b2), .val (.ref b4), .val (.int jb3), .val (.int v6), .val .null, .val (.int (0 : Int32))] [(.int r32)]))
            refine own_if_eq (pt := 192) (pf := 188) X32 hx (hb hby at_185) rfl (by decide) rfl (fun hc185 => absurd hc185 (by rw [hr32]; simp [own_b])) (fun hc185 => ?_)
            refine own_iconst (pc' := 189) X32 hx (1 : Int32) (hb hby at_188) rfl rfl ?_
            refine own_goto (pc' := 193) X32 hx (hb hby at_189) (by decide) rfl ?_
            refine own_retN X32 hx hlk (t := .boolean) (by decide) hret (hb hby at_193) (by decide) (by decide) ?_
            exact ⟨rfl, N32⟩
        · skip
          refine own_aload (pc' := 102) X5 hx (hb hby at_100) rfl rfl rfl ?_
          refine own_astore (pc' := 104) (l' := #[.val (.long p0), .second, .val (.int p1), .val (.long p2), .second, .val (.int p3), .val (.int p4), .val (.long v1), .second, .val (.long jb1), .second, .val (.int jb2), .val (.ref b2), .val (.ref b4), .val (.int jb3), .val (.int v6), .val (.ref b4), .unset]) X5 hx (hb hby at_102) rfl rfl rfl ?_
          refine own_goto (pc' := 141) X5 hx (hb hby at_104) (by decide) rfl ?_
          refine own_iload (pc' := 143) X5 hx (hb hby at_141) rfl rfl ?_
          refine own_if_ne (pt := 151) (pf := 146) X5 hx (hb hby at_143) rfl (by decide) rfl (fun hc143 => absurd (hc97) hc143) (fun hc143 => ?_)
          refine own_iload (pc' := 148) X5 hx (hb hby at_146) rfl rfl ?_
          refine own_goto (pc' := 152) X5 hx (hb hby at_148) (by decide) rfl ?_
          refine own_istore (pc' := 154) (l' := #[.val (.long p0), .second, .val (.int p1), .val (.long p2), .second, .val (.int p3), .val (.int p4), .val (.long v1), .second, .val (.long jb1), .second, .val (.int jb2), .val (.ref b2), .val (.ref b4), .val (.int jb3), .val (.int v6), .val (.ref b4), .val (.int jb3)]) X5 hx (hb hby at_152) rfl rfl rfl ?_
          refine own_aload (pc' := 156) X5 hx (hb hby at_154) rfl rfl rfl ?_
          refine own_aload (pc' := 158) X5 hx (hb hby at_156) rfl rfl rfl ?_
          have f34 := ((F3a.ext E4).keep K5 (ninS ne_b2_b4 nin0))
          have f35 := ((F3b.ext E4).keep K5 (ninS ne_b2_b4 nin0))
          have f36 := ((E3q.ext E4).keep K5)
          refine own_callV (pc' := 161) (W := 0) (y := (⟨"com/example/eventual_leader/eventualleader/election/StoredState", "equals", "(Ljava/lang/Object;)Z"⟩ : MethodName)) (z := (⟨"com/example/eventual_leader/eventualleader/election/StoredState", "equals", "(Ljava/lang/Object;)Z"⟩ : MethodName)) X5 hx hZ hown (own_w hw 14 rfl) (own_w hw 15 rfl) (notFace_of_selects (args := #[]) (mvT hZ (own_w hw 17 rfl))) (own_w hw 17 rfl) (own_w hw 16 rfl) (own_w hw 3 rfl) (own_w hw 18 rfl) (by decide) f36 (conE l Z a0 hw b2 b4 _ v1 jb1 p1 jb2 E5q f34 f35 F5a F5b) e5 pd5 [(.ref b4)] [] rfl rfl rfl (Nat.le_of_eq rfl) (by decide) (by decide) (by rw [hml]; rfl) (hb hby at_158) (by decide) (by decide) rfl ?_
          intro v33 T33 L33 X33 q33
          obtain ⟨r33, rfl, hr33, rfl, e33⟩ := q33
          have N33 := Fr.app N5 (Fr.nil n0)
          show own_WP _ _ _ _ _ _ _ (T33.setTop (mkF m 161 #[.val (.long p0), .second, .val (.int p1), .val (.long p2), .second, .val (.int p3), .val (.int p4), .val (.long v1), .second, .val (.long jb1), .second, .val (.int jb2), .val (.ref b2), .val (.ref b4), .val (.int jb3), .val (.int v6), .val (.ref b4), .val (.int jb3)] [(.int r33)]))
          refine own_iload (pc' := 163) X33 hx (hb hby at_161) rfl rfl ?_
          refine own_icmp_ne (pt := 192) (pf := 166) X33 hx (hb hby at_163) rfl (by decide) rfl (fun hc163 => absurd (by rw [hr33, hjb3]) hc163) (fun hc163 => ?_)
          refine own_aload (pc' := 168) X33 hx (hb hby at_166) rfl rfl rfl ?_
          refine own_aload (pc' := 170) X33 hx (hb hby at_168) rfl rfl rfl ?_
          refine own_callV (pc' := 173) (W := 0) (y := (⟨"com/example/eventual_leader/eventualleader/election/StoredState", "equals", "(Ljava/lang/Object;)Z"⟩ : MethodName)) (z := (⟨"com/example/eventual_leader/eventualleader/election/StoredState", "equals", "(Ljava/lang/Object;)Z"⟩ : MethodName)) X33 hx hZ hown (own_w hw 14 rfl) (own_w hw 15 rfl) (notFace_of_selects (args := #[]) (mvT hZ (own_w hw 17 rfl))) (own_w hw 17 rfl) (own_w hw 16 rfl) (own_w hw 3 rfl) (own_w hw 18 rfl) (by decide) E5q (conE l Z a0 hw b4 b2 _ jb1 v1 jb2 p1 f36 F5a F5b f34 f35) e33 pd5 [(.ref b2)] [] rfl rfl rfl (Nat.le_of_eq rfl) (by decide) (by decide) (by rw [hml]; rfl) (hb hby at_170) (by decide) (by decide) rfl ?_
          intro v37 T37 L37 X37 q37
          obtain ⟨r37, rfl, hr37, rfl, e37⟩ := q37
          have N37 := Fr.app N33 (Fr.nil n0)
          show own_WP _ _ _ _ _ _ _ (T37.setTop (mkF m 173 #[.val (.long p0), .second, .val (.int p1), .val (.long p2), .second, .val (.int p3), .val (.int p4), .val (.long v1), .second, .val (.long jb1), .second, .val (.int jb2), .val (.ref b2), .val (.ref b4), .val (.int jb3), .val (.int v6), .val (.ref b4), .val (.int jb3)] [(.int r37)]))
          refine own_iload (pc' := 175) X37 hx (hb hby at_173) rfl rfl ?_
          refine own_icmp_ne (pt := 192) (pf := 178) X37 hx (hb hby at_175) rfl (by decide) rfl (fun hc175 => absurd (by rw [hr37, hjb3]; exact own_b_swap _ _ _ _) hc175) (fun hc175 => ?_)
          refine own_aload (pc' := 180) X37 hx (hb hby at_178) rfl rfl rfl ?_
          refine own_aload (pc' := 182) X37 hx (hb hby at_180) rfl rfl rfl ?_
          refine own_callV (pc' := 185) (W := 0) (y := (⟨"com/example/eventual_leader/eventualleader/election/StoredState", "equals", "(Ljava/lang/Object;)Z"⟩ : MethodName)) (z := (⟨"com/example/eventual_leader/eventualleader/election/StoredState", "equals", "(Ljava/lang/Object;)Z"⟩ : MethodName)) X37 hx hZ hown (own_w hw 14 rfl) (own_w hw 15 rfl) (notFace_of_selects (args := #[]) (mvT hZ (own_w hw 17 rfl))) (own_w hw 17 rfl) (own_w hw 16 rfl) (own_w hw 3 rfl) (own_w hw 18 rfl) (by decide) f36 (conE l Z a0 hw b2 b2 _ v1 v1 p1 p1 f36 f34 f35 f34 f35) e37 pd5 [(.ref b2)] [] rfl rfl rfl (Nat.le_of_eq rfl) (by decide) (by decide) (by rw [hml]; rfl) (hb hby at_182) (by decide) (by decide) rfl ?_
          intro v38 T38 L38 X38 q38
          obtain ⟨r38, rfl, hr38, rfl, e38⟩ := q38
          have N38 := Fr.app N37 (Fr.nil n0)
          show own_WP _ _ _ _ _ _ _ (T38.setTop (mkF m 185 #[.val (.long p0), .second, .val (.int p1), .val (.long p2), .second, .val (.int p3), .val (.int p4), .val (.long v1), .second, .val (.long jb1), .second, .val (.int jb2), .val (.ref b2), .val (.ref b4), .val (.int jb3), .val (.int v6), .val (.ref b4), .val (.int jb3)] [(.int r38)]))
          refine own_if_eq (pt := 192) (pf := 188) X38 hx (hb hby at_185) rfl (by decide) rfl (fun hc185 => absurd hc185 (by rw [hr38]; simp [own_b])) (fun hc185 => ?_)
          refine own_iconst (pc' := 189) X38 hx (1 : Int32) (hb hby at_188) rfl rfl ?_
          refine own_goto (pc' := 193) X38 hx (hb hby at_189) (by decide) rfl ?_
          refine own_retN X38 hx hlk (t := .boolean) (by decide) hret (hb hby at_193) (by decide) (by decide) ?_
          exact ⟨rfl, N38⟩
set_option maxRecDepth 65536 in
set_option maxHeartbeats 4000000 in
theorem comes_1 {Post : Tables → Env → Array Value → Jvm.State → Outcome → Jvm.State → Prop} (hpost : ∀ tb e args s v u, (limb_1_1.after args s (.returned v) u = true ∧ limb_1_2.after args s (.returned v) u = true ∧ True) → FrameEnd s (.returned v) u (Jvm.fieldLocs frame_1_writes args s ++ Jvm.arrayLocs frame_1_arrays args s ++ Jvm.staticLocs frame_1_statics s) 16 128 → Post tb e args s (.returned v) u) :
    ArmFor flags0 classFile x code maxLocals ret World_1 tables_1 room_1 Calls_1 rest_1 Pre_1 Post := by
  intro l hfl _ _ p e ha hc hk s m args below hf hA hF happ hP
  obtain ⟨hcalls, hrest, hpre⟩ := hP
  obtain ⟨-, -, -, hnamed, -, -, -, hat⟩ := (Spec.applies_iff hf).mp happ
  obtain ⟨hg, hn⟩ := and_e (Cond.before_iff.mp (show (Jvm.Cond.and given_1 narrow_1).before args s = true from hpre))
  obtain ⟨u1, u2⟩ := and_e hg
  obtain ⟨u3, u4⟩ := and_e u2
  obtain ⟨u5, u6⟩ := and_e u4
  obtain ⟨u7, u8⟩ := and_e u6
  obtain ⟨u9, u10⟩ := and_e u8
  obtain ⟨w0, w1, w2, w3, w4, rfl⟩ : ∃ w0 w1 w2 w3 w4 : Value, args = #[w0, w1, w2, w3, w4] := by
    have hs : args.size = 5 := by simpa [Cond.value, given_1] using u1
    obtain ⟨L⟩ := args
    match L, hs with
    | [w0, w1, w2, w3, w4], _ => exact ⟨w0, w1, w2, w3, w4, rfl⟩
  have hw := fun d (hd : d ∈ tables_1) => atoms_spec (ws := Jvm.Cond.code x code maxLocals ret :: tables_1) hat d (List.mem_cons_of_mem _ hd)
  have hfit : Fit s := fun {y c} hc i hi => by
    obtain ⟨ha, rfl⟩ := Array.getElem?_eq_some_iff.mp hc
    have q := List.all_eq_true.mp ((Array.all_eq_true_iff_forall_mem.mp hF) _ (Array.getElem_mem ha)) i (List.mem_range.mpr hi)
    simpa [Array.getElem?_eq_getElem hi] using q
  obtain ⟨hsets, hown0⟩ := atoms_of _ (rest_1_c_eq ▸ (show rest_1_c.before _ s = true from hrest))
  have hr0 := Cond.before_iff.mp hown0
  obtain ⟨i0, ei0⟩ := isL_v u3
  obtain rfl : w0 = (.long i0) := Option.some.inj ei0
  obtain ⟨i1, ei1⟩ := is_v u5
  obtain rfl : w1 = (.int i1) := Option.some.inj ei1
  obtain ⟨i2, ei2⟩ := isL_v u7
  obtain rfl : w2 = (.long i2) := Option.some.inj ei2
  obtain ⟨i3, ei3⟩ := is_v u9
  obtain rfl : w3 = (.int i3) := Option.some.inj ei3
  obtain ⟨i4, ei4⟩ := is_v u10
  obtain rfl : w4 = (.int i4) := Option.some.inj ei4
  obtain ⟨caJ, clJ, hcaJ⟩ := own_cache (s := s) (Or.inr ⟨(own_w hw 64 rfl), (hsets _ (List.mem_of_getElem? (i := 8) rfl))⟩) (hsets _ (List.mem_of_getElem? (i := 10) rfl)) (hsets _ (List.mem_of_getElem? (i := 12) rfl)) (hsets _ (List.mem_of_getElem? (i := 13) rfl))
  obtain ⟨caI, clI, hcaI⟩ := own_cache (s := s) (Or.inr ⟨(own_w hw 50 rfl), (hsets _ (List.mem_of_getElem? (i := 2) rfl))⟩) (hsets _ (List.mem_of_getElem? (i := 4) rfl)) (hsets _ (List.mem_of_getElem? (i := 6) rfl)) (hsets _ (List.mem_of_getElem? (i := 7) rfl))
  have evh := own_high (s := s) (hsets _ (List.mem_of_getElem? (i := 3) rfl))
  have hhi := Sta.start evh (Or.inl (hsets _ (List.mem_of_getElem? (i := 1) rfl)))
  obtain ⟨n, o, h1, h2, h3, _, L, rfl, ⟨rfl, N⟩, hq⟩ := con0 l s _ hw i0 i1 i2 i3 i4 s.heap s.heap.size (Nat.le_refl _) caJ clJ hcaJ caI clI hcaI hhi (Nat.le_refl _) tables_1 p e ha hc hk s m _ below hf ((Spec.applies_iff_loose hf).mp happ).1 ⟨rfl, State.Warmed39.refl s, rfl⟩ trivial
  refine ⟨n, _, h1, h2, h3, hpost _ _ _ _ _ _ ⟨Cond.after_iff.mpr rfl, Cond.after_iff.mpr (eq_i res_at (Term.int_eval (1)) rfl), trivial⟩ ⟨hq.1, hq.2.1, (hq.2.2.sift fun y hy => Or.inr (N y hy)).mono (by decide) (by decide)⟩⟩
theorem main_1_1 : Claimed_1_1 := comes_1 fun _ _ _ _ _ _ h hF => ⟨h.1, hF⟩
theorem main_1_2 : Claimed_1_2 := comes_1 fun _ _ _ _ _ _ h hF => ⟨h.2.1, hF⟩
end Jvm.Pilot.@@N@@
namespace Jvm.Pilot.@@N@@
open Jvm Jvm.ClassFile Sem Op Lib Jvm.Free Jvm.Stand Jvm.Pilot.@@N@@.Jvm.D
/-! MADE BY PROGRAM (witnessworld.py) out of the Statement's table words and the real class files: 19 classes; the members and pool entries that the words name. The judged class is class 1, her method 1. -/
namespace start1
open Jvm.ClassFile
def u (s : String) : CpInfo := .utf8 (stringToUtf16 s)
/-- a pool by its gaps: so many unusable entries, then the entry; so many at the end -/
def gap : Nat → List CpInfo → List CpInfo
  | 0, r => r
  | n + 1, r => .unusable :: gap n r
def poolList (es : List (Nat × CpInfo)) (last : Nat) : List CpInfo := es.foldr (fun e r => gap e.1 (e.2 :: r)) (gap last [])
def pool (es : List (Nat × CpInfo)) (last : Nat) : Array CpInfo := ⟨poolList es last⟩
def fileOf (pool : Array CpInfo) (this : Nat) (attrs : Array Attribute := #[]) (ms : Array MethodInfo := #[]) (fl : Nat := 33) (sup : Nat := 0) (ifs : Array Nat := #[]) (fds : Array FieldInfo := #[]) : ClassFile where
  minorVersion := 0
  majorVersion := 65
  constantPool := pool
  accessFlags := fl
  thisClass := this
  superClass := sup
  interfaces := ifs
  fields := fds
  methods := ms
  attributes := attrs
def plain (name : String) (sup : Option ClassId) : Class where
  name := name
  kind := .ordinary
  loader := none
  accessFlags := 33
  super := sup
  interfaces := #[]
  cf := none
  fields := #[]
  methods := #[]
  instanceTypes := #[]
  staticTypes := #[]
  resolved := #[]
  callSites := []
  init := .initialized
  statics := none
  mirror := none

def pool0 : Array CpInfo := pool [(5, u "<init>"), (0, u "()V"), (1, .class_ 10), (1, u "java/lang/Object")] 113

def k0c0 : Code := { maxStack := 0, maxLocals := 1, code := object_method_1_code, exceptionTable := #[], attributes := #[] }
def k0m0 : Method := { name := "<init>", desc := "()V", sig := { parameters := [], returnType := none }, accessFlags := 1, code := some k0c0 }
/-- java/lang/Object -/
def k0 : Class := { plain "java/lang/Object" none with
  accessFlags := 33
  interfaces := #[]
  cf := some (fileOf pool0 8 #[] #[{ accessFlags := 1, nameIndex := 5, descriptorIndex := 6, attributes := #[] }] 33 0 #[] #[])
  fields := #[]
  methods := #[k0m0]
  instanceTypes := #[]
  staticTypes := #[]
  resolved := Array.replicate 124 none
  statics := none }

def pool1 : Array CpInfo := pool [(2, .class_ 4), (1, u "java/lang/Object"), (0, u "<init>"), (0, u "()V"), (0, .class_ 8), (0, u "java/lang/Long"), (0, .long 9223372036854775807), (1, .class_ 12), (0, u "com/example/eventual_leader/eventualleader/election/StoredState"), (0, .methodref 11 14), (0, .nameAndType 5 15), (0, u "(JI)V"), (0, .methodref 7 17), (0, .nameAndType 18 19), (0, u "valueOf"), (0, u "(J)Ljava/lang/Long;"), (0, .methodref 21 22), (0, .class_ 23), (0, .nameAndType 18 24), (0, u "java/lang/Integer"), (0, u "(I)Ljava/lang/Integer;"), (0, .methodref 11 26), (0, .nameAndType 27 28), (0, u "equals"), (0, u "(Ljava/lang/Object;)Z"), (0, .class_ 30), (0, u "com/example/eventual_leader/eventualleader/election/StoredStateEqualsPinLaw"), (2, u "law"), (0, u "(JIJII)Z")] 3

def k1m0 : Method := { name := "<init>", desc := "()V", sig := { parameters := [], returnType := none }, accessFlags := 1, code := none }
def k1c1 : Code := { maxStack := 5, maxLocals := 18, code := code, exceptionTable := #[], attributes := #[] }
def k1m1 : Method := { name := "law", desc := "(JIJII)Z", sig := { parameters := [.long, .int, .long, .int, .int], returnType := some .boolean }, accessFlags := 9, code := some k1c1 }
/-- com/example/eventual_leader/eventualleader/election/StoredStateEqualsPinLaw -/
def k1 : Class := { plain "com/example/eventual_leader/eventualleader/election/StoredStateEqualsPinLaw" (some 0) with
  accessFlags := 49
  interfaces := #[]
  cf := some (fileOf pool1 29 #[] #[{ accessFlags := 1, nameIndex := 5, descriptorIndex := 6, attributes := #[] }, { accessFlags := 9, nameIndex := 33, descriptorIndex := 34, attributes := #[] }] 49 2 #[] #[])
  fields := #[]
  methods := #[k1m0, k1m1]
  instanceTypes := #[]
  staticTypes := #[]
  resolved := Array.replicate 38 none
  statics := none }

def pool2 : Array CpInfo := pool [(1, .methodref 2 3), (0, .class_ 4), (0, .nameAndType 5 6), (0, u "java/lang/Object"), (0, u "<init>"), (0, u "()V"), (9, .fieldref 17 18), (0, .class_ 19), (0, .nameAndType 20 21), (0, u "com/example/eventual_leader/eventualleader/election/StoredState"), (0, u "incarnation"), (0, u "J"), (0, .fieldref 17 23), (0, .nameAndType 24 25), (0, u "leader"), (0, u "I"), (9, u "(JI)V"), (5, u "equals"), (0, u "(Ljava/lang/Object;)Z")] 21

def k2c0 : Code := { maxStack := 4, maxLocals := 4, code := prog_22_method_1_code, exceptionTable := #[], attributes := #[] }
def k2m0 : Method := { name := "<init>", desc := "(JI)V", sig := { parameters := [.long, .int], returnType := none }, accessFlags := 1, code := some k2c0 }
def k2c1 : Code := { maxStack := 4, maxLocals := 3, code := prog_22_method_4_code, exceptionTable := #[], attributes := #[] }
def k2m1 : Method := { name := "equals", desc := "(Ljava/lang/Object;)Z", sig := { parameters := [(.object "java/lang/Object")], returnType := some .boolean }, accessFlags := 1, code := some k2c1 }
/-- com/example/eventual_leader/eventualleader/election/StoredState -/
def k2 : Class := { plain "com/example/eventual_leader/eventualleader/election/StoredState" (some 0) with
  accessFlags := 49
  interfaces := #[]
  cf := some (fileOf pool2 17 #[] #[{ accessFlags := 1, nameIndex := 5, descriptorIndex := 35, attributes := #[] }, { accessFlags := 1, nameIndex := 41, descriptorIndex := 42, attributes := #[] }] 49 2 #[] #[{ accessFlags := 18, nameIndex := 20, descriptorIndex := 21, attributes := #[] }, { accessFlags := 18, nameIndex := 24, descriptorIndex := 25, attributes := #[] }])
  fields := #[{ name := "incarnation", type := .long, accessFlags := 18, slot := 0, constantValue := 0 }, { name := "leader", type := .int, accessFlags := 18, slot := 1, constantValue := 0 }]
  methods := #[k2m0, k2m1]
  instanceTypes := #[.long, .int]
  staticTypes := #[]
  resolved := Array.replicate 64 none
  statics := none }

def pool3 : Array CpInfo := pool [(1, .class_ 2), (0, u "java/io/Serializable"), (0, .class_ 4), (0, u "java/lang/Object")] 2

/-- java/io/Serializable -/
def k3 : Class := { plain "java/io/Serializable" (some 0) with
  accessFlags := 1537
  interfaces := #[]
  cf := some (fileOf pool3 1 #[] #[] 1537 3 #[] #[])
  fields := #[]
  methods := #[]
  instanceTypes := #[]
  staticTypes := #[]
  resolved := Array.replicate 7 none
  statics := none }

def pool4 : Array CpInfo := pool [(1, .methodref 2 3), (0, .class_ 4), (0, .nameAndType 5 6), (0, u "java/lang/Object"), (0, u "<init>"), (0, u "()V"), (1, .class_ 10), (1, u "java/lang/Number"), (2, .class_ 14), (0, u "java/io/Serializable"), (0, u "serialVersionUID"), (0, u "J")] 20

def k4c0 : Code := { maxStack := 1, maxLocals := 1, code := jdk_18_method_1_code, exceptionTable := #[], attributes := #[] }
def k4m0 : Method := { name := "<init>", desc := "()V", sig := { parameters := [], returnType := none }, accessFlags := 1, code := some k4c0 }
/-- java/lang/Number -/
def k4 : Class := { plain "java/lang/Number" (some 0) with
  accessFlags := 1057
  interfaces := #[3]
  cf := some (fileOf pool4 8 #[] #[{ accessFlags := 1, nameIndex := 5, descriptorIndex := 6, attributes := #[] }] 1057 2 #[13] #[{ accessFlags := 26, nameIndex := 15, descriptorIndex := 16, attributes := #[] }])
  fields := #[{ name := "serialVersionUID", type := .long, accessFlags := 26, slot := 0, constantValue := 0 }]
  methods := #[k4m0]
  instanceTypes := #[]
  staticTypes := #[.long]
  resolved := Array.replicate 37 none
  statics := none }

def pool5 : Array CpInfo := pool [(1, .class_ 2), (0, u "java/lang/Comparable"), (0, .class_ 4), (0, u "java/lang/Object")] 7

/-- java/lang/Comparable -/
def k5 : Class := { plain "java/lang/Comparable" (some 0) with
  accessFlags := 1537
  interfaces := #[]
  cf := some (fileOf pool5 1 #[] #[] 1537 3 #[] #[])
  fields := #[]
  methods := #[]
  instanceTypes := #[]
  staticTypes := #[]
  resolved := Array.replicate 12 none
  statics := none }

def pool6 : Array CpInfo := pool [(1, .class_ 2), (0, u "java/lang/constant/Constable"), (0, .class_ 4), (0, u "java/lang/Object")] 6

/-- java/lang/constant/Constable -/
def k6 : Class := { plain "java/lang/constant/Constable" (some 0) with
  accessFlags := 1537
  interfaces := #[]
  cf := some (fileOf pool6 1 #[] #[] 1537 3 #[] #[])
  fields := #[]
  methods := #[]
  instanceTypes := #[]
  staticTypes := #[]
  resolved := Array.replicate 11 none
  statics := none }

def pool7 : Array CpInfo := pool [(1, .class_ 2), (0, u "java/lang/constant/ConstantDesc"), (0, .class_ 4), (0, u "java/lang/Object")] 32

/-- java/lang/constant/ConstantDesc -/
def k7 : Class := { plain "java/lang/constant/ConstantDesc" (some 0) with
  accessFlags := 1537
  interfaces := #[]
  cf := some (fileOf pool7 1 #[] #[] 1537 3 #[] #[])
  fields := #[]
  methods := #[]
  instanceTypes := #[]
  staticTypes := #[]
  resolved := Array.replicate 37 none
  statics := none }

def pool8 : Array CpInfo := pool [(1, .class_ 2), (0, u "java/lang/Long"), (55, .nameAndType 59 60), (0, u "<init>"), (0, u "()V"), (24, u "valueOf"), (143, u "(J)Ljava/lang/Long;"), (0, .long 18446744073709551488), (1, .long 127), (1, .fieldref 235 236), (0, .class_ 237), (0, .nameAndType 238 239), (0, u "java/lang/Long$LongCache"), (0, u "cache"), (0, u "[Ljava/lang/Long;"), (0, .methodref 1 241), (0, .nameAndType 59 242), (0, u "(J)V"), (27, .methodref 271 58), (0, .class_ 272), (0, u "java/lang/Number"), (0, .fieldref 1 274), (0, .nameAndType 275 276), (0, u "value"), (0, u "J"), (84, u "TYPE"), (0, u "Ljava/lang/Class;"), (0, .class_ 364), (0, u "java/lang/Comparable"), (0, .class_ 366), (0, u "java/lang/constant/Constable"), (0, .class_ 368), (0, u "java/lang/constant/ConstantDesc"), (0, u "MIN_VALUE"), (1, u "MAX_VALUE"), (4, u "SIZE"), (0, u "I"), (1, u "BYTES"), (1, u "serialVersionUID")] 142

def k8c0 : Code := { maxStack := 4, maxLocals := 3, code := jdk_35_method_24_code, exceptionTable := #[], attributes := #[] }
def k8m0 : Method := { name := "valueOf", desc := "(J)Ljava/lang/Long;", sig := { parameters := [.long], returnType := some (.object "java/lang/Long") }, accessFlags := 9, code := some k8c0 }
def k8c1 : Code := { maxStack := 3, maxLocals := 3, code := jdk_35_method_26_code, exceptionTable := #[], attributes := #[] }
def k8m1 : Method := { name := "<init>", desc := "(J)V", sig := { parameters := [.long], returnType := none }, accessFlags := 1, code := some k8c1 }
/-- java/lang/Long -/
def k8 : Class := { plain "java/lang/Long" (some 4) with
  accessFlags := 49
  interfaces := #[5, 6, 7]
  cf := some (fileOf pool8 1 #[.nestMembers #[235]] #[{ accessFlags := 9, nameIndex := 85, descriptorIndex := 229, attributes := #[] }, { accessFlags := 1, nameIndex := 59, descriptorIndex := 242, attributes := #[] }] 49 271 #[363, 365, 367] #[{ accessFlags := 25, nameIndex := 369, descriptorIndex := 276, attributes := #[] }, { accessFlags := 25, nameIndex := 371, descriptorIndex := 276, attributes := #[] }, { accessFlags := 25, nameIndex := 361, descriptorIndex := 362, attributes := #[] }, { accessFlags := 18, nameIndex := 275, descriptorIndex := 276, attributes := #[] }, { accessFlags := 25, nameIndex := 376, descriptorIndex := 377, attributes := #[] }, { accessFlags := 25, nameIndex := 379, descriptorIndex := 377, attributes := #[] }, { accessFlags := 26, nameIndex := 381, descriptorIndex := 276, attributes := #[] }])
  fields := #[{ name := "MIN_VALUE", type := .long, accessFlags := 25, slot := 0, constantValue := 0 }, { name := "MAX_VALUE", type := .long, accessFlags := 25, slot := 1, constantValue := 0 }, { name := "TYPE", type := (.object "java/lang/Class"), accessFlags := 25, slot := 2, constantValue := 0 }, { name := "value", type := .long, accessFlags := 18, slot := 0, constantValue := 0 }, { name := "SIZE", type := .int, accessFlags := 25, slot := 3, constantValue := 0 }, { name := "BYTES", type := .int, accessFlags := 25, slot := 4, constantValue := 0 }, { name := "serialVersionUID", type := .long, accessFlags := 26, slot := 5, constantValue := 0 }]
  methods := #[k8m0, k8m1]
  instanceTypes := #[.long]
  staticTypes := #[.long, .long, (.object "java/lang/Class"), .int, .int, .long]
  resolved := Array.replicate 524 none
  statics := none }

def pool9 : Array CpInfo := pool [(1, .class_ 2), (0, u "java/lang/Integer"), (16, u "digits"), (0, u "[C"), (46, u "<init>"), (17, u "DigitOnes"), (0, u "[B"), (2, u "DigitTens"), (10, .nameAndType 67 101), (0, u "()V"), (85, u "valueOf"), (0, u "(I)Ljava/lang/Integer;"), (0, .class_ 190), (0, u "java/lang/Integer$IntegerCache"), (0, .fieldref 189 192), (0, .nameAndType 193 194), (0, u "high"), (0, u "I"), (0, .fieldref 189 196), (0, .nameAndType 197 198), (0, u "cache"), (0, u "[Ljava/lang/Integer;"), (0, .methodref 1 200), (0, .nameAndType 67 201), (0, u "(I)V"), (0, .methodref 203 100), (0, .class_ 204), (0, u "java/lang/Number"), (0, .fieldref 1 206), (0, .nameAndType 207 194), (0, u "value"), (94, u "TYPE"), (0, u "Ljava/lang/Class;"), (0, .class_ 305), (0, u "java/lang/Comparable"), (0, .class_ 307), (0, u "java/lang/constant/Constable"), (0, .class_ 309), (0, u "java/lang/constant/ConstantDesc"), (0, u "MIN_VALUE"), (1, u "MAX_VALUE"), (3, u "SIZE"), (1, u "BYTES"), (1, u "serialVersionUID"), (0, u "J")] 131

def k9c0 : Code := { maxStack := 3, maxLocals := 1, code := jdk_33_method_22_code, exceptionTable := #[], attributes := #[] }
def k9m0 : Method := { name := "valueOf", desc := "(I)Ljava/lang/Integer;", sig := { parameters := [.int], returnType := some (.object "java/lang/Integer") }, accessFlags := 9, code := some k9c0 }
def k9c1 : Code := { maxStack := 2, maxLocals := 2, code := jdk_33_method_23_code, exceptionTable := #[], attributes := #[] }
def k9m1 : Method := { name := "<init>", desc := "(I)V", sig := { parameters := [.int], returnType := none }, accessFlags := 1, code := some k9c1 }
/-- java/lang/Integer -/
def k9 : Class := { plain "java/lang/Integer" (some 4) with
  accessFlags := 49
  interfaces := #[5, 6, 7]
  cf := some (fileOf pool9 1 #[.nestMembers #[189]] #[{ accessFlags := 9, nameIndex := 187, descriptorIndex := 188, attributes := #[] }, { accessFlags := 1, nameIndex := 67, descriptorIndex := 201, attributes := #[] }] 49 203 #[304, 306, 308] #[{ accessFlags := 25, nameIndex := 310, descriptorIndex := 194, attributes := #[] }, { accessFlags := 25, nameIndex := 312, descriptorIndex := 194, attributes := #[] }, { accessFlags := 25, nameIndex := 302, descriptorIndex := 303, attributes := #[] }, { accessFlags := 24, nameIndex := 19, descriptorIndex := 20, attributes := #[] }, { accessFlags := 24, nameIndex := 89, descriptorIndex := 86, attributes := #[] }, { accessFlags := 24, nameIndex := 85, descriptorIndex := 86, attributes := #[] }, { accessFlags := 18, nameIndex := 207, descriptorIndex := 194, attributes := #[] }, { accessFlags := 25, nameIndex := 316, descriptorIndex := 194, attributes := #[] }, { accessFlags := 25, nameIndex := 318, descriptorIndex := 194, attributes := #[] }, { accessFlags := 26, nameIndex := 320, descriptorIndex := 321, attributes := #[] }])
  fields := #[{ name := "MIN_VALUE", type := .int, accessFlags := 25, slot := 0, constantValue := 0 }, { name := "MAX_VALUE", type := .int, accessFlags := 25, slot := 1, constantValue := 0 }, { name := "TYPE", type := (.object "java/lang/Class"), accessFlags := 25, slot := 2, constantValue := 0 }, { name := "digits", type := (.array .char), accessFlags := 24, slot := 3, constantValue := 0 }, { name := "DigitTens", type := (.array .byte), accessFlags := 24, slot := 4, constantValue := 0 }, { name := "DigitOnes", type := (.array .byte), accessFlags := 24, slot := 5, constantValue := 0 }, { name := "value", type := .int, accessFlags := 18, slot := 0, constantValue := 0 }, { name := "SIZE", type := .int, accessFlags := 25, slot := 6, constantValue := 0 }, { name := "BYTES", type := .int, accessFlags := 25, slot := 7, constantValue := 0 }, { name := "serialVersionUID", type := .long, accessFlags := 26, slot := 8, constantValue := 0 }]
  methods := #[k9m0, k9m1]
  instanceTypes := #[.int]
  staticTypes := #[.int, .int, (.object "java/lang/Class"), (.array .char), (.array .byte), (.array .byte), .int, .int, .long]
  resolved := Array.replicate 453 none
  statics := none }

def pool10 : Array CpInfo := pool [(2, .class_ 4), (1, u "java/lang/Object"), (0, u "<init>"), (0, u "()V"), (0, .class_ 8), (0, u "java/lang/Integer"), (7, .class_ 18), (1, u "java/lang/Integer$IntegerCache"), (0, u "$assertionsDisabled"), (0, u "Z"), (26, u "high"), (0, u "I"), (8, u "archivedCache"), (0, u "[Ljava/lang/Integer;"), (12, u "cache"), (0, u "low")] 27

def k10m0 : Method := { name := "<init>", desc := "()V", sig := { parameters := [], returnType := none }, accessFlags := 2, code := none }
/-- java/lang/Integer$IntegerCache -/
def k10 : Class := { plain "java/lang/Integer$IntegerCache" (some 0) with
  accessFlags := 48
  interfaces := #[]
  cf := some (fileOf pool10 16 #[.nestHost 7] #[{ accessFlags := 2, nameIndex := 5, descriptorIndex := 6, attributes := #[] }] 48 2 #[] #[{ accessFlags := 24, nameIndex := 72, descriptorIndex := 48, attributes := #[] }, { accessFlags := 24, nameIndex := 47, descriptorIndex := 48, attributes := #[] }, { accessFlags := 24, nameIndex := 71, descriptorIndex := 58, attributes := #[] }, { accessFlags := 8, nameIndex := 57, descriptorIndex := 58, attributes := #[] }, { accessFlags := 4120, nameIndex := 19, descriptorIndex := 20, attributes := #[] }])
  fields := #[{ name := "low", type := .int, accessFlags := 24, slot := 0, constantValue := 0 }, { name := "high", type := .int, accessFlags := 24, slot := 1, constantValue := 0 }, { name := "cache", type := (.array (.object "java/lang/Integer")), accessFlags := 24, slot := 2, constantValue := 0 }, { name := "archivedCache", type := (.array (.object "java/lang/Integer")), accessFlags := 8, slot := 3, constantValue := 0 }, { name := "$assertionsDisabled", type := .boolean, accessFlags := 4120, slot := 4, constantValue := 0 }]
  methods := #[k10m0]
  instanceTypes := #[]
  staticTypes := #[.int, .int, (.array (.object "java/lang/Integer")), (.array (.object "java/lang/Integer")), .boolean]
  resolved := Array.replicate 100 none
  statics := some 0 }

def pool11 : Array CpInfo := pool [(2, .class_ 4), (1, u "java/lang/Object"), (0, u "<init>"), (0, u "()V"), (0, .class_ 8), (0, u "java/lang/Long"), (7, .class_ 18), (1, u "java/lang/Long$LongCache"), (0, u "$assertionsDisabled"), (0, u "Z"), (8, u "archivedCache"), (0, u "[Ljava/lang/Long;"), (7, u "cache")] 24

def k11m0 : Method := { name := "<init>", desc := "()V", sig := { parameters := [], returnType := none }, accessFlags := 2, code := none }
/-- java/lang/Long$LongCache -/
def k11 : Class := { plain "java/lang/Long$LongCache" (some 0) with
  accessFlags := 48
  interfaces := #[]
  cf := some (fileOf pool11 16 #[.nestHost 7] #[{ accessFlags := 2, nameIndex := 5, descriptorIndex := 6, attributes := #[] }] 48 2 #[] #[{ accessFlags := 24, nameIndex := 38, descriptorIndex := 30, attributes := #[] }, { accessFlags := 8, nameIndex := 29, descriptorIndex := 30, attributes := #[] }, { accessFlags := 4120, nameIndex := 19, descriptorIndex := 20, attributes := #[] }])
  fields := #[{ name := "cache", type := (.array (.object "java/lang/Long")), accessFlags := 24, slot := 0, constantValue := 0 }, { name := "archivedCache", type := (.array (.object "java/lang/Long")), accessFlags := 8, slot := 1, constantValue := 0 }, { name := "$assertionsDisabled", type := .boolean, accessFlags := 4120, slot := 2, constantValue := 0 }]
  methods := #[k11m0]
  instanceTypes := #[]
  staticTypes := #[(.array (.object "java/lang/Long")), (.array (.object "java/lang/Long")), .boolean]
  resolved := Array.replicate 63 none
  statics := some 1 }

def pool12 : Array CpInfo := pool [(1, u "java/lang/Cloneable"), (0, .class_ 1), (0, u "java/lang/Object"), (0, .class_ 3)] 3

/-- java/lang/Cloneable -/
def k12 : Class := { plain "java/lang/Cloneable" (some 0) with
  accessFlags := 1537
  interfaces := #[]
  cf := some (fileOf pool12 2 #[] #[] 1537 4 #[] #[])
  fields := #[]
  methods := #[]
  instanceTypes := #[]
  staticTypes := #[]
  resolved := Array.replicate 8 none
  statics := none }

/-- the primitive byte -/
def k13 : Class := { plain "byte" none with kind := .primitive 'B', accessFlags := 0x411 }
/-- [B -/
def k14 : Class := { plain "[B" (some 0) with kind := .array 13 .byte, interfaces := #[12, 3], accessFlags := 1041 }

/-- the primitive int -/
def k15 : Class := { plain "int" none with kind := .primitive 'I', accessFlags := 0x411 }
/-- [I -/
def k16 : Class := { plain "[I" (some 0) with kind := .array 15 .int, interfaces := #[12, 3], accessFlags := 1041 }

/-- [Ljava/lang/Integer; -/
def k17 : Class := { plain "[Ljava/lang/Integer;" (some 0) with kind := .array 9 (.object "java/lang/Integer"), interfaces := #[12, 3], accessFlags := 1041 }

/-- [Ljava/lang/Long; -/
def k18 : Class := { plain "[Ljava/lang/Long;" (some 0) with kind := .array 8 (.object "java/lang/Long"), interfaces := #[12, 3], accessFlags := 1041 }

def heap : Heap := #[{ cls := 10, slots := #[.int 0, .int 127, .ref 3, .null, .int 0], vm := .statics 10 },
  { cls := 11, slots := #[.ref 2, .null, .int 0], vm := .statics 11 },
  { cls := 18, slots := #[.ref 4, .ref 5, .ref 6, .ref 7, .ref 8, .ref 9, .ref 10, .ref 11, .ref 12, .ref 13, .ref 14, .ref 15, .ref 16, .ref 17, .ref 18, .ref 19, .ref 20, .ref 21, .ref 22, .ref 23, .ref 24, .ref 25, .ref 26, .ref 27, .ref 28, .ref 29, .ref 30, .ref 31, .ref 32, .ref 33, .ref 34, .ref 35, .ref 36, .ref 37, .ref 38, .ref 39, .ref 40, .ref 41, .ref 42, .ref 43, .ref 44, .ref 45, .ref 46, .ref 47, .ref 48, .ref 49, .ref 50, .ref 51, .ref 52, .ref 53, .ref 54, .ref 55, .ref 56, .ref 57, .ref 58, .ref 59, .ref 60, .ref 61, .ref 62, .ref 63, .ref 64, .ref 65, .ref 66, .ref 67, .ref 68, .ref 69, .ref 70, .ref 71, .ref 72, .ref 73, .ref 74, .ref 75, .ref 76, .ref 77, .ref 78, .ref 79, .ref 80, .ref 81, .ref 82, .ref 83, .ref 84, .ref 85, .ref 86, .ref 87, .ref 88, .ref 89, .ref 90, .ref 91, .ref 92, .ref 93, .ref 94, .ref 95, .ref 96, .ref 97, .ref 98, .ref 99, .ref 100, .ref 101, .ref 102, .ref 103, .ref 104, .ref 105, .ref 106, .ref 107, .ref 108, .ref 109, .ref 110, .ref 111, .ref 112, .ref 113, .ref 114, .ref 115, .ref 116, .ref 117, .ref 118, .ref 119, .ref 120, .ref 121, .ref 122, .ref 123, .ref 124, .ref 125, .ref 126, .ref 127, .ref 128, .ref 129, .ref 130, .ref 131, .ref 132, .ref 133, .ref 134, .ref 135, .ref 136, .ref 137, .ref 138, .ref 139, .ref 140, .ref 141, .ref 142, .ref 143, .ref 144, .ref 145, .ref 146, .ref 147, .ref 148, .ref 149, .ref 150, .ref 151, .ref 152, .ref 153, .ref 154, .ref 155, .ref 156, .ref 157, .ref 158, .ref 159, .ref 160, .ref 161, .ref 162, .ref 163, .ref 164, .ref 165, .ref 166, .ref 167, .ref 168, .ref 169, .ref 170, .ref 171, .ref 172, .ref 173, .ref 174, .ref 175, .ref 176, .ref 177, .ref 178, .ref 179, .ref 180, .ref 181, .ref 182, .ref 183, .ref 184, .ref 185, .ref 186, .ref 187, .ref 188, .ref 189, .ref 190, .ref 191, .ref 192, .ref 193, .ref 194, .ref 195, .ref 196, .ref 197, .ref 198, .ref 199, .ref 200, .ref 201, .ref 202, .ref 203, .ref 204, .ref 205, .ref 206, .ref 207, .ref 208, .ref 209, .ref 210, .ref 211, .ref 212, .ref 213, .ref 214, .ref 215, .ref 216, .ref 217, .ref 218, .ref 219, .ref 220, .ref 221, .ref 222, .ref 223, .ref 224, .ref 225, .ref 226, .ref 227, .ref 228, .ref 229, .ref 230, .ref 231, .ref 232, .ref 233, .ref 234, .ref 235, .ref 236, .ref 237, .ref 238, .ref 239, .ref 240, .ref 241, .ref 242, .ref 243, .ref 244, .ref 245, .ref 246, .ref 247, .ref 248, .ref 249, .ref 250, .ref 251, .ref 252, .ref 253, .ref 254, .ref 255, .ref 256, .ref 257, .ref 258, .ref 259], vm := .none },
  { cls := 17, slots := #[.ref 260, .ref 261, .ref 262, .ref 263, .ref 264, .ref 265, .ref 266, .ref 267, .ref 268, .ref 269, .ref 270, .ref 271, .ref 272, .ref 273, .ref 274, .ref 275, .ref 276, .ref 277, .ref 278, .ref 279, .ref 280, .ref 281, .ref 282, .ref 283, .ref 284, .ref 285, .ref 286, .ref 287, .ref 288, .ref 289, .ref 290, .ref 291, .ref 292, .ref 293, .ref 294, .ref 295, .ref 296, .ref 297, .ref 298, .ref 299, .ref 300, .ref 301, .ref 302, .ref 303, .ref 304, .ref 305, .ref 306, .ref 307, .ref 308, .ref 309, .ref 310, .ref 311, .ref 312, .ref 313, .ref 314, .ref 315, .ref 316, .ref 317, .ref 318, .ref 319, .ref 320, .ref 321, .ref 322, .ref 323, .ref 324, .ref 325, .ref 326, .ref 327, .ref 328, .ref 329, .ref 330, .ref 331, .ref 332, .ref 333, .ref 334, .ref 335, .ref 336, .ref 337, .ref 338, .ref 339, .ref 340, .ref 341, .ref 342, .ref 343, .ref 344, .ref 345, .ref 346, .ref 347, .ref 348, .ref 349, .ref 350, .ref 351, .ref 352, .ref 353, .ref 354, .ref 355, .ref 356, .ref 357, .ref 358, .ref 359, .ref 360, .ref 361, .ref 362, .ref 363, .ref 364, .ref 365, .ref 366, .ref 367, .ref 368, .ref 369, .ref 370, .ref 371, .ref 372, .ref 373, .ref 374, .ref 375, .ref 376, .ref 377, .ref 378, .ref 379, .ref 380, .ref 381, .ref 382, .ref 383, .ref 384, .ref 385, .ref 386, .ref 387, .ref 388, .ref 389, .ref 390, .ref 391, .ref 392, .ref 393, .ref 394, .ref 395, .ref 396, .ref 397, .ref 398, .ref 399, .ref 400, .ref 401, .ref 402, .ref 403, .ref 404, .ref 405, .ref 406, .ref 407, .ref 408, .ref 409, .ref 410, .ref 411, .ref 412, .ref 413, .ref 414, .ref 415, .ref 416, .ref 417, .ref 418, .ref 419, .ref 420, .ref 421, .ref 422, .ref 423, .ref 424, .ref 425, .ref 426, .ref 427, .ref 428, .ref 429, .ref 430, .ref 431, .ref 432, .ref 433, .ref 434, .ref 435, .ref 436, .ref 437, .ref 438, .ref 439, .ref 440, .ref 441, .ref 442, .ref 443, .ref 444, .ref 445, .ref 446, .ref 447, .ref 448, .ref 449, .ref 450, .ref 451, .ref 452, .ref 453, .ref 454, .ref 455, .ref 456, .ref 457, .ref 458, .ref 459, .ref 460, .ref 461, .ref 462, .ref 463, .ref 464, .ref 465, .ref 466, .ref 467, .ref 468, .ref 469, .ref 470, .ref 471, .ref 472, .ref 473, .ref 474, .ref 475, .ref 476, .ref 477, .ref 478, .ref 479, .ref 480, .ref 481, .ref 482, .ref 483, .ref 484, .ref 485, .ref 486, .ref 487, .ref 488, .ref 489, .ref 490, .ref 491, .ref 492, .ref 493, .ref 494, .ref 495, .ref 496, .ref 497, .ref 498, .ref 499, .ref 500, .ref 501, .ref 502, .ref 503, .ref 504, .ref 505, .ref 506, .ref 507, .ref 508, .ref 509, .ref 510, .ref 511, .ref 512, .ref 513, .ref 514, .ref 515], vm := .none },
  { cls := 8, slots := #[.long (-128)], vm := .none },
  { cls := 8, slots := #[.long (-127)], vm := .none },
  { cls := 8, slots := #[.long (-126)], vm := .none },
  { cls := 8, slots := #[.long (-125)], vm := .none },
  { cls := 8, slots := #[.long (-124)], vm := .none },
  { cls := 8, slots := #[.long (-123)], vm := .none },
  { cls := 8, slots := #[.long (-122)], vm := .none },
  { cls := 8, slots := #[.long (-121)], vm := .none },
  { cls := 8, slots := #[.long (-120)], vm := .none },
  { cls := 8, slots := #[.long (-119)], vm := .none },
  { cls := 8, slots := #[.long (-118)], vm := .none },
  { cls := 8, slots := #[.long (-117)], vm := .none },
  { cls := 8, slots := #[.long (-116)], vm := .none },
  { cls := 8, slots := #[.long (-115)], vm := .none },
  { cls := 8, slots := #[.long (-114)], vm := .none },
  { cls := 8, slots := #[.long (-113)], vm := .none },
  { cls := 8, slots := #[.long (-112)], vm := .none },
  { cls := 8, slots := #[.long (-111)], vm := .none },
  { cls := 8, slots := #[.long (-110)], vm := .none },
  { cls := 8, slots := #[.long (-109)], vm := .none },
  { cls := 8, slots := #[.long (-108)], vm := .none },
  { cls := 8, slots := #[.long (-107)], vm := .none },
  { cls := 8, slots := #[.long (-106)], vm := .none },
  { cls := 8, slots := #[.long (-105)], vm := .none },
  { cls := 8, slots := #[.long (-104)], vm := .none },
  { cls := 8, slots := #[.long (-103)], vm := .none },
  { cls := 8, slots := #[.long (-102)], vm := .none },
  { cls := 8, slots := #[.long (-101)], vm := .none },
  { cls := 8, slots := #[.long (-100)], vm := .none },
  { cls := 8, slots := #[.long (-99)], vm := .none },
  { cls := 8, slots := #[.long (-98)], vm := .none },
  { cls := 8, slots := #[.long (-97)], vm := .none },
  { cls := 8, slots := #[.long (-96)], vm := .none },
  { cls := 8, slots := #[.long (-95)], vm := .none },
  { cls := 8, slots := #[.long (-94)], vm := .none },
  { cls := 8, slots := #[.long (-93)], vm := .none },
  { cls := 8, slots := #[.long (-92)], vm := .none },
  { cls := 8, slots := #[.long (-91)], vm := .none },
  { cls := 8, slots := #[.long (-90)], vm := .none },
  { cls := 8, slots := #[.long (-89)], vm := .none },
  { cls := 8, slots := #[.long (-88)], vm := .none },
  { cls := 8, slots := #[.long (-87)], vm := .none },
  { cls := 8, slots := #[.long (-86)], vm := .none },
  { cls := 8, slots := #[.long (-85)], vm := .none },
  { cls := 8, slots := #[.long (-84)], vm := .none },
  { cls := 8, slots := #[.long (-83)], vm := .none },
  { cls := 8, slots := #[.long (-82)], vm := .none },
  { cls := 8, slots := #[.long (-81)], vm := .none },
  { cls := 8, slots := #[.long (-80)], vm := .none },
  { cls := 8, slots := #[.long (-79)], vm := .none },
  { cls := 8, slots := #[.long (-78)], vm := .none },
  { cls := 8, slots := #[.long (-77)], vm := .none },
  { cls := 8, slots := #[.long (-76)], vm := .none },
  { cls := 8, slots := #[.long (-75)], vm := .none },
  { cls := 8, slots := #[.long (-74)], vm := .none },
  { cls := 8, slots := #[.long (-73)], vm := .none },
  { cls := 8, slots := #[.long (-72)], vm := .none },
  { cls := 8, slots := #[.long (-71)], vm := .none },
  { cls := 8, slots := #[.long (-70)], vm := .none },
  { cls := 8, slots := #[.long (-69)], vm := .none },
  { cls := 8, slots := #[.long (-68)], vm := .none },
  { cls := 8, slots := #[.long (-67)], vm := .none },
  { cls := 8, slots := #[.long (-66)], vm := .none },
  { cls := 8, slots := #[.long (-65)], vm := .none },
  { cls := 8, slots := #[.long (-64)], vm := .none },
  { cls := 8, slots := #[.long (-63)], vm := .none },
  { cls := 8, slots := #[.long (-62)], vm := .none },
  { cls := 8, slots := #[.long (-61)], vm := .none },
  { cls := 8, slots := #[.long (-60)], vm := .none },
  { cls := 8, slots := #[.long (-59)], vm := .none },
  { cls := 8, slots := #[.long (-58)], vm := .none },
  { cls := 8, slots := #[.long (-57)], vm := .none },
  { cls := 8, slots := #[.long (-56)], vm := .none },
  { cls := 8, slots := #[.long (-55)], vm := .none },
  { cls := 8, slots := #[.long (-54)], vm := .none },
  { cls := 8, slots := #[.long (-53)], vm := .none },
  { cls := 8, slots := #[.long (-52)], vm := .none },
  { cls := 8, slots := #[.long (-51)], vm := .none },
  { cls := 8, slots := #[.long (-50)], vm := .none },
  { cls := 8, slots := #[.long (-49)], vm := .none },
  { cls := 8, slots := #[.long (-48)], vm := .none },
  { cls := 8, slots := #[.long (-47)], vm := .none },
  { cls := 8, slots := #[.long (-46)], vm := .none },
  { cls := 8, slots := #[.long (-45)], vm := .none },
  { cls := 8, slots := #[.long (-44)], vm := .none },
  { cls := 8, slots := #[.long (-43)], vm := .none },
  { cls := 8, slots := #[.long (-42)], vm := .none },
  { cls := 8, slots := #[.long (-41)], vm := .none },
  { cls := 8, slots := #[.long (-40)], vm := .none },
  { cls := 8, slots := #[.long (-39)], vm := .none },
  { cls := 8, slots := #[.long (-38)], vm := .none },
  { cls := 8, slots := #[.long (-37)], vm := .none },
  { cls := 8, slots := #[.long (-36)], vm := .none },
  { cls := 8, slots := #[.long (-35)], vm := .none },
  { cls := 8, slots := #[.long (-34)], vm := .none },
  { cls := 8, slots := #[.long (-33)], vm := .none },
  { cls := 8, slots := #[.long (-32)], vm := .none },
  { cls := 8, slots := #[.long (-31)], vm := .none },
  { cls := 8, slots := #[.long (-30)], vm := .none },
  { cls := 8, slots := #[.long (-29)], vm := .none },
  { cls := 8, slots := #[.long (-28)], vm := .none },
  { cls := 8, slots := #[.long (-27)], vm := .none },
  { cls := 8, slots := #[.long (-26)], vm := .none },
  { cls := 8, slots := #[.long (-25)], vm := .none },
  { cls := 8, slots := #[.long (-24)], vm := .none },
  { cls := 8, slots := #[.long (-23)], vm := .none },
  { cls := 8, slots := #[.long (-22)], vm := .none },
  { cls := 8, slots := #[.long (-21)], vm := .none },
  { cls := 8, slots := #[.long (-20)], vm := .none },
  { cls := 8, slots := #[.long (-19)], vm := .none },
  { cls := 8, slots := #[.long (-18)], vm := .none },
  { cls := 8, slots := #[.long (-17)], vm := .none },
  { cls := 8, slots := #[.long (-16)], vm := .none },
  { cls := 8, slots := #[.long (-15)], vm := .none },
  { cls := 8, slots := #[.long (-14)], vm := .none },
  { cls := 8, slots := #[.long (-13)], vm := .none },
  { cls := 8, slots := #[.long (-12)], vm := .none },
  { cls := 8, slots := #[.long (-11)], vm := .none },
  { cls := 8, slots := #[.long (-10)], vm := .none },
  { cls := 8, slots := #[.long (-9)], vm := .none },
  { cls := 8, slots := #[.long (-8)], vm := .none },
  { cls := 8, slots := #[.long (-7)], vm := .none },
  { cls := 8, slots := #[.long (-6)], vm := .none },
  { cls := 8, slots := #[.long (-5)], vm := .none },
  { cls := 8, slots := #[.long (-4)], vm := .none },
  { cls := 8, slots := #[.long (-3)], vm := .none },
  { cls := 8, slots := #[.long (-2)], vm := .none },
  { cls := 8, slots := #[.long (-1)], vm := .none },
  { cls := 8, slots := #[.long (0)], vm := .none },
  { cls := 8, slots := #[.long (1)], vm := .none },
  { cls := 8, slots := #[.long (2)], vm := .none },
  { cls := 8, slots := #[.long (3)], vm := .none },
  { cls := 8, slots := #[.long (4)], vm := .none },
  { cls := 8, slots := #[.long (5)], vm := .none },
  { cls := 8, slots := #[.long (6)], vm := .none },
  { cls := 8, slots := #[.long (7)], vm := .none },
  { cls := 8, slots := #[.long (8)], vm := .none },
  { cls := 8, slots := #[.long (9)], vm := .none },
  { cls := 8, slots := #[.long (10)], vm := .none },
  { cls := 8, slots := #[.long (11)], vm := .none },
  { cls := 8, slots := #[.long (12)], vm := .none },
  { cls := 8, slots := #[.long (13)], vm := .none },
  { cls := 8, slots := #[.long (14)], vm := .none },
  { cls := 8, slots := #[.long (15)], vm := .none },
  { cls := 8, slots := #[.long (16)], vm := .none },
  { cls := 8, slots := #[.long (17)], vm := .none },
  { cls := 8, slots := #[.long (18)], vm := .none },
  { cls := 8, slots := #[.long (19)], vm := .none },
  { cls := 8, slots := #[.long (20)], vm := .none },
  { cls := 8, slots := #[.long (21)], vm := .none },
  { cls := 8, slots := #[.long (22)], vm := .none },
  { cls := 8, slots := #[.long (23)], vm := .none },
  { cls := 8, slots := #[.long (24)], vm := .none },
  { cls := 8, slots := #[.long (25)], vm := .none },
  { cls := 8, slots := #[.long (26)], vm := .none },
  { cls := 8, slots := #[.long (27)], vm := .none },
  { cls := 8, slots := #[.long (28)], vm := .none },
  { cls := 8, slots := #[.long (29)], vm := .none },
  { cls := 8, slots := #[.long (30)], vm := .none },
  { cls := 8, slots := #[.long (31)], vm := .none },
  { cls := 8, slots := #[.long (32)], vm := .none },
  { cls := 8, slots := #[.long (33)], vm := .none },
  { cls := 8, slots := #[.long (34)], vm := .none },
  { cls := 8, slots := #[.long (35)], vm := .none },
  { cls := 8, slots := #[.long (36)], vm := .none },
  { cls := 8, slots := #[.long (37)], vm := .none },
  { cls := 8, slots := #[.long (38)], vm := .none },
  { cls := 8, slots := #[.long (39)], vm := .none },
  { cls := 8, slots := #[.long (40)], vm := .none },
  { cls := 8, slots := #[.long (41)], vm := .none },
  { cls := 8, slots := #[.long (42)], vm := .none },
  { cls := 8, slots := #[.long (43)], vm := .none },
  { cls := 8, slots := #[.long (44)], vm := .none },
  { cls := 8, slots := #[.long (45)], vm := .none },
  { cls := 8, slots := #[.long (46)], vm := .none },
  { cls := 8, slots := #[.long (47)], vm := .none },
  { cls := 8, slots := #[.long (48)], vm := .none },
  { cls := 8, slots := #[.long (49)], vm := .none },
  { cls := 8, slots := #[.long (50)], vm := .none },
  { cls := 8, slots := #[.long (51)], vm := .none },
  { cls := 8, slots := #[.long (52)], vm := .none },
  { cls := 8, slots := #[.long (53)], vm := .none },
  { cls := 8, slots := #[.long (54)], vm := .none },
  { cls := 8, slots := #[.long (55)], vm := .none },
  { cls := 8, slots := #[.long (56)], vm := .none },
  { cls := 8, slots := #[.long (57)], vm := .none },
  { cls := 8, slots := #[.long (58)], vm := .none },
  { cls := 8, slots := #[.long (59)], vm := .none },
  { cls := 8, slots := #[.long (60)], vm := .none },
  { cls := 8, slots := #[.long (61)], vm := .none },
  { cls := 8, slots := #[.long (62)], vm := .none },
  { cls := 8, slots := #[.long (63)], vm := .none },
  { cls := 8, slots := #[.long (64)], vm := .none },
  { cls := 8, slots := #[.long (65)], vm := .none },
  { cls := 8, slots := #[.long (66)], vm := .none },
  { cls := 8, slots := #[.long (67)], vm := .none },
  { cls := 8, slots := #[.long (68)], vm := .none },
  { cls := 8, slots := #[.long (69)], vm := .none },
  { cls := 8, slots := #[.long (70)], vm := .none },
  { cls := 8, slots := #[.long (71)], vm := .none },
  { cls := 8, slots := #[.long (72)], vm := .none },
  { cls := 8, slots := #[.long (73)], vm := .none },
  { cls := 8, slots := #[.long (74)], vm := .none },
  { cls := 8, slots := #[.long (75)], vm := .none },
  { cls := 8, slots := #[.long (76)], vm := .none },
  { cls := 8, slots := #[.long (77)], vm := .none },
  { cls := 8, slots := #[.long (78)], vm := .none },
  { cls := 8, slots := #[.long (79)], vm := .none },
  { cls := 8, slots := #[.long (80)], vm := .none },
  { cls := 8, slots := #[.long (81)], vm := .none },
  { cls := 8, slots := #[.long (82)], vm := .none },
  { cls := 8, slots := #[.long (83)], vm := .none },
  { cls := 8, slots := #[.long (84)], vm := .none },
  { cls := 8, slots := #[.long (85)], vm := .none },
  { cls := 8, slots := #[.long (86)], vm := .none },
  { cls := 8, slots := #[.long (87)], vm := .none },
  { cls := 8, slots := #[.long (88)], vm := .none },
  { cls := 8, slots := #[.long (89)], vm := .none },
  { cls := 8, slots := #[.long (90)], vm := .none },
  { cls := 8, slots := #[.long (91)], vm := .none },
  { cls := 8, slots := #[.long (92)], vm := .none },
  { cls := 8, slots := #[.long (93)], vm := .none },
  { cls := 8, slots := #[.long (94)], vm := .none },
  { cls := 8, slots := #[.long (95)], vm := .none },
  { cls := 8, slots := #[.long (96)], vm := .none },
  { cls := 8, slots := #[.long (97)], vm := .none },
  { cls := 8, slots := #[.long (98)], vm := .none },
  { cls := 8, slots := #[.long (99)], vm := .none },
  { cls := 8, slots := #[.long (100)], vm := .none },
  { cls := 8, slots := #[.long (101)], vm := .none },
  { cls := 8, slots := #[.long (102)], vm := .none },
  { cls := 8, slots := #[.long (103)], vm := .none },
  { cls := 8, slots := #[.long (104)], vm := .none },
  { cls := 8, slots := #[.long (105)], vm := .none },
  { cls := 8, slots := #[.long (106)], vm := .none },
  { cls := 8, slots := #[.long (107)], vm := .none },
  { cls := 8, slots := #[.long (108)], vm := .none },
  { cls := 8, slots := #[.long (109)], vm := .none },
  { cls := 8, slots := #[.long (110)], vm := .none },
  { cls := 8, slots := #[.long (111)], vm := .none },
  { cls := 8, slots := #[.long (112)], vm := .none },
  { cls := 8, slots := #[.long (113)], vm := .none },
  { cls := 8, slots := #[.long (114)], vm := .none },
  { cls := 8, slots := #[.long (115)], vm := .none },
  { cls := 8, slots := #[.long (116)], vm := .none },
  { cls := 8, slots := #[.long (117)], vm := .none },
  { cls := 8, slots := #[.long (118)], vm := .none },
  { cls := 8, slots := #[.long (119)], vm := .none },
  { cls := 8, slots := #[.long (120)], vm := .none },
  { cls := 8, slots := #[.long (121)], vm := .none },
  { cls := 8, slots := #[.long (122)], vm := .none },
  { cls := 8, slots := #[.long (123)], vm := .none },
  { cls := 8, slots := #[.long (124)], vm := .none },
  { cls := 8, slots := #[.long (125)], vm := .none },
  { cls := 8, slots := #[.long (126)], vm := .none },
  { cls := 8, slots := #[.long (127)], vm := .none },
  { cls := 9, slots := #[.int (-128)], vm := .none },
  { cls := 9, slots := #[.int (-127)], vm := .none },
  { cls := 9, slots := #[.int (-126)], vm := .none },
  { cls := 9, slots := #[.int (-125)], vm := .none },
  { cls := 9, slots := #[.int (-124)], vm := .none },
  { cls := 9, slots := #[.int (-123)], vm := .none },
  { cls := 9, slots := #[.int (-122)], vm := .none },
  { cls := 9, slots := #[.int (-121)], vm := .none },
  { cls := 9, slots := #[.int (-120)], vm := .none },
  { cls := 9, slots := #[.int (-119)], vm := .none },
  { cls := 9, slots := #[.int (-118)], vm := .none },
  { cls := 9, slots := #[.int (-117)], vm := .none },
  { cls := 9, slots := #[.int (-116)], vm := .none },
  { cls := 9, slots := #[.int (-115)], vm := .none },
  { cls := 9, slots := #[.int (-114)], vm := .none },
  { cls := 9, slots := #[.int (-113)], vm := .none },
  { cls := 9, slots := #[.int (-112)], vm := .none },
  { cls := 9, slots := #[.int (-111)], vm := .none },
  { cls := 9, slots := #[.int (-110)], vm := .none },
  { cls := 9, slots := #[.int (-109)], vm := .none },
  { cls := 9, slots := #[.int (-108)], vm := .none },
  { cls := 9, slots := #[.int (-107)], vm := .none },
  { cls := 9, slots := #[.int (-106)], vm := .none },
  { cls := 9, slots := #[.int (-105)], vm := .none },
  { cls := 9, slots := #[.int (-104)], vm := .none },
  { cls := 9, slots := #[.int (-103)], vm := .none },
  { cls := 9, slots := #[.int (-102)], vm := .none },
  { cls := 9, slots := #[.int (-101)], vm := .none },
  { cls := 9, slots := #[.int (-100)], vm := .none },
  { cls := 9, slots := #[.int (-99)], vm := .none },
  { cls := 9, slots := #[.int (-98)], vm := .none },
  { cls := 9, slots := #[.int (-97)], vm := .none },
  { cls := 9, slots := #[.int (-96)], vm := .none },
  { cls := 9, slots := #[.int (-95)], vm := .none },
  { cls := 9, slots := #[.int (-94)], vm := .none },
  { cls := 9, slots := #[.int (-93)], vm := .none },
  { cls := 9, slots := #[.int (-92)], vm := .none },
  { cls := 9, slots := #[.int (-91)], vm := .none },
  { cls := 9, slots := #[.int (-90)], vm := .none },
  { cls := 9, slots := #[.int (-89)], vm := .none },
  { cls := 9, slots := #[.int (-88)], vm := .none },
  { cls := 9, slots := #[.int (-87)], vm := .none },
  { cls := 9, slots := #[.int (-86)], vm := .none },
  { cls := 9, slots := #[.int (-85)], vm := .none },
  { cls := 9, slots := #[.int (-84)], vm := .none },
  { cls := 9, slots := #[.int (-83)], vm := .none },
  { cls := 9, slots := #[.int (-82)], vm := .none },
  { cls := 9, slots := #[.int (-81)], vm := .none },
  { cls := 9, slots := #[.int (-80)], vm := .none },
  { cls := 9, slots := #[.int (-79)], vm := .none },
  { cls := 9, slots := #[.int (-78)], vm := .none },
  { cls := 9, slots := #[.int (-77)], vm := .none },
  { cls := 9, slots := #[.int (-76)], vm := .none },
  { cls := 9, slots := #[.int (-75)], vm := .none },
  { cls := 9, slots := #[.int (-74)], vm := .none },
  { cls := 9, slots := #[.int (-73)], vm := .none },
  { cls := 9, slots := #[.int (-72)], vm := .none },
  { cls := 9, slots := #[.int (-71)], vm := .none },
  { cls := 9, slots := #[.int (-70)], vm := .none },
  { cls := 9, slots := #[.int (-69)], vm := .none },
  { cls := 9, slots := #[.int (-68)], vm := .none },
  { cls := 9, slots := #[.int (-67)], vm := .none },
  { cls := 9, slots := #[.int (-66)], vm := .none },
  { cls := 9, slots := #[.int (-65)], vm := .none },
  { cls := 9, slots := #[.int (-64)], vm := .none },
  { cls := 9, slots := #[.int (-63)], vm := .none },
  { cls := 9, slots := #[.int (-62)], vm := .none },
  { cls := 9, slots := #[.int (-61)], vm := .none },
  { cls := 9, slots := #[.int (-60)], vm := .none },
  { cls := 9, slots := #[.int (-59)], vm := .none },
  { cls := 9, slots := #[.int (-58)], vm := .none },
  { cls := 9, slots := #[.int (-57)], vm := .none },
  { cls := 9, slots := #[.int (-56)], vm := .none },
  { cls := 9, slots := #[.int (-55)], vm := .none },
  { cls := 9, slots := #[.int (-54)], vm := .none },
  { cls := 9, slots := #[.int (-53)], vm := .none },
  { cls := 9, slots := #[.int (-52)], vm := .none },
  { cls := 9, slots := #[.int (-51)], vm := .none },
  { cls := 9, slots := #[.int (-50)], vm := .none },
  { cls := 9, slots := #[.int (-49)], vm := .none },
  { cls := 9, slots := #[.int (-48)], vm := .none },
  { cls := 9, slots := #[.int (-47)], vm := .none },
  { cls := 9, slots := #[.int (-46)], vm := .none },
  { cls := 9, slots := #[.int (-45)], vm := .none },
  { cls := 9, slots := #[.int (-44)], vm := .none },
  { cls := 9, slots := #[.int (-43)], vm := .none },
  { cls := 9, slots := #[.int (-42)], vm := .none },
  { cls := 9, slots := #[.int (-41)], vm := .none },
  { cls := 9, slots := #[.int (-40)], vm := .none },
  { cls := 9, slots := #[.int (-39)], vm := .none },
  { cls := 9, slots := #[.int (-38)], vm := .none },
  { cls := 9, slots := #[.int (-37)], vm := .none },
  { cls := 9, slots := #[.int (-36)], vm := .none },
  { cls := 9, slots := #[.int (-35)], vm := .none },
  { cls := 9, slots := #[.int (-34)], vm := .none },
  { cls := 9, slots := #[.int (-33)], vm := .none },
  { cls := 9, slots := #[.int (-32)], vm := .none },
  { cls := 9, slots := #[.int (-31)], vm := .none },
  { cls := 9, slots := #[.int (-30)], vm := .none },
  { cls := 9, slots := #[.int (-29)], vm := .none },
  { cls := 9, slots := #[.int (-28)], vm := .none },
  { cls := 9, slots := #[.int (-27)], vm := .none },
  { cls := 9, slots := #[.int (-26)], vm := .none },
  { cls := 9, slots := #[.int (-25)], vm := .none },
  { cls := 9, slots := #[.int (-24)], vm := .none },
  { cls := 9, slots := #[.int (-23)], vm := .none },
  { cls := 9, slots := #[.int (-22)], vm := .none },
  { cls := 9, slots := #[.int (-21)], vm := .none },
  { cls := 9, slots := #[.int (-20)], vm := .none },
  { cls := 9, slots := #[.int (-19)], vm := .none },
  { cls := 9, slots := #[.int (-18)], vm := .none },
  { cls := 9, slots := #[.int (-17)], vm := .none },
  { cls := 9, slots := #[.int (-16)], vm := .none },
  { cls := 9, slots := #[.int (-15)], vm := .none },
  { cls := 9, slots := #[.int (-14)], vm := .none },
  { cls := 9, slots := #[.int (-13)], vm := .none },
  { cls := 9, slots := #[.int (-12)], vm := .none },
  { cls := 9, slots := #[.int (-11)], vm := .none },
  { cls := 9, slots := #[.int (-10)], vm := .none },
  { cls := 9, slots := #[.int (-9)], vm := .none },
  { cls := 9, slots := #[.int (-8)], vm := .none },
  { cls := 9, slots := #[.int (-7)], vm := .none },
  { cls := 9, slots := #[.int (-6)], vm := .none },
  { cls := 9, slots := #[.int (-5)], vm := .none },
  { cls := 9, slots := #[.int (-4)], vm := .none },
  { cls := 9, slots := #[.int (-3)], vm := .none },
  { cls := 9, slots := #[.int (-2)], vm := .none },
  { cls := 9, slots := #[.int (-1)], vm := .none },
  { cls := 9, slots := #[.int (0)], vm := .none },
  { cls := 9, slots := #[.int (1)], vm := .none },
  { cls := 9, slots := #[.int (2)], vm := .none },
  { cls := 9, slots := #[.int (3)], vm := .none },
  { cls := 9, slots := #[.int (4)], vm := .none },
  { cls := 9, slots := #[.int (5)], vm := .none },
  { cls := 9, slots := #[.int (6)], vm := .none },
  { cls := 9, slots := #[.int (7)], vm := .none },
  { cls := 9, slots := #[.int (8)], vm := .none },
  { cls := 9, slots := #[.int (9)], vm := .none },
  { cls := 9, slots := #[.int (10)], vm := .none },
  { cls := 9, slots := #[.int (11)], vm := .none },
  { cls := 9, slots := #[.int (12)], vm := .none },
  { cls := 9, slots := #[.int (13)], vm := .none },
  { cls := 9, slots := #[.int (14)], vm := .none },
  { cls := 9, slots := #[.int (15)], vm := .none },
  { cls := 9, slots := #[.int (16)], vm := .none },
  { cls := 9, slots := #[.int (17)], vm := .none },
  { cls := 9, slots := #[.int (18)], vm := .none },
  { cls := 9, slots := #[.int (19)], vm := .none },
  { cls := 9, slots := #[.int (20)], vm := .none },
  { cls := 9, slots := #[.int (21)], vm := .none },
  { cls := 9, slots := #[.int (22)], vm := .none },
  { cls := 9, slots := #[.int (23)], vm := .none },
  { cls := 9, slots := #[.int (24)], vm := .none },
  { cls := 9, slots := #[.int (25)], vm := .none },
  { cls := 9, slots := #[.int (26)], vm := .none },
  { cls := 9, slots := #[.int (27)], vm := .none },
  { cls := 9, slots := #[.int (28)], vm := .none },
  { cls := 9, slots := #[.int (29)], vm := .none },
  { cls := 9, slots := #[.int (30)], vm := .none },
  { cls := 9, slots := #[.int (31)], vm := .none },
  { cls := 9, slots := #[.int (32)], vm := .none },
  { cls := 9, slots := #[.int (33)], vm := .none },
  { cls := 9, slots := #[.int (34)], vm := .none },
  { cls := 9, slots := #[.int (35)], vm := .none },
  { cls := 9, slots := #[.int (36)], vm := .none },
  { cls := 9, slots := #[.int (37)], vm := .none },
  { cls := 9, slots := #[.int (38)], vm := .none },
  { cls := 9, slots := #[.int (39)], vm := .none },
  { cls := 9, slots := #[.int (40)], vm := .none },
  { cls := 9, slots := #[.int (41)], vm := .none },
  { cls := 9, slots := #[.int (42)], vm := .none },
  { cls := 9, slots := #[.int (43)], vm := .none },
  { cls := 9, slots := #[.int (44)], vm := .none },
  { cls := 9, slots := #[.int (45)], vm := .none },
  { cls := 9, slots := #[.int (46)], vm := .none },
  { cls := 9, slots := #[.int (47)], vm := .none },
  { cls := 9, slots := #[.int (48)], vm := .none },
  { cls := 9, slots := #[.int (49)], vm := .none },
  { cls := 9, slots := #[.int (50)], vm := .none },
  { cls := 9, slots := #[.int (51)], vm := .none },
  { cls := 9, slots := #[.int (52)], vm := .none },
  { cls := 9, slots := #[.int (53)], vm := .none },
  { cls := 9, slots := #[.int (54)], vm := .none },
  { cls := 9, slots := #[.int (55)], vm := .none },
  { cls := 9, slots := #[.int (56)], vm := .none },
  { cls := 9, slots := #[.int (57)], vm := .none },
  { cls := 9, slots := #[.int (58)], vm := .none },
  { cls := 9, slots := #[.int (59)], vm := .none },
  { cls := 9, slots := #[.int (60)], vm := .none },
  { cls := 9, slots := #[.int (61)], vm := .none },
  { cls := 9, slots := #[.int (62)], vm := .none },
  { cls := 9, slots := #[.int (63)], vm := .none },
  { cls := 9, slots := #[.int (64)], vm := .none },
  { cls := 9, slots := #[.int (65)], vm := .none },
  { cls := 9, slots := #[.int (66)], vm := .none },
  { cls := 9, slots := #[.int (67)], vm := .none },
  { cls := 9, slots := #[.int (68)], vm := .none },
  { cls := 9, slots := #[.int (69)], vm := .none },
  { cls := 9, slots := #[.int (70)], vm := .none },
  { cls := 9, slots := #[.int (71)], vm := .none },
  { cls := 9, slots := #[.int (72)], vm := .none },
  { cls := 9, slots := #[.int (73)], vm := .none },
  { cls := 9, slots := #[.int (74)], vm := .none },
  { cls := 9, slots := #[.int (75)], vm := .none },
  { cls := 9, slots := #[.int (76)], vm := .none },
  { cls := 9, slots := #[.int (77)], vm := .none },
  { cls := 9, slots := #[.int (78)], vm := .none },
  { cls := 9, slots := #[.int (79)], vm := .none },
  { cls := 9, slots := #[.int (80)], vm := .none },
  { cls := 9, slots := #[.int (81)], vm := .none },
  { cls := 9, slots := #[.int (82)], vm := .none },
  { cls := 9, slots := #[.int (83)], vm := .none },
  { cls := 9, slots := #[.int (84)], vm := .none },
  { cls := 9, slots := #[.int (85)], vm := .none },
  { cls := 9, slots := #[.int (86)], vm := .none },
  { cls := 9, slots := #[.int (87)], vm := .none },
  { cls := 9, slots := #[.int (88)], vm := .none },
  { cls := 9, slots := #[.int (89)], vm := .none },
  { cls := 9, slots := #[.int (90)], vm := .none },
  { cls := 9, slots := #[.int (91)], vm := .none },
  { cls := 9, slots := #[.int (92)], vm := .none },
  { cls := 9, slots := #[.int (93)], vm := .none },
  { cls := 9, slots := #[.int (94)], vm := .none },
  { cls := 9, slots := #[.int (95)], vm := .none },
  { cls := 9, slots := #[.int (96)], vm := .none },
  { cls := 9, slots := #[.int (97)], vm := .none },
  { cls := 9, slots := #[.int (98)], vm := .none },
  { cls := 9, slots := #[.int (99)], vm := .none },
  { cls := 9, slots := #[.int (100)], vm := .none },
  { cls := 9, slots := #[.int (101)], vm := .none },
  { cls := 9, slots := #[.int (102)], vm := .none },
  { cls := 9, slots := #[.int (103)], vm := .none },
  { cls := 9, slots := #[.int (104)], vm := .none },
  { cls := 9, slots := #[.int (105)], vm := .none },
  { cls := 9, slots := #[.int (106)], vm := .none },
  { cls := 9, slots := #[.int (107)], vm := .none },
  { cls := 9, slots := #[.int (108)], vm := .none },
  { cls := 9, slots := #[.int (109)], vm := .none },
  { cls := 9, slots := #[.int (110)], vm := .none },
  { cls := 9, slots := #[.int (111)], vm := .none },
  { cls := 9, slots := #[.int (112)], vm := .none },
  { cls := 9, slots := #[.int (113)], vm := .none },
  { cls := 9, slots := #[.int (114)], vm := .none },
  { cls := 9, slots := #[.int (115)], vm := .none },
  { cls := 9, slots := #[.int (116)], vm := .none },
  { cls := 9, slots := #[.int (117)], vm := .none },
  { cls := 9, slots := #[.int (118)], vm := .none },
  { cls := 9, slots := #[.int (119)], vm := .none },
  { cls := 9, slots := #[.int (120)], vm := .none },
  { cls := 9, slots := #[.int (121)], vm := .none },
  { cls := 9, slots := #[.int (122)], vm := .none },
  { cls := 9, slots := #[.int (123)], vm := .none },
  { cls := 9, slots := #[.int (124)], vm := .none },
  { cls := 9, slots := #[.int (125)], vm := .none },
  { cls := 9, slots := #[.int (126)], vm := .none },
  { cls := 9, slots := #[.int (127)], vm := .none }]
def classes : Array Class := #[k0, k1, k2, k3, k4, k5, k6, k7, k8, k9, k10, k11, k12, k13, k14, k15, k16, k17, k18]
def interned : List (Array UInt16 × Addr) := []
def slotsUsed : Nat := 1032
def theMethod : MethodId := ⟨1, 1⟩
def args0 : Array Value := #[.long 5, .int 3, .long 4, .int 1, .int 1]
def aboutOver (below : List Frame) : State where
  vm := { classes := classes, interned := interned.toArray }
  heap := heap
  slotsUsed := slotsUsed
  threads := #[{ frames := .invoking theMethod args0 :: below }]
def below0 : List Frame := [.native { method := ⟨0, 0⟩, args := #[] }]
def about1 : State := aboutOver below0
def p0 : Program := .bare "" "" ""
def e0 : Env := launch0.env 0 0 0
theorem w_frames : about1.frames = Frame.invoking theMethod args0 :: below0 := rfl
set_option maxRecDepth 65536 in
theorem w_args : argsFit about1.vm theMethod args0 = true := by decide +kernel
set_option maxRecDepth 65536 in
theorem w_heap : heapFits about1 = true := by decide +kernel
set_option maxRecDepth 65536 in
theorem w_runnable : about1.curStatus? = some .runnable := by decide +kernel
set_option maxRecDepth 65536 in
theorem w_alone : about1.alone = true := by decide +kernel
set_option maxRecDepth 65536 in
theorem w_named : about1.methodNamed? x = some theMethod := by decide +kernel
set_option maxRecDepth 65536 in
theorem w_hears : about1.hears theMethod below0 = true := by decide +kernel
set_option maxRecDepth 65536 in
theorem w_ripe : about1.ripe theMethod args0 below0 = true := by decide +kernel
theorem w_running : about1.status = .running := rfl
set_option maxRecDepth 65536 in
theorem w_room : about1.hasRoom e0.platform room_1 = true :=
  launch0.hasRoom_least _ room_1 (by decide +kernel) (by decide +kernel) (by decide +kernel) (by decide +kernel) (by decide +kernel) (by decide +kernel)
theorem allAtoms_all (ts : List Jvm.Cond) (a : Array Jvm.Value) (st : Jvm.State) : (allAtoms ts).before a st = ts.all (fun c => c.before a st) := by
  induction ts with
  | nil => rfl
  | cons c t ih =>
    show (Jvm.Cond.and c (allAtoms t)).before a st = _
    rw [Jvm.Cond.before_and, ih, List.all_cons]
def words1 : List Jvm.Cond := Jvm.Cond.code x code maxLocals ret :: tables_1
/-- a 'code' word, met by the world's own term for the bytes: nothing is compared byte by byte -/
theorem code_word {y : MethodName} {bytes : ByteArray} {mx : Nat} {rt : Option FieldType} {a : Array Value} {s : State} {m : MethodId} {meth : Method} {c : Code} (h1 : s.methodNamed? y = some m) (h2 : s.vm.method? m = some meth) (h3 : meth.code = some c) (h4 : c.code = bytes)
    (h5 : (c.maxLocals == mx && c.exceptionTable.isEmpty && decide (c.maxStack ≤ mostOperands) && decide (meth.sig.returnType = rt) && !meth.locks && decide (parseMethodDescriptor y.desc = some meth.sig)) = true) : (Jvm.Cond.code y bytes mx rt).before a s = true := by
  simp only [Bool.and_eq_true, beq_iff_eq, Bool.not_eq_true', decide_eq_true_eq] at h5
  obtain ⟨⟨⟨⟨⟨g1, g2⟩, g3⟩, g4⟩, g5⟩, g6⟩ := h5
  simp [Cond.before, Cond.holds, Cond.value, h1, h2, h3, h4, g1, g2, g3, g4, g5, g6]
def isCode : Jvm.Cond → Bool
  | .code _ _ _ _ => true
  | _ => false
theorem all_split {L : List Jvm.Cond} {P : Jvm.Cond → Bool} (h1 : L.all (fun c => isCode c || P c) = true) (h2 : ∀ c ∈ L.filter isCode, P c = true) : L.all P = true := by
  refine List.all_eq_true.mpr fun c hc => ?_
  have h := List.all_eq_true.mp h1 c hc
  rcases Bool.eq_false_or_eq_true (isCode c) with hi | hi
  · exact h2 c (List.mem_filter.mpr ⟨hc, hi⟩)
  · simpa [hi] using h
set_option maxRecDepth 65536 in
theorem w_c0 : (Jvm.Cond.code x code maxLocals ret).before args0 about1 = true := code_word (m := ⟨1, 1⟩) (meth := k1m1) (c := k1c1) (by decide +kernel) rfl rfl rfl (by decide +kernel)
set_option maxRecDepth 65536 in
theorem w_c1 : (Jvm.Cond.code ({ cls := "com/example/eventual_leader/eventualleader/election/StoredState", name := "<init>", desc := "(JI)V" } : Jvm.MethodName) prog_22_method_1_code (4 : Nat) (Option.none : Option Jvm.ClassFile.FieldType)).before args0 about1 = true := code_word (m := ⟨2, 0⟩) (meth := k2m0) (c := k2c0) (by decide +kernel) rfl rfl rfl (by decide +kernel)
set_option maxRecDepth 65536 in
theorem w_c2 : (Jvm.Cond.code ({ cls := "java/lang/Object", name := "<init>", desc := "()V" } : Jvm.MethodName) object_method_1_code (1 : Nat) (Option.none : Option Jvm.ClassFile.FieldType)).before args0 about1 = true := code_word (m := ⟨0, 0⟩) (meth := k0m0) (c := k0c0) (by decide +kernel) rfl rfl rfl (by decide +kernel)
set_option maxRecDepth 65536 in
theorem w_c3 : (Jvm.Cond.code ({ cls := "com/example/eventual_leader/eventualleader/election/StoredState", name := "equals", desc := "(Ljava/lang/Object;)Z" } : Jvm.MethodName) prog_22_method_4_code (3 : Nat) (Option.some Jvm.ClassFile.FieldType.boolean)).before args0 about1 = true := code_word (m := ⟨2, 1⟩) (meth := k2m1) (c := k2c1) (by decide +kernel) rfl rfl rfl (by decide +kernel)
set_option maxRecDepth 65536 in
theorem w_c4 : (Jvm.Cond.code ({ cls := "java/lang/Long", name := "valueOf", desc := "(J)Ljava/lang/Long;" } : Jvm.MethodName) jdk_35_method_24_code (3 : Nat) (Option.some (Jvm.ClassFile.FieldType.object "java/lang/Long"))).before args0 about1 = true := code_word (m := ⟨8, 0⟩) (meth := k8m0) (c := k8c0) (by decide +kernel) rfl rfl rfl (by decide +kernel)
set_option maxRecDepth 65536 in
theorem w_c5 : (Jvm.Cond.code ({ cls := "java/lang/Long", name := "<init>", desc := "(J)V" } : Jvm.MethodName) jdk_35_method_26_code (3 : Nat) (Option.none : Option Jvm.ClassFile.FieldType)).before args0 about1 = true := code_word (m := ⟨8, 1⟩) (meth := k8m1) (c := k8c1) (by decide +kernel) rfl rfl rfl (by decide +kernel)
set_option maxRecDepth 65536 in
theorem w_c6 : (Jvm.Cond.code ({ cls := "java/lang/Number", name := "<init>", desc := "()V" } : Jvm.MethodName) jdk_18_method_1_code (1 : Nat) (Option.none : Option Jvm.ClassFile.FieldType)).before args0 about1 = true := code_word (m := ⟨4, 0⟩) (meth := k4m0) (c := k4c0) (by decide +kernel) rfl rfl rfl (by decide +kernel)
set_option maxRecDepth 65536 in
theorem w_c7 : (Jvm.Cond.code ({ cls := "java/lang/Integer", name := "valueOf", desc := "(I)Ljava/lang/Integer;" } : Jvm.MethodName) jdk_33_method_22_code (1 : Nat) (Option.some (Jvm.ClassFile.FieldType.object "java/lang/Integer"))).before args0 about1 = true := code_word (m := ⟨9, 0⟩) (meth := k9m0) (c := k9c0) (by decide +kernel) rfl rfl rfl (by decide +kernel)
set_option maxRecDepth 65536 in
theorem w_c8 : (Jvm.Cond.code ({ cls := "java/lang/Integer", name := "<init>", desc := "(I)V" } : Jvm.MethodName) jdk_33_method_23_code (2 : Nat) (Option.none : Option Jvm.ClassFile.FieldType)).before args0 about1 = true := code_word (m := ⟨9, 1⟩) (meth := k9m1) (c := k9c1) (by decide +kernel) rfl rfl rfl (by decide +kernel)
def codes1 : List Jvm.Cond := [Jvm.Cond.code x code maxLocals ret, Jvm.Cond.code ({ cls := "com/example/eventual_leader/eventualleader/election/StoredState", name := "<init>", desc := "(JI)V" } : Jvm.MethodName) prog_22_method_1_code (4 : Nat) (Option.none : Option Jvm.ClassFile.FieldType), Jvm.Cond.code ({ cls := "java/lang/Object", name := "<init>", desc := "()V" } : Jvm.MethodName) object_method_1_code (1 : Nat) (Option.none : Option Jvm.ClassFile.FieldType), Jvm.Cond.code ({ cls := "com/example/eventual_leader/eventualleader/election/StoredState", name := "equals", desc := "(Ljava/lang/Object;)Z" } : Jvm.MethodName) prog_22_method_4_code (3 : Nat) (Option.some Jvm.ClassFile.FieldType.boolean), Jvm.Cond.code ({ cls := "java/lang/Long", name := "valueOf", desc := "(J)Ljava/lang/Long;" } : Jvm.MethodName) jdk_35_method_24_code (3 : Nat) (Option.some (Jvm.ClassFile.FieldType.object "java/lang/Long")), Jvm.Cond.code ({ cls := "java/lang/Long", name := "<init>", desc := "(J)V" } : Jvm.MethodName) jdk_35_method_26_code (3 : Nat) (Option.none : Option Jvm.ClassFile.FieldType), Jvm.Cond.code ({ cls := "java/lang/Number", name := "<init>", desc := "()V" } : Jvm.MethodName) jdk_18_method_1_code (1 : Nat) (Option.none : Option Jvm.ClassFile.FieldType), Jvm.Cond.code ({ cls := "java/lang/Integer", name := "valueOf", desc := "(I)Ljava/lang/Integer;" } : Jvm.MethodName) jdk_33_method_22_code (1 : Nat) (Option.some (Jvm.ClassFile.FieldType.object "java/lang/Integer")), Jvm.Cond.code ({ cls := "java/lang/Integer", name := "<init>", desc := "(I)V" } : Jvm.MethodName) jdk_33_method_23_code (2 : Nat) (Option.none : Option Jvm.ClassFile.FieldType)]
set_option maxRecDepth 65536 in
theorem codes_eq : words1.filter isCode = codes1 := rfl
theorem w_codes : ∀ c ∈ words1.filter isCode, c.before args0 about1 = true := by
  rw [codes_eq]
  intro c hc
  simp only [codes1, List.mem_cons, List.not_mem_nil, or_false] at hc
  rcases hc with rfl | rfl | rfl | rfl | rfl | rfl | rfl | rfl | rfl
  · exact w_c0
  · exact w_c1
  · exact w_c2
  · exact w_c3
  · exact w_c4
  · exact w_c5
  · exact w_c6
  · exact w_c7
  · exact w_c8
set_option maxRecDepth 65536 in
theorem w_t1 : (words1.take 24).all (fun c => isCode c || c.before args0 about1) = true := by decide +kernel
set_option maxRecDepth 65536 in
theorem w_t2 : ((words1.drop 24).take 24).all (fun c => isCode c || c.before args0 about1) = true := by decide +kernel
set_option maxRecDepth 65536 in
theorem w_t3 : ((words1.drop 24).drop 24).all (fun c => isCode c || c.before args0 about1) = true := by decide +kernel
theorem w_tables : (allAtoms (Jvm.Cond.code x code maxLocals ret :: tables_1)).before args0 about1 = true := by
  rw [allAtoms_all]
  show words1.all (fun c => c.before args0 about1) = true
  refine all_split ?_ w_codes
  rw [← List.take_append_drop 24 words1, List.all_append, w_t1, ← List.take_append_drop 24 (words1.drop 24), List.all_append, w_t2, w_t3]
  rfl
set_option maxRecDepth 65536 in
theorem w_rest : rest_1_c.before args0 about1 = true := by decide +kernel
set_option maxRecDepth 65536 in
theorem w_case : (Jvm.Cond.and given_1 narrow_1).before args0 about1 = true := by decide +kernel
theorem w_applies : (headSpec (Jvm.Cond.code x code maxLocals ret :: tables_1) room_1).applies x e0.platform about1 = true :=
  (Spec.applies_iff w_frames).mpr ⟨w_running, w_runnable, w_alone, w_named, w_hears, w_ripe, w_room, w_tables⟩
theorem atStart : AtStart classFile x code maxLocals ret World_1 tables_1 room_1 Calls_1 rest_1 Pre_1 launch0 p0 e0 about1 theMethod args0 below0 :=
  ⟨lists_1, trivial, launch0.admits_env _ _ _, launch0.least_env, fairChoices_fair.cas, fairChoices_fair.clock, w_frames, w_args, w_heap, w_applies, trivial, w_rest, w_case⟩
end start1
theorem witness_1 : WitnessClaimed_1 := ⟨start1.p0, start1.e0, start1.about1, start1.theMethod, start1.args0, start1.below0, start1.atStart⟩
end Jvm.Pilot.@@N@@
