import JvmDerived
import JvmDerived.Pilot.@@N@@Statement
import JvmDerived.Pilot.@@N@@Code
set_option linter.unusedVariables false
set_option linter.unusedSimpArgs false
namespace Jvm.Pilot.@@N@@
open Jvm Jvm.ClassFile Sem Op Lib Jvm.Free Jvm.Stand Jvm.LawKit Jvm.RoadKit Bundle Jvm.Pilot.@@N@@.Jvm.D
/-! own_: what is left of a walk, read forwards -/
def own_WP (p : Program) (e : Env) (below : List Frame) (s : State) (Q : Option Value → Heap → List Loc → Prop) (k n : Nat) (a : State) : Prop :=
  ∃ s₂ o, Steps p.tables e below a s₂ ∧ s₂.status = .running ∧ Ended s₂ below o ∧ ∃ v L, o = .returned v ∧ Q v s₂.heap L ∧ FrameEnd s o s₂ L k n
def own_Con (l : Launch) (Z : State) (y : MethodName) (bytes : ByteArray) (maxL : Nat) (ret : Option FieldType) (rm : Room) (as' : Array Value) (h0 : Heap) (Q : Option Value → Heap → List Loc → Prop) : Prop :=
  ∀ ws, MetFree l y (head1 (Jvm.Cond.code y bytes maxL ret :: ws) rm) (fun a U => a = as' ∧ Z.Warmed39 U.vm ∧ U.heap = h0) (fun _ _ _ _ _ => True) (fun _ U o U' => ∃ v L, o = .returned v ∧ Q v U'.heap L ∧ FrameEnd U o U' L rm.cells rm.slots)
theorem own_Con_of {l : Launch} {Z : State} {y : MethodName} {bytes : ByteArray} {maxL : Nat} {ret : Option FieldType} {rm : Room} {as' : Array Value} {h0 : Heap} {Q : Option Value → Heap → List Loc → Prop} (hp : plainFor y = true)
    (hb : ∀ (p : Program) (e : Env) (s : State) (m : MethodId) (below : List Frame) (meth : Method) (c : Code) (s₁ : State), Stand p l e rm s m as' below meth c s₁ [] 0 0 → p.tables.exec = Jvm.exec → c.code = bytes → c.maxLocals = maxL → meth.sig.returnType = ret → meth.locks = false → meth.name = y.name → s.vm.findClass y.cls = some m.cls → Z.Warmed39 s.vm → s₁.heap = h0 →
      own_WP p e below s Q rm.cells rm.slots (s₁.setTop (entryFrame m as' maxL))) : own_Con l Z y bytes maxL ret rm as' h0 Q := by
  intro ws
  refine MetFree.of_bodySF hp hisR ?_
  intro p e s m args below meth c s₁ Bd hml0 hP hK
  obtain ⟨rfl, hZ, hh⟩ := hP
  exact hb p e s m below meth c s₁ (Stand.of_body Bd) Bd.exec Bd.bytes hml0 Bd.returns Bd.notSynchronized (name_of_methodNamed Bd.named Bd.method).1 (findClass_of_methodNamed Bd.named) hZ (by rw [← hh, Bd.state]; rfl)
theorem own_Con_mono {l : Launch} {Z : State} {y : MethodName} {bytes : ByteArray} {maxL : Nat} {ret : Option FieldType} {rm : Room} {as' : Array Value} {h0 : Heap} {Q Q' : Option Value → Heap → List Loc → Prop} (C : own_Con l Z y bytes maxL ret rm as' h0 Q) (hq : ∀ v h L, Q v h L → Q' v h L) : own_Con l Z y bytes maxL ret rm as' h0 Q' := by
  intro ws p e ha hc hk s m args below hf happ hP hK
  obtain ⟨n, o, h1, h2, h3, v, L, h4, h5, h6⟩ := C ws p e ha hc hk s m args below hf happ hP hK
  exact ⟨n, o, h1, h2, h3, v, L, h4, hq _ _ _ h5, h6⟩
theorem own_w {Z : State} {a0 : Array Value} {ts : List Jvm.Cond} {d : Jvm.Cond} (hw : ∀ d ∈ ts, d.before a0 Z = true) (i : Nat) (hi : ts[i]? = some d) : d.before a0 Z = true := hw _ (List.mem_of_getElem? hi)
section OwnWP
variable {p : Program} {l : Launch} {e : Env} {R : Room} {s : State} {m : MethodId} {args : Array Value} {below : List Frame} {meth : Method} {c : Code} {T : State} {locs : List Loc} {cells slots : Nat} {Z : State} {a0 : Array Value} {h : Heap} {Q : Option Value → Heap → List Loc → Prop} {k n : Nat} {a a' : State} {pc pc' : Nat} {ls l' : Array Slot} {rest : List Value}
theorem own_of (hs : ∀ t, Steps p.tables e below a' t → Steps p.tables e below a t) (w : own_WP p e below s Q k n a') : own_WP p e below s Q k n a := by
  obtain ⟨s₂, o, st, r⟩ := w
  exact ⟨s₂, o, hs _ st, r⟩
theorem own_mono {Q' : Option Value → Heap → List Loc → Prop} (hq : ∀ v h L, Q v h L → Q' v h L) (w : own_WP p e below s Q k n a) : own_WP p e below s Q' k n a := by
  obtain ⟨s₂, o, h1, h2, h3, v, L, h4, h5, h6⟩ := w
  exact ⟨s₂, o, h1, h2, h3, v, L, h4, hq _ _ _ h5, h6⟩
theorem own_join {α : Type} (P : α → Prop) (f : α → State) (h1 : (∀ x, P x → own_WP p e below s Q k n (f x)) → own_WP p e below s Q k n a) (h2 : ∀ x, P x → own_WP p e below s Q k n (f x)) : own_WP p e below s Q k n a := h1 h2
theorem own_done (X : Stand p l e R s m args below meth c T locs cells slots) {v : Option Value} (hlk : meth.locks = false) (hv : meth.sig.returnType = none → v = none) (hc : cells ≤ k) (hn : slots ≤ n) (hq : Q v T.heap locs)
    (st : ∀ fs, (∀ (f : JFrame) (acts : List Action), f.method = m → f.locked = none → f.entered = [] → (doReturn e (T.setTop f) acts v).1 = T.setFrames fs) → Steps p.tables e below a (T.setFrames fs)) : own_WP p e below s Q k n a := by
  obtain ⟨fs, hr, hrun, hended, hW, hsame⟩ := X.leave hv hlk
  exact ⟨_, _, st fs hr, hrun, hended, _, _, rfl, hq, ⟨_, rfl⟩, hW, hsame.mono hc hn⟩
theorem own_retI (X : Stand p l e R s m args below meth c T locs cells slots) (hx : p.tables.exec = Jvm.exec) (hlk : meth.locks = false) (hret : meth.sig.returnType = some .int) {z : Int32} (hd : decode c.code pc = .ok (.ireturn, 1)) (hc : cells ≤ k) (hn : slots ≤ n) (hq : Q (some (.int z)) T.heap locs) : own_WP p e below s Q k n (T.setTop (mkF m pc ls (.int z :: rest))) :=
  own_done X hlk (fun q => by rw [hret] at q; cases q) hc hn hq fun fs hr => retOut X hx hret rfl (Or.inl ⟨rfl, Or.inl rfl, z, rfl⟩) hd hr
theorem own_retN (X : Stand p l e R s m args below meth c T locs cells slots) (hx : p.tables.exec = Jvm.exec) (hlk : meth.locks = false) {t : FieldType} (ht : t = .boolean ∨ t = .byte ∨ t = .char ∨ t = .short) (hret : meth.sig.returnType = some t) {z : Int32} (hd : decode c.code pc = .ok (.ireturn, 1)) (hc : cells ≤ k) (hn : slots ≤ n) (hq : Q (some (.int (nar t z))) T.heap locs) : own_WP p e below s Q k n (T.setTop (mkF m pc ls (.int z :: rest))) :=
  own_done X hlk (fun q => by rw [hret] at q; cases q) hc hn hq fun fs hr => retN X hx hret ht hd hr
theorem own_retJ (X : Stand p l e R s m args below meth c T locs cells slots) (hx : p.tables.exec = Jvm.exec) (hlk : meth.locks = false) (hret : meth.sig.returnType = some .long) {z : Int64} (hd : decode c.code pc = .ok (.lreturn, 1)) (hc : cells ≤ k) (hn : slots ≤ n) (hq : Q (some (.long z)) T.heap locs) : own_WP p e below s Q k n (T.setTop (mkF m pc ls (.long z :: rest))) :=
  own_done X hlk (fun q => by rw [hret] at q; cases q) hc hn hq fun fs hr => retOut X hx hret rfl (Or.inr (Or.inl ⟨rfl, rfl, z, rfl⟩)) hd hr
theorem own_retA (X : Stand p l e R s m args below meth c T locs cells slots) (hx : p.tables.exec = Jvm.exec) (hlk : meth.locks = false) {t : FieldType} (ht : t.isReference = true) (hret : meth.sig.returnType = some t) {w : Value} (hw : w.isRef = true) (hnw : narrow t w = w) (hd : decode c.code pc = .ok (.areturn, 1)) (hc : cells ≤ k) (hn : slots ≤ n) (hq : Q (some w) T.heap locs) : own_WP p e below s Q k n (T.setTop (mkF m pc ls (w :: rest))) :=
  own_done X hlk (fun q => by rw [hret] at q; cases q) hc hn hq fun fs hr => retOut X hx hret hnw (Or.inr (Or.inr (Or.inr (Or.inr ⟨rfl, ht, hw⟩)))) hd hr
theorem own_ret0 (X : Stand p l e R s m args below meth c T locs cells slots) (hx : p.tables.exec = Jvm.exec) (hlk : meth.locks = false) (hret : meth.sig.returnType = none) (hd : decode c.code pc = .ok (.return_, 1)) (hc : cells ≤ k) (hn : slots ≤ n) (hq : Q none T.heap locs) : own_WP p e below s Q k n (T.setTop (mkF m pc ls [])) :=
  own_done X hlk (fun _ => rfl) hc hn hq fun fs hr => X.returnOut hx hret hd hr
theorem own_iload (X : Stand p l e R s m args below meth c T locs cells slots) (hx : p.tables.exec = Jvm.exec) {j : Nat} {v : Int32} (hd : decode c.code pc = .ok (.iload j, 2)) (hl : ls[j]? = some (.val (.int v))) (hpc : pc + 2 = pc') (w : own_WP p e below s Q k n (T.setTop (mkF m pc' ls (.int v :: rest)))) : own_WP p e below s Q k n (T.setTop (mkF m pc ls rest)) := by
  subst hpc
  exact own_of (fun t q => XS.iload X.here hx rfl hd hl q) w
theorem own_iloadN (X : Stand p l e R s m args below meth c T locs cells slots) (hx : p.tables.exec = Jvm.exec) {j : Fin 4} {v : Int32} (hd : decode c.code pc = .ok (.iload_n j, 1)) (hl : ls[j.val]? = some (.val (.int v))) (hpc : pc + 1 = pc') (w : own_WP p e below s Q k n (T.setTop (mkF m pc' ls (.int v :: rest)))) : own_WP p e below s Q k n (T.setTop (mkF m pc ls rest)) := by
  subst hpc
  exact own_of (fun t q => XS.iloadN X.here hx rfl hd hl q) w
theorem own_lload (X : Stand p l e R s m args below meth c T locs cells slots) (hx : p.tables.exec = Jvm.exec) {j : Nat} {v : Int64} (hd : decode c.code pc = .ok (.lload j, 2)) (hl : ls[j]? = some (.val (.long v))) (hpc : pc + 2 = pc') (w : own_WP p e below s Q k n (T.setTop (mkF m pc' ls (.long v :: rest)))) : own_WP p e below s Q k n (T.setTop (mkF m pc ls rest)) := by
  subst hpc
  exact own_of (fun t q => XS.lload X.here hx rfl hd hl q) w
theorem own_lloadN (X : Stand p l e R s m args below meth c T locs cells slots) (hx : p.tables.exec = Jvm.exec) {j : Fin 4} {v : Int64} (hd : decode c.code pc = .ok (.lload_n j, 1)) (hl : ls[j.val]? = some (.val (.long v))) (hpc : pc + 1 = pc') (w : own_WP p e below s Q k n (T.setTop (mkF m pc' ls (.long v :: rest)))) : own_WP p e below s Q k n (T.setTop (mkF m pc ls rest)) := by
  subst hpc
  exact own_of (fun t q => XS.lloadN X.here hx rfl hd hl q) w
theorem own_aload (X : Stand p l e R s m args below meth c T locs cells slots) (hx : p.tables.exec = Jvm.exec) {j : Nat} {v : Value} (hd : decode c.code pc = .ok (.aload j, 2)) (hl : ls[j]? = some (.val v)) (hv : v.isRef = true) (hpc : pc + 2 = pc') (w : own_WP p e below s Q k n (T.setTop (mkF m pc' ls (v :: rest)))) : own_WP p e below s Q k n (T.setTop (mkF m pc ls rest)) := by
  subst hpc
  exact own_of (fun t q => XS.aload X.here hx rfl hd hl hv q) w
theorem own_aloadN (X : Stand p l e R s m args below meth c T locs cells slots) (hx : p.tables.exec = Jvm.exec) {j : Fin 4} {v : Value} (hd : decode c.code pc = .ok (.aload_n j, 1)) (hl : ls[j.val]? = some (.val v)) (hv : v.isRef = true) (hpc : pc + 1 = pc') (w : own_WP p e below s Q k n (T.setTop (mkF m pc' ls (v :: rest)))) : own_WP p e below s Q k n (T.setTop (mkF m pc ls rest)) := by
  subst hpc
  exact own_of (fun t q => XS.aloadN X.here hx rfl hd hl hv q) w
theorem own_istore (X : Stand p l e R s m args below meth c T locs cells slots) (hx : p.tables.exec = Jvm.exec) {j : Nat} {v z : Int32} (hd : decode c.code pc = .ok (.istore j, 2)) (hz : z = v) (hl : storeLocals ls j (.int z) = some l') (hpc : pc + 2 = pc') (w : own_WP p e below s Q k n (T.setTop (mkF m pc' l' rest))) : own_WP p e below s Q k n (T.setTop (mkF m pc ls (.int v :: rest))) := by
  subst hpc
  exact own_of (fun t q => XS.istore X.here hx rfl hd rfl (hz ▸ hl) q) w
theorem own_istoreN (X : Stand p l e R s m args below meth c T locs cells slots) (hx : p.tables.exec = Jvm.exec) {j : Fin 4} {v z : Int32} (hd : decode c.code pc = .ok (.istore_n j, 1)) (hz : z = v) (hl : storeLocals ls j.val (.int z) = some l') (hpc : pc + 1 = pc') (w : own_WP p e below s Q k n (T.setTop (mkF m pc' l' rest))) : own_WP p e below s Q k n (T.setTop (mkF m pc ls (.int v :: rest))) := by
  subst hpc
  exact own_of (fun t q => XS.istoreN X.here hx rfl hd rfl (hz ▸ hl) q) w
theorem own_lstore (X : Stand p l e R s m args below meth c T locs cells slots) (hx : p.tables.exec = Jvm.exec) {j : Nat} {v z : Int64} (hd : decode c.code pc = .ok (.lstore j, 2)) (hz : z = v) (hl : storeLocals ls j (.long z) = some l') (hpc : pc + 2 = pc') (w : own_WP p e below s Q k n (T.setTop (mkF m pc' l' rest))) : own_WP p e below s Q k n (T.setTop (mkF m pc ls (.long v :: rest))) := by
  subst hpc
  exact own_of (fun t q => XS.lstore X.here hx rfl hd rfl (hz ▸ hl) q) w
theorem own_lstoreN (X : Stand p l e R s m args below meth c T locs cells slots) (hx : p.tables.exec = Jvm.exec) {j : Fin 4} {v z : Int64} (hd : decode c.code pc = .ok (.lstore_n j, 1)) (hz : z = v) (hl : storeLocals ls j.val (.long z) = some l') (hpc : pc + 1 = pc') (w : own_WP p e below s Q k n (T.setTop (mkF m pc' l' rest))) : own_WP p e below s Q k n (T.setTop (mkF m pc ls (.long v :: rest))) := by
  subst hpc
  exact own_of (fun t q => XS.lstoreN X.here hx rfl hd rfl (hz ▸ hl) q) w
theorem own_astore (X : Stand p l e R s m args below meth c T locs cells slots) (hx : p.tables.exec = Jvm.exec) {j : Nat} {v : Value} (hd : decode c.code pc = .ok (.astore j, 2)) (hv : v.isRef = true) (hl : storeLocals ls j v = some l') (hpc : pc + 2 = pc') (w : own_WP p e below s Q k n (T.setTop (mkF m pc' l' rest))) : own_WP p e below s Q k n (T.setTop (mkF m pc ls (v :: rest))) := by
  subst hpc
  exact own_of (fun t q => XS.astore X.here hx rfl hd rfl hv hl q) w
theorem own_astoreN (X : Stand p l e R s m args below meth c T locs cells slots) (hx : p.tables.exec = Jvm.exec) {j : Fin 4} {v : Value} (hd : decode c.code pc = .ok (.astore_n j, 1)) (hv : v.isRef = true) (hl : storeLocals ls j.val v = some l') (hpc : pc + 1 = pc') (w : own_WP p e below s Q k n (T.setTop (mkF m pc' l' rest))) : own_WP p e below s Q k n (T.setTop (mkF m pc ls (v :: rest))) := by
  subst hpc
  exact own_of (fun t q => XS.astoreN X.here hx rfl hd rfl hv hl q) w
theorem own_iinc (X : Stand p l e R s m args below meth c T locs cells slots) (hx : p.tables.exec = Jvm.exec) {j : Nat} {i : Int} {v z : Int32} (hd : decode c.code pc = .ok (.iinc j i, 3)) (hl0 : ls[j]? = some (.val (.int v))) (hz : z = v + Int32.ofInt i) (hl : storeLocals ls j (.int z) = some l') (hpc : pc + 3 = pc') (w : own_WP p e below s Q k n (T.setTop (mkF m pc' l' rest))) : own_WP p e below s Q k n (T.setTop (mkF m pc ls rest)) := by
  subst hpc
  exact own_of (fun t q => XS.iinc X.here hx rfl hd hl0 (hz ▸ hl) q) w
theorem own_iconst (X : Stand p l e R s m args below meth c T locs cells slots) (hx : p.tables.exec = Jvm.exec) {i : Int} (v : Int32) (hd : decode c.code pc = .ok (.iconst i, 1)) (hv : v = Int32.ofInt i) (hpc : pc + 1 = pc') (w : own_WP p e below s Q k n (T.setTop (mkF m pc' ls (.int v :: rest)))) : own_WP p e below s Q k n (T.setTop (mkF m pc ls rest)) := by
  subst hpc
  exact own_of (fun t q => XS.iconst X.here hx rfl hd (hv ▸ q)) w
theorem own_bipush (X : Stand p l e R s m args below meth c T locs cells slots) (hx : p.tables.exec = Jvm.exec) {i : Int} (v : Int32) (hd : decode c.code pc = .ok (.bipush i, 2)) (hv : v = (Int8.ofInt i).toInt32) (hpc : pc + 2 = pc') (w : own_WP p e below s Q k n (T.setTop (mkF m pc' ls (.int v :: rest)))) : own_WP p e below s Q k n (T.setTop (mkF m pc ls rest)) := by
  subst hpc
  exact own_of (fun t q => XS.bipush X.here hx rfl hd (hv ▸ q)) w
theorem own_sipush (X : Stand p l e R s m args below meth c T locs cells slots) (hx : p.tables.exec = Jvm.exec) {i : Int} (v : Int32) (hd : decode c.code pc = .ok (.sipush i, 3)) (hv : v = (Int16.ofInt i).toInt32) (hpc : pc + 3 = pc') (w : own_WP p e below s Q k n (T.setTop (mkF m pc' ls (.int v :: rest)))) : own_WP p e below s Q k n (T.setTop (mkF m pc ls rest)) := by
  subst hpc
  exact own_of (fun t q => XS.sipush X.here hx rfl hd (hv ▸ q)) w
theorem own_anull (X : Stand p l e R s m args below meth c T locs cells slots) (hx : p.tables.exec = Jvm.exec)  (hd : decode c.code pc = .ok (.aconst_null, 1)) (hpc : pc + 1 = pc') (w : own_WP p e below s Q k n (T.setTop (mkF m pc' ls (.null :: rest)))) : own_WP p e below s Q k n (T.setTop (mkF m pc ls rest)) := by
  subst hpc
  exact own_of (fun t q => XS.aconstNull X.here hx rfl hd q) w
theorem own_lconst0 (X : Stand p l e R s m args below meth c T locs cells slots) (hx : p.tables.exec = Jvm.exec)  (hd : decode c.code pc = .ok (.lconst 0, 1)) (hpc : pc + 1 = pc') (w : own_WP p e below s Q k n (T.setTop (mkF m pc' ls (.long 0 :: rest)))) : own_WP p e below s Q k n (T.setTop (mkF m pc ls rest)) := by
  subst hpc
  exact own_of (fun t q => XS.lconst X.here hx rfl hd q) w
theorem own_lconst1 (X : Stand p l e R s m args below meth c T locs cells slots) (hx : p.tables.exec = Jvm.exec)  (hd : decode c.code pc = .ok (.lconst 1, 1)) (hpc : pc + 1 = pc') (w : own_WP p e below s Q k n (T.setTop (mkF m pc' ls (.long 1 :: rest)))) : own_WP p e below s Q k n (T.setTop (mkF m pc ls rest)) := by
  subst hpc
  exact own_of (fun t q => XS.lconst X.here hx rfl hd q) w
theorem own_ldcInt (X : Stand p l e R s m args below meth c T locs cells slots) (hx : p.tables.exec = Jvm.exec) (hZ : Z.Warmed39 s.vm) {own : String} {idx : Nat} {v : Int32} (hown : s.vm.findClass own = some m.cls) (w1 : (Jvm.Cond.constant own idx v).before a0 Z = true) (hd : decode c.code pc = .ok (.ldc idx, 2)) (hpc : pc + 2 = pc') (w : own_WP p e below s Q k n (T.setTop (mkF m pc' ls (.int v :: rest)))) : own_WP p e below s Q k n (T.setTop (mkF m pc ls rest)) := by
  subst hpc
  exact own_of (fun t q => X.ldcInt hx hown (mvT hZ w1) (g := mkF m pc ls rest) rfl hd _ q) w
theorem own_ldcwInt (X : Stand p l e R s m args below meth c T locs cells slots) (hx : p.tables.exec = Jvm.exec) (hZ : Z.Warmed39 s.vm) {own : String} {idx : Nat} {v : Int32} (hown : s.vm.findClass own = some m.cls) (w1 : (Jvm.Cond.constant own idx v).before a0 Z = true) (hd : decode c.code pc = .ok (.ldc_w idx, 3)) (hpc : pc + 3 = pc') (w : own_WP p e below s Q k n (T.setTop (mkF m pc' ls (.int v :: rest)))) : own_WP p e below s Q k n (T.setTop (mkF m pc ls rest)) := by
  subst hpc
  exact own_of (fun t q => X.ldcwInt hx hown (mvT hZ w1) (g := mkF m pc ls rest) rfl hd _ q) w
theorem own_ldc2Long (X : Stand p l e R s m args below meth c T locs cells slots) (hx : p.tables.exec = Jvm.exec) (hZ : Z.Warmed39 s.vm) {own : String} {idx : Nat} {v : Int64} (hown : s.vm.findClass own = some m.cls) (w1 : (Jvm.Cond.constantLong own idx v).before a0 Z = true) (hd : decode c.code pc = .ok (.ldc2_w idx, 3)) (hpc : pc + 3 = pc') (w : own_WP p e below s Q k n (T.setTop (mkF m pc' ls (.long v :: rest)))) : own_WP p e below s Q k n (T.setTop (mkF m pc ls rest)) := by
  subst hpc
  exact own_of (fun t q => X.ldc2Long hx hown (mvT hZ w1) (g := mkF m pc ls rest) rfl hd _ q) w
theorem own_iadd (X : Stand p l e R s m args below meth c T locs cells slots) (hx : p.tables.exec = Jvm.exec) {x y : Int32} (hd : decode c.code pc = .ok (.iadd, 1)) (hpc : pc + 1 = pc') (w : own_WP p e below s Q k n (T.setTop (mkF m pc' ls (.int (x + y) :: rest)))) : own_WP p e below s Q k n (T.setTop (mkF m pc ls (.int y :: .int x :: rest))) := by
  subst hpc
  exact own_of (fun t q => XS.iadd X.here hx rfl hd rfl q) w
theorem own_ladd (X : Stand p l e R s m args below meth c T locs cells slots) (hx : p.tables.exec = Jvm.exec) {x y : Int64} (hd : decode c.code pc = .ok (.ladd, 1)) (hpc : pc + 1 = pc') (w : own_WP p e below s Q k n (T.setTop (mkF m pc' ls (.long (x + y) :: rest)))) : own_WP p e below s Q k n (T.setTop (mkF m pc ls (.long y :: .long x :: rest))) := by
  subst hpc
  exact own_of (fun t q => XS.ladd X.here hx rfl hd rfl q) w
theorem own_isub (X : Stand p l e R s m args below meth c T locs cells slots) (hx : p.tables.exec = Jvm.exec) {x y : Int32} (hd : decode c.code pc = .ok (.isub, 1)) (hpc : pc + 1 = pc') (w : own_WP p e below s Q k n (T.setTop (mkF m pc' ls (.int (x - y) :: rest)))) : own_WP p e below s Q k n (T.setTop (mkF m pc ls (.int y :: .int x :: rest))) := by
  subst hpc
  exact own_of (fun t q => XS.isub X.here hx rfl hd rfl q) w
theorem own_lsub (X : Stand p l e R s m args below meth c T locs cells slots) (hx : p.tables.exec = Jvm.exec) {x y : Int64} (hd : decode c.code pc = .ok (.lsub, 1)) (hpc : pc + 1 = pc') (w : own_WP p e below s Q k n (T.setTop (mkF m pc' ls (.long (x - y) :: rest)))) : own_WP p e below s Q k n (T.setTop (mkF m pc ls (.long y :: .long x :: rest))) := by
  subst hpc
  exact own_of (fun t q => XS.lsub X.here hx rfl hd rfl q) w
theorem own_imul (X : Stand p l e R s m args below meth c T locs cells slots) (hx : p.tables.exec = Jvm.exec) {x y : Int32} (hd : decode c.code pc = .ok (.imul, 1)) (hpc : pc + 1 = pc') (w : own_WP p e below s Q k n (T.setTop (mkF m pc' ls (.int (x * y) :: rest)))) : own_WP p e below s Q k n (T.setTop (mkF m pc ls (.int y :: .int x :: rest))) := by
  subst hpc
  exact own_of (fun t q => XS.imul X.here hx rfl hd rfl q) w
theorem own_lmul (X : Stand p l e R s m args below meth c T locs cells slots) (hx : p.tables.exec = Jvm.exec) {x y : Int64} (hd : decode c.code pc = .ok (.lmul, 1)) (hpc : pc + 1 = pc') (w : own_WP p e below s Q k n (T.setTop (mkF m pc' ls (.long (x * y) :: rest)))) : own_WP p e below s Q k n (T.setTop (mkF m pc ls (.long y :: .long x :: rest))) := by
  subst hpc
  exact own_of (fun t q => XS.lmul X.here hx rfl hd rfl q) w
theorem own_iand (X : Stand p l e R s m args below meth c T locs cells slots) (hx : p.tables.exec = Jvm.exec) {x y : Int32} (hd : decode c.code pc = .ok (.iand, 1)) (hpc : pc + 1 = pc') (w : own_WP p e below s Q k n (T.setTop (mkF m pc' ls (.int (x &&& y) :: rest)))) : own_WP p e below s Q k n (T.setTop (mkF m pc ls (.int y :: .int x :: rest))) := by
  subst hpc
  exact own_of (fun t q => XS.iand X.here hx rfl hd rfl q) w
theorem own_land (X : Stand p l e R s m args below meth c T locs cells slots) (hx : p.tables.exec = Jvm.exec) {x y : Int64} (hd : decode c.code pc = .ok (.land, 1)) (hpc : pc + 1 = pc') (w : own_WP p e below s Q k n (T.setTop (mkF m pc' ls (.long (x &&& y) :: rest)))) : own_WP p e below s Q k n (T.setTop (mkF m pc ls (.long y :: .long x :: rest))) := by
  subst hpc
  exact own_of (fun t q => XS.land X.here hx rfl hd rfl q) w
theorem own_ior (X : Stand p l e R s m args below meth c T locs cells slots) (hx : p.tables.exec = Jvm.exec) {x y : Int32} (hd : decode c.code pc = .ok (.ior, 1)) (hpc : pc + 1 = pc') (w : own_WP p e below s Q k n (T.setTop (mkF m pc' ls (.int (x ||| y) :: rest)))) : own_WP p e below s Q k n (T.setTop (mkF m pc ls (.int y :: .int x :: rest))) := by
  subst hpc
  exact own_of (fun t q => XS.ior X.here hx rfl hd rfl q) w
theorem own_lor (X : Stand p l e R s m args below meth c T locs cells slots) (hx : p.tables.exec = Jvm.exec) {x y : Int64} (hd : decode c.code pc = .ok (.lor, 1)) (hpc : pc + 1 = pc') (w : own_WP p e below s Q k n (T.setTop (mkF m pc' ls (.long (x ||| y) :: rest)))) : own_WP p e below s Q k n (T.setTop (mkF m pc ls (.long y :: .long x :: rest))) := by
  subst hpc
  exact own_of (fun t q => XS.lor X.here hx rfl hd rfl q) w
theorem own_ixor (X : Stand p l e R s m args below meth c T locs cells slots) (hx : p.tables.exec = Jvm.exec) {x y : Int32} (hd : decode c.code pc = .ok (.ixor, 1)) (hpc : pc + 1 = pc') (w : own_WP p e below s Q k n (T.setTop (mkF m pc' ls (.int (x ^^^ y) :: rest)))) : own_WP p e below s Q k n (T.setTop (mkF m pc ls (.int y :: .int x :: rest))) := by
  subst hpc
  exact own_of (fun t q => XS.ixor X.here hx rfl hd rfl q) w
theorem own_lxor (X : Stand p l e R s m args below meth c T locs cells slots) (hx : p.tables.exec = Jvm.exec) {x y : Int64} (hd : decode c.code pc = .ok (.lxor, 1)) (hpc : pc + 1 = pc') (w : own_WP p e below s Q k n (T.setTop (mkF m pc' ls (.long (x ^^^ y) :: rest)))) : own_WP p e below s Q k n (T.setTop (mkF m pc ls (.long y :: .long x :: rest))) := by
  subst hpc
  exact own_of (fun t q => XS.lxor X.here hx rfl hd rfl q) w
theorem own_ishl (X : Stand p l e R s m args below meth c T locs cells slots) (hx : p.tables.exec = Jvm.exec) {x y : Int32} (hd : decode c.code pc = .ok (.ishl, 1)) (hpc : pc + 1 = pc') (w : own_WP p e below s Q k n (T.setTop (mkF m pc' ls (.int (x <<< (y &&& 31)) :: rest)))) : own_WP p e below s Q k n (T.setTop (mkF m pc ls (.int y :: .int x :: rest))) := by
  subst hpc
  exact own_of (fun t q => XS.ishl X.here hx rfl hd rfl q) w
theorem own_ishr (X : Stand p l e R s m args below meth c T locs cells slots) (hx : p.tables.exec = Jvm.exec) {x y : Int32} (hd : decode c.code pc = .ok (.ishr, 1)) (hpc : pc + 1 = pc') (w : own_WP p e below s Q k n (T.setTop (mkF m pc' ls (.int (x >>> (y &&& 31)) :: rest)))) : own_WP p e below s Q k n (T.setTop (mkF m pc ls (.int y :: .int x :: rest))) := by
  subst hpc
  exact own_of (fun t q => XS.ishr X.here hx rfl hd rfl q) w
theorem own_iushr (X : Stand p l e R s m args below meth c T locs cells slots) (hx : p.tables.exec = Jvm.exec) {x y : Int32} (hd : decode c.code pc = .ok (.iushr, 1)) (hpc : pc + 1 = pc') (w : own_WP p e below s Q k n (T.setTop (mkF m pc' ls (.int ((x.toUInt32 >>> (y &&& 31).toUInt32).toInt32) :: rest)))) : own_WP p e below s Q k n (T.setTop (mkF m pc ls (.int y :: .int x :: rest))) := by
  subst hpc
  exact own_of (fun t q => XS.iushr X.here hx rfl hd rfl q) w
theorem own_lshl (X : Stand p l e R s m args below meth c T locs cells slots) (hx : p.tables.exec = Jvm.exec) {x : Int64} {y : Int32} (hd : decode c.code pc = .ok (.lshl, 1)) (hpc : pc + 1 = pc') (w : own_WP p e below s Q k n (T.setTop (mkF m pc' ls (.long (x <<< (y &&& 0x3f).toInt64) :: rest)))) : own_WP p e below s Q k n (T.setTop (mkF m pc ls (.int y :: .long x :: rest))) := by
  subst hpc
  exact own_of (fun t q => XS.lshl X.here hx rfl hd rfl q) w
theorem own_lshr (X : Stand p l e R s m args below meth c T locs cells slots) (hx : p.tables.exec = Jvm.exec) {x : Int64} {y : Int32} (hd : decode c.code pc = .ok (.lshr, 1)) (hpc : pc + 1 = pc') (w : own_WP p e below s Q k n (T.setTop (mkF m pc' ls (.long (x >>> (y &&& 0x3f).toInt64) :: rest)))) : own_WP p e below s Q k n (T.setTop (mkF m pc ls (.int y :: .long x :: rest))) := by
  subst hpc
  exact own_of (fun t q => XS.lshr X.here hx rfl hd rfl q) w
theorem own_lushr (X : Stand p l e R s m args below meth c T locs cells slots) (hx : p.tables.exec = Jvm.exec) {x : Int64} {y : Int32} (hd : decode c.code pc = .ok (.lushr, 1)) (hpc : pc + 1 = pc') (w : own_WP p e below s Q k n (T.setTop (mkF m pc' ls (.long ((x.toUInt64 >>> (y &&& 0x3f).toInt64.toUInt64).toInt64) :: rest)))) : own_WP p e below s Q k n (T.setTop (mkF m pc ls (.int y :: .long x :: rest))) := by
  subst hpc
  exact own_of (fun t q => XS.lushr X.here hx rfl hd rfl q) w
theorem own_idiv (X : Stand p l e R s m args below meth c T locs cells slots) (hx : p.tables.exec = Jvm.exec) {x y : Int32} (hd : decode c.code pc = .ok (.idiv, 1)) (hy : y ≠ 0) (hpc : pc + 1 = pc') (w : own_WP p e below s Q k n (T.setTop (mkF m pc' ls (.int (x / y) :: rest)))) : own_WP p e below s Q k n (T.setTop (mkF m pc ls (.int y :: .int x :: rest))) := by
  subst hpc
  exact own_of (fun t q => XS.idiv X.here hx rfl hd rfl hy q) w
theorem own_irem (X : Stand p l e R s m args below meth c T locs cells slots) (hx : p.tables.exec = Jvm.exec) {x y : Int32} (hd : decode c.code pc = .ok (.irem, 1)) (hy : y ≠ 0) (hpc : pc + 1 = pc') (w : own_WP p e below s Q k n (T.setTop (mkF m pc' ls (.int (x % y) :: rest)))) : own_WP p e below s Q k n (T.setTop (mkF m pc ls (.int y :: .int x :: rest))) := by
  subst hpc
  exact own_of (fun t q => iremM X hx rfl hd rfl hy q) w
theorem own_ldiv (X : Stand p l e R s m args below meth c T locs cells slots) (hx : p.tables.exec = Jvm.exec) {x y : Int64} (hd : decode c.code pc = .ok (.ldiv, 1)) (hy : y ≠ 0) (hpc : pc + 1 = pc') (w : own_WP p e below s Q k n (T.setTop (mkF m pc' ls (.long (x / y) :: rest)))) : own_WP p e below s Q k n (T.setTop (mkF m pc ls (.long y :: .long x :: rest))) := by
  subst hpc
  exact own_of (fun t q => XS.ldiv X.here hx rfl hd rfl hy q) w
theorem own_lrem (X : Stand p l e R s m args below meth c T locs cells slots) (hx : p.tables.exec = Jvm.exec) {x y : Int64} (hd : decode c.code pc = .ok (.lrem, 1)) (hy : y ≠ 0) (hpc : pc + 1 = pc') (w : own_WP p e below s Q k n (T.setTop (mkF m pc' ls (.long (x % y) :: rest)))) : own_WP p e below s Q k n (T.setTop (mkF m pc ls (.long y :: .long x :: rest))) := by
  subst hpc
  exact own_of (fun t q => XS.lrem X.here hx rfl hd rfl hy ((lrem_mod x y).symm ▸ q)) w
theorem own_ineg (X : Stand p l e R s m args below meth c T locs cells slots) (hx : p.tables.exec = Jvm.exec) {x : Int32} (hd : decode c.code pc = .ok (.ineg, 1)) (hpc : pc + 1 = pc') (w : own_WP p e below s Q k n (T.setTop (mkF m pc' ls (.int (-x) :: rest)))) : own_WP p e below s Q k n (T.setTop (mkF m pc ls (.int x :: rest))) := by
  subst hpc
  exact own_of (fun t q => XS.ineg X.here hx rfl hd rfl q) w
theorem own_lneg (X : Stand p l e R s m args below meth c T locs cells slots) (hx : p.tables.exec = Jvm.exec) {x : Int64} (hd : decode c.code pc = .ok (.lneg, 1)) (hpc : pc + 1 = pc') (w : own_WP p e below s Q k n (T.setTop (mkF m pc' ls (.long (-x) :: rest)))) : own_WP p e below s Q k n (T.setTop (mkF m pc ls (.long x :: rest))) := by
  subst hpc
  exact own_of (fun t q => XS.lneg X.here hx rfl hd rfl q) w
theorem own_i2l (X : Stand p l e R s m args below meth c T locs cells slots) (hx : p.tables.exec = Jvm.exec) {x : Int32} (hd : decode c.code pc = .ok (.i2l, 1)) (hpc : pc + 1 = pc') (w : own_WP p e below s Q k n (T.setTop (mkF m pc' ls (.long (x.toInt64) :: rest)))) : own_WP p e below s Q k n (T.setTop (mkF m pc ls (.int x :: rest))) := by
  subst hpc
  exact own_of (fun t q => XS.i2l X.here hx rfl hd rfl q) w
theorem own_l2i (X : Stand p l e R s m args below meth c T locs cells slots) (hx : p.tables.exec = Jvm.exec) {x : Int64} (hd : decode c.code pc = .ok (.l2i, 1)) (hpc : pc + 1 = pc') (w : own_WP p e below s Q k n (T.setTop (mkF m pc' ls (.int (x.toInt32) :: rest)))) : own_WP p e below s Q k n (T.setTop (mkF m pc ls (.long x :: rest))) := by
  subst hpc
  exact own_of (fun t q => XS.l2i X.here hx rfl hd rfl q) w
theorem own_i2b (X : Stand p l e R s m args below meth c T locs cells slots) (hx : p.tables.exec = Jvm.exec) {x : Int32} (hd : decode c.code pc = .ok (.i2b, 1)) (hpc : pc + 1 = pc') (w : own_WP p e below s Q k n (T.setTop (mkF m pc' ls (.int (x.toInt8.toInt32) :: rest)))) : own_WP p e below s Q k n (T.setTop (mkF m pc ls (.int x :: rest))) := by
  subst hpc
  exact own_of (fun t q => XS.i2b X.here hx rfl hd rfl q) w
theorem own_i2s (X : Stand p l e R s m args below meth c T locs cells slots) (hx : p.tables.exec = Jvm.exec) {x : Int32} (hd : decode c.code pc = .ok (.i2s, 1)) (hpc : pc + 1 = pc') (w : own_WP p e below s Q k n (T.setTop (mkF m pc' ls (.int (x.toInt16.toInt32) :: rest)))) : own_WP p e below s Q k n (T.setTop (mkF m pc ls (.int x :: rest))) := by
  subst hpc
  exact own_of (fun t q => XS.i2s X.here hx rfl hd rfl q) w
theorem own_i2c (X : Stand p l e R s m args below meth c T locs cells slots) (hx : p.tables.exec = Jvm.exec) {x : Int32} (hd : decode c.code pc = .ok (.i2c, 1)) (hpc : pc + 1 = pc') (w : own_WP p e below s Q k n (T.setTop (mkF m pc' ls (.int (x.toUInt32.toUInt16.toUInt32.toInt32) :: rest)))) : own_WP p e below s Q k n (T.setTop (mkF m pc ls (.int x :: rest))) := by
  subst hpc
  exact own_of (fun t q => XS.i2c X.here hx rfl hd rfl q) w
theorem own_lcmp (X : Stand p l e R s m args below meth c T locs cells slots) (hx : p.tables.exec = Jvm.exec) {x y : Int64} (hd : decode c.code pc = .ok (.lcmp, 1)) (hpc : pc + 1 = pc') (w : own_WP p e below s Q k n (T.setTop (mkF m pc' ls (.int (lcmpW x y) :: rest)))) : own_WP p e below s Q k n (T.setTop (mkF m pc ls (.long y :: .long x :: rest))) := by
  subst hpc
  exact own_of (fun t q => XS.lcmp X.here hx rfl hd rfl q) w
theorem own_dup (X : Stand p l e R s m args below meth c T locs cells slots) (hx : p.tables.exec = Jvm.exec) {v : Value} (hd : decode c.code pc = .ok (.dup, 1)) (hv : v.category = 1) (hpc : pc + 1 = pc') (w : own_WP p e below s Q k n (T.setTop (mkF m pc' ls (v :: v :: rest)))) : own_WP p e below s Q k n (T.setTop (mkF m pc ls (v :: rest))) := by
  subst hpc
  exact own_of (fun t q => XS.dup X.here hx rfl hd rfl hv q) w
theorem own_pop (X : Stand p l e R s m args below meth c T locs cells slots) (hx : p.tables.exec = Jvm.exec) {v : Value} (hd : decode c.code pc = .ok (.pop, 1)) (hv : v.category = 1) (hpc : pc + 1 = pc') (w : own_WP p e below s Q k n (T.setTop (mkF m pc' ls rest))) : own_WP p e below s Q k n (T.setTop (mkF m pc ls (v :: rest))) := by
  subst hpc
  exact own_of (fun t q => XS.pop X.here hx rfl hd rfl hv q) w
theorem own_dup2 (X : Stand p l e R s m args below meth c T locs cells slots) (hx : p.tables.exec = Jvm.exec) {v1 v2 : Value} (hd : decode c.code pc = .ok (.dup2, 1)) (h1 : v1.category = 1) (h2 : v2.category = 1) (hpc : pc + 1 = pc') (w : own_WP p e below s Q k n (T.setTop (mkF m pc' ls (v1 :: v2 :: v1 :: v2 :: rest)))) : own_WP p e below s Q k n (T.setTop (mkF m pc ls (v1 :: v2 :: rest))) := by
  subst hpc
  refine own_of (fun t q => ?_) w
  jvm_step X.here [X.here.top, hx, hd, h1, h2]
  exact q
theorem own_goto (X : Stand p l e R s m args below meth c T locs cells slots) (hx : p.tables.exec = Jvm.exec) {o : Int} (hd : decode c.code pc = .ok (.goto o, 3)) (ho : 0 ≤ (pc : Int) + o) (hpc : ((pc : Int) + o).toNat = pc') (w : own_WP p e below s Q k n (T.setTop (mkF m pc' ls rest))) : own_WP p e below s Q k n (T.setTop (mkF m pc ls rest)) :=
  own_of (fun t q => XS.goto X.here hx rfl (pc0 := pc) (pc' := pc') rfl hd ho hpc q) w
theorem own_icmp_lt (X : Stand p l e R s m args below meth c T locs cells slots) (hx : p.tables.exec = Jvm.exec) {x y : Int32} {o : Int} {pf pt : Nat} (hd : decode c.code pc = .ok (.if_icmp .lt o, 3)) (hpf : pc + 3 = pf) (ho : 0 ≤ (pc : Int) + o) (hpt : ((pc : Int) + o).toNat = pt)
    (yes : x < y → own_WP p e below s Q k n (T.setTop (mkF m pt ls rest))) (no : ¬ x < y → own_WP p e below s Q k n (T.setTop (mkF m pf ls rest))) : own_WP p e below s Q k n (T.setTop (mkF m pc ls (.int y :: .int x :: rest))) := by
  subst hpf
  by_cases hq : x < y
  · exact own_of (fun t q => XS.icmpYes X.here hx rfl (pc0 := pc) (pc' := pt) rfl hd rfl ((tlt hq).1) ho hpt q) (yes hq)
  · exact own_of (fun t q => XS.icmpNo X.here hx rfl hd rfl ((flt hq).1) q) (no hq)
theorem own_if_lt (X : Stand p l e R s m args below meth c T locs cells slots) (hx : p.tables.exec = Jvm.exec) {x : Int32} {o : Int} {pf pt : Nat} (hd : decode c.code pc = .ok (.ifCond .lt o, 3)) (hpf : pc + 3 = pf) (ho : 0 ≤ (pc : Int) + o) (hpt : ((pc : Int) + o).toNat = pt)
    (yes : x < 0 → own_WP p e below s Q k n (T.setTop (mkF m pt ls rest))) (no : ¬ x < 0 → own_WP p e below s Q k n (T.setTop (mkF m pf ls rest))) : own_WP p e below s Q k n (T.setTop (mkF m pc ls (.int x :: rest))) := by
  subst hpf
  by_cases hq : x < 0
  · exact own_of (fun t q => XS.ifYes X.here hx rfl (pc0 := pc) (pc' := pt) rfl hd rfl ((if0 _ _).trans (tlt hq).1) ho hpt q) (yes hq)
  · exact own_of (fun t q => XS.ifNo X.here hx rfl hd rfl ((if0 _ _).trans (flt hq).1) q) (no hq)
theorem own_ifl_lt (X : Stand p l e R s m args below meth c T locs cells slots) (hx : p.tables.exec = Jvm.exec) {x y : Int64} {o : Int} {pf pt : Nat} (hd : decode c.code pc = .ok (.ifCond .lt o, 3)) (hpf : pc + 3 = pf) (ho : 0 ≤ (pc : Int) + o) (hpt : ((pc : Int) + o).toNat = pt)
    (yes : x < y → own_WP p e below s Q k n (T.setTop (mkF m pt ls rest))) (no : ¬ x < y → own_WP p e below s Q k n (T.setTop (mkF m pf ls rest))) : own_WP p e below s Q k n (T.setTop (mkF m pc ls (.int (lcmpW x y) :: rest))) := by
  subst hpf
  by_cases hq : x < y
  · exact own_of (fun t q => XS.ifYes X.here hx rfl (pc0 := pc) (pc' := pt) rfl hd rfl ((if0 _ _).trans (tlt ((lw_lt x y).mpr hq)).1) ho hpt q) (yes hq)
  · exact own_of (fun t q => XS.ifNo X.here hx rfl hd rfl ((if0 _ _).trans (flt (fun z => hq ((lw_lt x y).mp z))).1) q) (no hq)
theorem own_icmp_ge (X : Stand p l e R s m args below meth c T locs cells slots) (hx : p.tables.exec = Jvm.exec) {x y : Int32} {o : Int} {pf pt : Nat} (hd : decode c.code pc = .ok (.if_icmp .ge o, 3)) (hpf : pc + 3 = pf) (ho : 0 ≤ (pc : Int) + o) (hpt : ((pc : Int) + o).toNat = pt)
    (yes : ¬ x < y → own_WP p e below s Q k n (T.setTop (mkF m pt ls rest))) (no : x < y → own_WP p e below s Q k n (T.setTop (mkF m pf ls rest))) : own_WP p e below s Q k n (T.setTop (mkF m pc ls (.int y :: .int x :: rest))) := by
  subst hpf
  by_cases hq : ¬ x < y
  · exact own_of (fun t q => XS.icmpYes X.here hx rfl (pc0 := pc) (pc' := pt) rfl hd rfl ((flt hq).2.1) ho hpt q) (yes hq)
  · exact own_of (fun t q => XS.icmpNo X.here hx rfl hd rfl ((tlt (Classical.not_not.mp hq)).2.1) q) (no (Classical.not_not.mp hq))
theorem own_if_ge (X : Stand p l e R s m args below meth c T locs cells slots) (hx : p.tables.exec = Jvm.exec) {x : Int32} {o : Int} {pf pt : Nat} (hd : decode c.code pc = .ok (.ifCond .ge o, 3)) (hpf : pc + 3 = pf) (ho : 0 ≤ (pc : Int) + o) (hpt : ((pc : Int) + o).toNat = pt)
    (yes : ¬ x < 0 → own_WP p e below s Q k n (T.setTop (mkF m pt ls rest))) (no : x < 0 → own_WP p e below s Q k n (T.setTop (mkF m pf ls rest))) : own_WP p e below s Q k n (T.setTop (mkF m pc ls (.int x :: rest))) := by
  subst hpf
  by_cases hq : ¬ x < 0
  · exact own_of (fun t q => XS.ifYes X.here hx rfl (pc0 := pc) (pc' := pt) rfl hd rfl ((if0 _ _).trans (flt hq).2.1) ho hpt q) (yes hq)
  · exact own_of (fun t q => XS.ifNo X.here hx rfl hd rfl ((if0 _ _).trans (tlt (Classical.not_not.mp hq)).2.1) q) (no (Classical.not_not.mp hq))
theorem own_ifl_ge (X : Stand p l e R s m args below meth c T locs cells slots) (hx : p.tables.exec = Jvm.exec) {x y : Int64} {o : Int} {pf pt : Nat} (hd : decode c.code pc = .ok (.ifCond .ge o, 3)) (hpf : pc + 3 = pf) (ho : 0 ≤ (pc : Int) + o) (hpt : ((pc : Int) + o).toNat = pt)
    (yes : ¬ x < y → own_WP p e below s Q k n (T.setTop (mkF m pt ls rest))) (no : x < y → own_WP p e below s Q k n (T.setTop (mkF m pf ls rest))) : own_WP p e below s Q k n (T.setTop (mkF m pc ls (.int (lcmpW x y) :: rest))) := by
  subst hpf
  by_cases hq : ¬ x < y
  · exact own_of (fun t q => XS.ifYes X.here hx rfl (pc0 := pc) (pc' := pt) rfl hd rfl ((if0 _ _).trans (flt (fun z => hq ((lw_lt x y).mp z))).2.1) ho hpt q) (yes hq)
  · exact own_of (fun t q => XS.ifNo X.here hx rfl hd rfl ((if0 _ _).trans (tlt ((lw_lt x y).mpr (Classical.not_not.mp hq))).2.1) q) (no (Classical.not_not.mp hq))
theorem own_icmp_gt (X : Stand p l e R s m args below meth c T locs cells slots) (hx : p.tables.exec = Jvm.exec) {x y : Int32} {o : Int} {pf pt : Nat} (hd : decode c.code pc = .ok (.if_icmp .gt o, 3)) (hpf : pc + 3 = pf) (ho : 0 ≤ (pc : Int) + o) (hpt : ((pc : Int) + o).toNat = pt)
    (yes : y < x → own_WP p e below s Q k n (T.setTop (mkF m pt ls rest))) (no : ¬ y < x → own_WP p e below s Q k n (T.setTop (mkF m pf ls rest))) : own_WP p e below s Q k n (T.setTop (mkF m pc ls (.int y :: .int x :: rest))) := by
  subst hpf
  by_cases hq : y < x
  · exact own_of (fun t q => XS.icmpYes X.here hx rfl (pc0 := pc) (pc' := pt) rfl hd rfl ((tlt hq).2.2.1) ho hpt q) (yes hq)
  · exact own_of (fun t q => XS.icmpNo X.here hx rfl hd rfl ((flt hq).2.2.1) q) (no hq)
theorem own_if_gt (X : Stand p l e R s m args below meth c T locs cells slots) (hx : p.tables.exec = Jvm.exec) {x : Int32} {o : Int} {pf pt : Nat} (hd : decode c.code pc = .ok (.ifCond .gt o, 3)) (hpf : pc + 3 = pf) (ho : 0 ≤ (pc : Int) + o) (hpt : ((pc : Int) + o).toNat = pt)
    (yes : 0 < x → own_WP p e below s Q k n (T.setTop (mkF m pt ls rest))) (no : ¬ 0 < x → own_WP p e below s Q k n (T.setTop (mkF m pf ls rest))) : own_WP p e below s Q k n (T.setTop (mkF m pc ls (.int x :: rest))) := by
  subst hpf
  by_cases hq : 0 < x
  · exact own_of (fun t q => XS.ifYes X.here hx rfl (pc0 := pc) (pc' := pt) rfl hd rfl ((if0 _ _).trans (tlt hq).2.2.1) ho hpt q) (yes hq)
  · exact own_of (fun t q => XS.ifNo X.here hx rfl hd rfl ((if0 _ _).trans (flt hq).2.2.1) q) (no hq)
theorem own_ifl_gt (X : Stand p l e R s m args below meth c T locs cells slots) (hx : p.tables.exec = Jvm.exec) {x y : Int64} {o : Int} {pf pt : Nat} (hd : decode c.code pc = .ok (.ifCond .gt o, 3)) (hpf : pc + 3 = pf) (ho : 0 ≤ (pc : Int) + o) (hpt : ((pc : Int) + o).toNat = pt)
    (yes : y < x → own_WP p e below s Q k n (T.setTop (mkF m pt ls rest))) (no : ¬ y < x → own_WP p e below s Q k n (T.setTop (mkF m pf ls rest))) : own_WP p e below s Q k n (T.setTop (mkF m pc ls (.int (lcmpW x y) :: rest))) := by
  subst hpf
  by_cases hq : y < x
  · exact own_of (fun t q => XS.ifYes X.here hx rfl (pc0 := pc) (pc' := pt) rfl hd rfl ((if0 _ _).trans (tlt ((lw_gt x y).mpr hq)).2.2.1) ho hpt q) (yes hq)
  · exact own_of (fun t q => XS.ifNo X.here hx rfl hd rfl ((if0 _ _).trans (flt (fun z => hq ((lw_gt x y).mp z))).2.2.1) q) (no hq)
theorem own_icmp_le (X : Stand p l e R s m args below meth c T locs cells slots) (hx : p.tables.exec = Jvm.exec) {x y : Int32} {o : Int} {pf pt : Nat} (hd : decode c.code pc = .ok (.if_icmp .le o, 3)) (hpf : pc + 3 = pf) (ho : 0 ≤ (pc : Int) + o) (hpt : ((pc : Int) + o).toNat = pt)
    (yes : ¬ y < x → own_WP p e below s Q k n (T.setTop (mkF m pt ls rest))) (no : y < x → own_WP p e below s Q k n (T.setTop (mkF m pf ls rest))) : own_WP p e below s Q k n (T.setTop (mkF m pc ls (.int y :: .int x :: rest))) := by
  subst hpf
  by_cases hq : ¬ y < x
  · exact own_of (fun t q => XS.icmpYes X.here hx rfl (pc0 := pc) (pc' := pt) rfl hd rfl ((flt hq).2.2.2) ho hpt q) (yes hq)
  · exact own_of (fun t q => XS.icmpNo X.here hx rfl hd rfl ((tlt (Classical.not_not.mp hq)).2.2.2) q) (no (Classical.not_not.mp hq))
theorem own_if_le (X : Stand p l e R s m args below meth c T locs cells slots) (hx : p.tables.exec = Jvm.exec) {x : Int32} {o : Int} {pf pt : Nat} (hd : decode c.code pc = .ok (.ifCond .le o, 3)) (hpf : pc + 3 = pf) (ho : 0 ≤ (pc : Int) + o) (hpt : ((pc : Int) + o).toNat = pt)
    (yes : ¬ 0 < x → own_WP p e below s Q k n (T.setTop (mkF m pt ls rest))) (no : 0 < x → own_WP p e below s Q k n (T.setTop (mkF m pf ls rest))) : own_WP p e below s Q k n (T.setTop (mkF m pc ls (.int x :: rest))) := by
  subst hpf
  by_cases hq : ¬ 0 < x
  · exact own_of (fun t q => XS.ifYes X.here hx rfl (pc0 := pc) (pc' := pt) rfl hd rfl ((if0 _ _).trans (flt hq).2.2.2) ho hpt q) (yes hq)
  · exact own_of (fun t q => XS.ifNo X.here hx rfl hd rfl ((if0 _ _).trans (tlt (Classical.not_not.mp hq)).2.2.2) q) (no (Classical.not_not.mp hq))
theorem own_ifl_le (X : Stand p l e R s m args below meth c T locs cells slots) (hx : p.tables.exec = Jvm.exec) {x y : Int64} {o : Int} {pf pt : Nat} (hd : decode c.code pc = .ok (.ifCond .le o, 3)) (hpf : pc + 3 = pf) (ho : 0 ≤ (pc : Int) + o) (hpt : ((pc : Int) + o).toNat = pt)
    (yes : ¬ y < x → own_WP p e below s Q k n (T.setTop (mkF m pt ls rest))) (no : y < x → own_WP p e below s Q k n (T.setTop (mkF m pf ls rest))) : own_WP p e below s Q k n (T.setTop (mkF m pc ls (.int (lcmpW x y) :: rest))) := by
  subst hpf
  by_cases hq : ¬ y < x
  · exact own_of (fun t q => XS.ifYes X.here hx rfl (pc0 := pc) (pc' := pt) rfl hd rfl ((if0 _ _).trans (flt (fun z => hq ((lw_gt x y).mp z))).2.2.2) ho hpt q) (yes hq)
  · exact own_of (fun t q => XS.ifNo X.here hx rfl hd rfl ((if0 _ _).trans (tlt ((lw_gt x y).mpr (Classical.not_not.mp hq))).2.2.2) q) (no (Classical.not_not.mp hq))
theorem own_icmp_eq (X : Stand p l e R s m args below meth c T locs cells slots) (hx : p.tables.exec = Jvm.exec) {x y : Int32} {o : Int} {pf pt : Nat} (hd : decode c.code pc = .ok (.if_icmp .eq o, 3)) (hpf : pc + 3 = pf) (ho : 0 ≤ (pc : Int) + o) (hpt : ((pc : Int) + o).toNat = pt)
    (yes : x = y → own_WP p e below s Q k n (T.setTop (mkF m pt ls rest))) (no : ¬ x = y → own_WP p e below s Q k n (T.setTop (mkF m pf ls rest))) : own_WP p e below s Q k n (T.setTop (mkF m pc ls (.int y :: .int x :: rest))) := by
  subst hpf
  by_cases hq : x = y
  · exact own_of (fun t q => XS.icmpYes X.here hx rfl (pc0 := pc) (pc' := pt) rfl hd rfl ((teq hq).1) ho hpt q) (yes hq)
  · exact own_of (fun t q => XS.icmpNo X.here hx rfl hd rfl ((feq hq).1) q) (no hq)
theorem own_if_eq (X : Stand p l e R s m args below meth c T locs cells slots) (hx : p.tables.exec = Jvm.exec) {x : Int32} {o : Int} {pf pt : Nat} (hd : decode c.code pc = .ok (.ifCond .eq o, 3)) (hpf : pc + 3 = pf) (ho : 0 ≤ (pc : Int) + o) (hpt : ((pc : Int) + o).toNat = pt)
    (yes : x = 0 → own_WP p e below s Q k n (T.setTop (mkF m pt ls rest))) (no : ¬ x = 0 → own_WP p e below s Q k n (T.setTop (mkF m pf ls rest))) : own_WP p e below s Q k n (T.setTop (mkF m pc ls (.int x :: rest))) := by
  subst hpf
  by_cases hq : x = 0
  · exact own_of (fun t q => XS.ifYes X.here hx rfl (pc0 := pc) (pc' := pt) rfl hd rfl ((if0 _ _).trans (teq hq).1) ho hpt q) (yes hq)
  · exact own_of (fun t q => XS.ifNo X.here hx rfl hd rfl ((if0 _ _).trans (feq hq).1) q) (no hq)
theorem own_ifl_eq (X : Stand p l e R s m args below meth c T locs cells slots) (hx : p.tables.exec = Jvm.exec) {x y : Int64} {o : Int} {pf pt : Nat} (hd : decode c.code pc = .ok (.ifCond .eq o, 3)) (hpf : pc + 3 = pf) (ho : 0 ≤ (pc : Int) + o) (hpt : ((pc : Int) + o).toNat = pt)
    (yes : x = y → own_WP p e below s Q k n (T.setTop (mkF m pt ls rest))) (no : ¬ x = y → own_WP p e below s Q k n (T.setTop (mkF m pf ls rest))) : own_WP p e below s Q k n (T.setTop (mkF m pc ls (.int (lcmpW x y) :: rest))) := by
  subst hpf
  by_cases hq : x = y
  · exact own_of (fun t q => XS.ifYes X.here hx rfl (pc0 := pc) (pc' := pt) rfl hd rfl ((if0 _ _).trans (teq ((lw_eq x y).mpr hq)).1) ho hpt q) (yes hq)
  · exact own_of (fun t q => XS.ifNo X.here hx rfl hd rfl ((if0 _ _).trans (feq (fun z => hq ((lw_eq x y).mp z))).1) q) (no hq)
theorem own_icmp_ne (X : Stand p l e R s m args below meth c T locs cells slots) (hx : p.tables.exec = Jvm.exec) {x y : Int32} {o : Int} {pf pt : Nat} (hd : decode c.code pc = .ok (.if_icmp .ne o, 3)) (hpf : pc + 3 = pf) (ho : 0 ≤ (pc : Int) + o) (hpt : ((pc : Int) + o).toNat = pt)
    (yes : ¬ x = y → own_WP p e below s Q k n (T.setTop (mkF m pt ls rest))) (no : x = y → own_WP p e below s Q k n (T.setTop (mkF m pf ls rest))) : own_WP p e below s Q k n (T.setTop (mkF m pc ls (.int y :: .int x :: rest))) := by
  subst hpf
  by_cases hq : ¬ x = y
  · exact own_of (fun t q => XS.icmpYes X.here hx rfl (pc0 := pc) (pc' := pt) rfl hd rfl ((feq hq).2) ho hpt q) (yes hq)
  · exact own_of (fun t q => XS.icmpNo X.here hx rfl hd rfl ((teq (Classical.not_not.mp hq)).2) q) (no (Classical.not_not.mp hq))
theorem own_if_ne (X : Stand p l e R s m args below meth c T locs cells slots) (hx : p.tables.exec = Jvm.exec) {x : Int32} {o : Int} {pf pt : Nat} (hd : decode c.code pc = .ok (.ifCond .ne o, 3)) (hpf : pc + 3 = pf) (ho : 0 ≤ (pc : Int) + o) (hpt : ((pc : Int) + o).toNat = pt)
    (yes : ¬ x = 0 → own_WP p e below s Q k n (T.setTop (mkF m pt ls rest))) (no : x = 0 → own_WP p e below s Q k n (T.setTop (mkF m pf ls rest))) : own_WP p e below s Q k n (T.setTop (mkF m pc ls (.int x :: rest))) := by
  subst hpf
  by_cases hq : ¬ x = 0
  · exact own_of (fun t q => XS.ifYes X.here hx rfl (pc0 := pc) (pc' := pt) rfl hd rfl ((if0 _ _).trans (feq hq).2) ho hpt q) (yes hq)
  · exact own_of (fun t q => XS.ifNo X.here hx rfl hd rfl ((if0 _ _).trans (teq (Classical.not_not.mp hq)).2) q) (no (Classical.not_not.mp hq))
theorem own_ifl_ne (X : Stand p l e R s m args below meth c T locs cells slots) (hx : p.tables.exec = Jvm.exec) {x y : Int64} {o : Int} {pf pt : Nat} (hd : decode c.code pc = .ok (.ifCond .ne o, 3)) (hpf : pc + 3 = pf) (ho : 0 ≤ (pc : Int) + o) (hpt : ((pc : Int) + o).toNat = pt)
    (yes : ¬ x = y → own_WP p e below s Q k n (T.setTop (mkF m pt ls rest))) (no : x = y → own_WP p e below s Q k n (T.setTop (mkF m pf ls rest))) : own_WP p e below s Q k n (T.setTop (mkF m pc ls (.int (lcmpW x y) :: rest))) := by
  subst hpf
  by_cases hq : ¬ x = y
  · exact own_of (fun t q => XS.ifYes X.here hx rfl (pc0 := pc) (pc' := pt) rfl hd rfl ((if0 _ _).trans (feq (fun z => hq ((lw_eq x y).mp z))).2) ho hpt q) (yes hq)
  · exact own_of (fun t q => XS.ifNo X.here hx rfl hd rfl ((if0 _ _).trans (teq ((lw_eq x y).mpr (Classical.not_not.mp hq))).2) q) (no (Classical.not_not.mp hq))
theorem own_getF (X : Stand p l e R s m args below meth c T locs cells slots) (hx : p.tables.exec = Jvm.exec) (hZ : Z.Warmed39 s.vm) {own R0 O nm d host : String} {idx : Nat} (hown : s.vm.findClass own = some m.cls) (w1 : (Jvm.Cond.fieldLink own idx R0 nm d).before a0 Z = true ∨ (Jvm.Cond.fieldLinkNest own idx R0 nm d host).before a0 Z = true) (via : Via Z R0 O nm d) (eT : T.heap = h) {b : Addr} {v : Value} (F : Fld Z h b O nm d v) (hd : decode c.code pc = .ok (.getfield idx, 3)) (hpc : pc + 3 = pc')
    (w : ∀ T', Stand p l e R s m args below meth c T' locs cells slots → T'.heap = h → own_WP p e below s Q k n (T'.setTop (mkF m pc' ls (v :: rest)))) : own_WP p e below s Q k n (T.setTop (mkF m pc ls (.ref b :: rest))) := by
  subst hpc
  obtain ⟨T', X', e', st⟩ := getF X hx hZ hown w1 via eT F (g := mkF m pc ls (.ref b :: rest)) rfl rfl hd
  exact own_of st (w T' X' e')
theorem own_putF (X : Stand p l e R s m args below meth c T locs cells slots) (hx : p.tables.exec = Jvm.exec) (hZ : Z.Warmed39 s.vm) {own R0 O nm d host C : String} {idx kk : Nat} {ty : FieldType} (hown : s.vm.findClass own = some m.cls) (w1 : (Jvm.Cond.fieldLink own idx R0 nm d).before a0 Z = true ∨ (Jvm.Cond.fieldLinkNest own idx R0 nm d host).before a0 Z = true) (via : Via Z R0 O nm d) (eT : T.heap = h) {b : Addr} {v old : Value} (F : Fld Z h b O nm d old) (E : Exa Z h b C) (L : (Jvm.Cond.lays C O nm d).before a0 Z = true ∨ ((Jvm.Cond.laysFinal C O nm d).before a0 Z = true ∧ own = O ∧ meth.name = "<init>")) (wi : (Jvm.Cond.instantiable C kk).before a0 Z = true) (hty : parseFieldDescriptor d = some ty) (hn : narrow ty v = v) (hf : fits ty v = true) (hd : decode c.code pc = .ok (.putfield idx, 3)) (hpc : pc + 3 = pc')
    (w : ∀ T' h', Stand p l e R s m args below meth c T' (locs ++ [⟨b, Jvm.RoadKit.slotOf Z O nm d⟩]) cells slots → T'.heap = h' → Wr h h' b (Jvm.RoadKit.slotOf Z O nm d) v → own_WP p e below s Q k n (T'.setTop (mkF m pc' ls rest))) : own_WP p e below s Q k n (T.setTop (mkF m pc ls (v :: .ref b :: rest))) := by
  subst hpc
  obtain ⟨T', h', X', e', W', st⟩ := putF X hx hZ hown w1 via eT F E L wi hty hn hf (g := mkF m pc ls (v :: .ref b :: rest)) rfl rfl hd
  exact own_of st (w T' h' X' e' W')
theorem own_new (X : Stand p l e R s m args below meth c T locs cells slots) (hx : p.tables.exec = Jvm.exec) (hZ : Z.Warmed39 s.vm) {own C : String} {idx nn : Nat} (hown : s.vm.findClass own = some m.cls) (w1 : (Jvm.Cond.classLink own idx C).before a0 Z = true) (wi : (Jvm.Cond.instantiable C nn).before a0 Z = true) (wz : (Jvm.Cond.initialized C).before a0 Z = true) (eT : T.heap = h) (hd : decode c.code pc = .ok (.new idx, 3)) (hc : cells + 1 ≤ R.cells) (hl : slots + nn ≤ R.slots) (hpc : pc + 3 = pc')
    (w : ∀ T' h' b, b = h.size → Stand p l e R s m args below meth c T' locs (cells + 1) (slots + nn) → T'.heap = h' → Ext h h' → Exa Z h' b C → (∀ {O nm d : String} {ty : FieldType}, Laid Z a0 C O nm d → parseFieldDescriptor d = some ty → Fld Z h' b O nm d (defaultValue ty)) → own_WP p e below s Q k n (T'.setTop (mkF m pc' ls (.ref b :: rest)))) : own_WP p e below s Q k n (T.setTop (mkF m pc ls rest)) := by
  subst hpc
  obtain ⟨T', h', X', e', E', A', D', -, st⟩ := newO X hx hZ hown w1 wi wz eT (g := mkF m pc ls rest) rfl hd hc hl
  exact own_of st (w T' h' _ rfl X' e' E' A' D')
theorem own_newP (X : Stand p l e R s m args below meth c T locs cells slots) (hx : p.tables.exec = Jvm.exec) (hZ : Z.Warmed39 s.vm) {aty : ArrayType} (w1 : (Jvm.Cond.arrayClass (newarray.typeOf aty)).before a0 Z = true) (eT : T.heap = h) (hd : decode c.code pc = .ok (.newarray aty, 2)) {z : Int32} (hz : ¬ z < 0) {cap : Nat} (hcap : z.toNatClampNeg ≤ cap) (hb : cap * 8 ≤ 536870912) (hc : cells + 1 ≤ R.cells) (hl : slots + cap ≤ R.slots) (hpc : pc + 2 = pc')
    (w : ∀ T' h' cA b, b = h.size → Stand p l e R s m args below meth c T' locs (cells + 1) (slots + cap) → T'.heap = h' → Ext h h' → Arr Z h' b (newA cA (newarray.typeOf aty) z) (newarray.typeOf aty) → own_WP p e below s Q k n (T'.setTop (mkF m pc' ls (.ref b :: rest)))) : own_WP p e below s Q k n (T.setTop (mkF m pc ls (.int z :: rest))) := by
  subst hpc
  obtain ⟨T', h', cA, X', e', E', A', st⟩ := newP X hx hZ w1 eT (g := mkF m pc ls (.int z :: rest)) rfl hd rfl hz hcap hb hc hl
  exact own_of st (w T' h' cA _ rfl X' e' E' A')
theorem own_initO (X : Stand p l e R s m args below meth c T locs cells slots) (hx : p.tables.exec = Jvm.exec) (hZ : Z.Warmed39 s.vm) {own : String} {idx : Nat} (hown : s.vm.findClass own = some m.cls) (w1 : (Jvm.Cond.methodLink own idx Lib.objectInit).before a0 Z = true) (w2 : (Jvm.Cond.instanceMethod Lib.objectInit).before a0 Z = true) (w3 : (Jvm.Cond.code Lib.objectInit ⟨#[0xb1]⟩ 1 none).before a0 Z = true) (eT : T.heap = h) (hsz : ls.size = c.maxLocals) {b : Addr} (hd : decode c.code pc = .ok (.invokespecial idx, 3)) (hf : 1 ≤ R.frames) {W : Nat} (hW : (rest.map fun v => v.category).sum ≤ W) (hl : W + 12 ≤ R.locals) (hpc : pc + 3 = pc')
    (w : ∀ T', Stand p l e R s m args below meth c T' locs cells slots → T'.heap = h → own_WP p e below s Q k n (T'.setTop (mkF m pc' ls rest))) : own_WP p e below s Q k n (T.setTop (mkF m pc ls (.ref b :: rest))) := by
  subst hpc
  obtain ⟨T', X', e', st⟩ := initO X hx hZ hown w1 w2 w3 eT (g := mkF m pc ls (.ref b :: rest)) rfl hsz rfl hd hf (W := W) (by show 2 * 0 + _ ≤ _; omega) hl
  exact own_of st (w T' X' e')
theorem own_callS (X : Stand p l e R s m args below meth c T locs cells slots) (hx : p.tables.exec = Jvm.exec) (hZ : Z.Warmed39 s.vm) {own : String} {idx : Nat} {y : MethodName} {bytes : ByteArray} {maxL : Nat} {ret : Option FieldType} {rm : Room} {as' : Array Value} {Q' : Option Value → Heap → List Loc → Prop} (hown : s.vm.findClass own = some m.cls) (w1 : (Jvm.Cond.methodLink own idx y).before a0 Z = true) (w2 : (Jvm.Cond.static y).before a0 Z = true) (w3 : (Jvm.Cond.initialized y.cls).before a0 Z = true) (w4 : (Jvm.Cond.code y bytes maxL ret).before a0 Z = true) (hy : y.cls ≠ "java/lang/invoke/MethodHandle" ∧ y.cls ≠ "java/lang/invoke/VarHandle")
    (C : own_Con l Z y bytes maxL ret rm as' h Q') (eT : T.heap = h) {ps : List FieldType} {rt : Option FieldType} (hpd : parseMethodDescriptor y.desc = some ⟨ps, rt⟩) (argsL rest : List Value) (ha : argsL.toArray = as') (hal : argsL.length = ps.length) {st : List Value} (hst : st = argsL.reverse ++ rest) {W : Nat} (hW : (rest.map fun v => v.category).sum ≤ W) (hf : rm.frames + 1 ≤ R.frames) (hl : W + (maxL + 11) + rm.locals ≤ R.locals) (hsz : ls.size = c.maxLocals) (hd : decode c.code pc = .ok (.invokestatic idx, 3)) (hc : cells + rm.cells ≤ R.cells) (hs : slots + rm.slots ≤ R.slots) (hpc : pc + 3 = pc')
    (w : ∀ v T' L, Stand p l e R s m args below meth c T' (locs ++ L) (cells + rm.cells) (slots + rm.slots) → Q' v T'.heap L → own_WP p e below s Q k n (T'.setTop (mkF m pc' ls (v.toList ++ rest)))) : own_WP p e below s Q k n (T.setTop (mkF m pc ls st)) := by
  subst hpc hst ha
  obtain ⟨v, vm1, ⟨T', L', k', n'⟩, -, X', ⟨Lc, hQ, l1, y1, z1⟩, stp⟩ := Jvm.LawKit.callS X hx (y := y) hown (mvT hZ w1) (mvT hZ w2) (mvT hZ w3) (mvT hZ w4) hy (backOf (W := W) (C []) hZ w4 w3 hf hl) (g := mkF m pc ls (argsL.reverse ++ rest)) rfl hsz (argsL := argsL) (rest := rest) (lenOf hpd hal) rfl (by show 2 * 0 + _ ≤ _; omega) hd (fun _ _ => ⟨rfl, eT, hc, hs⟩)
  dsimp only [Pt.U, Pt.locs, Pt.cells, Pt.slots] at X' l1 y1 z1 stp hQ
  subst l1 y1 z1
  exact own_of stp (w _ _ _ X' hQ)
theorem own_callN (X : Stand p l e R s m args below meth c T locs cells slots) (hx : p.tables.exec = Jvm.exec) (hZ : Z.Warmed39 s.vm) {own : String} {idx : Nat} {y : MethodName} {bytes : ByteArray} {maxL : Nat} {rm : Room} {as' : Array Value} {Q' : Option Value → Heap → List Loc → Prop} (hy1 : y.name = "<init>") (hown : s.vm.findClass own = some m.cls) (w1 : (Jvm.Cond.methodLink own idx y).before a0 Z = true) (w2 : (Jvm.Cond.instanceMethod y).before a0 Z = true) (w3 : (Jvm.Cond.initialized y.cls).before a0 Z = true) (w4 : (Jvm.Cond.code y bytes maxL none).before a0 Z = true) (hy : y.cls ≠ "java/lang/invoke/MethodHandle" ∧ y.cls ≠ "java/lang/invoke/VarHandle")
    (C : own_Con l Z y bytes maxL none rm as' h Q') (eT : T.heap = h) {ps : List FieldType} {rt : Option FieldType} (hpd : parseMethodDescriptor y.desc = some ⟨ps, rt⟩) (b : Addr) (argsL rest : List Value) (ha : (.ref b :: argsL).toArray = as') (hal : argsL.length = ps.length) {st : List Value} (hst : st = argsL.reverse ++ .ref b :: rest) {W : Nat} (hW : (rest.map fun v => v.category).sum ≤ W) (hf : rm.frames + 1 ≤ R.frames) (hl : W + (maxL + 11) + rm.locals ≤ R.locals) (hsz : ls.size = c.maxLocals) (hd : decode c.code pc = .ok (.invokespecial idx, 3)) (hc : cells + rm.cells ≤ R.cells) (hs : slots + rm.slots ≤ R.slots) (hpc : pc + 3 = pc')
    (w : ∀ v T' L, Stand p l e R s m args below meth c T' (locs ++ L) (cells + rm.cells) (slots + rm.slots) → Q' v T'.heap L → own_WP p e below s Q k n (T'.setTop (mkF m pc' ls (v.toList ++ rest)))) : own_WP p e below s Q k n (T.setTop (mkF m pc ls st)) := by
  subst hpc hst ha
  obtain ⟨v, vm1, ⟨T', L', k', n'⟩, -, X', ⟨Lc, hQ, l1, y1, z1⟩, stp⟩ := X.specialBack hx (y := y) hy1 hown (mvT hZ w1) (mvT hZ w2) (mvT hZ w4) hy (backOf (W := W) (C []) hZ w4 w3 hf hl) (g := mkF m pc ls (argsL.reverse ++ .ref b :: rest)) rfl hsz (Steps.refl _) (a := b) (argsL := argsL) (rest := rest) (lenOf hpd hal) rfl (by show 2 * 0 + _ ≤ _; omega) hd (fun _ _ => ⟨rfl, eT, hc, hs⟩)
  dsimp only [Pt.U, Pt.locs, Pt.cells, Pt.slots] at X' l1 y1 z1 stp hQ
  subst l1 y1 z1
  exact own_of (fun t q => stp.trans q) (w _ _ _ X' hQ)
theorem own_callV (X : Stand p l e R s m args below meth c T locs cells slots) (hx : p.tables.exec = Jvm.exec) (hZ : Z.Warmed39 s.vm) {own D : String} {idx : Nat} {y z : MethodName} {bytes : ByteArray} {maxL : Nat} {ret : Option FieldType} {rm : Room} {as' : Array Value} {Q' : Option Value → Heap → List Loc → Prop} (hown : s.vm.findClass own = some m.cls) (w1 : (Jvm.Cond.methodLink own idx y).before a0 Z = true) (wd : (Jvm.Cond.declares y).before a0 Z = true) (hnf : NotFace s y) (ws : (Jvm.Cond.selects D y z).before a0 Z = true) (w2 : (Jvm.Cond.instanceMethod z).before a0 Z = true) (w3 : (Jvm.Cond.initialized z.cls).before a0 Z = true) (w4 : (Jvm.Cond.code z bytes maxL ret).before a0 Z = true) (hy : y.cls ≠ "java/lang/invoke/MethodHandle" ∧ y.cls ≠ "java/lang/invoke/VarHandle") {b : Addr} (E : Exa Z h b D)
    (C : own_Con l Z z bytes maxL ret rm as' h Q') (eT : T.heap = h) {ps : List FieldType} {rt : Option FieldType} (hpd : parseMethodDescriptor y.desc = some ⟨ps, rt⟩) (argsL rest : List Value) (ha : (.ref b :: argsL).toArray = as') (hal : argsL.length = ps.length) {st : List Value} (hst : st = argsL.reverse ++ .ref b :: rest) {W : Nat} (hW : (rest.map fun v => v.category).sum ≤ W) (hf : rm.frames + 1 ≤ R.frames) (hl : W + (maxL + 11) + rm.locals ≤ R.locals) (hsz : ls.size = c.maxLocals) (hd : decode c.code pc = .ok (.invokevirtual idx, 3)) (hc : cells + rm.cells ≤ R.cells) (hs : slots + rm.slots ≤ R.slots) (hpc : pc + 3 = pc')
    (w : ∀ v T' L, Stand p l e R s m args below meth c T' (locs ++ L) (cells + rm.cells) (slots + rm.slots) → Q' v T'.heap L → own_WP p e below s Q k n (T'.setTop (mkF m pc' ls (v.toList ++ rest)))) : own_WP p e below s Q k n (T.setTop (mkF m pc ls st)) := by
  subst hpc hst ha
  obtain ⟨cq, kq, qa, qb, qc⟩ := isOf (T := T) hZ eT E
  obtain ⟨v, vm1, ⟨T', L', k', n'⟩, -, X', ⟨Lc, hQ, l1, y1, z1⟩, stp⟩ := X.virtualBack hx (y := y) (z := z) hown (mvT hZ w1) (mvT hZ wd) hnf (mvT hZ ws) (mvT hZ w2) hy (backOf (W := W) (C []) hZ w4 w3 hf hl) qa qc (g := mkF m pc ls (argsL.reverse ++ .ref b :: rest)) rfl hsz (Steps.refl _) (argsL := argsL) (rest := rest) (lenOf hpd hal) rfl (by show 2 * 0 + _ ≤ _; omega) hd (fun _ _ => ⟨rfl, eT, hc, hs⟩)
  dsimp only [Pt.U, Pt.locs, Pt.cells, Pt.slots] at X' l1 y1 z1 stp hQ
  subst l1 y1 z1
  exact own_of (fun t q => stp.trans q) (w _ _ _ X' hQ)

theorem own_laload (X : Stand p l e R s m args below meth c T locs cells slots) (hx : p.tables.exec = Jvm.exec) (hZ : Z.Warmed39 s.vm) (eT : T.heap = h) {b : Addr} {kk : ClassId} {z j : Int32} {vs : List Value} {dv v : Value} (F : Arv Z h b kk .long z vs dv) (hj : ¬ j < 0 ∧ j < z) (hv : vs.getD j.toNatClampNeg dv = v) (hd : decode c.code pc = .ok (.laload, 1)) (hpc : pc + 1 = pc') (w : own_WP p e below s Q k n (T.setTop (mkF m pc' ls (v :: rest)))) : own_WP p e below s Q k n (T.setTop (mkF m pc ls (.int j :: .ref b :: rest))) := by
  subst hpc
  obtain ⟨cl, A, q1, S, q3, H, G⟩ := F
  exact own_of (fun t q => X.laload hx (j := j) (v := v) (by rw [eT]; exact A.1) (State.isArrayOf_alike hZ.alike A.2.1) A.2.2 (inb_of S hj) (H.at (inb_of S hj) hv) (g := mkF m pc ls (.int j :: .ref b :: rest)) rfl rfl hd _ q) w
theorem own_baload (X : Stand p l e R s m args below meth c T locs cells slots) (hx : p.tables.exec = Jvm.exec) (hZ : Z.Warmed39 s.vm) (eT : T.heap = h) {b : Addr} {kk : ClassId} {z j : Int32} {vs : List Value} {dv v : Value} (F : Arv Z h b kk .byte z vs dv) (hj : ¬ j < 0 ∧ j < z) (hv : vs.getD j.toNatClampNeg dv = v) (hd : decode c.code pc = .ok (.baload, 1)) (hpc : pc + 1 = pc') (w : own_WP p e below s Q k n (T.setTop (mkF m pc' ls (v :: rest)))) : own_WP p e below s Q k n (T.setTop (mkF m pc ls (.int j :: .ref b :: rest))) := by
  subst hpc
  obtain ⟨cl, A, q1, S, q3, H, G⟩ := F
  exact own_of (fun t q => X.baloadBytes hx (j := j) (v := v) (by rw [eT]; exact A.1) (State.isArrayOf_alike hZ.alike A.2.1) A.2.2 (inb_of S hj) (H.at (inb_of S hj) hv) (g := mkF m pc ls (.int j :: .ref b :: rest)) rfl rfl hd _ q) w
theorem own_iaload (X : Stand p l e R s m args below meth c T locs cells slots) (hx : p.tables.exec = Jvm.exec) (hZ : Z.Warmed39 s.vm) (eT : T.heap = h) {b : Addr} {kk : ClassId} {z j : Int32} {vs : List Value} {dv v : Value} (F : Arv Z h b kk .int z vs dv) (hj : ¬ j < 0 ∧ j < z) (hv : vs.getD j.toNatClampNeg dv = v) (hd : decode c.code pc = .ok (.iaload, 1)) (hpc : pc + 1 = pc') (w : own_WP p e below s Q k n (T.setTop (mkF m pc' ls (v :: rest)))) : own_WP p e below s Q k n (T.setTop (mkF m pc ls (.int j :: .ref b :: rest))) := by
  subst hpc
  obtain ⟨cl, A, q1, S, q3, H, G⟩ := F
  exact own_of (fun t q => X.iaload hx (j := j) (v := v) (by rw [eT]; exact A.1) (State.isArrayOf_alike hZ.alike A.2.1) A.2.2 (inb_of S hj) (H.at (inb_of S hj) hv) (g := mkF m pc ls (.int j :: .ref b :: rest)) rfl rfl hd _ q) w
theorem own_caload (X : Stand p l e R s m args below meth c T locs cells slots) (hx : p.tables.exec = Jvm.exec) (hZ : Z.Warmed39 s.vm) (eT : T.heap = h) {b : Addr} {kk : ClassId} {z j : Int32} {vs : List Value} {dv v : Value} (F : Arv Z h b kk .char z vs dv) (hj : ¬ j < 0 ∧ j < z) (hv : vs.getD j.toNatClampNeg dv = v) (hd : decode c.code pc = .ok (.caload, 1)) (hpc : pc + 1 = pc') (w : own_WP p e below s Q k n (T.setTop (mkF m pc' ls (v :: rest)))) : own_WP p e below s Q k n (T.setTop (mkF m pc ls (.int j :: .ref b :: rest))) := by
  subst hpc
  obtain ⟨cl, A, q1, S, q3, H, G⟩ := F
  exact own_of (fun t q => X.caload hx (j := j) (v := v) (by rw [eT]; exact A.1) (State.isArrayOf_alike hZ.alike A.2.1) A.2.2 (inb_of S hj) (H.at (inb_of S hj) hv) (g := mkF m pc ls (.int j :: .ref b :: rest)) rfl rfl hd _ q) w
theorem own_lastore (X : Stand p l e R s m args below meth c T locs cells slots) (hx : p.tables.exec = Jvm.exec) (hZ : Z.Warmed39 s.vm) (eT : T.heap = h) {b : Addr} {kk : ClassId} {z j : Int32} {vs : List Value} {dv : Value} {x : Int64} (F : Arv Z h b kk .long z vs dv) (hj : ¬ j < 0 ∧ j < z) (i : Nat) (hi : j.toNatClampNeg = i) (hlen : i < vs.length) (hd : decode c.code pc = .ok (.lastore, 1)) (hpc : pc + 1 = pc') (w : ∀ T' h', Stand p l e R s m args below meth c T' (locs ++ [⟨b, j.toNatClampNeg⟩]) cells slots → T'.heap = h' → Wr h h' b j.toNatClampNeg (.long x) → Arv Z h' b kk .long z (vs.set i (.long x)) dv → own_WP p e below s Q k n (T'.setTop (mkF m pc' ls rest))) : own_WP p e below s Q k n (T.setTop (mkF m pc ls (.long x :: .int j :: .ref b :: rest))) := by
  subst hpc
  obtain ⟨cl, A, q1, S, q3, H, G⟩ := F
  obtain ⟨T', h', X', e', W', st⟩ := stJ X hx hZ eT A (j := j) (inb_of S hj) (g := mkF m pc ls (.long x :: .int j :: .ref b :: rest)) rfl rfl hd
  exact own_of st (w T' h' X' e' W' (Arv.set A q1 S q3 H G rfl W' i hi hlen))
theorem own_bastore (X : Stand p l e R s m args below meth c T locs cells slots) (hx : p.tables.exec = Jvm.exec) (hZ : Z.Warmed39 s.vm) (eT : T.heap = h) {b : Addr} {kk : ClassId} {z j : Int32} {vs : List Value} {dv : Value} {x : Int32} (F : Arv Z h b kk .byte z vs dv) (hj : ¬ j < 0 ∧ j < z) (i : Nat) (hi : j.toNatClampNeg = i) (hlen : i < vs.length) (hd : decode c.code pc = .ok (.bastore, 1)) (hpc : pc + 1 = pc') (w : ∀ T' h', Stand p l e R s m args below meth c T' (locs ++ [⟨b, j.toNatClampNeg⟩]) cells slots → T'.heap = h' → Wr h h' b j.toNatClampNeg (.int (nar .byte x)) → Arv Z h' b kk .byte z (vs.set i (.int (nar .byte x))) dv → own_WP p e below s Q k n (T'.setTop (mkF m pc' ls rest))) : own_WP p e below s Q k n (T.setTop (mkF m pc ls (.int x :: .int j :: .ref b :: rest))) := by
  subst hpc
  obtain ⟨cl, A, q1, S, q3, H, G⟩ := F
  obtain ⟨T', h', X', e', W', st⟩ := stB X hx hZ eT A (j := j) (inb_of S hj) (g := mkF m pc ls (.int x :: .int j :: .ref b :: rest)) rfl rfl hd
  exact own_of st (w T' h' X' e' W' (Arv.set A q1 S q3 H G (fits_nar_byte x) W' i hi hlen))
theorem own_iastore (X : Stand p l e R s m args below meth c T locs cells slots) (hx : p.tables.exec = Jvm.exec) (hZ : Z.Warmed39 s.vm) (eT : T.heap = h) {b : Addr} {kk : ClassId} {z j : Int32} {vs : List Value} {dv : Value} {x : Int32} (F : Arv Z h b kk .int z vs dv) (hj : ¬ j < 0 ∧ j < z) (i : Nat) (hi : j.toNatClampNeg = i) (hlen : i < vs.length) (hd : decode c.code pc = .ok (.iastore, 1)) (hpc : pc + 1 = pc') (w : ∀ T' h', Stand p l e R s m args below meth c T' (locs ++ [⟨b, j.toNatClampNeg⟩]) cells slots → T'.heap = h' → Wr h h' b j.toNatClampNeg (.int x) → Arv Z h' b kk .int z (vs.set i (.int x)) dv → own_WP p e below s Q k n (T'.setTop (mkF m pc' ls rest))) : own_WP p e below s Q k n (T.setTop (mkF m pc ls (.int x :: .int j :: .ref b :: rest))) := by
  subst hpc
  obtain ⟨cl, A, q1, S, q3, H, G⟩ := F
  obtain ⟨T', h', X', e', W', st⟩ := stI X hx hZ eT A (j := j) (inb_of S hj) (g := mkF m pc ls (.int x :: .int j :: .ref b :: rest)) rfl rfl hd
  exact own_of st (w T' h' X' e' W' (Arv.set A q1 S q3 H G rfl W' i hi hlen))
theorem own_arrlen (X : Stand p l e R s m args below meth c T locs cells slots) (hx : p.tables.exec = Jvm.exec) (hZ : Z.Warmed39 s.vm) (eT : T.heap = h) {b : Addr} {kk : ClassId} {z : Int32} {vs : List Value} {dv : Value} {ty : FieldType} (F : Arv Z h b kk ty z vs dv) (hd : decode c.code pc = .ok (.arraylength, 1)) (hpc : pc + 1 = pc') (w : own_WP p e below s Q k n (T.setTop (mkF m pc' ls (.int z :: rest)))) : own_WP p e below s Q k n (T.setTop (mkF m pc ls (.ref b :: rest))) := by
  subst hpc
  obtain ⟨cl, A, q1, S, q3, H, G⟩ := F
  refine own_of (fun t q => X.arraylength hx (by rw [eT]; exact A.1) (State.isArrayOf_alike hZ.alike A.2.1) (g := mkF m pc ls (.ref b :: rest)) rfl rfl hd _ ?_) w
  rw [len_of S q3]
  exact q
end OwnWP

theorem own_isb (y : Int32) : nar .byte (nar .byte y) = nar .byte y := by
  show (y.toInt8.toInt32).toInt8.toInt32 = y.toInt8.toInt32
  simp
abbrev own_P (b : Int32) : Prop := b = 32 ∨ b = 9 ∨ b = 13
def own_bk (b : Int32) : Int32 := if own_P b then 1 else 0
def own_al (l : List Int32) : Int32 := if ∀ b ∈ l, own_P b then 1 else 0
theorem own_bkY {b r : Int32} (h : r = own_bk b) (h0 : ¬ r = 0) : own_P b := by
  unfold own_bk at h
  split at h
  · assumption
  · exact absurd h h0
theorem own_bkN {b r : Int32} (h : r = own_bk b) (h0 : r = 0) : ¬ own_P b := by
  unfold own_bk at h
  split at h
  · rw [h] at h0; exact absurd h0 (by decide)
  · assumption
theorem own_len5 (x v : Int32) (h : v = (x &&& (2147483647 : Int32)) % 5) : v = 0 ∨ v = 1 ∨ v = 2 ∨ v = 3 ∨ v = 4 := by
  have a := c_and x 2147483647 (by decide)
  have b := (c_irem (x &&& 2147483647) 5 5 (by decide)).1 a.1
  rw [← h] at b
  have e : v.toInt = 0 ∨ v.toInt = 1 ∨ v.toInt = 2 ∨ v.toInt = 3 ∨ v.toInt = 4 := by omega
  rcases e with e | e | e | e | e
  · exact Or.inl (Int32.toInt_inj.mp e)
  · exact Or.inr (Or.inl (Int32.toInt_inj.mp e))
  · exact Or.inr (Or.inr (Or.inl (Int32.toInt_inj.mp e)))
  · exact Or.inr (Or.inr (Or.inr (Or.inl (Int32.toInt_inj.mp e))))
  · exact Or.inr (Or.inr (Or.inr (Or.inr (Int32.toInt_inj.mp e))))

theorem d1_0 : decode method_3_code 0 = .ok (.iload_n 0, 1) := by decide +kernel
theorem d1_1 : decode method_3_code 1 = .ok (.bipush 8, 2) := by decide +kernel
theorem d1_3 : decode method_3_code 3 = .ok (.iushr, 1) := by decide +kernel
theorem d1_4 : decode method_3_code 4 = .ok (.iconst 3, 1) := by decide +kernel
theorem d1_5 : decode method_3_code 5 = .ok (.iand, 1) := by decide +kernel
theorem d1_6 : decode method_3_code 6 = .ok (.istore_n 1, 1) := by decide +kernel
theorem d1_7 : decode method_3_code 7 = .ok (.iload_n 1, 1) := by decide +kernel
theorem d1_8 : decode method_3_code 8 = .ok (.ifCond .ne 6, 3) := by decide +kernel
theorem d1_11 : decode method_3_code 11 = .ok (.bipush 32, 2) := by decide +kernel
theorem d1_13 : decode method_3_code 13 = .ok (.ireturn, 1) := by decide +kernel
theorem d1_14 : decode method_3_code 14 = .ok (.iload_n 1, 1) := by decide +kernel
theorem d1_15 : decode method_3_code 15 = .ok (.iconst 1, 1) := by decide +kernel
theorem d1_16 : decode method_3_code 16 = .ok (.if_icmp .ne 6, 3) := by decide +kernel
theorem d1_19 : decode method_3_code 19 = .ok (.bipush 9, 2) := by decide +kernel
theorem d1_21 : decode method_3_code 21 = .ok (.ireturn, 1) := by decide +kernel
theorem d1_22 : decode method_3_code 22 = .ok (.iload_n 1, 1) := by decide +kernel
theorem d1_23 : decode method_3_code 23 = .ok (.iconst 2, 1) := by decide +kernel
theorem d1_24 : decode method_3_code 24 = .ok (.if_icmp .ne 6, 3) := by decide +kernel
theorem d1_27 : decode method_3_code 27 = .ok (.bipush 13, 2) := by decide +kernel
theorem d1_29 : decode method_3_code 29 = .ok (.ireturn, 1) := by decide +kernel
theorem d1_30 : decode method_3_code 30 = .ok (.iload_n 0, 1) := by decide +kernel
theorem d1_31 : decode method_3_code 31 = .ok (.i2b, 1) := by decide +kernel
theorem d1_32 : decode method_3_code 32 = .ok (.ireturn, 1) := by decide +kernel
theorem pn_1 : plainFor (⟨"com/example/ossify/ossify/EventIsBlankPinLaw", "pick", "(I)B"⟩ : MethodName) = true := plainFor_of_name (by first | (simp [plainName, overriddenIn]; done) | decide +kernel)
theorem ef_conP (m : MethodId) (c1 : Int32) : entryFrame m #[(.int c1)] 2 = mkF m 0 #[.val (.int c1), .unset] [] := by first | (simp [entryFrame, mkF, argsToLocals, Value.category]; done) | rfl
set_option maxRecDepth 65536 in
set_option maxHeartbeats 4000000 in
theorem conP (l : Launch) (Z : State) (a0 : Array Value) (hw : ∀ d ∈ tables_1, d.before a0 Z = true) (c1 : Int32) (h0 : Heap) :
    own_Con l Z (⟨"com/example/ossify/ossify/EventIsBlankPinLaw", "pick", "(I)B"⟩ : MethodName) method_3_code 2 (some .byte) ({ frames := 0, cells := 0, slots := 0, locals := 0 } : Room) #[(.int c1)] h0 (fun v h L => ∃ z : Int32, v = some (.int z) ∧ nar .byte z = z ∧ L = [] ∧ h = h0) := by
  refine own_Con_of pn_1 ?_
  intro p e s m below meth c s₁ X0 hx hby hml hret hlk hnm hown hZ e0
  have hown : s.vm.findClass "com/example/ossify/ossify/EventIsBlankPinLaw" = some m.cls := hown
  have hml : c.maxLocals = 2 := hml
  show own_WP _ _ _ _ _ _ _ (s₁.setTop (entryFrame m #[(.int c1)] 2))
  rw [ef_conP m c1]
  refine own_iloadN (pc' := 1) X0 hx (hb hby d1_0) rfl rfl ?_
  refine own_bipush (pc' := 3) X0 hx (8 : Int32) (hb hby d1_1) rfl rfl ?_
  refine own_iushr (pc' := 4) X0 hx (hb hby d1_3) rfl ?_
  refine own_iconst (pc' := 5) X0 hx (3 : Int32) (hb hby d1_4) rfl rfl ?_
  refine own_iand (pc' := 6) X0 hx (hb hby d1_5) rfl ?_
  obtain ⟨v1, hv1⟩ : ∃ z : Int32, z = (((c1.toUInt32 >>> ((8 : Int32) &&& 31).toUInt32).toInt32) &&& (3 : Int32)) := ⟨_, rfl⟩
  refine own_istoreN (pc' := 7) (l' := #[.val (.int c1), .val (.int v1)]) X0 hx (hb hby d1_6) hv1 rfl rfl ?_
  refine own_iloadN (pc' := 8) X0 hx (hb hby d1_7) rfl rfl ?_
  refine own_if_ne (pt := 14) (pf := 11) X0 hx (hb hby d1_8) rfl (by decide) rfl (fun hc8 => ?_) (fun hc8 => ?_)
  · skip
    refine own_iloadN (pc' := 15) X0 hx (hb hby d1_14) rfl rfl ?_
    refine own_iconst (pc' := 16) X0 hx (1 : Int32) (hb hby d1_15) rfl rfl ?_
    refine own_icmp_ne (pt := 22) (pf := 19) X0 hx (hb hby d1_16) rfl (by decide) rfl (fun hc16 => ?_) (fun hc16 => ?_)
    · skip
      refine own_iloadN (pc' := 23) X0 hx (hb hby d1_22) rfl rfl ?_
      refine own_iconst (pc' := 24) X0 hx (2 : Int32) (hb hby d1_23) rfl rfl ?_
      refine own_icmp_ne (pt := 30) (pf := 27) X0 hx (hb hby d1_24) rfl (by decide) rfl (fun hc24 => ?_) (fun hc24 => ?_)
      · skip
        refine own_iloadN (pc' := 31) X0 hx (hb hby d1_30) rfl rfl ?_
        refine own_i2b (pc' := 32) X0 hx (hb hby d1_31) rfl ?_
        refine own_retN X0 hx hlk (t := .byte) (by decide) hret (hb hby d1_32) (by decide) (by decide) ?_
        exact ⟨_, rfl, own_isb _, rfl, e0⟩
      · skip
        refine own_bipush (pc' := 29) X0 hx (13 : Int32) (hb hby d1_27) rfl rfl ?_
        refine own_retN X0 hx hlk (t := .byte) (by decide) hret (hb hby d1_29) (by decide) (by decide) ?_
        exact ⟨_, rfl, own_isb _, rfl, e0⟩
    · skip
      refine own_bipush (pc' := 21) X0 hx (9 : Int32) (hb hby d1_19) rfl rfl ?_
      refine own_retN X0 hx hlk (t := .byte) (by decide) hret (hb hby d1_21) (by decide) (by decide) ?_
      exact ⟨_, rfl, own_isb _, rfl, e0⟩
  · skip
    refine own_bipush (pc' := 13) X0 hx (32 : Int32) (hb hby d1_11) rfl rfl ?_
    refine own_retN X0 hx hlk (t := .byte) (by decide) hret (hb hby d1_13) (by decide) (by decide) ?_
    exact ⟨_, rfl, own_isb _, rfl, e0⟩
theorem d3_0 : decode method_4_code 0 = .ok (.iload_n 0, 1) := by decide +kernel
theorem d3_1 : decode method_4_code 1 = .ok (.bipush 32, 2) := by decide +kernel
theorem d3_3 : decode method_4_code 3 = .ok (.if_icmp .eq 15, 3) := by decide +kernel
theorem d3_6 : decode method_4_code 6 = .ok (.iload_n 0, 1) := by decide +kernel
theorem d3_7 : decode method_4_code 7 = .ok (.bipush 9, 2) := by decide +kernel
theorem d3_9 : decode method_4_code 9 = .ok (.if_icmp .eq 9, 3) := by decide +kernel
theorem d3_12 : decode method_4_code 12 = .ok (.iload_n 0, 1) := by decide +kernel
theorem d3_13 : decode method_4_code 13 = .ok (.bipush 13, 2) := by decide +kernel
theorem d3_15 : decode method_4_code 15 = .ok (.if_icmp .ne 7, 3) := by decide +kernel
theorem d3_18 : decode method_4_code 18 = .ok (.iconst 1, 1) := by decide +kernel
theorem d3_19 : decode method_4_code 19 = .ok (.goto 4, 3) := by decide +kernel
theorem d3_22 : decode method_4_code 22 = .ok (.iconst 0, 1) := by decide +kernel
theorem d3_23 : decode method_4_code 23 = .ok (.ireturn, 1) := by decide +kernel
theorem pn_3 : plainFor (⟨"com/example/ossify/ossify/EventIsBlankPinLaw", "blank", "(B)Z"⟩ : MethodName) = true := plainFor_of_name (by first | (simp [plainName, overriddenIn]; done) | decide +kernel)
theorem ef_conK (m : MethodId) (c1 : Int32) : entryFrame m #[(.int c1)] 1 = mkF m 0 #[.val (.int c1)] [] := by first | (simp [entryFrame, mkF, argsToLocals, Value.category]; done) | rfl
set_option maxRecDepth 65536 in
set_option maxHeartbeats 4000000 in
theorem conK (l : Launch) (Z : State) (a0 : Array Value) (hw : ∀ d ∈ tables_1, d.before a0 Z = true) (c1 : Int32) (h0 : Heap) :
    own_Con l Z (⟨"com/example/ossify/ossify/EventIsBlankPinLaw", "blank", "(B)Z"⟩ : MethodName) method_4_code 1 (some .boolean) ({ frames := 0, cells := 0, slots := 0, locals := 0 } : Room) #[(.int c1)] h0 (fun v h L => ∃ z : Int32, v = some (.int z) ∧ z = own_bk c1 ∧ L = [] ∧ h = h0) := by
  refine own_Con_of pn_3 ?_
  intro p e s m below meth c s₁ X0 hx hby hml hret hlk hnm hown hZ e0
  have hown : s.vm.findClass "com/example/ossify/ossify/EventIsBlankPinLaw" = some m.cls := hown
  have hml : c.maxLocals = 1 := hml
  show own_WP _ _ _ _ _ _ _ (s₁.setTop (entryFrame m #[(.int c1)] 1))
  rw [ef_conK m c1]
  refine own_iloadN (pc' := 1) X0 hx (hb hby d3_0) rfl rfl ?_
  refine own_bipush (pc' := 3) X0 hx (32 : Int32) (hb hby d3_1) rfl rfl ?_
  refine own_icmp_eq (pt := 18) (pf := 6) X0 hx (hb hby d3_3) rfl (by decide) rfl (fun hc3 => ?_) (fun hc3 => ?_)
  · skip
    refine own_iconst (pc' := 19) X0 hx (1 : Int32) (hb hby d3_18) rfl rfl ?_
    refine own_goto (pc' := 23) X0 hx (hb hby d3_19) (by decide) rfl ?_
    refine own_retN X0 hx hlk (t := .boolean) (by decide) hret (hb hby d3_23) (by decide) (by decide) ?_
    exact ⟨(1 : Int32), rfl, by simp [own_bk, own_P, hc3], rfl, e0⟩
  · skip
    refine own_iloadN (pc' := 7) X0 hx (hb hby d3_6) rfl rfl ?_
    refine own_bipush (pc' := 9) X0 hx (9 : Int32) (hb hby d3_7) rfl rfl ?_
    refine own_icmp_eq (pt := 18) (pf := 12) X0 hx (hb hby d3_9) rfl (by decide) rfl (fun hc9 => ?_) (fun hc9 => ?_)
    · skip
      refine own_iconst (pc' := 19) X0 hx (1 : Int32) (hb hby d3_18) rfl rfl ?_
      refine own_goto (pc' := 23) X0 hx (hb hby d3_19) (by decide) rfl ?_
      refine own_retN X0 hx hlk (t := .boolean) (by decide) hret (hb hby d3_23) (by decide) (by decide) ?_
      exact ⟨(1 : Int32), rfl, by simp [own_bk, own_P, hc3, hc9], rfl, e0⟩
    · skip
      refine own_iloadN (pc' := 13) X0 hx (hb hby d3_12) rfl rfl ?_
      refine own_bipush (pc' := 15) X0 hx (13 : Int32) (hb hby d3_13) rfl rfl ?_
      refine own_icmp_ne (pt := 22) (pf := 18) X0 hx (hb hby d3_15) rfl (by decide) rfl (fun hc15 => ?_) (fun hc15 => ?_)
      · skip
        refine own_iconst (pc' := 23) X0 hx (0 : Int32) (hb hby d3_22) rfl rfl ?_
        refine own_retN X0 hx hlk (t := .boolean) (by decide) hret (hb hby d3_23) (by decide) (by decide) ?_
        exact ⟨(0 : Int32), rfl, by simp [own_bk, own_P, hc3, hc9, hc15], rfl, e0⟩
      · skip
        refine own_iconst (pc' := 19) X0 hx (1 : Int32) (hb hby d3_18) rfl rfl ?_
        refine own_goto (pc' := 23) X0 hx (hb hby d3_19) (by decide) rfl ?_
        refine own_retN X0 hx hlk (t := .boolean) (by decide) hret (hb hby d3_23) (by decide) (by decide) ?_
        exact ⟨(1 : Int32), rfl, by simp [own_bk, own_P, hc3, hc9, hc15], rfl, e0⟩
theorem d2_0 : decode prog_11_method_4_code 0 = .ok (.aload_n 0, 1) := by decide +kernel
theorem d2_1 : decode prog_11_method_4_code 1 = .ok (.arraylength, 1) := by decide +kernel
theorem d2_2 : decode prog_11_method_4_code 2 = .ok (.ldc 9, 2) := by decide +kernel
theorem d2_4 : decode prog_11_method_4_code 4 = .ok (.if_icmp .le 5, 3) := by decide +kernel
theorem d2_7 : decode prog_11_method_4_code 7 = .ok (.iconst 0, 1) := by decide +kernel
theorem d2_8 : decode prog_11_method_4_code 8 = .ok (.ireturn, 1) := by decide +kernel
theorem d2_9 : decode prog_11_method_4_code 9 = .ok (.aload_n 0, 1) := by decide +kernel
theorem d2_10 : decode prog_11_method_4_code 10 = .ok (.astore_n 1, 1) := by decide +kernel
theorem d2_11 : decode prog_11_method_4_code 11 = .ok (.aload_n 1, 1) := by decide +kernel
theorem d2_12 : decode prog_11_method_4_code 12 = .ok (.arraylength, 1) := by decide +kernel
theorem d2_13 : decode prog_11_method_4_code 13 = .ok (.istore_n 2, 1) := by decide +kernel
theorem d2_14 : decode prog_11_method_4_code 14 = .ok (.iconst 0, 1) := by decide +kernel
theorem d2_15 : decode prog_11_method_4_code 15 = .ok (.istore_n 3, 1) := by decide +kernel
theorem d2_16 : decode prog_11_method_4_code 16 = .ok (.iload_n 3, 1) := by decide +kernel
theorem d2_17 : decode prog_11_method_4_code 17 = .ok (.iload_n 2, 1) := by decide +kernel
theorem d2_18 : decode prog_11_method_4_code 18 = .ok (.if_icmp .ge 37, 3) := by decide +kernel
theorem d2_21 : decode prog_11_method_4_code 21 = .ok (.aload_n 1, 1) := by decide +kernel
theorem d2_22 : decode prog_11_method_4_code 22 = .ok (.iload_n 3, 1) := by decide +kernel
theorem d2_23 : decode prog_11_method_4_code 23 = .ok (.baload, 1) := by decide +kernel
theorem d2_24 : decode prog_11_method_4_code 24 = .ok (.istore 4, 2) := by decide +kernel
theorem d2_26 : decode prog_11_method_4_code 26 = .ok (.iload 4, 2) := by decide +kernel
theorem d2_28 : decode prog_11_method_4_code 28 = .ok (.bipush 32, 2) := by decide +kernel
theorem d2_30 : decode prog_11_method_4_code 30 = .ok (.if_icmp .eq 19, 3) := by decide +kernel
theorem d2_33 : decode prog_11_method_4_code 33 = .ok (.iload 4, 2) := by decide +kernel
theorem d2_35 : decode prog_11_method_4_code 35 = .ok (.bipush 9, 2) := by decide +kernel
theorem d2_37 : decode prog_11_method_4_code 37 = .ok (.if_icmp .eq 12, 3) := by decide +kernel
theorem d2_40 : decode prog_11_method_4_code 40 = .ok (.iload 4, 2) := by decide +kernel
theorem d2_42 : decode prog_11_method_4_code 42 = .ok (.bipush 13, 2) := by decide +kernel
theorem d2_44 : decode prog_11_method_4_code 44 = .ok (.if_icmp .eq 5, 3) := by decide +kernel
theorem d2_47 : decode prog_11_method_4_code 47 = .ok (.iconst 0, 1) := by decide +kernel
theorem d2_48 : decode prog_11_method_4_code 48 = .ok (.ireturn, 1) := by decide +kernel
theorem d2_49 : decode prog_11_method_4_code 49 = .ok (.iinc 3 1, 3) := by decide +kernel
theorem d2_52 : decode prog_11_method_4_code 52 = .ok (.goto (-36), 3) := by decide +kernel
theorem d2_55 : decode prog_11_method_4_code 55 = .ok (.iconst 1, 1) := by decide +kernel
theorem d2_56 : decode prog_11_method_4_code 56 = .ok (.ireturn, 1) := by decide +kernel
theorem pn_2 : plainFor (⟨"com/example/ossify/ossify/Event", "isBlank", "([B)Z"⟩ : MethodName) = true := plainFor_of_name (by first | (simp [plainName, overriddenIn]; done) | decide +kernel)
theorem ef_conB0 (m : MethodId) (a1 : Addr) : entryFrame m #[(.ref a1)] 5 = mkF m 0 #[.val (.ref a1), .unset, .unset, .unset, .unset] [] := by first | (simp [entryFrame, mkF, argsToLocals, Value.category]; done) | rfl
set_option maxRecDepth 65536 in
set_option maxHeartbeats 4000000 in
theorem conB0 (l : Launch) (Z : State) (a0 : Array Value) (hw : ∀ d ∈ tables_1, d.before a0 Z = true) (a1 : Addr) (h0 : Heap) (kk : ClassId) (V1 : Arv Z h0 a1 kk .byte 0 [] (.int 0)) :
    own_Con l Z (⟨"com/example/ossify/ossify/Event", "isBlank", "([B)Z"⟩ : MethodName) prog_11_method_4_code 5 (some .boolean) ({ frames := 0, cells := 0, slots := 0, locals := 0 } : Room) #[(.ref a1)] h0 (fun v h L => ∃ z : Int32, v = some (.int z) ∧ z = own_al [] ∧ L = [] ∧ h = h0) := by
  refine own_Con_of pn_2 ?_
  intro p e s m below meth c s₁ X0 hx hby hml hret hlk hnm hown hZ e0
  have hown : s.vm.findClass "com/example/ossify/ossify/Event" = some m.cls := hown
  have hml : c.maxLocals = 5 := hml
  show own_WP _ _ _ _ _ _ _ (s₁.setTop (entryFrame m #[(.ref a1)] 5))
  rw [ef_conB0 m a1]
  refine own_aloadN (pc' := 1) X0 hx (hb hby d2_0) rfl rfl rfl ?_
  refine own_arrlen (pc' := 2) X0 hx hZ e0 V1 (hb hby d2_1) rfl ?_
  refine own_ldcInt (pc' := 4) X0 hx hZ hown (own_w hw 10 rfl) (hb hby d2_2) rfl ?_
  refine own_icmp_le (pt := 9) (pf := 7) X0 hx (hb hby d2_4) rfl (by decide) rfl (fun hc4 => ?_) (fun hc4 => absurd hc4 (by decide))
  refine own_aloadN (pc' := 10) X0 hx (hb hby d2_9) rfl rfl rfl ?_
  refine own_astoreN (pc' := 11) (l' := #[.val (.ref a1), .val (.ref a1), .unset, .unset, .unset]) X0 hx (hb hby d2_10) rfl rfl rfl ?_
  refine own_aloadN (pc' := 12) X0 hx (hb hby d2_11) rfl rfl rfl ?_
  refine own_arrlen (pc' := 13) X0 hx hZ e0 V1 (hb hby d2_12) rfl ?_
  refine own_istoreN (pc' := 14) (l' := #[.val (.ref a1), .val (.ref a1), .val (.int (0 : Int32)), .unset, .unset]) X0 hx (hb hby d2_13) rfl rfl rfl ?_
  refine own_iconst (pc' := 15) X0 hx (0 : Int32) (hb hby d2_14) rfl rfl ?_
  refine own_istoreN (pc' := 16) (l' := #[.val (.ref a1), .val (.ref a1), .val (.int (0 : Int32)), .val (.int (0 : Int32)), .unset]) X0 hx (hb hby d2_15) rfl rfl rfl ?_
  refine own_iloadN (pc' := 17) X0 hx (hb hby d2_16) rfl rfl ?_
  refine own_iloadN (pc' := 18) X0 hx (hb hby d2_17) rfl rfl ?_
  refine own_icmp_ge (pt := 55) (pf := 21) X0 hx (hb hby d2_18) rfl (by decide) rfl (fun hc18 => ?_) (fun hc18 => absurd hc18 (by decide))
  refine own_iconst (pc' := 56) X0 hx (1 : Int32) (hb hby d2_55) rfl rfl ?_
  refine own_retN X0 hx hlk (t := .boolean) (by decide) hret (hb hby d2_56) (by decide) (by decide) ?_
  refine ⟨1, rfl, ?_, rfl, e0⟩
  simp [own_al, ]
theorem ef_conB1 (m : MethodId) (a1 : Addr) : entryFrame m #[(.ref a1)] 5 = mkF m 0 #[.val (.ref a1), .unset, .unset, .unset, .unset] [] := by first | (simp [entryFrame, mkF, argsToLocals, Value.category]; done) | rfl
set_option maxRecDepth 65536 in
set_option maxHeartbeats 4000000 in
theorem conB1 (l : Launch) (Z : State) (a0 : Array Value) (hw : ∀ d ∈ tables_1, d.before a0 Z = true) (a1 : Addr) (h0 : Heap) (kk : ClassId) (b0 : Int32) (V1 : Arv Z h0 a1 kk .byte 1 [(.int b0)] (.int 0)) :
    own_Con l Z (⟨"com/example/ossify/ossify/Event", "isBlank", "([B)Z"⟩ : MethodName) prog_11_method_4_code 5 (some .boolean) ({ frames := 0, cells := 0, slots := 0, locals := 0 } : Room) #[(.ref a1)] h0 (fun v h L => ∃ z : Int32, v = some (.int z) ∧ z = own_al [b0] ∧ L = [] ∧ h = h0) := by
  refine own_Con_of pn_2 ?_
  intro p e s m below meth c s₁ X0 hx hby hml hret hlk hnm hown hZ e0
  have hown : s.vm.findClass "com/example/ossify/ossify/Event" = some m.cls := hown
  have hml : c.maxLocals = 5 := hml
  show own_WP _ _ _ _ _ _ _ (s₁.setTop (entryFrame m #[(.ref a1)] 5))
  rw [ef_conB1 m a1]
  refine own_aloadN (pc' := 1) X0 hx (hb hby d2_0) rfl rfl rfl ?_
  refine own_arrlen (pc' := 2) X0 hx hZ e0 V1 (hb hby d2_1) rfl ?_
  refine own_ldcInt (pc' := 4) X0 hx hZ hown (own_w hw 10 rfl) (hb hby d2_2) rfl ?_
  refine own_icmp_le (pt := 9) (pf := 7) X0 hx (hb hby d2_4) rfl (by decide) rfl (fun hc4 => ?_) (fun hc4 => absurd hc4 (by decide))
  refine own_aloadN (pc' := 10) X0 hx (hb hby d2_9) rfl rfl rfl ?_
  refine own_astoreN (pc' := 11) (l' := #[.val (.ref a1), .val (.ref a1), .unset, .unset, .unset]) X0 hx (hb hby d2_10) rfl rfl rfl ?_
  refine own_aloadN (pc' := 12) X0 hx (hb hby d2_11) rfl rfl rfl ?_
  refine own_arrlen (pc' := 13) X0 hx hZ e0 V1 (hb hby d2_12) rfl ?_
  refine own_istoreN (pc' := 14) (l' := #[.val (.ref a1), .val (.ref a1), .val (.int (1 : Int32)), .unset, .unset]) X0 hx (hb hby d2_13) rfl rfl rfl ?_
  refine own_iconst (pc' := 15) X0 hx (0 : Int32) (hb hby d2_14) rfl rfl ?_
  refine own_istoreN (pc' := 16) (l' := #[.val (.ref a1), .val (.ref a1), .val (.int (1 : Int32)), .val (.int (0 : Int32)), .unset]) X0 hx (hb hby d2_15) rfl rfl rfl ?_
  refine own_iloadN (pc' := 17) X0 hx (hb hby d2_16) rfl rfl ?_
  refine own_iloadN (pc' := 18) X0 hx (hb hby d2_17) rfl rfl ?_
  refine own_icmp_ge (pt := 55) (pf := 21) X0 hx (hb hby d2_18) rfl (by decide) rfl (fun hc18 => absurd (by decide) hc18) (fun hc18 => ?_)
  refine own_aloadN (pc' := 22) X0 hx (hb hby d2_21) rfl rfl rfl ?_
  refine own_iloadN (pc' := 23) X0 hx (hb hby d2_22) rfl rfl ?_
  refine own_baload (pc' := 24) (v := (.int b0)) X0 hx hZ e0 V1 ⟨by decide, by decide⟩ rfl (hb hby d2_23) rfl ?_
  refine own_istore (pc' := 26) (l' := #[.val (.ref a1), .val (.ref a1), .val (.int (1 : Int32)), .val (.int (0 : Int32)), .val (.int b0)]) X0 hx (hb hby d2_24) rfl rfl rfl ?_
  refine own_iload (pc' := 28) X0 hx (hb hby d2_26) rfl rfl ?_
  refine own_bipush (pc' := 30) X0 hx (32 : Int32) (hb hby d2_28) rfl rfl ?_
  refine own_join (fun _ : Unit => own_P b0) (fun _ => s₁.setTop (mkF m 49 #[.val (.ref a1), .val (.ref a1), .val (.int (1 : Int32)), .val (.int (0 : Int32)), .val (.int b0)] [])) (fun J49 => ?_) (fun _ hPb0 => ?_)
  · skip
    refine own_icmp_eq (pt := 49) (pf := 33) X0 hx (hb hby d2_30) rfl (by decide) rfl (fun hc30 => ?_) (fun hc30 => ?_)
    · skip
      exact J49 () (Or.inl hc30)
    · skip
      refine own_iload (pc' := 35) X0 hx (hb hby d2_33) rfl rfl ?_
      refine own_bipush (pc' := 37) X0 hx (9 : Int32) (hb hby d2_35) rfl rfl ?_
      refine own_icmp_eq (pt := 49) (pf := 40) X0 hx (hb hby d2_37) rfl (by decide) rfl (fun hc37 => ?_) (fun hc37 => ?_)
      · skip
        exact J49 () (Or.inr (Or.inl hc37))
      · skip
        refine own_iload (pc' := 42) X0 hx (hb hby d2_40) rfl rfl ?_
        refine own_bipush (pc' := 44) X0 hx (13 : Int32) (hb hby d2_42) rfl rfl ?_
        refine own_icmp_eq (pt := 49) (pf := 47) X0 hx (hb hby d2_44) rfl (by decide) rfl (fun hc44 => ?_) (fun hc44 => ?_)
        · skip
          exact J49 () (Or.inr (Or.inr hc44))
        · skip
          refine own_iconst (pc' := 48) X0 hx (0 : Int32) (hb hby d2_47) rfl rfl ?_
          refine own_retN X0 hx hlk (t := .boolean) (by decide) hret (hb hby d2_48) (by decide) (by decide) ?_
          refine ⟨0, rfl, ?_, rfl, e0⟩
          have hn : ¬ own_P b0 := by simp [own_P, hc30, hc37, hc44]
          simp [own_al, hn]
  · skip
    show own_WP _ _ _ _ _ _ _ (s₁.setTop (mkF m 49 #[.val (.ref a1), .val (.ref a1), .val (.int (1 : Int32)), .val (.int (0 : Int32)), .val (.int b0)] []))
    refine own_iinc (pc' := 52) (l' := #[.val (.ref a1), .val (.ref a1), .val (.int (1 : Int32)), .val (.int (1 : Int32)), .val (.int b0)]) X0 hx (hb hby d2_49) rfl (by decide) rfl rfl ?_
    refine own_goto (pc' := 16) X0 hx (hb hby d2_52) (by decide) rfl ?_
    refine own_iloadN (pc' := 17) X0 hx (hb hby d2_16) rfl rfl ?_
    refine own_iloadN (pc' := 18) X0 hx (hb hby d2_17) rfl rfl ?_
    refine own_icmp_ge (pt := 55) (pf := 21) X0 hx (hb hby d2_18) rfl (by decide) rfl (fun hc18_1 => ?_) (fun hc18_1 => absurd hc18_1 (by decide))
    refine own_iconst (pc' := 56) X0 hx (1 : Int32) (hb hby d2_55) rfl rfl ?_
    refine own_retN X0 hx hlk (t := .boolean) (by decide) hret (hb hby d2_56) (by decide) (by decide) ?_
    refine ⟨1, rfl, ?_, rfl, e0⟩
    simp [own_al, hPb0]
theorem ef_conB2 (m : MethodId) (a1 : Addr) : entryFrame m #[(.ref a1)] 5 = mkF m 0 #[.val (.ref a1), .unset, .unset, .unset, .unset] [] := by first | (simp [entryFrame, mkF, argsToLocals, Value.category]; done) | rfl
set_option maxRecDepth 65536 in
set_option maxHeartbeats 4000000 in
theorem conB2 (l : Launch) (Z : State) (a0 : Array Value) (hw : ∀ d ∈ tables_1, d.before a0 Z = true) (a1 : Addr) (h0 : Heap) (kk : ClassId) (b0 b1 : Int32) (V1 : Arv Z h0 a1 kk .byte 2 [(.int b0), (.int b1)] (.int 0)) :
    own_Con l Z (⟨"com/example/ossify/ossify/Event", "isBlank", "([B)Z"⟩ : MethodName) prog_11_method_4_code 5 (some .boolean) ({ frames := 0, cells := 0, slots := 0, locals := 0 } : Room) #[(.ref a1)] h0 (fun v h L => ∃ z : Int32, v = some (.int z) ∧ z = own_al [b0, b1] ∧ L = [] ∧ h = h0) := by
  refine own_Con_of pn_2 ?_
  intro p e s m below meth c s₁ X0 hx hby hml hret hlk hnm hown hZ e0
  have hown : s.vm.findClass "com/example/ossify/ossify/Event" = some m.cls := hown
  have hml : c.maxLocals = 5 := hml
  show own_WP _ _ _ _ _ _ _ (s₁.setTop (entryFrame m #[(.ref a1)] 5))
  rw [ef_conB2 m a1]
  refine own_aloadN (pc' := 1) X0 hx (hb hby d2_0) rfl rfl rfl ?_
  refine own_arrlen (pc' := 2) X0 hx hZ e0 V1 (hb hby d2_1) rfl ?_
  refine own_ldcInt (pc' := 4) X0 hx hZ hown (own_w hw 10 rfl) (hb hby d2_2) rfl ?_
  refine own_icmp_le (pt := 9) (pf := 7) X0 hx (hb hby d2_4) rfl (by decide) rfl (fun hc4 => ?_) (fun hc4 => absurd hc4 (by decide))
  refine own_aloadN (pc' := 10) X0 hx (hb hby d2_9) rfl rfl rfl ?_
  refine own_astoreN (pc' := 11) (l' := #[.val (.ref a1), .val (.ref a1), .unset, .unset, .unset]) X0 hx (hb hby d2_10) rfl rfl rfl ?_
  refine own_aloadN (pc' := 12) X0 hx (hb hby d2_11) rfl rfl rfl ?_
  refine own_arrlen (pc' := 13) X0 hx hZ e0 V1 (hb hby d2_12) rfl ?_
  refine own_istoreN (pc' := 14) (l' := #[.val (.ref a1), .val (.ref a1), .val (.int (2 : Int32)), .unset, .unset]) X0 hx (hb hby d2_13) rfl rfl rfl ?_
  refine own_iconst (pc' := 15) X0 hx (0 : Int32) (hb hby d2_14) rfl rfl ?_
  refine own_istoreN (pc' := 16) (l' := #[.val (.ref a1), .val (.ref a1), .val (.int (2 : Int32)), .val (.int (0 : Int32)), .unset]) X0 hx (hb hby d2_15) rfl rfl rfl ?_
  refine own_iloadN (pc' := 17) X0 hx (hb hby d2_16) rfl rfl ?_
  refine own_iloadN (pc' := 18) X0 hx (hb hby d2_17) rfl rfl ?_
  refine own_icmp_ge (pt := 55) (pf := 21) X0 hx (hb hby d2_18) rfl (by decide) rfl (fun hc18 => absurd (by decide) hc18) (fun hc18 => ?_)
  refine own_aloadN (pc' := 22) X0 hx (hb hby d2_21) rfl rfl rfl ?_
  refine own_iloadN (pc' := 23) X0 hx (hb hby d2_22) rfl rfl ?_
  refine own_baload (pc' := 24) (v := (.int b0)) X0 hx hZ e0 V1 ⟨by decide, by decide⟩ rfl (hb hby d2_23) rfl ?_
  refine own_istore (pc' := 26) (l' := #[.val (.ref a1), .val (.ref a1), .val (.int (2 : Int32)), .val (.int (0 : Int32)), .val (.int b0)]) X0 hx (hb hby d2_24) rfl rfl rfl ?_
  refine own_iload (pc' := 28) X0 hx (hb hby d2_26) rfl rfl ?_
  refine own_bipush (pc' := 30) X0 hx (32 : Int32) (hb hby d2_28) rfl rfl ?_
  refine own_join (fun _ : Unit => own_P b0) (fun _ => s₁.setTop (mkF m 49 #[.val (.ref a1), .val (.ref a1), .val (.int (2 : Int32)), .val (.int (0 : Int32)), .val (.int b0)] [])) (fun J49 => ?_) (fun _ hPb0 => ?_)
  · skip
    refine own_icmp_eq (pt := 49) (pf := 33) X0 hx (hb hby d2_30) rfl (by decide) rfl (fun hc30 => ?_) (fun hc30 => ?_)
    · skip
      exact J49 () (Or.inl hc30)
    · skip
      refine own_iload (pc' := 35) X0 hx (hb hby d2_33) rfl rfl ?_
      refine own_bipush (pc' := 37) X0 hx (9 : Int32) (hb hby d2_35) rfl rfl ?_
      refine own_icmp_eq (pt := 49) (pf := 40) X0 hx (hb hby d2_37) rfl (by decide) rfl (fun hc37 => ?_) (fun hc37 => ?_)
      · skip
        exact J49 () (Or.inr (Or.inl hc37))
      · skip
        refine own_iload (pc' := 42) X0 hx (hb hby d2_40) rfl rfl ?_
        refine own_bipush (pc' := 44) X0 hx (13 : Int32) (hb hby d2_42) rfl rfl ?_
        refine own_icmp_eq (pt := 49) (pf := 47) X0 hx (hb hby d2_44) rfl (by decide) rfl (fun hc44 => ?_) (fun hc44 => ?_)
        · skip
          exact J49 () (Or.inr (Or.inr hc44))
        · skip
          refine own_iconst (pc' := 48) X0 hx (0 : Int32) (hb hby d2_47) rfl rfl ?_
          refine own_retN X0 hx hlk (t := .boolean) (by decide) hret (hb hby d2_48) (by decide) (by decide) ?_
          refine ⟨0, rfl, ?_, rfl, e0⟩
          have hn : ¬ own_P b0 := by simp [own_P, hc30, hc37, hc44]
          simp [own_al, hn]
  · skip
    show own_WP _ _ _ _ _ _ _ (s₁.setTop (mkF m 49 #[.val (.ref a1), .val (.ref a1), .val (.int (2 : Int32)), .val (.int (0 : Int32)), .val (.int b0)] []))
    refine own_iinc (pc' := 52) (l' := #[.val (.ref a1), .val (.ref a1), .val (.int (2 : Int32)), .val (.int (1 : Int32)), .val (.int b0)]) X0 hx (hb hby d2_49) rfl (by decide) rfl rfl ?_
    refine own_goto (pc' := 16) X0 hx (hb hby d2_52) (by decide) rfl ?_
    refine own_iloadN (pc' := 17) X0 hx (hb hby d2_16) rfl rfl ?_
    refine own_iloadN (pc' := 18) X0 hx (hb hby d2_17) rfl rfl ?_
    refine own_icmp_ge (pt := 55) (pf := 21) X0 hx (hb hby d2_18) rfl (by decide) rfl (fun hc18_1 => absurd (by decide) hc18_1) (fun hc18_1 => ?_)
    refine own_aloadN (pc' := 22) X0 hx (hb hby d2_21) rfl rfl rfl ?_
    refine own_iloadN (pc' := 23) X0 hx (hb hby d2_22) rfl rfl ?_
    refine own_baload (pc' := 24) (v := (.int b1)) X0 hx hZ e0 V1 ⟨by decide, by decide⟩ rfl (hb hby d2_23) rfl ?_
    refine own_istore (pc' := 26) (l' := #[.val (.ref a1), .val (.ref a1), .val (.int (2 : Int32)), .val (.int (1 : Int32)), .val (.int b1)]) X0 hx (hb hby d2_24) rfl rfl rfl ?_
    refine own_iload (pc' := 28) X0 hx (hb hby d2_26) rfl rfl ?_
    refine own_bipush (pc' := 30) X0 hx (32 : Int32) (hb hby d2_28) rfl rfl ?_
    refine own_join (fun _ : Unit => own_P b1) (fun _ => s₁.setTop (mkF m 49 #[.val (.ref a1), .val (.ref a1), .val (.int (2 : Int32)), .val (.int (1 : Int32)), .val (.int b1)] [])) (fun J49 => ?_) (fun _ hPb1 => ?_)
    · skip
      refine own_icmp_eq (pt := 49) (pf := 33) X0 hx (hb hby d2_30) rfl (by decide) rfl (fun hc30 => ?_) (fun hc30 => ?_)
      · skip
        exact J49 () (Or.inl hc30)
      · skip
        refine own_iload (pc' := 35) X0 hx (hb hby d2_33) rfl rfl ?_
        refine own_bipush (pc' := 37) X0 hx (9 : Int32) (hb hby d2_35) rfl rfl ?_
        refine own_icmp_eq (pt := 49) (pf := 40) X0 hx (hb hby d2_37) rfl (by decide) rfl (fun hc37 => ?_) (fun hc37 => ?_)
        · skip
          exact J49 () (Or.inr (Or.inl hc37))
        · skip
          refine own_iload (pc' := 42) X0 hx (hb hby d2_40) rfl rfl ?_
          refine own_bipush (pc' := 44) X0 hx (13 : Int32) (hb hby d2_42) rfl rfl ?_
          refine own_icmp_eq (pt := 49) (pf := 47) X0 hx (hb hby d2_44) rfl (by decide) rfl (fun hc44 => ?_) (fun hc44 => ?_)
          · skip
            exact J49 () (Or.inr (Or.inr hc44))
          · skip
            refine own_iconst (pc' := 48) X0 hx (0 : Int32) (hb hby d2_47) rfl rfl ?_
            refine own_retN X0 hx hlk (t := .boolean) (by decide) hret (hb hby d2_48) (by decide) (by decide) ?_
            refine ⟨0, rfl, ?_, rfl, e0⟩
            have hn : ¬ own_P b1 := by simp [own_P, hc30, hc37, hc44]
            simp [own_al, hn]
    · skip
      show own_WP _ _ _ _ _ _ _ (s₁.setTop (mkF m 49 #[.val (.ref a1), .val (.ref a1), .val (.int (2 : Int32)), .val (.int (1 : Int32)), .val (.int b1)] []))
      refine own_iinc (pc' := 52) (l' := #[.val (.ref a1), .val (.ref a1), .val (.int (2 : Int32)), .val (.int (2 : Int32)), .val (.int b1)]) X0 hx (hb hby d2_49) rfl (by decide) rfl rfl ?_
      refine own_goto (pc' := 16) X0 hx (hb hby d2_52) (by decide) rfl ?_
      refine own_iloadN (pc' := 17) X0 hx (hb hby d2_16) rfl rfl ?_
      refine own_iloadN (pc' := 18) X0 hx (hb hby d2_17) rfl rfl ?_
      refine own_icmp_ge (pt := 55) (pf := 21) X0 hx (hb hby d2_18) rfl (by decide) rfl (fun hc18_2 => ?_) (fun hc18_2 => absurd hc18_2 (by decide))
      refine own_iconst (pc' := 56) X0 hx (1 : Int32) (hb hby d2_55) rfl rfl ?_
      refine own_retN X0 hx hlk (t := .boolean) (by decide) hret (hb hby d2_56) (by decide) (by decide) ?_
      refine ⟨1, rfl, ?_, rfl, e0⟩
      simp [own_al, hPb0, hPb1]
theorem ef_conB3 (m : MethodId) (a1 : Addr) : entryFrame m #[(.ref a1)] 5 = mkF m 0 #[.val (.ref a1), .unset, .unset, .unset, .unset] [] := by first | (simp [entryFrame, mkF, argsToLocals, Value.category]; done) | rfl
set_option maxRecDepth 65536 in
set_option maxHeartbeats 4000000 in
theorem conB3 (l : Launch) (Z : State) (a0 : Array Value) (hw : ∀ d ∈ tables_1, d.before a0 Z = true) (a1 : Addr) (h0 : Heap) (kk : ClassId) (b0 b1 b2 : Int32) (V1 : Arv Z h0 a1 kk .byte 3 [(.int b0), (.int b1), (.int b2)] (.int 0)) :
    own_Con l Z (⟨"com/example/ossify/ossify/Event", "isBlank", "([B)Z"⟩ : MethodName) prog_11_method_4_code 5 (some .boolean) ({ frames := 0, cells := 0, slots := 0, locals := 0 } : Room) #[(.ref a1)] h0 (fun v h L => ∃ z : Int32, v = some (.int z) ∧ z = own_al [b0, b1, b2] ∧ L = [] ∧ h = h0) := by
  refine own_Con_of pn_2 ?_
  intro p e s m below meth c s₁ X0 hx hby hml hret hlk hnm hown hZ e0
  have hown : s.vm.findClass "com/example/ossify/ossify/Event" = some m.cls := hown
  have hml : c.maxLocals = 5 := hml
  show own_WP _ _ _ _ _ _ _ (s₁.setTop (entryFrame m #[(.ref a1)] 5))
  rw [ef_conB3 m a1]
  refine own_aloadN (pc' := 1) X0 hx (hb hby d2_0) rfl rfl rfl ?_
  refine own_arrlen (pc' := 2) X0 hx hZ e0 V1 (hb hby d2_1) rfl ?_
  refine own_ldcInt (pc' := 4) X0 hx hZ hown (own_w hw 10 rfl) (hb hby d2_2) rfl ?_
  refine own_icmp_le (pt := 9) (pf := 7) X0 hx (hb hby d2_4) rfl (by decide) rfl (fun hc4 => ?_) (fun hc4 => absurd hc4 (by decide))
  refine own_aloadN (pc' := 10) X0 hx (hb hby d2_9) rfl rfl rfl ?_
  refine own_astoreN (pc' := 11) (l' := #[.val (.ref a1), .val (.ref a1), .unset, .unset, .unset]) X0 hx (hb hby d2_10) rfl rfl rfl ?_
  refine own_aloadN (pc' := 12) X0 hx (hb hby d2_11) rfl rfl rfl ?_
  refine own_arrlen (pc' := 13) X0 hx hZ e0 V1 (hb hby d2_12) rfl ?_
  refine own_istoreN (pc' := 14) (l' := #[.val (.ref a1), .val (.ref a1), .val (.int (3 : Int32)), .unset, .unset]) X0 hx (hb hby d2_13) rfl rfl rfl ?_
  refine own_iconst (pc' := 15) X0 hx (0 : Int32) (hb hby d2_14) rfl rfl ?_
  refine own_istoreN (pc' := 16) (l' := #[.val (.ref a1), .val (.ref a1), .val (.int (3 : Int32)), .val (.int (0 : Int32)), .unset]) X0 hx (hb hby d2_15) rfl rfl rfl ?_
  refine own_iloadN (pc' := 17) X0 hx (hb hby d2_16) rfl rfl ?_
  refine own_iloadN (pc' := 18) X0 hx (hb hby d2_17) rfl rfl ?_
  refine own_icmp_ge (pt := 55) (pf := 21) X0 hx (hb hby d2_18) rfl (by decide) rfl (fun hc18 => absurd (by decide) hc18) (fun hc18 => ?_)
  refine own_aloadN (pc' := 22) X0 hx (hb hby d2_21) rfl rfl rfl ?_
  refine own_iloadN (pc' := 23) X0 hx (hb hby d2_22) rfl rfl ?_
  refine own_baload (pc' := 24) (v := (.int b0)) X0 hx hZ e0 V1 ⟨by decide, by decide⟩ rfl (hb hby d2_23) rfl ?_
  refine own_istore (pc' := 26) (l' := #[.val (.ref a1), .val (.ref a1), .val (.int (3 : Int32)), .val (.int (0 : Int32)), .val (.int b0)]) X0 hx (hb hby d2_24) rfl rfl rfl ?_
  refine own_iload (pc' := 28) X0 hx (hb hby d2_26) rfl rfl ?_
  refine own_bipush (pc' := 30) X0 hx (32 : Int32) (hb hby d2_28) rfl rfl ?_
  refine own_join (fun _ : Unit => own_P b0) (fun _ => s₁.setTop (mkF m 49 #[.val (.ref a1), .val (.ref a1), .val (.int (3 : Int32)), .val (.int (0 : Int32)), .val (.int b0)] [])) (fun J49 => ?_) (fun _ hPb0 => ?_)
  · skip
    refine own_icmp_eq (pt := 49) (pf := 33) X0 hx (hb hby d2_30) rfl (by decide) rfl (fun hc30 => ?_) (fun hc30 => ?_)
    · skip
      exact J49 () (Or.inl hc30)
    · skip
      refine own_iload (pc' := 35) X0 hx (hb hby d2_33) rfl rfl ?_
      refine own_bipush (pc' := 37) X0 hx (9 : Int32) (hb hby d2_35) rfl rfl ?_
      refine own_icmp_eq (pt := 49) (pf := 40) X0 hx (hb hby d2_37) rfl (by decide) rfl (fun hc37 => ?_) (fun hc37 => ?_)
      · skip
        exact J49 () (Or.inr (Or.inl hc37))
      · skip
        refine own_iload (pc' := 42) X0 hx (hb hby d2_40) rfl rfl ?_
        refine own_bipush (pc' := 44) X0 hx (13 : Int32) (hb hby d2_42) rfl rfl ?_
        refine own_icmp_eq (pt := 49) (pf := 47) X0 hx (hb hby d2_44) rfl (by decide) rfl (fun hc44 => ?_) (fun hc44 => ?_)
        · skip
          exact J49 () (Or.inr (Or.inr hc44))
        · skip
          refine own_iconst (pc' := 48) X0 hx (0 : Int32) (hb hby d2_47) rfl rfl ?_
          refine own_retN X0 hx hlk (t := .boolean) (by decide) hret (hb hby d2_48) (by decide) (by decide) ?_
          refine ⟨0, rfl, ?_, rfl, e0⟩
          have hn : ¬ own_P b0 := by simp [own_P, hc30, hc37, hc44]
          simp [own_al, hn]
  · skip
    show own_WP _ _ _ _ _ _ _ (s₁.setTop (mkF m 49 #[.val (.ref a1), .val (.ref a1), .val (.int (3 : Int32)), .val (.int (0 : Int32)), .val (.int b0)] []))
    refine own_iinc (pc' := 52) (l' := #[.val (.ref a1), .val (.ref a1), .val (.int (3 : Int32)), .val (.int (1 : Int32)), .val (.int b0)]) X0 hx (hb hby d2_49) rfl (by decide) rfl rfl ?_
    refine own_goto (pc' := 16) X0 hx (hb hby d2_52) (by decide) rfl ?_
    refine own_iloadN (pc' := 17) X0 hx (hb hby d2_16) rfl rfl ?_
    refine own_iloadN (pc' := 18) X0 hx (hb hby d2_17) rfl rfl ?_
    refine own_icmp_ge (pt := 55) (pf := 21) X0 hx (hb hby d2_18) rfl (by decide) rfl (fun hc18_1 => absurd (by decide) hc18_1) (fun hc18_1 => ?_)
    refine own_aloadN (pc' := 22) X0 hx (hb hby d2_21) rfl rfl rfl ?_
    refine own_iloadN (pc' := 23) X0 hx (hb hby d2_22) rfl rfl ?_
    refine own_baload (pc' := 24) (v := (.int b1)) X0 hx hZ e0 V1 ⟨by decide, by decide⟩ rfl (hb hby d2_23) rfl ?_
    refine own_istore (pc' := 26) (l' := #[.val (.ref a1), .val (.ref a1), .val (.int (3 : Int32)), .val (.int (1 : Int32)), .val (.int b1)]) X0 hx (hb hby d2_24) rfl rfl rfl ?_
    refine own_iload (pc' := 28) X0 hx (hb hby d2_26) rfl rfl ?_
    refine own_bipush (pc' := 30) X0 hx (32 : Int32) (hb hby d2_28) rfl rfl ?_
    refine own_join (fun _ : Unit => own_P b1) (fun _ => s₁.setTop (mkF m 49 #[.val (.ref a1), .val (.ref a1), .val (.int (3 : Int32)), .val (.int (1 : Int32)), .val (.int b1)] [])) (fun J49 => ?_) (fun _ hPb1 => ?_)
    · skip
      refine own_icmp_eq (pt := 49) (pf := 33) X0 hx (hb hby d2_30) rfl (by decide) rfl (fun hc30 => ?_) (fun hc30 => ?_)
      · skip
        exact J49 () (Or.inl hc30)
      · skip
        refine own_iload (pc' := 35) X0 hx (hb hby d2_33) rfl rfl ?_
        refine own_bipush (pc' := 37) X0 hx (9 : Int32) (hb hby d2_35) rfl rfl ?_
        refine own_icmp_eq (pt := 49) (pf := 40) X0 hx (hb hby d2_37) rfl (by decide) rfl (fun hc37 => ?_) (fun hc37 => ?_)
        · skip
          exact J49 () (Or.inr (Or.inl hc37))
        · skip
          refine own_iload (pc' := 42) X0 hx (hb hby d2_40) rfl rfl ?_
          refine own_bipush (pc' := 44) X0 hx (13 : Int32) (hb hby d2_42) rfl rfl ?_
          refine own_icmp_eq (pt := 49) (pf := 47) X0 hx (hb hby d2_44) rfl (by decide) rfl (fun hc44 => ?_) (fun hc44 => ?_)
          · skip
            exact J49 () (Or.inr (Or.inr hc44))
          · skip
            refine own_iconst (pc' := 48) X0 hx (0 : Int32) (hb hby d2_47) rfl rfl ?_
            refine own_retN X0 hx hlk (t := .boolean) (by decide) hret (hb hby d2_48) (by decide) (by decide) ?_
            refine ⟨0, rfl, ?_, rfl, e0⟩
            have hn : ¬ own_P b1 := by simp [own_P, hc30, hc37, hc44]
            simp [own_al, hn]
    · skip
      show own_WP _ _ _ _ _ _ _ (s₁.setTop (mkF m 49 #[.val (.ref a1), .val (.ref a1), .val (.int (3 : Int32)), .val (.int (1 : Int32)), .val (.int b1)] []))
      refine own_iinc (pc' := 52) (l' := #[.val (.ref a1), .val (.ref a1), .val (.int (3 : Int32)), .val (.int (2 : Int32)), .val (.int b1)]) X0 hx (hb hby d2_49) rfl (by decide) rfl rfl ?_
      refine own_goto (pc' := 16) X0 hx (hb hby d2_52) (by decide) rfl ?_
      refine own_iloadN (pc' := 17) X0 hx (hb hby d2_16) rfl rfl ?_
      refine own_iloadN (pc' := 18) X0 hx (hb hby d2_17) rfl rfl ?_
      refine own_icmp_ge (pt := 55) (pf := 21) X0 hx (hb hby d2_18) rfl (by decide) rfl (fun hc18_2 => absurd (by decide) hc18_2) (fun hc18_2 => ?_)
      refine own_aloadN (pc' := 22) X0 hx (hb hby d2_21) rfl rfl rfl ?_
      refine own_iloadN (pc' := 23) X0 hx (hb hby d2_22) rfl rfl ?_
      refine own_baload (pc' := 24) (v := (.int b2)) X0 hx hZ e0 V1 ⟨by decide, by decide⟩ rfl (hb hby d2_23) rfl ?_
      refine own_istore (pc' := 26) (l' := #[.val (.ref a1), .val (.ref a1), .val (.int (3 : Int32)), .val (.int (2 : Int32)), .val (.int b2)]) X0 hx (hb hby d2_24) rfl rfl rfl ?_
      refine own_iload (pc' := 28) X0 hx (hb hby d2_26) rfl rfl ?_
      refine own_bipush (pc' := 30) X0 hx (32 : Int32) (hb hby d2_28) rfl rfl ?_
      refine own_join (fun _ : Unit => own_P b2) (fun _ => s₁.setTop (mkF m 49 #[.val (.ref a1), .val (.ref a1), .val (.int (3 : Int32)), .val (.int (2 : Int32)), .val (.int b2)] [])) (fun J49 => ?_) (fun _ hPb2 => ?_)
      · skip
        refine own_icmp_eq (pt := 49) (pf := 33) X0 hx (hb hby d2_30) rfl (by decide) rfl (fun hc30 => ?_) (fun hc30 => ?_)
        · skip
          exact J49 () (Or.inl hc30)
        · skip
          refine own_iload (pc' := 35) X0 hx (hb hby d2_33) rfl rfl ?_
          refine own_bipush (pc' := 37) X0 hx (9 : Int32) (hb hby d2_35) rfl rfl ?_
          refine own_icmp_eq (pt := 49) (pf := 40) X0 hx (hb hby d2_37) rfl (by decide) rfl (fun hc37 => ?_) (fun hc37 => ?_)
          · skip
            exact J49 () (Or.inr (Or.inl hc37))
          · skip
            refine own_iload (pc' := 42) X0 hx (hb hby d2_40) rfl rfl ?_
            refine own_bipush (pc' := 44) X0 hx (13 : Int32) (hb hby d2_42) rfl rfl ?_
            refine own_icmp_eq (pt := 49) (pf := 47) X0 hx (hb hby d2_44) rfl (by decide) rfl (fun hc44 => ?_) (fun hc44 => ?_)
            · skip
              exact J49 () (Or.inr (Or.inr hc44))
            · skip
              refine own_iconst (pc' := 48) X0 hx (0 : Int32) (hb hby d2_47) rfl rfl ?_
              refine own_retN X0 hx hlk (t := .boolean) (by decide) hret (hb hby d2_48) (by decide) (by decide) ?_
              refine ⟨0, rfl, ?_, rfl, e0⟩
              have hn : ¬ own_P b2 := by simp [own_P, hc30, hc37, hc44]
              simp [own_al, hn]
      · skip
        show own_WP _ _ _ _ _ _ _ (s₁.setTop (mkF m 49 #[.val (.ref a1), .val (.ref a1), .val (.int (3 : Int32)), .val (.int (2 : Int32)), .val (.int b2)] []))
        refine own_iinc (pc' := 52) (l' := #[.val (.ref a1), .val (.ref a1), .val (.int (3 : Int32)), .val (.int (3 : Int32)), .val (.int b2)]) X0 hx (hb hby d2_49) rfl (by decide) rfl rfl ?_
        refine own_goto (pc' := 16) X0 hx (hb hby d2_52) (by decide) rfl ?_
        refine own_iloadN (pc' := 17) X0 hx (hb hby d2_16) rfl rfl ?_
        refine own_iloadN (pc' := 18) X0 hx (hb hby d2_17) rfl rfl ?_
        refine own_icmp_ge (pt := 55) (pf := 21) X0 hx (hb hby d2_18) rfl (by decide) rfl (fun hc18_3 => ?_) (fun hc18_3 => absurd hc18_3 (by decide))
        refine own_iconst (pc' := 56) X0 hx (1 : Int32) (hb hby d2_55) rfl rfl ?_
        refine own_retN X0 hx hlk (t := .boolean) (by decide) hret (hb hby d2_56) (by decide) (by decide) ?_
        refine ⟨1, rfl, ?_, rfl, e0⟩
        simp [own_al, hPb0, hPb1, hPb2]
theorem ef_conB4 (m : MethodId) (a1 : Addr) : entryFrame m #[(.ref a1)] 5 = mkF m 0 #[.val (.ref a1), .unset, .unset, .unset, .unset] [] := by first | (simp [entryFrame, mkF, argsToLocals, Value.category]; done) | rfl
set_option maxRecDepth 65536 in
set_option maxHeartbeats 4000000 in
theorem conB4 (l : Launch) (Z : State) (a0 : Array Value) (hw : ∀ d ∈ tables_1, d.before a0 Z = true) (a1 : Addr) (h0 : Heap) (kk : ClassId) (b0 b1 b2 b3 : Int32) (V1 : Arv Z h0 a1 kk .byte 4 [(.int b0), (.int b1), (.int b2), (.int b3)] (.int 0)) :
    own_Con l Z (⟨"com/example/ossify/ossify/Event", "isBlank", "([B)Z"⟩ : MethodName) prog_11_method_4_code 5 (some .boolean) ({ frames := 0, cells := 0, slots := 0, locals := 0 } : Room) #[(.ref a1)] h0 (fun v h L => ∃ z : Int32, v = some (.int z) ∧ z = own_al [b0, b1, b2, b3] ∧ L = [] ∧ h = h0) := by
  refine own_Con_of pn_2 ?_
  intro p e s m below meth c s₁ X0 hx hby hml hret hlk hnm hown hZ e0
  have hown : s.vm.findClass "com/example/ossify/ossify/Event" = some m.cls := hown
  have hml : c.maxLocals = 5 := hml
  show own_WP _ _ _ _ _ _ _ (s₁.setTop (entryFrame m #[(.ref a1)] 5))
  rw [ef_conB4 m a1]
  refine own_aloadN (pc' := 1) X0 hx (hb hby d2_0) rfl rfl rfl ?_
  refine own_arrlen (pc' := 2) X0 hx hZ e0 V1 (hb hby d2_1) rfl ?_
  refine own_ldcInt (pc' := 4) X0 hx hZ hown (own_w hw 10 rfl) (hb hby d2_2) rfl ?_
  refine own_icmp_le (pt := 9) (pf := 7) X0 hx (hb hby d2_4) rfl (by decide) rfl (fun hc4 => ?_) (fun hc4 => absurd hc4 (by decide))
  refine own_aloadN (pc' := 10) X0 hx (hb hby d2_9) rfl rfl rfl ?_
  refine own_astoreN (pc' := 11) (l' := #[.val (.ref a1), .val (.ref a1), .unset, .unset, .unset]) X0 hx (hb hby d2_10) rfl rfl rfl ?_
  refine own_aloadN (pc' := 12) X0 hx (hb hby d2_11) rfl rfl rfl ?_
  refine own_arrlen (pc' := 13) X0 hx hZ e0 V1 (hb hby d2_12) rfl ?_
  refine own_istoreN (pc' := 14) (l' := #[.val (.ref a1), .val (.ref a1), .val (.int (4 : Int32)), .unset, .unset]) X0 hx (hb hby d2_13) rfl rfl rfl ?_
  refine own_iconst (pc' := 15) X0 hx (0 : Int32) (hb hby d2_14) rfl rfl ?_
  refine own_istoreN (pc' := 16) (l' := #[.val (.ref a1), .val (.ref a1), .val (.int (4 : Int32)), .val (.int (0 : Int32)), .unset]) X0 hx (hb hby d2_15) rfl rfl rfl ?_
  refine own_iloadN (pc' := 17) X0 hx (hb hby d2_16) rfl rfl ?_
  refine own_iloadN (pc' := 18) X0 hx (hb hby d2_17) rfl rfl ?_
  refine own_icmp_ge (pt := 55) (pf := 21) X0 hx (hb hby d2_18) rfl (by decide) rfl (fun hc18 => absurd (by decide) hc18) (fun hc18 => ?_)
  refine own_aloadN (pc' := 22) X0 hx (hb hby d2_21) rfl rfl rfl ?_
  refine own_iloadN (pc' := 23) X0 hx (hb hby d2_22) rfl rfl ?_
  refine own_baload (pc' := 24) (v := (.int b0)) X0 hx hZ e0 V1 ⟨by decide, by decide⟩ rfl (hb hby d2_23) rfl ?_
  refine own_istore (pc' := 26) (l' := #[.val (.ref a1), .val (.ref a1), .val (.int (4 : Int32)), .val (.int (0 : Int32)), .val (.int b0)]) X0 hx (hb hby d2_24) rfl rfl rfl ?_
  refine own_iload (pc' := 28) X0 hx (hb hby d2_26) rfl rfl ?_
  refine own_bipush (pc' := 30) X0 hx (32 : Int32) (hb hby d2_28) rfl rfl ?_
  refine own_join (fun _ : Unit => own_P b0) (fun _ => s₁.setTop (mkF m 49 #[.val (.ref a1), .val (.ref a1), .val (.int (4 : Int32)), .val (.int (0 : Int32)), .val (.int b0)] [])) (fun J49 => ?_) (fun _ hPb0 => ?_)
  · skip
    refine own_icmp_eq (pt := 49) (pf := 33) X0 hx (hb hby d2_30) rfl (by decide) rfl (fun hc30 => ?_) (fun hc30 => ?_)
    · skip
      exact J49 () (Or.inl hc30)
    · skip
      refine own_iload (pc' := 35) X0 hx (hb hby d2_33) rfl rfl ?_
      refine own_bipush (pc' := 37) X0 hx (9 : Int32) (hb hby d2_35) rfl rfl ?_
      refine own_icmp_eq (pt := 49) (pf := 40) X0 hx (hb hby d2_37) rfl (by decide) rfl (fun hc37 => ?_) (fun hc37 => ?_)
      · skip
        exact J49 () (Or.inr (Or.inl hc37))
      · skip
        refine own_iload (pc' := 42) X0 hx (hb hby d2_40) rfl rfl ?_
        refine own_bipush (pc' := 44) X0 hx (13 : Int32) (hb hby d2_42) rfl rfl ?_
        refine own_icmp_eq (pt := 49) (pf := 47) X0 hx (hb hby d2_44) rfl (by decide) rfl (fun hc44 => ?_) (fun hc44 => ?_)
        · skip
          exact J49 () (Or.inr (Or.inr hc44))
        · skip
          refine own_iconst (pc' := 48) X0 hx (0 : Int32) (hb hby d2_47) rfl rfl ?_
          refine own_retN X0 hx hlk (t := .boolean) (by decide) hret (hb hby d2_48) (by decide) (by decide) ?_
          refine ⟨0, rfl, ?_, rfl, e0⟩
          have hn : ¬ own_P b0 := by simp [own_P, hc30, hc37, hc44]
          simp [own_al, hn]
  · skip
    show own_WP _ _ _ _ _ _ _ (s₁.setTop (mkF m 49 #[.val (.ref a1), .val (.ref a1), .val (.int (4 : Int32)), .val (.int (0 : Int32)), .val (.int b0)] []))
    refine own_iinc (pc' := 52) (l' := #[.val (.ref a1), .val (.ref a1), .val (.int (4 : Int32)), .val (.int (1 : Int32)), .val (.int b0)]) X0 hx (hb hby d2_49) rfl (by decide) rfl rfl ?_
    refine own_goto (pc' := 16) X0 hx (hb hby d2_52) (by decide) rfl ?_
    refine own_iloadN (pc' := 17) X0 hx (hb hby d2_16) rfl rfl ?_
    refine own_iloadN (pc' := 18) X0 hx (hb hby d2_17) rfl rfl ?_
    refine own_icmp_ge (pt := 55) (pf := 21) X0 hx (hb hby d2_18) rfl (by decide) rfl (fun hc18_1 => absurd (by decide) hc18_1) (fun hc18_1 => ?_)
    refine own_aloadN (pc' := 22) X0 hx (hb hby d2_21) rfl rfl rfl ?_
    refine own_iloadN (pc' := 23) X0 hx (hb hby d2_22) rfl rfl ?_
    refine own_baload (pc' := 24) (v := (.int b1)) X0 hx hZ e0 V1 ⟨by decide, by decide⟩ rfl (hb hby d2_23) rfl ?_
    refine own_istore (pc' := 26) (l' := #[.val (.ref a1), .val (.ref a1), .val (.int (4 : Int32)), .val (.int (1 : Int32)), .val (.int b1)]) X0 hx (hb hby d2_24) rfl rfl rfl ?_
    refine own_iload (pc' := 28) X0 hx (hb hby d2_26) rfl rfl ?_
    refine own_bipush (pc' := 30) X0 hx (32 : Int32) (hb hby d2_28) rfl rfl ?_
    refine own_join (fun _ : Unit => own_P b1) (fun _ => s₁.setTop (mkF m 49 #[.val (.ref a1), .val (.ref a1), .val (.int (4 : Int32)), .val (.int (1 : Int32)), .val (.int b1)] [])) (fun J49 => ?_) (fun _ hPb1 => ?_)
    · skip
      refine own_icmp_eq (pt := 49) (pf := 33) X0 hx (hb hby d2_30) rfl (by decide) rfl (fun hc30 => ?_) (fun hc30 => ?_)
      · skip
        exact J49 () (Or.inl hc30)
      · skip
        refine own_iload (pc' := 35) X0 hx (hb hby d2_33) rfl rfl ?_
        refine own_bipush (pc' := 37) X0 hx (9 : Int32) (hb hby d2_35) rfl rfl ?_
        refine own_icmp_eq (pt := 49) (pf := 40) X0 hx (hb hby d2_37) rfl (by decide) rfl (fun hc37 => ?_) (fun hc37 => ?_)
        · skip
          exact J49 () (Or.inr (Or.inl hc37))
        · skip
          refine own_iload (pc' := 42) X0 hx (hb hby d2_40) rfl rfl ?_
          refine own_bipush (pc' := 44) X0 hx (13 : Int32) (hb hby d2_42) rfl rfl ?_
          refine own_icmp_eq (pt := 49) (pf := 47) X0 hx (hb hby d2_44) rfl (by decide) rfl (fun hc44 => ?_) (fun hc44 => ?_)
          · skip
            exact J49 () (Or.inr (Or.inr hc44))
          · skip
            refine own_iconst (pc' := 48) X0 hx (0 : Int32) (hb hby d2_47) rfl rfl ?_
            refine own_retN X0 hx hlk (t := .boolean) (by decide) hret (hb hby d2_48) (by decide) (by decide) ?_
            refine ⟨0, rfl, ?_, rfl, e0⟩
            have hn : ¬ own_P b1 := by simp [own_P, hc30, hc37, hc44]
            simp [own_al, hn]
    · skip
      show own_WP _ _ _ _ _ _ _ (s₁.setTop (mkF m 49 #[.val (.ref a1), .val (.ref a1), .val (.int (4 : Int32)), .val (.int (1 : Int32)), .val (.int b1)] []))
      refine own_iinc (pc' := 52) (l' := #[.val (.ref a1), .val (.ref a1), .val (.int (4 : Int32)), .val (.int (2 : Int32)), .val (.int b1)]) X0 hx (hb hby d2_49) rfl (by decide) rfl rfl ?_
      refine own_goto (pc' := 16) X0 hx (hb hby d2_52) (by decide) rfl ?_
      refine own_iloadN (pc' := 17) X0 hx (hb hby d2_16) rfl rfl ?_
      refine own_iloadN (pc' := 18) X0 hx (hb hby d2_17) rfl rfl ?_
      refine own_icmp_ge (pt := 55) (pf := 21) X0 hx (hb hby d2_18) rfl (by decide) rfl (fun hc18_2 => absurd (by decide) hc18_2) (fun hc18_2 => ?_)
      refine own_aloadN (pc' := 22) X0 hx (hb hby d2_21) rfl rfl rfl ?_
      refine own_iloadN (pc' := 23) X0 hx (hb hby d2_22) rfl rfl ?_
      refine own_baload (pc' := 24) (v := (.int b2)) X0 hx hZ e0 V1 ⟨by decide, by decide⟩ rfl (hb hby d2_23) rfl ?_
      refine own_istore (pc' := 26) (l' := #[.val (.ref a1), .val (.ref a1), .val (.int (4 : Int32)), .val (.int (2 : Int32)), .val (.int b2)]) X0 hx (hb hby d2_24) rfl rfl rfl ?_
      refine own_iload (pc' := 28) X0 hx (hb hby d2_26) rfl rfl ?_
      refine own_bipush (pc' := 30) X0 hx (32 : Int32) (hb hby d2_28) rfl rfl ?_
      refine own_join (fun _ : Unit => own_P b2) (fun _ => s₁.setTop (mkF m 49 #[.val (.ref a1), .val (.ref a1), .val (.int (4 : Int32)), .val (.int (2 : Int32)), .val (.int b2)] [])) (fun J49 => ?_) (fun _ hPb2 => ?_)
      · skip
        refine own_icmp_eq (pt := 49) (pf := 33) X0 hx (hb hby d2_30) rfl (by decide) rfl (fun hc30 => ?_) (fun hc30 => ?_)
        · skip
          exact J49 () (Or.inl hc30)
        · skip
          refine own_iload (pc' := 35) X0 hx (hb hby d2_33) rfl rfl ?_
          refine own_bipush (pc' := 37) X0 hx (9 : Int32) (hb hby d2_35) rfl rfl ?_
          refine own_icmp_eq (pt := 49) (pf := 40) X0 hx (hb hby d2_37) rfl (by decide) rfl (fun hc37 => ?_) (fun hc37 => ?_)
          · skip
            exact J49 () (Or.inr (Or.inl hc37))
          · skip
            refine own_iload (pc' := 42) X0 hx (hb hby d2_40) rfl rfl ?_
            refine own_bipush (pc' := 44) X0 hx (13 : Int32) (hb hby d2_42) rfl rfl ?_
            refine own_icmp_eq (pt := 49) (pf := 47) X0 hx (hb hby d2_44) rfl (by decide) rfl (fun hc44 => ?_) (fun hc44 => ?_)
            · skip
              exact J49 () (Or.inr (Or.inr hc44))
            · skip
              refine own_iconst (pc' := 48) X0 hx (0 : Int32) (hb hby d2_47) rfl rfl ?_
              refine own_retN X0 hx hlk (t := .boolean) (by decide) hret (hb hby d2_48) (by decide) (by decide) ?_
              refine ⟨0, rfl, ?_, rfl, e0⟩
              have hn : ¬ own_P b2 := by simp [own_P, hc30, hc37, hc44]
              simp [own_al, hn]
      · skip
        show own_WP _ _ _ _ _ _ _ (s₁.setTop (mkF m 49 #[.val (.ref a1), .val (.ref a1), .val (.int (4 : Int32)), .val (.int (2 : Int32)), .val (.int b2)] []))
        refine own_iinc (pc' := 52) (l' := #[.val (.ref a1), .val (.ref a1), .val (.int (4 : Int32)), .val (.int (3 : Int32)), .val (.int b2)]) X0 hx (hb hby d2_49) rfl (by decide) rfl rfl ?_
        refine own_goto (pc' := 16) X0 hx (hb hby d2_52) (by decide) rfl ?_
        refine own_iloadN (pc' := 17) X0 hx (hb hby d2_16) rfl rfl ?_
        refine own_iloadN (pc' := 18) X0 hx (hb hby d2_17) rfl rfl ?_
        refine own_icmp_ge (pt := 55) (pf := 21) X0 hx (hb hby d2_18) rfl (by decide) rfl (fun hc18_3 => absurd (by decide) hc18_3) (fun hc18_3 => ?_)
        refine own_aloadN (pc' := 22) X0 hx (hb hby d2_21) rfl rfl rfl ?_
        refine own_iloadN (pc' := 23) X0 hx (hb hby d2_22) rfl rfl ?_
        refine own_baload (pc' := 24) (v := (.int b3)) X0 hx hZ e0 V1 ⟨by decide, by decide⟩ rfl (hb hby d2_23) rfl ?_
        refine own_istore (pc' := 26) (l' := #[.val (.ref a1), .val (.ref a1), .val (.int (4 : Int32)), .val (.int (3 : Int32)), .val (.int b3)]) X0 hx (hb hby d2_24) rfl rfl rfl ?_
        refine own_iload (pc' := 28) X0 hx (hb hby d2_26) rfl rfl ?_
        refine own_bipush (pc' := 30) X0 hx (32 : Int32) (hb hby d2_28) rfl rfl ?_
        refine own_join (fun _ : Unit => own_P b3) (fun _ => s₁.setTop (mkF m 49 #[.val (.ref a1), .val (.ref a1), .val (.int (4 : Int32)), .val (.int (3 : Int32)), .val (.int b3)] [])) (fun J49 => ?_) (fun _ hPb3 => ?_)
        · skip
          refine own_icmp_eq (pt := 49) (pf := 33) X0 hx (hb hby d2_30) rfl (by decide) rfl (fun hc30 => ?_) (fun hc30 => ?_)
          · skip
            exact J49 () (Or.inl hc30)
          · skip
            refine own_iload (pc' := 35) X0 hx (hb hby d2_33) rfl rfl ?_
            refine own_bipush (pc' := 37) X0 hx (9 : Int32) (hb hby d2_35) rfl rfl ?_
            refine own_icmp_eq (pt := 49) (pf := 40) X0 hx (hb hby d2_37) rfl (by decide) rfl (fun hc37 => ?_) (fun hc37 => ?_)
            · skip
              exact J49 () (Or.inr (Or.inl hc37))
            · skip
              refine own_iload (pc' := 42) X0 hx (hb hby d2_40) rfl rfl ?_
              refine own_bipush (pc' := 44) X0 hx (13 : Int32) (hb hby d2_42) rfl rfl ?_
              refine own_icmp_eq (pt := 49) (pf := 47) X0 hx (hb hby d2_44) rfl (by decide) rfl (fun hc44 => ?_) (fun hc44 => ?_)
              · skip
                exact J49 () (Or.inr (Or.inr hc44))
              · skip
                refine own_iconst (pc' := 48) X0 hx (0 : Int32) (hb hby d2_47) rfl rfl ?_
                refine own_retN X0 hx hlk (t := .boolean) (by decide) hret (hb hby d2_48) (by decide) (by decide) ?_
                refine ⟨0, rfl, ?_, rfl, e0⟩
                have hn : ¬ own_P b3 := by simp [own_P, hc30, hc37, hc44]
                simp [own_al, hn]
        · skip
          show own_WP _ _ _ _ _ _ _ (s₁.setTop (mkF m 49 #[.val (.ref a1), .val (.ref a1), .val (.int (4 : Int32)), .val (.int (3 : Int32)), .val (.int b3)] []))
          refine own_iinc (pc' := 52) (l' := #[.val (.ref a1), .val (.ref a1), .val (.int (4 : Int32)), .val (.int (4 : Int32)), .val (.int b3)]) X0 hx (hb hby d2_49) rfl (by decide) rfl rfl ?_
          refine own_goto (pc' := 16) X0 hx (hb hby d2_52) (by decide) rfl ?_
          refine own_iloadN (pc' := 17) X0 hx (hb hby d2_16) rfl rfl ?_
          refine own_iloadN (pc' := 18) X0 hx (hb hby d2_17) rfl rfl ?_
          refine own_icmp_ge (pt := 55) (pf := 21) X0 hx (hb hby d2_18) rfl (by decide) rfl (fun hc18_4 => ?_) (fun hc18_4 => absurd hc18_4 (by decide))
          refine own_iconst (pc' := 56) X0 hx (1 : Int32) (hb hby d2_55) rfl rfl ?_
          refine own_retN X0 hx hlk (t := .boolean) (by decide) hret (hb hby d2_56) (by decide) (by decide) ?_
          refine ⟨1, rfl, ?_, rfl, e0⟩
          simp [own_al, hPb0, hPb1, hPb2, hPb3]
theorem pn_0 : plainFor x = true := plainFor_of_name (by first | (simp [plainName, overriddenIn]; done) | decide +kernel)
theorem ef_con0 (m : MethodId) (p0 : Int32) (p1 : Int32) (p2 : Int32) (p3 : Int32) (p4 : Int32) : entryFrame m #[(.int p0), (.int p1), (.int p2), (.int p3), (.int p4)] 12 = mkF m 0 #[.val (.int p0), .val (.int p1), .val (.int p2), .val (.int p3), .val (.int p4), .unset, .unset, .unset, .unset, .unset, .unset, .unset] [] := by first | (simp [entryFrame, mkF, argsToLocals, Value.category]; done) | rfl
theorem pd0 : parseMethodDescriptor "(I)B" = some ⟨[.int], some .byte⟩ := by decide +kernel
theorem pd1 : parseMethodDescriptor "([B)Z" = some ⟨[(.array .byte)], some .boolean⟩ := by decide +kernel
theorem pd2 : parseMethodDescriptor "(B)Z" = some ⟨[.byte], some .boolean⟩ := by decide +kernel
set_option maxRecDepth 65536 in
set_option maxHeartbeats 4000000 in
theorem con0 (l : Launch) (Z : State) (a0 : Array Value) (hw : ∀ d ∈ tables_1, d.before a0 Z = true) (p0 : Int32) (p1 : Int32) (p2 : Int32) (p3 : Int32) (p4 : Int32) (h0 : Heap) (n0 : Nat) (Z0 : n0 ≤ h0.size) :
    own_Con l Z x code maxLocals ret room_1 #[(.int p0), (.int p1), (.int p2), (.int p3), (.int p4)] h0 (fun v h L => v = some (.int 1) ∧ Fr n0 L) := by
  refine own_Con_of pn_0 ?_
  intro p e s m below meth c s₁ X0 hx hby hml hret hlk hnm hown hZ e0
  have hown : s.vm.findClass "com/example/ossify/ossify/EventIsBlankPinLaw" = some m.cls := hown
  have hml : c.maxLocals = 12 := hml
  have hret : meth.sig.returnType = (some .boolean) := hret
  have N0 := Fr.nil n0
  show own_WP _ _ _ _ _ _ _ (s₁.setTop (entryFrame m #[(.int p0), (.int p1), (.int p2), (.int p3), (.int p4)] 12))
  rw [ef_con0 m p0 p1 p2 p3 p4]
  refine own_iloadN (pc' := 1) X0 hx (hb hby at_0) rfl rfl ?_
  refine own_ldcInt (pc' := 3) X0 hx hZ hown (own_w hw 0 rfl) (hb hby at_1) rfl ?_
  refine own_iand (pc' := 4) X0 hx (hb hby at_3) rfl ?_
  refine own_iconst (pc' := 5) X0 hx (5 : Int32) (hb hby at_4) rfl rfl ?_
  refine own_irem (pc' := 6) X0 hx (hb hby at_5) (by decide) rfl ?_
  obtain ⟨v1, hv1⟩ : ∃ z : Int32, z = ((p0 &&& (2147483647 : Int32)) % (5 : Int32)) := ⟨_, rfl⟩
  refine own_istore (pc' := 8) (l' := #[.val (.int p0), .val (.int p1), .val (.int p2), .val (.int p3), .val (.int p4), .val (.int v1), .unset, .unset, .unset, .unset, .unset, .unset]) X0 hx (hb hby at_6) hv1 rfl rfl ?_
  rcases own_len5 _ _ hv1 with hid | hid | hid | hid | hid
  · subst hid
    show own_WP _ _ _ _ _ _ _ (s₁.setTop (mkF m 8 #[.val (.int p0), .val (.int p1), .val (.int p2), .val (.int p3), .val (.int p4), .val (.int (0 : Int32)), .unset, .unset, .unset, .unset, .unset, .unset] []))
    refine own_iloadN (pc' := 9) X0 hx (hb hby at_8) rfl rfl ?_
    refine own_callS (pc' := 12) (W := 0) (y := (⟨"com/example/ossify/ossify/EventIsBlankPinLaw", "pick", "(I)B"⟩ : MethodName)) X0 hx hZ hown (own_w hw 1 rfl) (own_w hw 2 rfl) (own_w hw 3 rfl) (own_w hw 4 rfl) (by decide) (conP l Z a0 hw p1 _ ) e0 pd0 [(.int p1)] [] rfl rfl rfl (Nat.le_of_eq rfl) (by decide) (by decide) (by rw [hml]; rfl) (hb hby at_9) (by decide) (by decide) rfl ?_
    intro v2 T2 L2 X2 q2
    obtain ⟨r2, rfl, hr2, rfl, e2⟩ := q2
    have N2 := Fr.app N0 (Fr.nil n0)
    show own_WP _ _ _ _ _ _ _ (T2.setTop (mkF m 12 #[.val (.int p0), .val (.int p1), .val (.int p2), .val (.int p3), .val (.int p4), .val (.int (0 : Int32)), .unset, .unset, .unset, .unset, .unset, .unset] [(.int r2)]))
    refine own_istore (pc' := 14) (l' := #[.val (.int p0), .val (.int p1), .val (.int p2), .val (.int p3), .val (.int p4), .val (.int (0 : Int32)), .val (.int r2), .unset, .unset, .unset, .unset, .unset]) X2 hx (hb hby at_12) rfl rfl rfl ?_
    refine own_iloadN (pc' := 15) X2 hx (hb hby at_14) rfl rfl ?_
    refine own_callS (pc' := 18) (W := 0) (y := (⟨"com/example/ossify/ossify/EventIsBlankPinLaw", "pick", "(I)B"⟩ : MethodName)) X2 hx hZ hown (own_w hw 1 rfl) (own_w hw 2 rfl) (own_w hw 3 rfl) (own_w hw 4 rfl) (by decide) (conP l Z a0 hw p2 _ ) e2 pd0 [(.int p2)] [] rfl rfl rfl (Nat.le_of_eq rfl) (by decide) (by decide) (by rw [hml]; rfl) (hb hby at_15) (by decide) (by decide) rfl ?_
    intro v3 T3 L3 X3 q3
    obtain ⟨r3, rfl, hr3, rfl, e3⟩ := q3
    have N3 := Fr.app N2 (Fr.nil n0)
    show own_WP _ _ _ _ _ _ _ (T3.setTop (mkF m 18 #[.val (.int p0), .val (.int p1), .val (.int p2), .val (.int p3), .val (.int p4), .val (.int (0 : Int32)), .val (.int r2), .unset, .unset, .unset, .unset, .unset] [(.int r3)]))
    refine own_istore (pc' := 20) (l' := #[.val (.int p0), .val (.int p1), .val (.int p2), .val (.int p3), .val (.int p4), .val (.int (0 : Int32)), .val (.int r2), .val (.int r3), .unset, .unset, .unset, .unset]) X3 hx (hb hby at_18) rfl rfl rfl ?_
    refine own_iloadN (pc' := 21) X3 hx (hb hby at_20) rfl rfl ?_
    refine own_callS (pc' := 24) (W := 0) (y := (⟨"com/example/ossify/ossify/EventIsBlankPinLaw", "pick", "(I)B"⟩ : MethodName)) X3 hx hZ hown (own_w hw 1 rfl) (own_w hw 2 rfl) (own_w hw 3 rfl) (own_w hw 4 rfl) (by decide) (conP l Z a0 hw p3 _ ) e3 pd0 [(.int p3)] [] rfl rfl rfl (Nat.le_of_eq rfl) (by decide) (by decide) (by rw [hml]; rfl) (hb hby at_21) (by decide) (by decide) rfl ?_
    intro v4 T4 L4 X4 q4
    obtain ⟨r4, rfl, hr4, rfl, e4⟩ := q4
    have N4 := Fr.app N3 (Fr.nil n0)
    show own_WP _ _ _ _ _ _ _ (T4.setTop (mkF m 24 #[.val (.int p0), .val (.int p1), .val (.int p2), .val (.int p3), .val (.int p4), .val (.int (0 : Int32)), .val (.int r2), .val (.int r3), .unset, .unset, .unset, .unset] [(.int r4)]))
    refine own_istore (pc' := 26) (l' := #[.val (.int p0), .val (.int p1), .val (.int p2), .val (.int p3), .val (.int p4), .val (.int (0 : Int32)), .val (.int r2), .val (.int r3), .val (.int r4), .unset, .unset, .unset]) X4 hx (hb hby at_24) rfl rfl rfl ?_
    refine own_iload (pc' := 28) X4 hx (hb hby at_26) rfl rfl ?_
    refine own_callS (pc' := 31) (W := 0) (y := (⟨"com/example/ossify/ossify/EventIsBlankPinLaw", "pick", "(I)B"⟩ : MethodName)) X4 hx hZ hown (own_w hw 1 rfl) (own_w hw 2 rfl) (own_w hw 3 rfl) (own_w hw 4 rfl) (by decide) (conP l Z a0 hw p4 _ ) e4 pd0 [(.int p4)] [] rfl rfl rfl (Nat.le_of_eq rfl) (by decide) (by decide) (by rw [hml]; rfl) (hb hby at_28) (by decide) (by decide) rfl ?_
    intro v5 T5 L5 X5 q5
    obtain ⟨r5, rfl, hr5, rfl, e5⟩ := q5
    have N5 := Fr.app N4 (Fr.nil n0)
    show own_WP _ _ _ _ _ _ _ (T5.setTop (mkF m 31 #[.val (.int p0), .val (.int p1), .val (.int p2), .val (.int p3), .val (.int p4), .val (.int (0 : Int32)), .val (.int r2), .val (.int r3), .val (.int r4), .unset, .unset, .unset] [(.int r5)]))
    refine own_istore (pc' := 33) (l' := #[.val (.int p0), .val (.int p1), .val (.int p2), .val (.int p3), .val (.int p4), .val (.int (0 : Int32)), .val (.int r2), .val (.int r3), .val (.int r4), .val (.int r5), .unset, .unset]) X5 hx (hb hby at_31) rfl rfl rfl ?_
    refine own_iload (pc' := 35) X5 hx (hb hby at_33) rfl rfl ?_
    refine own_newP (pc' := 37) (cap := 0) X5 hx hZ (own_w hw 5 rfl) e5 (hb hby at_35) (by decide) (by decide) (by decide) (by decide) (by decide) rfl ?_
    intro T6 h6 k6 b6 g6 X6 e6 E6 A6
    have g_b6 : n0 ≤ b6 := Nat.le_trans Z0 (Nat.le_of_eq g6.symm)
    have z6 : n0 ≤ h6.size := Nat.le_trans Z0 E6.1
    have V6 : Arv Z h6 b6 k6 .byte (0 : Int32) [] (.int (0 : Int32)) := (Arv.new A6 (by decide)).pad (pad_rep [] (.int (0 : Int32)) 0)
    refine own_astore (pc' := 39) (l' := #[.val (.int p0), .val (.int p1), .val (.int p2), .val (.int p3), .val (.int p4), .val (.int (0 : Int32)), .val (.int r2), .val (.int r3), .val (.int r4), .val (.int r5), .val (.ref b6), .unset]) X6 hx (hb hby at_37) rfl rfl rfl ?_
    refine own_iload (pc' := 41) X6 hx (hb hby at_39) rfl rfl ?_
    refine own_if_le (pt := 50) (pf := 44) X6 hx (hb hby at_41) rfl (by decide) rfl (fun hc41 => ?_) (fun hc41 => absurd hc41 (by decide))
    refine own_iload (pc' := 52) X6 hx (hb hby at_50) rfl rfl ?_
    refine own_iconst (pc' := 53) X6 hx (1 : Int32) (hb hby at_52) rfl rfl ?_
    refine own_icmp_le (pt := 62) (pf := 56) X6 hx (hb hby at_53) rfl (by decide) rfl (fun hc53 => ?_) (fun hc53 => absurd hc53 (by decide))
    refine own_iload (pc' := 64) X6 hx (hb hby at_62) rfl rfl ?_
    refine own_iconst (pc' := 65) X6 hx (2 : Int32) (hb hby at_64) rfl rfl ?_
    refine own_icmp_le (pt := 74) (pf := 68) X6 hx (hb hby at_65) rfl (by decide) rfl (fun hc65 => ?_) (fun hc65 => absurd hc65 (by decide))
    refine own_iload (pc' := 76) X6 hx (hb hby at_74) rfl rfl ?_
    refine own_iconst (pc' := 77) X6 hx (3 : Int32) (hb hby at_76) rfl rfl ?_
    refine own_icmp_le (pt := 86) (pf := 80) X6 hx (hb hby at_77) rfl (by decide) rfl (fun hc77 => ?_) (fun hc77 => absurd hc77 (by decide))
    refine own_iload (pc' := 88) X6 hx (hb hby at_86) rfl rfl ?_
    refine own_iconst (pc' := 89) X6 hx (1 : Int32) (hb hby at_88) rfl rfl ?_
    refine own_icmp_lt (pt := 100) (pf := 92) X6 hx (hb hby at_89) rfl (by decide) rfl (fun hc89 => ?_) (fun hc89 => absurd (by decide) hc89)
    refine own_iload (pc' := 102) X6 hx (hb hby at_100) rfl rfl ?_
    refine own_iconst (pc' := 103) X6 hx (2 : Int32) (hb hby at_102) rfl rfl ?_
    refine own_icmp_lt (pt := 114) (pf := 106) X6 hx (hb hby at_103) rfl (by decide) rfl (fun hc103 => ?_) (fun hc103 => absurd (by decide) hc103)
    refine own_iload (pc' := 116) X6 hx (hb hby at_114) rfl rfl ?_
    refine own_iconst (pc' := 117) X6 hx (3 : Int32) (hb hby at_116) rfl rfl ?_
    refine own_icmp_lt (pt := 128) (pf := 120) X6 hx (hb hby at_117) rfl (by decide) rfl (fun hc117 => ?_) (fun hc117 => absurd (by decide) hc117)
    refine own_iload (pc' := 130) X6 hx (hb hby at_128) rfl rfl ?_
    refine own_iconst (pc' := 131) X6 hx (4 : Int32) (hb hby at_130) rfl rfl ?_
    refine own_icmp_lt (pt := 142) (pf := 134) X6 hx (hb hby at_131) rfl (by decide) rfl (fun hc131 => ?_) (fun hc131 => absurd (by decide) hc131)
    refine own_iconst (pc' := 143) X6 hx (1 : Int32) (hb hby at_142) rfl rfl ?_
    refine own_goto (pc' := 147) X6 hx (hb hby at_143) (by decide) rfl ?_
    refine own_istore (pc' := 149) (l' := #[.val (.int p0), .val (.int p1), .val (.int p2), .val (.int p3), .val (.int p4), .val (.int (0 : Int32)), .val (.int r2), .val (.int r3), .val (.int r4), .val (.int r5), .val (.ref b6), .val (.int (1 : Int32))]) X6 hx (hb hby at_147) rfl rfl rfl ?_
    refine own_aload (pc' := 151) X6 hx (hb hby at_149) rfl rfl rfl ?_
    refine own_callS (pc' := 154) (W := 0) (y := (⟨"com/example/ossify/ossify/Event", "isBlank", "([B)Z"⟩ : MethodName)) X6 hx hZ hown (own_w hw 6 rfl) (own_w hw 7 rfl) (own_w hw 8 rfl) (own_w hw 9 rfl) (by decide) (conB0 l Z a0 hw b6 _ k6  V6) e6 pd1 [(.ref b6)] [] rfl rfl rfl (Nat.le_of_eq rfl) (by decide) (by decide) (by rw [hml]; rfl) (hb hby at_151) (by decide) (by decide) rfl ?_
    intro v7 T7 L7 X7 q7
    obtain ⟨r7, rfl, hr7, rfl, e7⟩ := q7
    have N7 := Fr.app N5 (Fr.nil n0)
    show own_WP _ _ _ _ _ _ _ (T7.setTop (mkF m 154 #[.val (.int p0), .val (.int p1), .val (.int p2), .val (.int p3), .val (.int p4), .val (.int (0 : Int32)), .val (.int r2), .val (.int r3), .val (.int r4), .val (.int r5), .val (.ref b6), .val (.int (1 : Int32))] [(.int r7)]))
    refine own_iload (pc' := 156) X7 hx (hb hby at_154) rfl rfl ?_
    refine own_icmp_ne (pt := 163) (pf := 159) X7 hx (hb hby at_156) rfl (by decide) rfl (fun hc156 => absurd (by rw [hr7]; simp [own_al]) hc156) (fun hc156 => ?_)
    refine own_iconst (pc' := 160) X7 hx (1 : Int32) (hb hby at_159) rfl rfl ?_
    refine own_goto (pc' := 164) X7 hx (hb hby at_160) (by decide) rfl ?_
    refine own_retN X7 hx hlk (t := .boolean) (by decide) hret (hb hby at_164) (by decide) (by decide) ?_
    exact ⟨rfl, N7⟩
  · subst hid
    show own_WP _ _ _ _ _ _ _ (s₁.setTop (mkF m 8 #[.val (.int p0), .val (.int p1), .val (.int p2), .val (.int p3), .val (.int p4), .val (.int (1 : Int32)), .unset, .unset, .unset, .unset, .unset, .unset] []))
    refine own_iloadN (pc' := 9) X0 hx (hb hby at_8) rfl rfl ?_
    refine own_callS (pc' := 12) (W := 0) (y := (⟨"com/example/ossify/ossify/EventIsBlankPinLaw", "pick", "(I)B"⟩ : MethodName)) X0 hx hZ hown (own_w hw 1 rfl) (own_w hw 2 rfl) (own_w hw 3 rfl) (own_w hw 4 rfl) (by decide) (conP l Z a0 hw p1 _ ) e0 pd0 [(.int p1)] [] rfl rfl rfl (Nat.le_of_eq rfl) (by decide) (by decide) (by rw [hml]; rfl) (hb hby at_9) (by decide) (by decide) rfl ?_
    intro v8 T8 L8 X8 q8
    obtain ⟨r8, rfl, hr8, rfl, e8⟩ := q8
    have N8 := Fr.app N0 (Fr.nil n0)
    show own_WP _ _ _ _ _ _ _ (T8.setTop (mkF m 12 #[.val (.int p0), .val (.int p1), .val (.int p2), .val (.int p3), .val (.int p4), .val (.int (1 : Int32)), .unset, .unset, .unset, .unset, .unset, .unset] [(.int r8)]))
    refine own_istore (pc' := 14) (l' := #[.val (.int p0), .val (.int p1), .val (.int p2), .val (.int p3), .val (.int p4), .val (.int (1 : Int32)), .val (.int r8), .unset, .unset, .unset, .unset, .unset]) X8 hx (hb hby at_12) rfl rfl rfl ?_
    refine own_iloadN (pc' := 15) X8 hx (hb hby at_14) rfl rfl ?_
    refine own_callS (pc' := 18) (W := 0) (y := (⟨"com/example/ossify/ossify/EventIsBlankPinLaw", "pick", "(I)B"⟩ : MethodName)) X8 hx hZ hown (own_w hw 1 rfl) (own_w hw 2 rfl) (own_w hw 3 rfl) (own_w hw 4 rfl) (by decide) (conP l Z a0 hw p2 _ ) e8 pd0 [(.int p2)] [] rfl rfl rfl (Nat.le_of_eq rfl) (by decide) (by decide) (by rw [hml]; rfl) (hb hby at_15) (by decide) (by decide) rfl ?_
    intro v9 T9 L9 X9 q9
    obtain ⟨r9, rfl, hr9, rfl, e9⟩ := q9
    have N9 := Fr.app N8 (Fr.nil n0)
    show own_WP _ _ _ _ _ _ _ (T9.setTop (mkF m 18 #[.val (.int p0), .val (.int p1), .val (.int p2), .val (.int p3), .val (.int p4), .val (.int (1 : Int32)), .val (.int r8), .unset, .unset, .unset, .unset, .unset] [(.int r9)]))
    refine own_istore (pc' := 20) (l' := #[.val (.int p0), .val (.int p1), .val (.int p2), .val (.int p3), .val (.int p4), .val (.int (1 : Int32)), .val (.int r8), .val (.int r9), .unset, .unset, .unset, .unset]) X9 hx (hb hby at_18) rfl rfl rfl ?_
    refine own_iloadN (pc' := 21) X9 hx (hb hby at_20) rfl rfl ?_
    refine own_callS (pc' := 24) (W := 0) (y := (⟨"com/example/ossify/ossify/EventIsBlankPinLaw", "pick", "(I)B"⟩ : MethodName)) X9 hx hZ hown (own_w hw 1 rfl) (own_w hw 2 rfl) (own_w hw 3 rfl) (own_w hw 4 rfl) (by decide) (conP l Z a0 hw p3 _ ) e9 pd0 [(.int p3)] [] rfl rfl rfl (Nat.le_of_eq rfl) (by decide) (by decide) (by rw [hml]; rfl) (hb hby at_21) (by decide) (by decide) rfl ?_
    intro v10 T10 L10 X10 q10
    obtain ⟨r10, rfl, hr10, rfl, e10⟩ := q10
    have N10 := Fr.app N9 (Fr.nil n0)
    show own_WP _ _ _ _ _ _ _ (T10.setTop (mkF m 24 #[.val (.int p0), .val (.int p1), .val (.int p2), .val (.int p3), .val (.int p4), .val (.int (1 : Int32)), .val (.int r8), .val (.int r9), .unset, .unset, .unset, .unset] [(.int r10)]))
    refine own_istore (pc' := 26) (l' := #[.val (.int p0), .val (.int p1), .val (.int p2), .val (.int p3), .val (.int p4), .val (.int (1 : Int32)), .val (.int r8), .val (.int r9), .val (.int r10), .unset, .unset, .unset]) X10 hx (hb hby at_24) rfl rfl rfl ?_
    refine own_iload (pc' := 28) X10 hx (hb hby at_26) rfl rfl ?_
    refine own_callS (pc' := 31) (W := 0) (y := (⟨"com/example/ossify/ossify/EventIsBlankPinLaw", "pick", "(I)B"⟩ : MethodName)) X10 hx hZ hown (own_w hw 1 rfl) (own_w hw 2 rfl) (own_w hw 3 rfl) (own_w hw 4 rfl) (by decide) (conP l Z a0 hw p4 _ ) e10 pd0 [(.int p4)] [] rfl rfl rfl (Nat.le_of_eq rfl) (by decide) (by decide) (by rw [hml]; rfl) (hb hby at_28) (by decide) (by decide) rfl ?_
    intro v11 T11 L11 X11 q11
    obtain ⟨r11, rfl, hr11, rfl, e11⟩ := q11
    have N11 := Fr.app N10 (Fr.nil n0)
    show own_WP _ _ _ _ _ _ _ (T11.setTop (mkF m 31 #[.val (.int p0), .val (.int p1), .val (.int p2), .val (.int p3), .val (.int p4), .val (.int (1 : Int32)), .val (.int r8), .val (.int r9), .val (.int r10), .unset, .unset, .unset] [(.int r11)]))
    refine own_istore (pc' := 33) (l' := #[.val (.int p0), .val (.int p1), .val (.int p2), .val (.int p3), .val (.int p4), .val (.int (1 : Int32)), .val (.int r8), .val (.int r9), .val (.int r10), .val (.int r11), .unset, .unset]) X11 hx (hb hby at_31) rfl rfl rfl ?_
    refine own_iload (pc' := 35) X11 hx (hb hby at_33) rfl rfl ?_
    refine own_newP (pc' := 37) (cap := 1) X11 hx hZ (own_w hw 5 rfl) e11 (hb hby at_35) (by decide) (by decide) (by decide) (by decide) (by decide) rfl ?_
    intro T12 h12 k12 b12 g12 X12 e12 E12 A12
    have g_b12 : n0 ≤ b12 := Nat.le_trans Z0 (Nat.le_of_eq g12.symm)
    have z12 : n0 ≤ h12.size := Nat.le_trans Z0 E12.1
    have V12 : Arv Z h12 b12 k12 .byte (1 : Int32) [(.int (0 : Int32))] (.int (0 : Int32)) := (Arv.new A12 (by decide)).pad (pad_rep [] (.int (0 : Int32)) 1)
    refine own_astore (pc' := 39) (l' := #[.val (.int p0), .val (.int p1), .val (.int p2), .val (.int p3), .val (.int p4), .val (.int (1 : Int32)), .val (.int r8), .val (.int r9), .val (.int r10), .val (.int r11), .val (.ref b12), .unset]) X12 hx (hb hby at_37) rfl rfl rfl ?_
    refine own_iload (pc' := 41) X12 hx (hb hby at_39) rfl rfl ?_
    refine own_if_le (pt := 50) (pf := 44) X12 hx (hb hby at_41) rfl (by decide) rfl (fun hc41 => absurd (by decide) hc41) (fun hc41 => ?_)
    refine own_aload (pc' := 46) X12 hx (hb hby at_44) rfl rfl rfl ?_
    refine own_iconst (pc' := 47) X12 hx (0 : Int32) (hb hby at_46) rfl rfl ?_
    refine own_iload (pc' := 49) X12 hx (hb hby at_47) rfl rfl ?_
    refine own_bastore (pc' := 50) X12 hx hZ e12 V12 ⟨by decide, by decide⟩ 0 rfl (Nat.le_of_ble_eq_true rfl) (hb hby at_49) rfl ?_
    intro T13 h13 X13 e13 W13 V13
    have z13 : n0 ≤ h13.size := Nat.le_trans z12 (Keep.of_wr W13).1
    have V13 : Arv Z h13 b12 k12 .byte (1 : Int32) [(.int (nar .byte r8))] (.int (0 : Int32)) := V13
    have N13 := Fr.snoc X13 N11 g_b12
    rw [hr8] at V13
    refine own_iload (pc' := 52) X13 hx (hb hby at_50) rfl rfl ?_
    refine own_iconst (pc' := 53) X13 hx (1 : Int32) (hb hby at_52) rfl rfl ?_
    refine own_icmp_le (pt := 62) (pf := 56) X13 hx (hb hby at_53) rfl (by decide) rfl (fun hc53 => ?_) (fun hc53 => absurd hc53 (by decide))
    refine own_iload (pc' := 64) X13 hx (hb hby at_62) rfl rfl ?_
    refine own_iconst (pc' := 65) X13 hx (2 : Int32) (hb hby at_64) rfl rfl ?_
    refine own_icmp_le (pt := 74) (pf := 68) X13 hx (hb hby at_65) rfl (by decide) rfl (fun hc65 => ?_) (fun hc65 => absurd hc65 (by decide))
    refine own_iload (pc' := 76) X13 hx (hb hby at_74) rfl rfl ?_
    refine own_iconst (pc' := 77) X13 hx (3 : Int32) (hb hby at_76) rfl rfl ?_
    refine own_icmp_le (pt := 86) (pf := 80) X13 hx (hb hby at_77) rfl (by decide) rfl (fun hc77 => ?_) (fun hc77 => absurd hc77 (by decide))
    refine own_iload (pc' := 88) X13 hx (hb hby at_86) rfl rfl ?_
    refine own_iconst (pc' := 89) X13 hx (1 : Int32) (hb hby at_88) rfl rfl ?_
    refine own_icmp_lt (pt := 100) (pf := 92) X13 hx (hb hby at_89) rfl (by decide) rfl (fun hc89 => absurd hc89 (by decide)) (fun hc89 => ?_)
    refine own_iload (pc' := 94) X13 hx (hb hby at_92) rfl rfl ?_
    refine own_callS (pc' := 97) (W := 0) (y := (⟨"com/example/ossify/ossify/EventIsBlankPinLaw", "blank", "(B)Z"⟩ : MethodName)) X13 hx hZ hown (own_w hw 11 rfl) (own_w hw 12 rfl) (own_w hw 3 rfl) (own_w hw 13 rfl) (by decide) (conK l Z a0 hw r8 _ ) e13 pd2 [(.int r8)] [] rfl rfl rfl (Nat.le_of_eq rfl) (by decide) (by decide) (by rw [hml]; rfl) (hb hby at_94) (by decide) (by decide) rfl ?_
    intro v14 T14 L14 X14 q14
    obtain ⟨r14, rfl, hr14, rfl, e14⟩ := q14
    have N14 := Fr.app N13 (Fr.nil n0)
    show own_WP _ _ _ _ _ _ _ (T14.setTop (mkF m 97 #[.val (.int p0), .val (.int p1), .val (.int p2), .val (.int p3), .val (.int p4), .val (.int (1 : Int32)), .val (.int r8), .val (.int r9), .val (.int r10), .val (.int r11), .val (.ref b12), .unset] [(.int r14)]))
    refine own_if_eq (pt := 146) (pf := 100) X14 hx (hb hby at_97) rfl (by decide) rfl (fun hc97 => ?_) (fun hc97 => ?_)
    · skip
      refine own_iconst (pc' := 147) X14 hx (0 : Int32) (hb hby at_146) rfl rfl ?_
      refine own_istore (pc' := 149) (l' := #[.val (.int p0), .val (.int p1), .val (.int p2), .val (.int p3), .val (.int p4), .val (.int (1 : Int32)), .val (.int r8), .val (.int r9), .val (.int r10), .val (.int r11), .val (.ref b12), .val (.int (0 : Int32))]) X14 hx (hb hby at_147) rfl rfl rfl ?_
      refine own_aload (pc' := 151) X14 hx (hb hby at_149) rfl rfl rfl ?_
      refine own_callS (pc' := 154) (W := 0) (y := (⟨"com/example/ossify/ossify/Event", "isBlank", "([B)Z"⟩ : MethodName)) X14 hx hZ hown (own_w hw 6 rfl) (own_w hw 7 rfl) (own_w hw 8 rfl) (own_w hw 9 rfl) (by decide) (conB1 l Z a0 hw b12 _ k12 r8 V13) e14 pd1 [(.ref b12)] [] rfl rfl rfl (Nat.le_of_eq rfl) (by decide) (by decide) (by rw [hml]; rfl) (hb hby at_151) (by decide) (by decide) rfl ?_
      intro v15 T15 L15 X15 q15
      obtain ⟨r15, rfl, hr15, rfl, e15⟩ := q15
      have N15 := Fr.app N14 (Fr.nil n0)
      show own_WP _ _ _ _ _ _ _ (T15.setTop (mkF m 154 #[.val (.int p0), .val (.int p1), .val (.int p2), .val (.int p3), .val (.int p4), .val (.int (1 : Int32)), .val (.int r8), .val (.int r9), .val (.int r10), .val (.int r11), .val (.ref b12), .val (.int (0 : Int32))] [(.int r15)]))
      refine own_iload (pc' := 156) X15 hx (hb hby at_154) rfl rfl ?_
      have qr14 := own_bkN hr14 hc97
      refine own_icmp_ne (pt := 163) (pf := 159) X15 hx (hb hby at_156) rfl (by decide) rfl (fun hc156 => absurd (by rw [hr15]; simp [own_al, qr14]) hc156) (fun hc156 => ?_)
      refine own_iconst (pc' := 160) X15 hx (1 : Int32) (hb hby at_159) rfl rfl ?_
      refine own_goto (pc' := 164) X15 hx (hb hby at_160) (by decide) rfl ?_
      refine own_retN X15 hx hlk (t := .boolean) (by decide) hret (hb hby at_164) (by decide) (by decide) ?_
      exact ⟨rfl, N15⟩
    · skip
      refine own_iload (pc' := 102) X14 hx (hb hby at_100) rfl rfl ?_
      refine own_iconst (pc' := 103) X14 hx (2 : Int32) (hb hby at_102) rfl rfl ?_
      refine own_icmp_lt (pt := 114) (pf := 106) X14 hx (hb hby at_103) rfl (by decide) rfl (fun hc103 => ?_) (fun hc103 => absurd (by decide) hc103)
      refine own_iload (pc' := 116) X14 hx (hb hby at_114) rfl rfl ?_
      refine own_iconst (pc' := 117) X14 hx (3 : Int32) (hb hby at_116) rfl rfl ?_
      refine own_icmp_lt (pt := 128) (pf := 120) X14 hx (hb hby at_117) rfl (by decide) rfl (fun hc117 => ?_) (fun hc117 => absurd (by decide) hc117)
      refine own_iload (pc' := 130) X14 hx (hb hby at_128) rfl rfl ?_
      refine own_iconst (pc' := 131) X14 hx (4 : Int32) (hb hby at_130) rfl rfl ?_
      refine own_icmp_lt (pt := 142) (pf := 134) X14 hx (hb hby at_131) rfl (by decide) rfl (fun hc131 => ?_) (fun hc131 => absurd (by decide) hc131)
      refine own_iconst (pc' := 143) X14 hx (1 : Int32) (hb hby at_142) rfl rfl ?_
      refine own_goto (pc' := 147) X14 hx (hb hby at_143) (by decide) rfl ?_
      refine own_istore (pc' := 149) (l' := #[.val (.int p0), .val (.int p1), .val (.int p2), .val (.int p3), .val (.int p4), .val (.int (1 : Int32)), .val (.int r8), .val (.int r9), .val (.int r10), .val (.int r11), .val (.ref b12), .val (.int (1 : Int32))]) X14 hx (hb hby at_147) rfl rfl rfl ?_
      refine own_aload (pc' := 151) X14 hx (hb hby at_149) rfl rfl rfl ?_
      refine own_callS (pc' := 154) (W := 0) (y := (⟨"com/example/ossify/ossify/Event", "isBlank", "([B)Z"⟩ : MethodName)) X14 hx hZ hown (own_w hw 6 rfl) (own_w hw 7 rfl) (own_w hw 8 rfl) (own_w hw 9 rfl) (by decide) (conB1 l Z a0 hw b12 _ k12 r8 V13) e14 pd1 [(.ref b12)] [] rfl rfl rfl (Nat.le_of_eq rfl) (by decide) (by decide) (by rw [hml]; rfl) (hb hby at_151) (by decide) (by decide) rfl ?_
      intro v16 T16 L16 X16 q16
      obtain ⟨r16, rfl, hr16, rfl, e16⟩ := q16
      have N16 := Fr.app N14 (Fr.nil n0)
      show own_WP _ _ _ _ _ _ _ (T16.setTop (mkF m 154 #[.val (.int p0), .val (.int p1), .val (.int p2), .val (.int p3), .val (.int p4), .val (.int (1 : Int32)), .val (.int r8), .val (.int r9), .val (.int r10), .val (.int r11), .val (.ref b12), .val (.int (1 : Int32))] [(.int r16)]))
      refine own_iload (pc' := 156) X16 hx (hb hby at_154) rfl rfl ?_
      have qr14 := own_bkY hr14 hc97
      refine own_icmp_ne (pt := 163) (pf := 159) X16 hx (hb hby at_156) rfl (by decide) rfl (fun hc156 => absurd (by rw [hr16]; simp [own_al, qr14]) hc156) (fun hc156 => ?_)
      refine own_iconst (pc' := 160) X16 hx (1 : Int32) (hb hby at_159) rfl rfl ?_
      refine own_goto (pc' := 164) X16 hx (hb hby at_160) (by decide) rfl ?_
      refine own_retN X16 hx hlk (t := .boolean) (by decide) hret (hb hby at_164) (by decide) (by decide) ?_
      exact ⟨rfl, N16⟩
  · subst hid
    show own_WP _ _ _ _ _ _ _ (s₁.setTop (mkF m 8 #[.val (.int p0), .val (.int p1), .val (.int p2), .val (.int p3), .val (.int p4), .val (.int (2 : Int32)), .unset, .unset, .unset, .unset, .unset, .unset] []))
    refine own_iloadN (pc' := 9) X0 hx (hb hby at_8) rfl rfl ?_
    refine own_callS (pc' := 12) (W := 0) (y := (⟨"com/example/ossify/ossify/EventIsBlankPinLaw", "pick", "(I)B"⟩ : MethodName)) X0 hx hZ hown (own_w hw 1 rfl) (own_w hw 2 rfl) (own_w hw 3 rfl) (own_w hw 4 rfl) (by decide) (conP l Z a0 hw p1 _ ) e0 pd0 [(.int p1)] [] rfl rfl rfl (Nat.le_of_eq rfl) (by decide) (by decide) (by rw [hml]; rfl) (hb hby at_9) (by decide) (by decide) rfl ?_
    intro v17 T17 L17 X17 q17
    obtain ⟨r17, rfl, hr17, rfl, e17⟩ := q17
    have N17 := Fr.app N0 (Fr.nil n0)
    show own_WP _ _ _ _ _ _ _ (T17.setTop (mkF m 12 #[.val (.int p0), .val (.int p1), .val (.int p2), .val (.int p3), .val (.int p4), .val (.int (2 : Int32)), .unset, .unset, .unset, .unset, .unset, .unset] [(.int r17)]))
    refine own_istore (pc' := 14) (l' := #[.val (.int p0), .val (.int p1), .val (.int p2), .val (.int p3), .val (.int p4), .val (.int (2 : Int32)), .val (.int r17), .unset, .unset, .unset, .unset, .unset]) X17 hx (hb hby at_12) rfl rfl rfl ?_
    refine own_iloadN (pc' := 15) X17 hx (hb hby at_14) rfl rfl ?_
    refine own_callS (pc' := 18) (W := 0) (y := (⟨"com/example/ossify/ossify/EventIsBlankPinLaw", "pick", "(I)B"⟩ : MethodName)) X17 hx hZ hown (own_w hw 1 rfl) (own_w hw 2 rfl) (own_w hw 3 rfl) (own_w hw 4 rfl) (by decide) (conP l Z a0 hw p2 _ ) e17 pd0 [(.int p2)] [] rfl rfl rfl (Nat.le_of_eq rfl) (by decide) (by decide) (by rw [hml]; rfl) (hb hby at_15) (by decide) (by decide) rfl ?_
    intro v18 T18 L18 X18 q18
    obtain ⟨r18, rfl, hr18, rfl, e18⟩ := q18
    have N18 := Fr.app N17 (Fr.nil n0)
    show own_WP _ _ _ _ _ _ _ (T18.setTop (mkF m 18 #[.val (.int p0), .val (.int p1), .val (.int p2), .val (.int p3), .val (.int p4), .val (.int (2 : Int32)), .val (.int r17), .unset, .unset, .unset, .unset, .unset] [(.int r18)]))
    refine own_istore (pc' := 20) (l' := #[.val (.int p0), .val (.int p1), .val (.int p2), .val (.int p3), .val (.int p4), .val (.int (2 : Int32)), .val (.int r17), .val (.int r18), .unset, .unset, .unset, .unset]) X18 hx (hb hby at_18) rfl rfl rfl ?_
    refine own_iloadN (pc' := 21) X18 hx (hb hby at_20) rfl rfl ?_
    refine own_callS (pc' := 24) (W := 0) (y := (⟨"com/example/ossify/ossify/EventIsBlankPinLaw", "pick", "(I)B"⟩ : MethodName)) X18 hx hZ hown (own_w hw 1 rfl) (own_w hw 2 rfl) (own_w hw 3 rfl) (own_w hw 4 rfl) (by decide) (conP l Z a0 hw p3 _ ) e18 pd0 [(.int p3)] [] rfl rfl rfl (Nat.le_of_eq rfl) (by decide) (by decide) (by rw [hml]; rfl) (hb hby at_21) (by decide) (by decide) rfl ?_
    intro v19 T19 L19 X19 q19
    obtain ⟨r19, rfl, hr19, rfl, e19⟩ := q19
    have N19 := Fr.app N18 (Fr.nil n0)
    show own_WP _ _ _ _ _ _ _ (T19.setTop (mkF m 24 #[.val (.int p0), .val (.int p1), .val (.int p2), .val (.int p3), .val (.int p4), .val (.int (2 : Int32)), .val (.int r17), .val (.int r18), .unset, .unset, .unset, .unset] [(.int r19)]))
    refine own_istore (pc' := 26) (l' := #[.val (.int p0), .val (.int p1), .val (.int p2), .val (.int p3), .val (.int p4), .val (.int (2 : Int32)), .val (.int r17), .val (.int r18), .val (.int r19), .unset, .unset, .unset]) X19 hx (hb hby at_24) rfl rfl rfl ?_
    refine own_iload (pc' := 28) X19 hx (hb hby at_26) rfl rfl ?_
    refine own_callS (pc' := 31) (W := 0) (y := (⟨"com/example/ossify/ossify/EventIsBlankPinLaw", "pick", "(I)B"⟩ : MethodName)) X19 hx hZ hown (own_w hw 1 rfl) (own_w hw 2 rfl) (own_w hw 3 rfl) (own_w hw 4 rfl) (by decide) (conP l Z a0 hw p4 _ ) e19 pd0 [(.int p4)] [] rfl rfl rfl (Nat.le_of_eq rfl) (by decide) (by decide) (by rw [hml]; rfl) (hb hby at_28) (by decide) (by decide) rfl ?_
    intro v20 T20 L20 X20 q20
    obtain ⟨r20, rfl, hr20, rfl, e20⟩ := q20
    have N20 := Fr.app N19 (Fr.nil n0)
    show own_WP _ _ _ _ _ _ _ (T20.setTop (mkF m 31 #[.val (.int p0), .val (.int p1), .val (.int p2), .val (.int p3), .val (.int p4), .val (.int (2 : Int32)), .val (.int r17), .val (.int r18), .val (.int r19), .unset, .unset, .unset] [(.int r20)]))
    refine own_istore (pc' := 33) (l' := #[.val (.int p0), .val (.int p1), .val (.int p2), .val (.int p3), .val (.int p4), .val (.int (2 : Int32)), .val (.int r17), .val (.int r18), .val (.int r19), .val (.int r20), .unset, .unset]) X20 hx (hb hby at_31) rfl rfl rfl ?_
    refine own_iload (pc' := 35) X20 hx (hb hby at_33) rfl rfl ?_
    refine own_newP (pc' := 37) (cap := 2) X20 hx hZ (own_w hw 5 rfl) e20 (hb hby at_35) (by decide) (by decide) (by decide) (by decide) (by decide) rfl ?_
    intro T21 h21 k21 b21 g21 X21 e21 E21 A21
    have g_b21 : n0 ≤ b21 := Nat.le_trans Z0 (Nat.le_of_eq g21.symm)
    have z21 : n0 ≤ h21.size := Nat.le_trans Z0 E21.1
    have V21 : Arv Z h21 b21 k21 .byte (2 : Int32) [(.int (0 : Int32)), (.int (0 : Int32))] (.int (0 : Int32)) := (Arv.new A21 (by decide)).pad (pad_rep [] (.int (0 : Int32)) 2)
    refine own_astore (pc' := 39) (l' := #[.val (.int p0), .val (.int p1), .val (.int p2), .val (.int p3), .val (.int p4), .val (.int (2 : Int32)), .val (.int r17), .val (.int r18), .val (.int r19), .val (.int r20), .val (.ref b21), .unset]) X21 hx (hb hby at_37) rfl rfl rfl ?_
    refine own_iload (pc' := 41) X21 hx (hb hby at_39) rfl rfl ?_
    refine own_if_le (pt := 50) (pf := 44) X21 hx (hb hby at_41) rfl (by decide) rfl (fun hc41 => absurd (by decide) hc41) (fun hc41 => ?_)
    refine own_aload (pc' := 46) X21 hx (hb hby at_44) rfl rfl rfl ?_
    refine own_iconst (pc' := 47) X21 hx (0 : Int32) (hb hby at_46) rfl rfl ?_
    refine own_iload (pc' := 49) X21 hx (hb hby at_47) rfl rfl ?_
    refine own_bastore (pc' := 50) X21 hx hZ e21 V21 ⟨by decide, by decide⟩ 0 rfl (Nat.le_of_ble_eq_true rfl) (hb hby at_49) rfl ?_
    intro T22 h22 X22 e22 W22 V22
    have z22 : n0 ≤ h22.size := Nat.le_trans z21 (Keep.of_wr W22).1
    have V22 : Arv Z h22 b21 k21 .byte (2 : Int32) [(.int (nar .byte r17)), (.int (0 : Int32))] (.int (0 : Int32)) := V22
    have N22 := Fr.snoc X22 N20 g_b21
    rw [hr17] at V22
    refine own_iload (pc' := 52) X22 hx (hb hby at_50) rfl rfl ?_
    refine own_iconst (pc' := 53) X22 hx (1 : Int32) (hb hby at_52) rfl rfl ?_
    refine own_icmp_le (pt := 62) (pf := 56) X22 hx (hb hby at_53) rfl (by decide) rfl (fun hc53 => absurd (by decide) hc53) (fun hc53 => ?_)
    refine own_aload (pc' := 58) X22 hx (hb hby at_56) rfl rfl rfl ?_
    refine own_iconst (pc' := 59) X22 hx (1 : Int32) (hb hby at_58) rfl rfl ?_
    refine own_iload (pc' := 61) X22 hx (hb hby at_59) rfl rfl ?_
    refine own_bastore (pc' := 62) X22 hx hZ e22 V22 ⟨by decide, by decide⟩ 1 rfl (Nat.le_of_ble_eq_true rfl) (hb hby at_61) rfl ?_
    intro T23 h23 X23 e23 W23 V23
    have z23 : n0 ≤ h23.size := Nat.le_trans z22 (Keep.of_wr W23).1
    have V23 : Arv Z h23 b21 k21 .byte (2 : Int32) [(.int r17), (.int (nar .byte r18))] (.int (0 : Int32)) := V23
    have N23 := Fr.snoc X23 N22 g_b21
    rw [hr18] at V23
    refine own_iload (pc' := 64) X23 hx (hb hby at_62) rfl rfl ?_
    refine own_iconst (pc' := 65) X23 hx (2 : Int32) (hb hby at_64) rfl rfl ?_
    refine own_icmp_le (pt := 74) (pf := 68) X23 hx (hb hby at_65) rfl (by decide) rfl (fun hc65 => ?_) (fun hc65 => absurd hc65 (by decide))
    refine own_iload (pc' := 76) X23 hx (hb hby at_74) rfl rfl ?_
    refine own_iconst (pc' := 77) X23 hx (3 : Int32) (hb hby at_76) rfl rfl ?_
    refine own_icmp_le (pt := 86) (pf := 80) X23 hx (hb hby at_77) rfl (by decide) rfl (fun hc77 => ?_) (fun hc77 => absurd hc77 (by decide))
    refine own_iload (pc' := 88) X23 hx (hb hby at_86) rfl rfl ?_
    refine own_iconst (pc' := 89) X23 hx (1 : Int32) (hb hby at_88) rfl rfl ?_
    refine own_icmp_lt (pt := 100) (pf := 92) X23 hx (hb hby at_89) rfl (by decide) rfl (fun hc89 => absurd hc89 (by decide)) (fun hc89 => ?_)
    refine own_iload (pc' := 94) X23 hx (hb hby at_92) rfl rfl ?_
    refine own_callS (pc' := 97) (W := 0) (y := (⟨"com/example/ossify/ossify/EventIsBlankPinLaw", "blank", "(B)Z"⟩ : MethodName)) X23 hx hZ hown (own_w hw 11 rfl) (own_w hw 12 rfl) (own_w hw 3 rfl) (own_w hw 13 rfl) (by decide) (conK l Z a0 hw r17 _ ) e23 pd2 [(.int r17)] [] rfl rfl rfl (Nat.le_of_eq rfl) (by decide) (by decide) (by rw [hml]; rfl) (hb hby at_94) (by decide) (by decide) rfl ?_
    intro v24 T24 L24 X24 q24
    obtain ⟨r24, rfl, hr24, rfl, e24⟩ := q24
    have N24 := Fr.app N23 (Fr.nil n0)
    show own_WP _ _ _ _ _ _ _ (T24.setTop (mkF m 97 #[.val (.int p0), .val (.int p1), .val (.int p2), .val (.int p3), .val (.int p4), .val (.int (2 : Int32)), .val (.int r17), .val (.int r18), .val (.int r19), .val (.int r20), .val (.ref b21), .unset] [(.int r24)]))
    refine own_if_eq (pt := 146) (pf := 100) X24 hx (hb hby at_97) rfl (by decide) rfl (fun hc97 => ?_) (fun hc97 => ?_)
    · skip
      refine own_iconst (pc' := 147) X24 hx (0 : Int32) (hb hby at_146) rfl rfl ?_
      refine own_istore (pc' := 149) (l' := #[.val (.int p0), .val (.int p1), .val (.int p2), .val (.int p3), .val (.int p4), .val (.int (2 : Int32)), .val (.int r17), .val (.int r18), .val (.int r19), .val (.int r20), .val (.ref b21), .val (.int (0 : Int32))]) X24 hx (hb hby at_147) rfl rfl rfl ?_
      refine own_aload (pc' := 151) X24 hx (hb hby at_149) rfl rfl rfl ?_
      refine own_callS (pc' := 154) (W := 0) (y := (⟨"com/example/ossify/ossify/Event", "isBlank", "([B)Z"⟩ : MethodName)) X24 hx hZ hown (own_w hw 6 rfl) (own_w hw 7 rfl) (own_w hw 8 rfl) (own_w hw 9 rfl) (by decide) (conB2 l Z a0 hw b21 _ k21 r17 r18 V23) e24 pd1 [(.ref b21)] [] rfl rfl rfl (Nat.le_of_eq rfl) (by decide) (by decide) (by rw [hml]; rfl) (hb hby at_151) (by decide) (by decide) rfl ?_
      intro v25 T25 L25 X25 q25
      obtain ⟨r25, rfl, hr25, rfl, e25⟩ := q25
      have N25 := Fr.app N24 (Fr.nil n0)
      show own_WP _ _ _ _ _ _ _ (T25.setTop (mkF m 154 #[.val (.int p0), .val (.int p1), .val (.int p2), .val (.int p3), .val (.int p4), .val (.int (2 : Int32)), .val (.int r17), .val (.int r18), .val (.int r19), .val (.int r20), .val (.ref b21), .val (.int (0 : Int32))] [(.int r25)]))
      refine own_iload (pc' := 156) X25 hx (hb hby at_154) rfl rfl ?_
      have qr24 := own_bkN hr24 hc97
      refine own_icmp_ne (pt := 163) (pf := 159) X25 hx (hb hby at_156) rfl (by decide) rfl (fun hc156 => absurd (by rw [hr25]; simp [own_al, qr24]) hc156) (fun hc156 => ?_)
      refine own_iconst (pc' := 160) X25 hx (1 : Int32) (hb hby at_159) rfl rfl ?_
      refine own_goto (pc' := 164) X25 hx (hb hby at_160) (by decide) rfl ?_
      refine own_retN X25 hx hlk (t := .boolean) (by decide) hret (hb hby at_164) (by decide) (by decide) ?_
      exact ⟨rfl, N25⟩
    · skip
      refine own_iload (pc' := 102) X24 hx (hb hby at_100) rfl rfl ?_
      refine own_iconst (pc' := 103) X24 hx (2 : Int32) (hb hby at_102) rfl rfl ?_
      refine own_icmp_lt (pt := 114) (pf := 106) X24 hx (hb hby at_103) rfl (by decide) rfl (fun hc103 => absurd hc103 (by decide)) (fun hc103 => ?_)
      refine own_iload (pc' := 108) X24 hx (hb hby at_106) rfl rfl ?_
      refine own_callS (pc' := 111) (W := 0) (y := (⟨"com/example/ossify/ossify/EventIsBlankPinLaw", "blank", "(B)Z"⟩ : MethodName)) X24 hx hZ hown (own_w hw 11 rfl) (own_w hw 12 rfl) (own_w hw 3 rfl) (own_w hw 13 rfl) (by decide) (conK l Z a0 hw r18 _ ) e24 pd2 [(.int r18)] [] rfl rfl rfl (Nat.le_of_eq rfl) (by decide) (by decide) (by rw [hml]; rfl) (hb hby at_108) (by decide) (by decide) rfl ?_
      intro v26 T26 L26 X26 q26
      obtain ⟨r26, rfl, hr26, rfl, e26⟩ := q26
      have N26 := Fr.app N24 (Fr.nil n0)
      show own_WP _ _ _ _ _ _ _ (T26.setTop (mkF m 111 #[.val (.int p0), .val (.int p1), .val (.int p2), .val (.int p3), .val (.int p4), .val (.int (2 : Int32)), .val (.int r17), .val (.int r18), .val (.int r19), .val (.int r20), .val (.ref b21), .unset] [(.int r26)]))
      refine own_if_eq (pt := 146) (pf := 114) X26 hx (hb hby at_111) rfl (by decide) rfl (fun hc111 => ?_) (fun hc111 => ?_)
      · skip
        refine own_iconst (pc' := 147) X26 hx (0 : Int32) (hb hby at_146) rfl rfl ?_
        refine own_istore (pc' := 149) (l' := #[.val (.int p0), .val (.int p1), .val (.int p2), .val (.int p3), .val (.int p4), .val (.int (2 : Int32)), .val (.int r17), .val (.int r18), .val (.int r19), .val (.int r20), .val (.ref b21), .val (.int (0 : Int32))]) X26 hx (hb hby at_147) rfl rfl rfl ?_
        refine own_aload (pc' := 151) X26 hx (hb hby at_149) rfl rfl rfl ?_
        refine own_callS (pc' := 154) (W := 0) (y := (⟨"com/example/ossify/ossify/Event", "isBlank", "([B)Z"⟩ : MethodName)) X26 hx hZ hown (own_w hw 6 rfl) (own_w hw 7 rfl) (own_w hw 8 rfl) (own_w hw 9 rfl) (by decide) (conB2 l Z a0 hw b21 _ k21 r17 r18 V23) e26 pd1 [(.ref b21)] [] rfl rfl rfl (Nat.le_of_eq rfl) (by decide) (by decide) (by rw [hml]; rfl) (hb hby at_151) (by decide) (by decide) rfl ?_
        intro v27 T27 L27 X27 q27
        obtain ⟨r27, rfl, hr27, rfl, e27⟩ := q27
        have N27 := Fr.app N26 (Fr.nil n0)
        show own_WP _ _ _ _ _ _ _ (T27.setTop (mkF m 154 #[.val (.int p0), .val (.int p1), .val (.int p2), .val (.int p3), .val (.int p4), .val (.int (2 : Int32)), .val (.int r17), .val (.int r18), .val (.int r19), .val (.int r20), .val (.ref b21), .val (.int (0 : Int32))] [(.int r27)]))
        refine own_iload (pc' := 156) X27 hx (hb hby at_154) rfl rfl ?_
        have qr24 := own_bkY hr24 hc97
        have qr26 := own_bkN hr26 hc111
        refine own_icmp_ne (pt := 163) (pf := 159) X27 hx (hb hby at_156) rfl (by decide) rfl (fun hc156 => absurd (by rw [hr27]; simp [own_al, qr24, qr26]) hc156) (fun hc156 => ?_)
        refine own_iconst (pc' := 160) X27 hx (1 : Int32) (hb hby at_159) rfl rfl ?_
        refine own_goto (pc' := 164) X27 hx (hb hby at_160) (by decide) rfl ?_
        refine own_retN X27 hx hlk (t := .boolean) (by decide) hret (hb hby at_164) (by decide) (by decide) ?_
        exact ⟨rfl, N27⟩
      · skip
        refine own_iload (pc' := 116) X26 hx (hb hby at_114) rfl rfl ?_
        refine own_iconst (pc' := 117) X26 hx (3 : Int32) (hb hby at_116) rfl rfl ?_
        refine own_icmp_lt (pt := 128) (pf := 120) X26 hx (hb hby at_117) rfl (by decide) rfl (fun hc117 => ?_) (fun hc117 => absurd (by decide) hc117)
        refine own_iload (pc' := 130) X26 hx (hb hby at_128) rfl rfl ?_
        refine own_iconst (pc' := 131) X26 hx (4 : Int32) (hb hby at_130) rfl rfl ?_
        refine own_icmp_lt (pt := 142) (pf := 134) X26 hx (hb hby at_131) rfl (by decide) rfl (fun hc131 => ?_) (fun hc131 => absurd (by decide) hc131)
        refine own_iconst (pc' := 143) X26 hx (1 : Int32) (hb hby at_142) rfl rfl ?_
        refine own_goto (pc' := 147) X26 hx (hb hby at_143) (by decide) rfl ?_
        refine own_istore (pc' := 149) (l' := #[.val (.int p0), .val (.int p1), .val (.int p2), .val (.int p3), .val (.int p4), .val (.int (2 : Int32)), .val (.int r17), .val (.int r18), .val (.int r19), .val (.int r20), .val (.ref b21), .val (.int (1 : Int32))]) X26 hx (hb hby at_147) rfl rfl rfl ?_
        refine own_aload (pc' := 151) X26 hx (hb hby at_149) rfl rfl rfl ?_
        refine own_callS (pc' := 154) (W := 0) (y := (⟨"com/example/ossify/ossify/Event", "isBlank", "([B)Z"⟩ : MethodName)) X26 hx hZ hown (own_w hw 6 rfl) (own_w hw 7 rfl) (own_w hw 8 rfl) (own_w hw 9 rfl) (by decide) (conB2 l Z a0 hw b21 _ k21 r17 r18 V23) e26 pd1 [(.ref b21)] [] rfl rfl rfl (Nat.le_of_eq rfl) (by decide) (by decide) (by rw [hml]; rfl) (hb hby at_151) (by decide) (by decide) rfl ?_
        intro v28 T28 L28 X28 q28
        obtain ⟨r28, rfl, hr28, rfl, e28⟩ := q28
        have N28 := Fr.app N26 (Fr.nil n0)
        show own_WP _ _ _ _ _ _ _ (T28.setTop (mkF m 154 #[.val (.int p0), .val (.int p1), .val (.int p2), .val (.int p3), .val (.int p4), .val (.int (2 : Int32)), .val (.int r17), .val (.int r18), .val (.int r19), .val (.int r20), .val (.ref b21), .val (.int (1 : Int32))] [(.int r28)]))
        refine own_iload (pc' := 156) X28 hx (hb hby at_154) rfl rfl ?_
        have qr24 := own_bkY hr24 hc97
        have qr26 := own_bkY hr26 hc111
        refine own_icmp_ne (pt := 163) (pf := 159) X28 hx (hb hby at_156) rfl (by decide) rfl (fun hc156 => absurd (by rw [hr28]; simp [own_al, qr24, qr26]) hc156) (fun hc156 => ?_)
        refine own_iconst (pc' := 160) X28 hx (1 : Int32) (hb hby at_159) rfl rfl ?_
        refine own_goto (pc' := 164) X28 hx (hb hby at_160) (by decide) rfl ?_
        refine own_retN X28 hx hlk (t := .boolean) (by decide) hret (hb hby at_164) (by decide) (by decide) ?_
        exact ⟨rfl, N28⟩
  · subst hid
    show own_WP _ _ _ _ _ _ _ (s₁.setTop (mkF m 8 #[.val (.int p0), .val (.int p1), .val (.int p2), .val (.int p3), .val (.int p4), .val (.int (3 : Int32)), .unset, .unset, .unset, .unset, .unset, .unset] []))
    refine own_iloadN (pc' := 9) X0 hx (hb hby at_8) rfl rfl ?_
    refine own_callS (pc' := 12) (W := 0) (y := (⟨"com/example/ossify/ossify/EventIsBlankPinLaw", "pick", "(I)B"⟩ : MethodName)) X0 hx hZ hown (own_w hw 1 rfl) (own_w hw 2 rfl) (own_w hw 3 rfl) (own_w hw 4 rfl) (by decide) (conP l Z a0 hw p1 _ ) e0 pd0 [(.int p1)] [] rfl rfl rfl (Nat.le_of_eq rfl) (by decide) (by decide) (by rw [hml]; rfl) (hb hby at_9) (by decide) (by decide) rfl ?_
    intro v29 T29 L29 X29 q29
    obtain ⟨r29, rfl, hr29, rfl, e29⟩ := q29
    have N29 := Fr.app N0 (Fr.nil n0)
    show own_WP _ _ _ _ _ _ _ (T29.setTop (mkF m 12 #[.val (.int p0), .val (.int p1), .val (.int p2), .val (.int p3), .val (.int p4), .val (.int (3 : Int32)), .unset, .unset, .unset, .unset, .unset, .unset] [(.int r29)]))
    refine own_istore (pc' := 14) (l' := #[.val (.int p0), .val (.int p1), .val (.int p2), .val (.int p3), .val (.int p4), .val (.int (3 : Int32)), .val (.int r29), .unset, .unset, .unset, .unset, .unset]) X29 hx (hb hby at_12) rfl rfl rfl ?_
    refine own_iloadN (pc' := 15) X29 hx (hb hby at_14) rfl rfl ?_
    refine own_callS (pc' := 18) (W := 0) (y := (⟨"com/example/ossify/ossify/EventIsBlankPinLaw", "pick", "(I)B"⟩ : MethodName)) X29 hx hZ hown (own_w hw 1 rfl) (own_w hw 2 rfl) (own_w hw 3 rfl) (own_w hw 4 rfl) (by decide) (conP l Z a0 hw p2 _ ) e29 pd0 [(.int p2)] [] rfl rfl rfl (Nat.le_of_eq rfl) (by decide) (by decide) (by rw [hml]; rfl) (hb hby at_15) (by decide) (by decide) rfl ?_
    intro v30 T30 L30 X30 q30
    obtain ⟨r30, rfl, hr30, rfl, e30⟩ := q30
    have N30 := Fr.app N29 (Fr.nil n0)
    show own_WP _ _ _ _ _ _ _ (T30.setTop (mkF m 18 #[.val (.int p0), .val (.int p1), .val (.int p2), .val (.int p3), .val (.int p4), .val (.int (3 : Int32)), .val (.int r29), .unset, .unset, .unset, .unset, .unset] [(.int r30)]))
    refine own_istore (pc' := 20) (l' := #[.val (.int p0), .val (.int p1), .val (.int p2), .val (.int p3), .val (.int p4), .val (.int (3 : Int32)), .val (.int r29), .val (.int r30), .unset, .unset, .unset, .unset]) X30 hx (hb hby at_18) rfl rfl rfl ?_
    refine own_iloadN (pc' := 21) X30 hx (hb hby at_20) rfl rfl ?_
    refine own_callS (pc' := 24) (W := 0) (y := (⟨"com/example/ossify/ossify/EventIsBlankPinLaw", "pick", "(I)B"⟩ : MethodName)) X30 hx hZ hown (own_w hw 1 rfl) (own_w hw 2 rfl) (own_w hw 3 rfl) (own_w hw 4 rfl) (by decide) (conP l Z a0 hw p3 _ ) e30 pd0 [(.int p3)] [] rfl rfl rfl (Nat.le_of_eq rfl) (by decide) (by decide) (by rw [hml]; rfl) (hb hby at_21) (by decide) (by decide) rfl ?_
    intro v31 T31 L31 X31 q31
    obtain ⟨r31, rfl, hr31, rfl, e31⟩ := q31
    have N31 := Fr.app N30 (Fr.nil n0)
    show own_WP _ _ _ _ _ _ _ (T31.setTop (mkF m 24 #[.val (.int p0), .val (.int p1), .val (.int p2), .val (.int p3), .val (.int p4), .val (.int (3 : Int32)), .val (.int r29), .val (.int r30), .unset, .unset, .unset, .unset] [(.int r31)]))
    refine own_istore (pc' := 26) (l' := #[.val (.int p0), .val (.int p1), .val (.int p2), .val (.int p3), .val (.int p4), .val (.int (3 : Int32)), .val (.int r29), .val (.int r30), .val (.int r31), .unset, .unset, .unset]) X31 hx (hb hby at_24) rfl rfl rfl ?_
    refine own_iload (pc' := 28) X31 hx (hb hby at_26) rfl rfl ?_
    refine own_callS (pc' := 31) (W := 0) (y := (⟨"com/example/ossify/ossify/EventIsBlankPinLaw", "pick", "(I)B"⟩ : MethodName)) X31 hx hZ hown (own_w hw 1 rfl) (own_w hw 2 rfl) (own_w hw 3 rfl) (own_w hw 4 rfl) (by decide) (conP l Z a0 hw p4 _ ) e31 pd0 [(.int p4)] [] rfl rfl rfl (Nat.le_of_eq rfl) (by decide) (by decide) (by rw [hml]; rfl) (hb hby at_28) (by decide) (by decide) rfl ?_
    intro v32 T32 L32 X32 q32
    obtain ⟨r32, rfl, hr32, rfl, e32⟩ := q32
    have N32 := Fr.app N31 (Fr.nil n0)
    show own_WP _ _ _ _ _ _ _ (T32.setTop (mkF m 31 #[.val (.int p0), .val (.int p1), .val (.int p2), .val (.int p3), .val (.int p4), .val (.int (3 : Int32)), .val (.int r29), .val (.int r30), .val (.int r31), .unset, .unset, .unset] [(.int r32)]))
    refine own_istore (pc' := 33) (l' := #[.val (.int p0), .val (.int p1), .val (.int p2), .val (.int p3), .val (.int p4), .val (.int (3 : Int32)), .val (.int r29), .val (.int r30), .val (.int r31), .val (.int r32), .unset, .unset]) X32 hx (hb hby at_31) rfl rfl rfl ?_
    refine own_iload (pc' := 35) X32 hx (hb hby at_33) rfl rfl ?_
    refine own_newP (pc' := 37) (cap := 3) X32 hx hZ (own_w hw 5 rfl) e32 (hb hby at_35) (by decide) (by decide) (by decide) (by decide) (by decide) rfl ?_
    intro T33 h33 k33 b33 g33 X33 e33 E33 A33
    have g_b33 : n0 ≤ b33 := Nat.le_trans Z0 (Nat.le_of_eq g33.symm)
    have z33 : n0 ≤ h33.size := Nat.le_trans Z0 E33.1
    have V33 : Arv Z h33 b33 k33 .byte (3 : Int32) [(.int (0 : Int32)), (.int (0 : Int32)), (.int (0 : Int32))] (.int (0 : Int32)) := (Arv.new A33 (by decide)).pad (pad_rep [] (.int (0 : Int32)) 3)
    refine own_astore (pc' := 39) (l' := #[.val (.int p0), .val (.int p1), .val (.int p2), .val (.int p3), .val (.int p4), .val (.int (3 : Int32)), .val (.int r29), .val (.int r30), .val (.int r31), .val (.int r32), .val (.ref b33), .unset]) X33 hx (hb hby at_37) rfl rfl rfl ?_
    refine own_iload (pc' := 41) X33 hx (hb hby at_39) rfl rfl ?_
    refine own_if_le (pt := 50) (pf := 44) X33 hx (hb hby at_41) rfl (by decide) rfl (fun hc41 => absurd (by decide) hc41) (fun hc41 => ?_)
    refine own_aload (pc' := 46) X33 hx (hb hby at_44) rfl rfl rfl ?_
    refine own_iconst (pc' := 47) X33 hx (0 : Int32) (hb hby at_46) rfl rfl ?_
    refine own_iload (pc' := 49) X33 hx (hb hby at_47) rfl rfl ?_
    refine own_bastore (pc' := 50) X33 hx hZ e33 V33 ⟨by decide, by decide⟩ 0 rfl (Nat.le_of_ble_eq_true rfl) (hb hby at_49) rfl ?_
    intro T34 h34 X34 e34 W34 V34
    have z34 : n0 ≤ h34.size := Nat.le_trans z33 (Keep.of_wr W34).1
    have V34 : Arv Z h34 b33 k33 .byte (3 : Int32) [(.int (nar .byte r29)), (.int (0 : Int32)), (.int (0 : Int32))] (.int (0 : Int32)) := V34
    have N34 := Fr.snoc X34 N32 g_b33
    rw [hr29] at V34
    refine own_iload (pc' := 52) X34 hx (hb hby at_50) rfl rfl ?_
    refine own_iconst (pc' := 53) X34 hx (1 : Int32) (hb hby at_52) rfl rfl ?_
    refine own_icmp_le (pt := 62) (pf := 56) X34 hx (hb hby at_53) rfl (by decide) rfl (fun hc53 => absurd (by decide) hc53) (fun hc53 => ?_)
    refine own_aload (pc' := 58) X34 hx (hb hby at_56) rfl rfl rfl ?_
    refine own_iconst (pc' := 59) X34 hx (1 : Int32) (hb hby at_58) rfl rfl ?_
    refine own_iload (pc' := 61) X34 hx (hb hby at_59) rfl rfl ?_
    refine own_bastore (pc' := 62) X34 hx hZ e34 V34 ⟨by decide, by decide⟩ 1 rfl (Nat.le_of_ble_eq_true rfl) (hb hby at_61) rfl ?_
    intro T35 h35 X35 e35 W35 V35
    have z35 : n0 ≤ h35.size := Nat.le_trans z34 (Keep.of_wr W35).1
    have V35 : Arv Z h35 b33 k33 .byte (3 : Int32) [(.int r29), (.int (nar .byte r30)), (.int (0 : Int32))] (.int (0 : Int32)) := V35
    have N35 := Fr.snoc X35 N34 g_b33
    rw [hr30] at V35
    refine own_iload (pc' := 64) X35 hx (hb hby at_62) rfl rfl ?_
    refine own_iconst (pc' := 65) X35 hx (2 : Int32) (hb hby at_64) rfl rfl ?_
    refine own_icmp_le (pt := 74) (pf := 68) X35 hx (hb hby at_65) rfl (by decide) rfl (fun hc65 => absurd (by decide) hc65) (fun hc65 => ?_)
    refine own_aload (pc' := 70) X35 hx (hb hby at_68) rfl rfl rfl ?_
    refine own_iconst (pc' := 71) X35 hx (2 : Int32) (hb hby at_70) rfl rfl ?_
    refine own_iload (pc' := 73) X35 hx (hb hby at_71) rfl rfl ?_
    refine own_bastore (pc' := 74) X35 hx hZ e35 V35 ⟨by decide, by decide⟩ 2 rfl (Nat.le_of_ble_eq_true rfl) (hb hby at_73) rfl ?_
    intro T36 h36 X36 e36 W36 V36
    have z36 : n0 ≤ h36.size := Nat.le_trans z35 (Keep.of_wr W36).1
    have V36 : Arv Z h36 b33 k33 .byte (3 : Int32) [(.int r29), (.int r30), (.int (nar .byte r31))] (.int (0 : Int32)) := V36
    have N36 := Fr.snoc X36 N35 g_b33
    rw [hr31] at V36
    refine own_iload (pc' := 76) X36 hx (hb hby at_74) rfl rfl ?_
    refine own_iconst (pc' := 77) X36 hx (3 : Int32) (hb hby at_76) rfl rfl ?_
    refine own_icmp_le (pt := 86) (pf := 80) X36 hx (hb hby at_77) rfl (by decide) rfl (fun hc77 => ?_) (fun hc77 => absurd hc77 (by decide))
    refine own_iload (pc' := 88) X36 hx (hb hby at_86) rfl rfl ?_
    refine own_iconst (pc' := 89) X36 hx (1 : Int32) (hb hby at_88) rfl rfl ?_
    refine own_icmp_lt (pt := 100) (pf := 92) X36 hx (hb hby at_89) rfl (by decide) rfl (fun hc89 => absurd hc89 (by decide)) (fun hc89 => ?_)
    refine own_iload (pc' := 94) X36 hx (hb hby at_92) rfl rfl ?_
    refine own_callS (pc' := 97) (W := 0) (y := (⟨"com/example/ossify/ossify/EventIsBlankPinLaw", "blank", "(B)Z"⟩ : MethodName)) X36 hx hZ hown (own_w hw 11 rfl) (own_w hw 12 rfl) (own_w hw 3 rfl) (own_w hw 13 rfl) (by decide) (conK l Z a0 hw r29 _ ) e36 pd2 [(.int r29)] [] rfl rfl rfl (Nat.le_of_eq rfl) (by decide) (by decide) (by rw [hml]; rfl) (hb hby at_94) (by decide) (by decide) rfl ?_
    intro v37 T37 L37 X37 q37
    obtain ⟨r37, rfl, hr37, rfl, e37⟩ := q37
    have N37 := Fr.app N36 (Fr.nil n0)
    show own_WP _ _ _ _ _ _ _ (T37.setTop (mkF m 97 #[.val (.int p0), .val (.int p1), .val (.int p2), .val (.int p3), .val (.int p4), .val (.int (3 : Int32)), .val (.int r29), .val (.int r30), .val (.int r31), .val (.int r32), .val (.ref b33), .unset] [(.int r37)]))
    refine own_if_eq (pt := 146) (pf := 100) X37 hx (hb hby at_97) rfl (by decide) rfl (fun hc97 => ?_) (fun hc97 => ?_)
    · skip
      refine own_iconst (pc' := 147) X37 hx (0 : Int32) (hb hby at_146) rfl rfl ?_
      refine own_istore (pc' := 149) (l' := #[.val (.int p0), .val (.int p1), .val (.int p2), .val (.int p3), .val (.int p4), .val (.int (3 : Int32)), .val (.int r29), .val (.int r30), .val (.int r31), .val (.int r32), .val (.ref b33), .val (.int (0 : Int32))]) X37 hx (hb hby at_147) rfl rfl rfl ?_
      refine own_aload (pc' := 151) X37 hx (hb hby at_149) rfl rfl rfl ?_
      refine own_callS (pc' := 154) (W := 0) (y := (⟨"com/example/ossify/ossify/Event", "isBlank", "([B)Z"⟩ : MethodName)) X37 hx hZ hown (own_w hw 6 rfl) (own_w hw 7 rfl) (own_w hw 8 rfl) (own_w hw 9 rfl) (by decide) (conB3 l Z a0 hw b33 _ k33 r29 r30 r31 V36) e37 pd1 [(.ref b33)] [] rfl rfl rfl (Nat.le_of_eq rfl) (by decide) (by decide) (by rw [hml]; rfl) (hb hby at_151) (by decide) (by decide) rfl ?_
      intro v38 T38 L38 X38 q38
      obtain ⟨r38, rfl, hr38, rfl, e38⟩ := q38
      have N38 := Fr.app N37 (Fr.nil n0)
      show own_WP _ _ _ _ _ _ _ (T38.setTop (mkF m 154 #[.val (.int p0), .val (.int p1), .val (.int p2), .val (.int p3), .val (.int p4), .val (.int (3 : Int32)), .val (.int r29), .val (.int r30), .val (.int r31), .val (.int r32), .val (.ref b33), .val (.int (0 : Int32))] [(.int r38)]))
      refine own_iload (pc' := 156) X38 hx (hb hby at_154) rfl rfl ?_
      have qr37 := own_bkN hr37 hc97
      refine own_icmp_ne (pt := 163) (pf := 159) X38 hx (hb hby at_156) rfl (by decide) rfl (fun hc156 => absurd (by rw [hr38]; simp [own_al, qr37]) hc156) (fun hc156 => ?_)
      refine own_iconst (pc' := 160) X38 hx (1 : Int32) (hb hby at_159) rfl rfl ?_
      refine own_goto (pc' := 164) X38 hx (hb hby at_160) (by decide) rfl ?_
      refine own_retN X38 hx hlk (t := .boolean) (by decide) hret (hb hby at_164) (by decide) (by decide) ?_
      exact ⟨rfl, N38⟩
    · skip
      refine own_iload (pc' := 102) X37 hx (hb hby at_100) rfl rfl ?_
      refine own_iconst (pc' := 103) X37 hx (2 : Int32) (hb hby at_102) rfl rfl ?_
      refine own_icmp_lt (pt := 114) (pf := 106) X37 hx (hb hby at_103) rfl (by decide) rfl (fun hc103 => absurd hc103 (by decide)) (fun hc103 => ?_)
      refine own_iload (pc' := 108) X37 hx (hb hby at_106) rfl rfl ?_
      refine own_callS (pc' := 111) (W := 0) (y := (⟨"com/example/ossify/ossify/EventIsBlankPinLaw", "blank", "(B)Z"⟩ : MethodName)) X37 hx hZ hown (own_w hw 11 rfl) (own_w hw 12 rfl) (own_w hw 3 rfl) (own_w hw 13 rfl) (by decide) (conK l Z a0 hw r30 _ ) e37 pd2 [(.int r30)] [] rfl rfl rfl (Nat.le_of_eq rfl) (by decide) (by decide) (by rw [hml]; rfl) (hb hby at_108) (by decide) (by decide) rfl ?_
      intro v39 T39 L39 X39 q39
      obtain ⟨r39, rfl, hr39, rfl, e39⟩ := q39
      have N39 := Fr.app N37 (Fr.nil n0)
      show own_WP _ _ _ _ _ _ _ (T39.setTop (mkF m 111 #[.val (.int p0), .val (.int p1), .val (.int p2), .val (.int p3), .val (.int p4), .val (.int (3 : Int32)), .val (.int r29), .val (.int r30), .val (.int r31), .val (.int r32), .val (.ref b33), .unset] [(.int r39)]))
      refine own_if_eq (pt := 146) (pf := 114) X39 hx (hb hby at_111) rfl (by decide) rfl (fun hc111 => ?_) (fun hc111 => ?_)
      · skip
        refine own_iconst (pc' := 147) X39 hx (0 : Int32) (hb hby at_146) rfl rfl ?_
        refine own_istore (pc' := 149) (l' := #[.val (.int p0), .val (.int p1), .val (.int p2), .val (.int p3), .val (.int p4), .val (.int (3 : Int32)), .val (.int r29), .val (.int r30), .val (.int r31), .val (.int r32), .val (.ref b33), .val (.int (0 : Int32))]) X39 hx (hb hby at_147) rfl rfl rfl ?_
        refine own_aload (pc' := 151) X39 hx (hb hby at_149) rfl rfl rfl ?_
        refine own_callS (pc' := 154) (W := 0) (y := (⟨"com/example/ossify/ossify/Event", "isBlank", "([B)Z"⟩ : MethodName)) X39 hx hZ hown (own_w hw 6 rfl) (own_w hw 7 rfl) (own_w hw 8 rfl) (own_w hw 9 rfl) (by decide) (conB3 l Z a0 hw b33 _ k33 r29 r30 r31 V36) e39 pd1 [(.ref b33)] [] rfl rfl rfl (Nat.le_of_eq rfl) (by decide) (by decide) (by rw [hml]; rfl) (hb hby at_151) (by decide) (by decide) rfl ?_
        intro v40 T40 L40 X40 q40
        obtain ⟨r40, rfl, hr40, rfl, e40⟩ := q40
        have N40 := Fr.app N39 (Fr.nil n0)
        show own_WP _ _ _ _ _ _ _ (T40.setTop (mkF m 154 #[.val (.int p0), .val (.int p1), .val (.int p2), .val (.int p3), .val (.int p4), .val (.int (3 : Int32)), .val (.int r29), .val (.int r30), .val (.int r31), .val (.int r32), .val (.ref b33), .val (.int (0 : Int32))] [(.int r40)]))
        refine own_iload (pc' := 156) X40 hx (hb hby at_154) rfl rfl ?_
        have qr37 := own_bkY hr37 hc97
        have qr39 := own_bkN hr39 hc111
        refine own_icmp_ne (pt := 163) (pf := 159) X40 hx (hb hby at_156) rfl (by decide) rfl (fun hc156 => absurd (by rw [hr40]; simp [own_al, qr37, qr39]) hc156) (fun hc156 => ?_)
        refine own_iconst (pc' := 160) X40 hx (1 : Int32) (hb hby at_159) rfl rfl ?_
        refine own_goto (pc' := 164) X40 hx (hb hby at_160) (by decide) rfl ?_
        refine own_retN X40 hx hlk (t := .boolean) (by decide) hret (hb hby at_164) (by decide) (by decide) ?_
        exact ⟨rfl, N40⟩
      · skip
        refine own_iload (pc' := 116) X39 hx (hb hby at_114) rfl rfl ?_
        refine own_iconst (pc' := 117) X39 hx (3 : Int32) (hb hby at_116) rfl rfl ?_
        refine own_icmp_lt (pt := 128) (pf := 120) X39 hx (hb hby at_117) rfl (by decide) rfl (fun hc117 => absurd hc117 (by decide)) (fun hc117 => ?_)
        refine own_iload (pc' := 122) X39 hx (hb hby at_120) rfl rfl ?_
        refine own_callS (pc' := 125) (W := 0) (y := (⟨"com/example/ossify/ossify/EventIsBlankPinLaw", "blank", "(B)Z"⟩ : MethodName)) X39 hx hZ hown (own_w hw 11 rfl) (own_w hw 12 rfl) (own_w hw 3 rfl) (own_w hw 13 rfl) (by decide) (conK l Z a0 hw r31 _ ) e39 pd2 [(.int r31)] [] rfl rfl rfl (Nat.le_of_eq rfl) (by decide) (by decide) (by rw [hml]; rfl) (hb hby at_122) (by decide) (by decide) rfl ?_
        intro v41 T41 L41 X41 q41
        obtain ⟨r41, rfl, hr41, rfl, e41⟩ := q41
        have N41 := Fr.app N39 (Fr.nil n0)
        show own_WP _ _ _ _ _ _ _ (T41.setTop (mkF m 125 #[.val (.int p0), .val (.int p1), .val (.int p2), .val (.int p3), .val (.int p4), .val (.int (3 : Int32)), .val (.int r29), .val (.int r30), .val (.int r31), .val (.int r32), .val (.ref b33), .unset] [(.int r41)]))
        refine own_if_eq (pt := 146) (pf := 128) X41 hx (hb hby at_125) rfl (by decide) rfl (fun hc125 => ?_) (fun hc125 => ?_)
        · skip
          refine own_iconst (pc' := 147) X41 hx (0 : Int32) (hb hby at_146) rfl rfl ?_
          refine own_istore (pc' := 149) (l' := #[.val (.int p0), .val (.int p1), .val (.int p2), .val (.int p3), .val (.int p4), .val (.int (3 : Int32)), .val (.int r29), .val (.int r30), .val (.int r31), .val (.int r32), .val (.ref b33), .val (.int (0 : Int32))]) X41 hx (hb hby at_147) rfl rfl rfl ?_
          refine own_aload (pc' := 151) X41 hx (hb hby at_149) rfl rfl rfl ?_
          refine own_callS (pc' := 154) (W := 0) (y := (⟨"com/example/ossify/ossify/Event", "isBlank", "([B)Z"⟩ : MethodName)) X41 hx hZ hown (own_w hw 6 rfl) (own_w hw 7 rfl) (own_w hw 8 rfl) (own_w hw 9 rfl) (by decide) (conB3 l Z a0 hw b33 _ k33 r29 r30 r31 V36) e41 pd1 [(.ref b33)] [] rfl rfl rfl (Nat.le_of_eq rfl) (by decide) (by decide) (by rw [hml]; rfl) (hb hby at_151) (by decide) (by decide) rfl ?_
          intro v42 T42 L42 X42 q42
          obtain ⟨r42, rfl, hr42, rfl, e42⟩ := q42
          have N42 := Fr.app N41 (Fr.nil n0)
          show own_WP _ _ _ _ _ _ _ (T42.setTop (mkF m 154 #[.val (.int p0), .val (.int p1), .val (.int p2), .val (.int p3), .val (.int p4), .val (.int (3 : Int32)), .val (.int r29), .val (.int r30), .val (.int r31), .val (.int r32), .val (.ref b33), .val (.int (0 : Int32))] [(.int r42)]))
          refine own_iload (pc' := 156) X42 hx (hb hby at_154) rfl rfl ?_
          have qr37 := own_bkY hr37 hc97
          have qr39 := own_bkY hr39 hc111
          have qr41 := own_bkN hr41 hc125
          refine own_icmp_ne (pt := 163) (pf := 159) X42 hx (hb hby at_156) rfl (by decide) rfl (fun hc156 => absurd (by rw [hr42]; simp [own_al, qr37, qr39, qr41]) hc156) (fun hc156 => ?_)
          refine own_iconst (pc' := 160) X42 hx (1 : Int32) (hb hby at_159) rfl rfl ?_
          refine own_goto (pc' := 164) X42 hx (hb hby at_160) (by decide) rfl ?_
          refine own_retN X42 hx hlk (t := .boolean) (by decide) hret (hb hby at_164) (by decide) (by decide) ?_
          exact ⟨rfl, N42⟩
        · skip
          refine own_iload (pc' := 130) X41 hx (hb hby at_128) rfl rfl ?_
          refine own_iconst (pc' := 131) X41 hx (4 : Int32) (hb hby at_130) rfl rfl ?_
          refine own_icmp_lt (pt := 142) (pf := 134) X41 hx (hb hby at_131) rfl (by decide) rfl (fun hc131 => ?_) (fun hc131 => absurd (by decide) hc131)
          refine own_iconst (pc' := 143) X41 hx (1 : Int32) (hb hby at_142) rfl rfl ?_
          refine own_goto (pc' := 147) X41 hx (hb hby at_143) (by decide) rfl ?_
          refine own_istore (pc' := 149) (l' := #[.val (.int p0), .val (.int p1), .val (.int p2), .val (.int p3), .val (.int p4), .val (.int (3 : Int32)), .val (.int r29), .val (.int r30), .val (.int r31), .val (.int r32), .val (.ref b33), .val (.int (1 : Int32))]) X41 hx (hb hby at_147) rfl rfl rfl ?_
          refine own_aload (pc' := 151) X41 hx (hb hby at_149) rfl rfl rfl ?_
          refine own_callS (pc' := 154) (W := 0) (y := (⟨"com/example/ossify/ossify/Event", "isBlank", "([B)Z"⟩ : MethodName)) X41 hx hZ hown (own_w hw 6 rfl) (own_w hw 7 rfl) (own_w hw 8 rfl) (own_w hw 9 rfl) (by decide) (conB3 l Z a0 hw b33 _ k33 r29 r30 r31 V36) e41 pd1 [(.ref b33)] [] rfl rfl rfl (Nat.le_of_eq rfl) (by decide) (by decide) (by rw [hml]; rfl) (hb hby at_151) (by decide) (by decide) rfl ?_
          intro v43 T43 L43 X43 q43
          obtain ⟨r43, rfl, hr43, rfl, e43⟩ := q43
          have N43 := Fr.app N41 (Fr.nil n0)
          show own_WP _ _ _ _ _ _ _ (T43.setTop (mkF m 154 #[.val (.int p0), .val (.int p1), .val (.int p2), .val (.int p3), .val (.int p4), .val (.int (3 : Int32)), .val (.int r29), .val (.int r30), .val (.int r31), .val (.int r32), .val (.ref b33), .val (.int (1 : Int32))] [(.int r43)]))
          refine own_iload (pc' := 156) X43 hx (hb hby at_154) rfl rfl ?_
          have qr37 := own_bkY hr37 hc97
          have qr39 := own_bkY hr39 hc111
          have qr41 := own_bkY hr41 hc125
          refine own_icmp_ne (pt := 163) (pf := 159) X43 hx (hb hby at_156) rfl (by decide) rfl (fun hc156 => absurd (by rw [hr43]; simp [own_al, qr37, qr39, qr41]) hc156) (fun hc156 => ?_)
          refine own_iconst (pc' := 160) X43 hx (1 : Int32) (hb hby at_159) rfl rfl ?_
          refine own_goto (pc' := 164) X43 hx (hb hby at_160) (by decide) rfl ?_
          refine own_retN X43 hx hlk (t := .boolean) (by decide) hret (hb hby at_164) (by decide) (by decide) ?_
          exact ⟨rfl, N43⟩
  · subst hid
    show own_WP _ _ _ _ _ _ _ (s₁.setTop (mkF m 8 #[.val (.int p0), .val (.int p1), .val (.int p2), .val (.int p3), .val (.int p4), .val (.int (4 : Int32)), .unset, .unset, .unset, .unset, .unset, .unset] []))
    refine own_iloadN (pc' := 9) X0 hx (hb hby at_8) rfl rfl ?_
    refine own_callS (pc' := 12) (W := 0) (y := (⟨"com/example/ossify/ossify/EventIsBlankPinLaw", "pick", "(I)B"⟩ : MethodName)) X0 hx hZ hown (own_w hw 1 rfl) (own_w hw 2 rfl) (own_w hw 3 rfl) (own_w hw 4 rfl) (by decide) (conP l Z a0 hw p1 _ ) e0 pd0 [(.int p1)] [] rfl rfl rfl (Nat.le_of_eq rfl) (by decide) (by decide) (by rw [hml]; rfl) (hb hby at_9) (by decide) (by decide) rfl ?_
    intro v44 T44 L44 X44 q44
    obtain ⟨r44, rfl, hr44, rfl, e44⟩ := q44
    have N44 := Fr.app N0 (Fr.nil n0)
    show own_WP _ _ _ _ _ _ _ (T44.setTop (mkF m 12 #[.val (.int p0), .val (.int p1), .val (.int p2), .val (.int p3), .val (.int p4), .val (.int (4 : Int32)), .unset, .unset, .unset, .unset, .unset, .unset] [(.int r44)]))
    refine own_istore (pc' := 14) (l' := #[.val (.int p0), .val (.int p1), .val (.int p2), .val (.int p3), .val (.int p4), .val (.int (4 : Int32)), .val (.int r44), .unset, .unset, .unset, .unset, .unset]) X44 hx (hb hby at_12) rfl rfl rfl ?_
    refine own_iloadN (pc' := 15) X44 hx (hb hby at_14) rfl rfl ?_
    refine own_callS (pc' := 18) (W := 0) (y := (⟨"com/example/ossify/ossify/EventIsBlankPinLaw", "pick", "(I)B"⟩ : MethodName)) X44 hx hZ hown (own_w hw 1 rfl) (own_w hw 2 rfl) (own_w hw 3 rfl) (own_w hw 4 rfl) (by decide) (conP l Z a0 hw p2 _ ) e44 pd0 [(.int p2)] [] rfl rfl rfl (Nat.le_of_eq rfl) (by decide) (by decide) (by rw [hml]; rfl) (hb hby at_15) (by decide) (by decide) rfl ?_
    intro v45 T45 L45 X45 q45
    obtain ⟨r45, rfl, hr45, rfl, e45⟩ := q45
    have N45 := Fr.app N44 (Fr.nil n0)
    show own_WP _ _ _ _ _ _ _ (T45.setTop (mkF m 18 #[.val (.int p0), .val (.int p1), .val (.int p2), .val (.int p3), .val (.int p4), .val (.int (4 : Int32)), .val (.int r44), .unset, .unset, .unset, .unset, .unset] [(.int r45)]))
    refine own_istore (pc' := 20) (l' := #[.val (.int p0), .val (.int p1), .val (.int p2), .val (.int p3), .val (.int p4), .val (.int (4 : Int32)), .val (.int r44), .val (.int r45), .unset, .unset, .unset, .unset]) X45 hx (hb hby at_18) rfl rfl rfl ?_
    refine own_iloadN (pc' := 21) X45 hx (hb hby at_20) rfl rfl ?_
    refine own_callS (pc' := 24) (W := 0) (y := (⟨"com/example/ossify/ossify/EventIsBlankPinLaw", "pick", "(I)B"⟩ : MethodName)) X45 hx hZ hown (own_w hw 1 rfl) (own_w hw 2 rfl) (own_w hw 3 rfl) (own_w hw 4 rfl) (by decide) (conP l Z a0 hw p3 _ ) e45 pd0 [(.int p3)] [] rfl rfl rfl (Nat.le_of_eq rfl) (by decide) (by decide) (by rw [hml]; rfl) (hb hby at_21) (by decide) (by decide) rfl ?_
    intro v46 T46 L46 X46 q46
    obtain ⟨r46, rfl, hr46, rfl, e46⟩ := q46
    have N46 := Fr.app N45 (Fr.nil n0)
    show own_WP _ _ _ _ _ _ _ (T46.setTop (mkF m 24 #[.val (.int p0), .val (.int p1), .val (.int p2), .val (.int p3), .val (.int p4), .val (.int (4 : Int32)), .val (.int r44), .val (.int r45), .unset, .unset, .unset, .unset] [(.int r46)]))
    refine own_istore (pc' := 26) (l' := #[.val (.int p0), .val (.int p1), .val (.int p2), .val (.int p3), .val (.int p4), .val (.int (4 : Int32)), .val (.int r44), .val (.int r45), .val (.int r46), .unset, .unset, .unset]) X46 hx (hb hby at_24) rfl rfl rfl ?_
    refine own_iload (pc' := 28) X46 hx (hb hby at_26) rfl rfl ?_
    refine own_callS (pc' := 31) (W := 0) (y := (⟨"com/example/ossify/ossify/EventIsBlankPinLaw", "pick", "(I)B"⟩ : MethodName)) X46 hx hZ hown (own_w hw 1 rfl) (own_w hw 2 rfl) (own_w hw 3 rfl) (own_w hw 4 rfl) (by decide) (conP l Z a0 hw p4 _ ) e46 pd0 [(.int p4)] [] rfl rfl rfl (Nat.le_of_eq rfl) (by decide) (by decide) (by rw [hml]; rfl) (hb hby at_28) (by decide) (by decide) rfl ?_
    intro v47 T47 L47 X47 q47
    obtain ⟨r47, rfl, hr47, rfl, e47⟩ := q47
    have N47 := Fr.app N46 (Fr.nil n0)
    show own_WP _ _ _ _ _ _ _ (T47.setTop (mkF m 31 #[.val (.int p0), .val (.int p1), .val (.int p2), .val (.int p3), .val (.int p4), .val (.int (4 : Int32)), .val (.int r44), .val (.int r45), .val (.int r46), .unset, .unset, .unset] [(.int r47)]))
    refine own_istore (pc' := 33) (l' := #[.val (.int p0), .val (.int p1), .val (.int p2), .val (.int p3), .val (.int p4), .val (.int (4 : Int32)), .val (.int r44), .val (.int r45), .val (.int r46), .val (.int r47), .unset, .unset]) X47 hx (hb hby at_31) rfl rfl rfl ?_
    refine own_iload (pc' := 35) X47 hx (hb hby at_33) rfl rfl ?_
    refine own_newP (pc' := 37) (cap := 4) X47 hx hZ (own_w hw 5 rfl) e47 (hb hby at_35) (by decide) (by decide) (by decide) (by decide) (by decide) rfl ?_
    intro T48 h48 k48 b48 g48 X48 e48 E48 A48
    have g_b48 : n0 ≤ b48 := Nat.le_trans Z0 (Nat.le_of_eq g48.symm)
    have z48 : n0 ≤ h48.size := Nat.le_trans Z0 E48.1
    have V48 : Arv Z h48 b48 k48 .byte (4 : Int32) [(.int (0 : Int32)), (.int (0 : Int32)), (.int (0 : Int32)), (.int (0 : Int32))] (.int (0 : Int32)) := (Arv.new A48 (by decide)).pad (pad_rep [] (.int (0 : Int32)) 4)
    refine own_astore (pc' := 39) (l' := #[.val (.int p0), .val (.int p1), .val (.int p2), .val (.int p3), .val (.int p4), .val (.int (4 : Int32)), .val (.int r44), .val (.int r45), .val (.int r46), .val (.int r47), .val (.ref b48), .unset]) X48 hx (hb hby at_37) rfl rfl rfl ?_
    refine own_iload (pc' := 41) X48 hx (hb hby at_39) rfl rfl ?_
    refine own_if_le (pt := 50) (pf := 44) X48 hx (hb hby at_41) rfl (by decide) rfl (fun hc41 => absurd (by decide) hc41) (fun hc41 => ?_)
    refine own_aload (pc' := 46) X48 hx (hb hby at_44) rfl rfl rfl ?_
    refine own_iconst (pc' := 47) X48 hx (0 : Int32) (hb hby at_46) rfl rfl ?_
    refine own_iload (pc' := 49) X48 hx (hb hby at_47) rfl rfl ?_
    refine own_bastore (pc' := 50) X48 hx hZ e48 V48 ⟨by decide, by decide⟩ 0 rfl (Nat.le_of_ble_eq_true rfl) (hb hby at_49) rfl ?_
    intro T49 h49 X49 e49 W49 V49
    have z49 : n0 ≤ h49.size := Nat.le_trans z48 (Keep.of_wr W49).1
    have V49 : Arv Z h49 b48 k48 .byte (4 : Int32) [(.int (nar .byte r44)), (.int (0 : Int32)), (.int (0 : Int32)), (.int (0 : Int32))] (.int (0 : Int32)) := V49
    have N49 := Fr.snoc X49 N47 g_b48
    rw [hr44] at V49
    refine own_iload (pc' := 52) X49 hx (hb hby at_50) rfl rfl ?_
    refine own_iconst (pc' := 53) X49 hx (1 : Int32) (hb hby at_52) rfl rfl ?_
    refine own_icmp_le (pt := 62) (pf := 56) X49 hx (hb hby at_53) rfl (by decide) rfl (fun hc53 => absurd (by decide) hc53) (fun hc53 => ?_)
    refine own_aload (pc' := 58) X49 hx (hb hby at_56) rfl rfl rfl ?_
    refine own_iconst (pc' := 59) X49 hx (1 : Int32) (hb hby at_58) rfl rfl ?_
    refine own_iload (pc' := 61) X49 hx (hb hby at_59) rfl rfl ?_
    refine own_bastore (pc' := 62) X49 hx hZ e49 V49 ⟨by decide, by decide⟩ 1 rfl (Nat.le_of_ble_eq_true rfl) (hb hby at_61) rfl ?_
    intro T50 h50 X50 e50 W50 V50
    have z50 : n0 ≤ h50.size := Nat.le_trans z49 (Keep.of_wr W50).1
    have V50 : Arv Z h50 b48 k48 .byte (4 : Int32) [(.int r44), (.int (nar .byte r45)), (.int (0 : Int32)), (.int (0 : Int32))] (.int (0 : Int32)) := V50
    have N50 := Fr.snoc X50 N49 g_b48
    rw [hr45] at V50
    refine own_iload (pc' := 64) X50 hx (hb hby at_62) rfl rfl ?_
    refine own_iconst (pc' := 65) X50 hx (2 : Int32) (hb hby at_64) rfl rfl ?_
    refine own_icmp_le (pt := 74) (pf := 68) X50 hx (hb hby at_65) rfl (by decide) rfl (fun hc65 => absurd (by decide) hc65) (fun hc65 => ?_)
    refine own_aload (pc' := 70) X50 hx (hb hby at_68) rfl rfl rfl ?_
    refine own_iconst (pc' := 71) X50 hx (2 : Int32) (hb hby at_70) rfl rfl ?_
    refine own_iload (pc' := 73) X50 hx (hb hby at_71) rfl rfl ?_
    refine own_bastore (pc' := 74) X50 hx hZ e50 V50 ⟨by decide, by decide⟩ 2 rfl (Nat.le_of_ble_eq_true rfl) (hb hby at_73) rfl ?_
    intro T51 h51 X51 e51 W51 V51
    have z51 : n0 ≤ h51.size := Nat.le_trans z50 (Keep.of_wr W51).1
    have V51 : Arv Z h51 b48 k48 .byte (4 : Int32) [(.int r44), (.int r45), (.int (nar .byte r46)), (.int (0 : Int32))] (.int (0 : Int32)) := V51
    have N51 := Fr.snoc X51 N50 g_b48
    rw [hr46] at V51
    refine own_iload (pc' := 76) X51 hx (hb hby at_74) rfl rfl ?_
    refine own_iconst (pc' := 77) X51 hx (3 : Int32) (hb hby at_76) rfl rfl ?_
    refine own_icmp_le (pt := 86) (pf := 80) X51 hx (hb hby at_77) rfl (by decide) rfl (fun hc77 => absurd (by decide) hc77) (fun hc77 => ?_)
    refine own_aload (pc' := 82) X51 hx (hb hby at_80) rfl rfl rfl ?_
    refine own_iconst (pc' := 83) X51 hx (3 : Int32) (hb hby at_82) rfl rfl ?_
    refine own_iload (pc' := 85) X51 hx (hb hby at_83) rfl rfl ?_
    refine own_bastore (pc' := 86) X51 hx hZ e51 V51 ⟨by decide, by decide⟩ 3 rfl (Nat.le_of_ble_eq_true rfl) (hb hby at_85) rfl ?_
    intro T52 h52 X52 e52 W52 V52
    have z52 : n0 ≤ h52.size := Nat.le_trans z51 (Keep.of_wr W52).1
    have V52 : Arv Z h52 b48 k48 .byte (4 : Int32) [(.int r44), (.int r45), (.int r46), (.int (nar .byte r47))] (.int (0 : Int32)) := V52
    have N52 := Fr.snoc X52 N51 g_b48
    rw [hr47] at V52
    refine own_iload (pc' := 88) X52 hx (hb hby at_86) rfl rfl ?_
    refine own_iconst (pc' := 89) X52 hx (1 : Int32) (hb hby at_88) rfl rfl ?_
    refine own_icmp_lt (pt := 100) (pf := 92) X52 hx (hb hby at_89) rfl (by decide) rfl (fun hc89 => absurd hc89 (by decide)) (fun hc89 => ?_)
    refine own_iload (pc' := 94) X52 hx (hb hby at_92) rfl rfl ?_
    refine own_callS (pc' := 97) (W := 0) (y := (⟨"com/example/ossify/ossify/EventIsBlankPinLaw", "blank", "(B)Z"⟩ : MethodName)) X52 hx hZ hown (own_w hw 11 rfl) (own_w hw 12 rfl) (own_w hw 3 rfl) (own_w hw 13 rfl) (by decide) (conK l Z a0 hw r44 _ ) e52 pd2 [(.int r44)] [] rfl rfl rfl (Nat.le_of_eq rfl) (by decide) (by decide) (by rw [hml]; rfl) (hb hby at_94) (by decide) (by decide) rfl ?_
    intro v53 T53 L53 X53 q53
    obtain ⟨r53, rfl, hr53, rfl, e53⟩ := q53
    have N53 := Fr.app N52 (Fr.nil n0)
    show own_WP _ _ _ _ _ _ _ (T53.setTop (mkF m 97 #[.val (.int p0), .val (.int p1), .val (.int p2), .val (.int p3), .val (.int p4), .val (.int (4 : Int32)), .val (.int r44), .val (.int r45), .val (.int r46), .val (.int r47), .val (.ref b48), .unset] [(.int r53)]))
    refine own_if_eq (pt := 146) (pf := 100) X53 hx (hb hby at_97) rfl (by decide) rfl (fun hc97 => ?_) (fun hc97 => ?_)
    · skip
      refine own_iconst (pc' := 147) X53 hx (0 : Int32) (hb hby at_146) rfl rfl ?_
      refine own_istore (pc' := 149) (l' := #[.val (.int p0), .val (.int p1), .val (.int p2), .val (.int p3), .val (.int p4), .val (.int (4 : Int32)), .val (.int r44), .val (.int r45), .val (.int r46), .val (.int r47), .val (.ref b48), .val (.int (0 : Int32))]) X53 hx (hb hby at_147) rfl rfl rfl ?_
      refine own_aload (pc' := 151) X53 hx (hb hby at_149) rfl rfl rfl ?_
      refine own_callS (pc' := 154) (W := 0) (y := (⟨"com/example/ossify/ossify/Event", "isBlank", "([B)Z"⟩ : MethodName)) X53 hx hZ hown (own_w hw 6 rfl) (own_w hw 7 rfl) (own_w hw 8 rfl) (own_w hw 9 rfl) (by decide) (conB4 l Z a0 hw b48 _ k48 r44 r45 r46 r47 V52) e53 pd1 [(.ref b48)] [] rfl rfl rfl (Nat.le_of_eq rfl) (by decide) (by decide) (by rw [hml]; rfl) (hb hby at_151) (by decide) (by decide) rfl ?_
      intro v54 T54 L54 X54 q54
      obtain ⟨r54, rfl, hr54, rfl, e54⟩ := q54
      have N54 := Fr.app N53 (Fr.nil n0)
      show own_WP _ _ _ _ _ _ _ (T54.setTop (mkF m 154 #[.val (.int p0), .val (.int p1), .val (.int p2), .val (.int p3), .val (.int p4), .val (.int (4 : Int32)), .val (.int r44), .val (.int r45), .val (.int r46), .val (.int r47), .val (.ref b48), .val (.int (0 : Int32))] [(.int r54)]))
      refine own_iload (pc' := 156) X54 hx (hb hby at_154) rfl rfl ?_
      have qr53 := own_bkN hr53 hc97
      refine own_icmp_ne (pt := 163) (pf := 159) X54 hx (hb hby at_156) rfl (by decide) rfl (fun hc156 => absurd (by rw [hr54]; simp [own_al, qr53]) hc156) (fun hc156 => ?_)
      refine own_iconst (pc' := 160) X54 hx (1 : Int32) (hb hby at_159) rfl rfl ?_
      refine own_goto (pc' := 164) X54 hx (hb hby at_160) (by decide) rfl ?_
      refine own_retN X54 hx hlk (t := .boolean) (by decide) hret (hb hby at_164) (by decide) (by decide) ?_
      exact ⟨rfl, N54⟩
    · skip
      refine own_iload (pc' := 102) X53 hx (hb hby at_100) rfl rfl ?_
      refine own_iconst (pc' := 103) X53 hx (2 : Int32) (hb hby at_102) rfl rfl ?_
      refine own_icmp_lt (pt := 114) (pf := 106) X53 hx (hb hby at_103) rfl (by decide) rfl (fun hc103 => absurd hc103 (by decide)) (fun hc103 => ?_)
      refine own_iload (pc' := 108) X53 hx (hb hby at_106) rfl rfl ?_
      refine own_callS (pc' := 111) (W := 0) (y := (⟨"com/example/ossify/ossify/EventIsBlankPinLaw", "blank", "(B)Z"⟩ : MethodName)) X53 hx hZ hown (own_w hw 11 rfl) (own_w hw 12 rfl) (own_w hw 3 rfl) (own_w hw 13 rfl) (by decide) (conK l Z a0 hw r45 _ ) e53 pd2 [(.int r45)] [] rfl rfl rfl (Nat.le_of_eq rfl) (by decide) (by decide) (by rw [hml]; rfl) (hb hby at_108) (by decide) (by decide) rfl ?_
      intro v55 T55 L55 X55 q55
      obtain ⟨r55, rfl, hr55, rfl, e55⟩ := q55
      have N55 := Fr.app N53 (Fr.nil n0)
      show own_WP _ _ _ _ _ _ _ (T55.setTop (mkF m 111 #[.val (.int p0), .val (.int p1), .val (.int p2), .val (.int p3), .val (.int p4), .val (.int (4 : Int32)), .val (.int r44), .val (.int r45), .val (.int r46), .val (.int r47), .val (.ref b48), .unset] [(.int r55)]))
      refine own_if_eq (pt := 146) (pf := 114) X55 hx (hb hby at_111) rfl (by decide) rfl (fun hc111 => ?_) (fun hc111 => ?_)
      · skip
        refine own_iconst (pc' := 147) X55 hx (0 : Int32) (hb hby at_146) rfl rfl ?_
        refine own_istore (pc' := 149) (l' := #[.val (.int p0), .val (.int p1), .val (.int p2), .val (.int p3), .val (.int p4), .val (.int (4 : Int32)), .val (.int r44), .val (.int r45), .val (.int r46), .val (.int r47), .val (.ref b48), .val (.int (0 : Int32))]) X55 hx (hb hby at_147) rfl rfl rfl ?_
        refine own_aload (pc' := 151) X55 hx (hb hby at_149) rfl rfl rfl ?_
        refine own_callS (pc' := 154) (W := 0) (y := (⟨"com/example/ossify/ossify/Event", "isBlank", "([B)Z"⟩ : MethodName)) X55 hx hZ hown (own_w hw 6 rfl) (own_w hw 7 rfl) (own_w hw 8 rfl) (own_w hw 9 rfl) (by decide) (conB4 l Z a0 hw b48 _ k48 r44 r45 r46 r47 V52) e55 pd1 [(.ref b48)] [] rfl rfl rfl (Nat.le_of_eq rfl) (by decide) (by decide) (by rw [hml]; rfl) (hb hby at_151) (by decide) (by decide) rfl ?_
        intro v56 T56 L56 X56 q56
        obtain ⟨r56, rfl, hr56, rfl, e56⟩ := q56
        have N56 := Fr.app N55 (Fr.nil n0)
        show own_WP _ _ _ _ _ _ _ (T56.setTop (mkF m 154 #[.val (.int p0), .val (.int p1), .val (.int p2), .val (.int p3), .val (.int p4), .val (.int (4 : Int32)), .val (.int r44), .val (.int r45), .val (.int r46), .val (.int r47), .val (.ref b48), .val (.int (0 : Int32))] [(.int r56)]))
        refine own_iload (pc' := 156) X56 hx (hb hby at_154) rfl rfl ?_
        have qr53 := own_bkY hr53 hc97
        have qr55 := own_bkN hr55 hc111
        refine own_icmp_ne (pt := 163) (pf := 159) X56 hx (hb hby at_156) rfl (by decide) rfl (fun hc156 => absurd (by rw [hr56]; simp [own_al, qr53, qr55]) hc156) (fun hc156 => ?_)
        refine own_iconst (pc' := 160) X56 hx (1 : Int32) (hb hby at_159) rfl rfl ?_
        refine own_goto (pc' := 164) X56 hx (hb hby at_160) (by decide) rfl ?_
        refine own_retN X56 hx hlk (t := .boolean) (by decide) hret (hb hby at_164) (by decide) (by decide) ?_
        exact ⟨rfl, N56⟩
      · skip
        refine own_iload (pc' := 116) X55 hx (hb hby at_114) rfl rfl ?_
        refine own_iconst (pc' := 117) X55 hx (3 : Int32) (hb hby at_116) rfl rfl ?_
        refine own_icmp_lt (pt := 128) (pf := 120) X55 hx (hb hby at_117) rfl (by decide) rfl (fun hc117 => absurd hc117 (by decide)) (fun hc117 => ?_)
        refine own_iload (pc' := 122) X55 hx (hb hby at_120) rfl rfl ?_
        refine own_callS (pc' := 125) (W := 0) (y := (⟨"com/example/ossify/ossify/EventIsBlankPinLaw", "blank", "(B)Z"⟩ : MethodName)) X55 hx hZ hown (own_w hw 11 rfl) (own_w hw 12 rfl) (own_w hw 3 rfl) (own_w hw 13 rfl) (by decide) (conK l Z a0 hw r46 _ ) e55 pd2 [(.int r46)] [] rfl rfl rfl (Nat.le_of_eq rfl) (by decide) (by decide) (by rw [hml]; rfl) (hb hby at_122) (by decide) (by decide) rfl ?_
        intro v57 T57 L57 X57 q57
        obtain ⟨r57, rfl, hr57, rfl, e57⟩ := q57
        have N57 := Fr.app N55 (Fr.nil n0)
        show own_WP _ _ _ _ _ _ _ (T57.setTop (mkF m 125 #[.val (.int p0), .val (.int p1), .val (.int p2), .val (.int p3), .val (.int p4), .val (.int (4 : Int32)), .val (.int r44), .val (.int r45), .val (.int r46), .val (.int r47), .val (.ref b48), .unset] [(.int r57)]))
        refine own_if_eq (pt := 146) (pf := 128) X57 hx (hb hby at_125) rfl (by decide) rfl (fun hc125 => ?_) (fun hc125 => ?_)
        · skip
          refine own_iconst (pc' := 147) X57 hx (0 : Int32) (hb hby at_146) rfl rfl ?_
          refine own_istore (pc' := 149) (l' := #[.val (.int p0), .val (.int p1), .val (.int p2), .val (.int p3), .val (.int p4), .val (.int (4 : Int32)), .val (.int r44), .val (.int r45), .val (.int r46), .val (.int r47), .val (.ref b48), .val (.int (0 : Int32))]) X57 hx (hb hby at_147) rfl rfl rfl ?_
          refine own_aload (pc' := 151) X57 hx (hb hby at_149) rfl rfl rfl ?_
          refine own_callS (pc' := 154) (W := 0) (y := (⟨"com/example/ossify/ossify/Event", "isBlank", "([B)Z"⟩ : MethodName)) X57 hx hZ hown (own_w hw 6 rfl) (own_w hw 7 rfl) (own_w hw 8 rfl) (own_w hw 9 rfl) (by decide) (conB4 l Z a0 hw b48 _ k48 r44 r45 r46 r47 V52) e57 pd1 [(.ref b48)] [] rfl rfl rfl (Nat.le_of_eq rfl) (by decide) (by decide) (by rw [hml]; rfl) (hb hby at_151) (by decide) (by decide) rfl ?_
          intro v58 T58 L58 X58 q58
          obtain ⟨r58, rfl, hr58, rfl, e58⟩ := q58
          have N58 := Fr.app N57 (Fr.nil n0)
          show own_WP _ _ _ _ _ _ _ (T58.setTop (mkF m 154 #[.val (.int p0), .val (.int p1), .val (.int p2), .val (.int p3), .val (.int p4), .val (.int (4 : Int32)), .val (.int r44), .val (.int r45), .val (.int r46), .val (.int r47), .val (.ref b48), .val (.int (0 : Int32))] [(.int r58)]))
          refine own_iload (pc' := 156) X58 hx (hb hby at_154) rfl rfl ?_
          have qr53 := own_bkY hr53 hc97
          have qr55 := own_bkY hr55 hc111
          have qr57 := own_bkN hr57 hc125
          refine own_icmp_ne (pt := 163) (pf := 159) X58 hx (hb hby at_156) rfl (by decide) rfl (fun hc156 => absurd (by rw [hr58]; simp [own_al, qr53, qr55, qr57]) hc156) (fun hc156 => ?_)
          refine own_iconst (pc' := 160) X58 hx (1 : Int32) (hb hby at_159) rfl rfl ?_
          refine own_goto (pc' := 164) X58 hx (hb hby at_160) (by decide) rfl ?_
          refine own_retN X58 hx hlk (t := .boolean) (by decide) hret (hb hby at_164) (by decide) (by decide) ?_
          exact ⟨rfl, N58⟩
        · skip
          refine own_iload (pc' := 130) X57 hx (hb hby at_128) rfl rfl ?_
          refine own_iconst (pc' := 131) X57 hx (4 : Int32) (hb hby at_130) rfl rfl ?_
          refine own_icmp_lt (pt := 142) (pf := 134) X57 hx (hb hby at_131) rfl (by decide) rfl (fun hc131 => absurd hc131 (by decide)) (fun hc131 => ?_)
          refine own_iload (pc' := 136) X57 hx (hb hby at_134) rfl rfl ?_
          refine own_callS (pc' := 139) (W := 0) (y := (⟨"com/example/ossify/ossify/EventIsBlankPinLaw", "blank", "(B)Z"⟩ : MethodName)) X57 hx hZ hown (own_w hw 11 rfl) (own_w hw 12 rfl) (own_w hw 3 rfl) (own_w hw 13 rfl) (by decide) (conK l Z a0 hw r47 _ ) e57 pd2 [(.int r47)] [] rfl rfl rfl (Nat.le_of_eq rfl) (by decide) (by decide) (by rw [hml]; rfl) (hb hby at_136) (by decide) (by decide) rfl ?_
          intro v59 T59 L59 X59 q59
          obtain ⟨r59, rfl, hr59, rfl, e59⟩ := q59
          have N59 := Fr.app N57 (Fr.nil n0)
          show own_WP _ _ _ _ _ _ _ (T59.setTop (mkF m 139 #[.val (.int p0), .val (.int p1), .val (.int p2), .val (.int p3), .val (.int p4), .val (.int (4 : Int32)), .val (.int r44), .val (.int r45), .val (.int r46), .val (.int r47), .val (.ref b48), .unset] [(.int r59)]))
          refine own_if_eq (pt := 146) (pf := 142) X59 hx (hb hby at_139) rfl (by decide) rfl (fun hc139 => ?_) (fun hc139 => ?_)
          · skip
            refine own_iconst (pc' := 147) X59 hx (0 : Int32) (hb hby at_146) rfl rfl ?_
            refine own_istore (pc' := 149) (l' := #[.val (.int p0), .val (.int p1), .val (.int p2), .val (.int p3), .val (.int p4), .val (.int (4 : Int32)), .val (.int r44), .val (.int r45), .val (.int r46), .val (.int r47), .val (.ref b48), .val (.int (0 : Int32))]) X59 hx (hb hby at_147) rfl rfl rfl ?_
            refine own_aload (pc' := 151) X59 hx (hb hby at_149) rfl rfl rfl ?_
            refine own_callS (pc' := 154) (W := 0) (y := (⟨"com/example/ossify/ossify/Event", "isBlank", "([B)Z"⟩ : MethodName)) X59 hx hZ hown (own_w hw 6 rfl) (own_w hw 7 rfl) (own_w hw 8 rfl) (own_w hw 9 rfl) (by decide) (conB4 l Z a0 hw b48 _ k48 r44 r45 r46 r47 V52) e59 pd1 [(.ref b48)] [] rfl rfl rfl (Nat.le_of_eq rfl) (by decide) (by decide) (by rw [hml]; rfl) (hb hby at_151) (by decide) (by decide) rfl ?_
            intro v60 T60 L60 X60 q60
            obtain ⟨r60, rfl, hr60, rfl, e60⟩ := q60
            have N60 := Fr.app N59 (Fr.nil n0)
            show own_WP _ _ _ _ _ _ _ (T60.setTop (mkF m 154 #[.val (.int p0), .val (.int p1), .val (.int p2), .val (.int p3), .val (.int p4), .val (.int (4 : Int32)), .val (.int r44), .val (.int r45), .val (.int r46), .val (.int r47), .val (.ref b48), .val (.int (0 : Int32))] [(.int r60)]))
            refine own_iload (pc' := 156) X60 hx (hb hby at_154) rfl rfl ?_
            have qr53 := own_bkY hr53 hc97
            have qr55 := own_bkY hr55 hc111
            have qr57 := own_bkY hr57 hc125
            have qr59 := own_bkN hr59 hc139
            refine own_icmp_ne (pt := 163) (pf := 159) X60 hx (hb hby at_156) rfl (by decide) rfl (fun hc156 => absurd (by rw [hr60]; simp [own_al, qr53, qr55, qr57, qr59]) hc156) (fun hc156 => ?_)
            refine own_iconst (pc' := 160) X60 hx (1 : Int32) (hb hby at_159) rfl rfl ?_
            refine own_goto (pc' := 164) X60 hx (hb hby at_160) (by decide) rfl ?_
            refine own_retN X60 hx hlk (t := .boolean) (by decide) hret (hb hby at_164) (by decide) (by decide) ?_
            exact ⟨rfl, N60⟩
          · skip
            refine own_iconst (pc' := 143) X59 hx (1 : Int32) (hb hby at_142) rfl rfl ?_
            refine own_goto (pc' := 147) X59 hx (hb hby at_143) (by decide) rfl ?_
            refine own_istore (pc' := 149) (l' := #[.val (.int p0), .val (.int p1), .val (.int p2), .val (.int p3), .val (.int p4), .val (.int (4 : Int32)), .val (.int r44), .val (.int r45), .val (.int r46), .val (.int r47), .val (.ref b48), .val (.int (1 : Int32))]) X59 hx (hb hby at_147) rfl rfl rfl ?_
            refine own_aload (pc' := 151) X59 hx (hb hby at_149) rfl rfl rfl ?_
            refine own_callS (pc' := 154) (W := 0) (y := (⟨"com/example/ossify/ossify/Event", "isBlank", "([B)Z"⟩ : MethodName)) X59 hx hZ hown (own_w hw 6 rfl) (own_w hw 7 rfl) (own_w hw 8 rfl) (own_w hw 9 rfl) (by decide) (conB4 l Z a0 hw b48 _ k48 r44 r45 r46 r47 V52) e59 pd1 [(.ref b48)] [] rfl rfl rfl (Nat.le_of_eq rfl) (by decide) (by decide) (by rw [hml]; rfl) (hb hby at_151) (by decide) (by decide) rfl ?_
            intro v61 T61 L61 X61 q61
            obtain ⟨r61, rfl, hr61, rfl, e61⟩ := q61
            have N61 := Fr.app N59 (Fr.nil n0)
            show own_WP _ _ _ _ _ _ _ (T61.setTop (mkF m 154 #[.val (.int p0), .val (.int p1), .val (.int p2), .val (.int p3), .val (.int p4), .val (.int (4 : Int32)), .val (.int r44), .val (.int r45), .val (.int r46), .val (.int r47), .val (.ref b48), .val (.int (1 : Int32))] [(.int r61)]))
            refine own_iload (pc' := 156) X61 hx (hb hby at_154) rfl rfl ?_
            have qr53 := own_bkY hr53 hc97
            have qr55 := own_bkY hr55 hc111
            have qr57 := own_bkY hr57 hc125
            have qr59 := own_bkY hr59 hc139
            refine own_icmp_ne (pt := 163) (pf := 159) X61 hx (hb hby at_156) rfl (by decide) rfl (fun hc156 => absurd (by rw [hr61]; simp [own_al, qr53, qr55, qr57, qr59]) hc156) (fun hc156 => ?_)
            refine own_iconst (pc' := 160) X61 hx (1 : Int32) (hb hby at_159) rfl rfl ?_
            refine own_goto (pc' := 164) X61 hx (hb hby at_160) (by decide) rfl ?_
            refine own_retN X61 hx hlk (t := .boolean) (by decide) hret (hb hby at_164) (by decide) (by decide) ?_
            exact ⟨rfl, N61⟩
set_option maxRecDepth 65536 in
set_option maxHeartbeats 4000000 in
theorem comes_1 {Post : Tables → Env → Array Value → Jvm.State → Outcome → Jvm.State → Prop} (hpost : ∀ tb e args s v u, (limb_1_1.after args s (.returned v) u = true ∧ limb_1_2.after args s (.returned v) u = true ∧ True) → FrameEnd s (.returned v) u (Jvm.fieldLocs frame_1_writes args s ++ Jvm.arrayLocs frame_1_arrays args s ++ Jvm.staticLocs frame_1_statics s) 16 128 → Post tb e args s (.returned v) u) :
    ArmFor flags0 classFile x code maxLocals ret World_1 tables_1 room_1 Calls_1 rest_1 Pre_1 Post := by
  intro l hfl _ _ p e ha hc hk s m args below hf hA hF happ hP
  obtain ⟨hcalls, hrest, hpre⟩ := hP
  obtain ⟨-, -, -, hnamed, -, -, -, hat⟩ := (Spec.applies_iff hf).mp happ
  obtain ⟨hg, hn⟩ := and_e (Cond.before_iff.mp (show (Jvm.Cond.and given_1 narrow_1).before args s = true from hpre))
  obtain ⟨u1, u2⟩ := and_e hg
  obtain ⟨u3, u4⟩ := and_e u2
  obtain ⟨u5, u6⟩ := and_e u4
  obtain ⟨u7, u8⟩ := and_e u6
  obtain ⟨u9, u10⟩ := and_e u8
  obtain ⟨w0, w1, w2, w3, w4, rfl⟩ : ∃ w0 w1 w2 w3 w4 : Value, args = #[w0, w1, w2, w3, w4] := by
    have hs : args.size = 5 := by simpa [Cond.value, given_1] using u1
    obtain ⟨L⟩ := args
    match L, hs with
    | [w0, w1, w2, w3, w4], _ => exact ⟨w0, w1, w2, w3, w4, rfl⟩
  have hw := fun d (hd : d ∈ tables_1) => atoms_spec (ws := Jvm.Cond.code x code maxLocals ret :: tables_1) hat d (List.mem_cons_of_mem _ hd)
  obtain ⟨i0, ei0⟩ := is_v u3
  obtain rfl : w0 = (.int i0) := Option.some.inj ei0
  obtain ⟨i1, ei1⟩ := is_v u5
  obtain rfl : w1 = (.int i1) := Option.some.inj ei1
  obtain ⟨i2, ei2⟩ := is_v u7
  obtain rfl : w2 = (.int i2) := Option.some.inj ei2
  obtain ⟨i3, ei3⟩ := is_v u9
  obtain rfl : w3 = (.int i3) := Option.some.inj ei3
  obtain ⟨i4, ei4⟩ := is_v u10
  obtain rfl : w4 = (.int i4) := Option.some.inj ei4
  obtain ⟨n, o, h1, h2, h3, _, L, rfl, ⟨rfl, N⟩, hq⟩ := con0 l s _ hw i0 i1 i2 i3 i4 s.heap s.heap.size (Nat.le_refl _)  tables_1 p e ha hc hk s m _ below hf ((Spec.applies_iff_loose hf).mp happ).1 ⟨rfl, State.Warmed39.refl s, rfl⟩ trivial
  refine ⟨n, _, h1, h2, h3, hpost _ _ _ _ _ _ ⟨Cond.after_iff.mpr rfl, Cond.after_iff.mpr (eq_i res_at (Term.int_eval (1)) rfl), trivial⟩ ⟨hq.1, hq.2.1, (hq.2.2.sift fun y hy => Or.inr (N y hy)).mono (by decide) (by decide)⟩⟩
theorem main_1_1 : Claimed_1_1 := comes_1 fun _ _ _ _ _ _ h hF => ⟨h.1, hF⟩
theorem main_1_2 : Claimed_1_2 := comes_1 fun _ _ _ _ _ _ h hF => ⟨h.2.1, hF⟩
end Jvm.Pilot.@@N@@
namespace Jvm.Pilot.@@N@@
open Jvm Jvm.ClassFile Sem Op Lib Jvm.Free Jvm.Stand Jvm.Pilot.@@N@@.Jvm.D
/-! MADE BY PROGRAM (witnessworld.py) out of the Statement's table words and the real class files: 9 classes; the members and pool entries that the words name. The judged class is class 1, her method 1. -/
namespace start1
open Jvm.ClassFile
def u (s : String) : CpInfo := .utf8 (stringToUtf16 s)
/-- a pool by its gaps: so many unusable entries, then the entry; so many at the end -/
def gap : Nat → List CpInfo → List CpInfo
  | 0, r => r
  | n + 1, r => .unusable :: gap n r
def poolList (es : List (Nat × CpInfo)) (last : Nat) : List CpInfo := es.foldr (fun e r => gap e.1 (e.2 :: r)) (gap last [])
def pool (es : List (Nat × CpInfo)) (last : Nat) : Array CpInfo := ⟨poolList es last⟩
def fileOf (pool : Array CpInfo) (this : Nat) (attrs : Array Attribute := #[]) (ms : Array MethodInfo := #[]) (fl : Nat := 33) (sup : Nat := 0) (ifs : Array Nat := #[]) (fds : Array FieldInfo := #[]) : ClassFile where
  minorVersion := 0
  majorVersion := 65
  constantPool := pool
  accessFlags := fl
  thisClass := this
  superClass := sup
  interfaces := ifs
  fields := fds
  methods := ms
  attributes := attrs
def plain (name : String) (sup : Option ClassId) : Class where
  name := name
  kind := .ordinary
  loader := none
  accessFlags := 33
  super := sup
  interfaces := #[]
  cf := none
  fields := #[]
  methods := #[]
  instanceTypes := #[]
  staticTypes := #[]
  resolved := #[]
  callSites := []
  init := .initialized
  statics := none
  mirror := none

def pool0 : Array CpInfo := pool [(5, u "<init>"), (0, u "()V"), (1, .class_ 10), (1, u "java/lang/Object")] 113

def k0m0 : Method := { name := "<init>", desc := "()V", sig := { parameters := [], returnType := none }, accessFlags := 1, code := none }
/-- java/lang/Object -/
def k0 : Class := { plain "java/lang/Object" none with
  accessFlags := 33
  interfaces := #[]
  cf := some (fileOf pool0 8 #[] #[{ accessFlags := 1, nameIndex := 5, descriptorIndex := 6, attributes := #[] }] 33 0 #[] #[])
  fields := #[]
  methods := #[k0m0]
  instanceTypes := #[]
  staticTypes := #[]
  resolved := Array.replicate 124 none
  statics := none }

def pool1 : Array CpInfo := pool [(2, .class_ 4), (1, u "java/lang/Object"), (0, u "<init>"), (0, u "()V"), (0, .integer 2147483647), (0, .methodref 9 10), (0, .class_ 11), (0, .nameAndType 12 13), (0, u "com/example/ossify/ossify/EventIsBlankPinLaw"), (0, u "pick"), (0, u "(I)B"), (0, .methodref 9 15), (0, .nameAndType 16 17), (0, u "blank"), (0, u "(B)Z"), (0, .methodref 19 20), (0, .class_ 21), (0, .nameAndType 22 23), (0, u "com/example/ossify/ossify/Event"), (0, u "isBlank"), (0, u "([B)Z"), (2, u "law"), (0, u "(IIIII)Z")] 5

def k1m0 : Method := { name := "<init>", desc := "()V", sig := { parameters := [], returnType := none }, accessFlags := 1, code := none }
def k1c1 : Code := { maxStack := 3, maxLocals := 12, code := code, exceptionTable := #[], attributes := #[] }
def k1m1 : Method := { name := "law", desc := "(IIIII)Z", sig := { parameters := [.int, .int, .int, .int, .int], returnType := some .boolean }, accessFlags := 9, code := some k1c1 }
def k1c2 : Code := { maxStack := 2, maxLocals := 2, code := method_3_code, exceptionTable := #[], attributes := #[] }
def k1m2 : Method := { name := "pick", desc := "(I)B", sig := { parameters := [.int], returnType := some .byte }, accessFlags := 10, code := some k1c2 }
def k1c3 : Code := { maxStack := 2, maxLocals := 1, code := method_4_code, exceptionTable := #[], attributes := #[] }
def k1m3 : Method := { name := "blank", desc := "(B)Z", sig := { parameters := [.byte], returnType := some .boolean }, accessFlags := 10, code := some k1c3 }
/-- com/example/ossify/ossify/EventIsBlankPinLaw -/
def k1 : Class := { plain "com/example/ossify/ossify/EventIsBlankPinLaw" (some 0) with
  accessFlags := 49
  interfaces := #[]
  cf := some (fileOf pool1 9 #[] #[{ accessFlags := 1, nameIndex := 5, descriptorIndex := 6, attributes := #[] }, { accessFlags := 9, nameIndex := 26, descriptorIndex := 27, attributes := #[] }, { accessFlags := 10, nameIndex := 12, descriptorIndex := 13, attributes := #[] }, { accessFlags := 10, nameIndex := 16, descriptorIndex := 17, attributes := #[] }] 49 2 #[] #[])
  fields := #[]
  methods := #[k1m0, k1m1, k1m2, k1m3]
  instanceTypes := #[]
  staticTypes := #[]
  resolved := Array.replicate 33 none
  statics := none }

def pool2 : Array CpInfo := pool [(2, .class_ 4), (1, u "java/lang/Object"), (0, u "<init>"), (0, u "()V"), (0, .class_ 8), (0, u "com/example/ossify/ossify/Event"), (0, .integer 1048576), (61, u "TEXT_MEMBERS"), (0, u "Ljava/util/List;"), (76, u "MAX_LINE_SIZE"), (0, u "I"), (1, u "ACTION"), (0, u "Ljava/lang/String;"), (0, u "ACTOR"), (0, u "RESOURCE"), (0, u "OUTCOME"), (0, u "REASON"), (0, u "TENANT"), (2, u "DATA"), (0, u "MAX_ACTION_LENGTH"), (1, u "MAX_TEXT_LENGTH"), (10, u "isBlank"), (0, u "([B)Z")] 44

def k2m0 : Method := { name := "<init>", desc := "()V", sig := { parameters := [], returnType := none }, accessFlags := 2, code := none }
def k2c1 : Code := { maxStack := 2, maxLocals := 5, code := prog_11_method_4_code, exceptionTable := #[], attributes := #[] }
def k2m1 : Method := { name := "isBlank", desc := "([B)Z", sig := { parameters := [(.array .byte)], returnType := some .boolean }, accessFlags := 8, code := some k2c1 }
/-- com/example/ossify/ossify/Event -/
def k2 : Class := { plain "com/example/ossify/ossify/Event" (some 0) with
  accessFlags := 32
  interfaces := #[]
  cf := some (fileOf pool2 7 #[] #[{ accessFlags := 2, nameIndex := 5, descriptorIndex := 6, attributes := #[] }, { accessFlags := 8, nameIndex := 175, descriptorIndex := 176, attributes := #[] }] 32 2 #[] #[{ accessFlags := 24, nameIndex := 149, descriptorIndex := 150, attributes := #[] }, { accessFlags := 24, nameIndex := 152, descriptorIndex := 153, attributes := #[] }, { accessFlags := 24, nameIndex := 154, descriptorIndex := 153, attributes := #[] }, { accessFlags := 24, nameIndex := 155, descriptorIndex := 153, attributes := #[] }, { accessFlags := 24, nameIndex := 156, descriptorIndex := 153, attributes := #[] }, { accessFlags := 26, nameIndex := 157, descriptorIndex := 153, attributes := #[] }, { accessFlags := 26, nameIndex := 158, descriptorIndex := 153, attributes := #[] }, { accessFlags := 26, nameIndex := 71, descriptorIndex := 72, attributes := #[] }, { accessFlags := 26, nameIndex := 161, descriptorIndex := 153, attributes := #[] }, { accessFlags := 26, nameIndex := 162, descriptorIndex := 150, attributes := #[] }, { accessFlags := 26, nameIndex := 164, descriptorIndex := 150, attributes := #[] }])
  fields := #[{ name := "MAX_LINE_SIZE", type := .int, accessFlags := 24, slot := 0, constantValue := 0 }, { name := "ACTION", type := (.object "java/lang/String"), accessFlags := 24, slot := 1, constantValue := 0 }, { name := "ACTOR", type := (.object "java/lang/String"), accessFlags := 24, slot := 2, constantValue := 0 }, { name := "RESOURCE", type := (.object "java/lang/String"), accessFlags := 24, slot := 3, constantValue := 0 }, { name := "OUTCOME", type := (.object "java/lang/String"), accessFlags := 24, slot := 4, constantValue := 0 }, { name := "REASON", type := (.object "java/lang/String"), accessFlags := 26, slot := 5, constantValue := 0 }, { name := "TENANT", type := (.object "java/lang/String"), accessFlags := 26, slot := 6, constantValue := 0 }, { name := "TEXT_MEMBERS", type := (.object "java/util/List"), accessFlags := 26, slot := 7, constantValue := 0 }, { name := "DATA", type := (.object "java/lang/String"), accessFlags := 26, slot := 8, constantValue := 0 }, { name := "MAX_ACTION_LENGTH", type := .int, accessFlags := 26, slot := 9, constantValue := 0 }, { name := "MAX_TEXT_LENGTH", type := .int, accessFlags := 26, slot := 10, constantValue := 0 }]
  methods := #[k2m0, k2m1]
  instanceTypes := #[]
  staticTypes := #[.int, (.object "java/lang/String"), (.object "java/lang/String"), (.object "java/lang/String"), (.object "java/lang/String"), (.object "java/lang/String"), (.object "java/lang/String"), (.object "java/util/List"), (.object "java/lang/String"), .int, .int]
  resolved := Array.replicate 221 none
  statics := none }

def pool3 : Array CpInfo := pool [(1, u "java/lang/Cloneable"), (0, .class_ 1), (0, u "java/lang/Object"), (0, .class_ 3)] 3

/-- java/lang/Cloneable -/
def k3 : Class := { plain "java/lang/Cloneable" (some 0) with
  accessFlags := 1537
  interfaces := #[]
  cf := some (fileOf pool3 2 #[] #[] 1537 4 #[] #[])
  fields := #[]
  methods := #[]
  instanceTypes := #[]
  staticTypes := #[]
  resolved := Array.replicate 8 none
  statics := none }

def pool4 : Array CpInfo := pool [(1, u "java/io/Serializable"), (0, .class_ 1), (0, u "java/lang/Object"), (0, .class_ 3)] 3

/-- java/io/Serializable -/
def k4 : Class := { plain "java/io/Serializable" (some 0) with
  accessFlags := 1537
  interfaces := #[]
  cf := some (fileOf pool4 2 #[] #[] 1537 4 #[] #[])
  fields := #[]
  methods := #[]
  instanceTypes := #[]
  staticTypes := #[]
  resolved := Array.replicate 8 none
  statics := none }

/-- the primitive byte -/
def k5 : Class := { plain "byte" none with kind := .primitive 'B', accessFlags := 0x411 }
/-- [B -/
def k6 : Class := { plain "[B" (some 0) with kind := .array 5 .byte, interfaces := #[3, 4], accessFlags := 1041 }

/-- the primitive int -/
def k7 : Class := { plain "int" none with kind := .primitive 'I', accessFlags := 0x411 }
/-- [I -/
def k8 : Class := { plain "[I" (some 0) with kind := .array 7 .int, interfaces := #[3, 4], accessFlags := 1041 }

def heap : Heap := #[]
def classes : Array Class := #[k0, k1, k2, k3, k4, k5, k6, k7, k8]
def interned : List (Array UInt16 × Addr) := []
def slotsUsed : Nat := 0
def theMethod : MethodId := ⟨1, 1⟩
def args0 : Array Value := #[.int 5, .int 3, .int 4, .int 1, .int 1]
def aboutOver (below : List Frame) : State where
  vm := { classes := classes, interned := interned.toArray }
  heap := heap
  slotsUsed := slotsUsed
  threads := #[{ frames := .invoking theMethod args0 :: below }]
def below0 : List Frame := [.native { method := ⟨0, 0⟩, args := #[] }]
def about1 : State := aboutOver below0
def p0 : Program := .bare "" "" ""
def e0 : Env := launch0.env 0 0 0
theorem w_frames : about1.frames = Frame.invoking theMethod args0 :: below0 := rfl
set_option maxRecDepth 65536 in
theorem w_args : argsFit about1.vm theMethod args0 = true := by decide +kernel
set_option maxRecDepth 65536 in
theorem w_heap : heapFits about1 = true := by decide +kernel
set_option maxRecDepth 65536 in
theorem w_runnable : about1.curStatus? = some .runnable := by decide +kernel
set_option maxRecDepth 65536 in
theorem w_alone : about1.alone = true := by decide +kernel
set_option maxRecDepth 65536 in
theorem w_named : about1.methodNamed? x = some theMethod := by decide +kernel
set_option maxRecDepth 65536 in
theorem w_hears : about1.hears theMethod below0 = true := by decide +kernel
set_option maxRecDepth 65536 in
theorem w_ripe : about1.ripe theMethod args0 below0 = true := by decide +kernel
theorem w_running : about1.status = .running := rfl
set_option maxRecDepth 65536 in
theorem w_room : about1.hasRoom e0.platform room_1 = true :=
  launch0.hasRoom_least _ room_1 (by decide +kernel) (by decide +kernel) (by decide +kernel) (by decide +kernel) (by decide +kernel) (by decide +kernel)
theorem allAtoms_all (ts : List Jvm.Cond) (a : Array Jvm.Value) (st : Jvm.State) : (allAtoms ts).before a st = ts.all (fun c => c.before a st) := by
  induction ts with
  | nil => rfl
  | cons c t ih =>
    show (Jvm.Cond.and c (allAtoms t)).before a st = _
    rw [Jvm.Cond.before_and, ih, List.all_cons]
def words1 : List Jvm.Cond := Jvm.Cond.code x code maxLocals ret :: tables_1
/-- a 'code' word, met by the world's own term for the bytes: nothing is compared byte by byte -/
theorem code_word {y : MethodName} {bytes : ByteArray} {mx : Nat} {rt : Option FieldType} {a : Array Value} {s : State} {m : MethodId} {meth : Method} {c : Code} (h1 : s.methodNamed? y = some m) (h2 : s.vm.method? m = some meth) (h3 : meth.code = some c) (h4 : c.code = bytes)
    (h5 : (c.maxLocals == mx && c.exceptionTable.isEmpty && decide (c.maxStack ≤ mostOperands) && decide (meth.sig.returnType = rt) && !meth.locks && decide (parseMethodDescriptor y.desc = some meth.sig)) = true) : (Jvm.Cond.code y bytes mx rt).before a s = true := by
  simp only [Bool.and_eq_true, beq_iff_eq, Bool.not_eq_true', decide_eq_true_eq] at h5
  obtain ⟨⟨⟨⟨⟨g1, g2⟩, g3⟩, g4⟩, g5⟩, g6⟩ := h5
  simp [Cond.before, Cond.holds, Cond.value, h1, h2, h3, h4, g1, g2, g3, g4, g5, g6]
def isCode : Jvm.Cond → Bool
  | .code _ _ _ _ => true
  | _ => false
theorem all_split {L : List Jvm.Cond} {P : Jvm.Cond → Bool} (h1 : L.all (fun c => isCode c || P c) = true) (h2 : ∀ c ∈ L.filter isCode, P c = true) : L.all P = true := by
  refine List.all_eq_true.mpr fun c hc => ?_
  have h := List.all_eq_true.mp h1 c hc
  rcases Bool.eq_false_or_eq_true (isCode c) with hi | hi
  · exact h2 c (List.mem_filter.mpr ⟨hc, hi⟩)
  · simpa [hi] using h
set_option maxRecDepth 65536 in
theorem w_c0 : (Jvm.Cond.code x code maxLocals ret).before args0 about1 = true := code_word (m := ⟨1, 1⟩) (meth := k1m1) (c := k1c1) (by decide +kernel) rfl rfl rfl (by decide +kernel)
set_option maxRecDepth 65536 in
theorem w_c1 : (Jvm.Cond.code ({ cls := "com/example/ossify/ossify/EventIsBlankPinLaw", name := "pick", desc := "(I)B" } : Jvm.MethodName) method_3_code (2 : Nat) (Option.some Jvm.ClassFile.FieldType.byte)).before args0 about1 = true := code_word (m := ⟨1, 2⟩) (meth := k1m2) (c := k1c2) (by decide +kernel) rfl rfl rfl (by decide +kernel)
set_option maxRecDepth 65536 in
theorem w_c2 : (Jvm.Cond.code ({ cls := "com/example/ossify/ossify/Event", name := "isBlank", desc := "([B)Z" } : Jvm.MethodName) prog_11_method_4_code (5 : Nat) (Option.some Jvm.ClassFile.FieldType.boolean)).before args0 about1 = true := code_word (m := ⟨2, 1⟩) (meth := k2m1) (c := k2c1) (by decide +kernel) rfl rfl rfl (by decide +kernel)
set_option maxRecDepth 65536 in
theorem w_c3 : (Jvm.Cond.code ({ cls := "com/example/ossify/ossify/EventIsBlankPinLaw", name := "blank", desc := "(B)Z" } : Jvm.MethodName) method_4_code (1 : Nat) (Option.some Jvm.ClassFile.FieldType.boolean)).before args0 about1 = true := code_word (m := ⟨1, 3⟩) (meth := k1m3) (c := k1c3) (by decide +kernel) rfl rfl rfl (by decide +kernel)
def codes1 : List Jvm.Cond := [Jvm.Cond.code x code maxLocals ret, Jvm.Cond.code ({ cls := "com/example/ossify/ossify/EventIsBlankPinLaw", name := "pick", desc := "(I)B" } : Jvm.MethodName) method_3_code (2 : Nat) (Option.some Jvm.ClassFile.FieldType.byte), Jvm.Cond.code ({ cls := "com/example/ossify/ossify/Event", name := "isBlank", desc := "([B)Z" } : Jvm.MethodName) prog_11_method_4_code (5 : Nat) (Option.some Jvm.ClassFile.FieldType.boolean), Jvm.Cond.code ({ cls := "com/example/ossify/ossify/EventIsBlankPinLaw", name := "blank", desc := "(B)Z" } : Jvm.MethodName) method_4_code (1 : Nat) (Option.some Jvm.ClassFile.FieldType.boolean)]
set_option maxRecDepth 65536 in
theorem codes_eq : words1.filter isCode = codes1 := rfl
theorem w_codes : ∀ c ∈ words1.filter isCode, c.before args0 about1 = true := by
  rw [codes_eq]
  intro c hc
  simp only [codes1, List.mem_cons, List.not_mem_nil, or_false] at hc
  rcases hc with rfl | rfl | rfl | rfl
  · exact w_c0
  · exact w_c1
  · exact w_c2
  · exact w_c3
set_option maxRecDepth 65536 in
theorem w_t1 : words1.all (fun c => isCode c || c.before args0 about1) = true := by decide +kernel
theorem w_tables : (allAtoms (Jvm.Cond.code x code maxLocals ret :: tables_1)).before args0 about1 = true := by
  rw [allAtoms_all]
  show words1.all (fun c => c.before args0 about1) = true
  refine all_split ?_ w_codes
  rw [w_t1]
set_option maxRecDepth 65536 in
theorem w_case : (Jvm.Cond.and given_1 narrow_1).before args0 about1 = true := by decide +kernel
theorem w_applies : (headSpec (Jvm.Cond.code x code maxLocals ret :: tables_1) room_1).applies x e0.platform about1 = true :=
  (Spec.applies_iff w_frames).mpr ⟨w_running, w_runnable, w_alone, w_named, w_hears, w_ripe, w_room, w_tables⟩
theorem atStart : AtStart classFile x code maxLocals ret World_1 tables_1 room_1 Calls_1 rest_1 Pre_1 launch0 p0 e0 about1 theMethod args0 below0 :=
  ⟨lists_1, trivial, launch0.admits_env _ _ _, launch0.least_env, fairChoices_fair.cas, fairChoices_fair.clock, w_frames, w_args, w_heap, w_applies, trivial, trivial, w_case⟩
end start1
theorem witness_1 : WitnessClaimed_1 := ⟨start1.p0, start1.e0, start1.about1, start1.theMethod, start1.args0, start1.below0, start1.atStart⟩
end Jvm.Pilot.@@N@@
