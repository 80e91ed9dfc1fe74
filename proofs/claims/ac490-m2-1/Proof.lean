import JvmDerived
import JvmDerived.Pilot.@@N@@Statement
import JvmDerived.Pilot.@@N@@Code
set_option linter.unusedVariables false
set_option linter.unusedSimpArgs false
namespace Jvm.Pilot.@@N@@
open Jvm Jvm.ClassFile Sem Op Lib Jvm.Free Jvm.Stand Jvm.LawKit Jvm.RoadKit Bundle Jvm.Pilot.@@N@@.Jvm.D
/-! own_: what is left of a walk, read forwards -/
def own_WP (p : Program) (e : Env) (below : List Frame) (s : State) (Q : Option Value → Heap → List Loc → Prop) (k n : Nat) (a : State) : Prop :=
  ∃ s₂ o, Steps p.tables e below a s₂ ∧ s₂.status = .running ∧ Ended s₂ below o ∧ ∃ v L, o = .returned v ∧ Q v s₂.heap L ∧ FrameEnd s o s₂ L k n
def own_Con (l : Launch) (Z : State) (y : MethodName) (bytes : ByteArray) (maxL : Nat) (ret : Option FieldType) (rm : Room) (as' : Array Value) (h0 : Heap) (Q : Option Value → Heap → List Loc → Prop) : Prop :=
  ∀ ws, MetFree l y (head1 (Jvm.Cond.code y bytes maxL ret :: ws) rm) (fun a U => a = as' ∧ Z.Warmed39 U.vm ∧ U.heap = h0) (fun _ _ _ _ _ => True) (fun _ U o U' => ∃ v L, o = .returned v ∧ Q v U'.heap L ∧ FrameEnd U o U' L rm.cells rm.slots)
theorem own_Con_of {l : Launch} {Z : State} {y : MethodName} {bytes : ByteArray} {maxL : Nat} {ret : Option FieldType} {rm : Room} {as' : Array Value} {h0 : Heap} {Q : Option Value → Heap → List Loc → Prop} (hp : plainFor y = true)
    (hb : ∀ (p : Program) (e : Env) (s : State) (m : MethodId) (below : List Frame) (meth : Method) (c : Code) (s₁ : State), Stand p l e rm s m as' below meth c s₁ [] 0 0 → p.tables.exec = Jvm.exec → c.code = bytes → c.maxLocals = maxL → meth.sig.returnType = ret → meth.locks = false → meth.name = y.name → s.vm.findClass y.cls = some m.cls → Z.Warmed39 s.vm → s₁.heap = h0 →
      own_WP p e below s Q rm.cells rm.slots (s₁.setTop (entryFrame m as' maxL))) : own_Con l Z y bytes maxL ret rm as' h0 Q := by
  intro ws
  refine MetFree.of_bodySF hp hisR ?_
  intro p e s m args below meth c s₁ Bd hml0 hP hK
  obtain ⟨rfl, hZ, hh⟩ := hP
  exact hb p e s m below meth c s₁ (Stand.of_body Bd) Bd.exec Bd.bytes hml0 Bd.returns Bd.notSynchronized (name_of_methodNamed Bd.named Bd.method).1 (findClass_of_methodNamed Bd.named) hZ (by rw [← hh, Bd.state]; rfl)
theorem own_Con_mono {l : Launch} {Z : State} {y : MethodName} {bytes : ByteArray} {maxL : Nat} {ret : Option FieldType} {rm : Room} {as' : Array Value} {h0 : Heap} {Q Q' : Option Value → Heap → List Loc → Prop} (C : own_Con l Z y bytes maxL ret rm as' h0 Q) (hq : ∀ v h L, Q v h L → Q' v h L) : own_Con l Z y bytes maxL ret rm as' h0 Q' := by
  intro ws p e ha hc hk s m args below hf happ hP hK
  obtain ⟨n, o, h1, h2, h3, v, L, h4, h5, h6⟩ := C ws p e ha hc hk s m args below hf happ hP hK
  exact ⟨n, o, h1, h2, h3, v, L, h4, hq _ _ _ h5, h6⟩
theorem own_w {Z : State} {a0 : Array Value} {ts : List Jvm.Cond} {d : Jvm.Cond} (hw : ∀ d ∈ ts, d.before a0 Z = true) (i : Nat) (hi : ts[i]? = some d) : d.before a0 Z = true := hw _ (List.mem_of_getElem? hi)
section OwnWP
variable {p : Program} {l : Launch} {e : Env} {R : Room} {s : State} {m : MethodId} {args : Array Value} {below : List Frame} {meth : Method} {c : Code} {T : State} {locs : List Loc} {cells slots : Nat} {Z : State} {a0 : Array Value} {h : Heap} {Q : Option Value → Heap → List Loc → Prop} {k n : Nat} {a a' : State} {pc pc' : Nat} {ls l' : Array Slot} {rest : List Value}
theorem own_of (hs : ∀ t, Steps p.tables e below a' t → Steps p.tables e below a t) (w : own_WP p e below s Q k n a') : own_WP p e below s Q k n a := by
  obtain ⟨s₂, o, st, r⟩ := w
  exact ⟨s₂, o, hs _ st, r⟩
theorem own_mono {Q' : Option Value → Heap → List Loc → Prop} (hq : ∀ v h L, Q v h L → Q' v h L) (w : own_WP p e below s Q k n a) : own_WP p e below s Q' k n a := by
  obtain ⟨s₂, o, h1, h2, h3, v, L, h4, h5, h6⟩ := w
  exact ⟨s₂, o, h1, h2, h3, v, L, h4, hq _ _ _ h5, h6⟩
theorem own_join {α : Type} (P : α → Prop) (f : α → State) (h1 : (∀ x, P x → own_WP p e below s Q k n (f x)) → own_WP p e below s Q k n a) (h2 : ∀ x, P x → own_WP p e below s Q k n (f x)) : own_WP p e below s Q k n a := h1 h2
theorem own_done (X : Stand p l e R s m args below meth c T locs cells slots) {v : Option Value} (hlk : meth.locks = false) (hv : meth.sig.returnType = none → v = none) (hc : cells ≤ k) (hn : slots ≤ n) (hq : Q v T.heap locs)
    (st : ∀ fs, (∀ (f : JFrame) (acts : List Action), f.method = m → f.locked = none → f.entered = [] → (doReturn e (T.setTop f) acts v).1 = T.setFrames fs) → Steps p.tables e below a (T.setFrames fs)) : own_WP p e below s Q k n a := by
  obtain ⟨fs, hr, hrun, hended, hW, hsame⟩ := X.leave hv hlk
  exact ⟨_, _, st fs hr, hrun, hended, _, _, rfl, hq, ⟨_, rfl⟩, hW, hsame.mono hc hn⟩
theorem own_retI (X : Stand p l e R s m args below meth c T locs cells slots) (hx : p.tables.exec = Jvm.exec) (hlk : meth.locks = false) (hret : meth.sig.returnType = some .int) {z : Int32} (hd : decode c.code pc = .ok (.ireturn, 1)) (hc : cells ≤ k) (hn : slots ≤ n) (hq : Q (some (.int z)) T.heap locs) : own_WP p e below s Q k n (T.setTop (mkF m pc ls (.int z :: rest))) :=
  own_done X hlk (fun q => by rw [hret] at q; cases q) hc hn hq fun fs hr => retOut X hx hret rfl (Or.inl ⟨rfl, Or.inl rfl, z, rfl⟩) hd hr
theorem own_retN (X : Stand p l e R s m args below meth c T locs cells slots) (hx : p.tables.exec = Jvm.exec) (hlk : meth.locks = false) {t : FieldType} (ht : t = .boolean ∨ t = .byte ∨ t = .char ∨ t = .short) (hret : meth.sig.returnType = some t) {z : Int32} (hd : decode c.code pc = .ok (.ireturn, 1)) (hc : cells ≤ k) (hn : slots ≤ n) (hq : Q (some (.int (nar t z))) T.heap locs) : own_WP p e below s Q k n (T.setTop (mkF m pc ls (.int z :: rest))) :=
  own_done X hlk (fun q => by rw [hret] at q; cases q) hc hn hq fun fs hr => retN X hx hret ht hd hr
theorem own_retJ (X : Stand p l e R s m args below meth c T locs cells slots) (hx : p.tables.exec = Jvm.exec) (hlk : meth.locks = false) (hret : meth.sig.returnType = some .long) {z : Int64} (hd : decode c.code pc = .ok (.lreturn, 1)) (hc : cells ≤ k) (hn : slots ≤ n) (hq : Q (some (.long z)) T.heap locs) : own_WP p e below s Q k n (T.setTop (mkF m pc ls (.long z :: rest))) :=
  own_done X hlk (fun q => by rw [hret] at q; cases q) hc hn hq fun fs hr => retOut X hx hret rfl (Or.inr (Or.inl ⟨rfl, rfl, z, rfl⟩)) hd hr
theorem own_retA (X : Stand p l e R s m args below meth c T locs cells slots) (hx : p.tables.exec = Jvm.exec) (hlk : meth.locks = false) {t : FieldType} (ht : t.isReference = true) (hret : meth.sig.returnType = some t) {w : Value} (hw : w.isRef = true) (hnw : narrow t w = w) (hd : decode c.code pc = .ok (.areturn, 1)) (hc : cells ≤ k) (hn : slots ≤ n) (hq : Q (some w) T.heap locs) : own_WP p e below s Q k n (T.setTop (mkF m pc ls (w :: rest))) :=
  own_done X hlk (fun q => by rw [hret] at q; cases q) hc hn hq fun fs hr => retOut X hx hret hnw (Or.inr (Or.inr (Or.inr (Or.inr ⟨rfl, ht, hw⟩)))) hd hr
theorem own_ret0 (X : Stand p l e R s m args below meth c T locs cells slots) (hx : p.tables.exec = Jvm.exec) (hlk : meth.locks = false) (hret : meth.sig.returnType = none) (hd : decode c.code pc = .ok (.return_, 1)) (hc : cells ≤ k) (hn : slots ≤ n) (hq : Q none T.heap locs) : own_WP p e below s Q k n (T.setTop (mkF m pc ls [])) :=
  own_done X hlk (fun _ => rfl) hc hn hq fun fs hr => X.returnOut hx hret hd hr
theorem own_iload (X : Stand p l e R s m args below meth c T locs cells slots) (hx : p.tables.exec = Jvm.exec) {j : Nat} {v : Int32} (hd : decode c.code pc = .ok (.iload j, 2)) (hl : ls[j]? = some (.val (.int v))) (hpc : pc + 2 = pc') (w : own_WP p e below s Q k n (T.setTop (mkF m pc' ls (.int v :: rest)))) : own_WP p e below s Q k n (T.setTop (mkF m pc ls rest)) := by
  subst hpc
  exact own_of (fun t q => XS.iload X.here hx rfl hd hl q) w
theorem own_iloadN (X : Stand p l e R s m args below meth c T locs cells slots) (hx : p.tables.exec = Jvm.exec) {j : Fin 4} {v : Int32} (hd : decode c.code pc = .ok (.iload_n j, 1)) (hl : ls[j.val]? = some (.val (.int v))) (hpc : pc + 1 = pc') (w : own_WP p e below s Q k n (T.setTop (mkF m pc' ls (.int v :: rest)))) : own_WP p e below s Q k n (T.setTop (mkF m pc ls rest)) := by
  subst hpc
  exact own_of (fun t q => XS.iloadN X.here hx rfl hd hl q) w
theorem own_lload (X : Stand p l e R s m args below meth c T locs cells slots) (hx : p.tables.exec = Jvm.exec) {j : Nat} {v : Int64} (hd : decode c.code pc = .ok (.lload j, 2)) (hl : ls[j]? = some (.val (.long v))) (hpc : pc + 2 = pc') (w : own_WP p e below s Q k n (T.setTop (mkF m pc' ls (.long v :: rest)))) : own_WP p e below s Q k n (T.setTop (mkF m pc ls rest)) := by
  subst hpc
  exact own_of (fun t q => XS.lload X.here hx rfl hd hl q) w
theorem own_lloadN (X : Stand p l e R s m args below meth c T locs cells slots) (hx : p.tables.exec = Jvm.exec) {j : Fin 4} {v : Int64} (hd : decode c.code pc = .ok (.lload_n j, 1)) (hl : ls[j.val]? = some (.val (.long v))) (hpc : pc + 1 = pc') (w : own_WP p e below s Q k n (T.setTop (mkF m pc' ls (.long v :: rest)))) : own_WP p e below s Q k n (T.setTop (mkF m pc ls rest)) := by
  subst hpc
  exact own_of (fun t q => XS.lloadN X.here hx rfl hd hl q) w
theorem own_aload (X : Stand p l e R s m args below meth c T locs cells slots) (hx : p.tables.exec = Jvm.exec) {j : Nat} {v : Value} (hd : decode c.code pc = .ok (.aload j, 2)) (hl : ls[j]? = some (.val v)) (hv : v.isRef = true) (hpc : pc + 2 = pc') (w : own_WP p e below s Q k n (T.setTop (mkF m pc' ls (v :: rest)))) : own_WP p e below s Q k n (T.setTop (mkF m pc ls rest)) := by
  subst hpc
  exact own_of (fun t q => XS.aload X.here hx rfl hd hl hv q) w
theorem own_aloadN (X : Stand p l e R s m args below meth c T locs cells slots) (hx : p.tables.exec = Jvm.exec) {j : Fin 4} {v : Value} (hd : decode c.code pc = .ok (.aload_n j, 1)) (hl : ls[j.val]? = some (.val v)) (hv : v.isRef = true) (hpc : pc + 1 = pc') (w : own_WP p e below s Q k n (T.setTop (mkF m pc' ls (v :: rest)))) : own_WP p e below s Q k n (T.setTop (mkF m pc ls rest)) := by
  subst hpc
  exact own_of (fun t q => XS.aloadN X.here hx rfl hd hl hv q) w
theorem own_istore (X : Stand p l e R s m args below meth c T locs cells slots) (hx : p.tables.exec = Jvm.exec) {j : Nat} {v z : Int32} (hd : decode c.code pc = .ok (.istore j, 2)) (hz : z = v) (hl : storeLocals ls j (.int z) = some l') (hpc : pc + 2 = pc') (w : own_WP p e below s Q k n (T.setTop (mkF m pc' l' rest))) : own_WP p e below s Q k n (T.setTop (mkF m pc ls (.int v :: rest))) := by
  subst hpc
  exact own_of (fun t q => XS.istore X.here hx rfl hd rfl (hz ▸ hl) q) w
theorem own_istoreN (X : Stand p l e R s m args below meth c T locs cells slots) (hx : p.tables.exec = Jvm.exec) {j : Fin 4} {v z : Int32} (hd : decode c.code pc = .ok (.istore_n j, 1)) (hz : z = v) (hl : storeLocals ls j.val (.int z) = some l') (hpc : pc + 1 = pc') (w : own_WP p e below s Q k n (T.setTop (mkF m pc' l' rest))) : own_WP p e below s Q k n (T.setTop (mkF m pc ls (.int v :: rest))) := by
  subst hpc
  exact own_of (fun t q => XS.istoreN X.here hx rfl hd rfl (hz ▸ hl) q) w
theorem own_lstore (X : Stand p l e R s m args below meth c T locs cells slots) (hx : p.tables.exec = Jvm.exec) {j : Nat} {v z : Int64} (hd : decode c.code pc = .ok (.lstore j, 2)) (hz : z = v) (hl : storeLocals ls j (.long z) = some l') (hpc : pc + 2 = pc') (w : own_WP p e below s Q k n (T.setTop (mkF m pc' l' rest))) : own_WP p e below s Q k n (T.setTop (mkF m pc ls (.long v :: rest))) := by
  subst hpc
  exact own_of (fun t q => XS.lstore X.here hx rfl hd rfl (hz ▸ hl) q) w
theorem own_lstoreN (X : Stand p l e R s m args below meth c T locs cells slots) (hx : p.tables.exec = Jvm.exec) {j : Fin 4} {v z : Int64} (hd : decode c.code pc = .ok (.lstore_n j, 1)) (hz : z = v) (hl : storeLocals ls j.val (.long z) = some l') (hpc : pc + 1 = pc') (w : own_WP p e below s Q k n (T.setTop (mkF m pc' l' rest))) : own_WP p e below s Q k n (T.setTop (mkF m pc ls (.long v :: rest))) := by
  subst hpc
  exact own_of (fun t q => XS.lstoreN X.here hx rfl hd rfl (hz ▸ hl) q) w
theorem own_astore (X : Stand p l e R s m args below meth c T locs cells slots) (hx : p.tables.exec = Jvm.exec) {j : Nat} {v : Value} (hd : decode c.code pc = .ok (.astore j, 2)) (hv : v.isRef = true) (hl : storeLocals ls j v = some l') (hpc : pc + 2 = pc') (w : own_WP p e below s Q k n (T.setTop (mkF m pc' l' rest))) : own_WP p e below s Q k n (T.setTop (mkF m pc ls (v :: rest))) := by
  subst hpc
  exact own_of (fun t q => XS.astore X.here hx rfl hd rfl hv hl q) w
theorem own_astoreN (X : Stand p l e R s m args below meth c T locs cells slots) (hx : p.tables.exec = Jvm.exec) {j : Fin 4} {v : Value} (hd : decode c.code pc = .ok (.astore_n j, 1)) (hv : v.isRef = true) (hl : storeLocals ls j.val v = some l') (hpc : pc + 1 = pc') (w : own_WP p e below s Q k n (T.setTop (mkF m pc' l' rest))) : own_WP p e below s Q k n (T.setTop (mkF m pc ls (v :: rest))) := by
  subst hpc
  exact own_of (fun t q => XS.astoreN X.here hx rfl hd rfl hv hl q) w
theorem own_iinc (X : Stand p l e R s m args below meth c T locs cells slots) (hx : p.tables.exec = Jvm.exec) {j : Nat} {i : Int} {v z : Int32} (hd : decode c.code pc = .ok (.iinc j i, 3)) (hl0 : ls[j]? = some (.val (.int v))) (hz : z = v + Int32.ofInt i) (hl : storeLocals ls j (.int z) = some l') (hpc : pc + 3 = pc') (w : own_WP p e below s Q k n (T.setTop (mkF m pc' l' rest))) : own_WP p e below s Q k n (T.setTop (mkF m pc ls rest)) := by
  subst hpc
  exact own_of (fun t q => XS.iinc X.here hx rfl hd hl0 (hz ▸ hl) q) w
theorem own_iconst (X : Stand p l e R s m args below meth c T locs cells slots) (hx : p.tables.exec = Jvm.exec) {i : Int} (v : Int32) (hd : decode c.code pc = .ok (.iconst i, 1)) (hv : v = Int32.ofInt i) (hpc : pc + 1 = pc') (w : own_WP p e below s Q k n (T.setTop (mkF m pc' ls (.int v :: rest)))) : own_WP p e below s Q k n (T.setTop (mkF m pc ls rest)) := by
  subst hpc
  exact own_of (fun t q => XS.iconst X.here hx rfl hd (hv ▸ q)) w
theorem own_bipush (X : Stand p l e R s m args below meth c T locs cells slots) (hx : p.tables.exec = Jvm.exec) {i : Int} (v : Int32) (hd : decode c.code pc = .ok (.bipush i, 2)) (hv : v = (Int8.ofInt i).toInt32) (hpc : pc + 2 = pc') (w : own_WP p e below s Q k n (T.setTop (mkF m pc' ls (.int v :: rest)))) : own_WP p e below s Q k n (T.setTop (mkF m pc ls rest)) := by
  subst hpc
  exact own_of (fun t q => XS.bipush X.here hx rfl hd (hv ▸ q)) w
theorem own_sipush (X : Stand p l e R s m args below meth c T locs cells slots) (hx : p.tables.exec = Jvm.exec) {i : Int} (v : Int32) (hd : decode c.code pc = .ok (.sipush i, 3)) (hv : v = (Int16.ofInt i).toInt32) (hpc : pc + 3 = pc') (w : own_WP p e below s Q k n (T.setTop (mkF m pc' ls (.int v :: rest)))) : own_WP p e below s Q k n (T.setTop (mkF m pc ls rest)) := by
  subst hpc
  exact own_of (fun t q => XS.sipush X.here hx rfl hd (hv ▸ q)) w
theorem own_anull (X : Stand p l e R s m args below meth c T locs cells slots) (hx : p.tables.exec = Jvm.exec)  (hd : decode c.code pc = .ok (.aconst_null, 1)) (hpc : pc + 1 = pc') (w : own_WP p e below s Q k n (T.setTop (mkF m pc' ls (.null :: rest)))) : own_WP p e below s Q k n (T.setTop (mkF m pc ls rest)) := by
  subst hpc
  exact own_of (fun t q => XS.aconstNull X.here hx rfl hd q) w
theorem own_lconst0 (X : Stand p l e R s m args below meth c T locs cells slots) (hx : p.tables.exec = Jvm.exec)  (hd : decode c.code pc = .ok (.lconst 0, 1)) (hpc : pc + 1 = pc') (w : own_WP p e below s Q k n (T.setTop (mkF m pc' ls (.long 0 :: rest)))) : own_WP p e below s Q k n (T.setTop (mkF m pc ls rest)) := by
  subst hpc
  exact own_of (fun t q => XS.lconst X.here hx rfl hd q) w
theorem own_lconst1 (X : Stand p l e R s m args below meth c T locs cells slots) (hx : p.tables.exec = Jvm.exec)  (hd : decode c.code pc = .ok (.lconst 1, 1)) (hpc : pc + 1 = pc') (w : own_WP p e below s Q k n (T.setTop (mkF m pc' ls (.long 1 :: rest)))) : own_WP p e below s Q k n (T.setTop (mkF m pc ls rest)) := by
  subst hpc
  exact own_of (fun t q => XS.lconst X.here hx rfl hd q) w
theorem own_ldcInt (X : Stand p l e R s m args below meth c T locs cells slots) (hx : p.tables.exec = Jvm.exec) (hZ : Z.Warmed39 s.vm) {own : String} {idx : Nat} {v : Int32} (hown : s.vm.findClass own = some m.cls) (w1 : (Jvm.Cond.constant own idx v).before a0 Z = true) (hd : decode c.code pc = .ok (.ldc idx, 2)) (hpc : pc + 2 = pc') (w : own_WP p e below s Q k n (T.setTop (mkF m pc' ls (.int v :: rest)))) : own_WP p e below s Q k n (T.setTop (mkF m pc ls rest)) := by
  subst hpc
  exact own_of (fun t q => X.ldcInt hx hown (mvT hZ w1) (g := mkF m pc ls rest) rfl hd _ q) w
theorem own_ldcwInt (X : Stand p l e R s m args below meth c T locs cells slots) (hx : p.tables.exec = Jvm.exec) (hZ : Z.Warmed39 s.vm) {own : String} {idx : Nat} {v : Int32} (hown : s.vm.findClass own = some m.cls) (w1 : (Jvm.Cond.constant own idx v).before a0 Z = true) (hd : decode c.code pc = .ok (.ldc_w idx, 3)) (hpc : pc + 3 = pc') (w : own_WP p e below s Q k n (T.setTop (mkF m pc' ls (.int v :: rest)))) : own_WP p e below s Q k n (T.setTop (mkF m pc ls rest)) := by
  subst hpc
  exact own_of (fun t q => X.ldcwInt hx hown (mvT hZ w1) (g := mkF m pc ls rest) rfl hd _ q) w
theorem own_ldc2Long (X : Stand p l e R s m args below meth c T locs cells slots) (hx : p.tables.exec = Jvm.exec) (hZ : Z.Warmed39 s.vm) {own : String} {idx : Nat} {v : Int64} (hown : s.vm.findClass own = some m.cls) (w1 : (Jvm.Cond.constantLong own idx v).before a0 Z = true) (hd : decode c.code pc = .ok (.ldc2_w idx, 3)) (hpc : pc + 3 = pc') (w : own_WP p e below s Q k n (T.setTop (mkF m pc' ls (.long v :: rest)))) : own_WP p e below s Q k n (T.setTop (mkF m pc ls rest)) := by
  subst hpc
  exact own_of (fun t q => X.ldc2Long hx hown (mvT hZ w1) (g := mkF m pc ls rest) rfl hd _ q) w
theorem own_iadd (X : Stand p l e R s m args below meth c T locs cells slots) (hx : p.tables.exec = Jvm.exec) {x y : Int32} (hd : decode c.code pc = .ok (.iadd, 1)) (hpc : pc + 1 = pc') (w : own_WP p e below s Q k n (T.setTop (mkF m pc' ls (.int (x + y) :: rest)))) : own_WP p e below s Q k n (T.setTop (mkF m pc ls (.int y :: .int x :: rest))) := by
  subst hpc
  exact own_of (fun t q => XS.iadd X.here hx rfl hd rfl q) w
theorem own_ladd (X : Stand p l e R s m args below meth c T locs cells slots) (hx : p.tables.exec = Jvm.exec) {x y : Int64} (hd : decode c.code pc = .ok (.ladd, 1)) (hpc : pc + 1 = pc') (w : own_WP p e below s Q k n (T.setTop (mkF m pc' ls (.long (x + y) :: rest)))) : own_WP p e below s Q k n (T.setTop (mkF m pc ls (.long y :: .long x :: rest))) := by
  subst hpc
  exact own_of (fun t q => XS.ladd X.here hx rfl hd rfl q) w
theorem own_isub (X : Stand p l e R s m args below meth c T locs cells slots) (hx : p.tables.exec = Jvm.exec) {x y : Int32} (hd : decode c.code pc = .ok (.isub, 1)) (hpc : pc + 1 = pc') (w : own_WP p e below s Q k n (T.setTop (mkF m pc' ls (.int (x - y) :: rest)))) : own_WP p e below s Q k n (T.setTop (mkF m pc ls (.int y :: .int x :: rest))) := by
  subst hpc
  exact own_of (fun t q => XS.isub X.here hx rfl hd rfl q) w
theorem own_lsub (X : Stand p l e R s m args below meth c T locs cells slots) (hx : p.tables.exec = Jvm.exec) {x y : Int64} (hd : decode c.code pc = .ok (.lsub, 1)) (hpc : pc + 1 = pc') (w : own_WP p e below s Q k n (T.setTop (mkF m pc' ls (.long (x - y) :: rest)))) : own_WP p e below s Q k n (T.setTop (mkF m pc ls (.long y :: .long x :: rest))) := by
  subst hpc
  exact own_of (fun t q => XS.lsub X.here hx rfl hd rfl q) w
theorem own_imul (X : Stand p l e R s m args below meth c T locs cells slots) (hx : p.tables.exec = Jvm.exec) {x y : Int32} (hd : decode c.code pc = .ok (.imul, 1)) (hpc : pc + 1 = pc') (w : own_WP p e below s Q k n (T.setTop (mkF m pc' ls (.int (x * y) :: rest)))) : own_WP p e below s Q k n (T.setTop (mkF m pc ls (.int y :: .int x :: rest))) := by
  subst hpc
  exact own_of (fun t q => XS.imul X.here hx rfl hd rfl q) w
theorem own_lmul (X : Stand p l e R s m args below meth c T locs cells slots) (hx : p.tables.exec = Jvm.exec) {x y : Int64} (hd : decode c.code pc = .ok (.lmul, 1)) (hpc : pc + 1 = pc') (w : own_WP p e below s Q k n (T.setTop (mkF m pc' ls (.long (x * y) :: rest)))) : own_WP p e below s Q k n (T.setTop (mkF m pc ls (.long y :: .long x :: rest))) := by
  subst hpc
  exact own_of (fun t q => XS.lmul X.here hx rfl hd rfl q) w
theorem own_iand (X : Stand p l e R s m args below meth c T locs cells slots) (hx : p.tables.exec = Jvm.exec) {x y : Int32} (hd : decode c.code pc = .ok (.iand, 1)) (hpc : pc + 1 = pc') (w : own_WP p e below s Q k n (T.setTop (mkF m pc' ls (.int (x &&& y) :: rest)))) : own_WP p e below s Q k n (T.setTop (mkF m pc ls (.int y :: .int x :: rest))) := by
  subst hpc
  exact own_of (fun t q => XS.iand X.here hx rfl hd rfl q) w
theorem own_land (X : Stand p l e R s m args below meth c T locs cells slots) (hx : p.tables.exec = Jvm.exec) {x y : Int64} (hd : decode c.code pc = .ok (.land, 1)) (hpc : pc + 1 = pc') (w : own_WP p e below s Q k n (T.setTop (mkF m pc' ls (.long (x &&& y) :: rest)))) : own_WP p e below s Q k n (T.setTop (mkF m pc ls (.long y :: .long x :: rest))) := by
  subst hpc
  exact own_of (fun t q => XS.land X.here hx rfl hd rfl q) w
theorem own_ior (X : Stand p l e R s m args below meth c T locs cells slots) (hx : p.tables.exec = Jvm.exec) {x y : Int32} (hd : decode c.code pc = .ok (.ior, 1)) (hpc : pc + 1 = pc') (w : own_WP p e below s Q k n (T.setTop (mkF m pc' ls (.int (x ||| y) :: rest)))) : own_WP p e below s Q k n (T.setTop (mkF m pc ls (.int y :: .int x :: rest))) := by
  subst hpc
  exact own_of (fun t q => XS.ior X.here hx rfl hd rfl q) w
theorem own_lor (X : Stand p l e R s m args below meth c T locs cells slots) (hx : p.tables.exec = Jvm.exec) {x y : Int64} (hd : decode c.code pc = .ok (.lor, 1)) (hpc : pc + 1 = pc') (w : own_WP p e below s Q k n (T.setTop (mkF m pc' ls (.long (x ||| y) :: rest)))) : own_WP p e below s Q k n (T.setTop (mkF m pc ls (.long y :: .long x :: rest))) := by
  subst hpc
  exact own_of (fun t q => XS.lor X.here hx rfl hd rfl q) w
theorem own_ixor (X : Stand p l e R s m args below meth c T locs cells slots) (hx : p.tables.exec = Jvm.exec) {x y : Int32} (hd : decode c.code pc = .ok (.ixor, 1)) (hpc : pc + 1 = pc') (w : own_WP p e below s Q k n (T.setTop (mkF m pc' ls (.int (x ^^^ y) :: rest)))) : own_WP p e below s Q k n (T.setTop (mkF m pc ls (.int y :: .int x :: rest))) := by
  subst hpc
  exact own_of (fun t q => XS.ixor X.here hx rfl hd rfl q) w
theorem own_lxor (X : Stand p l e R s m args below meth c T locs cells slots) (hx : p.tables.exec = Jvm.exec) {x y : Int64} (hd : decode c.code pc = .ok (.lxor, 1)) (hpc : pc + 1 = pc') (w : own_WP p e below s Q k n (T.setTop (mkF m pc' ls (.long (x ^^^ y) :: rest)))) : own_WP p e below s Q k n (T.setTop (mkF m pc ls (.long y :: .long x :: rest))) := by
  subst hpc
  exact own_of (fun t q => XS.lxor X.here hx rfl hd rfl q) w
theorem own_ishl (X : Stand p l e R s m args below meth c T locs cells slots) (hx : p.tables.exec = Jvm.exec) {x y : Int32} (hd : decode c.code pc = .ok (.ishl, 1)) (hpc : pc + 1 = pc') (w : own_WP p e below s Q k n (T.setTop (mkF m pc' ls (.int (x <<< (y &&& 31)) :: rest)))) : own_WP p e below s Q k n (T.setTop (mkF m pc ls (.int y :: .int x :: rest))) := by
  subst hpc
  exact own_of (fun t q => XS.ishl X.here hx rfl hd rfl q) w
theorem own_ishr (X : Stand p l e R s m args below meth c T locs cells slots) (hx : p.tables.exec = Jvm.exec) {x y : Int32} (hd : decode c.code pc = .ok (.ishr, 1)) (hpc : pc + 1 = pc') (w : own_WP p e below s Q k n (T.setTop (mkF m pc' ls (.int (x >>> (y &&& 31)) :: rest)))) : own_WP p e below s Q k n (T.setTop (mkF m pc ls (.int y :: .int x :: rest))) := by
  subst hpc
  exact own_of (fun t q => XS.ishr X.here hx rfl hd rfl q) w
theorem own_iushr (X : Stand p l e R s m args below meth c T locs cells slots) (hx : p.tables.exec = Jvm.exec) {x y : Int32} (hd : decode c.code pc = .ok (.iushr, 1)) (hpc : pc + 1 = pc') (w : own_WP p e below s Q k n (T.setTop (mkF m pc' ls (.int ((x.toUInt32 >>> (y &&& 31).toUInt32).toInt32) :: rest)))) : own_WP p e below s Q k n (T.setTop (mkF m pc ls (.int y :: .int x :: rest))) := by
  subst hpc
  exact own_of (fun t q => XS.iushr X.here hx rfl hd rfl q) w
theorem own_lshl (X : Stand p l e R s m args below meth c T locs cells slots) (hx : p.tables.exec = Jvm.exec) {x : Int64} {y : Int32} (hd : decode c.code pc = .ok (.lshl, 1)) (hpc : pc + 1 = pc') (w : own_WP p e below s Q k n (T.setTop (mkF m pc' ls (.long (x <<< (y &&& 0x3f).toInt64) :: rest)))) : own_WP p e below s Q k n (T.setTop (mkF m pc ls (.int y :: .long x :: rest))) := by
  subst hpc
  exact own_of (fun t q => XS.lshl X.here hx rfl hd rfl q) w
theorem own_lshr (X : Stand p l e R s m args below meth c T locs cells slots) (hx : p.tables.exec = Jvm.exec) {x : Int64} {y : Int32} (hd : decode c.code pc = .ok (.lshr, 1)) (hpc : pc + 1 = pc') (w : own_WP p e below s Q k n (T.setTop (mkF m pc' ls (.long (x >>> (y &&& 0x3f).toInt64) :: rest)))) : own_WP p e below s Q k n (T.setTop (mkF m pc ls (.int y :: .long x :: rest))) := by
  subst hpc
  exact own_of (fun t q => XS.lshr X.here hx rfl hd rfl q) w
theorem own_lushr (X : Stand p l e R s m args below meth c T locs cells slots) (hx : p.tables.exec = Jvm.exec) {x : Int64} {y : Int32} (hd : decode c.code pc = .ok (.lushr, 1)) (hpc : pc + 1 = pc') (w : own_WP p e below s Q k n (T.setTop (mkF m pc' ls (.long ((x.toUInt64 >>> (y &&& 0x3f).toInt64.toUInt64).toInt64) :: rest)))) : own_WP p e below s Q k n (T.setTop (mkF m pc ls (.int y :: .long x :: rest))) := by
  subst hpc
  exact own_of (fun t q => XS.lushr X.here hx rfl hd rfl q) w
theorem own_idiv (X : Stand p l e R s m args below meth c T locs cells slots) (hx : p.tables.exec = Jvm.exec) {x y : Int32} (hd : decode c.code pc = .ok (.idiv, 1)) (hy : y ≠ 0) (hpc : pc + 1 = pc') (w : own_WP p e below s Q k n (T.setTop (mkF m pc' ls (.int (x / y) :: rest)))) : own_WP p e below s Q k n (T.setTop (mkF m pc ls (.int y :: .int x :: rest))) := by
  subst hpc
  exact own_of (fun t q => XS.idiv X.here hx rfl hd rfl hy q) w
theorem own_irem (X : Stand p l e R s m args below meth c T locs cells slots) (hx : p.tables.exec = Jvm.exec) {x y : Int32} (hd : decode c.code pc = .ok (.irem, 1)) (hy : y ≠ 0) (hpc : pc + 1 = pc') (w : own_WP p e below s Q k n (T.setTop (mkF m pc' ls (.int (x % y) :: rest)))) : own_WP p e below s Q k n (T.setTop (mkF m pc ls (.int y :: .int x :: rest))) := by
  subst hpc
  exact own_of (fun t q => iremM X hx rfl hd rfl hy q) w
theorem own_ldiv (X : Stand p l e R s m args below meth c T locs cells slots) (hx : p.tables.exec = Jvm.exec) {x y : Int64} (hd : decode c.code pc = .ok (.ldiv, 1)) (hy : y ≠ 0) (hpc : pc + 1 = pc') (w : own_WP p e below s Q k n (T.setTop (mkF m pc' ls (.long (x / y) :: rest)))) : own_WP p e below s Q k n (T.setTop (mkF m pc ls (.long y :: .long x :: rest))) := by
  subst hpc
  exact own_of (fun t q => XS.ldiv X.here hx rfl hd rfl hy q) w
theorem own_lrem (X : Stand p l e R s m args below meth c T locs cells slots) (hx : p.tables.exec = Jvm.exec) {x y : Int64} (hd : decode c.code pc = .ok (.lrem, 1)) (hy : y ≠ 0) (hpc : pc + 1 = pc') (w : own_WP p e below s Q k n (T.setTop (mkF m pc' ls (.long (x % y) :: rest)))) : own_WP p e below s Q k n (T.setTop (mkF m pc ls (.long y :: .long x :: rest))) := by
  subst hpc
  exact own_of (fun t q => XS.lrem X.here hx rfl hd rfl hy ((lrem_mod x y).symm ▸ q)) w
theorem own_ineg (X : Stand p l e R s m args below meth c T locs cells slots) (hx : p.tables.exec = Jvm.exec) {x : Int32} (hd : decode c.code pc = .ok (.ineg, 1)) (hpc : pc + 1 = pc') (w : own_WP p e below s Q k n (T.setTop (mkF m pc' ls (.int (-x) :: rest)))) : own_WP p e below s Q k n (T.setTop (mkF m pc ls (.int x :: rest))) := by
  subst hpc
  exact own_of (fun t q => XS.ineg X.here hx rfl hd rfl q) w
theorem own_lneg (X : Stand p l e R s m args below meth c T locs cells slots) (hx : p.tables.exec = Jvm.exec) {x : Int64} (hd : decode c.code pc = .ok (.lneg, 1)) (hpc : pc + 1 = pc') (w : own_WP p e below s Q k n (T.setTop (mkF m pc' ls (.long (-x) :: rest)))) : own_WP p e below s Q k n (T.setTop (mkF m pc ls (.long x :: rest))) := by
  subst hpc
  exact own_of (fun t q => XS.lneg X.here hx rfl hd rfl q) w
theorem own_i2l (X : Stand p l e R s m args below meth c T locs cells slots) (hx : p.tables.exec = Jvm.exec) {x : Int32} (hd : decode c.code pc = .ok (.i2l, 1)) (hpc : pc + 1 = pc') (w : own_WP p e below s Q k n (T.setTop (mkF m pc' ls (.long (x.toInt64) :: rest)))) : own_WP p e below s Q k n (T.setTop (mkF m pc ls (.int x :: rest))) := by
  subst hpc
  exact own_of (fun t q => XS.i2l X.here hx rfl hd rfl q) w
theorem own_l2i (X : Stand p l e R s m args below meth c T locs cells slots) (hx : p.tables.exec = Jvm.exec) {x : Int64} (hd : decode c.code pc = .ok (.l2i, 1)) (hpc : pc + 1 = pc') (w : own_WP p e below s Q k n (T.setTop (mkF m pc' ls (.int (x.toInt32) :: rest)))) : own_WP p e below s Q k n (T.setTop (mkF m pc ls (.long x :: rest))) := by
  subst hpc
  exact own_of (fun t q => XS.l2i X.here hx rfl hd rfl q) w
theorem own_i2b (X : Stand p l e R s m args below meth c T locs cells slots) (hx : p.tables.exec = Jvm.exec) {x : Int32} (hd : decode c.code pc = .ok (.i2b, 1)) (hpc : pc + 1 = pc') (w : own_WP p e below s Q k n (T.setTop (mkF m pc' ls (.int (x.toInt8.toInt32) :: rest)))) : own_WP p e below s Q k n (T.setTop (mkF m pc ls (.int x :: rest))) := by
  subst hpc
  exact own_of (fun t q => XS.i2b X.here hx rfl hd rfl q) w
theorem own_i2s (X : Stand p l e R s m args below meth c T locs cells slots) (hx : p.tables.exec = Jvm.exec) {x : Int32} (hd : decode c.code pc = .ok (.i2s, 1)) (hpc : pc + 1 = pc') (w : own_WP p e below s Q k n (T.setTop (mkF m pc' ls (.int (x.toInt16.toInt32) :: rest)))) : own_WP p e below s Q k n (T.setTop (mkF m pc ls (.int x :: rest))) := by
  subst hpc
  exact own_of (fun t q => XS.i2s X.here hx rfl hd rfl q) w
theorem own_i2c (X : Stand p l e R s m args below meth c T locs cells slots) (hx : p.tables.exec = Jvm.exec) {x : Int32} (hd : decode c.code pc = .ok (.i2c, 1)) (hpc : pc + 1 = pc') (w : own_WP p e below s Q k n (T.setTop (mkF m pc' ls (.int (x.toUInt32.toUInt16.toUInt32.toInt32) :: rest)))) : own_WP p e below s Q k n (T.setTop (mkF m pc ls (.int x :: rest))) := by
  subst hpc
  exact own_of (fun t q => XS.i2c X.here hx rfl hd rfl q) w
theorem own_lcmp (X : Stand p l e R s m args below meth c T locs cells slots) (hx : p.tables.exec = Jvm.exec) {x y : Int64} (hd : decode c.code pc = .ok (.lcmp, 1)) (hpc : pc + 1 = pc') (w : own_WP p e below s Q k n (T.setTop (mkF m pc' ls (.int (lcmpW x y) :: rest)))) : own_WP p e below s Q k n (T.setTop (mkF m pc ls (.long y :: .long x :: rest))) := by
  subst hpc
  exact own_of (fun t q => XS.lcmp X.here hx rfl hd rfl q) w
theorem own_dup (X : Stand p l e R s m args below meth c T locs cells slots) (hx : p.tables.exec = Jvm.exec) {v : Value} (hd : decode c.code pc = .ok (.dup, 1)) (hv : v.category = 1) (hpc : pc + 1 = pc') (w : own_WP p e below s Q k n (T.setTop (mkF m pc' ls (v :: v :: rest)))) : own_WP p e below s Q k n (T.setTop (mkF m pc ls (v :: rest))) := by
  subst hpc
  exact own_of (fun t q => XS.dup X.here hx rfl hd rfl hv q) w
theorem own_pop (X : Stand p l e R s m args below meth c T locs cells slots) (hx : p.tables.exec = Jvm.exec) {v : Value} (hd : decode c.code pc = .ok (.pop, 1)) (hv : v.category = 1) (hpc : pc + 1 = pc') (w : own_WP p e below s Q k n (T.setTop (mkF m pc' ls rest))) : own_WP p e below s Q k n (T.setTop (mkF m pc ls (v :: rest))) := by
  subst hpc
  exact own_of (fun t q => XS.pop X.here hx rfl hd rfl hv q) w
theorem own_dup2 (X : Stand p l e R s m args below meth c T locs cells slots) (hx : p.tables.exec = Jvm.exec) {v1 v2 : Value} (hd : decode c.code pc = .ok (.dup2, 1)) (h1 : v1.category = 1) (h2 : v2.category = 1) (hpc : pc + 1 = pc') (w : own_WP p e below s Q k n (T.setTop (mkF m pc' ls (v1 :: v2 :: v1 :: v2 :: rest)))) : own_WP p e below s Q k n (T.setTop (mkF m pc ls (v1 :: v2 :: rest))) := by
  subst hpc
  refine own_of (fun t q => ?_) w
  jvm_step X.here [X.here.top, hx, hd, h1, h2]
  exact q
theorem own_goto (X : Stand p l e R s m args below meth c T locs cells slots) (hx : p.tables.exec = Jvm.exec) {o : Int} (hd : decode c.code pc = .ok (.goto o, 3)) (ho : 0 ≤ (pc : Int) + o) (hpc : ((pc : Int) + o).toNat = pc') (w : own_WP p e below s Q k n (T.setTop (mkF m pc' ls rest))) : own_WP p e below s Q k n (T.setTop (mkF m pc ls rest)) :=
  own_of (fun t q => XS.goto X.here hx rfl (pc0 := pc) (pc' := pc') rfl hd ho hpc q) w
theorem own_icmp_lt (X : Stand p l e R s m args below meth c T locs cells slots) (hx : p.tables.exec = Jvm.exec) {x y : Int32} {o : Int} {pf pt : Nat} (hd : decode c.code pc = .ok (.if_icmp .lt o, 3)) (hpf : pc + 3 = pf) (ho : 0 ≤ (pc : Int) + o) (hpt : ((pc : Int) + o).toNat = pt)
    (yes : x < y → own_WP p e below s Q k n (T.setTop (mkF m pt ls rest))) (no : ¬ x < y → own_WP p e below s Q k n (T.setTop (mkF m pf ls rest))) : own_WP p e below s Q k n (T.setTop (mkF m pc ls (.int y :: .int x :: rest))) := by
  subst hpf
  by_cases hq : x < y
  · exact own_of (fun t q => XS.icmpYes X.here hx rfl (pc0 := pc) (pc' := pt) rfl hd rfl ((tlt hq).1) ho hpt q) (yes hq)
  · exact own_of (fun t q => XS.icmpNo X.here hx rfl hd rfl ((flt hq).1) q) (no hq)
theorem own_if_lt (X : Stand p l e R s m args below meth c T locs cells slots) (hx : p.tables.exec = Jvm.exec) {x : Int32} {o : Int} {pf pt : Nat} (hd : decode c.code pc = .ok (.ifCond .lt o, 3)) (hpf : pc + 3 = pf) (ho : 0 ≤ (pc : Int) + o) (hpt : ((pc : Int) + o).toNat = pt)
    (yes : x < 0 → own_WP p e below s Q k n (T.setTop (mkF m pt ls rest))) (no : ¬ x < 0 → own_WP p e below s Q k n (T.setTop (mkF m pf ls rest))) : own_WP p e below s Q k n (T.setTop (mkF m pc ls (.int x :: rest))) := by
  subst hpf
  by_cases hq : x < 0
  · exact own_of (fun t q => XS.ifYes X.here hx rfl (pc0 := pc) (pc' := pt) rfl hd rfl ((if0 _ _).trans (tlt hq).1) ho hpt q) (yes hq)
  · exact own_of (fun t q => XS.ifNo X.here hx rfl hd rfl ((if0 _ _).trans (flt hq).1) q) (no hq)
theorem own_ifl_lt (X : Stand p l e R s m args below meth c T locs cells slots) (hx : p.tables.exec = Jvm.exec) {x y : Int64} {o : Int} {pf pt : Nat} (hd : decode c.code pc = .ok (.ifCond .lt o, 3)) (hpf : pc + 3 = pf) (ho : 0 ≤ (pc : Int) + o) (hpt : ((pc : Int) + o).toNat = pt)
    (yes : x < y → own_WP p e below s Q k n (T.setTop (mkF m pt ls rest))) (no : ¬ x < y → own_WP p e below s Q k n (T.setTop (mkF m pf ls rest))) : own_WP p e below s Q k n (T.setTop (mkF m pc ls (.int (lcmpW x y) :: rest))) := by
  subst hpf
  by_cases hq : x < y
  · exact own_of (fun t q => XS.ifYes X.here hx rfl (pc0 := pc) (pc' := pt) rfl hd rfl ((if0 _ _).trans (tlt ((lw_lt x y).mpr hq)).1) ho hpt q) (yes hq)
  · exact own_of (fun t q => XS.ifNo X.here hx rfl hd rfl ((if0 _ _).trans (flt (fun z => hq ((lw_lt x y).mp z))).1) q) (no hq)
theorem own_icmp_ge (X : Stand p l e R s m args below meth c T locs cells slots) (hx : p.tables.exec = Jvm.exec) {x y : Int32} {o : Int} {pf pt : Nat} (hd : decode c.code pc = .ok (.if_icmp .ge o, 3)) (hpf : pc + 3 = pf) (ho : 0 ≤ (pc : Int) + o) (hpt : ((pc : Int) + o).toNat = pt)
    (yes : ¬ x < y → own_WP p e below s Q k n (T.setTop (mkF m pt ls rest))) (no : x < y → own_WP p e below s Q k n (T.setTop (mkF m pf ls rest))) : own_WP p e below s Q k n (T.setTop (mkF m pc ls (.int y :: .int x :: rest))) := by
  subst hpf
  by_cases hq : ¬ x < y
  · exact own_of (fun t q => XS.icmpYes X.here hx rfl (pc0 := pc) (pc' := pt) rfl hd rfl ((flt hq).2.1) ho hpt q) (yes hq)
  · exact own_of (fun t q => XS.icmpNo X.here hx rfl hd rfl ((tlt (Classical.not_not.mp hq)).2.1) q) (no (Classical.not_not.mp hq))
theorem own_if_ge (X : Stand p l e R s m args below meth c T locs cells slots) (hx : p.tables.exec = Jvm.exec) {x : Int32} {o : Int} {pf pt : Nat} (hd : decode c.code pc = .ok (.ifCond .ge o, 3)) (hpf : pc + 3 = pf) (ho : 0 ≤ (pc : Int) + o) (hpt : ((pc : Int) + o).toNat = pt)
    (yes : ¬ x < 0 → own_WP p e below s Q k n (T.setTop (mkF m pt ls rest))) (no : x < 0 → own_WP p e below s Q k n (T.setTop (mkF m pf ls rest))) : own_WP p e below s Q k n (T.setTop (mkF m pc ls (.int x :: rest))) := by
  subst hpf
  by_cases hq : ¬ x < 0
  · exact own_of (fun t q => XS.ifYes X.here hx rfl (pc0 := pc) (pc' := pt) rfl hd rfl ((if0 _ _).trans (flt hq).2.1) ho hpt q) (yes hq)
  · exact own_of (fun t q => XS.ifNo X.here hx rfl hd rfl ((if0 _ _).trans (tlt (Classical.not_not.mp hq)).2.1) q) (no (Classical.not_not.mp hq))
theorem own_ifl_ge (X : Stand p l e R s m args below meth c T locs cells slots) (hx : p.tables.exec = Jvm.exec) {x y : Int64} {o : Int} {pf pt : Nat} (hd : decode c.code pc = .ok (.ifCond .ge o, 3)) (hpf : pc + 3 = pf) (ho : 0 ≤ (pc : Int) + o) (hpt : ((pc : Int) + o).toNat = pt)
    (yes : ¬ x < y → own_WP p e below s Q k n (T.setTop (mkF m pt ls rest))) (no : x < y → own_WP p e below s Q k n (T.setTop (mkF m pf ls rest))) : own_WP p e below s Q k n (T.setTop (mkF m pc ls (.int (lcmpW x y) :: rest))) := by
  subst hpf
  by_cases hq : ¬ x < y
  · exact own_of (fun t q => XS.ifYes X.here hx rfl (pc0 := pc) (pc' := pt) rfl hd rfl ((if0 _ _).trans (flt (fun z => hq ((lw_lt x y).mp z))).2.1) ho hpt q) (yes hq)
  · exact own_of (fun t q => XS.ifNo X.here hx rfl hd rfl ((if0 _ _).trans (tlt ((lw_lt x y).mpr (Classical.not_not.mp hq))).2.1) q) (no (Classical.not_not.mp hq))
theorem own_icmp_gt (X : Stand p l e R s m args below meth c T locs cells slots) (hx : p.tables.exec = Jvm.exec) {x y : Int32} {o : Int} {pf pt : Nat} (hd : decode c.code pc = .ok (.if_icmp .gt o, 3)) (hpf : pc + 3 = pf) (ho : 0 ≤ (pc : Int) + o) (hpt : ((pc : Int) + o).toNat = pt)
    (yes : y < x → own_WP p e below s Q k n (T.setTop (mkF m pt ls rest))) (no : ¬ y < x → own_WP p e below s Q k n (T.setTop (mkF m pf ls rest))) : own_WP p e below s Q k n (T.setTop (mkF m pc ls (.int y :: .int x :: rest))) := by
  subst hpf
  by_cases hq : y < x
  · exact own_of (fun t q => XS.icmpYes X.here hx rfl (pc0 := pc) (pc' := pt) rfl hd rfl ((tlt hq).2.2.1) ho hpt q) (yes hq)
  · exact own_of (fun t q => XS.icmpNo X.here hx rfl hd rfl ((flt hq).2.2.1) q) (no hq)
theorem own_if_gt (X : Stand p l e R s m args below meth c T locs cells slots) (hx : p.tables.exec = Jvm.exec) {x : Int32} {o : Int} {pf pt : Nat} (hd : decode c.code pc = .ok (.ifCond .gt o, 3)) (hpf : pc + 3 = pf) (ho : 0 ≤ (pc : Int) + o) (hpt : ((pc : Int) + o).toNat = pt)
    (yes : 0 < x → own_WP p e below s Q k n (T.setTop (mkF m pt ls rest))) (no : ¬ 0 < x → own_WP p e below s Q k n (T.setTop (mkF m pf ls rest))) : own_WP p e below s Q k n (T.setTop (mkF m pc ls (.int x :: rest))) := by
  subst hpf
  by_cases hq : 0 < x
  · exact own_of (fun t q => XS.ifYes X.here hx rfl (pc0 := pc) (pc' := pt) rfl hd rfl ((if0 _ _).trans (tlt hq).2.2.1) ho hpt q) (yes hq)
  · exact own_of (fun t q => XS.ifNo X.here hx rfl hd rfl ((if0 _ _).trans (flt hq).2.2.1) q) (no hq)
theorem own_ifl_gt (X : Stand p l e R s m args below meth c T locs cells slots) (hx : p.tables.exec = Jvm.exec) {x y : Int64} {o : Int} {pf pt : Nat} (hd : decode c.code pc = .ok (.ifCond .gt o, 3)) (hpf : pc + 3 = pf) (ho : 0 ≤ (pc : Int) + o) (hpt : ((pc : Int) + o).toNat = pt)
    (yes : y < x → own_WP p e below s Q k n (T.setTop (mkF m pt ls rest))) (no : ¬ y < x → own_WP p e below s Q k n (T.setTop (mkF m pf ls rest))) : own_WP p e below s Q k n (T.setTop (mkF m pc ls (.int (lcmpW x y) :: rest))) := by
  subst hpf
  by_cases hq : y < x
  · exact own_of (fun t q => XS.ifYes X.here hx rfl (pc0 := pc) (pc' := pt) rfl hd rfl ((if0 _ _).trans (tlt ((lw_gt x y).mpr hq)).2.2.1) ho hpt q) (yes hq)
  · exact own_of (fun t q => XS.ifNo X.here hx rfl hd rfl ((if0 _ _).trans (flt (fun z => hq ((lw_gt x y).mp z))).2.2.1) q) (no hq)
theorem own_icmp_le (X : Stand p l e R s m args below meth c T locs cells slots) (hx : p.tables.exec = Jvm.exec) {x y : Int32} {o : Int} {pf pt : Nat} (hd : decode c.code pc = .ok (.if_icmp .le o, 3)) (hpf : pc + 3 = pf) (ho : 0 ≤ (pc : Int) + o) (hpt : ((pc : Int) + o).toNat = pt)
    (yes : ¬ y < x → own_WP p e below s Q k n (T.setTop (mkF m pt ls rest))) (no : y < x → own_WP p e below s Q k n (T.setTop (mkF m pf ls rest))) : own_WP p e below s Q k n (T.setTop (mkF m pc ls (.int y :: .int x :: rest))) := by
  subst hpf
  by_cases hq : ¬ y < x
  · exact own_of (fun t q => XS.icmpYes X.here hx rfl (pc0 := pc) (pc' := pt) rfl hd rfl ((flt hq).2.2.2) ho hpt q) (yes hq)
  · exact own_of (fun t q => XS.icmpNo X.here hx rfl hd rfl ((tlt (Classical.not_not.mp hq)).2.2.2) q) (no (Classical.not_not.mp hq))
theorem own_if_le (X : Stand p l e R s m args below meth c T locs cells slots) (hx : p.tables.exec = Jvm.exec) {x : Int32} {o : Int} {pf pt : Nat} (hd : decode c.code pc = .ok (.ifCond .le o, 3)) (hpf : pc + 3 = pf) (ho : 0 ≤ (pc : Int) + o) (hpt : ((pc : Int) + o).toNat = pt)
    (yes : ¬ 0 < x → own_WP p e below s Q k n (T.setTop (mkF m pt ls rest))) (no : 0 < x → own_WP p e below s Q k n (T.setTop (mkF m pf ls rest))) : own_WP p e below s Q k n (T.setTop (mkF m pc ls (.int x :: rest))) := by
  subst hpf
  by_cases hq : ¬ 0 < x
  · exact own_of (fun t q => XS.ifYes X.here hx rfl (pc0 := pc) (pc' := pt) rfl hd rfl ((if0 _ _).trans (flt hq).2.2.2) ho hpt q) (yes hq)
  · exact own_of (fun t q => XS.ifNo X.here hx rfl hd rfl ((if0 _ _).trans (tlt (Classical.not_not.mp hq)).2.2.2) q) (no (Classical.not_not.mp hq))
theorem own_ifl_le (X : Stand p l e R s m args below meth c T locs cells slots) (hx : p.tables.exec = Jvm.exec) {x y : Int64} {o : Int} {pf pt : Nat} (hd : decode c.code pc = .ok (.ifCond .le o, 3)) (hpf : pc + 3 = pf) (ho : 0 ≤ (pc : Int) + o) (hpt : ((pc : Int) + o).toNat = pt)
    (yes : ¬ y < x → own_WP p e below s Q k n (T.setTop (mkF m pt ls rest))) (no : y < x → own_WP p e below s Q k n (T.setTop (mkF m pf ls rest))) : own_WP p e below s Q k n (T.setTop (mkF m pc ls (.int (lcmpW x y) :: rest))) := by
  subst hpf
  by_cases hq : ¬ y < x
  · exact own_of (fun t q => XS.ifYes X.here hx rfl (pc0 := pc) (pc' := pt) rfl hd rfl ((if0 _ _).trans (flt (fun z => hq ((lw_gt x y).mp z))).2.2.2) ho hpt q) (yes hq)
  · exact own_of (fun t q => XS.ifNo X.here hx rfl hd rfl ((if0 _ _).trans (tlt ((lw_gt x y).mpr (Classical.not_not.mp hq))).2.2.2) q) (no (Classical.not_not.mp hq))
theorem own_icmp_eq (X : Stand p l e R s m args below meth c T locs cells slots) (hx : p.tables.exec = Jvm.exec) {x y : Int32} {o : Int} {pf pt : Nat} (hd : decode c.code pc = .ok (.if_icmp .eq o, 3)) (hpf : pc + 3 = pf) (ho : 0 ≤ (pc : Int) + o) (hpt : ((pc : Int) + o).toNat = pt)
    (yes : x = y → own_WP p e below s Q k n (T.setTop (mkF m pt ls rest))) (no : ¬ x = y → own_WP p e below s Q k n (T.setTop (mkF m pf ls rest))) : own_WP p e below s Q k n (T.setTop (mkF m pc ls (.int y :: .int x :: rest))) := by
  subst hpf
  by_cases hq : x = y
  · exact own_of (fun t q => XS.icmpYes X.here hx rfl (pc0 := pc) (pc' := pt) rfl hd rfl ((teq hq).1) ho hpt q) (yes hq)
  · exact own_of (fun t q => XS.icmpNo X.here hx rfl hd rfl ((feq hq).1) q) (no hq)
theorem own_if_eq (X : Stand p l e R s m args below meth c T locs cells slots) (hx : p.tables.exec = Jvm.exec) {x : Int32} {o : Int} {pf pt : Nat} (hd : decode c.code pc = .ok (.ifCond .eq o, 3)) (hpf : pc + 3 = pf) (ho : 0 ≤ (pc : Int) + o) (hpt : ((pc : Int) + o).toNat = pt)
    (yes : x = 0 → own_WP p e below s Q k n (T.setTop (mkF m pt ls rest))) (no : ¬ x = 0 → own_WP p e below s Q k n (T.setTop (mkF m pf ls rest))) : own_WP p e below s Q k n (T.setTop (mkF m pc ls (.int x :: rest))) := by
  subst hpf
  by_cases hq : x = 0
  · exact own_of (fun t q => XS.ifYes X.here hx rfl (pc0 := pc) (pc' := pt) rfl hd rfl ((if0 _ _).trans (teq hq).1) ho hpt q) (yes hq)
  · exact own_of (fun t q => XS.ifNo X.here hx rfl hd rfl ((if0 _ _).trans (feq hq).1) q) (no hq)
theorem own_ifl_eq (X : Stand p l e R s m args below meth c T locs cells slots) (hx : p.tables.exec = Jvm.exec) {x y : Int64} {o : Int} {pf pt : Nat} (hd : decode c.code pc = .ok (.ifCond .eq o, 3)) (hpf : pc + 3 = pf) (ho : 0 ≤ (pc : Int) + o) (hpt : ((pc : Int) + o).toNat = pt)
    (yes : x = y → own_WP p e below s Q k n (T.setTop (mkF m pt ls rest))) (no : ¬ x = y → own_WP p e below s Q k n (T.setTop (mkF m pf ls rest))) : own_WP p e below s Q k n (T.setTop (mkF m pc ls (.int (lcmpW x y) :: rest))) := by
  subst hpf
  by_cases hq : x = y
  · exact own_of (fun t q => XS.ifYes X.here hx rfl (pc0 := pc) (pc' := pt) rfl hd rfl ((if0 _ _).trans (teq ((lw_eq x y).mpr hq)).1) ho hpt q) (yes hq)
  · exact own_of (fun t q => XS.ifNo X.here hx rfl hd rfl ((if0 _ _).trans (feq (fun z => hq ((lw_eq x y).mp z))).1) q) (no hq)
theorem own_icmp_ne (X : Stand p l e R s m args below meth c T locs cells slots) (hx : p.tables.exec = Jvm.exec) {x y : Int32} {o : Int} {pf pt : Nat} (hd : decode c.code pc = .ok (.if_icmp .ne o, 3)) (hpf : pc + 3 = pf) (ho : 0 ≤ (pc : Int) + o) (hpt : ((pc : Int) + o).toNat = pt)
    (yes : ¬ x = y → own_WP p e below s Q k n (T.setTop (mkF m pt ls rest))) (no : x = y → own_WP p e below s Q k n (T.setTop (mkF m pf ls rest))) : own_WP p e below s Q k n (T.setTop (mkF m pc ls (.int y :: .int x :: rest))) := by
  subst hpf
  by_cases hq : ¬ x = y
  · exact own_of (fun t q => XS.icmpYes X.here hx rfl (pc0 := pc) (pc' := pt) rfl hd rfl ((feq hq).2) ho hpt q) (yes hq)
  · exact own_of (fun t q => XS.icmpNo X.here hx rfl hd rfl ((teq (Classical.not_not.mp hq)).2) q) (no (Classical.not_not.mp hq))
theorem own_if_ne (X : Stand p l e R s m args below meth c T locs cells slots) (hx : p.tables.exec = Jvm.exec) {x : Int32} {o : Int} {pf pt : Nat} (hd : decode c.code pc = .ok (.ifCond .ne o, 3)) (hpf : pc + 3 = pf) (ho : 0 ≤ (pc : Int) + o) (hpt : ((pc : Int) + o).toNat = pt)
    (yes : ¬ x = 0 → own_WP p e below s Q k n (T.setTop (mkF m pt ls rest))) (no : x = 0 → own_WP p e below s Q k n (T.setTop (mkF m pf ls rest))) : own_WP p e below s Q k n (T.setTop (mkF m pc ls (.int x :: rest))) := by
  subst hpf
  by_cases hq : ¬ x = 0
  · exact own_of (fun t q => XS.ifYes X.here hx rfl (pc0 := pc) (pc' := pt) rfl hd rfl ((if0 _ _).trans (feq hq).2) ho hpt q) (yes hq)
  · exact own_of (fun t q => XS.ifNo X.here hx rfl hd rfl ((if0 _ _).trans (teq (Classical.not_not.mp hq)).2) q) (no (Classical.not_not.mp hq))
theorem own_ifl_ne (X : Stand p l e R s m args below meth c T locs cells slots) (hx : p.tables.exec = Jvm.exec) {x y : Int64} {o : Int} {pf pt : Nat} (hd : decode c.code pc = .ok (.ifCond .ne o, 3)) (hpf : pc + 3 = pf) (ho : 0 ≤ (pc : Int) + o) (hpt : ((pc : Int) + o).toNat = pt)
    (yes : ¬ x = y → own_WP p e below s Q k n (T.setTop (mkF m pt ls rest))) (no : x = y → own_WP p e below s Q k n (T.setTop (mkF m pf ls rest))) : own_WP p e below s Q k n (T.setTop (mkF m pc ls (.int (lcmpW x y) :: rest))) := by
  subst hpf
  by_cases hq : ¬ x = y
  · exact own_of (fun t q => XS.ifYes X.here hx rfl (pc0 := pc) (pc' := pt) rfl hd rfl ((if0 _ _).trans (feq (fun z => hq ((lw_eq x y).mp z))).2) ho hpt q) (yes hq)
  · exact own_of (fun t q => XS.ifNo X.here hx rfl hd rfl ((if0 _ _).trans (teq ((lw_eq x y).mpr (Classical.not_not.mp hq))).2) q) (no (Classical.not_not.mp hq))
theorem own_getF (X : Stand p l e R s m args below meth c T locs cells slots) (hx : p.tables.exec = Jvm.exec) (hZ : Z.Warmed39 s.vm) {own R0 O nm d host : String} {idx : Nat} (hown : s.vm.findClass own = some m.cls) (w1 : (Jvm.Cond.fieldLink own idx R0 nm d).before a0 Z = true ∨ (Jvm.Cond.fieldLinkNest own idx R0 nm d host).before a0 Z = true) (via : Via Z R0 O nm d) (eT : T.heap = h) {b : Addr} {v : Value} (F : Fld Z h b O nm d v) (hd : decode c.code pc = .ok (.getfield idx, 3)) (hpc : pc + 3 = pc')
    (w : ∀ T', Stand p l e R s m args below meth c T' locs cells slots → T'.heap = h → own_WP p e below s Q k n (T'.setTop (mkF m pc' ls (v :: rest)))) : own_WP p e below s Q k n (T.setTop (mkF m pc ls (.ref b :: rest))) := by
  subst hpc
  obtain ⟨T', X', e', st⟩ := getF X hx hZ hown w1 via eT F (g := mkF m pc ls (.ref b :: rest)) rfl rfl hd
  exact own_of st (w T' X' e')
theorem own_putF (X : Stand p l e R s m args below meth c T locs cells slots) (hx : p.tables.exec = Jvm.exec) (hZ : Z.Warmed39 s.vm) {own R0 O nm d host C : String} {idx kk : Nat} {ty : FieldType} (hown : s.vm.findClass own = some m.cls) (w1 : (Jvm.Cond.fieldLink own idx R0 nm d).before a0 Z = true ∨ (Jvm.Cond.fieldLinkNest own idx R0 nm d host).before a0 Z = true) (via : Via Z R0 O nm d) (eT : T.heap = h) {b : Addr} {v old : Value} (F : Fld Z h b O nm d old) (E : Exa Z h b C) (L : (Jvm.Cond.lays C O nm d).before a0 Z = true ∨ ((Jvm.Cond.laysFinal C O nm d).before a0 Z = true ∧ own = O ∧ meth.name = "<init>")) (wi : (Jvm.Cond.instantiable C kk).before a0 Z = true) (hty : parseFieldDescriptor d = some ty) (hn : narrow ty v = v) (hf : fits ty v = true) (hd : decode c.code pc = .ok (.putfield idx, 3)) (hpc : pc + 3 = pc')
    (w : ∀ T' h', Stand p l e R s m args below meth c T' (locs ++ [⟨b, Jvm.RoadKit.slotOf Z O nm d⟩]) cells slots → T'.heap = h' → Wr h h' b (Jvm.RoadKit.slotOf Z O nm d) v → own_WP p e below s Q k n (T'.setTop (mkF m pc' ls rest))) : own_WP p e below s Q k n (T.setTop (mkF m pc ls (v :: .ref b :: rest))) := by
  subst hpc
  obtain ⟨T', h', X', e', W', st⟩ := putF X hx hZ hown w1 via eT F E L wi hty hn hf (g := mkF m pc ls (v :: .ref b :: rest)) rfl rfl hd
  exact own_of st (w T' h' X' e' W')
theorem own_new (X : Stand p l e R s m args below meth c T locs cells slots) (hx : p.tables.exec = Jvm.exec) (hZ : Z.Warmed39 s.vm) {own C : String} {idx nn : Nat} (hown : s.vm.findClass own = some m.cls) (w1 : (Jvm.Cond.classLink own idx C).before a0 Z = true) (wi : (Jvm.Cond.instantiable C nn).before a0 Z = true) (wz : (Jvm.Cond.initialized C).before a0 Z = true) (eT : T.heap = h) (hd : decode c.code pc = .ok (.new idx, 3)) (hc : cells + 1 ≤ R.cells) (hl : slots + nn ≤ R.slots) (hpc : pc + 3 = pc')
    (w : ∀ T' h' b, b = h.size → Stand p l e R s m args below meth c T' locs (cells + 1) (slots + nn) → T'.heap = h' → Ext h h' → Exa Z h' b C → (∀ {O nm d : String} {ty : FieldType}, Laid Z a0 C O nm d → parseFieldDescriptor d = some ty → Fld Z h' b O nm d (defaultValue ty)) → own_WP p e below s Q k n (T'.setTop (mkF m pc' ls (.ref b :: rest)))) : own_WP p e below s Q k n (T.setTop (mkF m pc ls rest)) := by
  subst hpc
  obtain ⟨T', h', X', e', E', A', D', -, st⟩ := newO X hx hZ hown w1 wi wz eT (g := mkF m pc ls rest) rfl hd hc hl
  exact own_of st (w T' h' _ rfl X' e' E' A' D')
theorem own_newP (X : Stand p l e R s m args below meth c T locs cells slots) (hx : p.tables.exec = Jvm.exec) (hZ : Z.Warmed39 s.vm) {aty : ArrayType} (w1 : (Jvm.Cond.arrayClass (newarray.typeOf aty)).before a0 Z = true) (eT : T.heap = h) (hd : decode c.code pc = .ok (.newarray aty, 2)) {z : Int32} (hz : ¬ z < 0) {cap : Nat} (hcap : z.toNatClampNeg ≤ cap) (hb : cap * 8 ≤ 536870912) (hc : cells + 1 ≤ R.cells) (hl : slots + cap ≤ R.slots) (hpc : pc + 2 = pc')
    (w : ∀ T' h' cA b, b = h.size → Stand p l e R s m args below meth c T' locs (cells + 1) (slots + cap) → T'.heap = h' → Ext h h' → Arr Z h' b (newA cA (newarray.typeOf aty) z) (newarray.typeOf aty) → own_WP p e below s Q k n (T'.setTop (mkF m pc' ls (.ref b :: rest)))) : own_WP p e below s Q k n (T.setTop (mkF m pc ls (.int z :: rest))) := by
  subst hpc
  obtain ⟨T', h', cA, X', e', E', A', st⟩ := newP X hx hZ w1 eT (g := mkF m pc ls (.int z :: rest)) rfl hd rfl hz hcap hb hc hl
  exact own_of st (w T' h' cA _ rfl X' e' E' A')
theorem own_initO (X : Stand p l e R s m args below meth c T locs cells slots) (hx : p.tables.exec = Jvm.exec) (hZ : Z.Warmed39 s.vm) {own : String} {idx : Nat} (hown : s.vm.findClass own = some m.cls) (w1 : (Jvm.Cond.methodLink own idx Lib.objectInit).before a0 Z = true) (w2 : (Jvm.Cond.instanceMethod Lib.objectInit).before a0 Z = true) (w3 : (Jvm.Cond.code Lib.objectInit ⟨#[0xb1]⟩ 1 none).before a0 Z = true) (eT : T.heap = h) (hsz : ls.size = c.maxLocals) {b : Addr} (hd : decode c.code pc = .ok (.invokespecial idx, 3)) (hf : 1 ≤ R.frames) {W : Nat} (hW : (rest.map fun v => v.category).sum ≤ W) (hl : W + 12 ≤ R.locals) (hpc : pc + 3 = pc')
    (w : ∀ T', Stand p l e R s m args below meth c T' locs cells slots → T'.heap = h → own_WP p e below s Q k n (T'.setTop (mkF m pc' ls rest))) : own_WP p e below s Q k n (T.setTop (mkF m pc ls (.ref b :: rest))) := by
  subst hpc
  obtain ⟨T', X', e', st⟩ := initO X hx hZ hown w1 w2 w3 eT (g := mkF m pc ls (.ref b :: rest)) rfl hsz rfl hd hf (W := W) (by show 2 * 0 + _ ≤ _; omega) hl
  exact own_of st (w T' X' e')
theorem own_callS (X : Stand p l e R s m args below meth c T locs cells slots) (hx : p.tables.exec = Jvm.exec) (hZ : Z.Warmed39 s.vm) {own : String} {idx : Nat} {y : MethodName} {bytes : ByteArray} {maxL : Nat} {ret : Option FieldType} {rm : Room} {as' : Array Value} {Q' : Option Value → Heap → List Loc → Prop} (hown : s.vm.findClass own = some m.cls) (w1 : (Jvm.Cond.methodLink own idx y).before a0 Z = true) (w2 : (Jvm.Cond.static y).before a0 Z = true) (w3 : (Jvm.Cond.initialized y.cls).before a0 Z = true) (w4 : (Jvm.Cond.code y bytes maxL ret).before a0 Z = true) (hy : y.cls ≠ "java/lang/invoke/MethodHandle" ∧ y.cls ≠ "java/lang/invoke/VarHandle")
    (C : own_Con l Z y bytes maxL ret rm as' h Q') (eT : T.heap = h) {ps : List FieldType} {rt : Option FieldType} (hpd : parseMethodDescriptor y.desc = some ⟨ps, rt⟩) (argsL rest : List Value) (ha : argsL.toArray = as') (hal : argsL.length = ps.length) {st : List Value} (hst : st = argsL.reverse ++ rest) {W : Nat} (hW : (rest.map fun v => v.category).sum ≤ W) (hf : rm.frames + 1 ≤ R.frames) (hl : W + (maxL + 11) + rm.locals ≤ R.locals) (hsz : ls.size = c.maxLocals) (hd : decode c.code pc = .ok (.invokestatic idx, 3)) (hc : cells + rm.cells ≤ R.cells) (hs : slots + rm.slots ≤ R.slots) (hpc : pc + 3 = pc')
    (w : ∀ v T' L, Stand p l e R s m args below meth c T' (locs ++ L) (cells + rm.cells) (slots + rm.slots) → Q' v T'.heap L → own_WP p e below s Q k n (T'.setTop (mkF m pc' ls (v.toList ++ rest)))) : own_WP p e below s Q k n (T.setTop (mkF m pc ls st)) := by
  subst hpc hst ha
  obtain ⟨v, vm1, ⟨T', L', k', n'⟩, -, X', ⟨Lc, hQ, l1, y1, z1⟩, stp⟩ := Jvm.LawKit.callS X hx (y := y) hown (mvT hZ w1) (mvT hZ w2) (mvT hZ w3) (mvT hZ w4) hy (backOf (W := W) (C []) hZ w4 w3 hf hl) (g := mkF m pc ls (argsL.reverse ++ rest)) rfl hsz (argsL := argsL) (rest := rest) (lenOf hpd hal) rfl (by show 2 * 0 + _ ≤ _; omega) hd (fun _ _ => ⟨rfl, eT, hc, hs⟩)
  dsimp only [Pt.U, Pt.locs, Pt.cells, Pt.slots] at X' l1 y1 z1 stp hQ
  subst l1 y1 z1
  exact own_of stp (w _ _ _ X' hQ)
theorem own_callN (X : Stand p l e R s m args below meth c T locs cells slots) (hx : p.tables.exec = Jvm.exec) (hZ : Z.Warmed39 s.vm) {own : String} {idx : Nat} {y : MethodName} {bytes : ByteArray} {maxL : Nat} {rm : Room} {as' : Array Value} {Q' : Option Value → Heap → List Loc → Prop} (hy1 : y.name = "<init>") (hown : s.vm.findClass own = some m.cls) (w1 : (Jvm.Cond.methodLink own idx y).before a0 Z = true) (w2 : (Jvm.Cond.instanceMethod y).before a0 Z = true) (w3 : (Jvm.Cond.initialized y.cls).before a0 Z = true) (w4 : (Jvm.Cond.code y bytes maxL none).before a0 Z = true) (hy : y.cls ≠ "java/lang/invoke/MethodHandle" ∧ y.cls ≠ "java/lang/invoke/VarHandle")
    (C : own_Con l Z y bytes maxL none rm as' h Q') (eT : T.heap = h) {ps : List FieldType} {rt : Option FieldType} (hpd : parseMethodDescriptor y.desc = some ⟨ps, rt⟩) (b : Addr) (argsL rest : List Value) (ha : (.ref b :: argsL).toArray = as') (hal : argsL.length = ps.length) {st : List Value} (hst : st = argsL.reverse ++ .ref b :: rest) {W : Nat} (hW : (rest.map fun v => v.category).sum ≤ W) (hf : rm.frames + 1 ≤ R.frames) (hl : W + (maxL + 11) + rm.locals ≤ R.locals) (hsz : ls.size = c.maxLocals) (hd : decode c.code pc = .ok (.invokespecial idx, 3)) (hc : cells + rm.cells ≤ R.cells) (hs : slots + rm.slots ≤ R.slots) (hpc : pc + 3 = pc')
    (w : ∀ v T' L, Stand p l e R s m args below meth c T' (locs ++ L) (cells + rm.cells) (slots + rm.slots) → Q' v T'.heap L → own_WP p e below s Q k n (T'.setTop (mkF m pc' ls (v.toList ++ rest)))) : own_WP p e below s Q k n (T.setTop (mkF m pc ls st)) := by
  subst hpc hst ha
  obtain ⟨v, vm1, ⟨T', L', k', n'⟩, -, X', ⟨Lc, hQ, l1, y1, z1⟩, stp⟩ := X.specialBack hx (y := y) hy1 hown (mvT hZ w1) (mvT hZ w2) (mvT hZ w4) hy (backOf (W := W) (C []) hZ w4 w3 hf hl) (g := mkF m pc ls (argsL.reverse ++ .ref b :: rest)) rfl hsz (Steps.refl _) (a := b) (argsL := argsL) (rest := rest) (lenOf hpd hal) rfl (by show 2 * 0 + _ ≤ _; omega) hd (fun _ _ => ⟨rfl, eT, hc, hs⟩)
  dsimp only [Pt.U, Pt.locs, Pt.cells, Pt.slots] at X' l1 y1 z1 stp hQ
  subst l1 y1 z1
  exact own_of (fun t q => stp.trans q) (w _ _ _ X' hQ)
theorem own_callV (X : Stand p l e R s m args below meth c T locs cells slots) (hx : p.tables.exec = Jvm.exec) (hZ : Z.Warmed39 s.vm) {own D : String} {idx : Nat} {y z : MethodName} {bytes : ByteArray} {maxL : Nat} {ret : Option FieldType} {rm : Room} {as' : Array Value} {Q' : Option Value → Heap → List Loc → Prop} (hown : s.vm.findClass own = some m.cls) (w1 : (Jvm.Cond.methodLink own idx y).before a0 Z = true) (wd : (Jvm.Cond.declares y).before a0 Z = true) (hnf : NotFace s y) (ws : (Jvm.Cond.selects D y z).before a0 Z = true) (w2 : (Jvm.Cond.instanceMethod z).before a0 Z = true) (w3 : (Jvm.Cond.initialized z.cls).before a0 Z = true) (w4 : (Jvm.Cond.code z bytes maxL ret).before a0 Z = true) (hy : y.cls ≠ "java/lang/invoke/MethodHandle" ∧ y.cls ≠ "java/lang/invoke/VarHandle") {b : Addr} (E : Exa Z h b D)
    (C : own_Con l Z z bytes maxL ret rm as' h Q') (eT : T.heap = h) {ps : List FieldType} {rt : Option FieldType} (hpd : parseMethodDescriptor y.desc = some ⟨ps, rt⟩) (argsL rest : List Value) (ha : (.ref b :: argsL).toArray = as') (hal : argsL.length = ps.length) {st : List Value} (hst : st = argsL.reverse ++ .ref b :: rest) {W : Nat} (hW : (rest.map fun v => v.category).sum ≤ W) (hf : rm.frames + 1 ≤ R.frames) (hl : W + (maxL + 11) + rm.locals ≤ R.locals) (hsz : ls.size = c.maxLocals) (hd : decode c.code pc = .ok (.invokevirtual idx, 3)) (hc : cells + rm.cells ≤ R.cells) (hs : slots + rm.slots ≤ R.slots) (hpc : pc + 3 = pc')
    (w : ∀ v T' L, Stand p l e R s m args below meth c T' (locs ++ L) (cells + rm.cells) (slots + rm.slots) → Q' v T'.heap L → own_WP p e below s Q k n (T'.setTop (mkF m pc' ls (v.toList ++ rest)))) : own_WP p e below s Q k n (T.setTop (mkF m pc ls st)) := by
  subst hpc hst ha
  obtain ⟨cq, kq, qa, qb, qc⟩ := isOf (T := T) hZ eT E
  obtain ⟨v, vm1, ⟨T', L', k', n'⟩, -, X', ⟨Lc, hQ, l1, y1, z1⟩, stp⟩ := X.virtualBack hx (y := y) (z := z) hown (mvT hZ w1) (mvT hZ wd) hnf (mvT hZ ws) (mvT hZ w2) hy (backOf (W := W) (C []) hZ w4 w3 hf hl) qa qc (g := mkF m pc ls (argsL.reverse ++ .ref b :: rest)) rfl hsz (Steps.refl _) (argsL := argsL) (rest := rest) (lenOf hpd hal) rfl (by show 2 * 0 + _ ≤ _; omega) hd (fun _ _ => ⟨rfl, eT, hc, hs⟩)
  dsimp only [Pt.U, Pt.locs, Pt.cells, Pt.slots] at X' l1 y1 z1 stp hQ
  subst l1 y1 z1
  exact own_of (fun t q => stp.trans q) (w _ _ _ X' hQ)

theorem own_laload (X : Stand p l e R s m args below meth c T locs cells slots) (hx : p.tables.exec = Jvm.exec) (hZ : Z.Warmed39 s.vm) (eT : T.heap = h) {b : Addr} {kk : ClassId} {z j : Int32} {vs : List Value} {dv v : Value} (F : Arv Z h b kk .long z vs dv) (hj : ¬ j < 0 ∧ j < z) (hv : vs.getD j.toNatClampNeg dv = v) (hd : decode c.code pc = .ok (.laload, 1)) (hpc : pc + 1 = pc') (w : own_WP p e below s Q k n (T.setTop (mkF m pc' ls (v :: rest)))) : own_WP p e below s Q k n (T.setTop (mkF m pc ls (.int j :: .ref b :: rest))) := by
  subst hpc
  obtain ⟨cl, A, q1, S, q3, H, G⟩ := F
  exact own_of (fun t q => X.laload hx (j := j) (v := v) (by rw [eT]; exact A.1) (State.isArrayOf_alike hZ.alike A.2.1) A.2.2 (inb_of S hj) (H.at (inb_of S hj) hv) (g := mkF m pc ls (.int j :: .ref b :: rest)) rfl rfl hd _ q) w
theorem own_baload (X : Stand p l e R s m args below meth c T locs cells slots) (hx : p.tables.exec = Jvm.exec) (hZ : Z.Warmed39 s.vm) (eT : T.heap = h) {b : Addr} {kk : ClassId} {z j : Int32} {vs : List Value} {dv v : Value} (F : Arv Z h b kk .byte z vs dv) (hj : ¬ j < 0 ∧ j < z) (hv : vs.getD j.toNatClampNeg dv = v) (hd : decode c.code pc = .ok (.baload, 1)) (hpc : pc + 1 = pc') (w : own_WP p e below s Q k n (T.setTop (mkF m pc' ls (v :: rest)))) : own_WP p e below s Q k n (T.setTop (mkF m pc ls (.int j :: .ref b :: rest))) := by
  subst hpc
  obtain ⟨cl, A, q1, S, q3, H, G⟩ := F
  exact own_of (fun t q => X.baloadBytes hx (j := j) (v := v) (by rw [eT]; exact A.1) (State.isArrayOf_alike hZ.alike A.2.1) A.2.2 (inb_of S hj) (H.at (inb_of S hj) hv) (g := mkF m pc ls (.int j :: .ref b :: rest)) rfl rfl hd _ q) w
theorem own_iaload (X : Stand p l e R s m args below meth c T locs cells slots) (hx : p.tables.exec = Jvm.exec) (hZ : Z.Warmed39 s.vm) (eT : T.heap = h) {b : Addr} {kk : ClassId} {z j : Int32} {vs : List Value} {dv v : Value} (F : Arv Z h b kk .int z vs dv) (hj : ¬ j < 0 ∧ j < z) (hv : vs.getD j.toNatClampNeg dv = v) (hd : decode c.code pc = .ok (.iaload, 1)) (hpc : pc + 1 = pc') (w : own_WP p e below s Q k n (T.setTop (mkF m pc' ls (v :: rest)))) : own_WP p e below s Q k n (T.setTop (mkF m pc ls (.int j :: .ref b :: rest))) := by
  subst hpc
  obtain ⟨cl, A, q1, S, q3, H, G⟩ := F
  exact own_of (fun t q => X.iaload hx (j := j) (v := v) (by rw [eT]; exact A.1) (State.isArrayOf_alike hZ.alike A.2.1) A.2.2 (inb_of S hj) (H.at (inb_of S hj) hv) (g := mkF m pc ls (.int j :: .ref b :: rest)) rfl rfl hd _ q) w
theorem own_caload (X : Stand p l e R s m args below meth c T locs cells slots) (hx : p.tables.exec = Jvm.exec) (hZ : Z.Warmed39 s.vm) (eT : T.heap = h) {b : Addr} {kk : ClassId} {z j : Int32} {vs : List Value} {dv v : Value} (F : Arv Z h b kk .char z vs dv) (hj : ¬ j < 0 ∧ j < z) (hv : vs.getD j.toNatClampNeg dv = v) (hd : decode c.code pc = .ok (.caload, 1)) (hpc : pc + 1 = pc') (w : own_WP p e below s Q k n (T.setTop (mkF m pc' ls (v :: rest)))) : own_WP p e below s Q k n (T.setTop (mkF m pc ls (.int j :: .ref b :: rest))) := by
  subst hpc
  obtain ⟨cl, A, q1, S, q3, H, G⟩ := F
  exact own_of (fun t q => X.caload hx (j := j) (v := v) (by rw [eT]; exact A.1) (State.isArrayOf_alike hZ.alike A.2.1) A.2.2 (inb_of S hj) (H.at (inb_of S hj) hv) (g := mkF m pc ls (.int j :: .ref b :: rest)) rfl rfl hd _ q) w
theorem own_lastore (X : Stand p l e R s m args below meth c T locs cells slots) (hx : p.tables.exec = Jvm.exec) (hZ : Z.Warmed39 s.vm) (eT : T.heap = h) {b : Addr} {kk : ClassId} {z j : Int32} {vs : List Value} {dv : Value} {x : Int64} (F : Arv Z h b kk .long z vs dv) (hj : ¬ j < 0 ∧ j < z) (i : Nat) (hi : j.toNatClampNeg = i) (hlen : i < vs.length) (hd : decode c.code pc = .ok (.lastore, 1)) (hpc : pc + 1 = pc') (w : ∀ T' h', Stand p l e R s m args below meth c T' (locs ++ [⟨b, j.toNatClampNeg⟩]) cells slots → T'.heap = h' → Wr h h' b j.toNatClampNeg (.long x) → Arv Z h' b kk .long z (vs.set i (.long x)) dv → own_WP p e below s Q k n (T'.setTop (mkF m pc' ls rest))) : own_WP p e below s Q k n (T.setTop (mkF m pc ls (.long x :: .int j :: .ref b :: rest))) := by
  subst hpc
  obtain ⟨cl, A, q1, S, q3, H, G⟩ := F
  obtain ⟨T', h', X', e', W', st⟩ := stJ X hx hZ eT A (j := j) (inb_of S hj) (g := mkF m pc ls (.long x :: .int j :: .ref b :: rest)) rfl rfl hd
  exact own_of st (w T' h' X' e' W' (Arv.set A q1 S q3 H G rfl W' i hi hlen))
theorem own_bastore (X : Stand p l e R s m args below meth c T locs cells slots) (hx : p.tables.exec = Jvm.exec) (hZ : Z.Warmed39 s.vm) (eT : T.heap = h) {b : Addr} {kk : ClassId} {z j : Int32} {vs : List Value} {dv : Value} {x : Int32} (F : Arv Z h b kk .byte z vs dv) (hj : ¬ j < 0 ∧ j < z) (i : Nat) (hi : j.toNatClampNeg = i) (hlen : i < vs.length) (hd : decode c.code pc = .ok (.bastore, 1)) (hpc : pc + 1 = pc') (w : ∀ T' h', Stand p l e R s m args below meth c T' (locs ++ [⟨b, j.toNatClampNeg⟩]) cells slots → T'.heap = h' → Wr h h' b j.toNatClampNeg (.int (nar .byte x)) → Arv Z h' b kk .byte z (vs.set i (.int (nar .byte x))) dv → own_WP p e below s Q k n (T'.setTop (mkF m pc' ls rest))) : own_WP p e below s Q k n (T.setTop (mkF m pc ls (.int x :: .int j :: .ref b :: rest))) := by
  subst hpc
  obtain ⟨cl, A, q1, S, q3, H, G⟩ := F
  obtain ⟨T', h', X', e', W', st⟩ := stB X hx hZ eT A (j := j) (inb_of S hj) (g := mkF m pc ls (.int x :: .int j :: .ref b :: rest)) rfl rfl hd
  exact own_of st (w T' h' X' e' W' (Arv.set A q1 S q3 H G (fits_nar_byte x) W' i hi hlen))
theorem own_iastore (X : Stand p l e R s m args below meth c T locs cells slots) (hx : p.tables.exec = Jvm.exec) (hZ : Z.Warmed39 s.vm) (eT : T.heap = h) {b : Addr} {kk : ClassId} {z j : Int32} {vs : List Value} {dv : Value} {x : Int32} (F : Arv Z h b kk .int z vs dv) (hj : ¬ j < 0 ∧ j < z) (i : Nat) (hi : j.toNatClampNeg = i) (hlen : i < vs.length) (hd : decode c.code pc = .ok (.iastore, 1)) (hpc : pc + 1 = pc') (w : ∀ T' h', Stand p l e R s m args below meth c T' (locs ++ [⟨b, j.toNatClampNeg⟩]) cells slots → T'.heap = h' → Wr h h' b j.toNatClampNeg (.int x) → Arv Z h' b kk .int z (vs.set i (.int x)) dv → own_WP p e below s Q k n (T'.setTop (mkF m pc' ls rest))) : own_WP p e below s Q k n (T.setTop (mkF m pc ls (.int x :: .int j :: .ref b :: rest))) := by
  subst hpc
  obtain ⟨cl, A, q1, S, q3, H, G⟩ := F
  obtain ⟨T', h', X', e', W', st⟩ := stI X hx hZ eT A (j := j) (inb_of S hj) (g := mkF m pc ls (.int x :: .int j :: .ref b :: rest)) rfl rfl hd
  exact own_of st (w T' h' X' e' W' (Arv.set A q1 S q3 H G rfl W' i hi hlen))
theorem own_arrlen (X : Stand p l e R s m args below meth c T locs cells slots) (hx : p.tables.exec = Jvm.exec) (hZ : Z.Warmed39 s.vm) (eT : T.heap = h) {b : Addr} {kk : ClassId} {z : Int32} {vs : List Value} {dv : Value} {ty : FieldType} (F : Arv Z h b kk ty z vs dv) (hd : decode c.code pc = .ok (.arraylength, 1)) (hpc : pc + 1 = pc') (w : own_WP p e below s Q k n (T.setTop (mkF m pc' ls (.int z :: rest)))) : own_WP p e below s Q k n (T.setTop (mkF m pc ls (.ref b :: rest))) := by
  subst hpc
  obtain ⟨cl, A, q1, S, q3, H, G⟩ := F
  refine own_of (fun t q => X.arraylength hx (by rw [eT]; exact A.1) (State.isArrayOf_alike hZ.alike A.2.1) (g := mkF m pc ls (.ref b :: rest)) rfl rfl hd _ ?_) w
  rw [len_of S q3]
  exact q
end OwnWP

theorem own_bvU (x : Int64) (q : Int32) (k : Nat) (hk : q.toBitVec.toNat % 64 = k) : ((x.toUInt64 >>> (q &&& 0x3f).toInt64.toUInt64).toInt64).toBitVec = x.toBitVec >>> k := by
  have h5 := (sm64 q k hk).2
  show x.toBitVec >>> ((q &&& 0x3f).toInt64.toBitVec % 64) = _
  rw [BitVec.ushiftRight_eq', BitVec.toNat_umod, (sm64 q k hk).1, BitVec.toNat_ofNat]
  congr 1
  show k % 2 ^ 64 % 64 = k
  omega
theorem own_bvL (x : Int64) (q : Int32) (k : Nat) (hk : q.toBitVec.toNat % 64 = k) : (x <<< (q &&& 0x3f).toInt64).toBitVec = x.toBitVec <<< k := by
  show x.toBitVec <<< ((q &&& 0x3f).toInt64.toBitVec.smod 64) = _
  rw [BitVec.shiftLeft_eq', (sm64 q k hk).1, smod64 k (sm64 q k hk).2]

theorem own_split (b r m M : Nat) (hb : b < 256) (hm : m < 256) : (b + 256 * r) &&& (m + 256 * M) = (b &&& m) + 256 * (r &&& M) := by
  have h1 : ((b + 256 * r) &&& (m + 256 * M)) % 2 ^ 8 = (b + 256 * r) % 2 ^ 8 &&& (m + 256 * M) % 2 ^ 8 := Nat.and_mod_two_pow
  have h2 : ((b + 256 * r) &&& (m + 256 * M)) / 2 ^ 8 = (b + 256 * r) / 2 ^ 8 &&& (m + 256 * M) / 2 ^ 8 := Nat.and_div_two_pow
  rw [show (b + 256 * r) % 2 ^ 8 = b by omega, show (m + 256 * M) % 2 ^ 8 = m by omega] at h1
  rw [show (b + 256 * r) / 2 ^ 8 = r by omega, show (m + 256 * M) / 2 ^ 8 = M by omega] at h2
  have h3 := Nat.div_add_mod ((b + 256 * r) &&& (m + 256 * M)) (2 ^ 8)
  rw [h1, h2] at h3
  omega
def own_mk (m : Nat) : Nat → Nat
  | 0 => 0
  | n + 1 => m + 256 * own_mk m n
def own_b1 (b : Nat) : Nat := b - (b / 2 &&& 85)
def own_b2 (b : Nat) : Nat := (b &&& 51) + (b / 4 &&& 51)
def own_b3 (b : Nat) : Nat := (b + b / 16) % 16
def own_pb (b : Nat) : Nat := own_b3 (own_b2 (own_b1 b))
def own_s1 (n x : Nat) : Nat := x - (x / 2 &&& own_mk 85 n)
def own_s2 (n x : Nat) : Nat := (x &&& own_mk 51 n) + (x / 4 &&& own_mk 51 n)
def own_s3 (n x : Nat) : Nat := (x + x / 16) &&& own_mk 15 n
def own_pq : Nat → Nat → Nat
  | 0, _ => 0
  | n + 1, x => own_pb (x % 256) + 256 * own_pq n (x / 256)
theorem own_t1 : ∀ b : Fin 256, ∀ c : Fin 2, (b.val / 2 + 128 * c.val) &&& 85 = (b.val / 2 &&& 85) := by decide +kernel
theorem own_t2 : ∀ b : Fin 256, ∀ c : Fin 4, (b.val / 4 + 64 * c.val) &&& 51 = (b.val / 4 &&& 51) := by decide +kernel
theorem own_t3 : ∀ b : Fin 256, own_b1 b.val < 256 ∧ own_b2 (own_b1 b.val) % 16 ≤ 4 ∧ own_b2 (own_b1 b.val) / 16 ≤ 4 ∧ own_pb b.val ≤ 8 := by decide +kernel
theorem own_step1 (n b r : Nat) (hb : b < 256) : own_s1 (n + 1) (b + 256 * r) = own_b1 b + 256 * own_s1 n r := by
  have e1 : (b + 256 * r) / 2 = (b / 2 + 128 * (r % 2)) + 256 * (r / 2) := by omega
  have e2 := own_t1 ⟨b, hb⟩ ⟨r % 2, by omega⟩
  simp only at e2
  unfold own_s1 own_b1
  rw [own_mk, e1, own_split _ _ _ _ (by omega) (by decide), e2]
  have l1 : (b / 2 &&& 85) ≤ b / 2 := Nat.and_le_left
  have l2 : (r / 2 &&& own_mk 85 n) ≤ r / 2 := Nat.and_le_left
  omega
theorem own_step2 (n b r : Nat) (hb : b < 256) : own_s2 (n + 1) (b + 256 * r) = own_b2 b + 256 * own_s2 n r := by
  have e1 : (b + 256 * r) / 4 = (b / 4 + 64 * (r % 4)) + 256 * (r / 4) := by omega
  have e2 := own_t2 ⟨b, hb⟩ ⟨r % 4, by omega⟩
  simp only at e2
  unfold own_s2 own_b2
  rw [own_mk, e1, own_split (b / 4 + 64 * (r % 4)) (r / 4) 51 _ (by omega) (by decide), own_split b r 51 _ hb (by decide), e2]
  omega
theorem own_step3 (n b r : Nat) (h1 : b % 16 ≤ 4) (h2 : b / 16 ≤ 4) (h3 : r % 16 ≤ 4) : own_s3 (n + 1) (b + 256 * r) = own_b3 b + 256 * own_s3 n r := by
  have e1 : (b + 256 * r) + (b + 256 * r) / 16 = (b + b / 16 + 16 * (r % 16)) + 256 * (r + r / 16) := by omega
  unfold own_s3 own_b3
  rw [own_mk, e1, own_split _ _ _ _ (by omega) (by decide)]
  have e2 : (b + b / 16 + 16 * (r % 16)) &&& 15 = (b + b / 16 + 16 * (r % 16)) % 16 := Nat.and_two_pow_sub_one_eq_mod _ 4
  rw [e2]
  omega
theorem own_all (n : Nat) : ∀ x, x < 256 ^ n → own_s2 n (own_s1 n x) % 16 ≤ 4 ∧ own_s3 n (own_s2 n (own_s1 n x)) = own_pq n x := by
  induction n with
  | zero => intro x hx; obtain rfl : x = 0 := by simpa using hx
            exact ⟨by decide, by decide⟩
  | succ n ih =>
    intro x hx
    have hx' : x = x % 256 + 256 * (x / 256) := by omega
    have hr : x / 256 < 256 ^ n := by rw [Nat.pow_succ] at hx; omega
    obtain ⟨i1, i2⟩ := ih _ hr
    have hb : x % 256 < 256 := by omega
    obtain ⟨t1, t2, t3, -⟩ := own_t3 ⟨x % 256, hb⟩
    simp only at t1 t2 t3
    have s1 := own_step1 n (x % 256) (x / 256) hb
    rw [← hx'] at s1
    rw [s1, own_step2 n _ _ t1]
    refine ⟨by omega, ?_⟩
    rw [own_step3 n _ _ t2 t3 i1, i2]
    rfl
def own_p (x i : Nat) : Nat := own_pb (x / 256 ^ i % 256)
def own_cnt (x : Nat) : Nat := own_p x 0 + own_p x 1 + own_p x 2 + own_p x 3 + own_p x 4 + own_p x 5 + own_p x 6 + own_p x 7
theorem own_p8 (x i : Nat) : own_p x i ≤ 8 := (own_t3 ⟨x / 256 ^ i % 256, Nat.mod_lt _ (by decide)⟩).2.2.2
theorem own_pop8 (x : Nat) : own_pq 8 x = own_p x 0 + 256 * (own_p x 1 + 256 * (own_p x 2 + 256 * (own_p x 3 + 256 * (own_p x 4 + 256 * (own_p x 5 + 256 * (own_p x 6 + 256 * own_p x 7)))))) := by
  simp only [own_pq, own_p, Nat.div_div_eq_div_mul, Nat.mul_zero, Nat.add_zero, Nat.pow_zero, Nat.div_one]
def own_u (x : Int64) : Nat := x.toBitVec.toNat
theorem own_ult (x : Int64) : own_u x < 2 ^ 64 := x.toBitVec.isLt
theorem own_uand (x y : Int64) : own_u (x &&& y) = (own_u x &&& own_u y) := by
  show (x.toBitVec &&& y.toBitVec).toNat = _
  exact BitVec.toNat_and ..
theorem own_ushr (x : Int64) (q : Int32) (k : Nat) (hk : q.toBitVec.toNat % 64 = k) : own_u ((x.toUInt64 >>> (q &&& 0x3f).toInt64.toUInt64).toInt64) = own_u x / 2 ^ k := by
  unfold own_u
  rw [own_bvU x q k hk, BitVec.toNat_ushiftRight, Nat.shiftRight_eq_div_pow]
theorem own_uadd (x y : Int64) : own_u (x + y) = (own_u x + own_u y) % 2 ^ 64 := by
  show (x.toBitVec + y.toBitVec).toNat = _
  exact BitVec.toNat_add ..
theorem own_usub (x y : Int64) (h : own_u y ≤ own_u x) : own_u (x - y) = own_u x - own_u y := by
  show (x.toBitVec - y.toBitVec).toNat = _
  exact BitVec.toNat_sub_of_le h
theorem own_umul (x y : Int64) : own_u (x * y) = (own_u x * own_u y) % 2 ^ 64 := by
  show (x.toBitVec * y.toBitVec).toNat = _
  exact BitVec.toNat_mul ..
def own_x1 (x : Int64) : Int64 := x - (((x.toUInt64 >>> ((1 : Int32) &&& 0x3f).toInt64.toUInt64).toInt64) &&& (6148914691236517205 : Int64))
def own_x2 (x : Int64) : Int64 := (x &&& (3689348814741910323 : Int64)) + (((x.toUInt64 >>> ((2 : Int32) &&& 0x3f).toInt64.toUInt64).toInt64) &&& (3689348814741910323 : Int64))
def own_x3 (x : Int64) : Int64 := (x + ((x.toUInt64 >>> ((4 : Int32) &&& 0x3f).toInt64.toUInt64).toInt64)) &&& (1085102592571150095 : Int64)
theorem own_m51 : own_mk 51 8 = 3689348814741910323 := by decide
theorem own_m85 : own_mk 85 8 = 6148914691236517205 := by decide
theorem own_m15 : own_mk 15 8 = 1085102592571150095 := by decide
theorem own_ux1 (x : Int64) : own_u (own_x1 x) = own_s1 8 (own_u x) := by
  have e : own_u (((x.toUInt64 >>> ((1 : Int32) &&& 0x3f).toInt64.toUInt64).toInt64) &&& (6148914691236517205 : Int64)) = (own_u x / 2 &&& own_mk 85 8) := by
    rw [own_uand, own_ushr x 1 1 (by decide), own_m85]; rfl
  have l : (own_u x / 2 &&& own_mk 85 8) ≤ own_u x / 2 := Nat.and_le_left
  unfold own_x1 own_s1
  rw [own_usub _ _ (by rw [e]; omega), e]
theorem own_ux2 (x : Int64) : own_u (own_x2 x) = own_s2 8 (own_u x) := by
  have e : own_u (((x.toUInt64 >>> ((2 : Int32) &&& 0x3f).toInt64.toUInt64).toInt64) &&& (3689348814741910323 : Int64)) = (own_u x / 4 &&& own_mk 51 8) := by
    rw [own_uand, own_ushr x 2 2 (by decide), own_m51]; rfl
  have e2 : own_u (x &&& (3689348814741910323 : Int64)) = (own_u x &&& own_mk 51 8) := by
    rw [own_uand, own_m51]; rfl
  have l1 : (own_u x / 4 &&& own_mk 51 8) ≤ own_mk 51 8 := Nat.and_le_right
  have l2 : (own_u x &&& own_mk 51 8) ≤ own_mk 51 8 := Nat.and_le_right
  rw [own_m51] at l1 l2 e e2
  unfold own_x2 own_s2
  rw [own_uadd, e, e2, own_m51]
  omega
theorem own_ux3 (x : Int64) (h : own_u x < 2 ^ 63) : own_u (own_x3 x) = own_s3 8 (own_u x) := by
  unfold own_x3 own_s3
  rw [own_uand, own_uadd, own_ushr x 4 4 (by decide), own_m15, Nat.mod_eq_of_lt (by omega)]
  rfl
theorem own_s2lt (x : Nat) : own_s2 8 x < 2 ^ 63 := by
  have l1 : (x / 4 &&& own_mk 51 8) ≤ own_mk 51 8 := Nat.and_le_right
  have l2 : (x &&& own_mk 51 8) ≤ own_mk 51 8 := Nat.and_le_right
  unfold own_s2
  rw [own_m51] at *
  omega
theorem own_core (x : Int64) : own_u (own_x3 (own_x2 (own_x1 x))) = own_pq 8 (own_u x) := by
  have h : own_u (own_x2 (own_x1 x)) < 2 ^ 63 := by rw [own_ux2]; exact own_s2lt _
  rw [own_ux3 _ h, own_ux2, own_ux1]
  exact (own_all 8 _ (own_ult x)).2
def own_sum (x q : Int32) (y : Int64) : Int64 := y + ((y.toUInt64 >>> (q &&& 0x3f).toInt64.toUInt64).toInt64)
def own_jdk (x : Int64) : Int32 := (own_sum 0 32 (own_sum 0 16 (own_sum 0 8 (own_x3 (own_x2 (own_x1 x)))))).toInt32 &&& (127 : Int32)
def own_law (x : Int64) : Int32 := (((own_x3 (own_x2 (own_x1 x)) * (72340172838076673 : Int64)).toUInt64 >>> ((56 : Int32) &&& 0x3f).toInt64.toUInt64).toInt64).toInt32
theorem own_l2iv (y : Int64) : y.toInt32.toBitVec.toNat = own_u y % 2 ^ 32 := by
  have h := c_l2i y
  have h1 : y.toInt32.toInt = y.toInt32.toBitVec.toInt := rfl
  have h2 : y.toInt = y.toBitVec.toInt := rfl
  rw [h1, h2, BitVec.toInt_eq_toNat_cond, BitVec.toInt_eq_toNat_cond] at h
  have l1 := y.toInt32.toBitVec.isLt
  have l2 := y.toBitVec.isLt
  unfold own_u
  split at h <;> split at h <;> omega
theorem own_ofnat (z : Int32) (n : Nat) (h : n < 2 ^ 31) (e : z.toBitVec.toNat = n) : z.toInt = n := by
  show z.toBitVec.toInt = _
  rw [BitVec.toInt_eq_toNat_cond, e]
  split <;> omega
theorem own_dv (D a r : Nat) (h : a < D) : (a + D * r) / D = r := by
  rw [Nat.add_mul_div_left _ _ (by omega), Nat.div_eq_of_lt h, Nat.zero_add]
theorem own_m7 (s r : Nat) (h : s < 128) : (s + 128 * r) % 2 ^ 32 % 2 ^ 7 = s := by omega
theorem own_m8 (l s r : Nat) (h1 : l < 72057594037927936) (h2 : s < 256) : (l + 72057594037927936 * s + 18446744073709551616 * r) % 2 ^ 64 / 2 ^ 56 % 2 ^ 32 = s := by omega
theorem own_jdkv (x : Int64) : (own_jdk x).toInt = own_cnt (own_u x) := by
  have c := own_core x
  rw [own_pop8] at c
  have b0 := own_p8 (own_u x) 0
  have b1 := own_p8 (own_u x) 1
  have b2 := own_p8 (own_u x) 2
  have b3 := own_p8 (own_u x) 3
  have b4 := own_p8 (own_u x) 4
  have b5 := own_p8 (own_u x) 5
  have b6 := own_p8 (own_u x) 6
  have b7 := own_p8 (own_u x) 7
  unfold own_jdk own_cnt
  generalize own_x3 (own_x2 (own_x1 x)) = y at c
  generalize own_p (own_u x) 0 = p0 at *
  generalize own_p (own_u x) 1 = p1 at *
  generalize own_p (own_u x) 2 = p2 at *
  generalize own_p (own_u x) 3 = p3 at *
  generalize own_p (own_u x) 4 = p4 at *
  generalize own_p (own_u x) 5 = p5 at *
  generalize own_p (own_u x) 6 = p6 at *
  generalize own_p (own_u x) 7 = p7 at *
  have hy : own_u y ≤ 2 ^ 60 := by rw [c]; clear c; omega
  have a1 : own_u (own_sum 0 8 y) = own_u y + own_u y / 256 := by
    unfold own_sum
    rw [own_uadd, own_ushr y 8 8 (by decide), Nat.mod_eq_of_lt (by clear c; omega)]
  have a2 : own_u (own_sum 0 16 (own_sum 0 8 y)) = own_u (own_sum 0 8 y) + own_u (own_sum 0 8 y) / 65536 := by
    rw [own_sum, own_uadd, own_ushr _ 16 16 (by decide), Nat.mod_eq_of_lt (by clear c; omega)]
  have a3 : own_u (own_sum 0 32 (own_sum 0 16 (own_sum 0 8 y))) = own_u (own_sum 0 16 (own_sum 0 8 y)) + own_u (own_sum 0 16 (own_sum 0 8 y)) / 4294967296 := by
    rw [own_sum, own_uadd, own_ushr _ 32 32 (by decide), Nat.mod_eq_of_lt (by clear c; omega)]
  have w1 : own_u y / 256 = p1 + 256 * (p2 + 256 * (p3 + 256 * (p4 + 256 * (p5 + 256 * (p6 + 256 * p7))))) := by
    rw [c]; exact own_dv 256 _ _ (by omega)
  have u1 : own_u (own_sum 0 8 y) = ((p0 + p1) + 256 * (p1 + p2)) + 65536 * ((p2 + p3) + 256 * ((p3 + p4) + 256 * ((p4 + p5) + 256 * ((p5 + p6) + 256 * ((p6 + p7) + 256 * p7))))) := by
    rw [a1, w1, c]; clear a1 a2 a3 c w1; omega
  have w2 : own_u (own_sum 0 8 y) / 65536 = (p2 + p3) + 256 * ((p3 + p4) + 256 * ((p4 + p5) + 256 * ((p5 + p6) + 256 * ((p6 + p7) + 256 * p7)))) := by
    rw [u1]; exact own_dv 65536 _ _ (by clear a1 a2 a3 c w1 u1; omega)
  have u2 : own_u (own_sum 0 16 (own_sum 0 8 y)) = ((p0 + p1 + p2 + p3) + 256 * ((p1 + p2 + p3 + p4) + 256 * ((p2 + p3 + p4 + p5) + 256 * (p3 + p4 + p5 + p6)))) + 4294967296 * ((p4 + p5 + p6 + p7) + 256 * ((p5 + p6 + p7) + 256 * ((p6 + p7) + 256 * p7))) := by
    rw [a2, w2, u1]; clear a1 a2 a3 c w1 w2 u1; omega
  have w3 : own_u (own_sum 0 16 (own_sum 0 8 y)) / 4294967296 = (p4 + p5 + p6 + p7) + 256 * ((p5 + p6 + p7) + 256 * ((p6 + p7) + 256 * p7)) := by
    rw [u2]; exact own_dv 4294967296 _ _ (by clear a1 a2 a3 c w1 w2 u1 u2; omega)
  have u3 : own_u (own_sum 0 32 (own_sum 0 16 (own_sum 0 8 y))) = (p0 + p1 + p2 + p3 + p4 + p5 + p6 + p7) + 128 * (2 * ((p1 + p2 + p3 + p4 + p5 + p6 + p7) + 256 * ((p2 + p3 + p4 + p5 + p6 + p7) + 256 * (p3 + p4 + p5 + p6 + p7))) + 33554432 * ((p4 + p5 + p6 + p7) + 256 * ((p5 + p6 + p7) + 256 * ((p6 + p7) + 256 * p7)))) := by
    rw [a3, w3, u2]; clear a1 a2 a3 c w1 w2 w3 u1 u2; omega
  refine own_ofnat _ _ (by clear a1 a2 a3 c w1 w2 w3 u1 u2 u3; omega) ?_
  show ((own_sum 0 32 (own_sum 0 16 (own_sum 0 8 y))).toInt32.toBitVec &&& (127 : Int32).toBitVec).toNat = _
  rw [BitVec.toNat_and, own_l2iv, show (127 : Int32).toBitVec.toNat = 2 ^ 7 - 1 from by decide, Nat.and_two_pow_sub_one_eq_mod, u3]
  exact own_m7 _ _ (by clear a1 a2 a3 c w1 w2 w3 u1 u2 u3; omega)
theorem own_lawv (x : Int64) : (own_law x).toInt = own_cnt (own_u x) := by
  have c := own_core x
  rw [own_pop8] at c
  have b0 := own_p8 (own_u x) 0
  have b1 := own_p8 (own_u x) 1
  have b2 := own_p8 (own_u x) 2
  have b3 := own_p8 (own_u x) 3
  have b4 := own_p8 (own_u x) 4
  have b5 := own_p8 (own_u x) 5
  have b6 := own_p8 (own_u x) 6
  have b7 := own_p8 (own_u x) 7
  unfold own_law own_cnt
  generalize own_x3 (own_x2 (own_x1 x)) = y at c
  generalize own_p (own_u x) 0 = p0 at *
  generalize own_p (own_u x) 1 = p1 at *
  generalize own_p (own_u x) 2 = p2 at *
  generalize own_p (own_u x) 3 = p3 at *
  generalize own_p (own_u x) 4 = p4 at *
  generalize own_p (own_u x) 5 = p5 at *
  generalize own_p (own_u x) 6 = p6 at *
  generalize own_p (own_u x) 7 = p7 at *
  have e : own_u y * 72340172838076673 = ((p0) + 256 * ((p0 + p1) + 256 * ((p0 + p1 + p2) + 256 * ((p0 + p1 + p2 + p3) + 256 * ((p0 + p1 + p2 + p3 + p4) + 256 * ((p0 + p1 + p2 + p3 + p4 + p5) + 256 * ((p0 + p1 + p2 + p3 + p4 + p5 + p6)))))))) + 72057594037927936 * (p0 + p1 + p2 + p3 + p4 + p5 + p6 + p7) + 18446744073709551616 * ((p1 + p2 + p3 + p4 + p5 + p6 + p7) + 256 * ((p2 + p3 + p4 + p5 + p6 + p7) + 256 * ((p3 + p4 + p5 + p6 + p7) + 256 * ((p4 + p5 + p6 + p7) + 256 * ((p5 + p6 + p7) + 256 * ((p6 + p7) + 256 * ((p7)))))))) := by
    rw [c]; clear c; omega
  refine own_ofnat _ _ (by clear e c; omega) ?_
  rw [own_l2iv, own_ushr _ 56 56 (by decide), own_umul, show own_u (72340172838076673 : Int64) = 72340172838076673 from by decide, e]
  exact own_m8 _ _ _ (by clear e c; omega) (by clear e c; omega)
theorem own_cnt64 (x : Nat) : own_cnt x ≤ 64 := by
  have b0 := own_p8 x 0
  have b1 := own_p8 x 1
  have b2 := own_p8 x 2
  have b3 := own_p8 x 3
  have b4 := own_p8 x 4
  have b5 := own_p8 x 5
  have b6 := own_p8 x 6
  have b7 := own_p8 x 7
  unfold own_cnt
  omega
theorem own_same (x : Int64) : own_jdk x = own_law x := Int32.toInt_inj.mp ((own_jdkv x).trans (own_lawv x).symm)
theorem own_one : ∀ k : Fin 64, own_law (Int64.ofBitVec ((1#64) <<< k.val)) = 1 := by decide +kernel
theorem own_onebit (a : Int64) (q : Int32) : own_law (a ^^^ (a ^^^ ((1 : Int64) <<< ((q &&& (63 : Int32)) &&& 0x3f).toInt64))) = 1 := by
  have e1 : ∀ t : Int64, a ^^^ (a ^^^ t) = t := fun t => by
    rw [← Int64.xor_assoc, Int64.xor_self, Int64.zero_xor]
  rw [e1]
  have hk : (q &&& (63 : Int32)).toBitVec.toNat % 64 < 64 := Nat.mod_lt _ (by decide)
  have e2 : ((1 : Int64) <<< ((q &&& (63 : Int32)) &&& 0x3f).toInt64) = Int64.ofBitVec ((1#64) <<< ((q &&& (63 : Int32)).toBitVec.toNat % 64)) := Int64.toBitVec_inj.mp (own_bvL 1 _ _ rfl)
  rw [e2]
  exact own_one ⟨_, hk⟩
theorem own_comm (a b : Int64) : a ^^^ b = b ^^^ a := Int64.xor_comm ..
theorem own_zero (a : Int64) : own_jdk (a ^^^ a) = 0 := by
  rw [Int64.xor_self]; decide +kernel

theorem own_rng (x : Int64) : ¬ own_jdk x < 0 ∧ ¬ (64 : Int32) < own_jdk x := by
  have h := own_jdkv x
  have h2 := own_cnt64 (own_u x)
  rw [Int32.lt_iff_toInt_lt, Int32.lt_iff_toInt_lt, h, show (0 : Int32).toInt = 0 from by decide, show (64 : Int32).toInt = 64 from by decide]
  omega

theorem d2_0 : decode jdk_30_method_1_code 0 = .ok (.aload_n 0, 1) := by decide +kernel
theorem d2_1 : decode jdk_30_method_1_code 1 = .ok (.invokespecial 1, 3) := by decide +kernel
theorem d2_4 : decode jdk_30_method_1_code 4 = .ok (.return_, 1) := by decide +kernel
theorem pn_2 : plainFor (⟨"java/lang/Record", "<init>", "()V"⟩ : MethodName) = true := plainFor_of_name (by first | (simp [plainName, overriddenIn]; done) | decide +kernel)
theorem ef_conR (m : MethodId) (a1 : Addr) : entryFrame m #[(.ref a1)] 1 = mkF m 0 #[.val (.ref a1)] [] := by first | (simp [entryFrame, mkF, argsToLocals, Value.category]; done) | rfl
set_option maxRecDepth 65536 in
set_option maxHeartbeats 4000000 in
theorem conR (l : Launch) (Z : State) (a0 : Array Value) (hw : ∀ d ∈ tables_1, d.before a0 Z = true) (a1 : Addr) (h0 : Heap) :
    own_Con l Z (⟨"java/lang/Record", "<init>", "()V"⟩ : MethodName) jdk_30_method_1_code 1 none ({ frames := 1, cells := 0, slots := 0, locals := 12 } : Room) #[(.ref a1)] h0 (fun v h L => v = none ∧ L = [] ∧ h = h0) := by
  refine own_Con_of pn_2 ?_
  intro p e s m below meth c s₁ X0 hx hby hml hret hlk hnm hown hZ e0
  have hown : s.vm.findClass "java/lang/Record" = some m.cls := hown
  have hml : c.maxLocals = 1 := hml
  show own_WP _ _ _ _ _ _ _ (s₁.setTop (entryFrame m #[(.ref a1)] 1))
  rw [ef_conR m a1]
  refine own_aloadN (pc' := 1) X0 hx (hb hby d2_0) rfl rfl rfl ?_
  refine own_initO (pc' := 4) (W := 0) X0 hx hZ hown (own_w hw 11 rfl) (own_w hw 12 rfl) (own_w hw 13 rfl) e0 (by rw [hml]; rfl) (hb hby d2_1) (by decide) (Nat.le_of_eq rfl) (by decide) rfl ?_
  intro T1 X1 e1
  refine own_ret0 X1 hx hlk hret (hb hby d2_4) (by decide) (by decide) ?_
  exact ⟨rfl, rfl, e1⟩
theorem d1_0 : decode prog_8_method_1_code 0 = .ok (.aload_n 0, 1) := by decide +kernel
theorem d1_1 : decode prog_8_method_1_code 1 = .ok (.invokespecial 3, 3) := by decide +kernel
theorem d1_4 : decode prog_8_method_1_code 4 = .ok (.aload_n 0, 1) := by decide +kernel
theorem d1_5 : decode prog_8_method_1_code 5 = .ok (.lload_n 1, 1) := by decide +kernel
theorem d1_6 : decode prog_8_method_1_code 6 = .ok (.putfield 9, 3) := by decide +kernel
theorem d1_9 : decode prog_8_method_1_code 9 = .ok (.return_, 1) := by decide +kernel
theorem pn_1 : plainFor (⟨"com/example/resemblr/resemblr/Fingerprint", "<init>", "(J)V"⟩ : MethodName) = true := plainFor_of_name (by first | (simp [plainName, overriddenIn]; done) | decide +kernel)
theorem ef_conI (m : MethodId) (a1 : Addr) (w1 : Int64) : entryFrame m #[(.ref a1), (.long w1)] 3 = mkF m 0 #[.val (.ref a1), .val (.long w1), .second] [] := by first | (simp [entryFrame, mkF, argsToLocals, Value.category]; done) | rfl
theorem pd0 : parseMethodDescriptor "()V" = some ⟨[], none⟩ := by decide +kernel
set_option maxRecDepth 65536 in
set_option maxHeartbeats 4000000 in
theorem conI (l : Launch) (Z : State) (a0 : Array Value) (hw : ∀ d ∈ tables_1, d.before a0 Z = true) (a1 : Addr) (w1 : Int64) (h0 : Heap) (n0 : Nat) (Z0 : n0 ≤ h0.size) (E1 : Exa Z h0 a1 "com/example/resemblr/resemblr/Fingerprint") (F1 : Fld Z h0 a1 "com/example/resemblr/resemblr/Fingerprint" "value" "J" (.long (0 : Int64))) (g_a1 : n0 ≤ a1) :
    own_Con l Z (⟨"com/example/resemblr/resemblr/Fingerprint", "<init>", "(J)V"⟩ : MethodName) prog_8_method_1_code 3 none ({ frames := 2, cells := 0, slots := 0, locals := 24 } : Room) #[(.ref a1), (.long w1)] h0 (fun v h L => v = none ∧ Fr n0 L ∧ Keep h0 h [a1] ∧ Exa Z h a1 "com/example/resemblr/resemblr/Fingerprint" ∧ Fld Z h a1 "com/example/resemblr/resemblr/Fingerprint" "value" "J" (.long w1)) := by
  refine own_Con_of pn_1 ?_
  intro p e s m below meth c s₁ X0 hx hby hml hret hlk hnm hown hZ e0
  have hown : s.vm.findClass "com/example/resemblr/resemblr/Fingerprint" = some m.cls := hown
  have hml : c.maxLocals = 3 := hml
  have N0 := Fr.nil n0
  show own_WP _ _ _ _ _ _ _ (s₁.setTop (entryFrame m #[(.ref a1), (.long w1)] 3))
  rw [ef_conI m a1 w1]
  refine own_aloadN (pc' := 1) X0 hx (hb hby d1_0) rfl rfl rfl ?_
  refine own_callN (pc' := 4) (W := 0) (y := (⟨"java/lang/Record", "<init>", "()V"⟩ : MethodName)) X0 hx hZ rfl hown (own_w hw 6 rfl) (own_w hw 7 rfl) (own_w hw 9 rfl) (own_w hw 10 rfl) (by decide) (conR l Z a0 hw a1 _) e0 pd0 a1 [] [] rfl rfl rfl (Nat.le_of_eq rfl) (by decide) (by decide) (by rw [hml]; rfl) (hb hby d1_1) (by decide) (by decide) rfl ?_
  intro v1 T1 L1 X1 q1
  obtain ⟨rfl, rfl, e1⟩ := q1
  have N1 := Fr.app N0 (Fr.nil n0)
  show own_WP _ _ _ _ _ _ _ (T1.setTop (mkF m 4 #[.val (.ref a1), .val (.long w1), .second] []))
  refine own_aloadN (pc' := 5) X1 hx (hb hby d1_4) rfl rfl rfl ?_
  refine own_lloadN (pc' := 6) X1 hx (hb hby d1_5) rfl rfl ?_
  refine own_putF (pc' := 9) X1 hx hZ hown (host := "") (Or.inl (own_w hw 14 rfl)) Via.refl e1 F1 E1 (Or.inr ⟨(own_w hw 15 rfl), rfl, hnm⟩) (own_w hw 1 rfl) (ty := .long) (by decide) rfl rfl (hb hby d1_6) rfl ?_
  intro T2 h2 X2 e2 W2
  have z2 : n0 ≤ h2.size := Nat.le_trans Z0 (Keep.of_wr W2).1
  have Fw2 := F1.same W2
  have N2 := Fr.snoc X2 N1 g_a1
  have K2 : Keep h0 h2 [a1] := (Keep.refl h0 [a1]).wr W2 (Or.inl (List.mem_of_getElem? (i := 0) rfl))
  have f3 := (E1.wr W2)
  refine own_ret0 X2 hx hlk hret (hb hby d1_9) (by decide) (by decide) ?_
  rw [e2]
  exact ⟨rfl, N2, K2, f3, Fw2⟩
theorem d5_0 : decode jdk_35_method_50_code 0 = .ok (.lload_n 0, 1) := by decide +kernel
theorem d5_1 : decode jdk_35_method_50_code 1 = .ok (.lload_n 0, 1) := by decide +kernel
theorem d5_2 : decode jdk_35_method_50_code 2 = .ok (.iconst 1, 1) := by decide +kernel
theorem d5_3 : decode jdk_35_method_50_code 3 = .ok (.lushr, 1) := by decide +kernel
theorem d5_4 : decode jdk_35_method_50_code 4 = .ok (.ldc2_w 314, 3) := by decide +kernel
theorem d5_7 : decode jdk_35_method_50_code 7 = .ok (.land, 1) := by decide +kernel
theorem d5_8 : decode jdk_35_method_50_code 8 = .ok (.lsub, 1) := by decide +kernel
theorem d5_9 : decode jdk_35_method_50_code 9 = .ok (.lstore_n 0, 1) := by decide +kernel
theorem d5_10 : decode jdk_35_method_50_code 10 = .ok (.lload_n 0, 1) := by decide +kernel
theorem d5_11 : decode jdk_35_method_50_code 11 = .ok (.ldc2_w 316, 3) := by decide +kernel
theorem d5_14 : decode jdk_35_method_50_code 14 = .ok (.land, 1) := by decide +kernel
theorem d5_15 : decode jdk_35_method_50_code 15 = .ok (.lload_n 0, 1) := by decide +kernel
theorem d5_16 : decode jdk_35_method_50_code 16 = .ok (.iconst 2, 1) := by decide +kernel
theorem d5_17 : decode jdk_35_method_50_code 17 = .ok (.lushr, 1) := by decide +kernel
theorem d5_18 : decode jdk_35_method_50_code 18 = .ok (.ldc2_w 316, 3) := by decide +kernel
theorem d5_21 : decode jdk_35_method_50_code 21 = .ok (.land, 1) := by decide +kernel
theorem d5_22 : decode jdk_35_method_50_code 22 = .ok (.ladd, 1) := by decide +kernel
theorem d5_23 : decode jdk_35_method_50_code 23 = .ok (.lstore_n 0, 1) := by decide +kernel
theorem d5_24 : decode jdk_35_method_50_code 24 = .ok (.lload_n 0, 1) := by decide +kernel
theorem d5_25 : decode jdk_35_method_50_code 25 = .ok (.lload_n 0, 1) := by decide +kernel
theorem d5_26 : decode jdk_35_method_50_code 26 = .ok (.iconst 4, 1) := by decide +kernel
theorem d5_27 : decode jdk_35_method_50_code 27 = .ok (.lushr, 1) := by decide +kernel
theorem d5_28 : decode jdk_35_method_50_code 28 = .ok (.ladd, 1) := by decide +kernel
theorem d5_29 : decode jdk_35_method_50_code 29 = .ok (.ldc2_w 318, 3) := by decide +kernel
theorem d5_32 : decode jdk_35_method_50_code 32 = .ok (.land, 1) := by decide +kernel
theorem d5_33 : decode jdk_35_method_50_code 33 = .ok (.lstore_n 0, 1) := by decide +kernel
theorem d5_34 : decode jdk_35_method_50_code 34 = .ok (.lload_n 0, 1) := by decide +kernel
theorem d5_35 : decode jdk_35_method_50_code 35 = .ok (.lload_n 0, 1) := by decide +kernel
theorem d5_36 : decode jdk_35_method_50_code 36 = .ok (.bipush 8, 2) := by decide +kernel
theorem d5_38 : decode jdk_35_method_50_code 38 = .ok (.lushr, 1) := by decide +kernel
theorem d5_39 : decode jdk_35_method_50_code 39 = .ok (.ladd, 1) := by decide +kernel
theorem d5_40 : decode jdk_35_method_50_code 40 = .ok (.lstore_n 0, 1) := by decide +kernel
theorem d5_41 : decode jdk_35_method_50_code 41 = .ok (.lload_n 0, 1) := by decide +kernel
theorem d5_42 : decode jdk_35_method_50_code 42 = .ok (.lload_n 0, 1) := by decide +kernel
theorem d5_43 : decode jdk_35_method_50_code 43 = .ok (.bipush 16, 2) := by decide +kernel
theorem d5_45 : decode jdk_35_method_50_code 45 = .ok (.lushr, 1) := by decide +kernel
theorem d5_46 : decode jdk_35_method_50_code 46 = .ok (.ladd, 1) := by decide +kernel
theorem d5_47 : decode jdk_35_method_50_code 47 = .ok (.lstore_n 0, 1) := by decide +kernel
theorem d5_48 : decode jdk_35_method_50_code 48 = .ok (.lload_n 0, 1) := by decide +kernel
theorem d5_49 : decode jdk_35_method_50_code 49 = .ok (.lload_n 0, 1) := by decide +kernel
theorem d5_50 : decode jdk_35_method_50_code 50 = .ok (.bipush 32, 2) := by decide +kernel
theorem d5_52 : decode jdk_35_method_50_code 52 = .ok (.lushr, 1) := by decide +kernel
theorem d5_53 : decode jdk_35_method_50_code 53 = .ok (.ladd, 1) := by decide +kernel
theorem d5_54 : decode jdk_35_method_50_code 54 = .ok (.lstore_n 0, 1) := by decide +kernel
theorem d5_55 : decode jdk_35_method_50_code 55 = .ok (.lload_n 0, 1) := by decide +kernel
theorem d5_56 : decode jdk_35_method_50_code 56 = .ok (.l2i, 1) := by decide +kernel
theorem d5_57 : decode jdk_35_method_50_code 57 = .ok (.bipush 127, 2) := by decide +kernel
theorem d5_59 : decode jdk_35_method_50_code 59 = .ok (.iand, 1) := by decide +kernel
theorem d5_60 : decode jdk_35_method_50_code 60 = .ok (.ireturn, 1) := by decide +kernel
theorem pn_5 : plainFor (⟨"java/lang/Long", "bitCount", "(J)I"⟩ : MethodName) = true := plainFor_of_name (by first | (simp [plainName, overriddenIn]; done) | decide +kernel)
theorem ef_conB (m : MethodId) (c1 : Int64) : entryFrame m #[(.long c1)] 2 = mkF m 0 #[.val (.long c1), .second] [] := by first | (simp [entryFrame, mkF, argsToLocals, Value.category]; done) | rfl
set_option maxRecDepth 65536 in
set_option maxHeartbeats 4000000 in
theorem conB (l : Launch) (Z : State) (a0 : Array Value) (hw : ∀ d ∈ tables_1, d.before a0 Z = true) (c1 : Int64) (h0 : Heap) :
    own_Con l Z (⟨"java/lang/Long", "bitCount", "(J)I"⟩ : MethodName) jdk_35_method_50_code 2 (some .int) ({ frames := 0, cells := 0, slots := 0, locals := 0 } : Room) #[(.long c1)] h0 (fun v h L => ∃ z : Int32, v = some (.int z) ∧ (z = own_jdk c1) ∧ L = [] ∧ h = h0) := by
  refine own_Con_of pn_5 ?_
  intro p e s m below meth c s₁ X0 hx hby hml hret hlk hnm hown hZ e0
  have hown : s.vm.findClass "java/lang/Long" = some m.cls := hown
  have hml : c.maxLocals = 2 := hml
  show own_WP _ _ _ _ _ _ _ (s₁.setTop (entryFrame m #[(.long c1)] 2))
  rw [ef_conB m c1]
  refine own_lloadN (pc' := 1) X0 hx (hb hby d5_0) rfl rfl ?_
  refine own_lloadN (pc' := 2) X0 hx (hb hby d5_1) rfl rfl ?_
  refine own_iconst (pc' := 3) X0 hx (1 : Int32) (hb hby d5_2) rfl rfl ?_
  refine own_lushr (pc' := 4) X0 hx (hb hby d5_3) rfl ?_
  refine own_ldc2Long (pc' := 7) X0 hx hZ hown (own_w hw 25 rfl) (hb hby d5_4) rfl ?_
  refine own_land (pc' := 8) X0 hx (hb hby d5_7) rfl ?_
  refine own_lsub (pc' := 9) X0 hx (hb hby d5_8) rfl ?_
  obtain ⟨v1, hv1⟩ : ∃ z : Int64, z = (c1 - (((c1.toUInt64 >>> ((1 : Int32) &&& 0x3f).toInt64.toUInt64).toInt64) &&& (6148914691236517205 : Int64))) := ⟨_, rfl⟩
  refine own_lstoreN (pc' := 10) (l' := #[.val (.long v1), .second]) X0 hx (hb hby d5_9) hv1 rfl rfl ?_
  refine own_lloadN (pc' := 11) X0 hx (hb hby d5_10) rfl rfl ?_
  refine own_ldc2Long (pc' := 14) X0 hx hZ hown (own_w hw 26 rfl) (hb hby d5_11) rfl ?_
  refine own_land (pc' := 15) X0 hx (hb hby d5_14) rfl ?_
  refine own_lloadN (pc' := 16) X0 hx (hb hby d5_15) rfl rfl ?_
  refine own_iconst (pc' := 17) X0 hx (2 : Int32) (hb hby d5_16) rfl rfl ?_
  refine own_lushr (pc' := 18) X0 hx (hb hby d5_17) rfl ?_
  refine own_ldc2Long (pc' := 21) X0 hx hZ hown (own_w hw 26 rfl) (hb hby d5_18) rfl ?_
  refine own_land (pc' := 22) X0 hx (hb hby d5_21) rfl ?_
  refine own_ladd (pc' := 23) X0 hx (hb hby d5_22) rfl ?_
  obtain ⟨v2, hv2⟩ : ∃ z : Int64, z = ((v1 &&& (3689348814741910323 : Int64)) + (((v1.toUInt64 >>> ((2 : Int32) &&& 0x3f).toInt64.toUInt64).toInt64) &&& (3689348814741910323 : Int64))) := ⟨_, rfl⟩
  refine own_lstoreN (pc' := 24) (l' := #[.val (.long v2), .second]) X0 hx (hb hby d5_23) hv2 rfl rfl ?_
  refine own_lloadN (pc' := 25) X0 hx (hb hby d5_24) rfl rfl ?_
  refine own_lloadN (pc' := 26) X0 hx (hb hby d5_25) rfl rfl ?_
  refine own_iconst (pc' := 27) X0 hx (4 : Int32) (hb hby d5_26) rfl rfl ?_
  refine own_lushr (pc' := 28) X0 hx (hb hby d5_27) rfl ?_
  refine own_ladd (pc' := 29) X0 hx (hb hby d5_28) rfl ?_
  refine own_ldc2Long (pc' := 32) X0 hx hZ hown (own_w hw 27 rfl) (hb hby d5_29) rfl ?_
  refine own_land (pc' := 33) X0 hx (hb hby d5_32) rfl ?_
  obtain ⟨v3, hv3⟩ : ∃ z : Int64, z = ((v2 + ((v2.toUInt64 >>> ((4 : Int32) &&& 0x3f).toInt64.toUInt64).toInt64)) &&& (1085102592571150095 : Int64)) := ⟨_, rfl⟩
  refine own_lstoreN (pc' := 34) (l' := #[.val (.long v3), .second]) X0 hx (hb hby d5_33) hv3 rfl rfl ?_
  refine own_lloadN (pc' := 35) X0 hx (hb hby d5_34) rfl rfl ?_
  refine own_lloadN (pc' := 36) X0 hx (hb hby d5_35) rfl rfl ?_
  refine own_bipush (pc' := 38) X0 hx (8 : Int32) (hb hby d5_36) rfl rfl ?_
  refine own_lushr (pc' := 39) X0 hx (hb hby d5_38) rfl ?_
  refine own_ladd (pc' := 40) X0 hx (hb hby d5_39) rfl ?_
  obtain ⟨v4, hv4⟩ : ∃ z : Int64, z = (v3 + ((v3.toUInt64 >>> ((8 : Int32) &&& 0x3f).toInt64.toUInt64).toInt64)) := ⟨_, rfl⟩
  refine own_lstoreN (pc' := 41) (l' := #[.val (.long v4), .second]) X0 hx (hb hby d5_40) hv4 rfl rfl ?_
  refine own_lloadN (pc' := 42) X0 hx (hb hby d5_41) rfl rfl ?_
  refine own_lloadN (pc' := 43) X0 hx (hb hby d5_42) rfl rfl ?_
  refine own_bipush (pc' := 45) X0 hx (16 : Int32) (hb hby d5_43) rfl rfl ?_
  refine own_lushr (pc' := 46) X0 hx (hb hby d5_45) rfl ?_
  refine own_ladd (pc' := 47) X0 hx (hb hby d5_46) rfl ?_
  obtain ⟨v5, hv5⟩ : ∃ z : Int64, z = (v4 + ((v4.toUInt64 >>> ((16 : Int32) &&& 0x3f).toInt64.toUInt64).toInt64)) := ⟨_, rfl⟩
  refine own_lstoreN (pc' := 48) (l' := #[.val (.long v5), .second]) X0 hx (hb hby d5_47) hv5 rfl rfl ?_
  refine own_lloadN (pc' := 49) X0 hx (hb hby d5_48) rfl rfl ?_
  refine own_lloadN (pc' := 50) X0 hx (hb hby d5_49) rfl rfl ?_
  refine own_bipush (pc' := 52) X0 hx (32 : Int32) (hb hby d5_50) rfl rfl ?_
  refine own_lushr (pc' := 53) X0 hx (hb hby d5_52) rfl ?_
  refine own_ladd (pc' := 54) X0 hx (hb hby d5_53) rfl ?_
  obtain ⟨v6, hv6⟩ : ∃ z : Int64, z = (v5 + ((v5.toUInt64 >>> ((32 : Int32) &&& 0x3f).toInt64.toUInt64).toInt64)) := ⟨_, rfl⟩
  refine own_lstoreN (pc' := 55) (l' := #[.val (.long v6), .second]) X0 hx (hb hby d5_54) hv6 rfl rfl ?_
  refine own_lloadN (pc' := 56) X0 hx (hb hby d5_55) rfl rfl ?_
  refine own_l2i (pc' := 57) X0 hx (hb hby d5_56) rfl ?_
  refine own_bipush (pc' := 59) X0 hx (127 : Int32) (hb hby d5_57) rfl rfl ?_
  refine own_iand (pc' := 60) X0 hx (hb hby d5_59) rfl ?_
  refine own_retI X0 hx hlk hret (hb hby d5_60) (by decide) (by decide) ?_
  exact ⟨((v6.toInt32) &&& (127 : Int32)), rfl, by subst_vars; rfl, rfl, e0⟩
theorem d6_0 : decode method_2_code 0 = .ok (.lload_n 0, 1) := by decide +kernel
theorem d6_1 : decode method_2_code 1 = .ok (.lstore_n 2, 1) := by decide +kernel
theorem d6_2 : decode method_2_code 2 = .ok (.lload_n 2, 1) := by decide +kernel
theorem d6_3 : decode method_2_code 3 = .ok (.lload_n 2, 1) := by decide +kernel
theorem d6_4 : decode method_2_code 4 = .ok (.iconst 1, 1) := by decide +kernel
theorem d6_5 : decode method_2_code 5 = .ok (.lushr, 1) := by decide +kernel
theorem d6_6 : decode method_2_code 6 = .ok (.ldc2_w 7, 3) := by decide +kernel
theorem d6_9 : decode method_2_code 9 = .ok (.land, 1) := by decide +kernel
theorem d6_10 : decode method_2_code 10 = .ok (.lsub, 1) := by decide +kernel
theorem d6_11 : decode method_2_code 11 = .ok (.lstore_n 2, 1) := by decide +kernel
theorem d6_12 : decode method_2_code 12 = .ok (.lload_n 2, 1) := by decide +kernel
theorem d6_13 : decode method_2_code 13 = .ok (.ldc2_w 9, 3) := by decide +kernel
theorem d6_16 : decode method_2_code 16 = .ok (.land, 1) := by decide +kernel
theorem d6_17 : decode method_2_code 17 = .ok (.lload_n 2, 1) := by decide +kernel
theorem d6_18 : decode method_2_code 18 = .ok (.iconst 2, 1) := by decide +kernel
theorem d6_19 : decode method_2_code 19 = .ok (.lushr, 1) := by decide +kernel
theorem d6_20 : decode method_2_code 20 = .ok (.ldc2_w 9, 3) := by decide +kernel
theorem d6_23 : decode method_2_code 23 = .ok (.land, 1) := by decide +kernel
theorem d6_24 : decode method_2_code 24 = .ok (.ladd, 1) := by decide +kernel
theorem d6_25 : decode method_2_code 25 = .ok (.lstore_n 2, 1) := by decide +kernel
theorem d6_26 : decode method_2_code 26 = .ok (.lload_n 2, 1) := by decide +kernel
theorem d6_27 : decode method_2_code 27 = .ok (.lload_n 2, 1) := by decide +kernel
theorem d6_28 : decode method_2_code 28 = .ok (.iconst 4, 1) := by decide +kernel
theorem d6_29 : decode method_2_code 29 = .ok (.lushr, 1) := by decide +kernel
theorem d6_30 : decode method_2_code 30 = .ok (.ladd, 1) := by decide +kernel
theorem d6_31 : decode method_2_code 31 = .ok (.ldc2_w 11, 3) := by decide +kernel
theorem d6_34 : decode method_2_code 34 = .ok (.land, 1) := by decide +kernel
theorem d6_35 : decode method_2_code 35 = .ok (.lstore_n 2, 1) := by decide +kernel
theorem d6_36 : decode method_2_code 36 = .ok (.lload_n 2, 1) := by decide +kernel
theorem d6_37 : decode method_2_code 37 = .ok (.ldc2_w 13, 3) := by decide +kernel
theorem d6_40 : decode method_2_code 40 = .ok (.lmul, 1) := by decide +kernel
theorem d6_41 : decode method_2_code 41 = .ok (.bipush 56, 2) := by decide +kernel
theorem d6_43 : decode method_2_code 43 = .ok (.lushr, 1) := by decide +kernel
theorem d6_44 : decode method_2_code 44 = .ok (.l2i, 1) := by decide +kernel
theorem d6_45 : decode method_2_code 45 = .ok (.ireturn, 1) := by decide +kernel
theorem pn_6 : plainFor (⟨"com/example/resemblr/resemblr/FingerprintDistancePinLaw", "popcount", "(J)I"⟩ : MethodName) = true := plainFor_of_name (by first | (simp [plainName, overriddenIn]; done) | decide +kernel)
theorem ef_conP (m : MethodId) (c1 : Int64) : entryFrame m #[(.long c1)] 4 = mkF m 0 #[.val (.long c1), .second, .unset, .unset] [] := by first | (simp [entryFrame, mkF, argsToLocals, Value.category]; done) | rfl
set_option maxRecDepth 65536 in
set_option maxHeartbeats 4000000 in
theorem conP (l : Launch) (Z : State) (a0 : Array Value) (hw : ∀ d ∈ tables_1, d.before a0 Z = true) (c1 : Int64) (h0 : Heap) :
    own_Con l Z (⟨"com/example/resemblr/resemblr/FingerprintDistancePinLaw", "popcount", "(J)I"⟩ : MethodName) method_2_code 4 (some .int) ({ frames := 0, cells := 0, slots := 0, locals := 0 } : Room) #[(.long c1)] h0 (fun v h L => ∃ z : Int32, v = some (.int z) ∧ (z = own_law c1) ∧ L = [] ∧ h = h0) := by
  refine own_Con_of pn_6 ?_
  intro p e s m below meth c s₁ X0 hx hby hml hret hlk hnm hown hZ e0
  have hown : s.vm.findClass "com/example/resemblr/resemblr/FingerprintDistancePinLaw" = some m.cls := hown
  have hml : c.maxLocals = 4 := hml
  show own_WP _ _ _ _ _ _ _ (s₁.setTop (entryFrame m #[(.long c1)] 4))
  rw [ef_conP m c1]
  refine own_lloadN (pc' := 1) X0 hx (hb hby d6_0) rfl rfl ?_
  refine own_lstoreN (pc' := 2) (l' := #[.val (.long c1), .second, .val (.long c1), .second]) X0 hx (hb hby d6_1) rfl rfl rfl ?_
  refine own_lloadN (pc' := 3) X0 hx (hb hby d6_2) rfl rfl ?_
  refine own_lloadN (pc' := 4) X0 hx (hb hby d6_3) rfl rfl ?_
  refine own_iconst (pc' := 5) X0 hx (1 : Int32) (hb hby d6_4) rfl rfl ?_
  refine own_lushr (pc' := 6) X0 hx (hb hby d6_5) rfl ?_
  refine own_ldc2Long (pc' := 9) X0 hx hZ hown (own_w hw 32 rfl) (hb hby d6_6) rfl ?_
  refine own_land (pc' := 10) X0 hx (hb hby d6_9) rfl ?_
  refine own_lsub (pc' := 11) X0 hx (hb hby d6_10) rfl ?_
  obtain ⟨v1, hv1⟩ : ∃ z : Int64, z = (c1 - (((c1.toUInt64 >>> ((1 : Int32) &&& 0x3f).toInt64.toUInt64).toInt64) &&& (6148914691236517205 : Int64))) := ⟨_, rfl⟩
  refine own_lstoreN (pc' := 12) (l' := #[.val (.long c1), .second, .val (.long v1), .second]) X0 hx (hb hby d6_11) hv1 rfl rfl ?_
  refine own_lloadN (pc' := 13) X0 hx (hb hby d6_12) rfl rfl ?_
  refine own_ldc2Long (pc' := 16) X0 hx hZ hown (own_w hw 33 rfl) (hb hby d6_13) rfl ?_
  refine own_land (pc' := 17) X0 hx (hb hby d6_16) rfl ?_
  refine own_lloadN (pc' := 18) X0 hx (hb hby d6_17) rfl rfl ?_
  refine own_iconst (pc' := 19) X0 hx (2 : Int32) (hb hby d6_18) rfl rfl ?_
  refine own_lushr (pc' := 20) X0 hx (hb hby d6_19) rfl ?_
  refine own_ldc2Long (pc' := 23) X0 hx hZ hown (own_w hw 33 rfl) (hb hby d6_20) rfl ?_
  refine own_land (pc' := 24) X0 hx (hb hby d6_23) rfl ?_
  refine own_ladd (pc' := 25) X0 hx (hb hby d6_24) rfl ?_
  obtain ⟨v2, hv2⟩ : ∃ z : Int64, z = ((v1 &&& (3689348814741910323 : Int64)) + (((v1.toUInt64 >>> ((2 : Int32) &&& 0x3f).toInt64.toUInt64).toInt64) &&& (3689348814741910323 : Int64))) := ⟨_, rfl⟩
  refine own_lstoreN (pc' := 26) (l' := #[.val (.long c1), .second, .val (.long v2), .second]) X0 hx (hb hby d6_25) hv2 rfl rfl ?_
  refine own_lloadN (pc' := 27) X0 hx (hb hby d6_26) rfl rfl ?_
  refine own_lloadN (pc' := 28) X0 hx (hb hby d6_27) rfl rfl ?_
  refine own_iconst (pc' := 29) X0 hx (4 : Int32) (hb hby d6_28) rfl rfl ?_
  refine own_lushr (pc' := 30) X0 hx (hb hby d6_29) rfl ?_
  refine own_ladd (pc' := 31) X0 hx (hb hby d6_30) rfl ?_
  refine own_ldc2Long (pc' := 34) X0 hx hZ hown (own_w hw 34 rfl) (hb hby d6_31) rfl ?_
  refine own_land (pc' := 35) X0 hx (hb hby d6_34) rfl ?_
  obtain ⟨v3, hv3⟩ : ∃ z : Int64, z = ((v2 + ((v2.toUInt64 >>> ((4 : Int32) &&& 0x3f).toInt64.toUInt64).toInt64)) &&& (1085102592571150095 : Int64)) := ⟨_, rfl⟩
  refine own_lstoreN (pc' := 36) (l' := #[.val (.long c1), .second, .val (.long v3), .second]) X0 hx (hb hby d6_35) hv3 rfl rfl ?_
  refine own_lloadN (pc' := 37) X0 hx (hb hby d6_36) rfl rfl ?_
  refine own_ldc2Long (pc' := 40) X0 hx hZ hown (own_w hw 35 rfl) (hb hby d6_37) rfl ?_
  refine own_lmul (pc' := 41) X0 hx (hb hby d6_40) rfl ?_
  refine own_bipush (pc' := 43) X0 hx (56 : Int32) (hb hby d6_41) rfl rfl ?_
  refine own_lushr (pc' := 44) X0 hx (hb hby d6_43) rfl ?_
  refine own_l2i (pc' := 45) X0 hx (hb hby d6_44) rfl ?_
  refine own_retI X0 hx hlk hret (hb hby d6_45) (by decide) (by decide) ?_
  exact ⟨((((v3 * (72340172838076673 : Int64)).toUInt64 >>> ((56 : Int32) &&& 0x3f).toInt64.toUInt64).toInt64).toInt32), rfl, by subst_vars; rfl, rfl, e0⟩
theorem d4_0 : decode prog_8_method_3_code 0 = .ok (.aload_n 0, 1) := by decide +kernel
theorem d4_1 : decode prog_8_method_3_code 1 = .ok (.getfield 9, 3) := by decide +kernel
theorem d4_4 : decode prog_8_method_3_code 4 = .ok (.aload_n 1, 1) := by decide +kernel
theorem d4_5 : decode prog_8_method_3_code 5 = .ok (.getfield 9, 3) := by decide +kernel
theorem d4_8 : decode prog_8_method_3_code 8 = .ok (.lxor, 1) := by decide +kernel
theorem d4_9 : decode prog_8_method_3_code 9 = .ok (.invokestatic 47, 3) := by decide +kernel
theorem d4_12 : decode prog_8_method_3_code 12 = .ok (.ireturn, 1) := by decide +kernel
theorem pn_4 : plainFor (⟨"com/example/resemblr/resemblr/Fingerprint", "distance", "(Lcom/example/resemblr/resemblr/Fingerprint;)I"⟩ : MethodName) = true := plainFor_of_name (by first | (simp [plainName, overriddenIn]; done) | decide +kernel)
theorem ef_conD (m : MethodId) (a1 : Addr) (a2 : Addr) : entryFrame m #[(.ref a1), (.ref a2)] 2 = mkF m 0 #[.val (.ref a1), .val (.ref a2)] [] := by first | (simp [entryFrame, mkF, argsToLocals, Value.category]; done) | rfl
theorem pd1 : parseMethodDescriptor "(J)I" = some ⟨[.long], some .int⟩ := by decide +kernel
set_option maxRecDepth 65536 in
set_option maxHeartbeats 4000000 in
theorem conD (l : Launch) (Z : State) (a0 : Array Value) (hw : ∀ d ∈ tables_1, d.before a0 Z = true) (a1 : Addr) (a2 : Addr) (h0 : Heap) (x y : Int64) (F1 : Fld Z h0 a1 "com/example/resemblr/resemblr/Fingerprint" "value" "J" (.long x)) (G1 : Fld Z h0 a2 "com/example/resemblr/resemblr/Fingerprint" "value" "J" (.long y)) :
    own_Con l Z (⟨"com/example/resemblr/resemblr/Fingerprint", "distance", "(Lcom/example/resemblr/resemblr/Fingerprint;)I"⟩ : MethodName) prog_8_method_3_code 2 (some .int) ({ frames := 1, cells := 0, slots := 0, locals := 13 } : Room) #[(.ref a1), (.ref a2)] h0 (fun v h L => ∃ z : Int32, v = some (.int z) ∧ (z = own_jdk (x ^^^ y)) ∧ L = [] ∧ h = h0) := by
  refine own_Con_of pn_4 ?_
  intro p e s m below meth c s₁ X0 hx hby hml hret hlk hnm hown hZ e0
  have hown : s.vm.findClass "com/example/resemblr/resemblr/Fingerprint" = some m.cls := hown
  have hml : c.maxLocals = 2 := hml
  show own_WP _ _ _ _ _ _ _ (s₁.setTop (entryFrame m #[(.ref a1), (.ref a2)] 2))
  rw [ef_conD m a1 a2]
  refine own_aloadN (pc' := 1) X0 hx (hb hby d4_0) rfl rfl rfl ?_
  refine own_getF (pc' := 4) X0 hx hZ hown (host := "") (Or.inl (own_w hw 14 rfl)) Via.refl e0 F1 (hb hby d4_1) rfl ?_
  intro T1 X1 e1
  refine own_aloadN (pc' := 5) X1 hx (hb hby d4_4) rfl rfl rfl ?_
  refine own_getF (pc' := 8) X1 hx hZ hown (host := "") (Or.inl (own_w hw 14 rfl)) Via.refl e1 G1 (hb hby d4_5) rfl ?_
  intro T2 X2 e2
  refine own_lxor (pc' := 9) X2 hx (hb hby d4_8) rfl ?_
  refine own_callS (pc' := 12) (W := 0) (y := (⟨"java/lang/Long", "bitCount", "(J)I"⟩ : MethodName)) X2 hx hZ hown (own_w hw 21 rfl) (own_w hw 22 rfl) (own_w hw 23 rfl) (own_w hw 24 rfl) (by decide) (conB l Z a0 hw (x ^^^ y) _ ) e2 pd1 [(.long (x ^^^ y))] [] rfl rfl rfl (Nat.le_of_eq rfl) (by decide) (by decide) (by rw [hml]; rfl) (hb hby d4_9) (by decide) (by decide) rfl ?_
  intro v3 T3 L3 X3 q3
  obtain ⟨r3, rfl, hr3, rfl, e3⟩ := q3
  show own_WP _ _ _ _ _ _ _ (T3.setTop (mkF m 12 #[.val (.ref a1), .val (.ref a2)] [(.int r3)]))
  refine own_retI X3 hx hlk hret (hb hby d4_12) (by decide) (by decide) ?_
  exact ⟨r3, rfl, hr3, rfl, e3⟩
theorem pn_0 : plainFor x = true := plainFor_of_name (by first | (simp [plainName, overriddenIn]; done) | decide +kernel)
theorem ef_con0 (m : MethodId) (p0 : Int64) (p1 : Int64) (p2 : Int32) : entryFrame m #[(.long p0), (.long p1), (.int p2)] 14 = mkF m 0 #[.val (.long p0), .second, .val (.long p1), .second, .val (.int p2), .unset, .unset, .unset, .unset, .unset, .unset, .unset, .unset, .unset] [] := by first | (simp [entryFrame, mkF, argsToLocals, Value.category]; done) | rfl
theorem pd2 : parseMethodDescriptor "(J)V" = some ⟨[.long], none⟩ := by decide +kernel
theorem pd3 : parseMethodDescriptor "(Lcom/example/resemblr/resemblr/Fingerprint;)I" = some ⟨[(.object "com/example/resemblr/resemblr/Fingerprint")], some .int⟩ := by decide +kernel
set_option maxRecDepth 65536 in
set_option maxHeartbeats 4000000 in
theorem con0 (l : Launch) (Z : State) (a0 : Array Value) (hw : ∀ d ∈ tables_1, d.before a0 Z = true) (p0 : Int64) (p1 : Int64) (p2 : Int32) (h0 : Heap) (n0 : Nat) (Z0 : n0 ≤ h0.size) :
    own_Con l Z x code maxLocals ret room_1 #[(.long p0), (.long p1), (.int p2)] h0 (fun v h L => v = some (.int 1) ∧ Fr n0 L) := by
  refine own_Con_of pn_0 ?_
  intro p e s m below meth c s₁ X0 hx hby hml hret hlk hnm hown hZ e0
  have hown : s.vm.findClass "com/example/resemblr/resemblr/FingerprintDistancePinLaw" = some m.cls := hown
  have hml : c.maxLocals = 14 := hml
  have hret : meth.sig.returnType = (some .boolean) := hret
  have N0 := Fr.nil n0
  show own_WP _ _ _ _ _ _ _ (s₁.setTop (entryFrame m #[(.long p0), (.long p1), (.int p2)] 14))
  rw [ef_con0 m p0 p1 p2]
  refine own_iload (pc' := 2) X0 hx (hb hby at_0) rfl rfl ?_
  refine own_iconst (pc' := 3) X0 hx (1 : Int32) (hb hby at_2) rfl rfl ?_
  refine own_iand (pc' := 4) X0 hx (hb hby at_3) rfl ?_
  refine own_if_eq (pt := 11) (pf := 7) X0 hx (hb hby at_4) rfl (by decide) rfl (fun hc4 => ?_) (fun hc4 => ?_)
  · skip
    refine own_iconst (pc' := 12) X0 hx (0 : Int32) (hb hby at_11) rfl rfl ?_
    refine own_istore (pc' := 14) (l' := #[.val (.long p0), .second, .val (.long p1), .second, .val (.int p2), .val (.int (0 : Int32)), .unset, .unset, .unset, .unset, .unset, .unset, .unset, .unset]) X0 hx (hb hby at_12) rfl rfl rfl ?_
    refine own_iload (pc' := 16) X0 hx (hb hby at_14) rfl rfl ?_
    refine own_if_eq (pt := 33) (pf := 19) X0 hx (hb hby at_16) rfl (by decide) rfl (fun hc16 => ?_) (fun hc16 => absurd (by decide) hc16)
    refine own_lloadN (pc' := 34) X0 hx (hb hby at_33) rfl rfl ?_
    refine own_lstore (pc' := 36) (l' := #[.val (.long p0), .second, .val (.long p1), .second, .val (.int p2), .val (.int (0 : Int32)), .val (.long p1), .second, .unset, .unset, .unset, .unset, .unset, .unset]) X0 hx (hb hby at_34) rfl rfl rfl ?_
    refine own_new (pc' := 39) X0 hx hZ hown (own_w hw 0 rfl) (own_w hw 1 rfl) (own_w hw 2 rfl) e0 (hb hby at_36) (by decide) (by decide) rfl ?_
    intro T1 h1 b1 g1 X1 e1 E1 A1 D1
    have g_b1 : n0 ≤ b1 := Nat.le_trans Z0 (Nat.le_of_eq g1.symm)
    have z1 : n0 ≤ h1.size := Nat.le_trans Z0 E1.1
    have F1_value : Fld Z h1 b1 "com/example/resemblr/resemblr/Fingerprint" "value" "J" (.long (0 : Int64)) := D1 (Or.inr (own_w hw 15 rfl)) (ty := .long) (by decide)
    refine own_dup (pc' := 40) X1 hx (hb hby at_39) rfl rfl ?_
    refine own_lloadN (pc' := 41) X1 hx (hb hby at_40) rfl rfl ?_
    refine own_callN (pc' := 44) (W := 1) (y := (⟨"com/example/resemblr/resemblr/Fingerprint", "<init>", "(J)V"⟩ : MethodName)) X1 hx hZ rfl hown (own_w hw 3 rfl) (own_w hw 4 rfl) (own_w hw 2 rfl) (own_w hw 5 rfl) (by decide) (conI l Z a0 hw b1 p0 _ n0 z1 A1 F1_value g_b1) e1 pd2 b1 [(.long p0)] [(.ref b1)] rfl rfl rfl (Nat.le_of_eq rfl) (by decide) (by decide) (by rw [hml]; rfl) (hb hby at_41) (by decide) (by decide) rfl ?_
    intro v2 T2 L2 X2 q2
    obtain ⟨rfl, M2, K2, E2q, F2q⟩ := q2
    obtain ⟨h2, e2⟩ : ∃ z, z = T2.heap := ⟨_, rfl⟩
    rw [← e2] at K2 E2q F2q
    have e2 := e2.symm
    have z2 : n0 ≤ h2.size := Nat.le_trans z1 K2.1
    have N2 := Fr.app N0 M2
    show own_WP _ _ _ _ _ _ _ (T2.setTop (mkF m 44 #[.val (.long p0), .second, .val (.long p1), .second, .val (.int p2), .val (.int (0 : Int32)), .val (.long p1), .second, .unset, .unset, .unset, .unset, .unset, .unset] [(.ref b1)]))
    refine own_astore (pc' := 46) (l' := #[.val (.long p0), .second, .val (.long p1), .second, .val (.int p2), .val (.int (0 : Int32)), .val (.long p1), .second, .val (.ref b1), .unset, .unset, .unset, .unset, .unset]) X2 hx (hb hby at_44) rfl rfl rfl ?_
    refine own_new (pc' := 49) X2 hx hZ hown (own_w hw 0 rfl) (own_w hw 1 rfl) (own_w hw 2 rfl) e2 (hb hby at_46) (by decide) (by decide) rfl ?_
    intro T3 h3 b3 g3 X3 e3 E3 A3 D3
    have ne_b1_b3 : b1 ≠ b3 := Nat.ne_of_lt (Nat.lt_of_lt_of_le E2q.lt (Nat.le_of_eq g3.symm))
    have ne_b3_b1 := ne_b1_b3.symm
    have g_b3 : n0 ≤ b3 := Nat.le_trans z2 (Nat.le_of_eq g3.symm)
    have z3 : n0 ≤ h3.size := Nat.le_trans z2 E3.1
    have F3_value : Fld Z h3 b3 "com/example/resemblr/resemblr/Fingerprint" "value" "J" (.long (0 : Int64)) := D3 (Or.inr (own_w hw 15 rfl)) (ty := .long) (by decide)
    refine own_dup (pc' := 50) X3 hx (hb hby at_49) rfl rfl ?_
    refine own_lload (pc' := 52) X3 hx (hb hby at_50) rfl rfl ?_
    refine own_callN (pc' := 55) (W := 1) (y := (⟨"com/example/resemblr/resemblr/Fingerprint", "<init>", "(J)V"⟩ : MethodName)) X3 hx hZ rfl hown (own_w hw 3 rfl) (own_w hw 4 rfl) (own_w hw 2 rfl) (own_w hw 5 rfl) (by decide) (conI l Z a0 hw b3 p1 _ n0 z3 A3 F3_value g_b3) e3 pd2 b3 [(.long p1)] [(.ref b3)] rfl rfl rfl (Nat.le_of_eq rfl) (by decide) (by decide) (by rw [hml]; rfl) (hb hby at_52) (by decide) (by decide) rfl ?_
    intro v4 T4 L4 X4 q4
    obtain ⟨rfl, M4, K4, E4q, F4q⟩ := q4
    obtain ⟨h4, e4⟩ : ∃ z, z = T4.heap := ⟨_, rfl⟩
    rw [← e4] at K4 E4q F4q
    have e4 := e4.symm
    have z4 : n0 ≤ h4.size := Nat.le_trans z3 K4.1
    have N4 := Fr.app N2 M4
    show own_WP _ _ _ _ _ _ _ (T4.setTop (mkF m 55 #[.val (.long p0), .second, .val (.long p1), .second, .val (.int p2), .val (.int (0 : Int32)), .val (.long p1), .second, .val (.ref b1), .unset, .unset, .unset, .unset, .unset] [(.ref b3)]))
    refine own_astore (pc' := 57) (l' := #[.val (.long p0), .second, .val (.long p1), .second, .val (.int p2), .val (.int (0 : Int32)), .val (.long p1), .second, .val (.ref b1), .val (.ref b3), .unset, .unset, .unset, .unset]) X4 hx (hb hby at_55) rfl rfl rfl ?_
    refine own_aload (pc' := 59) X4 hx (hb hby at_57) rfl rfl rfl ?_
    refine own_aload (pc' := 61) X4 hx (hb hby at_59) rfl rfl rfl ?_
    have f6 := ((F2q.ext E3).keep K4 (ninS ne_b1_b3 nin0))
    have f7 := ((E2q.ext E3).keep K4)
    refine own_callV (pc' := 64) (W := 0) (y := (⟨"com/example/resemblr/resemblr/Fingerprint", "distance", "(Lcom/example/resemblr/resemblr/Fingerprint;)I"⟩ : MethodName)) (z := (⟨"com/example/resemblr/resemblr/Fingerprint", "distance", "(Lcom/example/resemblr/resemblr/Fingerprint;)I"⟩ : MethodName)) X4 hx hZ hown (own_w hw 16 rfl) (own_w hw 17 rfl) (notFace_of_selects (args := #[]) (mvT hZ (own_w hw 19 rfl))) (own_w hw 19 rfl) (own_w hw 18 rfl) (own_w hw 2 rfl) (own_w hw 20 rfl) (by decide) f7 (conD l Z a0 hw b1 b3 _ p0 p1 f6 F4q) e4 pd3 [(.ref b3)] [] rfl rfl rfl (Nat.le_of_eq rfl) (by decide) (by decide) (by rw [hml]; rfl) (hb hby at_61) (by decide) (by decide) rfl ?_
    intro v5 T5 L5 X5 q5
    obtain ⟨r5, rfl, hr5, rfl, e5⟩ := q5
    have N5 := Fr.app N4 (Fr.nil n0)
    show own_WP _ _ _ _ _ _ _ (T5.setTop (mkF m 64 #[.val (.long p0), .second, .val (.long p1), .second, .val (.int p2), .val (.int (0 : Int32)), .val (.long p1), .second, .val (.ref b1), .val (.ref b3), .unset, .unset, .unset, .unset] [(.int r5)]))
    refine own_istore (pc' := 66) (l' := #[.val (.long p0), .second, .val (.long p1), .second, .val (.int p2), .val (.int (0 : Int32)), .val (.long p1), .second, .val (.ref b1), .val (.ref b3), .val (.int r5), .unset, .unset, .unset]) X5 hx (hb hby at_64) rfl rfl rfl ?_
    refine own_aload (pc' := 68) X5 hx (hb hby at_66) rfl rfl rfl ?_
    refine own_aload (pc' := 70) X5 hx (hb hby at_68) rfl rfl rfl ?_
    refine own_callV (pc' := 73) (W := 0) (y := (⟨"com/example/resemblr/resemblr/Fingerprint", "distance", "(Lcom/example/resemblr/resemblr/Fingerprint;)I"⟩ : MethodName)) (z := (⟨"com/example/resemblr/resemblr/Fingerprint", "distance", "(Lcom/example/resemblr/resemblr/Fingerprint;)I"⟩ : MethodName)) X5 hx hZ hown (own_w hw 16 rfl) (own_w hw 17 rfl) (notFace_of_selects (args := #[]) (mvT hZ (own_w hw 19 rfl))) (own_w hw 19 rfl) (own_w hw 18 rfl) (own_w hw 2 rfl) (own_w hw 20 rfl) (by decide) E4q (conD l Z a0 hw b3 b1 _ p1 p0 F4q f6) e5 pd3 [(.ref b1)] [] rfl rfl rfl (Nat.le_of_eq rfl) (by decide) (by decide) (by rw [hml]; rfl) (hb hby at_70) (by decide) (by decide) rfl ?_
    intro v8 T8 L8 X8 q8
    obtain ⟨r8, rfl, hr8, rfl, e8⟩ := q8
    have N8 := Fr.app N5 (Fr.nil n0)
    show own_WP _ _ _ _ _ _ _ (T8.setTop (mkF m 73 #[.val (.long p0), .second, .val (.long p1), .second, .val (.int p2), .val (.int (0 : Int32)), .val (.long p1), .second, .val (.ref b1), .val (.ref b3), .val (.int r5), .unset, .unset, .unset] [(.int r8)]))
    refine own_istore (pc' := 75) (l' := #[.val (.long p0), .second, .val (.long p1), .second, .val (.int p2), .val (.int (0 : Int32)), .val (.long p1), .second, .val (.ref b1), .val (.ref b3), .val (.int r5), .val (.int r8), .unset, .unset]) X8 hx (hb hby at_73) rfl rfl rfl ?_
    refine own_aload (pc' := 77) X8 hx (hb hby at_75) rfl rfl rfl ?_
    refine own_aload (pc' := 79) X8 hx (hb hby at_77) rfl rfl rfl ?_
    refine own_callV (pc' := 82) (W := 0) (y := (⟨"com/example/resemblr/resemblr/Fingerprint", "distance", "(Lcom/example/resemblr/resemblr/Fingerprint;)I"⟩ : MethodName)) (z := (⟨"com/example/resemblr/resemblr/Fingerprint", "distance", "(Lcom/example/resemblr/resemblr/Fingerprint;)I"⟩ : MethodName)) X8 hx hZ hown (own_w hw 16 rfl) (own_w hw 17 rfl) (notFace_of_selects (args := #[]) (mvT hZ (own_w hw 19 rfl))) (own_w hw 19 rfl) (own_w hw 18 rfl) (own_w hw 2 rfl) (own_w hw 20 rfl) (by decide) f7 (conD l Z a0 hw b1 b1 _ p0 p0 f6 f6) e8 pd3 [(.ref b1)] [] rfl rfl rfl (Nat.le_of_eq rfl) (by decide) (by decide) (by rw [hml]; rfl) (hb hby at_79) (by decide) (by decide) rfl ?_
    intro v9 T9 L9 X9 q9
    obtain ⟨r9, rfl, hr9, rfl, e9⟩ := q9
    have N9 := Fr.app N8 (Fr.nil n0)
    show own_WP _ _ _ _ _ _ _ (T9.setTop (mkF m 82 #[.val (.long p0), .second, .val (.long p1), .second, .val (.int p2), .val (.int (0 : Int32)), .val (.long p1), .second, .val (.ref b1), .val (.ref b3), .val (.int r5), .val (.int r8), .unset, .unset] [(.int r9)]))
    refine own_istore (pc' := 84) (l' := #[.val (.long p0), .second, .val (.long p1), .second, .val (.int p2), .val (.int (0 : Int32)), .val (.long p1), .second, .val (.ref b1), .val (.ref b3), .val (.int r5), .val (.int r8), .val (.int r9), .unset]) X9 hx (hb hby at_82) rfl rfl rfl ?_
    refine own_lloadN (pc' := 85) X9 hx (hb hby at_84) rfl rfl ?_
    refine own_lload (pc' := 87) X9 hx (hb hby at_85) rfl rfl ?_
    refine own_lxor (pc' := 88) X9 hx (hb hby at_87) rfl ?_
    refine own_callS (pc' := 91) (W := 0) (y := (⟨"com/example/resemblr/resemblr/FingerprintDistancePinLaw", "popcount", "(J)I"⟩ : MethodName)) X9 hx hZ hown (own_w hw 28 rfl) (own_w hw 29 rfl) (own_w hw 30 rfl) (own_w hw 31 rfl) (by decide) (conP l Z a0 hw (p0 ^^^ p1) _ ) e9 pd1 [(.long (p0 ^^^ p1))] [] rfl rfl rfl (Nat.le_of_eq rfl) (by decide) (by decide) (by rw [hml]; rfl) (hb hby at_88) (by decide) (by decide) rfl ?_
    intro v10 T10 L10 X10 q10
    obtain ⟨r10, rfl, hr10, rfl, e10⟩ := q10
    have N10 := Fr.app N9 (Fr.nil n0)
    show own_WP _ _ _ _ _ _ _ (T10.setTop (mkF m 91 #[.val (.long p0), .second, .val (.long p1), .second, .val (.int p2), .val (.int (0 : Int32)), .val (.long p1), .second, .val (.ref b1), .val (.ref b3), .val (.int r5), .val (.int r8), .val (.int r9), .unset] [(.int r10)]))
    refine own_istore (pc' := 93) (l' := #[.val (.long p0), .second, .val (.long p1), .second, .val (.int p2), .val (.int (0 : Int32)), .val (.long p1), .second, .val (.ref b1), .val (.ref b3), .val (.int r5), .val (.int r8), .val (.int r9), .val (.int r10)]) X10 hx (hb hby at_91) rfl rfl rfl ?_
    refine own_iload (pc' := 95) X10 hx (hb hby at_93) rfl rfl ?_
    refine own_if_eq (pt := 106) (pf := 98) X10 hx (hb hby at_95) rfl (by decide) rfl (fun hc95 => ?_) (fun hc95 => absurd (by decide) hc95)
    refine own_iload (pc' := 108) X10 hx (hb hby at_106) rfl rfl ?_
    refine own_iload (pc' := 110) X10 hx (hb hby at_108) rfl rfl ?_
    refine own_icmp_ne (pt := 141) (pf := 113) X10 hx (hb hby at_110) rfl (by decide) rfl (fun hc110 => absurd (by rw [hr5, hr10]; exact own_same _) hc110) (fun hc110 => ?_)
    refine own_iload (pc' := 115) X10 hx (hb hby at_113) rfl rfl ?_
    refine own_iload (pc' := 117) X10 hx (hb hby at_115) rfl rfl ?_
    refine own_icmp_ne (pt := 141) (pf := 120) X10 hx (hb hby at_117) rfl (by decide) rfl (fun hc117 => absurd (by rw [hr8, hr5, own_comm]) hc117) (fun hc117 => ?_)
    refine own_iload (pc' := 122) X10 hx (hb hby at_120) rfl rfl ?_
    refine own_if_ne (pt := 141) (pf := 125) X10 hx (hb hby at_122) rfl (by decide) rfl (fun hc122 => absurd (by rw [hr9]; exact own_zero _) hc122) (fun hc122 => ?_)
    refine own_iload (pc' := 127) X10 hx (hb hby at_125) rfl rfl ?_
    refine own_if_lt (pt := 141) (pf := 130) X10 hx (hb hby at_127) rfl (by decide) rfl (fun hc127 => absurd hc127 (by rw [hr5]; exact (own_rng _).1)) (fun hc127 => ?_)
    refine own_iload (pc' := 132) X10 hx (hb hby at_130) rfl rfl ?_
    refine own_bipush (pc' := 134) X10 hx (64 : Int32) (hb hby at_132) rfl rfl ?_
    refine own_icmp_gt (pt := 141) (pf := 137) X10 hx (hb hby at_134) rfl (by decide) rfl (fun hc134 => absurd hc134 (by rw [hr5]; exact (own_rng _).2)) (fun hc134 => ?_)
    refine own_iconst (pc' := 138) X10 hx (1 : Int32) (hb hby at_137) rfl rfl ?_
    refine own_goto (pc' := 142) X10 hx (hb hby at_138) (by decide) rfl ?_
    refine own_retN X10 hx hlk (t := .boolean) (by decide) hret (hb hby at_142) (by decide) (by decide) ?_
    exact ⟨rfl, N10⟩
  · skip
    refine own_iconst (pc' := 8) X0 hx (1 : Int32) (hb hby at_7) rfl rfl ?_
    refine own_goto (pc' := 12) X0 hx (hb hby at_8) (by decide) rfl ?_
    refine own_istore (pc' := 14) (l' := #[.val (.long p0), .second, .val (.long p1), .second, .val (.int p2), .val (.int (1 : Int32)), .unset, .unset, .unset, .unset, .unset, .unset, .unset, .unset]) X0 hx (hb hby at_12) rfl rfl rfl ?_
    refine own_iload (pc' := 16) X0 hx (hb hby at_14) rfl rfl ?_
    refine own_if_eq (pt := 33) (pf := 19) X0 hx (hb hby at_16) rfl (by decide) rfl (fun hc16 => absurd hc16 (by decide)) (fun hc16 => ?_)
    refine own_lloadN (pc' := 20) X0 hx (hb hby at_19) rfl rfl ?_
    refine own_lconst1 (pc' := 21) X0 hx (hb hby at_20) rfl ?_
    refine own_iload (pc' := 23) X0 hx (hb hby at_21) rfl rfl ?_
    refine own_iconst (pc' := 24) X0 hx (1 : Int32) (hb hby at_23) rfl rfl ?_
    refine own_iushr (pc' := 25) X0 hx (hb hby at_24) rfl ?_
    refine own_bipush (pc' := 27) X0 hx (63 : Int32) (hb hby at_25) rfl rfl ?_
    refine own_iand (pc' := 28) X0 hx (hb hby at_27) rfl ?_
    refine own_lshl (pc' := 29) X0 hx (hb hby at_28) rfl ?_
    refine own_lxor (pc' := 30) X0 hx (hb hby at_29) rfl ?_
    refine own_goto (pc' := 34) X0 hx (hb hby at_30) (by decide) rfl ?_
    obtain ⟨v11, hv11⟩ : ∃ z : Int64, z = (p0 ^^^ ((1 : Int64) <<< ((((p2.toUInt32 >>> ((1 : Int32) &&& 31).toUInt32).toInt32) &&& (63 : Int32)) &&& 0x3f).toInt64)) := ⟨_, rfl⟩
    refine own_lstore (pc' := 36) (l' := #[.val (.long p0), .second, .val (.long p1), .second, .val (.int p2), .val (.int (1 : Int32)), .val (.long v11), .second, .unset, .unset, .unset, .unset, .unset, .unset]) X0 hx (hb hby at_34) hv11 rfl rfl ?_
    refine own_new (pc' := 39) X0 hx hZ hown (own_w hw 0 rfl) (own_w hw 1 rfl) (own_w hw 2 rfl) e0 (hb hby at_36) (by decide) (by decide) rfl ?_
    intro T12 h12 b12 g12 X12 e12 E12 A12 D12
    have g_b12 : n0 ≤ b12 := Nat.le_trans Z0 (Nat.le_of_eq g12.symm)
    have z12 : n0 ≤ h12.size := Nat.le_trans Z0 E12.1
    have F12_value : Fld Z h12 b12 "com/example/resemblr/resemblr/Fingerprint" "value" "J" (.long (0 : Int64)) := D12 (Or.inr (own_w hw 15 rfl)) (ty := .long) (by decide)
    refine own_dup (pc' := 40) X12 hx (hb hby at_39) rfl rfl ?_
    refine own_lloadN (pc' := 41) X12 hx (hb hby at_40) rfl rfl ?_
    refine own_callN (pc' := 44) (W := 1) (y := (⟨"com/example/resemblr/resemblr/Fingerprint", "<init>", "(J)V"⟩ : MethodName)) X12 hx hZ rfl hown (own_w hw 3 rfl) (own_w hw 4 rfl) (own_w hw 2 rfl) (own_w hw 5 rfl) (by decide) (conI l Z a0 hw b12 p0 _ n0 z12 A12 F12_value g_b12) e12 pd2 b12 [(.long p0)] [(.ref b12)] rfl rfl rfl (Nat.le_of_eq rfl) (by decide) (by decide) (by rw [hml]; rfl) (hb hby at_41) (by decide) (by decide) rfl ?_
    intro v13 T13 L13 X13 q13
    obtain ⟨rfl, M13, K13, E13q, F13q⟩ := q13
    obtain ⟨h13, e13⟩ : ∃ z, z = T13.heap := ⟨_, rfl⟩
    rw [← e13] at K13 E13q F13q
    have e13 := e13.symm
    have z13 : n0 ≤ h13.size := Nat.le_trans z12 K13.1
    have N13 := Fr.app N0 M13
    show own_WP _ _ _ _ _ _ _ (T13.setTop (mkF m 44 #[.val (.long p0), .second, .val (.long p1), .second, .val (.int p2), .val (.int (1 : Int32)), .val (.long v11), .second, .unset, .unset, .unset, .unset, .unset, .unset] [(.ref b12)]))
    refine own_astore (pc' := 46) (l' := #[.val (.long p0), .second, .val (.long p1), .second, .val (.int p2), .val (.int (1 : Int32)), .val (.long v11), .second, .val (.ref b12), .unset, .unset, .unset, .unset, .unset]) X13 hx (hb hby at_44) rfl rfl rfl ?_
    refine own_new (pc' := 49) X13 hx hZ hown (own_w hw 0 rfl) (own_w hw 1 rfl) (own_w hw 2 rfl) e13 (hb hby at_46) (by decide) (by decide) rfl ?_
    intro T14 h14 b14 g14 X14 e14 E14 A14 D14
    have ne_b12_b14 : b12 ≠ b14 := Nat.ne_of_lt (Nat.lt_of_lt_of_le E13q.lt (Nat.le_of_eq g14.symm))
    have ne_b14_b12 := ne_b12_b14.symm
    have g_b14 : n0 ≤ b14 := Nat.le_trans z13 (Nat.le_of_eq g14.symm)
    have z14 : n0 ≤ h14.size := Nat.le_trans z13 E14.1
    have F14_value : Fld Z h14 b14 "com/example/resemblr/resemblr/Fingerprint" "value" "J" (.long (0 : Int64)) := D14 (Or.inr (own_w hw 15 rfl)) (ty := .long) (by decide)
    refine own_dup (pc' := 50) X14 hx (hb hby at_49) rfl rfl ?_
    refine own_lload (pc' := 52) X14 hx (hb hby at_50) rfl rfl ?_
    refine own_callN (pc' := 55) (W := 1) (y := (⟨"com/example/resemblr/resemblr/Fingerprint", "<init>", "(J)V"⟩ : MethodName)) X14 hx hZ rfl hown (own_w hw 3 rfl) (own_w hw 4 rfl) (own_w hw 2 rfl) (own_w hw 5 rfl) (by decide) (conI l Z a0 hw b14 v11 _ n0 z14 A14 F14_value g_b14) e14 pd2 b14 [(.long v11)] [(.ref b14)] rfl rfl rfl (Nat.le_of_eq rfl) (by decide) (by decide) (by rw [hml]; rfl) (hb hby at_52) (by decide) (by decide) rfl ?_
    intro v15 T15 L15 X15 q15
    obtain ⟨rfl, M15, K15, E15q, F15q⟩ := q15
    obtain ⟨h15, e15⟩ : ∃ z, z = T15.heap := ⟨_, rfl⟩
    rw [← e15] at K15 E15q F15q
    have e15 := e15.symm
    have z15 : n0 ≤ h15.size := Nat.le_trans z14 K15.1
    have N15 := Fr.app N13 M15
    show own_WP _ _ _ _ _ _ _ (T15.setTop (mkF m 55 #[.val (.long p0), .second, .val (.long p1), .second, .val (.int p2), .val (.int (1 : Int32)), .val (.long v11), .second, .val (.ref b12), .unset, .unset, .unset, .unset, .unset] [(.ref b14)]))
    refine own_astore (pc' := 57) (l' := #[.val (.long p0), .second, .val (.long p1), .second, .val (.int p2), .val (.int (1 : Int32)), .val (.long v11), .second, .val (.ref b12), .val (.ref b14), .unset, .unset, .unset, .unset]) X15 hx (hb hby at_55) rfl rfl rfl ?_
    refine own_aload (pc' := 59) X15 hx (hb hby at_57) rfl rfl rfl ?_
    refine own_aload (pc' := 61) X15 hx (hb hby at_59) rfl rfl rfl ?_
    have f17 := ((F13q.ext E14).keep K15 (ninS ne_b12_b14 nin0))
    have f18 := ((E13q.ext E14).keep K15)
    refine own_callV (pc' := 64) (W := 0) (y := (⟨"com/example/resemblr/resemblr/Fingerprint", "distance", "(Lcom/example/resemblr/resemblr/Fingerprint;)I"⟩ : MethodName)) (z := (⟨"com/example/resemblr/resemblr/Fingerprint", "distance", "(Lcom/example/resemblr/resemblr/Fingerprint;)I"⟩ : MethodName)) X15 hx hZ hown (own_w hw 16 rfl) (own_w hw 17 rfl) (notFace_of_selects (args := #[]) (mvT hZ (own_w hw 19 rfl))) (own_w hw 19 rfl) (own_w hw 18 rfl) (own_w hw 2 rfl) (own_w hw 20 rfl) (by decide) f18 (conD l Z a0 hw b12 b14 _ p0 v11 f17 F15q) e15 pd3 [(.ref b14)] [] rfl rfl rfl (Nat.le_of_eq rfl) (by decide) (by decide) (by rw [hml]; rfl) (hb hby at_61) (by decide) (by decide) rfl ?_
    intro v16 T16 L16 X16 q16
    obtain ⟨r16, rfl, hr16, rfl, e16⟩ := q16
    have N16 := Fr.app N15 (Fr.nil n0)
    show own_WP _ _ _ _ _ _ _ (T16.setTop (mkF m 64 #[.val (.long p0), .second, .val (.long p1), .second, .val (.int p2), .val (.int (1 : Int32)), .val (.long v11), .second, .val (.ref b12), .val (.ref b14), .unset, .unset, .unset, .unset] [(.int r16)]))
    refine own_istore (pc' := 66) (l' := #[.val (.long p0), .second, .val (.long p1), .second, .val (.int p2), .val (.int (1 : Int32)), .val (.long v11), .second, .val (.ref b12), .val (.ref b14), .val (.int r16), .unset, .unset, .unset]) X16 hx (hb hby at_64) rfl rfl rfl ?_
    refine own_aload (pc' := 68) X16 hx (hb hby at_66) rfl rfl rfl ?_
    refine own_aload (pc' := 70) X16 hx (hb hby at_68) rfl rfl rfl ?_
    refine own_callV (pc' := 73) (W := 0) (y := (⟨"com/example/resemblr/resemblr/Fingerprint", "distance", "(Lcom/example/resemblr/resemblr/Fingerprint;)I"⟩ : MethodName)) (z := (⟨"com/example/resemblr/resemblr/Fingerprint", "distance", "(Lcom/example/resemblr/resemblr/Fingerprint;)I"⟩ : MethodName)) X16 hx hZ hown (own_w hw 16 rfl) (own_w hw 17 rfl) (notFace_of_selects (args := #[]) (mvT hZ (own_w hw 19 rfl))) (own_w hw 19 rfl) (own_w hw 18 rfl) (own_w hw 2 rfl) (own_w hw 20 rfl) (by decide) E15q (conD l Z a0 hw b14 b12 _ v11 p0 F15q f17) e16 pd3 [(.ref b12)] [] rfl rfl rfl (Nat.le_of_eq rfl) (by decide) (by decide) (by rw [hml]; rfl) (hb hby at_70) (by decide) (by decide) rfl ?_
    intro v19 T19 L19 X19 q19
    obtain ⟨r19, rfl, hr19, rfl, e19⟩ := q19
    have N19 := Fr.app N16 (Fr.nil n0)
    show own_WP _ _ _ _ _ _ _ (T19.setTop (mkF m 73 #[.val (.long p0), .second, .val (.long p1), .second, .val (.int p2), .val (.int (1 : Int32)), .val (.long v11), .second, .val (.ref b12), .val (.ref b14), .val (.int r16), .unset, .unset, .unset] [(.int r19)]))
    refine own_istore (pc' := 75) (l' := #[.val (.long p0), .second, .val (.long p1), .second, .val (.int p2), .val (.int (1 : Int32)), .val (.long v11), .second, .val (.ref b12), .val (.ref b14), .val (.int r16), .val (.int r19), .unset, .unset]) X19 hx (hb hby at_73) rfl rfl rfl ?_
    refine own_aload (pc' := 77) X19 hx (hb hby at_75) rfl rfl rfl ?_
    refine own_aload (pc' := 79) X19 hx (hb hby at_77) rfl rfl rfl ?_
    refine own_callV (pc' := 82) (W := 0) (y := (⟨"com/example/resemblr/resemblr/Fingerprint", "distance", "(Lcom/example/resemblr/resemblr/Fingerprint;)I"⟩ : MethodName)) (z := (⟨"com/example/resemblr/resemblr/Fingerprint", "distance", "(Lcom/example/resemblr/resemblr/Fingerprint;)I"⟩ : MethodName)) X19 hx hZ hown (own_w hw 16 rfl) (own_w hw 17 rfl) (notFace_of_selects (args := #[]) (mvT hZ (own_w hw 19 rfl))) (own_w hw 19 rfl) (own_w hw 18 rfl) (own_w hw 2 rfl) (own_w hw 20 rfl) (by decide) f18 (conD l Z a0 hw b12 b12 _ p0 p0 f17 f17) e19 pd3 [(.ref b12)] [] rfl rfl rfl (Nat.le_of_eq rfl) (by decide) (by decide) (by rw [hml]; rfl) (hb hby at_79) (by decide) (by decide) rfl ?_
    intro v20 T20 L20 X20 q20
    obtain ⟨r20, rfl, hr20, rfl, e20⟩ := q20
    have N20 := Fr.app N19 (Fr.nil n0)
    show own_WP _ _ _ _ _ _ _ (T20.setTop (mkF m 82 #[.val (.long p0), .second, .val (.long p1), .second, .val (.int p2), .val (.int (1 : Int32)), .val (.long v11), .second, .val (.ref b12), .val (.ref b14), .val (.int r16), .val (.int r19), .unset, .unset] [(.int r20)]))
    refine own_istore (pc' := 84) (l' := #[.val (.long p0), .second, .val (.long p1), .second, .val (.int p2), .val (.int (1 : Int32)), .val (.long v11), .second, .val (.ref b12), .val (.ref b14), .val (.int r16), .val (.int r19), .val (.int r20), .unset]) X20 hx (hb hby at_82) rfl rfl rfl ?_
    refine own_lloadN (pc' := 85) X20 hx (hb hby at_84) rfl rfl ?_
    refine own_lload (pc' := 87) X20 hx (hb hby at_85) rfl rfl ?_
    refine own_lxor (pc' := 88) X20 hx (hb hby at_87) rfl ?_
    refine own_callS (pc' := 91) (W := 0) (y := (⟨"com/example/resemblr/resemblr/FingerprintDistancePinLaw", "popcount", "(J)I"⟩ : MethodName)) X20 hx hZ hown (own_w hw 28 rfl) (own_w hw 29 rfl) (own_w hw 30 rfl) (own_w hw 31 rfl) (by decide) (conP l Z a0 hw (p0 ^^^ v11) _ ) e20 pd1 [(.long (p0 ^^^ v11))] [] rfl rfl rfl (Nat.le_of_eq rfl) (by decide) (by decide) (by rw [hml]; rfl) (hb hby at_88) (by decide) (by decide) rfl ?_
    intro v21 T21 L21 X21 q21
    obtain ⟨r21, rfl, hr21, rfl, e21⟩ := q21
    have N21 := Fr.app N20 (Fr.nil n0)
    show own_WP _ _ _ _ _ _ _ (T21.setTop (mkF m 91 #[.val (.long p0), .second, .val (.long p1), .second, .val (.int p2), .val (.int (1 : Int32)), .val (.long v11), .second, .val (.ref b12), .val (.ref b14), .val (.int r16), .val (.int r19), .val (.int r20), .unset] [(.int r21)]))
    refine own_istore (pc' := 93) (l' := #[.val (.long p0), .second, .val (.long p1), .second, .val (.int p2), .val (.int (1 : Int32)), .val (.long v11), .second, .val (.ref b12), .val (.ref b14), .val (.int r16), .val (.int r19), .val (.int r20), .val (.int r21)]) X21 hx (hb hby at_91) rfl rfl rfl ?_
    refine own_iload (pc' := 95) X21 hx (hb hby at_93) rfl rfl ?_
    refine own_if_eq (pt := 106) (pf := 98) X21 hx (hb hby at_95) rfl (by decide) rfl (fun hc95 => absurd hc95 (by decide)) (fun hc95 => ?_)
    refine own_iload (pc' := 100) X21 hx (hb hby at_98) rfl rfl ?_
    refine own_iconst (pc' := 101) X21 hx (1 : Int32) (hb hby at_100) rfl rfl ?_
    refine own_icmp_eq (pt := 106) (pf := 104) X21 hx (hb hby at_101) rfl (by decide) rfl (fun hc101 => ?_) (fun hc101 => absurd (by rw [hr21, hv11]; exact own_onebit _ _) hc101)
    refine own_iload (pc' := 108) X21 hx (hb hby at_106) rfl rfl ?_
    refine own_iload (pc' := 110) X21 hx (hb hby at_108) rfl rfl ?_
    refine own_icmp_ne (pt := 141) (pf := 113) X21 hx (hb hby at_110) rfl (by decide) rfl (fun hc110 => absurd (by rw [hr16, hr21]; exact own_same _) hc110) (fun hc110 => ?_)
    refine own_iload (pc' := 115) X21 hx (hb hby at_113) rfl rfl ?_
    refine own_iload (pc' := 117) X21 hx (hb hby at_115) rfl rfl ?_
    refine own_icmp_ne (pt := 141) (pf := 120) X21 hx (hb hby at_117) rfl (by decide) rfl (fun hc117 => absurd (by rw [hr19, hr16, own_comm]) hc117) (fun hc117 => ?_)
    refine own_iload (pc' := 122) X21 hx (hb hby at_120) rfl rfl ?_
    refine own_if_ne (pt := 141) (pf := 125) X21 hx (hb hby at_122) rfl (by decide) rfl (fun hc122 => absurd (by rw [hr20]; exact own_zero _) hc122) (fun hc122 => ?_)
    refine own_iload (pc' := 127) X21 hx (hb hby at_125) rfl rfl ?_
    refine own_if_lt (pt := 141) (pf := 130) X21 hx (hb hby at_127) rfl (by decide) rfl (fun hc127 => absurd hc127 (by rw [hr16]; exact (own_rng _).1)) (fun hc127 => ?_)
    refine own_iload (pc' := 132) X21 hx (hb hby at_130) rfl rfl ?_
    refine own_bipush (pc' := 134) X21 hx (64 : Int32) (hb hby at_132) rfl rfl ?_
    refine own_icmp_gt (pt := 141) (pf := 137) X21 hx (hb hby at_134) rfl (by decide) rfl (fun hc134 => absurd hc134 (by rw [hr16]; exact (own_rng _).2)) (fun hc134 => ?_)
    refine own_iconst (pc' := 138) X21 hx (1 : Int32) (hb hby at_137) rfl rfl ?_
    refine own_goto (pc' := 142) X21 hx (hb hby at_138) (by decide) rfl ?_
    refine own_retN X21 hx hlk (t := .boolean) (by decide) hret (hb hby at_142) (by decide) (by decide) ?_
    exact ⟨rfl, N21⟩
set_option maxRecDepth 65536 in
set_option maxHeartbeats 4000000 in
theorem comes_1 {Post : Tables → Env → Array Value → Jvm.State → Outcome → Jvm.State → Prop} (hpost : ∀ tb e args s v u, (limb_1_1.after args s (.returned v) u = true ∧ limb_1_2.after args s (.returned v) u = true ∧ True) → FrameEnd s (.returned v) u (Jvm.fieldLocs frame_1_writes args s ++ Jvm.arrayLocs frame_1_arrays args s ++ Jvm.staticLocs frame_1_statics s) 16 128 → Post tb e args s (.returned v) u) :
    ArmFor flags0 classFile x code maxLocals ret World_1 tables_1 room_1 Calls_1 rest_1 Pre_1 Post := by
  intro l hfl _ _ p e ha hc hk s m args below hf hA hF happ hP
  obtain ⟨hcalls, hrest, hpre⟩ := hP
  obtain ⟨-, -, -, hnamed, -, -, -, hat⟩ := (Spec.applies_iff hf).mp happ
  obtain ⟨hg, hn⟩ := and_e (Cond.before_iff.mp (show (Jvm.Cond.and given_1 narrow_1).before args s = true from hpre))
  obtain ⟨u1, u2⟩ := and_e hg
  obtain ⟨u3, u4⟩ := and_e u2
  obtain ⟨u5, u6⟩ := and_e u4
  obtain ⟨w0, w1, w2, rfl⟩ : ∃ w0 w1 w2 : Value, args = #[w0, w1, w2] := by
    have hs : args.size = 3 := by simpa [Cond.value, given_1] using u1
    obtain ⟨L⟩ := args
    match L, hs with
    | [w0, w1, w2], _ => exact ⟨w0, w1, w2, rfl⟩
  have hw := fun d (hd : d ∈ tables_1) => atoms_spec (ws := Jvm.Cond.code x code maxLocals ret :: tables_1) hat d (List.mem_cons_of_mem _ hd)
  obtain ⟨i0, ei0⟩ := isL_v u3
  obtain rfl : w0 = (.long i0) := Option.some.inj ei0
  obtain ⟨i1, ei1⟩ := isL_v u5
  obtain rfl : w1 = (.long i1) := Option.some.inj ei1
  obtain ⟨i2, ei2⟩ := is_v u6
  obtain rfl : w2 = (.int i2) := Option.some.inj ei2
  obtain ⟨n, o, h1, h2, h3, _, L, rfl, ⟨rfl, N⟩, hq⟩ := con0 l s _ hw i0 i1 i2 s.heap s.heap.size (Nat.le_refl _)  tables_1 p e ha hc hk s m _ below hf ((Spec.applies_iff_loose hf).mp happ).1 ⟨rfl, State.Warmed39.refl s, rfl⟩ trivial
  refine ⟨n, _, h1, h2, h3, hpost _ _ _ _ _ _ ⟨Cond.after_iff.mpr rfl, Cond.after_iff.mpr (eq_i res_at (Term.int_eval (1)) rfl), trivial⟩ ⟨hq.1, hq.2.1, (hq.2.2.sift fun y hy => Or.inr (N y hy)).mono (by decide) (by decide)⟩⟩
theorem main_1_1 : Claimed_1_1 := comes_1 fun _ _ _ _ _ _ h hF => ⟨h.1, hF⟩
theorem main_1_2 : Claimed_1_2 := comes_1 fun _ _ _ _ _ _ h hF => ⟨h.2.1, hF⟩
end Jvm.Pilot.@@N@@
namespace Jvm.Pilot.@@N@@
open Jvm Jvm.ClassFile Sem Op Lib Jvm.Free Jvm.Stand Jvm.Pilot.@@N@@.Jvm.D
/-! MADE BY PROGRAM (witnessworld.py) out of the Statement's table words and the real class files: 15 classes; the members and pool entries that the words name. The judged class is class 1, her method 2. -/
namespace start1
open Jvm.ClassFile
def u (s : String) : CpInfo := .utf8 (stringToUtf16 s)
/-- a pool by its gaps: so many unusable entries, then the entry; so many at the end -/
def gap : Nat → List CpInfo → List CpInfo
  | 0, r => r
  | n + 1, r => .unusable :: gap n r
def poolList (es : List (Nat × CpInfo)) (last : Nat) : List CpInfo := es.foldr (fun e r => gap e.1 (e.2 :: r)) (gap last [])
def pool (es : List (Nat × CpInfo)) (last : Nat) : Array CpInfo := ⟨poolList es last⟩
def fileOf (pool : Array CpInfo) (this : Nat) (attrs : Array Attribute := #[]) (ms : Array MethodInfo := #[]) (fl : Nat := 33) (sup : Nat := 0) (ifs : Array Nat := #[]) (fds : Array FieldInfo := #[]) : ClassFile where
  minorVersion := 0
  majorVersion := 65
  constantPool := pool
  accessFlags := fl
  thisClass := this
  superClass := sup
  interfaces := ifs
  fields := fds
  methods := ms
  attributes := attrs
def plain (name : String) (sup : Option ClassId) : Class where
  name := name
  kind := .ordinary
  loader := none
  accessFlags := 33
  super := sup
  interfaces := #[]
  cf := none
  fields := #[]
  methods := #[]
  instanceTypes := #[]
  staticTypes := #[]
  resolved := #[]
  callSites := []
  init := .initialized
  statics := none
  mirror := none

def pool0 : Array CpInfo := pool [(5, u "<init>"), (0, u "()V"), (1, .class_ 10), (1, u "java/lang/Object")] 113

def k0c0 : Code := { maxStack := 0, maxLocals := 1, code := object_method_1_code, exceptionTable := #[], attributes := #[] }
def k0m0 : Method := { name := "<init>", desc := "()V", sig := { parameters := [], returnType := none }, accessFlags := 1, code := some k0c0 }
/-- java/lang/Object -/
def k0 : Class := { plain "java/lang/Object" none with
  accessFlags := 33
  interfaces := #[]
  cf := some (fileOf pool0 8 #[] #[{ accessFlags := 1, nameIndex := 5, descriptorIndex := 6, attributes := #[] }] 33 0 #[] #[])
  fields := #[]
  methods := #[k0m0]
  instanceTypes := #[]
  staticTypes := #[]
  resolved := Array.replicate 124 none
  statics := none }

def pool1 : Array CpInfo := pool [(2, .class_ 4), (1, u "java/lang/Object"), (0, u "<init>"), (0, u "()V"), (0, .long 6148914691236517205), (1, .long 3689348814741910323), (1, .long 1085102592571150095), (1, .long 72340172838076673), (1, .class_ 16), (0, u "com/example/resemblr/resemblr/Fingerprint"), (0, .methodref 15 18), (0, .nameAndType 5 19), (0, u "(J)V"), (0, .methodref 15 21), (0, .nameAndType 22 23), (0, u "distance"), (0, u "(Lcom/example/resemblr/resemblr/Fingerprint;)I"), (0, .methodref 25 26), (0, .class_ 27), (0, .nameAndType 28 29), (0, u "com/example/resemblr/resemblr/FingerprintDistancePinLaw"), (0, u "popcount"), (0, u "(J)I"), (2, u "law"), (0, u "(JJI)Z")] 3

def k1m0 : Method := { name := "<init>", desc := "()V", sig := { parameters := [], returnType := none }, accessFlags := 1, code := none }
def k1c1 : Code := { maxStack := 6, maxLocals := 4, code := method_2_code, exceptionTable := #[], attributes := #[] }
def k1m1 : Method := { name := "popcount", desc := "(J)I", sig := { parameters := [.long], returnType := some .int }, accessFlags := 10, code := some k1c1 }
def k1c2 : Code := { maxStack := 6, maxLocals := 14, code := code, exceptionTable := #[], attributes := #[] }
def k1m2 : Method := { name := "law", desc := "(JJI)Z", sig := { parameters := [.long, .long, .int], returnType := some .boolean }, accessFlags := 9, code := some k1c2 }
/-- com/example/resemblr/resemblr/FingerprintDistancePinLaw -/
def k1 : Class := { plain "com/example/resemblr/resemblr/FingerprintDistancePinLaw" (some 0) with
  accessFlags := 49
  interfaces := #[]
  cf := some (fileOf pool1 25 #[] #[{ accessFlags := 1, nameIndex := 5, descriptorIndex := 6, attributes := #[] }, { accessFlags := 10, nameIndex := 28, descriptorIndex := 29, attributes := #[] }, { accessFlags := 9, nameIndex := 32, descriptorIndex := 33, attributes := #[] }] 49 2 #[] #[])
  fields := #[]
  methods := #[k1m0, k1m1, k1m2]
  instanceTypes := #[]
  staticTypes := #[]
  resolved := Array.replicate 37 none
  statics := none }

def pool2 : Array CpInfo := pool [(1, .methodref 2 3), (0, .class_ 4), (0, .nameAndType 5 6), (0, u "java/lang/Object"), (0, u "<init>"), (0, u "()V"), (0, .class_ 8), (0, u "java/lang/Record")] 13

def k2c0 : Code := { maxStack := 1, maxLocals := 1, code := jdk_30_method_1_code, exceptionTable := #[], attributes := #[] }
def k2m0 : Method := { name := "<init>", desc := "()V", sig := { parameters := [], returnType := none }, accessFlags := 4, code := some k2c0 }
/-- java/lang/Record -/
def k2 : Class := { plain "java/lang/Record" (some 0) with
  accessFlags := 1057
  interfaces := #[]
  cf := some (fileOf pool2 7 #[] #[{ accessFlags := 4, nameIndex := 5, descriptorIndex := 6, attributes := #[] }] 1057 2 #[] #[])
  fields := #[]
  methods := #[k2m0]
  instanceTypes := #[]
  staticTypes := #[]
  resolved := Array.replicate 22 none
  statics := none }

def pool3 : Array CpInfo := pool [(1, .class_ 2), (0, u "java/lang/Long"), (0, .methodref 4 5), (0, .class_ 6), (0, .nameAndType 7 8), (0, u "java/lang/Record"), (0, u "<init>"), (0, u "()V"), (0, .fieldref 10 11), (0, .class_ 12), (0, .nameAndType 13 14), (0, u "com/example/resemblr/resemblr/Fingerprint"), (0, u "value"), (0, u "J"), (31, u "(J)V"), (0, .methodref 1 48), (0, .nameAndType 49 50), (0, u "bitCount"), (0, u "(J)I"), (2, u "HEX"), (0, u "Ljava/util/HexFormat;"), (7, u "(Lcom/example/resemblr/resemblr/Fingerprint;)I"), (8, u "BITS"), (0, u "I"), (2, u "HEX_DIGITS"), (7, u "distance")] 32

def k3c0 : Code := { maxStack := 3, maxLocals := 3, code := prog_8_method_1_code, exceptionTable := #[], attributes := #[] }
def k3m0 : Method := { name := "<init>", desc := "(J)V", sig := { parameters := [.long], returnType := none }, accessFlags := 1, code := some k3c0 }
def k3c1 : Code := { maxStack := 4, maxLocals := 2, code := prog_8_method_3_code, exceptionTable := #[], attributes := #[] }
def k3m1 : Method := { name := "distance", desc := "(Lcom/example/resemblr/resemblr/Fingerprint;)I", sig := { parameters := [(.object "com/example/resemblr/resemblr/Fingerprint")], returnType := some .int }, accessFlags := 1, code := some k3c1 }
/-- com/example/resemblr/resemblr/Fingerprint -/
def k3 : Class := { plain "com/example/resemblr/resemblr/Fingerprint" (some 2) with
  accessFlags := 49
  interfaces := #[]
  cf := some (fileOf pool3 10 #[] #[{ accessFlags := 1, nameIndex := 7, descriptorIndex := 46, attributes := #[] }, { accessFlags := 1, nameIndex := 83, descriptorIndex := 62, attributes := #[] }] 49 4 #[] #[{ accessFlags := 18, nameIndex := 13, descriptorIndex := 14, attributes := #[] }, { accessFlags := 25, nameIndex := 71, descriptorIndex := 72, attributes := #[] }, { accessFlags := 26, nameIndex := 75, descriptorIndex := 72, attributes := #[] }, { accessFlags := 26, nameIndex := 53, descriptorIndex := 54, attributes := #[] }])
  fields := #[{ name := "value", type := .long, accessFlags := 18, slot := 0, constantValue := 0 }, { name := "BITS", type := .int, accessFlags := 25, slot := 0, constantValue := 0 }, { name := "HEX_DIGITS", type := .int, accessFlags := 26, slot := 1, constantValue := 0 }, { name := "HEX", type := (.object "java/util/HexFormat"), accessFlags := 26, slot := 2, constantValue := 0 }]
  methods := #[k3m0, k3m1]
  instanceTypes := #[.long]
  staticTypes := #[.int, .int, (.object "java/util/HexFormat")]
  resolved := Array.replicate 116 none
  statics := none }

def pool4 : Array CpInfo := pool [(1, .class_ 2), (0, u "java/io/Serializable"), (0, .class_ 4), (0, u "java/lang/Object")] 2

/-- java/io/Serializable -/
def k4 : Class := { plain "java/io/Serializable" (some 0) with
  accessFlags := 1537
  interfaces := #[]
  cf := some (fileOf pool4 1 #[] #[] 1537 3 #[] #[])
  fields := #[]
  methods := #[]
  instanceTypes := #[]
  staticTypes := #[]
  resolved := Array.replicate 7 none
  statics := none }

def pool5 : Array CpInfo := pool [(2, .class_ 4), (1, u "java/lang/Object"), (0, u "<init>"), (0, u "()V"), (1, .class_ 10), (1, u "java/lang/Number"), (2, .class_ 14), (0, u "java/io/Serializable"), (0, u "serialVersionUID"), (0, u "J")] 20

def k5m0 : Method := { name := "<init>", desc := "()V", sig := { parameters := [], returnType := none }, accessFlags := 1, code := none }
/-- java/lang/Number -/
def k5 : Class := { plain "java/lang/Number" (some 0) with
  accessFlags := 1057
  interfaces := #[4]
  cf := some (fileOf pool5 8 #[] #[{ accessFlags := 1, nameIndex := 5, descriptorIndex := 6, attributes := #[] }] 1057 2 #[13] #[{ accessFlags := 26, nameIndex := 15, descriptorIndex := 16, attributes := #[] }])
  fields := #[{ name := "serialVersionUID", type := .long, accessFlags := 26, slot := 0, constantValue := 0 }]
  methods := #[k5m0]
  instanceTypes := #[]
  staticTypes := #[.long]
  resolved := Array.replicate 37 none
  statics := none }

def pool6 : Array CpInfo := pool [(1, .class_ 2), (0, u "java/lang/Comparable"), (0, .class_ 4), (0, u "java/lang/Object")] 7

/-- java/lang/Comparable -/
def k6 : Class := { plain "java/lang/Comparable" (some 0) with
  accessFlags := 1537
  interfaces := #[]
  cf := some (fileOf pool6 1 #[] #[] 1537 3 #[] #[])
  fields := #[]
  methods := #[]
  instanceTypes := #[]
  staticTypes := #[]
  resolved := Array.replicate 12 none
  statics := none }

def pool7 : Array CpInfo := pool [(1, .class_ 2), (0, u "java/lang/constant/Constable"), (0, .class_ 4), (0, u "java/lang/Object")] 6

/-- java/lang/constant/Constable -/
def k7 : Class := { plain "java/lang/constant/Constable" (some 0) with
  accessFlags := 1537
  interfaces := #[]
  cf := some (fileOf pool7 1 #[] #[] 1537 3 #[] #[])
  fields := #[]
  methods := #[]
  instanceTypes := #[]
  staticTypes := #[]
  resolved := Array.replicate 11 none
  statics := none }

def pool8 : Array CpInfo := pool [(1, .class_ 2), (0, u "java/lang/constant/ConstantDesc"), (0, .class_ 4), (0, u "java/lang/Object")] 32

/-- java/lang/constant/ConstantDesc -/
def k8 : Class := { plain "java/lang/constant/ConstantDesc" (some 0) with
  accessFlags := 1537
  interfaces := #[]
  cf := some (fileOf pool8 1 #[] #[] 1537 3 #[] #[])
  fields := #[]
  methods := #[]
  instanceTypes := #[]
  staticTypes := #[]
  resolved := Array.replicate 37 none
  statics := none }

def pool9 : Array CpInfo := pool [(1, .class_ 2), (0, u "java/lang/Long"), (98, u "(J)I"), (133, .class_ 237), (1, u "java/lang/Long$LongCache"), (33, .class_ 272), (0, u "java/lang/Number"), (2, u "value"), (0, u "J"), (37, .long 6148914691236517205), (1, .long 3689348814741910323), (1, .long 1085102592571150095), (42, u "TYPE"), (0, u "Ljava/lang/Class;"), (0, .class_ 364), (0, u "java/lang/Comparable"), (0, .class_ 366), (0, u "java/lang/constant/Constable"), (0, .class_ 368), (0, u "java/lang/constant/ConstantDesc"), (0, u "MIN_VALUE"), (1, u "MAX_VALUE"), (4, u "SIZE"), (0, u "I"), (1, u "BYTES"), (1, u "serialVersionUID"), (94, u "bitCount")] 47

def k9c0 : Code := { maxStack := 6, maxLocals := 2, code := jdk_35_method_50_code, exceptionTable := #[], attributes := #[] }
def k9m0 : Method := { name := "bitCount", desc := "(J)I", sig := { parameters := [.long], returnType := some .int }, accessFlags := 9, code := some k9c0 }
/-- java/lang/Long -/
def k9 : Class := { plain "java/lang/Long" (some 5) with
  accessFlags := 49
  interfaces := #[6, 7, 8]
  cf := some (fileOf pool9 1 #[.nestMembers #[235]] #[{ accessFlags := 9, nameIndex := 476, descriptorIndex := 101, attributes := #[] }] 49 271 #[363, 365, 367] #[{ accessFlags := 25, nameIndex := 369, descriptorIndex := 276, attributes := #[] }, { accessFlags := 25, nameIndex := 371, descriptorIndex := 276, attributes := #[] }, { accessFlags := 25, nameIndex := 361, descriptorIndex := 362, attributes := #[] }, { accessFlags := 18, nameIndex := 275, descriptorIndex := 276, attributes := #[] }, { accessFlags := 25, nameIndex := 376, descriptorIndex := 377, attributes := #[] }, { accessFlags := 25, nameIndex := 379, descriptorIndex := 377, attributes := #[] }, { accessFlags := 26, nameIndex := 381, descriptorIndex := 276, attributes := #[] }])
  fields := #[{ name := "MIN_VALUE", type := .long, accessFlags := 25, slot := 0, constantValue := 0 }, { name := "MAX_VALUE", type := .long, accessFlags := 25, slot := 1, constantValue := 0 }, { name := "TYPE", type := (.object "java/lang/Class"), accessFlags := 25, slot := 2, constantValue := 0 }, { name := "value", type := .long, accessFlags := 18, slot := 0, constantValue := 0 }, { name := "SIZE", type := .int, accessFlags := 25, slot := 3, constantValue := 0 }, { name := "BYTES", type := .int, accessFlags := 25, slot := 4, constantValue := 0 }, { name := "serialVersionUID", type := .long, accessFlags := 26, slot := 5, constantValue := 0 }]
  methods := #[k9m0]
  instanceTypes := #[.long]
  staticTypes := #[.long, .long, (.object "java/lang/Class"), .int, .int, .long]
  resolved := Array.replicate 524 none
  statics := none }

def pool10 : Array CpInfo := pool [(1, u "java/lang/Cloneable"), (0, .class_ 1), (0, u "java/lang/Object"), (0, .class_ 3)] 3

/-- java/lang/Cloneable -/
def k10 : Class := { plain "java/lang/Cloneable" (some 0) with
  accessFlags := 1537
  interfaces := #[]
  cf := some (fileOf pool10 2 #[] #[] 1537 4 #[] #[])
  fields := #[]
  methods := #[]
  instanceTypes := #[]
  staticTypes := #[]
  resolved := Array.replicate 8 none
  statics := none }

/-- the primitive byte -/
def k11 : Class := { plain "byte" none with kind := .primitive 'B', accessFlags := 0x411 }
/-- [B -/
def k12 : Class := { plain "[B" (some 0) with kind := .array 11 .byte, interfaces := #[10, 4], accessFlags := 1041 }

/-- the primitive int -/
def k13 : Class := { plain "int" none with kind := .primitive 'I', accessFlags := 0x411 }
/-- [I -/
def k14 : Class := { plain "[I" (some 0) with kind := .array 13 .int, interfaces := #[10, 4], accessFlags := 1041 }

def heap : Heap := #[]
def classes : Array Class := #[k0, k1, k2, k3, k4, k5, k6, k7, k8, k9, k10, k11, k12, k13, k14]
def interned : List (Array UInt16 × Addr) := []
def slotsUsed : Nat := 0
def theMethod : MethodId := ⟨1, 2⟩
def args0 : Array Value := #[.long 5, .long 3, .int 1]
def aboutOver (below : List Frame) : State where
  vm := { classes := classes, interned := interned.toArray }
  heap := heap
  slotsUsed := slotsUsed
  threads := #[{ frames := .invoking theMethod args0 :: below }]
def below0 : List Frame := [.native { method := ⟨0, 0⟩, args := #[] }]
def about1 : State := aboutOver below0
def p0 : Program := .bare "" "" ""
def e0 : Env := launch0.env 0 0 0
theorem w_frames : about1.frames = Frame.invoking theMethod args0 :: below0 := rfl
set_option maxRecDepth 65536 in
theorem w_args : argsFit about1.vm theMethod args0 = true := by decide +kernel
set_option maxRecDepth 65536 in
theorem w_heap : heapFits about1 = true := by decide +kernel
set_option maxRecDepth 65536 in
theorem w_runnable : about1.curStatus? = some .runnable := by decide +kernel
set_option maxRecDepth 65536 in
theorem w_alone : about1.alone = true := by decide +kernel
set_option maxRecDepth 65536 in
theorem w_named : about1.methodNamed? x = some theMethod := by decide +kernel
set_option maxRecDepth 65536 in
theorem w_hears : about1.hears theMethod below0 = true := by decide +kernel
set_option maxRecDepth 65536 in
theorem w_ripe : about1.ripe theMethod args0 below0 = true := by decide +kernel
theorem w_running : about1.status = .running := rfl
set_option maxRecDepth 65536 in
theorem w_room : about1.hasRoom e0.platform room_1 = true :=
  launch0.hasRoom_least _ room_1 (by decide +kernel) (by decide +kernel) (by decide +kernel) (by decide +kernel) (by decide +kernel) (by decide +kernel)
theorem allAtoms_all (ts : List Jvm.Cond) (a : Array Jvm.Value) (st : Jvm.State) : (allAtoms ts).before a st = ts.all (fun c => c.before a st) := by
  induction ts with
  | nil => rfl
  | cons c t ih =>
    show (Jvm.Cond.and c (allAtoms t)).before a st = _
    rw [Jvm.Cond.before_and, ih, List.all_cons]
def words1 : List Jvm.Cond := Jvm.Cond.code x code maxLocals ret :: tables_1
/-- a 'code' word, met by the world's own term for the bytes: nothing is compared byte by byte -/
theorem code_word {y : MethodName} {bytes : ByteArray} {mx : Nat} {rt : Option FieldType} {a : Array Value} {s : State} {m : MethodId} {meth : Method} {c : Code} (h1 : s.methodNamed? y = some m) (h2 : s.vm.method? m = some meth) (h3 : meth.code = some c) (h4 : c.code = bytes)
    (h5 : (c.maxLocals == mx && c.exceptionTable.isEmpty && decide (c.maxStack ≤ mostOperands) && decide (meth.sig.returnType = rt) && !meth.locks && decide (parseMethodDescriptor y.desc = some meth.sig)) = true) : (Jvm.Cond.code y bytes mx rt).before a s = true := by
  simp only [Bool.and_eq_true, beq_iff_eq, Bool.not_eq_true', decide_eq_true_eq] at h5
  obtain ⟨⟨⟨⟨⟨g1, g2⟩, g3⟩, g4⟩, g5⟩, g6⟩ := h5
  simp [Cond.before, Cond.holds, Cond.value, h1, h2, h3, h4, g1, g2, g3, g4, g5, g6]
def isCode : Jvm.Cond → Bool
  | .code _ _ _ _ => true
  | _ => false
theorem all_split {L : List Jvm.Cond} {P : Jvm.Cond → Bool} (h1 : L.all (fun c => isCode c || P c) = true) (h2 : ∀ c ∈ L.filter isCode, P c = true) : L.all P = true := by
  refine List.all_eq_true.mpr fun c hc => ?_
  have h := List.all_eq_true.mp h1 c hc
  rcases Bool.eq_false_or_eq_true (isCode c) with hi | hi
  · exact h2 c (List.mem_filter.mpr ⟨hc, hi⟩)
  · simpa [hi] using h
set_option maxRecDepth 65536 in
theorem w_c0 : (Jvm.Cond.code x code maxLocals ret).before args0 about1 = true := code_word (m := ⟨1, 2⟩) (meth := k1m2) (c := k1c2) (by decide +kernel) rfl rfl rfl (by decide +kernel)
set_option maxRecDepth 65536 in
theorem w_c1 : (Jvm.Cond.code ({ cls := "com/example/resemblr/resemblr/Fingerprint", name := "<init>", desc := "(J)V" } : Jvm.MethodName) prog_8_method_1_code (3 : Nat) (Option.none : Option Jvm.ClassFile.FieldType)).before args0 about1 = true := code_word (m := ⟨3, 0⟩) (meth := k3m0) (c := k3c0) (by decide +kernel) rfl rfl rfl (by decide +kernel)
set_option maxRecDepth 65536 in
theorem w_c2 : (Jvm.Cond.code ({ cls := "java/lang/Record", name := "<init>", desc := "()V" } : Jvm.MethodName) jdk_30_method_1_code (1 : Nat) (Option.none : Option Jvm.ClassFile.FieldType)).before args0 about1 = true := code_word (m := ⟨2, 0⟩) (meth := k2m0) (c := k2c0) (by decide +kernel) rfl rfl rfl (by decide +kernel)
set_option maxRecDepth 65536 in
theorem w_c3 : (Jvm.Cond.code ({ cls := "java/lang/Object", name := "<init>", desc := "()V" } : Jvm.MethodName) object_method_1_code (1 : Nat) (Option.none : Option Jvm.ClassFile.FieldType)).before args0 about1 = true := code_word (m := ⟨0, 0⟩) (meth := k0m0) (c := k0c0) (by decide +kernel) rfl rfl rfl (by decide +kernel)
set_option maxRecDepth 65536 in
theorem w_c4 : (Jvm.Cond.code ({ cls := "com/example/resemblr/resemblr/Fingerprint", name := "distance", desc := "(Lcom/example/resemblr/resemblr/Fingerprint;)I" } : Jvm.MethodName) prog_8_method_3_code (2 : Nat) (Option.some Jvm.ClassFile.FieldType.int)).before args0 about1 = true := code_word (m := ⟨3, 1⟩) (meth := k3m1) (c := k3c1) (by decide +kernel) rfl rfl rfl (by decide +kernel)
set_option maxRecDepth 65536 in
theorem w_c5 : (Jvm.Cond.code ({ cls := "java/lang/Long", name := "bitCount", desc := "(J)I" } : Jvm.MethodName) jdk_35_method_50_code (2 : Nat) (Option.some Jvm.ClassFile.FieldType.int)).before args0 about1 = true := code_word (m := ⟨9, 0⟩) (meth := k9m0) (c := k9c0) (by decide +kernel) rfl rfl rfl (by decide +kernel)
set_option maxRecDepth 65536 in
theorem w_c6 : (Jvm.Cond.code ({ cls := "com/example/resemblr/resemblr/FingerprintDistancePinLaw", name := "popcount", desc := "(J)I" } : Jvm.MethodName) method_2_code (4 : Nat) (Option.some Jvm.ClassFile.FieldType.int)).before args0 about1 = true := code_word (m := ⟨1, 1⟩) (meth := k1m1) (c := k1c1) (by decide +kernel) rfl rfl rfl (by decide +kernel)
def codes1 : List Jvm.Cond := [Jvm.Cond.code x code maxLocals ret, Jvm.Cond.code ({ cls := "com/example/resemblr/resemblr/Fingerprint", name := "<init>", desc := "(J)V" } : Jvm.MethodName) prog_8_method_1_code (3 : Nat) (Option.none : Option Jvm.ClassFile.FieldType), Jvm.Cond.code ({ cls := "java/lang/Record", name := "<init>", desc := "()V" } : Jvm.MethodName) jdk_30_method_1_code (1 : Nat) (Option.none : Option Jvm.ClassFile.FieldType), Jvm.Cond.code ({ cls := "java/lang/Object", name := "<init>", desc := "()V" } : Jvm.MethodName) object_method_1_code (1 : Nat) (Option.none : Option Jvm.ClassFile.FieldType), Jvm.Cond.code ({ cls := "com/example/resemblr/resemblr/Fingerprint", name := "distance", desc := "(Lcom/example/resemblr/resemblr/Fingerprint;)I" } : Jvm.MethodName) prog_8_method_3_code (2 : Nat) (Option.some Jvm.ClassFile.FieldType.int), Jvm.Cond.code ({ cls := "java/lang/Long", name := "bitCount", desc := "(J)I" } : Jvm.MethodName) jdk_35_method_50_code (2 : Nat) (Option.some Jvm.ClassFile.FieldType.int), Jvm.Cond.code ({ cls := "com/example/resemblr/resemblr/FingerprintDistancePinLaw", name := "popcount", desc := "(J)I" } : Jvm.MethodName) method_2_code (4 : Nat) (Option.some Jvm.ClassFile.FieldType.int)]
set_option maxRecDepth 65536 in
theorem codes_eq : words1.filter isCode = codes1 := rfl
theorem w_codes : ∀ c ∈ words1.filter isCode, c.before args0 about1 = true := by
  rw [codes_eq]
  intro c hc
  simp only [codes1, List.mem_cons, List.not_mem_nil, or_false] at hc
  rcases hc with rfl | rfl | rfl | rfl | rfl | rfl | rfl
  · exact w_c0
  · exact w_c1
  · exact w_c2
  · exact w_c3
  · exact w_c4
  · exact w_c5
  · exact w_c6
set_option maxRecDepth 65536 in
theorem w_t1 : (words1.take 24).all (fun c => isCode c || c.before args0 about1) = true := by decide +kernel
set_option maxRecDepth 65536 in
theorem w_t2 : (words1.drop 24).all (fun c => isCode c || c.before args0 about1) = true := by decide +kernel
theorem w_tables : (allAtoms (Jvm.Cond.code x code maxLocals ret :: tables_1)).before args0 about1 = true := by
  rw [allAtoms_all]
  show words1.all (fun c => c.before args0 about1) = true
  refine all_split ?_ w_codes
  rw [← List.take_append_drop 24 words1, List.all_append, w_t1, w_t2]
  rfl
set_option maxRecDepth 65536 in
theorem w_case : (Jvm.Cond.and given_1 narrow_1).before args0 about1 = true := by decide +kernel
theorem w_applies : (headSpec (Jvm.Cond.code x code maxLocals ret :: tables_1) room_1).applies x e0.platform about1 = true :=
  (Spec.applies_iff w_frames).mpr ⟨w_running, w_runnable, w_alone, w_named, w_hears, w_ripe, w_room, w_tables⟩
theorem atStart : AtStart classFile x code maxLocals ret World_1 tables_1 room_1 Calls_1 rest_1 Pre_1 launch0 p0 e0 about1 theMethod args0 below0 :=
  ⟨lists_1, trivial, launch0.admits_env _ _ _, launch0.least_env, fairChoices_fair.cas, fairChoices_fair.clock, w_frames, w_args, w_heap, w_applies, trivial, trivial, w_case⟩
end start1
theorem witness_1 : WitnessClaimed_1 := ⟨start1.p0, start1.e0, start1.about1, start1.theMethod, start1.args0, start1.below0, start1.atStart⟩
end Jvm.Pilot.@@N@@
